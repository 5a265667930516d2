import Derived.Test.YthcalnnipjflkaaGreatDoorP11
import Derived.ChangeAlike
import Derived.BigRegion
open Option renaming some -> ae, none -> az
open Go renaming Value -> af, World -> ag, Oper -> aB, TypeId -> aC, run_underlying -> aH, wpList_plain -> aI, Program -> aJ
open Array renaming getD_eq_getD_getElem? -> ah, getElem?_eq_some_iff -> aj, getElem?_eq_getElem -> ay, replicate -> aA
open Bool renaming true -> au, false -> ax
set_option linter.all false
set_option maxRecDepth 100000
namespace Go.Proofs.YthcalnnipjflkaaGreatDoor
open Go.RowKit
open Go.MapKept (Stamped)
open Go.ChangeMaps (setBlock heap_setBlock_same heap_setBlock_other)
open Go.WideMaps (KeyLaw)
section
variable {P:aJ} {k e t:aC} {w:ag} {b:Nat} {A:List (af×af)}
theorem MapAt.VK (h:MapAt w P k b A)(K:KeyLaw P k)(g:P.underlying t=ae (.map k e)){key:af}{kl:Lit}(d:keyOf P k key=ae kl){i:Nat}{p:af×af}(hi:A[i]?=ae p)(hp:p.1 =key)(l:∀j q,A[j]?=ae q->q.1 =key->j=i):
  (Instr.lookup t (.map (ae b)) key ax).run P w=.ok p.2 w:=by
 obtain⟨es,s,m,hs,rfl,n⟩:=h;rcases K.find w d es.toList n with⟨_,c⟩|⟨j,a,o,c,r⟩
 ·exfalso
  obtain⟨a,he,rfl⟩:=List.mem_map.1 (List.mem_of_getElem? hi);exact c a he hp
 ·have f:(es.toList.map λe=>(e.key,e.val))[j]?=ae (a.key,a.val):=by rw[List.getElem?_map,c];rfl
  obtain rfl:=l j _ f r;rw[f]at hi;obtain rfl:=Option.some.inj hi;simp[Instr.lookup,aH g,MapKept.run_getObj_map m,K.check w _ d,o,Result.andThen]
theorem MapAt.VL (h:MapAt w P k b A)(K:KeyLaw P k)(r:P.underlying t=ae (.map k e)){key:af}{kl:Lit}(f:keyOf P k key=ae kl){i:Nat}{p:af×af}(hi:A[i]?=ae p)(hp:p.1 =key)(s:∀j q,A[j]?=ae q->q.1 =key->j=i):
  ∃(st:Nat) (w':ag),(Instr.mapEntry t (.map (ae b)) key).run P w=.ok (.tuple #[p.2,goInt st]) w'/\qP w' P k b A i st/\w.grownBy w' (ae b)/\w'.heap.size=w.heap.size:=by
 obtain⟨es,l,d,hs,rfl,m⟩:=h;rcases K.find w f es.toList m with⟨_,c⟩|⟨j,a,u,c,g⟩
 ·exfalso
  obtain⟨a,he,rfl⟩:=List.mem_map.1 (List.mem_of_getElem? hi);exact c a he hp
 ·have n:(es.toList.map λe=>(e.key,e.val))[j]?=ae (a.key,a.val):=by rw[List.getElem?_map,c];rfl
  obtain rfl:=s j _ n g;rw[n]at hi;obtain rfl:=Option.some.inj hi;have o:es[j]?=ae a:=by rw[<-Array.getElem?_toList];exact c
  have v:es.modify j (λe=>{e with key:=key})=es:=by
   apply Array.ext_getElem?;intro i;rw[Array.getElem?_modify];split
   ·rename_i x;subst x;rw[o,<-g];rfl
   ·rfl
  refine⟨a.born,setBlock w b (.map (es.modify j λe=>{e with key:=key}) l),?_,?_,EU d _,by simp[setBlock]⟩
  ·have y:=K.stays w f
   simp[Instr.mapEntry,aH r,MapKept.run_getObj_map d,K.check w ax f,u,o,g,y,MapKept.run_setObj_map _ d,Result.andThen,setBlock]
  ·rw[v]
   exact⟨es,l,heap_setBlock_same d _,hs,rfl,m,a,c,rfl⟩
end
variable {P:aJ} {ops:Array aB} {rest:List aB} {o:aB} {a:Act} {Q:Exit->Act->ag->Prop}
theorem VM (w:ag)(d:o.guard=az)(m x:Operand)(t:aC)(f:o.op=Op.lookup t m x ax)(k e:aC)(K:KeyLaw P k)(g:P.underlying t=ae (.map k e))
  (b:Nat)(A:List (af×af))(hm:a.eval m=.map (ae b))(h:MapAt w P k b A)(key:af)(hx:a.eval x=key)(c:∃kl,keyOf P k key=ae kl)(i:Nat)(v:af)(hi:A[i]?=ae (key,v))(l:∀j q,A[j]?=ae q->q.1 =key->j=i)
  (hK:wpList P ops Q rest (a.put o.dst v) w):wpList P ops Q (o::rest) a w:=by
 refine aI d λK' hK'=>?_
 obtain⟨kl,c⟩:=c;have n:=h.VK (t:=t) (e:=e) K g c hi rfl l;unfold Oper.wp;simp[execOp,f,hm,hx,n,Result.andThen];exact hK' _ _ hK
theorem VN (w:ag)(d:o.guard=az)(m x:Operand)(t:aC)(f:o.op=Op.mapEntry t m x)(k e:aC)(K:KeyLaw P k)(g:P.underlying t=ae (.map k e))
  (b:Nat)(A:List (af×af))(hm:a.eval m=.map (ae b))(h:MapAt w P k b A)(key:af)(hx:a.eval x=key)(c:∃kl,keyOf P k key=ae kl)(i:Nat)(v:af)(hi:A[i]?=ae (key,v))(l:∀j q,A[j]?=ae q->q.1 =key->j=i)
  (hK:∀(st:Nat) (w':ag),qP w' P k b A i st->w.grownBy w' (ae b)->w'.heap.size=w.heap.size->wpList P ops Q rest (a.put o.dst (.tuple #[v,goInt st])) w'):wpList P ops Q (o::rest) a w:=by
 refine aI d λK' hK'=>?_
 obtain⟨kl,c⟩:=c;obtain⟨st,w',n,p,r,s⟩:=h.VL (t:=t) (e:=e) K g c hi rfl l;unfold Oper.wp;simp[execOp,f,hm,hx,n,Result.andThen];exact hK' _ _ (hK st w' p r s)
end Go.Proofs.YthcalnnipjflkaaGreatDoor
namespace Go.Proofs.YthcalnnipjflkaaGreatDoor
open Go.RowKit
open Go.Lib hiding intOf
def yS (N:List Nd):Prop:=∀n∈N,(Lit.int .i64 n.kind).wf=au/\n.text.size<=maxLen
structure TW (w:ag)(bx:Array af)(wr:ag):Prop where
 below:Below w.heap.size w wr
 box:wr.heap[w.heap.size]?=ae (.cells bx 117)
theorem TW.alloc {w:ag}{a:Array af}{wr:ag}(h:TW w a wr)(o:Obj):TW w a (wr.alloc o):=
 ⟨h.below.alloc h.below.size o,by rw[Lib.alloc_old _ _ _ (aj.1 h.box).1];exact h.box⟩
theorem TW.grown {w:ag}{a:Array af}{wr w':ag}{row:Option Nat}(h:TW w a wr)(b:wr.grownBy w' row)(hr:∀k,row=ae k->w.heap.size<k):TW w a w':=
 ⟨h.below.grown b h.below.size (λk c=>Nat.le_of_lt (hr k c)),by rw[b.block _ (aj.1 h.box).1 (by intro e;exact absurd (hr _ e.symm) (Nat.lt_irrefl _))];exact h.box⟩
theorem TW.drew {w:ag}{a:Array af}{wr:ag}(h:TW w a wr):TW w a wr.drew:=⟨h.below.drew,h.box⟩
theorem JL (w:ag):(zeroValue 36).run Tryz.prog w=.ok (.slice az 0 0) w:=rfl
def kH (a:Act)(b c d e f g h i j:af):Act:=
 ((((((((a.put (ae 5) b).put (ae 6) c).put (ae 7) d).put (ae 17) e).put (ae 18) f).put (ae 19) g).put (ae 20) h).put (ae 21) i).put (ae 22) j
def zX (ops:Array aB)(L:Array Bool):Prop:=∀(j:Nat) (o:aB),ops[j]?=ae o->L.getD j ax=au->∀e∈o.after,Region.binds .any e=au->L.getD e.on ax=au
theorem zX.set {ops:Array aB}{L:Array Bool}(h:zX ops L){i:Nat}{o:aB}(f:ops[i]?=ae o)(g:∀e∈o.after,Region.binds .any e=au->L.getD e.on ax=au):zX ops (L.setIfInBounds i au):=by
 have hm:∀k,L.getD k ax=au->(L.setIfInBounds i au).getD k ax=au:=λk l=>by rw[iT];split<;>simp[l]
 intro j oj a b e he c;refine hm _ ?_;by_cases d:i=j
 ·subst d
  rw[f]at a;obtain rfl:=Option.some.inj a;exact g e he c
 ·rw[iT,gZ d]at b
  exact h j oj a b e he c
theorem Vg {P:aJ}{ops:Array aB}{Q:Exit->Act->ag->Prop}{id:Nat}{a:Act}{w:ag}(n:Nat)(hm:P.follows .mixedOrders=au)(T:uj ops=au)(J:ops.size=12)(ha:kH a undef undef undef undef undef undef undef undef undef=a)
  (U:∀(i:Nat) (o:aB) (L:Array Bool) (_:zX ops L) (c d f k l m p q r:af) (w':ag) (K:Act->ag->Prop),ops[i]?=ae o->L.getD i ax=ax->(∀e∈o.after,Region.binds .any e=au->L.getD e.on ax=au)->R3 w n L c d f k l m p q r w'->
   (∀y z A B C D E F G H,R3 w n (L.setIfInBounds i au) y z A B C D E F G H->K (kH a y z A B C D E F G) H)->wpOp P ops Q i K (kH a c d f k l m p q r) w')
  (V:∀(b1 b3 b s t u:Nat) (w':ag),Below w.heap.size w w'->w.heap.size<=b1->w.heap.size<=b3->w.heap.size<=b->w.heap.size<=s->w.heap.size<=t->w.heap.size<=u->b1≠b3->b1≠b->b3≠b->s≠t->s≠u->t≠u->
   w'.heap[b1]?=ae (.cells (aA n (.int .i64 0)) 3)->w'.heap[b3]?=ae (.cells (aA n (.int .i64 0)) 3)->w'.heap[b]?=ae (.cells (aA n (.int .i64 0)) 3)->
   w'.heap[s]?=ae (.cells #[.slice (ae ⟨b1,0,az⟩) n n] 36)->w'.heap[t]?=ae (.cells #[.slice (ae ⟨b3,0,az⟩) n n] 36)->w'.heap[u]?=ae (.cells #[.slice (ae ⟨b,0,az⟩) n n] 36)->
   Q .normal (kH a (.pointer (ae ⟨s,0,az⟩)) (.pointer (ae ⟨t,0,az⟩)) (.pointer (ae ⟨u,0,az⟩)) (.int .i64 n) (.slice (ae ⟨b1,0,az⟩) n n) (.int .i64 n) (.slice (ae ⟨b3,0,az⟩) n n) (.int .i64 n) (.slice (ae ⟨b,0,az⟩) n n)) w'):
  (Code.region id ops au).wp P Q a w:=by
 refine PR hm (λL a' w'=>zX ops L/\∃c d f k l m p q r,a'=kH a c d f k l m p q r/\R3 w n L c d f k l m p q r w') T ?_ ?_ ?_
 ·refine⟨λj o x W=>absurd W (by rw[ah,Array.getElem?_replicate];split<;>simp),_,_,_,_,_,_,_,_,_,ha.symm,?_⟩
  rw[J];constructor
  case below=>exact(Below.refl _ w).drew
  case size=>rfl
  all_goals(intro h;exact absurd h iG)
 ·rintro i o L a' w' K x hs v M ⟨N,c,d,f,k,l,m,p,q,r,rfl,hR⟩ hK
  refine U i o L N _ _ _ _ _ _ _ _ _ w' K x ?_ M hR (λy z A B C D E F G H h=>hK _ _ ⟨N.set x M,_,_,_,_,_,_,_,_,_,rfl,h⟩);have I:i<L.size:=by rw[hs];exact(aj.1 x).1
  rw[ah,ay I]at v⊢;exact v
 ·rintro L a' w' X ⟨-,c,d,f,k,l,m,p,q,r,rfl,hR⟩
  have hs:=hR.size
  have g:∀i,i<12->L.getD i ax=au:=λi hi=>by have v:=X i (by rw[J];exact hi);have I:i<L.size:=(by rw[hs];exact hi);rw[ah,ay I]at v⊢;exact v
  obtain rfl:=hR.m0 (g 0 iE);obtain rfl:=hR.m2 (g 2 iE);obtain rfl:=hR.m4 (g 4 iE);have Y:=hR.d13 (g 1 iE) (g 3 iE);have Z:=hR.d15 (g 1 iE) (g 5 iE);have aa:=hR.d35 (g 3 iE) (g 5 iE);have ab:=hR.d67 (g 6 iE) (g 7 iE);have ac:=hR.d68 (g 6 iE) (g 8 iE);have ad:=hR.d78 (g 7 iE) (g 8 iE);have O:=hR.v6 (g 6 iE);have R:=hR.v7 (g 7 iE);have S:=hR.v8 (g 8 iE);rw[g 9 iE]at O;rw[g 10 iE]at R;rw[g 11 iE]at S;obtain⟨b1,rfl,v,e1⟩:=hR.r1 (g 1 iE);obtain⟨b3,rfl,ai,e3⟩:=hR.r3 (g 3 iE);obtain⟨b,rfl,ak,e5⟩:=hR.r5 (g 5 iE);obtain⟨s,rfl,al,e6⟩:=O;obtain⟨t,rfl,am,e7⟩:=R;obtain⟨u,rfl,an,e8⟩:=S;exact V b1 b3 b s t u w' hR.below v ai ak al am an (λe=>Y (by rw[e])) (λe=>Z (by rw[e])) (λe=>aa (by rw[e])) (λe=>ab (by rw[e])) (λe=>ac (by rw[e])) (λe=>ad (by rw[e])) e1 e3 e5 e6 e7 e8
end Go.Proofs.YthcalnnipjflkaaGreatDoor
