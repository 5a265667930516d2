import Derived.Test.YthcalnnipjflkaaGreatDoorP09
import Derived.Test.YthcalnnipjflkaaGreatDoorP10
import Derived.OwnWalk
import Derived.Deep.Onto
open Option renaming some -> ae, none -> au
open Array renaming getD_eq_getD_getElem? -> af, getElem?_eq_some_iff -> ah, getElem?_eq_getElem -> ay, replicate -> aA
open Go renaming World -> ag, Value -> ax, wpList_append_grows -> aB, Oper -> aC
open Bool renaming true -> aj, false -> az
set_option linter.all false
set_option maxRecDepth 100000
namespace Go.Proofs.YthcalnnipjflkaaGreatDoor
open Go.RowKit
theorem wG {P:Program}{ops:Array aC}{rest:List aC}{o:aC}{a:Act}{Q:Exit->Act->ag->Prop}(w:ag)(r:o.guard=au)(s x:Operand)(t:TypeId)
  (y:o.op=.call {callee:=.builtin .append,args:=#[s,x],argTypes:=#[t,t]})
  (base:Nat)(e:TypeId)(i:TypeInfo)(z:ax)(size bytes:Nat)(A:P.underlying t=ae (.slice e))(hi:P.info? e=ae i)(F:i.zero=ae z)
  (B:i.size=size)(G:i.bytes=bytes)(H:z.cells.size=size)(I:0<size)
  (v:ax)(n:Nat)(xs:List ax)(hs:a.eval s=v)(J:w.ownsRow base e size v n xs)
  (ad:Addr)(m c:Nat)(f:List ax)(hx:a.eval x=.slice (ae ad) m c)(C:f.length=m*size)(D:∀j u,f[j]?=ae u->w.cell? (ad.add j)=ae u)(E:∀u∈f,u.oneCell'=aj)
  (hm:0<m)(K:n+m<=maxLen)(L:(n+m)*bytes<=140737488355328)(M:base<=w.heap.size)
  (h:∀v' w',w'.ownsRow base e size v' (n+m) (xs++f)->w.grownBy w' v.ownBlock->(∀k,v'.ownBlock=ae k->v.ownBlock=ae k\/w.heap.size<=k)->wpList P ops Q rest (a.put o.dst v') w'):wpList P ops Q (o::rest) a w:=by
 have N:=J;obtain⟨O,hr|⟨g,cap,S,rfl,q,T,U,V,W,X⟩⟩:=J
 ·obtain⟨rfl,rfl⟩:=hr
  have R:xs=[]:=List.length_eq_zero_iff.1 (by simpa using O);subst R;refine aB w r s x t y e i z size bytes A hi F B G H I au 0 0 [] hs (λ_=>⟨rfl,rfl⟩) iH (λb q=>by cases q) ad m c f hx C D E iE K L ?_;intro v' w' l d;exact h v' w' (l.mono M) d (λk p=>.inr (l.lt k p).1)
 ·by_cases hf:n+m<=cap
  ·refine wpList_append_fits w r s x t y base e i size A hi B g n cap xs hs N ad m c f hx C D E hf ?_
   intro w' l d;exact h _ w' l d (λk p=>.inl p)
  ·refine aB w r s x t y e i z size bytes A hi F B G H I (ae ⟨g,0,au⟩) n cap xs hs (λh=>by cases h) O (λb q=>by cases q;exact N.cells rfl) ad m c f hx C D E iE K L ?_
   intro v' w' l d;refine h v' w' (l.mono M) ⟨d.os,d.tape,d.output,d.size,λk p _=>d.block k p iH⟩ (λk p=>.inr (l.lt k p).1)
end Go.Proofs.YthcalnnipjflkaaGreatDoor
namespace Go.Proofs.YthcalnnipjflkaaGreatDoor
open Go.RowKit
open Go.Lib hiding intOf
def yS (N:List Nd):Prop:=∀n∈N,(Lit.int .i64 n.kind).wf=aj/\n.text.size<=maxLen
structure TW (w:ag)(bx:Array ax)(wr:ag):Prop where
 below:Below w.heap.size w wr
 box:wr.heap[w.heap.size]?=ae (.cells bx 117)
theorem TW.alloc {w:ag}{a:Array ax}{wr:ag}(h:TW w a wr)(o:Obj):TW w a (wr.alloc o):=
 ⟨h.below.alloc h.below.size o,by rw[Lib.alloc_old _ _ _ (ah.1 h.box).1];exact h.box⟩
theorem TW.grown {w:ag}{a:Array ax}{wr w':ag}{row:Option Nat}(h:TW w a wr)(b:wr.grownBy w' row)(hr:∀k,row=ae k->w.heap.size<k):TW w a w':=
 ⟨h.below.grown b h.below.size (λk c=>Nat.le_of_lt (hr k c)),by rw[b.block _ (ah.1 h.box).1 (by intro e;exact absurd (hr _ e.symm) (Nat.lt_irrefl _))];exact h.box⟩
theorem TW.drew {w:ag}{a:Array ax}{wr:ag}(h:TW w a wr):TW w a wr.drew:=⟨h.below.drew,h.box⟩
theorem JL (w:ag):(zeroValue 36).run Tryz.prog w=.ok (.slice au 0 0) w:=rfl
def kH (a:Act)(b c d e f g h i j:ax):Act:=
 ((((((((a.put (ae 5) b).put (ae 6) c).put (ae 7) d).put (ae 17) e).put (ae 18) f).put (ae 19) g).put (ae 20) h).put (ae 21) i).put (ae 22) j
def zX (ops:Array aC)(L:Array Bool):Prop:=∀(j:Nat) (o:aC),ops[j]?=ae o->L.getD j az=aj->∀e∈o.after,Region.binds .any e=aj->L.getD e.on az=aj
theorem zX.set {ops:Array aC}{L:Array Bool}(h:zX ops L){i:Nat}{o:aC}(f:ops[i]?=ae o)(g:∀e∈o.after,Region.binds .any e=aj->L.getD e.on az=aj):zX ops (L.setIfInBounds i aj):=by
 have hm:∀k,L.getD k az=aj->(L.setIfInBounds i aj).getD k az=aj:=λk l=>by rw[iT];split<;>simp[l]
 intro j oj a b e he c;refine hm _ ?_;by_cases d:i=j
 ·subst d
  rw[f]at a;obtain rfl:=Option.some.inj a;exact g e he c
 ·rw[iT,gZ d]at b
  exact h j oj a b e he c
theorem Vg {P:Program}{ops:Array aC}{Q:Exit->Act->ag->Prop}{id:Nat}{a:Act}{w:ag}(n:Nat)(hm:P.follows .mixedOrders=aj)(T:uj ops=aj)(J:ops.size=12)(ha:kH a undef undef undef undef undef undef undef undef undef=a)
  (U:∀(i:Nat) (o:aC) (L:Array Bool) (_:zX ops L) (c d f k l m p q r:ax) (w':ag) (K:Act->ag->Prop),ops[i]?=ae o->L.getD i az=az->(∀e∈o.after,Region.binds .any e=aj->L.getD e.on az=aj)->R3 w n L c d f k l m p q r w'->
   (∀y z A B C D E F G H,R3 w n (L.setIfInBounds i aj) y z A B C D E F G H->K (kH a y z A B C D E F G) H)->wpOp P ops Q i K (kH a c d f k l m p q r) w')
  (V:∀(b1 b3 b s t u:Nat) (w':ag),Below w.heap.size w w'->w.heap.size<=b1->w.heap.size<=b3->w.heap.size<=b->w.heap.size<=s->w.heap.size<=t->w.heap.size<=u->b1≠b3->b1≠b->b3≠b->s≠t->s≠u->t≠u->
   w'.heap[b1]?=ae (.cells (aA n (.int .i64 0)) 3)->w'.heap[b3]?=ae (.cells (aA n (.int .i64 0)) 3)->w'.heap[b]?=ae (.cells (aA n (.int .i64 0)) 3)->
   w'.heap[s]?=ae (.cells #[.slice (ae ⟨b1,0,au⟩) n n] 36)->w'.heap[t]?=ae (.cells #[.slice (ae ⟨b3,0,au⟩) n n] 36)->w'.heap[u]?=ae (.cells #[.slice (ae ⟨b,0,au⟩) n n] 36)->
   Q .normal (kH a (.pointer (ae ⟨s,0,au⟩)) (.pointer (ae ⟨t,0,au⟩)) (.pointer (ae ⟨u,0,au⟩)) (.int .i64 n) (.slice (ae ⟨b1,0,au⟩) n n) (.int .i64 n) (.slice (ae ⟨b3,0,au⟩) n n) (.int .i64 n) (.slice (ae ⟨b,0,au⟩) n n)) w'):
  (Code.region id ops aj).wp P Q a w:=by
 refine PR hm (λL a' w'=>zX ops L/\∃c d f k l m p q r,a'=kH a c d f k l m p q r/\R3 w n L c d f k l m p q r w') T ?_ ?_ ?_
 ·refine⟨λj o x W=>absurd W (by rw[af,Array.getElem?_replicate];split<;>simp),_,_,_,_,_,_,_,_,_,ha.symm,?_⟩
  rw[J];constructor
  case below=>exact(Below.refl _ w).drew
  case size=>rfl
  all_goals(intro h;exact absurd h iG)
 ·rintro i o L a' w' K x hs v M ⟨N,c,d,f,k,l,m,p,q,r,rfl,hR⟩ hK
  refine U i o L N _ _ _ _ _ _ _ _ _ w' K x ?_ M hR (λy z A B C D E F G H h=>hK _ _ ⟨N.set x M,_,_,_,_,_,_,_,_,_,rfl,h⟩);have I:i<L.size:=by rw[hs];exact(ah.1 x).1
  rw[af,ay I]at v⊢;exact v
 ·rintro L a' w' X ⟨-,c,d,f,k,l,m,p,q,r,rfl,hR⟩
  have hs:=hR.size
  have g:∀i,i<12->L.getD i az=aj:=λi hi=>by have v:=X i (by rw[J];exact hi);have I:i<L.size:=(by rw[hs];exact hi);rw[af,ay I]at v⊢;exact v
  obtain rfl:=hR.m0 (g 0 iE);obtain rfl:=hR.m2 (g 2 iE);obtain rfl:=hR.m4 (g 4 iE);have Y:=hR.d13 (g 1 iE) (g 3 iE);have Z:=hR.d15 (g 1 iE) (g 5 iE);have aa:=hR.d35 (g 3 iE) (g 5 iE);have ab:=hR.d67 (g 6 iE) (g 7 iE);have ac:=hR.d68 (g 6 iE) (g 8 iE);have ad:=hR.d78 (g 7 iE) (g 8 iE);have O:=hR.v6 (g 6 iE);have R:=hR.v7 (g 7 iE);have S:=hR.v8 (g 8 iE);rw[g 9 iE]at O;rw[g 10 iE]at R;rw[g 11 iE]at S;obtain⟨b1,rfl,v,e1⟩:=hR.r1 (g 1 iE);obtain⟨b3,rfl,ai,e3⟩:=hR.r3 (g 3 iE);obtain⟨b,rfl,ak,e5⟩:=hR.r5 (g 5 iE);obtain⟨s,rfl,al,e6⟩:=O;obtain⟨t,rfl,am,e7⟩:=R;obtain⟨u,rfl,an,e8⟩:=S;exact V b1 b3 b s t u w' hR.below v ai ak al am an (λe=>Y (by rw[e])) (λe=>Z (by rw[e])) (λe=>aa (by rw[e])) (λe=>ab (by rw[e])) (λe=>ac (by rw[e])) (λe=>ad (by rw[e])) e1 e3 e5 e6 e7 e8
