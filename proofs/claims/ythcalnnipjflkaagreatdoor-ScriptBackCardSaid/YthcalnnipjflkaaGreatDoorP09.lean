import Derived.Test.YthcalnnipjflkaaGreatDoorP08
import Derived.WideKeyEntry
import Derived.Maps.Keyed
import Derived.DeepKeys5
import Derived.ArgAppend
open Option renaming some -> ae
open Go renaming Value -> af, World -> aj, TypeId -> au, wpList_plain -> ay, run_underlying -> az, Program -> aC, Operand -> aK, Oper -> aP
open List renaming mem_of_getElem? -> ag, mem_map -> aI, getElem?_map -> aN
open Go.MapKept renaming run_getObj_map -> ah, run_setObj_map -> ax
open Go.Instr renaming mapEntry -> aA, lookup -> aH, entryStore -> aO
open Array renaming getElem?_eq_some_iff -> aB, toList_modify -> aJ
set_option linter.all false
namespace Go.Proofs.YthcalnnipjflkaaGreatDoor
open Go.RowKit
open Go.MapKept (Stamped)
open Go.ChangeMaps (setBlock heap_setBlock_same heap_setBlock_other)
open Go.WideMaps (KeyLaw)
def MapAt (w:aj)(P:aC)(k:au)(b:Nat)(A:List (af×af)):Prop:=
 ∃es a,w.heap[b]?=ae (.map es a)/\Stamped es a/\es.toList.map (λe=>(e.key,e.val))=A/\∀e∈es.toList,∃l,keyOf P k e.key=ae l
def qP (w:aj)(P:aC)(k:au)(b:Nat)(A:List (af×af))(i st:Nat):Prop:=
 ∃es a,w.heap[b]?=ae (.map es a)/\Stamped es a/\es.toList.map (λe=>(e.key,e.val))=A/\(∀e∈es.toList,∃l,keyOf P k e.key=ae l)/\∃e,es.toList[i]?=ae e/\e.born=st
section
variable {P:aC} {k e t:au} {w:aj} {b:Nat} {A:List (af×af)}
theorem UR (w:aj)(P:aC)(k:au):MapAt (w.alloc (.map #[] 0)) P k w.heap.size []:=
 ⟨#[],0,heap_alloc_new w _,MapKept.stamped_empty 0,rfl,iH⟩
theorem MapAt.of_block {w':aj}(h:MapAt w P k b A)(a:w'.heap[b]?=w.heap[b]?):MapAt w' P k b A:=by obtain⟨es,c,d,e⟩:=h;exact⟨es,c,a.trans d,e⟩
theorem qP.of_block {i st:Nat}{w':aj}(h:qP w P k b A i st)(a:w'.heap[b]?=w.heap[b]?):qP w' P k b A i st:=by obtain⟨es,c,d,e⟩:=h;exact⟨es,c,a.trans d,e⟩
theorem MapAt.lt (h:MapAt w P k b A):b<w.heap.size:=by obtain⟨es,c,a,-⟩:=h;exact(aB.1 a).1
theorem qP.lt {i st:Nat}(h:qP w P k b A i st):b<w.heap.size:=by obtain⟨es,c,a,-⟩:=h;exact(aB.1 a).1
theorem EU {es:Array MapEntry}{a:Nat}(c:w.heap[b]?=ae (.map es a))(o:Obj):w.grownBy (setBlock w b o) (ae b):=
 ⟨rfl,rfl,rfl,by simp[setBlock],λi _ hi=>heap_setBlock_other c _ (λe=>hi (by rw[e]))⟩
theorem MapAt.UT (h:MapAt w P k b A)(K:KeyLaw P k)(f:P.underlying t=ae (.map k e)){z:af}(g:(zeroValue e).run P w=.ok z w){key:af}{kl:Lit}(a:keyOf P k key=ae kl)(i:∀p∈A,p.1 ≠key):
  (aH t (.map (ae b)) key false).run P w=.ok z w:=by
 obtain⟨es,q,l,hs,rfl,m⟩:=h;rcases K.find w a es.toList m with⟨c,d⟩|⟨j,n,c,d,o⟩
 ·simp[aH,az f,ah l,K.check w _ a,c,g,Result.andThen]
 ·exact absurd o (i _ (aI.2 ⟨n,ag d,rfl⟩))
theorem MapAt.UU (h:MapAt w P k b A)(K:KeyLaw P k)(l:P.underlying t=ae (.map k e)){z:af}(m:(zeroValue e).run P w=.ok z w){key:af}{kl:Lit}(d:keyOf P k key=ae kl)(n:∀p∈A,p.1 ≠key):
  ∃(st:Nat) (w':aj),(aA t (.map (ae b)) key).run P w=.ok (.tuple #[z,goInt st]) w'/\qP w' P k b (A++[(key,z)]) A.length st/\w.grownBy w' (ae b)/\w'.heap.size=w.heap.size:=by
 obtain⟨es,a,c,hs,rfl,g⟩:=h;rcases K.find w d es.toList g with⟨i,f⟩|⟨j,o,i,f,q⟩
 ·refine⟨a,setBlock w b (.map (es.push ⟨key,z,a⟩) (a+1)),?_,⟨_,_,heap_setBlock_same c _,MapKept.stamped_push hs f,iH,?_,⟨key,z,a⟩,iH,rfl⟩,EU c _,by simp[setBlock]⟩
  ·simp[aA,az l,ah c,K.check w false d,i,m,ax _ c,Result.andThen,setBlock]
  ·intro e he
   simp only[Array.toList_push,List.mem_append,List.mem_singleton]at he;rcases he with he|rfl
   ·exact g e he
   ·exact⟨kl,d⟩
 ·exact absurd q (n _ (aI.2 ⟨o,ag f,rfl⟩))
theorem qP.store {i st:Nat}(h:qP w P k b A i st)(val:af):
  ∃w',(aO t (.map (ae b)) (goInt st) val).run P w=.ok () w'/\MapAt w' P k b (A.modify i λp=>(p.1,val))/\w.grownBy w' (ae b)/\w'.heap.size=w.heap.size:=by
 obtain⟨es,n,c,hs,rfl,d,e,he,rfl⟩:=h
 have g:es.findIdx? (λx=>((x.born:Nat):Int)==((e.born:Nat):Int))=ae i:=by rw[WideElems.findIdx_arr];exact WideElems.findIdx_born hs.2.1 he
 refine⟨setBlock w b (.map (es.modify i λe=>{e with val:=val}) n),?_,⟨_,_,heap_setBlock_same c _,MapKept.stamped_modify hs i _ (λ_ _=>rfl) (λ_ _ _=>rfl),?_,?_⟩,EU c _,by simp[setBlock]⟩
 ·simp[aO,ah c,asInt,asIntOf,goInt,g,ax _ c,Result.andThen,setBlock]
 ·rw[aJ]
  clear c hs d g he;generalize es.toList=l
  induction l generalizing i with
  |nil=>simp
  |cons x xs o=>
   cases i with
   |zero=>rfl
   |succ i=>simp only[List.modify_succ_cons,List.map_cons,o]
 ·intro e' m
  rw[aJ]at m;obtain⟨j,a⟩:=List.mem_iff_getElem?.1 m;rw[List.getElem?_modify]at a;split at a
  ·cases f:es.toList[j]? with
   |none=>rw[f]at a;cases a
   |some y=>rw[f]at a;have:=Option.some.inj a;rw[<-this];exact d y (ag f)
  ·exact d e' (ag (by simpa using a))
end
theorem CQ:KeyLaw Tryz.prog 99:=
 deep_law_laid iF (m:=2) iE (of_decide_eq_true iF) iF iF
theorem UW (a:Int)(s:ByteArray)(c:(Lit.int .i64 a).wf=true)(hs:s.size<=maxLen):∃l,keyOf Tryz.prog 99 (.agg #[.int .i64 a,.string s])=ae l:=by
 have d:Tryz.prog.keyType 99=true:=iF
 unfold keyOf;rw[Tryz.underlying99];simp only[d,Value.formed,Tryz.underlying99];have b:Tryz.prog.cellsOf 99=2:=iF
 have e:Tryz.prog.cellsOf 3=1:=iF
 have f:Tryz.prog.cellsOf 9=1:=iF
 obtain⟨m,hm⟩:∃m,Tryz.prog.types.size=m+1:=Nat.exists_eq_succ_of_ne_zero (Nat.pos_iff_ne_zero.1 (of_decide_eq_true iF));rw[b,hm];simp only[Value.cells,Program.keyLits,Tryz.underlying99,b];simp[e,f,Tryz.underlying3,Tryz.underlying9,c,hs]
end Go.Proofs.YthcalnnipjflkaaGreatDoor
namespace Go.Proofs.YthcalnnipjflkaaGreatDoor
open Go.RowKit
open Go.WideMaps (KeyLaw)
variable {P:aC} {ops:Array aP} {rest:List aP} {o:aP} {a:Act} {Q:Exit->Act->aj->Prop}
theorem UX (w:aj)(d:o.guard=none)(m x:aK)(t:au)(f:o.op=Op.lookup t m x false)(k e:au)(K:KeyLaw P k)(g:P.underlying t=ae (.map k e))(z:af)(i:∀w,(zeroValue e).run P w=.ok z w)
  (b:Nat)(A:List (af×af))(hm:a.eval m=.map (ae b))(h:MapAt w P k b A)(key:af)(hx:a.eval x=key)(c:∃kl,keyOf P k key=ae kl)(j:∀p∈A,p.1 ≠key)
  (hK:wpList P ops Q rest (a.put o.dst z) w):wpList P ops Q (o::rest) a w:=by
 refine ay d λK' hK'=>?_
 obtain⟨kl,c⟩:=c;have l:=h.UT (t:=t) (e:=e) K g (i w) c j;unfold Oper.wp;simp[execOp,f,hm,hx,l,Result.andThen];exact hK' _ _ hK
theorem UY (w:aj)(d:o.guard=none)(m x:aK)(t:au)(f:o.op=Op.mapEntry t m x)(k e:au)(K:KeyLaw P k)(g:P.underlying t=ae (.map k e))(z:af)(i:∀w,(zeroValue e).run P w=.ok z w)
  (b:Nat)(A:List (af×af))(hm:a.eval m=.map (ae b))(h:MapAt w P k b A)(key:af)(hx:a.eval x=key)(c:∃kl,keyOf P k key=ae kl)(j:∀p∈A,p.1 ≠key)
  (hK:∀(st:Nat) (w':aj),qP w' P k b (A++[(key,z)]) A.length st->w.grownBy w' (ae b)->w'.heap.size=w.heap.size->wpList P ops Q rest (a.put o.dst (.tuple #[z,goInt st])) w'):wpList P ops Q (o::rest) a w:=by
 refine ay d λK' hK'=>?_
 obtain⟨kl,c⟩:=c;obtain⟨st,w',l,n,q,r⟩:=h.UU (t:=t) (e:=e) K g (i w) c j;unfold Oper.wp;simp[execOp,f,hm,hx,l,Result.andThen];exact hK' _ _ (hK st w' n q r)
theorem JK (w:aj)(c:o.guard=none)(m x v:aK)(t:au)(d:o.op=Op.entryStore t m x v)(k:au)
  (b i st:Nat)(A:List (af×af))(hm:a.eval m=.map (ae b))(h:qP w P k b A i st)(hx:a.eval x=goInt st)(val:af)(hv:a.eval v=val)
  (hK:∀w',MapAt w' P k b (A.modify i λp=>(p.1,val))->w.grownBy w' (ae b)->w'.heap.size=w.heap.size->wpList P ops Q rest (a.put o.dst undef) w'):wpList P ops Q (o::rest) a w:=by
 refine ay c λK' hK'=>?_
 obtain⟨w',e,f,g,j⟩:=h.store (t:=t) val;unfold Oper.wp;simp[execOp,d,hm,hx,hv,e,Result.andThen];exact hK' _ _ (hK w' f g j)
end Go.Proofs.YthcalnnipjflkaaGreatDoor
namespace Go.Proofs.YthcalnnipjflkaaGreatDoor
open Go.RowKit
open Go.MapKept (Stamped)
open Go.ChangeMaps (setBlock heap_setBlock_same heap_setBlock_other)
open Go.WideMaps (KeyLaw)
section
variable {P:aC} {k e t:au} {w:aj} {b:Nat} {A:List (af×af)}
theorem MapAt.VK (h:MapAt w P k b A)(K:KeyLaw P k)(g:P.underlying t=ae (.map k e)){key:af}{kl:Lit}(d:keyOf P k key=ae kl){i:Nat}{p:af×af}(hi:A[i]?=ae p)(hp:p.1 =key)(l:∀j q,A[j]?=ae q->q.1 =key->j=i):
  (aH t (.map (ae b)) key false).run P w=.ok p.2 w:=by
 obtain⟨es,s,m,hs,rfl,n⟩:=h;rcases K.find w d es.toList n with⟨_,c⟩|⟨j,a,o,c,r⟩
 ·exfalso
  obtain⟨a,he,rfl⟩:=aI.1 (ag hi);exact c a he hp
 ·have f:(es.toList.map λe=>(e.key,e.val))[j]?=ae (a.key,a.val):=by rw[aN,c];rfl
  obtain rfl:=l j _ f r;rw[f]at hi;obtain rfl:=Option.some.inj hi;simp[aH,az g,ah m,K.check w _ d,o,Result.andThen]
theorem MapAt.VL (h:MapAt w P k b A)(K:KeyLaw P k)(r:P.underlying t=ae (.map k e)){key:af}{kl:Lit}(f:keyOf P k key=ae kl){i:Nat}{p:af×af}(hi:A[i]?=ae p)(hp:p.1 =key)(s:∀j q,A[j]?=ae q->q.1 =key->j=i):
  ∃(st:Nat) (w':aj),(aA t (.map (ae b)) key).run P w=.ok (.tuple #[p.2,goInt st]) w'/\qP w' P k b A i st/\w.grownBy w' (ae b)/\w'.heap.size=w.heap.size:=by
 obtain⟨es,l,d,hs,rfl,m⟩:=h;rcases K.find w f es.toList m with⟨_,c⟩|⟨j,a,u,c,g⟩
 ·exfalso
  obtain⟨a,he,rfl⟩:=aI.1 (ag hi);exact c a he hp
 ·have n:(es.toList.map λe=>(e.key,e.val))[j]?=ae (a.key,a.val):=by rw[aN,c];rfl
  obtain rfl:=s j _ n g;rw[n]at hi;obtain rfl:=Option.some.inj hi;have o:es[j]?=ae a:=by rw[<-Array.getElem?_toList];exact c
  have v:es.modify j (λe=>{e with key:=key})=es:=by
   apply Array.ext_getElem?;intro i;rw[Array.getElem?_modify];split
   ·rename_i x;subst x;rw[o,<-g];rfl
   ·rfl
  refine⟨a.born,setBlock w b (.map (es.modify j λe=>{e with key:=key}) l),?_,?_,EU d _,by simp[setBlock]⟩
  ·have y:=K.stays w f
   simp[aA,az r,ah d,K.check w false f,u,o,g,y,ax _ d,Result.andThen,setBlock]
  ·rw[v]
   exact⟨es,l,heap_setBlock_same d _,hs,rfl,m,a,c,rfl⟩
end
variable {P:aC} {ops:Array aP} {rest:List aP} {o:aP} {a:Act} {Q:Exit->Act->aj->Prop}
theorem VM (w:aj)(d:o.guard=none)(m x:aK)(t:au)(f:o.op=Op.lookup t m x false)(k e:au)(K:KeyLaw P k)(g:P.underlying t=ae (.map k e))
  (b:Nat)(A:List (af×af))(hm:a.eval m=.map (ae b))(h:MapAt w P k b A)(key:af)(hx:a.eval x=key)(c:∃kl,keyOf P k key=ae kl)(i:Nat)(v:af)(hi:A[i]?=ae (key,v))(l:∀j q,A[j]?=ae q->q.1 =key->j=i)
  (hK:wpList P ops Q rest (a.put o.dst v) w):wpList P ops Q (o::rest) a w:=by
 refine ay d λK' hK'=>?_
 obtain⟨kl,c⟩:=c;have n:=h.VK (t:=t) (e:=e) K g c hi rfl l;unfold Oper.wp;simp[execOp,f,hm,hx,n,Result.andThen];exact hK' _ _ hK
theorem VN (w:aj)(d:o.guard=none)(m x:aK)(t:au)(f:o.op=Op.mapEntry t m x)(k e:au)(K:KeyLaw P k)(g:P.underlying t=ae (.map k e))
  (b:Nat)(A:List (af×af))(hm:a.eval m=.map (ae b))(h:MapAt w P k b A)(key:af)(hx:a.eval x=key)(c:∃kl,keyOf P k key=ae kl)(i:Nat)(v:af)(hi:A[i]?=ae (key,v))(l:∀j q,A[j]?=ae q->q.1 =key->j=i)
  (hK:∀(st:Nat) (w':aj),qP w' P k b A i st->w.grownBy w' (ae b)->w'.heap.size=w.heap.size->wpList P ops Q rest (a.put o.dst (.tuple #[v,goInt st])) w'):wpList P ops Q (o::rest) a w:=by
 refine ay d λK' hK'=>?_
 obtain⟨kl,c⟩:=c;obtain⟨st,w',n,p,r,s⟩:=h.VL (t:=t) (e:=e) K g c hi rfl l;unfold Oper.wp;simp[execOp,f,hm,hx,n,Result.andThen];exact hK' _ _ (hK st w' p r s)
