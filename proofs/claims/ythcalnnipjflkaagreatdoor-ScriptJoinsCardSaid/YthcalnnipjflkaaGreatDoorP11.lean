import Derived.Test.YthcalnnipjflkaaGreatDoorP10
import Derived.WideKeyEntry
import Derived.Maps.Keyed
import Derived.DeepKeys5
import Derived.ArgAppend
open Go renaming Value -> ae, World -> aj, TypeId -> au, wpList_plain -> aA, Program -> aB, run_underlying -> aC, Operand -> aI
open Option renaming some -> af
open List renaming mem_of_getElem? -> ag, mem_map -> aH
open Go.MapKept renaming run_getObj_map -> ah, run_setObj_map -> ay
open Array renaming getElem?_eq_some_iff -> ax, toList_modify -> az
set_option linter.all false
namespace Go.Proofs.YthcalnnipjflkaaGreatDoor
open Go.RowKit
open Go.MapKept (Stamped)
open Go.ChangeMaps (setBlock heap_setBlock_same heap_setBlock_other)
open Go.WideMaps (KeyLaw)
def MapAt (w:aj)(P:aB)(k:au)(b:Nat)(A:List (ae×ae)):Prop:=
 ∃es a,w.heap[b]?=af (.map es a)/\Stamped es a/\es.toList.map (λe=>(e.key,e.val))=A/\∀e∈es.toList,∃l,keyOf P k e.key=af l
def qP (w:aj)(P:aB)(k:au)(b:Nat)(A:List (ae×ae))(i st:Nat):Prop:=
 ∃es a,w.heap[b]?=af (.map es a)/\Stamped es a/\es.toList.map (λe=>(e.key,e.val))=A/\(∀e∈es.toList,∃l,keyOf P k e.key=af l)/\∃e,es.toList[i]?=af e/\e.born=st
section
variable {P:aB} {k e t:au} {w:aj} {b:Nat} {A:List (ae×ae)}
theorem UR (w:aj)(P:aB)(k:au):MapAt (w.alloc (.map #[] 0)) P k w.heap.size []:=
 ⟨#[],0,heap_alloc_new w _,MapKept.stamped_empty 0,rfl,iH⟩
theorem MapAt.of_block {w':aj}(h:MapAt w P k b A)(a:w'.heap[b]?=w.heap[b]?):MapAt w' P k b A:=by obtain⟨es,c,d,e⟩:=h;exact⟨es,c,a.trans d,e⟩
theorem qP.of_block {i st:Nat}{w':aj}(h:qP w P k b A i st)(a:w'.heap[b]?=w.heap[b]?):qP w' P k b A i st:=by obtain⟨es,c,d,e⟩:=h;exact⟨es,c,a.trans d,e⟩
theorem MapAt.lt (h:MapAt w P k b A):b<w.heap.size:=by obtain⟨es,c,a,-⟩:=h;exact(ax.1 a).1
theorem qP.lt {i st:Nat}(h:qP w P k b A i st):b<w.heap.size:=by obtain⟨es,c,a,-⟩:=h;exact(ax.1 a).1
theorem EU {es:Array MapEntry}{a:Nat}(c:w.heap[b]?=af (.map es a))(o:Obj):w.grownBy (setBlock w b o) (af b):=
 ⟨rfl,rfl,rfl,by simp[setBlock],λi _ hi=>heap_setBlock_other c _ (λe=>hi (by rw[e]))⟩
theorem MapAt.UT (h:MapAt w P k b A)(K:KeyLaw P k)(f:P.underlying t=af (.map k e)){z:ae}(g:(zeroValue e).run P w=.ok z w){key:ae}{kl:Lit}(a:keyOf P k key=af kl)(i:∀p∈A,p.1 ≠key):
  (Instr.lookup t (.map (af b)) key false).run P w=.ok z w:=by
 obtain⟨es,q,l,hs,rfl,m⟩:=h;rcases K.find w a es.toList m with⟨c,d⟩|⟨j,n,c,d,o⟩
 ·simp[Instr.lookup,aC f,ah l,K.check w _ a,c,g,Result.andThen]
 ·exact absurd o (i _ (aH.2 ⟨n,ag d,rfl⟩))
theorem MapAt.UU (h:MapAt w P k b A)(K:KeyLaw P k)(l:P.underlying t=af (.map k e)){z:ae}(m:(zeroValue e).run P w=.ok z w){key:ae}{kl:Lit}(d:keyOf P k key=af kl)(n:∀p∈A,p.1 ≠key):
  ∃(st:Nat) (w':aj),(Instr.mapEntry t (.map (af b)) key).run P w=.ok (.tuple #[z,goInt st]) w'/\qP w' P k b (A++[(key,z)]) A.length st/\w.grownBy w' (af b)/\w'.heap.size=w.heap.size:=by
 obtain⟨es,a,c,hs,rfl,g⟩:=h;rcases K.find w d es.toList g with⟨i,f⟩|⟨j,o,i,f,q⟩
 ·refine⟨a,setBlock w b (.map (es.push ⟨key,z,a⟩) (a+1)),?_,⟨_,_,heap_setBlock_same c _,MapKept.stamped_push hs f,iH,?_,⟨key,z,a⟩,iH,rfl⟩,EU c _,by simp[setBlock]⟩
  ·simp[Instr.mapEntry,aC l,ah c,K.check w false d,i,m,ay _ c,Result.andThen,setBlock]
  ·intro e he
   simp only[Array.toList_push,List.mem_append,List.mem_singleton]at he;rcases he with he|rfl
   ·exact g e he
   ·exact⟨kl,d⟩
 ·exact absurd q (n _ (aH.2 ⟨o,ag f,rfl⟩))
theorem qP.store {i st:Nat}(h:qP w P k b A i st)(val:ae):
  ∃w',(Instr.entryStore t (.map (af b)) (goInt st) val).run P w=.ok () w'/\MapAt w' P k b (A.modify i λp=>(p.1,val))/\w.grownBy w' (af b)/\w'.heap.size=w.heap.size:=by
 obtain⟨es,n,c,hs,rfl,d,e,he,rfl⟩:=h
 have g:es.findIdx? (λx=>((x.born:Nat):Int)==((e.born:Nat):Int))=af i:=by rw[WideElems.findIdx_arr];exact WideElems.findIdx_born hs.2.1 he
 refine⟨setBlock w b (.map (es.modify i λe=>{e with val:=val}) n),?_,⟨_,_,heap_setBlock_same c _,MapKept.stamped_modify hs i _ (λ_ _=>rfl) (λ_ _ _=>rfl),?_,?_⟩,EU c _,by simp[setBlock]⟩
 ·simp[Instr.entryStore,ah c,asInt,asIntOf,goInt,g,ay _ c,Result.andThen,setBlock]
 ·rw[az]
  clear c hs d g he;generalize es.toList=l
  induction l generalizing i with
  |nil=>simp
  |cons x xs o=>
   cases i with
   |zero=>rfl
   |succ i=>simp only[List.modify_succ_cons,List.map_cons,o]
 ·intro e' m
  rw[az]at m;obtain⟨j,a⟩:=List.mem_iff_getElem?.1 m;rw[List.getElem?_modify]at a;split at a
  ·cases f:es.toList[j]? with
   |none=>rw[f]at a;cases a
   |some y=>rw[f]at a;have:=Option.some.inj a;rw[<-this];exact d y (ag f)
  ·exact d e' (ag (by simpa using a))
end
theorem CQ:KeyLaw Tryz.prog 99:=
 deep_law_laid iF (m:=2) iE (of_decide_eq_true iF) iF iF
theorem UW (a:Int)(s:ByteArray)(c:(Lit.int .i64 a).wf=true)(hs:s.size<=maxLen):∃l,keyOf Tryz.prog 99 (.agg #[.int .i64 a,.string s])=af l:=by
 have d:Tryz.prog.keyType 99=true:=iF
 unfold keyOf;rw[Tryz.underlying99];simp only[d,Value.formed,Tryz.underlying99];have b:Tryz.prog.cellsOf 99=2:=iF
 have e:Tryz.prog.cellsOf 3=1:=iF
 have f:Tryz.prog.cellsOf 9=1:=iF
 obtain⟨m,hm⟩:∃m,Tryz.prog.types.size=m+1:=Nat.exists_eq_succ_of_ne_zero (Nat.pos_iff_ne_zero.1 (of_decide_eq_true iF));rw[b,hm];simp only[Value.cells,Program.keyLits,Tryz.underlying99,b];simp[e,f,Tryz.underlying3,Tryz.underlying9,c,hs]
end Go.Proofs.YthcalnnipjflkaaGreatDoor
namespace Go.Proofs.YthcalnnipjflkaaGreatDoor
open Go.RowKit
open Go.WideMaps (KeyLaw)
variable {P:aB} {ops:Array Oper} {rest:List Oper} {o:Oper} {a:Act} {Q:Exit->Act->aj->Prop}
theorem UX (w:aj)(d:o.guard=none)(m x:aI)(t:au)(f:o.op=Op.lookup t m x false)(k e:au)(K:KeyLaw P k)(g:P.underlying t=af (.map k e))(z:ae)(i:∀w,(zeroValue e).run P w=.ok z w)
  (b:Nat)(A:List (ae×ae))(hm:a.eval m=.map (af b))(h:MapAt w P k b A)(key:ae)(hx:a.eval x=key)(c:∃kl,keyOf P k key=af kl)(j:∀p∈A,p.1 ≠key)
  (hK:wpList P ops Q rest (a.put o.dst z) w):wpList P ops Q (o::rest) a w:=by
 refine aA d λK' hK'=>?_
 obtain⟨kl,c⟩:=c;have l:=h.UT (t:=t) (e:=e) K g (i w) c j;unfold Oper.wp;simp[execOp,f,hm,hx,l,Result.andThen];exact hK' _ _ hK
theorem UY (w:aj)(d:o.guard=none)(m x:aI)(t:au)(f:o.op=Op.mapEntry t m x)(k e:au)(K:KeyLaw P k)(g:P.underlying t=af (.map k e))(z:ae)(i:∀w,(zeroValue e).run P w=.ok z w)
  (b:Nat)(A:List (ae×ae))(hm:a.eval m=.map (af b))(h:MapAt w P k b A)(key:ae)(hx:a.eval x=key)(c:∃kl,keyOf P k key=af kl)(j:∀p∈A,p.1 ≠key)
  (hK:∀(st:Nat) (w':aj),qP w' P k b (A++[(key,z)]) A.length st->w.grownBy w' (af b)->w'.heap.size=w.heap.size->wpList P ops Q rest (a.put o.dst (.tuple #[z,goInt st])) w'):wpList P ops Q (o::rest) a w:=by
 refine aA d λK' hK'=>?_
 obtain⟨kl,c⟩:=c;obtain⟨st,w',l,n,q,r⟩:=h.UU (t:=t) (e:=e) K g (i w) c j;unfold Oper.wp;simp[execOp,f,hm,hx,l,Result.andThen];exact hK' _ _ (hK st w' n q r)
theorem JK (w:aj)(c:o.guard=none)(m x v:aI)(t:au)(d:o.op=Op.entryStore t m x v)(k:au)
  (b i st:Nat)(A:List (ae×ae))(hm:a.eval m=.map (af b))(h:qP w P k b A i st)(hx:a.eval x=goInt st)(val:ae)(hv:a.eval v=val)
  (hK:∀w',MapAt w' P k b (A.modify i λp=>(p.1,val))->w.grownBy w' (af b)->w'.heap.size=w.heap.size->wpList P ops Q rest (a.put o.dst undef) w'):wpList P ops Q (o::rest) a w:=by
 refine aA c λK' hK'=>?_
 obtain⟨w',e,f,g,j⟩:=h.store (t:=t) val;unfold Oper.wp;simp[execOp,d,hm,hx,hv,e,Result.andThen];exact hK' _ _ (hK w' f g j)
end Go.Proofs.YthcalnnipjflkaaGreatDoor
