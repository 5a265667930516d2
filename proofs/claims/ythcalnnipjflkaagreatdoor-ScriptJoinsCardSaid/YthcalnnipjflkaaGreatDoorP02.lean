import Derived.Test.YthcalnnipjflkaaGreatDoorP00
import Derived.Laws.Sem
import Derived.Calls
import Derived.Orders
import Derived.Laws.CopyRow
import Derived.Laws.Append
import Derived.RangeFuncIn
import Derived.OrdersIn
import Derived.OwnWalkIn
open List renaming replicate -> ae, replicate_zero -> aP, take_length -> aU, length_cons -> aV, append_nil -> aX, mem_range -> bQ, range -> bZ
open Bool renaming true -> af, false -> aj, and_eq_true -> aT
open Go renaming World -> ag, Oper -> aH, Value -> aI, Program -> aJ, mem_ready -> aQ, ready_mono -> aY, PanicEntry -> aZ, Exit -> bG, Calls -> bK, run_append_own -> bT, wp_region_any -> bU, getD_set_ne -> bY
open Option renaming some -> ah, none -> az, getD_some -> bz
open Array renaming getD_eq_getD_getElem? -> au, replicate -> ay, getElem?_setIfInBounds_ne -> aA, getElem?_eq_none -> aK, setIfInBounds_comm -> aS, getElem?_eq_some_iff -> bu, getElem?_replicate -> bF
open Go.Region renaming wanted -> ax, noSelect -> aC, Mode -> aN, noSelect_spec -> bI, free_spec -> bP
open Go.RowKit renaming Below -> aB
open Nat renaming le_refl -> aO, add_right_comm -> bn, sub_self -> bC, lt_or_ge -> bD, add_assoc -> bJ, zero_add -> bV, add_comm -> bW
open Go.RowKit.Below renaming refl -> aW, alloc -> bH
set_option linter.all false
namespace Go.iR
open Go.Mix Go.RowKit
section
variable {ro:Option Nat} {m:Nat} {P:aJ} {ops:Array aH} {md:aN} {Q:bG->Act->ag->Prop} {T:ag->ag->Prop} {D:ag->Prop}
def Closed (md:aN)(ops:Array aH)(L:Array Bool):Prop:=
 ∀(j:Nat) (o:aH),ops[j]?=ah o->L.getD j aj=af->∀e∈o.after,Region.binds md e=af->L.getD e.on aj=af
theorem Closed.set {L:Array Bool}(h:Closed md ops L){i:Nat}(hi:i∈Region.ready md ops L):Closed md ops (L.setIfInBounds i af):=by
 intro j o b c e he d
 have mono:∀k,L.getD k aj=af->(L.setIfInBounds i af).getD k aj=af:=by
  intro k a;by_cases e:i=k
  ·subst e
   rw[au]at a⊢;by_cases hs:i<L.size
   ·simp[hs]
   ·rw[aK iE]at a;cases a
  ·rw[au,aA e,<-au];exact a
 by_cases f:i=j
 ·subst f
  obtain⟨-,o',g,l⟩:=aQ.1 hi;rw[b]at g;cases Option.some.inj g;exact mono _ (l e he d)
 ·rw[au,aA f,<-au]at c
  exact mono _ (h j o b c e he d)
def mJ (md:aN)(ops:Array aH)(n:Nat):Bool:=
 (bZ n).all λi=>(bZ (n+1)).any λj=>decide (i<j)&&((ops[j]?).map λo=>o.after.any λe=>Region.binds md e&&Nat.beq e.on i).getD aj
theorem wV {n:Nat}(hs:mJ md ops n=af){L:Array Bool}(hc:Closed md ops L)(hn:n∈Region.ready md ops L):∀k i,n - i=k->i<n->L.getD i aj=af:=by
 intro k
 induction k using Nat.strongRecOn with
 |ind k h=>
  intro i r hi;have l:=List.all_eq_true.1 hs i (bQ.2 hi);obtain⟨j,m,c⟩:=List.any_eq_true.1 l;have s:=bQ.1 m;simp only[aT,decide_eq_true_eq]at c;obtain⟨t,a⟩:=c;cases b:ops[j]? with
  |none=>rw[b]at a;cases a
  |some o=>
   rw[b]at a;simp only[Option.map_some,bz,Array.any_eq_true']at a;obtain⟨e,he,d⟩:=a;simp only[aT,Nat.beq_eq]at d;obtain⟨f,rfl⟩:=d;by_cases p:j=n
   ·subst p
    obtain⟨-,o',g,q⟩:=aQ.1 hn;rw[b]at g;cases Option.some.inj g;exact q e he f
   ·exact hc j o b (h (n - j) iE j rfl iE) e he f
end
section
variable {ro:Option Nat} {m:Nat} {P:aJ} {ops:Array aH} {md:aN} {Q:bG->Act->ag->Prop} {T:ag->ag->Prop} {D:ag->Prop}
structure Grow (ρ:ag) where
 w:ag
 h:aB ρ.heap.size ρ w
instance (ρ:ag):Nonempty (Grow ρ):=⟨⟨ρ,aW _ _⟩⟩
theorem Grow.calls {P:aJ}{f:FuncId}{args:Array aI}{ρ:ag}{x:Grow ρ}{v:aI}
  (h:bK P f args x.w λe w'=>e=.returned v/\aB x.w.heap.size x.w w'):bK P f args x.w λe a=>e=.returned v/\∃y:Grow ρ,a=y.w:=
 h.mono λ_ w' ⟨he,b⟩=>⟨he,⟨w',x.h.trans (b.mono x.h.size)⟩,rfl⟩
end
end Go.iR
namespace Go.Mix
open Go.RowKit
theorem mM {P:aJ}{Q:bG->Act->ag->Prop}{id:Nat}{a:Act}{w:ag}{l:List aH}{aF:Act}(hm:P.follows .mixedOrders=af)
  (hs:aC l.toArray=af)(b:kN .any l.toArray l.length 0 (ay l.length aj)=ah (ae l.length af).toArray)(hd:kS a.tmps.size l []=af)
  (hr:Region.ready .any l.toArray (ae l.length af).toArray=[])
  (hA:∀ρ:ag,aB w.heap.size w ρ->wpQuiet P l.toArray (λw'=>∃x:iR.Grow ρ,w'=x.w) (λa'=>a'=aF) l a)
  (hK:∀W:ag,aB w.heap.size w W->Q .normal aF W):(Code.region id l.toArray af).wp P Q a w:=by
 refine xW (aF:=aF) l.length (λW=>aB w.heap.size w W) (λW=>aB w.heap.size w W) (λw' c=>∃x:iR.Grow w',c=x.w) hm (aO _) hs ?_ (by rw[aU];exact hd)
  (λw'=>⟨⟨w',aW _ _⟩,rfl⟩) (λ_ _ h ⟨x,k⟩=>k▸h.trans (x.h.mono h.size)) (λ_ h=>h) ⟨rfl,rfl,rfl,aO _,λ_ _=>rfl⟩ (λρ d=>by rw[aU];exact hA ρ d) ?_
 ·rw[bC,aP,aX];exact b
 ·rw[bC,aP,aX];exact xX hr (λW e=>hK W e)
end Go.Mix
namespace Go.Mix
open Go.RowKit
open Go.iR (Closed mJ wV)
section
variable {P:aJ} {ops:Array aH} {md:aN} {Q:bG->Act->ag->Prop} {T:ag->ag->Prop} {D:ag->Prop}
def yx (P:aJ)(md:aN)(ops:Array aH)(Q:bG->Act->ag->Prop)(T:ag->ag->Prop)(D:ag->Prop)(n f:Nat):Nat->Array Bool->Act->(ag->Prop)->Prop
 |0,listed,a,C=>Region.ready md ops listed=[n]/\∀w,C w->wpAny P md ops Q f listed a w
 |fuel+1,listed,a,C=>Region.ready md ops listed≠[]/\
  ∀i∈Region.ready md ops listed,mG P ops T D i (λa' b=>yx P md ops Q T D n f fuel (listed.setIfInBounds i af) a' b) a C
theorem IC {n f:Nat}:∀(fuel:Nat) (listed:Array Bool) (a:Act) (C:ag->Prop) (w:ag),C w->yx P md ops Q T D n f fuel listed a C->wpAny P md ops Q (fuel+f) listed a w
 |0,_,_,_,_,hw,h=>by rw[bV];exact h.2 _ hw
 |fuel+1,_,_,_,_,hw,h=>by rw[bn];exact⟨λb=>absurd b h.1,λi hi=>Gf hw (λa' c w' hw' d=>IC fuel _ a' c w' hw' d) (h.2 i hi)⟩
theorem QM {n f:Nat}(hs:mJ md ops n=af){i:Nat}(I:i<n){l:aH}{v:aI}(hi:ops[i]?=ah l)(x:∀(j:Nat) (o:aH) p b,ops[j]?=ah o->o.op≠.select p b):
  ∀(fuel:Nat) (listed:Array Bool) (a:Act) (C:ag->Prop),Closed md ops listed->(∀w w',C w->T w w'->C w')->(∀w,C w->D w)->
   (∀j oj,ops[j]?=ah oj->j≠i->listed.getD j af=aj->(∀e∈oj.after,Region.binds md e=af->e.on≠i)->l.apart ops oj=af)->
   i∈Region.ready md ops listed->One P ops T D l v a->
   yx P md ops Q T D n f fuel (listed.setIfInBounds i af) (a.put l.dst v) C->yx P md ops Q T D n f (fuel+1) listed a C:=by
 intro fuel
 induction fuel with
 |zero=>
  intro listed a C s q r _ hr hy H;refine⟨λh=>(by rw[h]at hr;cases hr),λj m=>?_⟩;by_cases d:j=i
  ·subst d;exact One.mG hi q r hy H
  ·have:=aY m d
   rw[H.1]at this;obtain rfl:j=n:=by simpa using this
   have c:=wV hs s m _ i rfl I;have g:=(aQ.1 hr).1;rw[au]at c g;cases y:listed[i]? with
   |none=>rw[y]at c;cases c
   |some b=>rw[y]at c g;simp only[bz]at c g;rw[c]at g;cases g
 |succ fuel J=>
  intro listed a C s q r z hr hy H;refine⟨λh=>(by rw[h]at hr;cases hr),λj m=>?_⟩;by_cases d:j=i
  ·subst d;exact One.mG hi q r hy H
  ·have c:=H.2 j (aY m d)
   have K:=s.set m;obtain⟨A,oj,t,L⟩:=aQ.1 m
   have M:∀e∈oj.after,Region.binds md e=af->e.on≠i:=λe he N O=>by
    have c:=L e he N;have B:=(aQ.1 hr).1;rw[O]at c;rcases bD i listed.size with u|u
    ·simp[u]at B c;rw[B]at c;cases c
    ·simp[aK u]at c
   have g:=Gi t (z j oj t d A M) (λp b=>x i l p b hi) (λp b=>x j oj p b t) hy c
   have R:∀k ok,ops[k]?=ah ok->k≠i->(listed.setIfInBounds j af).getD k af=aj->
     (∀e∈ok.after,Region.binds md e=af->e.on≠i)->l.apart ops ok=af:=λk ok S U E V=>by
    refine z k ok S U ?_ V;by_cases F:j=k
    ·subst F;exact A
    ·rw[bY af F]at E;exact E
   refine Gh ⟨q,r⟩ (λa' W X Y G=>J (listed.setIfInBounds j af) a' W K X Y R (aY hr (Ne.symm d)) G.1 ?_) g;rw[aS _ _ d];exact G.2
theorem IE {n f:Nat}(hsc:mJ md ops n=af)(hs:aC ops=af)(c:∀w,T w w){C:ag->Prop}(d:∀w w',C w->T w w'->C w')(g:∀w,C w->D w)(i:∃ρ,D ρ){aF:Act}{listed':Array Bool}:
  ∀(l:List aH) (k:Nat) (listed:Array Bool) (a:Act) (seen:List Tmp),k+l.length=n->Closed md ops listed->(∀j,j<l.length->l[j]?=ops[k+j]?)->
  kN md ops l.length k listed=ah listed'->kS a.tmps.size l seen=af->vC P ops T D aF l a->yx P md ops Q T D n f 0 listed' aF C->yx P md ops Q T D n f l.length listed a C
 |[],_,listed,a,_,_,_,_,b,_,h,hK=>by
  obtain⟨ρ,s⟩:=i;have e:a=aF:=h ρ s;have t:listed=listed':=by simpa[kN]using b
  subst e t;simpa using hK
 |o::l,k,listed,a,seen,m,p,q,b,hd,h,hK=>by
  have r:ops[k]?=ah o:=by simpa using(q 0 iH).symm
  simp only[aV,kN]at b;split at b
  case isFalse=>cases b
  rename_i hc;simp only[aT]at hc;obtain⟨v,u,x,y,z⟩:=DU c hd h;have hr:k∈Region.ready md ops listed:=by simpa using hc.1
  have:=IE hsc hs c d g i l (k+1) _ (a.put o.dst v) u (by simp at m;omega) (p.set hr) (λj A=>by have:=q (j+1) iI;simpa[bJ,bW 1 j]using this) b (by rw[DT];exact y) z hK;rw[aV];exact QM hsc (by simp at m;omega) r (bI hs) l.length listed a C p d g (bP r hc.2) hr x this
theorem IG {id:Nat}{a:Act}{w:ag}{l:List aH}(n f:Nat)(C D:ag->Prop)(T:ag->ag->Prop){aF:Act}(hm:P.follows .mixedOrders=af)
  (hn:n+f=l.length)(hsc:mJ .any l.toArray n=af)(hs:aC l.toArray=af)(k:kN .any l.toArray n 0 (ay l.length aj)=ah (ae n af++ae f aj).toArray)(hd:kS a.tmps.size (l.take n) []=af)
  (hr:Region.ready .any l.toArray (ae n af++ae f aj).toArray=[n])
  (m:∀w,T w w)(p:∀w w',C w->T w w'->C w')(d:∀w,C w->D w)(e:C {w with drawn:=w.drawn+1})(hA:vC P l.toArray T D aF (l.take n) a)
  (q:∀w,C w->wpAny P .any l.toArray Q f (ae n af++ae f aj).toArray aF w):(Code.region id l.toArray af).wp P Q a w:=by
 have b:(l.take n).length=n:=iI
 have r:Closed .any l.toArray (ay l.length aj):=by intro j o _ c;rw[au,bF]at c;split at c<;>cases c
 have g:=IE (P:=P) (md:=.any) (ops:=l.toArray) (Q:=Q) (T:=T) (D:=D) (n:=n) (f:=f) hsc hs m p d ⟨_,d _ e⟩ (l.take n) 0 (ay l.length aj) a [] (by rw[b];omega) r (λj h=>by rw[b]at h;simp[h]) (by rw[b];exact k) hd hA ⟨hr,q⟩;rw[b]at g;have i:=IC n _ _ _ _ e g;refine bU hm ?_;rw[hn]at i;simpa using i
theorem IJ {id:Nat}{a:Act}{w:ag}{l:List aH}{os:aH}{aF:Act}(n:Nat)(hm:P.follows .mixedOrders=af)(e:n+1=l.length)
  (hsc:mJ .any l.toArray n=af)(hs:aC l.toArray=af)(f:kN .any l.toArray n 0 (ay l.length aj)=ah (ae n af++ae 1 aj).toArray)(hd:kS a.tmps.size (l.take n) []=af)
  (hr:Region.ready .any l.toArray (ae n af++ae 1 aj).toArray=[n])(g:Region.ready .any l.toArray ((ae n af++ae 1 aj).toArray.setIfInBounds n af)=[])
  (i:l[n]?=ah os)(m:os.guard=az)(o:os.dst=az)
  (hA:∀ρ:ag,aB w.heap.size w ρ->wpQuiet P l.toArray (λw'=>∃x:iR.Grow ρ,w'=x.w) (λa'=>a'=aF) (l.take n) a)
  (p:∀W,aB w.heap.size w W->∃W',(execOp aF.eval os).run P W=.ok .skip W'/\Q .normal aF W'):(Code.region id l.toArray af).wp P Q a w:=by
 refine IG (aF:=aF) n 1 (λW=>aB w.heap.size w W) (λW=>aB w.heap.size w W) (λw' q=>∃x:iR.Grow w',q=x.w) hm e hsc hs f hd hr
  (λw'=>⟨⟨w',aW _ _⟩,rfl⟩) (λ_ _ h ⟨x,k⟩=>k▸h.trans (x.h.mono h.size)) (λ_ h=>h) ⟨rfl,rfl,rfl,aO _,λ_ _=>rfl⟩ (λρ r=>hA ρ r) (λW s=>?_)
 obtain⟨W',t,u⟩:=p W s;refine⟨(λc=>by rw[hr]at c;cases c),λj d=>?_⟩;rw[hr]at d;obtain rfl:j=n:=by simpa using d
 unfold wpOp;have v:l.toArray[j]?=ah os:=by simpa using i
 rw[v];simp only[ax,m,if_true];refine .inl ?_;unfold Oper.wp;rw[t];have b:wpAny P .any l.toArray Q 0 ((ae j af++ae 1 aj).toArray.setIfInBounds j af) aF W':=⟨g,u⟩
 first
  |exact b
  |(simp only[Oper.upon,o];exact b)
  |(unfold Oper.upon;exact b)
end
end Go.Mix
namespace Go.Mix
open Go.RowKit
section
variable {P:aJ} {Q:bG->Act->ag->Prop}
theorem lu {ρ w:ag}{b:Nat}{o:Obj}(h:aB ρ.heap.size ρ w)(a:ρ.heap[b]?=ah o):w.heap[b]?=ah o:=by
 have c:b<ρ.heap.size:=by
  rcases bD b ρ.heap.size with h|h
  ·exact h
  ·rw[aK h]at a;cases a
 rw[h.block b c];exact a
theorem VG {id:Nat}{a:Act}{w:ag}{l:List aH}(n:Nat)(r s:Tmp)(G H L M:aH)(p m I J:Obj){aF:Act}(hm:P.follows .mixedOrders=af)
  (a8:l.length=n+4)(hs:aC l.toArray=af)(aq:kN .any l.toArray n 0 (ay l.length aj)=ah (ae n af++ae (l.length - n) aj).toArray)
  (hd:kS a.tmps.size (l.take n) []=af)(aa:l[n]?=ah G)(ab:l[n+1]?=ah H)(ar:l[n+2]?=ah L)(av:l[n+3]?=ah M)
  (ac:G.guard=az)(ad:H.guard=az)(aw:L.guard=az)(aD:M.guard=az)(ai:G.dst=ah r)(ak:H.dst=ah s)(aE:L.dst=az)(aG:M.dst=az)(aL:r≠s)
  (al:Region.ready .any l.toArray (ae n af++ae 4 aj).toArray=[n,n+1])
  (aM:Region.ready .any l.toArray ((ae n af++ae 4 aj).toArray.setIfInBounds n af)=[n+1])
  (aR:Region.ready .any l.toArray ((ae n af++ae 4 aj).toArray.setIfInBounds (n+1) af)=[n])
  (a0:Region.ready .any l.toArray (((ae n af++ae 4 aj).toArray.setIfInBounds n af).setIfInBounds (n+1) af)=[n+2])
  (a1:Region.ready .any l.toArray ((((ae n af++ae 4 aj).toArray.setIfInBounds n af).setIfInBounds (n+1) af).setIfInBounds (n+2) af)=[n+3])
  (a2:Region.ready .any l.toArray (((((ae n af++ae 4 aj).toArray.setIfInBounds n af).setIfInBounds (n+1) af).setIfInBounds (n+2) af).setIfInBounds (n+3) af)=[])
  (hA:∀ρ,aB w.heap.size w ρ->wpQuiet P l.toArray (λw'=>∃x:iR.Grow ρ,w'=x.w) (λa'=>a'=aF) (l.take n) a)
  (am:∀(v:aI) (W:ag),(execOp aF.eval G).run P W=.ok (.value (.pointer (ah ⟨W.heap.size,0,az⟩))) (W.alloc p)/\(execOp (aF.put (ah s) v).eval G).run P W=.ok (.value (.pointer (ah ⟨W.heap.size,0,az⟩))) (W.alloc p))
  (an:∀(v:aI) (W:ag),(execOp aF.eval H).run P W=.ok (.value (.pointer (ah ⟨W.heap.size,0,az⟩))) (W.alloc m)/\(execOp (aF.put (ah r) v).eval H).run P W=.ok (.value (.pointer (ah ⟨W.heap.size,0,az⟩))) (W.alloc m))
  (a3:∀(b1 b2:Nat) (W:ag),W.heap[b1]?=ah p->(execOp ((aF.put (ah r) (.pointer (ah ⟨b1,0,az⟩))).put (ah s) (.pointer (ah ⟨b2,0,az⟩))).eval L).run P W=.ok .skip {W with heap:=W.heap.setIfInBounds b1 I})
  (a4:∀(b1 b2:Nat) (W:ag),W.heap[b2]?=ah m->(execOp ((aF.put (ah r) (.pointer (ah ⟨b1,0,az⟩))).put (ah s) (.pointer (ah ⟨b2,0,az⟩))).eval M).run P W=.ok .skip {W with heap:=W.heap.setIfInBounds b2 J})
  (hK:∀(b1 b2:Nat) (W:ag),aB w.heap.size w W->w.heap.size<=b1->w.heap.size<=b2->b1≠b2->W.heap[b1]?=ah I->W.heap[b2]?=ah J->
   Q .normal ((aF.put (ah r) (.pointer (ah ⟨b1,0,az⟩))).put (ah s) (.pointer (ah ⟨b2,0,az⟩))) W):(Code.region id l.toArray af).wp P Q a w:=by
 have a5:l.length - n=4:=iE
 have D:∀j q:ag,aB w.heap.size w j->(∃x:iR.Grow j,q=x.w)->aB w.heap.size w q:=by rintro j _ h ⟨x,rfl⟩;exact h.trans (x.h.mono h.size)
 have t:∀(j q:ag) (b:Nat) (o:Obj),j.heap[b]?=ah o->(∃x:iR.Grow j,q=x.w)->q.heap[b]?=ah o:=by rintro j _ b o h ⟨x,rfl⟩;exact lu x.h h
 have new:∀(W:ag) (X:Obj),(W.alloc X).heap[W.heap.size]?=ah X:=λW X=>by show(W.heap.push X)[W.heap.size]?=_;simp
 have ao:∀(W:ag) (X o:Obj) (b:Nat),W.heap[b]?=ah o->(W.alloc X).heap[b]?=ah o/\b≠W.heap.size:=by
  intro W X o b h
  have K:b<W.heap.size:=by
   rcases bD b W.heap.size with R|R
   ·exact R
   ·rw[aK R]at h;cases h
  exact⟨by rw[Below.heap_alloc _ _ _ K];exact h,iE⟩
 have ap:∀(W:ag) (b:Nat) (Y:Obj),aB w.heap.size w W->w.heap.size<=b->aB w.heap.size w {W with heap:=W.heap.setIfInBounds b Y}:=by intro W b Y h B;refine⟨h.os,h.tape,h.output,by simpa using h.size,λk a6=>?_⟩;show(W.heap.setIfInBounds b Y)[k]?=_;rw[aA iE];exact h.block k a6
 refine xW (aF:=aF) n (λw'=>aB w.heap.size w w') (λw'=>aB w.heap.size w w') (λw w'=>∃x:iR.Grow w,w'=x.w) hm iE hs aq hd (λw=>⟨⟨w,aW _ _⟩,rfl⟩) D (λ_ h=>h) (aW _ _).drew hA ?_;rw[a5]
 have tail:∀(b1 b2:Nat) (C:ag->Prop),w.heap.size<=b1->w.heap.size<=b2->b1≠b2->(∀W,C W->aB w.heap.size w W/\W.heap[b1]?=ah p/\W.heap[b2]?=ah m)->
   qY P .any l.toArray Q (λw w'=>∃x:iR.Grow w,w'=x.w) (λw'=>aB w.heap.size w w') 2 (((ae n af++ae 4 aj).toArray.setIfInBounds n af).setIfInBounds (n+1) af) ((aF.put (ah r) (.pointer (ah ⟨b1,0,az⟩))).put (ah s) (.pointer (ah ⟨b2,0,az⟩))) C:=by
  intro b1 b2 C N O S a7;refine qZ (i:=n+2) a0 (by simpa using ar) (by unfold ax;rw[aw]) (λv W=>aB w.heap.size w W/\W.heap[b1]?=ah I/\W.heap[b2]?=ah m) ?_ (λ_ _ h=>h.1) ?_ ?_
  ·rintro _ j q ⟨f,e,g⟩ c
   exact⟨D _ _ f c,t _ _ _ _ e c,t _ _ _ _ g c⟩
  ·intro W u
   obtain⟨f,e,g⟩:=a7 W u;rw[a3 b1 b2 W e];refine⟨ap W b1 I f N,?_,?_⟩
   ·have K:b1<W.heap.size:=(bu.1 e).1
    simp[K]
   ·show(W.heap.setIfInBounds b1 I)[b2]?=_
    rw[aA S];exact g
  ·intro v W u
   rw[aE];refine qZ (i:=n+3) a1 (by simpa using av) (by unfold ax;rw[aD]) (λv W=>aB w.heap.size w W/\W.heap[b1]?=ah I/\W.heap[b2]?=ah J) ?_ (λ_ _ h=>h.1) ?_ ?_
   ·rintro _ j q ⟨f,e,g⟩ c
    exact⟨D _ _ f c,t _ _ _ _ e c,t _ _ _ _ g c⟩
   ·rintro W ⟨f,e,g⟩
    have:=a4 b1 b2 W g;rw[show((aF.put (ah r) (.pointer (ah ⟨b1,0,az⟩))).put (ah s) (.pointer (ah ⟨b2,0,az⟩))).put az v=((aF.put (ah r) (.pointer (ah ⟨b1,0,az⟩))).put (ah s) (.pointer (ah ⟨b2,0,az⟩)))from rfl,this];refine⟨ap W b2 J f O,?_,?_⟩
    ·show(W.heap.setIfInBounds b2 J)[b1]?=_
     rw[aA (Ne.symm S)];exact e
    ·have K:b2<W.heap.size:=(bu.1 g).1
     simp[K]
   ·intro v' W' _
    rw[aG];exact xX a2 (λT ⟨f,e,g⟩=>hK b1 b2 T f N O S e g)
 refine⟨(λh=>by rw[al]at h;cases h),λi hi=>?_⟩;rw[al]at hi;rcases List.mem_cons.1 hi with rfl|hi
 ·unfold mG
  simp only[show l.toArray[i]?=ah G from by simpa using aa];rw[gY (by unfold ax;rw[ac])];refine⟨λv W=>∃b,v=.pointer (ah ⟨b,0,az⟩)/\aB w.heap.size w W/\w.heap.size<=b/\W.heap[b]?=ah p,?_,?_,?_,?_⟩
  ·rintro v j q ⟨b,rfl,f,e,g⟩ c
   exact⟨b,rfl,D _ _ f c,e,t _ _ _ _ g c⟩
  ·rintro v W ⟨b,rfl,f,e,g⟩
   exact f
  ·intro W u
   rw[(am undef W).1];exact⟨_,rfl,bH u u.size _,u.size,new W p⟩
  ·rintro v W ⟨b1,rfl,f,e,g⟩
   rw[ai];refine qZ (i:=i+1) aM (by simpa using ab) (by unfold ax;rw[ad]) (λv W=>∃b2,v=.pointer (ah ⟨b2,0,az⟩)/\b1≠b2/\w.heap.size<=b2/\aB w.heap.size w W/\W.heap[b1]?=ah p/\W.heap[b2]?=ah m) ?_ ?_ ?_ ?_
   ·rintro v j q ⟨b2,rfl,e1,y,e3,E,e5⟩ c
    exact⟨b2,rfl,e1,y,D _ _ e3 c,t _ _ _ _ E c,t _ _ _ _ e5 c⟩
   ·rintro v W ⟨b2,rfl,e1,y,e3,E,e5⟩
    exact e3
   ·rintro z ⟨b,B,A,U,F⟩
    obtain rfl:b1=b:=by simpa using B
    rw[(an _ z).2];have:=ao z m p b1 F;exact⟨_,rfl,this.2,A.size,bH A A.size _,this.1,new z m⟩
   ·rintro v z ⟨b2,rfl,e1,y,e3,E,e5⟩
    rw[ak];refine tail b1 b2 _ e y e1 ?_;rintro T ⟨b,B,A,U,F,V,Z⟩;obtain rfl:b2=b:=by simpa using B
    exact⟨F,V,Z⟩
 ·obtain rfl:i=n+1:=by simpa using hi
  unfold mG;simp only[show l.toArray[n+1]?=ah H from by simpa using ab];rw[gY (by unfold ax;rw[ad])];refine⟨λv W=>∃b,v=.pointer (ah ⟨b,0,az⟩)/\aB w.heap.size w W/\w.heap.size<=b/\W.heap[b]?=ah m,?_,?_,?_,?_⟩
  ·rintro v j q ⟨b,rfl,f,e,g⟩ c
   exact⟨b,rfl,D _ _ f c,e,t _ _ _ _ g c⟩
  ·rintro v W ⟨b,rfl,f,e,g⟩
   exact f
  ·intro W u
   rw[(an undef W).1];exact⟨_,rfl,bH u u.size _,u.size,new W m⟩
  ·rintro v W ⟨b2,rfl,f,e,g⟩
   rw[ak];refine qZ (i:=n) aR (by simpa using aa) (by unfold ax;rw[ac]) (λv W=>∃b1,v=.pointer (ah ⟨b1,0,az⟩)/\b1≠b2/\w.heap.size<=b1/\aB w.heap.size w W/\W.heap[b1]?=ah p/\W.heap[b2]?=ah m) ?_ ?_ ?_ ?_
   ·rintro v j q ⟨b1,rfl,e1,y,e3,E,e5⟩ c
    exact⟨b1,rfl,e1,y,D _ _ e3 c,t _ _ _ _ E c,t _ _ _ _ e5 c⟩
   ·rintro v W ⟨b1,rfl,e1,y,e3,E,e5⟩
    exact e3
   ·rintro z ⟨b,B,A,U,F⟩
    obtain rfl:b2=b:=by simpa using B
    rw[(am _ z).2];have:=ao z p m b2 F;exact⟨_,rfl,Ne.symm this.2,A.size,bH A A.size _,new z p,this.1⟩
   ·rintro v z ⟨b1,rfl,e1,y,e3,E,e5⟩
    rw[ai,Act.put_comm aF _ _ (λd hd=>by intro h;have N:s=d:=(by simpa using hd);have O:r=d:=(by simpa using h);exact aL (O.trans N.symm)),aS _ _ iE]
    refine tail b1 b2 _ y e e1 ?_;rintro T ⟨b,B,A,U,F,V,Z⟩;obtain rfl:b1=b:=by simpa using B
    exact⟨F,V,Z⟩
end
structure iZ (R:ag->ag->Prop)(ρ:ag) where
 w:ag
 h:R ρ w
theorem iZ.calls {P:aJ}{R:ag->ag->Prop}{f:FuncId}{args:Array aI}{ρ:ag}{x:iZ R ρ}{v:aI}(d:∀a b c,R a b->R b c->R a c)
  (h:bK P f args x.w λe w'=>e=.returned v/\R x.w w'):bK P f args x.w λe g=>e=.returned v/\∃y:iZ R ρ,g=y.w:=
 h.mono λ_ w' ⟨he,i⟩=>⟨he,⟨w',d _ _ _ x.h i⟩,rfl⟩
theorem qQ {P:aJ}{Q:bG->Act->ag->Prop}{id:Nat}{a:Act}{w:ag}{l:List aH}{aF:Act}(R:ag->ag->Prop)(d:∀w,R w w)(e:∀a b c,R a b->R b c->R a c)(f:R w {w with drawn:=w.drawn+1})(hm:P.follows .mixedOrders=af)
  (hs:aC l.toArray=af)(g:kN .any l.toArray l.length 0 (ay l.length aj)=ah (ae l.length af).toArray)(hd:kS a.tmps.size l []=af)
  (hr:Region.ready .any l.toArray (ae l.length af).toArray=[])
  (hA:∀ρ:ag,R w ρ->wpQuiet P l.toArray (λw'=>∃x:iZ R ρ,w'=x.w) (λa'=>a'=aF) l a)
  (hK:∀W:ag,R w W->Q .normal aF W):(Code.region id l.toArray af).wp P Q a w:=by
 refine xW (aF:=aF) l.length (λW=>R w W) (λW=>R w W) (λw' i=>∃x:iZ R w',i=x.w) hm (aO _) hs ?_ (by rw[aU];exact hd)
  (λw'=>⟨⟨w',d w'⟩,rfl⟩) (λ_ _ h ⟨x,k⟩=>k▸e _ _ _ h x.h) (λ_ h=>h) f (λρ j=>by rw[aU];exact hA ρ j) ?_
 ·rw[bC,aP,aX];exact g
 ·rw[bC,aP,aX];exact xX hr (λW m=>hK W m)
theorem Lt {P:aJ}{Q:bG->Act->ag->Prop}{id:Nat}{a:Act}{w:ag}{l:List aH}{os:aH}{aF:Act}(n:Nat)(hm:P.follows .mixedOrders=af)(m:n+1=l.length)
  (hsc:Go.iR.mJ .any l.toArray n=af)(hs:aC l.toArray=af)(o:kN .any l.toArray n 0 (ay l.length aj)=ah (ae n af++ae 1 aj).toArray)(hd:kS a.tmps.size (l.take n) []=af)
  (hr:Region.ready .any l.toArray (ae n af++ae 1 aj).toArray=[n])(p:Region.ready .any l.toArray ((ae n af++ae 1 aj).toArray.setIfInBounds n af)=[])
  (q:l[n]?=ah os)(r:os.guard=az)
  (hA:∀ρ:ag,aB w.heap.size w ρ->wpQuiet P l.toArray (λw'=>∃x:iR.Grow ρ,w'=x.w) (λa'=>a'=aF) (l.take n) a)
  (s:∀W,aB w.heap.size w W->∃f args,(execOp aF.eval os).run P W=.ok (.enter f args) W/\bK P f args W λe b=>(∃v,e=.returned v/\Q .normal (aF.put os.dst v) b)\/∃c,e=.panicked c/\Q (.panic c) aF b):(Code.region id l.toArray af).wp P Q a w:=by
 refine IG (aF:=aF) n 1 (λW=>aB w.heap.size w W) (λW=>aB w.heap.size w W) (λw' b=>∃x:iR.Grow w',b=x.w) hm m hsc hs o hd hr
  (λw'=>⟨⟨w',aW _ _⟩,rfl⟩) (λ_ _ h ⟨x,k⟩=>k▸h.trans (x.h.mono h.size)) (λ_ h=>h) ⟨rfl,rfl,rfl,aO _,λ_ _=>rfl⟩ (λρ t=>hA ρ t) (λW u=>?_)
 obtain⟨f,args,y,z⟩:=s W u;refine⟨(λg=>by rw[hr]at g;cases g),λj i=>?_⟩;rw[hr]at i;obtain rfl:j=n:=by simpa using i
 unfold wpOp;have A:l.toArray[j]?=ah os:=by simpa using q
 rw[A];simp only[ax,r,if_true];refine .inl ?_;unfold Oper.wp;rw[y];simp only[Oper.upon];refine z.mono λe b he=>?_
 rcases he with⟨v,he,d⟩|⟨c,he,d⟩
 ·subst he;exact⟨p,d⟩
 ·subst he;exact d
end Go.Mix
namespace Go.uZ
open Go.RowKit Go.Mix
open Go.iR (Closed mJ wV)
section
variable {P:aJ} {ops:Array aH} {md:aN} {Q:bG->Act->ag->Prop} {T:ag->ag->Prop} {D:ag->Prop} {Pn:List aZ->ag->Prop}
def AB (P:aJ)(R:aI->ag->Prop)(Pn:List aZ->ag->Prop):Result Next->Prop
 |.ok (.value u) w'=>R u w'
 |.ok .skip w'=>R undef w'
 |.ok (.enter f args) w'=>bK P f args w' (λe a=>(∃v,e=.returned v/\R v a)\/∃b,e=.panicked b/\Pn b a)
 |_=>False
def qV (P:aJ)(ops:Array aH)(T:ag->ag->Prop)(D:ag->Prop)(Pn:List aZ->ag->Prop)(i:Nat)(K:Act->(ag->Prop)->Prop)(a:Act)(C:ag->Prop):Prop:=
 match ops[i]? with
 |none=>K a C
 |some o=>if ax o (yielded ops a.tmps)then
   ∃R:aI->ag->Prop,(∀v w w',R v w->T w w'->R v w')/\(∀v w,R v w->D w)/\(∀w,C w->AB P R Pn ((execOp a.eval o).run P w))/\∀v w,R v w->K (a.put o.dst v) (R v)
  else K (a.put o.dst undef) C
theorem put_defers (a:Act)(d:Option Tmp)(v:aI):(a.put d v).defers=a.defers:=by cases d<;>rfl
theorem YF {ds:List Deferred}(m:∀d a w,a.defers=ds->Pn d w->Q (.panic d) a w){i:Nat}{a:Act}{K:Act->(ag->Prop)->Prop}{K':Act->ag->Prop}{C:ag->Prop}{w:ag}(g:C w)(hd:a.defers=ds)
  (h:∀a' l w',a'.defers=ds->l w'->K a' l->K' a' w')(b:qV P ops T D Pn i K a C):wpOp P ops Q i K' a w:=by
 unfold qV at b;unfold wpOp;split
 ·rename_i j;simp only[j]at b;exact h _ _ _ hd g b
 ·rename_i o j
  simp only[j]at b;split
  ·rename_i hw
   simp only[hw,if_true]at b;obtain⟨R,-,-,p,k⟩:=b;refine .inl ?_;have c:=p w g;unfold Oper.wp;generalize(execOp a.eval o).run P w=r at*;cases r with
   |ok n w'=>
    cases n<;>simp only[AB]at c<;>simp only[Oper.upon]
    case value u=>exact h _ _ _ ((put_defers _ _ _).trans hd) c (k _ _ c)
    case skip=>exact h _ _ _ ((put_defers _ _ _).trans hd) c (k _ _ c)
    case enter f args=>
     refine c.mono λe q he=>?_
     rcases he with⟨v,he,hr⟩|⟨d,he,hp⟩
     ·subst he;exact h _ _ _ ((put_defers _ _ _).trans hd) hr (k _ _ hr)
     ·subst he;exact m _ _ _ hd hp
   |halt x w'=>simp only[AB]at c
  ·rename_i hw;simp only[hw]at b;exact h _ _ _ ((put_defers _ _ _).trans hd) g b
theorem YG {i:Nat}{a:Act}{C:ag->Prop}{K K':Act->(ag->Prop)->Prop}(d:(∀w w',C w->T w w'->C w')/\(∀w,C w->D w))
  (h:∀a' c,(∀w w',c w->T w w'->c w')->(∀w,c w->D w)->K a' c->K' a' c)(b:qV P ops T D Pn i K a C):qV P ops T D Pn i K' a C:=by
 unfold qV at*;split
 ·rename_i e;simp only[e]at b;exact h _ _ d.1 d.2 b
 ·rename_i o e
  simp only[e]at b;split
  ·rename_i hw
   simp only[hw,if_true]at b;obtain⟨R,r1,r2,f,g⟩:=b;exact⟨R,r1,r2,f,λv w hv=>h _ _ (r1 v) (r2 v) (g v w hv)⟩
  ·rename_i hw;simp only[hw]at b;exact h _ _ d.1 d.2 b
theorem Lu {i:Nat}{o:aH}{v:aI}{a:Act}{C:ag->Prop}(hi:ops[i]?=ah o)(d:∀w w',C w->T w w'->C w')(g:∀w,C w->D w)
  (hy:One P ops T D o v a){K:Act->(ag->Prop)->Prop}(h:K (a.put o.dst v) C):qV P ops T D Pn i K a C:=by
 unfold qV;simp only[hi];rcases hy with⟨hw,hv⟩|⟨hw,rfl⟩
 ·simp only[hw,if_true]
  refine⟨λu w=>u=v/\C w,λ_ _ _ hr c=>⟨hr.1,d _ _ hr.2 c⟩,λ_ _ hr=>g _ hr.2,λw hw=>?_,λu w hr=>?_⟩
  ·have b:=hv w (g w hw)
   unfold Oper.quietAt at b;generalize(execOp a.eval o).run P w=r at*;cases r with
   |ok n w'=>
    cases n<;>simp only[Oper.quietUpon]at b<;>simp only[AB]
    case value u=>exact⟨b.2,b.1 ▸hw⟩
    case skip=>exact⟨b.2.symm,b.1 ▸hw⟩
    case enter f args=>obtain⟨e1,hc⟩:=b;rw[e1];exact hc.mono λe j ⟨he,c⟩=>.inl ⟨v,he,rfl,d _ _ hw c⟩
   |halt x w'=>simp only[Oper.quietUpon]at b
  ·obtain⟨rfl,hr⟩:=hr
   have:(λw=>u=u/\C w)=C:=(by funext w;simp);show K (a.put o.dst u) (λw=>u=u/\C w);rw[this];exact h
 ·simp only[hw,Bool.false_eq_true,if_false];exact h
theorem YH {j:Nat}{c oj:aH}{v:aI}{C:ag->Prop}(i:ops[j]?=ah oj)(k:c.apart ops oj=af)
  (l:∀d b,c.op≠.select d b)(m:∀d b,oj.op≠.select d b){K:Act->(ag->Prop)->Prop}{a:Act}
  (hy:One P ops T D c v a)(h:qV P ops T D Pn j K (a.put c.dst v) C):
  qV P ops T D Pn j (λa' n=>One P ops T D c v a'/\K (a'.put c.dst v) n) a C:=by
 obtain⟨e,f,g⟩:=Oper.apart_spec k
 have keep:∀(a:Act),One P ops T D c v a->∀u,One P ops T D c v (a.put oj.dst u):=λa hy u=>hy.of_same (execOp_put c l a oj.dst u g) (wanted_put c a oj.dst u g)
 unfold qV at*;simp only[i]at*;rw[wanted_put oj a c.dst v e]at h;split
 ·rename_i hw
  simp only[hw,if_true]at h;obtain⟨R,r1,r2,o,p⟩:=h;refine⟨R,r1,r2,λw hw'=>?_,λu w hr=>⟨keep a hy u,by rw[<-Act.put_comm a v u f];exact p u w hr⟩⟩;have:=o w hw'
  rwa [execOp_put oj m a c.dst v e]at this
 ·rename_i hw
  simp only[hw]at h;exact⟨keep a hy _,by rw[<-Act.put_comm a v undef f];exact h⟩
def vg (P:aJ)(md:aN)(ops:Array aH)(Q:bG->Act->ag->Prop)(T:ag->ag->Prop)(D:ag->Prop)(Pn:List aZ->ag->Prop)(n f:Nat):Nat->Array Bool->Act->(ag->Prop)->Prop
 |0,listed,a,C=>(∀j∈Region.ready md ops listed,j=n)/\∀w,C w->wpAny P md ops Q f listed a w
 |fuel+1,listed,a,C=>Region.ready md ops listed≠[]/\
  ∀i∈Region.ready md ops listed,qV P ops T D Pn i (λa' b=>vg P md ops Q T D Pn n f fuel (listed.setIfInBounds i af) a' b) a C
theorem LC {ds:List Deferred}(b:∀c a w,a.defers=ds->Pn c w->Q (.panic c) a w){n f:Nat}:∀(fuel:Nat) (listed:Array Bool) (a:Act) (C:ag->Prop) (w:ag),a.defers=ds->C w->vg P md ops Q T D Pn n f fuel listed a C->wpAny P md ops Q (fuel+f) listed a w
 |0,_,_,_,_,_,hw,h=>by rw[bV];exact h.2 _ hw
 |fuel+1,_,_,_,_,hd,hw,h=>by rw[bn];exact⟨λd=>absurd d h.1,λi hi=>YF b hw hd (λa' e w' g hw' j=>LC b fuel _ a' e w' g hw' j) (h.2 i hi)⟩
theorem YI {n f:Nat}(hs:mJ md ops n=af){i:Nat}(I:i<n){l:aH}{v:aI}(hi:ops[i]?=ah l)(x:∀(j:Nat) (o:aH) p b,ops[j]?=ah o->o.op≠.select p b):
  ∀(fuel:Nat) (listed:Array Bool) (a:Act) (C:ag->Prop),Closed md ops listed->(∀w w',C w->T w w'->C w')->(∀w,C w->D w)->
   (∀j oj,ops[j]?=ah oj->j≠i->listed.getD j af=aj->(∀e∈oj.after,Region.binds md e=af->e.on≠i)->l.apart ops oj=af)->
   i∈Region.ready md ops listed->One P ops T D l v a->
   vg P md ops Q T D Pn n f fuel (listed.setIfInBounds i af) (a.put l.dst v) C->vg P md ops Q T D Pn n f (fuel+1) listed a C:=by
 intro fuel
 induction fuel with
 |zero=>
  intro listed a C s q r _ hr hy H;refine⟨λh=>(by rw[h]at hr;cases hr),λj m=>?_⟩;by_cases d:j=i
  ·subst d;exact Lu hi q r hy H
  ·have:=H.1 j (aY m d)
   subst this;have c:=wV hs s m _ i rfl I;have g:=(aQ.1 hr).1;rw[au]at c g;cases y:listed[i]? with
   |none=>rw[y]at c;cases c
   |some b=>rw[y]at c g;simp only[bz]at c g;rw[c]at g;cases g
 |succ fuel J=>
  intro listed a C s q r z hr hy H;refine⟨λh=>(by rw[h]at hr;cases hr),λj m=>?_⟩;by_cases d:j=i
  ·subst d;exact Lu hi q r hy H
  ·have c:=H.2 j (aY m d)
   have K:=s.set m;obtain⟨A,oj,t,L⟩:=aQ.1 m
   have M:∀e∈oj.after,Region.binds md e=af->e.on≠i:=λe he N O=>by
    have c:=L e he N;have B:=(aQ.1 hr).1;rw[O]at c;rcases bD i listed.size with u|u
    ·simp[u]at B c;rw[B]at c;cases c
    ·simp[aK u]at c
   have g:=YH t (z j oj t d A M) (λp b=>x i l p b hi) (λp b=>x j oj p b t) hy c
   have R:∀k ok,ops[k]?=ah ok->k≠i->(listed.setIfInBounds j af).getD k af=aj->
     (∀e∈ok.after,Region.binds md e=af->e.on≠i)->l.apart ops ok=af:=λk ok S U E V=>by
    refine z k ok S U ?_ V;by_cases F:j=k
    ·subst F;exact A
    ·rw[bY af F]at E;exact E
   refine YG ⟨q,r⟩ (λa' W X Y G=>J (listed.setIfInBounds j af) a' W K X Y R (aY hr (Ne.symm d)) G.1 ?_) g;rw[aS _ _ d];exact G.2
theorem LD {n f g:Nat}(hsc:mJ md ops n=af)(hs:aC ops=af)(c:∀w,T w w){C:ag->Prop}(d:∀w w',C w->T w w'->C w')(i:∀w,C w->D w)(m:∃ρ,D ρ){aF:Act}{listed':Array Bool}:
  ∀(l:List aH) (k:Nat) (listed:Array Bool) (a:Act) (seen:List Tmp),k+l.length<=n->Closed md ops listed->(∀j,j<l.length->l[j]?=ops[k+j]?)->
  kN md ops l.length k listed=ah listed'->kS a.tmps.size l seen=af->vC P ops T D aF l a->vg P md ops Q T D Pn n f g listed' aF C->vg P md ops Q T D Pn n f (l.length+g) listed a C
 |[],_,listed,a,_,_,_,_,b,_,h,hK=>by
  obtain⟨ρ,t⟩:=m;have e:a=aF:=h ρ t;have u:listed=listed':=by simpa[kN]using b
  subst e u;simpa using hK
 |o::l,k,listed,a,seen,p,q,r,b,hd,h,hK=>by
  have s:ops[k]?=ah o:=by simpa using(r 0 iH).symm
  simp only[aV,kN]at b;split at b
  case isFalse=>cases b
  rename_i hc;simp only[aT]at hc;obtain⟨v,x,y,z,A⟩:=DU c hd h;have hr:k∈Region.ready md ops listed:=by simpa using hc.1
  have:=LD hsc hs c d i m l (k+1) _ (a.put o.dst v) x (by simp at p;omega) (q.set hr) (λj B=>by have:=r (j+1) iI;simpa[bJ,bW 1 j]using this) b (by rw[DT];exact z) A hK;rw[aV,bn];exact YI hsc (by simp at p;omega) s (bI hs) (l.length+g) listed a C q d i (bP s hc.2) hr y this
theorem Dy {n f fuel:Nat}{listed:Array Bool}{a:Act}{C:ag->Prop}{i:Nat}{o:aH}(hr:Region.ready md ops listed=[i])(c:ops[i]?=ah o)(hw:ax o (yielded ops a.tmps)=af)
  (R:aI->ag->Prop)(hR:∀v w w',R v w->T w w'->R v w')(d:∀v w,R v w->D w)(e:∀w,C w->AB P R Pn ((execOp a.eval o).run P w))
  (hK:∀v w,R v w->vg P md ops Q T D Pn n f fuel (listed.setIfInBounds i af) (a.put o.dst v) (R v)):vg P md ops Q T D Pn n f (fuel+1) listed a C:=by
 refine⟨(λh=>by rw[hr]at h;cases h),λj b=>?_⟩;rw[hr]at b;obtain rfl:j=i:=by simpa using b
 unfold qV;simp only[c,hw,if_true];exact⟨R,hR,d,e,hK⟩
theorem LG {id:Nat}{a:Act}{w:ag}{l:List aH}(k g f:Nat)(C D:ag->Prop)(T:ag->ag->Prop)(Pn:List aZ->ag->Prop){aF:Act}(hm:P.follows .mixedOrders=af)
  (hn:k+g+f=l.length)(hsc:mJ .any l.toArray (k+g)=af)(hs:aC l.toArray=af)(q:kN .any l.toArray k 0 (ay l.length aj)=ah (ae k af++ae (g+f) aj).toArray)(hd:kS a.tmps.size (l.take k) []=af)
  (r:∀w,T w w)(s:∀w w',C w->T w w'->C w')(d:∀w,C w->D w)(e:C {w with drawn:=w.drawn+1})(t:∀h a' w,a'.defers=a.defers->Pn h w->Q (.panic h) a' w)(hA:vC P l.toArray T D aF (l.take k) a)
  (u:vg P .any l.toArray Q T D Pn (k+g) f g (ae k af++ae (g+f) aj).toArray aF C):(Code.region id l.toArray af).wp P Q a w:=by
 have b:(l.take k).length=k:=iI
 have v:Closed .any l.toArray (ay l.length aj):=by intro j o _ c;rw[au,bF]at c;split at c<;>cases c
 have i:=LD (P:=P) (md:=.any) (ops:=l.toArray) (Q:=Q) (T:=T) (D:=D) (Pn:=Pn) (n:=k+g) (f:=f) (g:=g) hsc hs r s d ⟨_,d _ e⟩ (l.take k) 0 (ay l.length aj) a [] (by rw[b];omega) v (λj m=>by rw[b]at m;simp[m]) (by rw[b];exact q) hd hA u;rw[b]at i;have p:=LC t (k+g) _ _ _ _ rfl e i;refine bU hm ?_;rw[hn]at p;simpa using p
theorem LH {listed:Array Bool}{a:Act}{w W':ag}{i:Nat}{o:aH}(hr:Region.ready md ops listed=[i])(e:ops[i]?=ah o)(hw:ax o (yielded ops a.tmps)=af)(hd:o.dst=az)(f:Region.ready md ops (listed.setIfInBounds i af)=[])
  (g:(execOp a.eval o).run P w=.ok .skip W')(h:Q .normal a W'):wpAny P md ops Q 1 listed a w:=by
 refine⟨(λc=>by rw[hr]at c;cases c),λj d=>?_⟩;rw[hr]at d;obtain rfl:j=i:=by simpa using d
 unfold wpOp;rw[e];simp only[hw,if_true];refine .inl ?_;unfold Oper.wp;rw[g];have b:wpAny P md ops Q 0 (listed.setIfInBounds j af) a W':=⟨f,h⟩
 first
  |exact b
  |(simp only[Oper.upon,hd];exact b)
  |(unfold Oper.upon;exact b)
end
section
variable {P:aJ} {ops:Array aH} {md:aN} {Q:bG->Act->ag->Prop}
theorem LJ {listed:Array Bool}{a:Act}{w W':ag}{i fuel:Nat}{o:aH}{v:aI}(hr:Region.ready md ops listed=[i])(d:ops[i]?=ah o)(e:o.guard=az)
  (f:(execOp a.eval o).run P w=.ok (.value v) W')(g:wpAny P md ops Q fuel (listed.setIfInBounds i af) (a.put o.dst v) W'):wpAny P md ops Q (fuel+1) listed a w:=by
 refine⟨(λb=>by rw[hr]at b;cases b),λj c=>?_⟩;rw[hr]at c;obtain rfl:j=i:=by simpa using c
 unfold wpOp;rw[d];simp only[ax,e,if_true];refine .inl ?_;unfold Oper.wp;rw[f];simp only[Oper.upon];exact g
theorem LK {id:Nat}{a:Act}{w:ag}{l:List aH}(k:Nat)(b d g on of os:aH){aF:Act}(D:ag->Prop)(f:FuncId)(args:Array aI)(c:Int->ag->Prop)(m:Int->aI->ag->Prop)(Pn:List aZ->ag->Prop)(e:TypeId)
  (hm:P.follows .mixedOrders=af)(ar:l.length=k+6)(hsc:mJ .any l.toArray (k+3)=af)(hs:aC l.toArray=af)
  (C:kN .any l.toArray k 0 (ay l.length aj)=ah (ae k af++ae (3+3) aj).toArray)(hd:kS a.tmps.size (l.take k) []=af)
  (E:l[k]?=ah b)(F:l[k+1]?=ah d)(G:l[k+2]?=ah g)(H:l[k+3]?=ah on)(I:l[k+4]?=ah of)(J:l[k+5]?=ah os)
  (gs:b.guard=az/\d.guard=az/\g.guard=az/\on.guard=az/\of.guard=az/\os.guard=az)(K:os.dst=az)
  (L:Region.ready .any l.toArray (ae k af++ae (3+3) aj).toArray=[k])
  (M:Region.ready .any l.toArray ((ae k af++ae (3+3) aj).toArray.setIfInBounds k af)=[k+1])
  (N:Region.ready .any l.toArray (((ae k af++ae (3+3) aj).toArray.setIfInBounds k af).setIfInBounds (k+1) af)=[k+2])
  (y:Region.ready .any l.toArray ((((ae k af++ae (3+3) aj).toArray.setIfInBounds k af).setIfInBounds (k+1) af).setIfInBounds (k+2) af)=[k+3])
  (O:Region.ready .any l.toArray (((((ae k af++ae (3+3) aj).toArray.setIfInBounds k af).setIfInBounds (k+1) af).setIfInBounds (k+2) af).setIfInBounds (k+3) af)=[k+4])
  (R:Region.ready .any l.toArray ((((((ae k af++ae (3+3) aj).toArray.setIfInBounds k af).setIfInBounds (k+1) af).setIfInBounds (k+2) af).setIfInBounds (k+3) af).setIfInBounds (k+4) af)=[k+5])
  (S:Region.ready .any l.toArray (((((((ae k af++ae (3+3) aj).toArray.setIfInBounds k af).setIfInBounds (k+1) af).setIfInBounds (k+2) af).setIfInBounds (k+3) af).setIfInBounds (k+4) af).setIfInBounds (k+5) af)=[])
  (T:∀n,D (w.drewN n))
  (hA:∀ρ:ag,D ρ->wpQuiet P l.toArray (λw'=>∃n,w'=ρ.drewN n) (λa'=>a'=aF) (l.take k) a)
  (hc:∀W,(execOp aF.eval b).run P W=.ok (.enter f args) W)
  (U:∀i a' W,a'.defers=a.defers->Pn i W->Q (.panic i) a' W)
  (V:∀n,bK P f args (w.drewN n) λe W=>(∃x,e=.returned (.int .i64 x)/\c x W)\/∃i,e=.panicked i/\Pn i W)
  (z:∀x W n,c x W->c x (W.drewN n))(A:∀x W,c x W->D W/\D (W.alloc (.cells #[.int .i64 x] e)))
  (X:∀x W,(execOp (aF.put b.dst (.int .i64 x)).eval d).run P W=.ok (.value (.slice (ah ⟨W.heap.size,0,az⟩) 1 1)) (W.alloc (.cells #[.int .i64 x] e)))
  (ha:∀x W,c x W->∃v' W',(execOp ((aF.put b.dst (.int .i64 x)).put d.dst (.slice (ah ⟨W.heap.size,0,az⟩) 1 1)).eval g).run P (W.alloc (.cells #[.int .i64 x] e))=.ok (.value v') W'/\m x v' W')
  (Y:∀x v W n,m x v W->m x v (W.drewN n))(aa:∀x v W,m x v W->D W)
  (ab:∀x u v' W',m x v' W'->∃o q r,(execOp (((aF.put b.dst (.int .i64 x)).put d.dst u).put g.dst v').eval on).run P W'=.ok (.value o) W'/\(execOp ((((aF.put b.dst (.int .i64 x)).put d.dst u).put g.dst v').put on.dst o).eval of).run P W'=.ok (.value q) W'/\
   (execOp (((((aF.put b.dst (.int .i64 x)).put d.dst u).put g.dst v').put on.dst o).put of.dst q).eval os).run P W'=.ok .skip r/\Q .normal (((((aF.put b.dst (.int .i64 x)).put d.dst u).put g.dst v').put on.dst o).put of.dst q) r):(Code.region id l.toArray af).wp P Q a w:=by
 obtain⟨g1,g2,ac,ad,ai,ak⟩:=gs;refine LG (aF:=aF) k 3 3 (λW=>∃n,W=w.drewN n) D (λw w'=>∃n,w'=w.drewN n) Pn hm iE hsc hs C hd (λw=>⟨0,rfl⟩) ?_ ?_ ⟨1,rfl⟩ U (λρ al=>hA ρ al) ?_
 ·rintro _ _ ⟨n,rfl⟩ ⟨j,rfl⟩
  exact⟨n+j,by simp[World.drewN,bJ]⟩
 ·rintro _ ⟨n,rfl⟩;exact T n
 refine Dy L (by simpa using E) (by unfold ax;rw[g1]) (λv W=>∃x,v=.int .i64 x/\c x W) ?_ ?_ ?_ ?_
 ·rintro v W _ ⟨x,h,hr⟩ ⟨n,rfl⟩;exact⟨x,h,z x W n hr⟩
 ·rintro v W ⟨x,h,hr⟩;exact(A x W hr).1
 ·rintro _ ⟨n,rfl⟩
  rw[hc];refine(V n).mono λe W h=>?_
  rcases h with⟨x,h,hr⟩|⟨i,h,hp⟩
  ·exact .inl ⟨_,h,x,rfl,hr⟩
  ·exact .inr ⟨i,h,hp⟩
 rintro _ av ⟨x,rfl,-⟩
 have am:(λW=>∃s,Value.int .i64 x=.int .i64 s/\c s W)=λW=>c x W:=by
  funext W
  apply propext;constructor
  ·rintro⟨s,h,hr⟩
   cases h;exact hr
  ·exact λhr=>⟨x,rfl,hr⟩
 rw[am];refine Dy M (by simpa using F) (by unfold ax;rw[g2]) (λu W=>∃Z,c x Z/\u=.slice (ah ⟨Z.heap.size,0,az⟩) 1 1/\W=Z.alloc (.cells #[.int .i64 x] e)) ?_ ?_ ?_ ?_
 ·rintro v W _ ⟨Z,p,an,rfl⟩ ⟨n,rfl⟩
  exact⟨Z.drewN n,z x Z n p,an,rfl⟩
 ·rintro v W ⟨Z,p,-,rfl⟩;exact(A x Z p).2
 ·intro W t
  rw[X];exact⟨W,t,rfl,rfl⟩
 rintro u aw -;refine Dy N (by simpa using G) (by unfold ax;rw[ac]) (λv' W=>m x v' W) ?_ ?_ ?_ ?_
 ·rintro v W _ h ⟨n,rfl⟩;exact Y x v W n h
 ·rintro v W h;exact aa x v W h
 ·rintro W ⟨Z,p,rfl,rfl⟩
  obtain⟨v',W',ao,hr⟩:=ha x Z p;rw[ao];exact hr
 rintro v' aD -;refine⟨?_,λW t=>?_⟩
 ·intro j B
  rw[y]at B;simpa using B
 obtain⟨o,q,r,e1,ap,e3,aq⟩:=ab x u v' W t;refine LJ y (by simpa using H) ad e1 ?_;refine LJ O (by simpa using I) ai ap ?_;exact LH R (by simpa using J) (by unfold ax;rw[ak]) K S e3 aq
end
theorem YJ {w:ag}{B a e size n:Nat}{v:aI}{xs:List aI}(h:w.ownsRow B e size v n xs)(d:a<=B):w.ownsRow a e size v n xs:=by
 refine⟨h.1,?_⟩;rcases h.2 with hn|⟨g,cap,b,hv,f,c⟩
 ·exact .inl hn
 ·exact .inr ⟨g,cap,b,hv,iE,c⟩
theorem YK {P:aJ}{w:ag}(base:Nat)(t ty e:TypeId)(i:TypeInfo)(z:aI)(size bytes:Nat)(q:P.underlying t=ah (.slice e))(hi:P.info? e=ah i)(x:i.zero=ah z)
  (d:i.size=size)(y:i.bytes=bytes)(E:z.cells.size=size)(F:0<size)
  (v:aI)(n:Nat)(xs:List aI)(G:w.ownsRow base e size v n xs)
  (a:Addr)(m c:Nat)(b:List aI)(f:b.length=m*size)(r:∀j u,b[j]?=ah u->w.cell? (a.add j)=ah u)(A:∀u∈b,u.oneCell'=af)
  (hm:0<m)(s:n+m<=maxLen)(B:(n+m)*bytes<=140737488355328)(H:base<=w.heap.size):
  ∃v' w',(Builtin.append_ #[t,t] ty #[v,.slice (ah a) m c]).run P w=.ok v' w'/\w'.ownsRow base e size v' (n+m) (xs++b)/\w.grownBy w' v.ownBlock/\∀k,v'.ownBlock=ah k->v.ownBlock=ah k\/w.heap.size<=k:=by
 have I:=G;obtain⟨J,hr|⟨g,cap,L,rfl,Q,M,R,S,N,T⟩⟩:=G
 ·obtain⟨rfl,rfl⟩:=hr
  have O:w.ownsRow w.heap.size e size (.slice az 0 0) 0 xs:=⟨J,.inl ⟨rfl,rfl⟩⟩;obtain⟨v',w',h,l,C,-⟩:=bT (P:=P) w w.heap.size t ty e i z size bytes q hi x d y E F _ 0 xs O a m c b f r A s B (aO _);exact⟨v',w',h,YJ l H,C,λk o=>.inr (World.ownsRow.lt l k o).1⟩
 ·obtain⟨v',w',h,l,C,-⟩:=bT (P:=P) w base t ty e i z size bytes q hi x d y E F _ n xs I a m c b f r A s B H
  refine⟨v',w',h,l,C,λk o=>?_⟩;by_cases hf:n+m<=cap
  ·have p:=run_append_room (P:=P) w t ty e i q hi g n cap L M a m c b (by rw[f,d]) r A hf (by rw[d,f,N,<-Nat.add_mul];exact Nat.mul_le_mul_right _ hf)
   rw[h]at p;have D:=(Result.ok.inj p).1;rw[D]at o;exact .inl o
  ·rcases l.2 with⟨_,U⟩|⟨g',V,W,rfl,-,X,-⟩
   ·omega
   ·by_cases K:w.heap.size<=g'
    ·cases Option.some.inj (show ah k=ah g' from o.symm)
     exact .inr K
    ·exfalso
     have Y:n+m<=9223372036854775807:=(by unfold maxLen at s;exact s);have p:=run_append_grow (P:=P) w t ty e i z q hi x ⟨g,0,az⟩ n cap xs (by rw[J,d]) (I.cells (g:=g) rfl) a m c b (by rw[f,d]) r iE iE (by rw[y];exact growslice_fits iE B);rw[h]at p;have D:=(Result.ok.inj p).1;cases D;exact K (aO _)
end Go.uZ
