import Derived.Test.YthcalnnipjflkaaGreatDoorP00
import Derived.BigQuiet
import Derived.RangeFuncNested
import Derived.RangeFuncBound
import Derived.RangeFuncCalls
import Derived.RangeFuncLeaves
import Derived.Shelf.Abstract
import Derived.Shelf.RegionOpen
import Derived.TacticsInMore
import Derived.LoopNIn
import Derived.LoopIn
open List renaming replicate -> ae, getD_eq_getElem?_getD -> au, getElem?_replicate -> aB, all_eq_true -> aI, getElem?_toArray -> aJ, replicate_append_replicate -> aK, getElem?_eq_some_iff -> aP, mem_range -> aQ, getElem?_eq_getElem -> aS, getElem?_append_right -> bF, setIfInBounds_toArray -> bH, range -> bJ, getElem?_append_left -> bK, eq_replicate_iff -> bW, getElem?_of_mem -> bY, set_append_left -> bZ, getElem?_set_ne -> cu, count_eq_zero -> dm, count_pos_iff -> dn, length_cons -> dB, count_set -> dF
open Bool renaming true -> af, false -> aj, and_eq_true -> aV, or_eq_true -> aW, false_eq_true -> dh
open Go renaming World -> ag, Value -> ax, Oper -> aC, Program -> aT, PanicEntry -> bn, mem_ready -> bC, Deferred -> bP, wp_region_any -> cZ, Exit -> dA, ready_mono -> dC, run_append_own -> dE
open Array renaming getD_eq_getD_getElem? -> ah, getElem?_setIfInBounds -> ay, getElem?_eq_getElem -> aA, size_setIfInBounds -> aN, getElem?_eq_none -> aO, ext_getElem? -> aY, replicate -> bu, any_eq_true' -> bD, getElem?_eq_some_iff -> bG
open Option renaming some -> az, getD_some -> aU, none -> aZ, map_some -> bz
open Go.Region renaming wanted -> aH, noSelect -> bU, Mode -> bV
open Nat renaming add_right_comm -> aX, lt_irrefl -> bI, lt_or_ge -> bQ, add_sub_cancel_left -> bT, zero_add -> di, lt_trichotomy -> dw, strongRecOn -> dD, add_assoc -> dG, le_refl -> dH, beq -> dI
set_option linter.all false
namespace Go.uZ
open Go.RowKit Go.Mix
open Go.iR (Closed mJ wV)
section
variable {P:aT} {ops:Array aC} {md:bV} {Q:dA->Act->ag->Prop} {T:ag->ag->Prop} {D:ag->Prop} {Pn:List bn->ag->Prop}
def AB (P:aT)(R:ax->ag->Prop)(Pn:List bn->ag->Prop):Result Next->Prop
 |.ok (.value u) w'=>R u w'
 |.ok .skip w'=>R undef w'
 |.ok (.enter f args) w'=>Calls P f args w' (λe a=>(∃v,e=.returned v/\R v a)\/∃b,e=.panicked b/\Pn b a)
 |_=>False
def qV (P:aT)(ops:Array aC)(T:ag->ag->Prop)(D:ag->Prop)(Pn:List bn->ag->Prop)(i:Nat)(K:Act->(ag->Prop)->Prop)(a:Act)(C:ag->Prop):Prop:=
 match ops[i]? with
 |none=>K a C
 |some o=>if aH o (yielded ops a.tmps)then
   ∃R:ax->ag->Prop,(∀v w w',R v w->T w w'->R v w')/\(∀v w,R v w->D w)/\(∀w,C w->AB P R Pn ((execOp a.eval o).run P w))/\∀v w,R v w->K (a.put o.dst v) (R v)
  else K (a.put o.dst undef) C
theorem put_defers (a:Act)(d:Option Tmp)(v:ax):(a.put d v).defers=a.defers:=by cases d<;>rfl
theorem YF {ds:List bP}(m:∀d a w,a.defers=ds->Pn d w->Q (.panic d) a w){i:Nat}{a:Act}{K:Act->(ag->Prop)->Prop}{K':Act->ag->Prop}{C:ag->Prop}{w:ag}(g:C w)(hd:a.defers=ds)
  (h:∀a' l w',a'.defers=ds->l w'->K a' l->K' a' w')(b:qV P ops T D Pn i K a C):wpOp P ops Q i K' a w:=by
 unfold qV at b;unfold wpOp;split
 ·rename_i j;simp only[j]at b;exact h _ _ _ hd g b
 ·rename_i o j
  simp only[j]at b;split
  ·rename_i hw
   simp only[hw,if_true]at b;obtain⟨R,-,-,p,k⟩:=b;refine .inl ?_;have c:=p w g;unfold Oper.wp;generalize(execOp a.eval o).run P w=r at*;cases r with
   |ok n w'=>
    cases n<;>simp only[AB]at c<;>simp only[Oper.upon]
    case value u=>exact h _ _ _ ((put_defers _ _ _).trans hd) c (k _ _ c)
    case skip=>exact h _ _ _ ((put_defers _ _ _).trans hd) c (k _ _ c)
    case enter f args=>
     refine c.mono λe q he=>?_
     rcases he with⟨v,he,hr⟩|⟨d,he,hp⟩
     ·subst he;exact h _ _ _ ((put_defers _ _ _).trans hd) hr (k _ _ hr)
     ·subst he;exact m _ _ _ hd hp
   |halt x w'=>simp only[AB]at c
  ·rename_i hw;simp only[hw]at b;exact h _ _ _ ((put_defers _ _ _).trans hd) g b
theorem YG {i:Nat}{a:Act}{C:ag->Prop}{K K':Act->(ag->Prop)->Prop}(d:(∀w w',C w->T w w'->C w')/\(∀w,C w->D w))
  (h:∀a' c,(∀w w',c w->T w w'->c w')->(∀w,c w->D w)->K a' c->K' a' c)(b:qV P ops T D Pn i K a C):qV P ops T D Pn i K' a C:=by
 unfold qV at*;split
 ·rename_i e;simp only[e]at b;exact h _ _ d.1 d.2 b
 ·rename_i o e
  simp only[e]at b;split
  ·rename_i hw
   simp only[hw,if_true]at b;obtain⟨R,r1,r2,f,g⟩:=b;exact⟨R,r1,r2,f,λv w hv=>h _ _ (r1 v) (r2 v) (g v w hv)⟩
  ·rename_i hw;simp only[hw]at b;exact h _ _ d.1 d.2 b
theorem Lu {i:Nat}{o:aC}{v:ax}{a:Act}{C:ag->Prop}(hi:ops[i]?=az o)(d:∀w w',C w->T w w'->C w')(g:∀w,C w->D w)
  (hy:One P ops T D o v a){K:Act->(ag->Prop)->Prop}(h:K (a.put o.dst v) C):qV P ops T D Pn i K a C:=by
 unfold qV;simp only[hi];rcases hy with⟨hw,hv⟩|⟨hw,rfl⟩
 ·simp only[hw,if_true]
  refine⟨λu w=>u=v/\C w,λ_ _ _ hr c=>⟨hr.1,d _ _ hr.2 c⟩,λ_ _ hr=>g _ hr.2,λw hw=>?_,λu w hr=>?_⟩
  ·have b:=hv w (g w hw)
   unfold Oper.quietAt at b;generalize(execOp a.eval o).run P w=r at*;cases r with
   |ok n w'=>
    cases n<;>simp only[Oper.quietUpon]at b<;>simp only[AB]
    case value u=>exact⟨b.2,b.1 ▸hw⟩
    case skip=>exact⟨b.2.symm,b.1 ▸hw⟩
    case enter f args=>obtain⟨e1,hc⟩:=b;rw[e1];exact hc.mono λe j ⟨he,c⟩=>.inl ⟨v,he,rfl,d _ _ hw c⟩
   |halt x w'=>simp only[Oper.quietUpon]at b
  ·obtain⟨rfl,hr⟩:=hr
   have:(λw=>u=u/\C w)=C:=(by funext w;simp);show K (a.put o.dst u) (λw=>u=u/\C w);rw[this];exact h
 ·simp only[hw,dh,if_false];exact h
theorem YH {j:Nat}{c oj:aC}{v:ax}{C:ag->Prop}(i:ops[j]?=az oj)(k:c.apart ops oj=af)
  (l:∀d b,c.op≠.select d b)(m:∀d b,oj.op≠.select d b){K:Act->(ag->Prop)->Prop}{a:Act}
  (hy:One P ops T D c v a)(h:qV P ops T D Pn j K (a.put c.dst v) C):
  qV P ops T D Pn j (λa' n=>One P ops T D c v a'/\K (a'.put c.dst v) n) a C:=by
 obtain⟨e,f,g⟩:=Oper.apart_spec k
 have keep:∀(a:Act),One P ops T D c v a->∀u,One P ops T D c v (a.put oj.dst u):=λa hy u=>hy.of_same (execOp_put c l a oj.dst u g) (wanted_put c a oj.dst u g)
 unfold qV at*;simp only[i]at*;rw[wanted_put oj a c.dst v e]at h;split
 ·rename_i hw
  simp only[hw,if_true]at h;obtain⟨R,r1,r2,o,p⟩:=h;refine⟨R,r1,r2,λw hw'=>?_,λu w hr=>⟨keep a hy u,by rw[<-Act.put_comm a v u f];exact p u w hr⟩⟩;have:=o w hw'
  rwa [execOp_put oj m a c.dst v e]at this
 ·rename_i hw
  simp only[hw]at h;exact⟨keep a hy _,by rw[<-Act.put_comm a v undef f];exact h⟩
def vg (P:aT)(md:bV)(ops:Array aC)(Q:dA->Act->ag->Prop)(T:ag->ag->Prop)(D:ag->Prop)(Pn:List bn->ag->Prop)(n f:Nat):Nat->Array Bool->Act->(ag->Prop)->Prop
 |0,listed,a,C=>(∀j∈Region.ready md ops listed,j=n)/\∀w,C w->wpAny P md ops Q f listed a w
 |fuel+1,listed,a,C=>Region.ready md ops listed≠[]/\
  ∀i∈Region.ready md ops listed,qV P ops T D Pn i (λa' b=>vg P md ops Q T D Pn n f fuel (listed.setIfInBounds i af) a' b) a C
theorem LC {ds:List bP}(b:∀c a w,a.defers=ds->Pn c w->Q (.panic c) a w){n f:Nat}:∀(fuel:Nat) (listed:Array Bool) (a:Act) (C:ag->Prop) (w:ag),a.defers=ds->C w->vg P md ops Q T D Pn n f fuel listed a C->wpAny P md ops Q (fuel+f) listed a w
 |0,_,_,_,_,_,hw,h=>by rw[di];exact h.2 _ hw
 |fuel+1,_,_,_,_,hd,hw,h=>by rw[aX];exact⟨λd=>absurd d h.1,λi hi=>YF b hw hd (λa' e w' g hw' j=>LC b fuel _ a' e w' g hw' j) (h.2 i hi)⟩
theorem YI {n f:Nat}(hs:mJ md ops n=af){i:Nat}(I:i<n){l:aC}{v:ax}(hi:ops[i]?=az l)(x:∀(j:Nat) (o:aC) p b,ops[j]?=az o->o.op≠.select p b):
  ∀(fuel:Nat) (listed:Array Bool) (a:Act) (C:ag->Prop),Closed md ops listed->(∀w w',C w->T w w'->C w')->(∀w,C w->D w)->
   (∀j oj,ops[j]?=az oj->j≠i->listed.getD j af=aj->(∀e∈oj.after,Region.binds md e=af->e.on≠i)->l.apart ops oj=af)->
   i∈Region.ready md ops listed->One P ops T D l v a->
   vg P md ops Q T D Pn n f fuel (listed.setIfInBounds i af) (a.put l.dst v) C->vg P md ops Q T D Pn n f (fuel+1) listed a C:=by
 intro fuel
 induction fuel with
 |zero=>
  intro listed a C s q r _ hr hy H;refine⟨λh=>(by rw[h]at hr;cases hr),λj m=>?_⟩;by_cases d:j=i
  ·subst d;exact Lu hi q r hy H
  ·have:=H.1 j (dC m d)
   subst this;have c:=wV hs s m _ i rfl I;have g:=(bC.1 hr).1;rw[ah]at c g;cases y:listed[i]? with
   |none=>rw[y]at c;cases c
   |some b=>rw[y]at c g;simp only[aU]at c g;rw[c]at g;cases g
 |succ fuel J=>
  intro listed a C s q r z hr hy H;refine⟨λh=>(by rw[h]at hr;cases hr),λj m=>?_⟩;by_cases d:j=i
  ·subst d;exact Lu hi q r hy H
  ·have c:=H.2 j (dC m d)
   have K:=s.set m;obtain⟨A,oj,t,L⟩:=bC.1 m
   have M:∀e∈oj.after,Region.binds md e=af->e.on≠i:=λe he N O=>by
    have c:=L e he N;have B:=(bC.1 hr).1;rw[O]at c;rcases bQ i listed.size with u|u
    ·simp[u]at B c;rw[B]at c;cases c
    ·simp[aO u]at c
   have g:=YH t (z j oj t d A M) (λp b=>x i l p b hi) (λp b=>x j oj p b t) hy c
   have R:∀k ok,ops[k]?=az ok->k≠i->(listed.setIfInBounds j af).getD k af=aj->
     (∀e∈ok.after,Region.binds md e=af->e.on≠i)->l.apart ops ok=af:=λk ok S U E V=>by
    refine z k ok S U ?_ V;by_cases F:j=k
    ·subst F;exact A
    ·rw[getD_set_ne af F]at E;exact E
   refine YG ⟨q,r⟩ (λa' W X Y G=>J (listed.setIfInBounds j af) a' W K X Y R (dC hr (Ne.symm d)) G.1 ?_) g;rw[Array.setIfInBounds_comm _ _ d];exact G.2
theorem LD {n f g:Nat}(hsc:mJ md ops n=af)(hs:bU ops=af)(c:∀w,T w w){C:ag->Prop}(d:∀w w',C w->T w w'->C w')(i:∀w,C w->D w)(m:∃ρ,D ρ){aF:Act}{listed':Array Bool}:
  ∀(l:List aC) (k:Nat) (listed:Array Bool) (a:Act) (seen:List Tmp),k+l.length<=n->Closed md ops listed->(∀j,j<l.length->l[j]?=ops[k+j]?)->
  kN md ops l.length k listed=az listed'->kS a.tmps.size l seen=af->vC P ops T D aF l a->vg P md ops Q T D Pn n f g listed' aF C->vg P md ops Q T D Pn n f (l.length+g) listed a C
 |[],_,listed,a,_,_,_,_,b,_,h,hK=>by
  obtain⟨ρ,t⟩:=m;have e:a=aF:=h ρ t;have u:listed=listed':=by simpa[kN]using b
  subst e u;simpa using hK
 |o::l,k,listed,a,seen,p,q,r,b,hd,h,hK=>by
  have s:ops[k]?=az o:=by simpa using(r 0 iH).symm
  simp only[dB,kN]at b;split at b
  case isFalse=>cases b
  rename_i hc;simp only[aV]at hc;obtain⟨v,x,y,z,A⟩:=DU c hd h;have hr:k∈Region.ready md ops listed:=by simpa using hc.1
  have:=LD hsc hs c d i m l (k+1) _ (a.put o.dst v) x (by simp at p;omega) (q.set hr) (λj B=>by have:=r (j+1) iI;simpa[dG,Nat.add_comm 1 j]using this) b (by rw[DT];exact z) A hK;rw[dB,aX];exact YI hsc (by simp at p;omega) s (Region.noSelect_spec hs) (l.length+g) listed a C q d i (Region.free_spec s hc.2) hr y this
theorem Dy {n f fuel:Nat}{listed:Array Bool}{a:Act}{C:ag->Prop}{i:Nat}{o:aC}(hr:Region.ready md ops listed=[i])(c:ops[i]?=az o)(hw:aH o (yielded ops a.tmps)=af)
  (R:ax->ag->Prop)(hR:∀v w w',R v w->T w w'->R v w')(d:∀v w,R v w->D w)(e:∀w,C w->AB P R Pn ((execOp a.eval o).run P w))
  (hK:∀v w,R v w->vg P md ops Q T D Pn n f fuel (listed.setIfInBounds i af) (a.put o.dst v) (R v)):vg P md ops Q T D Pn n f (fuel+1) listed a C:=by
 refine⟨(λh=>by rw[hr]at h;cases h),λj b=>?_⟩;rw[hr]at b;obtain rfl:j=i:=by simpa using b
 unfold qV;simp only[c,hw,if_true];exact⟨R,hR,d,e,hK⟩
theorem LG {id:Nat}{a:Act}{w:ag}{l:List aC}(k g f:Nat)(C D:ag->Prop)(T:ag->ag->Prop)(Pn:List bn->ag->Prop){aF:Act}(hm:P.follows .mixedOrders=af)
  (hn:k+g+f=l.length)(hsc:mJ .any l.toArray (k+g)=af)(hs:bU l.toArray=af)(q:kN .any l.toArray k 0 (bu l.length aj)=az (ae k af++ae (g+f) aj).toArray)(hd:kS a.tmps.size (l.take k) []=af)
  (r:∀w,T w w)(s:∀w w',C w->T w w'->C w')(d:∀w,C w->D w)(e:C {w with drawn:=w.drawn+1})(t:∀h a' w,a'.defers=a.defers->Pn h w->Q (.panic h) a' w)(hA:vC P l.toArray T D aF (l.take k) a)
  (u:vg P .any l.toArray Q T D Pn (k+g) f g (ae k af++ae (g+f) aj).toArray aF C):(Code.region id l.toArray af).wp P Q a w:=by
 have b:(l.take k).length=k:=iI
 have v:Closed .any l.toArray (bu l.length aj):=by intro j o _ c;rw[ah,Array.getElem?_replicate]at c;split at c<;>cases c
 have i:=LD (P:=P) (md:=.any) (ops:=l.toArray) (Q:=Q) (T:=T) (D:=D) (Pn:=Pn) (n:=k+g) (f:=f) (g:=g) hsc hs r s d ⟨_,d _ e⟩ (l.take k) 0 (bu l.length aj) a [] (by rw[b];omega) v (λj m=>by rw[b]at m;simp[m]) (by rw[b];exact q) hd hA u;rw[b]at i;have p:=LC t (k+g) _ _ _ _ rfl e i;refine cZ hm ?_;rw[hn]at p;simpa using p
theorem LH {listed:Array Bool}{a:Act}{w W':ag}{i:Nat}{o:aC}(hr:Region.ready md ops listed=[i])(e:ops[i]?=az o)(hw:aH o (yielded ops a.tmps)=af)(hd:o.dst=aZ)(f:Region.ready md ops (listed.setIfInBounds i af)=[])
  (g:(execOp a.eval o).run P w=.ok .skip W')(h:Q .normal a W'):wpAny P md ops Q 1 listed a w:=by
 refine⟨(λc=>by rw[hr]at c;cases c),λj d=>?_⟩;rw[hr]at d;obtain rfl:j=i:=by simpa using d
 unfold wpOp;rw[e];simp only[hw,if_true];refine .inl ?_;unfold Oper.wp;rw[g];have b:wpAny P md ops Q 0 (listed.setIfInBounds j af) a W':=⟨f,h⟩
 first
  |exact b
  |(simp only[Oper.upon,hd];exact b)
  |(unfold Oper.upon;exact b)
end
section
variable {P:aT} {ops:Array aC} {md:bV} {Q:dA->Act->ag->Prop}
theorem LJ {listed:Array Bool}{a:Act}{w W':ag}{i fuel:Nat}{o:aC}{v:ax}(hr:Region.ready md ops listed=[i])(d:ops[i]?=az o)(e:o.guard=aZ)
  (f:(execOp a.eval o).run P w=.ok (.value v) W')(g:wpAny P md ops Q fuel (listed.setIfInBounds i af) (a.put o.dst v) W'):wpAny P md ops Q (fuel+1) listed a w:=by
 refine⟨(λb=>by rw[hr]at b;cases b),λj c=>?_⟩;rw[hr]at c;obtain rfl:j=i:=by simpa using c
 unfold wpOp;rw[d];simp only[aH,e,if_true];refine .inl ?_;unfold Oper.wp;rw[f];simp only[Oper.upon];exact g
theorem LK {id:Nat}{a:Act}{w:ag}{l:List aC}(k:Nat)(b d g on of os:aC){aF:Act}(D:ag->Prop)(f:FuncId)(args:Array ax)(c:Int->ag->Prop)(m:Int->ax->ag->Prop)(Pn:List bn->ag->Prop)(e:TypeId)
  (hm:P.follows .mixedOrders=af)(ar:l.length=k+6)(hsc:mJ .any l.toArray (k+3)=af)(hs:bU l.toArray=af)
  (C:kN .any l.toArray k 0 (bu l.length aj)=az (ae k af++ae (3+3) aj).toArray)(hd:kS a.tmps.size (l.take k) []=af)
  (E:l[k]?=az b)(F:l[k+1]?=az d)(G:l[k+2]?=az g)(H:l[k+3]?=az on)(I:l[k+4]?=az of)(J:l[k+5]?=az os)
  (gs:b.guard=aZ/\d.guard=aZ/\g.guard=aZ/\on.guard=aZ/\of.guard=aZ/\os.guard=aZ)(K:os.dst=aZ)
  (L:Region.ready .any l.toArray (ae k af++ae (3+3) aj).toArray=[k])
  (M:Region.ready .any l.toArray ((ae k af++ae (3+3) aj).toArray.setIfInBounds k af)=[k+1])
  (N:Region.ready .any l.toArray (((ae k af++ae (3+3) aj).toArray.setIfInBounds k af).setIfInBounds (k+1) af)=[k+2])
  (y:Region.ready .any l.toArray ((((ae k af++ae (3+3) aj).toArray.setIfInBounds k af).setIfInBounds (k+1) af).setIfInBounds (k+2) af)=[k+3])
  (O:Region.ready .any l.toArray (((((ae k af++ae (3+3) aj).toArray.setIfInBounds k af).setIfInBounds (k+1) af).setIfInBounds (k+2) af).setIfInBounds (k+3) af)=[k+4])
  (R:Region.ready .any l.toArray ((((((ae k af++ae (3+3) aj).toArray.setIfInBounds k af).setIfInBounds (k+1) af).setIfInBounds (k+2) af).setIfInBounds (k+3) af).setIfInBounds (k+4) af)=[k+5])
  (S:Region.ready .any l.toArray (((((((ae k af++ae (3+3) aj).toArray.setIfInBounds k af).setIfInBounds (k+1) af).setIfInBounds (k+2) af).setIfInBounds (k+3) af).setIfInBounds (k+4) af).setIfInBounds (k+5) af)=[])
  (T:∀n,D (w.drewN n))
  (hA:∀ρ:ag,D ρ->wpQuiet P l.toArray (λw'=>∃n,w'=ρ.drewN n) (λa'=>a'=aF) (l.take k) a)
  (hc:∀W,(execOp aF.eval b).run P W=.ok (.enter f args) W)
  (U:∀i a' W,a'.defers=a.defers->Pn i W->Q (.panic i) a' W)
  (V:∀n,Calls P f args (w.drewN n) λe W=>(∃x,e=.returned (.int .i64 x)/\c x W)\/∃i,e=.panicked i/\Pn i W)
  (z:∀x W n,c x W->c x (W.drewN n))(A:∀x W,c x W->D W/\D (W.alloc (.cells #[.int .i64 x] e)))
  (X:∀x W,(execOp (aF.put b.dst (.int .i64 x)).eval d).run P W=.ok (.value (.slice (az ⟨W.heap.size,0,aZ⟩) 1 1)) (W.alloc (.cells #[.int .i64 x] e)))
  (ha:∀x W,c x W->∃v' W',(execOp ((aF.put b.dst (.int .i64 x)).put d.dst (.slice (az ⟨W.heap.size,0,aZ⟩) 1 1)).eval g).run P (W.alloc (.cells #[.int .i64 x] e))=.ok (.value v') W'/\m x v' W')
  (Y:∀x v W n,m x v W->m x v (W.drewN n))(aa:∀x v W,m x v W->D W)
  (ab:∀x u v' W',m x v' W'->∃o q r,(execOp (((aF.put b.dst (.int .i64 x)).put d.dst u).put g.dst v').eval on).run P W'=.ok (.value o) W'/\(execOp ((((aF.put b.dst (.int .i64 x)).put d.dst u).put g.dst v').put on.dst o).eval of).run P W'=.ok (.value q) W'/\
   (execOp (((((aF.put b.dst (.int .i64 x)).put d.dst u).put g.dst v').put on.dst o).put of.dst q).eval os).run P W'=.ok .skip r/\Q .normal (((((aF.put b.dst (.int .i64 x)).put d.dst u).put g.dst v').put on.dst o).put of.dst q) r):(Code.region id l.toArray af).wp P Q a w:=by
 obtain⟨g1,g2,ac,ad,ai,ak⟩:=gs;refine LG (aF:=aF) k 3 3 (λW=>∃n,W=w.drewN n) D (λw w'=>∃n,w'=w.drewN n) Pn hm iE hsc hs C hd (λw=>⟨0,rfl⟩) ?_ ?_ ⟨1,rfl⟩ U (λρ al=>hA ρ al) ?_
 ·rintro _ _ ⟨n,rfl⟩ ⟨j,rfl⟩
  exact⟨n+j,by simp[World.drewN,dG]⟩
 ·rintro _ ⟨n,rfl⟩;exact T n
 refine Dy L (by simpa using E) (by unfold aH;rw[g1]) (λv W=>∃x,v=.int .i64 x/\c x W) ?_ ?_ ?_ ?_
 ·rintro v W _ ⟨x,h,hr⟩ ⟨n,rfl⟩;exact⟨x,h,z x W n hr⟩
 ·rintro v W ⟨x,h,hr⟩;exact(A x W hr).1
 ·rintro _ ⟨n,rfl⟩
  rw[hc];refine(V n).mono λe W h=>?_
  rcases h with⟨x,h,hr⟩|⟨i,h,hp⟩
  ·exact .inl ⟨_,h,x,rfl,hr⟩
  ·exact .inr ⟨i,h,hp⟩
 rintro _ av ⟨x,rfl,-⟩
 have am:(λW=>∃s,Value.int .i64 x=.int .i64 s/\c s W)=λW=>c x W:=by
  funext W
  apply propext;constructor
  ·rintro⟨s,h,hr⟩
   cases h;exact hr
  ·exact λhr=>⟨x,rfl,hr⟩
 rw[am];refine Dy M (by simpa using F) (by unfold aH;rw[g2]) (λu W=>∃Z,c x Z/\u=.slice (az ⟨Z.heap.size,0,aZ⟩) 1 1/\W=Z.alloc (.cells #[.int .i64 x] e)) ?_ ?_ ?_ ?_
 ·rintro v W _ ⟨Z,p,an,rfl⟩ ⟨n,rfl⟩
  exact⟨Z.drewN n,z x Z n p,an,rfl⟩
 ·rintro v W ⟨Z,p,-,rfl⟩;exact(A x Z p).2
 ·intro W t
  rw[X];exact⟨W,t,rfl,rfl⟩
 rintro u aw -;refine Dy N (by simpa using G) (by unfold aH;rw[ac]) (λv' W=>m x v' W) ?_ ?_ ?_ ?_
 ·rintro v W _ h ⟨n,rfl⟩;exact Y x v W n h
 ·rintro v W h;exact aa x v W h
 ·rintro W ⟨Z,p,rfl,rfl⟩
  obtain⟨v',W',ao,hr⟩:=ha x Z p;rw[ao];exact hr
 rintro v' aD -;refine⟨?_,λW t=>?_⟩
 ·intro j B
  rw[y]at B;simpa using B
 obtain⟨o,q,r,e1,ap,e3,aq⟩:=ab x u v' W t;refine LJ y (by simpa using H) ad e1 ?_;refine LJ O (by simpa using I) ai ap ?_;exact LH R (by simpa using J) (by unfold aH;rw[ak]) K S e3 aq
end
theorem YJ {w:ag}{B a e size n:Nat}{v:ax}{xs:List ax}(h:w.ownsRow B e size v n xs)(d:a<=B):w.ownsRow a e size v n xs:=by
 refine⟨h.1,?_⟩;rcases h.2 with hn|⟨g,cap,b,hv,f,c⟩
 ·exact .inl hn
 ·exact .inr ⟨g,cap,b,hv,iE,c⟩
theorem YK {P:aT}{w:ag}(base:Nat)(t ty e:TypeId)(i:TypeInfo)(z:ax)(size bytes:Nat)(q:P.underlying t=az (.slice e))(hi:P.info? e=az i)(x:i.zero=az z)
  (d:i.size=size)(y:i.bytes=bytes)(E:z.cells.size=size)(F:0<size)
  (v:ax)(n:Nat)(xs:List ax)(G:w.ownsRow base e size v n xs)
  (a:Addr)(m c:Nat)(b:List ax)(f:b.length=m*size)(r:∀j u,b[j]?=az u->w.cell? (a.add j)=az u)(A:∀u∈b,u.oneCell'=af)
  (hm:0<m)(s:n+m<=maxLen)(B:(n+m)*bytes<=140737488355328)(H:base<=w.heap.size):
  ∃v' w',(Builtin.append_ #[t,t] ty #[v,.slice (az a) m c]).run P w=.ok v' w'/\w'.ownsRow base e size v' (n+m) (xs++b)/\w.grownBy w' v.ownBlock/\∀k,v'.ownBlock=az k->v.ownBlock=az k\/w.heap.size<=k:=by
 have I:=G;obtain⟨J,hr|⟨g,cap,L,rfl,Q,M,R,S,N,T⟩⟩:=G
 ·obtain⟨rfl,rfl⟩:=hr
  have O:w.ownsRow w.heap.size e size (.slice aZ 0 0) 0 xs:=⟨J,.inl ⟨rfl,rfl⟩⟩;obtain⟨v',w',h,l,C,-⟩:=dE (P:=P) w w.heap.size t ty e i z size bytes q hi x d y E F _ 0 xs O a m c b f r A s B (dH _);exact⟨v',w',h,YJ l H,C,λk o=>.inr (World.ownsRow.lt l k o).1⟩
 ·obtain⟨v',w',h,l,C,-⟩:=dE (P:=P) w base t ty e i z size bytes q hi x d y E F _ n xs I a m c b f r A s B H
  refine⟨v',w',h,l,C,λk o=>?_⟩;by_cases hf:n+m<=cap
  ·have p:=run_append_room (P:=P) w t ty e i q hi g n cap L M a m c b (by rw[f,d]) r A hf (by rw[d,f,N,<-Nat.add_mul];exact Nat.mul_le_mul_right _ hf)
   rw[h]at p;have D:=(Result.ok.inj p).1;rw[D]at o;exact .inl o
  ·rcases l.2 with⟨_,U⟩|⟨g',V,W,rfl,-,X,-⟩
   ·omega
   ·by_cases K:w.heap.size<=g'
    ·cases Option.some.inj (show az k=az g' from o.symm)
     exact .inr K
    ·exfalso
     have Y:n+m<=9223372036854775807:=(by unfold maxLen at s;exact s);have p:=run_append_grow (P:=P) w t ty e i z q hi x ⟨g,0,aZ⟩ n cap xs (by rw[J,d]) (I.cells (g:=g) rfl) a m c b (by rw[f,d]) r iE iE (by rw[y];exact growslice_fits iE B);rw[h]at p;have D:=(Result.ok.inj p).1;cases D;exact K (dH _)
end Go.uZ
namespace Go.iR
open Go.Mix Go.RowKit Go.Proofs.YthcalnnipjflkaaGreatDoor
def upd (x:Nat->ax)(i:Nat)(v:ax):Nat->ax:=λk=>if k=i then v else x k
theorem upd_same (x:Nat->ax)(i:Nat)(v:ax):upd x i v i=v:=by simp[upd]
theorem upd_ne {x:Nat->ax}{i k:Nat}(v:ax)(h:k≠i):upd x i v k=x k:=by simp[upd,h]
def xe (l:List aC)(n:Nat)(a:Nat->List Nat):Bool:=(bJ n).all λi=>(a i).all λk=>((l[i]?).map λo=>o.after.any λe=>Region.binds .any e&&decide (e.on<i)&&(dI e.on k||(a e.on).any (dI k))).getD aj
def yt (l:List aC)(n:Nat):Bool:=(bJ l.length).all λi=>decide (i<=n)||((l[i]?).map λo=>o.after.any λe=>Region.binds .any e&&decide (n<=e.on)).getD aj
section
variable {ro:Option Nat} {m:Nat} {P:aT} {Q:dA->Act->ag->Prop}
theorem Bh {l:List aC}{n:Nat}{d:Nat->List Nat}(h:xe l n d=af){L:Array Bool}(hc:Closed .any l.toArray L):
  ∀i,i<n->(∀o,l[i]?=az o->∀e∈o.after,Region.binds .any e=af->L.getD e.on aj=af)->∀k∈d i,L.getD k aj=af:=by
 intro i
 induction i using dD with
 |ind i g=>
  intro hi he k j;have a:=aI.1 (aI.1 h i (aQ.2 hi)) k j;cases b:l[i]? with
  |none=>rw[b]at a;cases a
  |some o=>
   rw[b]at a;simp only[bz,aU,bD,aV,decide_eq_true_eq,aW,Nat.beq_eq]at a;obtain⟨e,hm,⟨m,p⟩,c⟩:=a;have f:=he o b e hm m;rcases c with rfl|c
   ·exact f
   ·obtain⟨k',q,r⟩:=List.any_eq_true.1 c
    have e3:k=k':=Nat.eq_of_beq_eq_true r;subst e3;exact g e.on p iE (λo' s e' t u=>hc e.on o' (by simpa using s) f e' t u) k q
def jg (A:Array ax)(d0:Nat)(x:Nat->ax):Nat->Array ax
 |0=>A
 |n+1=>(jg A d0 x n).setIfInBounds (d0+n) (x n)
theorem xg (A:Array ax)(d0:Nat)(x:Nat->ax):∀n k,(jg A d0 x n)[k]?=if d0<=k/\k<d0+n/\k<A.size then az (x (k - d0))else A[k]?:=by
 have d:∀n,(jg A d0 x n).size=A.size:=by
  intro n
  induction n with
  |zero=>rfl
  |succ n b=>simp[jg,b]
 intro n
 induction n with
 |zero=>intro k;rw[gZ iE];rfl
 |succ n b=>
  intro k;rw[jg,ay,d,b];by_cases c:d0+n=k
  ·subst c
   rw[gY rfl];by_cases a:d0+n<A.size
   ·rw[gY a,gY ⟨iE,iE,a⟩,bT]
   ·rw[gZ a,gZ iE,aO iE]
  ·rw[gZ c]
   by_cases a:d0<=k/\k<d0+n/\k<A.size
   ·rw[gY a,gY ⟨a.1,iE,a.2.2⟩]
   ·rw[gZ a,gZ iE]
theorem Ht (A:Array ax)(d0:Nat)(x:Nat->ax)(n i:Nat)(v:ax)(hi:i<n):(jg A d0 x n).setIfInBounds (d0+i) v=jg A d0 (upd x i v) n:=by
 have c:(jg A d0 x n).size=A.size:=by
  have:∀n,(jg A d0 x n).size=A.size:=by
   intro n
   induction n with
   |zero=>rfl
   |succ n d=>simp[jg,d]
  exact this n
 apply aY;intro k;rw[ay,xg,xg,c];by_cases b:d0+i=k
 ·subst b
  rw[gY rfl];by_cases a:d0+i<A.size
  ·rw[gY a,gY ⟨iE,iE,a⟩,bT,upd_same]
  ·rw[gZ a,gZ iE,aO iE]
 ·rw[gZ b]
  by_cases a:d0<=k/\k<d0+n/\k<A.size
  ·rw[gY a,gY a,upd_ne v iE]
  ·rw[gZ a,gZ a]
end
end Go.iR
namespace Go.Mix
open Go.iR Go.RowKit Go.Proofs.YthcalnnipjflkaaGreatDoor
def Bi (l:List aC)(n:Nat)(d:Nat->Nat):Bool:=(bJ n).all λi=>((l[i]?).map λo=>decide (o.dst=az (d i))).getD aj
def zB (P:aT)(ops:Array aC)(a:Act)(T:ag->ag->Prop)(R:ax->ag->Prop)(o:aC)(X:ag):Prop:=
 (aH o (yielded ops a.tmps)=aj/\R undef X)\/(aH o (yielded ops a.tmps)=af/\
  ((∃v b,(execOp a.eval o).run P X=.ok (.value v) b/\T X b/\R v b)\/(∃f args,(execOp a.eval o).run P X=.ok (.enter f args) X/\Calls P f args X (λe b=>∃v,e=.returned v/\T X b/\R v b))))
section
variable {P:aT} {Q:dA->Act->ag->Prop}
theorem PT {l:List aC}{n:Nat}{d:Nat->Nat}(h:Bi l n d=af){i:Nat}(hi:i<n){o:aC}(b:l[i]?=az o):o.dst=az (d i):=by have a:=aI.1 h i (aQ.2 hi);rw[b]at a;simpa using a
theorem Hu {o:aC}{ops:Array aC}{i:Nat}{a:Act}{X:ag}{T:ag->ag->Prop}{R:ax->ag->Prop}{K:Act->ag->Prop}(hi:ops[i]?=az o)(hs:zB P ops a T R o X)
  (g:∀v b,(T X b\/X=b)->R v b->K (a.put o.dst v) b):wpOp P ops Q i K a X:=by
 unfold wpOp;rw[hi];rcases hs with⟨d,c⟩|⟨d,⟨v,b,c,h,j⟩|⟨f,args,c,h⟩⟩
 ·simp only[d,dh,if_false]
  exact g _ _ (.inr rfl) c
 ·simp only[d,if_true]
  refine .inl ?_;unfold Oper.wp;rw[c];exact g _ _ (.inl h) j
 ·simp only[d,if_true]
  refine .inl ?_;unfold Oper.wp;rw[c];refine h.mono ?_;rintro e b ⟨v,rfl,j,k⟩;exact g _ _ (.inl j) k
theorem Hw {l:List aC}{n f:Nat}{d:Nat->Nat}{B:Nat->List Nat}{w:ag}{T:ag->ag->Prop}{F:Nat->(Nat->ax)->ag->Prop}{A:(Nat->ax)->Act}(an:n+f=l.length)(M:Bi l n d=af)(E:xe l n B=af)(hsc:mJ .any l.toArray n=af)(N:yt l n=af)(O:uj l.toArray=af)
  (R:∀w w' S,T w w'->T w' S->T w S)(hA:∀x i v,i<n->(A x).put (az (d i)) v=A (upd x i v))
  (U:∀i x V X g,i<n->(∀k,k=i\/k∈B i->V k=x k)->(T X g\/X=g)->F i x X->F i V g)
  (W:∀i o x X,i<n->l[i]?=az o->T w X->(∀k∈B i,F k x X)->zB P l.toArray (A x) T (λv g=>F i (upd x i v) g) o X)
  (Y:∀x X,T w X->(∀k,k<n->F k x X)->wpAny P .any l.toArray Q f (ae n af++ae f aj).toArray (A x) X):
  ∀(fuel:Nat) (L:List Bool) (x:Nat->ax) (X:ag),L.length=n->L.count aj=fuel->Closed .any l.toArray (L++ae f aj).toArray->T w X->(∀k,k<n->L.getD k aj=af->F k x X)->
   wpAny P .any l.toArray Q (fuel+f) (L++ae f aj).toArray (A x) X
 |0,L,x,X,j,hc,_,hw,hf=>by
  have ao:L=ae n af:=by
   refine bW.2 ⟨j,λb m=>?_⟩;cases b with
   |true=>rfl
   |false=>exact absurd m (dm.1 hc)
  subst ao;rw[di];exact Y x X hw λk a=>hf k a (by rw[au,aB,gY a];rfl)
 |fuel+1,L,x,X,j,hc,t,hw,hf=>by
  have p:∀k,k<n->(L++ae f aj).toArray.getD k aj=L.getD k aj:=λk a=>by rw[ah,aJ,bK iE,au]
  have Z:∀k,n<=k->(L++ae f aj).toArray.getD k aj=aj:=λk a=>by rw[ah,aJ,bF iE,aB];split<;>rfl
  have aa:∃k,k<n/\L.getD k aj=aj:=by have:aj∈L:=dn.1 iE;obtain⟨k,a⟩:=bY this;exact⟨k,by rw[<-j];exact(aP.1 a).1,by rw[au,a];rfl⟩
  have aG:(L++ae f aj).toArray.size=l.toArray.size:=by simp[j];omega
  rw[aX];refine⟨λhr=>?_,λi hi=>?_⟩
  ·obtain⟨k,a,G⟩:=aa
   have r:=Hq O hr k iI
   have c:(L++ae f aj).toArray.getD k aj=af:=by rw[ah]at r⊢;have H:k<(L++ae f aj).toArray.size:=(by simp[j];omega);rw[aA H]at r⊢;exact r
   rw[p k a,G]at c;cases c
  ·obtain⟨G,o,C,r⟩:=bC.1 hi
   have H:i<l.length:=by simpa using(bG.1 C).1
   have s:i<n:=by
    rcases dw i n with h|h|h
    ·exact h
    ·subst h
     obtain⟨k,a,c⟩:=aa;have u:=wV hsc t hi _ k rfl a;rw[p k a,c]at u;cases u
    ·have c:=aI.1 N i (aQ.2 H)
     have y:l[i]?=az o:=(by simpa using C);rw[y]at c;simp only[bz,aU,bD,aV,decide_eq_true_eq,aW]at c;rcases c with c|⟨e,he,m,ap⟩
     ·omega
     ·have u:=r e he m
      rw[Z e.on ap]at u;cases u
   have y:l[i]?=az o:=(by simpa using C);have e1:=PT M s y;have ab:=Bh E t i s (λo' D e he m=>by rw[y]at D;cases Option.some.inj D;exact r e he m)
   have ac:∀k∈B i,k<n:=λk a=>by
    rcases bQ k n with h|h
    ·exact h
    ·have:=ab k a
     rw[Z k h]at this;cases this
   refine Hu C (W i o x X s y hw (λk a=>hf k (ac k a) (by rw[<-p k (ac k a)];exact ab k a))) ?_;intro v g ad aq;rw[e1,hA x i v s]
   have ar:(L++ae f aj).toArray.setIfInBounds i af=(L.set i af++ae f aj).toArray:=by rw[bH,bZ _ _ iE]
   have I:L.getD i aj=aj:=by have J:=G;rw[ah]at J;have av:i<(L++ae f aj).toArray.size:=(by simp[j];omega);rw[<-p i s,ah];rw[aA av]at J⊢;exact J
   have ai:=t.set hi;rw[ar]at ai⊢
   have aw:L[i]?=az aj:=by rw[au,aS iE]at I;rw[aS iE];exact ig az I
   refine Hw an M E hsc N O R hA U W Y fuel (L.set i af) (upd x i v) g (by simpa using j) ?_ ai (ad.elim (λh=>R _ _ _ hw h) (λh=>h▸hw)) λk a ak=>?_
   ·have aD:i<L.length:=iE
    rw[dF aD];have aE:L[i]=aj:=(aP.1 aw).2;rw[aE];have hp:0<L.count aj:=iE;simp only[beq_self_eq_true,if_true];have:((af==aj)=af)=False:=iH;simp only[this,if_false];omega
   ·by_cases K:k=i
    ·subst K;exact aq
    ·have al:L.getD k aj=af:=by
      rw[au,cu (λe=>K e.symm),<-au]at ak;exact ak
     refine U k x _ X g a (λq z=>?_) ad (hf k a al);refine upd_ne v λe=>?_
     subst e;rcases z with z|z
     ·exact K z.symm
     ·have aF:(L++ae f aj).toArray.getD k aj=af:=by rw[p k a];exact al
      have am:=Bh E t k a (λo' D e he m=>t k o' (by simpa using D) aF e he m) q z;rw[p q s,I]at am;cases am
theorem PU {id:Nat}{a:Act}{w:ag}{l:List aC}(n f:Nat)(d:Nat->Nat)(e:Nat->List Nat)(T:ag->ag->Prop)(F:Nat->(Nat->ax)->ag->Prop)(A:(Nat->ax)->Act)(g:Nat->ax)
  (hm:P.follows .mixedOrders=af)(m:n+f=l.length)(r:Bi l n d=af)(s:xe l n e=af)(hsc:mJ .any l.toArray n=af)(t:yt l n=af)(u:uj l.toArray=af)(y:A g=a)(hw:T w {w with drawn:=w.drawn+1})
  (z:∀w w' p,T w w'->T w' p->T w p)(hA:∀x i v,i<n->(A x).put (az (d i)) v=A (upd x i v))
  (B:∀i x q X c,i<n->(∀k,k=i\/k∈e i->q k=x k)->(T X c\/X=c)->F i x X->F i q c)
  (C:∀i o x X,i<n->l[i]?=az o->T w X->(∀k∈e i,F k x X)->zB P l.toArray (A x) T (λv c=>F i (upd x i v) c) o X)
  (D:∀x X,T w X->(∀k,k<n->F k x X)->wpAny P .any l.toArray Q f (ae n af++ae f aj).toArray (A x) X):(Code.region id l.toArray af).wp P Q a w:=by
 refine cZ hm ?_
 have h:=Hw (P:=P) (Q:=Q) m r s hsc t u z hA B C D n (ae n aj) g _ iH iH (by
  intro j o _ b;rw[ah,aJ,aK,aB]at b;split at b<;>cases b) hw (λk E b=>by
  rw[au,aB,gY E]at b;cases b)
 rw[aK,m,y]at h;simpa using h
end
theorem Ef (A:Array ax)(d0:Nat)(x:Nat->ax):∀n,(jg A d0 x n).size=A.size
 |0=>rfl
 |n+1=>by simp[jg,Ef A d0 x n]
theorem PZ (A:Array ax)(d0 a n:Nat)(x:Nat->ax)(v:ax)(h:a<d0\/d0+n<=a):
  (jg (A.setIfInBounds a (x n)) d0 x n).setIfInBounds a v=jg (A.setIfInBounds a v) d0 (upd x n v) n:=by
 apply aY;intro k;rw[ay,xg,xg,Ef,aN,aN];by_cases b:a=k
 ·subst b
  have hn:¬(d0<=a/\a<d0+n/\a<A.size):=iE
  rw[gY rfl,gZ hn,ay,gY rfl]
 ·rw[gZ b]
  by_cases c:d0<=k/\k<d0+n/\k<A.size
  ·rw[gY c,gY c,upd_ne v iE]
  ·rw[gZ c,gZ c,ay,ay,gZ b,gZ b]
theorem H9 (A:Array ax)(d0 a n:Nat)(x:Nat->ax)(hx:∀i,i<n->x i=A.getD (d0+i) undef)(c:x n=A.getD a undef):jg (A.setIfInBounds a (x n)) d0 x n=A:=by
 apply aY;intro k;rw[xg,aN,ay];split
 ·rename_i h
  rw[hx _ iE,show d0+(k - d0)=k by omega,ah,aA h.2.2];rfl
 ·split
  ·rename_i d
   subst d;split
   ·rename_i b
    rw[c,ah,aA b];rfl
   ·rename_i b
    rw[aO iE]
  ·rfl
section
variable {P:aT} {Q:dA->Act->ag->Prop}
theorem P6 {id:Nat}{A:Array ax}{ds:List bP}{w:ag}{l:List aC}(d0 n a f:Nat)(c:Nat->List Nat)(T:ag->ag->Prop)(F:Nat->(Nat->ax)->ag->Prop)
  (hm:P.follows .mixedOrders=af)(g:(n+1)+f=l.length)(hd:a<d0\/d0+n<=a)(j:Bi l (n+1) (λi=>if i<n then d0+i else a)=af)(m:xe l (n+1) c=af)(hsc:mJ .any l.toArray (n+1)=af)(p:yt l (n+1)=af)(q:uj l.toArray=af)(hw:T w {w with drawn:=w.drawn+1})
  (r:∀w w' d,T w w'->T w' d->T w d)
  (s:∀i x e X b,i<n+1->(∀k,k=i\/k∈c i->e k=x k)->(T X b\/X=b)->F i x X->F i e b)
  (t:∀i o x X,i<n+1->l[i]?=az o->T w X->(∀k∈c i,F k x X)->zB P l.toArray {tmps:=jg (A.setIfInBounds a (x n)) d0 x n,defers:=ds} T (λv b=>F i (upd x i v) b) o X)
  (u:∀x X,T w X->(∀k,k<n+1->F k x X)->wpAny P .any l.toArray Q f (ae (n+1) af++ae f aj).toArray {tmps:=jg (A.setIfInBounds a (x n)) d0 x n,defers:=ds} X):(Code.region id l.toArray af).wp P Q {tmps:=A,defers:=ds} w:=
 PU (n+1) f (λi=>if i<n then d0+i else a) c T F (λx=>{tmps:=jg (A.setIfInBounds a (x n)) d0 x n,defers:=ds}) (λi=>A.getD (if i<n then d0+i else a) undef) hm g j m hsc p q
  (ig (λz=>({tmps:=z,defers:=ds}:Act)) (H9 A d0 a n (λi=>A.getD (if i<n then d0+i else a) undef) (λi hi=>by simp only[gY hi]) (by simp only[bI,if_false]))) hw r
  (λx i v hi=>by
   by_cases h:i<n
   ·simp only[Act.put,gY h,Ht _ _ _ _ _ _ h,upd_ne (x:=x) v (show n≠i by omega)]
   ·obtain rfl:i=n:=iE
    simp only[Act.put,bI,if_false,PZ _ _ _ _ _ _ hd,upd_same]) s t u
theorem P7 {md:bV}{ops:Array aC}{listed:Array Bool}{a:Act}{w:ag}{i:Nat}{o:aC}(hr:Region.ready md ops listed=[i])(d:ops[i]?=az o)(hw:aH o (yielded ops a.tmps)=af)
  (h:o.wp P a w (λa' w'=>Region.ready md ops (listed.setIfInBounds i af)=[]/\Q .normal a' w') Q):wpAny P md ops Q 1 listed a w:=by
 refine⟨(λb=>by rw[hr]at b;cases b),λj c=>?_⟩;rw[hr]at c;obtain rfl:j=i:=by simpa using c
 unfold wpOp;rw[d];simp only[hw,if_true];exact .inl h
end
def Bl (P:aT)(ops:Array aC)(a:Act)(T:ag->ag->Prop)(R:ax->ag->Prop)(o:aC)(X:ag):Prop:=
 zB P ops a T R o X\/(aH o (yielded ops a.tmps)=af/\o.dst=aZ/\∃b,(execOp a.eval o).run P X=.ok .skip b/\T X b/\R undef b)
def Bo (ops:Array aC):Bool:=(bJ ops.size).all λj=>((ops[j]?).map λo=>o.after.all λe=>!Region.binds .any e||decide (e.on<j)).getD af
theorem P8 {ops:Array aC}{L:Array Bool}(f:Bo ops=af)(hr:Region.ready .any ops L=[]):∀i,i<ops.size->L.getD i af=af:=by
 intro i
 induction i using dD with
 |ind i g=>
  intro hi;cases a:L.getD i af with
  |true=>rfl
  |false=>
   exfalso
   have:i∈Region.ready .any ops L:=bC.2 ⟨a,ops[i],aA hi,λe he j=>by
    have b:=aI.1 f i (aQ.2 hi);rw[aA hi]at b;simp only[bz,aU,Array.all_eq_true',aW,Bool.not_eq_true',decide_eq_true_eq]at b;have c:e.on<i:=(b e he).resolve_left (by rw[j];exact Bool.noConfusion);have d:=g e.on c (Nat.lt_trans c hi)
    have k:e.on<L.size:=by
     rcases bQ e.on L.size with h|h
     ·exact h
     ·have l:i≥L.size:=iE
      rw[ah,aO l]at a;cases a
    rw[ah,aA k]at d⊢;exact d⟩
   rw[hr]at this;cases this
theorem Qa (A:Array ax)(d0 a n:Nat)(x:Nat->ax)(y v:ax)(h:a<d0\/d0+n<=a):
  (jg (A.setIfInBounds a y) d0 x n).setIfInBounds a v=jg (A.setIfInBounds a v) d0 x n:=by
 apply aY;intro k;rw[ay,xg,xg,Ef,aN,aN];by_cases b:a=k
 ·subst b
  have hn:¬(d0<=a/\a<d0+n/\a<A.size):=iE
  rw[gY rfl,gZ hn,ay,gY rfl]
 ·rw[gZ b]
  by_cases c:d0<=k/\k<d0+n/\k<A.size
  ·rw[gY c,gY c]
  ·rw[gZ c,gZ c,ay,ay,gZ b,gZ b]
theorem Bq (A:Array ax)(d0:Nat){x y:Nat->ax}:∀n,(∀i,i<n->x i=y i)->jg A d0 x n=jg A d0 y n
 |0,_=>rfl
 |n+1,h=>by rw[jg,jg,Bq A d0 n (λi hi=>h i iE),h n iE]
section
variable {P:aT} {Q:dA->Act->ag->Prop}
theorem Qb {o:aC}{ops:Array aC}{i:Nat}{a:Act}{X:ag}{T:ag->ag->Prop}{R:ax->ag->Prop}{K:Act->ag->Prop}(hi:ops[i]?=az o)(hs:Bl P ops a T R o X)
  (d:∀v b,(T X b\/X=b)->R v b->K (a.put o.dst v) b):wpOp P ops Q i K a X:=by
 rcases hs with hs|⟨e,hd,b,f,g,h⟩
 ·exact Hu hi hs d
 ·unfold wpOp
  rw[hi];simp only[e,if_true];refine .inl ?_;unfold Oper.wp;rw[f];have c:=d undef b (.inl g) h;rw[hd]at c
  first
   |exact c
   |(unfold Oper.upon;exact c)
   |(unfold Oper.upon;simp only[hd];exact c)
   |(simp only[Oper.upon,hd];exact c)
theorem Ia {l:List aC}{n f:Nat}{z:Nat->List Nat}{w:ag}{T:ag->ag->Prop}{F:Nat->(Nat->ax)->ag->Prop}{A:(Nat->ax)->Act}(al:n+f=l.length)(D:xe l n z=af)(hsc:f=0\/mJ .any l.toArray n=af)(K:yt l n=af)(M:Bo l.toArray=af)
  (N:∀w w' O,T w w'->T w' O->T w O)(hA:∀x i o v,i<n->l[i]?=az o->(A x).put o.dst v=A (upd x i v))
  (R:∀i x S X d,i<n->(∀k,k=i\/k∈z i->S k=x k)->(T X d\/X=d)->F i x X->F i S d)
  (U:∀i o x X,i<n->l[i]?=az o->T w X->(∀k∈z i,F k x X)->Bl P l.toArray (A x) T (λv d=>F i (upd x i v) d) o X)
  (V:∀x X,T w X->(∀k,k<n->F k x X)->wpAny P .any l.toArray Q f (ae n af++ae f aj).toArray (A x) X):
  ∀(fuel:Nat) (L:List Bool) (x:Nat->ax) (X:ag),L.length=n->L.count aj=fuel->Closed .any l.toArray (L++ae f aj).toArray->T w X->(∀k,k<n->L.getD k aj=af->F k x X)->
   wpAny P .any l.toArray Q (fuel+f) (L++ae f aj).toArray (A x) X
 |0,L,x,X,g,hc,_,hw,hf=>by
  have am:L=ae n af:=by
   refine bW.2 ⟨g,λb j=>?_⟩;cases b with
   |true=>rfl
   |false=>exact absurd j (dm.1 hc)
  subst am;rw[di];exact V x X hw λk a=>hf k a (by rw[au,aB,gY a];rfl)
 |fuel+1,L,x,X,g,hc,r,hw,hf=>by
  have m:∀k,k<n->(L++ae f aj).toArray.getD k aj=L.getD k aj:=λk a=>by rw[ah,aJ,bK iE,au]
  have W:∀k,n<=k->(L++ae f aj).toArray.getD k aj=aj:=λk a=>by rw[ah,aJ,bF iE,aB];split<;>rfl
  have Y:∃k,k<n/\L.getD k aj=aj:=by have:aj∈L:=dn.1 iE;obtain⟨k,a⟩:=bY this;exact⟨k,by rw[<-g];exact(aP.1 a).1,by rw[au,a];rfl⟩
  have aE:(L++ae f aj).toArray.size=l.toArray.size:=by simp[g];omega
  rw[aX];refine⟨λhr=>?_,λi hi=>?_⟩
  ·obtain⟨k,a,E⟩:=Y
   have p:=P8 M hr k iI
   have c:(L++ae f aj).toArray.getD k aj=af:=by rw[ah]at p⊢;have G:k<(L++ae f aj).toArray.size:=(by simp[g];omega);rw[aA G]at p⊢;exact p
   rw[m k a,E]at c;cases c
  ·obtain⟨E,o,B,p⟩:=bC.1 hi
   have G:i<l.length:=by simpa using(bG.1 B).1
   have s:i<n:=by
    rcases dw i n with h|h|h
    ·exact h
    ·subst h
     obtain⟨k,a,c⟩:=Y;have t:=wV (hsc.resolve_left iE) r hi _ k rfl a;rw[m k a,c]at t;cases t
    ·have c:=aI.1 K i (aQ.2 G)
     have u:l[i]?=az o:=(by simpa using B);rw[u]at c;simp only[bz,aU,bD,aV,decide_eq_true_eq,aW]at c;rcases c with c|⟨e,he,j,an⟩
     ·omega
     ·have t:=p e he j
      rw[W e.on an]at t;cases t
   have u:l[i]?=az o:=(by simpa using B);have Z:=Bh D r i s (λo' C e he j=>by rw[u]at C;cases Option.some.inj C;exact p e he j)
   have aa:∀k∈z i,k<n:=λk a=>by
    rcases bQ k n with h|h
    ·exact h
    ·have:=Z k a
     rw[W k h]at this;cases this
   refine Qb B (U i o x X s u hw (λk a=>hf k (aa k a) (by rw[<-m k (aa k a)];exact Z k a))) ?_;intro v d ab ao;rw[hA x i o v s u]
   have ap:(L++ae f aj).toArray.setIfInBounds i af=(L.set i af++ae f aj).toArray:=by rw[bH,bZ _ _ iE]
   have H:L.getD i aj=aj:=by have I:=E;rw[ah]at I;have aq:i<(L++ae f aj).toArray.size:=(by simp[g];omega);rw[<-m i s,ah];rw[aA aq]at I⊢;exact I
   have ac:=r.set hi;rw[ap]at ac⊢
   have ar:L[i]?=az aj:=by rw[au,aS iE]at H;rw[aS iE];exact ig az H
   refine Ia al D hsc K M N hA R U V fuel (L.set i af) (upd x i v) d (by simpa using g) ?_ ac (ab.elim (λh=>N _ _ _ hw h) (λh=>h▸hw)) λk a ad=>?_
   ·have av:i<L.length:=iE
    rw[dF av];have aw:L[i]=aj:=(aP.1 ar).2;rw[aw];have hp:0<L.count aj:=iE;simp only[beq_self_eq_true,if_true];have:((af==aj)=af)=False:=iH;simp only[this,if_false];omega
   ·by_cases J:k=i
    ·subst J;exact ao
    ·have ai:L.getD k aj=af:=by
      rw[au,cu (λe=>J e.symm),<-au]at ad;exact ad
     refine R k x _ X d a (λq y=>?_) ab (hf k a ai);refine upd_ne v λe=>?_
     subst e;rcases y with y|y
     ·exact J y.symm
     ·have aD:(L++ae f aj).toArray.getD k aj=af:=by rw[m k a];exact ai
      have ak:=Bh D r k a (λo' C e he j=>r k o' (by simpa using C) aD e he j) q y;rw[m q s,H]at ak;cases ak
theorem Qc {id:Nat}{a:Act}{w:ag}{l:List aC}(n f:Nat)(d:Nat->List Nat)(T:ag->ag->Prop)(F:Nat->(Nat->ax)->ag->Prop)(A:(Nat->ax)->Act)(e:Nat->ax)
  (hm:P.follows .mixedOrders=af)(g:n+f=l.length)(q:xe l n d=af)(hsc:f=0\/mJ .any l.toArray n=af)(r:yt l n=af)(s:Bo l.toArray=af)(t:A e=a)(hw:T w {w with drawn:=w.drawn+1})
  (u:∀w w' m,T w w'->T w' m->T w m)(hA:∀x i o v,i<n->l[i]?=az o->(A x).put o.dst v=A (upd x i v))
  (y:∀i x p X c,i<n->(∀k,k=i\/k∈d i->p k=x k)->(T X c\/X=c)->F i x X->F i p c)
  (z:∀i o x X,i<n->l[i]?=az o->T w X->(∀k∈d i,F k x X)->Bl P l.toArray (A x) T (λv c=>F i (upd x i v) c) o X)
  (B:∀x X,T w X->(∀k,k<n->F k x X)->wpAny P .any l.toArray Q f (ae n af++ae f aj).toArray (A x) X):(Code.region id l.toArray af).wp P Q a w:=by
 refine cZ hm ?_
 have h:=Ia (P:=P) (Q:=Q) g q hsc r s u hA y z B n (ae n aj) e _ iH iH (by
  intro j o _ b;rw[ah,aJ,aK,aB]at b;split at b<;>cases b) hw (λk C b=>by
  rw[au,aB,gY C]at b;cases b)
 rw[aK,g,t]at h;simpa using h
end
def Eg (l:List aC)(n d0 a:Nat):Bool:=((bJ n).all λi=>((l[i]?).map λo=>decide (o.dst=az (d0+i))).getD aj)&&(((l[n]?).map λo=>decide (o.dst=aZ)).getD aj&&((l[n+1]?).map λo=>decide (o.dst=az a)).getD aj)
def jA (A:Array ax)(ds:List bP)(d0 n a:Nat)(x:Nat->ax):Act:={tmps:=jg (A.setIfInBounds a (x (n+1))) d0 x n,defers:=ds}
theorem Qd {l:List aC}{A:Array ax}{ds:List bP}{d0 n a:Nat}(b:Eg l n d0 a=af)(hd:a<d0\/d0+n<=a)(x:Nat->ax)(i:Nat)(o:aC)(v:ax)(hi:i<n+2)(d:l[i]?=az o):
  (jA A ds d0 n a x).put o.dst v=jA A ds d0 n a (upd x i v):=by
 unfold Eg at b;simp only[aV]at b;by_cases e:i<n
 ·have h:=aI.1 b.1 i (aQ.2 e)
  rw[d]at h;have c:o.dst=az (d0+i):=by simpa using h
  rw[c];unfold jA;simp only[Act.put,Ht _ _ _ _ _ _ e,upd_ne (x:=x) v (show n+1≠i by omega)]
 ·by_cases f:i=n
  ·subst f
   have h:=b.2.1;rw[d]at h;have c:o.dst=aZ:=(by simpa using h);rw[c];unfold jA;simp only[Act.put,upd_ne (x:=x) v (show i+1≠i by omega)];rw[Bq _ d0 (x:=upd x i v) (y:=x) i (λk g=>upd_ne v iE)]
  ·obtain rfl:i=n+1:=iE
   have h:=b.2.2;rw[d]at h;have c:o.dst=az a:=(by simpa using h);rw[c];unfold jA;simp only[Act.put,Qa _ _ _ _ _ _ _ hd,upd_same];rw[Bq _ d0 (x:=upd x (n+1) v) (y:=x) n (λk g=>upd_ne v iE)]
section
variable {P:aT} {Q:dA->Act->ag->Prop}
theorem Eh {id:Nat}{A:Array ax}{ds:List bP}{w:ag}{l:List aC}(d0 n a:Nat)(c:Nat->List Nat)(T:ag->ag->Prop)(F:Nat->(Nat->ax)->ag->Prop)
  (hm:P.follows .mixedOrders=af)(g:n+2=l.length)(hd:a<d0\/d0+n<=a)(j:Eg l n d0 a=af)(m:xe l (n+2) c=af)(p:Bo l.toArray=af)(hr:Region.ready .any l.toArray (ae (n+2) af).toArray=[])(hw:T w {w with drawn:=w.drawn+1})
  (q:∀w w' d,T w w'->T w' d->T w d)
  (r:∀i x f X b,i<n+2->(∀k,k=i\/k∈c i->f k=x k)->(T X b\/X=b)->F i x X->F i f b)
  (s:∀i o x X,i<n+2->l[i]?=az o->T w X->(∀k∈c i,F k x X)->Bl P l.toArray (jA A ds d0 n a x) T (λv b=>F i (upd x i v) b) o X)
  (t:∀x X,T w X->(∀k,k<n+2->F k x X)->Q .normal (jA A ds d0 n a x) X):(Code.region id l.toArray af).wp P Q {tmps:=A,defers:=ds} w:=
 Qc (n+2) 0 c T F (jA A ds d0 n a) (λi=>if i<n then A.getD (d0+i) undef else A.getD a undef) hm g m (.inl rfl)
  (by unfold yt;rw[aI];intro i hi;rw[aQ]at hi;simp only[aW,decide_eq_true_eq];exact .inl iE) p
  (by
   unfold jA;rw[Bq _ d0 (x:=λi=>if i<n then A.getD (d0+i) undef else A.getD a undef) (y:=λi=>if i<n then A.getD (d0+i) undef else A.getD a undef) n (λ_ _=>rfl)]
   exact ig (λz=>({tmps:=z,defers:=ds}:Act)) (by
    have h:=H9 A d0 a n (λi=>if i<n then A.getD (d0+i) undef else A.getD a undef) (λi hi=>by simp only[gY hi]) (by simp only[bI,if_false])
    have e:(λi=>if i<n then A.getD (d0+i) undef else A.getD a undef) (n+1)=(λi=>if i<n then A.getD (d0+i) undef else A.getD a undef) n:=by simp only[bI,if_false,gZ (show ¬n+1<n by omega)]
    rw[e];exact h)) hw q
  (λx i o v hi u=>Qd j hd x i o v hi u) r s
  (λx X B hF=>by refine⟨?_,t x X B hF⟩;rw[List.replicate_zero,List.append_nil];exact hr)
end
