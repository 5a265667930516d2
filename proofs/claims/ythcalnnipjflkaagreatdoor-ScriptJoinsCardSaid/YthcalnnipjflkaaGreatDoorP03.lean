import Derived.Test.YthcalnnipjflkaaGreatDoorP02
import Derived.BigQuiet
import Derived.RangeFuncNested
import Derived.RangeFuncBound
import Derived.RangeFuncCalls
import Derived.RangeFuncLeaves
import Derived.Shelf.Abstract
import Derived.Shelf.RegionOpen
import Derived.TacticsInMore
import Derived.LoopNIn
import Derived.LoopIn
open List renaming replicate -> ae, getD_eq_getElem?_getD -> ah, getElem?_replicate -> aA, all_eq_true -> aB, getElem?_toArray -> aC, replicate_append_replicate -> aI, getElem?_eq_some_iff -> aN, mem_range -> aO, getElem?_eq_getElem -> aP, getElem?_append_right -> aZ, setIfInBounds_toArray -> bu, range -> bC, getElem?_append_left -> bD, eq_replicate_iff -> bH, getElem?_of_mem -> bI, set_append_left -> bJ, getElem?_set_ne -> bK, count_eq_zero -> bP, count_pos_iff -> bQ, count_set -> bZ
open Array renaming getD_eq_getD_getElem? -> af, getElem?_setIfInBounds -> aj, getElem?_eq_getElem -> az, size_setIfInBounds -> aJ, getElem?_eq_none -> aQ, ext_getElem? -> aT, any_eq_true' -> aX, getElem?_eq_some_iff -> bn
open Bool renaming false -> ag, true -> au, or_eq_true -> aS, and_eq_true -> aV
open Go renaming Value -> ax, World -> ay, Oper -> aK, Program -> bF, Deferred -> bW, mem_ready -> cu, wp_region_any -> cZ
open Option renaming some -> aH, getD_some -> aU, map_some -> aW
open Go.Region renaming wanted -> aY
open Nat renaming lt_irrefl -> bz, add_sub_cancel_left -> bG, add_right_comm -> bT, lt_or_ge -> bU, lt_trichotomy -> bV, strongRecOn -> bY, zero_add -> dh, beq -> di
set_option linter.all false
namespace Go.iR
open Go.Mix Go.RowKit Go.Proofs.YthcalnnipjflkaaGreatDoor
def upd (x:Nat->ax)(i:Nat)(v:ax):Nat->ax:=λk=>if k=i then v else x k
theorem upd_same (x:Nat->ax)(i:Nat)(v:ax):upd x i v i=v:=by simp[upd]
theorem upd_ne {x:Nat->ax}{i k:Nat}(v:ax)(h:k≠i):upd x i v k=x k:=by simp[upd,h]
def xe (l:List aK)(n:Nat)(a:Nat->List Nat):Bool:=(bC n).all λi=>(a i).all λk=>((l[i]?).map λo=>o.after.any λe=>Region.binds .any e&&decide (e.on<i)&&(di e.on k||(a e.on).any (di k))).getD ag
def yt (l:List aK)(n:Nat):Bool:=(bC l.length).all λi=>decide (i<=n)||((l[i]?).map λo=>o.after.any λe=>Region.binds .any e&&decide (n<=e.on)).getD ag
section
variable {ro:Option Nat} {m:Nat} {P:bF} {Q:Exit->Act->ay->Prop}
theorem Bh {l:List aK}{n:Nat}{d:Nat->List Nat}(h:xe l n d=au){L:Array Bool}(hc:Closed .any l.toArray L):
  ∀i,i<n->(∀o,l[i]?=aH o->∀e∈o.after,Region.binds .any e=au->L.getD e.on ag=au)->∀k∈d i,L.getD k ag=au:=by
 intro i
 induction i using bY with
 |ind i g=>
  intro hi he k j;have a:=aB.1 (aB.1 h i (aO.2 hi)) k j;cases b:l[i]? with
  |none=>rw[b]at a;cases a
  |some o=>
   rw[b]at a;simp only[aW,aU,aX,aV,decide_eq_true_eq,aS,Nat.beq_eq]at a;obtain⟨e,hm,⟨m,p⟩,c⟩:=a;have f:=he o b e hm m;rcases c with rfl|c
   ·exact f
   ·obtain⟨k',q,r⟩:=List.any_eq_true.1 c
    have e3:k=k':=Nat.eq_of_beq_eq_true r;subst e3;exact g e.on p iE (λo' s e' t u=>hc e.on o' (by simpa using s) f e' t u) k q
def jg (A:Array ax)(d0:Nat)(x:Nat->ax):Nat->Array ax
 |0=>A
 |n+1=>(jg A d0 x n).setIfInBounds (d0+n) (x n)
theorem xg (A:Array ax)(d0:Nat)(x:Nat->ax):∀n k,(jg A d0 x n)[k]?=if d0<=k/\k<d0+n/\k<A.size then aH (x (k - d0))else A[k]?:=by
 have d:∀n,(jg A d0 x n).size=A.size:=by
  intro n
  induction n with
  |zero=>rfl
  |succ n b=>simp[jg,b]
 intro n
 induction n with
 |zero=>intro k;rw[gZ iE];rfl
 |succ n b=>
  intro k;rw[jg,aj,d,b];by_cases c:d0+n=k
  ·subst c
   rw[gY rfl];by_cases a:d0+n<A.size
   ·rw[gY a,gY ⟨iE,iE,a⟩,bG]
   ·rw[gZ a,gZ iE,aQ iE]
  ·rw[gZ c]
   by_cases a:d0<=k/\k<d0+n/\k<A.size
   ·rw[gY a,gY ⟨a.1,iE,a.2.2⟩]
   ·rw[gZ a,gZ iE]
theorem Ht (A:Array ax)(d0:Nat)(x:Nat->ax)(n i:Nat)(v:ax)(hi:i<n):(jg A d0 x n).setIfInBounds (d0+i) v=jg A d0 (upd x i v) n:=by
 have c:(jg A d0 x n).size=A.size:=by
  have:∀n,(jg A d0 x n).size=A.size:=by
   intro n
   induction n with
   |zero=>rfl
   |succ n d=>simp[jg,d]
  exact this n
 apply aT;intro k;rw[aj,xg,xg,c];by_cases b:d0+i=k
 ·subst b
  rw[gY rfl];by_cases a:d0+i<A.size
  ·rw[gY a,gY ⟨iE,iE,a⟩,bG,upd_same]
  ·rw[gZ a,gZ iE,aQ iE]
 ·rw[gZ b]
  by_cases a:d0<=k/\k<d0+n/\k<A.size
  ·rw[gY a,gY a,upd_ne v iE]
  ·rw[gZ a,gZ a]
end
end Go.iR
namespace Go.Mix
open Go.iR Go.RowKit Go.Proofs.YthcalnnipjflkaaGreatDoor
def Bi (l:List aK)(n:Nat)(d:Nat->Nat):Bool:=(bC n).all λi=>((l[i]?).map λo=>decide (o.dst=aH (d i))).getD ag
def zB (P:bF)(ops:Array aK)(a:Act)(T:ay->ay->Prop)(R:ax->ay->Prop)(o:aK)(X:ay):Prop:=
 (aY o (yielded ops a.tmps)=ag/\R undef X)\/(aY o (yielded ops a.tmps)=au/\
  ((∃v b,(execOp a.eval o).run P X=.ok (.value v) b/\T X b/\R v b)\/(∃f args,(execOp a.eval o).run P X=.ok (.enter f args) X/\Calls P f args X (λe b=>∃v,e=.returned v/\T X b/\R v b))))
section
variable {P:bF} {Q:Exit->Act->ay->Prop}
theorem PT {l:List aK}{n:Nat}{d:Nat->Nat}(h:Bi l n d=au){i:Nat}(hi:i<n){o:aK}(b:l[i]?=aH o):o.dst=aH (d i):=by have a:=aB.1 h i (aO.2 hi);rw[b]at a;simpa using a
theorem Hu {o:aK}{ops:Array aK}{i:Nat}{a:Act}{X:ay}{T:ay->ay->Prop}{R:ax->ay->Prop}{K:Act->ay->Prop}(hi:ops[i]?=aH o)(hs:zB P ops a T R o X)
  (g:∀v b,(T X b\/X=b)->R v b->K (a.put o.dst v) b):wpOp P ops Q i K a X:=by
 unfold wpOp;rw[hi];rcases hs with⟨d,c⟩|⟨d,⟨v,b,c,h,j⟩|⟨f,args,c,h⟩⟩
 ·simp only[d,Bool.false_eq_true,if_false]
  exact g _ _ (.inr rfl) c
 ·simp only[d,if_true]
  refine .inl ?_;unfold Oper.wp;rw[c];exact g _ _ (.inl h) j
 ·simp only[d,if_true]
  refine .inl ?_;unfold Oper.wp;rw[c];refine h.mono ?_;rintro e b ⟨v,rfl,j,k⟩;exact g _ _ (.inl j) k
theorem Hw {l:List aK}{n f:Nat}{d:Nat->Nat}{B:Nat->List Nat}{w:ay}{T:ay->ay->Prop}{F:Nat->(Nat->ax)->ay->Prop}{A:(Nat->ax)->Act}(an:n+f=l.length)(M:Bi l n d=au)(E:xe l n B=au)(hsc:mJ .any l.toArray n=au)(N:yt l n=au)(O:uj l.toArray=au)
  (R:∀w w' S,T w w'->T w' S->T w S)(hA:∀x i v,i<n->(A x).put (aH (d i)) v=A (upd x i v))
  (U:∀i x V X g,i<n->(∀k,k=i\/k∈B i->V k=x k)->(T X g\/X=g)->F i x X->F i V g)
  (W:∀i o x X,i<n->l[i]?=aH o->T w X->(∀k∈B i,F k x X)->zB P l.toArray (A x) T (λv g=>F i (upd x i v) g) o X)
  (Y:∀x X,T w X->(∀k,k<n->F k x X)->wpAny P .any l.toArray Q f (ae n au++ae f ag).toArray (A x) X):
  ∀(fuel:Nat) (L:List Bool) (x:Nat->ax) (X:ay),L.length=n->L.count ag=fuel->Closed .any l.toArray (L++ae f ag).toArray->T w X->(∀k,k<n->L.getD k ag=au->F k x X)->
   wpAny P .any l.toArray Q (fuel+f) (L++ae f ag).toArray (A x) X
 |0,L,x,X,j,hc,_,hw,hf=>by
  have ao:L=ae n au:=by
   refine bH.2 ⟨j,λb m=>?_⟩;cases b with
   |true=>rfl
   |false=>exact absurd m (bP.1 hc)
  subst ao;rw[dh];exact Y x X hw λk a=>hf k a (by rw[ah,aA,gY a];rfl)
 |fuel+1,L,x,X,j,hc,t,hw,hf=>by
  have p:∀k,k<n->(L++ae f ag).toArray.getD k ag=L.getD k ag:=λk a=>by rw[af,aC,bD iE,ah]
  have Z:∀k,n<=k->(L++ae f ag).toArray.getD k ag=ag:=λk a=>by rw[af,aC,aZ iE,aA];split<;>rfl
  have aa:∃k,k<n/\L.getD k ag=ag:=by have:ag∈L:=bQ.1 iE;obtain⟨k,a⟩:=bI this;exact⟨k,by rw[<-j];exact(aN.1 a).1,by rw[ah,a];rfl⟩
  have aG:(L++ae f ag).toArray.size=l.toArray.size:=by simp[j];omega
  rw[bT];refine⟨λhr=>?_,λi hi=>?_⟩
  ·obtain⟨k,a,G⟩:=aa
   have r:=Hq O hr k iI
   have c:(L++ae f ag).toArray.getD k ag=au:=by rw[af]at r⊢;have H:k<(L++ae f ag).toArray.size:=(by simp[j];omega);rw[az H]at r⊢;exact r
   rw[p k a,G]at c;cases c
  ·obtain⟨G,o,C,r⟩:=cu.1 hi
   have H:i<l.length:=by simpa using(bn.1 C).1
   have s:i<n:=by
    rcases bV i n with h|h|h
    ·exact h
    ·subst h
     obtain⟨k,a,c⟩:=aa;have u:=wV hsc t hi _ k rfl a;rw[p k a,c]at u;cases u
    ·have c:=aB.1 N i (aO.2 H)
     have y:l[i]?=aH o:=(by simpa using C);rw[y]at c;simp only[aW,aU,aX,aV,decide_eq_true_eq,aS]at c;rcases c with c|⟨e,he,m,ap⟩
     ·omega
     ·have u:=r e he m
      rw[Z e.on ap]at u;cases u
   have y:l[i]?=aH o:=(by simpa using C);have e1:=PT M s y;have ab:=Bh E t i s (λo' D e he m=>by rw[y]at D;cases Option.some.inj D;exact r e he m)
   have ac:∀k∈B i,k<n:=λk a=>by
    rcases bU k n with h|h
    ·exact h
    ·have:=ab k a
     rw[Z k h]at this;cases this
   refine Hu C (W i o x X s y hw (λk a=>hf k (ac k a) (by rw[<-p k (ac k a)];exact ab k a))) ?_;intro v g ad aq;rw[e1,hA x i v s]
   have ar:(L++ae f ag).toArray.setIfInBounds i au=(L.set i au++ae f ag).toArray:=by rw[bu,bJ _ _ iE]
   have I:L.getD i ag=ag:=by have J:=G;rw[af]at J;have av:i<(L++ae f ag).toArray.size:=(by simp[j];omega);rw[<-p i s,af];rw[az av]at J⊢;exact J
   have ai:=t.set hi;rw[ar]at ai⊢
   have aw:L[i]?=aH ag:=by rw[ah,aP iE]at I;rw[aP iE];exact ig aH I
   refine Hw an M E hsc N O R hA U W Y fuel (L.set i au) (upd x i v) g (by simpa using j) ?_ ai (ad.elim (λh=>R _ _ _ hw h) (λh=>h▸hw)) λk a ak=>?_
   ·have aD:i<L.length:=iE
    rw[bZ aD];have aE:L[i]=ag:=(aN.1 aw).2;rw[aE];have hp:0<L.count ag:=iE;simp only[beq_self_eq_true,if_true];have:((au==ag)=au)=False:=iH;simp only[this,if_false];omega
   ·by_cases K:k=i
    ·subst K;exact aq
    ·have al:L.getD k ag=au:=by
      rw[ah,bK (λe=>K e.symm),<-ah]at ak;exact ak
     refine U k x _ X g a (λq z=>?_) ad (hf k a al);refine upd_ne v λe=>?_
     subst e;rcases z with z|z
     ·exact K z.symm
     ·have aF:(L++ae f ag).toArray.getD k ag=au:=by rw[p k a];exact al
      have am:=Bh E t k a (λo' D e he m=>t k o' (by simpa using D) aF e he m) q z;rw[p q s,I]at am;cases am
theorem PU {id:Nat}{a:Act}{w:ay}{l:List aK}(n f:Nat)(d:Nat->Nat)(e:Nat->List Nat)(T:ay->ay->Prop)(F:Nat->(Nat->ax)->ay->Prop)(A:(Nat->ax)->Act)(g:Nat->ax)
  (hm:P.follows .mixedOrders=au)(m:n+f=l.length)(r:Bi l n d=au)(s:xe l n e=au)(hsc:mJ .any l.toArray n=au)(t:yt l n=au)(u:uj l.toArray=au)(y:A g=a)(hw:T w {w with drawn:=w.drawn+1})
  (z:∀w w' p,T w w'->T w' p->T w p)(hA:∀x i v,i<n->(A x).put (aH (d i)) v=A (upd x i v))
  (B:∀i x q X c,i<n->(∀k,k=i\/k∈e i->q k=x k)->(T X c\/X=c)->F i x X->F i q c)
  (C:∀i o x X,i<n->l[i]?=aH o->T w X->(∀k∈e i,F k x X)->zB P l.toArray (A x) T (λv c=>F i (upd x i v) c) o X)
  (D:∀x X,T w X->(∀k,k<n->F k x X)->wpAny P .any l.toArray Q f (ae n au++ae f ag).toArray (A x) X):(Code.region id l.toArray au).wp P Q a w:=by
 refine cZ hm ?_
 have h:=Hw (P:=P) (Q:=Q) m r s hsc t u z hA B C D n (ae n ag) g _ iH iH (by
  intro j o _ b;rw[af,aC,aI,aA]at b;split at b<;>cases b) hw (λk E b=>by
  rw[ah,aA,gY E]at b;cases b)
 rw[aI,m,y]at h;simpa using h
end
theorem Ef (A:Array ax)(d0:Nat)(x:Nat->ax):∀n,(jg A d0 x n).size=A.size
 |0=>rfl
 |n+1=>by simp[jg,Ef A d0 x n]
theorem PZ (A:Array ax)(d0 a n:Nat)(x:Nat->ax)(v:ax)(h:a<d0\/d0+n<=a):
  (jg (A.setIfInBounds a (x n)) d0 x n).setIfInBounds a v=jg (A.setIfInBounds a v) d0 (upd x n v) n:=by
 apply aT;intro k;rw[aj,xg,xg,Ef,aJ,aJ];by_cases b:a=k
 ·subst b
  have hn:¬(d0<=a/\a<d0+n/\a<A.size):=iE
  rw[gY rfl,gZ hn,aj,gY rfl]
 ·rw[gZ b]
  by_cases c:d0<=k/\k<d0+n/\k<A.size
  ·rw[gY c,gY c,upd_ne v iE]
  ·rw[gZ c,gZ c,aj,aj,gZ b,gZ b]
theorem H9 (A:Array ax)(d0 a n:Nat)(x:Nat->ax)(hx:∀i,i<n->x i=A.getD (d0+i) undef)(c:x n=A.getD a undef):jg (A.setIfInBounds a (x n)) d0 x n=A:=by
 apply aT;intro k;rw[xg,aJ,aj];split
 ·rename_i h
  rw[hx _ iE,show d0+(k - d0)=k by omega,af,az h.2.2];rfl
 ·split
  ·rename_i d
   subst d;split
   ·rename_i b
    rw[c,af,az b];rfl
   ·rename_i b
    rw[aQ iE]
  ·rfl
section
variable {P:bF} {Q:Exit->Act->ay->Prop}
theorem P6 {id:Nat}{A:Array ax}{ds:List bW}{w:ay}{l:List aK}(d0 n a f:Nat)(c:Nat->List Nat)(T:ay->ay->Prop)(F:Nat->(Nat->ax)->ay->Prop)
  (hm:P.follows .mixedOrders=au)(g:(n+1)+f=l.length)(hd:a<d0\/d0+n<=a)(j:Bi l (n+1) (λi=>if i<n then d0+i else a)=au)(m:xe l (n+1) c=au)(hsc:mJ .any l.toArray (n+1)=au)(p:yt l (n+1)=au)(q:uj l.toArray=au)(hw:T w {w with drawn:=w.drawn+1})
  (r:∀w w' d,T w w'->T w' d->T w d)
  (s:∀i x e X b,i<n+1->(∀k,k=i\/k∈c i->e k=x k)->(T X b\/X=b)->F i x X->F i e b)
  (t:∀i o x X,i<n+1->l[i]?=aH o->T w X->(∀k∈c i,F k x X)->zB P l.toArray {tmps:=jg (A.setIfInBounds a (x n)) d0 x n,defers:=ds} T (λv b=>F i (upd x i v) b) o X)
  (u:∀x X,T w X->(∀k,k<n+1->F k x X)->wpAny P .any l.toArray Q f (ae (n+1) au++ae f ag).toArray {tmps:=jg (A.setIfInBounds a (x n)) d0 x n,defers:=ds} X):(Code.region id l.toArray au).wp P Q {tmps:=A,defers:=ds} w:=
 PU (n+1) f (λi=>if i<n then d0+i else a) c T F (λx=>{tmps:=jg (A.setIfInBounds a (x n)) d0 x n,defers:=ds}) (λi=>A.getD (if i<n then d0+i else a) undef) hm g j m hsc p q
  (ig (λz=>({tmps:=z,defers:=ds}:Act)) (H9 A d0 a n (λi=>A.getD (if i<n then d0+i else a) undef) (λi hi=>by simp only[gY hi]) (by simp only[bz,if_false]))) hw r
  (λx i v hi=>by
   by_cases h:i<n
   ·simp only[Act.put,gY h,Ht _ _ _ _ _ _ h,upd_ne (x:=x) v (show n≠i by omega)]
   ·obtain rfl:i=n:=iE
    simp only[Act.put,bz,if_false,PZ _ _ _ _ _ _ hd,upd_same]) s t u
theorem P7 {md:Region.Mode}{ops:Array aK}{listed:Array Bool}{a:Act}{w:ay}{i:Nat}{o:aK}(hr:Region.ready md ops listed=[i])(d:ops[i]?=aH o)(hw:aY o (yielded ops a.tmps)=au)
  (h:o.wp P a w (λa' w'=>Region.ready md ops (listed.setIfInBounds i au)=[]/\Q .normal a' w') Q):wpAny P md ops Q 1 listed a w:=by
 refine⟨(λb=>by rw[hr]at b;cases b),λj c=>?_⟩;rw[hr]at c;obtain rfl:j=i:=by simpa using c
 unfold wpOp;rw[d];simp only[hw,if_true];exact .inl h
end
def Bl (P:bF)(ops:Array aK)(a:Act)(T:ay->ay->Prop)(R:ax->ay->Prop)(o:aK)(X:ay):Prop:=
 zB P ops a T R o X\/(aY o (yielded ops a.tmps)=au/\o.dst=none/\∃b,(execOp a.eval o).run P X=.ok .skip b/\T X b/\R undef b)
def Bo (ops:Array aK):Bool:=(bC ops.size).all λj=>((ops[j]?).map λo=>o.after.all λe=>!Region.binds .any e||decide (e.on<j)).getD au
theorem P8 {ops:Array aK}{L:Array Bool}(f:Bo ops=au)(hr:Region.ready .any ops L=[]):∀i,i<ops.size->L.getD i au=au:=by
 intro i
 induction i using bY with
 |ind i g=>
  intro hi;cases a:L.getD i au with
  |true=>rfl
  |false=>
   exfalso
   have:i∈Region.ready .any ops L:=cu.2 ⟨a,ops[i],az hi,λe he j=>by
    have b:=aB.1 f i (aO.2 hi);rw[az hi]at b;simp only[aW,aU,Array.all_eq_true',aS,Bool.not_eq_true',decide_eq_true_eq]at b;have c:e.on<i:=(b e he).resolve_left (by rw[j];exact Bool.noConfusion);have d:=g e.on c (Nat.lt_trans c hi)
    have k:e.on<L.size:=by
     rcases bU e.on L.size with h|h
     ·exact h
     ·have l:i≥L.size:=iE
      rw[af,aQ l]at a;cases a
    rw[af,az k]at d⊢;exact d⟩
   rw[hr]at this;cases this
theorem Qa (A:Array ax)(d0 a n:Nat)(x:Nat->ax)(y v:ax)(h:a<d0\/d0+n<=a):
  (jg (A.setIfInBounds a y) d0 x n).setIfInBounds a v=jg (A.setIfInBounds a v) d0 x n:=by
 apply aT;intro k;rw[aj,xg,xg,Ef,aJ,aJ];by_cases b:a=k
 ·subst b
  have hn:¬(d0<=a/\a<d0+n/\a<A.size):=iE
  rw[gY rfl,gZ hn,aj,gY rfl]
 ·rw[gZ b]
  by_cases c:d0<=k/\k<d0+n/\k<A.size
  ·rw[gY c,gY c]
  ·rw[gZ c,gZ c,aj,aj,gZ b,gZ b]
theorem Bq (A:Array ax)(d0:Nat){x y:Nat->ax}:∀n,(∀i,i<n->x i=y i)->jg A d0 x n=jg A d0 y n
 |0,_=>rfl
 |n+1,h=>by rw[jg,jg,Bq A d0 n (λi hi=>h i iE),h n iE]
section
variable {P:bF} {Q:Exit->Act->ay->Prop}
theorem Qb {o:aK}{ops:Array aK}{i:Nat}{a:Act}{X:ay}{T:ay->ay->Prop}{R:ax->ay->Prop}{K:Act->ay->Prop}(hi:ops[i]?=aH o)(hs:Bl P ops a T R o X)
  (d:∀v b,(T X b\/X=b)->R v b->K (a.put o.dst v) b):wpOp P ops Q i K a X:=by
 rcases hs with hs|⟨e,hd,b,f,g,h⟩
 ·exact Hu hi hs d
 ·unfold wpOp
  rw[hi];simp only[e,if_true];refine .inl ?_;unfold Oper.wp;rw[f];have c:=d undef b (.inl g) h;rw[hd]at c
  first
   |exact c
   |(unfold Oper.upon;exact c)
   |(unfold Oper.upon;simp only[hd];exact c)
   |(simp only[Oper.upon,hd];exact c)
theorem Ia {l:List aK}{n f:Nat}{z:Nat->List Nat}{w:ay}{T:ay->ay->Prop}{F:Nat->(Nat->ax)->ay->Prop}{A:(Nat->ax)->Act}(al:n+f=l.length)(D:xe l n z=au)(hsc:f=0\/mJ .any l.toArray n=au)(K:yt l n=au)(M:Bo l.toArray=au)
  (N:∀w w' O,T w w'->T w' O->T w O)(hA:∀x i o v,i<n->l[i]?=aH o->(A x).put o.dst v=A (upd x i v))
  (R:∀i x S X d,i<n->(∀k,k=i\/k∈z i->S k=x k)->(T X d\/X=d)->F i x X->F i S d)
  (U:∀i o x X,i<n->l[i]?=aH o->T w X->(∀k∈z i,F k x X)->Bl P l.toArray (A x) T (λv d=>F i (upd x i v) d) o X)
  (V:∀x X,T w X->(∀k,k<n->F k x X)->wpAny P .any l.toArray Q f (ae n au++ae f ag).toArray (A x) X):
  ∀(fuel:Nat) (L:List Bool) (x:Nat->ax) (X:ay),L.length=n->L.count ag=fuel->Closed .any l.toArray (L++ae f ag).toArray->T w X->(∀k,k<n->L.getD k ag=au->F k x X)->
   wpAny P .any l.toArray Q (fuel+f) (L++ae f ag).toArray (A x) X
 |0,L,x,X,g,hc,_,hw,hf=>by
  have am:L=ae n au:=by
   refine bH.2 ⟨g,λb j=>?_⟩;cases b with
   |true=>rfl
   |false=>exact absurd j (bP.1 hc)
  subst am;rw[dh];exact V x X hw λk a=>hf k a (by rw[ah,aA,gY a];rfl)
 |fuel+1,L,x,X,g,hc,r,hw,hf=>by
  have m:∀k,k<n->(L++ae f ag).toArray.getD k ag=L.getD k ag:=λk a=>by rw[af,aC,bD iE,ah]
  have W:∀k,n<=k->(L++ae f ag).toArray.getD k ag=ag:=λk a=>by rw[af,aC,aZ iE,aA];split<;>rfl
  have Y:∃k,k<n/\L.getD k ag=ag:=by have:ag∈L:=bQ.1 iE;obtain⟨k,a⟩:=bI this;exact⟨k,by rw[<-g];exact(aN.1 a).1,by rw[ah,a];rfl⟩
  have aE:(L++ae f ag).toArray.size=l.toArray.size:=by simp[g];omega
  rw[bT];refine⟨λhr=>?_,λi hi=>?_⟩
  ·obtain⟨k,a,E⟩:=Y
   have p:=P8 M hr k iI
   have c:(L++ae f ag).toArray.getD k ag=au:=by rw[af]at p⊢;have G:k<(L++ae f ag).toArray.size:=(by simp[g];omega);rw[az G]at p⊢;exact p
   rw[m k a,E]at c;cases c
  ·obtain⟨E,o,B,p⟩:=cu.1 hi
   have G:i<l.length:=by simpa using(bn.1 B).1
   have s:i<n:=by
    rcases bV i n with h|h|h
    ·exact h
    ·subst h
     obtain⟨k,a,c⟩:=Y;have t:=wV (hsc.resolve_left iE) r hi _ k rfl a;rw[m k a,c]at t;cases t
    ·have c:=aB.1 K i (aO.2 G)
     have u:l[i]?=aH o:=(by simpa using B);rw[u]at c;simp only[aW,aU,aX,aV,decide_eq_true_eq,aS]at c;rcases c with c|⟨e,he,j,an⟩
     ·omega
     ·have t:=p e he j
      rw[W e.on an]at t;cases t
   have u:l[i]?=aH o:=(by simpa using B);have Z:=Bh D r i s (λo' C e he j=>by rw[u]at C;cases Option.some.inj C;exact p e he j)
   have aa:∀k∈z i,k<n:=λk a=>by
    rcases bU k n with h|h
    ·exact h
    ·have:=Z k a
     rw[W k h]at this;cases this
   refine Qb B (U i o x X s u hw (λk a=>hf k (aa k a) (by rw[<-m k (aa k a)];exact Z k a))) ?_;intro v d ab ao;rw[hA x i o v s u]
   have ap:(L++ae f ag).toArray.setIfInBounds i au=(L.set i au++ae f ag).toArray:=by rw[bu,bJ _ _ iE]
   have H:L.getD i ag=ag:=by have I:=E;rw[af]at I;have aq:i<(L++ae f ag).toArray.size:=(by simp[g];omega);rw[<-m i s,af];rw[az aq]at I⊢;exact I
   have ac:=r.set hi;rw[ap]at ac⊢
   have ar:L[i]?=aH ag:=by rw[ah,aP iE]at H;rw[aP iE];exact ig aH H
   refine Ia al D hsc K M N hA R U V fuel (L.set i au) (upd x i v) d (by simpa using g) ?_ ac (ab.elim (λh=>N _ _ _ hw h) (λh=>h▸hw)) λk a ad=>?_
   ·have av:i<L.length:=iE
    rw[bZ av];have aw:L[i]=ag:=(aN.1 ar).2;rw[aw];have hp:0<L.count ag:=iE;simp only[beq_self_eq_true,if_true];have:((au==ag)=au)=False:=iH;simp only[this,if_false];omega
   ·by_cases J:k=i
    ·subst J;exact ao
    ·have ai:L.getD k ag=au:=by
      rw[ah,bK (λe=>J e.symm),<-ah]at ad;exact ad
     refine R k x _ X d a (λq y=>?_) ab (hf k a ai);refine upd_ne v λe=>?_
     subst e;rcases y with y|y
     ·exact J y.symm
     ·have aD:(L++ae f ag).toArray.getD k ag=au:=by rw[m k a];exact ai
      have ak:=Bh D r k a (λo' C e he j=>r k o' (by simpa using C) aD e he j) q y;rw[m q s,H]at ak;cases ak
theorem Qc {id:Nat}{a:Act}{w:ay}{l:List aK}(n f:Nat)(d:Nat->List Nat)(T:ay->ay->Prop)(F:Nat->(Nat->ax)->ay->Prop)(A:(Nat->ax)->Act)(e:Nat->ax)
  (hm:P.follows .mixedOrders=au)(g:n+f=l.length)(q:xe l n d=au)(hsc:f=0\/mJ .any l.toArray n=au)(r:yt l n=au)(s:Bo l.toArray=au)(t:A e=a)(hw:T w {w with drawn:=w.drawn+1})
  (u:∀w w' m,T w w'->T w' m->T w m)(hA:∀x i o v,i<n->l[i]?=aH o->(A x).put o.dst v=A (upd x i v))
  (y:∀i x p X c,i<n->(∀k,k=i\/k∈d i->p k=x k)->(T X c\/X=c)->F i x X->F i p c)
  (z:∀i o x X,i<n->l[i]?=aH o->T w X->(∀k∈d i,F k x X)->Bl P l.toArray (A x) T (λv c=>F i (upd x i v) c) o X)
  (B:∀x X,T w X->(∀k,k<n->F k x X)->wpAny P .any l.toArray Q f (ae n au++ae f ag).toArray (A x) X):(Code.region id l.toArray au).wp P Q a w:=by
 refine cZ hm ?_
 have h:=Ia (P:=P) (Q:=Q) g q hsc r s u hA y z B n (ae n ag) e _ iH iH (by
  intro j o _ b;rw[af,aC,aI,aA]at b;split at b<;>cases b) hw (λk C b=>by
  rw[ah,aA,gY C]at b;cases b)
 rw[aI,g,t]at h;simpa using h
end
def Eg (l:List aK)(n d0 a:Nat):Bool:=((bC n).all λi=>((l[i]?).map λo=>decide (o.dst=aH (d0+i))).getD ag)&&(((l[n]?).map λo=>decide (o.dst=none)).getD ag&&((l[n+1]?).map λo=>decide (o.dst=aH a)).getD ag)
def jA (A:Array ax)(ds:List bW)(d0 n a:Nat)(x:Nat->ax):Act:={tmps:=jg (A.setIfInBounds a (x (n+1))) d0 x n,defers:=ds}
theorem Qd {l:List aK}{A:Array ax}{ds:List bW}{d0 n a:Nat}(b:Eg l n d0 a=au)(hd:a<d0\/d0+n<=a)(x:Nat->ax)(i:Nat)(o:aK)(v:ax)(hi:i<n+2)(d:l[i]?=aH o):
  (jA A ds d0 n a x).put o.dst v=jA A ds d0 n a (upd x i v):=by
 unfold Eg at b;simp only[aV]at b;by_cases e:i<n
 ·have h:=aB.1 b.1 i (aO.2 e)
  rw[d]at h;have c:o.dst=aH (d0+i):=by simpa using h
  rw[c];unfold jA;simp only[Act.put,Ht _ _ _ _ _ _ e,upd_ne (x:=x) v (show n+1≠i by omega)]
 ·by_cases f:i=n
  ·subst f
   have h:=b.2.1;rw[d]at h;have c:o.dst=none:=(by simpa using h);rw[c];unfold jA;simp only[Act.put,upd_ne (x:=x) v (show i+1≠i by omega)];rw[Bq _ d0 (x:=upd x i v) (y:=x) i (λk g=>upd_ne v iE)]
  ·obtain rfl:i=n+1:=iE
   have h:=b.2.2;rw[d]at h;have c:o.dst=aH a:=(by simpa using h);rw[c];unfold jA;simp only[Act.put,Qa _ _ _ _ _ _ _ hd,upd_same];rw[Bq _ d0 (x:=upd x (n+1) v) (y:=x) n (λk g=>upd_ne v iE)]
section
variable {P:bF} {Q:Exit->Act->ay->Prop}
theorem Eh {id:Nat}{A:Array ax}{ds:List bW}{w:ay}{l:List aK}(d0 n a:Nat)(c:Nat->List Nat)(T:ay->ay->Prop)(F:Nat->(Nat->ax)->ay->Prop)
  (hm:P.follows .mixedOrders=au)(g:n+2=l.length)(hd:a<d0\/d0+n<=a)(j:Eg l n d0 a=au)(m:xe l (n+2) c=au)(p:Bo l.toArray=au)(hr:Region.ready .any l.toArray (ae (n+2) au).toArray=[])(hw:T w {w with drawn:=w.drawn+1})
  (q:∀w w' d,T w w'->T w' d->T w d)
  (r:∀i x f X b,i<n+2->(∀k,k=i\/k∈c i->f k=x k)->(T X b\/X=b)->F i x X->F i f b)
  (s:∀i o x X,i<n+2->l[i]?=aH o->T w X->(∀k∈c i,F k x X)->Bl P l.toArray (jA A ds d0 n a x) T (λv b=>F i (upd x i v) b) o X)
  (t:∀x X,T w X->(∀k,k<n+2->F k x X)->Q .normal (jA A ds d0 n a x) X):(Code.region id l.toArray au).wp P Q {tmps:=A,defers:=ds} w:=
 Qc (n+2) 0 c T F (jA A ds d0 n a) (λi=>if i<n then A.getD (d0+i) undef else A.getD a undef) hm g m (.inl rfl)
  (by unfold yt;rw[aB];intro i hi;rw[aO]at hi;simp only[aS,decide_eq_true_eq];exact .inl iE) p
  (by
   unfold jA;rw[Bq _ d0 (x:=λi=>if i<n then A.getD (d0+i) undef else A.getD a undef) (y:=λi=>if i<n then A.getD (d0+i) undef else A.getD a undef) n (λ_ _=>rfl)]
   exact ig (λz=>({tmps:=z,defers:=ds}:Act)) (by
    have h:=H9 A d0 a n (λi=>if i<n then A.getD (d0+i) undef else A.getD a undef) (λi hi=>by simp only[gY hi]) (by simp only[bz,if_false])
    have e:(λi=>if i<n then A.getD (d0+i) undef else A.getD a undef) (n+1)=(λi=>if i<n then A.getD (d0+i) undef else A.getD a undef) n:=by simp only[bz,if_false,gZ (show ¬n+1<n by omega)]
    rw[e];exact h)) hw q
  (λx i o v hi u=>Qd j hd x i o v hi u) r s
  (λx X B hF=>by refine⟨?_,t x X B hF⟩;rw[List.replicate_zero,List.append_nil];exact hr)
end
end Go.Mix
