import Derived.Test.YthcalnnipjflkaaGreatDoorP04
import Derived.Test.YthcalnnipjflkaaGreatDoorP17
open PLift renaming up -> ae
open Go.Lib renaming cell_of_heap -> af, trimRightB -> az, frozen_of_heap -> aJ
open ByteArray renaming size_append -> ag
open Option renaming some -> ah, none -> au
open Array renaming getElem?_eq_some_iff -> aj, getElem?_modify -> aK
open Go renaming World -> ax, heap_alloc_new -> aB, Value -> aN, wpQuiet_nil -> aX, Calls -> aZ
open Go.Result renaming andThen_ok -> ay
open Go.Proofs.Tryz renaming prog -> aA, ntmps158 -> aV, func158 -> aW
open Bool renaming false -> aC, true -> aY
open Go.RowKit renaming Below -> aH
open Nat renaming le_trans -> aI, pow_le_pow_right -> aO, le_refl -> aP, lt_of_lt_of_le -> aQ, le_of_not_lt -> bn, pow_succ -> bC, sub_self -> bD, zero_le -> bF
open Go.World renaming setCell -> aS
open Int renaming tdiv_eq_ediv_of_nonneg -> aT, tmod_eq_emod_of_nonneg -> aU, tdiv -> bu, tmod -> bz
set_option linter.all false
set_option maxHeartbeats 4000000
set_option maxRecDepth 100000
namespace Go.Proofs.YthcalnnipjflkaaGreatDoor
open Go.RowKit
open Go.Lib hiding intOf
structure But (g:Nat)(w w':ax):Prop where
 os:w'.os=w.os
 tape:w'.tape=w.tape
 output:w'.output=w.output
 size:w.heap.size<=w'.heap.size
 block:∀k,k<w.heap.size->k≠g->w'.heap[k]?=w.heap[k]?
theorem But.refl (g:Nat)(w:ax):But g w w:=⟨rfl,rfl,rfl,aP _,λ_ _ _=>rfl⟩
theorem But.trans {g:Nat}{a b c:ax}(h:But g a b)(k:But g b c):But g a c:=
 ⟨k.os.trans h.os,k.tape.trans h.tape,k.output.trans h.output,aI h.size k.size,λi hi hn=>(k.block i (aQ hi h.size) hn).trans (h.block i hi hn)⟩
theorem But.set (g o:Nat)(w:ax)(v:aN):But g w (w.setCell ⟨g,o,au⟩ v):=
 ⟨rfl,rfl,rfl,by simp[aS],λk _ hn=>by
  have a:¬g=k:=λe=>hn e.symm
  simp[aS,aK,a]⟩
theorem set1 {w:ax}{g t:Nat}{a:aN}(h:w.heap[g]?=ah (.cells #[a] t))(x:aN):(w.setCell ⟨g,0,au⟩ x).heap[g]?=ah (.cells #[x] t):=by simp[aS,aK,h]
structure oP (g h:Nat)(w w':ax):Prop where
 os:w'.os=w.os
 tape:w'.tape=w.tape
 output:w'.output=w.output
 size:w.heap.size<=w'.heap.size
 block:∀k,k<w.heap.size->k≠g->k≠h->w'.heap[k]?=w.heap[k]?
theorem oP.refl (g h:Nat)(w:ax):oP g h w w:=⟨rfl,rfl,rfl,aP _,λ_ _ _ _=>rfl⟩
theorem oP.trans {g h:Nat}{a b c:ax}(x:oP g h a b)(k:oP g h b c):oP g h a c:=
 ⟨k.os.trans x.os,k.tape.trans x.tape,k.output.trans x.output,aI x.size k.size,λi hi hn hm=>(k.block i (aQ hi x.size) hn hm).trans (x.block i hi hn hm)⟩
theorem But.left {g:Nat}(h:Nat){a b:ax}(x:But g a b):oP g h a b:=⟨x.os,x.tape,x.output,x.size,λk c d _=>x.block k c d⟩
theorem But.right {h:Nat}(g:Nat){a b:ax}(x:But h a b):oP g h a b:=⟨x.os,x.tape,x.output,x.size,λk c _ d=>x.block k c d⟩
theorem oP.below {g h B:Nat}{a b:ax}(x:oP g h a b)(d:B<=g)(e:B<=h)(hs:B<=a.heap.size):aH B a b:=
 ⟨x.os,x.tape,x.output,x.size,λk c=>x.block k (aQ c hs) iE iE⟩
def lD (l:List UInt8):Nat->Nat->Nat->Option (Nat×Nat)
 |0,k,v=>ah (v,k)
 |n+1,k,v=>match l[k]? with
  |none=>au
  |some c=>if jZ c=aY then lD l n (k+1) (10*v+(c.toNat - 48))else au
theorem BA (l:List UInt8):∀n k v v' k',lD l n k v=ah (v',k')->v'+1<=(v+1)*10^n/\k'=k+n/\(k<=l.length->k'<=l.length)
 |0,k,v,v',k',h=>by simp only[lD,Option.some.injEq,Prod.mk.injEq]at h;obtain⟨rfl,rfl⟩:=h;exact⟨iH,rfl,λh=>h⟩
 |n+1,k,v,v',k',h=>by
  unfold lD at h;split at h
  ·cases h
  ·rename_i c hc
   split at h
   ·rename_i hd
    obtain⟨a,d,b⟩:=BA l n (k+1) _ v' k' h
    have e:c.toNat - 48<=9:=by unfold jZ at hd;simp only[Bool.and_eq_true,decide_eq_true_eq]at hd;omega
    have f:=(List.getElem?_eq_some_iff.1 hc).1;refine⟨aI a ?_,iE,λ_=>b iE⟩;rw[bC,Nat.mul_comm (10^n) 10,<-Nat.mul_assoc];exact Nat.mul_le_mul_right _ iE
   ·cases h
def jW (l:List UInt8)(first:Nat)(sep:UInt8):Nat->Nat->Nat->List Nat->Option (List Nat×Nat)
 |0,_,k,vs=>ah (vs,k)
 |n+1,i,k,vs=>match(if i=0 then ah k else if l[k]?=ah sep then ah (k+1)else au)with
  |none=>au
  |some a=>match lD l (if i=0 then first else 2) a 0 with
   |none=>au
   |some (v,b)=>jW l first sep n (i+1) b (vs++[v])
def uo (l:List UInt8)(n k:Nat)(A:Nat)(e:Ending)(w':ax):Prop:=match lD l n k 0 with
 |some (v,k')=>e=.returned (.tuple #[.int .i64 (v:Nat),.bool aY])/\w'.heap[A]?=ah (.cells #[.int .i64 (k':Nat)] 3)
 |none=>e=.returned (.tuple #[.int .i64 0,.bool aC])/\∃j:Nat,j<=l.length/\w'.heap[A]?=ah (.cells #[.int .i64 (j:Nat)] 3)
theorem QB (s:ByteArray)(n k A S:Nat)(w:ax)(hn:n<=4)(hs:s.size<=1000000)(z:k<=s.size)(hA:w.heap[A]?=ah (.cells #[.int .i64 k] 3))(hS:w.heap[S]?=ah (.cells #[.string s] 9)):
  aZ aA 185 #[.int .i64 n,.pointer (ah ⟨A,0,au⟩),.pointer (ah ⟨S,0,au⟩)] w λe w'=>But A w w'/\uo s.data.toList n k A e w':=by
 have B:s.data.toList.length=s.size:=iH
 have C:S≠A:=λe=>by subst e;rw[hA]at hS;cases hS
 have H:=ae hA;have D:=ae hS;have d:=ae (iJ C (iJ z (iJ hn B)));have P:(s.size:Int)<=1000000:=iE
 clear hA hS C z B hn;go_enter Tryz.func185,Tryz.ntmps185
 go_upto_region 3 with fail
 go_loopw [6,8] (λI t wr=>∃i v q:Nat,t=.int .i64 i/\I=.int .i64 v/\i<=n/\v+1<=10^i/\q<=s.size/\But A w wr/\wr.heap[A]?=ah (.cells #[.int .i64 (q:Nat)] 3)/\lD s.data.toList (n - i) q v=lD s.data.toList n k 0) (λ_ t _=>n - (intOf t).toNat)
 case atStart=>exact⟨0,0,k,rfl,rfl,bF _,aP _,d.1.2.1,But.refl _ _,H.1,rfl⟩
 case round=>
  obtain⟨i,v,q,rfl,rfl,o,hv,p,j,g,f⟩:=hrel;have l:wr.heap[S]?=ah (.cells #[.string s] 9):=(j.block _ (aj.1 D.1).1 d.1.1).trans D.1;have ca:=iK g 0 (.int .i64 q);have Q:=aJ g 0;have R:=iK l 0 (.string s);have a:=ae (iJ j (iJ g l));have T:10^i<=10^4:=aO iG (by have:=d.1.2.2.1;omega);have U:(v:Int)<=10000:=by have:(10:Nat)^4=10000:=rfl;omega
  have V:(0:Int)<=(v:Int):=iE
  have W:(i:Int)<=4:=by have:=d.1.2.2.1;omega
  have X:(0:Int)<=(i:Int):=iE
  have Y:(q:Int)<=(s.size:Int):=iE
  have Z:(0:Int)<=(q:Int):=iE
  have r:=ae (iJ o (iJ hv p));by_cases J:i<n
  ·have K:(i:Int)<(n:Int):=iE
   have u:n - i=(n - (i+1))+1:=iE;rw[u]at f;by_cases h:q<s.size
   ·have L:¬(s.size:Int)<=(q:Int):=iE
    have aa:(q:Int)<(s.size:Int):=iE;obtain⟨c,hc⟩:∃c,s[q]'h=c:=⟨_,rfl⟩
    have E:s.data.toList[q]?=ah c:=by
     rw[List.getElem?_eq_getElem (by simpa using h),<-hc]
     rfl
    have F:lD s.data.toList (n - (i+1)+1) q v=if jZ c=aY then lD s.data.toList (n - (i+1)) (q+1) (10*v+(c.toNat - 48))else au:=by
     conv=>lhs;unfold lD
     rw[E]
    have m:=ae (F.symm.trans f);have M:=c.toNat_lt;obtain⟨x,hx⟩:∃x:Nat,c.toNat=x:=⟨_,rfl⟩;have ab:((s[q]'h).toNat:Int)=(x:Int):=by rw[hc,hx]
    rw[hx]at M m;have G:jZ c=(decide (48<=x)&&decide (x<=57)):=(by unfold jZ;rw[hx]);rw[G]at m;clear f F E j g l o hv p hc hx G u;by_cases ac:x<48
    ·have N:(x:Int)<48:=iE
     have b:=ae (show lD s.data.toList n k 0=au by rw[<-m.1,gZ iI]);go_wp2;go_ret2;refine⟨a.1.1,?_⟩;unfold uo;rw[b.1];exact⟨rfl,q,by rw[d.1.2.2.2];exact r.1.2.2,a.1.2.1⟩
    ·have N:¬(x:Int)<48:=iE
     by_cases ad:57<x
     ·have O:(57:Int)<(x:Int):=iE
      have b:=ae (show lD s.data.toList n k 0=au by rw[<-m.1,gZ iI]);go_wp2;go_ret2;refine⟨a.1.1,?_⟩;unfold uo;rw[b.1];exact⟨rfl,q,by rw[d.1.2.2.2];exact r.1.2.2,a.1.2.1⟩
     ·have O:¬(57:Int)<(x:Int):=iE
      have b:=ae (show lD s.data.toList (n - (i+1)) (q+1) (10*v+(x - 48))=lD s.data.toList n k 0 by rw[<-m.1,gY iI]);have ai:(x:Int) - 48=((x - 48:Nat):Int):=iE
      have ak:IntKind.u8.wrap ((x:Int) - 48)=((x - 48:Nat):Int):=by rw[IntKind.wrap_u8];omega
      have y:=ae (iJ J (show 10*v+(x - 48)+1<=10^(i+1) by rw[bC];have:=r.1.2.1;omega));go_wp2;go_roundw
      case rel=>exact⟨i+1,10*v+(x - 48),q+1,by go_num,by first|rfl|(congr 1;push_cast;omega),y.1.1,y.1.2,h,a.1.1.trans (But.set A 0 wr _),set1 a.1.2.1 _,b.1⟩
      case measure=>have:=y.1.1;simp[intOf];omega
   ·have L:(s.size:Int)<=(q:Int):=iE
    have b:PLift (lD s.data.toList n k 0=au):=⟨by rw[<-f];unfold lD;rw[List.getElem?_eq_none (by simpa using bn h)]⟩
    clear f j g l o hv p u h;go_wp2;go_ret2;refine⟨a.1.1,?_⟩;unfold uo;rw[b.1];exact⟨rfl,q,by rw[d.1.2.2.2];exact r.1.2.2,a.1.2.1⟩
  ·have K:¬(i:Int)<(n:Int):=iE
   have b:PLift (lD s.data.toList n k 0=ah (v,q)):=⟨by
    rw[<-f,show n - i=0 by omega]
    rfl⟩
   clear f j g l o hv p;go_wp2;go_ret2;refine⟨a.1.1,?_⟩;unfold uo;rw[b.1];exact⟨rfl,a.1.2.1⟩
theorem Io {l:List UInt8}{first:Nat}{sep:UInt8}{n i k a W:Nat}{vs:List Nat}(b:(if i=0 then ah k else if l[k]?=ah sep then ah (k+1)else au)=ah a)(hw:(if i=0 then first else 2)=W):
  jW l first sep (n+1) i k vs=(lD l W a 0).bind λr=>jW l first sep n (i+1) r.2 (vs++[r.1]):=by
 conv=>lhs;unfold jW
 rw[b,hw];cases h:lD l W a 0<;>simp[h]
theorem Ip {l:List UInt8}{first:Nat}{sep:UInt8}{n i k:Nat}{vs:List Nat}(hi:¬i=0)(a:¬l[k]?=ah sep):jW l first sep (n+1) i k vs=au:=by unfold jW;rw[gZ hi,gZ a]
def lW (C:List aN)(off:Nat)(vs:List Nat):List aN:=(C.take off++vs.map λ(v:Nat)=>Value.int .i64 (v:Int))++C.drop (off+vs.length)
theorem QC (C:List aN)(off:Nat):lW C off []=C:=by simp[lW]
theorem QD {C:List aN}{off:Nat}{vs:List Nat}(h:off+vs.length<=C.length):(lW C off vs).length=C.length:=by simp[lW];omega
theorem QE {C:List aN}{off:Nat}{vs:List Nat}(v:Nat)(h:off+vs.length<C.length):(lW C off vs).set (off+vs.length) (.int .i64 (v:Int))=lW C off (vs++[v]):=by
 unfold lW;have a:(C.take off++vs.map λ(v:Nat)=>Value.int .i64 (v:Int)).length=off+vs.length:=iI
 rw[List.set_append_right _ _ iE,a,bD,List.drop_eq_getElem_cons h,List.set_cons_zero,List.map_append,List.length_append];simp[Nat.add_assoc]
theorem Iq {w:ax}{M T:Nat}{C:List aN}{off:Nat}{vs:List Nat}(h:w.heap[M]?=ah (.cells (lW C off vs).toArray T))(v:Nat)(a:off+vs.length<C.length):
  (w.setCell ⟨M,off+vs.length,au⟩ (.int .i64 (v:Int))).heap[M]?=ah (.cells (lW C off (vs++[v])).toArray T):=by
 rw[<-QE v a];simp[aS,aK,h]
theorem Ir {w:ax}{M T:Nat}{C:List aN}{off i:Nat}{vs:List Nat}(h:w.heap[M]?=ah (.cells (lW C off vs).toArray T))(hv:off+vs.length<=C.length)(a:off+i<C.length):∃u,w.cell? ⟨M,off+i,au⟩=ah u:=by
 have b:off+i<(lW C off vs).length:=by rw[QD hv];exact a
 exact⟨(lW C off vs)[off+i],(af h (off+i)).trans (by simp[b])⟩
def uu (l:List UInt8)(first:Nat)(sep:UInt8)(n k:Nat)(A M:Nat)(C:List aN)(off:Nat)(e:Ending)(w':ax):Prop:=match jW l first sep n 0 k []with
 |some (vs,k')=>vs.length=n/\k'<=l.length/\e=.returned (.bool aY)/\w'.heap[A]?=ah (.cells #[.int .i64 (k':Nat)] 3)/\w'.heap[M]?=ah (.cells (lW C off vs).toArray 227)
 |none=>e=.returned (.bool aC)/\∃vs:List Nat,vs.length<=n/\w'.heap[M]?=ah (.cells (lW C off vs).toArray 227)
theorem En (s:ByteArray)(n first k A S M F off cap:Nat)(sep:UInt8)(C:List aN)(w:ax)(hn:n<=3)(hf:first<=4)(hs:s.size<=1000000)(ao:k<=s.size)(a2:n<=cap)(a3:cap<=8)(ap:off+n<=C.length)(aq:C.length<=20)(hA:w.heap[A]?=ah (.cells #[.int .i64 k] 3))(hS:w.heap[S]?=ah (.cells #[.string s] 9))
  (O:w.heap[M]?=ah (.cells C.toArray 227))(hF:w.heap[F]?=ah (.cells #[.func (.func 185) #[] #[.pointer (ah ⟨A,0,au⟩),.pointer (ah ⟨S,0,au⟩)]] 250)):
  aZ aA 186 #[.slice (ah ⟨M,off,au⟩) n cap,.int .i64 first,.int .u8 (sep.toNat:Int),.pointer (ah ⟨A,0,au⟩),.pointer (ah ⟨S,0,au⟩),.pointer (ah ⟨F,0,au⟩)] w λe w'=>oP A M w w'/\uu s.data.toList first sep n k A M C off e w':=by
 have ar:s.data.toList.length=s.size:=iH
 have av:S≠A:=λe=>by subst e;rw[hA]at hS;cases hS
 have aw:M≠A:=λe=>by subst e;rw[hA]at O;cases O
 have aD:S≠M:=λe=>by subst e;rw[hS]at O;cases O
 have aE:F≠A:=λe=>by subst e;rw[hA]at hF;cases hF
 have aF:F≠M:=λe=>by subst e;rw[O]at hF;cases hF
 have T:=ae (iJ hA (iJ hS (iJ O hF)));have a:=ae (iJ (iJ av (iJ aw (iJ aD (iJ aE aF)))) (iJ ao (iJ hn (iJ ar (iJ hf (iJ ap aq))))));have aG:=ae (λ(X:ax) (m q:Nat) (hm:m<=4) (D:q<=s.size) (hA:X.heap[A]?=ah (.cells #[.int .i64 q] 3)) (hS:X.heap[S]?=ah (.cells #[.string s] 9))=>QB s m q A S X hm hs D hA hS);have bf:(s.size:Int)<=1000000:=iE
 have bg:(n:Int)<=3:=iE
 have bh:(0:Int)<=(n:Int):=iE
 have bi:(first:Int)<=4:=iE
 have bj:(0:Int)<=(first:Int):=iE
 have bk:(n:Int)<=(cap:Int):=iE
 have bl:(cap:Int)<=8:=iE
 obtain⟨sp,ac⟩:∃x:Nat,sep.toNat=x:=⟨_,rfl⟩;have bm:sp<256:=by rw[<-ac];exact sep.toNat_lt
 have aL:=ae ac;rw[ac];clear hA hS O hF av aw aD aE aF ao ar hn hf ap aq a2 a3 ac;go_enter Tryz.func186,Tryz.ntmps186
 go_upto_region 2 with fail
 go_loopw [16] (λai wr=>∃(i q:Nat) (vs:List Nat),ai=.int .i64 i/\vs.length=i/\i<=n/\q<=s.size/\oP A M w wr/\wr.heap[A]?=ah (.cells #[.int .i64 (q:Nat)] 3)/\wr.heap[M]?=ah (.cells (lW C off vs).toArray 227)/\jW s.data.toList first sep (n - i) i q vs=jW s.data.toList first sep n 0 k []) (λai _=>n - (intOf ai).toNat)
 case atStart=>exact⟨0,k,[],rfl,rfl,bF _,a.1.2.1,oP.refl _ _ _,T.1.1,by rw[QC];exact T.1.2.2.1,rfl⟩
 case round=>
  obtain⟨i,q,vs,rfl,U,V,D,E,y,N,p⟩:=hrel;have z:wr.heap[S]?=ah (.cells #[.string s] 9):=(E.block _ (aj.1 T.1.2.1).1 a.1.1.1 a.1.1.2.2.1).trans T.1.2.1;have G:=(E.block _ (aj.1 T.1.2.2.2).1 a.1.1.2.2.2.1 a.1.1.2.2.2.2).trans T.1.2.2.2;have bo:(i:Int)<=3:=by have:=a.1.2.2.1;omega
  have bp:(0:Int)<=(i:Int):=iE
  have bq:(q:Int)<=(s.size:Int):=iE
  have br:(0:Int)<=(q:Int):=iE
  have ca:=iK y 0 (.int .i64 q);have bs:=aJ y 0;have bt:=iK z 0 (.string s);have bv:=iK G 0 (.func (.func 185) #[] #[.pointer (ah ⟨A,0,au⟩),.pointer (ah ⟨S,0,au⟩)]);have g:=ae (iJ E (iJ y (iJ N (iJ z G))));have b:=ae (iJ V (iJ U D));by_cases W:i<n
  ·have a4:(i:Int)<(n:Int):=iE
   have aa:n - i=(n - (i+1))+1:=iE;rw[aa]at p;have B:=ae W;by_cases hi:i=0
   ·have a5:((i:Int)==0)=aY:=by rw[hi];rfl
    have a6:¬(0:Int)<(i:Int):=iE;have l:=ae (aG.1 wr first q a.1.2.2.2.2.1 D y z);have ab:jW s.data.toList first sep (n - (i+1)+1) i q vs=(lD s.data.toList first q 0).bind λr=>jW s.data.toList first sep (n - (i+1)) (i+1) r.2 (vs++[r.1]):=Io (by rw[gY hi]) (by rw[gY hi])
    have H:=ae (ab.symm.trans p);clear p ab U V D E y N z G aa W hi;cases d:lD s.data.toList first q 0 with
    |none=>
     have o:=ae (show jW s.data.toList first sep n 0 k []=au by rw[<-H.1,d];rfl);unfold uo at l;rw[d]at l;clear d H
     go_upto_region 12 with(go_at_call 185;refine l.1.mono ?_;rintro e I ⟨t,rfl,j,ak,J⟩;have f:=ae t;clear t ak J)
     go_wp2;go_ret;refine⟨g.1.1.trans (f.1.left M),?_⟩;unfold uu;rw[o.1];exact⟨rfl,vs,by rw[b.1.2.1];exact b.1.1,(f.1.block M (by exact(aj.1 g.1.2.2.1).1) a.1.1.2.1).trans g.1.2.2.1⟩
    |some r=>
     obtain⟨v,P⟩:=r;have Q:=BA _ _ _ _ _ _ d;have o:=ae (show jW s.data.toList first sep (n - (i+1)) (i+1) P (vs++[v])=jW s.data.toList first sep n 0 k [] by rw[<-H.1,d];rfl);unfold uo at l;rw[d]at l;have al:10^(first)<=10^4:=aO iG (by have:=a.1.2.2.2.2.1;omega);have am:=ae (show P<=s.size from by have K:=Q.2.2 (by rw[a.1.2.2.2.1];exact b.1.2.2);rw[a.1.2.2.2.1]at K;exact K);have a7:(v:Int)<=10000:=(by have K:=Q.1;have:(10:Nat)^4=10000:=rfl;omega);have a8:(0:Int)<=(v:Int):=iE;clear d H Q al
     go_upto_region 12 with(go_at_call 185;refine l.1.mono ?_;rintro e I ⟨t,rfl,J⟩;have f:=ae (iJ t J);clear t J)
     have L:=(f.1.1.block M (by exact(aj.1 g.1.2.2.1).1) a.1.1.2.1).trans g.1.2.2.1;obtain⟨u,a9⟩:=Ir (i:=i) L (by rw[b.1.2.1];have:=a.1.2.2.2.2.2.1;have:=B.1;omega) (by have:=a.1.2.2.2.2.2.1;have:=B.1;omega);have ba:=aJ L (off+i);have an:=ae L;clear L;go_wp2;go_roundw
     case rel=>
      refine⟨i+1,P,vs++[v],by go_num,by simp[b.1.2.1],B.1,am.1,(g.1.1.trans (f.1.1.left M)).trans ((But.set M (off+i) I _).right A),?_,?_,o.1⟩
      ·rw[(But.set M (off+i) I (.int .i64 (v:Int))).block A (aj.1 f.1.2).1 (λe=>a.1.1.2.1 e.symm)]
       exact f.1.2
      ·have h:=Iq an.1 v (by rw[b.1.2.1];have:=a.1.2.2.2.2.2.1;have:=B.1;omega)
       rw[b.1.2.1]at h;exact h
     case measure=>have:=B.1;simp[intOf];omega
   ·have a5:((i:Int)==0)=aC:=iI
    have a6:(0:Int)<(i:Int):=iE;by_cases R:q<s.size
    ·have bb:¬(s.size:Int)<=(q:Int):=iE
     have bw:(q:Int)<(s.size:Int):=iE;obtain⟨c,hc⟩:∃c,s[q]'R=c:=⟨_,rfl⟩
     have ad:s.data.toList[q]?=ah c:=by
      rw[List.getElem?_eq_getElem (by simpa using R),<-hc]
      rfl
     obtain⟨x,hx⟩:∃x:Nat,c.toNat=x:=⟨_,rfl⟩;have bx:((s[q]'R).toNat:Int)=(x:Int):=by rw[hc,hx]
     by_cases Y:c=sep
     ·have bc:((x:Int)==(sp:Int))=aY:=by rw[<-hx,Y,aL.1];simp
      have aM:=set1 y (.int .i64 ((q:Int)+1));have aR:(wr.setCell ⟨A,0,au⟩ (.int .i64 ((q:Int)+1))).heap[S]?=ah (.cells #[.string s] 9):=((But.set A 0 wr _).block S (aj.1 z).1 a.1.1.1).trans z;have a0:=((But.set A 0 wr (.int .i64 ((q:Int)+1))).block M (aj.1 N).1 a.1.1.2.1).trans N;have a1:=((But.set A 0 wr (.int .i64 ((q:Int)+1))).block F (aj.1 G).1 a.1.1.2.2.2.1).trans G;have Z:=ae (iJ (E.trans ((But.set A 0 wr (.int .i64 ((q:Int)+1))).left M)) a0);have l:=ae (aG.1 (wr.setCell ⟨A,0,au⟩ (.int .i64 ((q:Int)+1))) 2 (q+1) iG R aM aR);have bA:(wr.setCell ⟨A,0,au⟩ (.int .i64 ((q:Int)+1))).cell? ⟨F,0,au⟩=ah (.func (.func 185) #[] #[.pointer (ah ⟨A,0,au⟩),.pointer (ah ⟨S,0,au⟩)]):=af a1 0;have ab:jW s.data.toList first sep (n - (i+1)+1) i q vs=(lD s.data.toList 2 (q+1) 0).bind λr=>jW s.data.toList first sep (n - (i+1)) (i+1) r.2 (vs++[r.1]):=Io (by rw[gZ hi,ad,Y,gY rfl]) (by rw[gZ hi])
      have H:=ae (ab.symm.trans p);have bd:=ae R;clear p ab U V D E y N z G aa W hi aM aR a0 a1 ad Y hc hx;cases d:lD s.data.toList 2 (q+1) 0 with
      |none=>
       have o:=ae (show jW s.data.toList first sep n 0 k []=au by rw[<-H.1,d];rfl);unfold uo at l;rw[d]at l;clear d H
       go_upto_region 12 with(go_at_call 185;refine l.1.mono ?_;rintro e I ⟨t,rfl,j,ak,J⟩;have f:=ae t;clear t ak J)
       go_wp2;go_ret;refine⟨Z.1.1.trans (f.1.left M),?_⟩;unfold uu;rw[o.1];exact⟨rfl,vs,by rw[b.1.2.1];exact b.1.1,(f.1.block M (by exact(aj.1 Z.1.2).1) a.1.1.2.1).trans Z.1.2⟩
      |some r=>
       obtain⟨v,P⟩:=r;have Q:=BA _ _ _ _ _ _ d;have o:=ae (show jW s.data.toList first sep (n - (i+1)) (i+1) P (vs++[v])=jW s.data.toList first sep n 0 k [] by rw[<-H.1,d];rfl);unfold uo at l;rw[d]at l;have al:10^(2)<=10^4:=aO iG iG;have am:=ae (show P<=s.size from by have K:=Q.2.2 (by rw[a.1.2.2.2.1];exact bd.1);rw[a.1.2.2.2.1]at K;exact K);have a7:(v:Int)<=10000:=(by have K:=Q.1;have:(10:Nat)^4=10000:=rfl;omega);have a8:(0:Int)<=(v:Int):=iE;clear d H Q al
       go_upto_region 12 with(go_at_call 185;refine l.1.mono ?_;rintro e I ⟨t,rfl,J⟩;have f:=ae (iJ t J);clear t J)
       have L:=(f.1.1.block M (by exact(aj.1 Z.1.2).1) a.1.1.2.1).trans Z.1.2;obtain⟨u,a9⟩:=Ir (i:=i) L (by rw[b.1.2.1];have:=a.1.2.2.2.2.2.1;have:=B.1;omega) (by have:=a.1.2.2.2.2.2.1;have:=B.1;omega);have ba:=aJ L (off+i);have an:=ae L;clear L;go_wp2;go_roundw
       case rel=>
        refine⟨i+1,P,vs++[v],by go_num,by simp[b.1.2.1],B.1,am.1,(Z.1.1.trans (f.1.1.left M)).trans ((But.set M (off+i) I _).right A),?_,?_,o.1⟩
        ·rw[(But.set M (off+i) I (.int .i64 (v:Int))).block A (aj.1 f.1.2).1 (λe=>a.1.1.2.1 e.symm)]
         exact f.1.2
        ·have h:=Iq an.1 v (by rw[b.1.2.1];have:=a.1.2.2.2.2.2.1;have:=B.1;omega)
         rw[b.1.2.1]at h;exact h
       case measure=>have:=B.1;simp[intOf];omega
     ·have bc:((x:Int)==(sp:Int))=aC:=by
       have bB:¬x=sp:=λe=>Y (by have K:c.toNat=sep.toNat:=(by rw[hx,e,<-aL.1]);exact UInt8.toNat_inj.1 K)
       simp;omega
      have o:PLift (jW s.data.toList first sep n 0 k []=au):=⟨by rw[<-p];exact Ip hi (by rw[ad];intro h;cases h;exact Y rfl)⟩
      clear p U V D E y N z G aa W hi ad Y hc hx;go_wp2;go_ret;refine⟨g.1.1,?_⟩;unfold uu;rw[o.1];exact⟨rfl,vs,by rw[b.1.2.1];exact b.1.1,g.1.2.2.1⟩
    ·have bb:(s.size:Int)<=(q:Int):=iE
     have o:PLift (jW s.data.toList first sep n 0 k []=au):=⟨by rw[<-p];exact Ip hi (by rw[List.getElem?_eq_none (by simpa using bn R)];intro h;cases h)⟩
     clear p U V D E y N z G aa W hi R;go_wp2;go_ret;refine⟨g.1.1,?_⟩;unfold uu;rw[o.1];exact⟨rfl,vs,by rw[b.1.2.1];exact b.1.1,g.1.2.2.1⟩
  ·have a4:¬(i:Int)<(n:Int):=iE
   have he:i=n:=iE
   have o:PLift (jW s.data.toList first sep n 0 k []=ah (vs,q)):=⟨by
    rw[<-p,he,bD]
    rfl⟩
   have be:=ae he;clear p U V D E y N z G W he;go_wp2;go_ret;refine⟨g.1.1,?_⟩;unfold uu;rw[o.1];exact⟨by rw[b.1.2.1];exact be.1,by rw[a.1.2.2.2.1];exact b.1.2.2,rfl,g.1.2.1,g.1.2.2.1⟩
def uw (a b c:Nat):ByteArray:=(((jL a 4++(⟨#[45]⟩:ByteArray))++jL b 2)++(⟨#[45]⟩:ByteArray))++jL c 2
def uy (a b c:Nat):ByteArray:=(((jL a 2++(⟨#[58]⟩:ByteArray))++jL b 2)++(⟨#[58]⟩:ByteArray))++jL c 2
def xm (na:Nat):ByteArray:=(⟨#[46]⟩:ByteArray)++⟨(az (jL na 9).data.toList 48).toArray⟩
def uz (sh a b c d e f na:Nat):ByteArray:=
 let s:=if sh=1 then uw a b c else if sh=2 then⟨#[]⟩++uy d e f else(uw a b c++(⟨#[84]⟩:ByteArray))++uy d e f
 if na=0 then s else s++xm na
theorem uA {A B:ByteArray}{n m:Nat}(a:A.size<=n)(b:B.size<=m)(h:n+m<=100000):¬(9223372036854775807:Int)<(A.size:Int)+(B.size:Int):=iE
theorem Iu (l:List UInt8)(c:UInt8):(az l c).length<=l.length:=by
 first
  |(unfold az;rw[List.length_reverse];refine aI (List.dropWhile_sublist _).length_le ?_;rw[List.length_reverse];exact aP _)
  |simp[az]
theorem Iw (sh c d f g i j Z f7 na aa:Nat)(bR:sh=1\/sh=2\/sh=3)(bS:c<=9999)(bX:d<=9999)(bh:f<=9999)(b0:g<=9999)(b1:i<=9999)(b2:j<=9999)(z:na<=999999999)(w:ax)(bi:lq w):
  aZ aA 189 #[.agg #[.int .i64 ((sh:Nat):Int),.int .i64 ((c:Nat):Int),.int .i64 ((d:Nat):Int),.int .i64 ((f:Nat):Int),.int .i64 ((g:Nat):Int),.int .i64 ((i:Nat):Int),.int .i64 ((j:Nat):Int),.int .i64 ((Z:Nat):Int),.int .i64 ((f7:Nat):Int),.int .i64 ((na:Nat):Int),.int .u8 ((aa:Nat):Int)]] w λr w'=>r=.returned (.string (uz sh c d f g i j na))/\aH w.heap.size w w':=by
 have ab:=ae (λ(W:ax) (o:lq W)=>xh c 4 iE iG W o);have M:=oO c 4 iE iG;have ac:=ae (λ(W:ax) (o:lq W)=>xh d 2 iE iG W o);have N:=oO d 2 iE iG;have ad:=ae (λ(W:ax) (o:lq W)=>xh f 2 iE iG W o);have O:=oO f 2 iE iG;have ai:=ae (λ(W:ax) (o:lq W)=>xh g 2 iE iG W o);have Q:=oO g 2 iE iG;have ak:=ae (λ(W:ax) (o:lq W)=>xh i 2 iE iG W o);have R:=oO i 2 iE iG;have al:=ae (λ(W:ax) (o:lq W)=>xh j 2 iE iG W o);have S:=oO j 2 iE iG;have bj:=ae (λ(W:ax) (o:lq W)=>xh na 9 iE iG W o);have am:=oO na 9 iE iG;have bk:=ae (show uz 1 c d f g i j na=if na=0 then uw c d f else uw c d f++xm na from rfl);have bl:=ae (show uz 2 c d f g i j na=if na=0 then⟨#[]⟩++uy g i j else(⟨#[]⟩++uy g i j)++xm na from rfl);have bm:=ae (show uz 3 c d f g i j na=if na=0 then(uw c d f++(⟨#[84]⟩:ByteArray))++uy g i j else((uw c d f++(⟨#[84]⟩:ByteArray))++uy g i j)++xm na from rfl);have G:xm na=(⟨#[46]⟩:ByteArray)++⟨(az (jL na 9).data.toList 48).toArray⟩:=rfl;have B:uw c d f=(((jL c 4++(⟨#[45]⟩:ByteArray))++jL d 2)++(⟨#[45]⟩:ByteArray))++jL f 2:=rfl;have C:uy g i j=(((jL g 2++(⟨#[58]⟩:ByteArray))++jL i 2)++(⟨#[58]⟩:ByteArray))++jL j 2:=rfl;have an:=ae (λW:ax=>Tryz.strings_TrimRight_one (jL na 9) 48 iG W iE)
 have ao:(⟨(az (jL na 9).data.toList 48).toArray⟩:ByteArray).size<=30:=by
  have h:=Iu (jL na 9).data.toList 48;have bh:(jL na 9).data.toList.length=(jL na 9).size:=iH
  show(az (jL na 9).data.toList 48).toArray.size<=30;rw[List.size_toArray];omega
 obtain⟨D,bo⟩:=iC (jL c 4);rw[bo]at ab M B;clear bo;obtain⟨H,bp⟩:=iC (jL d 2);rw[bp]at ac N B;clear bp;obtain⟨ap,bq⟩:=iC (jL f 2);rw[bq]at ad O B;clear bq;obtain⟨E,br⟩:=iC (jL g 2);rw[br]at ai Q C;clear br;obtain⟨I,bs⟩:=iC (jL i 2);rw[bs]at ak R C;clear bs;obtain⟨aq,bt⟩:=iC (jL j 2);rw[bt]at al S C;clear bt;obtain⟨TR,bv⟩:∃TR:ByteArray,(⟨(az (jL na 9).data.toList 48).toArray⟩:ByteArray)=TR:=⟨_,rfl⟩;rw[bv]at an G ao;clear bv;obtain⟨b9,bw⟩:=iC (jL na 9);rw[bw]at bj am an;clear bw;rw[B,G]at bk;rw[C,G]at bl;rw[B,C,G]at bm;have e1:(D++(⟨#[45]⟩:ByteArray)).size<=31:=by rw[ag];show _+1<=_;omega
 have J:((D++(⟨#[45]⟩:ByteArray))++H).size<=61:=by rw[ag];omega
 have e3:(((D++(⟨#[45]⟩:ByteArray))++H)++(⟨#[45]⟩:ByteArray)).size<=62:=by rw[ag];show _+1<=_;omega
 have ar:((((D++(⟨#[45]⟩:ByteArray))++H)++(⟨#[45]⟩:ByteArray))++ap).size<=92:=by rw[ag];omega
 have q:=ae (iJ M (iJ e1 (iJ (uA e1 N iG) (iJ J (iJ e3 (uA e3 O iG))))));clear e1 J e3;have e1:(E++(⟨#[58]⟩:ByteArray)).size<=31:=by rw[ag];show _+1<=_;omega
 have J:((E++(⟨#[58]⟩:ByteArray))++I).size<=61:=by rw[ag];omega
 have e3:(((E++(⟨#[58]⟩:ByteArray))++I)++(⟨#[58]⟩:ByteArray)).size<=62:=by rw[ag];show _+1<=_;omega
 have av:((((E++(⟨#[58]⟩:ByteArray))++I)++(⟨#[58]⟩:ByteArray))++aq).size<=92:=by rw[ag];omega
 have s:=ae (iJ Q (iJ e1 (iJ (uA e1 R iG) (iJ J (iJ e3 (uA e3 S iG))))));clear e1 J e3;have bx:(((((D++(⟨#[45]⟩:ByteArray))++H)++(⟨#[45]⟩:ByteArray))++ap)++(⟨#[84]⟩:ByteArray)).size<=93:=by rw[ag];show _+1<=_;omega
 have K:((⟨#[46]⟩:ByteArray)++TR).size<=31:=by rw[ag];show 1+_<=_;omega
 have bA:((⟨#[]⟩:ByteArray)++((((E++(⟨#[58]⟩:ByteArray))++I)++(⟨#[58]⟩:ByteArray))++aq)).size<=92:=by rw[ag];show 0+_<=_;omega
 have bB:((((((D++(⟨#[45]⟩:ByteArray))++H)++(⟨#[45]⟩:ByteArray))++ap)++(⟨#[84]⟩:ByteArray))++((((E++(⟨#[58]⟩:ByteArray))++I)++(⟨#[58]⟩:ByteArray))++aq)).size<=185:=by rw[ag];omega
 have v:=ae (iJ ao (iJ K (iJ (uA ar K iG) (iJ (uA bA K iG) (iJ (uA bB K iG) (iJ (uA (A:=(⟨#[]⟩:ByteArray)) (n:=0) (aP _) av iG) (iJ (uA bx av iG) ar)))))));have b3:=ae bi;have a:=ae (iJ M (iJ N (iJ O (iJ Q (iJ R (iJ S am))))));clear B C G ao bx K bA bB ar av M N O Q R S am bi bS bX bh b0 b1 b2 z;go_enter Tryz.func189,Tryz.ntmps189
 go_upto_region 1 with fail
 obtain⟨W0,aw⟩:=iC (w.alloc (.cells #[.int .i64 ((sh:Nat):Int),.int .i64 ((c:Nat):Int),.int .i64 ((d:Nat):Int),.int .i64 ((f:Nat):Int),.int .i64 ((g:Nat):Int),.int .i64 ((i:Nat):Int),.int .i64 ((j:Nat):Int),.int .i64 ((Z:Nat):Int),.int .i64 ((f7:Nat):Int),.int .i64 ((na:Nat):Int),.int .u8 ((aa:Nat):Int)] 227))
 have k:PLift (∀X,aH W0.heap.size W0 X->X.heap[w.heap.size]?=ah (.cells #[.int .i64 ((sh:Nat):Int),.int .i64 ((c:Nat):Int),.int .i64 ((d:Nat):Int),.int .i64 ((f:Nat):Int),.int .i64 ((g:Nat):Int),.int .i64 ((i:Nat):Int),.int .i64 ((j:Nat):Int),.int .i64 ((Z:Nat):Int),.int .i64 ((f7:Nat):Int),.int .i64 ((na:Nat):Int),.int .u8 ((aa:Nat):Int)] 227)/\aH w.heap.size w X/\lq X):=⟨λX aD=>by rw[<-aw]at aD;have bE:=(iW w _).trans (aD.mono (iW w _).size);exact⟨(aD.block _ (aj.1 (aB w _)).1).trans (aB w _),bE,b3.1.below bE⟩⟩
 have l:PLift (aH W0.heap.size W0 W0):=⟨Below.refl _ _⟩;rw[aw];clear aw;have ca:W0.cell? ⟨w.heap.size,0,au⟩=ah (.int .i64 ((sh:Nat):Int)):=af (k.1 W0 l.1).1 0;have cb:W0.cell? ⟨w.heap.size,9,au⟩=ah (.int .i64 ((na:Nat):Int)):=af (k.1 W0 l.1).1 9;rcases bR with rfl|rfl|rfl
 case' inl=>
  go_upto_region 3 with fail
  refine Mix.mM (aF:=?_) iF iF iF iF iF ?_ ?_;rotate_left 1
  ·intro ρ t
   have b:=ae (λx:iR.Grow ρ=>k.1 x.w (l.1.trans ((t.trans (x.h.mono t.size)).mono l.1.size)));have aE:=λx:iR.Grow ρ=>show x.w.cell? ⟨w.heap.size,1,au⟩=ah (.int .i64 ((c:Nat):Int))from af (b.1 x).1 1
   have aG:=λx:iR.Grow ρ=>show x.w.cell? ⟨w.heap.size,2,au⟩=ah (.int .i64 ((d:Nat):Int))from af (b.1 x).1 2
   have aL:=λx:iR.Grow ρ=>show x.w.cell? ⟨w.heap.size,3,au⟩=ah (.int .i64 ((f:Nat):Int))from af (b.1 x).1 3
   have aM:=ae (λx:iR.Grow ρ=>ab.1 x.w (b.1 x).2.2);have aR:=ae (λx:iR.Grow ρ=>ac.1 x.w (b.1 x).2.2);have a0:=ae (λx:iR.Grow ρ=>ad.1 x.w (b.1 x).2.2);have T:=a.1.1;have U:=a.1.2.1;have V:=a.1.2.2.1;have a1:=a.1.2.2.2.1;have a2:=a.1.2.2.2.2.1;have a3:=a.1.2.2.2.2.2.1;have a4:=a.1.2.2.2.2.2.2;have a5:=q.1.1;have a6:=q.1.2.1;have a7:=q.1.2.2.1;have a8:=q.1.2.2.2.1;have a9:=q.1.2.2.2.2.1;have ba:=q.1.2.2.2.2.2
   repeat(go_big_quiet_step((first
    |(go_at_call 206;with_reducible exact iR.Grow.calls (aM.1 _))
    |(go_at_call 206;with_reducible exact iR.Grow.calls (aR.1 _))
    |(go_at_call 206;with_reducible exact iR.Grow.calls (a0.1 _)))))
   apply aX;exact rfl
  intro m u;have p:=ae (l.1.trans (u.mono l.1.size));have b4:m.cell? ⟨w.heap.size,0,au⟩=ah (.int .i64 ((1:Nat):Int)):=af (k.1 m p.1).1 0;have bL:m.cell? ⟨w.heap.size,9,au⟩=ah (.int .i64 ((na:Nat):Int)):=af (k.1 m p.1).1 9;clear u;have Y:=bk;have bb:=ae (v.1.2.2.1);obtain⟨y,L⟩:=iD m;subst L;have F:=p
 case' inr.inl=>
  go_upto_region 7 with fail
  refine Mix.mM (aF:=?_) iF iF iF iF iF ?_ ?_;rotate_left 1
  ·intro ρ t
   have b:=ae (λx:iR.Grow ρ=>k.1 x.w (l.1.trans ((t.trans (x.h.mono t.size)).mono l.1.size)));have aE:=λx:iR.Grow ρ=>show x.w.cell? ⟨w.heap.size,4,au⟩=ah (.int .i64 ((g:Nat):Int))from af (b.1 x).1 4
   have aG:=λx:iR.Grow ρ=>show x.w.cell? ⟨w.heap.size,5,au⟩=ah (.int .i64 ((i:Nat):Int))from af (b.1 x).1 5
   have aL:=λx:iR.Grow ρ=>show x.w.cell? ⟨w.heap.size,6,au⟩=ah (.int .i64 ((j:Nat):Int))from af (b.1 x).1 6
   have bc:=ae (λx:iR.Grow ρ=>ai.1 x.w (b.1 x).2.2);have bd:=ae (λx:iR.Grow ρ=>ak.1 x.w (b.1 x).2.2);have be:=ae (λx:iR.Grow ρ=>al.1 x.w (b.1 x).2.2);have T:=a.1.1;have U:=a.1.2.1;have V:=a.1.2.2.1;have a1:=a.1.2.2.2.1;have a2:=a.1.2.2.2.2.1;have a3:=a.1.2.2.2.2.2.1;have a4:=a.1.2.2.2.2.2.2;have a5:=s.1.1;have a6:=s.1.2.1;have a7:=s.1.2.2.1;have a8:=s.1.2.2.2.1;have a9:=s.1.2.2.2.2.1;have ba:=s.1.2.2.2.2.2;have b5:=v.1.2.2.2.2.2.1
   repeat(go_big_quiet_step((first
    |(go_at_call 206;with_reducible exact iR.Grow.calls (bc.1 _))
    |(go_at_call 206;with_reducible exact iR.Grow.calls (bd.1 _))
    |(go_at_call 206;with_reducible exact iR.Grow.calls (be.1 _)))))
   apply aX;exact rfl
  intro m u;have p:=ae (l.1.trans (u.mono l.1.size));have bL:m.cell? ⟨w.heap.size,9,au⟩=ah (.int .i64 ((na:Nat):Int)):=af (k.1 m p.1).1 9;clear u;have Y:=bl;have bb:=ae (v.1.2.2.2.1);obtain⟨y,L⟩:=iD m;subst L;have F:=p
 case' inr.inr=>
  go_upto_region 3 with fail
  refine Mix.mM (aF:=?_) iF iF iF iF iF ?_ ?_;rotate_left 1
  ·intro ρ t
   have b:=ae (λx:iR.Grow ρ=>k.1 x.w (l.1.trans ((t.trans (x.h.mono t.size)).mono l.1.size)));have aE:=λx:iR.Grow ρ=>show x.w.cell? ⟨w.heap.size,1,au⟩=ah (.int .i64 ((c:Nat):Int))from af (b.1 x).1 1
   have aG:=λx:iR.Grow ρ=>show x.w.cell? ⟨w.heap.size,2,au⟩=ah (.int .i64 ((d:Nat):Int))from af (b.1 x).1 2
   have aL:=λx:iR.Grow ρ=>show x.w.cell? ⟨w.heap.size,3,au⟩=ah (.int .i64 ((f:Nat):Int))from af (b.1 x).1 3
   have aM:=ae (λx:iR.Grow ρ=>ab.1 x.w (b.1 x).2.2);have aR:=ae (λx:iR.Grow ρ=>ac.1 x.w (b.1 x).2.2);have a0:=ae (λx:iR.Grow ρ=>ad.1 x.w (b.1 x).2.2);have T:=a.1.1;have U:=a.1.2.1;have V:=a.1.2.2.1;have a1:=a.1.2.2.2.1;have a2:=a.1.2.2.2.2.1;have a3:=a.1.2.2.2.2.2.1;have a4:=a.1.2.2.2.2.2.2;have a5:=q.1.1;have a6:=q.1.2.1;have a7:=q.1.2.2.1;have a8:=q.1.2.2.2.1;have a9:=q.1.2.2.2.2.1;have ba:=q.1.2.2.2.2.2
   repeat(go_big_quiet_step((first
    |(go_at_call 206;with_reducible exact iR.Grow.calls (aM.1 _))
    |(go_at_call 206;with_reducible exact iR.Grow.calls (aR.1 _))
    |(go_at_call 206;with_reducible exact iR.Grow.calls (a0.1 _)))))
   apply aX;exact rfl
  intro m u;have p:=ae (l.1.trans (u.mono l.1.size));have b4:m.cell? ⟨w.heap.size,0,au⟩=ah (.int .i64 ((3:Nat):Int)):=af (k.1 m p.1).1 0;have bL:m.cell? ⟨w.heap.size,9,au⟩=ah (.int .i64 ((na:Nat):Int)):=af (k.1 m p.1).1 9;clear u;have T:=a.1.1;have U:=a.1.2.1;have V:=a.1.2.2.1
  go_upto_region 7 with fail
  refine Mix.mM (aF:=?_) iF iF iF iF iF ?_ ?_;rotate_left 1
  ·intro ρ t
   have b:=ae (λx:iR.Grow ρ=>k.1 x.w (p.1.trans ((t.trans (x.h.mono t.size)).mono p.1.size)));have aE:=λx:iR.Grow ρ=>show x.w.cell? ⟨w.heap.size,4,au⟩=ah (.int .i64 ((g:Nat):Int))from af (b.1 x).1 4
   have aG:=λx:iR.Grow ρ=>show x.w.cell? ⟨w.heap.size,5,au⟩=ah (.int .i64 ((i:Nat):Int))from af (b.1 x).1 5
   have aL:=λx:iR.Grow ρ=>show x.w.cell? ⟨w.heap.size,6,au⟩=ah (.int .i64 ((j:Nat):Int))from af (b.1 x).1 6
   have bc:=ae (λx:iR.Grow ρ=>ai.1 x.w (b.1 x).2.2);have bd:=ae (λx:iR.Grow ρ=>ak.1 x.w (b.1 x).2.2);have be:=ae (λx:iR.Grow ρ=>al.1 x.w (b.1 x).2.2);have T:=a.1.1;have U:=a.1.2.1;have V:=a.1.2.2.1;have a1:=a.1.2.2.2.1;have a2:=a.1.2.2.2.2.1;have a3:=a.1.2.2.2.2.2.1;have a4:=a.1.2.2.2.2.2.2;have a5:=s.1.1;have a6:=s.1.2.1;have a7:=s.1.2.2.1;have a8:=s.1.2.2.2.1;have a9:=s.1.2.2.2.2.1;have ba:=s.1.2.2.2.2.2;have b5:=v.1.2.2.2.2.2.2.1
   repeat(go_big_quiet_step((first
    |(go_at_call 206;with_reducible exact iR.Grow.calls (bc.1 _))
    |(go_at_call 206;with_reducible exact iR.Grow.calls (bd.1 _))
    |(go_at_call 206;with_reducible exact iR.Grow.calls (be.1 _)))))
   apply aX;exact rfl
  intro bf bM;have bN:=ae (p.1.trans (bM.mono p.1.size));have cc:bf.cell? ⟨w.heap.size,9,au⟩=ah (.int .i64 ((na:Nat):Int)):=af (k.1 bf bN.1).1 9;clear bM;have Y:=bm;have bb:=ae (v.1.2.2.2.2.1);obtain⟨y,L⟩:=iD bf;subst L;have F:=bN
 all_goals
  by_cases z:na=0
  ·have bg:=ae (Y.1.trans (gY z))
   have b6:¬(0:Int)<((na:Nat):Int):=iE;clear z;go_wp2;go_ret;exact⟨by rw[bg.1];rfl,(k.1 y F.1).2.1⟩
  ·have bg:=ae (Y.1.trans (gZ z))
   have b6:(0:Int)<((na:Nat):Int):=iE;have b7:=ae (bj.1 y (k.1 y F.1).2.2);have cd:=v.1.1;have ce:=a.1.1;have cf:=a.1.2.1;have cg:=a.1.2.2.1;have ch:=a.1.2.2.2.1;have ci:=a.1.2.2.2.2.1;have cj:=a.1.2.2.2.2.2.1;have ck:=a.1.2.2.2.2.2.2;have cl:=v.1.2.1;have cm:=bb.1;clear z
   go_wp2_with(first
    |(go_at_call 206;refine b7.1.mono ?_;rintro e cn ⟨rfl,bO⟩;have b8:=ae bO;clear bO)
    |(go_at_call 207;refine(an.1 _).mono ?_;rintro e co ⟨rfl,rfl⟩))
   go_ret;exact⟨by rw[bg.1];rfl,(k.1 y F.1).2.1.trans (b8.1.mono (k.1 y F.1).2.1.size)⟩
def kE (g:List Nat):Nat->Nat->Bool
 |0,_=>aY
 |n+1,i=>if g.getD i 0<=[23,59,59,23,59].getD i 0 then kE g n (i+1)else aC
def xn (sh e f g a b c d f7:Nat):Bool:=if sh=2 then kE [a,b,c,d,f7] 5 0 else nI e f g&&kE [a,b,c,d,f7] 5 0
theorem BB (W:ax):Sem.run aA (Instr.index 253 (.agg #[.int .i64 23,.int .i64 59,.int .i64 59,.int .i64 23,.int .i64 59]) (.int .i64 0)) W=.ok (.int .i64 23) W:=iF
theorem BC (W:ax):Sem.run aA (Instr.index 253 (.agg #[.int .i64 23,.int .i64 59,.int .i64 59,.int .i64 23,.int .i64 59]) (.int .i64 1)) W=.ok (.int .i64 59) W:=iF
theorem BD (W:ax):Sem.run aA (Instr.index 253 (.agg #[.int .i64 23,.int .i64 59,.int .i64 59,.int .i64 23,.int .i64 59]) (.int .i64 2)) W=.ok (.int .i64 59) W:=iF
theorem BF (W:ax):Sem.run aA (Instr.index 253 (.agg #[.int .i64 23,.int .i64 59,.int .i64 59,.int .i64 23,.int .i64 59]) (.int .i64 3)) W=.ok (.int .i64 23) W:=iF
theorem BG (W:ax):Sem.run aA (Instr.index 253 (.agg #[.int .i64 23,.int .i64 59,.int .i64 59,.int .i64 23,.int .i64 59]) (.int .i64 4)) W=.ok (.int .i64 59) W:=iF
theorem Iy (sh j k l b c d f f7 na z:Nat)(F:j<=9999)(G:k<=99)(H:l<=99)(w:ax):
  aZ aA 157 #[.agg #[.int .i64 ((sh:Nat):Int),.int .i64 ((j:Nat):Int),.int .i64 ((k:Nat):Int),.int .i64 ((l:Nat):Int),.int .i64 ((b:Nat):Int),.int .i64 ((c:Nat):Int),.int .i64 ((d:Nat):Int),.int .i64 ((f:Nat):Int),.int .i64 ((f7:Nat):Int),.int .i64 ((na:Nat):Int),.int .u8 ((z:Nat):Int)]] w λr w'=>r=.returned (.bool (xn sh j k l b c d f f7))/\aH w.heap.size w w':=by
 have v:=ae (λW:ax=>Ii j k l F G H W);clear F G H;go_enter Tryz.func157,Tryz.ntmps157
 go_upto_region 1 with fail
 obtain⟨W0,A⟩:=iC (w.alloc (.cells #[.int .i64 ((sh:Nat):Int),.int .i64 ((j:Nat):Int),.int .i64 ((k:Nat):Int),.int .i64 ((l:Nat):Int),.int .i64 ((b:Nat):Int),.int .i64 ((c:Nat):Int),.int .i64 ((d:Nat):Int),.int .i64 ((f:Nat):Int),.int .i64 ((f7:Nat):Int),.int .i64 ((na:Nat):Int),.int .u8 ((z:Nat):Int)] 227))
 have s:PLift (∀X,aH W0.heap.size W0 X->X.heap[w.heap.size]?=ah (.cells #[.int .i64 ((sh:Nat):Int),.int .i64 ((j:Nat):Int),.int .i64 ((k:Nat):Int),.int .i64 ((l:Nat):Int),.int .i64 ((b:Nat):Int),.int .i64 ((c:Nat):Int),.int .i64 ((d:Nat):Int),.int .i64 ((f:Nat):Int),.int .i64 ((f7:Nat):Int),.int .i64 ((na:Nat):Int),.int .u8 ((z:Nat):Int)] 227)/\aH w.heap.size w X):=⟨λX B=>by rw[<-A]at B;have t:=(iW w _).trans (B.mono (iW w _).size);exact⟨(B.block _ (aj.1 (aB w _)).1).trans (aB w _),t⟩⟩
 have q:PLift (aH W0.heap.size W0 W0):=⟨Below.refl _ _⟩;rw[A];clear A;have O:W0.cell? ⟨w.heap.size,0,au⟩=ah (.int .i64 ((sh:Nat):Int)):=af (s.1 W0 q.1).1 0;have P:W0.cell? ⟨w.heap.size,1,au⟩=ah (.int .i64 ((j:Nat):Int)):=af (s.1 W0 q.1).1 1;have Q:W0.cell? ⟨w.heap.size,2,au⟩=ah (.int .i64 ((k:Nat):Int)):=af (s.1 W0 q.1).1 2;have R:W0.cell? ⟨w.heap.size,3,au⟩=ah (.int .i64 ((l:Nat):Int)):=af (s.1 W0 q.1).1 3;by_cases u:sh=2
 case' pos=>
  have n:=ae (show xn sh j k l b c d f f7=kE [b,c,d,f,f7] 5 0 by unfold xn;rw[gY u]);have K:((sh:Int)==2)=aY:=by rw[u];rfl
  have L:((sh:Int)!=2)=aC:=by rw[u];rfl
  clear u
  go_upto_region 6 with fail
  obtain⟨o,C⟩:=iD W0;subst C
 case' neg=>
  have n:=ae (show xn sh j k l b c d f f7=(nI j k l&&kE [b,c,d,f,f7] 5 0) by unfold xn;rw[gZ u]);have K:((sh:Int)==2)=aC:=iI
  have L:((sh:Int)!=2)=aY:=iI
  clear u;obtain⟨ok,I⟩:=iC (nI j k l);rw[I]at n v;clear I;cases ok
  case false=>
   simp only[Bool.false_eq_true,if_false]at v
   go_wp2_with(go_at_call 187;refine(v.1 _).mono ?_;rintro e J ⟨rfl,y⟩;have M:=ae y;clear y)
   go_ret;exact⟨by rw[n.1];rfl,(s.1 _ M.1).2⟩
  simp only[if_true]at v;have n:=ae (n.1.trans (Bool.true_and _));clear q
  go_upto_region 5 with(go_at_call 187;refine(v.1 _).mono ?_;rintro e J ⟨rfl,y⟩;have q:=ae y;clear y)
  go_upto_region 6 with fail
  obtain⟨o,C⟩:=iD J;subst C
 all_goals
  obtain⟨V,D⟩:=iC (o.alloc (.cells #[.int .i64 23,.int .i64 59,.int .i64 59,.int .i64 23,.int .i64 59] 253))
  have h:PLift (aH w.heap.size w V/\V.heap[w.heap.size]?=ah (.cells #[.int .i64 ((sh:Nat):Int),.int .i64 ((j:Nat):Int),.int .i64 ((k:Nat):Int),.int .i64 ((l:Nat):Int),.int .i64 ((b:Nat):Int),.int .i64 ((c:Nat):Int),.int .i64 ((d:Nat):Int),.int .i64 ((f:Nat):Int),.int .i64 ((f7:Nat):Int),.int .i64 ((na:Nat):Int),.int .u8 ((z:Nat):Int)] 227)/\V.heap[o.heap.size]?=ah (.cells #[.int .i64 23,.int .i64 59,.int .i64 59,.int .i64 23,.int .i64 59] 253)):=⟨by rw[<-D];have t:=s.1 o q.1;exact⟨t.2.trans ((iW _ _).mono t.2.size),((iW o _).block _ (aj.1 t.1).1).trans t.1,aB _ _⟩⟩
  rw[D];clear D;have S:=iK h.1.2.2 0 (.int .i64 23);have T:=iK h.1.2.2 1 (.int .i64 59);have U:=iK h.1.2.2 2 (.int .i64 59);have Y:=iK h.1.2.2 3 (.int .i64 23);have Z:=iK h.1.2.2 4 (.int .i64 59);have aa:=iK h.1.2.1 4 (.int .i64 ((b:Nat):Int));have ab:=iK h.1.2.1 5 (.int .i64 ((c:Nat):Int));have ac:=iK h.1.2.1 6 (.int .i64 ((d:Nat):Int));have ad:=iK h.1.2.1 7 (.int .i64 ((f:Nat):Int));have ai:=iK h.1.2.1 8 (.int .i64 ((f7:Nat):Int))
  go_upto_region 7 with fail
  go_loopw [28] (λE wr=>∃i:Nat,E=.int .i64 (i:Nat)/\i<=5/\wr=V/\kE [b,c,d,f,f7] (5 - i) i=kE [b,c,d,f,f7] 5 0) (λE _=>5 - (intOf E).toNat)
  case atStart=>exact⟨0,rfl,iG,rfl,rfl⟩
  case round=>
   obtain⟨i,rfl,hi,rfl,m⟩:=hrel;have N:i=0\/i=1\/i=2\/i=3\/i=4\/i=5:=iE;clear hi;rcases N with rfl|rfl|rfl|rfl|rfl|rfl
   ·have a:=ae (show(if b<=23 then kE [b,c,d,f,f7] 4 1 else aC)=kE [b,c,d,f,f7] 5 0 from m)
    clear m;by_cases g:b<=23
    ·have a:=ae ((gY g).symm.trans a.1)
     have p:¬(23:Int)<((b:Nat):Int):=iE;clear g;go_wp2;rw[BB];simp only[ay];go_wp2;go_roundw
     case rel=>exact⟨1,by go_num,iG,by trivial,a.1⟩
     case measure=>simp[intOf]
    ·have a:=ae ((gZ g).symm.trans a.1)
     have p:(23:Int)<((b:Nat):Int):=iE;clear g;go_wp2;rw[BB];simp only[ay];go_wp2;go_ret;exact⟨by rw[n.1,<-a.1];rfl,h.1.1⟩
   ·have a:=ae (show(if c<=59 then kE [b,c,d,f,f7] 3 2 else aC)=kE [b,c,d,f,f7] 5 0 from m)
    clear m;by_cases g:c<=59
    ·have a:=ae ((gY g).symm.trans a.1)
     have p:¬(59:Int)<((c:Nat):Int):=iE;clear g;go_wp2;rw[BC];simp only[ay];go_wp2;go_roundw
     case rel=>exact⟨2,by go_num,iG,by trivial,a.1⟩
     case measure=>simp[intOf]
    ·have a:=ae ((gZ g).symm.trans a.1)
     have p:(59:Int)<((c:Nat):Int):=iE;clear g;go_wp2;rw[BC];simp only[ay];go_wp2;go_ret;exact⟨by rw[n.1,<-a.1];rfl,h.1.1⟩
   ·have a:=ae (show(if d<=59 then kE [b,c,d,f,f7] 2 3 else aC)=kE [b,c,d,f,f7] 5 0 from m)
    clear m;by_cases g:d<=59
    ·have a:=ae ((gY g).symm.trans a.1)
     have p:¬(59:Int)<((d:Nat):Int):=iE;clear g;go_wp2;rw[BD];simp only[ay];go_wp2;go_roundw
     case rel=>exact⟨3,by go_num,iG,by trivial,a.1⟩
     case measure=>simp[intOf]
    ·have a:=ae ((gZ g).symm.trans a.1)
     have p:(59:Int)<((d:Nat):Int):=iE;clear g;go_wp2;rw[BD];simp only[ay];go_wp2;go_ret;exact⟨by rw[n.1,<-a.1];rfl,h.1.1⟩
   ·have a:=ae (show(if f<=23 then kE [b,c,d,f,f7] 1 4 else aC)=kE [b,c,d,f,f7] 5 0 from m)
    clear m;by_cases g:f<=23
    ·have a:=ae ((gY g).symm.trans a.1)
     have p:¬(23:Int)<((f:Nat):Int):=iE;clear g;go_wp2;rw[BF];simp only[ay];go_wp2;go_roundw
     case rel=>exact⟨4,by go_num,iG,by trivial,a.1⟩
     case measure=>simp[intOf]
    ·have a:=ae ((gZ g).symm.trans a.1)
     have p:(23:Int)<((f:Nat):Int):=iE;clear g;go_wp2;rw[BF];simp only[ay];go_wp2;go_ret;exact⟨by rw[n.1,<-a.1];rfl,h.1.1⟩
   ·have a:=ae (show(if f7<=59 then kE [b,c,d,f,f7] 0 5 else aC)=kE [b,c,d,f,f7] 5 0 from m)
    clear m;by_cases g:f7<=59
    ·have a:=ae ((gY g).symm.trans a.1)
     have p:¬(59:Int)<((f7:Nat):Int):=iE;clear g;go_wp2;rw[BG];simp only[ay];go_wp2;go_roundw
     case rel=>exact⟨5,by go_num,iG,by trivial,a.1⟩
     case measure=>simp[intOf]
    ·have a:=ae ((gZ g).symm.trans a.1)
     have p:(59:Int)<((f7:Nat):Int):=iE;clear g;go_wp2;rw[BG];simp only[ay];go_wp2;go_ret;exact⟨by rw[n.1,<-a.1];rfl,h.1.1⟩
   ·have a:=ae (show aY=kE [b,c,d,f,f7] 5 0 from m)
    clear m;go_wp2;go_ret;exact⟨by rw[n.1,<-a.1];rfl,h.1.1⟩
def yw (a b c d e f g f7 h:Nat):Int:=
 let n:=(if nI a b c then sJ a b c else 0)*86400+(d:Int)*3600+(e:Int)*60+(f:Int)
 let o:=(g:Int)*3600+(f7:Int)*60
 if h=43 then n - o else n+o
theorem Iz (y m d:Nat)(hy:y<=9999)(hm:m<=99)(hd:d<=99): -10000000<=sJ y m d/\sJ y m d<=10000000:=by have a:=Ej y iE;have b:=Bz y (m - 1);unfold sJ;omega
theorem QF (a b c d e f g f7 i:Nat)(j:a<=9999)(k:b<=99)(l:c<=99)(m:d<=99)(n:e<=99)(o:f<=99)(p:g<=99)(q:f7<=99): -1000000000000<=yw a b c d e f g f7 i/\yw a b c d e f g f7 i<=1000000000000:=by have h:=Iz a b c j k l;unfold yw;simp only;split<;>split<;>omega
theorem QG (sh a b c h i j k f7 na m:Nat)(o:a<=9999)(p:b<=99)(q:c<=99)(z:h<=99)(A:i<=99)(B:j<=99)(C:k<=99)(D:f7<=99)(w:ax):
  aZ aA 159 #[.agg #[.int .i64 ((sh:Nat):Int),.int .i64 ((a:Nat):Int),.int .i64 ((b:Nat):Int),.int .i64 ((c:Nat):Int),.int .i64 ((h:Nat):Int),.int .i64 ((i:Nat):Int),.int .i64 ((j:Nat):Int),.int .i64 ((k:Nat):Int),.int .i64 ((f7:Nat):Int),.int .i64 ((na:Nat):Int),.int .u8 ((m:Nat):Int)]] w λr w'=>r=.returned (.int .i64 (yw a b c h i j k f7 m))/\aH w.heap.size w w':=by
 have s:=ae (λW:ax=>Ii a b c o p q W);have E:=Iz a b c o p q;have n:=ae (show yw a b c h i j k f7 m=if m=43 then((if nI a b c then sJ a b c else 0)*86400+(h:Int)*3600+(i:Int)*60+(j:Int)) - ((k:Int)*3600+(f7:Int)*60)else((if nI a b c then sJ a b c else 0)*86400+(h:Int)*3600+(i:Int)*60+(j:Int))+((k:Int)*3600+(f7:Int)*60)from rfl);obtain⟨d,hd⟩:∃d:Int,(if nI a b c then sJ a b c else 0)=d:=⟨_,rfl⟩;have G: -10000000<=d:=by rw[<-hd];split<;>omega
 have H:d<=10000000:=by rw[<-hd];split<;>omega
 rw[hd]at n s;obtain⟨I,x⟩:∃d:Int,(if nI a b c then(0:Int)else 13)=d:=⟨_,rfl⟩;rw[x]at s;clear hd x E;have J:(h:Int)<=99:=iE
 have K:(0:Int)<=(h:Int):=iE
 have L:(i:Int)<=99:=iE
 have M:(0:Int)<=(i:Int):=iE
 have N:(j:Int)<=99:=iE
 have O:(0:Int)<=(j:Int):=iE
 have P:(k:Int)<=99:=iE
 have Q:(0:Int)<=(k:Int):=iE
 have R:(f7:Int)<=99:=iE
 have S:(0:Int)<=(f7:Int):=iE
 clear o p q z A B C D;go_enter Tryz.func159,Tryz.ntmps159
 go_upto_region 1 with fail
 obtain⟨W0,t⟩:=iC (w.alloc (.cells #[.int .i64 ((sh:Nat):Int),.int .i64 ((a:Nat):Int),.int .i64 ((b:Nat):Int),.int .i64 ((c:Nat):Int),.int .i64 ((h:Nat):Int),.int .i64 ((i:Nat):Int),.int .i64 ((j:Nat):Int),.int .i64 ((k:Nat):Int),.int .i64 ((f7:Nat):Int),.int .i64 ((na:Nat):Int),.int .u8 ((m:Nat):Int)] 227))
 have l:PLift (∀X,aH W0.heap.size W0 X->X.heap[w.heap.size]?=ah (.cells #[.int .i64 ((sh:Nat):Int),.int .i64 ((a:Nat):Int),.int .i64 ((b:Nat):Int),.int .i64 ((c:Nat):Int),.int .i64 ((h:Nat):Int),.int .i64 ((i:Nat):Int),.int .i64 ((j:Nat):Int),.int .i64 ((k:Nat):Int),.int .i64 ((f7:Nat):Int),.int .i64 ((na:Nat):Int),.int .u8 ((m:Nat):Int)] 227)/\aH w.heap.size w X):=⟨λX u=>by rw[<-t]at u;have F:=(iW w _).trans (u.mono (iW w _).size);exact⟨(u.block _ (aj.1 (aB w _)).1).trans (aB w _),F⟩⟩
 have f:PLift (aH W0.heap.size W0 W0):=⟨Below.refl _ _⟩;rw[t];clear t;have T:W0.cell? ⟨w.heap.size,1,au⟩=ah (.int .i64 ((a:Nat):Int)):=af (l.1 W0 f.1).1 1;have U:W0.cell? ⟨w.heap.size,2,au⟩=ah (.int .i64 ((b:Nat):Int)):=af (l.1 W0 f.1).1 2;have V:W0.cell? ⟨w.heap.size,3,au⟩=ah (.int .i64 ((c:Nat):Int)):=af (l.1 W0 f.1).1 3
 go_upto_region 2 with(go_at_call 187;refine(s.1 _).mono ?_;rintro e g ⟨rfl,y⟩;have f:=ae y;clear y)
 have Y:g.cell? ⟨w.heap.size,4,au⟩=ah (.int .i64 ((h:Nat):Int)):=af (l.1 g f.1).1 4;have Z:g.cell? ⟨w.heap.size,5,au⟩=ah (.int .i64 ((i:Nat):Int)):=af (l.1 g f.1).1 5;have aa:g.cell? ⟨w.heap.size,6,au⟩=ah (.int .i64 ((j:Nat):Int)):=af (l.1 g f.1).1 6;have ab:g.cell? ⟨w.heap.size,7,au⟩=ah (.int .i64 ((k:Nat):Int)):=af (l.1 g f.1).1 7;have ac:g.cell? ⟨w.heap.size,8,au⟩=ah (.int .i64 ((f7:Nat):Int)):=af (l.1 g f.1).1 8;have ad:g.cell? ⟨w.heap.size,10,au⟩=ah (.int .u8 ((m:Nat):Int)):=af (l.1 g f.1).1 10;by_cases v:m=43
 ·subst v
  have n:=ae (n.1.trans (gY rfl));go_wp2;go_ret;exact⟨by rw[n.1];rfl,(l.1 _ f.1).2⟩
 ·have n:=ae (n.1.trans (gZ v))
  have ai:((m:Int)==43)=aC:=iI
  clear v;go_wp2;go_ret;exact⟨by rw[n.1];rfl,(l.1 _ f.1).2⟩
theorem QH (d f g:Nat)(h:d<=9999)(i:f<=9999)(j:g<=9999):(uw d f g).size<=92:=by have a:=oO d 4 iE iG;have b:=oO f 2 iE iG;have c:=oO g 2 iE iG;have e:(⟨#[45]⟩:ByteArray).size=1:=rfl;unfold uw;rw[ag,ag,ag,ag,e];omega
theorem QI (d f g:Nat)(h:d<=9999)(i:f<=9999)(j:g<=9999):(uy d f g).size<=92:=by have a:=oO d 2 iE iG;have b:=oO f 2 iE iG;have c:=oO g 2 iE iG;have e:(⟨#[58]⟩:ByteArray).size=1:=rfl;unfold uy;rw[ag,ag,ag,ag,e];omega
theorem QJ (na:Nat)(h:na<=999999999):(xm na).size<=31:=by
 have a:=oO na 9 iE iG;have e:(⟨#[46]⟩:ByteArray).size=1:=rfl;have c:=Iu (jL na 9).data.toList 48;have d:(jL na 9).data.toList.length=(jL na 9).size:=iH
 have b:(⟨(az (jL na 9).data.toList 48).toArray⟩:ByteArray).size=(az (jL na 9).data.toList 48).length:=by show(az (jL na 9).data.toList 48).toArray.size=_;rw[List.size_toArray]
 unfold xm;rw[ag,e,b];omega
theorem IB (sh d f g h i j na:Nat)(l:d<=9999)(m:f<=9999)(n:g<=9999)(o:h<=9999)(p:i<=9999)(q:j<=9999)(r:na<=999999999):(uz sh d f g h i j na).size<=300:=by
 have a:=QH d f g l m n;have b:=QI h i j o p q;have c:=QJ na r;have e:(⟨#[84]⟩:ByteArray).size=1:=rfl;have k:(⟨#[]⟩:ByteArray).size=0:=rfl;unfold uz;simp only;split<;>split
 ·omega
 ·split
  ·rw[ag,k];omega
  ·rw[ag,ag,e];omega
 ·rw[ag];omega
 ·split
  ·rw[ag,ag,k];omega
  ·rw[ag,ag,ag,e];omega
theorem QK (x:Int):(0<=x->x.tdiv 86400=x/86400/\x.tmod 86400=x%86400)/\(x<0->x.tdiv 86400= -((-x)/86400)/\x.tmod 86400= -((-x)%86400)):=by refine⟨λh=>⟨aT h,aU h⟩,λh=>?_⟩;have a:(-x).tdiv 86400=(-x)/86400:=aT iE;have b:(-x).tmod 86400=(-x)%86400:=aU iE;rw[Int.neg_tdiv]at a;rw[Int.neg_tmod]at b;omega
theorem QL (x:Int)(na:Nat)(X: -1000000000000<=x)(Z:x<=1000000000000)(j:na<=999999999):∃(t:ByteArray) (c:Int),t.size<=301/\∀w:ax,lq w->
  aZ aA 158 #[.int .i64 x,.int .i64 na] w λr w'=>r=.returned (.tuple #[.string t,.int .i64 c])/\aH w.heap.size w w':=by
 have aa:¬(999999999:Int)<(na:Int):=iE
 have ab:¬(na:Int)<0:=iE
 by_cases ac:x< -62167219200
 ·refine⟨⟨#[]⟩,13,iG,λw g=>?_⟩
  clear g j;go_enter aW,aV;go_wp2;go_ret2;exact⟨rfl,Below.refl _ _⟩
 ·by_cases ad:253402300800<=x
  ·refine⟨⟨#[]⟩,13,iG,λw g=>?_⟩
   clear g j;go_enter aW,aV;go_wp2;go_ret2;exact⟨rfl,Below.refl _ _⟩
  ·obtain⟨n,r,hn,hr,hx⟩:∃n r:Nat,n<3652425/\r<86400/\x=((n:Int) - 719528)*86400+(r:Int):=
    ⟨((x+62167219200)/86400).toNat,((x+62167219200)%86400).toNat,iE,iE,iE⟩
   obtain⟨Y,M,D,m,G,H,v⟩:=Qy n hn;have o:r/3600<=9999:=iE;have p:r/60%60<=9999:=iE;have q:r%60<=9999:=iE;have J:=IB 3 Y M D (r/3600) (r/60%60) (r%60) na m iE iE o p q j;have i:=ae (show ∀(W:ax),lq W->aZ aA 189 #[.agg #[.int .i64 3,.int .i64 (Y:Nat),.int .i64 (M:Nat),.int .i64 (D:Nat),.int .i64 (r/3600:Nat),.int .i64 (r/60%60:Nat),.int .i64 (r%60:Nat),.int .i64 0,.int .i64 0,.int .i64 (na:Nat),.int .u8 0]] W λe w'=>e=.returned (.string (uz 3 Y M D (r/3600) (r/60%60) (r%60) na))/\aH W.heap.size W w' from λ(W:ax) (K:lq W)=>Iw 3 Y M D (r/3600) (r/60%60) (r%60) 0 0 na 0 (.inr (.inr rfl)) m iE iE o p q j W K);have y:=ae v;obtain⟨T,z⟩:=iC (uz 3 Y M D (r/3600) (r/60%60) (r%60) na);rw[z]at i J;refine⟨T++⟨#[90]⟩,0,by rw[ag];show _+1<=_;omega,λw g=>?_⟩;have I:=ae g;obtain⟨E,A⟩:=iC ((n:Int) - 719528);have ai: -719528<=E:=iE;have ak:E<=2932896:=iE;rw[A]at y hx;have f:=QK x;have L:bu (r:Int) 3600=((r/3600:Nat):Int):=rfl;have N:bu (r:Int) 60=((r/60:Nat):Int):=rfl;have O:bz (r:Int) 60=((r%60:Nat):Int):=rfl;obtain⟨u,B⟩:=iC (r/60);have P:bz (u:Int) 60=((u%60:Nat):Int):=rfl;rw[B]at N i;obtain⟨a,ha⟩:=iC (r/3600);obtain⟨b,C⟩:=iC (u%60);obtain⟨c,hc⟩:=iC (r%60);rw[ha]at L i;rw[C]at P i;rw[hc]at O i;have al:(r:Int)<86400:=iE;have am:(a:Int)<=24:=iE;have i2:(u:Int)<=1440:=iE;have an:(b:Int)<=60:=iE;have ao:(c:Int)<=60:=iE;have ap:(0:Int)<=(a:Int):=iE;have aq:(0:Int)<=(u:Int):=iE;have ar:(0:Int)<=(b:Int):=iE;have av:(0:Int)<=(c:Int):=iE;have aw:(0:Int)<=(r:Int):=iE;by_cases s:x<0/\0<r
   ·have Q:bu x 86400=E+1:=by rw[(f.2 s.1).1];omega
    have R:bz x 86400=(r:Int) - 86400:=(by rw[(f.2 s.1).2];omega);have S:(r:Int) - 86400<0:=iE;have aD:(r:Int) - 86400+86400=(r:Int):=iE;have aE:E+1 - 1=E:=iE;clear f v g hn hr m G H o p q j z A B ha C hc s hx;go_enter aW,aV
    go_wp2_with(first
     |(go_at_call 188;refine(y.1 _).mono ?_;rintro e U ⟨rfl,k⟩;have d:=ae k;clear k)
     |(go_at_call 189;refine(i.1 _ (I.1.below (d.1.trans ((iW _ _).mono d.1.size)))).mono ?_;rintro e V ⟨rfl,l⟩;have F:=ae l;clear l))
    go_ret2;exact⟨rfl,d.1.trans (((iW _ _).mono d.1.size).trans (F.1.mono (aI d.1.size (iW _ _).size)))⟩
   ·have Q:bu x 86400=E:=by
     rcases(show x<0\/0<=x by omega)with h|h
     ·rw[(f.2 h).1];omega
     ·rw[(f.1 h).1];omega
    have R:bz x 86400=(r:Int):=by
     rcases(show x<0\/0<=x by omega)with h|h
     ·rw[(f.2 h).2];omega
     ·rw[(f.1 h).2];omega
    have S:¬(r:Int)<0:=iE;clear f v g hn hr m G H o p q j z A B ha C hc s hx;go_enter aW,aV
    go_wp2_with(first
     |(go_at_call 188;refine(y.1 _).mono ?_;rintro e U ⟨rfl,k⟩;have d:=ae k;clear k)
     |(go_at_call 189;refine(i.1 _ (I.1.below (d.1.trans ((iW _ _).mono d.1.size)))).mono ?_;rintro e V ⟨rfl,l⟩;have F:=ae l;clear l))
    go_ret2;exact⟨rfl,d.1.trans (((iW _ _).mono d.1.size).trans (F.1.mono (aI d.1.size (iW _ _).size)))⟩
