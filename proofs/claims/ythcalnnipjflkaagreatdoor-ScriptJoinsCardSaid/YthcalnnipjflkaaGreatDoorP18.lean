import Derived.Test.YthcalnnipjflkaaGreatDoorP16
import Derived.Shelf.RegionOpenPlain
open PLift renaming up -> ae
open Option renaming none -> af, some -> ag
open Go renaming World -> ah, wpQuiet_nil -> au, Value -> aB, Calls -> aC
open Bool renaming false -> aj, true -> ay, false_eq_true -> az, not_false -> aI, and_self -> aJ, not_true -> aK
open Go.Proofs.Tryz renaming prog -> ax
open Array renaming getElem?_eq_some_iff -> aA, getElem?_modify -> aH
set_option linter.all false
set_option maxHeartbeats 16000000
set_option maxRecDepth 1000000
namespace Go.Proofs.YthcalnnipjflkaaGreatDoor
open Go.RowKit Go.Sort
open Go.Lib hiding intOf
theorem WB {base l off n g:Nat}{K:Array aB}{f:Int->Int->Int}{av:Nat->Prop}{S:Array Int->ah->Prop}(C:lH base l off n g K f av S)(cap a b:Nat)(d:Array Int)(w:ah)
  (hS:S d w)(T:a<=b)(U:b<=n)(hn:n<=1000000)(a4:off<=1000000000)(Y:n<=cap)(Z:cap<=1000000000):
  aC ax 138 #[.slice (ag ⟨l,off,af⟩) n cap,.int .i64 a,.int .i64 b,.func (.func g) #[] K] w λe w'=>e=.returned (.tuple #[])/\S (Sort.insertionSort (ltOf f) d a b) w'/\ja base w w':=by
 have a5:(n:Int)<=1000000:=iE
 have a6:(a:Int)<=1000000:=iE
 have a7:(b:Int)<=1000000:=iE
 have aw:=ae hS;have r:=ae C;have a8:=C.enters;have G:=ae (And.intro T (And.intro U (And.intro hn (And.intro Y Z))));have a9:(n:Int)<=(cap:Int):=iE
 have ba:(cap:Int)<=1000000000:=iE
 clear hS C T U hn Y Z;go_enter Tryz.func138,Tryz.ntmps138
 go_upto_region 1 with fail
 go_loopw [8] (λvi wr=>∃(i:Nat) (t:Array Int),vi=.int .i64 (i:Nat)/\a<i/\i<=b+1/\S t wr/\ja base w wr/\insOuter (ltOf f) a b i t=insOuter (ltOf f) a b (a+1) d) (λvi _=>b+1 - (intOf vi).toNat)
 case atStart=>exact⟨a+1,d,by go_num,iE,by have:=G.1.1;omega,aw.1,ja.refl _ _,rfl⟩
 case round=>
  obtain⟨i,t,rfl,L,M,aa,ab,ac⟩:=hrel;have m:=ae (And.intro aa (And.intro ab (And.intro ac (And.intro L M))));have bb:(i:Int)<=1000001:=by have:=G.1.2.1;have:=G.1.2.2.1;omega
  have bc:(0:Int)<=(i:Int):=iE
  clear aa ab ac;by_cases H:i<b
  ·have aD:(i:Int)<(b:Int):=iE
   have v:=ae H;clear H L M
   go_upto_region 4 with fail
   go_loopw [9] (λvj ad=>∃(j:Nat) (dj:Array Int),vj=.int .i64 (j:Nat)/\a<=j/\j<=i/\S dj ad/\ja base w ad/\insInner (ltOf f) a j dj=insInner (ltOf f) a i t) (λvj _=>(intOf vj).toNat)
   case atStart=>exact⟨i,t,rfl,by have:=m.1.2.2.2.1;omega,Nat.le_refl _,m.1.1,m.1.2.1,rfl⟩
   case round=>
    obtain⟨j,dj,rfl,N,ai,ak,al,am⟩:=hrel;have o:=ae (And.intro ak (And.intro al (And.intro am (And.intro N ai))));have O:j<n:=(by have:=G.1.2.1;have:=v.1;omega);have bd:(j:Int)<(n:Int):=iE;have be:(0:Int)<=(j:Int):=iE;have bf:(j:Int)<=1000000:=iE;clear ak al am ai;by_cases P:a<j
    ·have A:(a:Int)<(j:Int):=iE
     have aE:decide ((j:Int)>(a:Int))=ay:=iq A;have aG:decide ((a:Int)<(j:Int))=ay:=iq A;obtain⟨q,an⟩:∃q,q+1=j:=⟨j - 1,iE⟩;have bg:(j:Int) - 1=(q:Int):=iE;have bh:(q:Int)<(n:Int):=iE;have bi:(0:Int)<=(q:Int):=iE;have ao:q<n:=iE;obtain⟨x,hx⟩:=iC (dj[j]! );obtain⟨y,hy⟩:=iC (dj[q]! );have c:=ae (And.intro hx (And.intro hy (And.intro an (And.intro O (And.intro ao P)))));clear an P hx hy N O ao
     go_upto_region 4 with fail
     have I:PLift (∀X,jD base S dj wr X->X.cell? ⟨l,off+j,af⟩=ag (.int .i64 x)/\X.cell? ⟨l,off+q,af⟩=ag (.int .i64 y)/\S dj X):=⟨λX aL=>by have s:=aL o.1.1;have B:=r.1.row dj X s.1;have ap:=(B.2 j c.1.2.2.2.1).1;have aq:=(B.2 q c.1.2.2.2.2.1).1;rw[c.1.1]at ap;rw[c.1.2.1]at aq;exact⟨ap,aq,s.1⟩⟩
     refine Mix.qQ (aF:=?_) (jD base S dj) jD.refl (λ_ _ _ h k=>h.trans k) (r.1.Fg dj wr) iF iF iF iF iF ?_ ?_;rotate_left 1
     ·intro ρ J
      haveI:Nonempty (Mix.iZ (jD base S dj) ρ):=⟨⟨ρ,jD.refl ρ⟩⟩;have bj:=λz:Mix.iZ (jD base S dj) ρ=>(I.1 z.w (J.trans z.h)).1
      have bk:=λz:Mix.iZ (jD base S dj) ρ=>(I.1 z.w (J.trans z.h)).2.1
      have aM:=ae (λz:Mix.iZ (jD base S dj) ρ=>show aC ax g (#[.int .i64 x,.int .i64 y]++K) z.w (λe W'=>e=.returned (.int .i64 (f x y))/\jD base S dj z.w W')from by have h:=r.1.cmp dj z.w j q (I.1 z.w (J.trans z.h)).2.2 c.1.2.2.2.1 c.1.2.2.2.2.1;rw[c.1.1,c.1.2.1]at h;exact h.mono λ_ _ k=>⟨k.1,λ_=>k.2⟩)
      repeat(go_big_quiet_step((go_at_fn g;exact Mix.iZ.calls (λ_ _ _ h k=>h.trans k) (aM.1 _))))
      apply au;exact rfl
     intro W D;have p:=ae (D o.1.1);clear D I;have E:=r.1.row dj W p.1.1;have ca:=(E.2 j c.1.2.2.2.1).1;have Q:=(E.2 q c.1.2.2.2.2.1).1;have aR:=(E.2 j c.1.2.2.2.1).2;have a0:=(E.2 q c.1.2.2.2.2.1).2;rw[c.1.1]at ca;rw[c.1.2.1]at Q;obtain⟨u,a1⟩:=CX (.int .i64 y) ⟨_,ca⟩ Q;clear E;by_cases hv:f x y<0
     ·have hd:decide (f x y<0)=ay:=iq hv
      have a2:PLift (insInner (ltOf f) a q (swp dj j q)=insInner (ltOf f) a i t):=⟨by
       have s:=insInner_go (ltOf f) a j dj c.1.2.2.2.2.2 (by rw[show j - 1=q by have:=c.1.2.2.1;omega,c.1.1,c.1.2.1];exact hd)
       rw[show j - 1=q by have:=c.1.2.2.1;omega]at s;rw[<-s];exact o.1.2.2.1⟩
      have bl:((j:Nat):Int).toNat=j:=Int.toNat_natCast j;have bm:((q:Nat):Int).toNat=q:=Int.toNat_natCast q
      go_upto_region 6 with fail
      have a3:Tryz.prog.follows Departure.mixedOrders=ay:=iF
      go_big_region_o
      clear a3
      have R:PLift (S (swp dj j q) ((W.setCell ⟨l,off+j,af⟩ (.int .i64 y)).setCell ⟨l,off+q,af⟩ (.int .i64 x)).drew/\ja base W ((W.setCell ⟨l,off+j,af⟩ (.int .i64 y)).setCell ⟨l,off+q,af⟩ (.int .i64 x)).drew):=⟨by have s:=r.1.swap dj W j q p.1.1 c.1.2.2.2.1 c.1.2.2.2.2.1;rw[c.1.1,c.1.2.1]at s;have B:=(r.1.lo dj W p.1.1).1;exact⟨r.1.drew _ _ s,((ja.set W _ _ B).trans (ja.set _ _ _ B)).trans (ja.drew base _)⟩⟩
      obtain⟨V,ar⟩:=iC (((W.setCell ⟨l,off+j,af⟩ (.int .i64 y)).setCell ⟨l,off+q,af⟩ (.int .i64 x)).drew);rw[ar]at R⊢;clear ar ca Q a1 aR a0;go_wp2;go_roundw
      case rel=>exact⟨q,swp dj j q,by first|rfl|go_num,by have:=c.1.2.2.1;have:=c.1.2.2.2.2.2;omega,by have:=c.1.2.2.1;have:=o.1.2.2.2.2;omega,R.1.1,(o.1.2.1.trans p.1.2).trans R.1.2,a2.1⟩
      case measure=>have:=c.1.2.2.1;simp[intOf];omega
     ·have hd:decide (f x y<0)=aj:=iw hv
      have F:PLift (insOuter (ltOf f) a b (i+1) dj=insOuter (ltOf f) a b (a+1) d):=⟨by rw[<-m.1.2.2.1,insOuter_go _ _ _ _ _ v.1,<-o.1.2.2.1,insInner_stop _ _ _ _ (.inr (by rw[show j - 1=q by have:=c.1.2.2.1;omega,c.1.1,c.1.2.1];exact hd))]⟩
      go_wp2;go_roundw
      case rel=>exact⟨i+1,dj,by go_num,by have:=m.1.2.2.2.1;omega,by have:=v.1;omega,p.1.1,o.1.2.1.trans p.1.2,F.1⟩
      case measure=>have:=v.1;simp[intOf];omega
    ·have A:¬(a:Int)<(j:Int):=iE
     have aE:decide ((j:Int)>(a:Int))=aj:=iw A;have aG:decide ((a:Int)<(j:Int))=aj:=iw A
     have F:PLift (insOuter (ltOf f) a b (i+1) dj=insOuter (ltOf f) a b (a+1) d):=⟨by rw[<-m.1.2.2.1,insOuter_go _ _ _ _ _ v.1,<-o.1.2.2.1,insInner_stop _ _ _ _ (.inl iE)]⟩
     clear P N O
     go_upto_region 4 with fail
     refine Mix.qQ (aF:=?_) (jD base S dj) jD.refl (λ_ _ _ h k=>h.trans k) (r.1.Fg dj wr) iF iF iF iF iF ?_ ?_;rotate_left 1
     ·intro ρ J
      haveI:Nonempty (Mix.iZ (jD base S dj) ρ):=⟨⟨ρ,jD.refl ρ⟩⟩
      repeat(go_big_quiet_step(fail))
      apply au;exact rfl
     intro W D;have p:=ae (D o.1.1);clear D;go_wp2;go_roundw
     case rel=>exact⟨i+1,dj,by go_num,by have:=m.1.2.2.2.1;omega,by have:=v.1;omega,p.1.1,o.1.2.1.trans p.1.2,F.1⟩
     case measure=>have:=v.1;simp[intOf];omega
  ·have aD:¬(i:Int)<(b:Int):=iE
   have F:PLift (insertionSort (ltOf f) d a b=t):=⟨by unfold insertionSort;rw[<-m.1.2.2.1,insOuter_stop _ _ _ _ _ H]⟩
   clear H L M;go_wp2;go_end0;exact⟨rfl,by rw[F.1];exact m.1.1,m.1.2.1⟩
section
variable {lt:Int->Int->Bool} {hi first root:Nat} {d:Array Int}
theorem sd_end (h:¬2*root+1<hi):siftDown lt hi first root d=d:=by rw[siftDown,dif_pos iE]
theorem WC (h:2*root+1<hi/\2*root+2<hi/\lt d[first+(2*root+1)]! d[first+(2*root+2)]! =ay)(a:lt d[first+root]! d[first+(2*root+2)]! =ay):
  siftDown lt hi first root d=siftDown lt hi first (2*root+2) (swp d (first+root) (first+(2*root+2))):=by
 conv=>lhs;rw[siftDown]
 rw[dif_neg iE];have e:first+(2*root+1)+1=first+(2*root+2):=iE
 have b:2*root+1+1<hi:=iE
 simp only[e,h.2.2,b,a,decide_true,aJ,if_true,aK,az,if_false];rw[dif_pos trivial]
theorem WE (h:2*root+1<hi/\2*root+2<hi/\lt d[first+(2*root+1)]! d[first+(2*root+2)]! =ay)(a:lt d[first+root]! d[first+(2*root+2)]! =aj):
  siftDown lt hi first root d=d:=by
 rw[siftDown,dif_neg iE];have e:first+(2*root+1)+1=first+(2*root+2):=iE
 have b:2*root+1+1<hi:=iE
 simp only[e,h.2.2,b,a,decide_true,aJ,if_true,aI]
theorem Kw (h:2*root+1<hi/\(¬2*root+2<hi\/lt d[first+(2*root+1)]! d[first+(2*root+2)]! =aj)):(decide (2*root+1+1<hi)&&lt d[first+(2*root+1)]! d[first+(2*root+1)+1]!)=aj:=by
 have e:first+(2*root+1)+1=first+(2*root+2):=iE
 rcases h.2 with a|a
 ·have:¬2*root+1+1<hi:=iE
  simp[this]
 ·rw[e,a,Bool.and_false]
theorem Ky (h:2*root+1<hi/\(¬2*root+2<hi\/lt d[first+(2*root+1)]! d[first+(2*root+2)]! =aj))(a:lt d[first+root]! d[first+(2*root+1)]! =ay):
  siftDown lt hi first root d=siftDown lt hi first (2*root+1) (swp d (first+root) (first+(2*root+1))):=by
 conv=>lhs;rw[siftDown]
 rw[dif_neg iE,Kw h];simp only[a,az,if_false,aK]
theorem Kz (h:2*root+1<hi/\(¬2*root+2<hi\/lt d[first+(2*root+1)]! d[first+(2*root+2)]! =aj))(a:lt d[first+root]! d[first+(2*root+1)]! =aj):
  siftDown lt hi first root d=d:=by
 rw[siftDown,dif_neg iE,Kw h];simp only[a,az,if_false,aI,if_true]
end
theorem WG {base M off n g:Nat}{ao:Array aB}{b:Int->Int->Int}{bc:Nat->Prop}{S:Array Int->ah->Prop}(C:lH base M off n g ao b bc S)(cap lo hi first:Nat)(d:Array Int)(w:ah)(hS:S d w)(ap:lo<=1000000)(aq:first+hi<=n)(hn:n<=1000000)(bv:off<=1000000000)(bd:n<=cap)(be:cap<=1000000000):
  aC ax 161 #[.slice (ag ⟨M,off,af⟩) n cap,.int .i64 lo,.int .i64 hi,.int .i64 first,.func (.func g) #[] ao] w λe w'=>e=.returned (.tuple #[])/\S (siftDown (ltOf b) hi first lo d) w'/\ja base w w':=by
 have bw:(n:Int)<=1000000:=iE
 have s:=ae C;have bx:=C.enters;have bA:(n:Int)<=(cap:Int):=iE
 have bB:(cap:Int)<=1000000000:=iE
 have bf:=ae hS;have F:=ae (And.intro aq (And.intro hn ap));have bE:(first:Int)<=1000000:=iE
 have bL:(0:Int)<=(first:Int):=iE
 have bM:(hi:Int)<=1000000:=iE
 clear hS C aq hn bd be ap;go_enter Tryz.func161,Tryz.ntmps161
 go_upto_region 1 with fail
 go_loopw [10] (λP wr=>∃(root:Nat) (a:Array Int),P=.int .i64 (root:Nat)/\root<=1000000/\S a wr/\ja base w wr/\siftDown (ltOf b) hi first root a=siftDown (ltOf b) hi first lo d) (λP _=>hi - (intOf P).toNat)
 case atStart=>exact⟨lo,d,rfl,F.1.2.2,bf.1,ja.refl _ _,rfl⟩
 case round=>
  obtain⟨root,a,rfl,ar,av,aw,aD⟩:=hrel;have p:=ae (And.intro av (And.intro aw (And.intro aD ar)));have bN:(root:Int)<=1000000:=iE
  have bO:(0:Int)<=(root:Int):=iE
  obtain⟨c,G⟩:=iC (2*root+1);have bR:2*(root:Int)+1=(c:Int):=iE
  have bS:(c:Int)<=2000001:=iE
  have bX:(0:Int)<=(c:Int):=iE
  clear av aw aD ar;by_cases N:c<hi
  case neg=>have bg:(hi:Int)<=(c:Int):=iE;have H:PLift (siftDown (ltOf b) hi first lo d=a):=⟨by rw[<-p.1.2.2.1];exact sd_end iE⟩;clear N G;go_wp2;go_end0;exact⟨rfl,by rw[H.1];exact p.1.1,p.1.2.1⟩
  have bg:¬(hi:Int)<=(c:Int):=iE
  have q:=ae (show first+hi<=n/\c<hi/\2*root+1=c/\hi<=1000000 from⟨F.1.1,N,G,by have:=F.1.1;have:=F.1.2.1;omega⟩);obtain⟨j,Q⟩:=iC (c+1);have b0:(c:Int)+1=(j:Int):=iE
  have b1:(j:Int)<=2000002:=iE
  have b2:(0:Int)<=(j:Int):=iE
  by_cases R:j<hi
  case' neg=>
   have T:¬(j:Int)<(hi:Int):=iE;have bh:decide ((j:Int)<(hi:Int))=aj:=iw T;have m:=ae (show c=2*root+1 from G.symm);have r:PLift (2*root+1<hi/\(¬2*root+2<hi\/ltOf b a[first+(2*root+1)]! a[first+(2*root+2)]! =aj)):=⟨⟨iE,.inl iE⟩⟩;clear G Q R N
   go_upto_region 3 with fail
   refine s.1.reg (aF:=?_) (d:=a) iF ?_ ?_;rotate_left 1
   ·intro ρ v
    haveI:=jD.inh (base:=base) (S:=S) (d:=a) ρ
    repeat(go_big_quiet_step(fail))
    apply au;exact rfl
   intro U A;have t:=ae (A p.1.1);clear A;have O:=ae t.1.2
   obtain⟨W,X,q⟩:PLift (ltOf b a[first+root]! a[first+c]! =ay->siftDown (ltOf b) hi first root a=siftDown (ltOf b) hi first c (swp a (first+root) (first+c)))×PLift (ltOf b a[first+root]! a[first+c]! =aj->siftDown (ltOf b) hi first root a=a)×PLift (first+hi<=n/\c<hi/\root<c/\hi<=1000000):=
    ⟨⟨λl=>by rw[m.1]at l⊢;exact Ky r.1 l⟩,⟨λl=>by rw[m.1]at l;exact Kz r.1 l⟩,⟨by have:=q.1;have:=m.1;have:=r.1;omega⟩⟩
   obtain⟨o,I⟩:=iD c;subst I
  case' pos=>
   have T:(j:Int)<(hi:Int):=iE;have bh:decide ((j:Int)<(hi:Int))=ay:=iq T;obtain⟨B,aE⟩:=iC (first+c)
   obtain⟨D,aG⟩:=iC (first+j)
   have aL:(first:Int)+(c:Int)=(B:Int):=iE;have aM:(B:Int)+1=(D:Int):=iE;have aR:B<n:=(by have:=F.1.1;omega);have a0:D<n:=(by have:=F.1.1;omega);have a1:(B:Int)<(n:Int):=iE;have a2:(D:Int)<(n:Int):=iE;have a3:(0:Int)<=(B:Int):=iE;have a4:(0:Int)<=(D:Int):=iE;obtain⟨Y,a5⟩:=iC (a[B]! );obtain⟨Z,a6⟩:=iC (a[D]! );have f:=ae (And.intro a5 (And.intro a6 (And.intro aE (And.intro aG (And.intro aR (And.intro a0 (And.intro G (And.intro Q R))))))));clear a5 a6 aE aG aR a0 G Q R N;by_cases a7:b Y Z<0
   case' neg=>
    have aa:decide (b Y Z<0)=aj:=iw a7
    go_upto_region 3 with fail
    have ab:=ae (s.1.lg p.1.1 f.1.2.2.2.2.1 f.1.2.2.2.2.2.1 f.1.1 f.1.2.1);refine s.1.reg (aF:=?_) (d:=a) iF ?_ ?_;rotate_left 1
    ·intro ρ v
     obtain⟨ac,ad,ai,h⟩:=ab.1 ρ v;have E:=ae h;clear h
     repeat(go_big_quiet_step((go_at_fn g;exact Mix.iZ.calls (λ_ _ _ h k=>h.trans k) (E.1 _))))
     apply au;exact rfl
    intro U A;have t:=ae (A p.1.1);clear A;have O:=ae t.1.2;clear aL aM a1 a2 a3 a4;have m:=ae (show c=2*root+1 from f.1.2.2.2.2.2.2.1.symm)
    have r:PLift (2*root+1<hi/\(¬2*root+2<hi\/ltOf b a[first+(2*root+1)]! a[first+(2*root+2)]! =aj)):=⟨by have a8:=f.1.2.2.2.2.2.2.1;have bi:=f.1.2.2.2.2.2.2.2.1;refine⟨by have:=q.1;omega,.inr ?_⟩;rw[show 2*root+2=j by omega,a8,f.1.2.2.1,f.1.2.2.2.1,f.1.1,f.1.2.1];exact aa⟩
    obtain⟨W,X,q⟩:PLift (ltOf b a[first+root]! a[first+c]! =ay->siftDown (ltOf b) hi first root a=siftDown (ltOf b) hi first c (swp a (first+root) (first+c)))×PLift (ltOf b a[first+root]! a[first+c]! =aj->siftDown (ltOf b) hi first root a=a)×PLift (first+hi<=n/\c<hi/\root<c/\hi<=1000000):=
     ⟨⟨λl=>by rw[m.1]at l⊢;exact Ky r.1 l⟩,⟨λl=>by rw[m.1]at l;exact Kz r.1 l⟩,⟨by have:=q.1;have:=m.1;have:=r.1;omega⟩⟩
    obtain⟨o,I⟩:=iD c;subst I
   case' pos=>
    have aa:decide (b Y Z<0)=ay:=iq a7
    go_upto_region 3 with fail
    have ab:=ae (s.1.lg p.1.1 f.1.2.2.2.2.1 f.1.2.2.2.2.2.1 f.1.1 f.1.2.1);refine s.1.reg (aF:=?_) (d:=a) iF ?_ ?_;rotate_left 1
    ·intro ρ v
     obtain⟨ac,ad,ai,h⟩:=ab.1 ρ v;have E:=ae h;clear h
     repeat(go_big_quiet_step((go_at_fn g;exact Mix.iZ.calls (λ_ _ _ h k=>h.trans k) (E.1 _))))
     apply au;exact rfl
    intro U A;have t:=ae (A p.1.1);clear A;have O:=ae t.1.2;clear aL aM a1 a2 a3 a4;have m:=ae (show j=2*root+2 by have a8:=f.1.2.2.2.2.2.2.1;have bi:=f.1.2.2.2.2.2.2.2.1;omega)
    have r:PLift (2*root+1<hi/\2*root+2<hi/\ltOf b a[first+(2*root+1)]! a[first+(2*root+2)]! =ay):=⟨by refine⟨by have:=q.1;omega,by have:=m.1;have:=f.1.2.2.2.2.2.2.2.2;omega,?_⟩;rw[<-m.1,f.1.2.2.2.2.2.2.1,f.1.2.2.1,f.1.2.2.2.1,f.1.1,f.1.2.1];exact aa⟩
    obtain⟨W,X,q⟩:PLift (ltOf b a[first+root]! a[first+j]! =ay->siftDown (ltOf b) hi first root a=siftDown (ltOf b) hi first j (swp a (first+root) (first+j)))×PLift (ltOf b a[first+root]! a[first+j]! =aj->siftDown (ltOf b) hi first root a=a)×PLift (first+hi<=n/\j<hi/\root<j/\hi<=1000000):=
     ⟨⟨λl=>by rw[m.1]at l⊢;exact WC r.1 l⟩,⟨λl=>by rw[m.1]at l;exact WE r.1 l⟩,⟨by have:=q.1;have:=m.1;have:=r.1;omega⟩⟩
    obtain⟨o,I⟩:=iD j;subst I
  all_goals
   obtain⟨x,hx⟩:=iC (a[first+root]! );obtain⟨y,hy⟩:=iC (a[first+o]! );obtain⟨pr,ak⟩:=iC (first+root)
   obtain⟨u,al⟩:=iC (first+o)
   have b3:(first:Int)+(root:Int)=(pr:Int):=iE;have b4:(first:Int)+(o:Int)=(u:Int):=iE;have a9:pr<n:=(by have:=q.1.1;omega);have ba:u<n:=(by have:=q.1.1;omega);have b5:(pr:Int)<(n:Int):=iE;have b6:(u:Int)<(n:Int):=iE;have b7:(0:Int)<=(pr:Int):=iE;have b8:(0:Int)<=(u:Int):=iE;rw[ak]at hx;rw[al]at hy;have i:=ae (And.intro hx (And.intro hy (And.intro ak (And.intro al (And.intro a9 ba)))));clear hx hy ak al a9 ba;by_cases hv:b x y<0
   ·have hd:decide (b x y<0)=ay:=iq hv
    have bj:(!decide (b x y<0))=aj:=(by rw[hd];rfl);have bk:¬0<=b x y:=iE
    go_upto_region 5 with fail
    have am:=ae (s.1.lg t.1.1 i.1.2.2.2.2.1 i.1.2.2.2.2.2 i.1.1 i.1.2.1);refine s.1.reg (aF:=?_) (d:=a) iF ?_ ?_;rotate_left 1
    ·intro ρ v
     obtain⟨ac,ad,ai,h⟩:=am.1 ρ v;have E:=ae h;clear h
     repeat(go_big_quiet_step((go_at_fn g;exact Mix.iZ.calls (λ_ _ _ h k=>h.trans k) (E.1 _))))
     apply au;exact rfl
    intro V J;have K:=ae (J t.1.1);clear J
    have H:PLift (siftDown (ltOf b) hi first o (swp a pr u)=siftDown (ltOf b) hi first lo d):=⟨by rw[<-p.1.2.2.1];have h:=W.1 (by rw[i.1.2.2.1,i.1.2.2.2.1,i.1.1,i.1.2.1];exact hd);rw[i.1.2.2.1,i.1.2.2.2.1]at h;exact h.symm⟩
    obtain⟨bl,bm,bo,bp,⟨b9,bq⟩,br,bs,L⟩:=s.1.qm K.1.1 i.1.2.2.2.2.1 i.1.2.2.2.2.2 i.1.1 i.1.2.1;have an:=ae L;clear L
    go_upto_region 6 with fail
    have bt:=qo
    go_big_region_o
    clear bt;obtain⟨bb,L⟩:=iC (((V.setCell ⟨M,off+pr,af⟩ (.int .i64 y)).setCell ⟨M,off+u,af⟩ (.int .i64 x)).drew);rw[L]at an⊢;clear L bl bm bq bo bp br bs;go_wp2;go_roundw
    case rel=>exact⟨o,swp a pr u,rfl,by have:=q.1.2;omega,an.1.1,((p.1.2.1.trans O.1).trans K.1.2).trans an.1.2,H.1⟩
    case measure=>have:=q.1.2;simp[intOf];omega
   ·have hd:decide (b x y<0)=aj:=iw hv
    have bj:(!decide (b x y<0))=ay:=(by rw[hd];rfl);have bk:0<=b x y:=iE
    go_upto_region 5 with fail
    have am:=ae (s.1.lg t.1.1 i.1.2.2.2.2.1 i.1.2.2.2.2.2 i.1.1 i.1.2.1);refine s.1.reg (aF:=?_) (d:=a) iF ?_ ?_;rotate_left 1
    ·intro ρ v
     obtain⟨ac,ad,ai,h⟩:=am.1 ρ v;have E:=ae h;clear h
     repeat(go_big_quiet_step((go_at_fn g;exact Mix.iZ.calls (λ_ _ _ h k=>h.trans k) (E.1 _))))
     apply au;exact rfl
    intro V J;have K:=ae (J t.1.1);clear J
    have H:PLift (siftDown (ltOf b) hi first lo d=a):=⟨by rw[<-p.1.2.2.1];exact X.1 (by rw[i.1.2.2.1,i.1.2.2.2.1,i.1.1,i.1.2.1];exact hd)⟩
    go_wp2
    (try simp only[Exit.inBlock,Exit.then])
    refine bodyPost_ret (results_none rfl _ _ _) rfl ?_;exact⟨rfl,by rw[H.1];exact K.1.1,(p.1.2.1.trans O.1).trans K.1.2⟩
theorem WH (i j:Nat)(d:Array Int)(h:i<j):reverseLoop i j d=reverseLoop (i+1) (j - 1) (swp d i j):=by
 conv=>lhs;rw[reverseLoop]
 rw[gY h]
theorem WI (i j:Nat)(d:Array Int)(h:¬i<j):reverseLoop i j d=d:=by rw[reverseLoop,gZ h]
theorem WJ {base m off n g:Nat}{v:Array aB}{H:Int->Int->Int}{I:Nat->Prop}{S:Array Int->ah->Prop}(C:lH base m off n g v H I S)(cap a b:Nat)(d:Array Int)(w:ah)(hS:S d w)(z:a<b)(A:b<=n)(hn:n<=1000000)(aa:off<=1000000000)(J:n<=cap)(K:cap<=1000000000):
  aC ax 142 #[.slice (ag ⟨m,off,af⟩) n cap,.int .i64 a,.int .i64 b,.func (.func g) #[] v] w λe w'=>e=.returned (.tuple #[])/\S (reverseRange d a b) w'/\ja base w w':=by
 have ab:(n:Int)<=1000000:=iE
 have L:=ae C;have ac:=C.enters;have ad:(n:Int)<=(cap:Int):=iE
 have ai:(cap:Int)<=1000000000:=iE
 have M:=ae hS;have h:=ae (And.intro A (And.intro hn z));have ak:(a:Int)<=1000000:=iE
 have al:(b:Int)<=1000000:=iE
 have am:(1:Int)<=(b:Int):=iE
 clear hS C A hn J K z;go_enter Tryz.func142,Tryz.ntmps142
 go_upto_region 2 with fail
 go_loopw [8,9] (λr s wr=>∃(i j:Nat) (c:Array Int),r=.int .i64 (i:Nat)/\s=.int .i64 (j:Nat)/\j<n/\S c wr/\ja base w wr/\reverseLoop i j c=reverseLoop a (b - 1) d/\i<=1000000) (λr s _=>(intOf s).toNat - (intOf r).toNat)
 case atStart=>exact⟨a,b - 1,d,rfl,by first|rfl|(congr 1;have:=h.1.2.2;omega),by have:=h.1.1;have:=h.1.2.2;omega,M.1,ja.refl _ _,rfl,by have:=h.1.1;have:=h.1.2.1;have:=h.1.2.2;omega⟩
 case round=>
  obtain⟨i,j,c,rfl,rfl,o,B,D,E,N⟩:=hrel;have k:=ae (And.intro B (And.intro D (And.intro E o)));have an:(i:Int)<=1000000:=iE
  have ao:(0:Int)<=(i:Int):=iE
  have ap:(j:Int)<=1000000:=by have:=h.1.2.1;omega
  have aq:(0:Int)<=(j:Int):=iE
  clear B D E N;by_cases p:i<j
  ·have O:(i:Int)<(j:Int):=iE
   have F:i<n:=iE;have ar:(i:Int)<(n:Int):=iE;have av:(j:Int)<(n:Int):=iE;obtain⟨x,hx⟩:=iC (c[i]! );obtain⟨y,hy⟩:=iC (c[j]! );have f:=ae (And.intro hx (And.intro hy (And.intro F (And.intro o p))));clear hx hy F o p;obtain⟨P,Q,R,T,⟨aw,U⟩,W,X,l⟩:=L.1.qm k.1.1 f.1.2.2.1 f.1.2.2.2.1 f.1.1 f.1.2.1;have t:=ae l;clear l
   go_upto_region 3 with fail
   have Y:=qo
   go_big_region_o
   clear Y;obtain⟨V,l⟩:=iC (((wr.setCell ⟨m,off+i,af⟩ (.int .i64 y)).setCell ⟨m,off+j,af⟩ (.int .i64 x)).drew);rw[l]at t⊢;clear l P Q U R T W X;obtain⟨q,G⟩:=iC (j - 1);have aD:(j:Int) - 1=(q:Int):=(by have:=f.1.2.2.2.2;omega);have u:=ae G;clear G;go_wp2;go_roundw
   case rel=>exact⟨i+1,q,swp c i j,by go_num,by first|rfl|go_num,by have:=u.1;have:=f.1.2.2.2.1;omega,t.1.1,k.1.2.1.trans t.1.2,by rw[<-k.1.2.2.1,WH i j c f.1.2.2.2.2,u.1],by have:=f.1.2.2.1;have:=h.1.2.1;omega⟩
   case measure=>have:=u.1;have:=f.1.2.2.2.2;simp[intOf];omega
  ·have O:¬(i:Int)<(j:Int):=iE
   have Z:=ae (show reverseRange d a b=c by unfold reverseRange;rw[<-k.1.2.2.1,WI i j c p]);clear p o;go_wp2;go_end0;exact⟨rfl,by rw[Z.1];exact k.1.1,k.1.2.1⟩
theorem WL {base B off n g:Nat}{K:Array aB}{c:Int->Int->Int}{R:Nat->Prop}{S:Array Int->ah->Prop}(C:lH base B off n g K c R S)(cap a b:Nat)(d:Array Int)(w:ah)(hS:S d w)(T:a<b)(U:b<=n)(hn:n<=1000000)(X:off<=1000000000)(L:n<=cap)(M:cap<=1000000000):
  aC ax 139 #[.slice (ag ⟨B,off,af⟩) n cap,.int .i64 a,.int .i64 b,.func (.func g) #[] K] w λe w'=>e=.returned (.tuple #[])/\S (heapSort (ltOf c) d a b) w'/\ja base w w':=by
 have N:=ae (λ(W:ah) (lo hi:Nat) (f:Array Int) (hS:S f W) (Y:lo<=1000000) (Z:a+hi<=n)=>WG C cap lo hi a f W hS Y Z hn X L M);have ar:(n:Int)<=1000000:=iE
 have aa:=ae C;have av:=C.enters;have aw:(n:Int)<=(cap:Int):=iE
 have aD:(cap:Int)<=1000000000:=iE
 have ab:=ae hS;obtain⟨m,hm⟩:=iC (b - a);have aE:(b:Int) - (a:Int)=(m:Int):=iE
 obtain⟨h,G⟩:=iC ((m - 1)/2)
 have aF:Int.tdiv ((m:Int) - 1) 2=(h:Int):=by
  have:((m:Int) - 1)=((m - 1:Nat):Int):=iE
  rw[this,<-G]
  rfl
 have s:=ae (show heapSort (ltOf c) d a b=heapPop (ltOf c) a m (heapBuild (ltOf c) m a (h+1) d) by unfold heapSort;rw[hm,G]);have p:=ae (show a+m<=n/\n<=1000000/\1<=m/\h<m from⟨iE,hn,iE,iE⟩);have aG:(a:Int)<=1000000:=iE
 have aL:(0:Int)<=(a:Int):=iE
 have aM:(b:Int)<=1000000:=iE
 have aR:(m:Int)<=1000000:=iE
 have a0:(1:Int)<=(m:Int):=iE
 have a1:(h:Int)<=1000000:=iE
 have a2:(0:Int)<=(h:Int):=iE
 clear hS C U hn L M T hm G;go_enter Tryz.func139,Tryz.ntmps139
 go_upto_region 4 with fail
 go_loopw [11] (λH wr=>∃(k:Nat) (f:Array Int),H=.int .i64 ((k:Int) - 1)/\k<=m/\S f wr/\ja base w wr/\heapBuild (ltOf c) m a k f=heapBuild (ltOf c) m a (h+1) d) (λH _=>(intOf H+1).toNat)
 case atStart=>exact⟨h+1,d,by go_num,p.1.2.2.2,ab.1,ja.refl _ _,rfl⟩
 case round=>
  obtain⟨k,f,rfl,l,t,D,i⟩:=hrel;cases k with
  |zero=>
   have a3:¬(0:Int)<=((0:Nat):Int) - 1:=iE;have o:=ae (And.intro t (And.intro D (show f=heapBuild (ltOf c) m a (h+1) d from i)));clear t D i l
   go_upto_region 8 with fail
   go_loopw [12] (λI O=>∃(k:Nat) (dj:Array Int),I=.int .i64 ((k:Int) - 1)/\k<=m/\S dj O/\ja base w O/\heapPop (ltOf c) a k dj=heapSort (ltOf c) d a b) (λI _=>(intOf I+1).toNat)
   case atStart=>exact⟨m,f,by go_num,Nat.le_refl _,o.1.1,o.1.2.1,by rw[s.1,o.1.2.2]⟩
   case round=>
    obtain⟨k,dj,rfl,l,E,F,i⟩:=hrel;cases k with
    |zero=>have a4:¬(0:Int)<=((0:Nat):Int) - 1:=iE;have j:=ae (And.intro E (And.intro F (show dj=heapSort (ltOf c) d a b from i)));clear E F i l;go_wp2;go_end0;exact⟨rfl,by rw[<-j.1.2.2];exact j.1.1,j.1.2.1⟩
    |succ q=>
     have e1:((q+1:Nat):Int) - 1=(q:Int):=iE;rw[e1];have j:=ae (And.intro E (And.intro F (And.intro (show heapPop (ltOf c) a q (siftDown (ltOf c) q a 0 (swp dj a (a+q)))=heapSort (ltOf c) d a b from i) l)));have ac:(q:Int)<=1000000:=iE;have ad:(0:Int)<=(q:Int):=iE;obtain⟨r,hr⟩:=iC (a+q);have a5:(a:Int)+(q:Int)=(r:Int):=iE;have P:a<n:=(by have:=p.1.1;have:=p.1.2.2.1;omega);have Q:r<n:=(by have:=p.1.1;omega);have a6:(a:Int)<(n:Int):=iE;have a7:(r:Int)<(n:Int):=iE;have a8:(0:Int)<=(r:Int):=iE;obtain⟨x,hx⟩:=iC (dj[a]! );obtain⟨y,hy⟩:=iC (dj[r]! );have u:=ae (And.intro hx (And.intro hy (And.intro P (And.intro Q hr))));clear hx hy P Q hr E F i l e1;obtain⟨ai,ak,al,am,⟨a9,an⟩,ao,ap,v⟩:=aa.1.qm j.1.1 u.1.2.2.1 u.1.2.2.2.1 u.1.1 u.1.2.1;have s:=ae v;clear v
     go_upto_region 10 with fail
     have aq:=qo
     go_big_region_o
     clear aq;obtain⟨V,v⟩:=iC (((wr.setCell ⟨B,off+a,af⟩ (.int .i64 y)).setCell ⟨B,off+r,af⟩ (.int .i64 x)).drew);rw[v]at s⊢;clear v ai ak an al am ao ap;have J:=ae (N.1 V 0 q (swp dj a r) s.1.1 iG (by have:=p.1.1;have:=j.1.2.2.2;omega))
     go_wp2_with(go_at_call 161;refine J.1.mono ?_;rintro e w3 ⟨rfl,z⟩;have A:=ae z;clear z)
     go_roundw
     case rel=>exact⟨q,siftDown (ltOf c) q a 0 (swp dj a r),by first|rfl|go_num,by have:=j.1.2.2.2;omega,A.1.1,(j.1.2.1.trans s.1.2).trans A.1.2,by rw[<-u.1.2.2.2.2];exact j.1.2.2.1⟩
     case measure=>simp[intOf]
  |succ q=>
   have e1:((q+1:Nat):Int) - 1=(q:Int):=iE;rw[e1];have o:=ae (And.intro t (And.intro D (And.intro (show heapBuild (ltOf c) m a q (siftDown (ltOf c) m a q f)=heapBuild (ltOf c) m a (h+1) d from i) l)));have ac:(q:Int)<=1000000:=iE;have ad:(0:Int)<=(q:Int):=iE;have J:=ae (N.1 wr q m f t iE p.1.1);clear t D i l e1
   go_wp2_with(go_at_call 161;refine J.1.mono ?_;rintro e w3 ⟨rfl,z⟩;have A:=ae z;clear z)
   go_roundw
   case rel=>exact⟨q,siftDown (ltOf c) m a q f,by first|rfl|go_num,by have:=o.1.2.2.2;omega,A.1.1,o.1.2.1.trans A.1.2,o.1.2.2.1⟩
   case measure=>simp[intOf]
def oZ (base p:Nat)(W W':ah):Prop:=W.heap.size<=W'.heap.size/\∀q,base<=q->q<W.heap.size->q≠p->W'.heap[q]?=W.heap[q]?
theorem oZ.trans {base p:Nat}{a b c:ah}(h:oZ base p a b)(k:oZ base p b c):oZ base p a c:=
 ⟨Nat.le_trans h.1 k.1,λq d e f=>(k.2 q d (Nat.lt_of_lt_of_le e h.1) f).trans (h.2 q d e f)⟩
theorem ja.x {base:Nat}(p:Nat){a b:ah}(h:ja base a b):oZ base p a b:=⟨h.1,λq c d _=>h.2 q c d⟩
theorem oZ.set (base p:Nat)(W:ah)(v:aB):oZ base p W (W.setCell ⟨p,0,af⟩ v):=
 ⟨by simp[World.setCell],λq _ _ h=>by
  have a:¬p=q:=λe=>h e.symm
  simp[World.setCell,aH,a]⟩
theorem count_set {W:ah}{p T:Nat}{a:aB}(h:W.heap[p]?=ag (.cells #[a] T))(v:aB):(W.setCell ⟨p,0,af⟩ v).heap[p]?=ag (.cells #[v] T):=by simp[World.setCell,aH,h]
theorem WU {base u off n g:Nat}{v:Array aB}{f:Int->Int->Int}{z:Nat->Prop}{S:Array Int->ah->Prop}(C:lH base u off n g v f z S)(cap a b p k:Nat)(d:Array Int)(w:ah)(hS:S d w)(ha:a<n)(A:b<n)(hp:base<=p/\z p)(D:k<=1000)(B:w.heap[p]?=ag (.cells #[.int .i64 (k:Nat)] 3))(hn:n<=1000000)(J:off<=1000000000)(E:n<=cap)(F:cap<=1000000000):
  aC ax 190 #[.slice (ag ⟨u,off,af⟩) n cap,.int .i64 a,.int .i64 b,.pointer (ag ⟨p,0,af⟩),.func (.func g) #[] v] w λe w'=>e=.returned (.tuple #[.int .i64 (order2 (ltOf f) d a b k).1,.int .i64 (order2 (ltOf f) d a b k).2.1])/\S d w'/\oZ base p w w'/\w'.heap[p]?=ag (.cells #[.int .i64 ((order2 (ltOf f) d a b k).2.2 :Nat)] 3):=by
 have K:(n:Int)<=1000000:=iE
 have l:=ae C;have L:=C.enters;have M:(n:Int)<=(cap:Int):=iE
 have N:(cap:Int)<=1000000000:=iE
 have o:=ae hS;have O:(a:Int)<(n:Int):=iE
 have P:(b:Int)<(n:Int):=iE
 have Q:(0:Int)<=(a:Int):=iE
 have R:(0:Int)<=(b:Int):=iE
 have T:(k:Int)<=1000:=iE
 have U:(0:Int)<=(k:Int):=iE
 obtain⟨x,hx⟩:=iC (d[b]! );obtain⟨y,hy⟩:=iC (d[a]! );have c:=ae (And.intro hx (And.intro hy (And.intro ha (And.intro A (And.intro hp B)))));have j:=ae (show order2 (ltOf f) d a b k=if decide (f x y<0)=ay then(b,a,k+1)else(a,b,k) by unfold order2 ltOf;rw[hx,hy]);clear hS C hx hy ha A hp B hn E F D;go_enter Tryz.func190,Tryz.ntmps190;by_cases hv:f x y<0
 ·have hd:decide (f x y<0)=ay:=iq hv
  have j:=ae (j.1.trans (gY hd))
  go_upto_region 1 with fail
  have q:=ae (l.1.lg o.1 c.1.2.2.2.1 c.1.2.2.1 c.1.1 c.1.2.1);refine l.1.reg (aF:=?_) (d:=d) iF ?_ ?_;rotate_left 1
  ·intro ρ r
   obtain⟨G,H,I,h⟩:=q.1 ρ r;have s:=ae h;clear h
   repeat(go_big_quiet_step((go_at_fn g;exact Mix.iZ.calls (λ_ _ _ h k=>h.trans k) (s.1 _))))
   apply au;exact rfl
  intro V m;have i:=ae (m o.1);clear m;have hcv:=(i.1.2.2 p c.1.2.2.2.2.1.1 (aA.1 c.1.2.2.2.2.2).1).trans c.1.2.2.2.2.2;have cp:V.cell? ⟨p,0,af⟩=ag (.int .i64 (k:Nat)):=Lib.cell_of_heap hcv 0;have W:V.frozen? ⟨p,0,af⟩=aj:=Lib.frozen_of_heap hcv 0;have t:=ae hcv;clear hcv;go_wp2;go_ret2;rw[j.1];exact⟨rfl,l.1.box d V p _ i.1.1 c.1.2.2.2.2.1.1 c.1.2.2.2.2.1.2,(i.1.2.x p).trans (oZ.set _ _ _ _),count_set t.1 _⟩
 ·have hd:decide (f x y<0)=aj:=iw hv
  have j:=ae (j.1.trans (gZ (by rw[hd];exact Bool.false_ne_true)))
  go_upto_region 1 with fail
  have q:=ae (l.1.lg o.1 c.1.2.2.2.1 c.1.2.2.1 c.1.1 c.1.2.1);refine l.1.reg (aF:=?_) (d:=d) iF ?_ ?_;rotate_left 1
  ·intro ρ r
   obtain⟨G,H,I,h⟩:=q.1 ρ r;have s:=ae h;clear h
   repeat(go_big_quiet_step((go_at_fn g;exact Mix.iZ.calls (λ_ _ _ h k=>h.trans k) (s.1 _))))
   apply au;exact rfl
  intro V m;have i:=ae (m o.1);clear m;have t:=ae ((i.1.2.2 p c.1.2.2.2.2.1.1 (aA.1 c.1.2.2.2.2.2).1).trans c.1.2.2.2.2.2);go_wp2;go_ret2;rw[j.1];exact⟨rfl,i.1.1,i.1.2.x p,t.1⟩
theorem order2_lt (lt:Int->Int->Bool)(d:Array Int)(a b k n:Nat)(ha:a<n)(c:b<n):(order2 lt d a b k).1 <n/\(order2 lt d a b k).2.1 <n/\(order2 lt d a b k).2.2 <=k+1:=by unfold order2;split<;>simp<;>omega
theorem KC {base u off n g:Nat}{v:Array aB}{f:Int->Int->Int}{I:Nat->Prop}{S:Array Int->ah->Prop}(C:lH base u off n g v f I S)(cap a b c p k:Nat)(d:Array Int)(w:ah)(hS:S d w)(ha:a<n)(q:b<n)(hc:c<n)(hp:base<=p/\I p)(A:k<=900)(x:w.heap[p]?=ag (.cells #[.int .i64 (k:Nat)] 3))(hn:n<=1000000)(J:off<=1000000000)(K:n<=cap)(L:cap<=1000000000):
  aC ax 165 #[.slice (ag ⟨u,off,af⟩) n cap,.int .i64 a,.int .i64 b,.int .i64 c,.pointer (ag ⟨p,0,af⟩),.func (.func g) #[] v] w λe w'=>e=.returned (.int .i64 (median (ltOf f) d a b c k).1)/\S d w'/\oZ base p w w'/\w'.heap[p]?=ag (.cells #[.int .i64 ((median (ltOf f) d a b c k).2 :Nat)] 3):=by
 have i:=ae (λ(W:ah) (a b k:Nat) (hS:S d W) (ha:a<n) (q:b<n) (A:k<=1000) (x:W.heap[p]?=ag (.cells #[.int .i64 (k:Nat)] 3))=>WU C cap a b p k d W hS ha q hp A x hn J K L);have j:=ae (show median (ltOf f) d a b c k=((order2 (ltOf f) d (order2 (ltOf f) d a b k).1 (order2 (ltOf f) d (order2 (ltOf f) d a b k).2.1 c (order2 (ltOf f) d a b k).2.2).1 (order2 (ltOf f) d (order2 (ltOf f) d a b k).2.1 c (order2 (ltOf f) d a b k).2.2).2.2).2.1,(order2 (ltOf f) d (order2 (ltOf f) d a b k).1 (order2 (ltOf f) d (order2 (ltOf f) d a b k).2.1 c (order2 (ltOf f) d a b k).2.2).1 (order2 (ltOf f) d (order2 (ltOf f) d a b k).2.1 c (order2 (ltOf f) d a b k).2.2).2.2).2.2)from rfl);have l:=order2_lt (ltOf f) d a b k n ha q;have B:=ae (i.1 w a b k hS ha q iE x);obtain⟨r1,M⟩:=iC (order2 (ltOf f) d a b k);obtain⟨y,b1,z⟩:=r1;rw[M]at l B j;simp only at l B j;have s:=order2_lt (ltOf f) d b1 c z n l.2.1 hc;obtain⟨r2,D⟩:=iC (order2 (ltOf f) d b1 c z);obtain⟨b2,O,t⟩:=r2;rw[D]at s j;simp only at s j;have E:=order2_lt (ltOf f) d y b2 t n l.1 s.1;obtain⟨P,F⟩:=iC (order2 (ltOf f) d y b2 t);obtain⟨Q,b3,R⟩:=P;rw[F]at E j;simp only at E j
 have T:PLift (∀W,S d W->W.heap[p]?=ag (.cells #[.int .i64 (z:Nat)] 3)->aC ax 190 #[.slice (ag ⟨u,off,af⟩) n cap,.int .i64 b1,.int .i64 c,.pointer (ag ⟨p,0,af⟩),.func (.func g) #[] v] W λe w'=>e=.returned (.tuple #[.int .i64 b2,.int .i64 O])/\S d w'/\oZ base p W w'/\w'.heap[p]?=ag (.cells #[.int .i64 (t:Nat)] 3)):=⟨λW m o=>by have h:=i.1 W b1 c z m l.2.1 hc iE o;rw[D]at h;exact h⟩
 have U:PLift (∀W,S d W->W.heap[p]?=ag (.cells #[.int .i64 (t:Nat)] 3)->aC ax 190 #[.slice (ag ⟨u,off,af⟩) n cap,.int .i64 y,.int .i64 b2,.pointer (ag ⟨p,0,af⟩),.func (.func g) #[] v] W λe w'=>e=.returned (.tuple #[.int .i64 Q,.int .i64 b3])/\S d w'/\oZ base p W w'/\w'.heap[p]?=ag (.cells #[.int .i64 (R:Nat)] 3)):=⟨λW m o=>by have h:=i.1 W y b2 t m l.1 s.1 iE o;rw[F]at h;exact h⟩
 rw[j.1];clear i j l s E M D F hS C ha q hc hp A x hn J K L;go_enter Tryz.func165,Tryz.ntmps165
 go_upto_region 2 with(go_at_call 190;refine B.1.mono ?_;rintro e V ⟨rfl,m⟩;have G:=ae m;clear m)
 go_upto_region 3 with(go_at_call 190;refine(T.1 _ G.1.1 G.1.2.2).mono ?_;rintro e X ⟨rfl,o⟩;have i:=ae o;clear o)
 go_wp2_with(go_at_call 190;refine(U.1 _ i.1.1 i.1.2.2).mono ?_;rintro e w3 ⟨rfl,N⟩;have H:=ae N;clear N)
 go_ret;exact⟨rfl,H.1.1,(G.1.2.1.trans i.1.2.1).trans H.1.2.1,H.1.2.2⟩
theorem Ap (lt:Int->Int->Bool)(d:Array Int)(a b c k n:Nat)(ha:a<n)(f:b<n)(hc:c<n):(median lt d a b c k).1 <n/\(median lt d a b c k).2 <=k+3:=by unfold median;have e:=order2_lt lt d a b k n ha f;have g:=order2_lt lt d (order2 lt d a b k).2.1 c (order2 lt d a b k).2.2 n e.2.1 hc;have h:=order2_lt lt d (order2 lt d a b k).1 (order2 lt d (order2 lt d a b k).2.1 c (order2 lt d a b k).2.2).1 (order2 lt d (order2 lt d a b k).2.1 c (order2 lt d a b k).2.2).2.2 n e.1 g.1;exact⟨h.2.1,by simp only;omega⟩
theorem WV {base c off n g:Nat}{f:Array aB}{b:Int->Int->Int}{h:Nat->Prop}{S:Array Int->ah->Prop}(C:lH base c off n g f b h S)(cap a p k:Nat)(d:Array Int)(w:ah)(hS:S d w)(x:1<=a)(ha:a+1<n)(hp:base<=p/\h p)(i:k<=900)(j:w.heap[p]?=ag (.cells #[.int .i64 (k:Nat)] 3))(hn:n<=1000000)(l:off<=1000000000)(m:n<=cap)(o:cap<=1000000000):
  aC ax 164 #[.slice (ag ⟨c,off,af⟩) n cap,.int .i64 a,.pointer (ag ⟨p,0,af⟩),.func (.func g) #[] f] w λe w'=>e=.returned (.int .i64 (medianAdjacent (ltOf b) d a k).1)/\S d w'/\oZ base p w w'/\w'.heap[p]?=ag (.cells #[.int .i64 ((medianAdjacent (ltOf b) d a k).2 :Nat)] 3):=by
 have s:=ae (KC C cap (a - 1) a (a+1) p k d w hS iE iE ha hp i j hn l m o);have t:=ae (show medianAdjacent (ltOf b) d a k=median (ltOf b) d (a - 1) a (a+1) k from rfl);rw[t.1];have z:(a:Int)<=1000000:=iE
 obtain⟨q,u⟩:=iC (a - 1);obtain⟨r,hr⟩:=iC (a+1);have A:(a:Int) - 1=(q:Int):=iE
 have B:(a:Int)+1=(r:Int):=iE
 have D:(0:Int)<=(q:Int):=iE
 have E:(r:Int)<=1000001:=iE
 rw[u,hr]at s⊢;clear t hS C x ha hp i j hn l m o u hr;go_enter Tryz.func164,Tryz.ntmps164
 go_wp2_with(go_at_call 165;refine s.1.mono ?_;rintro e F ⟨rfl,v⟩;have y:=ae v;clear v)
 go_ret;exact⟨rfl,y.1⟩
end Go.Proofs.YthcalnnipjflkaaGreatDoor
