import Derived.Test.YthcalnnipjflkaaGreatDoorP18
import Derived.Sort.WalkA6
import Derived.Sort.LotA
open PLift renaming up -> ae
open Go renaming wpQuiet_nil -> af
open Bool renaming false -> ag, true -> ah
set_option linter.all false
set_option maxHeartbeats 16000000
set_option maxRecDepth 1000000
namespace Go.Proofs.YthcalnnipjflkaaGreatDoor
open Go.RowKit Go.Sort
open Go.Lib hiding intOf
theorem WR (lt:Int->Int->Bool){a b s i:Nat}{d:Array Int}(h:scanSorted lt d b i=b):partialIns lt a b (s+1) i d=(d,ah):=by rw[partialIns_succ,gY h]
theorem pi_short (lt:Int->Int->Bool){a b s i:Nat}{d:Array Int}(h:scanSorted lt d b i≠b)(c:b - a<50):partialIns lt a b (s+1) i d=(d,ag):=by rw[partialIns_succ,gZ h,gY c]
theorem WS (lt:Int->Int->Bool){a b s i c:Nat}{d:Array Int}(f:c=scanSorted lt d b i)(h:c≠b)(g:¬b - a<50)(e:Array Int)(j:fixDown lt a c (swp d c (c - 1))=e):partialIns lt a b (s+1) i d=partialIns lt a b s c (fixUp lt b c e):=by subst f;subst j;rw[partialIns_succ,gZ h,gZ g]
theorem WT {base L off n g:Nat}{bv:Array Value}{f:Int->Int->Int}{bS:Nat->Prop}{S:Array Int->World->Prop}(C:lH base L off n g bv f bS S)(cap a b:Nat)(d:Array Int)(w:World)(hS:S d w)(bw:a<b)(bx:b<=n)(hn:n<=1000000)(cD:off<=1000000000)(bX:n<=cap)(b0:cap<=1000000000):
  Calls Tryz.prog 143 #[.slice (some ⟨L,off,none⟩) n cap,.int .i64 a,.int .i64 b,.func (.func g) #[] bv] w λe w'=>e=.returned (.bool (partialInsertionSort (ltOf f) d a b).2)/\S (partialInsertionSort (ltOf f) d a b).1 w'/\ja base w w':=by
 have cE:(n:Int)<=1000000:=iE
 have A:=ae C;have cF:=C.enters;have cG:(n:Int)<=(cap:Int):=iE
 have cH:(cap:Int)<=1000000000:=iE
 have b1:=ae hS;have an:=ae (And.intro bx (And.intro hn (And.intro (show a<n by omega) bw)));have bA:=ae (show partialInsertionSort (ltOf f) d a b=partialIns (ltOf f) a b 5 (a+1) d from rfl);have cI:(a:Int)<=1000000:=iE
 have cJ:(0:Int)<=(a:Int):=iE
 have cK:(b:Int)<=1000000:=iE
 have cL:(1:Int)<=(b:Int):=iE
 have cM:(a:Int)<(n:Int):=iE
 rw[bA.1];clear hS C bx hn bX b0 bw bA;go_enter Tryz.func143,Tryz.ntmps143
 go_upto_region 3 with fail
 go_loopw [9,10] (λb2 bc wr=>∃(s i:Nat) (l:Array Int),s<=5/\b2=.int .i64 (i:Nat)/\bc=.int .i64 (5 - (s:Int))/\a<i/\i<=b/\S l wr/\ja base w wr/\partialIns (ltOf f) a b s i l=partialIns (ltOf f) a b 5 (a+1) d) (λ_ bc _=>(5 - intOf bc).toNat)
 case atStart=>exact⟨5,a+1,d,iG,by first|rfl|go_num,by first|rfl|go_num,iE,by have:=an.1.2.2.2;omega,b1.1,ja.refl _ _,rfl⟩
 case round=>
  obtain⟨s,i,l,bd,rfl,rfl,be,bf,a6,a7,a8⟩:=hrel;cases s with
  |zero=>have z:=ae (And.intro a6 (And.intro a7 (show partialIns (ltOf f) a b 5 (a+1) d=(l,ag)from a8.symm)));clear bd be bf a6 a7 a8;go_wp2;go_ret;exact⟨by(simp only[z.1.2.2])<;>rfl,by rw[z.1.2.2];exact z.1.1,z.1.2.1⟩
  |succ s=>
   have z:=ae (And.intro a6 (And.intro a7 (And.intro a8 (And.intro be bf))));have ao:=ae bd;have cN:(0:Int)<=(s:Int):=iE;have cO:(s:Int)<=4:=iE;have bB:(5:Int) - ((s+1:Nat):Int)=4 - (s:Int):=iE;have cP:(4:Int) - (s:Int)<5:=iE;rw[bB];have cQ:(i:Int)<=1000000:=iE;have cR:(0:Int)<=(i:Int):=iE;clear bd be bf a6 a7 a8 bB
   go_upto_region 5 with fail
   go_loopw [9] (λv M=>∃c:Nat,v=.int .i64 (c:Nat)/\i<=c/\c<=b/\S l M/\ja base w M/\scanSorted (ltOf f) l b c=scanSorted (ltOf f) l b i) (λv _=>b+1 - (intOf v).toNat)
   case atStart=>exact⟨i,rfl,Nat.le_refl _,z.1.2.2.2.2,z.1.1,z.1.2.1,rfl⟩
   case round=>
    obtain⟨c,rfl,H,ai,N,O,P⟩:=hrel;have B:=ae (And.intro H (And.intro ai (And.intro N (And.intro O P))));have cS:(c:Int)<=1000000:=iE;have cT:(1:Int)<=(c:Int):=(by have:=z.1.2.2.2.1;omega);have bE:1<=c:=iE;clear H N O P;by_cases E:c<b
    ·have ak:(c:Int)<(b:Int):=iE
     have b3:decide ((c:Int)<(b:Int))=ah:=iq ak;have I:=ae E;obtain⟨D,Q⟩:=iC (c - 1);have cU:(c:Int) - 1=(D:Int):=iE;have R:c<n:=(by have:=an.1.1;omega);have T:D<n:=iE;have cV:(c:Int)<(n:Int):=iE;have cW:(D:Int)<(n:Int):=iE;have cX:(0:Int)<=(D:Int):=iE;obtain⟨U,hx⟩:=iC (l[c]! );obtain⟨V,hy⟩:=iC (l[D]! );have o:=ae (And.intro hx (And.intro hy (And.intro R (And.intro T Q))));clear hx hy R T Q;clear E ai bE;by_cases hv:f U V<0
     ·have hd:decide (f U V<0)=ah:=iq hv
      have al:(!decide (f U V<0))=ag:=(by rw[hd];rfl);have am:¬0<=f U V:=iE
      go_upto_region 5 with fail
      have bg:=ae (A.1.lg B.1.2.2.1 o.1.2.2.1 o.1.2.2.2.1 o.1.1 o.1.2.1);refine A.1.reg (aF:=?_) (d:=l) iF ?_ ?_;rotate_left 1
      ·intro ρ F
       obtain⟨ar,av,aw,h⟩:=bg.1 ρ F;have G:=ae h;clear h
       repeat(go_big_quiet_step((go_at_fn g;exact Mix.iZ.calls (λ_ _ _ h k=>h.trans k) (G.1 _))))
       apply af;exact rfl
      intro bh W;have J:=ae (W B.1.2.2.1);clear W;have a9:PLift (c=scanSorted (ltOf f) l b i):=⟨(scanSorted_stop (ltOf f) l b c (.inr (show ltOf f l[c]! l[c - 1]! =ah by rw[o.1.2.2.2.2,o.1.1,o.1.2.1];exact hd))).symm.trans B.1.2.2.2.2⟩;have aD:=ae (And.intro J.1.1 (B.1.2.2.2.1.trans J.1.2));clear hv hd al am J;have b4:¬(c:Int)=(b:Int):=iE;have cY:((c:Int)==(b:Int))=ag:=(by rw[iy];exact b4);by_cases ba:b - a<50
      ·have b5:(b:Int) - (a:Int)<50:=iE
       have K:=ae (show partialIns (ltOf f) a b 5 (a+1) d=(l,ag)from z.1.2.2.1 ▸pi_short (ltOf f) (by rw[<-a9.1];have:=I.1;omega) ba);clear ba;go_wp2;go_ret;exact⟨by(simp only[K.1])<;>rfl,by rw[K.1];exact aD.1.1,aD.1.2⟩
      ·have b5:¬(b:Int) - (a:Int)<50:=iE
       have K:PLift (∀p,fixDown (ltOf f) a c (swp l c (c - 1))=p->partialIns (ltOf f) a b (s+1) i l=partialIns (ltOf f) a b s c (fixUp (ltOf f) b c p)):=⟨λp b6=>WS (ltOf f) a9.1 (by have:=I.1;omega) ba p b6⟩;clear ba;obtain⟨b7,b8,b9,ca,⟨c0,cb⟩,cc,cd,aE⟩:=A.1.qm aD.1.1 o.1.2.2.1 o.1.2.2.2.1 o.1.1 o.1.2.1;have bb:=ae aE;clear aE
       go_upto_region 11 with fail
       have aG:=qo
       go_big_region_o
       clear aG;obtain⟨bi,aE⟩:=iC (((bh.setCell ⟨L,off+c,none⟩ (.int .i64 V)).setCell ⟨L,off+D,none⟩ (.int .i64 U)).drew);rw[aE]at bb⊢;clear aE b7 b8 cb b9 ca cc cd;have aL:=ae (And.intro bb.1.1 (aD.1.2.trans bb.1.2));clear bb aD;by_cases bj:a+2<=c
       case' neg=>
        have ce:(c:Int) - (a:Int)<2:=iE;have cf:¬2<=(c:Int) - (a:Int):=iE
        have X:PLift (fixDown (ltOf f) a c (swp l c (c - 1))=swp l c D):=⟨by unfold fixDown;rw[gZ iE,o.1.2.2.2.2]⟩
        clear bj;obtain⟨p,Y⟩:=iC (swp l c D);rw[Y]at X aL;have Z:=aL;clear Y aL;obtain⟨bL,aM⟩:=iD bi;subst aM
       case' pos=>
        have ce:¬(c:Int) - (a:Int)<2:=iE;have cf:2<=(c:Int) - (a:Int):=iE;have bk:=ae bj;clear bj
        go_upto_region 14 with fail
        go_loopw [11] (λv M=>∃(k:Nat) (j:Array Int),v=.int .i64 (k:Nat)/\k<c/\S j M/\ja base w M/\shiftDown (ltOf f) k j=shiftDown (ltOf f) (c - 1) (swp l c D)) (λv _=>(intOf v).toNat)
        case atStart=>exact⟨D,swp l c D,by first|rfl|go_num,by have:=o.1.2.2.2.2;have:=bk.1;omega,aL.1.1,aL.1.2,by rw[o.1.2.2.2.2]⟩
        case' round=>
         obtain⟨k,j,rfl,H,N,O,P⟩:=hrel;have m:=ae (And.intro N (And.intro O (And.intro P H)));have cg:(k:Int)<=1000000:=iE;have ch:(0:Int)<=(k:Int):=iE;clear N O P;by_cases E:1<=k
         case' neg=>
          have ak:¬(1:Int)<=(k:Int):=iE
          have X:PLift (fixDown (ltOf f) a c (swp l c (c - 1))=j):=⟨by unfold fixDown;rw[gY (by have:=bk.1;omega)];rw[show swp l c (c - 1)=swp l c D by rw[o.1.2.2.2.2],<-m.1.2.2.1];exact shiftDown_stop (ltOf f) k j (.inl iE)⟩
          have Z:=ae (And.intro m.1.1 m.1.2.1);clear E H;obtain⟨p,Y⟩:=iC j;rw[Y]at X Z;clear Y m;obtain⟨bL,aM⟩:=iD wr;subst aM
         case' pos=>
          have ak:(1:Int)<=(k:Int):=iE;have ap:=ae E;have ci:k<=b:=(by have:=I.1;omega);obtain⟨t,Q⟩:=iC (k - 1);have cj:(k:Int) - 1=(t:Int):=iE;have R:k<n:=(by have:=an.1.1;omega);have T:t<n:=iE;have c1:(k:Int)<(n:Int):=iE;have c2:(t:Int)<(n:Int):=iE;have ck:(0:Int)<=(t:Int):=iE;obtain⟨aa,hx⟩:=iC (j[k]! );obtain⟨ab,hy⟩:=iC (j[t]! );have r:=ae (And.intro hx (And.intro hy (And.intro R (And.intro T Q))));clear hx hy R T Q;clear E H ci;by_cases hv:f aa ab<0
          case pos=>
           have hd:decide (f aa ab<0)=ah:=iq hv;have al:(!decide (f aa ab<0))=ag:=(by rw[hd];rfl);have am:¬0<=f aa ab:=iE
           go_upto_region 16 with fail
           have bl:=ae (A.1.lg m.1.1 r.1.2.2.1 r.1.2.2.2.1 r.1.1 r.1.2.1);refine A.1.reg (aF:=?_) (d:=j) iF ?_ ?_;rotate_left 1
           ·intro ρ F
            obtain⟨ar,av,aw,h⟩:=bl.1 ρ F;have G:=ae h;clear h
            repeat(go_big_quiet_step((go_at_fn g;exact Mix.iZ.calls (λ_ _ _ h k=>h.trans k) (G.1 _))))
            apply af;exact rfl
           intro bm aR;have aq:=ae (aR m.1.1);clear aR
           have bo:PLift (shiftDown (ltOf f) t (swp j k t)=shiftDown (ltOf f) (c - 1) (swp l c D)):=⟨by have h:=shiftDown_go (ltOf f) k j ap.1 (show ltOf f j[k]! j[k - 1]! =ah by rw[r.1.2.2.2.2,r.1.1,r.1.2.1];exact hd);rw[r.1.2.2.2.2]at h;exact h.symm.trans m.1.2.2.1⟩
           obtain⟨cl,cm,cn,co,⟨c3,cp⟩,cq,cr,a0⟩:=A.1.qm aq.1.1 r.1.2.2.1 r.1.2.2.2.1 r.1.1 r.1.2.1;have bp:=ae a0;clear a0
           go_upto_region 17 with fail
           have aG:=qo
           go_big_region_o
           clear aG;obtain⟨bM,a0⟩:=iC (((bm.setCell ⟨L,off+k,none⟩ (.int .i64 ab)).setCell ⟨L,off+t,none⟩ (.int .i64 aa)).drew);rw[a0]at bp⊢;clear a0 cl cm cp cn co cq cr;go_wp2;go_roundw
           case rel=>exact⟨t,swp j k t,by first|rfl|go_num,by have:=m.1.2.2.2;have:=r.1.2.2.2.2;omega,bp.1.1,(m.1.2.1.trans aq.1.2).trans bp.1.2,bo.1⟩
           case measure=>have:=ap.1;have:=r.1.2.2.2.2;simp[intOf];omega
          have hd:decide (f aa ab<0)=ag:=iw hv;have al:(!decide (f aa ab<0))=ah:=(by rw[hd];rfl);have am:0<=f aa ab:=iE
          go_upto_region 16 with fail
          have bl:=ae (A.1.lg m.1.1 r.1.2.2.1 r.1.2.2.2.1 r.1.1 r.1.2.1);refine A.1.reg (aF:=?_) (d:=j) iF ?_ ?_;rotate_left 1
          ·intro ρ F
           obtain⟨ar,av,aw,h⟩:=bl.1 ρ F;have G:=ae h;clear h
           repeat(go_big_quiet_step((go_at_fn g;exact Mix.iZ.calls (λ_ _ _ h k=>h.trans k) (G.1 _))))
           apply af;exact rfl
          intro bm aR;have aq:=ae (aR m.1.1);clear aR
          have X:PLift (fixDown (ltOf f) a c (swp l c (c - 1))=j):=⟨by unfold fixDown;rw[gY (by have:=bk.1;omega)];rw[show swp l c (c - 1)=swp l c D by rw[o.1.2.2.2.2],<-m.1.2.2.1];exact shiftDown_stop (ltOf f) k j (.inr (show ltOf f j[k]! j[k - 1]! =ag by rw[r.1.2.2.2.2,r.1.1,r.1.2.1];exact hd))⟩
          have Z:=ae (And.intro aq.1.1 (m.1.2.1.trans aq.1.2));obtain⟨p,Y⟩:=iC j;rw[Y]at X Z;clear Y m hv hd al am aq;obtain⟨bL,aM⟩:=iD bm;subst aM
       all_goals
        by_cases bq:c+2<=b
        ·have cs:¬(b:Int) - (c:Int)<2:=iE
         have ct:2<=(b:Int) - (c:Int):=iE;have br:=ae bq;clear bq
         go_upto_region 20 with fail
         go_loopw [12] (λv M=>∃(k:Nat) (j:Array Int),v=.int .i64 (k:Nat)/\c<k/\k<=b/\S j M/\ja base w M/\shiftUp (ltOf f) b k j=shiftUp (ltOf f) b (c+1) p) (λv _=>b+1 - (intOf v).toNat)
         case atStart=>exact⟨c+1,p,by first|rfl|go_num,iE,by have:=br.1;omega,Z.1.1,Z.1.2,rfl⟩
         case round=>
          obtain⟨k,j,rfl,H,ai,N,O,P⟩:=hrel;have m:=ae (And.intro N (And.intro O (And.intro P (And.intro H ai))));have cg:(k:Int)<=1000000:=(by have:=an.1.1;have:=an.1.2.1;omega);have ch:(0:Int)<=(k:Int):=iE;have bN:1<=k:=iE;clear N O P H;by_cases E:k<b
          ·have ak:(k:Int)<(b:Int):=iE
           have ap:=ae E;obtain⟨t,Q⟩:=iC (k - 1);have cj:(k:Int) - 1=(t:Int):=iE;have R:k<n:=(by have:=an.1.1;omega);have T:t<n:=iE;have c4:(k:Int)<(n:Int):=iE;have c5:(t:Int)<(n:Int):=iE;have ck:(0:Int)<=(t:Int):=iE;obtain⟨ac,hx⟩:=iC (j[k]! );obtain⟨ad,hy⟩:=iC (j[t]! );have u:=ae (And.intro hx (And.intro hy (And.intro R (And.intro T Q))));clear hx hy R T Q;clear E ai bN;by_cases hv:f ac ad<0
           ·have hd:decide (f ac ad<0)=ah:=iq hv
            have al:(!decide (f ac ad<0))=ag:=(by rw[hd];rfl);have am:¬0<=f ac ad:=iE
            go_upto_region 22 with fail
            have bs:=ae (A.1.lg m.1.1 u.1.2.2.1 u.1.2.2.2.1 u.1.1 u.1.2.1);refine A.1.reg (aF:=?_) (d:=j) iF ?_ ?_;rotate_left 1
            ·intro ρ F
             obtain⟨ar,av,aw,h⟩:=bs.1 ρ F;have G:=ae h;clear h
             repeat(go_big_quiet_step((go_at_fn g;exact Mix.iZ.calls (λ_ _ _ h k=>h.trans k) (G.1 _))))
             apply af;exact rfl
            intro bO a1;have a2:=ae (a1 m.1.1);clear a1
            have bo:PLift (shiftUp (ltOf f) b (k+1) (swp j k t)=shiftUp (ltOf f) b (c+1) p):=⟨by have h:=shiftUp_go (ltOf f) b k j ap.1 (show ltOf f j[k]! j[k - 1]! =ah by rw[u.1.2.2.2.2,u.1.1,u.1.2.1];exact hd);rw[u.1.2.2.2.2]at h;exact h.symm.trans m.1.2.2.1⟩
            obtain⟨cv,cw,cx,cy,⟨c6,cz⟩,cA,cB,a3⟩:=A.1.qm a2.1.1 u.1.2.2.1 u.1.2.2.2.1 u.1.1 u.1.2.1;have bt:=ae a3;clear a3
            go_upto_region 23 with fail
            have aG:=qo
            go_big_region_o
            clear aG;obtain⟨bR,a3⟩:=iC (((bO.setCell ⟨L,off+k,none⟩ (.int .i64 ad)).setCell ⟨L,off+t,none⟩ (.int .i64 ac)).drew);rw[a3]at bt⊢;clear a3 cv cw cz cx cy cA cB;go_wp2;go_roundw
            case rel=>exact⟨k+1,swp j k t,by first|rfl|go_num,by have:=m.1.2.2.2.1;omega,by have:=ap.1;omega,bt.1.1,(m.1.2.1.trans a2.1.2).trans bt.1.2,bo.1⟩
            case measure=>have:=ap.1;simp[intOf];omega
           ·have hd:decide (f ac ad<0)=ag:=iw hv
            have al:(!decide (f ac ad<0))=ah:=(by rw[hd];rfl);have am:0<=f ac ad:=iE
            go_upto_region 22 with fail
            have bs:=ae (A.1.lg m.1.1 u.1.2.2.1 u.1.2.2.2.1 u.1.1 u.1.2.1);refine A.1.reg (aF:=?_) (d:=j) iF ?_ ?_;rotate_left 1
            ·intro ρ F
             obtain⟨ar,av,aw,h⟩:=bs.1 ρ F;have G:=ae h;clear h
             repeat(go_big_quiet_step((go_at_fn g;exact Mix.iZ.calls (λ_ _ _ h k=>h.trans k) (G.1 _))))
             apply af;exact rfl
            intro bO a1;have a2:=ae (a1 m.1.1);clear a1
            have a4:PLift (fixUp (ltOf f) b c p=j):=⟨by unfold fixUp;rw[gY (by have:=br.1;omega),<-m.1.2.2.1];exact shiftUp_stop (ltOf f) b k j (.inr (show ltOf f j[k]! j[k - 1]! =ag by rw[u.1.2.2.2.2,u.1.1,u.1.2.1];exact hd))⟩
            have a5:=ae (And.intro a2.1.1 (m.1.2.1.trans a2.1.2));go_wp2;go_roundw
            case rel=>exact⟨s,c,j,by have:=ao.1;omega,by first|rfl|go_num,by first|rfl|go_num,by have:=z.1.2.2.2.1;have:=B.1.1;omega,by have:=I.1;omega,a5.1.1,a5.1.2,by rw[<-z.1.2.2.1,K.1 _ X.1,a4.1]⟩
            case measure=>have:=ao.1;simp[intOf];omega
          ·have ak:¬(k:Int)<(b:Int):=iE
           have a4:PLift (fixUp (ltOf f) b c p=j):=⟨by unfold fixUp;rw[gY (by have:=br.1;omega),<-m.1.2.2.1];exact shiftUp_stop (ltOf f) b k j (.inl E)⟩
           have a5:=ae (And.intro m.1.1 m.1.2.1);clear E ai bN;go_wp2;go_roundw
           case rel=>exact⟨s,c,j,by have:=ao.1;omega,by first|rfl|go_num,by first|rfl|go_num,by have:=z.1.2.2.2.1;have:=B.1.1;omega,by have:=I.1;omega,a5.1.1,a5.1.2,by rw[<-z.1.2.2.1,K.1 _ X.1,a4.1]⟩
           case measure=>have:=ao.1;simp[intOf];omega
        ·have cs:(b:Int) - (c:Int)<2:=iE
         have ct:¬2<=(b:Int) - (c:Int):=iE
         have a4:PLift (fixUp (ltOf f) b c p=p):=⟨by unfold fixUp;rw[gZ iE]⟩
         clear bq;go_wp2;go_roundw
         case rel=>exact⟨s,c,p,by have:=ao.1;omega,by first|rfl|go_num,by first|rfl|go_num,by have:=z.1.2.2.2.1;have:=B.1.1;omega,by have:=I.1;omega,Z.1.1,Z.1.2,by rw[<-z.1.2.2.1,K.1 _ X.1,a4.1]⟩
         case measure=>have:=ao.1;simp[intOf];omega
     ·have hd:decide (f U V<0)=ag:=iw hv
      have al:(!decide (f U V<0))=ah:=(by rw[hd];rfl);have am:0<=f U V:=iE
      go_upto_region 5 with fail
      have bg:=ae (A.1.lg B.1.2.2.1 o.1.2.2.1 o.1.2.2.2.1 o.1.1 o.1.2.1);refine A.1.reg (aF:=?_) (d:=l) iF ?_ ?_;rotate_left 1
      ·intro ρ F
       obtain⟨ar,av,aw,h⟩:=bg.1 ρ F;have G:=ae h;clear h
       repeat(go_big_quiet_step((go_at_fn g;exact Mix.iZ.calls (λ_ _ _ h k=>h.trans k) (G.1 _))))
       apply af;exact rfl
      intro bh W;have J:=ae (W B.1.2.2.1);clear W;have a9:PLift (scanSorted (ltOf f) l b (c+1)=scanSorted (ltOf f) l b i):=⟨(scanSorted_go (ltOf f) l b c I.1 (show ltOf f l[c]! l[c - 1]! =ag by rw[o.1.2.2.2.2,o.1.1,o.1.2.1];exact hd)).symm.trans B.1.2.2.2.2⟩;go_wp2;go_roundw
      case rel=>exact⟨c+1,by first|rfl|go_num,by have:=B.1.1;omega,by have:=I.1;omega,J.1.1,B.1.2.2.2.1.trans J.1.2,a9.1⟩
      case measure=>have:=I.1;simp[intOf];omega
    ·have ak:¬(c:Int)<(b:Int):=iE
     have b3:decide ((c:Int)<(b:Int))=ag:=iw ak;have cC:(c:Int)=(b:Int):=iE;have K:=ae (show partialIns (ltOf f) a b 5 (a+1) d=(l,ah)from z.1.2.2.1 ▸WR (ltOf f) (by rw[<-B.1.2.2.2.2,scanSorted_stop (ltOf f) l b c (.inl E)];omega));clear E ai bE
     go_upto_region 5 with fail
     refine A.1.reg (aF:=?_) (d:=l) iF ?_ ?_;rotate_left 1
     ·intro ρ F
      haveI:=jD.inh (base:=base) (S:=S) (d:=l) ρ
      repeat(go_big_quiet_step(fail))
      apply af;exact rfl
     intro bh W;have J:=ae (W B.1.2.2.1);clear W;rw[cC];go_wp2;go_ret;exact⟨by(simp only[K.1])<;>rfl,by rw[K.1];exact J.1.1,B.1.2.2.2.1.trans J.1.2⟩
end Go.Proofs.YthcalnnipjflkaaGreatDoor
