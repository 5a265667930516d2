import Derived.Test.YthcalnnipjflkaaGreatDoorP12
import Derived.Sort.WalkA6
import Derived.Sort.LotA
import Derived.Sort.Walk7a
import Derived.Deep.Heap
import Derived.Laws.Bits64
open PLift renaming up -> ae
open Bool renaming false -> af, true -> ah
open Go renaming wpQuiet_nil -> ag, World -> au, bits_xor_u64_nat -> aA, Calls -> aI, Value -> aJ
open Option renaming none -> aj, some -> ay
open Go.Proofs.Tryz renaming prog -> ax
open Nat renaming le_refl -> az, zero_le -> aC, xor_lt_two_pow -> aH
open Go.Lib renaming cell_of_heap -> aB
set_option linter.all false
set_option maxHeartbeats 16000000
set_option maxRecDepth 1000000
namespace Go.Proofs.YthcalnnipjflkaaGreatDoor
open Go.RowKit Go.Sort
open Go.Lib hiding intOf
section
variable (lt:Int->Int->Bool)
theorem part_break (a i j:Nat)(b:Array Int){i2 j2:Nat}(c:i2=scanUp (λx=>lt x b[a]!) b j i)(d:j2=scanDown (λx=>!lt x b[a]!) b i2 j)(h:j2<i2):partLoop lt a i j b=(j2,b):=by subst c;subst d;rw[partLoop_eq,gY h]
theorem part_go (a i j:Nat)(b:Array Int){i2 j2:Nat}(c:i2=scanUp (λx=>lt x b[a]!) b j i)(d:j2=scanDown (λx=>!lt x b[a]!) b i2 j)(h:¬i2>j2):partLoop lt a i j b=partLoop lt a (i2+1) (j2 - 1) (swp b i2 j2):=by subst c;subst d;rw[partLoop_eq,gZ h]
theorem WN (d:Array Int)(a b c:Nat){d0:Array Int}{i2 j2:Nat}(hd:swp d a c=d0)(e:i2=scanUp (λx=>lt x d0[a]!) d0 (b - 1) (a+1))(f:j2=scanDown (λx=>!lt x d0[a]!) d0 i2 (b - 1))(h:j2<i2):partition lt d a b c=(j2,ah,swp d0 j2 a):=by subst hd;subst e;subst f;unfold partition;simp only[gY h]
theorem WO (d:Array Int)(a b c:Nat){d0:Array Int}{i2 j2:Nat}(hd:swp d a c=d0)(e:i2=scanUp (λx=>lt x d0[a]!) d0 (b - 1) (a+1))(f:j2=scanDown (λx=>!lt x d0[a]!) d0 i2 (b - 1))(h:¬i2>j2):partition lt d a b c=((partLoop lt a (i2+1) (j2 - 1) (swp d0 i2 j2)).1,af,swp (partLoop lt a (i2+1) (j2 - 1) (swp d0 i2 j2)).2 (partLoop lt a (i2+1) (j2 - 1) (swp d0 i2 j2)).1 a):=by subst hd;subst e;subst f;unfold partition;simp only[gZ h]
theorem WQ {X:Nat×Array Int}{P:Nat×Bool×Array Int}{k a:Nat}{b:Array Int}(h:∀r,X=r->P=(r.1,af,swp r.2 r.1 a))(c:X=(k,b)):P=(k,af,swp b k a):=h _ c
end
theorem KA {base M off n g:Nat}{b5:Array aJ}{c:Int->Int->Int}{co:Nat->Prop}{S:Array Int->au->Prop}(C:lH base M off n g b5 c co S)(cap a b E:Nat)(d:Array Int)(w:au)(hS:S d w)(cp:a<=E)(cq:E<b)(b6:b<=n)(hn:n<=1000000)(c1:off<=1000000000)(cr:n<=cap)(cs:cap<=1000000000):
  aI ax 145 #[.slice (ay ⟨M,off,aj⟩) n cap,.int .i64 a,.int .i64 b,.int .i64 E,.func (.func g) #[] b5] w λe w'=>e=.returned (.tuple #[.int .i64 ((partition (ltOf c) d a b E).1 :Nat),.bool (partition (ltOf c) d a b E).2.1])/\S (partition (ltOf c) d a b E).2.2 w'/\ja base w w':=by
 have c2:(n:Int)<=1000000:=iE
 have q:=ae C;have c3:=C.enters;have c4:(n:Int)<=(cap:Int):=iE
 have c5:(cap:Int)<=1000000000:=iE
 have ct:=ae hS;have u:=ae (iJ b6 (iJ hn (iJ (show a<n by omega) (iJ (show E<n by omega) (show a<b by omega)))));have c6:(a:Int)<=1000000:=iE
 have c7:(0:Int)<=(a:Int):=iE
 have c8:(b:Int)<=1000000:=iE
 have c9:(1:Int)<=(b:Int):=iE
 have bj:(a:Int)<(n:Int):=iE
 have da:(E:Int)<(n:Int):=iE
 have db:(0:Int)<=(E:Int):=iE
 obtain⟨cv,b7⟩:=iC (d[a]! );obtain⟨cw,b8⟩:=iC (d[E]! );obtain⟨d0,b9⟩:=iC (swp d a E);obtain⟨b1,ca⟩:=iC (b - 1);have dc:(b:Int) - 1=(b1:Int):=iE
 have dd:(0:Int)<=(b1:Int):=iE
 have al:=ae (iJ b7 (iJ b8 (iJ ca b9)));have ab:=ae (show b1<b by omega);have ar:=ae (show b1<n by omega);clear hS C b6 hn cr cs cp cq b7 b8 ca b9;go_enter Tryz.func145,Tryz.ntmps145;obtain⟨cx,cy,cz,cA,⟨de,cB⟩,cC,cD,a6⟩:=q.1.qm ct.1 u.1.2.2.1 u.1.2.2.2.1 al.1.1 al.1.2.1;have bk:=ae a6;clear a6
 go_upto_region 1 with fail
 have am:=qo
 go_big_region_o
 clear am;obtain⟨cb,a6⟩:=iC (((w.setCell ⟨M,off+a,aj⟩ (.int .i64 cw)).setCell ⟨M,off+E,aj⟩ (.int .i64 cv)).drew);rw[a6]at bk⊢;clear a6 cx cy cB cz cA cC cD;rw[al.1.2.2.2]at bk
 go_upto_region 3 with fail
 go_loopw [12] (λv N=>∃l:Nat,v=.int .i64 (l:Nat)/\(a+1)<=l/\l<=b/\S d0 N/\ja base w N/\scanUp (λx=>ltOf c x d0[a]!) d0 b1 l=scanUp (λx=>ltOf c x d0[a]!) d0 b1 (a+1)) (λv _=>b+1 - (intOf v).toNat)
 case atStart=>exact⟨(a+1),by first|rfl|go_num,az _,(by have:=u.1.2.2.2.2;omega),bk.1.1,bk.1.2,rfl⟩
 case round=>
  obtain⟨l,rfl,O,P,Q,R,T⟩:=hrel;have B:=ae (iJ Q (iJ R (iJ T (iJ O P))));have df:(l:Int)<=1000000:=by have:=B.1.2.2.2.2;have:=u.1.1;have:=u.1.2.1;omega
  have dg:(0:Int)<=(l:Int):=iE
  clear Q R T O P;by_cases s:l<=b1
  case' neg=>
   have H:¬(l:Int)<=(b1:Int):=iE;have av:decide ((l:Int)<=(b1:Int))=af:=iw H;have a7:PLift (l=scanUp (λx=>ltOf c x d0[a]!) d0 b1 (a+1)):=⟨(scanUp_end (λx=>ltOf c x d0[a]!) d0 b1 l (.inl s)).symm.trans B.1.2.2.1⟩;have dj:=ae s;clear s
   go_upto_region 3 with fail
   refine q.1.reg (aF:=?_) (d:=d0) iF ?_ ?_;rotate_left 1
   ·intro ρ A
    haveI:=jD.inh (base:=base) (S:=S) (d:=d0) ρ
    repeat(go_big_quiet_step(fail))
    apply ag;exact rfl
   intro cc an;have ac:=ae (an B.1.1);clear an;have bp:=ae (iJ ac.1.1 (B.1.2.1.trans ac.1.2));have bq:=ae B.1.2.2.2;clear ac B
  case' pos=>
   have H:(l:Int)<=(b1:Int):=iE;have av:decide ((l:Int)<=(b1:Int))=ah:=iq H;have V:l<n:=(by have:=ar.1;have:=B.1.2.2.2.1;omega);have br:(l:Int)<(n:Int):=iE;have bj:(a:Int)<(n:Int):=(by have:=u.1.2.2.1;omega);obtain⟨x,hx⟩:=iC (d0[l]! );obtain⟨y,hy⟩:=iC (d0[a]! );have K:=ae (iJ hx (iJ hy (iJ V s)));clear hx hy V s;by_cases hv:c x y<0
   case pos=>
    have hd:decide (c x y<0)=ah:=iq hv;have I:(!decide (c x y<0))=af:=(by rw[hd];rfl);have W:¬0<=c x y:=iE
    go_upto_region 3 with fail
    have bs:=ae (q.1.lg B.1.1 K.1.2.2.1 u.1.2.2.1 K.1.1 K.1.2.1);refine q.1.reg (aF:=?_) (d:=d0) iF ?_ ?_;rotate_left 1
    ·intro ρ A
     obtain⟨aw,aD,aE,h⟩:=bs.1 ρ A;have J:=ae h;clear h
     repeat(go_big_quiet_step((go_at_fn g;exact Mix.iZ.calls (λ_ _ _ h k=>h.trans k) (J.1 _))))
     apply ag;exact rfl
    intro cc an;have ac:=ae (an B.1.1);clear an
    have a7:PLift (scanUp (λx=>ltOf c x d0[a]!) d0 b1 (l+1)=scanUp (λx=>ltOf c x d0[a]!) d0 b1 (a+1)):=⟨by have hp:(λx=>ltOf c x d0[a]!) d0[l]! =ah:=(by show decide (c d0[l]! d0[a]!<0)=ah;rw[K.1.1,K.1.2.1];exact hd);exact(scanUp_go (λx=>ltOf c x d0[a]!) d0 b1 l K.1.2.2.2 hp).symm.trans B.1.2.2.1⟩
    go_wp2;go_roundw
    case rel=>exact⟨l+1,by first|rfl|go_num,by have:=B.1.2.2.2.1;omega,by have:=K.1.2.2.2;have:=ab.1;omega,ac.1.1,B.1.2.1.trans ac.1.2,a7.1⟩
    case measure=>have:=K.1.2.2.2;have:=ab.1;simp[intOf];omega
   case' neg=>
    have hd:decide (c x y<0)=af:=iw hv;have I:(!decide (c x y<0))=ah:=(by rw[hd];rfl);have W:0<=c x y:=iE
    go_upto_region 3 with fail
    have bs:=ae (q.1.lg B.1.1 K.1.2.2.1 u.1.2.2.1 K.1.1 K.1.2.1);refine q.1.reg (aF:=?_) (d:=d0) iF ?_ ?_;rotate_left 1
    ·intro ρ A
     obtain⟨aw,aD,aE,h⟩:=bs.1 ρ A;have J:=ae h;clear h
     repeat(go_big_quiet_step((go_at_fn g;exact Mix.iZ.calls (λ_ _ _ h k=>h.trans k) (J.1 _))))
     apply ag;exact rfl
    intro cc an;have ac:=ae (an B.1.1);clear an
    have a7:PLift (l=scanUp (λx=>ltOf c x d0[a]!) d0 b1 (a+1)):=⟨by have hp:(λx=>ltOf c x d0[a]!) d0[l]! =af:=(by show decide (c d0[l]! d0[a]!<0)=af;rw[K.1.1,K.1.2.1];exact hd);exact(scanUp_end (λx=>ltOf c x d0[a]!) d0 b1 l (.inr hp)).symm.trans B.1.2.2.1⟩
    have bp:=ae (iJ ac.1.1 (B.1.2.1.trans ac.1.2));have bq:=ae B.1.2.2.2;clear ac B hv hd I W
  all_goals
   have X:=ae (show 0<l by have:=bq.1.1;omega)
   go_upto_region 5 with fail
   go_loopw [13] (λv N=>∃o:Nat,v=.int .i64 (o:Nat)/\o<=b1/\0<=o/\S d0 N/\ja base w N/\scanDown (λx=>!ltOf c x d0[a]!) d0 l o=scanDown (λx=>!ltOf c x d0[a]!) d0 l b1) (λv _=>(intOf v).toNat)
   case atStart=>exact⟨b1,by first|rfl|go_num,az _,aC _,bp.1.1,bp.1.2,rfl⟩
   case round=>
    obtain⟨o,rfl,O,P,Q,R,T⟩:=hrel;have F:=ae (iJ Q (iJ R (iJ T (iJ O P))));have dk:(o:Int)<=1000000:=(by have:=ab.1;omega);have dl:(0:Int)<=(o:Int):=iE;clear Q R T O P;by_cases s:l<=o
    case neg=>
     have H:¬(l:Int)<=(o:Int):=iE;have av:decide ((l:Int)<=(o:Int))=af:=iw H;have a3:PLift (o=scanDown (λx=>!ltOf c x d0[a]!) d0 l b1):=⟨(scanDown_end (λx=>!ltOf c x d0[a]!) d0 l o (.inl s)).symm.trans F.1.2.2.1⟩;have cd:=ae s;clear s
     go_upto_region 5 with fail
     refine q.1.reg (aF:=?_) (d:=d0) iF ?_ ?_;rotate_left 1
     ·intro ρ A
      haveI:=jD.inh (base:=base) (S:=S) (d:=d0) ρ
      repeat(go_big_quiet_step(fail))
      apply ag;exact rfl
     intro bl ao;have ad:=ae (ao F.1.1);clear ao;have a8:=ae (iJ ad.1.1 (F.1.2.1.trans ad.1.2));have bt:=ae F.1.2.2.2;clear ad F;have bv:(o:Int)<(l:Int):=(by have:=cd.1;omega);have aG:=ae (show partition (ltOf c) d a b E=(o,ah,swp d0 o a)from WN (ltOf c) d a b E (i2:=l) (j2:=o) al.1.2.2.2 (by rw[al.1.2.2.1];exact a7.1) (by rw[al.1.2.2.1];exact a3.1) (by have:=cd.1;omega));have a9:o<n:=(by have:=bt.1.1;have:=ar.1;omega);have cE:(o:Int)<(n:Int):=iE;obtain⟨aL,Y⟩:=iC (d0[o]! );obtain⟨aM,Z⟩:=iC (d0[a]! );have aR:=ae (iJ Y (iJ Z a9));clear Y Z a9;obtain⟨bw,bx,bA,bB,⟨cF,bE⟩,bL,bM,aa⟩:=q.1.qm a8.1.1 aR.1.2.2 u.1.2.2.1 aR.1.1 aR.1.2.1;have a0:=ae aa;clear aa
     go_upto_region 8 with fail
     have am:=qo
     go_big_region_o
     clear am;obtain⟨U,aa⟩:=iC (((bl.setCell ⟨M,off+o,aj⟩ (.int .i64 aM)).setCell ⟨M,off+a,aj⟩ (.int .i64 aL)).drew);rw[aa]at a0⊢;clear aa bw bx bE bA bB bL bM;go_wp2;go_ret2;exact⟨by(simp only[aG.1])<;>rfl,by rw[aG.1];exact a0.1.1,a8.1.2.trans a0.1.2⟩
    case pos=>
     have H:(l:Int)<=(o:Int):=iE;have av:decide ((l:Int)<=(o:Int))=ah:=iq H;have V:o<n:=(by have:=ar.1;have:=F.1.2.2.2.1;omega);have br:(o:Int)<(n:Int):=iE;have bj:(a:Int)<(n:Int):=(by have:=u.1.2.2.1;omega);obtain⟨x,hx⟩:=iC (d0[o]! );obtain⟨y,hy⟩:=iC (d0[a]! );have z:=ae (iJ hx (iJ hy (iJ V s)));clear hx hy V s;by_cases hv:c x y<0
     case neg=>
      have hd:decide (c x y<0)=af:=iw hv;have I:(!decide (c x y<0))=ah:=(by rw[hd];rfl);have W:0<=c x y:=iE
      go_upto_region 5 with fail
      have bN:=ae (q.1.lg F.1.1 z.1.2.2.1 u.1.2.2.1 z.1.1 z.1.2.1);refine q.1.reg (aF:=?_) (d:=d0) iF ?_ ?_;rotate_left 1
      ·intro ρ A
       obtain⟨aw,aD,aE,h⟩:=bN.1 ρ A;have J:=ae h;clear h
       repeat(go_big_quiet_step((go_at_fn g;exact Mix.iZ.calls (λ_ _ _ h k=>h.trans k) (J.1 _))))
       apply ag;exact rfl
      intro bl ao;have ad:=ae (ao F.1.1);clear ao
      have a3:PLift (scanDown (λx=>!ltOf c x d0[a]!) d0 l (o - 1)=scanDown (λx=>!ltOf c x d0[a]!) d0 l b1):=⟨by have hp:(λx=>!ltOf c x d0[a]!) d0[o]! =ah:=(by show(!decide (c d0[o]! d0[a]!<0))=ah;rw[z.1.1,z.1.2.1];exact I);exact(scanDown_go (λx=>!ltOf c x d0[a]!) d0 l o z.1.2.2.2 (by have:=z.1.2.2.2;have:=X.1;omega) hp).symm.trans F.1.2.2.1⟩
      obtain⟨k',a1⟩:=iC (o - 1);have cG:(o:Int) - 1=(k':Int):=(by have:=z.1.2.2.2;have:=X.1;omega);have ba:=ae a1;rw[a1]at a3;clear a1;go_wp2;go_roundw
      case rel=>exact⟨k',by first|rfl|go_num,by have:=F.1.2.2.2.1;have:=ba.1;omega,aC _,ad.1.1,F.1.2.1.trans ad.1.2,a3.1⟩
      case measure=>have:=ba.1;have:=z.1.2.2.2;have:=X.1;simp[intOf];omega
     case pos=>
      have hd:decide (c x y<0)=ah:=iq hv;have I:(!decide (c x y<0))=af:=(by rw[hd];rfl);have W:¬0<=c x y:=iE
      go_upto_region 5 with fail
      have bN:=ae (q.1.lg F.1.1 z.1.2.2.1 u.1.2.2.1 z.1.1 z.1.2.1);refine q.1.reg (aF:=?_) (d:=d0) iF ?_ ?_;rotate_left 1
      ·intro ρ A
       obtain⟨aw,aD,aE,h⟩:=bN.1 ρ A;have J:=ae h;clear h
       repeat(go_big_quiet_step((go_at_fn g;exact Mix.iZ.calls (λ_ _ _ h k=>h.trans k) (J.1 _))))
       apply ag;exact rfl
      intro bl ao;have ad:=ae (ao F.1.1);clear ao
      have a3:PLift (o=scanDown (λx=>!ltOf c x d0[a]!) d0 l b1):=⟨by have hp:(λx=>!ltOf c x d0[a]!) d0[o]! =af:=(by show(!decide (c d0[o]! d0[a]!<0))=af;rw[z.1.1,z.1.2.1];exact I);exact(scanDown_end (λx=>!ltOf c x d0[a]!) d0 l o (.inr hp)).symm.trans F.1.2.2.1⟩
      have a8:=ae (iJ ad.1.1 (F.1.2.1.trans ad.1.2));have bt:=ae F.1.2.2.2;clear ad F hv hd I W;have bv:¬(o:Int)<(l:Int):=(by have:=z.1.2.2.2;omega);have bb:l<n:=(by have:=z.1.2.2.2;have:=z.1.2.2.1;omega);have cH:(l:Int)<(n:Int):=iE;obtain⟨aL,Y⟩:=iC (d0[l]! );obtain⟨aM,Z⟩:=iC (d0[o]! );obtain⟨j',bc⟩:=iC (o - 1);have cI:(o:Int) - 1=(j':Int):=(by have:=X.1;have:=z.1.2.2.2;omega);have bd:=ae (iJ Y (iJ Z (iJ bb bc)));clear Y Z bb bc;obtain⟨cJ,cK,cL,cM,⟨dp,cN⟩,cO,cP,be⟩:=q.1.qm a8.1.1 bd.1.2.2.1 z.1.2.2.1 bd.1.1 bd.1.2.1;have bO:=ae be;clear be
      go_upto_region 10 with fail
      have am:=qo
      go_big_region_o
      clear am;obtain⟨ce,be⟩:=iC (((bl.setCell ⟨M,off+l,aj⟩ (.int .i64 aM)).setCell ⟨M,off+o,aj⟩ (.int .i64 aL)).drew);rw[be]at bO⊢;clear be cJ cK cN cL cM cO cP;have cf:=ae (show o<b by have:=ab.1;have:=bt.1.1;omega)
      have cQ:PLift (∀r,partLoop (ltOf c) a (l+1) (o - 1) (swp d0 l o)=r->partition (ltOf c) d a b E=(r.1,af,swp r.2 r.1 a)):=⟨λr hr=>by rw[<-hr];exact WO (ltOf c) d a b E (i2:=l) (j2:=o) al.1.2.2.2 (by rw[al.1.2.2.1];exact a7.1) (by rw[al.1.2.2.1];exact a3.1) (by have:=z.1.2.2.2;omega)⟩
      have cR:=ae (show a<l by have:=bq.1.1;omega);have cS:=ae z.1.2.2.2
      go_upto_region 13 with fail
      go_loopw [12,13] (λbR bS wr=>∃(i j:Nat) (f:Array Int),bR=.int .i64 (i:Nat)/\bS=.int .i64 (j:Nat)/\a<i/\i<=b/\j<b/\S f wr/\ja base w wr/\partLoop (ltOf c) a i j f=partLoop (ltOf c) a (l+1) (o - 1) (swp d0 l o)) (λbR bS _=>(intOf bS).toNat+1 - (intOf bR).toNat)
      case atStart=>exact⟨l+1,j',swp d0 l o,by first|rfl|go_num,by first|rfl|go_num,by have:=cR.1;omega,by have:=cS.1;have:=cf.1;omega,by have:=bd.1.2.2.2;have:=cf.1;omega,bO.1.1,a8.1.2.trans bO.1.2,by rw[bd.1.2.2.2]⟩
      case round=>
       obtain⟨i,j,f,rfl,rfl,cg,ch,bX,ci,cj,ck⟩:=hrel;have a2:=ae (iJ ci (iJ cj (iJ ck (iJ cg (iJ ch bX)))));have ab:=ae bX;have ar:=ae (show j<n by have:=u.1.1;omega);have dq:(i:Int)<=1000000:=iE;have dr:(0:Int)<=(i:Int):=iE;have ds:(j:Int)<=1000000:=iE;have dt:(0:Int)<=(j:Int):=iE;clear ci cj ck cg ch bX
       go_upto_region 13 with fail
       go_loopw [12] (λv N=>∃m:Nat,v=.int .i64 (m:Nat)/\i<=m/\m<=b/\S f N/\ja base w N/\scanUp (λx=>ltOf c x f[a]!) f j m=scanUp (λx=>ltOf c x f[a]!) f j i) (λv _=>b+1 - (intOf v).toNat)
       case atStart=>exact⟨i,by first|rfl|go_num,az _,a2.1.2.2.2.2.1,a2.1.1,a2.1.2.1,rfl⟩
       case round=>
        obtain⟨m,rfl,O,P,Q,R,T⟩:=hrel;have D:=ae (iJ Q (iJ R (iJ T (iJ O P))));have du:(m:Int)<=1000000:=(by have:=D.1.2.2.2.2;have:=u.1.1;have:=u.1.2.1;omega);have dv:(0:Int)<=(m:Int):=iE;clear Q R T O P;by_cases s:m<=j
        case' neg=>
         have H:¬(m:Int)<=(j:Int):=iE;have av:decide ((m:Int)<=(j:Int))=af:=iw H;have bf:PLift (m=scanUp (λx=>ltOf c x f[a]!) f j i):=⟨(scanUp_end (λx=>ltOf c x f[a]!) f j m (.inl s)).symm.trans D.1.2.2.1⟩;have dx:=ae s;clear s
         go_upto_region 13 with fail
         refine q.1.reg (aF:=?_) (d:=f) iF ?_ ?_;rotate_left 1
         ·intro ρ A
          haveI:=jD.inh (base:=base) (S:=S) (d:=f) ρ
          repeat(go_big_quiet_step(fail))
          apply ag;exact rfl
         intro cl ap;have ai:=ae (ap D.1.1);clear ap;have b0:=ae (iJ ai.1.1 (D.1.2.1.trans ai.1.2));have bm:=ae D.1.2.2.2;clear ai D
        case' pos=>
         have H:(m:Int)<=(j:Int):=iE;have av:decide ((m:Int)<=(j:Int))=ah:=iq H;have V:m<n:=(by have:=ar.1;have:=D.1.2.2.2.1;omega);have br:(m:Int)<(n:Int):=iE;have bj:(a:Int)<(n:Int):=(by have:=u.1.2.2.1;omega);obtain⟨x,hx⟩:=iC (f[m]! );obtain⟨y,hy⟩:=iC (f[a]! );have L:=ae (iJ hx (iJ hy (iJ V s)));clear hx hy V s;by_cases hv:c x y<0
         case pos=>
          have hd:decide (c x y<0)=ah:=iq hv;have I:(!decide (c x y<0))=af:=(by rw[hd];rfl);have W:¬0<=c x y:=iE
          go_upto_region 13 with fail
          have b2:=ae (q.1.lg D.1.1 L.1.2.2.1 u.1.2.2.1 L.1.1 L.1.2.1);refine q.1.reg (aF:=?_) (d:=f) iF ?_ ?_;rotate_left 1
          ·intro ρ A
           obtain⟨aw,aD,aE,h⟩:=b2.1 ρ A;have J:=ae h;clear h
           repeat(go_big_quiet_step((go_at_fn g;exact Mix.iZ.calls (λ_ _ _ h k=>h.trans k) (J.1 _))))
           apply ag;exact rfl
          intro cl ap;have ai:=ae (ap D.1.1);clear ap
          have bf:PLift (scanUp (λx=>ltOf c x f[a]!) f j (m+1)=scanUp (λx=>ltOf c x f[a]!) f j i):=⟨by have hp:(λx=>ltOf c x f[a]!) f[m]! =ah:=(by show decide (c f[m]! f[a]!<0)=ah;rw[L.1.1,L.1.2.1];exact hd);exact(scanUp_go (λx=>ltOf c x f[a]!) f j m L.1.2.2.2 hp).symm.trans D.1.2.2.1⟩
          go_wp2;go_roundw
          case rel=>exact⟨m+1,by first|rfl|go_num,by have:=D.1.2.2.2.1;omega,by have:=L.1.2.2.2;have:=ab.1;omega,ai.1.1,D.1.2.1.trans ai.1.2,bf.1⟩
          case measure=>have:=L.1.2.2.2;have:=ab.1;simp[intOf];omega
         case' neg=>
          have hd:decide (c x y<0)=af:=iw hv;have I:(!decide (c x y<0))=ah:=(by rw[hd];rfl);have W:0<=c x y:=iE
          go_upto_region 13 with fail
          have b2:=ae (q.1.lg D.1.1 L.1.2.2.1 u.1.2.2.1 L.1.1 L.1.2.1);refine q.1.reg (aF:=?_) (d:=f) iF ?_ ?_;rotate_left 1
          ·intro ρ A
           obtain⟨aw,aD,aE,h⟩:=b2.1 ρ A;have J:=ae h;clear h
           repeat(go_big_quiet_step((go_at_fn g;exact Mix.iZ.calls (λ_ _ _ h k=>h.trans k) (J.1 _))))
           apply ag;exact rfl
          intro cl ap;have ai:=ae (ap D.1.1);clear ap
          have bf:PLift (m=scanUp (λx=>ltOf c x f[a]!) f j i):=⟨by have hp:(λx=>ltOf c x f[a]!) f[m]! =af:=(by show decide (c f[m]! f[a]!<0)=af;rw[L.1.1,L.1.2.1];exact hd);exact(scanUp_end (λx=>ltOf c x f[a]!) f j m (.inr hp)).symm.trans D.1.2.2.1⟩
          have b0:=ae (iJ ai.1.1 (D.1.2.1.trans ai.1.2));have bm:=ae D.1.2.2.2;clear ai D hv hd I W
        all_goals
         have X:=ae (show 0<m by have:=bm.1.1;have:=a2.1.2.2.2.1;omega)
         go_upto_region 15 with fail
         go_loopw [13] (λv N=>∃p:Nat,v=.int .i64 (p:Nat)/\p<=j/\0<=p/\S f N/\ja base w N/\scanDown (λx=>!ltOf c x f[a]!) f m p=scanDown (λx=>!ltOf c x f[a]!) f m j) (λv _=>(intOf v).toNat)
         case atStart=>exact⟨j,by first|rfl|go_num,az _,aC _,b0.1.1,b0.1.2,rfl⟩
         case round=>
          obtain⟨p,rfl,O,P,Q,R,T⟩:=hrel;have G:=ae (iJ Q (iJ R (iJ T (iJ O P))));have dy:(p:Int)<=1000000:=(by have:=ab.1;omega);have dz:(0:Int)<=(p:Int):=iE;clear Q R T O P;by_cases s:m<=p
          case neg=>
           have H:¬(m:Int)<=(p:Int):=iE;have av:decide ((m:Int)<=(p:Int))=af:=iw H;have a4:PLift (p=scanDown (λx=>!ltOf c x f[a]!) f m j):=⟨(scanDown_end (λx=>!ltOf c x f[a]!) f m p (.inl s)).symm.trans G.1.2.2.1⟩;have cm:=ae s;clear s
           go_upto_region 15 with fail
           refine q.1.reg (aF:=?_) (d:=f) iF ?_ ?_;rotate_left 1
           ·intro ρ A
            haveI:=jD.inh (base:=base) (S:=S) (d:=f) ρ
            repeat(go_big_quiet_step(fail))
            apply ag;exact rfl
           intro bo aq;have ak:=ae (aq G.1.1);clear aq;have bg:=ae (iJ ak.1.1 (G.1.2.1.trans ak.1.2));have bh:=ae G.1.2.2.2;clear ak G;have bv:(p:Int)<(m:Int):=(by have:=cm.1;omega);have aG:=ae (show partition (ltOf c) d a b E=(p,af,swp f p a)from WQ cQ.1 (by rw[<-a2.1.2.2.1];exact part_break (ltOf c) a i j f bf.1 a4.1 (by have:=cm.1;omega)));have a9:p<n:=(by have:=bh.1.1;have:=ar.1;omega);have cE:(p:Int)<(n:Int):=iE;obtain⟨aL,Y⟩:=iC (f[p]! );obtain⟨aM,Z⟩:=iC (f[a]! );have aR:=ae (iJ Y (iJ Z a9));clear Y Z a9;obtain⟨bw,bx,bA,bB,⟨cF,bE⟩,bL,bM,aa⟩:=q.1.qm bg.1.1 aR.1.2.2 u.1.2.2.1 aR.1.1 aR.1.2.1;have a0:=ae aa;clear aa
           go_upto_region 21 with fail
           have am:=qo
           go_big_region_o
           clear am;obtain⟨U,aa⟩:=iC (((bo.setCell ⟨M,off+p,aj⟩ (.int .i64 aM)).setCell ⟨M,off+a,aj⟩ (.int .i64 aL)).drew);rw[aa]at a0⊢;clear aa bw bx bE bA bB bL bM;go_wp2;go_ret2;exact⟨by(simp only[aG.1])<;>rfl,by rw[aG.1];exact a0.1.1,bg.1.2.trans a0.1.2⟩
          case pos=>
           have H:(m:Int)<=(p:Int):=iE;have av:decide ((m:Int)<=(p:Int))=ah:=iq H;have V:p<n:=(by have:=ar.1;have:=G.1.2.2.2.1;omega);have br:(p:Int)<(n:Int):=iE;have bj:(a:Int)<(n:Int):=(by have:=u.1.2.2.1;omega);obtain⟨x,hx⟩:=iC (f[p]! );obtain⟨y,hy⟩:=iC (f[a]! );have t:=ae (iJ hx (iJ hy (iJ V s)));clear hx hy V s;by_cases hv:c x y<0
           case neg=>
            have hd:decide (c x y<0)=af:=iw hv;have I:(!decide (c x y<0))=ah:=(by rw[hd];rfl);have W:0<=c x y:=iE
            go_upto_region 15 with fail
            have b3:=ae (q.1.lg G.1.1 t.1.2.2.1 u.1.2.2.1 t.1.1 t.1.2.1);refine q.1.reg (aF:=?_) (d:=f) iF ?_ ?_;rotate_left 1
            ·intro ρ A
             obtain⟨aw,aD,aE,h⟩:=b3.1 ρ A;have J:=ae h;clear h
             repeat(go_big_quiet_step((go_at_fn g;exact Mix.iZ.calls (λ_ _ _ h k=>h.trans k) (J.1 _))))
             apply ag;exact rfl
            intro bo aq;have ak:=ae (aq G.1.1);clear aq
            have a4:PLift (scanDown (λx=>!ltOf c x f[a]!) f m (p - 1)=scanDown (λx=>!ltOf c x f[a]!) f m j):=⟨by have hp:(λx=>!ltOf c x f[a]!) f[p]! =ah:=(by show(!decide (c f[p]! f[a]!<0))=ah;rw[t.1.1,t.1.2.1];exact I);exact(scanDown_go (λx=>!ltOf c x f[a]!) f m p t.1.2.2.2 (by have:=t.1.2.2.2;have:=X.1;omega) hp).symm.trans G.1.2.2.1⟩
            obtain⟨k',a1⟩:=iC (p - 1);have cG:(p:Int) - 1=(k':Int):=(by have:=t.1.2.2.2;have:=X.1;omega);have ba:=ae a1;rw[a1]at a4;clear a1;go_wp2;go_roundw
            case rel=>exact⟨k',by first|rfl|go_num,by have:=G.1.2.2.2.1;have:=ba.1;omega,aC _,ak.1.1,G.1.2.1.trans ak.1.2,a4.1⟩
            case measure=>have:=ba.1;have:=t.1.2.2.2;have:=X.1;simp[intOf];omega
           case pos=>
            have hd:decide (c x y<0)=ah:=iq hv;have I:(!decide (c x y<0))=af:=(by rw[hd];rfl);have W:¬0<=c x y:=iE
            go_upto_region 15 with fail
            have b3:=ae (q.1.lg G.1.1 t.1.2.2.1 u.1.2.2.1 t.1.1 t.1.2.1);refine q.1.reg (aF:=?_) (d:=f) iF ?_ ?_;rotate_left 1
            ·intro ρ A
             obtain⟨aw,aD,aE,h⟩:=b3.1 ρ A;have J:=ae h;clear h
             repeat(go_big_quiet_step((go_at_fn g;exact Mix.iZ.calls (λ_ _ _ h k=>h.trans k) (J.1 _))))
             apply ag;exact rfl
            intro bo aq;have ak:=ae (aq G.1.1);clear aq
            have a4:PLift (p=scanDown (λx=>!ltOf c x f[a]!) f m j):=⟨by have hp:(λx=>!ltOf c x f[a]!) f[p]! =af:=(by show(!decide (c f[p]! f[a]!<0))=af;rw[t.1.1,t.1.2.1];exact I);exact(scanDown_end (λx=>!ltOf c x f[a]!) f m p (.inr hp)).symm.trans G.1.2.2.1⟩
            have bg:=ae (iJ ak.1.1 (G.1.2.1.trans ak.1.2));have bh:=ae G.1.2.2.2;clear ak G hv hd I W;have bv:¬(p:Int)<(m:Int):=(by have:=t.1.2.2.2;omega);have bb:m<n:=(by have:=t.1.2.2.2;have:=t.1.2.2.1;omega);have cH:(m:Int)<(n:Int):=iE;obtain⟨aL,Y⟩:=iC (f[m]! );obtain⟨aM,Z⟩:=iC (f[p]! );obtain⟨j',bc⟩:=iC (p - 1);have cI:(p:Int) - 1=(j':Int):=(by have:=X.1;have:=t.1.2.2.2;omega);have a5:=ae (iJ Y (iJ Z (iJ bb bc)));clear Y Z bb bc;obtain⟨cT,cU,cV,cW,⟨dS,cX⟩,cY,c0,bi⟩:=q.1.qm bg.1.1 a5.1.2.2.1 t.1.2.2.1 a5.1.1 a5.1.2.1;have b4:=ae bi;clear bi
            go_upto_region 18 with fail
            have am:=qo
            go_big_region_o
            clear am;obtain⟨cn,bi⟩:=iC (((bo.setCell ⟨M,off+m,aj⟩ (.int .i64 aM)).setCell ⟨M,off+p,aj⟩ (.int .i64 aL)).drew);rw[bi]at b4⊢;clear bi cT cU cX cV cW cY c0;have aG:PLift (partLoop (ltOf c) a (m+1) (p - 1) (swp f m p)=partLoop (ltOf c) a (l+1) (o - 1) (swp d0 l o)):=⟨by rw[<-a2.1.2.2.1];exact(part_go (ltOf c) a i j f bf.1 a4.1 (by have:=t.1.2.2.2;omega)).symm⟩;go_wp2;go_roundw
            case rel=>exact⟨m+1,j',swp f m p,by first|rfl|go_num,by first|rfl|go_num,by have:=X.1;have:=a2.1.2.2.2.1;have:=bm.1.1;omega,by have:=t.1.2.2.2;have:=ab.1;have:=bh.1.1;omega,by have:=a5.1.2.2.2;have:=ab.1;have:=bh.1.1;have:=t.1.2.2.2;omega,b4.1.1,bg.1.2.trans b4.1.2,by rw[<-a5.1.2.2.2];exact aG.1⟩
            case measure=>have:=a5.1.2.2.2;have:=bm.1.1;have:=bh.1.1;have:=t.1.2.2.2;have:=X.1;simp[intOf];omega
theorem WR (lt:Int->Int->Bool){a b s i:Nat}{d:Array Int}(h:scanSorted lt d b i=b):partialIns lt a b (s+1) i d=(d,ah):=by rw[partialIns_succ,gY h]
theorem pi_short (lt:Int->Int->Bool){a b s i:Nat}{d:Array Int}(h:scanSorted lt d b i≠b)(c:b - a<50):partialIns lt a b (s+1) i d=(d,af):=by rw[partialIns_succ,gZ h,gY c]
theorem WS (lt:Int->Int->Bool){a b s i c:Nat}{d:Array Int}(f:c=scanSorted lt d b i)(h:c≠b)(g:¬b - a<50)(e:Array Int)(j:fixDown lt a c (swp d c (c - 1))=e):partialIns lt a b (s+1) i d=partialIns lt a b s c (fixUp lt b c e):=by subst f;subst j;rw[partialIns_succ,gZ h,gZ g]
theorem WT {base L off n g:Nat}{bv:Array aJ}{f:Int->Int->Int}{bS:Nat->Prop}{S:Array Int->au->Prop}(C:lH base L off n g bv f bS S)(cap a b:Nat)(d:Array Int)(w:au)(hS:S d w)(bw:a<b)(bx:b<=n)(hn:n<=1000000)(cD:off<=1000000000)(bX:n<=cap)(b0:cap<=1000000000):
  aI ax 143 #[.slice (ay ⟨L,off,aj⟩) n cap,.int .i64 a,.int .i64 b,.func (.func g) #[] bv] w λe w'=>e=.returned (.bool (partialInsertionSort (ltOf f) d a b).2)/\S (partialInsertionSort (ltOf f) d a b).1 w'/\ja base w w':=by
 have cE:(n:Int)<=1000000:=iE
 have A:=ae C;have cF:=C.enters;have cG:(n:Int)<=(cap:Int):=iE
 have cH:(cap:Int)<=1000000000:=iE
 have b1:=ae hS;have an:=ae (iJ bx (iJ hn (iJ (show a<n by omega) bw)));have bA:=ae (show partialInsertionSort (ltOf f) d a b=partialIns (ltOf f) a b 5 (a+1) d from rfl);have cI:(a:Int)<=1000000:=iE
 have cJ:(0:Int)<=(a:Int):=iE
 have cK:(b:Int)<=1000000:=iE
 have cL:(1:Int)<=(b:Int):=iE
 have cM:(a:Int)<(n:Int):=iE
 rw[bA.1];clear hS C bx hn bX b0 bw bA;go_enter Tryz.func143,Tryz.ntmps143
 go_upto_region 3 with fail
 go_loopw [9,10] (λb2 bc wr=>∃(s i:Nat) (l:Array Int),s<=5/\b2=.int .i64 (i:Nat)/\bc=.int .i64 (5 - (s:Int))/\a<i/\i<=b/\S l wr/\ja base w wr/\partialIns (ltOf f) a b s i l=partialIns (ltOf f) a b 5 (a+1) d) (λ_ bc _=>(5 - intOf bc).toNat)
 case atStart=>exact⟨5,a+1,d,iG,by first|rfl|go_num,by first|rfl|go_num,iE,by have:=an.1.2.2.2;omega,b1.1,ja.refl _ _,rfl⟩
 case round=>
  obtain⟨s,i,l,bd,rfl,rfl,be,bf,a6,a7,a8⟩:=hrel;cases s with
  |zero=>have z:=ae (iJ a6 (iJ a7 (show partialIns (ltOf f) a b 5 (a+1) d=(l,af)from a8.symm)));clear bd be bf a6 a7 a8;go_wp2;go_ret;exact⟨by(simp only[z.1.2.2])<;>rfl,by rw[z.1.2.2];exact z.1.1,z.1.2.1⟩
  |succ s=>
   have z:=ae (iJ a6 (iJ a7 (iJ a8 (iJ be bf))));have ao:=ae bd;have cN:(0:Int)<=(s:Int):=iE;have cO:(s:Int)<=4:=iE;have bB:(5:Int) - ((s+1:Nat):Int)=4 - (s:Int):=iE;have cP:(4:Int) - (s:Int)<5:=iE;rw[bB];have cQ:(i:Int)<=1000000:=iE;have cR:(0:Int)<=(i:Int):=iE;clear bd be bf a6 a7 a8 bB
   go_upto_region 5 with fail
   go_loopw [9] (λv M=>∃c:Nat,v=.int .i64 (c:Nat)/\i<=c/\c<=b/\S l M/\ja base w M/\scanSorted (ltOf f) l b c=scanSorted (ltOf f) l b i) (λv _=>b+1 - (intOf v).toNat)
   case atStart=>exact⟨i,rfl,az _,z.1.2.2.2.2,z.1.1,z.1.2.1,rfl⟩
   case round=>
    obtain⟨c,rfl,H,ai,N,O,P⟩:=hrel;have B:=ae (iJ H (iJ ai (iJ N (iJ O P))));have cS:(c:Int)<=1000000:=iE;have cT:(1:Int)<=(c:Int):=(by have:=z.1.2.2.2.1;omega);have bE:1<=c:=iE;clear H N O P;by_cases E:c<b
    ·have ak:(c:Int)<(b:Int):=iE
     have b3:decide ((c:Int)<(b:Int))=ah:=iq ak;have I:=ae E;obtain⟨D,Q⟩:=iC (c - 1);have cU:(c:Int) - 1=(D:Int):=iE;have R:c<n:=(by have:=an.1.1;omega);have T:D<n:=iE;have cV:(c:Int)<(n:Int):=iE;have cW:(D:Int)<(n:Int):=iE;have cX:(0:Int)<=(D:Int):=iE;obtain⟨U,hx⟩:=iC (l[c]! );obtain⟨V,hy⟩:=iC (l[D]! );have o:=ae (iJ hx (iJ hy (iJ R (iJ T Q))));clear hx hy R T Q;clear E ai bE;by_cases hv:f U V<0
     ·have hd:decide (f U V<0)=ah:=iq hv
      have al:(!decide (f U V<0))=af:=(by rw[hd];rfl);have am:¬0<=f U V:=iE
      go_upto_region 5 with fail
      have bg:=ae (A.1.lg B.1.2.2.1 o.1.2.2.1 o.1.2.2.2.1 o.1.1 o.1.2.1);refine A.1.reg (aF:=?_) (d:=l) iF ?_ ?_;rotate_left 1
      ·intro ρ F
       obtain⟨ar,av,aw,h⟩:=bg.1 ρ F;have G:=ae h;clear h
       repeat(go_big_quiet_step((go_at_fn g;exact Mix.iZ.calls (λ_ _ _ h k=>h.trans k) (G.1 _))))
       apply ag;exact rfl
      intro bh W;have J:=ae (W B.1.2.2.1);clear W;have a9:PLift (c=scanSorted (ltOf f) l b i):=⟨(scanSorted_stop (ltOf f) l b c (.inr (show ltOf f l[c]! l[c - 1]! =ah by rw[o.1.2.2.2.2,o.1.1,o.1.2.1];exact hd))).symm.trans B.1.2.2.2.2⟩;have aD:=ae (iJ J.1.1 (B.1.2.2.2.1.trans J.1.2));clear hv hd al am J;have b4:¬(c:Int)=(b:Int):=iE;have cY:((c:Int)==(b:Int))=af:=(by rw[iy];exact b4);by_cases ba:b - a<50
      ·have b5:(b:Int) - (a:Int)<50:=iE
       have K:=ae (show partialIns (ltOf f) a b 5 (a+1) d=(l,af)from z.1.2.2.1 ▸pi_short (ltOf f) (by rw[<-a9.1];have:=I.1;omega) ba);clear ba;go_wp2;go_ret;exact⟨by(simp only[K.1])<;>rfl,by rw[K.1];exact aD.1.1,aD.1.2⟩
      ·have b5:¬(b:Int) - (a:Int)<50:=iE
       have K:PLift (∀p,fixDown (ltOf f) a c (swp l c (c - 1))=p->partialIns (ltOf f) a b (s+1) i l=partialIns (ltOf f) a b s c (fixUp (ltOf f) b c p)):=⟨λp b6=>WS (ltOf f) a9.1 (by have:=I.1;omega) ba p b6⟩;clear ba;obtain⟨b7,b8,b9,ca,⟨c0,cb⟩,cc,cd,aE⟩:=A.1.qm aD.1.1 o.1.2.2.1 o.1.2.2.2.1 o.1.1 o.1.2.1;have bb:=ae aE;clear aE
       go_upto_region 11 with fail
       have aG:=qo
       go_big_region_o
       clear aG;obtain⟨bi,aE⟩:=iC (((bh.setCell ⟨L,off+c,aj⟩ (.int .i64 V)).setCell ⟨L,off+D,aj⟩ (.int .i64 U)).drew);rw[aE]at bb⊢;clear aE b7 b8 cb b9 ca cc cd;have aL:=ae (iJ bb.1.1 (aD.1.2.trans bb.1.2));clear bb aD;by_cases bj:a+2<=c
       case' neg=>
        have ce:(c:Int) - (a:Int)<2:=iE;have cf:¬2<=(c:Int) - (a:Int):=iE
        have X:PLift (fixDown (ltOf f) a c (swp l c (c - 1))=swp l c D):=⟨by unfold fixDown;rw[gZ iE,o.1.2.2.2.2]⟩
        clear bj;obtain⟨p,Y⟩:=iC (swp l c D);rw[Y]at X aL;have Z:=aL;clear Y aL;obtain⟨bL,aM⟩:=iD bi;subst aM
       case' pos=>
        have ce:¬(c:Int) - (a:Int)<2:=iE;have cf:2<=(c:Int) - (a:Int):=iE;have bk:=ae bj;clear bj
        go_upto_region 14 with fail
        go_loopw [11] (λv M=>∃(k:Nat) (j:Array Int),v=.int .i64 (k:Nat)/\k<c/\S j M/\ja base w M/\shiftDown (ltOf f) k j=shiftDown (ltOf f) (c - 1) (swp l c D)) (λv _=>(intOf v).toNat)
        case atStart=>exact⟨D,swp l c D,by first|rfl|go_num,by have:=o.1.2.2.2.2;have:=bk.1;omega,aL.1.1,aL.1.2,by rw[o.1.2.2.2.2]⟩
        case' round=>
         obtain⟨k,j,rfl,H,N,O,P⟩:=hrel;have m:=ae (iJ N (iJ O (iJ P H)));have cg:(k:Int)<=1000000:=iE;have ch:(0:Int)<=(k:Int):=iE;clear N O P;by_cases E:1<=k
         case' neg=>
          have ak:¬(1:Int)<=(k:Int):=iE
          have X:PLift (fixDown (ltOf f) a c (swp l c (c - 1))=j):=⟨by unfold fixDown;rw[gY (by have:=bk.1;omega)];rw[show swp l c (c - 1)=swp l c D by rw[o.1.2.2.2.2],<-m.1.2.2.1];exact shiftDown_stop (ltOf f) k j (.inl iE)⟩
          have Z:=ae (iJ m.1.1 m.1.2.1);clear E H;obtain⟨p,Y⟩:=iC j;rw[Y]at X Z;clear Y m;obtain⟨bL,aM⟩:=iD wr;subst aM
         case' pos=>
          have ak:(1:Int)<=(k:Int):=iE;have ap:=ae E;have ci:k<=b:=(by have:=I.1;omega);obtain⟨t,Q⟩:=iC (k - 1);have cj:(k:Int) - 1=(t:Int):=iE;have R:k<n:=(by have:=an.1.1;omega);have T:t<n:=iE;have c1:(k:Int)<(n:Int):=iE;have c2:(t:Int)<(n:Int):=iE;have ck:(0:Int)<=(t:Int):=iE;obtain⟨aa,hx⟩:=iC (j[k]! );obtain⟨ab,hy⟩:=iC (j[t]! );have r:=ae (iJ hx (iJ hy (iJ R (iJ T Q))));clear hx hy R T Q;clear E H ci;by_cases hv:f aa ab<0
          case pos=>
           have hd:decide (f aa ab<0)=ah:=iq hv;have al:(!decide (f aa ab<0))=af:=(by rw[hd];rfl);have am:¬0<=f aa ab:=iE
           go_upto_region 16 with fail
           have bl:=ae (A.1.lg m.1.1 r.1.2.2.1 r.1.2.2.2.1 r.1.1 r.1.2.1);refine A.1.reg (aF:=?_) (d:=j) iF ?_ ?_;rotate_left 1
           ·intro ρ F
            obtain⟨ar,av,aw,h⟩:=bl.1 ρ F;have G:=ae h;clear h
            repeat(go_big_quiet_step((go_at_fn g;exact Mix.iZ.calls (λ_ _ _ h k=>h.trans k) (G.1 _))))
            apply ag;exact rfl
           intro bm aR;have aq:=ae (aR m.1.1);clear aR
           have bo:PLift (shiftDown (ltOf f) t (swp j k t)=shiftDown (ltOf f) (c - 1) (swp l c D)):=⟨by have h:=shiftDown_go (ltOf f) k j ap.1 (show ltOf f j[k]! j[k - 1]! =ah by rw[r.1.2.2.2.2,r.1.1,r.1.2.1];exact hd);rw[r.1.2.2.2.2]at h;exact h.symm.trans m.1.2.2.1⟩
           obtain⟨cl,cm,cn,co,⟨c3,cp⟩,cq,cr,a0⟩:=A.1.qm aq.1.1 r.1.2.2.1 r.1.2.2.2.1 r.1.1 r.1.2.1;have bp:=ae a0;clear a0
           go_upto_region 17 with fail
           have aG:=qo
           go_big_region_o
           clear aG;obtain⟨bM,a0⟩:=iC (((bm.setCell ⟨L,off+k,aj⟩ (.int .i64 ab)).setCell ⟨L,off+t,aj⟩ (.int .i64 aa)).drew);rw[a0]at bp⊢;clear a0 cl cm cp cn co cq cr;go_wp2;go_roundw
           case rel=>exact⟨t,swp j k t,by first|rfl|go_num,by have:=m.1.2.2.2;have:=r.1.2.2.2.2;omega,bp.1.1,(m.1.2.1.trans aq.1.2).trans bp.1.2,bo.1⟩
           case measure=>have:=ap.1;have:=r.1.2.2.2.2;simp[intOf];omega
          have hd:decide (f aa ab<0)=af:=iw hv;have al:(!decide (f aa ab<0))=ah:=(by rw[hd];rfl);have am:0<=f aa ab:=iE
          go_upto_region 16 with fail
          have bl:=ae (A.1.lg m.1.1 r.1.2.2.1 r.1.2.2.2.1 r.1.1 r.1.2.1);refine A.1.reg (aF:=?_) (d:=j) iF ?_ ?_;rotate_left 1
          ·intro ρ F
           obtain⟨ar,av,aw,h⟩:=bl.1 ρ F;have G:=ae h;clear h
           repeat(go_big_quiet_step((go_at_fn g;exact Mix.iZ.calls (λ_ _ _ h k=>h.trans k) (G.1 _))))
           apply ag;exact rfl
          intro bm aR;have aq:=ae (aR m.1.1);clear aR
          have X:PLift (fixDown (ltOf f) a c (swp l c (c - 1))=j):=⟨by unfold fixDown;rw[gY (by have:=bk.1;omega)];rw[show swp l c (c - 1)=swp l c D by rw[o.1.2.2.2.2],<-m.1.2.2.1];exact shiftDown_stop (ltOf f) k j (.inr (show ltOf f j[k]! j[k - 1]! =af by rw[r.1.2.2.2.2,r.1.1,r.1.2.1];exact hd))⟩
          have Z:=ae (iJ aq.1.1 (m.1.2.1.trans aq.1.2));obtain⟨p,Y⟩:=iC j;rw[Y]at X Z;clear Y m hv hd al am aq;obtain⟨bL,aM⟩:=iD bm;subst aM
       all_goals
        by_cases bq:c+2<=b
        ·have cs:¬(b:Int) - (c:Int)<2:=iE
         have ct:2<=(b:Int) - (c:Int):=iE;have br:=ae bq;clear bq
         go_upto_region 20 with fail
         go_loopw [12] (λv M=>∃(k:Nat) (j:Array Int),v=.int .i64 (k:Nat)/\c<k/\k<=b/\S j M/\ja base w M/\shiftUp (ltOf f) b k j=shiftUp (ltOf f) b (c+1) p) (λv _=>b+1 - (intOf v).toNat)
         case atStart=>exact⟨c+1,p,by first|rfl|go_num,iE,by have:=br.1;omega,Z.1.1,Z.1.2,rfl⟩
         case round=>
          obtain⟨k,j,rfl,H,ai,N,O,P⟩:=hrel;have m:=ae (iJ N (iJ O (iJ P (iJ H ai))));have cg:(k:Int)<=1000000:=(by have:=an.1.1;have:=an.1.2.1;omega);have ch:(0:Int)<=(k:Int):=iE;have bN:1<=k:=iE;clear N O P H;by_cases E:k<b
          ·have ak:(k:Int)<(b:Int):=iE
           have ap:=ae E;obtain⟨t,Q⟩:=iC (k - 1);have cj:(k:Int) - 1=(t:Int):=iE;have R:k<n:=(by have:=an.1.1;omega);have T:t<n:=iE;have c4:(k:Int)<(n:Int):=iE;have c5:(t:Int)<(n:Int):=iE;have ck:(0:Int)<=(t:Int):=iE;obtain⟨ac,hx⟩:=iC (j[k]! );obtain⟨ad,hy⟩:=iC (j[t]! );have u:=ae (iJ hx (iJ hy (iJ R (iJ T Q))));clear hx hy R T Q;clear E ai bN;by_cases hv:f ac ad<0
           ·have hd:decide (f ac ad<0)=ah:=iq hv
            have al:(!decide (f ac ad<0))=af:=(by rw[hd];rfl);have am:¬0<=f ac ad:=iE
            go_upto_region 22 with fail
            have bs:=ae (A.1.lg m.1.1 u.1.2.2.1 u.1.2.2.2.1 u.1.1 u.1.2.1);refine A.1.reg (aF:=?_) (d:=j) iF ?_ ?_;rotate_left 1
            ·intro ρ F
             obtain⟨ar,av,aw,h⟩:=bs.1 ρ F;have G:=ae h;clear h
             repeat(go_big_quiet_step((go_at_fn g;exact Mix.iZ.calls (λ_ _ _ h k=>h.trans k) (G.1 _))))
             apply ag;exact rfl
            intro bO a1;have a2:=ae (a1 m.1.1);clear a1
            have bo:PLift (shiftUp (ltOf f) b (k+1) (swp j k t)=shiftUp (ltOf f) b (c+1) p):=⟨by have h:=shiftUp_go (ltOf f) b k j ap.1 (show ltOf f j[k]! j[k - 1]! =ah by rw[u.1.2.2.2.2,u.1.1,u.1.2.1];exact hd);rw[u.1.2.2.2.2]at h;exact h.symm.trans m.1.2.2.1⟩
            obtain⟨cv,cw,cx,cy,⟨c6,cz⟩,cA,cB,a3⟩:=A.1.qm a2.1.1 u.1.2.2.1 u.1.2.2.2.1 u.1.1 u.1.2.1;have bt:=ae a3;clear a3
            go_upto_region 23 with fail
            have aG:=qo
            go_big_region_o
            clear aG;obtain⟨bR,a3⟩:=iC (((bO.setCell ⟨L,off+k,aj⟩ (.int .i64 ad)).setCell ⟨L,off+t,aj⟩ (.int .i64 ac)).drew);rw[a3]at bt⊢;clear a3 cv cw cz cx cy cA cB;go_wp2;go_roundw
            case rel=>exact⟨k+1,swp j k t,by first|rfl|go_num,by have:=m.1.2.2.2.1;omega,by have:=ap.1;omega,bt.1.1,(m.1.2.1.trans a2.1.2).trans bt.1.2,bo.1⟩
            case measure=>have:=ap.1;simp[intOf];omega
           ·have hd:decide (f ac ad<0)=af:=iw hv
            have al:(!decide (f ac ad<0))=ah:=(by rw[hd];rfl);have am:0<=f ac ad:=iE
            go_upto_region 22 with fail
            have bs:=ae (A.1.lg m.1.1 u.1.2.2.1 u.1.2.2.2.1 u.1.1 u.1.2.1);refine A.1.reg (aF:=?_) (d:=j) iF ?_ ?_;rotate_left 1
            ·intro ρ F
             obtain⟨ar,av,aw,h⟩:=bs.1 ρ F;have G:=ae h;clear h
             repeat(go_big_quiet_step((go_at_fn g;exact Mix.iZ.calls (λ_ _ _ h k=>h.trans k) (G.1 _))))
             apply ag;exact rfl
            intro bO a1;have a2:=ae (a1 m.1.1);clear a1
            have a4:PLift (fixUp (ltOf f) b c p=j):=⟨by unfold fixUp;rw[gY (by have:=br.1;omega),<-m.1.2.2.1];exact shiftUp_stop (ltOf f) b k j (.inr (show ltOf f j[k]! j[k - 1]! =af by rw[u.1.2.2.2.2,u.1.1,u.1.2.1];exact hd))⟩
            have a5:=ae (iJ a2.1.1 (m.1.2.1.trans a2.1.2));go_wp2;go_roundw
            case rel=>exact⟨s,c,j,by have:=ao.1;omega,by first|rfl|go_num,by first|rfl|go_num,by have:=z.1.2.2.2.1;have:=B.1.1;omega,by have:=I.1;omega,a5.1.1,a5.1.2,by rw[<-z.1.2.2.1,K.1 _ X.1,a4.1]⟩
            case measure=>have:=ao.1;simp[intOf];omega
          ·have ak:¬(k:Int)<(b:Int):=iE
           have a4:PLift (fixUp (ltOf f) b c p=j):=⟨by unfold fixUp;rw[gY (by have:=br.1;omega),<-m.1.2.2.1];exact shiftUp_stop (ltOf f) b k j (.inl E)⟩
           have a5:=ae (iJ m.1.1 m.1.2.1);clear E ai bN;go_wp2;go_roundw
           case rel=>exact⟨s,c,j,by have:=ao.1;omega,by first|rfl|go_num,by first|rfl|go_num,by have:=z.1.2.2.2.1;have:=B.1.1;omega,by have:=I.1;omega,a5.1.1,a5.1.2,by rw[<-z.1.2.2.1,K.1 _ X.1,a4.1]⟩
           case measure=>have:=ao.1;simp[intOf];omega
        ·have cs:(b:Int) - (c:Int)<2:=iE
         have ct:¬2<=(b:Int) - (c:Int):=iE
         have a4:PLift (fixUp (ltOf f) b c p=p):=⟨by unfold fixUp;rw[gZ iE]⟩
         clear bq;go_wp2;go_roundw
         case rel=>exact⟨s,c,p,by have:=ao.1;omega,by first|rfl|go_num,by first|rfl|go_num,by have:=z.1.2.2.2.1;have:=B.1.1;omega,by have:=I.1;omega,Z.1.1,Z.1.2,by rw[<-z.1.2.2.1,K.1 _ X.1,a4.1]⟩
         case measure=>have:=ao.1;simp[intOf];omega
     ·have hd:decide (f U V<0)=af:=iw hv
      have al:(!decide (f U V<0))=ah:=(by rw[hd];rfl);have am:0<=f U V:=iE
      go_upto_region 5 with fail
      have bg:=ae (A.1.lg B.1.2.2.1 o.1.2.2.1 o.1.2.2.2.1 o.1.1 o.1.2.1);refine A.1.reg (aF:=?_) (d:=l) iF ?_ ?_;rotate_left 1
      ·intro ρ F
       obtain⟨ar,av,aw,h⟩:=bg.1 ρ F;have G:=ae h;clear h
       repeat(go_big_quiet_step((go_at_fn g;exact Mix.iZ.calls (λ_ _ _ h k=>h.trans k) (G.1 _))))
       apply ag;exact rfl
      intro bh W;have J:=ae (W B.1.2.2.1);clear W;have a9:PLift (scanSorted (ltOf f) l b (c+1)=scanSorted (ltOf f) l b i):=⟨(scanSorted_go (ltOf f) l b c I.1 (show ltOf f l[c]! l[c - 1]! =af by rw[o.1.2.2.2.2,o.1.1,o.1.2.1];exact hd)).symm.trans B.1.2.2.2.2⟩;go_wp2;go_roundw
      case rel=>exact⟨c+1,by first|rfl|go_num,by have:=B.1.1;omega,by have:=I.1;omega,J.1.1,B.1.2.2.2.1.trans J.1.2,a9.1⟩
      case measure=>have:=I.1;simp[intOf];omega
    ·have ak:¬(c:Int)<(b:Int):=iE
     have b3:decide ((c:Int)<(b:Int))=af:=iw ak;have cC:(c:Int)=(b:Int):=iE;have K:=ae (show partialIns (ltOf f) a b 5 (a+1) d=(l,ah)from z.1.2.2.1 ▸WR (ltOf f) (by rw[<-B.1.2.2.2.2,scanSorted_stop (ltOf f) l b c (.inl E)];omega));clear E ai bE
     go_upto_region 5 with fail
     refine A.1.reg (aF:=?_) (d:=l) iF ?_ ?_;rotate_left 1
     ·intro ρ F
      haveI:=jD.inh (base:=base) (S:=S) (d:=l) ρ
      repeat(go_big_quiet_step(fail))
      apply ag;exact rfl
     intro bh W;have J:=ae (W B.1.2.2.1);clear W;rw[cC];go_wp2;go_ret;exact⟨by(simp only[K.1])<;>rfl,by rw[K.1];exact J.1.1,B.1.2.2.2.1.trans J.1.2⟩
theorem WW (a b X:Nat)(f:X<18446744073709551616)(w:au)(hc:w.cell? ⟨a,b,aj⟩=ay (.int .u64 X))(hf:w.frozen? ⟨a,b,aj⟩=af):
  aI ax 163 #[.pointer (ay ⟨a,b,aj⟩)] w λe w'=>e=.returned (.int .u64 (xorNextN X:Nat))/\w'=(w.setCell ⟨a,b,aj⟩ (.int .u64 (xorNextN X:Nat))).drewN 3:=by
 have i:Tryz.prog.follows Departure.mixedOrders=ah:=iF
 obtain⟨A,hA⟩:∃A:Nat,A=X ^^^ (X*8192%18446744073709551616):=⟨_,rfl⟩;obtain⟨B,c⟩:∃B:Nat,B=A ^^^ (A/128):=⟨_,rfl⟩;obtain⟨C,d⟩:∃C:Nat,C=B ^^^ (B*131072%18446744073709551616):=⟨_,rfl⟩;have g:A<18446744073709551616:=by rw[hA];exact aH (n:=64) iE iE
 have h:B<18446744073709551616:=by rw[c];exact aH (n:=64) iE iE
 have e1:bits .xor .u64 (X:Int) (IntKind.u64.wrap ((X:Int)*8192))=(A:Int):=by rw[IntKind.wrap_u64,show((X:Int)*8192%18446744073709551616)=((X*8192%18446744073709551616:Nat):Int) by omega,aA _ _ f iE,hA]
 have j:bits .xor .u64 (A:Int) ((A:Int)/128)=(B:Int):=by rw[show((A:Int)/128)=((A/128:Nat):Int) by omega,aA _ _ g iE,c]
 have e3:bits .xor .u64 (B:Int) (IntKind.u64.wrap ((B:Int)*131072))=(C:Int):=by rw[IntKind.wrap_u64,show((B:Int)*131072%18446744073709551616)=((B*131072%18446744073709551616:Nat):Int) by omega,aA _ _ h iE,d]
 have hv:xorNextN X=C:=by unfold xorNextN;simp only[];rw[<-hA,<-c,<-d]
 rw[hv];clear hA c d hv;have k:∀v v',(w.setCell ⟨a,b,aj⟩ v).setCell ⟨a,b,aj⟩ v'=w.setCell ⟨a,b,aj⟩ v':=setCell_setCell w a b;go_enter Tryz.func163,Tryz.ntmps163;go_wp2
 go_region_o
 all_goals go_wp2
 all_goals go_region_o
 all_goals go_wp2
 all_goals go_region_o
 all_goals go_wp2
 go_ret;exact⟨rfl,rfl⟩
theorem WY (n:Nat)(hn:n<4611686018427387904)(w:au):
  aI ax 162 #[.int .i64 n] w λe w'=>e=.returned (.int .u64 ((1<<<bitsLen n:Nat):Int))/\w'=w:=by
 have a:∀w,aI ax 124 #[.int .u64 (n:Int)] w λe w'=>e=.returned (.int .i64 (bitsLen n:Nat))/\w'=w:=λw=>by
  have h:=Tryz.bits_Len (n:Int) w iE iE
  rwa [Int.toNat_natCast,bitLen_eq _ iE]at h
 have b:bitsLen n<=62:=(bitsLen_le_iff n 62).2 iE;have hp:=wrap_two_pow (bitsLen n) b;have wr:IntKind.u64.wrap (n:Int)=n:=by simp[IntKind.wrap,IntKind.bits,IntKind.signed];omega
 go_enter Tryz.func162,Tryz.ntmps162
 go_wp2_with(go_at_call 124;refine(a _).mono ?_;rintro e w' ⟨rfl,rfl⟩)
 go_ret;exact⟨rfl,rfl⟩
def qw:Hint->Int
 |.unknown=>0
 |.increasing=>1
 |.decreasing=>2
theorem oZ.kb {base p:Nat}{w W w':au}(h:oZ base p W w')(k:ja base w W)(hp:p=w.heap.size):ja base w w':=
 ⟨Nat.le_trans k.1 h.1,λq a b=>(h.2 q a (Nat.lt_of_lt_of_le b k.1) iE).trans (k.2 q a b)⟩
theorem ja.alloc (base:Nat)(W:au)(o:Obj):ja base W (W.alloc o):=
 ⟨by rw[World.size_alloc];omega,λq _ h=>Go.Deep.blk_alloc_lt W o q h⟩
def nin (lt:Int->Int->Bool)(d:Array Int)(i j k:Nat):Nat×Nat:=
 median lt d (medianAdjacent lt d i 0).1 (medianAdjacent lt d j (medianAdjacent lt d i 0).2).1 (medianAdjacent lt d k (medianAdjacent lt d j (medianAdjacent lt d i 0).2).2).1 (medianAdjacent lt d k (medianAdjacent lt d j (medianAdjacent lt d i 0).2).2).2
theorem WZ (lt:Int->Int->Bool)(d:Array Int)(a b l c i j k:Nat)(e:b - a=l)(f:l/4=c)(hi:a+c=i)(g:a+c*2=j)(h:a+c*3=k):
  choosePivot lt d a b=(match(if l≥8 then(if l≥50 then nin lt d i j k else median lt d i j k 0)else(j,0))with|(p,s)=>(p,if s=0 then .increasing else if s=12 then .decreasing else .unknown)):=by
 subst hi;subst g;subst h;subst f;subst e;unfold choosePivot nin;simp only[Nat.mul_one]
theorem Xa {base a1 off n g:Nat}{a2:Array aJ}{f:Int->Int->Int}{Q:Nat->Prop}{S:Array Int->au->Prop}(C:lH base a1 off n g a2 f Q S)(cap a b:Nat)(d:Array Int)(w:au)(q:Nat)(Z:w.heap.size=q)(be:Q q)(bf:base<=q)(hS:∀o,S d (w.alloc o))(a3:a<b)(aa:b<=n)(hn:n<=1000000)(a4:off<=1000000000)(ad:n<=cap)(ai:cap<=1000000000):
  aI ax 141 #[.slice (ay ⟨a1,off,aj⟩) n cap,.int .i64 a,.int .i64 b,.func (.func g) #[] a2] w λe w'=>e=.returned (.tuple #[.int .i64 (choosePivot (ltOf f) d a b).1,.int .i64 (qw (choosePivot (ltOf f) d a b).2)])/\S d w'/\ja base w w':=by
 obtain⟨l,ak⟩:=iC (b - a);obtain⟨s,R⟩:=iC (l/4);obtain⟨B,al⟩:=iC (s*2);obtain⟨D,am⟩:=iC (s*3);obtain⟨i,hi⟩:=iC (a+s);obtain⟨j,an⟩:=iC (a+B);obtain⟨k,E⟩:=iC (a+D);have J:=ae (WZ (ltOf f) d a b l s i j k ak R hi (by rw[al];exact an) (by rw[am];exact E));have bl:(b:Int) - (a:Int)=(l:Int):=iE
 have bm:Int.tdiv (l:Int) 4=(s:Int):=by rw[<-R];rfl
 have bo:(l:Int)/4=(s:Int):=by rw[<-R];rfl
 have bp:(s:Int)*2=(B:Int):=iE
 have bq:(s:Int)*3=(D:Int):=iE
 have br:(a:Int)+(s:Int)=(i:Int):=iE
 have bs:(a:Int)+(B:Int)=(j:Int):=iE
 have bt:(a:Int)+(D:Int)=(k:Int):=iE
 have bv:(0:Int)<=(l:Int):=iE
 have bw:(l:Int)<=1000000:=iE
 have bx:(0:Int)<=(s:Int):=iE
 have bA:(s:Int)<=1000000:=iE
 have bB:(B:Int)<=2000000:=iE
 have bE:(D:Int)<=3000000:=iE
 have bL:(0:Int)<=(B:Int):=iE
 have bM:(0:Int)<=(D:Int):=iE
 have bN:(i:Int)<=2000000:=iE
 have bO:(j:Int)<=3000000:=iE
 have bR:(k:Int)<=4000000:=iE
 have bS:(0:Int)<=(a:Int):=iE
 have bX:(a:Int)<=1000000:=iE
 have b0:(b:Int)<=1000000:=iE
 have b1:(n:Int)<=1000000:=iE
 have b2:(n:Int)<=(cap:Int):=iE
 have b3:(cap:Int)<=1000000000:=iE
 have h:=ae (iJ ak (iJ R (iJ al (iJ am (iJ hi (iJ an (iJ E (iJ a3 (iJ aa hn)))))))));have b4:=ae C;have bg:=ae hS;have T:=ae (λ(p:Nat) (hp:base<=p/\Q p) (W:au) (a b c k:Nat) (hS:S d W) (ha:a<n) (aa:b<n) (hc:c<n) (E:k<=900) (ao:W.heap[p]?=ay (.cells #[.int .i64 (k:Nat)] 3))=>KC C cap a b c p k d W hS ha aa hc hp E ao hn a4 ad ai);have K:=ae (λ(p:Nat) (hp:base<=p/\Q p) (W:au) (a k:Nat) (hS:S d W) (bh:1<=a) (ha:a+1<n) (E:k<=900) (ao:W.heap[p]?=ay (.cells #[.int .i64 (k:Nat)] 3))=>WV C cap a p k d W hS bh ha hp E ao hn a4 ad ai);clear ak R al am hi an E a3 aa hn hS C ad ai;go_enter Tryz.func141,Tryz.ntmps141
 go_upto_region 3 with fail
 have U:PLift (base<=q/\Q q):=⟨bf,be⟩;have a5:=ae Z;have v:PLift (S d (w.alloc (.cells #[.int .i64 0] 3))/\ja base w (w.alloc (.cells #[.int .i64 0] 3))/\(w.alloc (.cells #[.int .i64 0] 3)).heap[q]?=ay (.cells #[.int .i64 (0:Nat)] 3)):=⟨bg.1 _,ja.alloc base w _,by subst Z;exact Go.Deep.blk_alloc_new w _⟩
 (try rw[Z])
 obtain⟨V,a6⟩:=iC (w.alloc (.cells #[.int .i64 0] 3));rw[a6]at v⊢;clear a6 Z;by_cases L:8<=l
 ·have bi:(8:Int)<=(l:Int):=iE
  by_cases ab:50<=l
  ·have bj:(50:Int)<=(l:Int):=iE
   have m:=ae (J.1.trans (by rw[gY L,gY ab]));clear J;have ap:=ae (K.1 q U.1 V i 0 v.1.1 (by have:=h.1;omega) (by have:=h.1;omega) iG v.1.2.2);have y:=ae (Ap (ltOf f) d (i - 1) i (i+1) 0 n (by have:=h.1;omega) (by have:=h.1;omega) (by have:=h.1;omega));have e1:medianAdjacent (ltOf f) d i 0=median (ltOf f) d (i - 1) i (i+1) 0:=rfl;rw[<-e1]at y;unfold nin at m;obtain⟨r1,a7⟩:=iC (medianAdjacent (ltOf f) d i 0);obtain⟨aq,M⟩:=r1;rw[a7]at ap y m;simp only at ap y m;clear e1 a7;have F:=ae (Ap (ltOf f) d (j - 1) j (j+1) M n (by have:=h.1;omega) (by have:=h.1;omega) (by have:=h.1;omega));have a8:medianAdjacent (ltOf f) d j M=median (ltOf f) d (j - 1) j (j+1) M:=rfl;rw[<-a8]at F;have ar:PLift (∀W,S d W->W.heap[q]?=ay (.cells #[.int .i64 (M:Nat)] 3)->_):=⟨λW z A=>K.1 q U.1 W j M z (by have:=h.1;omega) (by have:=h.1;omega) (by have:=y.1.2;omega) A⟩;obtain⟨r2,a9⟩:=iC (medianAdjacent (ltOf f) d j M);obtain⟨av,N⟩:=r2;rw[a9]at ar F m;simp only at ar F m;clear a8 a9;have O:=ae (Ap (ltOf f) d (k - 1) k (k+1) N n (by have:=h.1;omega) (by have:=h.1;omega) (by have:=h.1;omega));have e3:medianAdjacent (ltOf f) d k N=median (ltOf f) d (k - 1) k (k+1) N:=rfl;rw[<-e3]at O;have aw:PLift (∀W,S d W->W.heap[q]?=ay (.cells #[.int .i64 (N:Nat)] 3)->_):=⟨λW z A=>K.1 q U.1 W k N z (by have:=h.1;omega) (by have:=h.1;omega) (by have:=y.1.2;have:=F.1.2;omega) A⟩;obtain⟨bk,ba⟩:=iC (medianAdjacent (ltOf f) d k N);obtain⟨aD,ac⟩:=bk;rw[ba]at aw O m;simp only at aw O m;clear e3 ba;have G:PLift (∀W,S d W->W.heap[q]?=ay (.cells #[.int .i64 (ac:Nat)] 3)->_):=⟨λW z A=>T.1 q U.1 W aq av aD ac z y.1.1 F.1.1 O.1.1 (by have:=y.1.2;have:=F.1.2;have:=O.1.2;omega) A⟩;have H:=ae (Ap (ltOf f) d aq av aD ac n y.1.1 F.1.1 O.1.1);obtain⟨aE,X⟩:=iC (median (ltOf f) d aq av aD ac);obtain⟨pv,t⟩:=aE;rw[X]at G m H;simp only at G m H;clear X T K L ab
   go_upto_region 9 with(go_at_call 164;refine ap.1.mono ?_;rintro e b5 ⟨rfl,z⟩;have aF:=ae z;clear z)
   go_upto_region 10 with(go_at_call 164;refine(ar.1 _ aF.1.1 aF.1.2.2).mono ?_;rintro e b6 ⟨rfl,A⟩;have aG:=ae A;clear A)
   go_upto_region 11 with(go_at_call 164;refine(aw.1 _ aG.1.1 aG.1.2.2).mono ?_;rintro e w3 ⟨rfl,bb⟩;have aL:=ae bb;clear bb)
   go_upto_region 12 with(go_at_call 165;refine(G.1 _ aL.1.1 aL.1.2.2).mono ?_;rintro e aM ⟨rfl,Y⟩;have x:=ae Y;clear Y)
   have bc:=iK x.1.2.2 0 (.int .i64 (t:Nat));have P:=ae ((((aF.1.2.1.trans aG.1.2.1).trans aL.1.2.1).trans x.1.2.1).kb v.1.2.1 a5.1.symm);by_cases I:t=0
   ·subst I
    have u:=ae (show choosePivot (ltOf f) d a b=(pv,.increasing)from m.1);have aR:(((0:Nat):Int)==0)=ah:=rfl;go_wp2;go_ret2;rw[u.1];exact⟨rfl,x.1.1,P.1⟩
   ·have aR:((t:Int)==0)=af:=by rw[iy];omega
    by_cases a0:t=12
    ·subst a0
     have u:=ae (show choosePivot (ltOf f) d a b=(pv,.decreasing)from m.1);have bd:(((12:Nat):Int)==12)=ah:=rfl;go_wp2;go_ret2;rw[u.1];exact⟨rfl,x.1.1,P.1⟩
    ·have bd:((t:Int)==12)=af:=by rw[iy];omega
     have u:=ae (show choosePivot (ltOf f) d a b=(pv,.unknown)from m.1.trans (by simp only[gZ I,gZ a0]));clear I a0;go_wp2;go_ret2;rw[u.1];exact⟨rfl,x.1.1,P.1⟩
  ·have bj:¬(50:Int)<=(l:Int):=iE
   have m:=ae (J.1.trans (by rw[gY L,gZ ab]));clear J;have G:=ae (T.1 q U.1 V i j k 0 v.1.1 (by have:=h.1;omega) (by have:=h.1;omega) (by have:=h.1;omega) iG v.1.2.2);obtain⟨aE,X⟩:=iC (median (ltOf f) d i j k 0);obtain⟨pv,t⟩:=aE;have H:=ae (Ap (ltOf f) d i j k 0 n (by have:=h.1;omega) (by have:=h.1;omega) (by have:=h.1;omega));rw[X]at G m H;simp only at G m H;clear X T K L ab
   go_upto_region 12 with(go_at_call 165;refine G.1.mono ?_;rintro e aM ⟨rfl,Y⟩;have x:=ae Y;clear Y)
   have bc:=iK x.1.2.2 0 (.int .i64 (t:Nat));have P:=ae (x.1.2.1.kb v.1.2.1 a5.1.symm);have bd:((t:Int)==12)=af:=(by rw[iy];have:=H.1.2;omega);by_cases I:t=0
   ·subst I
    have u:=ae (show choosePivot (ltOf f) d a b=(pv,.increasing)from m.1);have aR:(((0:Nat):Int)==0)=ah:=rfl;go_wp2;go_ret2;rw[u.1];exact⟨rfl,x.1.1,P.1⟩
   ·have aR:((t:Int)==0)=af:=by rw[iy];omega
    have u:=ae (show choosePivot (ltOf f) d a b=(pv,.unknown)from m.1.trans (by simp only[gZ I,gZ (show ¬t=12 by have:=H.1.2;omega)]));clear I;go_wp2;go_ret2;rw[u.1];exact⟨rfl,x.1.1,P.1⟩
 ·have bi:¬(8:Int)<=(l:Int):=iE
  have m:=ae (J.1.trans (by rw[gZ L]));clear J T K L;have bc:=iK v.1.2.2 0 (.int .i64 0);have u:=ae (show choosePivot (ltOf f) d a b=(j,.increasing)from m.1);go_wp2;go_ret2;rw[u.1];exact⟨rfl,v.1.1,v.1.2.1⟩
theorem Xb {base i off n g:Nat}{j:Array aJ}{f:Int->Int->Int}{S:Array Int->au->Prop}(E:Ak base i off n g j f S)(cap a b:Nat)(d:Array Int)(w:au)(hS:S d w)(k:a<b)(l:b<=n)(hn:n<=1000000)(m:off<=1000000000)(p:n<=cap)(q:cap<=1000000000):
  aI ax 141 #[.slice (ay ⟨i,off,aj⟩) n cap,.int .i64 a,.int .i64 b,.func (.func g) #[] j] w λe w'=>e=.returned (.tuple #[.int .i64 (choosePivot (ltOf f) d a b).1,.int .i64 (qw (choosePivot (ltOf f) d a b).2)])/\S d w'/\ja base w w':=by
 obtain⟨v,r⟩:=E.ext;obtain⟨s,t,u⟩:=r w.heap.size;exact(Xa s cap a b d w w.heap.size rfl rfl (E.c.lo d w hS).2 (λo=>t d w o hS rfl) k l hn m p q).mono λ_ _ h=>⟨h.1,u _ _ h.2.1,h.2.2⟩
