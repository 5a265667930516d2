import Derived.Test.YthcalnnipjflkaaGreatDoorP18
import Derived.Sort.WalkC
open PLift renaming up -> ae
open Go renaming wpQuiet_nil -> af, World -> aB
open Bool renaming false -> ag, true -> ah
open Go.Proofs renaming scanDown_end -> aj, scanUp_end -> ay, scanDown_go -> az, scanUp_go -> aA
open Nat renaming le_refl -> au, zero_le -> ax
set_option linter.all false
set_option maxHeartbeats 16000000
set_option maxRecDepth 1000000
namespace Go.Proofs.YthcalnnipjflkaaGreatDoor
open Go.RowKit Go.Sort
open Go.Lib hiding intOf
theorem WM {base K off n g:Nat}{a2:Array Value}{l:Int->Int->Int}{bm:Nat->Prop}{S:Array Int->aB->Prop}(C:lH base K off n g a2 l bm S)(cap a b r:Nat)(d:Array Int)(w:aB)(hS:S d w)(bo:a<=r)(bp:r<b)(a3:b<=n)(hn:n<=1000000)(b7:off<=1000000000)(bq:n<=cap)(br:cap<=1000000000):
  Calls Tryz.prog 144 #[.slice (some ⟨K,off,none⟩) n cap,.int .i64 a,.int .i64 b,.int .i64 r,.func (.func g) #[] a2] w λe w'=>e=.returned (.int .i64 ((partitionEqual (ltOf l) d a b r).1 :Nat))/\S (partitionEqual (ltOf l) d a b r).2 w'/\ja base w w':=by
 have b8:(n:Int)<=1000000:=iE
 have u:=ae C;have b9:=C.enters;have ca:(n:Int)<=(cap:Int):=iE
 have cb:(cap:Int)<=1000000000:=iE
 have bs:=ae hS;have s:=ae (And.intro a3 (And.intro hn (And.intro (show a<n by omega) (And.intro (show r<n by omega) (show a<b by omega)))));have cc:(a:Int)<=1000000:=iE
 have cd:(0:Int)<=(a:Int):=iE
 have ce:(b:Int)<=1000000:=iE
 have cf:(1:Int)<=(b:Int):=iE
 have a4:(a:Int)<(n:Int):=iE
 have cg:(r:Int)<(n:Int):=iE
 have ch:(0:Int)<=(r:Int):=iE
 obtain⟨bt,a5⟩:=iC (d[a]! );obtain⟨bv,a6⟩:=iC (d[r]! );obtain⟨b1,a7⟩:=iC (b - 1);have ci:(b:Int) - 1=(b1:Int):=iE
 have ad:=ae (And.intro a5 (And.intro a6 a7));clear hS C a3 hn bq br bo bp a5 a6 a7;go_enter Tryz.func144,Tryz.ntmps144;obtain⟨bw,bx,bA,bB,⟨cj,bE⟩,bL,bM,O⟩:=u.1.qm bs.1 s.1.2.2.1 s.1.2.2.2.1 ad.1.1 ad.1.2.1;have an:=ae O;clear O
 go_upto_region 1 with fail
 have ao:=qo
 go_big_region_o
 clear ao;obtain⟨a8,O⟩:=iC (((w.setCell ⟨K,off+a,none⟩ (.int .i64 bv)).setCell ⟨K,off+r,none⟩ (.int .i64 bt)).drew);rw[O]at an⊢;clear O bw bx bE bA bB bL bM
 go_upto_region 3 with fail
 go_loopw [11,12] (λap aq wr=>∃(i j:Nat) (c:Array Int),ap=.int .i64 (i:Nat)/\aq=.int .i64 (j:Nat)/\a<i/\i<=b/\j<b/\S c wr/\ja base w wr/\partEqLoop (ltOf l) a i j c=partEqLoop (ltOf l) a (a+1) (b - 1) (swp d a r)) (λap aq _=>(intOf aq).toNat+1 - (intOf ap).toNat)
 case atStart=>exact⟨a+1,b1,swp d a r,by first|rfl|go_num,by first|rfl|go_num,iE,by have:=s.1.2.2.2.2;omega,by have:=ad.1.2.2;have:=s.1.2.2.2.2;omega,an.1.1,an.1.2,by rw[ad.1.2.2]⟩
 case round=>
  obtain⟨i,j,c,rfl,rfl,a9,ba,ar,bb,bc,bd⟩:=hrel;have G:=ae (And.intro bb (And.intro bc (And.intro bd (And.intro a9 (And.intro ba ar)))));have P:=ae ar;have be:=ae (show j<n by have:=s.1.1;omega);have ck:(i:Int)<=1000000:=iE
  have cl:(0:Int)<=(i:Int):=iE
  have cm:(j:Int)<=1000000:=iE
  have cn:(0:Int)<=(j:Int):=iE
  clear bb bc bd a9 ba ar
  go_upto_region 3 with fail
  go_loopw [11] (λv Q=>∃f:Nat,v=.int .i64 (f:Nat)/\i<=f/\f<=b/\S c Q/\ja base w Q/\scanUp (λx=>!ltOf l c[a]! x) c j f=scanUp (λx=>!ltOf l c[a]! x) c j i) (λv _=>b+1 - (intOf v).toNat)
  case atStart=>exact⟨i,by first|rfl|go_num,au _,G.1.2.2.2.2.1,G.1.1,G.1.2.1,rfl⟩
  case round=>
   obtain⟨f,rfl,R,T,V,W,X⟩:=hrel;have p:=ae (And.intro V (And.intro W (And.intro X (And.intro R T))));have co:(f:Int)<=1000000:=(by have:=p.1.2.2.2.2;have:=s.1.1;have:=s.1.2.1;omega);have cp:(0:Int)<=(f:Int):=iE;clear V W X R T;by_cases z:f<=j
   case' neg=>
    have H:¬(f:Int)<=(j:Int):=iE;have av:decide ((f:Int)<=(j:Int))=ag:=iw H;have Y:PLift (f=scanUp (λx=>!ltOf l c[a]! x) c j i):=⟨(ay (λx=>!ltOf l c[a]! x) c j f (.inl z)).symm.trans p.1.2.2.1⟩;have cq:=ae z;clear z
    go_upto_region 3 with fail
    refine u.1.reg (aF:=?_) (d:=c) iF ?_ ?_;rotate_left 1
    ·intro ρ D
     haveI:=jD.inh (base:=base) (S:=S) (d:=c) ρ
     repeat(go_big_quiet_step(fail))
     apply af;exact rfl
    intro bf E;have A:=ae (E p.1.1);clear E;have aw:=ae (And.intro A.1.1 (p.1.2.1.trans A.1.2));have ai:=ae p.1.2.2.2;clear A p
   case' pos=>
    have H:(f:Int)<=(j:Int):=iE;have av:decide ((f:Int)<=(j:Int))=ah:=iq H;have Z:f<n:=(by have:=be.1;have:=p.1.2.2.2.1;omega);have bN:(f:Int)<(n:Int):=iE;have a4:(a:Int)<(n:Int):=(by have:=s.1.2.2.1;omega);obtain⟨x,hx⟩:=iC (c[a]! );obtain⟨y,hy⟩:=iC (c[f]! );have t:=ae (And.intro hx (And.intro hy (And.intro Z z)));clear hx hy Z z;by_cases hv:l x y<0
    case neg=>
     have hd:decide (l x y<0)=ag:=iw hv;have I:(!decide (l x y<0))=ah:=(by rw[hd];rfl);have aa:0<=l x y:=iE
     go_upto_region 3 with fail
     have aD:=ae (u.1.lg p.1.1 s.1.2.2.1 t.1.2.2.1 t.1.1 t.1.2.1);refine u.1.reg (aF:=?_) (d:=c) iF ?_ ?_;rotate_left 1
     ·intro ρ D
      obtain⟨aE,aG,aL,h⟩:=aD.1 ρ D;have J:=ae h;clear h
      repeat(go_big_quiet_step((go_at_fn g;exact Mix.iZ.calls (λ_ _ _ h k=>h.trans k) (J.1 _))))
      apply af;exact rfl
     intro bf E;have A:=ae (E p.1.1);clear E
     have Y:PLift (scanUp (λx=>!ltOf l c[a]! x) c j (f+1)=scanUp (λx=>!ltOf l c[a]! x) c j i):=⟨by have hp:(λx=>!ltOf l c[a]! x) c[f]! =ah:=(by show(!decide (l c[a]! c[f]!<0))=ah;rw[t.1.1,t.1.2.1];exact I);exact(aA (λx=>!ltOf l c[a]! x) c j f t.1.2.2.2 hp).symm.trans p.1.2.2.1⟩
     go_wp2;go_roundw
     case rel=>exact⟨f+1,by first|rfl|go_num,by have:=p.1.2.2.2.1;omega,by have:=t.1.2.2.2;have:=P.1;omega,A.1.1,p.1.2.1.trans A.1.2,Y.1⟩
     case measure=>have:=t.1.2.2.2;have:=P.1;simp[intOf];omega
    case' pos=>
     have hd:decide (l x y<0)=ah:=iq hv;have I:(!decide (l x y<0))=ag:=(by rw[hd];rfl);have aa:¬0<=l x y:=iE
     go_upto_region 3 with fail
     have aD:=ae (u.1.lg p.1.1 s.1.2.2.1 t.1.2.2.1 t.1.1 t.1.2.1);refine u.1.reg (aF:=?_) (d:=c) iF ?_ ?_;rotate_left 1
     ·intro ρ D
      obtain⟨aE,aG,aL,h⟩:=aD.1 ρ D;have J:=ae h;clear h
      repeat(go_big_quiet_step((go_at_fn g;exact Mix.iZ.calls (λ_ _ _ h k=>h.trans k) (J.1 _))))
      apply af;exact rfl
     intro bf E;have A:=ae (E p.1.1);clear E
     have Y:PLift (f=scanUp (λx=>!ltOf l c[a]! x) c j i):=⟨by have hp:(λx=>!ltOf l c[a]! x) c[f]! =ag:=(by show(!decide (l c[a]! c[f]!<0))=ag;rw[t.1.1,t.1.2.1];exact I);exact(ay (λx=>!ltOf l c[a]! x) c j f (.inr hp)).symm.trans p.1.2.2.1⟩
     have aw:=ae (And.intro A.1.1 (p.1.2.1.trans A.1.2));have ai:=ae p.1.2.2.2;clear A p hv hd I aa
   all_goals
    have L:=ae (show 0<f by have:=ai.1.1;have:=G.1.2.2.2.1;omega)
    go_upto_region 5 with fail
    go_loopw [12] (λv Q=>∃m:Nat,v=.int .i64 (m:Nat)/\m<=j/\0<=m/\S c Q/\ja base w Q/\scanDown (λx=>ltOf l c[a]! x) c f m=scanDown (λx=>ltOf l c[a]! x) c f j) (λv _=>(intOf v).toNat)
    case atStart=>exact⟨j,by first|rfl|go_num,au _,ax _,aw.1.1,aw.1.2,rfl⟩
    case round=>
     obtain⟨m,rfl,R,T,V,W,X⟩:=hrel;have q:=ae (And.intro V (And.intro W (And.intro X (And.intro R T))));have cr:(m:Int)<=1000000:=(by have:=P.1;omega);have cs:(0:Int)<=(m:Int):=iE;clear V W X R T;by_cases z:f<=m
     case neg=>
      have H:¬(f:Int)<=(m:Int):=iE;have av:decide ((f:Int)<=(m:Int))=ag:=iw H;have M:PLift (m=scanDown (λx=>ltOf l c[a]! x) c f j):=⟨(aj (λx=>ltOf l c[a]! x) c f m (.inl z)).symm.trans q.1.2.2.1⟩;have bg:=ae z;clear z
      go_upto_region 5 with fail
      refine u.1.reg (aF:=?_) (d:=c) iF ?_ ?_;rotate_left 1
      ·intro ρ D
       haveI:=jD.inh (base:=base) (S:=S) (d:=c) ρ
       repeat(go_big_quiet_step(fail))
       apply af;exact rfl
      intro aM F;have B:=ae (F q.1.1);clear F;have ab:=ae (And.intro B.1.1 (q.1.2.1.trans B.1.2));have ak:=ae q.1.2.2.2;clear B q;have bO:(m:Int)<(f:Int):=(by have:=bg.1;omega);have al:PLift (partEqLoop (ltOf l) a (a+1) (b - 1) (swp d a r)=(f,c)):=⟨by rw[<-G.1.2.2.1];exact partEq_break (ltOf l) a i j c Y.1 M.1 (by have:=bg.1;omega)⟩;go_wp2;go_ret;exact⟨by(simp only[partitionEqual,al.1])<;>rfl,by unfold partitionEqual;rw[al.1];exact ab.1.1,ab.1.2⟩
     case pos=>
      have H:(f:Int)<=(m:Int):=iE;have av:decide ((f:Int)<=(m:Int))=ah:=iq H;have Z:m<n:=(by have:=be.1;have:=q.1.2.2.2.1;omega);have bN:(m:Int)<(n:Int):=iE;have a4:(a:Int)<(n:Int):=(by have:=s.1.2.2.1;omega);obtain⟨x,hx⟩:=iC (c[a]! );obtain⟨y,hy⟩:=iC (c[m]! );have o:=ae (And.intro hx (And.intro hy (And.intro Z z)));clear hx hy Z z;by_cases hv:l x y<0
      case pos=>
       have hd:decide (l x y<0)=ah:=iq hv;have I:(!decide (l x y<0))=ag:=(by rw[hd];rfl);have aa:¬0<=l x y:=iE
       go_upto_region 5 with fail
       have aR:=ae (u.1.lg q.1.1 s.1.2.2.1 o.1.2.2.1 o.1.1 o.1.2.1);refine u.1.reg (aF:=?_) (d:=c) iF ?_ ?_;rotate_left 1
       ·intro ρ D
        obtain⟨aE,aG,aL,h⟩:=aR.1 ρ D;have J:=ae h;clear h
        repeat(go_big_quiet_step((go_at_fn g;exact Mix.iZ.calls (λ_ _ _ h k=>h.trans k) (J.1 _))))
        apply af;exact rfl
       intro aM F;have B:=ae (F q.1.1);clear F
       have M:PLift (scanDown (λx=>ltOf l c[a]! x) c f (m - 1)=scanDown (λx=>ltOf l c[a]! x) c f j):=⟨by have hp:(λx=>ltOf l c[a]! x) c[m]! =ah:=(by show decide (l c[a]! c[m]!<0)=ah;rw[o.1.1,o.1.2.1];exact hd);exact(az (λx=>ltOf l c[a]! x) c f m o.1.2.2.2 (by have:=o.1.2.2.2;have:=L.1;omega) hp).symm.trans q.1.2.2.1⟩
       obtain⟨k',a0⟩:=iC (m - 1);have ct:(m:Int) - 1=(k':Int):=(by have:=o.1.2.2.2;have:=L.1;omega);have bh:=ae a0;rw[a0]at M;clear a0;go_wp2;go_roundw
       case rel=>exact⟨k',by first|rfl|go_num,by have:=q.1.2.2.2.1;have:=bh.1;omega,ax _,B.1.1,q.1.2.1.trans B.1.2,M.1⟩
       case measure=>have:=bh.1;have:=o.1.2.2.2;have:=L.1;simp[intOf];omega
      case neg=>
       have hd:decide (l x y<0)=ag:=iw hv;have I:(!decide (l x y<0))=ah:=(by rw[hd];rfl);have aa:0<=l x y:=iE
       go_upto_region 5 with fail
       have aR:=ae (u.1.lg q.1.1 s.1.2.2.1 o.1.2.2.1 o.1.1 o.1.2.1);refine u.1.reg (aF:=?_) (d:=c) iF ?_ ?_;rotate_left 1
       ·intro ρ D
        obtain⟨aE,aG,aL,h⟩:=aR.1 ρ D;have J:=ae h;clear h
        repeat(go_big_quiet_step((go_at_fn g;exact Mix.iZ.calls (λ_ _ _ h k=>h.trans k) (J.1 _))))
        apply af;exact rfl
       intro aM F;have B:=ae (F q.1.1);clear F
       have M:PLift (m=scanDown (λx=>ltOf l c[a]! x) c f j):=⟨by have hp:(λx=>ltOf l c[a]! x) c[m]! =ag:=(by show decide (l c[a]! c[m]!<0)=ag;rw[o.1.1,o.1.2.1];exact hd);exact(aj (λx=>ltOf l c[a]! x) c f m (.inr hp)).symm.trans q.1.2.2.1⟩
       have ab:=ae (And.intro B.1.1 (q.1.2.1.trans B.1.2));have ak:=ae q.1.2.2.2;clear B q hv hd I aa;have bO:¬(m:Int)<(f:Int):=(by have:=o.1.2.2.2;omega);have bi:f<n:=(by have:=o.1.2.2.2;have:=o.1.2.2.1;omega);have cv:(f:Int)<(n:Int):=iE;have al:PLift (partEqLoop (ltOf l) a (f+1) (m - 1) (swp c f m)=partEqLoop (ltOf l) a (a+1) (b - 1) (swp d a r)):=⟨by rw[<-G.1.2.2.1];exact(partEq_go (ltOf l) a i j c Y.1 M.1 (by have:=o.1.2.2.2;omega)).symm⟩;obtain⟨bR,bj⟩:=iC (c[f]! );obtain⟨bS,bk⟩:=iC (c[m]! );obtain⟨am,bl⟩:=iC (m - 1);have cw:(m:Int) - 1=(am:Int):=(by have:=L.1;have:=o.1.2.2.2;omega);have N:=ae (And.intro bj (And.intro bk (And.intro bi bl)));clear bj bk bi bl;obtain⟨bX,b0,b2,b3,⟨cx,b4⟩,b5,b6,ac⟩:=u.1.qm ab.1.1 N.1.2.2.1 o.1.2.2.1 N.1.1 N.1.2.1;have a1:=ae ac;clear ac
       go_upto_region 8 with fail
       have ao:=qo
       go_big_region_o
       clear ao;obtain⟨U,ac⟩:=iC (((aM.setCell ⟨K,off+f,none⟩ (.int .i64 bS)).setCell ⟨K,off+m,none⟩ (.int .i64 bR)).drew);rw[ac]at a1⊢;clear ac bX b0 b4 b2 b3 b5 b6;go_wp2;go_roundw
       case rel=>exact⟨f+1,am,swp c f m,by first|rfl|go_num,by first|rfl|go_num,by have:=L.1;have:=G.1.2.2.2.1;have:=ai.1.1;omega,by have:=o.1.2.2.2;have:=P.1;have:=ak.1.1;omega,by have:=N.1.2.2.2;have:=P.1;have:=ak.1.1;have:=o.1.2.2.2;omega,a1.1.1,ab.1.2.trans a1.1.2,by rw[<-N.1.2.2.2];exact al.1⟩
       case measure=>have:=N.1.2.2.2;have:=ai.1.1;have:=ak.1.1;have:=o.1.2.2.2;have:=L.1;simp[intOf];omega
section
variable (lt:Int->Int->Bool)
theorem part_break (a i j:Nat)(b:Array Int){i2 j2:Nat}(c:i2=scanUp (λx=>lt x b[a]!) b j i)(d:j2=scanDown (λx=>!lt x b[a]!) b i2 j)(h:j2<i2):partLoop lt a i j b=(j2,b):=by subst c;subst d;rw[partLoop_eq,gY h]
theorem part_go (a i j:Nat)(b:Array Int){i2 j2:Nat}(c:i2=scanUp (λx=>lt x b[a]!) b j i)(d:j2=scanDown (λx=>!lt x b[a]!) b i2 j)(h:¬i2>j2):partLoop lt a i j b=partLoop lt a (i2+1) (j2 - 1) (swp b i2 j2):=by subst c;subst d;rw[partLoop_eq,gZ h]
theorem WN (d:Array Int)(a b c:Nat){d0:Array Int}{i2 j2:Nat}(hd:swp d a c=d0)(e:i2=scanUp (λx=>lt x d0[a]!) d0 (b - 1) (a+1))(f:j2=scanDown (λx=>!lt x d0[a]!) d0 i2 (b - 1))(h:j2<i2):partition lt d a b c=(j2,ah,swp d0 j2 a):=by subst hd;subst e;subst f;unfold partition;simp only[gY h]
theorem WO (d:Array Int)(a b c:Nat){d0:Array Int}{i2 j2:Nat}(hd:swp d a c=d0)(e:i2=scanUp (λx=>lt x d0[a]!) d0 (b - 1) (a+1))(f:j2=scanDown (λx=>!lt x d0[a]!) d0 i2 (b - 1))(h:¬i2>j2):partition lt d a b c=((partLoop lt a (i2+1) (j2 - 1) (swp d0 i2 j2)).1,ag,swp (partLoop lt a (i2+1) (j2 - 1) (swp d0 i2 j2)).2 (partLoop lt a (i2+1) (j2 - 1) (swp d0 i2 j2)).1 a):=by subst hd;subst e;subst f;unfold partition;simp only[gZ h]
theorem WQ {X:Nat×Array Int}{P:Nat×Bool×Array Int}{k a:Nat}{b:Array Int}(h:∀r,X=r->P=(r.1,ag,swp r.2 r.1 a))(c:X=(k,b)):P=(k,ag,swp b k a):=h _ c
end
theorem KA {base M off n g:Nat}{b6:Array Value}{c:Int->Int->Int}{cp:Nat->Prop}{S:Array Int->aB->Prop}(C:lH base M off n g b6 c cp S)(cap a b E:Nat)(d:Array Int)(w:aB)(hS:S d w)(cq:a<=E)(cr:E<b)(b7:b<=n)(hn:n<=1000000)(c2:off<=1000000000)(cs:n<=cap)(ct:cap<=1000000000):
  Calls Tryz.prog 145 #[.slice (some ⟨M,off,none⟩) n cap,.int .i64 a,.int .i64 b,.int .i64 E,.func (.func g) #[] b6] w λe w'=>e=.returned (.tuple #[.int .i64 ((partition (ltOf c) d a b E).1 :Nat),.bool (partition (ltOf c) d a b E).2.1])/\S (partition (ltOf c) d a b E).2.2 w'/\ja base w w':=by
 have c3:(n:Int)<=1000000:=iE
 have q:=ae C;have c4:=C.enters;have c5:(n:Int)<=(cap:Int):=iE
 have c6:(cap:Int)<=1000000000:=iE
 have cv:=ae hS;have u:=ae (And.intro b7 (And.intro hn (And.intro (show a<n by omega) (And.intro (show E<n by omega) (show a<b by omega)))));have c7:(a:Int)<=1000000:=iE
 have c8:(0:Int)<=(a:Int):=iE
 have c9:(b:Int)<=1000000:=iE
 have da:(1:Int)<=(b:Int):=iE
 have bk:(a:Int)<(n:Int):=iE
 have db:(E:Int)<(n:Int):=iE
 have dc:(0:Int)<=(E:Int):=iE
 obtain⟨cw,b8⟩:=iC (d[a]! );obtain⟨cx,b9⟩:=iC (d[E]! );obtain⟨d0,ca⟩:=iC (swp d a E);obtain⟨b1,cb⟩:=iC (b - 1);have dd:(b:Int) - 1=(b1:Int):=iE
 have de:(0:Int)<=(b1:Int):=iE
 have al:=ae (And.intro b8 (And.intro b9 (And.intro cb ca)));have ab:=ae (show b1<b by omega);have av:=ae (show b1<n by omega);clear hS C b7 hn cs ct cq cr b8 b9 cb ca;go_enter Tryz.func145,Tryz.ntmps145;obtain⟨cy,cz,cA,cB,⟨df,cC⟩,cD,cE,a7⟩:=q.1.qm cv.1 u.1.2.2.1 u.1.2.2.2.1 al.1.1 al.1.2.1;have bl:=ae a7;clear a7
 go_upto_region 1 with fail
 have am:=qo
 go_big_region_o
 clear am;obtain⟨cc,a7⟩:=iC (((w.setCell ⟨M,off+a,none⟩ (.int .i64 cx)).setCell ⟨M,off+E,none⟩ (.int .i64 cw)).drew);rw[a7]at bl⊢;clear a7 cy cz cC cA cB cD cE;rw[al.1.2.2.2]at bl
 go_upto_region 3 with fail
 go_loopw [12] (λv N=>∃l:Nat,v=.int .i64 (l:Nat)/\(a+1)<=l/\l<=b/\S d0 N/\ja base w N/\scanUp (λx=>ltOf c x d0[a]!) d0 b1 l=scanUp (λx=>ltOf c x d0[a]!) d0 b1 (a+1)) (λv _=>b+1 - (intOf v).toNat)
 case atStart=>exact⟨(a+1),by first|rfl|go_num,au _,(by have:=u.1.2.2.2.2;omega),bl.1.1,bl.1.2,rfl⟩
 case round=>
  obtain⟨l,rfl,O,P,Q,R,T⟩:=hrel;have B:=ae (And.intro Q (And.intro R (And.intro T (And.intro O P))));have dg:(l:Int)<=1000000:=by have:=B.1.2.2.2.2;have:=u.1.1;have:=u.1.2.1;omega
  have dj:(0:Int)<=(l:Int):=iE
  clear Q R T O P;by_cases s:l<=b1
  case' neg=>
   have H:¬(l:Int)<=(b1:Int):=iE;have aw:decide ((l:Int)<=(b1:Int))=ag:=iw H;have a8:PLift (l=scanUp (λx=>ltOf c x d0[a]!) d0 b1 (a+1)):=⟨(ay (λx=>ltOf c x d0[a]!) d0 b1 l (.inl s)).symm.trans B.1.2.2.1⟩;have dk:=ae s;clear s
   go_upto_region 3 with fail
   refine q.1.reg (aF:=?_) (d:=d0) iF ?_ ?_;rotate_left 1
   ·intro ρ A
    haveI:=jD.inh (base:=base) (S:=S) (d:=d0) ρ
    repeat(go_big_quiet_step(fail))
    apply af;exact rfl
   intro cd ao;have ac:=ae (ao B.1.1);clear ao;have bq:=ae (And.intro ac.1.1 (B.1.2.1.trans ac.1.2));have br:=ae B.1.2.2.2;clear ac B
  case' pos=>
   have H:(l:Int)<=(b1:Int):=iE;have aw:decide ((l:Int)<=(b1:Int))=ah:=iq H;have V:l<n:=(by have:=av.1;have:=B.1.2.2.2.1;omega);have bs:(l:Int)<(n:Int):=iE;have bk:(a:Int)<(n:Int):=(by have:=u.1.2.2.1;omega);obtain⟨x,hx⟩:=iC (d0[l]! );obtain⟨y,hy⟩:=iC (d0[a]! );have K:=ae (And.intro hx (And.intro hy (And.intro V s)));clear hx hy V s;by_cases hv:c x y<0
   case pos=>
    have hd:decide (c x y<0)=ah:=iq hv;have I:(!decide (c x y<0))=ag:=(by rw[hd];rfl);have W:¬0<=c x y:=iE
    go_upto_region 3 with fail
    have bt:=ae (q.1.lg B.1.1 K.1.2.2.1 u.1.2.2.1 K.1.1 K.1.2.1);refine q.1.reg (aF:=?_) (d:=d0) iF ?_ ?_;rotate_left 1
    ·intro ρ A
     obtain⟨aD,aE,aG,h⟩:=bt.1 ρ A;have J:=ae h;clear h
     repeat(go_big_quiet_step((go_at_fn g;exact Mix.iZ.calls (λ_ _ _ h k=>h.trans k) (J.1 _))))
     apply af;exact rfl
    intro cd ao;have ac:=ae (ao B.1.1);clear ao
    have a8:PLift (scanUp (λx=>ltOf c x d0[a]!) d0 b1 (l+1)=scanUp (λx=>ltOf c x d0[a]!) d0 b1 (a+1)):=⟨by have hp:(λx=>ltOf c x d0[a]!) d0[l]! =ah:=(by show decide (c d0[l]! d0[a]!<0)=ah;rw[K.1.1,K.1.2.1];exact hd);exact(aA (λx=>ltOf c x d0[a]!) d0 b1 l K.1.2.2.2 hp).symm.trans B.1.2.2.1⟩
    go_wp2;go_roundw
    case rel=>exact⟨l+1,by first|rfl|go_num,by have:=B.1.2.2.2.1;omega,by have:=K.1.2.2.2;have:=ab.1;omega,ac.1.1,B.1.2.1.trans ac.1.2,a8.1⟩
    case measure=>have:=K.1.2.2.2;have:=ab.1;simp[intOf];omega
   case' neg=>
    have hd:decide (c x y<0)=ag:=iw hv;have I:(!decide (c x y<0))=ah:=(by rw[hd];rfl);have W:0<=c x y:=iE
    go_upto_region 3 with fail
    have bt:=ae (q.1.lg B.1.1 K.1.2.2.1 u.1.2.2.1 K.1.1 K.1.2.1);refine q.1.reg (aF:=?_) (d:=d0) iF ?_ ?_;rotate_left 1
    ·intro ρ A
     obtain⟨aD,aE,aG,h⟩:=bt.1 ρ A;have J:=ae h;clear h
     repeat(go_big_quiet_step((go_at_fn g;exact Mix.iZ.calls (λ_ _ _ h k=>h.trans k) (J.1 _))))
     apply af;exact rfl
    intro cd ao;have ac:=ae (ao B.1.1);clear ao
    have a8:PLift (l=scanUp (λx=>ltOf c x d0[a]!) d0 b1 (a+1)):=⟨by have hp:(λx=>ltOf c x d0[a]!) d0[l]! =ag:=(by show decide (c d0[l]! d0[a]!<0)=ag;rw[K.1.1,K.1.2.1];exact hd);exact(ay (λx=>ltOf c x d0[a]!) d0 b1 l (.inr hp)).symm.trans B.1.2.2.1⟩
    have bq:=ae (And.intro ac.1.1 (B.1.2.1.trans ac.1.2));have br:=ae B.1.2.2.2;clear ac B hv hd I W
  all_goals
   have X:=ae (show 0<l by have:=br.1.1;omega)
   go_upto_region 5 with fail
   go_loopw [13] (λv N=>∃o:Nat,v=.int .i64 (o:Nat)/\o<=b1/\0<=o/\S d0 N/\ja base w N/\scanDown (λx=>!ltOf c x d0[a]!) d0 l o=scanDown (λx=>!ltOf c x d0[a]!) d0 l b1) (λv _=>(intOf v).toNat)
   case atStart=>exact⟨b1,by first|rfl|go_num,au _,ax _,bq.1.1,bq.1.2,rfl⟩
   case round=>
    obtain⟨o,rfl,O,P,Q,R,T⟩:=hrel;have F:=ae (And.intro Q (And.intro R (And.intro T (And.intro O P))));have dl:(o:Int)<=1000000:=(by have:=ab.1;omega);have dp:(0:Int)<=(o:Int):=iE;clear Q R T O P;by_cases s:l<=o
    case neg=>
     have H:¬(l:Int)<=(o:Int):=iE;have aw:decide ((l:Int)<=(o:Int))=ag:=iw H;have a4:PLift (o=scanDown (λx=>!ltOf c x d0[a]!) d0 l b1):=⟨(aj (λx=>!ltOf c x d0[a]!) d0 l o (.inl s)).symm.trans F.1.2.2.1⟩;have ce:=ae s;clear s
     go_upto_region 5 with fail
     refine q.1.reg (aF:=?_) (d:=d0) iF ?_ ?_;rotate_left 1
     ·intro ρ A
      haveI:=jD.inh (base:=base) (S:=S) (d:=d0) ρ
      repeat(go_big_quiet_step(fail))
      apply af;exact rfl
     intro bm ap;have ad:=ae (ap F.1.1);clear ap;have a9:=ae (And.intro ad.1.1 (F.1.2.1.trans ad.1.2));have bv:=ae F.1.2.2.2;clear ad F;have bw:(o:Int)<(l:Int):=(by have:=ce.1;omega);have aL:=ae (show partition (ltOf c) d a b E=(o,ah,swp d0 o a)from WN (ltOf c) d a b E (i2:=l) (j2:=o) al.1.2.2.2 (by rw[al.1.2.2.1];exact a8.1) (by rw[al.1.2.2.1];exact a4.1) (by have:=ce.1;omega));have ba:o<n:=(by have:=bv.1.1;have:=av.1;omega);have cF:(o:Int)<(n:Int):=iE;obtain⟨aM,Y⟩:=iC (d0[o]! );obtain⟨aR,Z⟩:=iC (d0[a]! );have a0:=ae (And.intro Y (And.intro Z ba));clear Y Z ba;obtain⟨bx,bA,bB,bE,⟨cG,bL⟩,bM,bN,aa⟩:=q.1.qm a9.1.1 a0.1.2.2 u.1.2.2.1 a0.1.1 a0.1.2.1;have a1:=ae aa;clear aa
     go_upto_region 8 with fail
     have am:=qo
     go_big_region_o
     clear am;obtain⟨U,aa⟩:=iC (((bm.setCell ⟨M,off+o,none⟩ (.int .i64 aR)).setCell ⟨M,off+a,none⟩ (.int .i64 aM)).drew);rw[aa]at a1⊢;clear aa bx bA bL bB bE bM bN;go_wp2;go_ret2;exact⟨by(simp only[aL.1])<;>rfl,by rw[aL.1];exact a1.1.1,a9.1.2.trans a1.1.2⟩
    case pos=>
     have H:(l:Int)<=(o:Int):=iE;have aw:decide ((l:Int)<=(o:Int))=ah:=iq H;have V:o<n:=(by have:=av.1;have:=F.1.2.2.2.1;omega);have bs:(o:Int)<(n:Int):=iE;have bk:(a:Int)<(n:Int):=(by have:=u.1.2.2.1;omega);obtain⟨x,hx⟩:=iC (d0[o]! );obtain⟨y,hy⟩:=iC (d0[a]! );have z:=ae (And.intro hx (And.intro hy (And.intro V s)));clear hx hy V s;by_cases hv:c x y<0
     case neg=>
      have hd:decide (c x y<0)=ag:=iw hv;have I:(!decide (c x y<0))=ah:=(by rw[hd];rfl);have W:0<=c x y:=iE
      go_upto_region 5 with fail
      have bO:=ae (q.1.lg F.1.1 z.1.2.2.1 u.1.2.2.1 z.1.1 z.1.2.1);refine q.1.reg (aF:=?_) (d:=d0) iF ?_ ?_;rotate_left 1
      ·intro ρ A
       obtain⟨aD,aE,aG,h⟩:=bO.1 ρ A;have J:=ae h;clear h
       repeat(go_big_quiet_step((go_at_fn g;exact Mix.iZ.calls (λ_ _ _ h k=>h.trans k) (J.1 _))))
       apply af;exact rfl
      intro bm ap;have ad:=ae (ap F.1.1);clear ap
      have a4:PLift (scanDown (λx=>!ltOf c x d0[a]!) d0 l (o - 1)=scanDown (λx=>!ltOf c x d0[a]!) d0 l b1):=⟨by have hp:(λx=>!ltOf c x d0[a]!) d0[o]! =ah:=(by show(!decide (c d0[o]! d0[a]!<0))=ah;rw[z.1.1,z.1.2.1];exact I);exact(az (λx=>!ltOf c x d0[a]!) d0 l o z.1.2.2.2 (by have:=z.1.2.2.2;have:=X.1;omega) hp).symm.trans F.1.2.2.1⟩
      obtain⟨k',a2⟩:=iC (o - 1);have cH:(o:Int) - 1=(k':Int):=(by have:=z.1.2.2.2;have:=X.1;omega);have bb:=ae a2;rw[a2]at a4;clear a2;go_wp2;go_roundw
      case rel=>exact⟨k',by first|rfl|go_num,by have:=F.1.2.2.2.1;have:=bb.1;omega,ax _,ad.1.1,F.1.2.1.trans ad.1.2,a4.1⟩
      case measure=>have:=bb.1;have:=z.1.2.2.2;have:=X.1;simp[intOf];omega
     case pos=>
      have hd:decide (c x y<0)=ah:=iq hv;have I:(!decide (c x y<0))=ag:=(by rw[hd];rfl);have W:¬0<=c x y:=iE
      go_upto_region 5 with fail
      have bO:=ae (q.1.lg F.1.1 z.1.2.2.1 u.1.2.2.1 z.1.1 z.1.2.1);refine q.1.reg (aF:=?_) (d:=d0) iF ?_ ?_;rotate_left 1
      ·intro ρ A
       obtain⟨aD,aE,aG,h⟩:=bO.1 ρ A;have J:=ae h;clear h
       repeat(go_big_quiet_step((go_at_fn g;exact Mix.iZ.calls (λ_ _ _ h k=>h.trans k) (J.1 _))))
       apply af;exact rfl
      intro bm ap;have ad:=ae (ap F.1.1);clear ap
      have a4:PLift (o=scanDown (λx=>!ltOf c x d0[a]!) d0 l b1):=⟨by have hp:(λx=>!ltOf c x d0[a]!) d0[o]! =ag:=(by show(!decide (c d0[o]! d0[a]!<0))=ag;rw[z.1.1,z.1.2.1];exact I);exact(aj (λx=>!ltOf c x d0[a]!) d0 l o (.inr hp)).symm.trans F.1.2.2.1⟩
      have a9:=ae (And.intro ad.1.1 (F.1.2.1.trans ad.1.2));have bv:=ae F.1.2.2.2;clear ad F hv hd I W;have bw:¬(o:Int)<(l:Int):=(by have:=z.1.2.2.2;omega);have bc:l<n:=(by have:=z.1.2.2.2;have:=z.1.2.2.1;omega);have cI:(l:Int)<(n:Int):=iE;obtain⟨aM,Y⟩:=iC (d0[l]! );obtain⟨aR,Z⟩:=iC (d0[o]! );obtain⟨an,bd⟩:=iC (o - 1);have cJ:(o:Int) - 1=(an:Int):=(by have:=X.1;have:=z.1.2.2.2;omega);have be:=ae (And.intro Y (And.intro Z (And.intro bc bd)));clear Y Z bc bd;obtain⟨cK,cL,cM,cN,⟨dq,cO⟩,cP,cQ,bf⟩:=q.1.qm a9.1.1 be.1.2.2.1 z.1.2.2.1 be.1.1 be.1.2.1;have bR:=ae bf;clear bf
      go_upto_region 10 with fail
      have am:=qo
      go_big_region_o
      clear am;obtain⟨cf,bf⟩:=iC (((bm.setCell ⟨M,off+l,none⟩ (.int .i64 aR)).setCell ⟨M,off+o,none⟩ (.int .i64 aM)).drew);rw[bf]at bR⊢;clear bf cK cL cO cM cN cP cQ;have cg:=ae (show o<b by have:=ab.1;have:=bv.1.1;omega)
      have cR:PLift (∀r,partLoop (ltOf c) a (l+1) (o - 1) (swp d0 l o)=r->partition (ltOf c) d a b E=(r.1,ag,swp r.2 r.1 a)):=⟨λr hr=>by rw[<-hr];exact WO (ltOf c) d a b E (i2:=l) (j2:=o) al.1.2.2.2 (by rw[al.1.2.2.1];exact a8.1) (by rw[al.1.2.2.1];exact a4.1) (by have:=z.1.2.2.2;omega)⟩
      have cS:=ae (show a<l by have:=br.1.1;omega);have cT:=ae z.1.2.2.2
      go_upto_region 13 with fail
      go_loopw [12,13] (λbS bX wr=>∃(i j:Nat) (f:Array Int),bS=.int .i64 (i:Nat)/\bX=.int .i64 (j:Nat)/\a<i/\i<=b/\j<b/\S f wr/\ja base w wr/\partLoop (ltOf c) a i j f=partLoop (ltOf c) a (l+1) (o - 1) (swp d0 l o)) (λbS bX _=>(intOf bX).toNat+1 - (intOf bS).toNat)
      case atStart=>exact⟨l+1,an,swp d0 l o,by first|rfl|go_num,by first|rfl|go_num,by have:=cS.1;omega,by have:=cT.1;have:=cg.1;omega,by have:=be.1.2.2.2;have:=cg.1;omega,bR.1.1,a9.1.2.trans bR.1.2,by rw[be.1.2.2.2]⟩
      case round=>
       obtain⟨i,j,f,rfl,rfl,ch,ci,b0,cj,ck,cl⟩:=hrel;have a3:=ae (And.intro cj (And.intro ck (And.intro cl (And.intro ch (And.intro ci b0)))));have ab:=ae b0;have av:=ae (show j<n by have:=u.1.1;omega);have dr:(i:Int)<=1000000:=iE;have ds:(0:Int)<=(i:Int):=iE;have dt:(j:Int)<=1000000:=iE;have du:(0:Int)<=(j:Int):=iE;clear cj ck cl ch ci b0
       go_upto_region 13 with fail
       go_loopw [12] (λv N=>∃m:Nat,v=.int .i64 (m:Nat)/\i<=m/\m<=b/\S f N/\ja base w N/\scanUp (λx=>ltOf c x f[a]!) f j m=scanUp (λx=>ltOf c x f[a]!) f j i) (λv _=>b+1 - (intOf v).toNat)
       case atStart=>exact⟨i,by first|rfl|go_num,au _,a3.1.2.2.2.2.1,a3.1.1,a3.1.2.1,rfl⟩
       case round=>
        obtain⟨m,rfl,O,P,Q,R,T⟩:=hrel;have D:=ae (And.intro Q (And.intro R (And.intro T (And.intro O P))));have dv:(m:Int)<=1000000:=(by have:=D.1.2.2.2.2;have:=u.1.1;have:=u.1.2.1;omega);have dx:(0:Int)<=(m:Int):=iE;clear Q R T O P;by_cases s:m<=j
        case' neg=>
         have H:¬(m:Int)<=(j:Int):=iE;have aw:decide ((m:Int)<=(j:Int))=ag:=iw H;have bg:PLift (m=scanUp (λx=>ltOf c x f[a]!) f j i):=⟨(ay (λx=>ltOf c x f[a]!) f j m (.inl s)).symm.trans D.1.2.2.1⟩;have dy:=ae s;clear s
         go_upto_region 13 with fail
         refine q.1.reg (aF:=?_) (d:=f) iF ?_ ?_;rotate_left 1
         ·intro ρ A
          haveI:=jD.inh (base:=base) (S:=S) (d:=f) ρ
          repeat(go_big_quiet_step(fail))
          apply af;exact rfl
         intro cm aq;have ai:=ae (aq D.1.1);clear aq;have b2:=ae (And.intro ai.1.1 (D.1.2.1.trans ai.1.2));have bo:=ae D.1.2.2.2;clear ai D
        case' pos=>
         have H:(m:Int)<=(j:Int):=iE;have aw:decide ((m:Int)<=(j:Int))=ah:=iq H;have V:m<n:=(by have:=av.1;have:=D.1.2.2.2.1;omega);have bs:(m:Int)<(n:Int):=iE;have bk:(a:Int)<(n:Int):=(by have:=u.1.2.2.1;omega);obtain⟨x,hx⟩:=iC (f[m]! );obtain⟨y,hy⟩:=iC (f[a]! );have L:=ae (And.intro hx (And.intro hy (And.intro V s)));clear hx hy V s;by_cases hv:c x y<0
         case pos=>
          have hd:decide (c x y<0)=ah:=iq hv;have I:(!decide (c x y<0))=ag:=(by rw[hd];rfl);have W:¬0<=c x y:=iE
          go_upto_region 13 with fail
          have b3:=ae (q.1.lg D.1.1 L.1.2.2.1 u.1.2.2.1 L.1.1 L.1.2.1);refine q.1.reg (aF:=?_) (d:=f) iF ?_ ?_;rotate_left 1
          ·intro ρ A
           obtain⟨aD,aE,aG,h⟩:=b3.1 ρ A;have J:=ae h;clear h
           repeat(go_big_quiet_step((go_at_fn g;exact Mix.iZ.calls (λ_ _ _ h k=>h.trans k) (J.1 _))))
           apply af;exact rfl
          intro cm aq;have ai:=ae (aq D.1.1);clear aq
          have bg:PLift (scanUp (λx=>ltOf c x f[a]!) f j (m+1)=scanUp (λx=>ltOf c x f[a]!) f j i):=⟨by have hp:(λx=>ltOf c x f[a]!) f[m]! =ah:=(by show decide (c f[m]! f[a]!<0)=ah;rw[L.1.1,L.1.2.1];exact hd);exact(aA (λx=>ltOf c x f[a]!) f j m L.1.2.2.2 hp).symm.trans D.1.2.2.1⟩
          go_wp2;go_roundw
          case rel=>exact⟨m+1,by first|rfl|go_num,by have:=D.1.2.2.2.1;omega,by have:=L.1.2.2.2;have:=ab.1;omega,ai.1.1,D.1.2.1.trans ai.1.2,bg.1⟩
          case measure=>have:=L.1.2.2.2;have:=ab.1;simp[intOf];omega
         case' neg=>
          have hd:decide (c x y<0)=ag:=iw hv;have I:(!decide (c x y<0))=ah:=(by rw[hd];rfl);have W:0<=c x y:=iE
          go_upto_region 13 with fail
          have b3:=ae (q.1.lg D.1.1 L.1.2.2.1 u.1.2.2.1 L.1.1 L.1.2.1);refine q.1.reg (aF:=?_) (d:=f) iF ?_ ?_;rotate_left 1
          ·intro ρ A
           obtain⟨aD,aE,aG,h⟩:=b3.1 ρ A;have J:=ae h;clear h
           repeat(go_big_quiet_step((go_at_fn g;exact Mix.iZ.calls (λ_ _ _ h k=>h.trans k) (J.1 _))))
           apply af;exact rfl
          intro cm aq;have ai:=ae (aq D.1.1);clear aq
          have bg:PLift (m=scanUp (λx=>ltOf c x f[a]!) f j i):=⟨by have hp:(λx=>ltOf c x f[a]!) f[m]! =ag:=(by show decide (c f[m]! f[a]!<0)=ag;rw[L.1.1,L.1.2.1];exact hd);exact(ay (λx=>ltOf c x f[a]!) f j m (.inr hp)).symm.trans D.1.2.2.1⟩
          have b2:=ae (And.intro ai.1.1 (D.1.2.1.trans ai.1.2));have bo:=ae D.1.2.2.2;clear ai D hv hd I W
        all_goals
         have X:=ae (show 0<m by have:=bo.1.1;have:=a3.1.2.2.2.1;omega)
         go_upto_region 15 with fail
         go_loopw [13] (λv N=>∃p:Nat,v=.int .i64 (p:Nat)/\p<=j/\0<=p/\S f N/\ja base w N/\scanDown (λx=>!ltOf c x f[a]!) f m p=scanDown (λx=>!ltOf c x f[a]!) f m j) (λv _=>(intOf v).toNat)
         case atStart=>exact⟨j,by first|rfl|go_num,au _,ax _,b2.1.1,b2.1.2,rfl⟩
         case round=>
          obtain⟨p,rfl,O,P,Q,R,T⟩:=hrel;have G:=ae (And.intro Q (And.intro R (And.intro T (And.intro O P))));have dz:(p:Int)<=1000000:=(by have:=ab.1;omega);have dS:(0:Int)<=(p:Int):=iE;clear Q R T O P;by_cases s:m<=p
          case neg=>
           have H:¬(m:Int)<=(p:Int):=iE;have aw:decide ((m:Int)<=(p:Int))=ag:=iw H;have a5:PLift (p=scanDown (λx=>!ltOf c x f[a]!) f m j):=⟨(aj (λx=>!ltOf c x f[a]!) f m p (.inl s)).symm.trans G.1.2.2.1⟩;have cn:=ae s;clear s
           go_upto_region 15 with fail
           refine q.1.reg (aF:=?_) (d:=f) iF ?_ ?_;rotate_left 1
           ·intro ρ A
            haveI:=jD.inh (base:=base) (S:=S) (d:=f) ρ
            repeat(go_big_quiet_step(fail))
            apply af;exact rfl
           intro bp ar;have ak:=ae (ar G.1.1);clear ar;have bh:=ae (And.intro ak.1.1 (G.1.2.1.trans ak.1.2));have bi:=ae G.1.2.2.2;clear ak G;have bw:(p:Int)<(m:Int):=(by have:=cn.1;omega);have aL:=ae (show partition (ltOf c) d a b E=(p,ag,swp f p a)from WQ cR.1 (by rw[<-a3.1.2.2.1];exact part_break (ltOf c) a i j f bg.1 a5.1 (by have:=cn.1;omega)));have ba:p<n:=(by have:=bi.1.1;have:=av.1;omega);have cF:(p:Int)<(n:Int):=iE;obtain⟨aM,Y⟩:=iC (f[p]! );obtain⟨aR,Z⟩:=iC (f[a]! );have a0:=ae (And.intro Y (And.intro Z ba));clear Y Z ba;obtain⟨bx,bA,bB,bE,⟨cG,bL⟩,bM,bN,aa⟩:=q.1.qm bh.1.1 a0.1.2.2 u.1.2.2.1 a0.1.1 a0.1.2.1;have a1:=ae aa;clear aa
           go_upto_region 21 with fail
           have am:=qo
           go_big_region_o
           clear am;obtain⟨U,aa⟩:=iC (((bp.setCell ⟨M,off+p,none⟩ (.int .i64 aR)).setCell ⟨M,off+a,none⟩ (.int .i64 aM)).drew);rw[aa]at a1⊢;clear aa bx bA bL bB bE bM bN;go_wp2;go_ret2;exact⟨by(simp only[aL.1])<;>rfl,by rw[aL.1];exact a1.1.1,bh.1.2.trans a1.1.2⟩
          case pos=>
           have H:(m:Int)<=(p:Int):=iE;have aw:decide ((m:Int)<=(p:Int))=ah:=iq H;have V:p<n:=(by have:=av.1;have:=G.1.2.2.2.1;omega);have bs:(p:Int)<(n:Int):=iE;have bk:(a:Int)<(n:Int):=(by have:=u.1.2.2.1;omega);obtain⟨x,hx⟩:=iC (f[p]! );obtain⟨y,hy⟩:=iC (f[a]! );have t:=ae (And.intro hx (And.intro hy (And.intro V s)));clear hx hy V s;by_cases hv:c x y<0
           case neg=>
            have hd:decide (c x y<0)=ag:=iw hv;have I:(!decide (c x y<0))=ah:=(by rw[hd];rfl);have W:0<=c x y:=iE
            go_upto_region 15 with fail
            have b4:=ae (q.1.lg G.1.1 t.1.2.2.1 u.1.2.2.1 t.1.1 t.1.2.1);refine q.1.reg (aF:=?_) (d:=f) iF ?_ ?_;rotate_left 1
            ·intro ρ A
             obtain⟨aD,aE,aG,h⟩:=b4.1 ρ A;have J:=ae h;clear h
             repeat(go_big_quiet_step((go_at_fn g;exact Mix.iZ.calls (λ_ _ _ h k=>h.trans k) (J.1 _))))
             apply af;exact rfl
            intro bp ar;have ak:=ae (ar G.1.1);clear ar
            have a5:PLift (scanDown (λx=>!ltOf c x f[a]!) f m (p - 1)=scanDown (λx=>!ltOf c x f[a]!) f m j):=⟨by have hp:(λx=>!ltOf c x f[a]!) f[p]! =ah:=(by show(!decide (c f[p]! f[a]!<0))=ah;rw[t.1.1,t.1.2.1];exact I);exact(az (λx=>!ltOf c x f[a]!) f m p t.1.2.2.2 (by have:=t.1.2.2.2;have:=X.1;omega) hp).symm.trans G.1.2.2.1⟩
            obtain⟨k',a2⟩:=iC (p - 1);have cH:(p:Int) - 1=(k':Int):=(by have:=t.1.2.2.2;have:=X.1;omega);have bb:=ae a2;rw[a2]at a5;clear a2;go_wp2;go_roundw
            case rel=>exact⟨k',by first|rfl|go_num,by have:=G.1.2.2.2.1;have:=bb.1;omega,ax _,ak.1.1,G.1.2.1.trans ak.1.2,a5.1⟩
            case measure=>have:=bb.1;have:=t.1.2.2.2;have:=X.1;simp[intOf];omega
           case pos=>
            have hd:decide (c x y<0)=ah:=iq hv;have I:(!decide (c x y<0))=ag:=(by rw[hd];rfl);have W:¬0<=c x y:=iE
            go_upto_region 15 with fail
            have b4:=ae (q.1.lg G.1.1 t.1.2.2.1 u.1.2.2.1 t.1.1 t.1.2.1);refine q.1.reg (aF:=?_) (d:=f) iF ?_ ?_;rotate_left 1
            ·intro ρ A
             obtain⟨aD,aE,aG,h⟩:=b4.1 ρ A;have J:=ae h;clear h
             repeat(go_big_quiet_step((go_at_fn g;exact Mix.iZ.calls (λ_ _ _ h k=>h.trans k) (J.1 _))))
             apply af;exact rfl
            intro bp ar;have ak:=ae (ar G.1.1);clear ar
            have a5:PLift (p=scanDown (λx=>!ltOf c x f[a]!) f m j):=⟨by have hp:(λx=>!ltOf c x f[a]!) f[p]! =ag:=(by show(!decide (c f[p]! f[a]!<0))=ag;rw[t.1.1,t.1.2.1];exact I);exact(aj (λx=>!ltOf c x f[a]!) f m p (.inr hp)).symm.trans G.1.2.2.1⟩
            have bh:=ae (And.intro ak.1.1 (G.1.2.1.trans ak.1.2));have bi:=ae G.1.2.2.2;clear ak G hv hd I W;have bw:¬(p:Int)<(m:Int):=(by have:=t.1.2.2.2;omega);have bc:m<n:=(by have:=t.1.2.2.2;have:=t.1.2.2.1;omega);have cI:(m:Int)<(n:Int):=iE;obtain⟨aM,Y⟩:=iC (f[m]! );obtain⟨aR,Z⟩:=iC (f[p]! );obtain⟨an,bd⟩:=iC (p - 1);have cJ:(p:Int) - 1=(an:Int):=(by have:=X.1;have:=t.1.2.2.2;omega);have a6:=ae (And.intro Y (And.intro Z (And.intro bc bd)));clear Y Z bc bd;obtain⟨cU,cV,cW,cX,⟨dT,cY⟩,c0,c1,bj⟩:=q.1.qm bh.1.1 a6.1.2.2.1 t.1.2.2.1 a6.1.1 a6.1.2.1;have b5:=ae bj;clear bj
            go_upto_region 18 with fail
            have am:=qo
            go_big_region_o
            clear am;obtain⟨co,bj⟩:=iC (((bp.setCell ⟨M,off+m,none⟩ (.int .i64 aR)).setCell ⟨M,off+p,none⟩ (.int .i64 aM)).drew);rw[bj]at b5⊢;clear bj cU cV cY cW cX c0 c1;have aL:PLift (partLoop (ltOf c) a (m+1) (p - 1) (swp f m p)=partLoop (ltOf c) a (l+1) (o - 1) (swp d0 l o)):=⟨by rw[<-a3.1.2.2.1];exact(part_go (ltOf c) a i j f bg.1 a5.1 (by have:=t.1.2.2.2;omega)).symm⟩;go_wp2;go_roundw
            case rel=>exact⟨m+1,an,swp f m p,by first|rfl|go_num,by first|rfl|go_num,by have:=X.1;have:=a3.1.2.2.2.1;have:=bo.1.1;omega,by have:=t.1.2.2.2;have:=ab.1;have:=bi.1.1;omega,by have:=a6.1.2.2.2;have:=ab.1;have:=bi.1.1;have:=t.1.2.2.2;omega,b5.1.1,bh.1.2.trans b5.1.2,by rw[<-a6.1.2.2.2];exact aL.1⟩
            case measure=>have:=a6.1.2.2.2;have:=bo.1.1;have:=bi.1.1;have:=t.1.2.2.2;have:=X.1;simp[intOf];omega
end Go.Proofs.YthcalnnipjflkaaGreatDoor
