import Derived.Test.YthcalnnipjflkaaGreatDoorP36
open Go.Lib renaming cell_of_heap -> ae, frozen_of_heap -> au, alloc_old -> aN
open Option renaming none -> af, some -> ah, isSome_iff_exists -> aJ
open PLift renaming up -> ag
open Bool renaming false -> aj, true -> aH
open List renaming getElem?_eq_some_iff -> ax, length_singleton -> ay, length_append -> az
open Nat renaming le_trans -> aA, le_refl -> aI, add_assoc -> aO, le_of_lt -> aP, zero_le -> aS
open Go renaming Value -> aB, heap_alloc_new -> aC, World -> aK, wpQuiet_nil -> aQ, leaves_cons -> aT
set_option linter.all false
set_option maxHeartbeats 8000000
set_option maxRecDepth 100000
namespace Go.Proofs.YthcalnnipjflkaaGreatDoor
open Go.RowKit
open Go.Lib hiding intOf
section
variable {s:ByteArray} {k:Nat}
theorem Zp:ValAt 0 s:=by
 intro ex B e p N j w d b a hex f g hp;have hd:d=33:=by have:=b.2;omega
 subst hd;obtain⟨xs,c,-⟩:=a.row;obtain⟨h,i,rfl⟩:=mW c;have k:w.cell? ⟨e,2,af⟩=ah (.slice h N.length i):=(ae a.at_ 2).trans rfl;clear a hex f g hp b c;go_enter Tryz.func72,Tryz.ntmps72;go_wp2;exact⟨rfl,rfl,Below.refl _ _⟩
theorem Zq (hv:ValAt k s)(hs:s.size<=65536):ValAt (k+1) s:=by
 intro ex B z p N ak w d bE bl hex cb cz hp;have cA:=kC s;obtain⟨xs,bL,cc⟩:=bl.row;obtain⟨U,X,rfl⟩:=mW bL;have cd:w.cell? ⟨z,2,af⟩=ah (.slice U N.length X):=(ae bl.at_ 2).trans rfl;have cB:¬32<d:=by have:=bE.2;omega
 have db:decide (d>32)=aj:=iw cB;have cC:B<=w.heap.size:=aA bl.lo (aP (block_lt bl.at_));by_cases ce:4096<=N.length
 ·have dc:=ag (YY (S:=s.data.toList) (k:=k) (p:=p) ce)
  have bR:(4096:Int)<=(N.length:Int):=iE
  have cD:decide ((N.length:Int)≥4096)=aH:=iq bR;clear bl hex cb cz hp bE bL cc hv cA hs;go_enter Tryz.func72,Tryz.ntmps72;go_wp2;refine⟨rfl,?_⟩;unfold VP;rw[dc.1];exact⟨rfl,Below.refl _ _⟩
 have bR:¬(4096:Int)<=(N.length:Int):=iE
 have cD:decide ((N.length:Int)≥4096)=aj:=iw bR;have dS:(N.length:Int)<=4096:=iE
 obtain⟨dd,cE,cF,cG,cH⟩:=info_parts YL;have bS:=ag (And.intro cE (And.intro cF (And.intro cG cH)));have de:=ag (ae (aC w (.cells #[.int .i64 0,.string ⟨#[]⟩,.bool aj,.slice af 0 0,.slice af 0 0] 150)));have df:=ag (World.ownsRow.alloc bL (.cells #[.int .i64 0,.string ⟨#[]⟩,.bool aj,.slice af 0 0,.slice af 0 0] 150));have dg:PLift (B<=(w.alloc (.cells #[.int .i64 0,.string ⟨#[]⟩,.bool aj,.slice af 0 0,.slice af 0 0] 150)).heap.size):=⟨by rw[jl];omega⟩;have aw:=ag bl;have a8:=ag hex;have a9:=ag cb;have cI:=ag (And.intro bL cc);have R:=ag ce;have bX:=ag hv;have b0:=ag bE;have dj:=ag hp;have aq:=ag hs;have al:=ag cC;have bM:PLift (N.length<(N++[jG]).length):=⟨by rw[az,ay];omega⟩;have dT:d<=32:=iE
 have cf:0<=d:=bE.1;have d0:(p:Int)<=65536:=iE
 clear cE cF cG cH bl hex cb cz hp bE bL cc hv ce hs cC cA;go_enter Tryz.func72,Tryz.ntmps72
 go_upto_region 4 with fail
 go_wp2_with(at_builtin;refine wG _ rfl _ _ 115 rfl B 150 dd (.agg #[.int .i64 0,.string ⟨#[]⟩,.bool aj,.slice af 0 0,.slice af 0 0]) 5 80 Tryz.underlying115 bS.1.1 bS.1.2.1 bS.1.2.2.1 bS.1.2.2.2 YM iG (.slice U N.length X) N.length xs rfl df.1 ⟨w.heap.size,0,af⟩ 1 1 [.int .i64 0,.string ⟨#[]⟩,.bool aj,.slice af 0 0,.slice af 0 0] rfl rfl (by intro j u cJ;have cK:(⟨w.heap.size,0,af⟩:Addr).add j=⟨w.heap.size,j,af⟩:=(by unfold Addr.add;split<;>simp_all);rw[cK,de.1 j,<-cJ];simp) (by simp[Value.oneCell']) iG (by unfold maxLen;omega) iE dg.1 ?_)
 rintro v' bA cg cL cM;obtain⟨aD,aE,dk⟩:=mW cg;subst dk;obtain⟨b4,b5,ch⟩:=aw.1.push cg cI.1.1 cI.1.2 cL (λk dl=>by have h:=cM k dl;rw[jl];exact h);clear cd;have cd:bA.cell? ⟨z,2,af⟩=ah (.slice U N.length X):=(ae ch 2).trans rfl;have dp:bA.frozen? ⟨z,2,af⟩=aj:=au ch 2;have ar:=ag (VB.start b4 b5 #[.int .i64 0,.string ⟨#[]⟩,.bool aj,.slice af 0 0,.slice af 0 0]);have cN:(bA.setCell ⟨z,2,af⟩ (.slice aD (N.length+1) aE)).heap.size=bA.heap.size:=by simp[World.setCell]
 rw[cN]at ar;clear b4 b5 ch cg cL cM cN
 go_upto_region 6 with fail
 obtain⟨cO,cP⟩:=iC ((bA.setCell ⟨z,2,af⟩ (.slice aD (N.length+1) aE)).alloc (.cells #[.int .i64 0,.string ⟨#[]⟩,.bool aj,.slice af 0 0,.slice af 0 0] 150));rw[cP]at ar⊢;clear cP cd dp cB db bR cD;obtain⟨nb,cQ⟩:=iC bA.heap.size;rw[cQ]at ar⊢;clear cQ;have ac:=ag (FQ ar.1.pv.at_);by_cases aM:s.data.toList[p]?=ah 34
 case' pos=>
  have hn:lI s p=34:=by have h:=(nS (s:=s) (q:=p) (c:=34) iG).2 aM;have e:(34:UInt8).toNat=34:=rfl;omega
  have b:p<s.size:=by have h:=(ax.1 aM).1;rw[kC]at h;exact h
  have am:s[p]'b=34:=by have h:=aM;rw[nR b]at h;exact Option.some.inj h
  rw[hn]at ac;clear hn;have b6:=ag λ(W:aK) (a5:jw W z s p (.slice aD (N.length+1) aE))=>YA a5 aq.1 b am
  cases a6:oC (s.data.toList.drop (p+1))
  case none=>
   have m:=ag (LV (k:=k) R.1 aM);rw[a6]at m b6;clear a6 aM am
   go_wp2_with(first
    |(go_at_call 82;refine(ac.1).mono ?_;rintro e w3 ⟨rfl,K⟩;have a:=ag (ar.1.grow (K.below _));clear K)
    |(go_at_call 83;refine(b6.1 _ a.1.pv.at_).mono ?_;rintro e v ⟨rfl,J⟩;have a7:=ag J;clear J))
   refine⟨rfl,?_⟩;unfold VP;rw[m.1];exact⟨rfl,(a.1.base al.1 aw.1.above).trans (PK.base a7.1 (aA al.1 a.1.pk.size) aw.1.lo (λg e=>by cases e))⟩
  case' some tn=>
   obtain⟨t,n⟩:=tn;have m:=ag (LV (k:=k) R.1 aM);rw[a6]at m b6;clear a6 aM am
   go_upto_region 34 with(first
    |(go_at_call 82;refine(ac.1).mono ?_;rintro e w3 ⟨rfl,K⟩;have a:=ag (ar.1.grow (K.below _));clear K)
    |(go_at_call 83;refine(b6.1 _ a.1.pv.at_).mono ?_;rintro e v ⟨⟨rfl,an⟩,J⟩;have l:=ag (a.1.ps J an);clear an J;have ad:v.cell? ⟨nb,0,af⟩=ah _:=(ae l.1.box 0).trans rfl;have b1:v.cell? ⟨nb,1,af⟩=ah _:=(ae l.1.box 1).trans rfl;have b2:v.cell? ⟨nb,2,af⟩=ah _:=(ae l.1.box 2).trans rfl;have b3:v.cell? ⟨nb,3,af⟩=ah _:=(ae l.1.box 3).trans rfl;have T:v.cell? ⟨nb,4,af⟩=ah _:=(ae l.1.box 4).trans rfl;have ai:∀o,v.frozen? ⟨nb,o,af⟩=aj:=λo=>au l.1.box o))
   have O:=ag (l.1.yZ (.int .i64 5) (.string ⟨t.toArray⟩) (.bool aj) (.slice af 0 0) (.slice af 0 0));obtain⟨Z,ao⟩:=iC (((((v.setCell ⟨nb,0,af⟩ (.int .i64 5)).setCell ⟨nb,1,af⟩ (.string ⟨t.toArray⟩)).setCell ⟨nb,2,af⟩ (.bool aj)).setCell ⟨nb,3,af⟩ (.slice af 0 0)).setCell ⟨nb,4,af⟩ (.slice af 0 0));rw[ao]at O⊢;clear ao;clear ad b1 b2 b3 T ai
   obtain⟨ba,aG,bb,C,D,E,F,G,A,is,H,P,I,b,Q⟩:∃(q:Nat) (y:List Nd) (ak:aB) (C:Int) (D:ByteArray) (E:Bool) (F G:aB) (A is:List Int),VB ex B z nb s w (.slice U N.length X) q y ak #[.int .i64 C,.string D,.bool E,F,G] Z/\ji ex Z F A/\ji ex Z G is/\N.length<y.length/\jd s.data.toList (k+1) p N=ah (q,y.set N.length ⟨C,D,E,A,is⟩):=
    ⟨_,N++[jG],_,5,⟨t.toArray⟩,aj,.slice af 0 0,.slice af 0 0,[],[],O.1,ji.nil _ _,ji.nil _ _,bM.1,by rw[AL];exact m.1⟩
   have L:=ag (And.intro H (And.intro P (And.intro I (And.intro b Q))));clear H P I b Q
 rotate_left 1;by_cases aR:s.data.toList[p]?=ah 35
 case' pos=>
  have hn:lI s p=35:=by have h:=(nS (s:=s) (q:=p) (c:=35) iG).2 aR;have e:(35:UInt8).toNat=35:=rfl;omega
  have b:p<s.size:=by have h:=(ax.1 aR).1;rw[kC]at h;exact h
  have am:s[p]'b=35:=by have h:=aR;rw[nR b]at h;exact Option.some.inj h
  rw[hn]at ac;clear hn;have bm:PLift (((p:Int)+1)=((p+1:Nat):Int)):=⟨iE⟩
  go_upto_region 11 with(go_at_call 82;refine(ac.1).mono ?_;rintro e w3 ⟨rfl,K⟩;have a:=ag (ar.1.grow (K.below _));clear K)
  have bo:w3.cell? ⟨z,1,af⟩=ah (.int .i64 p):=(ae a.1.pv.at_ 1).trans rfl;have bp:∀o,w3.frozen? ⟨z,o,af⟩=aj:=λo=>au a.1.pv.at_ o
  have f:PLift (VB ex B z nb s w (.slice U N.length X) (p+1) (N++[jG]) (.slice aD (N.length+1) aE) #[.int .i64 0,.string ⟨#[]⟩,.bool aj,.slice af 0 0,.slice af 0 0] (w3.setCell ⟨z,1,af⟩ (.int .i64 ((p:Int)+1)))):=⟨a.1.ps (PK.moved a.1.pv.at_ (Same.refl _)) (a.1.pv.at_.moved bm.1 (Same.refl _))⟩
  go_upto_region 12 with fail
  obtain⟨Y,aa⟩:=iC (w3.setCell ⟨z,1,af⟩ (.int .i64 ((p:Int)+1)));rw[aa]at f⊢;clear aa bo bp;have b7:=ag (Yu f.1.pv.at_ aq.1 iE);cases a6:uG (jq (s.data.toList.drop (p+1)))
  case none=>
   have m:=ag (LX (k:=k) R.1 aR);rw[a6]at m b7;clear a6 aR am
   go_wp2_with(go_at_call 84;refine(b7.1).mono ?_;rintro e v ⟨rfl,J⟩;have a7:=ag J;clear J)
   refine⟨rfl,?_⟩;unfold VP;rw[m.1];exact⟨rfl,(f.1.base al.1 aw.1.above).trans (PK.base a7.1 (aA al.1 f.1.pk.size) aw.1.lo (λg e=>by cases e))⟩
  case' some t=>
   have m:=ag (LX (k:=k) R.1 aR);rw[a6]at m b7;clear a6 aR am
   go_upto_region 34 with(go_at_call 84;refine(b7.1).mono ?_;rintro e v ⟨⟨rfl,an⟩,J⟩;have l:=ag (f.1.ps J an);clear an J;have ad:v.cell? ⟨nb,0,af⟩=ah _:=(ae l.1.box 0).trans rfl;have b1:v.cell? ⟨nb,1,af⟩=ah _:=(ae l.1.box 1).trans rfl;have b2:v.cell? ⟨nb,2,af⟩=ah _:=(ae l.1.box 2).trans rfl;have b3:v.cell? ⟨nb,3,af⟩=ah _:=(ae l.1.box 3).trans rfl;have T:v.cell? ⟨nb,4,af⟩=ah _:=(ae l.1.box 4).trans rfl;have ai:∀o,v.frozen? ⟨nb,o,af⟩=aj:=λo=>au l.1.box o)
   have O:=ag (l.1.yZ (.int .i64 6) (.string ⟨t.toArray⟩) (.bool aj) (.slice af 0 0) (.slice af 0 0));obtain⟨Z,ao⟩:=iC (((((v.setCell ⟨nb,0,af⟩ (.int .i64 6)).setCell ⟨nb,1,af⟩ (.string ⟨t.toArray⟩)).setCell ⟨nb,2,af⟩ (.bool aj)).setCell ⟨nb,3,af⟩ (.slice af 0 0)).setCell ⟨nb,4,af⟩ (.slice af 0 0));rw[ao]at O⊢;clear ao;clear ad b1 b2 b3 T ai
   obtain⟨ba,aG,bb,C,D,E,F,G,A,is,H,P,I,b,Q⟩:∃(q:Nat) (y:List Nd) (ak:aB) (C:Int) (D:ByteArray) (E:Bool) (F G:aB) (A is:List Int),VB ex B z nb s w (.slice U N.length X) q y ak #[.int .i64 C,.string D,.bool E,F,G] Z/\ji ex Z F A/\ji ex Z G is/\N.length<y.length/\jd s.data.toList (k+1) p N=ah (q,y.set N.length ⟨C,D,E,A,is⟩):=
    ⟨_,N++[jG],_,6,⟨t.toArray⟩,aj,.slice af 0 0,.slice af 0 0,[],[],O.1,ji.nil _ _,ji.nil _ _,bM.1,by rw[AL];exact m.1⟩
   have L:=ag (And.intro H (And.intro P (And.intro I (And.intro b Q))));clear H P I b Q
 rotate_left 1;by_cases bc:s.data.toList[p]?=ah 64
 case' pos=>
  have hn:lI s p=64:=by have h:=(nS (s:=s) (q:=p) (c:=64) iG).2 bc;have e:(64:UInt8).toNat=64:=rfl;omega
  have b:p<s.size:=by have h:=(ax.1 bc).1;rw[kC]at h;exact h
  have am:s[p]'b=64:=by have h:=bc;rw[nR b]at h;exact Option.some.inj h
  rw[hn]at ac;clear hn;have bm:PLift (((p:Int)+1)=((p+1:Nat):Int)):=⟨iE⟩
  go_upto_region 14 with(go_at_call 82;refine(ac.1).mono ?_;rintro e w3 ⟨rfl,K⟩;have a:=ag (ar.1.grow (K.below _));clear K)
  have bo:w3.cell? ⟨z,1,af⟩=ah (.int .i64 p):=(ae a.1.pv.at_ 1).trans rfl;have bp:∀o,w3.frozen? ⟨z,o,af⟩=aj:=λo=>au a.1.pv.at_ o
  have f:PLift (VB ex B z nb s w (.slice U N.length X) (p+1) (N++[jG]) (.slice aD (N.length+1) aE) #[.int .i64 0,.string ⟨#[]⟩,.bool aj,.slice af 0 0,.slice af 0 0] (w3.setCell ⟨z,1,af⟩ (.int .i64 ((p:Int)+1)))):=⟨a.1.ps (PK.moved a.1.pv.at_ (Same.refl _)) (a.1.pv.at_.moved bm.1 (Same.refl _))⟩
  go_upto_region 15 with fail
  obtain⟨Y,aa⟩:=iC (w3.setCell ⟨z,1,af⟩ (.int .i64 ((p:Int)+1)));rw[aa]at f⊢;clear aa bo bp;have m:=ag (YZ (k:=k) R.1 bc);have aL:=ag (AA f.1.pv.at_ aq.1 iE);generalize jq (s.data.toList.drop (p+1))=M at m aL;clear bc am
  go_upto_region 34 with(go_at_call 85;refine(aL.1).mono ?_;rintro e v ⟨rfl,an,J⟩;have l:=ag (f.1.ps J an);clear an J;have ad:v.cell? ⟨nb,0,af⟩=ah _:=(ae l.1.box 0).trans rfl;have b1:v.cell? ⟨nb,1,af⟩=ah _:=(ae l.1.box 1).trans rfl;have b2:v.cell? ⟨nb,2,af⟩=ah _:=(ae l.1.box 2).trans rfl;have b3:v.cell? ⟨nb,3,af⟩=ah _:=(ae l.1.box 3).trans rfl;have T:v.cell? ⟨nb,4,af⟩=ah _:=(ae l.1.box 4).trans rfl;have ai:∀o,v.frozen? ⟨nb,o,af⟩=aj:=λo=>au l.1.box o)
  have O:=ag (l.1.yZ (.int .i64 7) (.string ⟨M.toArray⟩) (.bool aj) (.slice af 0 0) (.slice af 0 0));obtain⟨Z,ao⟩:=iC (((((v.setCell ⟨nb,0,af⟩ (.int .i64 7)).setCell ⟨nb,1,af⟩ (.string ⟨M.toArray⟩)).setCell ⟨nb,2,af⟩ (.bool aj)).setCell ⟨nb,3,af⟩ (.slice af 0 0)).setCell ⟨nb,4,af⟩ (.slice af 0 0));rw[ao]at O⊢;clear ao;clear ad b1 b2 b3 T ai
  obtain⟨ba,aG,bb,C,D,E,F,G,A,is,H,P,I,b,Q⟩:∃(q:Nat) (y:List Nd) (ak:aB) (C:Int) (D:ByteArray) (E:Bool) (F G:aB) (A is:List Int),VB ex B z nb s w (.slice U N.length X) q y ak #[.int .i64 C,.string D,.bool E,F,G] Z/\ji ex Z F A/\ji ex Z G is/\N.length<y.length/\jd s.data.toList (k+1) p N=ah (q,y.set N.length ⟨C,D,E,A,is⟩):=
   ⟨_,N++[jG],_,7,⟨M.toArray⟩,aj,.slice af 0 0,.slice af 0 0,[],[],O.1,ji.nil _ _,ji.nil _ _,bM.1,by rw[AL];exact m.1⟩
  have L:=ag (And.intro H (And.intro P (And.intro I (And.intro b Q))));clear H P I b Q
 rotate_left 1;by_cases bd:s.data.toList[p]?=ah 37
 case' pos=>
  have hn:lI s p=37:=by have h:=(nS (s:=s) (q:=p) (c:=37) iG).2 bd;have e:(37:UInt8).toNat=37:=rfl;omega
  have b:p<s.size:=by have h:=(ax.1 bd).1;rw[kC]at h;exact h
  have am:s[p]'b=37:=by have h:=bd;rw[nR b]at h;exact Option.some.inj h
  rw[hn]at ac;clear hn;have bm:PLift (((p:Int)+1)=((p+1:Nat):Int)):=⟨iE⟩
  go_upto_region 17 with(go_at_call 82;refine(ac.1).mono ?_;rintro e w3 ⟨rfl,K⟩;have a:=ag (ar.1.grow (K.below _));clear K)
  have bo:w3.cell? ⟨z,1,af⟩=ah (.int .i64 p):=(ae a.1.pv.at_ 1).trans rfl;have bp:∀o,w3.frozen? ⟨z,o,af⟩=aj:=λo=>au a.1.pv.at_ o
  have f:PLift (VB ex B z nb s w (.slice U N.length X) (p+1) (N++[jG]) (.slice aD (N.length+1) aE) #[.int .i64 0,.string ⟨#[]⟩,.bool aj,.slice af 0 0,.slice af 0 0] (w3.setCell ⟨z,1,af⟩ (.int .i64 ((p:Int)+1)))):=⟨a.1.ps (PK.moved a.1.pv.at_ (Same.refl _)) (a.1.pv.at_.moved bm.1 (Same.refl _))⟩
  go_upto_region 18 with fail
  obtain⟨Y,aa⟩:=iC (w3.setCell ⟨z,1,af⟩ (.int .i64 ((p:Int)+1)));rw[aa]at f⊢;clear aa bo bp;have m:=ag (Y0 (k:=k) R.1 bd);have aL:=ag (AA f.1.pv.at_ aq.1 iE);generalize jq (s.data.toList.drop (p+1))=M at m aL;clear bd am
  go_upto_region 34 with(go_at_call 85;refine(aL.1).mono ?_;rintro e v ⟨rfl,an,J⟩;have l:=ag (f.1.ps J an);clear an J;have ad:v.cell? ⟨nb,0,af⟩=ah _:=(ae l.1.box 0).trans rfl;have b1:v.cell? ⟨nb,1,af⟩=ah _:=(ae l.1.box 1).trans rfl;have b2:v.cell? ⟨nb,2,af⟩=ah _:=(ae l.1.box 2).trans rfl;have b3:v.cell? ⟨nb,3,af⟩=ah _:=(ae l.1.box 3).trans rfl;have T:v.cell? ⟨nb,4,af⟩=ah _:=(ae l.1.box 4).trans rfl;have ai:∀o,v.frozen? ⟨nb,o,af⟩=aj:=λo=>au l.1.box o)
  have O:=ag (l.1.yZ (.int .i64 8) (.string ⟨M.toArray⟩) (.bool aj) (.slice af 0 0) (.slice af 0 0));obtain⟨Z,ao⟩:=iC (((((v.setCell ⟨nb,0,af⟩ (.int .i64 8)).setCell ⟨nb,1,af⟩ (.string ⟨M.toArray⟩)).setCell ⟨nb,2,af⟩ (.bool aj)).setCell ⟨nb,3,af⟩ (.slice af 0 0)).setCell ⟨nb,4,af⟩ (.slice af 0 0));rw[ao]at O⊢;clear ao;clear ad b1 b2 b3 T ai
  obtain⟨ba,aG,bb,C,D,E,F,G,A,is,H,P,I,b,Q⟩:∃(q:Nat) (y:List Nd) (ak:aB) (C:Int) (D:ByteArray) (E:Bool) (F G:aB) (A is:List Int),VB ex B z nb s w (.slice U N.length X) q y ak #[.int .i64 C,.string D,.bool E,F,G] Z/\ji ex Z F A/\ji ex Z G is/\N.length<y.length/\jd s.data.toList (k+1) p N=ah (q,y.set N.length ⟨C,D,E,A,is⟩):=
   ⟨_,N++[jG],_,8,⟨M.toArray⟩,aj,.slice af 0 0,.slice af 0 0,[],[],O.1,ji.nil _ _,ji.nil _ _,bM.1,by rw[AL];exact m.1⟩
  have L:=ag (And.intro H (And.intro P (And.intro I (And.intro b Q))));clear H P I b Q
 rotate_left 1;by_cases be:s.data.toList[p]?=ah 33
 case' pos=>
  have hn:lI s p=33:=by have h:=(nS (s:=s) (q:=p) (c:=33) iG).2 be;have e:(33:UInt8).toNat=33:=rfl;omega
  have b:p<s.size:=by have h:=(ax.1 be).1;rw[kC]at h;exact h
  have am:s[p]'b=33:=by have h:=be;rw[nR b]at h;exact Option.some.inj h
  rw[hn]at ac;clear hn;have bm:PLift (((p:Int)+1)=((p+1:Nat):Int)):=⟨iE⟩
  go_upto_region 20 with(go_at_call 82;refine(ac.1).mono ?_;rintro e w3 ⟨rfl,K⟩;have a:=ag (ar.1.grow (K.below _));clear K)
  have bo:w3.cell? ⟨z,1,af⟩=ah (.int .i64 p):=(ae a.1.pv.at_ 1).trans rfl;have bp:∀o,w3.frozen? ⟨z,o,af⟩=aj:=λo=>au a.1.pv.at_ o
  have f:PLift (VB ex B z nb s w (.slice U N.length X) (p+1) (N++[jG]) (.slice aD (N.length+1) aE) #[.int .i64 0,.string ⟨#[]⟩,.bool aj,.slice af 0 0,.slice af 0 0] (w3.setCell ⟨z,1,af⟩ (.int .i64 ((p:Int)+1)))):=⟨a.1.ps (PK.moved a.1.pv.at_ (Same.refl _)) (a.1.pv.at_.moved bm.1 (Same.refl _))⟩
  go_upto_region 21 with fail
  obtain⟨Y,aa⟩:=iC (w3.setCell ⟨z,1,af⟩ (.int .i64 ((p:Int)+1)));rw[aa]at f⊢;clear aa bo bp;have aL:=ag (AA f.1.pv.at_ aq.1 iE);obtain⟨M,bq⟩:=iC (jq (s.data.toList.drop (p+1)));rw[bq]at aL;have d1:PLift (p+1+M.length<=s.size):=⟨by have h:=Du (s.data.toList.drop (p+1));rw[Dv,bq]at h;omega⟩;have br:=ag (And.intro bq be);clear be am bq
  go_upto_region 22 with(go_at_call 85;refine(aL.1).mono ?_;rintro e v ⟨rfl,an,J⟩;have l:=ag (f.1.ps J an);clear an J;have ad:v.cell? ⟨nb,0,af⟩=ah _:=(ae l.1.box 0).trans rfl;have b1:v.cell? ⟨nb,1,af⟩=ah _:=(ae l.1.box 1).trans rfl;have b2:v.cell? ⟨nb,2,af⟩=ah _:=(ae l.1.box 2).trans rfl;have b3:v.cell? ⟨nb,3,af⟩=ah _:=(ae l.1.box 3).trans rfl;have T:v.cell? ⟨nb,4,af⟩=ah _:=(ae l.1.box 4).trans rfl;have ai:∀o,v.frozen? ⟨nb,o,af⟩=aj:=λo=>au l.1.box o)
  have O:=ag (l.1.yZ (.int .i64 11) (.string ⟨M.toArray⟩) (.bool aj) (.slice af 0 0) (.slice af 0 0));obtain⟨cR,ao⟩:=iC (((((v.setCell ⟨nb,0,af⟩ (.int .i64 11)).setCell ⟨nb,1,af⟩ (.string ⟨M.toArray⟩)).setCell ⟨nb,2,af⟩ (.bool aj)).setCell ⟨nb,3,af⟩ (.slice af 0 0)).setCell ⟨nb,4,af⟩ (.slice af 0 0));rw[ao]at O⊢;clear ao;clear ad b1 b2 b3 T ai;by_cases bs:s.data.toList[p+1+M.length]?=ah 40
  case neg=>
   have bt:=ag (Dt 40 O.1.pv.at_ aq.1 (λh e=>bs (by rw[nR h,e])));have m:=ag (Y3 (k:=k) R.1 br.1.2 (by rw[br.1.1];unfold kG;rw[gZ bs]));clear bs
   go_wp2_with(go_at_call 86;refine(bt.1).mono ?_;rintro e a0 ⟨rfl,bf⟩;have ci:=ag bf;clear bf)
   refine⟨rfl,?_⟩;unfold VP;rw[m.1];exact⟨rfl,(O.1.base al.1 aw.1.above).trans (PK.base (show PS z _ _ from PK.same ci.1) (aA al.1 O.1.pk.size) aw.1.lo (λg e=>by cases e))⟩
  have b8:PLift (p+1+M.length<s.size):=⟨by have h:=(ax.1 bs).1;rw[kC]at h;exact h⟩;have cj:PLift (kG s.data.toList (p+1+(jq (s.data.toList.drop (p+1))).length) 40=ah (p+1+M.length+1)):=⟨by rw[br.1.1];unfold kG;rw[gY bs]⟩;have bt:=ag (Aw 40 O.1.pv.at_ aq.1 b8.1 (by have h:=bs;rw[nR b8.1]at h;exact Option.some.inj h));clear bs
  go_upto_region 23 with(go_at_call 86;refine(bt.1).mono ?_;rintro e a0 ⟨rfl,cS,bf⟩;have b9:=ag (O.1.ps bf cS);clear cS bf)
  have dq:PLift ((N++[jG]).length<=4096):=⟨by rw[az,ay];have:=R.1;omega⟩;have bN:=ag (bX.1 ex B z (p+1+M.length+1) (N++[jG]) (.slice aD (N.length+1) aE) a0 (d+1) ⟨iE,by have:=b0.1.2;omega⟩ b9.1.pv (b9.1.DC a8.1) (tq a9.1) dq.1 (by have:=b8.1;omega));obtain⟨n0,ck⟩:∃n0:Nat,(N++[jG]).length=n0:=⟨_,rfl⟩;rw[ck]at bN;have dr:PLift (n0=N.length+1):=⟨by rw[<-ck,az,ay]⟩;clear ck;cases bv:jd s.data.toList k (p+1+M.length+1) (N++[jG])
  case none=>
   have m:=ag (Y4 R.1 br.1.2 _ cj.1 bv);rw[bv]at bN;clear bv
   go_wp2_with(go_at_call 72;refine(bN.1).mono ?_;rintro e ap ⟨rfl,cT⟩;have ds:=ag cT;clear cT)
   refine⟨rfl,?_⟩;unfold VP;rw[m.1];exact⟨rfl,(b9.1.base al.1 aw.1.above).trans ds.1⟩
  case' some r=>
   obtain⟨a1,y⟩:=r;have dt:=ag (uH _ k _ _ _ _ bv (by rw[kC];have:=b8.1;omega) (tq a9.1));have cU:=ag bv;rw[bv]at bN;clear bv
   go_upto_region 24 with(go_at_call 72;refine(bN.1).mono ?_;rintro e ap ⟨rfl,ca,cV,cW⟩;have cl:=ag (b9.1.val cV cW);clear cV cW;have cm:=ag (cl.1.grow (iW ap (.cells #[.int .i64 ((n0:Nat):Int)] 3)));have T:(ap.alloc (.cells #[.int .i64 ((n0:Nat):Int)] 3)).cell? ⟨nb,4,af⟩=ah (.slice af 0 0):=(ae cm.1.box 4).trans rfl;have ai:∀o,(ap.alloc (.cells #[.int .i64 ((n0:Nat):Int)] 3)).frozen? ⟨nb,o,af⟩=aj:=λo=>au cm.1.box o)
   have bw:PLift (VB ex B z nb s w (.slice U N.length X) a1 y ca #[.int .i64 11,.string ⟨M.toArray⟩,.bool aj,.slice af 0 0,.slice (ah ⟨ap.heap.size,0,af⟩) 1 1] ((ap.alloc (.cells #[.int .i64 ((n0:Nat):Int)] 3)).setCell ⟨nb,4,af⟩ (.slice (ah ⟨ap.heap.size,0,af⟩) 1 1))):=⟨cm.1.set1 4 _⟩
   have cX:PLift (ji ex ((ap.alloc (.cells #[.int .i64 ((n0:Nat):Int)] 3)).setCell ⟨nb,4,af⟩ (.slice (ah ⟨ap.heap.size,0,af⟩) 1 1)) (.slice (ah ⟨ap.heap.size,0,af⟩) 1 1) [((n0:Nat):Int)]):=⟨by
    refine⟨ah ⟨ap.heap.size,0,af⟩,1,rfl,(by decide:1<=100000000),.inr ⟨ap.heap.size,#[.int .i64 ((n0:Nat):Int)],rfl,λe=>?_,?_,?_⟩⟩
    ·have d2:=a8.1 _ e
     have cK:=cl.1.pk.size;omega
    ·rw[jm _ (by have:=block_lt cl.1.box;omega)]
     exact aC ap _
    ·intro j x hx
     match j,hx with
     |0,hx=>simp only[List.getElem?_cons_zero,Option.some.injEq]at hx;subst hx;rfl
     |j+1,hx=>simp at hx⟩
   obtain⟨cY,c0⟩:=iC ((ap.alloc (.cells #[.int .i64 ((n0:Nat):Int)] 3)).setCell ⟨nb,4,af⟩ (.slice (ah ⟨ap.heap.size,0,af⟩) 1 1));rw[c0]at bw cX⊢;clear c0 T ai;by_cases bx:s.data.toList[a1]?=ah 41
   case neg=>
    have bt:=ag (Dt 41 bw.1.pv.at_ aq.1 (λh e=>bx (by rw[nR h,e])));have m:=ag (Y5 R.1 br.1.2 _ _ _ cj.1 cU.1 (by unfold kG;rw[gZ bx]));clear bx
    go_wp2_with(go_at_call 86;refine(bt.1).mono ?_;rintro e d3 ⟨rfl,bf⟩;have ci:=ag bf;clear bf)
    refine⟨rfl,?_⟩;unfold VP;rw[m.1];exact⟨rfl,(bw.1.base al.1 aw.1.above).trans (PK.base (show PS z _ _ from PK.same ci.1) (aA al.1 bw.1.pk.size) aw.1.lo (λg e=>by cases e))⟩
   have c1:PLift (a1<s.size):=⟨by have h:=(ax.1 bx).1;rw[kC]at h;exact h⟩;have bt:=ag (Aw 41 bw.1.pv.at_ aq.1 c1.1 (by have h:=bx;rw[nR c1.1]at h;exact Option.some.inj h));have m:=ag (Y6 R.1 br.1.2 _ _ (a1+1) _ cj.1 cU.1 (by unfold kG;rw[gY bx]));rw[br.1.1,<-dr.1]at m;have du:PLift (N.length<y.length):=⟨by have:=dt.1.len;rw[az,ay]at this;omega⟩;clear bx
   go_upto_region 34 with(go_at_call 86;refine(bt.1).mono ?_;rintro e Z ⟨rfl,c2,cn⟩;have dv:=ag (bw.1.ps cn c2);have a2:=ag (ji.ps cX.1 cn bw.1.pv.at_);clear c2 cn)
   obtain⟨ba,aG,bb,C,D,E,F,G,A,is,H,P,I,b,Q⟩:∃(q:Nat) (y:List Nd) (ak:aB) (C:Int) (D:ByteArray) (E:Bool) (F G:aB) (A is:List Int),VB ex B z nb s w (.slice U N.length X) q y ak #[.int .i64 C,.string D,.bool E,F,G] Z/\ji ex Z F A/\ji ex Z G is/\N.length<y.length/\jd s.data.toList (k+1) p N=ah (q,y.set N.length ⟨C,D,E,A,is⟩):=
    ⟨_,y,_,11,⟨M.toArray⟩,aj,_,_,[],[((n0:Nat):Int)],dv.1,ji.nil _ _,a2.1,du.1,m.1⟩
   have L:=ag (And.intro H (And.intro P (And.intro I (And.intro b Q))));clear H P I b Q
 rotate_left 1;by_cases bg:s.data.toList[p]?=ah 91
 case' pos=>
  have hn:lI s p=91:=by have h:=(nS (s:=s) (q:=p) (c:=91) iG).2 bg;have e:(91:UInt8).toNat=91:=rfl;omega
  have b:p<s.size:=by have h:=(ax.1 bg).1;rw[kC]at h;exact h
  have am:s[p]'b=91:=by have h:=bg;rw[nR b]at h;exact Option.some.inj h
  rw[hn]at ac;clear hn;have m:=ag (Y7 (k:=k) R.1 bg);clear bg am
  go_upto_region 27 with(go_at_call 82;refine(ac.1).mono ?_;rintro e w3 ⟨rfl,K⟩;have a:=ag (ar.1.grow (K.below _));clear K;have ad:w3.cell? ⟨nb,0,af⟩=ah _:=(ae a.1.box 0).trans rfl;have b1:w3.cell? ⟨nb,1,af⟩=ah _:=(ae a.1.box 1).trans rfl;have b2:w3.cell? ⟨nb,2,af⟩=ah _:=(ae a.1.box 2).trans rfl;have b3:w3.cell? ⟨nb,3,af⟩=ah _:=(ae a.1.box 3).trans rfl;have T:w3.cell? ⟨nb,4,af⟩=ah _:=(ae a.1.box 4).trans rfl;have ai:∀o,w3.frozen? ⟨nb,o,af⟩=aj:=λo=>au a.1.box o)
  have f:PLift (VB ex B z nb s w (.slice U N.length X) p (N++[jG]) (.slice aD (N.length+1) aE) #[.int .i64 9,.string ⟨#[]⟩,.bool aj,.slice af 0 0,.slice af 0 0] (w3.setCell ⟨nb,0,af⟩ (.int .i64 9))):=⟨(a.1.set1 0 (.int .i64 9))⟩;obtain⟨Y,aa⟩:=iC ((w3.setCell ⟨nb,0,af⟩ (.int .i64 9)));rw[aa]at f⊢;clear aa ad b1 b2 b3 T ai;have av:=ag (FX aj bX.1 aq.1 f.1.pv b (f.1.DC a8.1) (tq a9.1) (by rw[az,ay];have:=R.1;omega) N.length iH f.1.box f.1.oK (aA al.1 f.1.lo) (aA al.1 f.1.pk.size) rfl 93 iG d cf (by have:=b0.1.2;omega));cases hit:kK (jd s.data.toList k) s.data.toList 93 aj (s.data.toList.length+2) (p+1) (N++[jG]) [] []
  case none=>
   rw[hit]at m av;clear hit
   go_wp2_with(go_at_call 87;refine(av.1).mono ?_;rintro e v ⟨rfl,J⟩;have a7:=ag J;clear J)
   refine⟨rfl,?_⟩;unfold VP;rw[m.1];exact⟨rfl,(f.1.base al.1 aw.1.above).trans a7.1⟩
  case' some r=>
   obtain⟨a1,y,A,is⟩:=r;have ab:=ag (yP (uH _ k) 93 aj N.length _ _ _ _ _ _ _ _ _ hit ⟨by rw[kC];omega,tq a9.1,iH,by rw[az,ay];have:=R.1;omega,λx hx=>by simp at hx,iH,iH⟩).1;rw[hit]at m av;clear hit
   go_upto_region 34 with(go_at_call 87;refine(av.1).mono ?_;rintro e Z ⟨rfl,ca,F,G,bh⟩;have bO:=ag bh;clear bh)
   obtain⟨H,bi,I⟩:=f.1.items a8.1 bO.1 (by have:=ab.1.kl;have:=ab.1.is;have:=ab.1.top;omega) (by have:=ab.1.is;have:=ab.1.top;omega);have O:=ag H;have a2:=ag (And.intro bi I);clear H bi I
   obtain⟨ba,aG,bb,C,D,E,F,G,A,is,H,P,I,b,Q⟩:∃(q:Nat) (y:List Nd) (ak:aB) (C:Int) (D:ByteArray) (E:Bool) (F G:aB) (A is:List Int),VB ex B z nb s w (.slice U N.length X) q y ak #[.int .i64 C,.string D,.bool E,F,G] Z/\ji ex Z F A/\ji ex Z G is/\N.length<y.length/\jd s.data.toList (k+1) p N=ah (q,y.set N.length ⟨C,D,E,A,is⟩):=
    ⟨a1,y,_,9,⟨#[]⟩,aj,_,_,A,is,O.1,a2.1.1,a2.1.2,ab.1.at_,m.1⟩
   have L:=ag (And.intro H (And.intro P (And.intro I (And.intro b Q))));clear H P I b Q
 rotate_left 1;by_cases bj:s.data.toList[p]?=ah 123
 case' pos=>
  have hn:lI s p=123:=by have h:=(nS (s:=s) (q:=p) (c:=123) iG).2 bj;have e:(123:UInt8).toNat=123:=rfl;omega
  have b:p<s.size:=by have h:=(ax.1 bj).1;rw[kC]at h;exact h
  have am:s[p]'b=123:=by have h:=bj;rw[nR b]at h;exact Option.some.inj h
  rw[hn]at ac;clear hn;have m:=ag (Y8 (k:=k) R.1 bj);clear bj am
  go_upto_region 30 with(go_at_call 82;refine(ac.1).mono ?_;rintro e w3 ⟨rfl,K⟩;have a:=ag (ar.1.grow (K.below _));clear K;have ad:w3.cell? ⟨nb,0,af⟩=ah _:=(ae a.1.box 0).trans rfl;have b1:w3.cell? ⟨nb,1,af⟩=ah _:=(ae a.1.box 1).trans rfl;have b2:w3.cell? ⟨nb,2,af⟩=ah _:=(ae a.1.box 2).trans rfl;have b3:w3.cell? ⟨nb,3,af⟩=ah _:=(ae a.1.box 3).trans rfl;have T:w3.cell? ⟨nb,4,af⟩=ah _:=(ae a.1.box 4).trans rfl;have ai:∀o,w3.frozen? ⟨nb,o,af⟩=aj:=λo=>au a.1.box o)
  have f:PLift (VB ex B z nb s w (.slice U N.length X) p (N++[jG]) (.slice aD (N.length+1) aE) #[.int .i64 10,.string ⟨#[]⟩,.bool aj,.slice af 0 0,.slice af 0 0] (w3.setCell ⟨nb,0,af⟩ (.int .i64 10))):=⟨(a.1.set1 0 (.int .i64 10))⟩;obtain⟨Y,aa⟩:=iC ((w3.setCell ⟨nb,0,af⟩ (.int .i64 10)));rw[aa]at f⊢;clear aa ad b1 b2 b3 T ai;have av:=ag (FX aH bX.1 aq.1 f.1.pv b (f.1.DC a8.1) (tq a9.1) (by rw[az,ay];have:=R.1;omega) N.length iH f.1.box f.1.oK (aA al.1 f.1.lo) (aA al.1 f.1.pk.size) rfl 125 iG d cf (by have:=b0.1.2;omega));cases hit:kK (jd s.data.toList k) s.data.toList 125 aH (s.data.toList.length+2) (p+1) (N++[jG]) [] []
  case none=>
   rw[hit]at m av;clear hit
   go_wp2_with(go_at_call 87;refine(av.1).mono ?_;rintro e v ⟨rfl,J⟩;have a7:=ag J;clear J)
   refine⟨rfl,?_⟩;unfold VP;rw[m.1];exact⟨rfl,(f.1.base al.1 aw.1.above).trans a7.1⟩
  case' some r=>
   obtain⟨a1,y,A,is⟩:=r;have ab:=ag (yP (uH _ k) 125 aH N.length _ _ _ _ _ _ _ _ _ hit ⟨by rw[kC];omega,tq a9.1,iH,by rw[az,ay];have:=R.1;omega,λx hx=>by simp at hx,iH,iH⟩).1;rw[hit]at m av;clear hit
   go_upto_region 34 with(go_at_call 87;refine(av.1).mono ?_;rintro e Z ⟨rfl,ca,F,G,bh⟩;have bO:=ag bh;clear bh)
   obtain⟨H,bi,I⟩:=f.1.items a8.1 bO.1 (by have:=ab.1.kl;have:=ab.1.is;have:=ab.1.top;omega) (by have:=ab.1.is;have:=ab.1.top;omega);have O:=ag H;have a2:=ag (And.intro bi I);clear H bi I
   obtain⟨ba,aG,bb,C,D,E,F,G,A,is,H,P,I,b,Q⟩:∃(q:Nat) (y:List Nd) (ak:aB) (C:Int) (D:ByteArray) (E:Bool) (F G:aB) (A is:List Int),VB ex B z nb s w (.slice U N.length X) q y ak #[.int .i64 C,.string D,.bool E,F,G] Z/\ji ex Z F A/\ji ex Z G is/\N.length<y.length/\jd s.data.toList (k+1) p N=ah (q,y.set N.length ⟨C,D,E,A,is⟩):=
    ⟨a1,y,_,10,⟨#[]⟩,aj,_,_,A,is,O.1,a2.1.1,a2.1.2,ab.1.at_,m.1⟩
   have L:=ag (And.intro H (And.intro P (And.intro I (And.intro b Q))));clear H P I b Q
 rotate_left 1;by_cases bk:s.data.toList[p]?=ah 60
 case' pos=>
  have hn:lI s p=60:=by have h:=(nS (s:=s) (q:=p) (c:=60) iG).2 bk;have e:(60:UInt8).toNat=60:=rfl;omega
  have b:p<s.size:=by have h:=(ax.1 bk).1;rw[kC]at h;exact h
  have am:s[p]'b=60:=by have h:=bk;rw[nR b]at h;exact Option.some.inj h
  rw[hn]at ac;clear hn;have m:=ag (Y9 (k:=k) R.1 bk);clear bk am
  go_upto_region 33 with(go_at_call 82;refine(ac.1).mono ?_;rintro e w3 ⟨rfl,K⟩;have a:=ag (ar.1.grow (K.below _));clear K;have ad:w3.cell? ⟨nb,0,af⟩=ah _:=(ae a.1.box 0).trans rfl;have b1:w3.cell? ⟨nb,1,af⟩=ah _:=(ae a.1.box 1).trans rfl;have b2:w3.cell? ⟨nb,2,af⟩=ah _:=(ae a.1.box 2).trans rfl;have b3:w3.cell? ⟨nb,3,af⟩=ah _:=(ae a.1.box 3).trans rfl;have T:w3.cell? ⟨nb,4,af⟩=ah _:=(ae a.1.box 4).trans rfl;have ai:∀o,w3.frozen? ⟨nb,o,af⟩=aj:=λo=>au a.1.box o)
  have f:PLift (VB ex B z nb s w (.slice U N.length X) p (N++[jG]) (.slice aD (N.length+1) aE) #[.int .i64 10,.string ⟨#[]⟩,.bool aH,.slice af 0 0,.slice af 0 0] ((w3.setCell ⟨nb,0,af⟩ (.int .i64 10)).setCell ⟨nb,2,af⟩ (.bool aH))):=⟨((a.1.set1 0 (.int .i64 10)).set1 2 (.bool aH))⟩;obtain⟨Y,aa⟩:=iC (((w3.setCell ⟨nb,0,af⟩ (.int .i64 10)).setCell ⟨nb,2,af⟩ (.bool aH)));rw[aa]at f⊢;clear aa ad b1 b2 b3 T ai;have av:=ag (FX aH bX.1 aq.1 f.1.pv b (f.1.DC a8.1) (tq a9.1) (by rw[az,ay];have:=R.1;omega) N.length iH f.1.box f.1.oK (aA al.1 f.1.lo) (aA al.1 f.1.pk.size) rfl 62 iG d cf (by have:=b0.1.2;omega));cases hit:kK (jd s.data.toList k) s.data.toList 62 aH (s.data.toList.length+2) (p+1) (N++[jG]) [] []
  case none=>
   rw[hit]at m av;clear hit
   go_wp2_with(go_at_call 87;refine(av.1).mono ?_;rintro e v ⟨rfl,J⟩;have a7:=ag J;clear J)
   refine⟨rfl,?_⟩;unfold VP;rw[m.1];exact⟨rfl,(f.1.base al.1 aw.1.above).trans a7.1⟩
  case' some r=>
   obtain⟨a1,y,A,is⟩:=r;have ab:=ag (yP (uH _ k) 62 aH N.length _ _ _ _ _ _ _ _ _ hit ⟨by rw[kC];omega,tq a9.1,iH,by rw[az,ay];have:=R.1;omega,λx hx=>by simp at hx,iH,iH⟩).1;rw[hit]at m av;clear hit
   go_upto_region 34 with(go_at_call 87;refine(av.1).mono ?_;rintro e Z ⟨rfl,ca,F,G,bh⟩;have bO:=ag bh;clear bh)
   obtain⟨H,bi,I⟩:=f.1.items a8.1 bO.1 (by have:=ab.1.kl;have:=ab.1.is;have:=ab.1.top;omega) (by have:=ab.1.is;have:=ab.1.top;omega);have O:=ag H;have a2:=ag (And.intro bi I);clear H bi I
   obtain⟨ba,aG,bb,C,D,E,F,G,A,is,H,P,I,b,Q⟩:∃(q:Nat) (y:List Nd) (ak:aB) (C:Int) (D:ByteArray) (E:Bool) (F G:aB) (A is:List Int),VB ex B z nb s w (.slice U N.length X) q y ak #[.int .i64 C,.string D,.bool E,F,G] Z/\ji ex Z F A/\ji ex Z G is/\N.length<y.length/\jd s.data.toList (k+1) p N=ah (q,y.set N.length ⟨C,D,E,A,is⟩):=
    ⟨a1,y,_,10,⟨#[]⟩,aH,_,_,A,is,O.1,a2.1.1,a2.1.2,ab.1.at_,m.1⟩
   have L:=ag (And.intro H (And.intro P (And.intro I (And.intro b Q))));clear H P I b Q
 rotate_left 1;obtain⟨a3,a4⟩:=iC (lI s p)
 have d4:((a3:Int)==34)=aj:=by rw[iy];intro e;exact aM ((nS (s:=s) (q:=p) (c:=34) iG).1 (by rw[a4];exact e))
 have d5:((a3:Int)==35)=aj:=by rw[iy];intro e;exact aR ((nS (s:=s) (q:=p) (c:=35) iG).1 (by rw[a4];exact e))
 have d6:((a3:Int)==64)=aj:=by rw[iy];intro e;exact bc ((nS (s:=s) (q:=p) (c:=64) iG).1 (by rw[a4];exact e))
 have d7:((a3:Int)==37)=aj:=by rw[iy];intro e;exact bd ((nS (s:=s) (q:=p) (c:=37) iG).1 (by rw[a4];exact e))
 have d8:((a3:Int)==33)=aj:=by rw[iy];intro e;exact be ((nS (s:=s) (q:=p) (c:=33) iG).1 (by rw[a4];exact e))
 have d9:((a3:Int)==91)=aj:=by rw[iy];intro e;exact bg ((nS (s:=s) (q:=p) (c:=91) iG).1 (by rw[a4];exact e))
 have ea:((a3:Int)==123)=aj:=by rw[iy];intro e;exact bj ((nS (s:=s) (q:=p) (c:=123) iG).1 (by rw[a4];exact e))
 have eb:((a3:Int)==60)=aj:=by rw[iy];intro e;exact bk ((nS (s:=s) (q:=p) (c:=60) iG).1 (by rw[a4];exact e))
 rw[a4]at ac;have m:=ag (Za (k:=k) R.1 ⟨aM,aR,bc,bd,be,bg,bj,bk⟩);have co:=Du (s.data.toList.drop p);rw[Dv]at co;obtain⟨M,bq⟩:=iC (jq (s.data.toList.drop p));have aL:=ag λ(W:aK) (a5:jw W z s p (.slice aD (N.length+1) aE))=>AA a5 aq.1 dj.1
 rw[bq]at m aL co;obtain⟨kd,t,cp⟩:=Zb M
 have dx:PLift (∀W:aK,Calls Tryz.prog 88 #[.string ⟨M.toArray⟩] W λe w'=>e=.returned (.agg #[.int .i64 kd,.string t,.bool aj,.slice af 0 0,.slice af 0 0])/\Below W.heap.size W w'):=⟨λW=>by have h:=YE ⟨M.toArray⟩ (by show M.toArray.size<=_;have:=aq.1;simp;omega) W;rw[show(⟨M.toArray⟩:ByteArray).data.toList=M from rfl,cp]at h;exact h⟩
 rw[cp]at m;clear aM aR bc bd be bg bj bk a4 bq cp co
 go_upto_region 34 with(first
  |(go_at_call 82;refine(ac.1).mono ?_;rintro e w3 ⟨rfl,K⟩;have a:=ag (ar.1.grow (K.below _));clear K)
  |(go_at_call 85;refine(aL.1 _ a.1.pv.at_).mono ?_;rintro e v ⟨rfl,an,J⟩;have f:=ag (a.1.ps J an);clear an J)
  |(go_at_call 88;refine(dx.1 _).mono ?_;rintro e a0 ⟨rfl,c3⟩;have l:=ag (f.1.grow c3);clear c3;have ad:a0.cell? ⟨nb,0,af⟩=ah _:=(ae l.1.box 0).trans rfl;have b1:a0.cell? ⟨nb,1,af⟩=ah _:=(ae l.1.box 1).trans rfl;have b2:a0.cell? ⟨nb,2,af⟩=ah _:=(ae l.1.box 2).trans rfl;have b3:a0.cell? ⟨nb,3,af⟩=ah _:=(ae l.1.box 3).trans rfl;have T:a0.cell? ⟨nb,4,af⟩=ah _:=(ae l.1.box 4).trans rfl;have ai:∀o,a0.frozen? ⟨nb,o,af⟩=aj:=λo=>au l.1.box o))
 have O:=ag (l.1.yZ (.int .i64 kd) (.string t) (.bool aj) (.slice af 0 0) (.slice af 0 0));obtain⟨Z,ao⟩:=iC (((((a0.setCell ⟨nb,0,af⟩ (.int .i64 kd)).setCell ⟨nb,1,af⟩ (.string t)).setCell ⟨nb,2,af⟩ (.bool aj)).setCell ⟨nb,3,af⟩ (.slice af 0 0)).setCell ⟨nb,4,af⟩ (.slice af 0 0));rw[ao]at O⊢;clear ao;clear ad b1 b2 b3 T ai
 obtain⟨ba,aG,bb,C,D,E,F,G,A,is,H,P,I,b,Q⟩:∃(q:Nat) (y:List Nd) (ak:aB) (C:Int) (D:ByteArray) (E:Bool) (F G:aB) (A is:List Int),VB ex B z nb s w (.slice U N.length X) q y ak #[.int .i64 C,.string D,.bool E,F,G] Z/\ji ex Z F A/\ji ex Z G is/\N.length<y.length/\jd s.data.toList (k+1) p N=ah (q,y.set N.length ⟨C,D,E,A,is⟩):=
  ⟨_,N++[jG],_,kd,t,aj,.slice af 0 0,.slice af 0 0,[],[],O.1,ji.nil _ _,ji.nil _ _,bM.1,by rw[AL];exact m.1⟩
 have L:=ag (And.intro H (And.intro P (And.intro I (And.intro b Q))));clear H P I b Q
 all_goals
  obtain⟨cq,cr,cs,rfl⟩:=LU L.1.2.1;obtain⟨ct,cv,cw,rfl⟩:=LU L.1.2.2.1;obtain⟨g,cap,dy,c4,c5,b4,b5⟩:=L.1.1.fin (i:=N.length) L.1.2.2.2.1 ⟨C,D,E,A,is⟩ L.1.2.1 L.1.2.2.1;subst dy;have cx:=ag (And.intro c4 c5);have ad:Z.cell? ⟨nb,0,af⟩=ah (.int .i64 C):=(ae L.1.1.box 0).trans rfl;have b1:Z.cell? ⟨nb,1,af⟩=ah (.string D):=(ae L.1.1.box 1).trans rfl;have b2:Z.cell? ⟨nb,2,af⟩=ah (.bool E):=(ae L.1.1.box 2).trans rfl;have b3:Z.cell? ⟨nb,3,af⟩=ah (.slice cq cr cs):=(ae L.1.1.box 3).trans rfl;have T:Z.cell? ⟨nb,4,af⟩=ah (.slice ct cv cw):=(ae L.1.1.box 4).trans rfl;have dz:Z.cell? ⟨z,2,af⟩=ah (.slice (ah ⟨g,0,af⟩) aG.length cap):=(ae L.1.1.pv.at_ 2).trans rfl;have ec:(N.length:Int)<(aG.length:Int):=by have:=L.1.2.2.2.1;omega
  have ee:N.length<aG.length:=L.1.2.2.2.1;clear c4 c5 b4 b5;refine Mix.IJ (aF:=?_) 7 iF rfl iF iF iF iF iF iF rfl rfl rfl ?_ ?_;rotate_left 1
  ·intro ρ bB
   have ef:=kV bB ad;have e1:=kV bB b1;have eg:=kV bB b2;have e3:=kV bB b3;have eh:=kV bB T;have e5:=kV bB dz;dsimp only[List.take]
   repeat(go_big_quiet_step(fail))
   apply aQ;exact rfl
  ·intro W a5
   have c6:∀j,j<5->(W.cell? ⟨g,N.length*5+j,af⟩).isSome=aH:=λj cJ=>by obtain⟨x,hx⟩:=aJ.1 (cx.1.2 (N.length*5+j) (by have:=L.1.2.2.2.1;omega));rw[iU a5 hx];rfl
   have c7:∀j,W.frozen? ⟨g,j,af⟩=aj:=λj=>YX a5 (cx.1.1 j) (by obtain⟨x,hx⟩:=aJ.1 (cx.1.2 (N.length*5) (by have:=L.1.2.2.2.1;omega));exact World.block_lt_of_cell? _ _ hx)
   obtain⟨c8,c9⟩:=(L.1.1.grow a5).fin_at (i:=N.length) (by rfl) L.1.2.2.2.1 ⟨C,D,E,A,is⟩ (ji.grow L.1.2.1 a5) (ji.grow L.1.2.2.1 a5);have cy:=ag (And.intro c8 c9);clear c8 c9;refine⟨lT W g (N.length*5) (.int .i64 C) (.string D) (.bool E) (.slice cq cr cs) (.slice ct cv cw),Zc _ _ rfl g (N.length*5) _ _ _ _ _ _ _ _ _ (by rfl) (by rfl) W c6 c7,?_⟩;obtain⟨V,da⟩:=iC (lT W g (N.length*5) (.int .i64 C) (.string D) (.bool E) (.slice cq cr cs) (.slice ct cv cw));rw[da]at cy⊢;clear da c6 c7;go_wp2;go_ret;unfold VP;rw[L.1.2.2.2.2];exact⟨rfl,_,cy.1.1,cy.1.2⟩
end
theorem MH {s:ByteArray}(hs:s.size<=65536):∀k,ValAt k s
 |0=>Zp
 |k+1=>Zq (MH hs k) hs
def DF (w:aK)(r:Option (List Nd))(e:Ending)(w':aK):Prop:=
 match r with
 |some N=>∃v,e=.returned (.tuple #[.agg #[v,.int .i64 0],.bool aH])/\jJ w' v N/\Below w.heap.size w w'
 |none=>∃a n c,e=.returned (.tuple #[.agg #[.slice a n c,.int .i64 0],.bool aj])/\Below w.heap.size w w'
theorem PV.far {ex:Nat->Prop}{B c:Nat}{s:ByteArray}{p:Nat}{N:List Nd}{d:aB}{X Y:aK}(h:PV ex B c s p N d X)(k:∀(b:Nat) (a:Array aB) (T:Nat),X.heap[b]?=ah (.cells a T)->(T=150\/T=3\/T=136)->Y.heap[b]?=ah (.cells a T)):PV ex B c s p N d Y:=by obtain⟨xs,e,f⟩:=h.row;exact⟨k c _ _ h.at_ (.inr (.inr rfl)),h.lo,xs,qW e λg a i _=>k g a _ i (.inl rfl),f.keep λb a j hc=>⟨j,k b a _ hc (.inr (.inl rfl))⟩⟩
theorem Zu (w:aK)(s:ByteArray):PV (λ_=>False) (w.heap.size+1+1) (w.heap.size+1+1) s 0 [] (.slice af 0 0) (((w.alloc (.cells #[.slice af 0 0,.int .i64 0] 117)).alloc (.cells #[.bool aj] 4)).alloc (.cells #[.string s,.int .i64 0,.slice af 0 0] 136)):=by refine⟨?_,aI _,[],World.ownsRow_nil _ _ _ _,λi n h=>by simp at h⟩;have h:=aC ((w.alloc (.cells #[.slice af 0 0,.int .i64 0] 117)).alloc (.cells #[.bool aj] 4)) (.cells #[.string s,.int .i64 0,.slice af 0 0] 136);rw[jl,jl]at h;exact h
theorem Zv (s:ByteArray)(hs:s.size<=65536)(w:aK):Calls Tryz.prog 63 #[.string s] w (DF w (wF s.data.toList)):=by
 have bc:∀(fn:Fn) (first cap:Array aB) (w:aK),(Instr.makeFunc fn first cap).run Tryz.prog w=.ok (.func fn first cap) w:=λ_ _ _ _=>rfl
 have J:=ag (Zu w s)
 have y:PLift ((((w.alloc (.cells #[.slice af 0 0,.int .i64 0] 117)).alloc (.cells #[.bool aj] 4)).alloc (.cells #[.string s,.int .i64 0,.slice af 0 0] 136)).heap[w.heap.size]?=ah (.cells #[.slice af 0 0,.int .i64 0] 117)):=⟨by rw[aN _ _ _ (by rw[jl,jl];omega),aN _ _ _ (by rw[jl];omega)];exact aC w _⟩
 have z:PLift ((((w.alloc (.cells #[.slice af 0 0,.int .i64 0] 117)).alloc (.cells #[.bool aj] 4)).alloc (.cells #[.string s,.int .i64 0,.slice af 0 0] 136)).heap[w.heap.size+1]?=ah (.cells #[.bool aj] 4)):=⟨by rw[aN _ _ _ (by rw[jl,jl];omega)];have h:=aC (w.alloc (.cells #[.slice af 0 0,.int .i64 0] 117)) (.cells #[.bool aj] 4);rw[jl]at h;exact h⟩
 have B:PLift (Below w.heap.size w (((w.alloc (.cells #[.slice af 0 0,.int .i64 0] 117)).alloc (.cells #[.bool aj] 4)).alloc (.cells #[.string s,.int .i64 0,.slice af 0 0] 136))):=⟨((iW w _).alloc (by rw[jl];omega) _).alloc (by rw[jl,jl];omega) _⟩;have aG:=ag (MH hs 33);have aa:=ag hs;have K:=ag (show wF s.data.toList=match jd s.data.toList 33 0 []with|some (p,N)=>if p=s.data.toList.length then ah N else af|none=>af from rfl);generalize wF s.data.toList=R at K⊢;clear hs
 go_enter_defers Tryz.func63,Tryz.ntmps63
 go_upto_region 3 with fail
 obtain⟨W0,ab⟩:=iC (((w.alloc (.cells #[.slice af 0 0,.int .i64 0] 117)).alloc (.cells #[.bool aj] 4)).alloc (.cells #[.string s,.int .i64 0,.slice af 0 0] 136));rw[ab]at J y z B⊢;clear ab;have D:=ag (aG.1 (λ_=>False) (w.heap.size+1+1) (w.heap.size+1+1) 0 [] (.slice af 0 0) W0 0 ⟨iG,iG⟩ J.1 (λb h=>h.elim) (jO.nil _) iG (aS _));cases k:jd s.data.toList 33 0 []with
 |none=>
  have L:PLift (R=af):=⟨by rw[K.1,k]⟩;rw[k]at D;clear k
  go_wp2_with(go_at_call 72;refine(D.1).mono ?_;rintro e c ⟨rfl,ac⟩;have E:=ag ac;clear ac)
  have ad:c.heap[w.heap.size]?=ah (.cells #[.slice af 0 0,.int .i64 0] 117):=by rw[E.1.block _ iE];exact y.1
  have ai:c.heap[w.heap.size+1]?=ah (.cells #[.bool aj] 4):=by rw[E.1.block _ iE];exact z.1
  have aL:w.heap.size<=c.heap.size:=aA B.1.size E.1.size;refine aT (f:=71) (args:=#[.pointer (ah ⟨w.heap.size,0,af⟩),.pointer (ah ⟨w.heap.size+1,0,af⟩)]) iH (by simp[go_sem]) ?_;refine(Zr w.heap.size (w.heap.size+1) _ _ _ c ad ai).mono ?_;rintro e u' w3 ⟨rfl,rfl,t,ak,al⟩;have am:=al w.heap.size (aI _) iE aL;have aM:w3.cell? ⟨w.heap.size,0,af⟩=ah (.slice af 0 0):=(ae t 0).trans rfl;have aR:w3.cell? ⟨w.heap.size,1,af⟩=ah (.int .i64 0):=(ae t 1).trans rfl;have a0:w3.cell? ⟨w.heap.size+1,0,af⟩=ah (.bool aj):=(ae ak 0).trans rfl
  have M:PLift (DF w R (.returned (.tuple #[.agg #[.slice af 0 0,.int .i64 0],.bool aj])) w3):=⟨by unfold DF;rw[L.1];exact⟨_,_,_,rfl,B.1.trans ((E.1.mono iE).trans am)⟩⟩
  clear ad ai t ak al am;simp only[settle,List.dropWhile_nil];refine⟨.tuple #[.agg #[.slice af 0 0,.int .i64 0],.bool aj],?_,M.1⟩;simp only[results,Tryz.results63];go_simp
 |some r=>
  obtain⟨l,N⟩:=r;have L:PLift (R=if l=s.data.toList.length then ah N else af):=⟨by rw[K.1,k]⟩;have O:=ag (uH _ 33 _ _ _ _ k (aS _) (jO.nil _));rw[k]at D;clear k
  go_upto_region 4 with(go_at_call 72;refine(D.1).mono ?_;rintro e c ⟨rfl,bd,an,ao⟩;have d:=ag (And.intro an ao);clear an ao)
  have be:=ag (d.1.1.nodes O.1.top)
  have u:PLift (c.heap[w.heap.size]?=ah (.cells #[.slice af 0 0,.int .i64 0] 117)):=⟨by rw[d.1.2.block _ (block_lt y.1) iE (λe=>by cases e)];exact y.1⟩
  have ap:PLift (c.heap[w.heap.size+1]?=ah (.cells #[.bool aj] 4)):=⟨by rw[d.1.2.block _ (block_lt z.1) iE (λe=>by cases e)];exact z.1⟩
  obtain⟨xs,aq,-⟩:=d.1.1.row;obtain⟨A,C,rfl⟩:=mW aq;clear aq;have bf:(l:Int)<=65536:=by have:=O.1.fin;rw[kC]at this;have:=aa.1;omega
  have bg:(s.size:Int)<=65536:=by have:=aa.1;omega
  obtain⟨tb,a1⟩:∃tb:Bool,((l:Int)==(s.size:Int))=tb:=⟨_,rfl⟩;have a2:=ag a1;have bh:PLift (w.heap.size<c.heap.size/\w.heap.size+1<c.heap.size):=⟨⟨block_lt u.1,block_lt ap.1⟩⟩;refine uZ.LG (aF:=?aF) 12 1 1 (λW=>∃n,W=c.drewN n) (λW=>W.heap[w.heap.size+1+1]?=ah (.cells #[.string s,.int .i64 l,.slice A N.length C] 136)) (λa b=>∃n,b=a.drewN n) (λ_ _=>False) iF rfl iF iF iF iF (λW=>⟨0,rfl⟩) ?z0 ?z1 ⟨1,rfl⟩ (λ_ _ _ _ h=>h.elim) ?hA ?hN
  case z0=>rintro _ _ ⟨n,rfl⟩ ⟨j,rfl⟩;exact⟨n+j,by simp[World.drewN,aO]⟩
  case z1=>rintro _ ⟨n,rfl⟩;exact d.1.1.at_
  case hA=>
   intro ρ P;have a6:ρ.cell? ⟨w.heap.size+1+1,1,af⟩=ah (.int .i64 l):=(ae P 1).trans rfl;have bi:ρ.cell? ⟨w.heap.size+1+1,2,af⟩=ah (.slice A N.length C):=(ae P 2).trans rfl;clear P;dsimp only[List.take]
   repeat(go_big_quiet_step(fail))
   apply aQ;exact rfl
  case hN=>
   refine uZ.Dy (i:=12) iF (by rfl) (by rfl) (λv W=>∃n,W=(((c.setCell ⟨w.heap.size,0,af⟩ (.slice A N.length C)).setCell ⟨w.heap.size,1,af⟩ (.int .i64 0)).drewN n)) ?hR ?hD ?z2 ?hK
   case hR=>rintro _ _ _ ⟨n,rfl⟩ ⟨j,rfl⟩;exact⟨n+j,by simp[World.drewN,aO]⟩
   case hD=>rintro _ _ ⟨n,rfl⟩;show((c.setCell ⟨w.heap.size,0,af⟩ (.slice A N.length C)).setCell ⟨w.heap.size,1,af⟩ (.int .i64 0)).heap[w.heap.size+1+1]?=_;rw[jm _ iE,jm _ iE];exact d.1.1.at_
   case z2=>
    rintro _ ⟨n,rfl⟩;have ar:c.cell? ⟨w.heap.size,0,af⟩=ah (.slice af 0 0):=(ae u.1 0).trans rfl;have a6:c.cell? ⟨w.heap.size,1,af⟩=ah (.int .i64 0):=(ae u.1 1).trans rfl;have av:∀o,c.frozen? ⟨w.heap.size,o,af⟩=aj:=λo=>au u.1 o
    go_simp;exact⟨n,rfl⟩
   case hK=>
    intro v W bj;refine⟨?_,?_⟩
    ·intro j aw
     rw[show Region.ready .any _ _=[13]from by kernel_rfl]at aw;simpa using aw
    ·rintro _ ⟨n,rfl⟩
     have Q:(((c.setCell ⟨w.heap.size,0,af⟩ (.slice A N.length C)).setCell ⟨w.heap.size,1,af⟩ (.int .i64 0)).drewN n).heap[w.heap.size]?=ah (.cells #[.slice A N.length C,.int .i64 0] 117):=by have h:=u.1;show((c.setCell ⟨w.heap.size,0,af⟩ (.slice A N.length C)).setCell ⟨w.heap.size,1,af⟩ (.int .i64 0)).heap[w.heap.size]?=_;simp[World.setCell,Array.getElem?_modify,h]
     have x:(((c.setCell ⟨w.heap.size,0,af⟩ (.slice A N.length C)).setCell ⟨w.heap.size,1,af⟩ (.int .i64 0)).drewN n).heap[w.heap.size+1]?=ah (.cells #[.bool aj] 4):=by show((c.setCell ⟨w.heap.size,0,af⟩ (.slice A N.length C)).setCell ⟨w.heap.size,1,af⟩ (.int .i64 0)).heap[w.heap.size+1]?=_;rw[jm _ iE,jm _ iE];exact ap.1
     have S:PV (λ_=>False) (w.heap.size+1+1) (w.heap.size+1+1) s l N (.slice A N.length C) (((c.setCell ⟨w.heap.size,0,af⟩ (.slice A N.length C)).setCell ⟨w.heap.size,1,af⟩ (.int .i64 0)).drewN n):=by
      refine d.1.1.far λb a9 T m U=>?_
      have F:b≠w.heap.size:=by rintro rfl;rw[u.1]at m;cases m;exact absurd U iG
      show((c.setCell ⟨w.heap.size,0,af⟩ (.slice A N.length C)).setCell ⟨w.heap.size,1,af⟩ (.int .i64 0)).heap[b]?=_;rw[jm _ F,jm _ F];exact m
     have X:Below w.heap.size w (((c.setCell ⟨w.heap.size,0,af⟩ (.slice A N.length C)).setCell ⟨w.heap.size,1,af⟩ (.int .i64 0)).drewN n):=
      ((((B.1.trans ((d.1.2.base (aP (block_lt J.1.at_)) (aI _) (λg e=>by cases e)).mono iE)).setCell (p:=⟨w.heap.size,0,af⟩) (aI _) _).setCell (p:=⟨w.heap.size,1,af⟩) (aI _) _)).trans (((Same.refl _).drewN n).below _)
     obtain⟨V,aD⟩:=iC (((c.setCell ⟨w.heap.size,0,af⟩ (.slice A N.length C)).setCell ⟨w.heap.size,1,af⟩ (.int .i64 0)).drewN n);rw[aD]at Q x S X⊢;have ar:V.cell? ⟨w.heap.size+1,0,af⟩=ah (.bool aj):=(ae x 0).trans rfl;have av:∀o,V.frozen? ⟨w.heap.size+1,o,af⟩=aj:=λo=>au x o
     refine uZ.LH (i:=13) (W':=V.setCell ⟨w.heap.size+1,0,af⟩ (.bool tb)) iF (by rfl) (by rfl) rfl iF ?z3 ?z4
     case z3=>go_simp
     case z4=>
      have G:(V.setCell ⟨w.heap.size+1,0,af⟩ (.bool tb)).heap[w.heap.size]?=ah (.cells #[.slice A N.length C,.int .i64 0] 117):=(by rw[jm _ iE];exact Q);have Y:(V.setCell ⟨w.heap.size+1,0,af⟩ (.bool tb)).heap[w.heap.size+1]?=ah (.cells #[.bool tb] 4):=by simp[World.setCell,Array.getElem?_modify,x]
      have Z:jJ (V.setCell ⟨w.heap.size+1,0,af⟩ (.bool tb)) (.slice A N.length C) N:=by
       refine(S.far λb a9 T m U=>?_).nodes O.1.top
       have F:b≠w.heap.size+1:=by rintro rfl;rw[x]at m;cases m;exact absurd U iG
       rw[jm _ F];exact m
      have H:Below w.heap.size w (V.setCell ⟨w.heap.size+1,0,af⟩ (.bool tb)):=X.setCell (p:=⟨w.heap.size+1,0,af⟩) (by show w.heap.size<=w.heap.size+1;omega) _;obtain⟨q,aE⟩:=iC (V.setCell ⟨w.heap.size+1,0,af⟩ (.bool tb));rw[aE]at G Y Z H⊢
      have M:PLift (DF w R (.returned (.tuple #[.agg #[.slice A N.length C,.int .i64 0],.bool tb])) q):=⟨by
       have t:=a2.1;rw[L.1];by_cases I:l=s.data.toList.length
       ·rw[gY I]
        have:tb=aH:=(by rw[<-t,beq_iff_eq,I,kC]);rw[this];exact⟨_,rfl,Z,H⟩
       ·rw[gZ I]
        have:tb=aj:=(by rw[<-t,iy];intro e;exact I (by rw[kC];omega));rw[this];exact⟨_,_,_,rfl,H⟩⟩
      have aM:q.cell? ⟨w.heap.size,0,af⟩=ah (.slice A N.length C):=(ae G 0).trans rfl;have aR:q.cell? ⟨w.heap.size,1,af⟩=ah (.int .i64 0):=(ae G 1).trans rfl;have a0:q.cell? ⟨w.heap.size+1,0,af⟩=ah (.bool tb):=(ae Y 0).trans rfl;clear G Y Z H Q x S X ar av aD aE;go_wp2;refine aT (f:=71) (args:=#[.pointer (ah ⟨w.heap.size,0,af⟩),.pointer (ah ⟨w.heap.size+1,0,af⟩)]) iH (by simp[go_sem]) ?_;refine(Zt w.heap.size (w.heap.size+1) q).mono ?_;rintro e u' w3 ⟨rfl,rfl,rfl⟩;simp only[settle];refine⟨.tuple #[.agg #[.slice A N.length C,.int .i64 0],.bool tb],?_,M.1⟩;simp only[results,Tryz.results63];go_simp
end Go.Proofs.YthcalnnipjflkaaGreatDoor
