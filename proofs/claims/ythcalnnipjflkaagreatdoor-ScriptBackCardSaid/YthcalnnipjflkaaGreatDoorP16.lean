import Derived.Test.YthcalnnipjflkaaGreatDoorP15
import Derived.Sort.LotD1
import Derived.Sort.Walk7
import Derived.Sort.Walk13a
open PLift renaming up -> ae
open Bool renaming true -> af, false -> az
open Option renaming none -> ag, some -> aC
open Int renaming toNat_natCast -> ah, tdiv -> aQ
open Go.Proofs.Tryz renaming prog -> aj, ntmps140 -> aO, func140 -> aP
open Nat renaming le_refl -> au, one_shiftLeft -> aJ
open Go renaming World -> ax, Calls -> aB, bodyPost_ret -> aH, results_none -> aI, wpQuiet_nil -> aK, Value -> aN
open UInt64 renaming ofNat -> ay
open Array renaming getElem?_eq_some_iff -> aA
set_option linter.all false
set_option maxHeartbeats 16000000
set_option maxRecDepth 1000000
namespace Go.Proofs.YthcalnnipjflkaaGreatDoor
open Go.RowKit Go.Sort
open Go.Lib hiding intOf
theorem ja.Xc {base:Nat}{w W:ax}(h:ja base w W)(p:Nat)(hp:w.heap.size<=p)(v:aN):ja base w (W.setCell ⟨p,0,ag⟩ v):=
 ⟨by simp[World.setCell];exact h.1,λq a b=>by rw[Go.Deep.blk_setCell_other W ⟨p,0,ag⟩ v q (by show q≠p;omega)];exact h.2 q a b⟩
theorem ja.drewN {base:Nat}{w W:ax}(h:ja base w W)(k:Nat):ja base w (W.drewN k):=⟨h.1,h.2⟩
theorem Xd (d:Array Int)(a b L:Nat)(c:b - a=L)(h:¬8<=L):breakPatterns d a b=d:=by unfold breakPatterns;simp only[c];rw[gZ h]
theorem Xf {base m off n g:Nat}{aF:Array aN}{bd:Int->Int->Int}{aG:Nat->Prop}{S:Array Int->ax->Prop}(C:lH base m off n g aF bd aG S)(cap a b:Nat)(d:Array Int)(w:ax)(k:Nat)(ai:w.heap.size=k)(be:aG k)(bf:base<=k)(bM:8<=b - a)(hS:∀o,S d (w.alloc o))(bg:a<b)(bh:b<=n)(hn:n<=1000000)(bN:off<=1000000000)(bi:n<=cap)(bj:cap<=1000000000):
  aB aj 140 #[.slice (aC ⟨m,off,ag⟩) n cap,.int .i64 a,.int .i64 b,.func (.func g) #[] aF] w λe w'=>e=.returned (.tuple #[])/\S (breakPatterns d a b) w'/\ja base w w':=by
 have bO:(n:Int)<=1000000:=iE
 have u:=ae C;have bR:=C.enters;have bS:(n:Int)<=(cap:Int):=iE
 have bX:(cap:Int)<=1000000000:=iE
 have bk:=ae hS;obtain⟨L,bl⟩:=iC (b - a);have b0:(b:Int) - (a:Int)=(L:Int):=iE
 have b1:(L:Int)<=1000000:=iE
 have b2:(0:Int)<=(L:Int):=iE
 have b3:(a:Int)<=1000000:=iE
 have b4:(0:Int)<=(a:Int):=iE
 have b5:(b:Int)<=1000000:=iE
 have bm:=ae be;by_cases aL:8<=L
 ·have b6:(8:Int)<=(L:Int):=iE
  obtain⟨B,X⟩:=iC (L/4);obtain⟨F,aM⟩:=iC (B*2);obtain⟨jj,aR⟩:=iC (a+F);obtain⟨f,a0⟩:=iC (jj - 1);have b7:aQ (L:Int) 4=(B:Int):=by rw[<-X];rfl
  have b8:(L:Int)/4=(B:Int):=by rw[<-X];rfl
  have b9:(B:Int)*2=(F:Int):=iE
  have ca:(a:Int)+(F:Int)=(jj:Int):=iE
  have cb:(jj:Int) - 1=(f:Int):=iE
  have cc:(0:Int)<=(B:Int):=iE
  have cd:(B:Int)<=1000000:=iE
  have ce:(F:Int)<=2000000:=iE
  have cf:(0:Int)<=(F:Int):=iE
  have cg:(jj:Int)<=3000000:=iE
  have ch:(1:Int)<=(jj:Int):=iE
  obtain⟨M,O⟩:∃M:Nat,1<<<bitsLen L=M:=⟨_,rfl⟩;have bo:1<=M:=by rw[<-O,aJ];exact Nat.two_pow_pos _
  have bp:M<=2*L:=by rw[<-O,aJ];exact two_pow_bitsLen_le iE
  have a1:=ae (λw=>WY L iE w);rw[O]at a1
  have z:PLift (breakPatterns d a b=bpRest a L M f 3 0 (ay L,d)):=⟨by have h:=breakPatterns_eq d a L aL;rw[show a+L=b by omega,O,X,aM,aR,a0]at h;exact h⟩
  have ci:(1:Int)<=(M:Int):=iE
  have cj:(M:Int)<=2000000:=iE
  have p:=ae (show a+L<=n/\jj+1<a+L/\f+1=jj/\L<=1000000/\M<=2*L/\1<=M from⟨iE,iE,iE,iE,iE,iE⟩);have ck:IntKind.u64.wrap (L:Int)=L:=by rw[IntKind.wrap_u64];omega
  clear hS C bh hn bi bj bg O X aM aR a0 bo bp aL bl;rw[z.1];go_enter aP,aO
  go_upto_region 3 with fail
  have Y:PLift (base<=k/\w.heap.size<=k):=⟨bf,iE⟩;have Z:PLift (S d (w.alloc (.cells #[.int .u64 (L:Int)] 232))/\ja base w (w.alloc (.cells #[.int .u64 (L:Int)] 232))/\(w.alloc (.cells #[.int .u64 (L:Int)] 232)).heap[k]?=aC (.cells #[.int .u64 (L:Int)] 232)):=⟨bk.1 _,ja.alloc base w _,by subst ai;exact Go.Deep.blk_alloc_new w _⟩
  (try rw[ai])
  obtain⟨a2,a3⟩:=iC (w.alloc (.cells #[.int .u64 (L:Int)] 232));rw[a3]at Z⊢;clear a3 ai
  go_upto_region 5 with(go_at_call 162;refine(a1.1 _).mono ?_;rintro e cl ⟨rfl,rfl⟩)
  go_loopw [11] (λv wr=>∃(t:Nat) (r:UInt64) (c:Array Int) (it:Nat),v=.int .i64 (it:Nat)/\f+t=it/\t<=3/\S c wr/\ja base w wr/\wr.heap[k]?=aC (.cells #[.int .u64 (r.toNat:Int)] 232)/\bpRest a L M f (3 - t) t (r,c)=bpRest a L M f 3 0 (ay L,d)) (λv _=>f+4 - (intOf v).toNat)
  case atStart=>exact⟨0,ay L,d,f,by first|rfl|go_num,rfl,iG,Z.1.1,Z.1.2.1,by rw[show(ay L).toNat=L from by have:=p.1;simp;omega];exact Z.1.2.2,rfl⟩
  case round=>
   obtain⟨t,r,c,it,rfl,hit,a4,a5,a6,a7,a8⟩:=hrel;have D:=ae (iJ a5 (iJ a6 (iJ a7 a8)));have E:=ae (show f+t=it/\jj+1<a+L/\f+1=jj from⟨hit,p.1.2.1,p.1.2.2.1⟩);have cm:(it:Int)<=4000000:=(by have:=p.1;omega);have cn:(0:Int)<=(it:Int):=iE;clear a5 a6 a7 a8;by_cases ak:t<3
   ·have bq:(it:Int)<=(jj:Int)+1:=by have:=p.1;omega
    have K:=ae ak;clear hit a4 ak;obtain⟨N,aa⟩:∃N:Nat,r.toNat=N:=⟨_,rfl⟩;have al:N<18446744073709551616:=(by rw[<-aa];exact r.toNat_lt);obtain⟨R',ab⟩:∃R':Nat,xorNextN N=R':=⟨_,rfl⟩;have a9:R'<18446744073709551616:=(by rw[<-ab];exact xorNextN_lt N al);obtain⟨l,ac⟩:∃l:Nat,R'&&&(M - 1)=l:=⟨_,rfl⟩;have br:l<=M - 1:=(by rw[<-ac];exact Nat.and_le_right);have ba:(M:Int) - 1=((M - 1:Nat):Int):=by have:=p.1;omega
    have co:bits .and .u64 (R':Int) ((M:Int) - 1)=(l:Int):=by rw[ba,bits_and_u64_nat _ _ a9 (by have:=p.1;omega),ac]
    clear ba;have cp:(0:Int)<=(l:Int):=iE;have cq:(l:Int)<=2000000:=by have:=p.1;omega
    have ad:PLift (R'=(xorNext r).toNat/\l=(xorNext r).toNat&&&(M - 1)):=⟨by have e:R'=(xorNext r).toNat:=(by rw[<-ab,<-aa,xorNext_toNat]);exact⟨e,by rw[<-ac,e]⟩⟩
    have P:=D.1.2.2.1;rw[aa]at P
    have am:PLift (aB aj 163 #[.pointer (aC ⟨k,0,ag⟩)] wr λe w'=>e=.returned (.int .u64 (R':Int))/\w'=(wr.setCell ⟨k,0,ag⟩ (.int .u64 (R':Int))).drewN 3):=⟨by rw[<-ab];exact WW k 0 N al wr (Lib.cell_of_heap P 0) (Lib.frozen_of_heap P 0)⟩
    have s:PLift (S c ((wr.setCell ⟨k,0,ag⟩ (.int .u64 (R':Int))).drewN 3)/\ja base w ((wr.setCell ⟨k,0,ag⟩ (.int .u64 (R':Int))).drewN 3)/\((wr.setCell ⟨k,0,ag⟩ (.int .u64 (R':Int))).drewN 3).heap[k]?=aC (.cells #[.int .u64 (R':Int)] 232)):=⟨by have G:=u.1.box c wr k (.int .u64 (R':Int)) D.1.1 Y.1.1 bm.1;have H:=u.1.drew _ _ (u.1.drew _ _ (u.1.drew _ _ G));exact⟨H,(D.1.2.1.Xc k Y.1.2 _).drewN 3,count_set P _⟩⟩
    clear P aa ab ac al a9;obtain⟨j,bb⟩:=iC ((wr.setCell ⟨k,0,ag⟩ (.int .u64 (R':Int))).drewN 3);rw[bb]at am s;clear bb;have cr:l<2*L:=(by have:=p.1;omega);clear br;by_cases bc:L<=l
    ·have bs:(L:Int)<=(l:Int):=iE
     go_upto_region 8 with(go_at_call 163;refine am.1.mono ?_;rintro e w3 ⟨rfl,an⟩;obtain rfl:j=w3:=an.symm)
     obtain⟨o,Q⟩:=iC (l - L);have ao:(l:Int) - (L:Int)=(o:Int):=iE;obtain⟨q,R⟩:=iC (a+o);have bt:(a:Int)+(o:Int)=(q:Int):=iE;have T:q<n:=(by have:=p.1.1;omega);have U:it<n:=(by have:=p.1.1;have:=E.1;omega);have bv:(q:Int)<(n:Int):=iE;have bw:(it:Int)<(n:Int):=iE;have bx:(0:Int)<=(q:Int):=iE;have bA:(0:Int)<=(o:Int):=iE;have bB:(o:Int)<=2000000:=iE
     have ap:PLift (bpRest a L M f (3 - t) t (r,c)=bpRest a L M f (3 - (t+1)) (t+1) (xorNext r,swp c it q)):=⟨by have h:=bp_step a L M f t r c o K.1 (by rw[<-ad.1.2];rw[gY iE];exact Q);rw[show f+t=it from E.1.1,R]at h;exact h⟩
     obtain⟨x,hx⟩:=iC (c[it]! );obtain⟨y,hy⟩:=iC (c[q]! );have i:=ae (iJ hx (iJ hy (iJ U T)));have cs:=ao;clear hx hy U T bc R Q;have A:=u.1.row c j s.1.1;have I:=(A.2 it i.1.2.2.1).1;have J:=(A.2 q i.1.2.2.2).1;have aq:=(A.2 it i.1.2.2.1).2;have ar:=(A.2 q i.1.2.2.2).2;rw[i.1.1]at I;rw[i.1.2.1]at J;obtain⟨bE,av⟩:=CX (.int .i64 y) ⟨_,I⟩ J;clear A;have aw:((it:Nat):Int).toNat=it:=ah _;have aD:((q:Nat):Int).toNat=q:=ah _
     go_upto_region 10 with fail
     have aE:Tryz.prog.follows Departure.mixedOrders=af:=iF
     go_big_region_o
     clear aE
     have z:PLift (S (swp c it q) ((j.setCell ⟨m,off+it,ag⟩ (.int .i64 y)).setCell ⟨m,off+q,ag⟩ (.int .i64 x)).drew/\ja base j ((j.setCell ⟨m,off+it,ag⟩ (.int .i64 y)).setCell ⟨m,off+q,ag⟩ (.int .i64 x)).drew):=⟨by have G:=u.1.swap c j it q s.1.1 i.1.2.2.1 i.1.2.2.2;rw[i.1.1,i.1.2.1]at G;have H:=(u.1.lo c j s.1.1).1;exact⟨u.1.drew _ _ G,((ja.set j _ _ H).trans (ja.set _ _ _ H)).trans (ja.drew base _)⟩⟩
     obtain⟨V,W⟩:=iC (((j.setCell ⟨m,off+it,ag⟩ (.int .i64 y)).setCell ⟨m,off+q,ag⟩ (.int .i64 x)).drew);rw[W]at z⊢;clear W I J av aq ar aw aD;go_wp2;go_roundw
     case rel=>exact⟨t+1,xorNext r,swp c it q,it+1,by first|rfl|go_num,by have:=E.1.1;omega,by have:=K.1;omega,z.1.1,s.1.2.1.trans z.1.2,by rw[z.1.2.2 k Y.1.1 (aA.1 s.1.2.2).1,<-ad.1.1];exact s.1.2.2,ap.1.symm.trans D.1.2.2.2⟩
     case measure=>have:=E.1;have:=K.1;simp[intOf];omega
    ·have bs:¬(L:Int)<=(l:Int):=iE
     go_upto_region 8 with(go_at_call 163;refine am.1.mono ?_;rintro e w3 ⟨rfl,an⟩;obtain rfl:j=w3:=an.symm)
     obtain⟨o,Q⟩:=iC l;have ao:(l:Int)=(o:Int):=iE;obtain⟨q,R⟩:=iC (a+o);have bt:(a:Int)+(o:Int)=(q:Int):=iE;have T:q<n:=(by have:=p.1.1;omega);have U:it<n:=(by have:=p.1.1;have:=E.1;omega);have bv:(q:Int)<(n:Int):=iE;have bw:(it:Int)<(n:Int):=iE;have bx:(0:Int)<=(q:Int):=iE;have bA:(0:Int)<=(o:Int):=iE;have bB:(o:Int)<=2000000:=iE
     have ap:PLift (bpRest a L M f (3 - t) t (r,c)=bpRest a L M f (3 - (t+1)) (t+1) (xorNext r,swp c it q)):=⟨by have h:=bp_step a L M f t r c o K.1 (by rw[<-ad.1.2];rw[gZ iE];exact Q);rw[show f+t=it from E.1.1,R]at h;exact h⟩
     obtain⟨x,hx⟩:=iC (c[it]! );obtain⟨y,hy⟩:=iC (c[q]! );have i:=ae (iJ hx (iJ hy (iJ U T)));subst Q;clear hx hy U T bc R ao;have A:=u.1.row c j s.1.1;have I:=(A.2 it i.1.2.2.1).1;have J:=(A.2 q i.1.2.2.2).1;have aq:=(A.2 it i.1.2.2.1).2;have ar:=(A.2 q i.1.2.2.2).2;rw[i.1.1]at I;rw[i.1.2.1]at J;obtain⟨bE,av⟩:=CX (.int .i64 y) ⟨_,I⟩ J;clear A;have aw:((it:Nat):Int).toNat=it:=ah _;have aD:((q:Nat):Int).toNat=q:=ah _
     go_upto_region 10 with fail
     have aE:Tryz.prog.follows Departure.mixedOrders=af:=iF
     go_big_region_o
     clear aE
     have z:PLift (S (swp c it q) ((j.setCell ⟨m,off+it,ag⟩ (.int .i64 y)).setCell ⟨m,off+q,ag⟩ (.int .i64 x)).drew/\ja base j ((j.setCell ⟨m,off+it,ag⟩ (.int .i64 y)).setCell ⟨m,off+q,ag⟩ (.int .i64 x)).drew):=⟨by have G:=u.1.swap c j it q s.1.1 i.1.2.2.1 i.1.2.2.2;rw[i.1.1,i.1.2.1]at G;have H:=(u.1.lo c j s.1.1).1;exact⟨u.1.drew _ _ G,((ja.set j _ _ H).trans (ja.set _ _ _ H)).trans (ja.drew base _)⟩⟩
     obtain⟨V,W⟩:=iC (((j.setCell ⟨m,off+it,ag⟩ (.int .i64 y)).setCell ⟨m,off+q,ag⟩ (.int .i64 x)).drew);rw[W]at z⊢;clear W I J av aq ar aw aD;go_wp2;go_roundw
     case rel=>exact⟨t+1,xorNext r,swp c it q,it+1,by first|rfl|go_num,by have:=E.1.1;omega,by have:=K.1;omega,z.1.1,s.1.2.1.trans z.1.2,by rw[z.1.2.2 k Y.1.1 (aA.1 s.1.2.2).1,<-ad.1.1];exact s.1.2.2,ap.1.symm.trans D.1.2.2.2⟩
     case measure=>have:=E.1;have:=K.1;simp[intOf];omega
   ·have bq:¬(it:Int)<=(jj:Int)+1:=by have:=p.1;omega
    have bL:PLift (bpRest a L M f 3 0 (ay L,d)=c):=⟨by
     rw[<-D.1.2.2.2,show t=3 by omega]
     rfl⟩
    clear hit a4 ak;go_wp2;go_end0;exact⟨rfl,by rw[bL.1];exact D.1.1,D.1.2.1⟩
 ·exfalso;omega
theorem Xg {base c off n g:Nat}{f:Array aN}{j:Int->Int->Int}{k:Nat->Prop}{S:Array Int->ax->Prop}(C:lH base c off n g f j k S)(cap a b:Nat)(d:Array Int)(w:ax)(hS:S d w)(l:a<b)(m:b<=n)(s:¬8<=b - a)(hn:n<=1000000)(t:off<=1000000000)(o:n<=cap)(p:cap<=1000000000):
  aB aj 140 #[.slice (aC ⟨c,off,ag⟩) n cap,.int .i64 a,.int .i64 b,.func (.func g) #[] f] w λe w'=>e=.returned (.tuple #[])/\S (breakPatterns d a b) w'/\ja base w w':=by
 have u:(n:Int)<=1000000:=iE
 have v:(n:Int)<=(cap:Int):=iE
 have x:(cap:Int)<=1000000000:=iE
 have q:=ae hS;obtain⟨L,h⟩:=iC (b - a);have y:(b:Int) - (a:Int)=(L:Int):=iE
 have z:(L:Int)<=1000000:=iE
 have A:(0:Int)<=(L:Int):=iE
 have B:(a:Int)<=1000000:=iE
 have D:(0:Int)<=(a:Int):=iE
 have E:(b:Int)<=1000000:=iE
 have i:¬8<=L:=iE
 have F:¬(8:Int)<=(L:Int):=iE
 have r:=ae (Xd d a b L h i);clear hS m hn o p l i h;rw[r.1];go_enter aP,aO;go_wp2;go_end0;exact⟨rfl,q.1,ja.refl _ _⟩
theorem Xh {base f off n g:Nat}{i:Array aN}{r:Int->Int->Int}{S:Array Int->ax->Prop}(E:Ak base f off n g i r S)(cap a b:Nat)(d:Array Int)(w:ax)(hS:S d w)(j:a<b)(k:b<=n)(hn:n<=1000000)(l:off<=1000000000)(m:n<=cap)(p:cap<=1000000000):
  aB aj 140 #[.slice (aC ⟨f,off,ag⟩) n cap,.int .i64 a,.int .i64 b,.func (.func g) #[] i] w λe w'=>e=.returned (.tuple #[])/\S (breakPatterns d a b) w'/\ja base w w':=by
 by_cases q:8<=b - a
 ·obtain⟨x,s⟩:=E.ext
  obtain⟨t,u,v⟩:=s w.heap.size;exact(Xf t cap a b d w w.heap.size rfl rfl (E.c.lo d w hS).2 q (λo=>u d w o hS rfl) j k hn l m p).mono λ_ _ h=>⟨h.1,v _ _ h.2.1,h.2.2⟩
 ·exact Xg E.c cap a b d w hS j k q hn l m p
theorem Dc (x y:Nat):decide ((x:Int)≥(y:Int))=decide (x≥y):=iH
theorem Xi {h:Hint}(e:qw h=2):h=.decreasing:=by cases h<;>simp[qw]at e⊢
theorem KD (lt:Int->Int->Bool)(d:Array Int)(a b c:Nat)(i:a<b)(e:b<=d.size):a<=(partition lt d a b c).1 /\(partition lt d a b c).1 <b:=by rw[partition_fst];have h:=partLoop_spec lt a b _ (a+1) (b - 1) (swp d a c) (au _) iE iE iE (by rw[size_swp];exact e) (λt f g=>iE) (λt f g=>iE);exact⟨h.1,h.2.1⟩
theorem Xj (lt:Int->Int->Bool)(d:Array Int)(a b c:Nat)(i:a<b)(e:b<=d.size):a<(partitionEqual lt d a b c).1 /\(partitionEqual lt d a b c).1 <=b:=by unfold partitionEqual;have h:=partEqLoop_spec lt a b _ (a+1) (b - 1) (swp d a c) (au _) iE iE iE (by rw[size_swp];exact e) (λt f g=>iE) (λt f g=>iE);exact⟨h.1,h.2.1⟩
theorem Xk (lt:Int->Int->Bool)(d:Array Int)(a b limit:Nat)(wb wp:Bool)(f:a<b):a<=(rd lt d a b limit wb wp).pivot/\(rd lt d a b limit wb wp).pivot<b:=by
 have h:=choosePivot_holds lt (rd lt d a b limit wb wp).d1 a b f;rw[<-rd_c]at h;by_cases e:(rd lt d a b limit wb wp).c.2 =.decreasing
 ·rw[(rd_dec e).2.1];omega
 ·rw[(rd_not e).2.1];exact h
theorem Xl {base bE off n g:Nat}{bL:Array aN}{f:Int->Int->Int}{S:Array Int->ax->Prop}(E:Ak base bE off n g bL f S)(cap:Nat)(hn:n<=1000000)(O:off<=1000000000)(P:n<=cap)(Q:cap<=1000000000):
  ∀(N a b limit:Nat) (d:Array Int) (w:ax),S d w->b - a<N->a<=b->b<=n->limit<=1000000->
  aB aj 123 #[.slice (aC ⟨bE,off,ag⟩) n cap,.int .i64 a,.int .i64 b,.int .i64 limit,.func (.func g) #[] bL] w λe w'=>e=.returned (.tuple #[])/\S (pdq (ltOf f) d a b limit af af) w'/\ja base w w':=by
 have C:=E.c;intro N
 induction N with
 |zero=>intro _ _ _ _ _ _ h;exact absurd h (Nat.not_lt_zero _)
 |succ N am=>
  intro a b limit d w hS cz b8 cA cB;have cC:(n:Int)<=1000000:=iE
  have av:=ae C;have cD:=C.enters;have cE:(n:Int)<=(cap:Int):=iE
  have cF:(cap:Int)<=1000000000:=iE
  have b9:=ae hS;clear hS;go_enter Tryz.func123,Tryz.ntmps123
  go_upto_region 2 with fail
  go_loopw [1,2,3,10,11] (λaw aD bd ca cb wr=>∃(a' b' j:Nat) (wb wp:Bool) (o:Array Int),aw=.int .i64 (a':Nat)/\aD=.int .i64 (b':Nat)/\bd=.int .i64 (j:Nat)/\ca=.bool wb/\cb=.bool wp/\a'<=b'/\b'<=b/\b' - a'<=b - a/\j<=limit/\S o wr/\ja base w wr/\pdq (ltOf f) o a' b' j wb wp=pdq (ltOf f) d a b limit af af) (λaw aD _ _ _ _=>(intOf aD - intOf aw).toNat)
  case atStart=>exact⟨a,b,limit,af,af,d,rfl,rfl,rfl,rfl,rfl,b8,au _,au _,au _,b9.1,ja.refl _ _,rfl⟩
  case round=>
   obtain⟨a',b',j,wb,wp,o,rfl,rfl,rfl,rfl,rfl,be,bM,bf,bg,bN,bO,bR⟩:=hrel;have T:=ae (iJ bN bO);have Z:=ae bR;obtain⟨l,bh⟩:=iC (b' - a');obtain⟨an,aE⟩:=iC (l/8);have a4:PLift ((b' - a')/8=an):=⟨by rw[bh,aE]⟩;have cG:(b':Int) - (a':Int)=(l:Int):=iE;have cH:aQ (l:Int) 8=(an:Int):=(by rw[<-aE];rfl);have cI:(l:Int)/8=(an:Int):=(by rw[<-aE];rfl);have cJ:(0:Int)<=(an:Int):=iE;have cK:(0:Int)<=(l:Int):=iE;have cL:(l:Int)<=1000000:=iE;have cM:(a':Int)<=1000000:=iE;have cN:(b':Int)<=1000000:=iE;have cO:(0:Int)<=(a':Int):=iE;have cP:(j:Int)<=1000000:=iE;have cQ:(0:Int)<=(j:Int):=iE;clear bN bO bR;by_cases bS:l<=12
   ·have cc:(l:Int)<=12:=iE
    have bi:=ae (WB C cap a' b' o wr T.1.1 be iE hn O P Q);have bj:=ae (show pdq (ltOf f) d a b limit af af=insertionSort (ltOf f) o a' b' by rw[<-Z.1,pdq_small iE]);clear be bM bf bg bh aE bS am C
    go_wp2_with(go_at_call 138;refine bi.1.mono ?_;rintro e bX ⟨rfl,t⟩;have aa:=ae t;clear t)
    (try simp only[Exit.inBlock,Exit.then])
    refine aH (aI rfl _ _ _) rfl ?_;exact⟨rfl,by rw[bj.1];exact aa.1.1,T.1.2.trans aa.1.2⟩
   ·have cc:¬(l:Int)<=12:=iE
    by_cases aG:j=0
    ·subst aG
     have cd:(((0:Nat):Int)==0)=af:=rfl;have bi:=ae (WL C cap a' b' o wr T.1.1 iE iE hn O P Q);have bj:=ae (show pdq (ltOf f) d a b limit af af=heapSort (ltOf f) o a' b' by rw[<-Z.1,pdq_heap iE rfl]);clear be bM bf bg bh aE bS am C
     go_wp2_with(go_at_call 139;refine bi.1.mono ?_;rintro e bX ⟨rfl,t⟩;have aa:=ae t;clear t)
     (try simp only[Exit.inBlock,Exit.then])
     refine aH (aI rfl _ _ _) rfl ?_;exact⟨rfl,by rw[bj.1];exact aa.1.1,T.1.2.trans aa.1.2⟩
    ·have cd:((j:Int)==0)=az:=by rw[iy];omega
     have cR:¬((j:Int)=0):=iE;have a5:¬b' - a'<=12:=iE;obtain⟨R,hR⟩:=iC (rd (ltOf f) o a' b' j wb wp);have ab:=ae (Xk (ltOf f) o a' b' j wb wp iE);have L:=ae (show R.lim<=limit by rw[<-hR];exact Nat.le_trans rd_lim_le bg);have ao:=ae (λv z p t=>pdq_left (lt:=ltOf f) (d:=o) (a:=a') (b:=b') (limit:=j) (wb:=wb) (wp:=wp) a5 aG t v z p);have ap:=ae (λv z p t=>pdq_right (lt:=ltOf f) (d:=o) (a:=a') (b:=b') (limit:=j) (wb:=wb) (wp:=wp) a5 aG t v z p);have aL:=ae (λv z t=>pdq_eq (lt:=ltOf f) (d:=o) (a:=a') (b:=b') (limit:=j) (wb:=wb) (wp:=wp) a5 aG t v z);have bk:=ae (λt=>pdq_done (lt:=ltOf f) (d:=o) (a:=a') (b:=b') (limit:=j) (wb:=wb) (wp:=wp) a5 aG t);have bl:=ae (λh:wb=az=>show(rd (ltOf f) o a' b' j wb wp).d1=breakPatterns o a' b'/\(rd (ltOf f) o a' b' j wb wp).lim=j - 1 by subst h;exact rd_false);have bm:=ae (λh:wb=af=>show(rd (ltOf f) o a' b' j wb wp).d1=o/\(rd (ltOf f) o a' b' j wb wp).lim=j by subst h;exact rd_true);have a6:=ae (show(rd (ltOf f) o a' b' j wb wp).c=choosePivot (ltOf f) (rd (ltOf f) o a' b' j wb wp).d1 a' b' from rd_c);have bo:=ae (λh=>rd_dec (lt:=ltOf f) (d:=o) (a:=a') (b:=b') (limit:=j) (wb:=wb) (wp:=wp) h);have bp:=ae (λh=>rd_not (lt:=ltOf f) (d:=o) (a:=a') (b:=b') (limit:=j) (wb:=wb) (wp:=wp) h);have a7:=ae (λh=>rd_pi_yes (lt:=ltOf f) (d:=o) (a:=a') (b:=b') (limit:=j) (wb:=wb) (wp:=wp) h);have a8:=ae (λh=>rd_pi_no (lt:=ltOf f) (d:=o) (a:=a') (b:=b') (limit:=j) (wb:=wb) (wp:=wp) h);have a9:=ae (choosePivot_holds (ltOf f) R.d1 a' b' iE);rw[hR]at ab ao ap aL bk bl bm a6 bo bp a7 a8;clear hR;have cS:=ae (show a'+12<b'/\b'<=n/\b' - a'<=b - a from⟨iE,iE,bf⟩)
     go_upto_if 39 with fail
     go_cut [3]from 21 (λbd wc=>bd=.int .i64 (R.lim:Nat)/\S R.d1 wc/\ja base w wc)
     case first=>
      cases wb with
      |false=>
       have ce:=ae (Xh E cap a' b' o wr T.1.1 iE iE hn O P Q);have r:=ae (bl.1 rfl)
       go_wp2_with(go_at_call 140;refine ce.1.mono ?_;rintro e bX ⟨rfl,t⟩;have aa:=ae t;clear t)
       go_meet
       case rel=>
        refine⟨?_,by rw[r.1.1];exact aa.1.1,T.1.2.trans aa.1.2⟩;rw[r.1.2];show Value.int .i64 ((j:Int) - 1)=Value.int .i64 ((j - 1:Nat):Int)
        congr 1
        omega
      |true=>
       have r:=ae (bm.1 rfl);go_wp2
       go_meet
       case rel=>exact⟨by rw[r.1.2],by rw[r.1.1];exact T.1.1,T.1.2⟩
     case rest=>
      obtain⟨rfl,ac,ad⟩:=hcut;have bq:=ae (iJ ac ad);have b0:=ae (Xb E cap a' b' R.d1 wc bq.1.1 iE iE hn O P Q);rw[<-a6.1]at b0;have cT:(R.lim:Int)<=1000000:=(by have:=L.1;omega);clear ac ad T bl bm
      go_upto_if 56 with(go_at_call 141;refine b0.1.mono ?_;rintro e cf ⟨rfl,v⟩;have br:=ae v;clear v)
      have aM:=ae (iJ br.1.1 (bq.1.2.trans br.1.2));clear br bq;rw[<-a6.1]at a9
      go_cut [13,14]from 21 (λaw aD wc=>aw=.int .i64 (R.pivot:Nat)/\aD=.int .i64 (qw R.hint)/\S R.d2 wc/\ja base w wc)
      case first=>
       by_cases ba:R.c.2 =.decreasing
       ·have b1:qw R.c.2 =2:=by rw[ba];rfl
        have r:=ae (bo.1 ba);have aR:=ae (WJ C cap a' b' R.d1 cf aM.1.1 iE iE hn O P Q);have cU:(R.c.1 :Int)<=1000000:=(by have:=a9.1;omega);have cV:(0:Int)<=(R.c.1 :Int):=iE
        go_wp2_with(go_at_call 142;refine aR.1.mono ?_;rintro e w3 ⟨rfl,z⟩;have b2:=ae z;clear z)
        go_meet
        case rel=>
         refine⟨?_,by rw[r.1.2.2];rfl,by rw[r.1.1];exact b2.1.1,aM.1.2.trans b2.1.2⟩;rw[r.1.2.1]
         congr 1
         have:=a9.1;omega
       ·have b1:¬(qw R.c.2 =2):=λh=>ba (Xi h)
        have cW:(qw R.c.2 ==2)=az:=(by rw[iy];exact b1);have r:=ae (bp.1 ba);go_wp2
        go_meet
        case rel=>exact⟨by rw[r.1.2.1],by rw[r.1.2.2],by rw[r.1.1];exact aM.1.1,aM.1.2⟩
      case rest=>
       obtain⟨rfl,rfl,ac,ad⟩:=hcut;have aq:=ae (iJ ac ad);clear ac ad aM a6 bo bp a9
       go_upto_region 15 with fail
       go_cut [14,75]from 21 (λcg ch bb=>cg=.int .i64 (qw R.hint)/\ch=.bool (wb&&wp&&decide (R.hint=.increasing))/\bb=wc)
       case first=>
        cases wb<;>cases wp<;>cases bs:R.hint<;>
         (
          have ci:=ig qw bs;simp only[qw]at ci
          go_wp2_with fail
          go_meet
          exact⟨by simp[bs,qw],by simp[bs,qw],rfl⟩)
       case rest=>
        obtain⟨rfl,rfl,rfl⟩:=hcut
        go_upto_if 75 with fail
        go_cut []from 21 (λbb=>R.pi.2 =az/\S R.pi.1 bb/\ja base w bb)
        case first=>
         cases b3:(wb&&wp&&decide (R.hint=.increasing))with
         |false=>
          have r:=ae (a8.1 b3);go_wp2
          go_meet
          case rel=>exact⟨by rw[r.1],by rw[r.1];exact aq.1.1,aq.1.2⟩
         |true=>
          have r:=ae (a7.1 b3);have a0:=ae (WT C cap a' b' R.d2 wc aq.1.1 iE iE hn O P Q);rw[<-r.1]at a0;clear ao ap aL a8 a7;cases U:R.pi.2 with
          |true=>
           rw[U]at a0
           go_wp2_with(go_at_call 143;refine a0.1.mono ?_;rintro e cj ⟨rfl,p⟩;have B:=ae p;clear p)
           (try simp only[Exit.inBlock,Exit.then])
           refine aH (aI rfl _ _ _) rfl ?_;exact⟨rfl,by rw[<-Z.1,bk.1 U];exact B.1.1,aq.1.2.trans B.1.2⟩
          |false=>
           rw[U]at a0
           go_wp2_with(go_at_call 143;refine a0.1.mono ?_;rintro e cj ⟨rfl,p⟩;have B:=ae p;clear p)
           go_meet
           exact⟨U,B.1.1,aq.1.2.trans B.1.2⟩
        case rest=>
         obtain⟨U,ac,ad⟩:=hcut;have G:=ae (iJ ac ad);have ao:=ae (λv z p=>ao.1 v z p U);have ap:=ae (λv z p=>ap.1 v z p U);have aL:=ae (λv z=>aL.1 v z U);clear U ac ad aq a8 a7 bk;have b4:R.pivot<n:=(by have:=ab.1;omega);have cX:(R.pivot:Int)<(n:Int):=iE;have cY:(0:Int)<=(R.pivot:Int):=iE;have c0:(R.pivot:Int)<=1000000:=iE;have b5:=ae b4;clear b4;by_cases bt:a'=0
         ·have ck:decide ((a':Int)>0)=az:=iw iE
          have cl:decide ((0:Int)<(a':Int))=az:=iw iE;have cm:¬(0:Int)<(a':Int):=iE;have cn:decide (0<a')=az:=iw iE;have co:¬0<a':=iE;have al:PLift ((decide (a'>0)&&!ltOf f R.pi.1[a' - 1]! R.pi.1[R.pivot]!)=az):=⟨by simp[bt]⟩;clear bt
          go_upto_region 17 with fail
          refine av.1.reg (aF:=?_) (d:=R.pi.1) iF ?_ ?_;rotate_left 1
          ·intro ρ bc
           haveI:=jD.inh (base:=base) (S:=S) (d:=R.pi.1) ρ
           repeat(go_big_quiet_step(fail))
           apply aK;exact rfl
          intro V ai;have H:=ae (ai G.1.1);clear ai;have D:=ae (iJ H.1.1 (G.1.2.trans H.1.2));clear H G;obtain⟨mid,W,s,hx⟩:∃mid W s,partition (ltOf f) R.pi.1 a' b' R.pivot=(mid,W,s):=⟨_,_,_,rfl⟩;have I:=ae (KA C cap a' b' R.pivot R.pi.1 V D.1.1 ab.1.1 ab.1.2 iE hn O P Q);have A:=KD (ltOf f) R.pi.1 a' b' R.pivot iE (by rw[(C.row _ _ D.1.1).1];omega);rw[hx]at I A;simp only at I A;have u:=ae hx;have i:=ae A;obtain⟨ll,a1⟩:=iC (mid - a');obtain⟨rl,a2⟩:=iC (b' - mid);have cp:(mid:Int) - (a':Int)=(ll:Int):=iE;have cq:(b':Int) - (mid:Int)=(rl:Int):=iE;have cr:(mid:Int)<=1000000:=iE;have cs:(ll:Int)<=1000000:=iE;have ct:(rl:Int)<=1000000:=iE;have X:=ae (iJ a1 a2);clear hx A a1 a2
          go_upto_region 24 with(go_at_call 145;refine I.1.mono ?_;rintro e ar ⟨rfl,ak⟩;have F:=ae ak;clear ak)
          by_cases p:ll<rl
          ·have bv:(ll:Int)<(rl:Int):=iE
           have Y:=ae (am a' mid R.lim s ar F.1.1 (by have:=i.1;omega) (by have:=i.1;omega) (by have:=i.1;omega) (by have:=L.1;omega));have B:=ae p;clear p
           go_wp2_with(go_at_call 123;refine Y.1.mono ?_;rintro e bw ⟨rfl,J⟩;have K:=ae J;clear J)
           go_roundw
           case rel=>exact⟨mid+1,b',R.lim,decide (mid - a'≥(b' - a')/8),W,pdq (ltOf f) s a' mid R.lim af af,by first|rfl|go_num,rfl,rfl,by(rw[X.1.1,a4.1])<;>exact ig Value.bool (Dc _ _),rfl,by have:=i.1;omega,iE,by have:=i.1;omega,by have:=L.1;omega,K.1.1,((D.1.2.trans F.1.2)).trans K.1.2,by rw[<-Z.1,ao.1 al.1 (by rw[u.1];exact i.1) (by rw[u.1];have:=B.1;have:=X.1;show mid - a'<b' - mid;omega),u.1]⟩
           case measure=>have:=i.1;simp[intOf];omega
          ·have bv:¬(ll:Int)<(rl:Int):=iE
           have Y:=ae (am (mid+1) b' R.lim s ar F.1.1 (by have:=i.1;omega) (by have:=i.1;omega) iE (by have:=L.1;omega));rw[show((mid+1:Nat):Int)=(mid:Int)+1 by omega]at Y;have B:=ae p;clear p
           go_wp2_with(go_at_call 123;refine Y.1.mono ?_;rintro e bw ⟨rfl,J⟩;have K:=ae J;clear J)
           go_roundw
           case rel=>exact⟨a',mid,R.lim,decide (b' - mid≥(b' - a')/8),W,pdq (ltOf f) s (mid+1) b' R.lim af af,rfl,rfl,rfl,by(rw[X.1.2,a4.1])<;>exact ig Value.bool (Dc _ _),rfl,by have:=i.1;omega,by have:=i.1;omega,by have:=i.1;omega,by have:=L.1;omega,K.1.1,((D.1.2.trans F.1.2)).trans K.1.2,by rw[<-Z.1,ap.1 al.1 (by rw[u.1];exact i.1) (by rw[u.1];have:=B.1;have:=X.1;show ¬mid - a'<b' - mid;omega),u.1]⟩
           case measure=>have:=i.1;simp[intOf];omega
         ·obtain⟨a3,b6⟩:=iC (a' - 1)
          have c1:(a':Int) - 1=(a3:Int):=iE;have c2:(0:Int)<=(a3:Int):=iE;have b7:a3<n:=iE;have c3:(a3:Int)<(n:Int):=iE;have ck:decide ((a':Int)>0)=af:=iq iE;have cl:decide ((0:Int)<(a':Int))=af:=iq iE;have cm:(0:Int)<(a':Int):=iE;have cn:decide (0<a')=af:=iq iE;have co:0<a':=iE;have bx:=ae (iJ b6 (show 0<a' by omega));obtain⟨x,hx⟩:=iC (R.pi.1[a3]! );obtain⟨y,hy⟩:=iC (R.pi.1[R.pivot]! );have M:=ae (iJ hx (iJ hy b7));clear hx hy b7 b6 bt;by_cases hv:f x y<0
          ·have hd:decide (f x y<0)=af:=iq hv
           have bA:(!decide (f x y<0))=az:=(by rw[hd];rfl);have cv:¬0<=f x y:=iE
           have al:PLift ((decide (a'>0)&&!ltOf f R.pi.1[a' - 1]! R.pi.1[R.pivot]!)=az):=⟨by rw[bx.1.1,M.1.1,M.1.2.1];show(decide (a'>0)&&!decide (f x y<0))=az;rw[bA,Bool.and_false]⟩
           go_upto_region 17 with fail
           have aR:=ae (av.1.lg G.1.1 M.1.2.2 b5.1 M.1.1 M.1.2.1);refine av.1.reg (aF:=?_) (d:=R.pi.1) iF ?_ ?_;rotate_left 1
           ·intro ρ bc
            obtain⟨cw,cx,cy,h⟩:=aR.1 ρ bc;have bB:=ae h;clear h
            repeat(go_big_quiet_step((go_at_fn g;exact Mix.iZ.calls (λ_ _ _ h k=>h.trans k) (bB.1 _))))
            apply aK;exact rfl
           intro V ai;have H:=ae (ai G.1.1);clear ai;have D:=ae (iJ H.1.1 (G.1.2.trans H.1.2));clear H G;obtain⟨mid,W,s,hx⟩:∃mid W s,partition (ltOf f) R.pi.1 a' b' R.pivot=(mid,W,s):=⟨_,_,_,rfl⟩;have I:=ae (KA C cap a' b' R.pivot R.pi.1 V D.1.1 ab.1.1 ab.1.2 iE hn O P Q);have A:=KD (ltOf f) R.pi.1 a' b' R.pivot iE (by rw[(C.row _ _ D.1.1).1];omega);rw[hx]at I A;simp only at I A;have u:=ae hx;have i:=ae A;obtain⟨ll,a1⟩:=iC (mid - a');obtain⟨rl,a2⟩:=iC (b' - mid);have cp:(mid:Int) - (a':Int)=(ll:Int):=iE;have cq:(b':Int) - (mid:Int)=(rl:Int):=iE;have cr:(mid:Int)<=1000000:=iE;have cs:(ll:Int)<=1000000:=iE;have ct:(rl:Int)<=1000000:=iE;have X:=ae (iJ a1 a2);clear hx A a1 a2
           go_upto_region 24 with(go_at_call 145;refine I.1.mono ?_;rintro e ar ⟨rfl,ak⟩;have F:=ae ak;clear ak)
           by_cases p:ll<rl
           ·have bv:(ll:Int)<(rl:Int):=iE
            have Y:=ae (am a' mid R.lim s ar F.1.1 (by have:=i.1;omega) (by have:=i.1;omega) (by have:=i.1;omega) (by have:=L.1;omega));have B:=ae p;clear p
            go_wp2_with(go_at_call 123;refine Y.1.mono ?_;rintro e bw ⟨rfl,J⟩;have K:=ae J;clear J)
            go_roundw
            case rel=>exact⟨mid+1,b',R.lim,decide (mid - a'≥(b' - a')/8),W,pdq (ltOf f) s a' mid R.lim af af,by first|rfl|go_num,rfl,rfl,by(rw[X.1.1,a4.1])<;>exact ig Value.bool (Dc _ _),rfl,by have:=i.1;omega,iE,by have:=i.1;omega,by have:=L.1;omega,K.1.1,((D.1.2.trans F.1.2)).trans K.1.2,by rw[<-Z.1,ao.1 al.1 (by rw[u.1];exact i.1) (by rw[u.1];have:=B.1;have:=X.1;show mid - a'<b' - mid;omega),u.1]⟩
            case measure=>have:=i.1;simp[intOf];omega
           ·have bv:¬(ll:Int)<(rl:Int):=iE
            have Y:=ae (am (mid+1) b' R.lim s ar F.1.1 (by have:=i.1;omega) (by have:=i.1;omega) iE (by have:=L.1;omega));rw[show((mid+1:Nat):Int)=(mid:Int)+1 by omega]at Y;have B:=ae p;clear p
            go_wp2_with(go_at_call 123;refine Y.1.mono ?_;rintro e bw ⟨rfl,J⟩;have K:=ae J;clear J)
            go_roundw
            case rel=>exact⟨a',mid,R.lim,decide (b' - mid≥(b' - a')/8),W,pdq (ltOf f) s (mid+1) b' R.lim af af,rfl,rfl,rfl,by(rw[X.1.2,a4.1])<;>exact ig Value.bool (Dc _ _),rfl,by have:=i.1;omega,by have:=i.1;omega,by have:=i.1;omega,by have:=L.1;omega,K.1.1,((D.1.2.trans F.1.2)).trans K.1.2,by rw[<-Z.1,ap.1 al.1 (by rw[u.1];exact i.1) (by rw[u.1];have:=B.1;have:=X.1;show ¬mid - a'<b' - mid;omega),u.1]⟩
            case measure=>have:=i.1;simp[intOf];omega
          ·have hd:decide (f x y<0)=az:=iw hv
           have bA:(!decide (f x y<0))=af:=(by rw[hd];rfl);have cv:0<=f x y:=iE
           have al:PLift ((decide (a'>0)&&!ltOf f R.pi.1[a' - 1]! R.pi.1[R.pivot]!)=af):=⟨by rw[bx.1.1,M.1.1,M.1.2.1];show(decide (a'>0)&&!decide (f x y<0))=af;rw[bA,Bool.and_true];exact iq bx.1.2⟩
           go_upto_region 17 with fail
           have aR:=ae (av.1.lg G.1.1 M.1.2.2 b5.1 M.1.1 M.1.2.1);refine av.1.reg (aF:=?_) (d:=R.pi.1) iF ?_ ?_;rotate_left 1
           ·intro ρ bc
            obtain⟨cw,cx,cy,h⟩:=aR.1 ρ bc;have bB:=ae h;clear h
            repeat(go_big_quiet_step((go_at_fn g;exact Mix.iZ.calls (λ_ _ _ h k=>h.trans k) (bB.1 _))))
            apply aK;exact rfl
           intro V ai;have H:=ae (ai G.1.1);clear ai;have D:=ae (iJ H.1.1 (G.1.2.trans H.1.2));clear H G;obtain⟨mid,s,hx⟩:∃mid s,partitionEqual (ltOf f) R.pi.1 a' b' R.pivot=(mid,s):=⟨_,_,rfl⟩;have I:=ae (WM C cap a' b' R.pivot R.pi.1 V D.1.1 ab.1.1 ab.1.2 iE hn O P Q);have A:=Xj (ltOf f) R.pi.1 a' b' R.pivot iE (by rw[(C.row _ _ D.1.1).1];omega);rw[hx]at I A;simp only at I A;have u:=ae hx;have i:=ae A;clear hx A
           go_wp2_with(go_at_call 144;refine I.1.mono ?_;rintro e ar ⟨rfl,ak⟩;have F:=ae ak;clear ak)
           go_roundw
           case rel=>exact⟨mid,b',R.lim,wb,wp,s,rfl,rfl,rfl,rfl,rfl,i.1.2,iE,by have:=i.1;omega,by have:=L.1;omega,F.1.1,D.1.2.trans F.1.2,by rw[<-Z.1,aL.1 al.1 (by rw[u.1];exact i.1),u.1]⟩
           case measure=>have:=i.1;simp[intOf];omega
def Df (lt:Int->Int->Bool)(d:Array Int)(n:Nat):Array Int:=pdq lt d 0 n (bitsLen n) af af
theorem Xm {base a off n g:Nat}{b:Array aN}{f:Int->Int->Int}{S:Array Int->ax->Prop}(E:Ak base a off n g b f S)(cap:Nat)(d:Array Int)(w:ax)(hS:S d w)(hn:n<=1000000)(j:off<=1000000000)(k:n<=cap)(l:cap<=1000000000):
  aB aj 109 #[.slice (aC ⟨a,off,ag⟩) n cap,.func (.func g) #[] b] w λe w'=>e=.returned (.tuple #[])/\S (Df (ltOf f) d n) w'/\ja base w w':=by
 have q:(n:Int)<=1000000:=iE
 have C:=E.c;have r:=C.enters;have s:(n:Int)<=(cap:Int):=iE
 have t:(cap:Int)<=1000000000:=iE
 have m:∀w,aB aj 124 #[.int .u64 (n:Int)] w λe w'=>e=.returned (.int .i64 (bitsLen n:Nat))/\w'=w:=λw=>by
  have h:=Tryz.bits_Len (n:Int) w iE iE
  rwa [ah,bitLen_eq _ iE]at h
 have u:bitsLen n<=62:=(bitsLen_le_iff n 62).2 iE;have wr:IntKind.u64.wrap (n:Int)=n:=by simp[IntKind.wrap,IntKind.bits,IntKind.signed];omega
 have o:PLift (aB aj 123 #[.slice (aC ⟨a,off,ag⟩) n cap,.int .i64 0,.int .i64 n,.int .i64 (bitsLen n:Nat),.func (.func g) #[] b] w λe w'=>e=.returned (.tuple #[])/\S (Df (ltOf f) d n) w'/\ja base w w'):=⟨by have h:=Xl E cap hn j k l (n+1) 0 n (bitsLen n) d w hS iE iE (au _) iE;exact h⟩
 go_enter Tryz.func109,Tryz.ntmps109
 go_wp2_with(first
  |(go_at_call 124;refine(m _).mono ?_;rintro e w' ⟨rfl,rfl⟩)
  |(go_at_call 123;refine o.1.mono ?_;rintro e v ⟨rfl,i⟩;have p:=ae i;clear i))
 go_end0;exact⟨rfl,p.1⟩
