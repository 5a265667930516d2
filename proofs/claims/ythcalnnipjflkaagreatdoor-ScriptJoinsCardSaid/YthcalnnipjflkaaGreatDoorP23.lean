import Derived.Test.YthcalnnipjflkaaGreatDoorP18
import Derived.Sort.Walk7a
import Derived.Deep.Heap
import Derived.Laws.Bits64
import Derived.Sort.Walk7
open PLift renaming up -> ae
open Option renaming none -> af, some -> au
open Go renaming World -> ag, bits_xor_u64_nat -> aC, Calls -> aH, Value -> aI
open Int renaming toNat_natCast -> ah, tdiv -> aN
open Go.Proofs.Tryz renaming prog -> aj, ntmps140 -> aJ, func140 -> aK
open Go.Lib renaming cell_of_heap -> ax
open Go.Departure renaming mixedOrders -> ay
open UInt64 renaming ofNat -> az
open Array renaming getElem?_eq_some_iff -> aA
open Go.IntKind renaming wrap_u64 -> aB
set_option linter.all false
set_option maxHeartbeats 16000000
set_option maxRecDepth 1000000
namespace Go.Proofs.YthcalnnipjflkaaGreatDoor
open Go.RowKit Go.Sort
open Go.Lib hiding intOf
theorem WW (a b X:Nat)(f:X<18446744073709551616)(w:ag)(hc:w.cell? ⟨a,b,af⟩=au (.int .u64 X))(hf:w.frozen? ⟨a,b,af⟩=false):
  aH aj 163 #[.pointer (au ⟨a,b,af⟩)] w λe w'=>e=.returned (.int .u64 (xorNextN X:Nat))/\w'=(w.setCell ⟨a,b,af⟩ (.int .u64 (xorNextN X:Nat))).drewN 3:=by
 have i:Tryz.prog.follows ay=true:=iF
 obtain⟨A,hA⟩:∃A:Nat,A=X ^^^ (X*8192%18446744073709551616):=⟨_,rfl⟩;obtain⟨B,c⟩:∃B:Nat,B=A ^^^ (A/128):=⟨_,rfl⟩;obtain⟨C,d⟩:∃C:Nat,C=B ^^^ (B*131072%18446744073709551616):=⟨_,rfl⟩;have g:A<18446744073709551616:=by rw[hA];exact Nat.xor_lt_two_pow (n:=64) iE iE
 have h:B<18446744073709551616:=by rw[c];exact Nat.xor_lt_two_pow (n:=64) iE iE
 have e1:bits .xor .u64 (X:Int) (IntKind.u64.wrap ((X:Int)*8192))=(A:Int):=by rw[aB,show((X:Int)*8192%18446744073709551616)=((X*8192%18446744073709551616:Nat):Int) by omega,aC _ _ f iE,hA]
 have j:bits .xor .u64 (A:Int) ((A:Int)/128)=(B:Int):=by rw[show((A:Int)/128)=((A/128:Nat):Int) by omega,aC _ _ g iE,c]
 have e3:bits .xor .u64 (B:Int) (IntKind.u64.wrap ((B:Int)*131072))=(C:Int):=by rw[aB,show((B:Int)*131072%18446744073709551616)=((B*131072%18446744073709551616:Nat):Int) by omega,aC _ _ h iE,d]
 have hv:xorNextN X=C:=by unfold xorNextN;simp only[];rw[<-hA,<-c,<-d]
 rw[hv];clear hA c d hv;have k:∀v v',(w.setCell ⟨a,b,af⟩ v).setCell ⟨a,b,af⟩ v'=w.setCell ⟨a,b,af⟩ v':=setCell_setCell w a b;go_enter Tryz.func163,Tryz.ntmps163;go_wp2
 go_region_o
 all_goals go_wp2
 all_goals go_region_o
 all_goals go_wp2
 all_goals go_region_o
 all_goals go_wp2
 go_ret;exact⟨rfl,rfl⟩
theorem WY (n:Nat)(hn:n<4611686018427387904)(w:ag):
  aH aj 162 #[.int .i64 n] w λe w'=>e=.returned (.int .u64 ((1<<<bitsLen n:Nat):Int))/\w'=w:=by
 have a:∀w,aH aj 124 #[.int .u64 (n:Int)] w λe w'=>e=.returned (.int .i64 (bitsLen n:Nat))/\w'=w:=λw=>by
  have h:=Tryz.bits_Len (n:Int) w iE iE
  rwa [ah,bitLen_eq _ iE]at h
 have b:bitsLen n<=62:=(bitsLen_le_iff n 62).2 iE;have hp:=wrap_two_pow (bitsLen n) b;have wr:IntKind.u64.wrap (n:Int)=n:=by simp[IntKind.wrap,IntKind.bits,IntKind.signed];omega
 go_enter Tryz.func162,Tryz.ntmps162
 go_wp2_with(go_at_call 124;refine(a _).mono ?_;rintro e w' ⟨rfl,rfl⟩)
 go_ret;exact⟨rfl,rfl⟩
def qw:Hint->Int
 |.unknown=>0
 |.increasing=>1
 |.decreasing=>2
theorem oZ.kb {base p:Nat}{w W w':ag}(h:oZ base p W w')(k:ja base w W)(hp:p=w.heap.size):ja base w w':=
 ⟨Nat.le_trans k.1 h.1,λq a b=>(h.2 q a (Nat.lt_of_lt_of_le b k.1) iE).trans (k.2 q a b)⟩
theorem ja.alloc (base:Nat)(W:ag)(o:Obj):ja base W (W.alloc o):=
 ⟨by rw[World.size_alloc];omega,λq _ h=>Go.Deep.blk_alloc_lt W o q h⟩
def nin (lt:Int->Int->Bool)(d:Array Int)(i j k:Nat):Nat×Nat:=
 median lt d (medianAdjacent lt d i 0).1 (medianAdjacent lt d j (medianAdjacent lt d i 0).2).1 (medianAdjacent lt d k (medianAdjacent lt d j (medianAdjacent lt d i 0).2).2).1 (medianAdjacent lt d k (medianAdjacent lt d j (medianAdjacent lt d i 0).2).2).2
theorem WZ (lt:Int->Int->Bool)(d:Array Int)(a b l c i j k:Nat)(e:b - a=l)(f:l/4=c)(hi:a+c=i)(g:a+c*2=j)(h:a+c*3=k):
  choosePivot lt d a b=(match(if l≥8 then(if l≥50 then nin lt d i j k else median lt d i j k 0)else(j,0))with|(p,s)=>(p,if s=0 then .increasing else if s=12 then .decreasing else .unknown)):=by
 subst hi;subst g;subst h;subst f;subst e;unfold choosePivot nin;simp only[Nat.mul_one]
theorem Xa {base a1 off n g:Nat}{a2:Array aI}{f:Int->Int->Int}{Q:Nat->Prop}{S:Array Int->ag->Prop}(C:lH base a1 off n g a2 f Q S)(cap a b:Nat)(d:Array Int)(w:ag)(q:Nat)(Z:w.heap.size=q)(be:Q q)(bf:base<=q)(hS:∀o,S d (w.alloc o))(a3:a<b)(aa:b<=n)(hn:n<=1000000)(a4:off<=1000000000)(ad:n<=cap)(ai:cap<=1000000000):
  aH aj 141 #[.slice (au ⟨a1,off,af⟩) n cap,.int .i64 a,.int .i64 b,.func (.func g) #[] a2] w λe w'=>e=.returned (.tuple #[.int .i64 (choosePivot (ltOf f) d a b).1,.int .i64 (qw (choosePivot (ltOf f) d a b).2)])/\S d w'/\ja base w w':=by
 obtain⟨l,ak⟩:=iC (b - a);obtain⟨s,R⟩:=iC (l/4);obtain⟨B,al⟩:=iC (s*2);obtain⟨D,am⟩:=iC (s*3);obtain⟨i,hi⟩:=iC (a+s);obtain⟨j,an⟩:=iC (a+B);obtain⟨k,E⟩:=iC (a+D);have J:=ae (WZ (ltOf f) d a b l s i j k ak R hi (by rw[al];exact an) (by rw[am];exact E));have bl:(b:Int) - (a:Int)=(l:Int):=iE
 have bm:aN (l:Int) 4=(s:Int):=by rw[<-R];rfl
 have bo:(l:Int)/4=(s:Int):=by rw[<-R];rfl
 have bp:(s:Int)*2=(B:Int):=iE
 have bq:(s:Int)*3=(D:Int):=iE
 have br:(a:Int)+(s:Int)=(i:Int):=iE
 have bs:(a:Int)+(B:Int)=(j:Int):=iE
 have bt:(a:Int)+(D:Int)=(k:Int):=iE
 have bv:(0:Int)<=(l:Int):=iE
 have bw:(l:Int)<=1000000:=iE
 have bx:(0:Int)<=(s:Int):=iE
 have bA:(s:Int)<=1000000:=iE
 have bB:(B:Int)<=2000000:=iE
 have bE:(D:Int)<=3000000:=iE
 have bL:(0:Int)<=(B:Int):=iE
 have bM:(0:Int)<=(D:Int):=iE
 have bN:(i:Int)<=2000000:=iE
 have bO:(j:Int)<=3000000:=iE
 have bR:(k:Int)<=4000000:=iE
 have bS:(0:Int)<=(a:Int):=iE
 have bX:(a:Int)<=1000000:=iE
 have b0:(b:Int)<=1000000:=iE
 have b1:(n:Int)<=1000000:=iE
 have b2:(n:Int)<=(cap:Int):=iE
 have b3:(cap:Int)<=1000000000:=iE
 have h:=ae (And.intro ak (And.intro R (And.intro al (And.intro am (And.intro hi (And.intro an (And.intro E (And.intro a3 (And.intro aa hn)))))))));have b4:=ae C;have bg:=ae hS;have T:=ae (λ(p:Nat) (hp:base<=p/\Q p) (W:ag) (a b c k:Nat) (hS:S d W) (ha:a<n) (aa:b<n) (hc:c<n) (E:k<=900) (ao:W.heap[p]?=au (.cells #[.int .i64 (k:Nat)] 3))=>KC C cap a b c p k d W hS ha aa hc hp E ao hn a4 ad ai);have K:=ae (λ(p:Nat) (hp:base<=p/\Q p) (W:ag) (a k:Nat) (hS:S d W) (bh:1<=a) (ha:a+1<n) (E:k<=900) (ao:W.heap[p]?=au (.cells #[.int .i64 (k:Nat)] 3))=>WV C cap a p k d W hS bh ha hp E ao hn a4 ad ai);clear ak R al am hi an E a3 aa hn hS C ad ai;go_enter Tryz.func141,Tryz.ntmps141
 go_upto_region 3 with fail
 have U:PLift (base<=q/\Q q):=⟨bf,be⟩;have a5:=ae Z;have v:PLift (S d (w.alloc (.cells #[.int .i64 0] 3))/\ja base w (w.alloc (.cells #[.int .i64 0] 3))/\(w.alloc (.cells #[.int .i64 0] 3)).heap[q]?=au (.cells #[.int .i64 (0:Nat)] 3)):=⟨bg.1 _,ja.alloc base w _,by subst Z;exact Go.Deep.blk_alloc_new w _⟩
 (try rw[Z])
 obtain⟨V,a6⟩:=iC (w.alloc (.cells #[.int .i64 0] 3));rw[a6]at v⊢;clear a6 Z;by_cases L:8<=l
 ·have bi:(8:Int)<=(l:Int):=iE
  by_cases ab:50<=l
  ·have bj:(50:Int)<=(l:Int):=iE
   have m:=ae (J.1.trans (by rw[gY L,gY ab]));clear J;have ap:=ae (K.1 q U.1 V i 0 v.1.1 (by have:=h.1;omega) (by have:=h.1;omega) iG v.1.2.2);have y:=ae (Ap (ltOf f) d (i - 1) i (i+1) 0 n (by have:=h.1;omega) (by have:=h.1;omega) (by have:=h.1;omega));have e1:medianAdjacent (ltOf f) d i 0=median (ltOf f) d (i - 1) i (i+1) 0:=rfl;rw[<-e1]at y;unfold nin at m;obtain⟨r1,a7⟩:=iC (medianAdjacent (ltOf f) d i 0);obtain⟨aq,M⟩:=r1;rw[a7]at ap y m;simp only at ap y m;clear e1 a7;have F:=ae (Ap (ltOf f) d (j - 1) j (j+1) M n (by have:=h.1;omega) (by have:=h.1;omega) (by have:=h.1;omega));have a8:medianAdjacent (ltOf f) d j M=median (ltOf f) d (j - 1) j (j+1) M:=rfl;rw[<-a8]at F;have ar:PLift (∀W,S d W->W.heap[q]?=au (.cells #[.int .i64 (M:Nat)] 3)->_):=⟨λW z A=>K.1 q U.1 W j M z (by have:=h.1;omega) (by have:=h.1;omega) (by have:=y.1.2;omega) A⟩;obtain⟨r2,a9⟩:=iC (medianAdjacent (ltOf f) d j M);obtain⟨av,N⟩:=r2;rw[a9]at ar F m;simp only at ar F m;clear a8 a9;have O:=ae (Ap (ltOf f) d (k - 1) k (k+1) N n (by have:=h.1;omega) (by have:=h.1;omega) (by have:=h.1;omega));have e3:medianAdjacent (ltOf f) d k N=median (ltOf f) d (k - 1) k (k+1) N:=rfl;rw[<-e3]at O;have aw:PLift (∀W,S d W->W.heap[q]?=au (.cells #[.int .i64 (N:Nat)] 3)->_):=⟨λW z A=>K.1 q U.1 W k N z (by have:=h.1;omega) (by have:=h.1;omega) (by have:=y.1.2;have:=F.1.2;omega) A⟩;obtain⟨bk,ba⟩:=iC (medianAdjacent (ltOf f) d k N);obtain⟨aD,ac⟩:=bk;rw[ba]at aw O m;simp only at aw O m;clear e3 ba;have G:PLift (∀W,S d W->W.heap[q]?=au (.cells #[.int .i64 (ac:Nat)] 3)->_):=⟨λW z A=>T.1 q U.1 W aq av aD ac z y.1.1 F.1.1 O.1.1 (by have:=y.1.2;have:=F.1.2;have:=O.1.2;omega) A⟩;have H:=ae (Ap (ltOf f) d aq av aD ac n y.1.1 F.1.1 O.1.1);obtain⟨aE,X⟩:=iC (median (ltOf f) d aq av aD ac);obtain⟨pv,t⟩:=aE;rw[X]at G m H;simp only at G m H;clear X T K L ab
   go_upto_region 9 with(go_at_call 164;refine ap.1.mono ?_;rintro e b5 ⟨rfl,z⟩;have aF:=ae z;clear z)
   go_upto_region 10 with(go_at_call 164;refine(ar.1 _ aF.1.1 aF.1.2.2).mono ?_;rintro e b6 ⟨rfl,A⟩;have aG:=ae A;clear A)
   go_upto_region 11 with(go_at_call 164;refine(aw.1 _ aG.1.1 aG.1.2.2).mono ?_;rintro e w3 ⟨rfl,bb⟩;have aL:=ae bb;clear bb)
   go_upto_region 12 with(go_at_call 165;refine(G.1 _ aL.1.1 aL.1.2.2).mono ?_;rintro e aM ⟨rfl,Y⟩;have x:=ae Y;clear Y)
   have bc:aM.cell? ⟨q,0,af⟩=au (.int .i64 (t:Nat)):=ax x.1.2.2 0;have P:=ae ((((aF.1.2.1.trans aG.1.2.1).trans aL.1.2.1).trans x.1.2.1).kb v.1.2.1 a5.1.symm);by_cases I:t=0
   ·subst I
    have u:=ae (show choosePivot (ltOf f) d a b=(pv,.increasing)from m.1);have aR:(((0:Nat):Int)==0)=true:=rfl;go_wp2;go_ret2;rw[u.1];exact⟨rfl,x.1.1,P.1⟩
   ·have aR:((t:Int)==0)=false:=by rw[iy];omega
    by_cases a0:t=12
    ·subst a0
     have u:=ae (show choosePivot (ltOf f) d a b=(pv,.decreasing)from m.1);have bd:(((12:Nat):Int)==12)=true:=rfl;go_wp2;go_ret2;rw[u.1];exact⟨rfl,x.1.1,P.1⟩
    ·have bd:((t:Int)==12)=false:=by rw[iy];omega
     have u:=ae (show choosePivot (ltOf f) d a b=(pv,.unknown)from m.1.trans (by simp only[gZ I,gZ a0]));clear I a0;go_wp2;go_ret2;rw[u.1];exact⟨rfl,x.1.1,P.1⟩
  ·have bj:¬(50:Int)<=(l:Int):=iE
   have m:=ae (J.1.trans (by rw[gY L,gZ ab]));clear J;have G:=ae (T.1 q U.1 V i j k 0 v.1.1 (by have:=h.1;omega) (by have:=h.1;omega) (by have:=h.1;omega) iG v.1.2.2);obtain⟨aE,X⟩:=iC (median (ltOf f) d i j k 0);obtain⟨pv,t⟩:=aE;have H:=ae (Ap (ltOf f) d i j k 0 n (by have:=h.1;omega) (by have:=h.1;omega) (by have:=h.1;omega));rw[X]at G m H;simp only at G m H;clear X T K L ab
   go_upto_region 12 with(go_at_call 165;refine G.1.mono ?_;rintro e aM ⟨rfl,Y⟩;have x:=ae Y;clear Y)
   have bc:aM.cell? ⟨q,0,af⟩=au (.int .i64 (t:Nat)):=ax x.1.2.2 0;have P:=ae (x.1.2.1.kb v.1.2.1 a5.1.symm);have bd:((t:Int)==12)=false:=(by rw[iy];have:=H.1.2;omega);by_cases I:t=0
   ·subst I
    have u:=ae (show choosePivot (ltOf f) d a b=(pv,.increasing)from m.1);have aR:(((0:Nat):Int)==0)=true:=rfl;go_wp2;go_ret2;rw[u.1];exact⟨rfl,x.1.1,P.1⟩
   ·have aR:((t:Int)==0)=false:=by rw[iy];omega
    have u:=ae (show choosePivot (ltOf f) d a b=(pv,.unknown)from m.1.trans (by simp only[gZ I,gZ (show ¬t=12 by have:=H.1.2;omega)]));clear I;go_wp2;go_ret2;rw[u.1];exact⟨rfl,x.1.1,P.1⟩
 ·have bi:¬(8:Int)<=(l:Int):=iE
  have m:=ae (J.1.trans (by rw[gZ L]));clear J T K L;have bc:V.cell? ⟨q,0,af⟩=au (.int .i64 0):=ax v.1.2.2 0;have u:=ae (show choosePivot (ltOf f) d a b=(j,.increasing)from m.1);go_wp2;go_ret2;rw[u.1];exact⟨rfl,v.1.1,v.1.2.1⟩
theorem Xb {base i off n g:Nat}{j:Array aI}{f:Int->Int->Int}{S:Array Int->ag->Prop}(E:Ak base i off n g j f S)(cap a b:Nat)(d:Array Int)(w:ag)(hS:S d w)(k:a<b)(l:b<=n)(hn:n<=1000000)(m:off<=1000000000)(p:n<=cap)(q:cap<=1000000000):
  aH aj 141 #[.slice (au ⟨i,off,af⟩) n cap,.int .i64 a,.int .i64 b,.func (.func g) #[] j] w λe w'=>e=.returned (.tuple #[.int .i64 (choosePivot (ltOf f) d a b).1,.int .i64 (qw (choosePivot (ltOf f) d a b).2)])/\S d w'/\ja base w w':=by
 obtain⟨v,r⟩:=E.ext;obtain⟨s,t,u⟩:=r w.heap.size;exact(Xa s cap a b d w w.heap.size rfl rfl (E.c.lo d w hS).2 (λo=>t d w o hS rfl) k l hn m p q).mono λ_ _ h=>⟨h.1,u _ _ h.2.1,h.2.2⟩
theorem ja.Xc {base:Nat}{w W:ag}(h:ja base w W)(p:Nat)(hp:w.heap.size<=p)(v:aI):ja base w (W.setCell ⟨p,0,af⟩ v):=
 ⟨by simp[World.setCell];exact h.1,λq a b=>by rw[Go.Deep.blk_setCell_other W ⟨p,0,af⟩ v q (by show q≠p;omega)];exact h.2 q a b⟩
theorem ja.drewN {base:Nat}{w W:ag}(h:ja base w W)(k:Nat):ja base w (W.drewN k):=⟨h.1,h.2⟩
theorem Xd (d:Array Int)(a b L:Nat)(c:b - a=L)(h:¬8<=L):breakPatterns d a b=d:=by unfold breakPatterns;simp only[c];rw[gZ h]
theorem Xf {base m off n g:Nat}{aF:Array aI}{bd:Int->Int->Int}{aG:Nat->Prop}{S:Array Int->ag->Prop}(C:lH base m off n g aF bd aG S)(cap a b:Nat)(d:Array Int)(w:ag)(k:Nat)(ai:w.heap.size=k)(be:aG k)(bf:base<=k)(bM:8<=b - a)(hS:∀o,S d (w.alloc o))(bg:a<b)(bh:b<=n)(hn:n<=1000000)(bN:off<=1000000000)(bi:n<=cap)(bj:cap<=1000000000):
  aH aj 140 #[.slice (au ⟨m,off,af⟩) n cap,.int .i64 a,.int .i64 b,.func (.func g) #[] aF] w λe w'=>e=.returned (.tuple #[])/\S (breakPatterns d a b) w'/\ja base w w':=by
 have bO:(n:Int)<=1000000:=iE
 have u:=ae C;have bR:=C.enters;have bS:(n:Int)<=(cap:Int):=iE
 have bX:(cap:Int)<=1000000000:=iE
 have bk:=ae hS;obtain⟨L,bl⟩:=iC (b - a);have b0:(b:Int) - (a:Int)=(L:Int):=iE
 have b1:(L:Int)<=1000000:=iE
 have b2:(0:Int)<=(L:Int):=iE
 have b3:(a:Int)<=1000000:=iE
 have b4:(0:Int)<=(a:Int):=iE
 have b5:(b:Int)<=1000000:=iE
 have bm:=ae be;by_cases aL:8<=L
 ·have b6:(8:Int)<=(L:Int):=iE
  obtain⟨B,X⟩:=iC (L/4);obtain⟨F,aM⟩:=iC (B*2);obtain⟨jj,aR⟩:=iC (a+F);obtain⟨f,a0⟩:=iC (jj - 1);have b7:aN (L:Int) 4=(B:Int):=by rw[<-X];rfl
  have b8:(L:Int)/4=(B:Int):=by rw[<-X];rfl
  have b9:(B:Int)*2=(F:Int):=iE
  have ca:(a:Int)+(F:Int)=(jj:Int):=iE
  have cb:(jj:Int) - 1=(f:Int):=iE
  have cc:(0:Int)<=(B:Int):=iE
  have cd:(B:Int)<=1000000:=iE
  have ce:(F:Int)<=2000000:=iE
  have cf:(0:Int)<=(F:Int):=iE
  have cg:(jj:Int)<=3000000:=iE
  have ch:(1:Int)<=(jj:Int):=iE
  obtain⟨M,O⟩:∃M:Nat,1<<<bitsLen L=M:=⟨_,rfl⟩;have bo:1<=M:=by rw[<-O,Nat.one_shiftLeft];exact Nat.two_pow_pos _
  have bp:M<=2*L:=by rw[<-O,Nat.one_shiftLeft];exact two_pow_bitsLen_le iE
  have a1:=ae (λw=>WY L iE w);rw[O]at a1
  have z:PLift (breakPatterns d a b=bpRest a L M f 3 0 (az L,d)):=⟨by have h:=breakPatterns_eq d a L aL;rw[show a+L=b by omega,O,X,aM,aR,a0]at h;exact h⟩
  have ci:(1:Int)<=(M:Int):=iE
  have cj:(M:Int)<=2000000:=iE
  have p:=ae (show a+L<=n/\jj+1<a+L/\f+1=jj/\L<=1000000/\M<=2*L/\1<=M from⟨iE,iE,iE,iE,iE,iE⟩);have ck:IntKind.u64.wrap (L:Int)=L:=by rw[aB];omega
  clear hS C bh hn bi bj bg O X aM aR a0 bo bp aL bl;rw[z.1];go_enter aK,aJ
  go_upto_region 3 with fail
  have Y:PLift (base<=k/\w.heap.size<=k):=⟨bf,iE⟩;have Z:PLift (S d (w.alloc (.cells #[.int .u64 (L:Int)] 232))/\ja base w (w.alloc (.cells #[.int .u64 (L:Int)] 232))/\(w.alloc (.cells #[.int .u64 (L:Int)] 232)).heap[k]?=au (.cells #[.int .u64 (L:Int)] 232)):=⟨bk.1 _,ja.alloc base w _,by subst ai;exact Go.Deep.blk_alloc_new w _⟩
  (try rw[ai])
  obtain⟨a2,a3⟩:=iC (w.alloc (.cells #[.int .u64 (L:Int)] 232));rw[a3]at Z⊢;clear a3 ai
  go_upto_region 5 with(go_at_call 162;refine(a1.1 _).mono ?_;rintro e cl ⟨rfl,rfl⟩)
  go_loopw [11] (λv wr=>∃(t:Nat) (r:UInt64) (c:Array Int) (it:Nat),v=.int .i64 (it:Nat)/\f+t=it/\t<=3/\S c wr/\ja base w wr/\wr.heap[k]?=au (.cells #[.int .u64 (r.toNat:Int)] 232)/\bpRest a L M f (3 - t) t (r,c)=bpRest a L M f 3 0 (az L,d)) (λv _=>f+4 - (intOf v).toNat)
  case atStart=>exact⟨0,az L,d,f,by first|rfl|go_num,rfl,iG,Z.1.1,Z.1.2.1,by rw[show(az L).toNat=L from by have:=p.1;simp;omega];exact Z.1.2.2,rfl⟩
  case round=>
   obtain⟨t,r,c,it,rfl,hit,a4,a5,a6,a7,a8⟩:=hrel;have D:=ae (And.intro a5 (And.intro a6 (And.intro a7 a8)));have E:=ae (show f+t=it/\jj+1<a+L/\f+1=jj from⟨hit,p.1.2.1,p.1.2.2.1⟩);have cm:(it:Int)<=4000000:=(by have:=p.1;omega);have cn:(0:Int)<=(it:Int):=iE;clear a5 a6 a7 a8;by_cases ak:t<3
   ·have bq:(it:Int)<=(jj:Int)+1:=by have:=p.1;omega
    have K:=ae ak;clear hit a4 ak;obtain⟨N,aa⟩:∃N:Nat,r.toNat=N:=⟨_,rfl⟩;have al:N<18446744073709551616:=(by rw[<-aa];exact r.toNat_lt);obtain⟨R',ab⟩:∃R':Nat,xorNextN N=R':=⟨_,rfl⟩;have a9:R'<18446744073709551616:=(by rw[<-ab];exact xorNextN_lt N al);obtain⟨l,ac⟩:∃l:Nat,R'&&&(M - 1)=l:=⟨_,rfl⟩;have br:l<=M - 1:=(by rw[<-ac];exact Nat.and_le_right);have ba:(M:Int) - 1=((M - 1:Nat):Int):=by have:=p.1;omega
    have co:bits .and .u64 (R':Int) ((M:Int) - 1)=(l:Int):=by rw[ba,bits_and_u64_nat _ _ a9 (by have:=p.1;omega),ac]
    clear ba;have cp:(0:Int)<=(l:Int):=iE;have cq:(l:Int)<=2000000:=by have:=p.1;omega
    have ad:PLift (R'=(xorNext r).toNat/\l=(xorNext r).toNat&&&(M - 1)):=⟨by have e:R'=(xorNext r).toNat:=(by rw[<-ab,<-aa,xorNext_toNat]);exact⟨e,by rw[<-ac,e]⟩⟩
    have P:=D.1.2.2.1;rw[aa]at P
    have am:PLift (aH aj 163 #[.pointer (au ⟨k,0,af⟩)] wr λe w'=>e=.returned (.int .u64 (R':Int))/\w'=(wr.setCell ⟨k,0,af⟩ (.int .u64 (R':Int))).drewN 3):=⟨by rw[<-ab];exact WW k 0 N al wr (ax P 0) (Lib.frozen_of_heap P 0)⟩
    have s:PLift (S c ((wr.setCell ⟨k,0,af⟩ (.int .u64 (R':Int))).drewN 3)/\ja base w ((wr.setCell ⟨k,0,af⟩ (.int .u64 (R':Int))).drewN 3)/\((wr.setCell ⟨k,0,af⟩ (.int .u64 (R':Int))).drewN 3).heap[k]?=au (.cells #[.int .u64 (R':Int)] 232)):=⟨by have G:=u.1.box c wr k (.int .u64 (R':Int)) D.1.1 Y.1.1 bm.1;have H:=u.1.drew _ _ (u.1.drew _ _ (u.1.drew _ _ G));exact⟨H,(D.1.2.1.Xc k Y.1.2 _).drewN 3,count_set P _⟩⟩
    clear P aa ab ac al a9;obtain⟨j,bb⟩:=iC ((wr.setCell ⟨k,0,af⟩ (.int .u64 (R':Int))).drewN 3);rw[bb]at am s;clear bb;have cr:l<2*L:=(by have:=p.1;omega);clear br;by_cases bc:L<=l
    ·have bs:(L:Int)<=(l:Int):=iE
     go_upto_region 8 with(go_at_call 163;refine am.1.mono ?_;rintro e w3 ⟨rfl,an⟩;obtain rfl:j=w3:=an.symm)
     obtain⟨o,Q⟩:=iC (l - L);have ao:(l:Int) - (L:Int)=(o:Int):=iE;obtain⟨q,R⟩:=iC (a+o);have bt:(a:Int)+(o:Int)=(q:Int):=iE;have T:q<n:=(by have:=p.1.1;omega);have U:it<n:=(by have:=p.1.1;have:=E.1;omega);have bv:(q:Int)<(n:Int):=iE;have bw:(it:Int)<(n:Int):=iE;have bx:(0:Int)<=(q:Int):=iE;have bA:(0:Int)<=(o:Int):=iE;have bB:(o:Int)<=2000000:=iE
     have ap:PLift (bpRest a L M f (3 - t) t (r,c)=bpRest a L M f (3 - (t+1)) (t+1) (xorNext r,swp c it q)):=⟨by have h:=bp_step a L M f t r c o K.1 (by rw[<-ad.1.2];rw[gY iE];exact Q);rw[show f+t=it from E.1.1,R]at h;exact h⟩
     obtain⟨x,hx⟩:=iC (c[it]! );obtain⟨y,hy⟩:=iC (c[q]! );have i:=ae (And.intro hx (And.intro hy (And.intro U T)));have cs:=ao;clear hx hy U T bc R Q;have A:=u.1.row c j s.1.1;have I:=(A.2 it i.1.2.2.1).1;have J:=(A.2 q i.1.2.2.2).1;have aq:=(A.2 it i.1.2.2.1).2;have ar:=(A.2 q i.1.2.2.2).2;rw[i.1.1]at I;rw[i.1.2.1]at J;obtain⟨bE,av⟩:=CX (.int .i64 y) ⟨_,I⟩ J;clear A;have aw:((it:Nat):Int).toNat=it:=ah _;have aD:((q:Nat):Int).toNat=q:=ah _
     go_upto_region 10 with fail
     have aE:Tryz.prog.follows ay=true:=iF
     go_big_region_o
     clear aE
     have z:PLift (S (swp c it q) ((j.setCell ⟨m,off+it,af⟩ (.int .i64 y)).setCell ⟨m,off+q,af⟩ (.int .i64 x)).drew/\ja base j ((j.setCell ⟨m,off+it,af⟩ (.int .i64 y)).setCell ⟨m,off+q,af⟩ (.int .i64 x)).drew):=⟨by have G:=u.1.swap c j it q s.1.1 i.1.2.2.1 i.1.2.2.2;rw[i.1.1,i.1.2.1]at G;have H:=(u.1.lo c j s.1.1).1;exact⟨u.1.drew _ _ G,((ja.set j _ _ H).trans (ja.set _ _ _ H)).trans (ja.drew base _)⟩⟩
     obtain⟨V,W⟩:=iC (((j.setCell ⟨m,off+it,af⟩ (.int .i64 y)).setCell ⟨m,off+q,af⟩ (.int .i64 x)).drew);rw[W]at z⊢;clear W I J av aq ar aw aD;go_wp2;go_roundw
     case rel=>exact⟨t+1,xorNext r,swp c it q,it+1,by first|rfl|go_num,by have:=E.1.1;omega,by have:=K.1;omega,z.1.1,s.1.2.1.trans z.1.2,by rw[z.1.2.2 k Y.1.1 (aA.1 s.1.2.2).1,<-ad.1.1];exact s.1.2.2,ap.1.symm.trans D.1.2.2.2⟩
     case measure=>have:=E.1;have:=K.1;simp[intOf];omega
    ·have bs:¬(L:Int)<=(l:Int):=iE
     go_upto_region 8 with(go_at_call 163;refine am.1.mono ?_;rintro e w3 ⟨rfl,an⟩;obtain rfl:j=w3:=an.symm)
     obtain⟨o,Q⟩:=iC l;have ao:(l:Int)=(o:Int):=iE;obtain⟨q,R⟩:=iC (a+o);have bt:(a:Int)+(o:Int)=(q:Int):=iE;have T:q<n:=(by have:=p.1.1;omega);have U:it<n:=(by have:=p.1.1;have:=E.1;omega);have bv:(q:Int)<(n:Int):=iE;have bw:(it:Int)<(n:Int):=iE;have bx:(0:Int)<=(q:Int):=iE;have bA:(0:Int)<=(o:Int):=iE;have bB:(o:Int)<=2000000:=iE
     have ap:PLift (bpRest a L M f (3 - t) t (r,c)=bpRest a L M f (3 - (t+1)) (t+1) (xorNext r,swp c it q)):=⟨by have h:=bp_step a L M f t r c o K.1 (by rw[<-ad.1.2];rw[gZ iE];exact Q);rw[show f+t=it from E.1.1,R]at h;exact h⟩
     obtain⟨x,hx⟩:=iC (c[it]! );obtain⟨y,hy⟩:=iC (c[q]! );have i:=ae (And.intro hx (And.intro hy (And.intro U T)));subst Q;clear hx hy U T bc R ao;have A:=u.1.row c j s.1.1;have I:=(A.2 it i.1.2.2.1).1;have J:=(A.2 q i.1.2.2.2).1;have aq:=(A.2 it i.1.2.2.1).2;have ar:=(A.2 q i.1.2.2.2).2;rw[i.1.1]at I;rw[i.1.2.1]at J;obtain⟨bE,av⟩:=CX (.int .i64 y) ⟨_,I⟩ J;clear A;have aw:((it:Nat):Int).toNat=it:=ah _;have aD:((q:Nat):Int).toNat=q:=ah _
     go_upto_region 10 with fail
     have aE:Tryz.prog.follows ay=true:=iF
     go_big_region_o
     clear aE
     have z:PLift (S (swp c it q) ((j.setCell ⟨m,off+it,af⟩ (.int .i64 y)).setCell ⟨m,off+q,af⟩ (.int .i64 x)).drew/\ja base j ((j.setCell ⟨m,off+it,af⟩ (.int .i64 y)).setCell ⟨m,off+q,af⟩ (.int .i64 x)).drew):=⟨by have G:=u.1.swap c j it q s.1.1 i.1.2.2.1 i.1.2.2.2;rw[i.1.1,i.1.2.1]at G;have H:=(u.1.lo c j s.1.1).1;exact⟨u.1.drew _ _ G,((ja.set j _ _ H).trans (ja.set _ _ _ H)).trans (ja.drew base _)⟩⟩
     obtain⟨V,W⟩:=iC (((j.setCell ⟨m,off+it,af⟩ (.int .i64 y)).setCell ⟨m,off+q,af⟩ (.int .i64 x)).drew);rw[W]at z⊢;clear W I J av aq ar aw aD;go_wp2;go_roundw
     case rel=>exact⟨t+1,xorNext r,swp c it q,it+1,by first|rfl|go_num,by have:=E.1.1;omega,by have:=K.1;omega,z.1.1,s.1.2.1.trans z.1.2,by rw[z.1.2.2 k Y.1.1 (aA.1 s.1.2.2).1,<-ad.1.1];exact s.1.2.2,ap.1.symm.trans D.1.2.2.2⟩
     case measure=>have:=E.1;have:=K.1;simp[intOf];omega
   ·have bq:¬(it:Int)<=(jj:Int)+1:=by have:=p.1;omega
    have bL:PLift (bpRest a L M f 3 0 (az L,d)=c):=⟨by
     rw[<-D.1.2.2.2,show t=3 by omega]
     rfl⟩
    clear hit a4 ak;go_wp2;go_end0;exact⟨rfl,by rw[bL.1];exact D.1.1,D.1.2.1⟩
 ·exfalso;omega
theorem Xg {base c off n g:Nat}{f:Array aI}{j:Int->Int->Int}{k:Nat->Prop}{S:Array Int->ag->Prop}(C:lH base c off n g f j k S)(cap a b:Nat)(d:Array Int)(w:ag)(hS:S d w)(l:a<b)(m:b<=n)(s:¬8<=b - a)(hn:n<=1000000)(t:off<=1000000000)(o:n<=cap)(p:cap<=1000000000):
  aH aj 140 #[.slice (au ⟨c,off,af⟩) n cap,.int .i64 a,.int .i64 b,.func (.func g) #[] f] w λe w'=>e=.returned (.tuple #[])/\S (breakPatterns d a b) w'/\ja base w w':=by
 have u:(n:Int)<=1000000:=iE
 have v:(n:Int)<=(cap:Int):=iE
 have x:(cap:Int)<=1000000000:=iE
 have q:=ae hS;obtain⟨L,h⟩:=iC (b - a);have y:(b:Int) - (a:Int)=(L:Int):=iE
 have z:(L:Int)<=1000000:=iE
 have A:(0:Int)<=(L:Int):=iE
 have B:(a:Int)<=1000000:=iE
 have D:(0:Int)<=(a:Int):=iE
 have E:(b:Int)<=1000000:=iE
 have i:¬8<=L:=iE
 have F:¬(8:Int)<=(L:Int):=iE
 have r:=ae (Xd d a b L h i);clear hS m hn o p l i h;rw[r.1];go_enter aK,aJ;go_wp2;go_end0;exact⟨rfl,q.1,ja.refl _ _⟩
theorem Xh {base f off n g:Nat}{i:Array aI}{r:Int->Int->Int}{S:Array Int->ag->Prop}(E:Ak base f off n g i r S)(cap a b:Nat)(d:Array Int)(w:ag)(hS:S d w)(j:a<b)(k:b<=n)(hn:n<=1000000)(l:off<=1000000000)(m:n<=cap)(p:cap<=1000000000):
  aH aj 140 #[.slice (au ⟨f,off,af⟩) n cap,.int .i64 a,.int .i64 b,.func (.func g) #[] i] w λe w'=>e=.returned (.tuple #[])/\S (breakPatterns d a b) w'/\ja base w w':=by
 by_cases q:8<=b - a
 ·obtain⟨x,s⟩:=E.ext
  obtain⟨t,u,v⟩:=s w.heap.size;exact(Xf t cap a b d w w.heap.size rfl rfl (E.c.lo d w hS).2 q (λo=>u d w o hS rfl) j k hn l m p).mono λ_ _ h=>⟨h.1,v _ _ h.2.1,h.2.2⟩
 ·exact Xg E.c cap a b d w hS j k q hn l m p
end Go.Proofs.YthcalnnipjflkaaGreatDoor
