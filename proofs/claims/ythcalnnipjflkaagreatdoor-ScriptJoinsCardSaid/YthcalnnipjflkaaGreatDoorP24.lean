import Derived.Test.YthcalnnipjflkaaGreatDoorP17
import Derived.Sort.WalkA14
import Derived.Sort.LotD1
open PLift renaming up -> ae
open Bool renaming true -> af, false -> ag, eq_false_iff -> ay
open Go.RowKit.Below renaming refl -> ah
open Go.Proofs.Tryz renaming ntmps168 -> aj, func168 -> au, ntmps181 -> az, prog -> aA, func181 -> aC
open Ieee.Format renaming nearest -> ax
open Go renaming World -> aB, Calls -> aO
open Go.Lib renaming trimPrefix -> aH, parseUintB -> aN, hasPrefix -> aT
open Nat renaming lt_of_le_of_lt -> aI, and_le_left -> aS
open List renaming size_toArray -> aJ, length_drop -> aQ
open Ordering renaming eq -> aK, gt -> aP, lt -> aU
set_option linter.all false
set_option maxHeartbeats 16000000
set_option maxRecDepth 100000
namespace Go.Proofs.YthcalnnipjflkaaGreatDoor
open Go.RowKit Go.Sort
open Go.Lib hiding intOf
def wY (m:Nat)(e:Int):Bool:=decide (m%2=1)&&(decide (bitsLen m<=53)&&(decide (-1074<=e)&&(decide (e<=1023)&&decide (e+bitsLen m<=1024))))
theorem Pq {m:Nat}{e:Int}(h:wY m e=af):m<9007199254740992/\ -1074<=e/\e<=1023:=by unfold wY at h;simp only[Bool.and_eq_true,decide_eq_true_eq]at h;exact⟨(bitsLen_le_iff m 53).1 h.2.1,h.2.2.1,h.2.2.2.1⟩
theorem fits_any (m:Nat)(hm:m<18446744073709551616)(e:Int)(w:aB):
  aO aA 181 #[.int .u64 m,.int .i64 e] w λr w'=>r=.returned (.bool (wY m e))/\w'=w:=by
 have b:∀w,aO aA 147 #[.int .u64 (m:Int)] w λe w'=>e=.returned (.int .i64 (bitsLen m:Nat))/\w'=w:=λw=>by
  have h:=Tryz.bits_Len64 (m:Int) w iE iE
  rwa [Int.toNat_natCast,bitLen_eq _ iE]at h
 have l:bitsLen m<=64:=(bitsLen_le_iff m 64).2 hm;obtain⟨n,hn⟩:=iC (bitsLen m);have a:=ae (show wY m e=(decide (m%2=1)&&(decide (n<=53)&&(decide (-1074<=e)&&(decide (e<=1023)&&decide (e+n<=1024))))) by unfold wY;rw[hn]);rw[hn]at b l;have o:Int.tmod (m:Int) 2=((m%2:Nat):Int):=rfl;have q:((m:Int)%2)=((m%2:Nat):Int):=iE
 obtain⟨p,hp⟩:=iC (m%2);rw[hp]at o q a;by_cases s:p=1
 ·subst s
  by_cases c:n<=53
  ·have i:(n:Int)<=53:=iE
   have t:decide ((n:Int)<=53)=af:=iq i;by_cases d: -1074<=e
   ·have f:decide (-1074<=e)=af:=iq d
    have u:decide (e≥ -1074)=af:=iq d;by_cases k:e<=1023
    ·have j:decide (e<=1023)=af:=iq k
     rw[iq c,f,j]at a;go_enter aC,az
     go_wp2_with(go_at_call 147;refine(b _).mono ?_;rintro e g ⟨rfl,rfl⟩)
     go_ret;exact⟨by rw[a.1];simp,rfl⟩
    ·have j:decide (e<=1023)=ag:=iw k
     rw[iq c,f,j]at a;go_enter aC,az
     go_wp2_with(go_at_call 147;refine(b _).mono ?_;rintro e g ⟨rfl,rfl⟩)
     go_ret;exact⟨by rw[a.1];rfl,rfl⟩
   ·have f:decide (-1074<=e)=ag:=iw d
    have u:decide (e≥ -1074)=ag:=iw d;rw[iq c,f]at a;go_enter aC,az
    go_wp2_with(go_at_call 147;refine(b _).mono ?_;rintro e g ⟨rfl,rfl⟩)
    go_ret;exact⟨by rw[a.1];rfl,rfl⟩
  ·have i:¬(n:Int)<=53:=iE
   have t:decide ((n:Int)<=53)=ag:=iw i;rw[iw c]at a;go_enter aC,az
   go_wp2_with(go_at_call 147;refine(b _).mono ?_;rintro e g ⟨rfl,rfl⟩)
   go_ret;exact⟨by rw[a.1];rfl,rfl⟩
 ·obtain rfl:p=0:=iE
  go_enter aC,az
  go_wp2_with(go_at_call 147;refine(b _).mono ?_;rintro e g ⟨rfl,rfl⟩)
  go_ret;exact⟨by rw[a.1];rfl,rfl⟩
theorem Pv (b c:Nat)(a:b<18446744073709551616)(hc:c<18446744073709551616):zq b c<18446744073709551616:=by unfold zq;have f:bits .andNot .u64 (b:Int) 9223372036854775808=((b&&&(18446744073709551615 - 9223372036854775808):Nat):Int):=DZ b 9223372036854775808 a iG;have g:bits .and .u64 (c:Int) 9223372036854775808=((c&&&9223372036854775808:Nat):Int):=bits_and_u64_nat c 9223372036854775808 hc iG;have d:b&&&(18446744073709551615 - 9223372036854775808)<18446744073709551616:=aI aS a;have e:c&&&9223372036854775808<18446744073709551616:=aI aS hc;rw[f,g,bits_or_u64_nat _ _ d e,Int.toNat_natCast];exact Nat.or_lt_two_pow (n:=64) d e
theorem Px (b:Nat)(e:Int)(c:oL b)(a:b<18446744073709551616):ui b e<18446744073709551616:=by
 have hx:=GL c a;have d:uh (kT b).1 <=1024:=by unfold uh;omega
 unfold ui;split
 ·exact a
 split
 ·exact a
 split
 ·exact a
 split
 ·exact Pv _ _ iG hx
 split
 ·split<;>decide
 split
 ·exact D5 GK (AX _ _ iE)
 ·exact D5 fin1 (AX _ _ iE)
theorem Py (m:Nat)(hm:m<9007199254740992):oL (floatOfInt .f64 (m:Int))/\floatOfInt .f64 (m:Int)<18446744073709551616:=by
 have hw:floatOfInt .f64 (m:Int)=ax Ieee.double ag m 0:=by show ax Ieee.double (decide ((m:Int)<0)) (m:Int).natAbs 0=_;rw[show decide ((m:Int)<0)=ag from iw iE,Int.natAbs_natCast]
 rw[hw]
 have key:ax Ieee.double ag m 0<9218868437227405312:=by
  unfold ax;split
  ·decide
  ·rename_i b
   have d:m.log2<=52:=by have:=(Nat.log2_lt b (k:=53)).2 hm;omega
   have e1:max ((0:Int)+m.log2 - Ieee.double.fractionBits) Ieee.double.leastPlace=(m.log2:Int) - 52:=by show max ((0:Int)+m.log2 - 52) (-1074)=_;omega
   have hs:m<<<(52 - m.log2)<9007199254740992:=by rw[Nat.shiftLeft_eq];have c:m<2^(m.log2+1):=Nat.lt_log2_self;have a:m*2^(52 - m.log2)<2^(m.log2+1)*2^(52 - m.log2):=Nat.mul_lt_mul_of_pos_right c (Nat.two_pow_pos _);rw[<-Nat.pow_add,show m.log2+1+(52 - m.log2)=53 by omega]at a;exact a
   simp only[e1];rw[show((0:Int) - ((m.log2:Int) - 52)).toNat=52 - m.log2 by omega,show((m.log2:Int) - 52 - 0).toNat=0 by omega]
   have hcut:Ieee.Toward.even.cut ag (m<<<(52 - m.log2)) 0=m<<<(52 - m.log2):=by unfold Ieee.Toward.cut;simp;omega
   rw[hcut];show(if ag=af then _ else min ((((m.log2:Int) - 52 - (-1074)).toNat)*4503599627370496+m<<<(52 - m.log2)) _)<_;rw[gZ iG];refine aI (Nat.min_le_left _ _) ?_;have:((m.log2:Int) - 52 - (-1074)).toNat<=1074:=iE;have:=Nat.mul_le_mul_right 4503599627370496 this;omega
 refine⟨?_,iE⟩;show _%9223372036854775808<9218868437227405312;rw[Nat.mod_eq_of_lt iE];exact key
def D9 (s:ByteArray):Bool:=aT s.data.toList [45]
def Bf (s:ByteArray):ByteArray:=⟨(aH s.data.toList [45]).toArray⟩
def yh (t:ByteArray):List UInt8:=iV 112 t.data.toList
def yj (t:ByteArray):List UInt8:=rY 112 t.data.toList
def Ea (t:ByteArray):Bool:=wO 112 t.data.toList
def Bg (t:ByteArray):Option Nat:=
 match zu (yh t),zx (yj t)with
 |some m,some e=>if Ea t=af/\wY m e=af/\((oN (ui (floatOfInt .f64 (m:Int)) e)).toList==t.toList)=af then some (ui (floatOfInt .f64 (m:Int)) e)else none
 |_,_=>none
def wZ (t:ByteArray):Option Nat:=if(t.toList==[105,110,102])=af then some 9218868437227405312 else if(t.toList==[48,112,48])=af then some 0 else Bg t
def lV (s:ByteArray):Option Nat:=if(s.toList==[110,97,110])=af then some 9221120237041090561 else(wZ (Bf s)).map λf=>if D9 s then zq f 13830554455654793216 else f
theorem Pz (A:List UInt8)(v:Nat)(h:aN 64 A=.ok v):v<18446744073709551616:=by
 unfold aN at h;split at h
 ·cases h
 ·rw[show(2:Nat)^64 - 1=18446744073709551615 by decide,Lib.parseUintM_64]at h
  exact Lib.parseUint10_lt A 0 v iG h
theorem PD (s:ByteArray):(Bf s).size<=s.size:=by
 show(aH s.data.toList [45]).toArray.size<=s.data.size;rw[aJ,show s.data.size=s.data.toList.length by simp];unfold aH;split
 ·rw[aQ];omega
 ·omega
theorem PE (t:ByteArray):(⟨(yh t).toArray⟩:ByteArray).size<=t.size:=by show(yh t).toArray.size<=t.data.size;rw[aJ,show t.data.size=t.data.toList.length by simp];unfold yh;rw[<-zf,List.length_take];omega
theorem PG (t:ByteArray):(⟨(yj t).toArray⟩:ByteArray).size<=t.size:=by show(yj t).toArray.size<=t.data.size;rw[aJ,show t.data.size=t.data.toList.length by simp];unfold yj;rw[<-DI,aQ];omega
theorem PH (t:ByteArray)(a:t.size<=70000)(w:aB)(b:nT w):aO aA 14 #[.string t,.string ⟨#[112]⟩] w λe w'=>e=.returned (.tuple #[.string ⟨(yh t).toArray⟩,.string ⟨(yj t).toArray⟩,.bool (Ea t)])/\Below w.heap.size w w':=by exact(wP t 112 w (by unfold maxLen;omega)).mono λe w' h=>⟨h.1,by obtain⟨n,e⟩:=h.2;rw[e];exact⟨rfl,rfl,rfl,Nat.le_refl _,λ_ _=>rfl⟩⟩
theorem PL (b:Nat)(a:oL b)(c:b<18446744073709551616)(e:Int)(d: -4000<=e)(f:e<=4000)(w:aB):
  aO aA 182 #[.float .f64 b,.int .i64 e] w λr w'=>r=.returned (.float .f64 (ui b e))/\w'=w:=by
 have g:=ae (Oj b a c e d f w);go_enter Tryz.func182,Tryz.ntmps182
 go_wp2_with(go_at_call 198;refine g.1.mono ?_;rintro e h ⟨rfl,rfl⟩)
 go_ret;exact⟨rfl,rfl⟩
theorem Eb (s:ByteArray)(hs:s.size<=70000)(w:aB)(n:nT w):
  aO aA 155 #[.string s] w λe w'=>e=.returned (.tuple #[.float .f64 ((lV s).getD 0),.bool (lV s).isSome])/\Below w.heap.size w w':=by
 have C:=ae (λW=>Tryz.strings_CutPrefix s ⟨#[45]⟩ W);have an:=ae (λW=>Oa W);have ao:=ae (λW=>Gz W);have ap:=ae (λx W=>GG x 13830554455654793216 W);have K:=PD s;rw[show(⟨(aH s.data.toList (⟨#[45]⟩:ByteArray).data.toList).toArray⟩:ByteArray)=Bf s from rfl,show aT s.data.toList (⟨#[45]⟩:ByteArray).data.toList=D9 s from rfl]at C;obtain⟨R,hR⟩:=iC (lV s);rw[hR];unfold lV at hR;by_cases p:(s.toList==[110,97,110])=af
 case' pos=>have aq:(s.toList==[110,97,110])=af:=p;rw[gY p]at hR;subst hR;clear p
 case' neg=>
  have aq:(s.toList==[110,97,110])=ag:=ay.2 p;rw[gZ p]at hR;obtain⟨t,L⟩:=iC (Bf s);obtain⟨q,M⟩:=iC (D9 s);rw[L]at hR C K;rw[M]at hR C;clear L M;have F:=ae hR;clear hR;by_cases d:(t.toList==[105,110,102])=af
  case' pos=>have ar:(t.toList==[105,110,102])=af:=d;have r:=ae (show wZ t=some 9218868437227405312 by unfold wZ;rw[gY d]);clear d;cases q
  case' neg=>
   have ar:(t.toList==[105,110,102])=ag:=ay.2 d;by_cases j:(t.toList==[48,112,48])=af
   case' pos=>have av:(t.toList==[48,112,48])=af:=j;have r:=ae (show wZ t=some 0 by unfold wZ;rw[gZ d,gY j]);clear d j;cases q
   case' neg=>
    have av:(t.toList==[48,112,48])=ag:=ay.2 j;have r:=ae (show wZ t=Bg t by unfold wZ;rw[gZ d,gZ j]);rw[r.1]at F;have k:=ae (λ(W:aB) (g:Below w.heap.size w W)=>PH t iE W (n.below g));have N:=PE t;have O:=PG t;obtain⟨P,a⟩:=iC (Bg t);rw[a]at F;unfold Bg at a;obtain⟨A,hA⟩:=iC (yh t);obtain⟨B,Q⟩:=iC (yj t);obtain⟨o,S⟩:=iC (Ea t);rw[hA]at k a N;rw[Q]at k a O;rw[S]at k a;have i:=ae (λ(W:aB) (g:Below w.heap.size w W)=>OJ ⟨A.toArray⟩ iE W (n.below g));have b:=ae (λ(W:aB) (g:Below w.heap.size w W)=>OL ⟨B.toArray⟩ iE W (n.below g));have aw:=ae n;rw[show((⟨A.toArray⟩:ByteArray).data.toList)=A from rfl]at i;rw[show((⟨B.toArray⟩:ByteArray).data.toList)=B from rfl]at b;obtain⟨U,V⟩:∃U:ByteArray,(⟨A.toArray⟩:ByteArray)=U:=⟨_,rfl⟩;obtain⟨X,Y⟩:∃X:ByteArray,(⟨B.toArray⟩:ByteArray)=X:=⟨_,rfl⟩;rw[V]at i k;rw[Y]at b k;clear hA Q S d j n r N O V Y K;cases c:zu A
    case' none=>
      rw[c]at i a;simp only at i a;subst a;cases u:zx B
      all_goals
       rw[u]at b;simp only at b;cases o
    case' some m=>
      have aD:m<18446744073709551616:=by
       unfold zu at c;cases hx:aN 64 A with
       |ok v=>rw[hx]at c;simp only[Option.some.injEq]at c;subst c;exact Pz A v hx
       |_=>rw[hx]at c;simp at c
      rw[c]at i a;simp only at i a;cases u:zx B
      case' none=>rw[u]at b a;simp only at b a;subst a;cases o
      case' some e=>
       rw[u]at b a;simp only at b a;have G:=ae (λW=>fits_any m aD e W);clear c u;cases o
       case' false=>rw[gZ iH]at a;subst a
       case' true=>
        cases D:wY m e
        case' false=>rw[D]at G a;rw[gZ iH]at a;subst a
        case' true=>
         rw[D]at G a;obtain⟨aE,aL,aM⟩:=Pq D;have y:=Py m aE;have H:=Px _ e y.1 y.2;have Z:=ae (λW=>PL _ y.1 y.2 e iE iE W);obtain⟨f,hf⟩:=iC (ui (floatOfInt .f64 (m:Int)) e);rw[hf]at Z H a;have aa:=ae (λ(W:aB) (g:Below w.heap.size w W)=>Po f H W (aw.1.below g));clear hf y H D;obtain⟨T,ab⟩:=iC (oN f);rw[ab]at aa a;clear ab;by_cases l:(T.toList==t.toList)=af
         case' pos=>rw[gY ⟨rfl,rfl,l⟩]at a;subst a;have aF:(T.toList==t.toList)=af:=l;clear l;cases q
         case' neg=>rw[gZ (λh=>l h.2.2)]at a;subst a;have aF:(T.toList==t.toList)=ag:=ay.2 l;clear l
 all_goals
  go_enter Tryz.func155,Tryz.ntmps155
  go_wp2_with(first
   |(go_at_call 51;refine(C.1 _).mono ?_;rintro e z ⟨rfl,rfl⟩)
   |(go_at_call 178;refine(an.1 _).mono ?_;rintro e z ⟨rfl,rfl⟩)
   |(go_at_call 179;refine(ao.1 _).mono ?_;rintro e z ⟨rfl,rfl⟩)
   |(go_at_call 184;refine(ap.1 _ _).mono ?_;rintro e z ⟨rfl,rfl⟩)
   |(go_at_call 14;refine(k.1 _ (ah _ _)).mono ?_;rintro e aR ⟨rfl,ac⟩;have I:=ae ac;clear ac)
   |(go_at_call 180;refine(i.1 _ I.1).mono ?_;rintro e w3 ⟨ad,ai⟩;(first|obtain rfl:=ad|obtain⟨v1,a0,a1,rfl⟩:=ad);have J:=ae (I.1.trans (ai.mono I.1.size));clear ai)
   |(go_at_call 55;refine(b.1 _ J.1).mono ?_;rintro e a2 ⟨ak,al⟩;(first|obtain rfl:=ak|obtain⟨v2,a3,a4,rfl⟩:=ak);have E:=ae (J.1.trans (al.mono J.1.size));clear al)
   |(go_at_call 181;refine(G.1 _).mono ?_;rintro e z ⟨rfl,rfl⟩)
   |(go_at_call 182;refine(Z.1 _).mono ?_;rintro e z ⟨rfl,rfl⟩)
   |(go_at_call 183;refine(aa.1 _ E.1).mono ?_;rintro e a5 ⟨rfl,am⟩;have aG:=ae (E.1.trans (am.mono E.1.size));clear am))
  go_ret2
  first
   |exact⟨rfl,ah _ _⟩
   |(
     refine⟨?_,by first|exact aG.1|exact E.1|exact ah _ _⟩;rw[<-F.1]
     (try rw[r.1])
     rfl)
theorem PN (s:ByteArray)(hs:s.size<=70000)(w:aB)(b:nT w):
  aO aA 133 #[.string s] w λe w'=>e=.returned (.bool (lV s).isSome)/\Below w.heap.size w w':=by
 have a:=ae (Eb s hs w b);generalize(lV s).getD 0=f at a;generalize(lV s).isSome=o at a⊢;clear b;go_enter Tryz.func133,Tryz.ntmps133
 go_wp2_with(go_at_call 155;refine a.1.mono ?_;rintro e g ⟨rfl,c⟩;have d:=ae c;clear c)
 go_ret;exact⟨rfl,d.1⟩
def Ho (a b:Nat):Bool:=FloatKind.f64.format.order a b==some aP
def vU (a b:ByteArray):Int×Bool:=
 match(lV a).isSome,(lV b).isSome with
 |true,af=>
  if ug ((lV a).getD 0)then(0,ag)
  else if ug ((lV b).getD 0)then(0,ag)
  else if wU ((lV a).getD 0) ((lV b).getD 0)then(-1,af)
  else if Ho ((lV a).getD 0) ((lV b).getD 0)then(1,af)
  else(0,af)
 |_,_=>(0,ag)
theorem PO (a b:ByteArray)(ha:a.size<=70000)(r:b.size<=70000)(w:aB)(p:nT w):
  aO aA 168 #[.string a,.string b] w λe w'=>e=.returned (.tuple #[.int .i64 (vU a b).1,.bool (vU a b).2])/\Below w.heap.size w w':=by
 have i:=ae (λ(W:aB) (q:Below w.heap.size w W)=>Eb a ha W (p.below q));have j:=ae (λ(W:aB) (q:Below w.heap.size w W)=>Eb b r W (p.below q));obtain⟨R,hR⟩:=iC (vU a b);rw[hR];unfold vU at hR;generalize(lV a).getD 0=x at i hR;generalize(lV b).getD 0=y at j hR;generalize(lV a).isSome=s at i hR;generalize(lV b).isSome=t at j hR;clear p;cases s with
 |false=>
  have g:PLift (R=(0,ag)):=⟨by rw[<-hR]⟩;clear hR;go_enter au,aj
  go_upto_region 2 with(go_at_call 155;refine(i.1 _ (ah _ _)).mono ?_;rintro e k ⟨rfl,d⟩;have c:=ae d;clear d)
  go_wp2_with(go_at_call 155;refine(j.1 _ c.1).mono ?_;rintro e w3 ⟨rfl,f⟩;have h:=ae (c.1.trans (f.mono c.1.size));clear f)
  go_ret2;exact⟨by rw[g.1];rfl,h.1⟩
 |true=>
  cases t with
  |false=>
   have g:PLift (R=(0,ag)):=⟨by rw[<-hR]⟩;clear hR;go_enter au,aj
   go_upto_region 2 with(go_at_call 155;refine(i.1 _ (ah _ _)).mono ?_;rintro e k ⟨rfl,d⟩;have c:=ae d;clear d)
   go_wp2_with(go_at_call 155;refine(j.1 _ c.1).mono ?_;rintro e w3 ⟨rfl,f⟩;have h:=ae (c.1.trans (f.mono c.1.size));clear f)
   go_ret2;exact⟨by rw[g.1];rfl,h.1⟩
  |true=>
   simp only at hR;cases l:ug x with
   |true=>
    have u:(FloatKind.f64.format.order x x !=some aK)=af:=l;have g:PLift (R=(0,ag)):=⟨by rw[<-hR,gY l]⟩;clear hR;go_enter au,aj
    go_upto_region 2 with(go_at_call 155;refine(i.1 _ (ah _ _)).mono ?_;rintro e k ⟨rfl,d⟩;have c:=ae d;clear d)
    go_wp2_with(go_at_call 155;refine(j.1 _ c.1).mono ?_;rintro e w3 ⟨rfl,f⟩;have h:=ae (c.1.trans (f.mono c.1.size));clear f)
    go_ret2;exact⟨by rw[g.1];rfl,h.1⟩
   |false=>
    have u:(FloatKind.f64.format.order x x !=some aK)=ag:=l;rw[gZ (by simp[l])]at hR;cases m:ug y with
    |true=>
     have v:(FloatKind.f64.format.order y y !=some aK)=af:=m;have g:PLift (R=(0,ag)):=⟨by rw[<-hR,gY m]⟩;clear hR;go_enter au,aj
     go_upto_region 2 with(go_at_call 155;refine(i.1 _ (ah _ _)).mono ?_;rintro e k ⟨rfl,d⟩;have c:=ae d;clear d)
     go_wp2_with(go_at_call 155;refine(j.1 _ c.1).mono ?_;rintro e w3 ⟨rfl,f⟩;have h:=ae (c.1.trans (f.mono c.1.size));clear f)
     go_ret2;exact⟨by rw[g.1];rfl,h.1⟩
    |false=>
     have v:(FloatKind.f64.format.order y y !=some aK)=ag:=m;rw[gZ (by simp[m])]at hR;cases n:wU x y with
     |true=>
      have z:(FloatKind.f64.format.order x y==some aU)=af:=n;have g:PLift (R=(-1,af)):=⟨by rw[<-hR,gY n]⟩;clear hR;go_enter au,aj
      go_upto_region 2 with(go_at_call 155;refine(i.1 _ (ah _ _)).mono ?_;rintro e k ⟨rfl,d⟩;have c:=ae d;clear d)
      go_wp2_with(go_at_call 155;refine(j.1 _ c.1).mono ?_;rintro e w3 ⟨rfl,f⟩;have h:=ae (c.1.trans (f.mono c.1.size));clear f)
      go_ret2;exact⟨by rw[g.1];rfl,h.1⟩
     |false=>
      have z:(FloatKind.f64.format.order x y==some aU)=ag:=n;rw[gZ (by simp[n])]at hR;cases o:Ho x y with
      |true=>
       have A:(FloatKind.f64.format.order x y==some aP)=af:=o;have g:PLift (R=(1,af)):=⟨by rw[<-hR,gY o]⟩;clear hR;go_enter au,aj
       go_upto_region 2 with(go_at_call 155;refine(i.1 _ (ah _ _)).mono ?_;rintro e k ⟨rfl,d⟩;have c:=ae d;clear d)
       go_wp2_with(go_at_call 155;refine(j.1 _ c.1).mono ?_;rintro e w3 ⟨rfl,f⟩;have h:=ae (c.1.trans (f.mono c.1.size));clear f)
       go_ret2;exact⟨by rw[g.1];rfl,h.1⟩
      |false=>
       have A:(FloatKind.f64.format.order x y==some aP)=ag:=o;have g:PLift (R=(0,af)):=⟨by rw[<-hR,gZ (by simp[o])]⟩;clear hR;go_enter au,aj
       go_upto_region 2 with(go_at_call 155;refine(i.1 _ (ah _ _)).mono ?_;rintro e k ⟨rfl,d⟩;have c:=ae d;clear d)
       go_wp2_with(go_at_call 155;refine(j.1 _ c.1).mono ?_;rintro e w3 ⟨rfl,f⟩;have h:=ae (c.1.trans (f.mono c.1.size));clear f)
       go_ret2;exact⟨by rw[g.1];rfl,h.1⟩
end Go.Proofs.YthcalnnipjflkaaGreatDoor
