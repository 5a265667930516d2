import Derived.Test.YthcalnnipjflkaaGreatDoorP02
import Derived.Test.YthcalnnipjflkaaGreatDoorP07
import Derived.Test.YthcalnnipjflkaaGreatDoorP10
import Derived.Lib.ItoaLen
import Derived.Sort.WalkA14
import Derived.Sort.LotD1
import Derived.Laws.ResultCell
import Derived.Lib.AtoiBound
open PLift renaming up -> ae
open List renaming setIfInBounds_toArray -> af, set_cons_succ -> ah, set_cons_zero -> aj, size_toArray -> aU, length_drop -> aV, take_of_length_le -> aZ, dropWhile_sublist -> bn, extract_eq_drop_take -> dm, length_take -> dw, length_reverse -> dE, length_pos_iff -> dF, mem_reverse -> dK
open Go.Lib renaming cell_of_heap -> ag, frozen_of_heap -> aB, itoa -> aO, indexByte -> aP, repeatL -> bC, decDigits -> bK, trimPrefix -> cZ, itoa_length_le -> dh, parseUintB -> dA, atoi -> dB, hasPrefix -> dQ
open Option renaming some -> au, none -> ax
open Bool renaming false -> ay, true -> aJ, eq_false_iff -> bJ, and_eq_true -> bT
open Nat renaming reduceAdd -> az, le_refl -> aN, le_of_lt -> bz, lt_of_le_of_lt -> bF, lt_of_lt_of_le -> bG, and_two_pow_sub_one_eq_mod -> bV, or_lt_two_pow -> dH, mod_lt -> dL, and_le_left -> dN, le_trans -> dV
open Array renaming getElem?_eq_some_iff -> aA, getElem?_push -> cu, toList_extract -> dC, size_push -> dO
open Go.RowKit.Below renaming refl -> aC
open Go renaming World -> aH, heap_alloc_new -> aK, Calls -> aQ, Value -> bH, bodyPost_ret -> bZ, bits_and_u64_nat -> dJ, bits_or_u64_nat -> dM
open Go.Proofs.Tryz renaming prog -> aI, ntmps168 -> aW, underlying219 -> aX, func168 -> bu, ntmps181 -> bP, ntmps154 -> bQ, func181 -> bW, func154 -> bY, ntmps183 -> di, func183 -> dn, ntmps208 -> dD, func208 -> dG, ntmps201 -> dP, ntmps222 -> dR, func201 -> dU, func222 -> dW
open ByteArray renaming data_extract -> aS, size_append -> aT
open Ordering renaming eq -> aY, gt -> dI, lt -> dX
open Ieee.Format renaming nearest -> bD
open Int renaming toNat_natCast -> bI
open UInt8 renaming le_iff_toNat_le -> bU
set_option linter.all false
set_option maxHeartbeats 16000000
set_option maxRecDepth 100000
namespace Go.Proofs.YthcalnnipjflkaaGreatDoor
open Go.RowKit Go.Sort
open Go.Lib hiding intOf
theorem nT.itoa {w:aH}(h:nT w):Be w:=λn a b=>(Tryz.strconv_Itoa n a b w h.pow).mono λe w' h=>⟨h.1,by obtain⟨k,os,e⟩:=h.2;rw[e];exact below_grow _ _ (aN _) k os⟩
theorem Hl (f:Nat)(hf:f<18446744073709551616):pW f=f%9223372036854775808:=by unfold pW;rw[show(9223372036854775808:Int)=((9223372036854775808:Nat):Int)from rfl,DZ f _ hf iG,bI,N9]
def sH (f:Nat):Nat:=if pW f/4503599627370496=0 then pW f&&&4503599627370495 else(pW f&&&4503599627370495)|||4503599627370496
def wW (f:Nat):Nat:=if pW f/4503599627370496=0 then 1 else pW f/4503599627370496
def pX (f:Nat):Nat×Int:=(sH f/2^qG (sH f),(wW f:Int) - 1075+qG (sH f))
theorem Hm (f:Nat):sH f<9007199254740992:=by
 unfold sH
 have h:pW f&&&4503599627370495<4503599627370496:=by rw[show 4503599627370495=2^52 - 1 from rfl,bV];exact dL _ iG
 split
 ·omega
 ·exact dH (n:=53) iE iG
theorem Pe (f:Nat):(pX f).1 <9007199254740992:=bF (Nat.div_le_self _ _) (Hm f)
theorem Pg (f:Nat)(hf:f<18446744073709551616): -1075<=(pX f).2 /\(pX f).2 <=2000:=by
 have h:=GR (sH f)
 have a:wW f<=2048:=by unfold wW;rw[Hl f hf];split<;>omega
 show -1075<=(wW f:Int) - 1075+(qG (sH f):Nat)/\(wW f:Int) - 1075+(qG (sH f):Nat)<=2000;omega
theorem Ph (f:Nat)(hf:f<18446744073709551616)(w:aH)(k:yc w):
  aQ aI 201 #[.float .f64 f] w λe w'=>e=.returned (.tuple #[.int .u64 (pX f).1,.int .i64 (pX f).2])/\w'=w:=by
 have l:=ae (λW=>D6 f W);have r:=zn;obtain⟨b,h⟩:=iC (pW f);have s:b<9223372036854775808:=by rw[<-h,Hl f hf];exact dL _ iG
 rw[h]at l;obtain⟨g,i⟩:=iC (b&&&4503599627370495)
 have t:g<4503599627370496:=by rw[<-i,show 4503599627370495=2^52 - 1 from rfl,bV];exact dL _ iG
 have hand:bits .and .u64 (b:Int) 4503599627370495=(g:Int):=by rw[<-i];exact dJ b 4503599627370495 iE iG
 obtain⟨d,m⟩:=iC (b/4503599627370496);have u:(b:Int)/4503599627370496=(d:Int):=iE
 have v:(0:Int)<=(d:Int):=iE
 have x:(d:Int)<=2048:=iE
 obtain⟨M,a⟩:=iC (sH f);obtain⟨E,c⟩:=iC (wW f);have y:M<9007199254740992:=by rw[<-a];exact Hm f
 have n:=ae (OD M iE w k);have o:PLift (pX f=(M/2^qG M,(E:Int) - 1075+(qG M:Nat))):=⟨by unfold pX;rw[a,c]⟩;obtain⟨z,j⟩:=iC (qG M);have A:z<=64:=by rw[<-j];exact GR M
 rw[j]at n o;unfold sH at a;unfold wW at c;rw[h,m]at a c;rw[i]at a;have B:E<=2048:=by rw[<-c];split<;>omega
 have C:(0:Int)<=(z:Int):=iE
 have D:(z:Int)<=64:=iE
 have F:(E:Int)<=2048:=iE
 have G:(0:Int)<=(E:Int):=iE
 by_cases p:d=0
 ·rw[gY p]at a c
  subst a c p;clear h i m k j;go_enter dU,dP
  go_wp2_with(first
   |(go_at_call 215;refine(l.1 _).mono ?_;rintro e q ⟨rfl,rfl⟩)
   |(go_at_call 171;refine n.1.mono ?_;rintro e q ⟨rfl,rfl⟩))
  go_ret2;exact⟨by rw[o.1];rfl,rfl⟩
 ·have H:((d:Int)==0)=ay:=by rw[iy];omega
  rw[gZ p]at a c;have I:bits .or .u64 (g:Int) 4503599627370496=(M:Int):=by rw[<-a];exact dM g 4503599627370496 iE iG
  subst c;clear h i m k j a;go_enter dU,dP
  go_wp2_with(first
   |(go_at_call 215;refine(l.1 _).mono ?_;rintro e q ⟨rfl,rfl⟩)
   |(go_at_call 171;refine n.1.mono ?_;rintro e q ⟨rfl,rfl⟩))
  go_ret2;exact⟨by rw[o.1];rfl,rfl⟩
def wX (f:Nat):ByteArray:=if wS f then⟨#[45]⟩else⟨#[]⟩
def oN (f:Nat):ByteArray:=
 if ug f then⟨#[110,97,110]⟩
 else if zt f then wX f++⟨#[105,110,102]⟩
 else if AY f 0 then wX f++⟨#[48,112,48]⟩
 else((wX f++⟨(bK (pX f).1).toArray⟩)++⟨#[112]⟩)++⟨(aO (pX f).2).toArray⟩
theorem Pj (u:Nat)(a:u<18446744073709551616):(⟨(bK u).toArray⟩:ByteArray).size<=20:=by show(bK u).toArray.size<=20;rw[aU,Lib.decDigits_length];exact Lib.nDigits_le20 u a
theorem Pm (n:Int)(a: -9223372036854775808<=n)(b:n<=9223372036854775807):(⟨(aO n).toArray⟩:ByteArray).size<=21:=by show(aO n).toArray.size<=21;rw[aU];exact dh n a b
theorem Po (f:Nat)(hf:f<18446744073709551616)(w:aH)(k:nT w):
  aQ aI 183 #[.float .f64 f] w λe w'=>e=.returned (.string (oN f))/\Below w.heap.size w w':=by
 have b:=ae (λW=>Ob f W);have h:=ae (λW=>GH f W);obtain⟨S,a⟩:=iC (wX f);cases g:ug f with
 |true=>
  have F:(FloatKind.f64.format.order f f !=au aY)=aJ:=g;have c:PLift (oN f=⟨#[110,97,110]⟩):=⟨by unfold oN;rw[gY g]⟩;rw[c.1];cases hs:wS f
  all_goals
   rw[hs]at b;go_enter dn,di
   go_wp2_with(go_at_call 199;refine(b.1 _).mono ?_;rintro e d ⟨rfl,rfl⟩)
   go_ret;exact⟨rfl,aC _ _⟩
 |false=>
  have F:(FloatKind.f64.format.order f f !=au aY)=ay:=g;cases i:zt f with
  |true=>
   have c:PLift (oN f=S++⟨#[105,110,102]⟩):=⟨by unfold oN;rw[gZ (by simp[g]),gY i,a]⟩;rw[c.1];rw[i]at h;unfold wX at a;cases hs:wS f
   all_goals
    rw[hs]at b a;subst a;go_enter dn,di
    go_wp2_with(first
     |(go_at_call 199;refine(b.1 _).mono ?_;rintro e d ⟨rfl,rfl⟩)
     |(go_at_call 200;refine(h.1 _).mono ?_;rintro e d ⟨rfl,rfl⟩))
    go_ret;exact⟨rfl,aC _ _⟩
  |false=>
   rw[i]at h;cases l:AY f 0 with
   |true=>
    have G:(FloatKind.f64.format.order f 0==au aY)=aJ:=l;have c:PLift (oN f=S++⟨#[48,112,48]⟩):=⟨by unfold oN;rw[gZ (by simp[g]),gZ (by simp[i]),gY l,a]⟩;rw[c.1];unfold wX at a;cases hs:wS f
    all_goals
     rw[hs]at b a;subst a;go_enter dn,di
     go_wp2_with(first
      |(go_at_call 199;refine(b.1 _).mono ?_;rintro e d ⟨rfl,rfl⟩)
      |(go_at_call 200;refine(h.1 _).mono ?_;rintro e d ⟨rfl,rfl⟩))
     go_ret;exact⟨rfl,aC _ _⟩
   |false=>
    have G:(FloatKind.f64.format.order f 0==au aY)=ay:=l;have c:PLift (oN f=((S++⟨(bK (pX f).1).toArray⟩)++⟨#[112]⟩)++⟨(aO (pX f).2).toArray⟩):=⟨by unfold oN;rw[gZ (by simp[g]),gZ (by simp[i]),gZ (by simp[l]),a]⟩;rw[c.1];have o:=ae (Ph f hf w k.tz);have hex:=Pg f hf;have H:=Pe f;obtain⟨m,hm⟩:=iC ((pX f).1 );obtain⟨x,hx⟩:=iC ((pX f).2 );rw[hm]at o H⊢;rw[hx]at o hex⊢;have u:=ae (λ(W:aH) (p:Below w.heap.size w W)=>OG m iE W (k.below p).pow);have v:=ae (λ(W:aH) (p:Below w.heap.size w W)=>(k.below p).itoa x iE iE);have q:=Pj m iE;have r:=Pm x iE iE;obtain⟨D,y⟩:∃D:ByteArray,(⟨(bK m).toArray⟩:ByteArray)=D:=⟨_,rfl⟩;obtain⟨n,z⟩:∃n:ByteArray,(⟨(aO x).toArray⟩:ByteArray)=n:=⟨_,rfl⟩;rw[y]at u q⊢;rw[z]at v r⊢;have A:S.size<=1:=(by rw[<-a];unfold wX;split<;>decide);have j:PLift (S.size<=1/\D.size<=20/\n.size<=21/\(S++D).size<=21/\((S++D)++(⟨#[112]⟩:ByteArray)).size<=22):=⟨A,q,r,by rw[aT];omega,by rw[aT,aT];show S.size+D.size+1<=_;omega⟩;clear q r y z A k hm hx hex;have s:S=(if wS f=aJ then⟨#[45]⟩else⟨#[]⟩):=a.symm;clear a;cases hs:wS f
    all_goals
     rw[hs]at b s;have B:=ae s;clear s;go_enter dn,di
     go_upto_region 11 with(first
      |(go_at_call 199;refine(b.1 _).mono ?_;rintro e d ⟨rfl,rfl⟩)
      |(go_at_call 200;refine(h.1 _).mono ?_;rintro e d ⟨rfl,rfl⟩)
      |(go_at_call 201;refine o.1.mono ?_;rintro e d ⟨rfl,rfl⟩))
     first
      |rw[show(⟨#[45]⟩:ByteArray)=S from B.1.symm]
      |rw[show(⟨#[]⟩:ByteArray)=S from B.1.symm]
     have J:=j.1.1;have K:=j.1.2.1;have L:=j.1.2.2.1;have M:=j.1.2.2.2.1;have N:=j.1.2.2.2.2;have O:¬(9223372036854775807:Int)<(S.size:Int)+(D.size:Int):=iE;have P:¬(9223372036854775807:Int)<(((S++D)++(⟨#[112]⟩:ByteArray)).size:Int)+(n.size:Int):=iE
     go_wp2_with(first
      |(go_at_call 202;refine(u.1 _ (aC _ _)).mono ?_;rintro e Q ⟨rfl,C⟩;have t:=ae C;clear C)
      |(go_at_call 81;refine(v.1 _ t.1).mono ?_;rintro e w3 ⟨rfl,E⟩;have I:=ae (t.1.trans (E.mono t.1.size));clear E))
     go_ret;exact⟨rfl,I.1⟩
def wY (m:Nat)(e:Int):Bool:=decide (m%2=1)&&(decide (bitsLen m<=53)&&(decide (-1074<=e)&&(decide (e<=1023)&&decide (e+bitsLen m<=1024))))
theorem Pq {m:Nat}{e:Int}(h:wY m e=aJ):m<9007199254740992/\ -1074<=e/\e<=1023:=by unfold wY at h;simp only[bT,decide_eq_true_eq]at h;exact⟨(bitsLen_le_iff m 53).1 h.2.1,h.2.2.1,h.2.2.2.1⟩
theorem fits_any (m:Nat)(hm:m<18446744073709551616)(e:Int)(w:aH):
  aQ aI 181 #[.int .u64 m,.int .i64 e] w λr w'=>r=.returned (.bool (wY m e))/\w'=w:=by
 have b:∀w,aQ aI 147 #[.int .u64 (m:Int)] w λe w'=>e=.returned (.int .i64 (bitsLen m:Nat))/\w'=w:=λw=>by
  have h:=Tryz.bits_Len64 (m:Int) w iE iE
  rwa [bI,bitLen_eq _ iE]at h
 have l:bitsLen m<=64:=(bitsLen_le_iff m 64).2 hm;obtain⟨n,hn⟩:=iC (bitsLen m);have a:=ae (show wY m e=(decide (m%2=1)&&(decide (n<=53)&&(decide (-1074<=e)&&(decide (e<=1023)&&decide (e+n<=1024))))) by unfold wY;rw[hn]);rw[hn]at b l;have o:Int.tmod (m:Int) 2=((m%2:Nat):Int):=rfl;have q:((m:Int)%2)=((m%2:Nat):Int):=iE
 obtain⟨p,hp⟩:=iC (m%2);rw[hp]at o q a;by_cases s:p=1
 ·subst s
  by_cases c:n<=53
  ·have i:(n:Int)<=53:=iE
   have t:decide ((n:Int)<=53)=aJ:=iq i;by_cases d: -1074<=e
   ·have f:decide (-1074<=e)=aJ:=iq d
    have u:decide (e≥ -1074)=aJ:=iq d;by_cases k:e<=1023
    ·have j:decide (e<=1023)=aJ:=iq k
     rw[iq c,f,j]at a;go_enter bW,bP
     go_wp2_with(go_at_call 147;refine(b _).mono ?_;rintro e g ⟨rfl,rfl⟩)
     go_ret;exact⟨by rw[a.1];simp,rfl⟩
    ·have j:decide (e<=1023)=ay:=iw k
     rw[iq c,f,j]at a;go_enter bW,bP
     go_wp2_with(go_at_call 147;refine(b _).mono ?_;rintro e g ⟨rfl,rfl⟩)
     go_ret;exact⟨by rw[a.1];rfl,rfl⟩
   ·have f:decide (-1074<=e)=ay:=iw d
    have u:decide (e≥ -1074)=ay:=iw d;rw[iq c,f]at a;go_enter bW,bP
    go_wp2_with(go_at_call 147;refine(b _).mono ?_;rintro e g ⟨rfl,rfl⟩)
    go_ret;exact⟨by rw[a.1];rfl,rfl⟩
  ·have i:¬(n:Int)<=53:=iE
   have t:decide ((n:Int)<=53)=ay:=iw i;rw[iw c]at a;go_enter bW,bP
   go_wp2_with(go_at_call 147;refine(b _).mono ?_;rintro e g ⟨rfl,rfl⟩)
   go_ret;exact⟨by rw[a.1];rfl,rfl⟩
 ·obtain rfl:p=0:=iE
  go_enter bW,bP
  go_wp2_with(go_at_call 147;refine(b _).mono ?_;rintro e g ⟨rfl,rfl⟩)
  go_ret;exact⟨by rw[a.1];rfl,rfl⟩
theorem Pv (b c:Nat)(a:b<18446744073709551616)(hc:c<18446744073709551616):zq b c<18446744073709551616:=by unfold zq;have f:bits .andNot .u64 (b:Int) 9223372036854775808=((b&&&(18446744073709551615 - 9223372036854775808):Nat):Int):=DZ b 9223372036854775808 a iG;have g:bits .and .u64 (c:Int) 9223372036854775808=((c&&&9223372036854775808:Nat):Int):=dJ c 9223372036854775808 hc iG;have d:b&&&(18446744073709551615 - 9223372036854775808)<18446744073709551616:=bF dN a;have e:c&&&9223372036854775808<18446744073709551616:=bF dN hc;rw[f,g,dM _ _ d e,bI];exact dH (n:=64) d e
theorem Px (b:Nat)(e:Int)(c:oL b)(a:b<18446744073709551616):ui b e<18446744073709551616:=by
 have hx:=GL c a;have d:uh (kT b).1 <=1024:=by unfold uh;omega
 unfold ui;split
 ·exact a
 split
 ·exact a
 split
 ·exact a
 split
 ·exact Pv _ _ iG hx
 split
 ·split<;>decide
 split
 ·exact D5 GK (AX _ _ iE)
 ·exact D5 fin1 (AX _ _ iE)
theorem Py (m:Nat)(hm:m<9007199254740992):oL (floatOfInt .f64 (m:Int))/\floatOfInt .f64 (m:Int)<18446744073709551616:=by
 have hw:floatOfInt .f64 (m:Int)=bD Ieee.double ay m 0:=by show bD Ieee.double (decide ((m:Int)<0)) (m:Int).natAbs 0=_;rw[show decide ((m:Int)<0)=ay from iw iE,Int.natAbs_natCast]
 rw[hw]
 have key:bD Ieee.double ay m 0<9218868437227405312:=by
  unfold bD;split
  ·decide
  ·rename_i b
   have d:m.log2<=52:=by have:=(Nat.log2_lt b (k:=53)).2 hm;omega
   have e1:max ((0:Int)+m.log2 - Ieee.double.fractionBits) Ieee.double.leastPlace=(m.log2:Int) - 52:=by show max ((0:Int)+m.log2 - 52) (-1074)=_;omega
   have hs:m<<<(52 - m.log2)<9007199254740992:=by rw[Nat.shiftLeft_eq];have c:m<2^(m.log2+1):=Nat.lt_log2_self;have a:m*2^(52 - m.log2)<2^(m.log2+1)*2^(52 - m.log2):=Nat.mul_lt_mul_of_pos_right c (Nat.two_pow_pos _);rw[<-Nat.pow_add,show m.log2+1+(52 - m.log2)=53 by omega]at a;exact a
   simp only[e1];rw[show((0:Int) - ((m.log2:Int) - 52)).toNat=52 - m.log2 by omega,show((m.log2:Int) - 52 - 0).toNat=0 by omega]
   have hcut:Ieee.Toward.even.cut ay (m<<<(52 - m.log2)) 0=m<<<(52 - m.log2):=by unfold Ieee.Toward.cut;simp;omega
   rw[hcut];show(if ay=aJ then _ else min ((((m.log2:Int) - 52 - (-1074)).toNat)*4503599627370496+m<<<(52 - m.log2)) _)<_;rw[gZ iG];refine bF (Nat.min_le_left _ _) ?_;have:((m.log2:Int) - 52 - (-1074)).toNat<=1074:=iE;have:=Nat.mul_le_mul_right 4503599627370496 this;omega
 refine⟨?_,iE⟩;show _%9223372036854775808<9218868437227405312;rw[Nat.mod_eq_of_lt iE];exact key
def D9 (s:ByteArray):Bool:=dQ s.data.toList [45]
def Bf (s:ByteArray):ByteArray:=⟨(cZ s.data.toList [45]).toArray⟩
def yh (t:ByteArray):List UInt8:=iV 112 t.data.toList
def yj (t:ByteArray):List UInt8:=rY 112 t.data.toList
def Ea (t:ByteArray):Bool:=wO 112 t.data.toList
def Bg (t:ByteArray):Option Nat:=
 match zu (yh t),zx (yj t)with
 |some m,au e=>if Ea t=aJ/\wY m e=aJ/\((oN (ui (floatOfInt .f64 (m:Int)) e)).toList==t.toList)=aJ then au (ui (floatOfInt .f64 (m:Int)) e)else ax
 |_,_=>ax
def wZ (t:ByteArray):Option Nat:=if(t.toList==[105,110,102])=aJ then au 9218868437227405312 else if(t.toList==[48,112,48])=aJ then au 0 else Bg t
def lV (s:ByteArray):Option Nat:=if(s.toList==[110,97,110])=aJ then au 9221120237041090561 else(wZ (Bf s)).map λf=>if D9 s then zq f 13830554455654793216 else f
theorem Pz (A:List UInt8)(v:Nat)(h:dA 64 A=.ok v):v<18446744073709551616:=by
 unfold dA at h;split at h
 ·cases h
 ·rw[show(2:Nat)^64 - 1=18446744073709551615 by decide,Lib.parseUintM_64]at h
  exact Lib.parseUint10_lt A 0 v iG h
theorem PD (s:ByteArray):(Bf s).size<=s.size:=by
 show(cZ s.data.toList [45]).toArray.size<=s.data.size;rw[aU,show s.data.size=s.data.toList.length by simp];unfold cZ;split
 ·rw[aV];omega
 ·omega
theorem PE (t:ByteArray):(⟨(yh t).toArray⟩:ByteArray).size<=t.size:=by show(yh t).toArray.size<=t.data.size;rw[aU,show t.data.size=t.data.toList.length by simp];unfold yh;rw[<-zf,dw];omega
theorem PG (t:ByteArray):(⟨(yj t).toArray⟩:ByteArray).size<=t.size:=by show(yj t).toArray.size<=t.data.size;rw[aU,show t.data.size=t.data.toList.length by simp];unfold yj;rw[<-DI,aV];omega
theorem PH (t:ByteArray)(a:t.size<=70000)(w:aH)(b:nT w):aQ aI 14 #[.string t,.string ⟨#[112]⟩] w λe w'=>e=.returned (.tuple #[.string ⟨(yh t).toArray⟩,.string ⟨(yj t).toArray⟩,.bool (Ea t)])/\Below w.heap.size w w':=by exact(wP t 112 w (by unfold maxLen;omega)).mono λe w' h=>⟨h.1,by obtain⟨n,e⟩:=h.2;rw[e];exact⟨rfl,rfl,rfl,aN _,λ_ _=>rfl⟩⟩
theorem PL (b:Nat)(a:oL b)(c:b<18446744073709551616)(e:Int)(d: -4000<=e)(f:e<=4000)(w:aH):
  aQ aI 182 #[.float .f64 b,.int .i64 e] w λr w'=>r=.returned (.float .f64 (ui b e))/\w'=w:=by
 have g:=ae (Oj b a c e d f w);go_enter Tryz.func182,Tryz.ntmps182
 go_wp2_with(go_at_call 198;refine g.1.mono ?_;rintro e h ⟨rfl,rfl⟩)
 go_ret;exact⟨rfl,rfl⟩
theorem Eb (s:ByteArray)(hs:s.size<=70000)(w:aH)(n:nT w):
  aQ aI 155 #[.string s] w λe w'=>e=.returned (.tuple #[.float .f64 ((lV s).getD 0),.bool (lV s).isSome])/\Below w.heap.size w w':=by
 have C:=ae (λW=>Tryz.strings_CutPrefix s ⟨#[45]⟩ W);have an:=ae (λW=>Oa W);have ao:=ae (λW=>Gz W);have ap:=ae (λx W=>GG x 13830554455654793216 W);have K:=PD s;rw[show(⟨(cZ s.data.toList (⟨#[45]⟩:ByteArray).data.toList).toArray⟩:ByteArray)=Bf s from rfl,show dQ s.data.toList (⟨#[45]⟩:ByteArray).data.toList=D9 s from rfl]at C;obtain⟨R,hR⟩:=iC (lV s);rw[hR];unfold lV at hR;by_cases p:(s.toList==[110,97,110])=aJ
 case' pos=>have aq:(s.toList==[110,97,110])=aJ:=p;rw[gY p]at hR;subst hR;clear p
 case' neg=>
  have aq:(s.toList==[110,97,110])=ay:=bJ.2 p;rw[gZ p]at hR;obtain⟨t,L⟩:=iC (Bf s);obtain⟨q,M⟩:=iC (D9 s);rw[L]at hR C K;rw[M]at hR C;clear L M;have F:=ae hR;clear hR;by_cases d:(t.toList==[105,110,102])=aJ
  case' pos=>have ar:(t.toList==[105,110,102])=aJ:=d;have r:=ae (show wZ t=au 9218868437227405312 by unfold wZ;rw[gY d]);clear d;cases q
  case' neg=>
   have ar:(t.toList==[105,110,102])=ay:=bJ.2 d;by_cases j:(t.toList==[48,112,48])=aJ
   case' pos=>have av:(t.toList==[48,112,48])=aJ:=j;have r:=ae (show wZ t=au 0 by unfold wZ;rw[gZ d,gY j]);clear d j;cases q
   case' neg=>
    have av:(t.toList==[48,112,48])=ay:=bJ.2 j;have r:=ae (show wZ t=Bg t by unfold wZ;rw[gZ d,gZ j]);rw[r.1]at F;have k:=ae (λ(W:aH) (g:Below w.heap.size w W)=>PH t iE W (n.below g));have N:=PE t;have O:=PG t;obtain⟨P,a⟩:=iC (Bg t);rw[a]at F;unfold Bg at a;obtain⟨A,hA⟩:=iC (yh t);obtain⟨B,Q⟩:=iC (yj t);obtain⟨o,S⟩:=iC (Ea t);rw[hA]at k a N;rw[Q]at k a O;rw[S]at k a;have i:=ae (λ(W:aH) (g:Below w.heap.size w W)=>OJ ⟨A.toArray⟩ iE W (n.below g));have b:=ae (λ(W:aH) (g:Below w.heap.size w W)=>OL ⟨B.toArray⟩ iE W (n.below g));have aw:=ae n;rw[show((⟨A.toArray⟩:ByteArray).data.toList)=A from rfl]at i;rw[show((⟨B.toArray⟩:ByteArray).data.toList)=B from rfl]at b;obtain⟨U,V⟩:∃U:ByteArray,(⟨A.toArray⟩:ByteArray)=U:=⟨_,rfl⟩;obtain⟨X,Y⟩:∃X:ByteArray,(⟨B.toArray⟩:ByteArray)=X:=⟨_,rfl⟩;rw[V]at i k;rw[Y]at b k;clear hA Q S d j n r N O V Y K;cases c:zu A
    case' none=>
      rw[c]at i a;simp only at i a;subst a;cases u:zx B
      all_goals
       rw[u]at b;simp only at b;cases o
    case' some m=>
      have aD:m<18446744073709551616:=by
       unfold zu at c;cases hx:dA 64 A with
       |ok v=>rw[hx]at c;simp only[Option.some.injEq]at c;subst c;exact Pz A v hx
       |_=>rw[hx]at c;simp at c
      rw[c]at i a;simp only at i a;cases u:zx B
      case' none=>rw[u]at b a;simp only at b a;subst a;cases o
      case' some e=>
       rw[u]at b a;simp only at b a;have G:=ae (λW=>fits_any m aD e W);clear c u;cases o
       case' false=>rw[gZ iH]at a;subst a
       case' true=>
        cases D:wY m e
        case' false=>rw[D]at G a;rw[gZ iH]at a;subst a
        case' true=>
         rw[D]at G a;obtain⟨aE,aL,aM⟩:=Pq D;have y:=Py m aE;have H:=Px _ e y.1 y.2;have Z:=ae (λW=>PL _ y.1 y.2 e iE iE W);obtain⟨f,hf⟩:=iC (ui (floatOfInt .f64 (m:Int)) e);rw[hf]at Z H a;have aa:=ae (λ(W:aH) (g:Below w.heap.size w W)=>Po f H W (aw.1.below g));clear hf y H D;obtain⟨T,ab⟩:=iC (oN f);rw[ab]at aa a;clear ab;by_cases l:(T.toList==t.toList)=aJ
         case' pos=>rw[gY ⟨rfl,rfl,l⟩]at a;subst a;have aF:(T.toList==t.toList)=aJ:=l;clear l;cases q
         case' neg=>rw[gZ (λh=>l h.2.2)]at a;subst a;have aF:(T.toList==t.toList)=ay:=bJ.2 l;clear l
 all_goals
  go_enter Tryz.func155,Tryz.ntmps155
  go_wp2_with(first
   |(go_at_call 51;refine(C.1 _).mono ?_;rintro e z ⟨rfl,rfl⟩)
   |(go_at_call 178;refine(an.1 _).mono ?_;rintro e z ⟨rfl,rfl⟩)
   |(go_at_call 179;refine(ao.1 _).mono ?_;rintro e z ⟨rfl,rfl⟩)
   |(go_at_call 184;refine(ap.1 _ _).mono ?_;rintro e z ⟨rfl,rfl⟩)
   |(go_at_call 14;refine(k.1 _ (aC _ _)).mono ?_;rintro e aR ⟨rfl,ac⟩;have I:=ae ac;clear ac)
   |(go_at_call 180;refine(i.1 _ I.1).mono ?_;rintro e w3 ⟨ad,ai⟩;(first|obtain rfl:=ad|obtain⟨v1,a0,a1,rfl⟩:=ad);have J:=ae (I.1.trans (ai.mono I.1.size));clear ai)
   |(go_at_call 55;refine(b.1 _ J.1).mono ?_;rintro e a2 ⟨ak,al⟩;(first|obtain rfl:=ak|obtain⟨v2,a3,a4,rfl⟩:=ak);have E:=ae (J.1.trans (al.mono J.1.size));clear al)
   |(go_at_call 181;refine(G.1 _).mono ?_;rintro e z ⟨rfl,rfl⟩)
   |(go_at_call 182;refine(Z.1 _).mono ?_;rintro e z ⟨rfl,rfl⟩)
   |(go_at_call 183;refine(aa.1 _ E.1).mono ?_;rintro e a5 ⟨rfl,am⟩;have aG:=ae (E.1.trans (am.mono E.1.size));clear am))
  go_ret2
  first
   |exact⟨rfl,aC _ _⟩
   |(
     refine⟨?_,by first|exact aG.1|exact E.1|exact aC _ _⟩;rw[<-F.1]
     (try rw[r.1])
     rfl)
theorem PN (s:ByteArray)(hs:s.size<=70000)(w:aH)(b:nT w):
  aQ aI 133 #[.string s] w λe w'=>e=.returned (.bool (lV s).isSome)/\Below w.heap.size w w':=by
 have a:=ae (Eb s hs w b);generalize(lV s).getD 0=f at a;generalize(lV s).isSome=o at a⊢;clear b;go_enter Tryz.func133,Tryz.ntmps133
 go_wp2_with(go_at_call 155;refine a.1.mono ?_;rintro e g ⟨rfl,c⟩;have d:=ae c;clear c)
 go_ret;exact⟨rfl,d.1⟩
def Ho (a b:Nat):Bool:=FloatKind.f64.format.order a b==au dI
def vU (a b:ByteArray):Int×Bool:=
 match(lV a).isSome,(lV b).isSome with
 |true,aJ=>
  if ug ((lV a).getD 0)then(0,ay)
  else if ug ((lV b).getD 0)then(0,ay)
  else if wU ((lV a).getD 0) ((lV b).getD 0)then(-1,aJ)
  else if Ho ((lV a).getD 0) ((lV b).getD 0)then(1,aJ)
  else(0,aJ)
 |_,_=>(0,ay)
theorem PO (a b:ByteArray)(ha:a.size<=70000)(r:b.size<=70000)(w:aH)(p:nT w):
  aQ aI 168 #[.string a,.string b] w λe w'=>e=.returned (.tuple #[.int .i64 (vU a b).1,.bool (vU a b).2])/\Below w.heap.size w w':=by
 have i:=ae (λ(W:aH) (q:Below w.heap.size w W)=>Eb a ha W (p.below q));have j:=ae (λ(W:aH) (q:Below w.heap.size w W)=>Eb b r W (p.below q));obtain⟨R,hR⟩:=iC (vU a b);rw[hR];unfold vU at hR;generalize(lV a).getD 0=x at i hR;generalize(lV b).getD 0=y at j hR;generalize(lV a).isSome=s at i hR;generalize(lV b).isSome=t at j hR;clear p;cases s with
 |false=>
  have g:PLift (R=(0,ay)):=⟨by rw[<-hR]⟩;clear hR;go_enter bu,aW
  go_upto_region 2 with(go_at_call 155;refine(i.1 _ (aC _ _)).mono ?_;rintro e k ⟨rfl,d⟩;have c:=ae d;clear d)
  go_wp2_with(go_at_call 155;refine(j.1 _ c.1).mono ?_;rintro e w3 ⟨rfl,f⟩;have h:=ae (c.1.trans (f.mono c.1.size));clear f)
  go_ret2;exact⟨by rw[g.1];rfl,h.1⟩
 |true=>
  cases t with
  |false=>
   have g:PLift (R=(0,ay)):=⟨by rw[<-hR]⟩;clear hR;go_enter bu,aW
   go_upto_region 2 with(go_at_call 155;refine(i.1 _ (aC _ _)).mono ?_;rintro e k ⟨rfl,d⟩;have c:=ae d;clear d)
   go_wp2_with(go_at_call 155;refine(j.1 _ c.1).mono ?_;rintro e w3 ⟨rfl,f⟩;have h:=ae (c.1.trans (f.mono c.1.size));clear f)
   go_ret2;exact⟨by rw[g.1];rfl,h.1⟩
  |true=>
   simp only at hR;cases l:ug x with
   |true=>
    have u:(FloatKind.f64.format.order x x !=au aY)=aJ:=l;have g:PLift (R=(0,ay)):=⟨by rw[<-hR,gY l]⟩;clear hR;go_enter bu,aW
    go_upto_region 2 with(go_at_call 155;refine(i.1 _ (aC _ _)).mono ?_;rintro e k ⟨rfl,d⟩;have c:=ae d;clear d)
    go_wp2_with(go_at_call 155;refine(j.1 _ c.1).mono ?_;rintro e w3 ⟨rfl,f⟩;have h:=ae (c.1.trans (f.mono c.1.size));clear f)
    go_ret2;exact⟨by rw[g.1];rfl,h.1⟩
   |false=>
    have u:(FloatKind.f64.format.order x x !=au aY)=ay:=l;rw[gZ (by simp[l])]at hR;cases m:ug y with
    |true=>
     have v:(FloatKind.f64.format.order y y !=au aY)=aJ:=m;have g:PLift (R=(0,ay)):=⟨by rw[<-hR,gY m]⟩;clear hR;go_enter bu,aW
     go_upto_region 2 with(go_at_call 155;refine(i.1 _ (aC _ _)).mono ?_;rintro e k ⟨rfl,d⟩;have c:=ae d;clear d)
     go_wp2_with(go_at_call 155;refine(j.1 _ c.1).mono ?_;rintro e w3 ⟨rfl,f⟩;have h:=ae (c.1.trans (f.mono c.1.size));clear f)
     go_ret2;exact⟨by rw[g.1];rfl,h.1⟩
    |false=>
     have v:(FloatKind.f64.format.order y y !=au aY)=ay:=m;rw[gZ (by simp[m])]at hR;cases n:wU x y with
     |true=>
      have z:(FloatKind.f64.format.order x y==au dX)=aJ:=n;have g:PLift (R=(-1,aJ)):=⟨by rw[<-hR,gY n]⟩;clear hR;go_enter bu,aW
      go_upto_region 2 with(go_at_call 155;refine(i.1 _ (aC _ _)).mono ?_;rintro e k ⟨rfl,d⟩;have c:=ae d;clear d)
      go_wp2_with(go_at_call 155;refine(j.1 _ c.1).mono ?_;rintro e w3 ⟨rfl,f⟩;have h:=ae (c.1.trans (f.mono c.1.size));clear f)
      go_ret2;exact⟨by rw[g.1];rfl,h.1⟩
     |false=>
      have z:(FloatKind.f64.format.order x y==au dX)=ay:=n;rw[gZ (by simp[n])]at hR;cases o:Ho x y with
      |true=>
       have A:(FloatKind.f64.format.order x y==au dI)=aJ:=o;have g:PLift (R=(1,aJ)):=⟨by rw[<-hR,gY o]⟩;clear hR;go_enter bu,aW
       go_upto_region 2 with(go_at_call 155;refine(i.1 _ (aC _ _)).mono ?_;rintro e k ⟨rfl,d⟩;have c:=ae d;clear d)
       go_wp2_with(go_at_call 155;refine(j.1 _ c.1).mono ?_;rintro e w3 ⟨rfl,f⟩;have h:=ae (c.1.trans (f.mono c.1.size));clear f)
       go_ret2;exact⟨by rw[g.1];rfl,h.1⟩
      |false=>
       have A:(FloatKind.f64.format.order x y==au dI)=ay:=o;have g:PLift (R=(0,aJ)):=⟨by rw[<-hR,gZ (by simp[o])]⟩;clear hR;go_enter bu,aW
       go_upto_region 2 with(go_at_call 155;refine(i.1 _ (aC _ _)).mono ?_;rintro e k ⟨rfl,d⟩;have c:=ae d;clear d)
       go_wp2_with(go_at_call 155;refine(j.1 _ c.1).mono ?_;rintro e w3 ⟨rfl,f⟩;have h:=ae (c.1.trans (f.mono c.1.size));clear f)
       go_ret2;exact⟨by rw[g.1];rfl,h.1⟩
end Go.Proofs.YthcalnnipjflkaaGreatDoor
namespace Go.Proofs.YthcalnnipjflkaaGreatDoor
open Go.RowKit
open Go.Lib hiding intOf
def Ed (W:aH):Prop:=∀s:ByteArray,s.size<=18->
 aQ aI 55 #[.string s] W λe w'=>(match dB s.data.toList with
  |some n=>e=.returned (.tuple #[.int .i64 n,.nilIface])
  |none=>∃t p,e=.returned (.tuple #[.int .i64 0,.iface t p]))/\Below W.heap.size W w'
theorem Ee:∀(l:List UInt8) (c:UInt8),aP l c<(l.length:Int)
 |[],c=>by simp[aP]
 |x::l,c=>by
  have h:=Ee l c;unfold aP;simp only[List.length_cons]
  push_cast
  repeat' split
  all_goals omega
def vV (l:List UInt8):Option Nat:=
 if aP l 101<0 then ax
 else if(kP (l.take (aP l 101).toNat)).isSome&&decide (l.length - (aP l 101).toNat<=6)then au (aP l 101).toNat else ax
theorem pI {P:Program}{fn:Func}{p u:Tmp}{ty:TypeId}(h:fn.results=#[.cell p ty,.tmp u])(tmps:Array bH)(w:aH)(g:Nat)(t:TypeId)(a:Array bH)(b:Nat×Nat)(d:TypeDesc)
  (hp:tmps.getD p undef=.pointer (au ⟨g,0,ax⟩))(c:w.heap[g]?=au (.cells a t b))
  (e:P.underlying ty=au d)(hd:(match d with|.struct _|.array _ _=>aJ|_=>ay)=aJ)(hi:(P.info? ty).map (·.size)=au a.size):
  (results fn tmps).run P w=.ok (.tuple #[.agg a,tmps.getD u undef]) w:=by
 rw[results_cell_tmp h];simp only[hp,asAddr,Sem.run_pure,Result.andThen_ok,run_loadVar_row w g t ty a b d c e hd hi]
def Hy:bH:=.tuple #[.agg #[.bool ay,.slice ax 0 0,.int .i64 0],.bool ay]
theorem PW (s:ByteArray)(hs:s.size<=70000)(w:aH)(b:vV s.data.toList=ax):
  aQ aI 154 #[.string s] w λr w'=>r=.returned Hy/\Below w.heap.size w w':=by
 have n:s.data.toList.length=s.size:=iH
 have i:=Ee s.data.toList 101;have o:=Lib.indexByte_ge s.data.toList 101;have j:=ae (λW:aH=>Tryz.strings_IndexByte s 101 W);rw[show((101:Int).toNat.toUInt8)=(101:UInt8)from rfl]at j;unfold vV at b;obtain⟨p,q⟩:=iC (aP s.data.toList 101);rw[q]at b i o j;rw[n]at b i;by_cases l:p<0
 ·obtain rfl:p= -1:=iE
  clear b i o q l n hs;go_enter bY,bQ
  go_upto_region 1 with fail
  obtain⟨W0,f⟩:=iC (w.alloc (.cells #[.bool ay,.slice ax 0 0,.int .i64 0] 219));have c:PLift (Below w.heap.size w W0/\W0.heap[w.heap.size]?=au (.cells #[.bool ay,.slice ax 0 0,.int .i64 0] 219)/\w.heap.size<W0.heap.size):=⟨by rw[<-f];exact⟨iW w _,aK w _,(aA.1 (aK w _)).1⟩⟩;rw[f];clear f;have v:=iK c.1.2.1 0 (.bool ay);have x:=iK c.1.2.1 1 (.slice ax 0 0);have y:=iK c.1.2.1 2 (.int .i64 0);have z:=aB c.1.2.1 0;have A:=aB c.1.2.1 1;have C:=aB c.1.2.1 2
  go_wp2_with(go_at_call 47;refine(j.1 _).mono ?_;rintro e D ⟨rfl,rfl⟩)
  (try simp only[Exit.inBlock,Exit.then])
  refine bZ (pI rfl _ _ w.heap.size _ _ _ _ rfl (ry c.1.2.1 _ _ _) aX rfl vO) rfl ?_;exact⟨rfl,vP c.1.1 (aN _) _ _ _⟩
 ·obtain⟨k,rfl⟩:∃k:Nat,p=(k:Int):=⟨p.toNat,iE⟩
  rw[gZ l,bI]at b;have E:k<s.size:=iE
  have G:(k:Int)<(s.size:Int):=i;have H:(0:Int)<=(k:Int):=iE
  have I:¬(k:Int)<0:=l;have J:(s.size:Int)<=70000:=iE
  have hex:(s.extract 0 k).data.toList=s.data.toList.take k:=by simp[aS]
  have t:=ae (λW:aH=>Bj (s.extract 0 k) W (by unfold maxLen;simp;omega));rw[hex]at t;obtain⟨B,u⟩:=iC ((kP (s.data.toList.take k)).isSome);rw[u]at t b;cases B with
  |false=>
   clear b i o q l n hs hex u E;go_enter bY,bQ
   go_upto_region 1 with fail
   obtain⟨W0,f⟩:=iC (w.alloc (.cells #[.bool ay,.slice ax 0 0,.int .i64 0] 219));have c:PLift (Below w.heap.size w W0/\W0.heap[w.heap.size]?=au (.cells #[.bool ay,.slice ax 0 0,.int .i64 0] 219)/\w.heap.size<W0.heap.size):=⟨by rw[<-f];exact⟨iW w _,aK w _,(aA.1 (aK w _)).1⟩⟩;rw[f];clear f
   go_wp2_with(first
    |(go_at_call 47;refine(j.1 _).mono ?_;rintro e D ⟨rfl,rfl⟩)
    |(go_at_call 131;refine(t.1 _).mono ?_;rintro e d ⟨rfl,m⟩;have g:=ae m;clear m;have b:=(g.1.block _ c.1.2.2).trans c.1.2.1;have v:=iK b 0 (.bool ay);have x:=iK b 1 (.slice ax 0 0);have y:=iK b 2 (.int .i64 0);have z:=aB b 0;have A:=aB b 1;have C:=aB b 2;clear b))
   (try simp only[Exit.inBlock,Exit.then])
   refine bZ (pI rfl _ _ w.heap.size _ _ _ _ rfl (ry ((g.1.block _ c.1.2.2).trans c.1.2.1) _ _ _) aX rfl vO) rfl ?_;exact⟨rfl,vP (c.1.1.trans (g.1.mono (bz c.1.2.2))) (aN _) _ _ _⟩
  |true=>
   have F:¬s.size - k<=6:=λh=>by simp[h]at b
   have K:(6:Int)<(s.size:Int) - (k:Int):=iE;clear b i o q l n hs hex u E F;go_enter bY,bQ
   go_upto_region 1 with fail
   obtain⟨W0,f⟩:=iC (w.alloc (.cells #[.bool ay,.slice ax 0 0,.int .i64 0] 219));have c:PLift (Below w.heap.size w W0/\W0.heap[w.heap.size]?=au (.cells #[.bool ay,.slice ax 0 0,.int .i64 0] 219)/\w.heap.size<W0.heap.size):=⟨by rw[<-f];exact⟨iW w _,aK w _,(aA.1 (aK w _)).1⟩⟩;rw[f];clear f
   go_wp2_with(first
    |(go_at_call 47;refine(j.1 _).mono ?_;rintro e D ⟨rfl,rfl⟩)
    |(go_at_call 131;refine(t.1 _).mono ?_;rintro e d ⟨rfl,m⟩;have g:=ae m;clear m;have b:=(g.1.block _ c.1.2.2).trans c.1.2.1;have v:=iK b 0 (.bool ay);have x:=iK b 1 (.slice ax 0 0);have y:=iK b 2 (.int .i64 0);have z:=aB b 0;have A:=aB b 1;have C:=aB b 2;clear b))
   (try simp only[Exit.inBlock,Exit.then])
   refine bZ (pI rfl _ _ w.heap.size _ _ _ _ rfl (ry ((g.1.block _ c.1.2.2).trans c.1.2.1) _ _ _) aX rfl vO) rfl ?_;exact⟨rfl,vP (c.1.1.trans (g.1.mono (bz c.1.2.2))) (aN _) _ _ _⟩
def pJ (l:List UInt8):List UInt8:=if l.head?=au 45 then l.drop 1 else l
theorem PX {l:List UInt8}(h:(kP l).isSome=aJ):∀b∈pJ l,jZ b=aJ:=by
 unfold kP at h;split at h
 ·cases h
 ·split at h
  ·rename_i d c
   have he:pJ l=qH l:=by
    cases l with
    |nil=>rfl
    |cons a t=>
     cases t with
     |nil=>
      by_cases ha:a=45
      ·subst ha;exact absurd c iG
      ·unfold pJ qH sF
       simp[ha]
     |cons b t=>
      unfold pJ qH sF;by_cases ha:a=45
      ·simp[ha]
      ·simp[ha]
   rw[he];exact List.all_eq_true.1 c
  ·cases h
theorem Hz {l:List UInt8}{k:Nat}(h:vV l=au k):aP l 101=(k:Int)/\k<l.length/\(kP (l.take k)).isSome=aJ/\l.length - k<=6:=by
 unfold vV at h;have b:=Ee l 101;split at h
 ·cases h
 ·split at h
  ·rename_i c a
   cases h;simp only[bT,decide_eq_true_eq]at a;exact⟨iE,iE,a.1,a.2⟩
  ·cases h
theorem PY (s:ByteArray)(hs:s.size<=70000)(w:aH)(k:Nat)(a:vV s.data.toList=au k)(hx:dB (s.data.toList.drop (k+1))=ax)(hA:∀W,Below w.heap.size w W->Ed W):
  aQ aI 154 #[.string s] w λr w'=>r=.returned Hy/\Below w.heap.size w w':=by
 have c:s.data.toList.length=s.size:=iH
 obtain⟨j,l,hv,m⟩:=Hz a;rw[c]at l m;have n:=ae (λW:aH=>Tryz.strings_IndexByte s 101 W);rw[show((101:Int).toNat.toUInt8)=(101:UInt8)from rfl,j]at n;have v:(k:Int)<(s.size:Int):=iE
 have x:(0:Int)<=(k:Int):=iE
 have y:¬(k:Int)<0:=iE
 have z:(s.size:Int)<=70000:=iE
 have A:¬(6:Int)<(s.size:Int) - (k:Int):=iE
 have hex:(s.extract 0 k).data.toList=s.data.toList.take k:=by simp[aS]
 have o:=ae (λW:aH=>Bj (s.extract 0 k) W (by unfold maxLen;simp;omega));rw[hex,hv]at o
 have p:(s.extract (k+1) s.size).data.toList=s.data.toList.drop (k+1):=by
  have h:(s.data.toList.drop (k+1)).length<=s.size - (k+1):=by rw[aV,c];exact aN _
  simp only[aS,dC,dm]
  first
   |exact aZ h
   |simpa using aZ h
 have q:=ae (λ(W:aH) (u:Below w.heap.size w W)=>hA W u (s.extract (k+1) s.size) iI);simp only[p,hx]at q;clear a j l hv m hex p hx hA c hs;go_enter bY,bQ
 go_upto_region 1 with fail
 obtain⟨W0,d⟩:=iC (w.alloc (.cells #[.bool ay,.slice ax 0 0,.int .i64 0] 219));have b:PLift (Below w.heap.size w W0/\W0.heap[w.heap.size]?=au (.cells #[.bool ay,.slice ax 0 0,.int .i64 0] 219)/\w.heap.size<W0.heap.size):=⟨by rw[<-d];exact⟨iW w _,aK w _,(aA.1 (aK w _)).1⟩⟩;rw[d];clear d
 go_upto_region 4 with(first
  |(go_at_call 47;refine(n.1 _).mono ?_;rintro e B ⟨rfl,rfl⟩)
  |(go_at_call 131;refine(o.1 _).mono ?_;rintro e C ⟨rfl,f⟩;have g:=ae (iJ f (b.1.1.trans (f.mono (bz b.1.2.2))));clear f))
 go_wp2_with(go_at_call 55;refine(q.1 _ g.1.2).mono ?_;rintro e w3 ⟨⟨tt,pp,rfl⟩,t⟩;have i:=ae (g.1.1.trans (t.mono g.1.1.size));clear t;have a:=(i.1.block _ b.1.2.2).trans b.1.2.1;have D:=iK a 0 (.bool ay);have E:=iK a 1 (.slice ax 0 0);have F:=iK a 2 (.int .i64 0);have G:=aB a 0;have H:=aB a 1;have I:=aB a 2;clear a)
 (try simp only[Exit.inBlock,Exit.then])
 refine bZ (pI rfl _ _ w.heap.size _ _ _ _ rfl (ry ((i.1.block _ b.1.2.2).trans b.1.2.1) _ _ _) aX rfl vO) rfl ?_;exact⟨rfl,vP (b.1.1.trans (i.1.mono (bz b.1.2.2))) (aN _) _ _ _⟩
def Ib (W:aH):Prop:=∀s:ByteArray,aQ aI 173 #[.string s,.string ⟨#[45]⟩] W λe w'=>e=.returned (.string ⟨(pJ s.data.toList).toArray⟩)/\Below W.heap.size W w'
def rC (l:List UInt8)(k:Nat)(e:Int):Bool×List UInt8×Int:=
 if lK (jP (pJ (l.take k)))=[]then(ay,[],0)else(l.head?==au 45,lK (jP (pJ (l.take k))),yg (jP (pJ (l.take k))) e)
def readB (s:ByteArray)(n:Bool×List UInt8×Int):Bool:=(pG n.2.1.length n.2.2 ==0)&&((textF n.1 n.2.1 n.2.2).toList==s.toList)
theorem Qe {b:UInt8}{l:List UInt8}(h:b∈sG l):b∈l:=by unfold sG at h;have a:=dK.1 h;exact dK.1 ((bn _).mem a)
theorem Qg {b:UInt8}{l:List UInt8}(h:b∈lK l):b∈l:=(bn _).mem (Qe h)
def nU (s:ByteArray)(N:bH)(a:Int)(tx:ByteArray)(g:Nat)(b:Obj)(i:Nat)(x:Nat->bH)(X:aH):Prop:=
 match i with
 |0=>x 0=N
 |1=>x 1=N
 |2=>x 2=.int .i64 a
 |3=>x 3=.bool (a==0)
 |4=>x 4=.bool (a==0)
 |5=>a=0->x 5=N
 |6=>a=0->x 6=.string tx
 |7=>a=0->x 7=.string s
 |8=>a=0->x 8=.bool (tx.toList==s.toList)
 |9=>x 9=.bool ((a==0)&&(tx.toList==s.toList))
 |10=>X.heap[g]?=au b
 |_=>x 11=.bool ((a==0)&&(tx.toList==s.toList))
def nV:Nat->List Nat
 |2=>[1]
 |3=>[2]
 |4=>[3]
 |5=>[4]
 |6=>[5,4]
 |7=>[4]
 |8=>[6,7,4]
 |9=>[4,8]
 |10=>[0]
 |11=>[9]
 |_=>[]
def jK (g:Nat)(Z b:Obj)(X a:aH):Prop:=Below g X a/\(∀k,g<k->k<X.heap.size->a.heap[k]?=X.heap[k]?)/\(X.heap[g]?=au b->a.heap[g]?=au b)/\(X.heap[g]?=au Z\/X.heap[g]?=au b->a.heap[g]?=au Z\/a.heap[g]?=au b)
theorem jK.trans {g:Nat}{Z e:Obj}{a b c:aH}(h:jK g Z e a b)(k:jK g Z e b c):jK g Z e a c:=
 ⟨h.1.trans k.1,λq d f=>(k.2.1 q d (bG f h.1.size)).trans (h.2.1 q d f),λd=>k.2.2.1 (h.2.2.1 d),λd=>k.2.2.2 (h.2.2.2 d)⟩
theorem jK.of {g:Nat}{Z e:Obj}{a b:aH}(c:g<a.heap.size)(h:Below a.heap.size a b):jK g Z e a b:=
 ⟨h.mono (bz c),λk _ f=>h.block k f,λd=>(h.block g c).trans d,λd=>by rw[h.block g c];exact d⟩
theorem nU.keep {s:ByteArray}{N:bH}{e:Int}{tx:ByteArray}{g:Nat}{Z c:Obj}(i:Nat)(x f:Nat->bH)(X d:aH)(hi:i<12)(hx:∀k,k=i\/k∈nV i->f k=x k)(j:jK g Z c X d\/X=d)(h:nU s N e tx g c i x X):nU s N e tx g c i f d:=by
 have l:i=0\/i=1\/i=2\/i=3\/i=4\/i=5\/i=6\/i=7\/i=8\/i=9\/i=10\/i=11:=iE
 have a:=hx i (.inl rfl);rcases l with rfl|rfl|rfl|rfl|rfl|rfl|rfl|rfl|rfl|rfl|rfl|rfl
 ·exact a.trans h
 ·exact a.trans h
 ·exact a.trans h
 ·exact a.trans h
 ·exact a.trans h
 ·exact λb=>a.trans (h b)
 ·exact λb=>a.trans (h b)
 ·exact λb=>a.trans (h b)
 ·exact λb=>a.trans (h b)
 ·exact a.trans h
 ·rcases j with m|rfl
  ·exact m.2.2.1 h
  ·exact h
 ·exact a.trans h
theorem Ic {g:Nat}{l:Obj}{X e:aH}{sl:bH}{L:List UInt8}(h:kQ X sl L)(f:X.heap[g]?=au (.cells #[.bool ay,.slice ax 0 0,.int .i64 0] 219))(i:jK g (.cells #[.bool ay,.slice ax 0 0,.int .i64 0] 219) l X e):kQ e sl L:=by
 rcases h with h|⟨j,h,m,a⟩
 ·exact .inl h
 ·refine .inr ⟨j,h,m,?_⟩
  have n:=aA.1 a;rcases Nat.lt_trichotomy g h with c|c|c
  ·exact(i.2.1 h c n.1).trans a
  ·subst c
   unfold jI at a;rw[a]at f;have d:=ig (λo=>match o with|some (Obj.cells p _ _)=>p[0]?|_=>ax) f;simp only at d;cases k:L with
   |nil=>exact absurd k j
   |cons b t=>rw[k]at d;simp[byteCells]at d
  ·exact(i.1.block h c).trans a
def uk (W:aH)(s c:ByteArray)(a:Int)(e:Int)(D:List UInt8)(i:Nat)(x:Nat->bH)(X:aH):Prop:=
 match i with
 |0=>x 0=.string s
 |1=>x 1=.int .u8 a
 |2=>x 2=.bool (a==45)
 |3=>x 3=.string c
 |4=>∃g,x 4=.slice (au ⟨g,0,ax⟩) c.size c.size/\W.heap.size<=g/\jI X g (jP c.data.toList)
 |5=>x 5=.int .i64 e
 |6=>∃b sl ex,x 6=oM b sl ex/\kQ X sl D/\(D=[]->b=ay/\ex=0)/\(D≠[]->b=(a==45)/\ex=yg (jP c.data.toList) e)
 |_=>∃g,x 7=.pointer (au ⟨g,0,ax⟩)/\W.heap.size<=g/\X.heap[g]?=au (.cells #[.bool ay,.slice ax 0 0,.int .i64 0] 219)
def vW:Nat->List Nat
 |1=>[0]
 |2=>[1,0]
 |4=>[3]
 |6=>[5,4,3,2,1,0]
 |_=>[]
theorem uk.keep {W:aH}{s c:ByteArray}{m:Int}{e:Int}{D:List UInt8}(i:Nat)(x n:Nat->bH)(X j:aH)(hi:i<8)(hx:∀k,k=i\/k∈vW i->n k=x k)(o:Below X.heap.size X j\/X=j)(h:uk W s c m e D i x X):uk W s c m e D i n j:=by
 have p:i=0\/i=1\/i=2\/i=3\/i=4\/i=5\/i=6\/i=7:=iE
 have l:Below X.heap.size X j:=by
  rcases o with h|rfl
  ·exact h
  ·exact aC _ _
 have a:=hx i (.inl rfl);rcases p with rfl|rfl|rfl|rfl|rfl|rfl|rfl|rfl
 ·exact a.trans h
 ·exact a.trans h
 ·exact a.trans h
 ·exact a.trans h
 ·obtain⟨g,d,f,b⟩:=h
  exact⟨g,a.trans d,f,b.below l⟩
 ·exact a.trans h
 ·obtain⟨q,sl,ex,d,f,b⟩:=h
  exact⟨q,sl,ex,a.trans d,f.below l,b⟩
 ·obtain⟨g,d,f,b⟩:=h
  exact⟨g,a.trans d,f,(l.block _ (aA.1 b).1).trans b⟩
theorem head_eq (s:ByteArray)(h:0<s.size):(s.data.toList.head?==au 45)=(((s[0]'h).toNat:Int)==45):=by
 have c:s.data.toList.head?=au (s[0]'h):=by
  rw[List.head?_eq_getElem?];rw[List.getElem?_eq_getElem (by simpa using h)]
  rfl
 rw[c];generalize s[0]'h=b
 have d:b=45↔(b.toNat:Int)=45:=by
  constructor
  ·rintro rfl;rfl
  ·intro h
   have e:b.toNat=45:=iE;rw[<-UInt8.ofNat_toNat (x:=b),e];rfl
 by_cases a:b=45
 ·subst a;rfl
 ·have f:¬(b.toNat:Int)=45:=λh=>a (d.2 h)
  have e1:(au b==au (45:UInt8))=ay:=by simpa using a
  have g:((b.toNat:Int)==45)=ay:=by simpa using f
  rw[e1,g]
theorem Qh (l:List UInt8):(lK l).length<=l.length:=by unfold lK sG;rw[dE];refine dV (bn _).length_le ?_;rw[dE];exact(bn _).length_le
theorem Qi {l:List UInt8}(h:∀b∈l,jZ b=aJ):∀b∈jP l,b.toNat<=9:=by
 intro b d;unfold jP at d;obtain⟨a,ha,rfl⟩:=List.mem_map.1 d;have c:=h a ha;unfold jZ at c;simp only[bT,decide_eq_true_eq]at c;have e:48<=a.toNat:=by have:=c.1;simpa[bU]using this
 have f:a.toNat<=57:=by have:=c.2;simpa[bU]using this
 rw[UInt8.toNat_sub_of_le _ _ (by simpa[bU]using e)];simp;omega
theorem Qj (s:ByteArray)(hs:s.size<=70000)(w:aH)(k:Nat)(e:Int)(a0:vV s.data.toList=au k)(hx:dB (s.data.toList.drop (k+1))=au e)
  (hA:∀W,Below w.heap.size w W->Ed W)(a1:∀W,Below w.heap.size w W->Ib W)(a2:∀W,Below w.heap.size w W->Be W):
  aQ aI 154 #[.string s] w λr w'=>Below w.heap.size w w'/\∃sl,r=.returned (.tuple #[oM (rC s.data.toList k e).1 sl (rC s.data.toList k e).2.2,.bool (readB s (rC s.data.toList k e))])/\kQ w' sl (rC s.data.toList k e).2.1 :=by
 have l:s.data.toList.length=s.size:=iH
 obtain⟨a3,a4,hv,B⟩:=Hz a0;rw[l]at a4 B;have a5:=ae (λW:aH=>Tryz.strings_IndexByte s 101 W);rw[show((101:Int).toNat.toUInt8)=(101:UInt8)from rfl,a3]at a5;have bX:(k:Int)<(s.size:Int):=iE
 have b0:(0:Int)<=(k:Int):=iE
 have b1:¬(k:Int)<0:=iE
 have b2:(s.size:Int)<=70000:=iE
 have b3:¬(6:Int)<(s.size:Int) - (k:Int):=iE
 have hex:(s.extract 0 k).data.toList=s.data.toList.take k:=by simp[aS]
 have a6:=ae (λW:aH=>Bj (s.extract 0 k) W (by unfold maxLen;simp;omega));rw[hex,hv]at a6
 have a7:(s.extract (k+1) s.size).data.toList=s.data.toList.drop (k+1):=by
  have h:(s.data.toList.drop (k+1)).length<=s.size - (k+1):=by rw[aV,l];exact aN _
  simp only[aS,dC,dm]
  first
   |exact aZ h
   |simpa using aZ h
 have a8:=ae (λ(W:aH) (ad:Below w.heap.size w W)=>hA W ad (s.extract (k+1) s.size) iI);simp only[a7,hx]at a8;have ai:=ae (λ(W:aH) (ad:Below w.heap.size w W)=>a1 W ad (s.extract 0 k));rw[hex]at ai;obtain⟨c,hc⟩:∃c:ByteArray,(⟨(pJ (s.data.toList.take k)).toArray⟩:ByteArray)=c:=⟨_,rfl⟩;have aa:c.data.toList=pJ (s.data.toList.take k):=by rw[<-hc]
 have a9:∀b∈c.data.toList,jZ b=aJ:=by rw[aa];exact PX hv
 rw[hc]at ai;have ba:=ae (show rC s.data.toList k e=if lK (jP c.data.toList)=[]then(ay,[],0)else(s.data.toList.head?==au 45,lK (jP c.data.toList),yg (jP c.data.toList) e) by unfold rC;rw[aa]);have ak:=Lib.atoi_bound hx (by rw[aV,l];omega)
 have bb:c.size<=70000:=by
  have v:c.data.toList.length=c.size:=iH
  have G:(pJ (s.data.toList.take k)).length<=k:=by
   unfold pJ;split
   ·rw[aV,dw];omega
   ·rw[dw];omega
  rw[<-aa]at G;omega
 have al:=ae bb;have bc:0<s.size:=iE
 obtain⟨L,bs⟩:∃b:Int,((s[0]'bc).toNat:Int)=b:=⟨_,rfl⟩
 have ab:=ae (iJ a9 (iJ ak hs))
 have bt:=ae (show(s.data.toList.head?==au 45)=(L==45) by rw[<-bs];exact head_eq s bc)
 have bv:=ae a2;obtain⟨R,hR⟩:=iC (rC s.data.toList k e);rw[hR]at ba;rw[hR];clear a0 a3 a4 hv B hex a7 hx hA a1 l hc aa a9 ak hs bb hR a2;go_enter bY,bQ
 go_upto_region 1 with fail
 obtain⟨W0,am⟩:=iC (w.alloc (.cells #[.bool ay,.slice ax 0 0,.int .i64 0] 219));have N:PLift (Below w.heap.size w W0/\W0.heap[w.heap.size]?=au (.cells #[.bool ay,.slice ax 0 0,.int .i64 0] 219)/\w.heap.size<W0.heap.size):=⟨by rw[<-am];exact⟨iW w _,aK w _,(aA.1 (aK w _)).1⟩⟩;rw[am];clear am
 go_upto_region 4 with(first
  |(go_at_call 47;refine(a5.1 _).mono ?_;rintro e b4 ⟨rfl,rfl⟩)
  |(go_at_call 131;refine(a6.1 _).mono ?_;rintro e b5 ⟨rfl,an⟩;have P:=ae (iJ an (N.1.1.trans (an.mono (bz N.1.2.2))));clear an))
 go_upto_region 8 with(first
  |(go_at_call 55;refine(a8.1 _ P.1.2).mono ?_;rintro e w3 ⟨rfl,ao⟩;have Q:=ae (iJ (P.1.1.trans (ao.mono P.1.1.size)) (P.1.2.trans (ao.mono P.1.2.size)));clear ao)
  |(go_at_call 173;refine(ai.1 _ Q.1.2).mono ?_;rintro e bw ⟨rfl,ap⟩;have bx:=ae (iJ (Q.1.1.trans (ap.mono Q.1.1.size)) (Q.1.2.trans (ap.mono Q.1.2.size)));clear ap))
 have b6:=ae (show s.size<=70000 from ab.1.2.2);refine Mix.P6 43 7 8 1 vW (λX I=>Below X.heap.size X I) (uk bw s c L e (lK (jP c.data.toList))) iF rfl (.inl iG) iF iF iF iF iF ⟨rfl,rfl,rfl,aN _,λ_ _=>rfl⟩ (λ_ _ _ h k=>h.trans (k.mono h.size)) (λi x aq X I hi hx ar h=>uk.keep i x aq X I hi hx ar h) ?z0 ?hN
 case z0=>
  intro i o x X hi f z hd
  match i,hi with
  |0,_=>injection f with f;subst f;refine .inr ⟨rfl,.inl ⟨.string s,X,?_,aC _ _,iR.upd_same _ _ _⟩⟩;simp only[iR.jg,az,af,ah,aj];go_simp
  |1,_=>injection f with f;subst f;have aD:=hd 0 (by simp[vW]);simp only[uk]at aD;refine .inr ⟨rfl,.inl ⟨.int .u8 L,X,?_,aC _ _,iR.upd_same _ _ _⟩⟩;simp only[iR.jg,az,af,ah,aj];go_simp
  |2,_=>injection f with f;subst f;have v:=hd 1 (by simp[vW]);simp only[uk]at v;refine .inr ⟨rfl,.inl ⟨.bool (L==45),X,?_,aC _ _,iR.upd_same _ _ _⟩⟩;simp only[iR.jg,az,af,ah,aj];go_simp
  |3,_=>injection f with f;subst f;refine .inr ⟨rfl,.inl ⟨.string c,X,?_,aC _ _,iR.upd_same _ _ _⟩⟩;simp only[iR.jg,az,af,ah,aj];go_simp
  |4,_=>
   injection f with f;subst f;have bd:=hd 3 (by simp[vW]);simp only[uk]at bd;refine .inr ⟨rfl,.inr ⟨175,#[.string c],?_,?_⟩⟩
   ·simp only[iR.jg,az,af,ah,aj]
    go_simp
   ·refine(OQ c X (by have:=al.1;omega) ab.1.1).mono ?_
    rintro r I ⟨rfl,v,G⟩;exact⟨_,rfl,v,X.heap.size,iR.upd_same _ _ _,z.size,G⟩
  |5,_=>injection f with f;subst f;refine .inr ⟨rfl,.inl ⟨.int .i64 e,X,?_,aC _ _,iR.upd_same _ _ _⟩⟩;simp only[iR.jg,az,af,ah,aj];go_simp
  |6,_=>
   injection f with f;subst f;have G:=hd 2 (by simp[vW]);have S:=hd 5 (by simp[vW]);obtain⟨g,j,b7,bA⟩:=hd 4 (by simp[vW]);simp only[uk]at G S;refine .inr ⟨rfl,.inr ⟨174,#[.bool (L==45),.slice (au ⟨g,0,ax⟩) c.size c.size,.int .i64 e],?_,?_⟩⟩
   ·simp only[iR.jg,az,af,ah,aj]
    go_simp
   ·have be:(jP c.data.toList).length=c.size:=by simp[jP]
    have ak:=ab.1.2.1;have hn:=O3 (L==45) (jP c.data.toList) e g X bA (by rw[be];have:=al.1;omega) iE iE;rw[be]at hn;refine hn.mono ?_;rintro r I ⟨v,⟨B,rfl⟩|⟨B,q,H,rfl,K⟩⟩
    ·exact⟨_,rfl,v,ay,.slice ax 0 0,0,iR.upd_same _ _ _,.inl ⟨B,rfl⟩,λ_=>⟨rfl,rfl⟩,λh=>absurd B h⟩
    ·exact⟨_,rfl,v,(L==45),_,_,iR.upd_same _ _ _,.inr ⟨B,q,rfl,K⟩,λh=>absurd h B,λ_=>⟨rfl,rfl⟩⟩
  |7,_=>injection f with f;subst f;refine .inr ⟨rfl,.inl ⟨.pointer (au ⟨X.heap.size,0,ax⟩),X.alloc (.cells #[.bool ay,.slice ax 0 0,.int .i64 0] 219),?_,iW X _,⟨X.heap.size,iR.upd_same _ _ _,z.size,aK X _⟩⟩⟩;simp only[iR.jg,az,af,ah,aj];go_simp
 case hN=>
  intro x X z hF;obtain⟨C,sl,ex,B,T,U,V⟩:=hF 6 iG;obtain⟨q,K,H,u⟩:=hF 7 iG;have bf:=iK u 0 (.bool ay);have bg:=iK u 1 (.slice ax 0 0);have bh:=iK u 2 (.int .i64 0);have bi:=aB u 0;have bj:=aB u 1;have bk:=aB u 2;have aE:=ae (iJ T (iJ U (iJ V (iJ z (iJ H u)))));clear hF T U V z H u;unfold oM at B
  have bB:∃p n y,sl=.slice p n y:=by
   rcases aE.1.1 with⟨_,rfl⟩|⟨_,h,rfl,_⟩
   ·exact⟨_,_,_,rfl⟩
   ·exact⟨_,_,_,rfl⟩
  obtain⟨p,m,y,rfl⟩:=bB;refine Mix.P7 (i:=8) iF rfl rfl ?_;unfold Oper.wp;simp only[iR.jg,az,af,ah,aj,B,K];go_simp;refine⟨iF,?_⟩;obtain⟨J,M⟩:=iC (((X.setCell ⟨q,0,ax⟩ (.bool C)).setCell ⟨q,1,ax⟩ (.slice p m y)).setCell ⟨q,2,ax⟩ (.int .i64 ex))
  have A:PLift (R=(C,lK (jP c.data.toList),ex)/\m=(lK (jP c.data.toList)).length/\kQ J (.slice p m y) (lK (jP c.data.toList))/\J.heap[q]?=au (.cells #[.bool C,.slice p m y,.int .i64 ex] 219)/\
    J.heap[w.heap.size]?=au (.cells #[.bool ay,.slice ax 0 0,.int .i64 0] 219)/\Below w.heap.size w J/\w.heap.size<q/\w.heap.size<J.heap.size/\q<J.heap.size):=⟨by
   obtain⟨T,U,V,z,H,u⟩:=aE.1;have bE:=(aA.1 u).1;have j:=bx.1;have bl:w.heap.size<q:=bG N.1.2.2 (dV j.1.size H);have bm:J.heap.size=X.heap.size:=(by rw[<-M];simp[World.setCell]);refine⟨?_,?_,?_,by rw[<-M];exact ry u _ _ _,?_,?_,bl,by rw[bm];omega,by rw[bm];exact bE⟩
   ·rw[ba.1]
    split
    ·rename_i F
     rw[(U F).1,(U F).2,F]
    ·rename_i F
     rw[(V F).1,(V F).2,bt.1]
   ·rcases T with⟨F,hs⟩|⟨F,h,hs,_⟩
    ·rw[F];cases hs;rfl
    ·cases hs;rfl
   ·rcases T with⟨F,hs⟩|⟨F,h,hs,hr⟩
    ·exact .inl ⟨F,hs⟩
    ·refine .inr ⟨F,h,hs,?_⟩
     have bL:h≠q:=λe=>by
      subst e;unfold jI at hr;rw[hr]at u;have v:=ig (λo=>match o with|some (Obj.cells bM _ _)=>bM[0]?|_=>ax) u;simp only at v;cases l:lK (jP c.data.toList)with
      |nil=>exact F l
      |cons b t=>rw[l]at v;simp[byteCells]at v
     unfold jI at hr⊢;rw[<-M,Bd _ _ _ bL];exact hr
   ·rw[<-M,Bd _ _ _ iE]
    rw[z.block _ (bG N.1.2.2 j.1.size),j.1.block _ N.1.2.2];exact N.1.2.1
   ·rw[<-M]
    exact vP (j.2.trans (z.mono j.2.size)) (bz bl) _ _ _⟩
  rw[M];clear M B K bf bg bh bi bj bk aE
  go_upto_region 9 with fail
  obtain⟨tx,bo⟩:=iC (textF C (lK (jP c.data.toList)) ex);obtain⟨D,bp⟩:=iC (pG m ex);have bq:=ae bo;have aF:=ae bp
  have aG:PLift (m<=70000/\∀b∈lK (jP c.data.toList),b.toNat<=9):=⟨by have v:(jP c.data.toList).length=c.size:=(by simp[jP]);have G:(lK (jP c.data.toList)).length<=(jP c.data.toList).length:=Qh _;have bd:=al.1;refine⟨by rw[A.1.2.1];omega,λb br=>Qi ab.1.1 b (Qg br)⟩⟩
  clear bo bp
  refine Mix.Eh 50 10 3 nV (jK w.heap.size (.cells #[.bool ay,.slice ax 0 0,.int .i64 0] 219) (.cells #[.bool C,.slice p m y,.int .i64 ex] 219))
   (nU s (.agg #[.bool C,.slice p m y,.int .i64 ex]) D tx w.heap.size (.cells #[.bool C,.slice p m y,.int .i64 ex] 219)) iF rfl (.inl iG) iF iF iF iF (jK.of A.1.2.2.2.2.2.2.2.1 ⟨rfl,rfl,rfl,aN _,λ_ _=>rfl⟩) (λ_ _ _ h k=>h.trans k)
   (λi x aq X I hi hx ar h=>nU.keep i x aq X I hi hx ar h) ?z0 ?hN
  case z0=>
   intro i o x X hi f z hd
   have E:PLift (w.heap.size<X.heap.size/\kQ X (.slice p m y) (lK (jP c.data.toList))/\Below w.heap.size w X/\(X.heap[w.heap.size]?=au (.cells #[.bool ay,.slice ax 0 0,.int .i64 0] 219)\/X.heap[w.heap.size]?=au (.cells #[.bool C,.slice p m y,.int .i64 ex] 219))):=⟨by refine⟨bG A.1.2.2.2.2.2.2.2.1 z.1.size,?_,A.1.2.2.2.2.2.1.trans z.1,z.2.2.2 (.inl A.1.2.2.2.2.1)⟩;exact Ic A.1.2.2.1 A.1.2.2.2.2.1 z⟩
   have H:X.heap[q]?=au (.cells #[.bool C,.slice p m y,.int .i64 ex] 219):=(z.2.1 q A.1.2.2.2.2.2.2.1 A.1.2.2.2.2.2.2.2.2).trans A.1.2.2.2.1;have bf:=iK H 0 (.bool C);have bg:=iK H 1 (.slice p m y);have bh:=iK H 2 (.int .i64 ex);clear z H;have Y:∀(h:D=0),(D==0)=aJ:=λh=>by rw[h];rfl
   have Z:∀(h:¬D=0),(D==0)=ay:=λh=>by simpa using h
   match i,hi with
   |0,_=>injection f with f;subst f;refine .inl (.inr ⟨rfl,.inl ⟨_,X,?_,jK.of E.1.1 (aC _ _),iR.upd_same _ _ _⟩⟩);simp only[Mix.jA,iR.jg,az,af,ah,aj];go_simp
   |1,_=>injection f with f;subst f;refine .inl (.inr ⟨rfl,.inl ⟨_,X,?_,jK.of E.1.1 (aC _ _),iR.upd_same _ _ _⟩⟩);simp only[Mix.jA,iR.jg,az,af,ah,aj];go_simp
   |2,_=>
    injection f with f;subst f;have v:=hd 1 (by simp[nV]);simp only[nU]at v;refine .inl (.inr ⟨rfl,.inr ⟨176,#[.agg #[.bool C,.slice p m y,.int .i64 ex]],?_,?_⟩⟩)
    ·simp only[Mix.jA,iR.jg,az,af,ah,aj]
     go_simp
    ·refine(O4 C p m y ex (by have:=aG.1.1;omega) X).mono ?_
     rintro r I ⟨rfl,G⟩;refine⟨_,rfl,jK.of E.1.1 G,?_⟩;rw[aF.1];exact iR.upd_same _ _ _
   |3,_=>injection f with f;subst f;have v:=hd 2 (by simp[nV]);simp only[nU]at v;refine .inl (.inr ⟨rfl,.inl ⟨.bool (D==0),X,?_,jK.of E.1.1 (aC _ _),iR.upd_same _ _ _⟩⟩);simp only[Mix.jA,iR.jg,az,af,ah,aj];go_simp
   |4,_=>injection f with f;subst f;have v:=hd 3 (by simp[nV]);simp only[nU]at v;refine .inl (.inr ⟨rfl,.inl ⟨.bool (D==0),X,?_,jK.of E.1.1 (aC _ _),iR.upd_same _ _ _⟩⟩);simp only[Mix.jA,iR.jg,az,af,ah,aj];go_simp
   |5,_=>
    injection f with f;subst f;have j:=hd 4 (by simp[nV]);simp only[nU]at j;by_cases l:D=0
    ·rw[Y l]at j
     refine .inl (.inr ⟨?_,.inl ⟨.agg #[.bool C,.slice p m y,.int .i64 ex],X,?_,jK.of E.1.1 (aC _ _),λ_=>iR.upd_same _ _ _⟩⟩)
     ·simp only[Mix.jA,iR.jg,az,af,ah,aj,j]
      rfl
     ·simp only[Mix.jA,iR.jg,az,af,ah,aj]
      go_simp
    ·rw[Z l]at j
     refine .inl (.inl ⟨?_,λh=>absurd h l⟩);simp only[Mix.jA,iR.jg,az,af,ah,aj,j]
     rfl
   |6,_=>
    injection f with f;subst f;have j:=hd 4 (by simp[nV]);have S:=hd 5 (by simp[nV]);simp only[nU]at j S;by_cases l:D=0
    ·rw[Y l]at j
     have S:=S l;refine .inl (.inr ⟨?_,.inr ⟨177,#[.agg #[.bool C,.slice p m y,.int .i64 ex]],?_,?_⟩⟩)
     ·simp only[Mix.jA,iR.jg,az,af,ah,aj,j]
      rfl
     ·simp only[Mix.jA,iR.jg,az,af,ah,aj]
      go_simp
     ·have O:=aF.1
      have br: -2000<=ex/\ex<=2000:=by
       rw[l]at O;unfold pG at O;split at O
       ·cases O
       ·split at O
        ·cases O
        ·omega
      refine(O9 C (.slice p m y) (lK (jP c.data.toList)) ex X E.1.2.1 (by have:=aG.1.1;have:=A.1.2.1;omega) aG.1.2 iE iE (by have:=dh (n:=ex) iE iE;omega) (λW bN=>bv.1 W (E.1.2.2.1.trans (bN.mono E.1.2.2.1.size)))).mono ?_;rintro r I ⟨rfl,G⟩;refine⟨_,rfl,jK.of E.1.1 G,λ_=>?_⟩;rw[bq.1];exact iR.upd_same _ _ _
    ·rw[Z l]at j
     refine .inl (.inl ⟨?_,λh=>absurd h l⟩);simp only[Mix.jA,iR.jg,az,af,ah,aj,j]
     rfl
   |7,_=>
    injection f with f;subst f;have j:=hd 4 (by simp[nV]);simp only[nU]at j;by_cases l:D=0
    ·rw[Y l]at j
     refine .inl (.inr ⟨?_,.inl ⟨.string s,X,?_,jK.of E.1.1 (aC _ _),λ_=>iR.upd_same _ _ _⟩⟩)
     ·simp only[Mix.jA,iR.jg,az,af,ah,aj,j]
      rfl
     ·simp only[Mix.jA,iR.jg,az,af,ah,aj]
      go_simp
    ·rw[Z l]at j
     refine .inl (.inl ⟨?_,λh=>absurd h l⟩);simp only[Mix.jA,iR.jg,az,af,ah,aj,j]
     rfl
   |8,_=>
    injection f with f;subst f;have j:=hd 4 (by simp[nV]);have B:=hd 6 (by simp[nV]);have K:=hd 7 (by simp[nV]);simp only[nU]at j B K;by_cases l:D=0
    ·rw[Y l]at j
     have B:=B l;have K:=K l;refine .inl (.inr ⟨?_,.inl ⟨.bool (tx.toList==s.toList),X,?_,jK.of E.1.1 (aC _ _),λ_=>iR.upd_same _ _ _⟩⟩)
     ·simp only[Mix.jA,iR.jg,az,af,ah,aj,j]
      rfl
     ·simp only[Mix.jA,iR.jg,az,af,ah,aj]
      go_simp
    ·rw[Z l]at j
     refine .inl (.inl ⟨?_,λh=>absurd h l⟩);simp only[Mix.jA,iR.jg,az,af,ah,aj,j]
     rfl
   |9,_=>
    injection f with f;subst f;have j:=hd 4 (by simp[nV]);have aL:=hd 8 (by simp[nV]);simp only[nU]at j aL;refine .inl (.inr ⟨rfl,.inl ⟨.bool ((D==0)&&(tx.toList==s.toList)),X,?_,jK.of E.1.1 (aC _ _),iR.upd_same _ _ _⟩⟩);by_cases l:D=0
    ·have aL:=aL l
     rw[Y l]at j⊢;simp only[Mix.jA,iR.jg,az,af,ah,aj];go_simp
    ·rw[Z l]at j⊢
     simp only[Mix.jA,iR.jg,az,af,ah,aj];go_simp
   |10,_=>
    injection f with f;subst f;have aD:=hd 0 (by simp[nV]);simp only[nU]at aD
    have u:∃a b d,X.heap[w.heap.size]?=au (.cells #[a,b,d] 219):=by
     rcases E.1.2.2.2 with h|h
     ·exact⟨_,_,_,h⟩
     ·exact⟨_,_,_,h⟩
    obtain⟨bO,bR,d0,u⟩:=u;have b8:=iK u 0 bO;have e1:=iK u 1 bR;have b9:=iK u 2 d0;have bi:=aB u 0;have bj:=aB u 1;have bk:=aB u 2;refine .inr ⟨rfl,rfl,((X.setCell ⟨w.heap.size,0,ax⟩ (.bool C)).setCell ⟨w.heap.size,1,ax⟩ (.slice p m y)).setCell ⟨w.heap.size,2,ax⟩ (.int .i64 ex),?_,?_,ry u _ _ _⟩
    ·simp only[Mix.jA,iR.jg,az,af,ah,aj]
     go_simp
    ·refine⟨?_,λk v G=>Bd _ _ _ iE,λ_=>ry u _ _ _,λ_=>.inr (ry u _ _ _)⟩
     exact((aC w.heap.size X).setCell (p:=⟨w.heap.size,0,ax⟩) (aN _) _ |>.setCell (p:=⟨w.heap.size,1,ax⟩) (aN _) _).setCell (p:=⟨w.heap.size,2,ax⟩) (aN _) _
   |11,_=>injection f with f;subst f;have bS:=hd 9 (by simp[nV]);simp only[nU]at bS;refine .inl (.inr ⟨rfl,.inl ⟨.bool ((D==0)&&(tx.toList==s.toList)),X,?_,jK.of E.1.1 (aC _ _),iR.upd_same _ _ _⟩⟩);simp only[Mix.jA,iR.jg,az,af,ah,aj];go_simp
  case hN=>
   intro x X z hF;have aM:=hF 10 iG;have aR:=hF 11 iG;simp only[nU]at aM aR;have ac:=ae (iJ aR (iJ z aM));clear hF z aM aR;simp only[Mix.jA,iR.jg,az,af,ah,aj,ac.1.1];go_wp2
   (try simp only[Exit.inBlock,Exit.then])
   refine bZ (pI rfl _ _ w.heap.size _ _ _ _ rfl ac.1.2.2 aX rfl vO) rfl ?_;refine⟨A.1.2.2.2.2.2.1.trans ac.1.2.1.1,.slice p m y,?_,?_⟩
   ·rw[A.1.1]
    unfold readB oM;simp only;rw[<-A.1.2.1,aF.1,bq.1]
    rfl
   ·rw[A.1.1]
    simp only;exact Ic A.1.2.2.1 A.1.2.2.2.2.1 ac.1.2.1
def lq (w:aH):Prop:=∀W,Below w.heap.size w W->Ed W/\Ib W/\Be W
theorem lq.below {w W:aH}(h:lq w)(a:Below w.heap.size w W):lq W:=λX b=>h X (a.trans (b.mono a.size))
def jF (s:ByteArray):(Bool×List UInt8×Int)×Bool:=
 match vV s.data.toList with
 |none=>((ay,[],0),ay)
 |some k=>match dB (s.data.toList.drop (k+1))with
  |none=>((ay,[],0),ay)
  |some e=>(rC s.data.toList k e,readB s (rC s.data.toList k e))
theorem Ie {s:ByteArray}(h:(jF s).2 =aJ):(jF s).1.2.1.length<=400/\ -2000<=(jF s).1.2.2 /\(jF s).1.2.2 <=2000:=by
 unfold jF at h⊢;split at h
 ·cases h
 ·split at h
  ·cases h
  ·rename_i k b _ e he
   unfold readB at h;rw[bT]at h;have a:pG (rC s.data.toList k e).2.1.length (rC s.data.toList k e).2.2 =0:=(by simpa using h.1);unfold pG at a;split at a
   ·cases a
   ·split at a
    ·cases a
    ·simp only
     exact⟨iE,iE,iE⟩
theorem Ei (s:ByteArray)(hs:s.size<=70000)(w:aH)(b:lq w):
  aQ aI 154 #[.string s] w λr w'=>Below w.heap.size w w'/\∃sl,r=.returned (.tuple #[.agg #[.bool (jF s).1.1,sl,.int .i64 (jF s).1.2.2],.bool (jF s).2])/\kQ w' sl (jF s).1.2.1 :=by
 unfold jF;cases c:vV s.data.toList with
 |none=>refine(PW s hs w c).mono ?_;rintro r w' ⟨rfl,d⟩;exact⟨d,.slice ax 0 0,rfl,.inl ⟨rfl,rfl⟩⟩
 |some k=>
  simp only;cases f:dB (s.data.toList.drop (k+1))with
  |none=>refine(PY s hs w k c f (λW a=>(b W a).1)).mono ?_;rintro r w' ⟨rfl,d⟩;exact⟨d,.slice ax 0 0,rfl,.inl ⟨rfl,rfl⟩⟩
  |some e=>exact Qj s hs w k e c f (λW a=>(b W a).1) (λW a=>(b W a).2.1) (λW a=>(b W a).2.2)
theorem kQ.slice {w:aH}{sl:bH}{L:List UInt8}(h:kQ w sl L):∃p c,sl=.slice p L.length c:=by
 rcases h with⟨rfl,rfl⟩|⟨_,h,rfl,_⟩
 ·exact⟨ax,0,rfl⟩
 ·exact⟨_,_,rfl⟩
theorem Qk (s:ByteArray)(hs:s.size<=70000)(w:aH)(b:lq w):
  aQ aI 132 #[.string s] w λr w'=>r=.returned (.bool (jF s).2)/\Below w.heap.size w w':=by
 have d:=ae (Ei s hs w b);obtain⟨m,f⟩:=iC ((jF s).1.1 );obtain⟨L,g⟩:=iC ((jF s).1.2.1 );obtain⟨ex,h⟩:=iC ((jF s).1.2.2 );obtain⟨ok,a⟩:=iC ((jF s).2 );rw[f,g,h,a]at d;rw[a];clear f g h a hs b;go_enter Tryz.func132,Tryz.ntmps132
 go_wp2_with(go_at_call 154;refine d.1.mono ?_;rintro e l ⟨i,sl,rfl,j⟩;obtain⟨p,c,rfl⟩:=j.slice;have k:=ae i;clear i j)
 go_ret;exact⟨rfl,k.1.trans ((iW l _).mono k.1.size)⟩
def jL (n w:Nat):ByteArray:=⟨(bC [48] (w - (aO n).length)).toArray⟩++⟨(aO n).toArray⟩
theorem Ig (n:Nat)(hn:n<=1000000000):(aO (n:Int)).length<=21:=dh (n:=(n:Int)) iE iE
theorem oO (n w:Nat)(hn:n<=1000000000)(hw:w<=9):(jL n w).size<=30:=by
 unfold jL;rw[aT];have b:=Ig n hn;have c:(⟨(aO (n:Int)).toArray⟩:ByteArray).size=(aO (n:Int)).length:=by simp[ByteArray.size]
 have d:(⟨(bC [48] (w - (aO (n:Int)).length)).toArray⟩:ByteArray).size<=w:=by
  have:∀k,(bC [48] k).length=k:=by
   intro k
   induction k with
   |zero=>rfl
   |succ k a=>simp[bC]at a⊢;try omega
  simp only[ByteArray.size,aU];rw[this];omega
 omega
theorem xh (n a:Nat)(hn:n<=1000000000)(hw:a<=9)(w:aH)(h:lq w):
  aQ aI 206 #[.int .i64 n,.int .i64 a] w λr w'=>r=.returned (.string (jL n a))/\Below w.heap.size w w':=by
 have i:=ae (λ(W:aH) (t:Below w.heap.size w W)=>(h W t).2.2 (n:Int) iE iE);have u:=Ig n hn;have f:(⟨(aO (n:Int)).toArray⟩:ByteArray).size=(aO (n:Int)).length:=by simp[ByteArray.size]
 have d:=ae (show jL n a=⟨(bC [48] (a - (⟨(aO (n:Int)).toArray⟩:ByteArray).size)).toArray⟩++⟨(aO n).toArray⟩ by rw[f];rfl);have c:=oO n a hn hw;rw[d.1]at c;obtain⟨b,j⟩:∃b:ByteArray,(⟨(aO (n:Int)).toArray⟩:ByteArray)=b:=⟨_,rfl⟩;rw[j]at i f d c;have x:(b.size:Int)<=21:=iE
 have y:(0:Int)<=(b.size:Int):=iE
 obtain⟨k,l⟩:=iC (a - b.size);rw[l]at d c;have hmx:max (0:Int) ((a:Int) - (b.size:Int))=((k:Nat):Int):=iE
 have z:k<=9:=iE
 have m:=ae (λW:aH=>Tryz.strings_Repeat ⟨#[48]⟩ k W iE (by show 1*k<=_;omega));obtain⟨Z,g⟩:∃Z:ByteArray,(⟨(bC [48] k).toArray⟩:ByteArray)=Z:=⟨_,rfl⟩;have o:(⟨(bC (⟨#[48]⟩:ByteArray).data.toList k).toArray⟩:ByteArray)=Z:=g;rw[o]at m;rw[g]at d c;rw[aT]at c;have A:Z.size<=30:=iE
 have B:b.size<=30:=iE
 have C:¬(9223372036854775807:Int)<(Z.size:Int)+(b.size:Int):=iE
 have D:(a:Int)<=9:=iE
 have E:(0:Int)<=(a:Int):=iE
 clear hn hw h u f c j l g o;go_enter Tryz.func206,Tryz.ntmps206
 go_wp2_with(first
  |(go_at_call 81;refine(i.1 _ (aC _ _)).mono ?_;rintro e F ⟨rfl,p⟩;have q:=ae p;clear p)
  |(go_at_call 218;refine(m.1 _).mono ?_;rintro e G ⟨rfl,s⟩;have v:=ae s;clear s))
 go_ret;exact⟨by rw[d.1];rfl,q.1.trans (v.1.mono q.1.size)⟩
def nX (n:Int):Int:=if n<0 then -1 else if 0<n then 1 else 0
theorem Qz (n:Int)(w:aH):
  aQ aI 208 #[.int .i64 n] w λr w'=>r=.returned (.int .i64 (nX n))/\w'=w:=by
 by_cases b:n<0
 ·have a:=ae (show nX n= -1 by unfold nX;rw[gY b])
  go_enter dG,dD;go_wp2;go_ret;exact⟨by rw[a.1];rfl,rfl⟩
 ·by_cases c:0<n
  ·have a:=ae (show nX n=1 by unfold nX;rw[gZ b,gY c])
   go_enter dG,dD;go_wp2;go_ret;exact⟨by rw[a.1];rfl,rfl⟩
  ·have a:=ae (show nX n=0 by unfold nX;rw[gZ b,gZ c])
   go_enter dG,dD;go_wp2;go_ret;exact⟨by rw[a.1];rfl,rfl⟩
theorem kQ.cell {w:aH}{p:Option Addr}{n c:Nat}{L:List UInt8}(h:kQ w (.slice p n c) L){k:Nat}(a:k<L.length):∃g,p=au ⟨g,0,ax⟩/\w.cell? ⟨g,k,ax⟩=au (.int .u8 ((L.getD k 0).toNat:Int)):=by
 rcases h with⟨rfl,_⟩|⟨_,h,b,d⟩
 ·simp at a
 ·cases b
  exact⟨h,rfl,d.cell a⟩
theorem Ik (i:Bool)(sl:bH)(ex:Int)(L:List UInt8)(k:Nat)(s:k<=1000000)(t:L.length<=1000000)(w:aH)(h:kQ w sl L):
  aQ aI 222 #[.agg #[.bool i,sl,.int .i64 ex],.int .i64 k] w λr w'=>r=.returned (.int .u8 ((L.getD k 0).toNat:Int))/\Below w.heap.size w w':=by
 obtain⟨p,c,rfl⟩:=h.slice;by_cases a:k<L.length
 ·obtain⟨g,rfl,e⟩:=h.cell a
  have u:g<w.heap.size:=by
   rcases h with⟨rfl,_⟩|⟨_,q,j,l⟩
   ·simp at a
   ·cases j;exact(aA.1 l).1
  have m:(k:Int)<(L.length:Int):=iE
  have v:(0:Int)<=(k:Int):=iE
  obtain⟨b,d⟩:∃b:Int,((L.getD k 0).toNat:Int)=b:=⟨_,rfl⟩;have x:∀o,(w.alloc o).cell? ⟨g,k,ax⟩=au (.int .u8 b):=λo=>by rw[<-d];exact cell_later (iW w o) e
  rw[d];have n:(L.length:Int)<=1000000:=iE
  clear d e h a;go_enter dW,dR;go_wp2;go_ret;exact⟨rfl,iW w _⟩
 ·have f:L.getD k 0=0:=by rw[List.getD_eq_getElem?_getD,List.getElem?_eq_none iE];rfl
  rw[f];have m:¬(k:Int)<(L.length:Int):=iE
  have n:(L.length:Int)<=1000000:=iE
  clear h a f;go_enter dW,dR;go_wp2;go_ret;exact⟨rfl,iW w _⟩
theorem Il (w:aH)(A B:Obj):Below w.heap.size w ((w.alloc A).alloc B)/\((w.alloc A).alloc B).heap[w.heap.size]?=au A/\((w.alloc A).alloc B).heap[w.heap.size+1]?=au B:=by
 refine⟨(iW w _).alloc (iW w _).size _,?_,?_⟩
 ·show((w.heap.push A).push B)[w.heap.size]?=au A
  rw[cu,gZ (by rw[dO];omega),cu,gY rfl]
 ·show((w.heap.push A).push B)[w.heap.size+1]?=au B
  rw[cu,gY (by rw[dO])]
def um (L M:List UInt8):Nat->Nat->Int
 |0,_=>0
 |n+1,i=>if((L.getD i 0).toNat:Int) - ((M.getD i 0).toNat:Int)=0 then um L M n (i+1)else((L.getD i 0).toNat:Int) - ((M.getD i 0).toNat:Int)
def yu (L M:List UInt8)(e f:Int):Int:=
 if L=[]\/M=[]then(L.length:Int) - (M.length:Int)
 else if(L.length:Int)+e - (M.length:Int) - f=0 then um L M (max L.length M.length) 0 else(L.length:Int)+e - (M.length:Int) - f
theorem QA (v y:Bool)(J K:bH)(e1 g:Int)(L M:List UInt8)(w:aH)(z:kQ w J L)(A:kQ w K M)(U:L.length<=400)(V:M.length<=400)(ao: -2000<=e1)(ap:e1<=2000)(aq: -2000<=g)(ar:g<=2000):
  aQ aI 209 #[.agg #[.bool v,J,.int .i64 e1],.agg #[.bool y,K,.int .i64 g]] w λr w'=>r=.returned (.int .i64 (yu L M e1 g))/\Below w.heap.size w w':=by
 obtain⟨n,o,rfl⟩:=z.slice;obtain⟨p,q,rfl⟩:=A.slice;have O:=ae (iJ z A);have Y:(L.length:Int)<=400:=iE
 have Z:(M.length:Int)<=400:=iE
 have av:(0:Int)<=(L.length:Int):=iE
 have aw:(0:Int)<=(M.length:Int):=iE
 have c:=ae (show yu L M e1 g=if L=[]\/M=[]then(L.length:Int) - (M.length:Int)else if(L.length:Int)+e1 - (M.length:Int) - g=0 then um L M (max L.length M.length) 0 else(L.length:Int)+e1 - (M.length:Int) - g from rfl);clear z A U V;go_enter Tryz.func209,Tryz.ntmps209
 go_upto_region 1 with fail
 obtain⟨W0,B⟩:=iC ((w.alloc (.cells #[.bool v,.slice n L.length o,.int .i64 e1] 219)).alloc (.cells #[.bool y,.slice p M.length q,.int .i64 g] 219))
 have e:PLift (Below w.heap.size w W0/\W0.heap[w.heap.size]?=au (.cells #[.bool v,.slice n L.length o,.int .i64 e1] 219)/\W0.heap[w.heap.size+1]?=au (.cells #[.bool y,.slice p M.length q,.int .i64 g] 219)):=⟨by rw[<-B];exact Il w _ _⟩
 rw[B];clear B;have aD:=iK e.1.2.1 1 (.slice n L.length o);have aE:=iK e.1.2.1 2 (.int .i64 e1);have aG:=iK e.1.2.2 1 (.slice p M.length q);have aL:=iK e.1.2.2 2 (.int .i64 g);by_cases s:L=[]
 ·have k:((L.length:Int)==0)=aJ:=by rw[s];rfl
  have c:=ae (c.1.trans (gY (.inl s)));clear s;go_wp2;go_ret;exact⟨by rw[c.1];rfl,e.1.1⟩
 ·have k:((L.length:Int)==0)=ay:=by
   have:0<L.length:=dF.2 s
   simp;omega
  by_cases t:M=[]
  ·have hy:((M.length:Int)==0)=aJ:=by rw[t];rfl
   have c:=ae (c.1.trans (gY (.inr t)));clear s t;go_wp2;go_ret;exact⟨by rw[c.1];rfl,e.1.1⟩
  ·have hy:((M.length:Int)==0)=ay:=by
    have:0<M.length:=dF.2 t
    simp;omega
   have c:=ae (c.1.trans (gZ (λh=>h.elim s t)));clear s t;obtain⟨d,hd⟩:=iC ((L.length:Int)+e1 - (M.length:Int) - g);by_cases u:d=0
   ·have c:=ae (by have h:=c.1;rw[hd,gY u]at h;exact h)
    have aa:((L.length:Int)+e1 - (M.length:Int) - g==0)=aJ:=(by rw[hd,u];rfl);clear hd u
    go_upto_region 8 with fail
    obtain⟨N,ab⟩:∃N:Nat,max L.length M.length=N:=⟨_,rfl⟩;have aM:(N:Int)<=400:=iE;have aR:max (L.length:Int) (M.length:Int)=(N:Int):=iE;rw[ab]at c;have a0:=ae (iJ Y Z)
    go_loopw [49] (λC wr=>∃i:Nat,C=.int .i64 i/\i<=N/\um L M (N - i) i=um L M N 0/\Below W0.heap.size W0 wr) (λC _=>N - (intOf C).toNat)
    case atStart=>exact⟨0,rfl,Nat.zero_le _,rfl,aC _ _⟩
    case round=>
     obtain⟨i,rfl,P,hsc,D⟩:=hrel;have E:=ae D;have a1:(i:Int)<=400:=iE;have a2:(0:Int)<=(i:Int):=iE;by_cases F:i<N
     ·have ac:(i:Int)<(N:Int):=iE
      have ad:=c.1
      have j:PLift (∀X:aH,Below wr.heap.size wr X->X.cell? ⟨w.heap.size,0,ax⟩=au (.bool v)/\X.cell? ⟨w.heap.size,1,ax⟩=au (.slice n L.length o)/\X.cell? ⟨w.heap.size,2,ax⟩=au (.int .i64 e1)/\
        X.cell? ⟨w.heap.size+1,0,ax⟩=au (.bool y)/\X.cell? ⟨w.heap.size+1,1,ax⟩=au (.slice p M.length q)/\X.cell? ⟨w.heap.size+1,2,ax⟩=au (.int .i64 g)/\kQ X (.slice n L.length o) L/\kQ X (.slice p M.length q) M/\Below W0.heap.size W0 X):=⟨λX ai=>by
       have l:=E.1.trans (ai.mono E.1.size);have Q:=e.1.1.trans (l.mono e.1.1.size);have ha:=(l.block _ (aA.1 e.1.2.1).1).trans e.1.2.1;have G:=(l.block _ (aA.1 e.1.2.2).1).trans e.1.2.2;exact⟨ag ha 0,ag ha 1,ag ha 2,ag G 0,ag G 1,ag G 2,O.1.1.below Q,O.1.2.below Q,l⟩⟩
      have H:=ae (λ(X:aH) (h:kQ X (.slice n L.length o) L)=>Ik v (.slice n L.length o) e1 L i iE iE X h);have I:=ae (λ(X:aH) (h:kQ X (.slice p M.length q) M)=>Ik y (.slice p M.length q) g M i iE iE X h);obtain⟨a,ha⟩:∃a:Int,((L.getD i 0).toNat:Int)=a:=⟨_,rfl⟩;obtain⟨b,l⟩:∃b:Int,((M.getD i 0).toNat:Int)=b:=⟨_,rfl⟩;have a3:0<=a:=iE;have a4:0<=b:=iE;have a5:a<=255:=(by have:=(L.getD i 0).toNat_lt;omega);have a6:b<=255:=(by have:=(M.getD i 0).toNat_lt;omega);rw[ha]at H;rw[l]at I
      have m:PLift (um L M N 0=if a - b=0 then um L M (N - (i+1)) (i+1)else a - b):=⟨by rw[<-hsc,show N - i=(N - (i+1))+1 by omega];show(if((L.getD i 0).toNat:Int) - ((M.getD i 0).toNat:Int)=0 then um L M (N - (i+1)) (i+1)else((L.getD i 0).toNat:Int) - ((M.getD i 0).toNat:Int))=_;rw[ha,l]⟩
      have R:=ae F;clear D hsc P F ha l ad
      go_upto_region 10 with fail
      refine Mix.mM (aF:=?_) iF iF iF iF iF ?_ ?_;rotate_left 1
      ·intro ρ f
       have a7:=λx:iR.Grow ρ=>(j.1 x.w (f.trans (x.h.mono f.size))).1
       have a8:=λx:iR.Grow ρ=>(j.1 x.w (f.trans (x.h.mono f.size))).2.1
       have a9:=λx:iR.Grow ρ=>(j.1 x.w (f.trans (x.h.mono f.size))).2.2.1
       have ba:=λx:iR.Grow ρ=>(j.1 x.w (f.trans (x.h.mono f.size))).2.2.2.1
       have bb:=λx:iR.Grow ρ=>(j.1 x.w (f.trans (x.h.mono f.size))).2.2.2.2.1
       have bc:=λx:iR.Grow ρ=>(j.1 x.w (f.trans (x.h.mono f.size))).2.2.2.2.2.1
       have ak:=ae (λx:iR.Grow ρ=>H.1 x.w (j.1 x.w (f.trans (x.h.mono f.size))).2.2.2.2.2.2.1);have al:=ae (λx:iR.Grow ρ=>I.1 x.w (j.1 x.w (f.trans (x.h.mono f.size))).2.2.2.2.2.2.2.1)
       repeat(go_big_quiet_step((first
        |(go_at_call 222;with_reducible exact iR.Grow.calls (ak.1 _))
        |(go_at_call 222;with_reducible exact iR.Grow.calls (al.1 _)))))
       apply wpQuiet_nil;exact rfl
      intro W S;have T:=ae (j.1 W S).2.2.2.2.2.2.2.2;clear S H I;by_cases k:a - b=0
      ·have m:=ae (m.1.trans (gY k))
       have am:(a - b==0)=aJ:=(by rw[k];rfl);clear k;go_wp2;go_roundw
       case rel=>exact⟨i+1,by go_num,R.1,m.1.symm,T.1⟩
       case measure=>have:=R.1;simp[intOf];omega
      ·have m:=ae (m.1.trans (gZ k))
       have am:(a - b==0)=ay:=(by simpa using k);clear k;go_wp2;go_ret;exact⟨by rw[c.1,m.1];rfl,e.1.1.trans (T.1.mono e.1.1.size)⟩
     ·have he:i=N:=iE
      subst he;have m:PLift (um L M i 0=0):=⟨by rw[<-hsc,Nat.sub_self];rfl⟩;have ac:¬(i:Int)<(i:Int):=Int.lt_irrefl _;clear D hsc P F;go_wp2;go_ret;exact⟨by rw[c.1,m.1];rfl,e.1.1.trans (E.1.mono e.1.1.size)⟩
   ·have c:=ae (by have h:=c.1;rw[hd,gZ u]at h;exact h)
    have aa:((L.length:Int)+e1 - (M.length:Int) - g==0)=ay:=(by rw[hd];simpa using u);have an:=ae hd;clear hd u;go_wp2;go_ret;exact⟨by rw[c.1,<-an.1];rfl,e.1.1⟩
def BI (a b:Bool)(m:Int):Int:=if a=b then(if a then - nX m else nX m)else(if a then -1 else 1)
theorem Q3 (m:Int):nX m= -1\/nX m=0\/nX m=1:=by
 unfold nX;split
 ·exact .inl rfl
 ·split
  ·exact .inr (.inr rfl)
  ·exact .inr (.inl rfl)
theorem Q4 (b d:Bool)(j k:bH)(e1 f:Int)(L M:List UInt8)(w:aH)(l:kQ w j L)(n:kQ w k M)(y:L.length<=400)(z:M.length<=400)(A: -2000<=e1)(B:e1<=2000)(C: -2000<=f)(D:f<=2000):
  aQ aI 192 #[.agg #[.bool b,j,.int .i64 e1],.agg #[.bool d,k,.int .i64 f]] w λr w'=>r=.returned (.int .i64 (BI b d (yu L M e1 f)))/\Below w.heap.size w w':=by
 have o:=ae (λ(X:aH) (i:Below w.heap.size w X)=>QA b d j k e1 f L M X (l.below i) (n.below i) y z A B C D);obtain⟨p,q,rfl⟩:=l.slice;obtain⟨s,t,rfl⟩:=n.slice;obtain⟨m,hm⟩:=iC (yu L M e1 f);rw[hm]at o⊢;have u:=ae (λX=>Qz m X);have hc:=Q3 m;have h:=ae (show BI b d m=if b=d then(if b then - nX m else nX m)else(if b then -1 else 1)from rfl);obtain⟨c,E⟩:=iC (nX m);rw[E]at u h hc;have J: -1<=c:=iE
 have K:c<=1:=iE
 clear l n y z A B C D hm E hc;go_enter Tryz.func192,Tryz.ntmps192
 go_upto_region 1 with fail
 obtain⟨W0,v⟩:=iC ((w.alloc (.cells #[.bool b,.slice p L.length q,.int .i64 e1] 219)).alloc (.cells #[.bool d,.slice s M.length t,.int .i64 f] 219))
 have a:PLift (Below w.heap.size w W0/\W0.heap[w.heap.size]?=au (.cells #[.bool b,.slice p L.length q,.int .i64 e1] 219)/\W0.heap[w.heap.size+1]?=au (.cells #[.bool d,.slice s M.length t,.int .i64 f] 219)):=⟨by rw[<-v];exact Il w _ _⟩
 rw[v];clear v;have F:PLift (∀X:aH,Below W0.heap.size W0 X->X.cell? ⟨w.heap.size,0,ax⟩=au (.bool b)):=⟨λX i=>ag ((i.block _ (aA.1 a.1.2.1).1).trans a.1.2.1) 0⟩;have N:=iK a.1.2.1 0 (.bool b);have O:=iK a.1.2.1 1 (.slice p L.length q);have P:=iK a.1.2.1 2 (.int .i64 e1);have Q:=iK a.1.2.2 0 (.bool d);have R:=iK a.1.2.2 1 (.slice s M.length t);have S:=iK a.1.2.2 2 (.int .i64 f);cases b with
 |true=>
  cases d with
  |false=>go_wp2;go_ret;exact⟨by rw[h.1];rfl,a.1.1⟩
  |true=>
   go_wp2_with(first
    |(go_at_call 209;refine(o.1 _ a.1.1).mono ?_;rintro e G ⟨rfl,g⟩;have x:=ae (a.1.1.trans (g.mono a.1.1.size));have H:=F.1 _ g;clear g)
    |(go_at_call 208;refine(u.1 _).mono ?_;rintro e I ⟨rfl,rfl⟩))
   go_ret;exact⟨by rw[h.1];rfl,x.1⟩
 |false=>
  cases d with
  |true=>go_wp2;go_ret;exact⟨by rw[h.1];rfl,a.1.1⟩
  |false=>
   go_wp2_with(first
    |(go_at_call 209;refine(o.1 _ a.1.1).mono ?_;rintro e G ⟨rfl,g⟩;have x:=ae (a.1.1.trans (g.mono a.1.1.size));have H:=F.1 _ g;clear g)
    |(go_at_call 208;refine(u.1 _).mono ?_;rintro e I ⟨rfl,rfl⟩))
   go_ret;exact⟨by rw[h.1];rfl,x.1⟩
def Et (s t:ByteArray):Int:=if(jF s).2 &&(jF t).2 then BI (jF s).1.1 (jF t).1.1 (yu (jF s).1.2.1 (jF t).1.2.1 (jF s).1.2.2 (jF t).1.2.2)else 0
theorem Q5 (s t:ByteArray)(hs:s.size<=70000)(N:t.size<=70000)(w:aH)(A:lq w):
  aQ aI 167 #[.string s,.string t] w λr w'=>r=.returned (.int .i64 (Et s t))/\Below w.heap.size w w':=by
 have O:=ae (Ei s hs w A);have P:=ae (λ(X:aH) (T:Below w.heap.size w X)=>Ei t N X (A.below T));have B:=@Ie s;have C:=@Ie t;have o:=ae (show Et s t=if(jF s).2 &&(jF t).2 then BI (jF s).1.1 (jF t).1.1 (yu (jF s).1.2.1 (jF t).1.2.1 (jF s).1.2.2 (jF t).1.2.2)else 0 from rfl);obtain⟨k,D⟩:=iC ((jF s).1.1 );obtain⟨L,q⟩:=iC ((jF s).1.2.1 );obtain⟨ex,u⟩:=iC ((jF s).1.2.2 );obtain⟨ok,v⟩:=iC ((jF s).2 );obtain⟨l,g1⟩:=iC ((jF t).1.1 );obtain⟨M,g2⟩:=iC ((jF t).1.2.1 );obtain⟨m,y⟩:=iC ((jF t).1.2.2 );obtain⟨is,z⟩:=iC ((jF t).2 );rw[D,q,u,v]at O;rw[g1,g2,y,z]at P;rw[q,u,v]at B;rw[g2,y,z]at C;rw[D,q,u,v,g1,g2,y,z]at o;have g:=ae (iJ B C);clear D q u v g1 g2 y z hs N A B C;go_enter Tryz.func167,Tryz.ntmps167
 go_upto_region 2 with(go_at_call 154;refine O.1.mono ?_;rintro e d ⟨Q,sl,rfl,E⟩;obtain⟨p,c,rfl⟩:=E.slice;have F:=ae (iJ Q E);clear Q E)
 obtain⟨n,G⟩:=iC (d.alloc (.cells #[.bool k,.slice p L.length c,.int .i64 ex] 219))
 have h:PLift (Below w.heap.size w n/\kQ n (.slice p L.length c) L/\n.heap[d.heap.size]?=au (.cells #[.bool k,.slice p L.length c,.int .i64 ex] 219)):=⟨by rw[<-G];exact⟨F.1.1.trans ((iW d _).mono F.1.1.size),F.1.2.below (iW d _),aK d _⟩⟩
 rw[G];clear G
 go_upto_region 3 with(go_at_call 154;refine(P.1 _ h.1.1).mono ?_;rintro e f ⟨R,W,rfl,H⟩;obtain⟨i,j,rfl⟩:=H.slice;have I:=ae (iJ R H);clear R H)
 obtain⟨a,J⟩:=iC (f.alloc (.cells #[.bool l,.slice i M.length j,.int .i64 m] 219))
 have b:PLift (Below w.heap.size w a/\kQ a (.slice p L.length c) L/\kQ a (.slice i M.length j) M/\a.heap[d.heap.size]?=au (.cells #[.bool k,.slice p L.length c,.int .i64 ex] 219)/\a.heap[f.heap.size]?=au (.cells #[.bool l,.slice i M.length j,.int .i64 m] 219)):=⟨by rw[<-J];have K:=I.1.1.trans ((iW f (.cells #[.bool l,.slice i M.length j,.int .i64 m] 219)).mono I.1.1.size);exact⟨h.1.1.trans (K.mono h.1.1.size),h.1.2.1.below K,I.1.2.below (iW f _),(K.block _ (aA.1 h.1.2.2).1).trans h.1.2.2,aK f _⟩⟩
 rw[J];clear J;have Y:=iK b.1.2.2.2.1 0 (.bool k);have Z:=iK b.1.2.2.2.1 1 (.slice p L.length c);have aa:=iK b.1.2.2.2.1 2 (.int .i64 ex);have ab:=iK b.1.2.2.2.2 0 (.bool l);have ac:=iK b.1.2.2.2.2 1 (.slice i M.length j);have ad:=iK b.1.2.2.2.2 2 (.int .i64 m);cases ok with
 |false=>go_wp2;go_ret;exact⟨by rw[o.1];rfl,b.1.1⟩
 |true=>
  cases is with
  |false=>go_wp2;go_ret;exact⟨by rw[o.1];rfl,b.1.1⟩
  |true=>
   have U:=ae (Q4 k l (.slice p L.length c) (.slice i M.length j) ex m L M a b.1.2.1 b.1.2.2.1 (g.1.1 rfl).1 (g.1.2 rfl).1 (g.1.1 rfl).2.1 (g.1.1 rfl).2.2 (g.1.2 rfl).2.1 (g.1.2 rfl).2.2)
   go_wp2_with(go_at_call 192;refine U.1.mono ?_;rintro e w3 ⟨rfl,S⟩;have V:=ae S;clear S)
   go_ret;exact⟨by rw[o.1];rfl,b.1.1.trans (V.1.mono b.1.1.size)⟩
