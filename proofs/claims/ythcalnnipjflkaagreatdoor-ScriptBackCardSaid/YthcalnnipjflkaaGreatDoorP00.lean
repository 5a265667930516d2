import Derived.WalkKit
import Derived.WalkSpells
import Derived.Lib.Hide
import Derived.WalkLawsBesides
import Derived.IntWalk
import Derived.Laws.Closers25b
import Derived.Lib.DecodeN
import Derived.Deep.Quiet
import Derived.Below
import Derived.Laws.AppendOwn
import Derived.Lib.UnsafeStr
import Derived.Laws.Bits64b
import Derived.Laws.FloatArith
import Derived.Laws.Externs
import Derived.RegionTactic
import Derived.Laws.Sem
import Derived.Calls
import Derived.Orders
import Derived.Laws.CopyRow
import Derived.Laws.Append
import Derived.RangeFuncIn
import Derived.OrdersIn
import Derived.OwnWalkIn
import Derived.Test.YthcalnnipjflkaaGreatDoorH
import Derived.Test.YthcalnnipjflkaaGreatDoorRows
open List renaming replicate -> ae, cons_append -> aC, nil_append -> aI, length_cons -> aT, replicate_zero -> bG, take_length -> bK, append_nil -> bU, mem_cons -> bY, mem_range -> dC, append_assoc -> dI, not_mem_nil -> dK, length_take -> dL, map_toArray -> dP, all_eq_true -> dQ, range -> dU, map_cons -> dX, map_nil -> eF
open Bool renaming true -> af, false -> aj, and_eq_true -> aX, not_eq_true' -> dJ
open Go renaming World -> ag, Oper -> aB, Value -> aK, Program -> aN, mem_ready -> bz, Calls -> bD, ready_mono -> bP, Exit -> bV, run_float_arith -> dm, wp_region_any -> dF, run_callFunc_extern -> dG, bits_or_u64_nat -> dV, run_append_own -> dW, TypeId -> eu, getD_set_ne -> eQ
open Option renaming some -> ah, none -> az, getD_some -> cu, map_some -> di
open Array renaming getD_eq_getD_getElem? -> au, replicate -> ay, getElem?_setIfInBounds_ne -> aH, getElem?_eq_none -> aP, getElem?_eq_some_iff -> aQ, getElem?_eq_getElem -> aS, setIfInBounds_comm -> bH
open Go.Region renaming wanted -> ax, noSelect -> aJ, Mode -> aU, noSelect_spec -> dD, free_spec -> dN
open Go.RowKit renaming Below -> aA
open Go.Proofs.Tryz renaming prog -> aO, ntmps198 -> aW, func198 -> bn, ntmps179 -> dY, ntmps214 -> dZ, func179 -> eG, func214 -> eH
open PLift renaming up -> aV
open BitVec renaming ofInt -> aY, ofInt_natCast -> bT, toNat_ofNat -> bW, toNat_and -> dO
open Nat renaming shiftLeft_eq -> aZ, strongRecOn -> bu, and_two_pow_sub_one_eq_mod -> bC, le_refl -> bI, mod_eq_of_lt -> bJ, lt_or_ge -> bQ, sub_self -> cZ, add_assoc -> dE, add_right_comm -> dH, succ_le_succ -> dM, mod_lt -> dR, add_comm -> ed, zero_le -> eP
open Go.RowKit.Below renaming refl -> bF, alloc -> dB
open Go.IntKind renaming wrap_u64 -> bZ, u64 -> dn
open UInt8 renaming toNat_inj -> dh
open Ordering renaming eq -> dw, lt -> dA, gt -> eU
set_option linter.all false
set_option maxHeartbeats 4000000
set_option maxRecDepth 100000
namespace Go.Proofs.YthcalnnipjflkaaGreatDoor
open Go.Lib
def dec (l:List UInt8):Nat×Nat:=decodeN l.length (l.getD 0 0).toNat (l.getD 1 0).toNat (l.getD 2 0).toNat (l.getD 3 0).toNat
def qX (d:UInt8):UInt8:=if d<10 then 48+d else 87+d
def one (c:UInt8)(r:List UInt8):List UInt8:=
 if c=92\/c=34 then[92,c]else if c=10 then[92,110]else if c=13 then[92,114]else if c=9 then[92,116]
 else if dec (c::r)=(65533,1)\/c<32\/c=127 then[92,120,qX (c/16),qX (c%16)]else(c::r).take (dec (c::r)).2
def qb:List UInt8->List UInt8
 |[]=>[]
 |c::r=>one c r++qb (r.drop ((dec (c::r)).2 - 1))
termination_by l=>l.length
decreasing_by simp;omega
def jE (c:UInt8):UInt8:=if 48<=c/\c<=57 then c - 48 else if 97<=c/\c<=102 then c - 87 else 16
def uq:List UInt8->Option (List UInt8×List UInt8)
 |[]=>az
 |c::r=>
  if c=34 then ah ([],r)
  else if c<32\/c=127 then az
  else if c≠92 then(uq r).map λp=>(c::p.1,p.2)
  else match r with
   |[]=>az
   |e::r2=>
    if e=92\/e=34 then(uq r2).map λp=>(e::p.1,p.2)
    else if e=110 then(uq r2).map λp=>(10::p.1,p.2)
    else if e=114 then(uq r2).map λp=>(13::p.1,p.2)
    else if e=116 then(uq r2).map λp=>(9::p.1,p.2)
    else if e=120 then match r2 with
     |a::b::d=>if jE a=16\/jE b=16 then az else(uq d).map λp=>((16*jE a+jE b)::p.1,p.2)
     |_=>az
    else az
def chk:List UInt8->Bool
 |[]=>af
 |c::r=>if dec (c::r)=(65533,1)then aj else chk (r.drop ((dec (c::r)).2 - 1))
termination_by l=>l.length
decreasing_by simp;omega
theorem DK {c:UInt8}(h:c.toNat<128)(r:List UInt8):dec (c::r)=(c.toNat,1):=by unfold dec decodeN;simp[h]
theorem Nw {n a b1 b2 b3:Nat}(h:128<=a):decodeN n a b1 b2 b3=(65533,1)
  \/((decodeN n a b1 b2 b3).2 =2/\1<n/\128<=b1/\∀n' j b,1<n'->decodeN n' a b1 j b=decodeN n a b1 b2 b3)
  \/((decodeN n a b1 b2 b3).2 =3/\2<n/\128<=b1/\128<=b2/\∀n' b,2<n'->decodeN n' a b1 b2 b=decodeN n a b1 b2 b3)
  \/((decodeN n a b1 b2 b3).2 =4/\3<n/\128<=b1/\128<=b2/\128<=b3/\∀n',3<n'->decodeN n' a b1 b2 b3=decodeN n a b1 b2 b3):=by
 have i:¬a<128:=iE
 by_cases c:a/32=6/\(1<n/\b1/64=2)
 ·by_cases g:a%32*64+b1%64≥128
  ·have e:∀n' j b,1<n'->decodeN n' a b1 j b=(a%32*64+b1%64,2):=λn' j b hn=>by
    unfold decodeN;rw[gZ i,gY ⟨c.1,hn,c.2.2⟩,gY g]
   exact .inr (.inl ⟨by rw[e _ _ _ c.2.1],c.2.1,iE,λn' j b hn=>by rw[e _ _ _ hn,e _ _ _ c.2.1]⟩)
  ·left
   unfold decodeN;rw[gZ i,gY c,gZ g]
 ·by_cases d:a/16=14/\(1<n/\b1/64=2)/\(2<n/\b2/64=2)
  ·by_cases g:a%16*4096+b1%64*64+b2%64≥2048/\(a%16*4096+b1%64*64+b2%64<55296\/(57344<=a%16*4096+b1%64*64+b2%64/\a%16*4096+b1%64*64+b2%64<=1114111))
   ·have e:∀n' b,2<n'->decodeN n' a b1 b2 b=(a%16*4096+b1%64*64+b2%64,3):=λn' b hn=>by
     unfold decodeN;rw[gZ i,gZ iE,gY ⟨d.1,⟨iE,d.2.1.2⟩,hn,d.2.2.2⟩,gY g]
    exact .inr (.inr (.inl ⟨by rw[e _ _ d.2.2.1],d.2.2.1,iE,iE,λn' b hn=>by rw[e _ _ hn,e _ _ d.2.2.1]⟩))
   ·left
    unfold decodeN;rw[gZ i,gZ c,gY d,gZ g]
  ·by_cases f:a/8=30/\(1<n/\b1/64=2)/\(2<n/\b2/64=2)/\(3<n/\b3/64=2)
   ·by_cases g:a%8*262144+b1%64*4096+b2%64*64+b3%64≥65536/\(a%8*262144+b1%64*4096+b2%64*64+b3%64<55296\/(57344<=a%8*262144+b1%64*4096+b2%64*64+b3%64/\a%8*262144+b1%64*4096+b2%64*64+b3%64<=1114111))
    ·have e:∀n',3<n'->decodeN n' a b1 b2 b3=(a%8*262144+b1%64*4096+b2%64*64+b3%64,4):=λn' hn=>by
      unfold decodeN;rw[gZ i,gZ iE,gZ iE,gY ⟨f.1,⟨iE,f.2.1.2⟩,⟨iE,f.2.2.1.2⟩,hn,f.2.2.2.2⟩,gY g]
     exact .inr (.inr (.inr ⟨by rw[e _ f.2.2.2.1],f.2.2.2.1,iE,iE,iE,λn' hn=>by rw[e _ hn,e _ f.2.2.2.1]⟩))
    ·left
     unfold decodeN;rw[gZ i,gZ c,gZ d,gY f,gZ g]
   ·left
    unfold decodeN;rw[gZ i,gZ c,gZ d,gZ f]
theorem F9 {c:UInt8}(h:128<=c.toNat)(r:List UInt8):dec (c::r)=(65533,1)\/(2<=(dec (c::r)).2 /\(dec (c::r)).2 <=(c::r).length/\(∀b∈(c::r).take (dec (c::r)).2,128<=b.toNat)/\∀l,dec ((c::r).take (dec (c::r)).2 ++l)=dec (c::r)):=by
 rcases Nw (n:=(c::r).length) (b1:=((c::r).getD 1 0).toNat) (b2:=((c::r).getD 2 0).toNat) (b3:=((c::r).getD 3 0).toNat) h with k|⟨k,a,d,e⟩|⟨k,a,d,f,e⟩|⟨k,a,d,f,j,e⟩
 ·exact .inl k
 ·rcases r with _|⟨g,r⟩
  ·simp at a
  have k':(dec (c::g::r)).2 =2:=k;refine .inr ⟨iE,by rw[k'];simp,?_,?_⟩<;>rw[k']
  ·simp at d⊢
   exact⟨h,d⟩
  ·intro l
   exact e _ _ _ iH
 ·rcases r with _|⟨g,_|⟨i,r⟩⟩
  ·simp at a
  ·simp at a
  have k':(dec (c::g::i::r)).2 =3:=k;refine .inr ⟨iE,by rw[k'];simp,?_,?_⟩<;>rw[k']
  ·simp at d f⊢
   exact⟨h,d,f⟩
  ·intro l
   exact e _ _ iH
 ·rcases r with _|⟨g,_|⟨i,_|⟨m,r⟩⟩⟩
  ·simp at a
  ·simp at a
  ·simp at a
  have k':(dec (c::g::i::m::r)).2 =4:=k;refine .inr ⟨iE,by rw[k'];simp,?_,?_⟩<;>rw[k']
  ·simp at d f j⊢
   exact⟨h,d,f,j⟩
  ·intro l
   exact e _ iH
theorem vz {p:UInt8->Prop}(h:∀n:Fin 256,p (UInt8.ofNat n.1))(c:UInt8):p c:=by have:=h ⟨c.toNat,c.toNat_lt⟩;simpa using this
theorem afm:∀(a l:List UInt8),(∀b∈a,32<=b.toNat/\b.toNat≠127/\b.toNat≠34/\b.toNat≠92)->uq (a++l)=(uq l).map λp=>(a++p.1,p.2)
 |[],l,_=>iH
 |b::a,l,h=>by
  obtain⟨i,c,d,f⟩:=h b iH;have e1:b≠34:=λe=>d (by rw[e];rfl)
  have g:¬(b<32\/b=127):=by
   rintro(e|e)
   ·have:b.toNat<32:=e
    omega
   ·exact c (by rw[e];rfl)
  have e3:b≠92:=λe=>f (by rw[e];rfl)
  rw[aC]
  conv=>lhs;unfold uq
  rw[gZ e1,gZ g,gY e3,afm a l (λx hx=>h x (by simp[hx]))];cases uq l<;>simp
theorem afn (c:UInt8)(r:List UInt8):∀b∈one c r,32<=b.toNat/\b.toNat≠127:=by
 have hx:∀d:UInt8,d<16->32<=(qX d).toNat/\(qX d).toNat≠127:=vz (p:=λd=>d<16->32<=(qX d).toNat/\(qX d).toNat≠127) (by decide+kernel);have hd:∀d:UInt8,d/16<16/\d%16<16:=vz (p:=λd=>d/16<16/\d%16<16) (by decide+kernel);unfold one
 repeat' split
 ·rename_i h
  intro b a;simp only[bY,dK,or_false]at a;rcases a with rfl|rfl
  ·decide
  ·rcases h with rfl|rfl<;>decide
 ·decide
 ·decide
 ·decide
 ·intro b a
  simp only[bY,dK,or_false]at a;rcases a with rfl|rfl|rfl|rfl
  ·decide
  ·decide
  ·exact hx _ (hd c).1
  ·exact hx _ (hd c).2
 ·rename_i h
  simp only[not_or]at h;by_cases hc:c.toNat<128
  ·rw[DK hc]
   intro b a;simp at a;subst a;refine⟨?_,λe=>h.2.2 (dh.1 e)⟩;have:=h.2.1;simpa[UInt8.lt_iff_toNat_lt]using this
  ·intro b a
   rcases F9 (c:=c) iE r with k|⟨-,-,k,-⟩
   ·exact absurd k h.1
   ·have:=k b a
    omega
theorem afv (c:UInt8)(r l:List UInt8):uq (one c r++l)=(uq l).map λp=>((c::r).take (dec (c::r)).2 ++p.1,p.2):=by
 have i:∀c:UInt8,jE (qX (c/16))≠16/\jE (qX (c%16))≠16/\16*jE (qX (c/16))+jE (qX (c%16))=c:=
  vz (p:=λc=>jE (qX (c/16))≠16/\jE (qX (c%16))≠16/\16*jE (qX (c/16))+jE (qX (c%16))=c) (by decide+kernel)
 have lo:c.toNat<128->(c::r).take (dec (c::r)).2 =[c]:=λh=>by rw[DK h];rfl
 by_cases g1:c=92\/c=34
 ·rw[lo (by rcases g1 with rfl|rfl<;>decide)]
  unfold one;rw[gY g1]
  conv=>lhs;simp only[aC,aI];unfold uq
  rw[gZ iG,gZ iG,gZ iG];simp only[gY g1]
  rfl
 by_cases g2:c=10
 ·subst g2
  rw[lo iG];unfold one
  conv=>lhs;simp only[aC,aI];unfold uq
  rfl
 by_cases f:c=13
 ·subst f
  rw[lo iG];unfold one
  conv=>lhs;simp only[aC,aI];unfold uq
  rfl
 by_cases g:c=9
 ·subst g
  rw[lo iG];unfold one
  conv=>lhs;simp only[aC,aI];unfold uq
  rfl
 by_cases a:dec (c::r)=(65533,1)\/c<32\/c=127
 ·have e:(c::r).take (dec (c::r)).2 =[c]:=by
   rcases a with k|k|k
   ·rw[k];rfl
   ·exact lo (by have:c.toNat<32:=k;omega)
   ·exact lo (by rw[k];decide)
  obtain⟨j,m,n⟩:=i c;rw[e];unfold one;rw[gZ g1,gZ g2,gZ f,gZ g,gY a]
  conv=>lhs;simp only[aC,aI];unfold uq
  rw[gZ iG,gZ iG,gZ iG];simp only[show ¬((120:UInt8)=92\/(120:UInt8)=34) by decide,if_false,show ¬(120:UInt8)=110 by decide,show ¬(120:UInt8)=114 by decide,show ¬(120:UInt8)=116 by decide,if_true,j,m,or_self,n]
  rfl
 ·have hc:=afn c r
  unfold one at hc⊢;rw[gZ g1,gZ g2,gZ f,gZ g,gZ a]at hc⊢;refine afm _ _ λb d=>⟨(hc b d).1,(hc b d).2,?_,?_⟩
  all_goals
   by_cases o:c.toNat<128
   ·rw[lo o]at d
    obtain rfl:b=c:=by simpa using d
    intro e;simp only[not_or]at g1
    first|exact g1.2 (dh.1 e)|exact g1.1 (dh.1 e)
   ·simp only[not_or]at a
    rcases F9 (c:=c) iE r with k|⟨-,-,k,-⟩
    ·exact absurd k a.1
    ·have:=k b d
     omega
theorem AU (c:UInt8)(r:List UInt8):1<=(dec (c::r)).2 :=by
 by_cases h:c.toNat<128
 ·rw[DK h];exact bI _
 ·rcases F9 (c:=c) iE r with k|⟨k,-⟩
  ·rw[k];decide
  ·omega
theorem afw (c:UInt8)(r:List UInt8):(c::r).take (dec (c::r)).2 ++r.drop ((dec (c::r)).2 - 1)=c::r:=by have h:=AU c r;obtain⟨n,hn⟩:∃n,(dec (c::r)).2 =n+1:=⟨_,(Nat.succ_pred_eq_of_pos h).symm⟩;rw[hn];simp
theorem agd (l:List UInt8)(rest:List UInt8):uq (qb l++34::rest)=ah (l,rest):=by
 induction hn:l.length using bu generalizing l with
 |_ n a=>
  cases l with
  |nil=>rw[qb,aI];unfold uq;rw[gY rfl]
  |cons c r=>unfold qb;rw[dI,afv,a _ (by subst hn;simp;omega) (r.drop ((dec (c::r)).2 - 1)) rfl];simp only[di,afw]
theorem Ny {c:UInt8}(h:c.toNat<128)(r:List UInt8):chk (c::r)=chk r:=by
 conv=>lhs;unfold chk
 rw[DK h,gZ (by intro e;have:=ig Prod.fst e;simp at this;omega)];simp
theorem afx (c:UInt8)(r l:List UInt8):chk (one c r++l)=chk l:=by
 have hx:∀c:UInt8,(qX (c/16)).toNat<128/\(qX (c%16)).toNat<128:=vz (p:=λc=>(qX (c/16)).toNat<128/\(qX (c%16)).toNat<128) (by decide+kernel);unfold one
 repeat' split
 ·rename_i h
  simp only[aC,aI];rw[Ny iG,Ny (by rcases h with rfl|rfl<;>decide)]
 ·simp only[aC,aI]
  rw[Ny iG,Ny iG]
 ·simp only[aC,aI]
  rw[Ny iG,Ny iG]
 ·simp only[aC,aI]
  rw[Ny iG,Ny iG]
 ·simp only[aC,aI]
  rw[Ny iG,Ny iG,Ny (hx c).1,Ny (hx c).2]
 ·rename_i h
  simp only[not_or]at h;by_cases hc:c.toNat<128
  ·rw[DK hc]
   exact Ny hc l
  ·rcases F9 (c:=c) iE r with k|⟨d,a,-,b⟩
   ·exact absurd k h.1
   ·obtain⟨n,hn⟩:∃n,(dec (c::r)).2 =n+1:=⟨(dec (c::r)).2 - 1,iE⟩
    have e:=b l;rw[hn]at e a⊢;simp only[List.take_succ_cons,aC]at e⊢
    conv=>lhs;unfold chk
    rw[e,gZ h.1,hn];simp only[aT,Nat.add_le_add_iff_right]at a;simp[dL,Nat.min_eq_left a]
theorem age (l rest:List UInt8):chk (qb l++rest)=chk rest:=by
 induction hn:l.length using bu generalizing l with
 |_ n a=>
  cases l with
  |nil=>rw[qb,aI]
  |cons c r=>unfold qb;rw[dI,afx,a _ (by subst hn;simp;omega) (r.drop ((dec (c::r)).2 - 1)) rfl]
theorem agf (l:List UInt8):∀b∈qb l,32<=b.toNat/\b.toNat≠127:=by
 induction hn:l.length using bu generalizing l with
 |_ n a=>
  cases l with
  |nil=>rw[qb];simp
  |cons c r=>
   unfold qb;intro b d;rcases List.mem_append.1 d with h|h
   ·exact afn c r b h
   ·exact a _ (by subst hn;simp;omega) (r.drop ((dec (c::r)).2 - 1)) rfl b h
theorem DL (c:UInt8)(r:List UInt8):(dec (c::r)).2 <=r.length+1:=by
 by_cases h:c.toNat<128
 ·rw[DK h];exact dM (eP _)
 ·rcases F9 (c:=c) iE r with k|⟨-,k,-⟩
  ·rw[k];exact dM (eP _)
  ·exact k
theorem afo (c:UInt8)(r:List UInt8):(one c r).length<=4*(dec (c::r)).2 :=by
 have h:=AU c r;unfold one
 repeat' split
 all_goals simp only[aT,List.length_nil,dL];omega
theorem agh (l:List UInt8):(qb l).length<=4*l.length:=by
 induction hn:l.length using bu generalizing l with
 |_ n a=>
  cases l with
  |nil=>rw[qb];simp
  |cons c r=>unfold qb;have d:=afo c r;have b:=a _ (by subst hn;simp;omega) (r.drop ((dec (c::r)).2 - 1)) rfl;have e:=DL c r;have f:=AU c r;subst hn;rw[List.length_drop]at b;rw[List.length_append,aT];omega
end Go.Proofs.YthcalnnipjflkaaGreatDoor
namespace Go.Mix
section
variable {P:aN} {ops:Array aB} {md:aU} {Q:bV->Act->ag->Prop} {T:ag->ag->Prop} {D:ag->Prop}
def One (P:aN)(ops:Array aB)(T:ag->ag->Prop)(D:ag->Prop)(o:aB)(v:aK)(a:Act):Prop:=
 (ax o (yielded ops a.tmps)=af/\∀w,D w->o.quietAt P a (T w) w v)\/(ax o (yielded ops a.tmps)=aj/\v=undef)
theorem One.of_same {o:aB}{v:aK}{a a':Act}(hy:One P ops T D o v a)(he:execOp a'.eval o=execOp a.eval o)
  (hw:ax o (yielded ops a'.tmps)=ax o (yielded ops a.tmps)):One P ops T D o v a':=by
 unfold One Oper.quietAt at*;rw[he,hw];exact hy
def zh (P:aN)(R:aK->ag->Prop):Result Next->Prop
 |.ok (.value u) w'=>R u w'
 |.ok .skip w'=>R undef w'
 |.ok (.enter f args) w'=>bD P f args w' (λe a=>∃v,e=.returned v/\R v a)
 |_=>False
def mG (P:aN)(ops:Array aB)(T:ag->ag->Prop)(D:ag->Prop)(i:Nat)(K:Act->(ag->Prop)->Prop)(a:Act)(C:ag->Prop):Prop:=
 match ops[i]? with
 |none=>K a C
 |some o=>if ax o (yielded ops a.tmps)then
   ∃R:aK->ag->Prop,(∀v w w',R v w->T w w'->R v w')/\(∀v w,R v w->D w)/\(∀w,C w->zh P R ((execOp a.eval o).run P w))/\∀v w,R v w->K (a.put o.dst v) (R v)
  else K (a.put o.dst undef) C
def qY (P:aN)(md:aU)(ops:Array aB)(Q:bV->Act->ag->Prop)(T:ag->ag->Prop)(D:ag->Prop):Nat->Array Bool->Act->(ag->Prop)->Prop
 |0,listed,a,C=>Region.ready md ops listed=[]/\∀w,C w->Q .normal a w
 |fuel+1,listed,a,C=>
  (Region.ready md ops listed=[]->∀w,C w->Q .normal a w)/\
  ∀i∈Region.ready md ops listed,mG P ops T D i (λa' b=>qY P md ops Q T D fuel (listed.setIfInBounds i af) a' b) a C
theorem Gf {i:Nat}{a:Act}{K:Act->(ag->Prop)->Prop}{K':Act->ag->Prop}{C:ag->Prop}{w:ag}(d:C w)
  (h:∀a' k w',k w'->K a' k->K' a' w')(b:mG P ops T D i K a C):wpOp P ops Q i K' a w:=by
 unfold mG at b;unfold wpOp;split
 ·rename_i g;simp only[g]at b;exact h _ _ _ d b
 ·rename_i o g
  simp only[g]at b;split
  ·rename_i hw
   simp only[hw,if_true]at b;obtain⟨R,-,-,l,j⟩:=b;refine .inl ?_;have c:=l w d;unfold Oper.wp;generalize(execOp a.eval o).run P w=r at*;cases r with
   |ok n w'=>
    cases n<;>simp only[zh]at c<;>simp only[Oper.upon]
    case value u=>exact h _ _ _ c (j _ _ c)
    case skip=>exact h _ _ _ c (j _ _ c)
    case enter f args=>exact c.mono λe m ⟨v,he,hr⟩=>by subst he;exact h _ _ _ hr (j _ _ hr)
   |halt x w'=>simp only[zh]at c
  ·rename_i hw;simp only[hw]at b;exact h _ _ _ d b
theorem Gg:∀(fuel:Nat) (listed:Array Bool) (a:Act) (C:ag->Prop) (w:ag),C w->qY P md ops Q T D fuel listed a C->wpAny P md ops Q fuel listed a w
 |0,_,_,_,_,hw,h=>⟨h.1,h.2 _ hw⟩
 |fuel+1,_,_,_,_,hw,h=>⟨λb=>h.1 b _ hw,λi hi=>Gf hw (λa' c w' hw' d=>Gg fuel _ a' c w' hw' d) (h.2 i hi)⟩
theorem Gh {i:Nat}{a:Act}{C:ag->Prop}{K K':Act->(ag->Prop)->Prop}(d:(∀w w',C w->T w w'->C w')/\(∀w,C w->D w))
  (h:∀a' c,(∀w w',c w->T w w'->c w')->(∀w,c w->D w)->K a' c->K' a' c)(b:mG P ops T D i K a C):mG P ops T D i K' a C:=by
 unfold mG at*;split
 ·rename_i e;simp only[e]at b;exact h _ _ d.1 d.2 b
 ·rename_i o e
  simp only[e]at b;split
  ·rename_i hw
   simp only[hw,if_true]at b;obtain⟨R,r1,r2,f,g⟩:=b;exact⟨R,r1,r2,f,λv w hv=>h _ _ (r1 v) (r2 v) (g v w hv)⟩
  ·rename_i hw;simp only[hw]at b;exact h _ _ d.1 d.2 b
theorem One.mG {i:Nat}{o:aB}{v:aK}{a:Act}{C:ag->Prop}(hi:ops[i]?=ah o)(d:∀w w',C w->T w w'->C w')(g:∀w,C w->D w)
  (hy:One P ops T D o v a){K:Act->(ag->Prop)->Prop}(h:K (a.put o.dst v) C):Mix.mG P ops T D i K a C:=by
 unfold Mix.mG;simp only[hi];rcases hy with⟨hw,hv⟩|⟨hw,rfl⟩
 ·simp only[hw,if_true]
  refine⟨λu w=>u=v/\C w,λ_ _ _ hr c=>⟨hr.1,d _ _ hr.2 c⟩,λ_ _ hr=>g _ hr.2,λw hw=>?_,λu w hr=>?_⟩
  ·have b:=hv w (g w hw)
   unfold Oper.quietAt at b;generalize(execOp a.eval o).run P w=r at*;cases r with
   |ok n w'=>
    cases n<;>simp only[Oper.quietUpon]at b<;>simp only[zh]
    case value u=>exact⟨b.2,b.1 ▸hw⟩
    case skip=>exact⟨b.2.symm,b.1 ▸hw⟩
    case enter f args=>obtain⟨e1,hc⟩:=b;rw[e1];exact hc.mono λe j ⟨he,c⟩=>⟨v,he,rfl,d _ _ hw c⟩
   |halt x w'=>simp only[Oper.quietUpon]at b
  ·obtain⟨rfl,hr⟩:=hr
   have:(λw=>u=u/\C w)=C:=(by funext w;simp);show K (a.put o.dst u) (λw=>u=u/\C w);rw[this];exact h
 ·simp only[hw,Bool.false_eq_true,if_false];exact h
theorem Gi {j:Nat}{c oj:aB}{v:aK}{C:ag->Prop}(i:ops[j]?=ah oj)(k:c.apart ops oj=af)
  (l:∀d b,c.op≠.select d b)(m:∀d b,oj.op≠.select d b){K:Act->(ag->Prop)->Prop}{a:Act}
  (hy:One P ops T D c v a)(h:mG P ops T D j K (a.put c.dst v) C):
  mG P ops T D j (λa' n=>One P ops T D c v a'/\K (a'.put c.dst v) n) a C:=by
 obtain⟨e,f,g⟩:=Oper.apart_spec k
 have keep:∀(a:Act),One P ops T D c v a->∀u,One P ops T D c v (a.put oj.dst u):=λa hy u=>hy.of_same (execOp_put c l a oj.dst u g) (wanted_put c a oj.dst u g)
 unfold mG at*;simp only[i]at*;rw[wanted_put oj a c.dst v e]at h;split
 ·rename_i hw
  simp only[hw,if_true]at h;obtain⟨R,r1,r2,o,p⟩:=h;refine⟨R,r1,r2,λw hw'=>?_,λu w hr=>⟨keep a hy u,by rw[<-Act.put_comm a v u f];exact p u w hr⟩⟩;have:=o w hw'
  rwa [execOp_put oj m a c.dst v e]at this
 ·rename_i hw
  simp only[hw]at h;exact⟨keep a hy _,by rw[<-Act.put_comm a v undef f];exact h⟩
theorem NI {i:Nat}{f:aB}{v:aK}(hi:ops[i]?=ah f)(r:∀(j:Nat) (o:aB) g b,ops[j]?=ah o->o.op≠.select g b):
  ∀(fuel:Nat) (listed:Array Bool) (a:Act) (C:ag->Prop),(∀w w',C w->T w w'->C w')->(∀w,C w->D w)->
   (∀j oj,ops[j]?=ah oj->j≠i->listed.getD j af=aj->(∀e∈oj.after,Region.binds md e=af->e.on≠i)->f.apart ops oj=af)->
   i∈Region.ready md ops listed->One P ops T D f v a->
   qY P md ops Q T D fuel (listed.setIfInBounds i af) (a.put f.dst v) C->qY P md ops Q T D (fuel+1) listed a C:=by
 intro fuel
 induction fuel with
 |zero=>
  intro listed a C l m _ hr hy H;refine⟨λh=>(by rw[h]at hr;cases hr),λj n=>?_⟩;by_cases c:j=i
  ·subst c;exact hy.mG hi l m H
  ·have:=bP n c
   rw[H.1]at this;cases this
 |succ fuel A=>
  intro listed a C l m s hr hy H;refine⟨λh=>(by rw[h]at hr;cases hr),λj n=>?_⟩;by_cases c:j=i
  ·subst c;exact hy.mG hi l m H
  ·have d:=H.2 j (bP n c)
   obtain⟨t,oj,p,B⟩:=bz.1 n
   have E:∀e∈oj.after,Region.binds md e=af->e.on≠i:=λe he F G=>by
    have d:=B e he F;have u:=(bz.1 hr).1;rw[G]at d;rcases bQ i listed.size with q|q
    ·simp[q]at u d;rw[u]at d;cases d
    ·simp[aP q]at d
   have I:=Gi p (s j oj p c t E) (λg b=>r i f g b hi) (λg b=>r j oj g b p) hy d
   have J:∀k ok,ops[k]?=ah ok->k≠i->(listed.setIfInBounds j af).getD k af=aj->
     (∀e∈ok.after,Region.binds md e=af->e.on≠i)->f.apart ops ok=af:=λk ok K L x M=>by
    refine s k ok K L ?_ M;by_cases y:j=k
    ·subst y;exact t
    ·rw[eQ af y]at x;exact x
   refine Gh ⟨l,m⟩ (λa' N O R z=>A (listed.setIfInBounds j af) a' N O R J (bP hr (Ne.symm c)) z.1 ?_) I;rw[bH _ _ c];exact z.2
def kN (md:aU)(ops:Array aB):Nat->Nat->Array Bool->Option (Array Bool)
 |0,_,listed=>ah listed
 |n+1,k,listed=>if(Region.ready md ops listed).contains k&&Region.free md ops listed k then kN md ops n (k+1) (listed.setIfInBounds k af)else az
def kS (n:Nat):List aB->List Tmp->Bool
 |[],_=>af
 |o::r,seen=>match o.dst with
  |none=>aj
  |some d=>decide (d<n)&&!seen.contains d&&kS n r (d::seen)
def vC (P:aN)(ops:Array aB)(T:ag->ag->Prop)(D:ag->Prop)(aF:Act)(l:List aB)(a:Act):Prop:=
 ∀ρ,D ρ->wpQuiet P ops (T ρ) (λa'=>a'=aF) l a
theorem DT (a:Act)(d:Option Tmp)(v:aK):(a.put d v).tmps.size=a.tmps.size:=by cases d<;>simp[Act.put]
theorem Gj (a:Act)(d:Option Tmp)(v:aK)(t:Tmp)(h:d≠ah t):(a.put d v).tmps[t]?=a.tmps[t]?:=by
 cases d with
 |none=>rfl
 |some e=>
  have b:e≠t:=λhe=>h (by rw[he])
  simp[Act.put,aH b]
theorem NJ (a:Act)(t:Tmp)(v:aK)(h:t<a.tmps.size):(a.put (ah t) v).tmps[t]?=ah v:=by simp[Act.put,h]
theorem keeps {C:ag->Prop}{aF:Act}(t:Tmp):∀(l:List aB) (a:Act),(∀o∈l,o.dst≠ah t)->wpQuiet P ops C (λa'=>a'=aF) l a->aF.tmps[t]?=a.tmps[t]?
 |[],a,_,h=>by rw[show a=aF from h]
 |o::l,a,b,h=>by
  unfold wpQuiet at h;have d:o.dst≠ah t:=b o iH;split at h
  ·obtain⟨v,_,e⟩:=h
   rw[keeps t l _ (λo' c=>b o' (by simp[c])) e,Gj _ _ _ _ d]
  ·rw[keeps t l _ (λo' c=>b o' (by simp[c])) h,Gj _ _ _ _ d]
theorem Gl:∀(l:List aB) (n:Nat) (seen:List Tmp),kS n l seen=af->∀d∈seen,∀o∈l,o.dst≠ah d
 |[],_,_,_,_,_,_,c=>by cases c
 |o::r,n,seen,h,d,hd,o',a=>by
  unfold kS at h;cases b:o.dst with
  |none=>simp[b]at h
  |some e=>
   simp only[b,aX,decide_eq_true_eq,dJ]at h;obtain⟨⟨i,f⟩,g⟩:=h;rcases bY.1 a with rfl|a
   ·rw[b]
    intro he;have:e=d:=(by simpa using he);subst this;simp[hd]at f
   ·exact Gl r n (e::seen) g d (List.mem_cons_of_mem _ hd) o' a
theorem DU (g:∀w,T w w){aF a:Act}{o:aB}{l:List aB}{seen:List Tmp}(hd:kS a.tmps.size (o::l) seen=af)(h:vC P ops T D aF (o::l) a):
  ∃v i,One P ops T D o v a/\kS a.tmps.size l i=af/\vC P ops T D aF l (a.put o.dst v):=by
 have q:=hd;unfold kS at hd;cases c:o.dst with
 |none=>simp[c]at hd
 |some d=>
  simp only[c,aX,decide_eq_true_eq,dJ]at hd;obtain⟨⟨j,_⟩,e⟩:=hd;have k:=Gl l _ _ e d iH;by_cases hw:ax o (yielded ops a.tmps)=af
  ·have key:∀ρ,D ρ->(∀w,T ρ w->o.quietAt P a (T ρ) w (aF.tmps.getD d undef))/\wpQuiet P ops (T ρ) (λa'=>a'=aF) l (a.put (ah d) (aF.tmps.getD d undef)):=by
    intro ρ b;have:=h ρ b;unfold wpQuiet at this;simp only[hw,if_true]at this;obtain⟨v,m,f⟩:=this;rw[c]at f;have e1:=keeps d l _ k f;rw[NJ _ _ _ j]at e1;have n:aF.tmps.getD d undef=v:=(by simp[e1]);rw[n];exact⟨m,f⟩
   exact⟨_,_,.inl ⟨hw,λw p=>(key w p).1 w (g w)⟩,e,λρ b=>(key ρ b).2⟩
  ·refine⟨undef,_,.inr ⟨by simpa using hw,rfl⟩,e,λρ b=>?_⟩
   have:=h ρ b;unfold wpQuiet at this;simp only[hw]at this;rw[<-c];exact this
theorem DV (hs:aJ ops=af)(c:∀w,T w w){C:ag->Prop}(d:∀w w',C w->T w w'->C w')(g:∀w,C w->D w)(i:∃ρ,D ρ){aF:Act}{f:Nat}{listed':Array Bool}:
  ∀(l:List aB) (k:Nat) (listed:Array Bool) (a:Act) (seen:List Tmp),(∀j,j<l.length->l[j]?=ops[k+j]?)->
  kN md ops l.length k listed=ah listed'->kS a.tmps.size l seen=af->vC P ops T D aF l a->qY P md ops Q T D f listed' aF C->qY P md ops Q T D (l.length+f) listed a C
 |[],_,listed,a,_,_,b,_,h,hK=>by
  obtain⟨ρ,p⟩:=i;have e:a=aF:=h ρ p;have q:listed=listed':=by simpa[kN]using b
  subst e q;simpa using hK
 |o::l,k,listed,a,seen,m,b,hd,h,hK=>by
  have n:ops[k]?=ah o:=by simpa using(m 0 iH).symm
  simp only[aT,kN]at b;split at b
  case isFalse=>cases b
  rename_i hc;simp only[aX]at hc;obtain⟨v,r,s,t,u⟩:=DU c hd h;have:=DV hs c d g i l (k+1) _ (a.put o.dst v) r (λj x=>by have:=m (j+1) iI;simpa[dE,ed 1 j]using this) b (by rw[DT];exact t) u hK;rw[aT,dH];exact NI n (dD hs) (l.length+f) listed a C d g (dN n hc.2) (by simpa using hc.1) s this
theorem xW {id:Nat}{a:Act}{w:ag}{l:List aB}(n:Nat)(C D:ag->Prop)(T:ag->ag->Prop){aF:Act}(hm:P.follows .mixedOrders=af)
  (hn:n<=l.length)(hs:aJ l.toArray=af)(f:kN .any l.toArray n 0 (ay l.length aj)=ah (ae n af++ae (l.length - n) aj).toArray)(hd:kS a.tmps.size (l.take n) []=af)
  (g:∀w,T w w)(h:∀w w',C w->T w w'->C w')(c:∀w,C w->D w)(d:C {w with drawn:=w.drawn+1})(hA:vC P l.toArray T D aF (l.take n) a)
  (i:qY P .any l.toArray Q T D (l.length - n) (ae n af++ae (l.length - n) aj).toArray aF C):(Code.region id l.toArray af).wp P Q a w:=by
 refine dF hm (Gg (T:=T) (D:=D) _ _ _ C _ d ?_);have b:(l.take n).length=n:=by simp[hn]
 have:=DV (P:=P) (md:=.any) (Q:=Q) hs g h c ⟨_,c _ d⟩ (l.take n) 0 (ay l.length aj) a [] (λj e=>by rw[b]at e;simp[e]) (by rw[b];exact f) hd hA i;rw[b]at this;simpa[show n+(l.length - n)=l.length from by omega]using this
theorem qZ {fuel:Nat}{listed:Array Bool}{a:Act}{C:ag->Prop}{i:Nat}{o:aB}(hr:Region.ready md ops listed=[i])(c:ops[i]?=ah o)(hw:ax o (yielded ops a.tmps)=af)
  (R:aK->ag->Prop)(hR:∀v w w',R v w->T w w'->R v w')(d:∀v w,R v w->D w)(e:∀w,C w->zh P R ((execOp a.eval o).run P w))
  (hK:∀v w,R v w->qY P md ops Q T D fuel (listed.setIfInBounds i af) (a.put o.dst v) (R v)):qY P md ops Q T D (fuel+1) listed a C:=by
 refine⟨(λh=>by rw[hr]at h;cases h),λj b=>?_⟩;rw[hr]at b;obtain rfl:j=i:=by simpa using b
 unfold mG;simp only[c,hw,if_true];exact⟨R,hR,d,e,hK⟩
theorem xX {listed:Array Bool}{a:Act}{C:ag->Prop}(hr:Region.ready md ops listed=[])(h:∀w,C w->Q .normal a w):qY P md ops Q T D 0 listed a C:=⟨hr,h⟩
open Go.RowKit
end
end Go.Mix
namespace Go.Proofs.YthcalnnipjflkaaGreatDoor
theorem DZ (a b:Nat)(ha:a<18446744073709551616)(e:b<18446744073709551616):
  bits .andNot .u64 (a:Int) (b:Int)=((a&&&(18446744073709551615 - b):Nat):Int):=by
 have hx:a&&&(18446744073709551615 - b)<2^64:=Nat.and_lt_two_pow _ iE
 have c:(aY 64 (a:Int)).toNat=a:=by rw[bT,bW];exact bJ iE
 have d:(aY 64 (b:Int)).toNat=b:=by rw[bT,bW];exact bJ iE
 show IntKind.u64.wrap ((aY 64 (a:Int)&&&~~~ aY 64 (b:Int)).toNat:Int)=_;rw[dO,BitVec.toNat_not,c,d,bZ,show 2^64 - 1 - b=18446744073709551615 - b by omega];omega
theorem N9 (a:Nat):a&&&(18446744073709551615 - 9223372036854775808)=a%9223372036854775808:=
 bC a 63
def oL (b:Nat):Prop:=b%9223372036854775808<9218868437227405312
theorem Gy {b:Nat}(h:oL b):∃s m e,FloatKind.f64.format.read b=.number s m e:=by
 have c:b%9223372036854775808<9218868437227405312:=h;show ∃s m e,Ieee.Format.read Ieee.double b=.number s m e;unfold Ieee.Format.read;have e1:Ieee.double.signWeight=9223372036854775808:=iG
 have a:Ieee.double.infRung=9218868437227405312:=iG
 simp only[e1,a];split
 ·exact⟨_,_,_,rfl⟩
 ·exact⟨_,_,_,rfl⟩
def uf (a b:Nat):Nat:=(FloatKind.f64.format.mul a b).getD 0
theorem AV {a b:Nat}(ha:oL a)(c:oL b):floatBits .mul .f64 a b=ah (uf a b):=by
 obtain⟨s,m,e,d⟩:=Gy ha;obtain⟨t,n,f,g⟩:=Gy c
 have h:∃r,FloatKind.f64.format.mul a b=ah r:=by unfold Ieee.Format.mul;rw[d,g];exact⟨_,rfl⟩
 obtain⟨r,hr⟩:=h;show FloatKind.f64.format.mul a b=ah ((FloatKind.f64.format.mul a b).getD 0);rw[hr];rfl
def zl (x k:Nat):Nat:=(x&&&(18446744073709551615 - 9218868437227405312))|||(k<<<52)
theorem AX (x k:Nat)(b:k<2047):oL (zl x k):=by
 show((x&&&(18446744073709551615 - 9218868437227405312))|||(k<<<52))%2^63<9218868437227405312
 rw[Nat.or_mod_two_pow,Nat.and_mod_two_pow,show(18446744073709551615 - 9218868437227405312)%2^63=2^52 - 1 by decide,bC,
  bJ (a:=k<<<52) (by rw[aZ];omega),Nat.or_comm,<-Nat.shiftLeft_add_eq_or_of_lt (dR _ iG),aZ]
 have:=dR (x%2^63) (show 0<2^52 by decide);omega
theorem D5 {a b:Nat}(ha:oL a)(c:oL b):uf a b<18446744073709551616:=Ieee.Format.mul_lt _ (AV ha c)
end Go.Proofs.YthcalnnipjflkaaGreatDoor
namespace Go.Mix
open Go.RowKit
theorem NK {P:aN}{Q:bV->Act->ag->Prop}{id:Nat}{a:Act}{w:ag}{l:List aB}(n:Nat)(o q os:aB){aF:Act}(hm:P.follows .mixedOrders=af)
  (ao:l.length=n+3)(hs:aJ l.toArray=af)(I:kN .any l.toArray n 0 (ay l.length aj)=ah (ae n af++ae (l.length - n) aj).toArray)
  (hd:kS a.tmps.size (l.take n) []=af)(A:l[n]?=ah o)(B:l[n+1]?=ah q)(J:l[n+2]?=ah os)(g1:o.guard=az)(g2:q.guard=az)(K:os.guard=az)
  (L:Region.ready .any l.toArray (ae n af++ae 3 aj).toArray=[n])
  (M:Region.ready .any l.toArray ((ae n af++ae 3 aj).toArray.setIfInBounds n af)=[n+1])
  (N:Region.ready .any l.toArray (((ae n af++ae 3 aj).toArray.setIfInBounds n af).setIfInBounds (n+1) af)=[n+2])
  (O:Region.ready .any l.toArray ((((ae n af++ae 3 aj).toArray.setIfInBounds n af).setIfInBounds (n+1) af).setIfInBounds (n+2) af)=[])
  (hA:∀ρ:ag,wpQuiet P l.toArray (λw'=>∃n,w'=ρ.drewN n) (λa'=>a'=aF) (l.take n) a)
  (f:Array aK)(e:eu)(m c:Nat)
  (C:∀W:ag,(execOp aF.eval o).run P W=.ok (.value (.slice (ah ⟨W.heap.size,0,az⟩) m c)) (W.alloc (.cells f e)))
  (s x:Operand)(t:eu)(R:q.op=.call {callee:=.builtin .append,args:=#[s,x],argTypes:=#[t,t]})(base:Nat)(i:TypeInfo)(z:aK)(size bytes:Nat)(S:P.underlying t=ah (.slice e))(hi:P.info? e=ah i)(T:i.zero=ah z)
  (U:i.size=size)(V:i.bytes=bytes)(X:z.cells.size=size)(Y:0<size)(v:aK)(k:Nat)(xs:List aK)(G:w.ownsRow base e size v k xs)
  (Z:∀g,(aF.put o.dst g).eval s=v)(hx:∀g,(aF.put o.dst g).eval x=g)(aa:f.size=m*size)(ab:∀u∈f.toList,u.oneCell'=af)(ac:k+m<=maxLen)(ad:(k+m)*bytes<=140737488355328)(ai:base<=w.heap.size)
  (ak:∀g v' W,(execOp ((aF.put o.dst g).put q.dst v').eval os).run P W=.ok (.value v') W)
  (hK:∀v' W,W.ownsRow base e size v' (k+m) (xs++f.toList)->aA base w W->Q .normal (((aF.put o.dst (.slice (ah ⟨w.heap.size,0,az⟩) m c)).put q.dst v').put os.dst v') W):(Code.region id l.toArray af).wp P Q a w:=by
 have kl:∀(W W':ag),(∃n,W'=W.drewN n)->W'.heap=W.heap/\(aA base w W->aA base w W'):=by rintro W _ ⟨n,rfl⟩;exact⟨rfl,λh=>⟨h.os,h.tape,h.output,h.size,h.block⟩⟩
 have D:∀(W W':ag) (v:aK) (k:Nat) (xs:List aK),W'.heap=W.heap->W.ownsRow base e size v k xs->W'.ownsRow base e size v k xs:=by intro W W' v k xs A B;unfold World.ownsRow at*;rw[A];exact B
 refine xW (aF:=aF) n (λW=>W.heap=w.heap/\aA base w W) (λ_=>True) (λw w'=>∃n,w'=w.drewN n) hm iE hs I hd (λw=>⟨0,rfl⟩) (λW W' h d=>⟨(kl W W' d).1.trans h.1,(kl W W' d).2 h.2⟩) (λ_ _=>trivial) ⟨rfl,(bF base w).drew⟩ (λρ _=>hA ρ) ?_;rw[show l.length - n=3 by omega];refine qZ L (by simpa using A) (by unfold ax;rw[g1]) (λg W=>g=.slice (ah ⟨w.heap.size,0,az⟩) m c/\W.heap=w.heap.push (.cells f e)/\aA base w W) (λ_ W W' h d=>⟨h.1,(kl W W' d).1.trans h.2.1,(kl W W' d).2 h.2.2⟩) (λ_ _ _=>trivial) ?_ ?_
 ·rintro W ⟨p,E⟩
  rw[C];exact⟨by rw[p],by show W.heap.push _=_;rw[p],E.alloc (by rw[p];exact ai) _⟩
 rintro g W ⟨rfl,-,-⟩;refine qZ M (by simpa using B) (by unfold ax;rw[g2]) (λv' W=>W.ownsRow base e size v' (k+m) (xs++f.toList)/\aA base w W) (λ_ W W' h d=>⟨D W W' _ _ _ (kl W W' d).1 h.1,(kl W W' d).2 h.2⟩) (λ_ _ _=>trivial) ?_ ?_
 ·rintro W ⟨-,p,E⟩
  have ap:W.heap.size=w.heap.size+1:=by rw[p];simp
  have al:W.ownsRow base e size v k xs:=D (w.alloc (.cells f e)) W _ _ _ p (World.ownsRow.alloc (w:=w) G _)
  obtain⟨v',w',hr,H,am,-⟩:=dW (P:=P) W base t q.type e i z size bytes S hi T U V X Y v k xs al ⟨w.heap.size,0,az⟩ m c f.toList (by simpa using aa) (by intro j u an;have e1:(⟨w.heap.size,0,az⟩:Addr).add j=⟨w.heap.size,j,az⟩:=(by unfold Addr.add;split<;>simp_all);have F:W.heap[w.heap.size]?=ah (.cells f e):=(by rw[p];simp);rw[e1];simp only[World.cell?,F];simpa using an) ab ac ad iE
  have e1:=Z (.slice (ah ⟨w.heap.size,0,az⟩) m c);have F:=hx (.slice (ah ⟨w.heap.size,0,az⟩) m c);unfold execOp;simp only[R,resolve,invoke,builtin,Sem.run_bind,Sem.run_pure,Result.andThen_ok,dP,dX,eF,e1,F,hr];exact⟨H,E.grown am iE (λb C=>(World.ownsRow.lt G b C).1)⟩
 ·rintro v' W ⟨aq,H⟩
  refine qZ N (by simpa using J) (by unfold ax;rw[K]) (λu W=>u=v'/\W.ownsRow base e size v' (k+m) (xs++f.toList)/\aA base w W) (λ_ W W' h d=>⟨h.1,D W W' _ _ _ (kl W W' d).1 h.2.1,(kl W W' d).2 h.2.2⟩) (λ_ _ _=>trivial) ?_ ?_
  ·rintro W ⟨r,y⟩
   rw[ak];exact⟨rfl,r,y⟩
  ·rintro u W ⟨rfl,r,y⟩
   exact xX O (λW ⟨_,r,y⟩=>hK _ W r y)
theorem Ec {P:aN}{Q:bV->Act->ag->Prop}{id:Nat}{a:Act}{w:ag}{l:List aB}(n m:Nat)(b:aB){aF aG:Act}(D R:ag->Prop)(v0:aK)(f:FuncId)(args:Array aK)(hm:P.follows .mixedOrders=af)
  (B:l.length=n+1+m)(hs:aJ l.toArray=af)(p:kN .any l.toArray n 0 (ay l.length aj)=ah (ae n af++ae (l.length - n) aj).toArray)
  (hd:kS a.tmps.size (l.take n) []=af)(c:l[n]?=ah b)(g1:b.guard=az)
  (g:Region.ready .any l.toArray (ae n af++ae (l.length - n) aj).toArray=[n])
  (i:kN .any l.toArray m (n+1) ((ae n af++ae (l.length - n) aj).toArray.setIfInBounds n af)=ah (ay l.length af))
  (q:Region.ready .any l.toArray (ay l.length af)=[])(r:kS a.tmps.size (l.drop (n+1)) []=af)
  (s:∀k,D (w.drewN k))(o:∀W k,R W->R (W.drewN k))(d:∀W,R W->D W)
  (hA:∀ρ:ag,D ρ->wpQuiet P l.toArray (λw'=>∃n,w'=ρ.drewN n) (λa'=>a'=aF) (l.take n) a)(t:(aF.put b.dst v0).tmps.size=a.tmps.size)
  (hc:∀W:ag,(execOp aF.eval b).run P W=.ok (.enter f args) W)
  (u:∀k,bD P f args (w.drewN k) λe W=>e=.returned v0/\R W)
  (x:∀ρ:ag,wpQuiet P l.toArray (λw'=>∃n,w'=ρ.drewN n) (λa'=>a'=aG) (l.drop (n+1)) (aF.put b.dst v0))
  (hK:∀W,R W->Q .normal aG W):(Code.region id l.toArray af).wp P Q a w:=by
 refine xW (aF:=aF) n (λW=>∃k,W=w.drewN k) D (λw w'=>∃n,w'=w.drewN n) hm iE hs p hd (λw=>⟨0,rfl⟩) ?_ ?_ ⟨1,rfl⟩ (λρ y=>hA ρ y) ?_
 ·rintro _ _ ⟨k,rfl⟩ ⟨j,rfl⟩
  exact⟨k+j,by simp[World.drewN,dE]⟩
 ·rintro _ ⟨k,rfl⟩;exact s k
 rw[show l.length - n=m+1 by omega];rw[show l.length - n=m+1 by omega]at g i;refine qZ g (by simpa using c) (by unfold ax;rw[g1]) (λv W=>v=v0/\R W) ?_ (λ_ W h=>d W h.2) ?_ ?_
 ·rintro v W _ hr ⟨k,rfl⟩;exact⟨hr.1,o W k hr.2⟩
 ·rintro _ ⟨k,rfl⟩
  rw[hc];exact(u k).mono λe W ⟨c,z⟩=>⟨v0,c,rfl,z⟩
 ·rintro v W ⟨rfl,hr⟩
  have:=DV (P:=P) (md:=.any) (ops:=l.toArray) (Q:=Q) (T:=λw w'=>∃n,w'=w.drewN n) (D:=D) hs (λw=>⟨0,rfl⟩) (C:=λW=>v=v/\R W) (by rintro W _ hr ⟨k,rfl⟩;exact⟨rfl,o W k hr.2⟩) (λW h=>d W h.2) ⟨_,d W hr⟩ (aF:=aG) (f:=0) (listed':=ay l.length af)
   (l.drop (n+1)) (n+1) _ (aF.put b.dst v) [] (λj E=>iH) (by rw[show(l.drop (n+1)).length=m by simp;omega];exact i) (by rw[t];exact r) (λρ _=>x ρ) (xX q (λW A=>hK W A.2))
  rw[show(l.drop (n+1)).length=m by simp;omega]at this;simpa using this
theorem XB {P:aN}{Q:bV->Act->ag->Prop}{id:Nat}{a:Act}{w:ag}{l:List aB}(n base:Nat)(o q os:aB){aF:Act}(hm:P.follows .mixedOrders=af)
  (ap:l.length=n+3)(hs:aJ l.toArray=af)(I:kN .any l.toArray n 0 (ay l.length aj)=ah (ae n af++ae (l.length - n) aj).toArray)
  (hd:kS a.tmps.size (l.take n) []=af)(A:l[n]?=ah o)(B:l[n+1]?=ah q)(J:l[n+2]?=ah os)(g1:o.guard=az)(g2:q.guard=az)(K:os.guard=az)
  (L:Region.ready .any l.toArray (ae n af++ae 3 aj).toArray=[n])
  (M:Region.ready .any l.toArray ((ae n af++ae 3 aj).toArray.setIfInBounds n af)=[n+1])
  (N:Region.ready .any l.toArray (((ae n af++ae 3 aj).toArray.setIfInBounds n af).setIfInBounds (n+1) af)=[n+2])
  (O:Region.ready .any l.toArray ((((ae n af++ae 3 aj).toArray.setIfInBounds n af).setIfInBounds (n+1) af).setIfInBounds (n+2) af)=[])
  (hA:∀ρ:ag,aA base w ρ->wpQuiet P l.toArray (λw'=>∃n,w'=ρ.drewN n) (λa'=>a'=aF) (l.take n) a)
  (f:Array aK)(e:eu)(m c:Nat)
  (C:∀W:ag,(execOp aF.eval o).run P W=.ok (.value (.slice (ah ⟨W.heap.size,0,az⟩) m c)) (W.alloc (.cells f e)))
  (s x:Operand)(t:eu)(R:q.op=.call {callee:=.builtin .append,args:=#[s,x],argTypes:=#[t,t]})(i:TypeInfo)(z:aK)(size bytes:Nat)(S:P.underlying t=ah (.slice e))(hi:P.info? e=ah i)(T:i.zero=ah z)
  (U:i.size=size)(V:i.bytes=bytes)(X:z.cells.size=size)(Y:0<size)(v:aK)(k:Nat)(xs:List aK)(G:w.ownsRow base e size v k xs)
  (Z:∀g,(aF.put o.dst g).eval s=v)(hx:∀g,(aF.put o.dst g).eval x=g)(aa:f.size=m*size)(ab:∀u∈f.toList,u.oneCell'=af)(ac:k+m<=maxLen)(ad:(k+m)*bytes<=140737488355328)(ai:base<=w.heap.size)
  (ak:∀g v' W,(execOp ((aF.put o.dst g).put q.dst v').eval os).run P W=.ok (.value v') W)
  (hK:∀v' W,W.ownsRow base e size v' (k+m) (xs++f.toList)->aA base w W->Q .normal (((aF.put o.dst (.slice (ah ⟨w.heap.size,0,az⟩) m c)).put q.dst v').put os.dst v') W):(Code.region id l.toArray af).wp P Q a w:=by
 have kl:∀(W W':ag),(∃n,W'=W.drewN n)->W'.heap=W.heap/\(aA base w W->aA base w W'):=by rintro W _ ⟨n,rfl⟩;exact⟨rfl,λh=>⟨h.os,h.tape,h.output,h.size,h.block⟩⟩
 have D:∀(W W':ag) (v:aK) (k:Nat) (xs:List aK),W'.heap=W.heap->W.ownsRow base e size v k xs->W'.ownsRow base e size v k xs:=by intro W W' v k xs A B;unfold World.ownsRow at*;rw[A];exact B
 refine xW (aF:=aF) n (λW=>W.heap=w.heap/\aA base w W) (λW=>aA base w W) (λw w'=>∃n,w'=w.drewN n) hm iE hs I hd (λw=>⟨0,rfl⟩) (λW W' h d=>⟨(kl W W' d).1.trans h.1,(kl W W' d).2 h.2⟩) (λ_ h=>h.2) ⟨rfl,(bF base w).drew⟩ (λρ al=>hA ρ al) ?_;rw[show l.length - n=3 by omega];refine qZ L (by simpa using A) (by unfold ax;rw[g1]) (λg W=>g=.slice (ah ⟨w.heap.size,0,az⟩) m c/\W.heap=w.heap.push (.cells f e)/\aA base w W) (λ_ W W' h d=>⟨h.1,(kl W W' d).1.trans h.2.1,(kl W W' d).2 h.2.2⟩) (λ_ _ h=>h.2.2) ?_ ?_
 ·rintro W ⟨p,E⟩
  rw[C];exact⟨by rw[p],by show W.heap.push _=_;rw[p],E.alloc (by rw[p];exact ai) _⟩
 rintro g W ⟨rfl,-,-⟩;refine qZ M (by simpa using B) (by unfold ax;rw[g2]) (λv' W=>W.ownsRow base e size v' (k+m) (xs++f.toList)/\aA base w W) (λ_ W W' h d=>⟨D W W' _ _ _ (kl W W' d).1 h.1,(kl W W' d).2 h.2⟩) (λ_ _ h=>h.2) ?_ ?_
 ·rintro W ⟨-,p,E⟩
  have aq:W.heap.size=w.heap.size+1:=by rw[p];simp
  have am:W.ownsRow base e size v k xs:=D (w.alloc (.cells f e)) W _ _ _ p (World.ownsRow.alloc (w:=w) G _)
  obtain⟨v',w',hr,H,an,-⟩:=dW (P:=P) W base t q.type e i z size bytes S hi T U V X Y v k xs am ⟨w.heap.size,0,az⟩ m c f.toList (by simpa using aa) (by intro j u ao;have e1:(⟨w.heap.size,0,az⟩:Addr).add j=⟨w.heap.size,j,az⟩:=(by unfold Addr.add;split<;>simp_all);have F:W.heap[w.heap.size]?=ah (.cells f e):=(by rw[p];simp);rw[e1];simp only[World.cell?,F];simpa using ao) ab ac ad iE
  have e1:=Z (.slice (ah ⟨w.heap.size,0,az⟩) m c);have F:=hx (.slice (ah ⟨w.heap.size,0,az⟩) m c);unfold execOp;simp only[R,resolve,invoke,builtin,Sem.run_bind,Sem.run_pure,Result.andThen_ok,dP,dX,eF,e1,F,hr];exact⟨H,E.grown an iE (λb C=>(World.ownsRow.lt G b C).1)⟩
 ·rintro v' W ⟨ar,H⟩
  refine qZ N (by simpa using J) (by unfold ax;rw[K]) (λu W=>u=v'/\W.ownsRow base e size v' (k+m) (xs++f.toList)/\aA base w W) (λ_ W W' h d=>⟨h.1,D W W' _ _ _ (kl W W' d).1 h.2.1,(kl W W' d).2 h.2.2⟩) (λ_ _ h=>h.2.2) ?_ ?_
  ·rintro W ⟨r,y⟩
   rw[ak];exact⟨rfl,r,y⟩
  ·rintro u W ⟨rfl,r,y⟩
   exact xX O (λW ⟨_,r,y⟩=>hK _ W r y)
end Go.Mix
namespace Go.Proofs.YthcalnnipjflkaaGreatDoor
open Go
section
variable {P:aN} {ops:Array aB} {Q:bV->Act->ag->Prop} {md:aU}
def uj (ops:Array aB):Bool:=(dU ops.size).all λj=>((ops[j]?).map λo=>o.after.all λe=>decide (e.on<j)).getD af
theorem PQ {ops:Array aB}(h:uj ops=af){j:Nat}{o:aB}(b:ops[j]?=ah o):∀e∈o.after,e.on<j:=by unfold uj at h;have a:=dQ.1 h j (dC.2 (aQ.1 b).1);rw[b]at a;simp only[di,cu,Array.all_eq_true_iff_forall_mem]at a;exact λe he=>of_decide_eq_true (a e he)
theorem Hq {L:Array Bool}(d:uj ops=af)(hr:Region.ready md ops L=[]):∀i,i<ops.size->L.getD i af=af:=by
 intro i
 induction i using bu with
 |ind i f=>
  intro hi;cases a:L.getD i af with
  |true=>rfl
  |false=>
   exfalso
   have:i∈Region.ready md ops L:=bz.2 ⟨a,ops[i],aS hi,λe he _=>by
    have b:=PQ d (aS hi) e he;have c:=f e.on b (Nat.lt_trans b hi)
    have g:e.on<L.size:=by
     rcases bQ e.on L.size with h|h
     ·exact h
     ·have j:i≥L.size:=iE
      rw[au,aP j]at a;cases a
    rw[au,aS g]at c⊢;exact c⟩
   rw[hr]at this;cases this
theorem Hr {d:Array Bool->Act->ag->Prop}(k:uj ops=af)
  (l:∀(i:Nat) (o:aB) (L:Array Bool) (a:Act) (w:ag) (K:Act->ag->Prop),ops[i]?=ah o->L.size=ops.size->L.getD i af=aj->(∀e∈o.after,Region.binds md e=af->L.getD e.on aj=af)->d L a w->
   (∀a' w',d (L.setIfInBounds i af) a' w'->K a' w')->wpOp P ops Q i K a w)
  (j:∀(L:Array Bool) (a:Act) (w:ag),(∀i,i<ops.size->L.getD i af=af)->d L a w->Q .normal a w):
  ∀(fuel:Nat) (L:Array Bool) (a:Act) (w:ag),L.size=ops.size->L.toList.count aj<=fuel->d L a w->wpAny P md ops Q fuel L a w
 |0,L,a,w,hs,hc,f=>by
  have m:∀i,i<ops.size->L.getD i af=af:=by
   intro i hi;cases g:L.getD i af with
   |true=>rfl
   |false=>exfalso;have p:L.toList.count aj=0:=Nat.le_zero.1 hc;have b:i<L.size:=(by rw[hs];exact hi);refine List.count_eq_zero.1 p ?_;rw[au,aS b]at g;have g:L[i]=aj:=g;rw[<-g];exact Array.getElem_mem_toList b
  refine⟨?_,j L a w m f⟩;cases hr:Region.ready md ops L with
  |nil=>rfl
  |cons i r=>have hm:i∈Region.ready md ops L:=(by rw[hr];exact List.mem_cons_self ..);obtain⟨c,o,h,-⟩:=bz.1 hm;rw[m i (aQ.1 h).1]at c;cases c
 |fuel+1,L,a,w,hs,hc,f=>by
  refine⟨λhr=>j L a w (Hq k hr) f,λi hi=>?_⟩;obtain⟨c,o,h,q⟩:=bz.1 hi;refine l i o L a w _ h hs c q f λa' w' s=>?_
  refine Hr k l j fuel _ a' w' (by simpa using hs) ?_ s;have b:i<L.toList.length:=by rw[Array.length_toList,hs];exact(aQ.1 h).1
  have n:L.toList[i]=aj:=by rw[au,aS (by simpa using b)]at c;simpa using c
  rw[Array.toList_setIfInBounds,List.count_set b,n];have hp:0<L.toList.count aj:=List.count_pos_iff.2 (by rw[<-n];exact List.getElem_mem b);simp only[beq_self_eq_true,if_true];have:((af==aj)=af)=False:=iH
  simp only[this,if_false];omega
theorem PR {id:Nat}{a:Act}{w:ag}(hm:P.follows .mixedOrders=af)(b:Array Bool->Act->ag->Prop)(c:uj ops=af)
  (d:b (ay ops.size aj) a w.drew)
  (f:∀(i:Nat) (o:aB) (L:Array Bool) (a:Act) (w:ag) (K:Act->ag->Prop),ops[i]?=ah o->L.size=ops.size->L.getD i af=aj->(∀e∈o.after,Region.binds .any e=af->L.getD e.on aj=af)->b L a w->
   (∀a' w',b (L.setIfInBounds i af) a' w'->K a' w')->wpOp P ops Q i K a w)
  (g:∀(L:Array Bool) (a:Act) (w:ag),(∀i,i<ops.size->L.getD i af=af)->b L a w->Q .normal a w):(Code.region id ops af).wp P Q a w:=
 dF hm (Hr c f g _ _ _ _ iH iH d)
end
end Go.Proofs.YthcalnnipjflkaaGreatDoor
namespace Go.Proofs.YthcalnnipjflkaaGreatDoor
open Go.RowKit
open Go.Lib
theorem xZ (n:Int)(w:ag):(callFunc 196 #[.int .u64 n]).run aO w=.ok (.value (.float .f64 n.toNat)) w:=by exact(dG (e:=Go.Extern.MathFloatBits.float64frombits) Tryz.func196 iF iF iF iF _ _).trans rfl
theorem zn (b:Nat)(w:ag):(callFunc 203 #[.float .f64 b]).run aO w=.ok (.value (.int .u64 (b:Nat))) w:=by exact(dG (e:=Go.Extern.MathFloatBits.float64bits) Tryz.func203 iF iF iF iF _ _).trans rfl
theorem Oa (w:ag):bD aO 178 #[] w λe w'=>e=.returned (.float .f64 9221120237041090561)/\w'=w:=by have a:=xZ;go_enter Tryz.func178,Tryz.ntmps178;go_wp2;go_ret;exact⟨rfl,rfl⟩
theorem Gz (w:ag):bD aO 179 #[.int .i64 1] w λe w'=>e=.returned (.float .f64 9218868437227405312)/\w'=w:=by have a:=xZ;go_enter eG,dY;go_wp2;go_ret;exact⟨rfl,rfl⟩
def wS (b:Nat):Bool:=decide (wrap64 (b:Int)<0)
theorem Ob (b:Nat)(w:ag):bD aO 199 #[.float .f64 b] w λe w'=>e=.returned (.bool (wS b))/\w'=w:=by have a:=zn;go_enter Tryz.func199,Tryz.ntmps199;go_wp2;go_ret;exact⟨rfl,rfl⟩
def zq (b c:Nat):Nat:=(bits BinOp.or dn (bits BinOp.andNot dn (b:Int) 9223372036854775808) (bits BinOp.and dn (c:Int) 9223372036854775808)).toNat
theorem GG (b c:Nat)(w:ag):bD aO 184 #[.float .f64 b,.float .f64 c] w λe w'=>e=.returned (.float .f64 (zq b c))/\w'=w:=by have a:=zn;have d:=xZ;go_enter Tryz.func184,Tryz.ntmps184;go_wp2;go_ret;exact⟨rfl,rfl⟩
def pW (b:Nat):Nat:=(bits BinOp.andNot dn (b:Int) 9223372036854775808).toNat
theorem D6 (b:Nat)(w:ag):bD aO 215 #[.float .f64 b] w λe w'=>e=.returned (.float .f64 (pW b))/\w'=w:=by have a:=zn;have c:=xZ;go_enter Tryz.func215,Tryz.ntmps215;go_wp2;go_ret;exact⟨rfl,rfl⟩
def ug (b:Nat):Bool:=FloatKind.f64.format.order b b !=ah dw
theorem Oc (b:Nat)(w:ag):bD aO 213 #[.float .f64 b] w λe w'=>e=.returned (.bool (ug b))/\w'=w:=by go_enter Tryz.func213,Tryz.ntmps213;go_wp2;go_ret;exact⟨rfl,rfl⟩
def zt (b:Nat):Bool:=FloatKind.f64.format.order (pW b) 9218868437227405311==ah eU
theorem GH (b:Nat)(w:ag):bD aO 200 #[.float .f64 b,.int .i64 0] w λe w'=>e=.returned (.bool (zt b))/\w'=w:=by
 have a:=aV (λW=>D6 b W);go_enter Tryz.func200,Tryz.ntmps200
 go_wp2_with(go_at_call 215;refine(a.1 _).mono ?_;rintro e c ⟨rfl,rfl⟩)
 go_ret;exact⟨rfl,rfl⟩
theorem Oe (w:ag):bD aO 179 #[.int .i64 (-1)] w λe w'=>e=.returned (.float .f64 18442240474082181120)/\w'=w:=by have a:=xZ;go_enter eG,dY;go_wp2;go_ret;exact⟨rfl,rfl⟩
theorem Og (a:Nat)(ha:a<9223372036854775808):bits .and .i64 (a:Int) 2047=((a%2048:Nat):Int):=by
 have b:(aY 64 (a:Int)).toNat=a:=by rw[bT,bW];exact bJ iE
 show IntKind.i64.wrap ((aY 64 (a:Int)&&&aY 64 2047).toNat:Int)=_;rw[dO,b,show(aY 64 2047).toNat=2^11 - 1 by decide,bC];have:a%2^11<2048:=dR _ iG;simp[IntKind.wrap,IntKind.bits,IntKind.signed];omega
def wU (a b:Nat):Bool:=FloatKind.f64.format.order a b==ah dA
def AY (a b:Nat):Bool:=FloatKind.f64.format.order a b==ah dw
def kT (b:Nat):Nat×Int:=if wU (pW b) 4503599627370496 then(uf b 4841369599423283200,-52)else(b,0)
theorem GI:oL 4841369599423283200:=show 4841369599423283200%9223372036854775808<9218868437227405312 by decide
theorem GK:oL 4368491638549381120:=show 4368491638549381120%9223372036854775808<9218868437227405312 by decide
theorem fin1:oL 4607182418800017408:=show 4607182418800017408%9223372036854775808<9218868437227405312 by decide
theorem Oh (b:Nat): -52<=(kT b).2 /\(kT b).2 <=0:=by unfold kT;split<;>simp
theorem GL {b:Nat}(a:oL b)(c:b<18446744073709551616):(kT b).1 <18446744073709551616:=by
 unfold kT;split
 ·exact D5 a GI
 ·exact c
theorem Oi (b:Nat)(f:oL b)(w:ag):bD aO 214 #[.float .f64 b] w λe w'=>e=.returned (.tuple #[.float .f64 (kT b).1,.int .i64 (kT b).2])/\w'=w:=by
 have c:=aV (λW=>D6 b W);have hm:∀t w,(binOp .mul t (.float .f64 b) (.float .f64 4841369599423283200)).run aO w=.ok (.float .f64 (uf b 4841369599423283200)) w:=λt w=>dm w .mul t .f64 b _ _ (AV f GI)
 cases d:(FloatKind.f64.format.order (pW b) 4503599627370496==ah dA)with
 |true=>
  have a:PLift (kT b=(uf b 4841369599423283200,-52)):=⟨by unfold kT wU;rw[d];rfl⟩;go_enter eH,dZ
  go_wp2_with(first|(simp only[hm];done)|(go_at_call 215;refine(c.1 _).mono ?_;rintro e g ⟨rfl,rfl⟩))
  go_ret2;exact⟨by rw[a.1];rfl,rfl⟩
 |false=>
  have a:PLift (kT b=(b,0)):=⟨by unfold kT wU;rw[d];rfl⟩;go_enter eH,dZ
  go_wp2_with(go_at_call 215;refine(c.1 _).mono ?_;rintro e g ⟨rfl,rfl⟩)
  go_ret2;exact⟨by rw[a.1];rfl,rfl⟩
def uh (x:Nat):Int:=((x/4503599627370496%2048:Nat):Int) - 1023
def ui (b:Nat)(e:Int):Nat:=
 if AY b 0 then b
 else if zt b then b
 else if ug b then b
 else if e+(kT b).2 +uh (kT b).1 < -1075 then zq 0 (kT b).1
 else if e+(kT b).2 +uh (kT b).1 >1023 then(if wU (kT b).1 0 then 18442240474082181120 else 9218868437227405312)
 else if e+(kT b).2 +uh (kT b).1 < -1022 then uf 4368491638549381120 (zl (kT b).1 (e+(kT b).2 +uh (kT b).1 +53+1023).toNat)
 else uf 4607182418800017408 (zl (kT b).1 (e+(kT b).2 +uh (kT b).1 +1023).toNat)
theorem Oj (b:Nat)(F:oL b)(L:b<18446744073709551616)(e:Int)(R: -4000<=e)(S:e<=4000)(w:ag):
  bD aO 198 #[.float .f64 b,.int .i64 e] w λr w'=>r=.returned (.float .f64 (ui b e))/\w'=w:=by
 have g:=aV (λW=>Oi b F W);have o:=aV (λx W=>GG 0 x W);have h:=aV (λW=>GH b W);have j:=aV (λW=>Oc b W);have q:=aV (λW=>Gz W);have s:=aV (λW=>Oe W);have T:=zn;have hf:=xZ;obtain⟨r,hr⟩:=iC (ui b e);rw[hr];unfold ui at hr;have u:=aV hr;clear hr;cases l:AY b 0 with
 |true=>have M:(FloatKind.f64.format.order b 0==ah dw)=af:=l;have c:=aV u.1;rw[gY l]at c;go_enter bn,aW;go_wp2;go_ret;exact⟨by rw[<-c.1];rfl,rfl⟩
 |false=>
  have M:(FloatKind.f64.format.order b 0==ah dw)=aj:=l;cases B:zt b with
  |true=>
   have c:=aV u.1;rw[gZ (by simp[l]),gY B]at c;go_enter bn,aW
   go_wp2_with(go_at_call 200;refine(h.1 _).mono ?_;rintro e a ⟨rfl,rfl⟩)
   go_ret;exact⟨by rw[<-c.1];rfl,rfl⟩
  |false=>
   cases G:ug b with
   |true=>
    have c:=aV u.1;rw[gZ (by simp[l]),gZ (by simp[B]),gY G]at c;go_enter bn,aW
    go_wp2_with(first|(go_at_call 200;refine(h.1 _).mono ?_;rintro e a ⟨rfl,rfl⟩)|(go_at_call 213;refine(j.1 _).mono ?_;rintro e a ⟨rfl,rfl⟩))
    go_ret;exact⟨by rw[<-c.1];rfl,rfl⟩
   |false=>
    have c:=aV u.1;rw[gZ (by simp[l]),gZ (by simp[B]),gZ (by simp[G])]at c;obtain⟨⟨x,de⟩,hp⟩:∃p,kT b=p:=⟨_,rfl⟩;have hx:x<18446744073709551616:=(by have:=GL F L;rw[hp]at this;exact this);have C:=Oh b;rw[hp]at c g C;simp only at c g C;obtain⟨k,D⟩:=iC (x/4503599627370496%2048);have U:k<2048:=iE;obtain⟨xs,H⟩:=iC (x/4503599627370496);have V:(x:Int)/4503599627370496=(xs:Int):=iE;have X:(0:Int)<=(xs:Int):=iE;have Y:(xs:Int)<=4096:=iE;have hand:bits .and .i64 (xs:Int) 2047=(k:Int):=(by rw[Og xs iE,<-D,H]);obtain⟨d,N⟩:=iC (e+de+((k:Int) - 1023));rw[show uh x=(k:Int) - 1023 by unfold uh;rw[D],N]at c;have Z:(0:Int)<=(k:Int):=iE;have aa:(k:Int)<=2047:=iE;obtain⟨ab,ac⟩:=C;have ad: -6000<=d:=iE;have ai:d<=6100:=iE;clear D H hp u;by_cases I:d< -1075
    ·rw[gY I]at c
     go_enter bn,aW
     go_wp2_with(first|(go_at_call 200;refine(h.1 _).mono ?_;rintro e a ⟨rfl,rfl⟩)|(go_at_call 213;refine(j.1 _).mono ?_;rintro e a ⟨rfl,rfl⟩)|(go_at_call 214;refine(g.1 _).mono ?_;rintro e a ⟨rfl,rfl⟩)|(go_at_call 184;refine(o.1 _ _).mono ?_;rintro e a ⟨rfl,rfl⟩)|(go_at_call 179;refine(q.1 _).mono ?_;rintro e a ⟨rfl,rfl⟩)|(go_at_call 179;refine(s.1 _).mono ?_;rintro e a ⟨rfl,rfl⟩))
     go_ret;exact⟨by rw[<-c.1];rfl,rfl⟩
    ·rw[gZ I]at c
     by_cases J:d>1023
     ·rw[gY J]at c
      cases A:wU x 0 with
      |true=>
       have O:(FloatKind.f64.format.order x 0==ah dA)=af:=A;rw[gY A]at c;go_enter bn,aW
       go_wp2_with(first|(go_at_call 200;refine(h.1 _).mono ?_;rintro e a ⟨rfl,rfl⟩)|(go_at_call 213;refine(j.1 _).mono ?_;rintro e a ⟨rfl,rfl⟩)|(go_at_call 214;refine(g.1 _).mono ?_;rintro e a ⟨rfl,rfl⟩)|(go_at_call 184;refine(o.1 _ _).mono ?_;rintro e a ⟨rfl,rfl⟩)|(go_at_call 179;refine(q.1 _).mono ?_;rintro e a ⟨rfl,rfl⟩)|(go_at_call 179;refine(s.1 _).mono ?_;rintro e a ⟨rfl,rfl⟩))
       go_ret;exact⟨by rw[<-c.1];rfl,rfl⟩
      |false=>
       have O:(FloatKind.f64.format.order x 0==ah dA)=aj:=A;rw[gZ (by simp[A])]at c;go_enter bn,aW
       go_wp2_with(first|(go_at_call 200;refine(h.1 _).mono ?_;rintro e a ⟨rfl,rfl⟩)|(go_at_call 213;refine(j.1 _).mono ?_;rintro e a ⟨rfl,rfl⟩)|(go_at_call 214;refine(g.1 _).mono ?_;rintro e a ⟨rfl,rfl⟩)|(go_at_call 184;refine(o.1 _ _).mono ?_;rintro e a ⟨rfl,rfl⟩)|(go_at_call 179;refine(q.1 _).mono ?_;rintro e a ⟨rfl,rfl⟩)|(go_at_call 179;refine(s.1 _).mono ?_;rintro e a ⟨rfl,rfl⟩))
       go_ret;exact⟨by rw[<-c.1];rfl,rfl⟩
     ·rw[gZ J]at c
      obtain⟨y,m⟩:=iC (x&&&(18446744073709551615 - 9218868437227405312));have ak:bits .andNot .u64 (x:Int) 9218868437227405312=(y:Int):=(by rw[<-m];exact DZ x 9218868437227405312 hx iG);have hy:y<18446744073709551616:=(by rw[<-m];exact Nat.lt_of_le_of_lt Nat.and_le_left hx);by_cases K:d< -1022
      ·rw[gY K]at c
       obtain⟨n,hn⟩:∃n:Nat,d+53+1023=(n:Int):=⟨(d+53+1023).toNat,iE⟩;have E:n<2047:=iE;obtain⟨sh,i⟩:=iC (n<<<52);obtain⟨z,f⟩:=iC (zl x n);have P:IntKind.u64.wrap ((n:Int)*4503599627370496)=(sh:Int):=(by rw[<-i,bZ,aZ];omega);have Q:bits .or .u64 (y:Int) (sh:Int)=(z:Int):=(by rw[<-f,<-i,<-m];exact dV _ _ (by rw[m];exact hy) (by rw[aZ];omega));have v:=AX x n E;rw[f]at v;rw[show(d+53+1023).toNat=n by omega,f]at c;clear f i;have hm:∀t w,(binOp .mul t (.float .f64 4368491638549381120) (.float .f64 z)).run aO w=.ok (.float .f64 (uf 4368491638549381120 z)) w:=λt w=>dm w .mul t .f64 _ _ _ (AV GK v)
       go_enter bn,aW
       go_wp2_with(first|(go_at_call 200;refine(h.1 _).mono ?_;rintro e a ⟨rfl,rfl⟩)|(go_at_call 213;refine(j.1 _).mono ?_;rintro e a ⟨rfl,rfl⟩)|(go_at_call 214;refine(g.1 _).mono ?_;rintro e a ⟨rfl,rfl⟩)|(go_at_call 184;refine(o.1 _ _).mono ?_;rintro e a ⟨rfl,rfl⟩)|(go_at_call 179;refine(q.1 _).mono ?_;rintro e a ⟨rfl,rfl⟩)|(go_at_call 179;refine(s.1 _).mono ?_;rintro e a ⟨rfl,rfl⟩))
       go_ret;exact⟨by rw[<-c.1];rfl,rfl⟩
      ·rw[gZ K]at c
       obtain⟨n,hn⟩:∃n:Nat,d+1023=(n:Int):=⟨(d+1023).toNat,iE⟩;have E:n<2047:=iE;obtain⟨sh,i⟩:=iC (n<<<52);obtain⟨z,f⟩:=iC (zl x n);have P:IntKind.u64.wrap ((n:Int)*4503599627370496)=(sh:Int):=(by rw[<-i,bZ,aZ];omega);have Q:bits .or .u64 (y:Int) (sh:Int)=(z:Int):=(by rw[<-f,<-i,<-m];exact dV _ _ (by rw[m];exact hy) (by rw[aZ];omega));have v:=AX x n E;rw[f]at v;rw[show(d+1023).toNat=n by omega,f]at c;clear f i;have hm:∀t w,(binOp .mul t (.float .f64 4607182418800017408) (.float .f64 z)).run aO w=.ok (.float .f64 (uf 4607182418800017408 z)) w:=λt w=>dm w .mul t .f64 _ _ _ (AV fin1 v)
       go_enter bn,aW
       go_wp2_with(first|(go_at_call 200;refine(h.1 _).mono ?_;rintro e a ⟨rfl,rfl⟩)|(go_at_call 213;refine(j.1 _).mono ?_;rintro e a ⟨rfl,rfl⟩)|(go_at_call 214;refine(g.1 _).mono ?_;rintro e a ⟨rfl,rfl⟩)|(go_at_call 184;refine(o.1 _ _).mono ?_;rintro e a ⟨rfl,rfl⟩)|(go_at_call 179;refine(q.1 _).mono ?_;rintro e a ⟨rfl,rfl⟩)|(go_at_call 179;refine(s.1 _).mono ?_;rintro e a ⟨rfl,rfl⟩))
       go_ret;exact⟨by rw[<-c.1];rfl,rfl⟩
end Go.Proofs.YthcalnnipjflkaaGreatDoor
namespace Go.iR
open Go.Mix Go.RowKit
section
variable {ro:Option Nat} {m:Nat} {P:aN} {ops:Array aB} {md:aU} {Q:bV->Act->ag->Prop} {T:ag->ag->Prop} {D:ag->Prop}
def Closed (md:aU)(ops:Array aB)(L:Array Bool):Prop:=
 ∀(j:Nat) (o:aB),ops[j]?=ah o->L.getD j aj=af->∀e∈o.after,Region.binds md e=af->L.getD e.on aj=af
theorem Closed.set {L:Array Bool}(h:Closed md ops L){i:Nat}(hi:i∈Region.ready md ops L):Closed md ops (L.setIfInBounds i af):=by
 intro j o b c e he d
 have mono:∀k,L.getD k aj=af->(L.setIfInBounds i af).getD k aj=af:=by
  intro k a;by_cases e:i=k
  ·subst e
   rw[au]at a⊢;by_cases hs:i<L.size
   ·simp[hs]
   ·rw[aP iE]at a;cases a
  ·rw[au,aH e,<-au];exact a
 by_cases f:i=j
 ·subst f
  obtain⟨-,o',g,l⟩:=bz.1 hi;rw[b]at g;cases Option.some.inj g;exact mono _ (l e he d)
 ·rw[au,aH f,<-au]at c
  exact mono _ (h j o b c e he d)
def mJ (md:aU)(ops:Array aB)(n:Nat):Bool:=
 (dU n).all λi=>(dU (n+1)).any λj=>decide (i<j)&&((ops[j]?).map λo=>o.after.any λe=>Region.binds md e&&Nat.beq e.on i).getD aj
theorem wV {n:Nat}(hs:mJ md ops n=af){L:Array Bool}(hc:Closed md ops L)(hn:n∈Region.ready md ops L):∀k i,n - i=k->i<n->L.getD i aj=af:=by
 intro k
 induction k using bu with
 |ind k h=>
  intro i r hi;have l:=dQ.1 hs i (dC.2 hi);obtain⟨j,m,c⟩:=List.any_eq_true.1 l;have s:=dC.1 m;simp only[aX,decide_eq_true_eq]at c;obtain⟨t,a⟩:=c;cases b:ops[j]? with
  |none=>rw[b]at a;cases a
  |some o=>
   rw[b]at a;simp only[di,cu,Array.any_eq_true']at a;obtain⟨e,he,d⟩:=a;simp only[aX,Nat.beq_eq]at d;obtain⟨f,rfl⟩:=d;by_cases p:j=n
   ·subst p
    obtain⟨-,o',g,q⟩:=bz.1 hn;rw[b]at g;cases Option.some.inj g;exact q e he f
   ·exact hc j o b (h (n - j) iE j rfl iE) e he f
end
section
variable {ro:Option Nat} {m:Nat} {P:aN} {ops:Array aB} {md:aU} {Q:bV->Act->ag->Prop} {T:ag->ag->Prop} {D:ag->Prop}
structure Grow (ρ:ag) where
 w:ag
 h:aA ρ.heap.size ρ w
instance (ρ:ag):Nonempty (Grow ρ):=⟨⟨ρ,bF _ _⟩⟩
theorem Grow.calls {P:aN}{f:FuncId}{args:Array aK}{ρ:ag}{x:Grow ρ}{v:aK}
  (h:bD P f args x.w λe w'=>e=.returned v/\aA x.w.heap.size x.w w'):bD P f args x.w λe a=>e=.returned v/\∃y:Grow ρ,a=y.w:=
 h.mono λ_ w' ⟨he,b⟩=>⟨he,⟨w',x.h.trans (b.mono x.h.size)⟩,rfl⟩
end
end Go.iR
namespace Go.Mix
open Go.RowKit
theorem mM {P:aN}{Q:bV->Act->ag->Prop}{id:Nat}{a:Act}{w:ag}{l:List aB}{aF:Act}(hm:P.follows .mixedOrders=af)
  (hs:aJ l.toArray=af)(b:kN .any l.toArray l.length 0 (ay l.length aj)=ah (ae l.length af).toArray)(hd:kS a.tmps.size l []=af)
  (hr:Region.ready .any l.toArray (ae l.length af).toArray=[])
  (hA:∀ρ:ag,aA w.heap.size w ρ->wpQuiet P l.toArray (λw'=>∃x:iR.Grow ρ,w'=x.w) (λa'=>a'=aF) l a)
  (hK:∀W:ag,aA w.heap.size w W->Q .normal aF W):(Code.region id l.toArray af).wp P Q a w:=by
 refine xW (aF:=aF) l.length (λW=>aA w.heap.size w W) (λW=>aA w.heap.size w W) (λw' c=>∃x:iR.Grow w',c=x.w) hm (bI _) hs ?_ (by rw[bK];exact hd)
  (λw'=>⟨⟨w',bF _ _⟩,rfl⟩) (λ_ _ h ⟨x,k⟩=>k▸h.trans (x.h.mono h.size)) (λ_ h=>h) ⟨rfl,rfl,rfl,bI _,λ_ _=>rfl⟩ (λρ d=>by rw[bK];exact hA ρ d) ?_
 ·rw[cZ,bG,bU];exact b
 ·rw[cZ,bG,bU];exact xX hr (λW e=>hK W e)
end Go.Mix
namespace Go.Mix
open Go.RowKit
open Go.iR (Closed mJ wV)
section
variable {P:aN} {ops:Array aB} {md:aU} {Q:bV->Act->ag->Prop} {T:ag->ag->Prop} {D:ag->Prop}
def yx (P:aN)(md:aU)(ops:Array aB)(Q:bV->Act->ag->Prop)(T:ag->ag->Prop)(D:ag->Prop)(n f:Nat):Nat->Array Bool->Act->(ag->Prop)->Prop
 |0,listed,a,C=>Region.ready md ops listed=[n]/\∀w,C w->wpAny P md ops Q f listed a w
 |fuel+1,listed,a,C=>Region.ready md ops listed≠[]/\
  ∀i∈Region.ready md ops listed,mG P ops T D i (λa' b=>yx P md ops Q T D n f fuel (listed.setIfInBounds i af) a' b) a C
theorem IC {n f:Nat}:∀(fuel:Nat) (listed:Array Bool) (a:Act) (C:ag->Prop) (w:ag),C w->yx P md ops Q T D n f fuel listed a C->wpAny P md ops Q (fuel+f) listed a w
 |0,_,_,_,_,hw,h=>by rw[Nat.zero_add];exact h.2 _ hw
 |fuel+1,_,_,_,_,hw,h=>by rw[dH];exact⟨λb=>absurd b h.1,λi hi=>Gf hw (λa' c w' hw' d=>IC fuel _ a' c w' hw' d) (h.2 i hi)⟩
theorem QM {n f:Nat}(hs:mJ md ops n=af){i:Nat}(I:i<n){l:aB}{v:aK}(hi:ops[i]?=ah l)(x:∀(j:Nat) (o:aB) p b,ops[j]?=ah o->o.op≠.select p b):
  ∀(fuel:Nat) (listed:Array Bool) (a:Act) (C:ag->Prop),Closed md ops listed->(∀w w',C w->T w w'->C w')->(∀w,C w->D w)->
   (∀j oj,ops[j]?=ah oj->j≠i->listed.getD j af=aj->(∀e∈oj.after,Region.binds md e=af->e.on≠i)->l.apart ops oj=af)->
   i∈Region.ready md ops listed->One P ops T D l v a->
   yx P md ops Q T D n f fuel (listed.setIfInBounds i af) (a.put l.dst v) C->yx P md ops Q T D n f (fuel+1) listed a C:=by
 intro fuel
 induction fuel with
 |zero=>
  intro listed a C s q r _ hr hy H;refine⟨λh=>(by rw[h]at hr;cases hr),λj m=>?_⟩;by_cases d:j=i
  ·subst d;exact One.mG hi q r hy H
  ·have:=bP m d
   rw[H.1]at this;obtain rfl:j=n:=by simpa using this
   have c:=wV hs s m _ i rfl I;have g:=(bz.1 hr).1;rw[au]at c g;cases y:listed[i]? with
   |none=>rw[y]at c;cases c
   |some b=>rw[y]at c g;simp only[cu]at c g;rw[c]at g;cases g
 |succ fuel J=>
  intro listed a C s q r z hr hy H;refine⟨λh=>(by rw[h]at hr;cases hr),λj m=>?_⟩;by_cases d:j=i
  ·subst d;exact One.mG hi q r hy H
  ·have c:=H.2 j (bP m d)
   have K:=s.set m;obtain⟨A,oj,t,L⟩:=bz.1 m
   have M:∀e∈oj.after,Region.binds md e=af->e.on≠i:=λe he N O=>by
    have c:=L e he N;have B:=(bz.1 hr).1;rw[O]at c;rcases bQ i listed.size with u|u
    ·simp[u]at B c;rw[B]at c;cases c
    ·simp[aP u]at c
   have g:=Gi t (z j oj t d A M) (λp b=>x i l p b hi) (λp b=>x j oj p b t) hy c
   have R:∀k ok,ops[k]?=ah ok->k≠i->(listed.setIfInBounds j af).getD k af=aj->
     (∀e∈ok.after,Region.binds md e=af->e.on≠i)->l.apart ops ok=af:=λk ok S U E V=>by
    refine z k ok S U ?_ V;by_cases F:j=k
    ·subst F;exact A
    ·rw[eQ af F]at E;exact E
   refine Gh ⟨q,r⟩ (λa' W X Y G=>J (listed.setIfInBounds j af) a' W K X Y R (bP hr (Ne.symm d)) G.1 ?_) g;rw[bH _ _ d];exact G.2
theorem IE {n f:Nat}(hsc:mJ md ops n=af)(hs:aJ ops=af)(c:∀w,T w w){C:ag->Prop}(d:∀w w',C w->T w w'->C w')(g:∀w,C w->D w)(i:∃ρ,D ρ){aF:Act}{listed':Array Bool}:
  ∀(l:List aB) (k:Nat) (listed:Array Bool) (a:Act) (seen:List Tmp),k+l.length=n->Closed md ops listed->(∀j,j<l.length->l[j]?=ops[k+j]?)->
  kN md ops l.length k listed=ah listed'->kS a.tmps.size l seen=af->vC P ops T D aF l a->yx P md ops Q T D n f 0 listed' aF C->yx P md ops Q T D n f l.length listed a C
 |[],_,listed,a,_,_,_,_,b,_,h,hK=>by
  obtain⟨ρ,s⟩:=i;have e:a=aF:=h ρ s;have t:listed=listed':=by simpa[kN]using b
  subst e t;simpa using hK
 |o::l,k,listed,a,seen,m,p,q,b,hd,h,hK=>by
  have r:ops[k]?=ah o:=by simpa using(q 0 iH).symm
  simp only[aT,kN]at b;split at b
  case isFalse=>cases b
  rename_i hc;simp only[aX]at hc;obtain⟨v,u,x,y,z⟩:=DU c hd h;have hr:k∈Region.ready md ops listed:=by simpa using hc.1
  have:=IE hsc hs c d g i l (k+1) _ (a.put o.dst v) u (by simp at m;omega) (p.set hr) (λj A=>by have:=q (j+1) iI;simpa[dE,ed 1 j]using this) b (by rw[DT];exact y) z hK;rw[aT];exact QM hsc (by simp at m;omega) r (dD hs) l.length listed a C p d g (dN r hc.2) hr x this
theorem IG {id:Nat}{a:Act}{w:ag}{l:List aB}(n f:Nat)(C D:ag->Prop)(T:ag->ag->Prop){aF:Act}(hm:P.follows .mixedOrders=af)
  (hn:n+f=l.length)(hsc:mJ .any l.toArray n=af)(hs:aJ l.toArray=af)(k:kN .any l.toArray n 0 (ay l.length aj)=ah (ae n af++ae f aj).toArray)(hd:kS a.tmps.size (l.take n) []=af)
  (hr:Region.ready .any l.toArray (ae n af++ae f aj).toArray=[n])
  (m:∀w,T w w)(p:∀w w',C w->T w w'->C w')(d:∀w,C w->D w)(e:C {w with drawn:=w.drawn+1})(hA:vC P l.toArray T D aF (l.take n) a)
  (q:∀w,C w->wpAny P .any l.toArray Q f (ae n af++ae f aj).toArray aF w):(Code.region id l.toArray af).wp P Q a w:=by
 have b:(l.take n).length=n:=iI
 have r:Closed .any l.toArray (ay l.length aj):=by intro j o _ c;rw[au,Array.getElem?_replicate]at c;split at c<;>cases c
 have g:=IE (P:=P) (md:=.any) (ops:=l.toArray) (Q:=Q) (T:=T) (D:=D) (n:=n) (f:=f) hsc hs m p d ⟨_,d _ e⟩ (l.take n) 0 (ay l.length aj) a [] (by rw[b];omega) r (λj h=>by rw[b]at h;simp[h]) (by rw[b];exact k) hd hA ⟨hr,q⟩;rw[b]at g;have i:=IC n _ _ _ _ e g;refine dF hm ?_;rw[hn]at i;simpa using i
theorem IJ {id:Nat}{a:Act}{w:ag}{l:List aB}{os:aB}{aF:Act}(n:Nat)(hm:P.follows .mixedOrders=af)(e:n+1=l.length)
  (hsc:mJ .any l.toArray n=af)(hs:aJ l.toArray=af)(f:kN .any l.toArray n 0 (ay l.length aj)=ah (ae n af++ae 1 aj).toArray)(hd:kS a.tmps.size (l.take n) []=af)
  (hr:Region.ready .any l.toArray (ae n af++ae 1 aj).toArray=[n])(g:Region.ready .any l.toArray ((ae n af++ae 1 aj).toArray.setIfInBounds n af)=[])
  (i:l[n]?=ah os)(m:os.guard=az)(o:os.dst=az)
  (hA:∀ρ:ag,aA w.heap.size w ρ->wpQuiet P l.toArray (λw'=>∃x:iR.Grow ρ,w'=x.w) (λa'=>a'=aF) (l.take n) a)
  (p:∀W,aA w.heap.size w W->∃W',(execOp aF.eval os).run P W=.ok .skip W'/\Q .normal aF W'):(Code.region id l.toArray af).wp P Q a w:=by
 refine IG (aF:=aF) n 1 (λW=>aA w.heap.size w W) (λW=>aA w.heap.size w W) (λw' q=>∃x:iR.Grow w',q=x.w) hm e hsc hs f hd hr
  (λw'=>⟨⟨w',bF _ _⟩,rfl⟩) (λ_ _ h ⟨x,k⟩=>k▸h.trans (x.h.mono h.size)) (λ_ h=>h) ⟨rfl,rfl,rfl,bI _,λ_ _=>rfl⟩ (λρ r=>hA ρ r) (λW s=>?_)
 obtain⟨W',t,u⟩:=p W s;refine⟨(λc=>by rw[hr]at c;cases c),λj d=>?_⟩;rw[hr]at d;obtain rfl:j=n:=by simpa using d
 unfold wpOp;have v:l.toArray[j]?=ah os:=by simpa using i
 rw[v];simp only[ax,m,if_true];refine .inl ?_;unfold Oper.wp;rw[t];have b:wpAny P .any l.toArray Q 0 ((ae j af++ae 1 aj).toArray.setIfInBounds j af) aF W':=⟨g,u⟩
 first
  |exact b
  |(simp only[Oper.upon,o];exact b)
  |(unfold Oper.upon;exact b)
end
end Go.Mix
namespace Go.Mix
open Go.RowKit
section
variable {P:aN} {Q:bV->Act->ag->Prop}
theorem lu {ρ w:ag}{b:Nat}{o:Obj}(h:aA ρ.heap.size ρ w)(a:ρ.heap[b]?=ah o):w.heap[b]?=ah o:=by
 have c:b<ρ.heap.size:=by
  rcases bQ b ρ.heap.size with h|h
  ·exact h
  ·rw[aP h]at a;cases a
 rw[h.block b c];exact a
theorem VG {id:Nat}{a:Act}{w:ag}{l:List aB}(n:Nat)(r s:Tmp)(G H L M:aB)(p m I J:Obj){aF:Act}(hm:P.follows .mixedOrders=af)
  (a8:l.length=n+4)(hs:aJ l.toArray=af)(aq:kN .any l.toArray n 0 (ay l.length aj)=ah (ae n af++ae (l.length - n) aj).toArray)
  (hd:kS a.tmps.size (l.take n) []=af)(aa:l[n]?=ah G)(ab:l[n+1]?=ah H)(ar:l[n+2]?=ah L)(av:l[n+3]?=ah M)
  (ac:G.guard=az)(ad:H.guard=az)(aw:L.guard=az)(aD:M.guard=az)(ai:G.dst=ah r)(ak:H.dst=ah s)(aE:L.dst=az)(aG:M.dst=az)(aL:r≠s)
  (al:Region.ready .any l.toArray (ae n af++ae 4 aj).toArray=[n,n+1])
  (aM:Region.ready .any l.toArray ((ae n af++ae 4 aj).toArray.setIfInBounds n af)=[n+1])
  (aR:Region.ready .any l.toArray ((ae n af++ae 4 aj).toArray.setIfInBounds (n+1) af)=[n])
  (a0:Region.ready .any l.toArray (((ae n af++ae 4 aj).toArray.setIfInBounds n af).setIfInBounds (n+1) af)=[n+2])
  (a1:Region.ready .any l.toArray ((((ae n af++ae 4 aj).toArray.setIfInBounds n af).setIfInBounds (n+1) af).setIfInBounds (n+2) af)=[n+3])
  (a2:Region.ready .any l.toArray (((((ae n af++ae 4 aj).toArray.setIfInBounds n af).setIfInBounds (n+1) af).setIfInBounds (n+2) af).setIfInBounds (n+3) af)=[])
  (hA:∀ρ,aA w.heap.size w ρ->wpQuiet P l.toArray (λw'=>∃x:iR.Grow ρ,w'=x.w) (λa'=>a'=aF) (l.take n) a)
  (am:∀(v:aK) (W:ag),(execOp aF.eval G).run P W=.ok (.value (.pointer (ah ⟨W.heap.size,0,az⟩))) (W.alloc p)/\(execOp (aF.put (ah s) v).eval G).run P W=.ok (.value (.pointer (ah ⟨W.heap.size,0,az⟩))) (W.alloc p))
  (an:∀(v:aK) (W:ag),(execOp aF.eval H).run P W=.ok (.value (.pointer (ah ⟨W.heap.size,0,az⟩))) (W.alloc m)/\(execOp (aF.put (ah r) v).eval H).run P W=.ok (.value (.pointer (ah ⟨W.heap.size,0,az⟩))) (W.alloc m))
  (a3:∀(b1 b2:Nat) (W:ag),W.heap[b1]?=ah p->(execOp ((aF.put (ah r) (.pointer (ah ⟨b1,0,az⟩))).put (ah s) (.pointer (ah ⟨b2,0,az⟩))).eval L).run P W=.ok .skip {W with heap:=W.heap.setIfInBounds b1 I})
  (a4:∀(b1 b2:Nat) (W:ag),W.heap[b2]?=ah m->(execOp ((aF.put (ah r) (.pointer (ah ⟨b1,0,az⟩))).put (ah s) (.pointer (ah ⟨b2,0,az⟩))).eval M).run P W=.ok .skip {W with heap:=W.heap.setIfInBounds b2 J})
  (hK:∀(b1 b2:Nat) (W:ag),aA w.heap.size w W->w.heap.size<=b1->w.heap.size<=b2->b1≠b2->W.heap[b1]?=ah I->W.heap[b2]?=ah J->
   Q .normal ((aF.put (ah r) (.pointer (ah ⟨b1,0,az⟩))).put (ah s) (.pointer (ah ⟨b2,0,az⟩))) W):(Code.region id l.toArray af).wp P Q a w:=by
 have a5:l.length - n=4:=iE
 have D:∀j q:ag,aA w.heap.size w j->(∃x:iR.Grow j,q=x.w)->aA w.heap.size w q:=by rintro j _ h ⟨x,rfl⟩;exact h.trans (x.h.mono h.size)
 have t:∀(j q:ag) (b:Nat) (o:Obj),j.heap[b]?=ah o->(∃x:iR.Grow j,q=x.w)->q.heap[b]?=ah o:=by rintro j _ b o h ⟨x,rfl⟩;exact lu x.h h
 have new:∀(W:ag) (X:Obj),(W.alloc X).heap[W.heap.size]?=ah X:=λW X=>by show(W.heap.push X)[W.heap.size]?=_;simp
 have ao:∀(W:ag) (X o:Obj) (b:Nat),W.heap[b]?=ah o->(W.alloc X).heap[b]?=ah o/\b≠W.heap.size:=by
  intro W X o b h
  have K:b<W.heap.size:=by
   rcases bQ b W.heap.size with R|R
   ·exact R
   ·rw[aP R]at h;cases h
  exact⟨by rw[Below.heap_alloc _ _ _ K];exact h,iE⟩
 have ap:∀(W:ag) (b:Nat) (Y:Obj),aA w.heap.size w W->w.heap.size<=b->aA w.heap.size w {W with heap:=W.heap.setIfInBounds b Y}:=by intro W b Y h B;refine⟨h.os,h.tape,h.output,by simpa using h.size,λk a6=>?_⟩;show(W.heap.setIfInBounds b Y)[k]?=_;rw[aH iE];exact h.block k a6
 refine xW (aF:=aF) n (λw'=>aA w.heap.size w w') (λw'=>aA w.heap.size w w') (λw w'=>∃x:iR.Grow w,w'=x.w) hm iE hs aq hd (λw=>⟨⟨w,bF _ _⟩,rfl⟩) D (λ_ h=>h) (bF _ _).drew hA ?_;rw[a5]
 have tail:∀(b1 b2:Nat) (C:ag->Prop),w.heap.size<=b1->w.heap.size<=b2->b1≠b2->(∀W,C W->aA w.heap.size w W/\W.heap[b1]?=ah p/\W.heap[b2]?=ah m)->
   qY P .any l.toArray Q (λw w'=>∃x:iR.Grow w,w'=x.w) (λw'=>aA w.heap.size w w') 2 (((ae n af++ae 4 aj).toArray.setIfInBounds n af).setIfInBounds (n+1) af) ((aF.put (ah r) (.pointer (ah ⟨b1,0,az⟩))).put (ah s) (.pointer (ah ⟨b2,0,az⟩))) C:=by
  intro b1 b2 C N O S a7;refine qZ (i:=n+2) a0 (by simpa using ar) (by unfold ax;rw[aw]) (λv W=>aA w.heap.size w W/\W.heap[b1]?=ah I/\W.heap[b2]?=ah m) ?_ (λ_ _ h=>h.1) ?_ ?_
  ·rintro _ j q ⟨f,e,g⟩ c
   exact⟨D _ _ f c,t _ _ _ _ e c,t _ _ _ _ g c⟩
  ·intro W u
   obtain⟨f,e,g⟩:=a7 W u;rw[a3 b1 b2 W e];refine⟨ap W b1 I f N,?_,?_⟩
   ·have K:b1<W.heap.size:=(aQ.1 e).1
    simp[K]
   ·show(W.heap.setIfInBounds b1 I)[b2]?=_
    rw[aH S];exact g
  ·intro v W u
   rw[aE];refine qZ (i:=n+3) a1 (by simpa using av) (by unfold ax;rw[aD]) (λv W=>aA w.heap.size w W/\W.heap[b1]?=ah I/\W.heap[b2]?=ah J) ?_ (λ_ _ h=>h.1) ?_ ?_
   ·rintro _ j q ⟨f,e,g⟩ c
    exact⟨D _ _ f c,t _ _ _ _ e c,t _ _ _ _ g c⟩
   ·rintro W ⟨f,e,g⟩
    have:=a4 b1 b2 W g;rw[show((aF.put (ah r) (.pointer (ah ⟨b1,0,az⟩))).put (ah s) (.pointer (ah ⟨b2,0,az⟩))).put az v=((aF.put (ah r) (.pointer (ah ⟨b1,0,az⟩))).put (ah s) (.pointer (ah ⟨b2,0,az⟩)))from rfl,this];refine⟨ap W b2 J f O,?_,?_⟩
    ·show(W.heap.setIfInBounds b2 J)[b1]?=_
     rw[aH (Ne.symm S)];exact e
    ·have K:b2<W.heap.size:=(aQ.1 g).1
     simp[K]
   ·intro v' W' _
    rw[aG];exact xX a2 (λT ⟨f,e,g⟩=>hK b1 b2 T f N O S e g)
 refine⟨(λh=>by rw[al]at h;cases h),λi hi=>?_⟩;rw[al]at hi;rcases bY.1 hi with rfl|hi
 ·unfold mG
  simp only[show l.toArray[i]?=ah G from by simpa using aa];rw[gY (by unfold ax;rw[ac])];refine⟨λv W=>∃b,v=.pointer (ah ⟨b,0,az⟩)/\aA w.heap.size w W/\w.heap.size<=b/\W.heap[b]?=ah p,?_,?_,?_,?_⟩
  ·rintro v j q ⟨b,rfl,f,e,g⟩ c
   exact⟨b,rfl,D _ _ f c,e,t _ _ _ _ g c⟩
  ·rintro v W ⟨b,rfl,f,e,g⟩
   exact f
  ·intro W u
   rw[(am undef W).1];exact⟨_,rfl,dB u u.size _,u.size,new W p⟩
  ·rintro v W ⟨b1,rfl,f,e,g⟩
   rw[ai];refine qZ (i:=i+1) aM (by simpa using ab) (by unfold ax;rw[ad]) (λv W=>∃b2,v=.pointer (ah ⟨b2,0,az⟩)/\b1≠b2/\w.heap.size<=b2/\aA w.heap.size w W/\W.heap[b1]?=ah p/\W.heap[b2]?=ah m) ?_ ?_ ?_ ?_
   ·rintro v j q ⟨b2,rfl,e1,y,e3,E,e5⟩ c
    exact⟨b2,rfl,e1,y,D _ _ e3 c,t _ _ _ _ E c,t _ _ _ _ e5 c⟩
   ·rintro v W ⟨b2,rfl,e1,y,e3,E,e5⟩
    exact e3
   ·rintro z ⟨b,B,A,U,F⟩
    obtain rfl:b1=b:=by simpa using B
    rw[(an _ z).2];have:=ao z m p b1 F;exact⟨_,rfl,this.2,A.size,dB A A.size _,this.1,new z m⟩
   ·rintro v z ⟨b2,rfl,e1,y,e3,E,e5⟩
    rw[ak];refine tail b1 b2 _ e y e1 ?_;rintro T ⟨b,B,A,U,F,V,Z⟩;obtain rfl:b2=b:=by simpa using B
    exact⟨F,V,Z⟩
 ·obtain rfl:i=n+1:=by simpa using hi
  unfold mG;simp only[show l.toArray[n+1]?=ah H from by simpa using ab];rw[gY (by unfold ax;rw[ad])];refine⟨λv W=>∃b,v=.pointer (ah ⟨b,0,az⟩)/\aA w.heap.size w W/\w.heap.size<=b/\W.heap[b]?=ah m,?_,?_,?_,?_⟩
  ·rintro v j q ⟨b,rfl,f,e,g⟩ c
   exact⟨b,rfl,D _ _ f c,e,t _ _ _ _ g c⟩
  ·rintro v W ⟨b,rfl,f,e,g⟩
   exact f
  ·intro W u
   rw[(an undef W).1];exact⟨_,rfl,dB u u.size _,u.size,new W m⟩
  ·rintro v W ⟨b2,rfl,f,e,g⟩
   rw[ak];refine qZ (i:=n) aR (by simpa using aa) (by unfold ax;rw[ac]) (λv W=>∃b1,v=.pointer (ah ⟨b1,0,az⟩)/\b1≠b2/\w.heap.size<=b1/\aA w.heap.size w W/\W.heap[b1]?=ah p/\W.heap[b2]?=ah m) ?_ ?_ ?_ ?_
   ·rintro v j q ⟨b1,rfl,e1,y,e3,E,e5⟩ c
    exact⟨b1,rfl,e1,y,D _ _ e3 c,t _ _ _ _ E c,t _ _ _ _ e5 c⟩
   ·rintro v W ⟨b1,rfl,e1,y,e3,E,e5⟩
    exact e3
   ·rintro z ⟨b,B,A,U,F⟩
    obtain rfl:b2=b:=by simpa using B
    rw[(am _ z).2];have:=ao z p m b2 F;exact⟨_,rfl,Ne.symm this.2,A.size,dB A A.size _,new z p,this.1⟩
   ·rintro v z ⟨b1,rfl,e1,y,e3,E,e5⟩
    rw[ai,Act.put_comm aF _ _ (λd hd=>by intro h;have N:s=d:=(by simpa using hd);have O:r=d:=(by simpa using h);exact aL (O.trans N.symm)),bH _ _ iE]
    refine tail b1 b2 _ y e e1 ?_;rintro T ⟨b,B,A,U,F,V,Z⟩;obtain rfl:b1=b:=by simpa using B
    exact⟨F,V,Z⟩
end
structure iZ (R:ag->ag->Prop)(ρ:ag) where
 w:ag
 h:R ρ w
theorem iZ.calls {P:aN}{R:ag->ag->Prop}{f:FuncId}{args:Array aK}{ρ:ag}{x:iZ R ρ}{v:aK}(d:∀a b c,R a b->R b c->R a c)
  (h:bD P f args x.w λe w'=>e=.returned v/\R x.w w'):bD P f args x.w λe g=>e=.returned v/\∃y:iZ R ρ,g=y.w:=
 h.mono λ_ w' ⟨he,i⟩=>⟨he,⟨w',d _ _ _ x.h i⟩,rfl⟩
theorem qQ {P:aN}{Q:bV->Act->ag->Prop}{id:Nat}{a:Act}{w:ag}{l:List aB}{aF:Act}(R:ag->ag->Prop)(d:∀w,R w w)(e:∀a b c,R a b->R b c->R a c)(f:R w {w with drawn:=w.drawn+1})(hm:P.follows .mixedOrders=af)
  (hs:aJ l.toArray=af)(g:kN .any l.toArray l.length 0 (ay l.length aj)=ah (ae l.length af).toArray)(hd:kS a.tmps.size l []=af)
  (hr:Region.ready .any l.toArray (ae l.length af).toArray=[])
  (hA:∀ρ:ag,R w ρ->wpQuiet P l.toArray (λw'=>∃x:iZ R ρ,w'=x.w) (λa'=>a'=aF) l a)
  (hK:∀W:ag,R w W->Q .normal aF W):(Code.region id l.toArray af).wp P Q a w:=by
 refine xW (aF:=aF) l.length (λW=>R w W) (λW=>R w W) (λw' i=>∃x:iZ R w',i=x.w) hm (bI _) hs ?_ (by rw[bK];exact hd)
  (λw'=>⟨⟨w',d w'⟩,rfl⟩) (λ_ _ h ⟨x,k⟩=>k▸e _ _ _ h x.h) (λ_ h=>h) f (λρ j=>by rw[bK];exact hA ρ j) ?_
 ·rw[cZ,bG,bU];exact g
 ·rw[cZ,bG,bU];exact xX hr (λW m=>hK W m)
theorem Lt {P:aN}{Q:bV->Act->ag->Prop}{id:Nat}{a:Act}{w:ag}{l:List aB}{os:aB}{aF:Act}(n:Nat)(hm:P.follows .mixedOrders=af)(m:n+1=l.length)
  (hsc:Go.iR.mJ .any l.toArray n=af)(hs:aJ l.toArray=af)(o:kN .any l.toArray n 0 (ay l.length aj)=ah (ae n af++ae 1 aj).toArray)(hd:kS a.tmps.size (l.take n) []=af)
  (hr:Region.ready .any l.toArray (ae n af++ae 1 aj).toArray=[n])(p:Region.ready .any l.toArray ((ae n af++ae 1 aj).toArray.setIfInBounds n af)=[])
  (q:l[n]?=ah os)(r:os.guard=az)
  (hA:∀ρ:ag,aA w.heap.size w ρ->wpQuiet P l.toArray (λw'=>∃x:iR.Grow ρ,w'=x.w) (λa'=>a'=aF) (l.take n) a)
  (s:∀W,aA w.heap.size w W->∃f args,(execOp aF.eval os).run P W=.ok (.enter f args) W/\bD P f args W λe b=>(∃v,e=.returned v/\Q .normal (aF.put os.dst v) b)\/∃c,e=.panicked c/\Q (.panic c) aF b):(Code.region id l.toArray af).wp P Q a w:=by
 refine IG (aF:=aF) n 1 (λW=>aA w.heap.size w W) (λW=>aA w.heap.size w W) (λw' b=>∃x:iR.Grow w',b=x.w) hm m hsc hs o hd hr
  (λw'=>⟨⟨w',bF _ _⟩,rfl⟩) (λ_ _ h ⟨x,k⟩=>k▸h.trans (x.h.mono h.size)) (λ_ h=>h) ⟨rfl,rfl,rfl,bI _,λ_ _=>rfl⟩ (λρ t=>hA ρ t) (λW u=>?_)
 obtain⟨f,args,y,z⟩:=s W u;refine⟨(λg=>by rw[hr]at g;cases g),λj i=>?_⟩;rw[hr]at i;obtain rfl:j=n:=by simpa using i
 unfold wpOp;have A:l.toArray[j]?=ah os:=by simpa using q
 rw[A];simp only[ax,r,if_true];refine .inl ?_;unfold Oper.wp;rw[y];simp only[Oper.upon];refine z.mono λe b he=>?_
 rcases he with⟨v,he,d⟩|⟨c,he,d⟩
 ·subst he;exact⟨p,d⟩
 ·subst he;exact d
