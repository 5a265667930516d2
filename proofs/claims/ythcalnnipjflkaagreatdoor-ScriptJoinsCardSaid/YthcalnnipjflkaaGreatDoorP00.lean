import Derived.WalkKit
import Derived.WalkSpells
import Derived.Lib.Hide
import Derived.WalkLawsBesides
import Derived.IntWalk
import Derived.Laws.Closers25b
import Derived.Lib.DecodeN
import Derived.Deep.Quiet
import Derived.Below
import Derived.Laws.AppendOwn
import Derived.Lib.UnsafeStr
import Derived.Laws.Bits64b
import Derived.Laws.FloatArith
import Derived.Laws.Externs
import Derived.RegionTactic
import Derived.Test.YthcalnnipjflkaaGreatDoorH
import Derived.Test.YthcalnnipjflkaaGreatDoorRows
open Go renaming World -> ae, Oper -> az, Value -> aA, Program -> aU, Calls -> aW, mem_ready -> bu, run_float_arith -> bz, run_callFunc_extern -> bI, ready_mono -> bU, bits_or_u64_nat -> bW, run_append_own -> bY, wp_region_any -> cu, Exit -> dm, TypeId -> dw
open List renaming replicate -> af, length_cons -> bP, map_toArray -> bT, map_cons -> cZ, map_nil -> dA
open Bool renaming true -> ag, false -> aj, and_eq_true -> aZ, not_eq_true' -> bJ
open Option renaming some -> ah, none -> aC
open Go.Region renaming wanted -> au, noSelect -> aT, Mode -> bC
open Array renaming replicate -> ax, getElem?_eq_getElem -> aB, getD_eq_getD_getElem? -> aH, getElem?_eq_some_iff -> aS, getElem?_eq_none -> bD
open Go.Proofs.Tryz renaming prog -> ay, ntmps198 -> aJ, func198 -> aO, ntmps179 -> dh, ntmps214 -> di, func179 -> dB, func214 -> dC
open PLift renaming up -> aI
open BitVec renaming ofInt -> aK, ofInt_natCast -> aX, toNat_ofNat -> aY, toNat_and -> bQ
open Nat renaming shiftLeft_eq -> aN, and_two_pow_sub_one_eq_mod -> aP, mod_eq_of_lt -> aV, succ_le_succ -> bK, mod_lt -> bV, add_assoc -> bZ, lt_or_ge -> dn, zero_le -> dD
open Go.RowKit renaming Below -> aQ
open Go.IntKind renaming wrap_u64 -> bn, u64 -> bF
open Ordering renaming eq -> bG, lt -> bH, gt -> dE
set_option linter.all false
set_option maxHeartbeats 4000000
set_option maxRecDepth 100000
namespace Go.Proofs.YthcalnnipjflkaaGreatDoor
open Go.Lib
def dec (l:List UInt8):Nat×Nat:=decodeN l.length (l.getD 0 0).toNat (l.getD 1 0).toNat (l.getD 2 0).toNat (l.getD 3 0).toNat
def qX (d:UInt8):UInt8:=if d<10 then 48+d else 87+d
def one (c:UInt8)(r:List UInt8):List UInt8:=
 if c=92\/c=34 then[92,c]else if c=10 then[92,110]else if c=13 then[92,114]else if c=9 then[92,116]
 else if dec (c::r)=(65533,1)\/c<32\/c=127 then[92,120,qX (c/16),qX (c%16)]else(c::r).take (dec (c::r)).2
def qb:List UInt8->List UInt8
 |[]=>[]
 |c::r=>one c r++qb (r.drop ((dec (c::r)).2 - 1))
termination_by l=>l.length
decreasing_by simp;omega
def jE (c:UInt8):UInt8:=if 48<=c/\c<=57 then c - 48 else if 97<=c/\c<=102 then c - 87 else 16
def uq:List UInt8->Option (List UInt8×List UInt8)
 |[]=>aC
 |c::r=>
  if c=34 then ah ([],r)
  else if c<32\/c=127 then aC
  else if c≠92 then(uq r).map λp=>(c::p.1,p.2)
  else match r with
   |[]=>aC
   |e::r2=>
    if e=92\/e=34 then(uq r2).map λp=>(e::p.1,p.2)
    else if e=110 then(uq r2).map λp=>(10::p.1,p.2)
    else if e=114 then(uq r2).map λp=>(13::p.1,p.2)
    else if e=116 then(uq r2).map λp=>(9::p.1,p.2)
    else if e=120 then match r2 with
     |a::b::d=>if jE a=16\/jE b=16 then aC else(uq d).map λp=>((16*jE a+jE b)::p.1,p.2)
     |_=>aC
    else aC
def chk:List UInt8->Bool
 |[]=>ag
 |c::r=>if dec (c::r)=(65533,1)then aj else chk (r.drop ((dec (c::r)).2 - 1))
termination_by l=>l.length
decreasing_by simp;omega
theorem DK {c:UInt8}(h:c.toNat<128)(r:List UInt8):dec (c::r)=(c.toNat,1):=by unfold dec decodeN;simp[h]
theorem Nw {n a b1 b2 b3:Nat}(h:128<=a):decodeN n a b1 b2 b3=(65533,1)
  \/((decodeN n a b1 b2 b3).2 =2/\1<n/\128<=b1/\∀n' j b,1<n'->decodeN n' a b1 j b=decodeN n a b1 b2 b3)
  \/((decodeN n a b1 b2 b3).2 =3/\2<n/\128<=b1/\128<=b2/\∀n' b,2<n'->decodeN n' a b1 b2 b=decodeN n a b1 b2 b3)
  \/((decodeN n a b1 b2 b3).2 =4/\3<n/\128<=b1/\128<=b2/\128<=b3/\∀n',3<n'->decodeN n' a b1 b2 b3=decodeN n a b1 b2 b3):=by
 have i:¬a<128:=iE
 by_cases c:a/32=6/\(1<n/\b1/64=2)
 ·by_cases g:a%32*64+b1%64≥128
  ·have e:∀n' j b,1<n'->decodeN n' a b1 j b=(a%32*64+b1%64,2):=λn' j b hn=>by
    unfold decodeN;rw[gZ i,gY ⟨c.1,hn,c.2.2⟩,gY g]
   exact .inr (.inl ⟨by rw[e _ _ _ c.2.1],c.2.1,iE,λn' j b hn=>by rw[e _ _ _ hn,e _ _ _ c.2.1]⟩)
  ·left
   unfold decodeN;rw[gZ i,gY c,gZ g]
 ·by_cases d:a/16=14/\(1<n/\b1/64=2)/\(2<n/\b2/64=2)
  ·by_cases g:a%16*4096+b1%64*64+b2%64≥2048/\(a%16*4096+b1%64*64+b2%64<55296\/(57344<=a%16*4096+b1%64*64+b2%64/\a%16*4096+b1%64*64+b2%64<=1114111))
   ·have e:∀n' b,2<n'->decodeN n' a b1 b2 b=(a%16*4096+b1%64*64+b2%64,3):=λn' b hn=>by
     unfold decodeN;rw[gZ i,gZ iE,gY ⟨d.1,⟨iE,d.2.1.2⟩,hn,d.2.2.2⟩,gY g]
    exact .inr (.inr (.inl ⟨by rw[e _ _ d.2.2.1],d.2.2.1,iE,iE,λn' b hn=>by rw[e _ _ hn,e _ _ d.2.2.1]⟩))
   ·left
    unfold decodeN;rw[gZ i,gZ c,gY d,gZ g]
  ·by_cases f:a/8=30/\(1<n/\b1/64=2)/\(2<n/\b2/64=2)/\(3<n/\b3/64=2)
   ·by_cases g:a%8*262144+b1%64*4096+b2%64*64+b3%64≥65536/\(a%8*262144+b1%64*4096+b2%64*64+b3%64<55296\/(57344<=a%8*262144+b1%64*4096+b2%64*64+b3%64/\a%8*262144+b1%64*4096+b2%64*64+b3%64<=1114111))
    ·have e:∀n',3<n'->decodeN n' a b1 b2 b3=(a%8*262144+b1%64*4096+b2%64*64+b3%64,4):=λn' hn=>by
      unfold decodeN;rw[gZ i,gZ iE,gZ iE,gY ⟨f.1,⟨iE,f.2.1.2⟩,⟨iE,f.2.2.1.2⟩,hn,f.2.2.2.2⟩,gY g]
     exact .inr (.inr (.inr ⟨by rw[e _ f.2.2.2.1],f.2.2.2.1,iE,iE,iE,λn' hn=>by rw[e _ hn,e _ f.2.2.2.1]⟩))
    ·left
     unfold decodeN;rw[gZ i,gZ c,gZ d,gY f,gZ g]
   ·left
    unfold decodeN;rw[gZ i,gZ c,gZ d,gZ f]
theorem F9 {c:UInt8}(h:128<=c.toNat)(r:List UInt8):dec (c::r)=(65533,1)\/(2<=(dec (c::r)).2 /\(dec (c::r)).2 <=(c::r).length/\(∀b∈(c::r).take (dec (c::r)).2,128<=b.toNat)/\∀l,dec ((c::r).take (dec (c::r)).2 ++l)=dec (c::r)):=by
 rcases Nw (n:=(c::r).length) (b1:=((c::r).getD 1 0).toNat) (b2:=((c::r).getD 2 0).toNat) (b3:=((c::r).getD 3 0).toNat) h with k|⟨k,a,d,e⟩|⟨k,a,d,f,e⟩|⟨k,a,d,f,j,e⟩
 ·exact .inl k
 ·rcases r with _|⟨g,r⟩
  ·simp at a
  have k':(dec (c::g::r)).2 =2:=k;refine .inr ⟨iE,by rw[k'];simp,?_,?_⟩<;>rw[k']
  ·simp at d⊢
   exact⟨h,d⟩
  ·intro l
   exact e _ _ _ iH
 ·rcases r with _|⟨g,_|⟨i,r⟩⟩
  ·simp at a
  ·simp at a
  have k':(dec (c::g::i::r)).2 =3:=k;refine .inr ⟨iE,by rw[k'];simp,?_,?_⟩<;>rw[k']
  ·simp at d f⊢
   exact⟨h,d,f⟩
  ·intro l
   exact e _ _ iH
 ·rcases r with _|⟨g,_|⟨i,_|⟨m,r⟩⟩⟩
  ·simp at a
  ·simp at a
  ·simp at a
  have k':(dec (c::g::i::m::r)).2 =4:=k;refine .inr ⟨iE,by rw[k'];simp,?_,?_⟩<;>rw[k']
  ·simp at d f j⊢
   exact⟨h,d,f,j⟩
  ·intro l
   exact e _ iH
theorem vz {p:UInt8->Prop}(h:∀n:Fin 256,p (UInt8.ofNat n.1))(c:UInt8):p c:=by have:=h ⟨c.toNat,c.toNat_lt⟩;simpa using this
theorem AU (c:UInt8)(r:List UInt8):1<=(dec (c::r)).2 :=by
 by_cases h:c.toNat<128
 ·rw[DK h];exact Nat.le_refl _
 ·rcases F9 (c:=c) iE r with k|⟨k,-⟩
  ·rw[k];decide
  ·omega
theorem Ny {c:UInt8}(h:c.toNat<128)(r:List UInt8):chk (c::r)=chk r:=by
 conv=>lhs;unfold chk
 rw[DK h,gZ (by intro e;have:=ig Prod.fst e;simp at this;omega)];simp
theorem DL (c:UInt8)(r:List UInt8):(dec (c::r)).2 <=r.length+1:=by
 by_cases h:c.toNat<128
 ·rw[DK h];exact bK (dD _)
 ·rcases F9 (c:=c) iE r with k|⟨-,k,-⟩
  ·rw[k];exact bK (dD _)
  ·exact k
end Go.Proofs.YthcalnnipjflkaaGreatDoor
namespace Go.Mix
section
variable {P:aU} {ops:Array az} {md:bC} {Q:dm->Act->ae->Prop} {T:ae->ae->Prop} {D:ae->Prop}
def One (P:aU)(ops:Array az)(T:ae->ae->Prop)(D:ae->Prop)(o:az)(v:aA)(a:Act):Prop:=
 (au o (yielded ops a.tmps)=ag/\∀w,D w->o.quietAt P a (T w) w v)\/(au o (yielded ops a.tmps)=aj/\v=undef)
theorem One.of_same {o:az}{v:aA}{a a':Act}(hy:One P ops T D o v a)(he:execOp a'.eval o=execOp a.eval o)
  (hw:au o (yielded ops a'.tmps)=au o (yielded ops a.tmps)):One P ops T D o v a':=by
 unfold One Oper.quietAt at*;rw[he,hw];exact hy
def zh (P:aU)(R:aA->ae->Prop):Result Next->Prop
 |.ok (.value u) w'=>R u w'
 |.ok .skip w'=>R undef w'
 |.ok (.enter f args) w'=>aW P f args w' (λe a=>∃v,e=.returned v/\R v a)
 |_=>False
def mG (P:aU)(ops:Array az)(T:ae->ae->Prop)(D:ae->Prop)(i:Nat)(K:Act->(ae->Prop)->Prop)(a:Act)(C:ae->Prop):Prop:=
 match ops[i]? with
 |none=>K a C
 |some o=>if au o (yielded ops a.tmps)then
   ∃R:aA->ae->Prop,(∀v w w',R v w->T w w'->R v w')/\(∀v w,R v w->D w)/\(∀w,C w->zh P R ((execOp a.eval o).run P w))/\∀v w,R v w->K (a.put o.dst v) (R v)
  else K (a.put o.dst undef) C
def qY (P:aU)(md:bC)(ops:Array az)(Q:dm->Act->ae->Prop)(T:ae->ae->Prop)(D:ae->Prop):Nat->Array Bool->Act->(ae->Prop)->Prop
 |0,listed,a,C=>Region.ready md ops listed=[]/\∀w,C w->Q .normal a w
 |fuel+1,listed,a,C=>
  (Region.ready md ops listed=[]->∀w,C w->Q .normal a w)/\
  ∀i∈Region.ready md ops listed,mG P ops T D i (λa' b=>qY P md ops Q T D fuel (listed.setIfInBounds i ag) a' b) a C
theorem Gf {i:Nat}{a:Act}{K:Act->(ae->Prop)->Prop}{K':Act->ae->Prop}{C:ae->Prop}{w:ae}(d:C w)
  (h:∀a' k w',k w'->K a' k->K' a' w')(b:mG P ops T D i K a C):wpOp P ops Q i K' a w:=by
 unfold mG at b;unfold wpOp;split
 ·rename_i g;simp only[g]at b;exact h _ _ _ d b
 ·rename_i o g
  simp only[g]at b;split
  ·rename_i hw
   simp only[hw,if_true]at b;obtain⟨R,-,-,l,j⟩:=b;refine .inl ?_;have c:=l w d;unfold Oper.wp;generalize(execOp a.eval o).run P w=r at*;cases r with
   |ok n w'=>
    cases n<;>simp only[zh]at c<;>simp only[Oper.upon]
    case value u=>exact h _ _ _ c (j _ _ c)
    case skip=>exact h _ _ _ c (j _ _ c)
    case enter f args=>exact c.mono λe m ⟨v,he,hr⟩=>by subst he;exact h _ _ _ hr (j _ _ hr)
   |halt x w'=>simp only[zh]at c
  ·rename_i hw;simp only[hw]at b;exact h _ _ _ d b
theorem Gg:∀(fuel:Nat) (listed:Array Bool) (a:Act) (C:ae->Prop) (w:ae),C w->qY P md ops Q T D fuel listed a C->wpAny P md ops Q fuel listed a w
 |0,_,_,_,_,hw,h=>⟨h.1,h.2 _ hw⟩
 |fuel+1,_,_,_,_,hw,h=>⟨λb=>h.1 b _ hw,λi hi=>Gf hw (λa' c w' hw' d=>Gg fuel _ a' c w' hw' d) (h.2 i hi)⟩
theorem Gh {i:Nat}{a:Act}{C:ae->Prop}{K K':Act->(ae->Prop)->Prop}(d:(∀w w',C w->T w w'->C w')/\(∀w,C w->D w))
  (h:∀a' c,(∀w w',c w->T w w'->c w')->(∀w,c w->D w)->K a' c->K' a' c)(b:mG P ops T D i K a C):mG P ops T D i K' a C:=by
 unfold mG at*;split
 ·rename_i e;simp only[e]at b;exact h _ _ d.1 d.2 b
 ·rename_i o e
  simp only[e]at b;split
  ·rename_i hw
   simp only[hw,if_true]at b;obtain⟨R,r1,r2,f,g⟩:=b;exact⟨R,r1,r2,f,λv w hv=>h _ _ (r1 v) (r2 v) (g v w hv)⟩
  ·rename_i hw;simp only[hw]at b;exact h _ _ d.1 d.2 b
theorem One.mG {i:Nat}{o:az}{v:aA}{a:Act}{C:ae->Prop}(hi:ops[i]?=ah o)(d:∀w w',C w->T w w'->C w')(g:∀w,C w->D w)
  (hy:One P ops T D o v a){K:Act->(ae->Prop)->Prop}(h:K (a.put o.dst v) C):Mix.mG P ops T D i K a C:=by
 unfold Mix.mG;simp only[hi];rcases hy with⟨hw,hv⟩|⟨hw,rfl⟩
 ·simp only[hw,if_true]
  refine⟨λu w=>u=v/\C w,λ_ _ _ hr c=>⟨hr.1,d _ _ hr.2 c⟩,λ_ _ hr=>g _ hr.2,λw hw=>?_,λu w hr=>?_⟩
  ·have b:=hv w (g w hw)
   unfold Oper.quietAt at b;generalize(execOp a.eval o).run P w=r at*;cases r with
   |ok n w'=>
    cases n<;>simp only[Oper.quietUpon]at b<;>simp only[zh]
    case value u=>exact⟨b.2,b.1 ▸hw⟩
    case skip=>exact⟨b.2.symm,b.1 ▸hw⟩
    case enter f args=>obtain⟨e1,hc⟩:=b;rw[e1];exact hc.mono λe j ⟨he,c⟩=>⟨v,he,rfl,d _ _ hw c⟩
   |halt x w'=>simp only[Oper.quietUpon]at b
  ·obtain⟨rfl,hr⟩:=hr
   have:(λw=>u=u/\C w)=C:=(by funext w;simp);show K (a.put o.dst u) (λw=>u=u/\C w);rw[this];exact h
 ·simp only[hw,Bool.false_eq_true,if_false];exact h
theorem Gi {j:Nat}{c oj:az}{v:aA}{C:ae->Prop}(i:ops[j]?=ah oj)(k:c.apart ops oj=ag)
  (l:∀d b,c.op≠.select d b)(m:∀d b,oj.op≠.select d b){K:Act->(ae->Prop)->Prop}{a:Act}
  (hy:One P ops T D c v a)(h:mG P ops T D j K (a.put c.dst v) C):
  mG P ops T D j (λa' n=>One P ops T D c v a'/\K (a'.put c.dst v) n) a C:=by
 obtain⟨e,f,g⟩:=Oper.apart_spec k
 have keep:∀(a:Act),One P ops T D c v a->∀u,One P ops T D c v (a.put oj.dst u):=λa hy u=>hy.of_same (execOp_put c l a oj.dst u g) (wanted_put c a oj.dst u g)
 unfold mG at*;simp only[i]at*;rw[wanted_put oj a c.dst v e]at h;split
 ·rename_i hw
  simp only[hw,if_true]at h;obtain⟨R,r1,r2,o,p⟩:=h;refine⟨R,r1,r2,λw hw'=>?_,λu w hr=>⟨keep a hy u,by rw[<-Act.put_comm a v u f];exact p u w hr⟩⟩;have:=o w hw'
  rwa [execOp_put oj m a c.dst v e]at this
 ·rename_i hw
  simp only[hw]at h;exact⟨keep a hy _,by rw[<-Act.put_comm a v undef f];exact h⟩
theorem NI {i:Nat}{f:az}{v:aA}(hi:ops[i]?=ah f)(r:∀(j:Nat) (o:az) g b,ops[j]?=ah o->o.op≠.select g b):
  ∀(fuel:Nat) (listed:Array Bool) (a:Act) (C:ae->Prop),(∀w w',C w->T w w'->C w')->(∀w,C w->D w)->
   (∀j oj,ops[j]?=ah oj->j≠i->listed.getD j ag=aj->(∀e∈oj.after,Region.binds md e=ag->e.on≠i)->f.apart ops oj=ag)->
   i∈Region.ready md ops listed->One P ops T D f v a->
   qY P md ops Q T D fuel (listed.setIfInBounds i ag) (a.put f.dst v) C->qY P md ops Q T D (fuel+1) listed a C:=by
 intro fuel
 induction fuel with
 |zero=>
  intro listed a C l m _ hr hy H;refine⟨λh=>(by rw[h]at hr;cases hr),λj n=>?_⟩;by_cases c:j=i
  ·subst c;exact hy.mG hi l m H
  ·have:=bU n c
   rw[H.1]at this;cases this
 |succ fuel A=>
  intro listed a C l m s hr hy H;refine⟨λh=>(by rw[h]at hr;cases hr),λj n=>?_⟩;by_cases c:j=i
  ·subst c;exact hy.mG hi l m H
  ·have d:=H.2 j (bU n c)
   obtain⟨t,oj,p,B⟩:=bu.1 n
   have E:∀e∈oj.after,Region.binds md e=ag->e.on≠i:=λe he F G=>by
    have d:=B e he F;have u:=(bu.1 hr).1;rw[G]at d;rcases dn i listed.size with q|q
    ·simp[q]at u d;rw[u]at d;cases d
    ·simp[bD q]at d
   have I:=Gi p (s j oj p c t E) (λg b=>r i f g b hi) (λg b=>r j oj g b p) hy d
   have J:∀k ok,ops[k]?=ah ok->k≠i->(listed.setIfInBounds j ag).getD k ag=aj->
     (∀e∈ok.after,Region.binds md e=ag->e.on≠i)->f.apart ops ok=ag:=λk ok K L x M=>by
    refine s k ok K L ?_ M;by_cases y:j=k
    ·subst y;exact t
    ·rw[getD_set_ne ag y]at x;exact x
   refine Gh ⟨l,m⟩ (λa' N O R z=>A (listed.setIfInBounds j ag) a' N O R J (bU hr (Ne.symm c)) z.1 ?_) I;rw[Array.setIfInBounds_comm _ _ c];exact z.2
def kN (md:bC)(ops:Array az):Nat->Nat->Array Bool->Option (Array Bool)
 |0,_,listed=>ah listed
 |n+1,k,listed=>if(Region.ready md ops listed).contains k&&Region.free md ops listed k then kN md ops n (k+1) (listed.setIfInBounds k ag)else aC
def kS (n:Nat):List az->List Tmp->Bool
 |[],_=>ag
 |o::r,seen=>match o.dst with
  |none=>aj
  |some d=>decide (d<n)&&!seen.contains d&&kS n r (d::seen)
def vC (P:aU)(ops:Array az)(T:ae->ae->Prop)(D:ae->Prop)(aF:Act)(l:List az)(a:Act):Prop:=
 ∀ρ,D ρ->wpQuiet P ops (T ρ) (λa'=>a'=aF) l a
theorem DT (a:Act)(d:Option Tmp)(v:aA):(a.put d v).tmps.size=a.tmps.size:=by cases d<;>simp[Act.put]
theorem Gj (a:Act)(d:Option Tmp)(v:aA)(t:Tmp)(h:d≠ah t):(a.put d v).tmps[t]?=a.tmps[t]?:=by
 cases d with
 |none=>rfl
 |some e=>
  have b:e≠t:=λhe=>h (by rw[he])
  simp[Act.put,Array.getElem?_setIfInBounds_ne b]
theorem NJ (a:Act)(t:Tmp)(v:aA)(h:t<a.tmps.size):(a.put (ah t) v).tmps[t]?=ah v:=by simp[Act.put,h]
theorem keeps {C:ae->Prop}{aF:Act}(t:Tmp):∀(l:List az) (a:Act),(∀o∈l,o.dst≠ah t)->wpQuiet P ops C (λa'=>a'=aF) l a->aF.tmps[t]?=a.tmps[t]?
 |[],a,_,h=>by rw[show a=aF from h]
 |o::l,a,b,h=>by
  unfold wpQuiet at h;have d:o.dst≠ah t:=b o iH;split at h
  ·obtain⟨v,_,e⟩:=h
   rw[keeps t l _ (λo' c=>b o' (by simp[c])) e,Gj _ _ _ _ d]
  ·rw[keeps t l _ (λo' c=>b o' (by simp[c])) h,Gj _ _ _ _ d]
theorem Gl:∀(l:List az) (n:Nat) (seen:List Tmp),kS n l seen=ag->∀d∈seen,∀o∈l,o.dst≠ah d
 |[],_,_,_,_,_,_,c=>by cases c
 |o::r,n,seen,h,d,hd,o',a=>by
  unfold kS at h;cases b:o.dst with
  |none=>simp[b]at h
  |some e=>
   simp only[b,aZ,decide_eq_true_eq,bJ]at h;obtain⟨⟨i,f⟩,g⟩:=h;rcases List.mem_cons.1 a with rfl|a
   ·rw[b]
    intro he;have:e=d:=(by simpa using he);subst this;simp[hd]at f
   ·exact Gl r n (e::seen) g d (List.mem_cons_of_mem _ hd) o' a
theorem DU (g:∀w,T w w){aF a:Act}{o:az}{l:List az}{seen:List Tmp}(hd:kS a.tmps.size (o::l) seen=ag)(h:vC P ops T D aF (o::l) a):
  ∃v i,One P ops T D o v a/\kS a.tmps.size l i=ag/\vC P ops T D aF l (a.put o.dst v):=by
 have q:=hd;unfold kS at hd;cases c:o.dst with
 |none=>simp[c]at hd
 |some d=>
  simp only[c,aZ,decide_eq_true_eq,bJ]at hd;obtain⟨⟨j,_⟩,e⟩:=hd;have k:=Gl l _ _ e d iH;by_cases hw:au o (yielded ops a.tmps)=ag
  ·have key:∀ρ,D ρ->(∀w,T ρ w->o.quietAt P a (T ρ) w (aF.tmps.getD d undef))/\wpQuiet P ops (T ρ) (λa'=>a'=aF) l (a.put (ah d) (aF.tmps.getD d undef)):=by
    intro ρ b;have:=h ρ b;unfold wpQuiet at this;simp only[hw,if_true]at this;obtain⟨v,m,f⟩:=this;rw[c]at f;have e1:=keeps d l _ k f;rw[NJ _ _ _ j]at e1;have n:aF.tmps.getD d undef=v:=(by simp[e1]);rw[n];exact⟨m,f⟩
   exact⟨_,_,.inl ⟨hw,λw p=>(key w p).1 w (g w)⟩,e,λρ b=>(key ρ b).2⟩
  ·refine⟨undef,_,.inr ⟨by simpa using hw,rfl⟩,e,λρ b=>?_⟩
   have:=h ρ b;unfold wpQuiet at this;simp only[hw]at this;rw[<-c];exact this
theorem DV (hs:aT ops=ag)(c:∀w,T w w){C:ae->Prop}(d:∀w w',C w->T w w'->C w')(g:∀w,C w->D w)(i:∃ρ,D ρ){aF:Act}{f:Nat}{listed':Array Bool}:
  ∀(l:List az) (k:Nat) (listed:Array Bool) (a:Act) (seen:List Tmp),(∀j,j<l.length->l[j]?=ops[k+j]?)->
  kN md ops l.length k listed=ah listed'->kS a.tmps.size l seen=ag->vC P ops T D aF l a->qY P md ops Q T D f listed' aF C->qY P md ops Q T D (l.length+f) listed a C
 |[],_,listed,a,_,_,b,_,h,hK=>by
  obtain⟨ρ,p⟩:=i;have e:a=aF:=h ρ p;have q:listed=listed':=by simpa[kN]using b
  subst e q;simpa using hK
 |o::l,k,listed,a,seen,m,b,hd,h,hK=>by
  have n:ops[k]?=ah o:=by simpa using(m 0 iH).symm
  simp only[bP,kN]at b;split at b
  case isFalse=>cases b
  rename_i hc;simp only[aZ]at hc;obtain⟨v,r,s,t,u⟩:=DU c hd h;have:=DV hs c d g i l (k+1) _ (a.put o.dst v) r (λj x=>by have:=m (j+1) iI;simpa[bZ,Nat.add_comm 1 j]using this) b (by rw[DT];exact t) u hK;rw[bP,Nat.add_right_comm];exact NI n (Region.noSelect_spec hs) (l.length+f) listed a C d g (Region.free_spec n hc.2) (by simpa using hc.1) s this
theorem xW {id:Nat}{a:Act}{w:ae}{l:List az}(n:Nat)(C D:ae->Prop)(T:ae->ae->Prop){aF:Act}(hm:P.follows .mixedOrders=ag)
  (hn:n<=l.length)(hs:aT l.toArray=ag)(f:kN .any l.toArray n 0 (ax l.length aj)=ah (af n ag++af (l.length - n) aj).toArray)(hd:kS a.tmps.size (l.take n) []=ag)
  (g:∀w,T w w)(h:∀w w',C w->T w w'->C w')(c:∀w,C w->D w)(d:C {w with drawn:=w.drawn+1})(hA:vC P l.toArray T D aF (l.take n) a)
  (i:qY P .any l.toArray Q T D (l.length - n) (af n ag++af (l.length - n) aj).toArray aF C):(Code.region id l.toArray ag).wp P Q a w:=by
 refine cu hm (Gg (T:=T) (D:=D) _ _ _ C _ d ?_);have b:(l.take n).length=n:=by simp[hn]
 have:=DV (P:=P) (md:=.any) (Q:=Q) hs g h c ⟨_,c _ d⟩ (l.take n) 0 (ax l.length aj) a [] (λj e=>by rw[b]at e;simp[e]) (by rw[b];exact f) hd hA i;rw[b]at this;simpa[show n+(l.length - n)=l.length from by omega]using this
theorem qZ {fuel:Nat}{listed:Array Bool}{a:Act}{C:ae->Prop}{i:Nat}{o:az}(hr:Region.ready md ops listed=[i])(c:ops[i]?=ah o)(hw:au o (yielded ops a.tmps)=ag)
  (R:aA->ae->Prop)(hR:∀v w w',R v w->T w w'->R v w')(d:∀v w,R v w->D w)(e:∀w,C w->zh P R ((execOp a.eval o).run P w))
  (hK:∀v w,R v w->qY P md ops Q T D fuel (listed.setIfInBounds i ag) (a.put o.dst v) (R v)):qY P md ops Q T D (fuel+1) listed a C:=by
 refine⟨(λh=>by rw[hr]at h;cases h),λj b=>?_⟩;rw[hr]at b;obtain rfl:j=i:=by simpa using b
 unfold mG;simp only[c,hw,if_true];exact⟨R,hR,d,e,hK⟩
theorem xX {listed:Array Bool}{a:Act}{C:ae->Prop}(hr:Region.ready md ops listed=[])(h:∀w,C w->Q .normal a w):qY P md ops Q T D 0 listed a C:=⟨hr,h⟩
open Go.RowKit
end
end Go.Mix
namespace Go.Proofs.YthcalnnipjflkaaGreatDoor
theorem DZ (a b:Nat)(ha:a<18446744073709551616)(e:b<18446744073709551616):
  bits .andNot .u64 (a:Int) (b:Int)=((a&&&(18446744073709551615 - b):Nat):Int):=by
 have hx:a&&&(18446744073709551615 - b)<2^64:=Nat.and_lt_two_pow _ iE
 have c:(aK 64 (a:Int)).toNat=a:=by rw[aX,aY];exact aV iE
 have d:(aK 64 (b:Int)).toNat=b:=by rw[aX,aY];exact aV iE
 show IntKind.u64.wrap ((aK 64 (a:Int)&&&~~~ aK 64 (b:Int)).toNat:Int)=_;rw[bQ,BitVec.toNat_not,c,d,bn,show 2^64 - 1 - b=18446744073709551615 - b by omega];omega
theorem N9 (a:Nat):a&&&(18446744073709551615 - 9223372036854775808)=a%9223372036854775808:=
 aP a 63
def oL (b:Nat):Prop:=b%9223372036854775808<9218868437227405312
theorem Gy {b:Nat}(h:oL b):∃s m e,FloatKind.f64.format.read b=.number s m e:=by
 have c:b%9223372036854775808<9218868437227405312:=h;show ∃s m e,Ieee.Format.read Ieee.double b=.number s m e;unfold Ieee.Format.read;have e1:Ieee.double.signWeight=9223372036854775808:=iG
 have a:Ieee.double.infRung=9218868437227405312:=iG
 simp only[e1,a];split
 ·exact⟨_,_,_,rfl⟩
 ·exact⟨_,_,_,rfl⟩
def uf (a b:Nat):Nat:=(FloatKind.f64.format.mul a b).getD 0
theorem AV {a b:Nat}(ha:oL a)(c:oL b):floatBits .mul .f64 a b=ah (uf a b):=by
 obtain⟨s,m,e,d⟩:=Gy ha;obtain⟨t,n,f,g⟩:=Gy c
 have h:∃r,FloatKind.f64.format.mul a b=ah r:=by unfold Ieee.Format.mul;rw[d,g];exact⟨_,rfl⟩
 obtain⟨r,hr⟩:=h;show FloatKind.f64.format.mul a b=ah ((FloatKind.f64.format.mul a b).getD 0);rw[hr];rfl
def zl (x k:Nat):Nat:=(x&&&(18446744073709551615 - 9218868437227405312))|||(k<<<52)
theorem AX (x k:Nat)(b:k<2047):oL (zl x k):=by
 show((x&&&(18446744073709551615 - 9218868437227405312))|||(k<<<52))%2^63<9218868437227405312
 rw[Nat.or_mod_two_pow,Nat.and_mod_two_pow,show(18446744073709551615 - 9218868437227405312)%2^63=2^52 - 1 by decide,aP,
  aV (a:=k<<<52) (by rw[aN];omega),Nat.or_comm,<-Nat.shiftLeft_add_eq_or_of_lt (bV _ iG),aN]
 have:=bV (x%2^63) (show 0<2^52 by decide);omega
theorem D5 {a b:Nat}(ha:oL a)(c:oL b):uf a b<18446744073709551616:=Ieee.Format.mul_lt _ (AV ha c)
end Go.Proofs.YthcalnnipjflkaaGreatDoor
namespace Go.Mix
open Go.RowKit
theorem NK {P:aU}{Q:dm->Act->ae->Prop}{id:Nat}{a:Act}{w:ae}{l:List az}(n:Nat)(o q os:az){aF:Act}(hm:P.follows .mixedOrders=ag)
  (ao:l.length=n+3)(hs:aT l.toArray=ag)(I:kN .any l.toArray n 0 (ax l.length aj)=ah (af n ag++af (l.length - n) aj).toArray)
  (hd:kS a.tmps.size (l.take n) []=ag)(A:l[n]?=ah o)(B:l[n+1]?=ah q)(J:l[n+2]?=ah os)(g1:o.guard=aC)(g2:q.guard=aC)(K:os.guard=aC)
  (L:Region.ready .any l.toArray (af n ag++af 3 aj).toArray=[n])
  (M:Region.ready .any l.toArray ((af n ag++af 3 aj).toArray.setIfInBounds n ag)=[n+1])
  (N:Region.ready .any l.toArray (((af n ag++af 3 aj).toArray.setIfInBounds n ag).setIfInBounds (n+1) ag)=[n+2])
  (O:Region.ready .any l.toArray ((((af n ag++af 3 aj).toArray.setIfInBounds n ag).setIfInBounds (n+1) ag).setIfInBounds (n+2) ag)=[])
  (hA:∀ρ:ae,wpQuiet P l.toArray (λw'=>∃n,w'=ρ.drewN n) (λa'=>a'=aF) (l.take n) a)
  (f:Array aA)(e:dw)(m c:Nat)
  (C:∀W:ae,(execOp aF.eval o).run P W=.ok (.value (.slice (ah ⟨W.heap.size,0,aC⟩) m c)) (W.alloc (.cells f e)))
  (s x:Operand)(t:dw)(R:q.op=.call {callee:=.builtin .append,args:=#[s,x],argTypes:=#[t,t]})(base:Nat)(i:TypeInfo)(z:aA)(size bytes:Nat)(S:P.underlying t=ah (.slice e))(hi:P.info? e=ah i)(T:i.zero=ah z)
  (U:i.size=size)(V:i.bytes=bytes)(X:z.cells.size=size)(Y:0<size)(v:aA)(k:Nat)(xs:List aA)(G:w.ownsRow base e size v k xs)
  (Z:∀g,(aF.put o.dst g).eval s=v)(hx:∀g,(aF.put o.dst g).eval x=g)(aa:f.size=m*size)(ab:∀u∈f.toList,u.oneCell'=ag)(ac:k+m<=maxLen)(ad:(k+m)*bytes<=140737488355328)(ai:base<=w.heap.size)
  (ak:∀g v' W,(execOp ((aF.put o.dst g).put q.dst v').eval os).run P W=.ok (.value v') W)
  (hK:∀v' W,W.ownsRow base e size v' (k+m) (xs++f.toList)->aQ base w W->Q .normal (((aF.put o.dst (.slice (ah ⟨w.heap.size,0,aC⟩) m c)).put q.dst v').put os.dst v') W):(Code.region id l.toArray ag).wp P Q a w:=by
 have kl:∀(W W':ae),(∃n,W'=W.drewN n)->W'.heap=W.heap/\(aQ base w W->aQ base w W'):=by rintro W _ ⟨n,rfl⟩;exact⟨rfl,λh=>⟨h.os,h.tape,h.output,h.size,h.block⟩⟩
 have D:∀(W W':ae) (v:aA) (k:Nat) (xs:List aA),W'.heap=W.heap->W.ownsRow base e size v k xs->W'.ownsRow base e size v k xs:=by intro W W' v k xs A B;unfold World.ownsRow at*;rw[A];exact B
 refine xW (aF:=aF) n (λW=>W.heap=w.heap/\aQ base w W) (λ_=>True) (λw w'=>∃n,w'=w.drewN n) hm iE hs I hd (λw=>⟨0,rfl⟩) (λW W' h d=>⟨(kl W W' d).1.trans h.1,(kl W W' d).2 h.2⟩) (λ_ _=>trivial) ⟨rfl,(Below.refl base w).drew⟩ (λρ _=>hA ρ) ?_;rw[show l.length - n=3 by omega];refine qZ L (by simpa using A) (by unfold au;rw[g1]) (λg W=>g=.slice (ah ⟨w.heap.size,0,aC⟩) m c/\W.heap=w.heap.push (.cells f e)/\aQ base w W) (λ_ W W' h d=>⟨h.1,(kl W W' d).1.trans h.2.1,(kl W W' d).2 h.2.2⟩) (λ_ _ _=>trivial) ?_ ?_
 ·rintro W ⟨p,E⟩
  rw[C];exact⟨by rw[p],by show W.heap.push _=_;rw[p],E.alloc (by rw[p];exact ai) _⟩
 rintro g W ⟨rfl,-,-⟩;refine qZ M (by simpa using B) (by unfold au;rw[g2]) (λv' W=>W.ownsRow base e size v' (k+m) (xs++f.toList)/\aQ base w W) (λ_ W W' h d=>⟨D W W' _ _ _ (kl W W' d).1 h.1,(kl W W' d).2 h.2⟩) (λ_ _ _=>trivial) ?_ ?_
 ·rintro W ⟨-,p,E⟩
  have ap:W.heap.size=w.heap.size+1:=by rw[p];simp
  have al:W.ownsRow base e size v k xs:=D (w.alloc (.cells f e)) W _ _ _ p (World.ownsRow.alloc (w:=w) G _)
  obtain⟨v',w',hr,H,am,-⟩:=bY (P:=P) W base t q.type e i z size bytes S hi T U V X Y v k xs al ⟨w.heap.size,0,aC⟩ m c f.toList (by simpa using aa) (by intro j u an;have e1:(⟨w.heap.size,0,aC⟩:Addr).add j=⟨w.heap.size,j,aC⟩:=(by unfold Addr.add;split<;>simp_all);have F:W.heap[w.heap.size]?=ah (.cells f e):=(by rw[p];simp);rw[e1];simp only[World.cell?,F];simpa using an) ab ac ad iE
  have e1:=Z (.slice (ah ⟨w.heap.size,0,aC⟩) m c);have F:=hx (.slice (ah ⟨w.heap.size,0,aC⟩) m c);unfold execOp;simp only[R,resolve,invoke,builtin,Sem.run_bind,Sem.run_pure,Result.andThen_ok,bT,cZ,dA,e1,F,hr];exact⟨H,E.grown am iE (λb C=>(World.ownsRow.lt G b C).1)⟩
 ·rintro v' W ⟨aq,H⟩
  refine qZ N (by simpa using J) (by unfold au;rw[K]) (λu W=>u=v'/\W.ownsRow base e size v' (k+m) (xs++f.toList)/\aQ base w W) (λ_ W W' h d=>⟨h.1,D W W' _ _ _ (kl W W' d).1 h.2.1,(kl W W' d).2 h.2.2⟩) (λ_ _ _=>trivial) ?_ ?_
  ·rintro W ⟨r,y⟩
   rw[ak];exact⟨rfl,r,y⟩
  ·rintro u W ⟨rfl,r,y⟩
   exact xX O (λW ⟨_,r,y⟩=>hK _ W r y)
theorem Ec {P:aU}{Q:dm->Act->ae->Prop}{id:Nat}{a:Act}{w:ae}{l:List az}(n m:Nat)(b:az){aF aG:Act}(D R:ae->Prop)(v0:aA)(f:FuncId)(args:Array aA)(hm:P.follows .mixedOrders=ag)
  (B:l.length=n+1+m)(hs:aT l.toArray=ag)(p:kN .any l.toArray n 0 (ax l.length aj)=ah (af n ag++af (l.length - n) aj).toArray)
  (hd:kS a.tmps.size (l.take n) []=ag)(c:l[n]?=ah b)(g1:b.guard=aC)
  (g:Region.ready .any l.toArray (af n ag++af (l.length - n) aj).toArray=[n])
  (i:kN .any l.toArray m (n+1) ((af n ag++af (l.length - n) aj).toArray.setIfInBounds n ag)=ah (ax l.length ag))
  (q:Region.ready .any l.toArray (ax l.length ag)=[])(r:kS a.tmps.size (l.drop (n+1)) []=ag)
  (s:∀k,D (w.drewN k))(o:∀W k,R W->R (W.drewN k))(d:∀W,R W->D W)
  (hA:∀ρ:ae,D ρ->wpQuiet P l.toArray (λw'=>∃n,w'=ρ.drewN n) (λa'=>a'=aF) (l.take n) a)(t:(aF.put b.dst v0).tmps.size=a.tmps.size)
  (hc:∀W:ae,(execOp aF.eval b).run P W=.ok (.enter f args) W)
  (u:∀k,aW P f args (w.drewN k) λe W=>e=.returned v0/\R W)
  (x:∀ρ:ae,wpQuiet P l.toArray (λw'=>∃n,w'=ρ.drewN n) (λa'=>a'=aG) (l.drop (n+1)) (aF.put b.dst v0))
  (hK:∀W,R W->Q .normal aG W):(Code.region id l.toArray ag).wp P Q a w:=by
 refine xW (aF:=aF) n (λW=>∃k,W=w.drewN k) D (λw w'=>∃n,w'=w.drewN n) hm iE hs p hd (λw=>⟨0,rfl⟩) ?_ ?_ ⟨1,rfl⟩ (λρ y=>hA ρ y) ?_
 ·rintro _ _ ⟨k,rfl⟩ ⟨j,rfl⟩
  exact⟨k+j,by simp[World.drewN,bZ]⟩
 ·rintro _ ⟨k,rfl⟩;exact s k
 rw[show l.length - n=m+1 by omega];rw[show l.length - n=m+1 by omega]at g i;refine qZ g (by simpa using c) (by unfold au;rw[g1]) (λv W=>v=v0/\R W) ?_ (λ_ W h=>d W h.2) ?_ ?_
 ·rintro v W _ hr ⟨k,rfl⟩;exact⟨hr.1,o W k hr.2⟩
 ·rintro _ ⟨k,rfl⟩
  rw[hc];exact(u k).mono λe W ⟨c,z⟩=>⟨v0,c,rfl,z⟩
 ·rintro v W ⟨rfl,hr⟩
  have:=DV (P:=P) (md:=.any) (ops:=l.toArray) (Q:=Q) (T:=λw w'=>∃n,w'=w.drewN n) (D:=D) hs (λw=>⟨0,rfl⟩) (C:=λW=>v=v/\R W) (by rintro W _ hr ⟨k,rfl⟩;exact⟨rfl,o W k hr.2⟩) (λW h=>d W h.2) ⟨_,d W hr⟩ (aF:=aG) (f:=0) (listed':=ax l.length ag)
   (l.drop (n+1)) (n+1) _ (aF.put b.dst v) [] (λj E=>iH) (by rw[show(l.drop (n+1)).length=m by simp;omega];exact i) (by rw[t];exact r) (λρ _=>x ρ) (xX q (λW A=>hK W A.2))
  rw[show(l.drop (n+1)).length=m by simp;omega]at this;simpa using this
theorem XB {P:aU}{Q:dm->Act->ae->Prop}{id:Nat}{a:Act}{w:ae}{l:List az}(n base:Nat)(o q os:az){aF:Act}(hm:P.follows .mixedOrders=ag)
  (ap:l.length=n+3)(hs:aT l.toArray=ag)(I:kN .any l.toArray n 0 (ax l.length aj)=ah (af n ag++af (l.length - n) aj).toArray)
  (hd:kS a.tmps.size (l.take n) []=ag)(A:l[n]?=ah o)(B:l[n+1]?=ah q)(J:l[n+2]?=ah os)(g1:o.guard=aC)(g2:q.guard=aC)(K:os.guard=aC)
  (L:Region.ready .any l.toArray (af n ag++af 3 aj).toArray=[n])
  (M:Region.ready .any l.toArray ((af n ag++af 3 aj).toArray.setIfInBounds n ag)=[n+1])
  (N:Region.ready .any l.toArray (((af n ag++af 3 aj).toArray.setIfInBounds n ag).setIfInBounds (n+1) ag)=[n+2])
  (O:Region.ready .any l.toArray ((((af n ag++af 3 aj).toArray.setIfInBounds n ag).setIfInBounds (n+1) ag).setIfInBounds (n+2) ag)=[])
  (hA:∀ρ:ae,aQ base w ρ->wpQuiet P l.toArray (λw'=>∃n,w'=ρ.drewN n) (λa'=>a'=aF) (l.take n) a)
  (f:Array aA)(e:dw)(m c:Nat)
  (C:∀W:ae,(execOp aF.eval o).run P W=.ok (.value (.slice (ah ⟨W.heap.size,0,aC⟩) m c)) (W.alloc (.cells f e)))
  (s x:Operand)(t:dw)(R:q.op=.call {callee:=.builtin .append,args:=#[s,x],argTypes:=#[t,t]})(i:TypeInfo)(z:aA)(size bytes:Nat)(S:P.underlying t=ah (.slice e))(hi:P.info? e=ah i)(T:i.zero=ah z)
  (U:i.size=size)(V:i.bytes=bytes)(X:z.cells.size=size)(Y:0<size)(v:aA)(k:Nat)(xs:List aA)(G:w.ownsRow base e size v k xs)
  (Z:∀g,(aF.put o.dst g).eval s=v)(hx:∀g,(aF.put o.dst g).eval x=g)(aa:f.size=m*size)(ab:∀u∈f.toList,u.oneCell'=ag)(ac:k+m<=maxLen)(ad:(k+m)*bytes<=140737488355328)(ai:base<=w.heap.size)
  (ak:∀g v' W,(execOp ((aF.put o.dst g).put q.dst v').eval os).run P W=.ok (.value v') W)
  (hK:∀v' W,W.ownsRow base e size v' (k+m) (xs++f.toList)->aQ base w W->Q .normal (((aF.put o.dst (.slice (ah ⟨w.heap.size,0,aC⟩) m c)).put q.dst v').put os.dst v') W):(Code.region id l.toArray ag).wp P Q a w:=by
 have kl:∀(W W':ae),(∃n,W'=W.drewN n)->W'.heap=W.heap/\(aQ base w W->aQ base w W'):=by rintro W _ ⟨n,rfl⟩;exact⟨rfl,λh=>⟨h.os,h.tape,h.output,h.size,h.block⟩⟩
 have D:∀(W W':ae) (v:aA) (k:Nat) (xs:List aA),W'.heap=W.heap->W.ownsRow base e size v k xs->W'.ownsRow base e size v k xs:=by intro W W' v k xs A B;unfold World.ownsRow at*;rw[A];exact B
 refine xW (aF:=aF) n (λW=>W.heap=w.heap/\aQ base w W) (λW=>aQ base w W) (λw w'=>∃n,w'=w.drewN n) hm iE hs I hd (λw=>⟨0,rfl⟩) (λW W' h d=>⟨(kl W W' d).1.trans h.1,(kl W W' d).2 h.2⟩) (λ_ h=>h.2) ⟨rfl,(Below.refl base w).drew⟩ (λρ al=>hA ρ al) ?_;rw[show l.length - n=3 by omega];refine qZ L (by simpa using A) (by unfold au;rw[g1]) (λg W=>g=.slice (ah ⟨w.heap.size,0,aC⟩) m c/\W.heap=w.heap.push (.cells f e)/\aQ base w W) (λ_ W W' h d=>⟨h.1,(kl W W' d).1.trans h.2.1,(kl W W' d).2 h.2.2⟩) (λ_ _ h=>h.2.2) ?_ ?_
 ·rintro W ⟨p,E⟩
  rw[C];exact⟨by rw[p],by show W.heap.push _=_;rw[p],E.alloc (by rw[p];exact ai) _⟩
 rintro g W ⟨rfl,-,-⟩;refine qZ M (by simpa using B) (by unfold au;rw[g2]) (λv' W=>W.ownsRow base e size v' (k+m) (xs++f.toList)/\aQ base w W) (λ_ W W' h d=>⟨D W W' _ _ _ (kl W W' d).1 h.1,(kl W W' d).2 h.2⟩) (λ_ _ h=>h.2) ?_ ?_
 ·rintro W ⟨-,p,E⟩
  have aq:W.heap.size=w.heap.size+1:=by rw[p];simp
  have am:W.ownsRow base e size v k xs:=D (w.alloc (.cells f e)) W _ _ _ p (World.ownsRow.alloc (w:=w) G _)
  obtain⟨v',w',hr,H,an,-⟩:=bY (P:=P) W base t q.type e i z size bytes S hi T U V X Y v k xs am ⟨w.heap.size,0,aC⟩ m c f.toList (by simpa using aa) (by intro j u ao;have e1:(⟨w.heap.size,0,aC⟩:Addr).add j=⟨w.heap.size,j,aC⟩:=(by unfold Addr.add;split<;>simp_all);have F:W.heap[w.heap.size]?=ah (.cells f e):=(by rw[p];simp);rw[e1];simp only[World.cell?,F];simpa using ao) ab ac ad iE
  have e1:=Z (.slice (ah ⟨w.heap.size,0,aC⟩) m c);have F:=hx (.slice (ah ⟨w.heap.size,0,aC⟩) m c);unfold execOp;simp only[R,resolve,invoke,builtin,Sem.run_bind,Sem.run_pure,Result.andThen_ok,bT,cZ,dA,e1,F,hr];exact⟨H,E.grown an iE (λb C=>(World.ownsRow.lt G b C).1)⟩
 ·rintro v' W ⟨ar,H⟩
  refine qZ N (by simpa using J) (by unfold au;rw[K]) (λu W=>u=v'/\W.ownsRow base e size v' (k+m) (xs++f.toList)/\aQ base w W) (λ_ W W' h d=>⟨h.1,D W W' _ _ _ (kl W W' d).1 h.2.1,(kl W W' d).2 h.2.2⟩) (λ_ _ h=>h.2.2) ?_ ?_
  ·rintro W ⟨r,y⟩
   rw[ak];exact⟨rfl,r,y⟩
  ·rintro u W ⟨rfl,r,y⟩
   exact xX O (λW ⟨_,r,y⟩=>hK _ W r y)
end Go.Mix
namespace Go.Proofs.YthcalnnipjflkaaGreatDoor
open Go
section
variable {P:aU} {ops:Array az} {Q:dm->Act->ae->Prop} {md:bC}
def uj (ops:Array az):Bool:=(List.range ops.size).all λj=>((ops[j]?).map λo=>o.after.all λe=>decide (e.on<j)).getD ag
theorem PQ {ops:Array az}(h:uj ops=ag){j:Nat}{o:az}(b:ops[j]?=ah o):∀e∈o.after,e.on<j:=by unfold uj at h;have a:=List.all_eq_true.1 h j (List.mem_range.2 (aS.1 b).1);rw[b]at a;simp only[Option.map_some,Option.getD_some,Array.all_eq_true_iff_forall_mem]at a;exact λe he=>of_decide_eq_true (a e he)
theorem Hq {L:Array Bool}(d:uj ops=ag)(hr:Region.ready md ops L=[]):∀i,i<ops.size->L.getD i ag=ag:=by
 intro i
 induction i using Nat.strongRecOn with
 |ind i f=>
  intro hi;cases a:L.getD i ag with
  |true=>rfl
  |false=>
   exfalso
   have:i∈Region.ready md ops L:=bu.2 ⟨a,ops[i],aB hi,λe he _=>by
    have b:=PQ d (aB hi) e he;have c:=f e.on b (Nat.lt_trans b hi)
    have g:e.on<L.size:=by
     rcases dn e.on L.size with h|h
     ·exact h
     ·have j:i≥L.size:=iE
      rw[aH,bD j]at a;cases a
    rw[aH,aB g]at c⊢;exact c⟩
   rw[hr]at this;cases this
theorem Hr {d:Array Bool->Act->ae->Prop}(k:uj ops=ag)
  (l:∀(i:Nat) (o:az) (L:Array Bool) (a:Act) (w:ae) (K:Act->ae->Prop),ops[i]?=ah o->L.size=ops.size->L.getD i ag=aj->(∀e∈o.after,Region.binds md e=ag->L.getD e.on aj=ag)->d L a w->
   (∀a' w',d (L.setIfInBounds i ag) a' w'->K a' w')->wpOp P ops Q i K a w)
  (j:∀(L:Array Bool) (a:Act) (w:ae),(∀i,i<ops.size->L.getD i ag=ag)->d L a w->Q .normal a w):
  ∀(fuel:Nat) (L:Array Bool) (a:Act) (w:ae),L.size=ops.size->L.toList.count aj<=fuel->d L a w->wpAny P md ops Q fuel L a w
 |0,L,a,w,hs,hc,f=>by
  have m:∀i,i<ops.size->L.getD i ag=ag:=by
   intro i hi;cases g:L.getD i ag with
   |true=>rfl
   |false=>exfalso;have p:L.toList.count aj=0:=Nat.le_zero.1 hc;have b:i<L.size:=(by rw[hs];exact hi);refine List.count_eq_zero.1 p ?_;rw[aH,aB b]at g;have g:L[i]=aj:=g;rw[<-g];exact Array.getElem_mem_toList b
  refine⟨?_,j L a w m f⟩;cases hr:Region.ready md ops L with
  |nil=>rfl
  |cons i r=>have hm:i∈Region.ready md ops L:=(by rw[hr];exact List.mem_cons_self ..);obtain⟨c,o,h,-⟩:=bu.1 hm;rw[m i (aS.1 h).1]at c;cases c
 |fuel+1,L,a,w,hs,hc,f=>by
  refine⟨λhr=>j L a w (Hq k hr) f,λi hi=>?_⟩;obtain⟨c,o,h,q⟩:=bu.1 hi;refine l i o L a w _ h hs c q f λa' w' s=>?_
  refine Hr k l j fuel _ a' w' (by simpa using hs) ?_ s;have b:i<L.toList.length:=by rw[Array.length_toList,hs];exact(aS.1 h).1
  have n:L.toList[i]=aj:=by rw[aH,aB (by simpa using b)]at c;simpa using c
  rw[Array.toList_setIfInBounds,List.count_set b,n];have hp:0<L.toList.count aj:=List.count_pos_iff.2 (by rw[<-n];exact List.getElem_mem b);simp only[beq_self_eq_true,if_true];have:((ag==aj)=ag)=False:=iH
  simp only[this,if_false];omega
theorem PR {id:Nat}{a:Act}{w:ae}(hm:P.follows .mixedOrders=ag)(b:Array Bool->Act->ae->Prop)(c:uj ops=ag)
  (d:b (ax ops.size aj) a w.drew)
  (f:∀(i:Nat) (o:az) (L:Array Bool) (a:Act) (w:ae) (K:Act->ae->Prop),ops[i]?=ah o->L.size=ops.size->L.getD i ag=aj->(∀e∈o.after,Region.binds .any e=ag->L.getD e.on aj=ag)->b L a w->
   (∀a' w',b (L.setIfInBounds i ag) a' w'->K a' w')->wpOp P ops Q i K a w)
  (g:∀(L:Array Bool) (a:Act) (w:ae),(∀i,i<ops.size->L.getD i ag=ag)->b L a w->Q .normal a w):(Code.region id ops ag).wp P Q a w:=
 cu hm (Hr c f g _ _ _ _ iH iH d)
end
end Go.Proofs.YthcalnnipjflkaaGreatDoor
namespace Go.Proofs.YthcalnnipjflkaaGreatDoor
open Go.RowKit
open Go.Lib
theorem xZ (n:Int)(w:ae):(callFunc 196 #[.int .u64 n]).run ay w=.ok (.value (.float .f64 n.toNat)) w:=by exact(bI (e:=Go.Extern.MathFloatBits.float64frombits) Tryz.func196 iF iF iF iF _ _).trans rfl
theorem zn (b:Nat)(w:ae):(callFunc 203 #[.float .f64 b]).run ay w=.ok (.value (.int .u64 (b:Nat))) w:=by exact(bI (e:=Go.Extern.MathFloatBits.float64bits) Tryz.func203 iF iF iF iF _ _).trans rfl
theorem Oa (w:ae):aW ay 178 #[] w λe w'=>e=.returned (.float .f64 9221120237041090561)/\w'=w:=by have a:=xZ;go_enter Tryz.func178,Tryz.ntmps178;go_wp2;go_ret;exact⟨rfl,rfl⟩
theorem Gz (w:ae):aW ay 179 #[.int .i64 1] w λe w'=>e=.returned (.float .f64 9218868437227405312)/\w'=w:=by have a:=xZ;go_enter dB,dh;go_wp2;go_ret;exact⟨rfl,rfl⟩
def wS (b:Nat):Bool:=decide (wrap64 (b:Int)<0)
theorem Ob (b:Nat)(w:ae):aW ay 199 #[.float .f64 b] w λe w'=>e=.returned (.bool (wS b))/\w'=w:=by have a:=zn;go_enter Tryz.func199,Tryz.ntmps199;go_wp2;go_ret;exact⟨rfl,rfl⟩
def zq (b c:Nat):Nat:=(bits BinOp.or bF (bits BinOp.andNot bF (b:Int) 9223372036854775808) (bits BinOp.and bF (c:Int) 9223372036854775808)).toNat
theorem GG (b c:Nat)(w:ae):aW ay 184 #[.float .f64 b,.float .f64 c] w λe w'=>e=.returned (.float .f64 (zq b c))/\w'=w:=by have a:=zn;have d:=xZ;go_enter Tryz.func184,Tryz.ntmps184;go_wp2;go_ret;exact⟨rfl,rfl⟩
def pW (b:Nat):Nat:=(bits BinOp.andNot bF (b:Int) 9223372036854775808).toNat
theorem D6 (b:Nat)(w:ae):aW ay 215 #[.float .f64 b] w λe w'=>e=.returned (.float .f64 (pW b))/\w'=w:=by have a:=zn;have c:=xZ;go_enter Tryz.func215,Tryz.ntmps215;go_wp2;go_ret;exact⟨rfl,rfl⟩
def ug (b:Nat):Bool:=FloatKind.f64.format.order b b !=ah bG
theorem Oc (b:Nat)(w:ae):aW ay 213 #[.float .f64 b] w λe w'=>e=.returned (.bool (ug b))/\w'=w:=by go_enter Tryz.func213,Tryz.ntmps213;go_wp2;go_ret;exact⟨rfl,rfl⟩
def zt (b:Nat):Bool:=FloatKind.f64.format.order (pW b) 9218868437227405311==ah dE
theorem GH (b:Nat)(w:ae):aW ay 200 #[.float .f64 b,.int .i64 0] w λe w'=>e=.returned (.bool (zt b))/\w'=w:=by
 have a:=aI (λW=>D6 b W);go_enter Tryz.func200,Tryz.ntmps200
 go_wp2_with(go_at_call 215;refine(a.1 _).mono ?_;rintro e c ⟨rfl,rfl⟩)
 go_ret;exact⟨rfl,rfl⟩
theorem Oe (w:ae):aW ay 179 #[.int .i64 (-1)] w λe w'=>e=.returned (.float .f64 18442240474082181120)/\w'=w:=by have a:=xZ;go_enter dB,dh;go_wp2;go_ret;exact⟨rfl,rfl⟩
theorem Og (a:Nat)(ha:a<9223372036854775808):bits .and .i64 (a:Int) 2047=((a%2048:Nat):Int):=by
 have b:(aK 64 (a:Int)).toNat=a:=by rw[aX,aY];exact aV iE
 show IntKind.i64.wrap ((aK 64 (a:Int)&&&aK 64 2047).toNat:Int)=_;rw[bQ,b,show(aK 64 2047).toNat=2^11 - 1 by decide,aP];have:a%2^11<2048:=bV _ iG;simp[IntKind.wrap,IntKind.bits,IntKind.signed];omega
def wU (a b:Nat):Bool:=FloatKind.f64.format.order a b==ah bH
def AY (a b:Nat):Bool:=FloatKind.f64.format.order a b==ah bG
def kT (b:Nat):Nat×Int:=if wU (pW b) 4503599627370496 then(uf b 4841369599423283200,-52)else(b,0)
theorem GI:oL 4841369599423283200:=show 4841369599423283200%9223372036854775808<9218868437227405312 by decide
theorem GK:oL 4368491638549381120:=show 4368491638549381120%9223372036854775808<9218868437227405312 by decide
theorem fin1:oL 4607182418800017408:=show 4607182418800017408%9223372036854775808<9218868437227405312 by decide
theorem Oh (b:Nat): -52<=(kT b).2 /\(kT b).2 <=0:=by unfold kT;split<;>simp
theorem GL {b:Nat}(a:oL b)(c:b<18446744073709551616):(kT b).1 <18446744073709551616:=by
 unfold kT;split
 ·exact D5 a GI
 ·exact c
theorem Oi (b:Nat)(f:oL b)(w:ae):aW ay 214 #[.float .f64 b] w λe w'=>e=.returned (.tuple #[.float .f64 (kT b).1,.int .i64 (kT b).2])/\w'=w:=by
 have c:=aI (λW=>D6 b W);have hm:∀t w,(binOp .mul t (.float .f64 b) (.float .f64 4841369599423283200)).run ay w=.ok (.float .f64 (uf b 4841369599423283200)) w:=λt w=>bz w .mul t .f64 b _ _ (AV f GI)
 cases d:(FloatKind.f64.format.order (pW b) 4503599627370496==ah bH)with
 |true=>
  have a:PLift (kT b=(uf b 4841369599423283200,-52)):=⟨by unfold kT wU;rw[d];rfl⟩;go_enter dC,di
  go_wp2_with(first|(simp only[hm];done)|(go_at_call 215;refine(c.1 _).mono ?_;rintro e g ⟨rfl,rfl⟩))
  go_ret2;exact⟨by rw[a.1];rfl,rfl⟩
 |false=>
  have a:PLift (kT b=(b,0)):=⟨by unfold kT wU;rw[d];rfl⟩;go_enter dC,di
  go_wp2_with(go_at_call 215;refine(c.1 _).mono ?_;rintro e g ⟨rfl,rfl⟩)
  go_ret2;exact⟨by rw[a.1];rfl,rfl⟩
def uh (x:Nat):Int:=((x/4503599627370496%2048:Nat):Int) - 1023
def ui (b:Nat)(e:Int):Nat:=
 if AY b 0 then b
 else if zt b then b
 else if ug b then b
 else if e+(kT b).2 +uh (kT b).1 < -1075 then zq 0 (kT b).1
 else if e+(kT b).2 +uh (kT b).1 >1023 then(if wU (kT b).1 0 then 18442240474082181120 else 9218868437227405312)
 else if e+(kT b).2 +uh (kT b).1 < -1022 then uf 4368491638549381120 (zl (kT b).1 (e+(kT b).2 +uh (kT b).1 +53+1023).toNat)
 else uf 4607182418800017408 (zl (kT b).1 (e+(kT b).2 +uh (kT b).1 +1023).toNat)
theorem Oj (b:Nat)(F:oL b)(L:b<18446744073709551616)(e:Int)(R: -4000<=e)(S:e<=4000)(w:ae):
  aW ay 198 #[.float .f64 b,.int .i64 e] w λr w'=>r=.returned (.float .f64 (ui b e))/\w'=w:=by
 have g:=aI (λW=>Oi b F W);have o:=aI (λx W=>GG 0 x W);have h:=aI (λW=>GH b W);have j:=aI (λW=>Oc b W);have q:=aI (λW=>Gz W);have s:=aI (λW=>Oe W);have T:=zn;have hf:=xZ;obtain⟨r,hr⟩:=iC (ui b e);rw[hr];unfold ui at hr;have u:=aI hr;clear hr;cases l:AY b 0 with
 |true=>have M:(FloatKind.f64.format.order b 0==ah bG)=ag:=l;have c:=aI u.1;rw[gY l]at c;go_enter aO,aJ;go_wp2;go_ret;exact⟨by rw[<-c.1];rfl,rfl⟩
 |false=>
  have M:(FloatKind.f64.format.order b 0==ah bG)=aj:=l;cases B:zt b with
  |true=>
   have c:=aI u.1;rw[gZ (by simp[l]),gY B]at c;go_enter aO,aJ
   go_wp2_with(go_at_call 200;refine(h.1 _).mono ?_;rintro e a ⟨rfl,rfl⟩)
   go_ret;exact⟨by rw[<-c.1];rfl,rfl⟩
  |false=>
   cases G:ug b with
   |true=>
    have c:=aI u.1;rw[gZ (by simp[l]),gZ (by simp[B]),gY G]at c;go_enter aO,aJ
    go_wp2_with(first|(go_at_call 200;refine(h.1 _).mono ?_;rintro e a ⟨rfl,rfl⟩)|(go_at_call 213;refine(j.1 _).mono ?_;rintro e a ⟨rfl,rfl⟩))
    go_ret;exact⟨by rw[<-c.1];rfl,rfl⟩
   |false=>
    have c:=aI u.1;rw[gZ (by simp[l]),gZ (by simp[B]),gZ (by simp[G])]at c;obtain⟨⟨x,de⟩,hp⟩:∃p,kT b=p:=⟨_,rfl⟩;have hx:x<18446744073709551616:=(by have:=GL F L;rw[hp]at this;exact this);have C:=Oh b;rw[hp]at c g C;simp only at c g C;obtain⟨k,D⟩:=iC (x/4503599627370496%2048);have U:k<2048:=iE;obtain⟨xs,H⟩:=iC (x/4503599627370496);have V:(x:Int)/4503599627370496=(xs:Int):=iE;have X:(0:Int)<=(xs:Int):=iE;have Y:(xs:Int)<=4096:=iE;have hand:bits .and .i64 (xs:Int) 2047=(k:Int):=(by rw[Og xs iE,<-D,H]);obtain⟨d,N⟩:=iC (e+de+((k:Int) - 1023));rw[show uh x=(k:Int) - 1023 by unfold uh;rw[D],N]at c;have Z:(0:Int)<=(k:Int):=iE;have aa:(k:Int)<=2047:=iE;obtain⟨ab,ac⟩:=C;have ad: -6000<=d:=iE;have ai:d<=6100:=iE;clear D H hp u;by_cases I:d< -1075
    ·rw[gY I]at c
     go_enter aO,aJ
     go_wp2_with(first|(go_at_call 200;refine(h.1 _).mono ?_;rintro e a ⟨rfl,rfl⟩)|(go_at_call 213;refine(j.1 _).mono ?_;rintro e a ⟨rfl,rfl⟩)|(go_at_call 214;refine(g.1 _).mono ?_;rintro e a ⟨rfl,rfl⟩)|(go_at_call 184;refine(o.1 _ _).mono ?_;rintro e a ⟨rfl,rfl⟩)|(go_at_call 179;refine(q.1 _).mono ?_;rintro e a ⟨rfl,rfl⟩)|(go_at_call 179;refine(s.1 _).mono ?_;rintro e a ⟨rfl,rfl⟩))
     go_ret;exact⟨by rw[<-c.1];rfl,rfl⟩
    ·rw[gZ I]at c
     by_cases J:d>1023
     ·rw[gY J]at c
      cases A:wU x 0 with
      |true=>
       have O:(FloatKind.f64.format.order x 0==ah bH)=ag:=A;rw[gY A]at c;go_enter aO,aJ
       go_wp2_with(first|(go_at_call 200;refine(h.1 _).mono ?_;rintro e a ⟨rfl,rfl⟩)|(go_at_call 213;refine(j.1 _).mono ?_;rintro e a ⟨rfl,rfl⟩)|(go_at_call 214;refine(g.1 _).mono ?_;rintro e a ⟨rfl,rfl⟩)|(go_at_call 184;refine(o.1 _ _).mono ?_;rintro e a ⟨rfl,rfl⟩)|(go_at_call 179;refine(q.1 _).mono ?_;rintro e a ⟨rfl,rfl⟩)|(go_at_call 179;refine(s.1 _).mono ?_;rintro e a ⟨rfl,rfl⟩))
       go_ret;exact⟨by rw[<-c.1];rfl,rfl⟩
      |false=>
       have O:(FloatKind.f64.format.order x 0==ah bH)=aj:=A;rw[gZ (by simp[A])]at c;go_enter aO,aJ
       go_wp2_with(first|(go_at_call 200;refine(h.1 _).mono ?_;rintro e a ⟨rfl,rfl⟩)|(go_at_call 213;refine(j.1 _).mono ?_;rintro e a ⟨rfl,rfl⟩)|(go_at_call 214;refine(g.1 _).mono ?_;rintro e a ⟨rfl,rfl⟩)|(go_at_call 184;refine(o.1 _ _).mono ?_;rintro e a ⟨rfl,rfl⟩)|(go_at_call 179;refine(q.1 _).mono ?_;rintro e a ⟨rfl,rfl⟩)|(go_at_call 179;refine(s.1 _).mono ?_;rintro e a ⟨rfl,rfl⟩))
       go_ret;exact⟨by rw[<-c.1];rfl,rfl⟩
     ·rw[gZ J]at c
      obtain⟨y,m⟩:=iC (x&&&(18446744073709551615 - 9218868437227405312));have ak:bits .andNot .u64 (x:Int) 9218868437227405312=(y:Int):=(by rw[<-m];exact DZ x 9218868437227405312 hx iG);have hy:y<18446744073709551616:=(by rw[<-m];exact Nat.lt_of_le_of_lt Nat.and_le_left hx);by_cases K:d< -1022
      ·rw[gY K]at c
       obtain⟨n,hn⟩:∃n:Nat,d+53+1023=(n:Int):=⟨(d+53+1023).toNat,iE⟩;have E:n<2047:=iE;obtain⟨sh,i⟩:=iC (n<<<52);obtain⟨z,f⟩:=iC (zl x n);have P:IntKind.u64.wrap ((n:Int)*4503599627370496)=(sh:Int):=(by rw[<-i,bn,aN];omega);have Q:bits .or .u64 (y:Int) (sh:Int)=(z:Int):=(by rw[<-f,<-i,<-m];exact bW _ _ (by rw[m];exact hy) (by rw[aN];omega));have v:=AX x n E;rw[f]at v;rw[show(d+53+1023).toNat=n by omega,f]at c;clear f i;have hm:∀t w,(binOp .mul t (.float .f64 4368491638549381120) (.float .f64 z)).run ay w=.ok (.float .f64 (uf 4368491638549381120 z)) w:=λt w=>bz w .mul t .f64 _ _ _ (AV GK v)
       go_enter aO,aJ
       go_wp2_with(first|(go_at_call 200;refine(h.1 _).mono ?_;rintro e a ⟨rfl,rfl⟩)|(go_at_call 213;refine(j.1 _).mono ?_;rintro e a ⟨rfl,rfl⟩)|(go_at_call 214;refine(g.1 _).mono ?_;rintro e a ⟨rfl,rfl⟩)|(go_at_call 184;refine(o.1 _ _).mono ?_;rintro e a ⟨rfl,rfl⟩)|(go_at_call 179;refine(q.1 _).mono ?_;rintro e a ⟨rfl,rfl⟩)|(go_at_call 179;refine(s.1 _).mono ?_;rintro e a ⟨rfl,rfl⟩))
       go_ret;exact⟨by rw[<-c.1];rfl,rfl⟩
      ·rw[gZ K]at c
       obtain⟨n,hn⟩:∃n:Nat,d+1023=(n:Int):=⟨(d+1023).toNat,iE⟩;have E:n<2047:=iE;obtain⟨sh,i⟩:=iC (n<<<52);obtain⟨z,f⟩:=iC (zl x n);have P:IntKind.u64.wrap ((n:Int)*4503599627370496)=(sh:Int):=(by rw[<-i,bn,aN];omega);have Q:bits .or .u64 (y:Int) (sh:Int)=(z:Int):=(by rw[<-f,<-i,<-m];exact bW _ _ (by rw[m];exact hy) (by rw[aN];omega));have v:=AX x n E;rw[f]at v;rw[show(d+1023).toNat=n by omega,f]at c;clear f i;have hm:∀t w,(binOp .mul t (.float .f64 4607182418800017408) (.float .f64 z)).run ay w=.ok (.float .f64 (uf 4607182418800017408 z)) w:=λt w=>bz w .mul t .f64 _ _ _ (AV fin1 v)
       go_enter aO,aJ
       go_wp2_with(first|(go_at_call 200;refine(h.1 _).mono ?_;rintro e a ⟨rfl,rfl⟩)|(go_at_call 213;refine(j.1 _).mono ?_;rintro e a ⟨rfl,rfl⟩)|(go_at_call 214;refine(g.1 _).mono ?_;rintro e a ⟨rfl,rfl⟩)|(go_at_call 184;refine(o.1 _ _).mono ?_;rintro e a ⟨rfl,rfl⟩)|(go_at_call 179;refine(q.1 _).mono ?_;rintro e a ⟨rfl,rfl⟩)|(go_at_call 179;refine(s.1 _).mono ?_;rintro e a ⟨rfl,rfl⟩))
       go_ret;exact⟨by rw[<-c.1];rfl,rfl⟩
end Go.Proofs.YthcalnnipjflkaaGreatDoor
