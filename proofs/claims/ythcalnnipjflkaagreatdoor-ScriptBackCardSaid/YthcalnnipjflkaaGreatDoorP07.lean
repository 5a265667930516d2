import Derived.Test.YthcalnnipjflkaaGreatDoorP00
import Derived.Test.YthcalnnipjflkaaGreatDoorP03
import Derived.Lib.AppendIntMem
import Derived.Shelf.Strconv.ParseUint10At
open Go.Proofs.Tryz renaming prog -> ae, ntmps180 -> aI, underlying194 -> aK, func180 -> aN, ntmps171 -> aO, ntmps216 -> aP, func171 -> aQ, func216 -> aS
open Array renaming size_replicate -> af
open PLift renaming up -> ag
open Go.Lib renaming nDigits -> ah, uintTupleM -> aj, zeros24 -> ax, TabIs -> ay, decDigits -> az, parseUintB -> aA, decDigits_length -> aC, bytesWorld_below -> aH, pow10Tab -> aJ, atoiAll -> aT
open Go renaming World -> au, Calls -> aB
set_option linter.all false
set_option maxHeartbeats 6400000
set_option maxRecDepth 100000
namespace Go.Proofs.YthcalnnipjflkaaGreatDoor
open Go.RowKit Go.Sort
open Go.Lib hiding intOf
def vJ:List Nat:=[0,1,56,2,57,49,28,3,61,58,42,50,38,29,17,4,62,47,59,36,45,43,51,22,53,39,33,30,24,18,12,5,63,55,48,27,60,41,37,16,46,35,44,21,52,32,23,11,54,26,40,15,34,20,31,10,25,14,19,9,13,8,7,6]
def yc (W:au):Prop:=∀k,k<64->W.cell? ⟨8,k,none⟩=some (.int .u8 (vJ.getD k 0:Nat))
theorem yc.below {w W:au}(h:yc w)(a:Below w.heap.size w W):yc W:=λk b=>iU a (h k b)
def qG (x:Nat):Nat:=if x=0 then 64 else vJ.getD ((x&&&(18446744073709551616 - x))*285870213051353865%18446744073709551616/288230376151711744) 0
theorem GN:∀k,vJ.getD k 0<=64:=by
 intro k;by_cases h:k<64
 ·have:∀k:Fin 64,vJ.getD k.val 0<=64:=iG
  exact this ⟨k,h⟩
 ·rw[List.getD_eq_getElem?_getD,List.getElem?_eq_none (by show 64<=k;omega)];simp
theorem GR (x:Nat):qG x<=64:=by
 unfold qG;split
 ·exact Nat.le_refl _
 ·exact GN _
theorem OD (x:Nat)(hx:x<18446744073709551616)(w:au)(c:yc w):
  aB ae 171 #[.int .u64 x] w λe w'=>e=.returned (.int .i64 (qG x))/\w'=w:=by
 by_cases d:x=0
 ·subst d
  go_enter aQ,aO;go_wp2;go_ret;exact⟨rfl,rfl⟩
 ·have l:((x:Int)==0)=false:=by rw[iy];omega
  obtain⟨a,f⟩:=iC (18446744073709551616 - x);obtain⟨y,hy⟩:=iC (x&&&a);obtain⟨z,g⟩:=iC (y*285870213051353865%18446744073709551616);obtain⟨k,h⟩:=iC (z/288230376151711744);have m:IntKind.u64.wrap (-(x:Int))=(a:Int):=by rw[IntKind.wrap_u64];omega
  have hand:bits .and .u64 (x:Int) (a:Int)=(y:Int):=by rw[<-hy];exact bits_and_u64_nat x a hx iE
  have n:IntKind.u64.wrap ((y:Int)*285870213051353865)=(z:Int):=by rw[IntKind.wrap_u64];omega
  have o:(z:Int)/288230376151711744=(k:Int):=iE
  have i:k<64:=iE
  have p:(k:Int)<64:=iE
  have q:(0:Int)<=(k:Int):=iE
  have hc:=c k i;obtain⟨t,b⟩:=iC (vJ.getD k 0);have r:t<=64:=by rw[<-b];exact GN k
  rw[b]at hc;have j:PLift (qG x=t):=⟨by unfold qG;rw[gZ d,f,hy,g,h,b]⟩;clear f hy g h b c;go_enter aQ,aO;go_wp2;go_ret;exact⟨by rw[j.1];rfl,rfl⟩
theorem OE (u:Nat)(c:u<18446744073709551616)(w:au)(g:ay ae w "internal/strconv.uint64pow10" .u64 aJ):
  aB ae 216 #[.int .u64 u,.int .i64 10] w λe w'=>e=.returned (.string ⟨(az u).toArray⟩)/\Below w.heap.size w w':=by
 by_cases hs:u<100
 ·have n:(u:Int)<100:=iE
  go_enter aS,aP
  go_wp2_with(go_at_call 126;refine(Tryz.internal_strconv_small u hs _).mono ?_;rintro e w' ⟨rfl,rfl⟩)
  go_ret;exact⟨rfl,Below.refl _ _⟩
 ·have i:1<=u:=iE
  have n:¬(u:Int)<100:=iE
  have r:ah u<=20:=by have:=Lib.numDigits_eq u i c;split at this<;>omega
  have l:Tryz.prog.arrayLen 194=24:=by simp[Program.arrayLen,aK]
  have s:∀W,(Instr.sliceAt 194 (.pointer (some ⟨w.heap.size,0,none⟩)) none (some (.int .i64 (ah u:Int))) none).run ae W=.ok (.slice (some ⟨w.heap.size,0,none⟩) (ah u) 24) W:=λW=>by rw[run_sliceAt_array_h W 194 ⟨w.heap.size,0,none⟩ (by simp[Program.arrayLen,Program.elem,aK]) .i64 (ah u:Int) iE (by rw[l];omega)];go_simp
  have d:=Lib.holds_zero0 w 194 (ah u) iE;have m:=Tryz.internal_strconv_formatBase10 w.heap.size 0 24 u (Array.replicate (ah u) 0) (w.alloc (.cells ax 194)) d (by rw[af];exact Lib.lt_pow_nDigits u) c (by rw[af];omega);rw[af]at m;have o:=Lib.hid d;have p:=ag g;clear d l g;go_enter aS,aP
  go_wp2_with(first
   |(go_at_call 127;refine(Tryz.internal_strconv_numDigits u i c _ (Lib.tabIs_alloc p.1 _)).mono ?_;rintro e w' ⟨rfl,rfl⟩))
  go_at_call 128
  refine m.mono ?_;rintro e w' ⟨rfl,k,v',a,rfl,hF⟩
  have hcv:(convert 49 9 (.slice (some ⟨w.heap.size,0,none⟩) (ah u) 24)).run ae ((putRow (λ(b:UInt8)=>Value.int .u8 (b.toNat:Int)) (w.alloc (.cells ax 194)) w.heap.size 0 a).drewN k)=.ok (.string ⟨(az u).toArray⟩) ((putRow (λ(b:UInt8)=>Value.int .u8 (b.toNat:Int)) (w.alloc (.cells ax 194)) w.heap.size 0 a).drewN k):=by
   have h:=run_convert_bytes_back (P:=ae) ((putRow (λ(b:UInt8)=>Value.int .u8 (b.toNat:Int)) (w.alloc (.cells ax 194)) w.heap.size 0 a).drewN k) 49 9 5 ⟨w.heap.size,0,none⟩ 24 (az u) Tryz.underlying49 Tryz.underlying5 Tryz.underlying9 (λj f=>by rw[Lib.row_is_numeral hF j f,Lib.add_plain,World.cell?_drewN];exact cell?_putRow (λ(b:UInt8)=>Value.int .u8 (b.toNat:Int)) _ w.heap.size 0 _ a o.out (by rw[hF.size,af]) j (by rw[hF.size];rw[aC]at f;exact f))
   rw[aC]at h;exact h
  go_wp2;go_ret;obtain⟨os,q⟩:=Lib.fin_at w (.cells ax 194) a k 0;refine⟨rfl,?_⟩;rw[q];exact below_grow _ _ (Nat.le_refl _) k os
theorem OG (u:Nat)(c:u<18446744073709551616)(w:au)(a:ay ae w "internal/strconv.uint64pow10" .u64 aJ):
  aB ae 202 #[.int .u64 u,.int .i64 10] w λe w'=>e=.returned (.string ⟨(az u).toArray⟩)/\Below w.heap.size w w':=by
 have d:=ag (OE u c w a);clear a;go_enter Tryz.func202,Tryz.ntmps202
 go_wp2_with(go_at_call 216;refine d.1.mono ?_;rintro e w' ⟨rfl,b⟩;have f:=ag b;clear b)
 go_ret;exact⟨rfl,f.1⟩
theorem OH {n:String}{g:Nat}{k:IntKind}{zs:List Int}{w w':au}(b:Tryz.prog.globalNamed n=some g)(h:ay ae w n k zs)(c:Below w.heap.size w w'):ay ae w' n k zs:=by
 unfold ay World.var? at h⊢;rw[b]at h⊢;simp only[Option.bind_some]at h⊢
 have d:g<w.heap.size:=by
  rcases Nat.lt_or_ge g w.heap.size with a|a
  ·exact a
  ·rw[Array.getElem?_eq_none a]at h;cases h
 rw[c.block g d];exact h
structure nT (W:au):Prop where
 pow:ay ae W "internal/strconv.uint64pow10" .u64 aJ
 syn:∃ev,W.cell? ⟨4,0,none⟩=some ev/\(ev=.nilIface\/∃te pe,ev=.iface te pe)
 rng:∃ev,W.cell? ⟨5,0,none⟩=some ev/\(ev=.nilIface\/∃te pe,ev=.iface te pe)
 tz:yc W
theorem nT.below {w W:au}(h:nT w)(a:Below w.heap.size w W):nT W where
 pow:=OH (g:=6) iF h.pow a
 syn:=by obtain⟨ev,b,c⟩:=h.syn;exact⟨ev,iU a b,c⟩
 rng:=by obtain⟨ev,b,c⟩:=h.rng;exact⟨ev,iU a b,c⟩
 tz:=h.tz.below a
def zu (l:List UInt8):Option Nat:=match aA 64 l with|.ok v=>some v|_=>none
theorem OI (s:ByteArray)(hs:s.size<=281474976710656)(w:au):
  aB ae 78 #[.string s,.int .i64 10,.int .i64 64] w λe w'=>e=.returned (aj 125 18446744073709551615 (aA 64 s.data.toList))/\Below w.heap.size w w':=
 (Any.internal_strconv_ParseUint_10_at64 Tryz.lays287 s iE w).mono λe w' h=>⟨h.1,by
  rcases h.2 with h|h
  ·rw[h];exact Below.refl _ _
  ·rw[h];exact aH _ _ _⟩
theorem OJ (s:ByteArray)(hs:s.size<=281474976710656)(w:au)(k:nT w):
  aB ae 180 #[.string s,.int .i64 10,.int .i64 64] w λe w'=>(match zu s.data.toList with
   |some v=>e=.returned (.tuple #[.int .u64 (v:Nat),.nilIface])
   |none=>∃v t p,e=.returned (.tuple #[.int .u64 v,.iface t p]))/\Below w.heap.size w w':=by
 have d:=ag (OI s hs w);have l:=ag k;clear k;unfold zu;cases hp:aA 64 s.data.toList with
 |ok v=>
  rw[hp]at d;go_enter aN,aI
  go_wp2_with(go_at_call 78;refine d.1.mono ?_;rintro e m ⟨rfl,a⟩;have b:=ag a;clear a;simp only[aj])
  go_ret2;exact⟨rfl,b.1⟩
 |range=>
  rw[hp]at d
  have f:PLift (∀W,Below w.heap.size w W->aB ae 62 #[.string ⟨#[80,97,114,115,101,85,105,110,116]⟩,.string s,.int .i64 10,.int .i64 64,.iface 125 (.int .i64 1)] W λe w'=>∃N,e=.returned (.iface 128 (.pointer (some ⟨N,0,none⟩)))/\Below W.heap.size W w'):=⟨λW g=>by obtain⟨ev,a,c⟩:=(l.1.below g).rng;exact(Tryz.strconv_toError_range _ s 10 64 ev W hs a c).mono λe w' ⟨N,h,_,_,i⟩=>⟨N,h,i⟩⟩
  go_enter aN,aI
  go_wp2_with(first
   |(go_at_call 78;refine d.1.mono ?_;rintro e m ⟨rfl,a⟩;have b:=ag a;clear a;simp only[aj])
   |(go_at_call 62;refine(f.1 _ b.1).mono ?_;rintro e n ⟨N,rfl,c⟩;have j:=ag c;clear c))
  go_ret2;exact⟨⟨_,_,_,rfl⟩,b.1.trans (j.1.mono b.1.size)⟩
 |_=>
  rw[hp]at d
  have f:PLift (∀W,Below w.heap.size w W->aB ae 62 #[.string ⟨#[80,97,114,115,101,85,105,110,116]⟩,.string s,.int .i64 10,.int .i64 64,.iface 125 (.int .i64 2)] W λe w'=>∃N,e=.returned (.iface 128 (.pointer (some ⟨N,0,none⟩)))/\Below W.heap.size W w'):=⟨λW g=>by obtain⟨ev,a,c⟩:=(l.1.below g).syn;exact(Tryz.strconv_toError_syntax _ s 10 64 ev W hs a c).mono λe w' ⟨N,h,_,_,i⟩=>⟨N,h,i⟩⟩
  go_enter aN,aI
  go_wp2_with(first
   |(go_at_call 78;refine d.1.mono ?_;rintro e m ⟨rfl,a⟩;have b:=ag a;clear a;simp only[aj])
   |(go_at_call 62;refine(f.1 _ b.1).mono ?_;rintro e n ⟨N,rfl,c⟩;have j:=ag c;clear c))
  go_ret2;exact⟨⟨_,_,_,rfl⟩,b.1.trans (j.1.mono b.1.size)⟩
def zx (l:List UInt8):Option Int:=match aT l with|.ok v=>some v|_=>none
theorem OL (s:ByteArray)(hs:s.size<=281474976710656)(w:au)(f:nT w):
  aB ae 55 #[.string s] w λe w'=>(match zx s.data.toList with
   |some v=>e=.returned (.tuple #[.int .i64 v,.nilIface])
   |none=>∃v t p,e=.returned (.tuple #[.int .i64 v,.iface t p]))/\Below w.heap.size w w':=by
 unfold zx;cases hp:aT s.data.toList with
 |ok v=>
  exact(Tryz.strconv_Atoi_ok s iE v hp w).mono λe w' h=>⟨h.1,by
   rcases h.2 with h|⟨t,h⟩
   ·rw[h];exact Below.refl _ _
   ·rw[h];exact aH _ _ _⟩
 |range=>obtain⟨ev,a,b⟩:=f.rng;exact(Tryz.strconv_Atoi_range s hs hp ev w a b).mono λe w' ⟨N,c,_,_,d⟩=>⟨⟨_,_,_,c⟩,d⟩
 |_=>obtain⟨ev,a,b⟩:=f.syn;exact(Tryz.strconv_Atoi_syntax s hs hp ev w a b).mono λe w' ⟨N,c,_,_,d⟩=>⟨⟨_,_,_,c⟩,d⟩
