import Derived.Test.YthcalnnipjflkaaGreatDoorP02
import Derived.Test.YthcalnnipjflkaaGreatDoorP07
import Derived.Test.YthcalnnipjflkaaGreatDoorP09
import Derived.Lib.ItoaNum
import Derived.Lib.ItoaLen
open PLift renaming up -> ae
open ByteArray renaming size_append -> af
open Go.Lib renaming cell_of_heap -> ag, itoa -> au, decDigits -> ay
open Go.RowKit renaming Below -> ah
open Go renaming World -> aj, heap_alloc_new -> aA, Calls -> aJ, wpQuiet_nil -> aN, Value -> aO
open Option renaming some -> ax, none -> aC
open Nat renaming and_two_pow_sub_one_eq_mod -> az, mod_lt -> aI, le_of_lt -> aK
open Array renaming getElem?_eq_some_iff -> aB
open Ordering renaming eq -> aH
set_option linter.all false
set_option maxHeartbeats 4000000
set_option maxRecDepth 100000
namespace Go.Proofs.YthcalnnipjflkaaGreatDoor
open Go.RowKit
open Go.Lib hiding intOf
def kQ (w:aj)(s:aO)(L:List UInt8):Prop:=(L=[]/\s=.slice aC 0 0)\/(L≠[]/\∃h,s=.slice (ax ⟨h,0,aC⟩) L.length L.length/\jI w h L)
theorem kQ.below {w w':aj}{s:aO}{L:List UInt8}(h:kQ w s L)(a:ah w.heap.size w w'):kQ w' s L:=by
 rcases h with h|⟨b,g,c,d⟩
 ·exact .inl h
 ·exact .inr ⟨b,g,c,d.below a⟩
def vT (neg:Bool)(L:List UInt8):ByteArray:=if L=[]then⟨#[48]⟩else zA neg++⟨(lU L).toArray⟩
theorem O7 (neg:Bool)(s:aO)(L:List UInt8)(e:Int)(w:aj)(D:kQ w s L)(hn:L.length<=1000000)(hd:∀b∈L,b.toNat<=9):
  aJ Tryz.prog 195 #[oM neg s e] w λr w'=>r=.returned (.string (vT neg L))/\ah w.heap.size w w':=by
 rcases D with⟨rfl,rfl⟩|⟨j,h,rfl,q⟩
 ·unfold oM
  clear hd hn;go_enter Tryz.func195,Tryz.ntmps195;go_wp2;go_ret;exact⟨rfl,iW w _⟩
 ·have c:∀W',ah w.heap.size w W'->jI W' h L:=λW' c=>q.below c
  have f:=ae (λ(W:aj) (E:ah w.heap.size w W)=>O6 neg L h e W (c W E) hn hd);have g:=ae (λ(W:aj)=>O5 neg (.slice (ax ⟨h,0,aC⟩) L.length L.length) e ⟨_,_,_,rfl⟩ W);have k:=ae (show vT neg L=zA neg++⟨(lU L).toArray⟩ by unfold vT;rw[gZ j]);have t:0<L.length:=List.length_pos_iff.2 j;have u:(lU L).toArray.size=L.length:=by simp[lU]
  unfold oM at f g⊢;obtain⟨C,l⟩:∃C:ByteArray,(⟨(lU L).toArray⟩:ByteArray)=C:=⟨_,rfl⟩;have m:C.size=L.length:=by rw[<-l];exact u
  obtain⟨S,hS⟩:∃S:ByteArray,zA neg=S:=⟨_,rfl⟩;have v:S.size<=1:=by rw[<-hS];cases neg<;>decide
  rw[l]at f k;rw[hS]at g k;obtain⟨n,y⟩:=iC L.length;rw[y]at f g m t hn⊢;have H:((n:Int)==0)=false:=iI
  have I:(n:Int)<=1000000:=iE
  have z:=ae (And.intro m (And.intro v hn));clear c j hd q u l hS y m v t hn;go_enter Tryz.func195,Tryz.ntmps195
  go_upto_region 3 with fail
  obtain⟨W0,o⟩:=iC (w.alloc (.cells #[.bool neg,.slice (ax ⟨h,0,aC⟩) n n,.int .i64 e] 219));have i:PLift (ah w.heap.size w W0/\W0.heap[w.heap.size]?=ax (.cells #[.bool neg,.slice (ax ⟨h,0,aC⟩) n n,.int .i64 e] 219)/\w.heap.size<W0.heap.size):=⟨by rw[<-o];exact⟨iW w _,aA w _,(aB.1 (aA w _)).1⟩⟩;rw[o];clear o
  have d:PLift (∀X:aj,ah W0.heap.size W0 X->X.cell? ⟨w.heap.size,0,aC⟩=ax (.bool neg)/\X.cell? ⟨w.heap.size,1,aC⟩=ax (.slice (ax ⟨h,0,aC⟩) n n)/\X.cell? ⟨w.heap.size,2,aC⟩=ax (.int .i64 e)/\ah w.heap.size w X):=⟨λX A=>by have p:=(A.block _ i.1.2.2).trans i.1.2.1;exact⟨ag p 0,ag p 1,ag p 2,i.1.1.trans (A.mono (aK i.1.2.2))⟩⟩
  refine Mix.mM (aF:=?_) iF iF iF iF iF ?_ ?_;rotate_left 1
  ·intro ρ a
   have J:=λx:iR.Grow ρ=>(d.1 x.w (a.trans (x.h.mono a.size))).1
   have K:=λx:iR.Grow ρ=>(d.1 x.w (a.trans (x.h.mono a.size))).2.1
   have M:=λx:iR.Grow ρ=>(d.1 x.w (a.trans (x.h.mono a.size))).2.2.1
   have c:=λx:iR.Grow ρ=>(d.1 x.w (a.trans (x.h.mono a.size))).2.2.2
   have F:=ae c;have N:S.size<=1:=z.1.2.1;have O:C.size<=1000000:=(by have:=z.1;omega);have P:¬(9223372036854775807:Int)<(S.size:Int)+(C.size:Int):=iE;clear c
   repeat(go_big_quiet_step((first
    |(go_at_call 211;exact iR.Grow.calls (g.1 _))
    |(go_at_call 212;exact iR.Grow.calls (f.1 _ (F.1 _))))))
   apply aN;exact rfl
  intro W B;have G:=ae (d.1 W B).2.2.2;clear B;go_wp2;go_ret;exact⟨by rw[k.1];rfl,G.1⟩
def Be (W:aj):Prop:=∀n:Int,-9223372036854775808<=n->n<=9223372036854775807->
 aJ Tryz.prog 81 #[.int .i64 n] W λe w'=>e=.returned (.string ⟨(au n).toArray⟩)/\ah W.heap.size W w'
def textF (neg:Bool)(L:List UInt8)(e:Int):ByteArray:=(vT neg L++⟨#[101]⟩)++⟨(au e).toArray⟩
theorem O8 (neg:Bool)(L:List UInt8):(vT neg L).size<=L.length+1:=by
 unfold vT;split
 ·exact Nat.succ_le_succ (Nat.zero_le _)
 ·rw[af]
  have a:(zA neg).size<=1:=by cases neg<;>decide
  have b:(⟨(lU L).toArray⟩:ByteArray).size=L.length:=by show(lU L).toArray.size=_;simp[lU]
  omega
theorem O9 (neg:Bool)(s:aO)(L:List UInt8)(e:Int)(w:aj)(i:kQ w s L)(hn:L.length<=1000000)(hd:∀b∈L,b.toNat<=9)
  (z: -9223372036854775808<=e)(A:e<=9223372036854775807)(hi:(au e).length<=100)(B:∀W,ah w.heap.size w W->Be W):
  aJ Tryz.prog 177 #[oM neg s e] w λr w'=>r=.returned (.string (textF neg L e))/\ah w.heap.size w w':=by
 have j:=ae (λ(W:aj) (k:ah w.heap.size w W)=>O7 neg s L e W (i.below k) hn hd);have D:=ae (λ(W:aj) (k:ah w.heap.size w W)=>B W k e z A);have l:=ae (show textF neg L e=(vT neg L++⟨#[101]⟩)++⟨(au e).toArray⟩from rfl);have E:=O8 neg L;obtain⟨C,F⟩:=iC (vT neg L);obtain⟨f,o⟩:∃f:ByteArray,(⟨(au e).toArray⟩:ByteArray)=f:=⟨_,rfl⟩;have G:f.size<=100:=by rw[<-o];exact hi
 rw[F]at j l E;rw[o]at D l
 have K:∃p n c,s=.slice p n c:=by
  rcases i with⟨_,rfl⟩|⟨_,h,rfl,_⟩
  ·exact⟨_,_,_,rfl⟩
  ·exact⟨_,_,_,rfl⟩
 obtain⟨p,m,c,rfl⟩:=K;have q:C.size<=1000001:=iE
 have t:(C++(⟨#[101]⟩:ByteArray)).size<=1000002:=by rw[af];show _+1<=_;omega
 have u:=ae (And.intro q (And.intro t G));unfold oM at j⊢;clear i hn hd z A hi B E F o G q t;go_enter Tryz.func177,Tryz.ntmps177
 go_upto_region 1 with fail
 obtain⟨W0,v⟩:=iC (w.alloc (.cells #[.bool neg,.slice p m c,.int .i64 e] 219));have g:PLift (ah w.heap.size w W0/\W0.heap[w.heap.size]?=ax (.cells #[.bool neg,.slice p m c,.int .i64 e] 219)/\w.heap.size<W0.heap.size):=⟨by rw[<-v];exact⟨iW w _,aA w _,(aB.1 (aA w _)).1⟩⟩;rw[v];clear v
 have d:PLift (∀X:aj,ah W0.heap.size W0 X->X.cell? ⟨w.heap.size,0,aC⟩=ax (.bool neg)/\X.cell? ⟨w.heap.size,1,aC⟩=ax (.slice p m c)/\X.cell? ⟨w.heap.size,2,aC⟩=ax (.int .i64 e)/\ah w.heap.size w X):=⟨λX H=>by have y:=(H.block _ g.1.2.2).trans g.1.2.1;exact⟨ag y 0,ag y 1,ag y 2,g.1.1.trans (H.mono (aK g.1.2.2))⟩⟩
 refine Mix.mM (aF:=?_) iF iF iF iF iF ?_ ?_;rotate_left 1
 ·intro ρ a
  have N:=λx:iR.Grow ρ=>(d.1 x.w (a.trans (x.h.mono a.size))).1
  have O:=λx:iR.Grow ρ=>(d.1 x.w (a.trans (x.h.mono a.size))).2.1
  have P:=λx:iR.Grow ρ=>(d.1 x.w (a.trans (x.h.mono a.size))).2.2.1
  have I:=ae (λx:iR.Grow ρ=>(d.1 x.w (a.trans (x.h.mono a.size))).2.2.2);have q:=u.1.1;have t:=u.1.2.1;have Q:=u.1.2.2;have R:¬(9223372036854775807:Int)<((C++(⟨#[101]⟩:ByteArray)).size:Int)+(f.size:Int):=iE
  repeat(go_big_quiet_step((first
   |(go_at_call 195;exact iR.Grow.calls (j.1 _ (I.1 _)))
   |(go_at_call 81;exact iR.Grow.calls (D.1 _ (I.1 _))))))
  apply aN;exact rfl
 intro W J;have M:=ae (d.1 W J).2.2.2;clear J;go_wp2;go_ret;exact⟨by rw[l.1];rfl,M.1⟩
end Go.Proofs.YthcalnnipjflkaaGreatDoor
namespace Go.Proofs.YthcalnnipjflkaaGreatDoor
open Go.RowKit Go.Sort
open Go.Lib hiding intOf
theorem nT.itoa {w:aj}(h:nT w):Be w:=λn a b=>(Tryz.strconv_Itoa n a b w h.pow).mono λe w' h=>⟨h.1,by obtain⟨k,os,e⟩:=h.2;rw[e];exact below_grow _ _ (Nat.le_refl _) k os⟩
theorem Hl (f:Nat)(hf:f<18446744073709551616):pW f=f%9223372036854775808:=by unfold pW;rw[show(9223372036854775808:Int)=((9223372036854775808:Nat):Int)from rfl,DZ f _ hf iG,Int.toNat_natCast,N9]
def sH (f:Nat):Nat:=if pW f/4503599627370496=0 then pW f&&&4503599627370495 else(pW f&&&4503599627370495)|||4503599627370496
def wW (f:Nat):Nat:=if pW f/4503599627370496=0 then 1 else pW f/4503599627370496
def pX (f:Nat):Nat×Int:=(sH f/2^qG (sH f),(wW f:Int) - 1075+qG (sH f))
theorem Hm (f:Nat):sH f<9007199254740992:=by
 unfold sH
 have h:pW f&&&4503599627370495<4503599627370496:=by rw[show 4503599627370495=2^52 - 1 from rfl,az];exact aI _ iG
 split
 ·omega
 ·exact Nat.or_lt_two_pow (n:=53) iE iG
theorem Pe (f:Nat):(pX f).1 <9007199254740992:=Nat.lt_of_le_of_lt (Nat.div_le_self _ _) (Hm f)
theorem Pg (f:Nat)(hf:f<18446744073709551616): -1075<=(pX f).2 /\(pX f).2 <=2000:=by
 have h:=GR (sH f)
 have a:wW f<=2048:=by unfold wW;rw[Hl f hf];split<;>omega
 show -1075<=(wW f:Int) - 1075+(qG (sH f):Nat)/\(wW f:Int) - 1075+(qG (sH f):Nat)<=2000;omega
theorem Ph (f:Nat)(hf:f<18446744073709551616)(w:aj)(k:yc w):
  aJ Tryz.prog 201 #[.float .f64 f] w λe w'=>e=.returned (.tuple #[.int .u64 (pX f).1,.int .i64 (pX f).2])/\w'=w:=by
 have l:=ae (λW=>D6 f W);have r:=zn;obtain⟨b,h⟩:=iC (pW f);have s:b<9223372036854775808:=by rw[<-h,Hl f hf];exact aI _ iG
 rw[h]at l;obtain⟨g,i⟩:=iC (b&&&4503599627370495)
 have t:g<4503599627370496:=by rw[<-i,show 4503599627370495=2^52 - 1 from rfl,az];exact aI _ iG
 have hand:bits .and .u64 (b:Int) 4503599627370495=(g:Int):=by rw[<-i];exact bits_and_u64_nat b 4503599627370495 iE iG
 obtain⟨d,m⟩:=iC (b/4503599627370496);have u:(b:Int)/4503599627370496=(d:Int):=iE
 have v:(0:Int)<=(d:Int):=iE
 have x:(d:Int)<=2048:=iE
 obtain⟨M,a⟩:=iC (sH f);obtain⟨E,c⟩:=iC (wW f);have y:M<9007199254740992:=by rw[<-a];exact Hm f
 have n:=ae (OD M iE w k);have o:PLift (pX f=(M/2^qG M,(E:Int) - 1075+(qG M:Nat))):=⟨by unfold pX;rw[a,c]⟩;obtain⟨z,j⟩:=iC (qG M);have A:z<=64:=by rw[<-j];exact GR M
 rw[j]at n o;unfold sH at a;unfold wW at c;rw[h,m]at a c;rw[i]at a;have B:E<=2048:=by rw[<-c];split<;>omega
 have C:(0:Int)<=(z:Int):=iE
 have D:(z:Int)<=64:=iE
 have F:(E:Int)<=2048:=iE
 have G:(0:Int)<=(E:Int):=iE
 by_cases p:d=0
 ·rw[gY p]at a c
  subst a c p;clear h i m k j;go_enter Tryz.func201,Tryz.ntmps201
  go_wp2_with(first
   |(go_at_call 215;refine(l.1 _).mono ?_;rintro e q ⟨rfl,rfl⟩)
   |(go_at_call 171;refine n.1.mono ?_;rintro e q ⟨rfl,rfl⟩))
  go_ret2;exact⟨by rw[o.1];rfl,rfl⟩
 ·have H:((d:Int)==0)=false:=by rw[iy];omega
  rw[gZ p]at a c;have I:bits .or .u64 (g:Int) 4503599627370496=(M:Int):=by rw[<-a];exact bits_or_u64_nat g 4503599627370496 iE iG
  subst c;clear h i m k j a;go_enter Tryz.func201,Tryz.ntmps201
  go_wp2_with(first
   |(go_at_call 215;refine(l.1 _).mono ?_;rintro e q ⟨rfl,rfl⟩)
   |(go_at_call 171;refine n.1.mono ?_;rintro e q ⟨rfl,rfl⟩))
  go_ret2;exact⟨by rw[o.1];rfl,rfl⟩
def wX (f:Nat):ByteArray:=if wS f then⟨#[45]⟩else⟨#[]⟩
def oN (f:Nat):ByteArray:=
 if ug f then⟨#[110,97,110]⟩
 else if zt f then wX f++⟨#[105,110,102]⟩
 else if AY f 0 then wX f++⟨#[48,112,48]⟩
 else((wX f++⟨(ay (pX f).1).toArray⟩)++⟨#[112]⟩)++⟨(au (pX f).2).toArray⟩
theorem Pj (u:Nat)(a:u<18446744073709551616):(⟨(ay u).toArray⟩:ByteArray).size<=20:=by show(ay u).toArray.size<=20;rw[List.size_toArray,Lib.decDigits_length];exact Lib.nDigits_le20 u a
theorem Pm (n:Int)(a: -9223372036854775808<=n)(b:n<=9223372036854775807):(⟨(au n).toArray⟩:ByteArray).size<=21:=by show(au n).toArray.size<=21;rw[List.size_toArray];exact Lib.itoa_length_le n a b
theorem Po (f:Nat)(hf:f<18446744073709551616)(w:aj)(k:nT w):
  aJ Tryz.prog 183 #[.float .f64 f] w λe w'=>e=.returned (.string (oN f))/\ah w.heap.size w w':=by
 have b:=ae (λW=>Ob f W);have h:=ae (λW=>GH f W);obtain⟨S,a⟩:=iC (wX f);cases g:ug f with
 |true=>
  have F:(FloatKind.f64.format.order f f !=ax aH)=true:=g;have c:PLift (oN f=⟨#[110,97,110]⟩):=⟨by unfold oN;rw[gY g]⟩;rw[c.1];cases hs:wS f
  all_goals
   rw[hs]at b;go_enter Tryz.func183,Tryz.ntmps183
   go_wp2_with(go_at_call 199;refine(b.1 _).mono ?_;rintro e d ⟨rfl,rfl⟩)
   go_ret;exact⟨rfl,Below.refl _ _⟩
 |false=>
  have F:(FloatKind.f64.format.order f f !=ax aH)=false:=g;cases i:zt f with
  |true=>
   have c:PLift (oN f=S++⟨#[105,110,102]⟩):=⟨by unfold oN;rw[gZ (by simp[g]),gY i,a]⟩;rw[c.1];rw[i]at h;unfold wX at a;cases hs:wS f
   all_goals
    rw[hs]at b a;subst a;go_enter Tryz.func183,Tryz.ntmps183
    go_wp2_with(first
     |(go_at_call 199;refine(b.1 _).mono ?_;rintro e d ⟨rfl,rfl⟩)
     |(go_at_call 200;refine(h.1 _).mono ?_;rintro e d ⟨rfl,rfl⟩))
    go_ret;exact⟨rfl,Below.refl _ _⟩
  |false=>
   rw[i]at h;cases l:AY f 0 with
   |true=>
    have G:(FloatKind.f64.format.order f 0==ax aH)=true:=l;have c:PLift (oN f=S++⟨#[48,112,48]⟩):=⟨by unfold oN;rw[gZ (by simp[g]),gZ (by simp[i]),gY l,a]⟩;rw[c.1];unfold wX at a;cases hs:wS f
    all_goals
     rw[hs]at b a;subst a;go_enter Tryz.func183,Tryz.ntmps183
     go_wp2_with(first
      |(go_at_call 199;refine(b.1 _).mono ?_;rintro e d ⟨rfl,rfl⟩)
      |(go_at_call 200;refine(h.1 _).mono ?_;rintro e d ⟨rfl,rfl⟩))
     go_ret;exact⟨rfl,Below.refl _ _⟩
   |false=>
    have G:(FloatKind.f64.format.order f 0==ax aH)=false:=l;have c:PLift (oN f=((S++⟨(ay (pX f).1).toArray⟩)++⟨#[112]⟩)++⟨(au (pX f).2).toArray⟩):=⟨by unfold oN;rw[gZ (by simp[g]),gZ (by simp[i]),gZ (by simp[l]),a]⟩;rw[c.1];have o:=ae (Ph f hf w k.tz);have hex:=Pg f hf;have H:=Pe f;obtain⟨m,hm⟩:=iC ((pX f).1 );obtain⟨x,hx⟩:=iC ((pX f).2 );rw[hm]at o H⊢;rw[hx]at o hex⊢;have u:=ae (λ(W:aj) (p:ah w.heap.size w W)=>OG m iE W (k.below p).pow);have v:=ae (λ(W:aj) (p:ah w.heap.size w W)=>(k.below p).itoa x iE iE);have q:=Pj m iE;have r:=Pm x iE iE;obtain⟨D,y⟩:∃D:ByteArray,(⟨(ay m).toArray⟩:ByteArray)=D:=⟨_,rfl⟩;obtain⟨n,z⟩:∃n:ByteArray,(⟨(au x).toArray⟩:ByteArray)=n:=⟨_,rfl⟩;rw[y]at u q⊢;rw[z]at v r⊢;have A:S.size<=1:=(by rw[<-a];unfold wX;split<;>decide);have j:PLift (S.size<=1/\D.size<=20/\n.size<=21/\(S++D).size<=21/\((S++D)++(⟨#[112]⟩:ByteArray)).size<=22):=⟨A,q,r,by rw[af];omega,by rw[af,af];show S.size+D.size+1<=_;omega⟩;clear q r y z A k hm hx hex;have s:S=(if wS f=true then⟨#[45]⟩else⟨#[]⟩):=a.symm;clear a;cases hs:wS f
    all_goals
     rw[hs]at b s;have B:=ae s;clear s;go_enter Tryz.func183,Tryz.ntmps183
     go_upto_region 11 with(first
      |(go_at_call 199;refine(b.1 _).mono ?_;rintro e d ⟨rfl,rfl⟩)
      |(go_at_call 200;refine(h.1 _).mono ?_;rintro e d ⟨rfl,rfl⟩)
      |(go_at_call 201;refine o.1.mono ?_;rintro e d ⟨rfl,rfl⟩))
     first
      |rw[show(⟨#[45]⟩:ByteArray)=S from B.1.symm]
      |rw[show(⟨#[]⟩:ByteArray)=S from B.1.symm]
     have J:=j.1.1;have K:=j.1.2.1;have L:=j.1.2.2.1;have M:=j.1.2.2.2.1;have N:=j.1.2.2.2.2;have O:¬(9223372036854775807:Int)<(S.size:Int)+(D.size:Int):=iE;have P:¬(9223372036854775807:Int)<(((S++D)++(⟨#[112]⟩:ByteArray)).size:Int)+(n.size:Int):=iE
     go_wp2_with(first
      |(go_at_call 202;refine(u.1 _ (Below.refl _ _)).mono ?_;rintro e Q ⟨rfl,C⟩;have t:=ae C;clear C)
      |(go_at_call 81;refine(v.1 _ t.1).mono ?_;rintro e w3 ⟨rfl,E⟩;have I:=ae (t.1.trans (E.mono t.1.size));clear E))
     go_ret;exact⟨rfl,I.1⟩
end Go.Proofs.YthcalnnipjflkaaGreatDoor
