import Derived.Test.YthcalnnipjflkaaGreatDoorP33
import Derived.Test.YthcalnnipjflkaaGreatDoorP39
open Bool renaming false -> ae, true -> aJ, and_eq_true -> aW
open PLift renaming up -> af
open Nat renaming le_refl -> ag
open Go.Lib renaming hasPrefix -> ah, trimPrefix -> au, cell_of_heap -> ax, frozen_of_heap -> aU, hid -> bu
open List renaming length_cons -> aj, length_drop -> az, length -> aO, take_of_length_le -> aP, cons_ne_nil -> aX
open Option renaming none -> ay, some -> aQ
open Go renaming World -> aA, bodyPost_ret -> aN, Calls -> aS, heap_alloc_new -> aY
open Go.Proofs.Tryz renaming prog -> aB, results48 -> aC, ntmps48 -> aT, func48 -> aV, ntmps53 -> aZ, func53 -> bn
open ByteArray renaming data_extract -> aH
open Go.RowKit renaming Below -> aI
open Array renaming toList_extract -> aK
set_option linter.all false
set_option maxHeartbeats 4000000
set_option maxRecDepth 100000
namespace Go.Proofs.YthcalnnipjflkaaGreatDoor
open Go.RowKit
open Go.Lib hiding intOf
theorem Zy:∀(n:Nat) (l:List UInt8),l.length=n->∀(d:Int) (q:Bool) (i:Nat),jB l d q i= -1\/((i:Int)<=jB l d q i/\jB l d q i<(i:Int)+l.length):=by
 intro n
 induction n using Nat.strongRecOn with
 |_ n b=>
  intro l a d q i;cases l with
  |nil=>exact .inl rfl
  |cons c r=>
   simp only[aj]at a
   have step:∀(r':List UInt8) (d:Int) (q:Bool) (j:Nat),r'.length<n->i+1<=j->j+r'.length<=i+(r.length+1)->jB r' d q j= -1\/((i:Int)<=jB r' d q j/\jB r' d q j<(i:Int)+((r.length+1:Nat):Int)):=by
    intro r' d q j e f g;rcases b r'.length e r' rfl d q j with h|h
    ·exact .inl h
    ·exact .inr iE
   unfold jB;simp only[aj];split
   ·cases r with
    |nil=>exact .inl rfl
    |cons x r'=>simp only[aj]at a step⊢;exact step r' d q (i+2) iE iE iE
   split
   ·exact step r d _ (i+1) iE iE iE
   split
   ·exact step r d _ (i+1) iE iE iE
   split
   ·exact step r _ _ (i+1) iE iE iE
   split
   ·split
    ·exact .inr ⟨iE,iE⟩
    ·exact step r _ _ (i+1) iE iE iE
   ·exact step r _ _ (i+1) iE iE iE
theorem Zz (r:List UInt8):jB (123::r) 0 ae 0=jB r 1 ae 1:=by
 conv=>lhs;unfold jB
 simp
noncomputable def kL (l:List UInt8):List UInt8×List UInt8×Bool:=
 match l with
 |[]=>([],[],ae)
 |c::r=>
  if c=46 then(34::r.take (lF aJ r)++[34],r.drop (lF aJ r),decide (0<lF aJ r))
  else if c=123 then(if jB l 0 ae 0<0 then([],l,ae)
   else((l.take (jB l 0 ae 0).toNat).drop 1,l.drop ((jB l 0 ae 0).toNat+1),(wL ((l.take (jB l 0 ae 0).toNat).drop 1)==0)&&!xA ((l.take (jB l 0 ae 0).toNat).drop 1)))
  else([],l,ae)
theorem MI (c:UInt8)(r:List UInt8):kL (c::r)=if c=46 then(34::r.take (lF aJ r)++[34],r.drop (lF aJ r),decide (0<lF aJ r))
 else if c=123 then(if jB (c::r) 0 ae 0<0 then([],c::r,ae)
  else(((c::r).take (jB (c::r) 0 ae 0).toNat).drop 1,(c::r).drop ((jB (c::r) 0 ae 0).toNat+1),(wL (((c::r).take (jB (c::r) 0 ae 0).toNat).drop 1)==0)&&!xA (((c::r).take (jB (c::r) 0 ae 0).toNat).drop 1)))
 else([],c::r,ae):=rfl
theorem FY (l:List UInt8):(kL l).2.1.length<=l.length/\((kL l).2.2 =aJ->(kL l).2.1.length<l.length):=by
 cases l with
 |nil=>exact⟨ag _,λh=>by cases h⟩
 |cons c r=>
  rw[MI];split
  ·simp only[az,aj]
   exact⟨iE,λ_=>iE⟩
  split
  ·split
   ·exact⟨ag _,λh=>by cases h⟩
   ·simp only[az,aj]
    exact⟨iE,λ_=>iE⟩
  ·exact⟨ag _,λh=>by cases h⟩
def y9 (l:List UInt8)(e:Ending):Prop:=e=.returned (.tuple #[.string ⟨(kL l).1.toArray⟩,.string ⟨(kL l).2.1.toArray⟩,.bool (kL l).2.2])
theorem ZA (s:ByteArray)(r:List UInt8)(w:aA)(hs:s.data.toList=123::r)(q:s.size<=65536)(t:jM w):
  aS aB 53 #[.string s] w λe w'=>y9 (123::r) e/\aI w.heap.size w w':=by
 have u:s.size=r.length+1:=by have:=ig aO hs;simpa using this
 have b:0<s.size:=iE
 have h:s[0]'b=123:=by
  have:s.data.toList.getD 0 0=s[0]'b:=lC s 0 b
  rw[<-this,hs];rfl
 have Q:(((s[0]'b).toNat:Int)==46)=ae:=by rw[h];rfl
 have e1:(((s[0]'b).toNat:Int)!=123)=ae:=by rw[h];rfl
 have v:=Zz r;have i:=Zy _ r rfl 1 ae 1;rw[<-v]at i;have d:=af λW:aA=>I8 s W iE
 rw[hs]at d
 have j:=af (show kL (123::r)=(if jB (123::r) 0 ae 0<0 then([],123::r,ae)
   else(((123::r).take (jB (123::r) 0 ae 0).toNat).drop 1,(123::r).drop ((jB (123::r) 0 ae 0).toNat+1),(wL (((123::r).take (jB (123::r) 0 ae 0).toNat).drop 1)==0)&&!xA (((123::r).take (jB (123::r) 0 ae 0).toNat).drop 1)))from rfl)
 generalize jB (123::r) 0 ae 0=c at i d j;have x:(⟨(123::r).toArray⟩:ByteArray)=s:=by rw[<-hs]
 have G:=af x;have y:=af t;clear t v h x;rcases i with rfl|⟨H,I⟩
 ·have a:=af (j.1.trans (gY iG))
  clear hs u q
  as_aux_lemma=>
  go_enter bn,aZ
  go_wp2_with(go_at_call 57;refine(d.1 _).mono ?_;rintro e J ⟨rfl,rfl⟩)
  go_ret3;exact⟨by unfold y9;rw[a.1];show Ending.returned (Value.tuple #[Value.string ⟨#[]⟩,Value.string s,Value.bool ae])=Ending.returned (Value.tuple #[Value.string ⟨#[]⟩,Value.string ⟨(123::r).toArray⟩,Value.bool ae]);rw[G.1],Below.refl _ _⟩
 ·obtain⟨m,rfl⟩:=Int.eq_ofNat_of_zero_le (show 0<=c by omega)
  have a:=af (j.1.trans (gZ iE));rw[Int.toNat_natCast]at a;have R:1<=(m:Int):=iE
  have S:(m:Int)+1<=(s.size:Int):=iE
  have T:(m:Int)<=(s.size:Int):=iE
  have L:¬(m:Int)<0:=iE
  have U:0<=(m:Int)+1:=iE
  have V:((m:Int)+1).toNat=m+1:=iE
  have X:decide ((m:Int)<0)=ae:=iw L;have Y:(m:Int)<=65536:=iE
  have hx:s.extract 1 m=⟨(((123::r).take m).drop 1).toArray⟩:=ext_list (by rw[aH,aK,hs];show List.take (m - 1) (List.drop 1 (123::r))=_;rw[List.drop_take])
  have z:(s.extract 1 m).data.toList=((123::r).take m).drop 1:=by rw[hx]
  have A:(s.extract 1 m).size<=65536:=by rw[hx,kZ,az,List.length_take];simp only[aj];omega
  have B:s.extract (m+1) s.size=⟨((123::r).drop (m+1)).toArray⟩:=ext_list (by rw[aH,aK,hs];show List.take (s.size - (m+1)) (List.drop (m+1) (123::r))=_;rw[aP];rw[az];simp only[aj];omega)
  have k:=af (And.intro hx B);have f:=af λ(W:aA) (l:jM W)=>Zx (s.extract 1 m) A W l
  have g:=af λW:aA=>Uz (s.extract 1 m) W iE
  rw[z]at f g;generalize(((123::r).take m).drop 1)=K at k f g a;obtain⟨pe,C⟩:=iC (wL K);obtain⟨nm,D⟩:=iC (xA K);rw[C]at f a;rw[D]at g a;obtain⟨n,M⟩:=iC ((pe==0));rw[M]at a;clear hs u q hx z A B C D H I;have Z:=af λ(W:aA) (l:aI w.heap.size w W)=>y.1.below l
  cases n
  all_goals cases nm
  all_goals
   as_aux_lemma=>
   go_enter bn,aZ
   go_upto_region 11 with(first
    |(go_at_call 57;refine(d.1 _).mono ?_;rintro e J ⟨rfl,rfl⟩)
    |(go_at_call 58;refine(f.1 _ (y.1)).mono ?_;rintro e N ⟨⟨ga,gn,O,gr,rfl⟩,E⟩;have F:=af E;clear E))
   obtain⟨o,p⟩:=iC (N.alloc (.cells #[.slice ga gn O,.int .i64 gr] 117));have P:PLift (aI w.heap.size w o):=⟨by rw[<-p];exact F.1.alloc F.1.size _⟩;rw[p];clear p
   as_aux_lemma=>
   go_wp2_with(go_at_call 59;refine(g.1 _).mono ?_;rintro e aa ⟨⟨tt,rfl⟩,rfl⟩)
   go_quiet (fail)
   go_wp2;go_ret3;exact⟨by unfold y9;rw[a.1];show _=Ending.returned (Value.tuple #[Value.string ⟨K.toArray⟩,Value.string ⟨((123::r).drop (m+1)).toArray⟩,_]);rw[<-k.1.1,<-k.1.2];rfl,P.1.trans (below_drewN _ _ _)⟩
theorem MJ (s:ByteArray)(w:aA)(g:s.data.toList≠[])(i:s.size<=65536)(j:jM w):
  aS aB 53 #[.string s] w λe w'=>y9 s.data.toList e/\aI w.heap.size w w':=by
 have f:(⟨s.data.toList.toArray⟩:ByteArray)=s:=iH
 cases h:s.data.toList with
 |nil=>exact absurd h g
 |cons c r=>
  rw[h]at f;by_cases a:c=46
  ·subst a
   refine(I7 s r w h iE).mono ?_;rintro e w' ⟨rfl,b⟩;exact⟨rfl,b⟩
  ·by_cases d:c=123
   ·subst d
    exact ZA s r w h i j
   ·refine(Jh s c r w h iE a d).mono ?_
    rintro e w' ⟨rfl,b⟩;refine⟨?_,b⟩;unfold y9;rw[MI,gZ a,gZ d];simp only[];rw[f]
noncomputable def pq (l:List UInt8):El×List UInt8×Bool:=
 if l.getD 0 0=91 then(⟨0,(lZ (l.drop 1)).1,⟨#[]⟩⟩,au (lZ (l.drop 1)).2.1 [93],(lZ (l.drop 1)).2.2 &&ah (lZ (l.drop 1)).2.1 [93])
 else if((kL l).2.2 &&ah (kL l).2.1 [64])=aJ then
  (⟨0,(lZ (au (kL l).2.1 [64])).1,⟨(kL l).1.toArray⟩⟩,(lZ (au (kL l).2.1 [64])).2.1,(lZ (au (kL l).2.1 [64])).2.2 &&decide (0<(lZ (au (kL l).2.1 [64])).1))
 else(⟨0,0,⟨(kL l).1.toArray⟩⟩,(kL l).2.1,(kL l).2.2)
theorem ZB (l:List UInt8)(b:l≠[]):(pq l).2.2 =aJ->(pq l).2.1.length<l.length:=by
 have d:0<l.length:=List.length_pos_iff.2 b;unfold pq;split
 ·intro _
  have a:=ES (l.drop 1);have c:=CJ (lZ (l.drop 1)).2.1 [93];rw[az]at a;simp only;omega
 split
 ·rename_i h
  intro _;rw[aW]at h;have a:=(FY l).2 h.1;have c:=CJ (kL l).2.1 [64];have e:=ES (au (kL l).2.1 [64]);simp only;omega
 ·exact λh=>(FY l).2 h
def wM (l:List UInt8)(e:Ending):Prop:=e=.returned (.tuple #[.agg #[.int .i64 (pq l).1.k,.int .i64 (pq l).1.i,.string (pq l).1.key],.string ⟨(pq l).2.1.toArray⟩,.bool (pq l).2.2])
theorem ZC (s:ByteArray)(r:List UInt8)(w:aA)(hs:s.data.toList=91::r)(n:s.size<=65536)(i:jM w):
  aS aB 48 #[.string s,.bool ae] w λe w'=>wM (91::r) e/\aI w.heap.size w w':=by
 have o:s.size=r.length+1:=by have:=ig aO hs;simpa using this
 have c:0<s.size:=iE
 have y:(1:Int)<=(s.size:Int):=iE
 have j:s[0]'c=91:=by
  have:s.data.toList.getD 0 0=s[0]'c:=lC s 0 c
  rw[<-this,hs];rfl
 have e1:(((s[0]'c).toNat:Int)==91)=aJ:=by rw[j];rfl
 have hx:s.extract 1 s.size=⟨r.toArray⟩:=ext_list (by
  rw[aH,aK,hs];show List.take (s.size - 1) (List.drop 1 (91::r))=_;rw[aP]
  ·rfl
  ·simp;omega)
 have k:(s.extract 1 s.size).data.toList=r:=by rw[hx]
 have a:=af λ(W:aA) (q:jM W)=>JD (s.extract 1 s.size) W (by rw[hx,kZ];omega) q
 rw[k]at a;unfold xC at a;have b:=af (show pq (91::r)=(⟨0,(lZ r).1,⟨#[]⟩⟩,au (lZ r).2.1 [93],(lZ r).2.2 &&ah (lZ r).2.1 [93])from rfl);have d:=ES r;generalize lZ r=X at a b d;obtain⟨x,rest,ok⟩:=X;simp only[]at a b d;have f:=af λW:aA=>Tryz.strings_CutPrefix ⟨rest.toArray⟩ ⟨#[93]⟩ W
 rw[show(⟨#[93]⟩:ByteArray).data.toList=[93]from rfl,show(⟨rest.toArray⟩:ByteArray).data.toList=rest from rfl]at f;obtain⟨tl,l⟩:=iC (au rest [93]);obtain⟨g,m⟩:=iC (ah rest [93]);rw[l,m]at f b;have t:=af (i.below (iW w (.cells #[.int .i64 0,.int .i64 0,.string ⟨#[]⟩] 101)));clear hs n i j hx k o l m d;cases ok
 all_goals cases g
 all_goals
  as_aux_lemma=>
  go_enter aV,aT
  go_wp2_with(first
   |(go_at_call 52;refine(a.1 _ t.1).mono ?_;rintro e z ⟨rfl,h⟩;obtain⟨A,B,C,D,E,F,G⟩:=EJ h;have u:=af h;clear h)
   |(go_at_call 51;refine(f.1 _).mono ?_;rintro e H ⟨rfl,rfl⟩))
  first
   |refine aN (v:=.tuple #[.agg #[.int .i64 0,.int .i64 x,.string ⟨#[]⟩],.string ⟨tl.toArray⟩,.bool aJ]) (by simp only[results,aC];go_simp) rfl ⟨(by unfold wM;rw[b.1];rfl),?_⟩
   |refine aN (v:=.tuple #[.agg #[.int .i64 0,.int .i64 x,.string ⟨#[]⟩],.string ⟨tl.toArray⟩,.bool ae]) (by simp only[results,aC];go_simp) rfl ⟨(by unfold wM;rw[b.1];rfl),?_⟩
  have hw:=((Below.refl w.heap.size w).alloc (ag _) (.cells #[.int .i64 0,.int .i64 0,.string ⟨#[]⟩] 101)).trans (u.1.mono iH);exact(((hw.setCell (p:=⟨w.heap.size,0,ay⟩) (ag _) (.int .i64 0)).setCell (p:=⟨w.heap.size,1,ay⟩) (ag _) (.int .i64 x)).setCell (p:=⟨w.heap.size,2,ay⟩) (ag _) (.string ⟨#[]⟩))
theorem ZE (s:ByteArray)(c:UInt8)(r:List UInt8)(w:aA)(hs:s.data.toList=c::r)(hc:c≠91)(C:s.size<=65536)(D:jM w)(d:((kL (c::r)).2.2 &&ah (kL (c::r)).2.1 [64])=aJ):
  aS aB 48 #[.string s,.bool ae] w λe w'=>wM (c::r) e/\aI w.heap.size w w':=by
 have S:s.size=r.length+1:=by have:=ig aO hs;simpa using this
 have l:0<s.size:=iE
 have E:s[0]'l=c:=by
  have:s.data.toList.getD 0 0=s[0]'l:=lC s 0 l
  rw[<-this,hs];rfl
 have e1:(((s[0]'l).toNat:Int)==91)=ae:=by rw[E];simp only[iy,ne_eq];exact λe=>hc (UInt8.toNat_inj.1 (by have e:(91:UInt8).toNat=91:=rfl;omega))
 have g:=af λ(W:aA) (i:jM W)=>MJ s W (by rw[hs];exact aX _ _) C i
 rw[hs]at g;unfold y9 at g;have f:=af (show pq (c::r)=_ from by unfold pq;rw[gZ (show ¬(c::r).getD 0 0=91 from hc),gY d]);have m:=(FY (c::r)).1;generalize kL (c::r)=X at g f m d;obtain⟨key,rest,ok⟩:=X;simp only[]at g f m d;rw[aW]at d;obtain⟨rfl,d⟩:=d;have y:=af λW:aA=>Tryz.strings_CutPrefix ⟨rest.toArray⟩ ⟨#[64]⟩ W
 rw[show(⟨#[64]⟩:ByteArray).data.toList=[64]from rfl,show(⟨rest.toArray⟩:ByteArray).data.toList=rest from rfl,d]at y;have F:=CJ rest [64];generalize au rest [64]=tl at y f F;have j:=af λ(W:aA) (i:jM W)=>JD ⟨tl.toArray⟩ W (by rw[kZ];simp only[aj]at m;omega) i
 rw[show(⟨tl.toArray⟩:ByteArray).data.toList=tl from rfl]at j;unfold xC at j;generalize lZ tl=Y at j f;obtain⟨x,G,T⟩:=Y;simp only[]at j f;have H:=af λ(W:aA) (i:aI w.heap.size w W)=>D.below i
 have aa:=af (Decidable.em (0<x));clear hs C D E S d F m;have n:0<x\/¬0<x:=Decidable.em _;cases T
 all_goals rcases n with n|n
 all_goals
  have I:=af n
  as_aux_lemma=>
  go_enter aV,aT
  go_upto_region 14 with(go_at_call 53;refine(g.1 _ (H.1 _ (iW w _))).mono ?_;rintro e a ⟨rfl,J⟩;have z:=af J;clear J)
  have q:PLift (w.heap.size<a.heap.size):=⟨by have:=z.1.size;rw[jl]at this;omega⟩;have U:PLift (a.heap[w.heap.size]?=aQ (.cells #[.int .i64 0,.int .i64 0,.string ⟨#[]⟩] 101)):=⟨by rw[z.1.block _ (by rw[jl];omega)];exact aY w _⟩;have K:=af (aY a (.cells #[.int .i64 0,.int .i64 0,.string ⟨key.toArray⟩] 101));have L:PLift ((a.alloc (.cells #[.int .i64 0,.int .i64 0,.string ⟨key.toArray⟩] 101)).heap[w.heap.size]?=aQ (.cells #[.int .i64 0,.int .i64 0,.string ⟨#[]⟩] 101)):=⟨by rw[Lib.alloc_old _ _ _ q.1];exact U.1⟩;have t:PLift (aI w.heap.size w (a.alloc (.cells #[.int .i64 0,.int .i64 0,.string ⟨key.toArray⟩] 101))):=⟨((iW w _).trans (z.1.mono (by rw[jl];omega))).alloc (by have:=q.1;omega) _⟩;obtain⟨M,N⟩:=iC (a.alloc (.cells #[.int .i64 0,.int .i64 0,.string ⟨key.toArray⟩] 101));rw[N]at K L t⊢;clear N
  as_aux_lemma=>
  go_upto_region 17 with(first
   |(go_at_call 51;refine(y.1 _).mono ?_;rintro e ab ⟨rfl,rfl⟩)
   |(
    go_at_call 52;refine(j.1 _ (H.1 _ t.1)).mono ?_;rintro e w3 ⟨rfl,O⟩;have A:=af O;clear O;
    have B:=af (Mix.lu A.1 K.1);have V:=af (Mix.lu A.1 L.1);have P:w3.cell? ⟨a.heap.size,1,ay⟩=aQ (.int .i64 0):=(ax B.1 1).trans rfl;have Z:∀o,w3.frozen? ⟨a.heap.size,o,ay⟩=ae:=λo=>aU B.1 o))
  have u:PLift ((w3.setCell ⟨a.heap.size,1,ay⟩ (.int .i64 x)).heap[a.heap.size]?=aQ (.cells #[.int .i64 0,.int .i64 x,.string ⟨key.toArray⟩] 101)):=⟨by have h:=B.1;simp[World.setCell,Array.getElem?_modify,h]⟩;have k:PLift ((w3.setCell ⟨a.heap.size,1,ay⟩ (.int .i64 x)).heap[w.heap.size]?=aQ (.cells #[.int .i64 0,.int .i64 0,.string ⟨#[]⟩] 101)):=⟨by rw[jm _ (by have:=q.1;omega)];exact V.1⟩;have Q:PLift (aI w.heap.size w (w3.setCell ⟨a.heap.size,1,ay⟩ (.int .i64 x))):=⟨(t.1.trans (A.1.mono t.1.size)).setCell (p:=⟨a.heap.size,1,ay⟩) (by have:=q.1;show w.heap.size<=a.heap.size;omega) _⟩;obtain⟨b,R⟩:=iC (w3.setCell ⟨a.heap.size,1,ay⟩ (.int .i64 x));rw[R]at u k Q⊢;clear R P Z;have ac:b.cell? ⟨a.heap.size,0,ay⟩=aQ (.int .i64 0):=(ax u.1 0).trans rfl;have P:b.cell? ⟨a.heap.size,1,ay⟩=aQ (.int .i64 x):=(ax u.1 1).trans rfl;have ad:b.cell? ⟨a.heap.size,2,ay⟩=aQ (.string ⟨key.toArray⟩):=(ax u.1 2).trans rfl;have ai:b.cell? ⟨w.heap.size,0,ay⟩=aQ (.int .i64 0):=(ax k.1 0).trans rfl;have r1:b.cell? ⟨w.heap.size,1,ay⟩=aQ (.int .i64 0):=(ax k.1 1).trans rfl;have r2:b.cell? ⟨w.heap.size,2,ay⟩=aQ (.string ⟨#[]⟩):=(ax k.1 2).trans rfl;have ak:∀o,b.frozen? ⟨w.heap.size,o,ay⟩=ae:=λo=>aU k.1 o
  as_aux_lemma=>
  go_wp2
  first
   |refine aN (v:=.tuple #[.agg #[.int .i64 0,.int .i64 x,.string ⟨key.toArray⟩],.string ⟨G.toArray⟩,.bool aJ]) (by simp only[results,aC];go_simp) rfl ⟨(by unfold wM;rw[f.1];first|rfl|(rw[show decide (0<x)=aJ from iq I.1];rfl)),?_⟩
   |refine aN (v:=.tuple #[.agg #[.int .i64 0,.int .i64 x,.string ⟨key.toArray⟩],.string ⟨G.toArray⟩,.bool ae]) (by simp only[results,aC];go_simp) rfl ⟨(by unfold wM;rw[f.1];first|rfl|(rw[show decide (0<x)=ae from iw I.1];rfl)),?_⟩
  exact(((Q.1.setCell (p:=⟨w.heap.size,0,ay⟩) (ag _) (.int .i64 0)).setCell (p:=⟨w.heap.size,1,ay⟩) (ag _) (.int .i64 x)).setCell (p:=⟨w.heap.size,2,ay⟩) (ag _) (.string ⟨key.toArray⟩))
theorem ZF (s:ByteArray)(w:aA)(c:UInt8)(r:List UInt8)(hs:s.data.toList=c::r)(hc:c≠91)(k rest:ByteArray)(ok:Bool)
  (f:jM w)(g:∀w,jM w->aS aB 53 #[.string s] w λe w'=>e=.returned (.tuple #[.string k,.string rest,.bool ok])/\aI w.heap.size w w')
  (h:(ok&&ah rest.data.toList [64])=ae):
  aS aB 48 #[.string s,.bool ae] w λe w'=>e=.returned (.tuple #[yG 0 0 k,.string rest,.bool ok])/\aI w.heap.size w w':=by
 have l:s.size=r.length+1:=by have:=ig aO hs;simpa using this
 have a:0<s.size:=iE
 have i:s[0]'a=c:=by
  have:s.data.toList.getD 0 0=s[0]'a:=lC s 0 a
  rw[<-this,hs];rfl
 have e1:(((s[0]'a).toNat:Int)==91)=ae:=by rw[i];simp only[iy,ne_eq];exact λe=>hc (UInt8.toNat_inj.1 (by have e:(91:UInt8).toNat=91:=rfl;omega))
 have m:=bu g;have n:=bu (f.below (iW w (.cells #[.int .i64 0,.int .i64 0,.string ⟨#[]⟩] 101)));clear f
 have o:(ok=ae/\∃b,ah rest.data.toList [64]=b)\/(ok=aJ/\ah rest.data.toList [64]=ae):=by
  cases ok
  ·exact .inl ⟨rfl,_,rfl⟩
  ·exact .inr ⟨rfl,by simpa using h⟩
 clear i hs l g h hc;rcases o with⟨rfl,b,q⟩|⟨rfl,q⟩
 all_goals
  go_enter aV,aT
  go_wp2_with(first
   |(go_at_call 53;refine(m.out _ n.out).mono ?_;rintro e u ⟨rfl,d⟩;obtain⟨x,y,z,A,B,C,D⟩:=EJ d;have t:=bu d;clear d)
   |(go_at_call 51;refine(Tryz.strings_CutPrefix _ _ _).mono ?_;rintro e E ⟨rfl,rfl⟩))
  refine aN (v:=.tuple #[yG 0 0 k,.string rest,.bool _]) (by simp only[results,aC,yG];go_simp) rfl ⟨rfl,?_⟩;have hw:=((Below.refl w.heap.size w).alloc (ag _) (.cells #[.int .i64 0,.int .i64 0,.string ⟨#[]⟩] 101)).trans (t.out.mono iH);have j:=(((hw.setCell (p:=⟨w.heap.size,0,ay⟩) (ag _) (.int .i64 0)).setCell (p:=⟨w.heap.size,1,ay⟩) (ag _) (.int .i64 0)).setCell (p:=⟨w.heap.size,2,ay⟩) (ag _) (.string k));exact j.alloc j.size _
theorem ZG (l:List UInt8)(g:l≠[])(i:l.length<=65536)(w:aA)(a:jM w):
  aS aB 48 #[.string ⟨l.toArray⟩,.bool ae] w λe w'=>wM l e/\aI w.heap.size w w':=by
 cases l with
 |nil=>exact absurd rfl g
 |cons c r=>
  have hs:(⟨(c::r).toArray⟩:ByteArray).data.toList=c::r:=rfl;have b:(⟨(c::r).toArray⟩:ByteArray).size<=65536:=by rw[kZ];exact i
  by_cases hc:c=91
  ·subst hc
   exact ZC _ r w hs b a
  ·by_cases d:((kL (c::r)).2.2 &&ah (kL (c::r)).2.1 [64])=aJ
   ·exact ZE _ c r w hs hc b a d
   ·have f:((kL (c::r)).2.2 &&ah (kL (c::r)).2.1 [64])=ae:=by simpa using d
    have j:∀W,jM W->aS aB 53 #[.string ⟨(c::r).toArray⟩] W λe w'=>e=.returned (.tuple #[.string ⟨(kL (c::r)).1.toArray⟩,.string ⟨(kL (c::r)).2.1.toArray⟩,.bool (kL (c::r)).2.2])/\aI W.heap.size W w':=λW k=>MJ _ W (aX _ _) b k
    refine(ZF ⟨(c::r).toArray⟩ w c r hs hc _ _ _ a j f).mono λe w' h=>⟨?_,h.2⟩
    rw[h.1];unfold wM pq;rw[gZ (show ¬(c::r).getD 0 0=91 from hc),gZ (by rw[f];decide)]
    rfl
noncomputable def tV (l:List UInt8):Bool:=(qi pq l).2 ==0
theorem ZH:yI ae pq (λl=>l.length<=65536):=by
 intro l b a;refine⟨λw hw=>?_,λc=>?_⟩
 ·exact ZG l a b w hw
 ·have:=ZB l a c
  exact⟨this,iE⟩
theorem ZI (l:List UInt8)(a:l.length<=65536):qK l (tV l):=by intro w hw;refine(Jn pq _ ZH l a w hw iE).mono ?_;rintro e w' ⟨b,v,he,-⟩;refine⟨v,_,he,?_,b⟩;unfold tV;rw[bne]
end Go.Proofs.YthcalnnipjflkaaGreatDoor
