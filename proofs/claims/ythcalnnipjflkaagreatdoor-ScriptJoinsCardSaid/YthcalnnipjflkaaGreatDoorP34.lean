import Derived.Test.YthcalnnipjflkaaGreatDoorP16
import Derived.Test.YthcalnnipjflkaaGreatDoorP22
import Derived.Test.YthcalnnipjflkaaGreatDoorP25
import Derived.Test.YthcalnnipjflkaaGreatDoorP31
import Derived.Laws.Runes
import Derived.Laws.RangeAny
import Derived.WalkMore
open PLift renaming up -> ae
open Option renaming some -> af, none -> ag, getD_some -> aW
open Go.Lib renaming cell_of_heap -> ah, indexAny -> aT, indexByte -> bF, data_getElem? -> bG, frozen_of_heap -> cu, below_iterAt -> dB, size_eq -> dG, iterAt_heap -> dH, NoAny -> dK
open Bool renaming false -> aj, and_eq_true -> aI, true -> aQ, not_eq_false' -> bY
open Go renaming World -> au, Value -> aH, bodyPost_ret -> aO, Calls -> aU, heap_alloc_new -> aZ, wpQuiet_nil -> dh, validRune_eq -> dw, zero_of_info -> dC
open Go.Proofs.Tryz renaming prog -> ax, results89 -> aJ, ntmps89 -> bI, func89 -> bP, ntmps113 -> bV, func113 -> bZ, ntmps130 -> dn, func130 -> dA, ntmps86 -> dD, ntmps84 -> dE, func86 -> dI, func84 -> dJ
open List renaming mem_append_left -> ay, getElem?_eq_getElem -> az, getD_eq_getElem?_getD -> aB, mem_append_right -> aK, range -> aS, replicate -> aY, length_replicate -> bu, foldl_cons -> bz, mem_of_getElem? -> bC, any_eq_true -> bH, mem_range -> bQ, getElem_of_mem -> bW, getElem_mem -> di
open Nat renaming le_refl -> aA, le_trans -> aV, not_lt_zero -> aX, mul_div_cancel_left -> bK, zero_le -> cZ
open Go.Utf8 renaming decode -> aC, valid -> bT, encode -> dF
open Go.RowKit renaming Below -> aN
open Array renaming replicate -> aP, getElem_mem_toList -> bJ, toList_extract -> bU
open Go.RowKit.Below renaming refl -> bn
open UInt8 renaming ofNat -> bD, toNat_inj -> dm
set_option linter.all false
set_option maxHeartbeats 16000000
set_option maxRecDepth 1000000
namespace Go.Proofs.YthcalnnipjflkaaGreatDoor
open Go.RowKit
open Go.Lib hiding intOf
theorem Fj (n:Nd)(C:List Int):(rq C n).length=C.length:=by unfold rq;rw[A8,A8]
theorem Kt (N:List Nd)(root:Int):(cntF N root).length=N.length:=by
 unfold cntF
 have h:∀(l:List Nd) (C:List Int),(l.foldl rq C).length=C.length:=by
  intro l
  induction l with
  |nil=>intro C;rfl
  |cons n l a=>intro C;rw[bz,a,Fj]
 rw[h,D7,bu]
theorem Fp (N:List Nd)(n:Nd)(M:List Bool):(rM N M n).length=M.length:=by
 unfold rM
 have h:∀(l:List Int) (M:List Bool),(l.foldl (λM x=>jR N (N.length+1) x.toNat M) M).length=M.length:=by
  intro l
  induction l with
  |nil=>intro M;rfl
  |cons x l a=>intro M;rw[bz,a,(vK N _ _ _).1]
 exact h _ _
theorem Ku (N:List Nd):(tu N).length=N.length:=by
 unfold tu
 have h:∀(l:List Nd) (M:List Bool),(l.foldl (rM N) M).length=M.length:=by
  intro l
  induction l with
  |nil=>intro M;rfl
  |cons n l a=>intro M;rw[bz,a,Fp]
 rw[h,bu]
theorem Ll {N:List Nd}{root:Int}(h:vI N root=aQ):0<=root/\root<(N.length:Int)/\nN N:=by unfold vI jH at h;simp only[aI,decide_eq_true_eq,List.all_eq_true]at h;exact⟨h.1.1,h.1.2,λn hn=>⟨λx hx=>(h.2 n hn).1 x hx,λx hx=>(h.2 n hn).2 x hx⟩⟩
noncomputable def rV (N:List Nd)(root:Nat)(i:Nat):Bool:=!((jR N (N.length+1) root (aY N.length aj)).getD i aj)||!(uK qJ (N.getD i nd0))
def tJ (N:List Nd)(root:Nat)(i:Nat):Bool:=(tu N).getD i aj&&!((cntF N root).getD i 0==1)
def qA (N:List Nd)(root:Nat):List Int×List Int:=(uM N root).getD ([],[])
noncomputable def o9 (N:List Nd)(root:Int):Int:=
 if 4096<N.length then 7
 else if N.length=0 then 3
 else if vI N root=aj then 3
 else if(aS N.length).any (rV N root.toNat)=aQ then 3
 else if(aS N.length).any (tJ N root.toNat)=aQ then 3
 else if Ai N (N.length+1)=aQ then 8
 else if 32<(uS N root.toNat (qA N root.toNat).1 (qA N root.toNat).2).1 then 5 else 0
def Ar (N:List Nd)(root:Nat):Prop:=nN N->(∀i,i<N.length->rV N root i=aj)->(∀i,i<N.length->tJ N root i=aj)->
 ∃(K:Nat->Prop) (H:Nat->Nat),uT N K H/\(∀n∈N,∀x∈n.keys,K x.toNat)/\(∀i,K i->H i<N.length+1)/\∀n∈N,n.keys.length<=4096
theorem X0 {N:List Nd}(h:∀i,i<N.length->uK qJ (N.getD i nd0)=aQ):yV N:=by intro n hn b;obtain⟨i,hi,rfl⟩:=bW hn;have a:=h i hi;rw[aB,az hi,aW]at a;unfold uK at a;rw[gZ (by rw[b];decide),gY b]at a;simp only[aI,decide_eq_true_eq]at a;exact a.2
theorem FN {P:Nat->Bool}{n k:Nat}(a:k<n)(h:P k=aQ):(aS n).any P=aQ:=bH.2 ⟨k,bQ.2 a,h⟩
theorem Dq {P:Nat->Bool}{n:Nat}(h:(aS n).any P=aj){k:Nat}(a:k<n):P k=aj:=by
 cases hp:P k with
 |false=>rfl
 |true=>rw[FN a hp]at h;cases h
theorem Lm (w:au)(v:aH)(root:Int)(N:List Nd)(ba:jJ w v N)(hF:yS N)(bb:∀n∈N,n.text.size<=70000)(bc:jM w)(bd:Ar N root.toNat):
  aU ax 89 #[.agg #[v,.int .i64 root]] w λe w'=>e=.returned (.int .i64 (o9 N root))/\aN w.heap.size w w':=by
 have B:=ae (And.intro hF (And.intro bb (And.intro bc bd)));have ci:=ae (show o9 N root=_ from rfl);obtain⟨R,hR⟩:=iC (o9 N root);rw[hR];unfold o9 at hR;have a:=ae hR;clear hR ci hF bb bc bd;have ao:jJ (w.alloc (.cells #[v,.int .i64 root] 117)) v N:=ba.below (iW w _);have Q:=ae (OC _ v N root ao);have cj:=ae ao;obtain⟨va,vc,rfl,be,ap⟩:=ba;by_cases hn:4096<N.length
 ·have aq:(4096:Int)<(N.length:Int):=iE
  have ck:decide ((N.length:Int)>4096)=aQ:=iq aq;have d:=ae (a.1.symm.trans (gY hn));have g:=(ah (aZ w (.cells #[.slice va N.length vc,.int .i64 root] 117)) 0).trans rfl;clear ap be
  as_aux_lemma=>
  go_enter bP,bI;go_wp2;refine aO (v:=.int .i64 7) (by simp only[results,aJ];go_simp) rfl ?_;exact⟨by rw[d.1],iW w _⟩
 have a:=ae ((gZ hn).symm.trans a.1);have aq:¬(4096:Int)<(N.length:Int):=iE
 have ck:decide ((N.length:Int)>4096)=aj:=iw aq;by_cases ar:N.length=0
 ·have cl:((N.length:Int)==0)=aQ:=by rw[ar];rfl
  have d:=ae (a.1.symm.trans (gY ar));have g:=(ah (aZ w (.cells #[.slice va N.length vc,.int .i64 root] 117)) 0).trans rfl;clear ap be
  as_aux_lemma=>
  go_enter bP,bI;go_wp2;refine aO (v:=.int .i64 3) (by simp only[results,aJ];go_simp) rfl ?_;exact⟨by rw[d.1],iW w _⟩
 have a:=ae ((gZ ar).symm.trans a.1);have cl:((N.length:Int)==0)=aj:=by rw[iy];omega
 have bf:0<N.length:=iE
 rcases ap with cm|⟨b,o,rfl,av⟩
 ·exfalso;rw[cm]at bf;exact aX _ bf
 have cn:=ae av;have aw:PLift ((w.alloc (.cells #[.slice (af ⟨b,o,ag⟩) N.length vc,.int .i64 root] 117)).heap[w.heap.size]?=af (.cells #[.slice (af ⟨b,o,ag⟩) N.length vc,.int .i64 root] 117)):=⟨aZ w _⟩;have bg:PLift (aN w.heap.size w (w.alloc (.cells #[.slice (af ⟨b,o,ag⟩) N.length vc,.int .i64 root] 117))):=⟨iW w _⟩;have S:PLift ((w.alloc (.cells #[.slice (af ⟨b,o,ag⟩) N.length vc,.int .i64 root] 117)).heap.size=w.heap.size+1):=⟨jl _ _⟩;cases y:vI N root with
 |false=>
  rw[y]at Q;have d:=ae (a.1.symm.trans (gY y));have g:=(ah aw.1 0).trans rfl;have m:=(ah aw.1 1).trans rfl;clear av
  as_aux_lemma=>
  go_enter bP,bI
  go_wp2_with(go_at_call 101;refine(Q.1).mono ?_;rintro e c ⟨rfl,p⟩;have r:=ae p;clear p)
  refine aO (v:=.int .i64 3) (by simp only[results,aJ];go_simp) rfl ?_;exact⟨by rw[d.1],bg.1.trans (r.1.mono (by have:=S.1;omega))⟩
 |true=>
 have a:=ae ((gZ (by rw[y];decide)).symm.trans a.1);rw[y]at Q;obtain⟨bh,co,bi⟩:=Ll y;obtain⟨rt,rfl⟩:=Int.eq_ofNat_of_zero_le bh;have bj:rt<N.length:=iE
 rw[Int.toNat_natCast]at a B;have q:=ae (And.intro bi bj)
 have cp:∀f:au,(Instr.makeSlice 168 (.int .i64 (N.length:Int)) (.int .i64 (N.length:Int))).run ax f=.ok (.slice (af ⟨f.heap.size,0,ag⟩) N.length N.length) (f.alloc (.cells (aP N.length (.bool aj)) 4)):=λf=>by rw[run_make_row' 168 4 (.bool aj) 1 Tryz.underlying168 D8 rfl .i64 .i64 N.length iE iE f,sD]
 clear ao av y bi bh co bj
 as_aux_lemma=>
 go_enter bP,bI
 as_aux_lemma=>
 go_upto_region 5 with(go_at_call 101;refine(Q.1).mono ?_;rintro e c ⟨rfl,p⟩;have r:=ae p;have aD:c.heap[w.heap.size]?=af (.cells #[.slice (af ⟨b,o,ag⟩) N.length vc,.int .i64 (rt:Nat)] 117):=by {rw[p.block _ (by have:=S.1;omega)];exact aw.1};have aE:=ae aD;have m:c.cell? ⟨w.heap.size,0,ag⟩=af (.slice (af ⟨b,o,ag⟩) N.length vc):=(ah aD 0).trans rfl;clear p aD)
 as_aux_lemma=>
 go_upto_region 6 with fail
 have bk:=ae (cj.1.below r.1);have bl:(c.alloc (.cells (aP N.length (.bool aj)) 4)).heap.size=c.heap.size+1:=jl _ _
 have bm:(c.alloc (.cells (aP N.length (.bool aj)) 4)).heap[c.heap.size]?=af (.cells ((aY N.length aj).map Value.bool).toArray 4):=by rw[aZ];simp
 have s:aN c.heap.size c (c.alloc (.cells (aP N.length (.bool aj)) 4)):=iW _ _;have T:PLift ((c.alloc (.cells (aP N.length (.bool aj)) 4)).heap[w.heap.size]?=af (.cells #[.slice (af ⟨b,o,ag⟩) N.length vc,.int .i64 (rt:Nat)] 117)):=⟨by rw[Lib.alloc_old _ _ _ (block_lt aE.1)];exact aE.1⟩;have aF:=ae (GY c (c.alloc (.cells (aP N.length (.bool aj)) 4)) (.slice (af ⟨b,o,ag⟩) N.length vc) N (rt:Nat) rt c.heap.size (aY N.length aj) bk.1 q.1.1 s (aA _) iH bm q.1.2);have aG:=ae bl;have z:=ae s;clear bl bm s m cp;generalize c.alloc (.cells (aP N.length (.bool aj)) 4)=bo at T aF aG z⊢;have g:bo.cell? ⟨w.heap.size,0,ag⟩=af (.slice (af ⟨b,o,ag⟩) N.length vc):=(ah T.1 0).trans rfl;have m:bo.cell? ⟨w.heap.size,1,ag⟩=af (.int .i64 (rt:Nat)):=(ah T.1 1).trans rfl
 as_aux_lemma=>
 go_upto_region 7 with(go_at_call 102;refine(aF.1).mono ?_;rintro e w3 ⟨rfl,bp,bq⟩;have br:=ae bp;have bs:=ae bq;clear bp bq)
 clear g m;have cq:w.heap.size<c.heap.size:=block_lt aE.1;have aL:PLift (w3.heap[w.heap.size]?=af (.cells #[.slice (af ⟨b,o,ag⟩) N.length vc,.int .i64 (rt:Nat)] 117)):=⟨by rw[br.1.block _ (by have:=aG.1;omega) (by intro e;injection e with e;omega)];exact T.1⟩;have bt:PLift (aN c.heap.size c w3):=⟨z.1.grown br.1 (by have:=aG.1;omega) (λk bv=>by injection bv with bv;omega)⟩;have cr:=ae (bk.1.below bt.1);have g:w3.cell? ⟨w.heap.size,0,ag⟩=af (.slice (af ⟨b,o,ag⟩) N.length vc):=(ah aL.1 0).trans rfl;clear cq
 as_aux_lemma=>
 go_wp2;have U:PLift (aN w.heap.size w w3):=⟨(bg.1.trans (r.1.mono (by have:=S.1;omega))).trans (bt.1.mono (aV (aV (by have:=S.1;omega) r.1.size) (aA _)))⟩;obtain⟨A,aM⟩:=iC (jR N (N.length+1) rt (aY N.length aj));have cs:PLift (∀i,i<N.length->w3.cell? ⟨c.heap.size,i,ag⟩=af (.bool (A.getD i aj))):=⟨λi hi=>by rw[Ac bs.1 (by rw[(vK N _ _ _).1];simpa using hi),aM]⟩;have bw:PLift (∀i,rV N rt i=(!(A.getD i aj)||!(uK qJ (N.getD i nd0)))):=⟨λi=>by unfold rV;rw[aM]⟩;clear g aF bs
 go_loopw [36] (λl wr=>∃i:Nat,l=.int .i64 i/\i<=N.length/\aN w3.heap.size w3 wr/\(aS i).any (rV N rt)=aj) (λl _=>N.length - (intOf l).toNat)
 case atStart=>exact⟨0,rfl,cZ _,bn _ _,rfl⟩
 case round=>
  as_aux_lemma=>
  obtain⟨i,rfl,hi,bx,bA⟩:=hrel;obtain⟨f,cv⟩:∃f:au,f=wr:=⟨_,rfl⟩;subst cv;have t:=ae bx;have aR:=ae bA;clear bx bA;by_cases j:i<N.length
  ·have cw:(i:Int)<(N.length:Int):=iE
   have bB:=iU t.1 (cs.1 i j);have cx:=λcy=>iU (iW f cy) bB
   have bE:=cn.1 i N[i] (az j);have a0:=B.1.2.1 N[i] (di j);have p:=bw.1 i;rw[show N.getD i nd0=N[i] by rw[aB,az j,aW]]at p;have V:=ae (λh:rV N rt i=aQ=>a.1.symm.trans (gY (FN j h)));have x:=ae j;generalize N[i]=n at bE a0 p;have u:=U.1.trans (t.1.mono U.1.size);obtain⟨W,l,bL,bM,bN,bO,bR,bS,bX⟩:=bE;have cP:=iU u bL;have cQ:=iU u bM;have cR:=iU u bN;have cS:=iU u bO;have cT:=iU u bR;have C:=u.trans ((iW f (.cells #[.int .i64 n.kind,.string n.text,.bool n.ord,W,l] 150)).mono u.size);have X:=ae (XZ (f.alloc (.cells #[.int .i64 n.kind,.string n.text,.bool n.ord,W,l] 150)) (.agg #[.int .i64 n.kind,.string n.text,.bool n.ord,W,l]) n ⟨W,l,rfl,bS.below C,bX.below C⟩ a0 (B.1.2.2.1.below C));have a1:=ae C;obtain⟨cU,b0,rfl,-,-⟩:=bS;obtain⟨cV,cW,rfl,-,-⟩:=bX;have r:=ae p;generalize A.getD i aj=mk at bB cx r;clear u bL bM bN bO bR C a0 p j
   as_aux_lemma=>
   cases mk with
   |false=>have d:=ae (V.1 (by rw[r.1];rfl));go_wp2;refine aO (v:=.int .i64 3) (by simp only[results,aJ];go_simp) rfl ?_;exact⟨by rw[d.1],a1.1⟩
   |true=>
    cases Y:uK qJ n with
    |false=>
     rw[Y]at X;have d:=ae (V.1 (by rw[r.1,Y];rfl))
     go_wp2_with(go_at_call 103;refine(X.1).mono ?_;rintro e cz ⟨rfl,D⟩;have a2:=ae D;clear D)
     refine aO (v:=.int .i64 3) (by simp only[results,aJ];go_simp) rfl ?_;exact⟨by rw[d.1],a1.1.trans (a2.1.mono a1.1.size)⟩
    |true=>
     rw[Y]at X;have E:=ae (show rV N rt i=aj by rw[r.1,Y];rfl)
     go_wp2_with(go_at_call 103;refine(X.1).mono ?_;rintro e cz ⟨rfl,D⟩;have a2:=ae D;clear D)
     go_roundw
     case rel=>exact⟨i+1,by go_num,by have:=x.1;omega,(t.1.alloc t.1.size _).trans (a2.1.mono (by rw[jl];have:=t.1.size;omega)),by rw[CU,aR.1,E.1];rfl⟩
     case measure=>have:=x.1;simp[intOf];omega
  ·obtain rfl:i=N.length:=iE
   have a3:=ae (U.1.trans (t.1.mono U.1.size));have Z:PLift (f.heap[w.heap.size]?=af (.cells #[.slice (af ⟨b,o,ag⟩) N.length vc,.int .i64 (rt:Nat)] 117)):=⟨by rw[t.1.block _ (block_lt aL.1)];exact aL.1⟩;have b1:=ae (cr.1.below t.1);have F:N.length<=4096:=iE;have cA:=ae (OO f (.slice (af ⟨b,o,ag⟩) N.length vc) N rt b1.1 q.1.1 q.1.2 F);have g:f.cell? ⟨w.heap.size,0,ag⟩=af (.slice (af ⟨b,o,ag⟩) N.length vc):=(ah Z.1 0).trans rfl;have m:f.cell? ⟨w.heap.size,1,ag⟩=af (.int .i64 (rt:Nat)):=(ah Z.1 1).trans rfl;have a:=ae ((gZ (by rw[aR.1];decide)).symm.trans a.1)
   as_aux_lemma=>
   go_upto_region 14 with(go_at_call 104;refine(cA.1).mono ?_;rintro e G ⟨rfl,b2,b3⟩;have aa:=ae b2;have cB:=ae b3;clear b2 b3)
   clear g m;have ab:PLift (G.heap[w.heap.size]?=af (.cells #[.slice (af ⟨b,o,ag⟩) N.length vc,.int .i64 (rt:Nat)] 117)):=⟨by rw[aa.1.block _ (block_lt Z.1)];exact Z.1⟩;have b4:=ae (b1.1.below aa.1);have cC:=ae (U0 G (.slice (af ⟨b,o,ag⟩) N.length vc) N (rt:Nat) b4.1 q.1.1 F);have g:G.cell? ⟨w.heap.size,0,ag⟩=af (.slice (af ⟨b,o,ag⟩) N.length vc):=(ah ab.1 0).trans rfl;have m:G.cell? ⟨w.heap.size,1,ag⟩=af (.int .i64 (rt:Nat)):=(ah ab.1 1).trans rfl
   as_aux_lemma=>
   go_wp2_with(go_at_call 105;refine(cC.1).mono ?_;rintro e I ⟨rfl,b5,b6⟩;have ac:=ae b5;have cD:=ae b6;clear b5 b6)
   have ad:PLift (I.heap[w.heap.size]?=af (.cells #[.slice (af ⟨b,o,ag⟩) N.length vc,.int .i64 (rt:Nat)] 117)):=⟨by rw[ac.1.block _ (block_lt ab.1)];exact ab.1⟩;have b7:=ae (b4.1.below ac.1);have cE:PLift (∀i,i<N.length->I.cell? ⟨f.heap.size+1,i,ag⟩=af (.int .i64 ((cntF N rt).getD i 0))):=⟨λi hi=>iU ac.1 (kJ cB.1 (by rw[Kt];exact hi))⟩;have cF:PLift (∀i,i<N.length->I.cell? ⟨G.heap.size+1,i,ag⟩=af (.bool ((tu N).getD i aj))):=⟨λi hi=>Ac cD.1 (by rw[Ku];exact hi)⟩;have J:PLift (aN w.heap.size w I):=⟨(a3.1.trans (aa.1.mono a3.1.size)).trans (ac.1.mono (aV a3.1.size aa.1.size))⟩;clear g m
   go_loopw [57] (λl wr=>∃i:Nat,l=.int .i64 i/\i<=N.length/\wr=I/\(aS i).any (tJ N rt)=aj) (λl _=>N.length - (intOf l).toNat)
   case atStart=>exact⟨0,rfl,cZ _,rfl,rfl⟩
   case round=>
    as_aux_lemma=>
    obtain⟨i,rfl,hi,cG,b8⟩:=hrel;obtain⟨b9,cH⟩:∃b9:au,b9=wr:=⟨_,rfl⟩;subst cH;subst cG;have ai:=ae b8;clear b8;by_cases j:i<N.length
    ·have cw:(i:Int)<(N.length:Int):=iE
     have b0:=cE.1 i j;have cI:=cF.1 i j;have s:tJ N rt i=((tu N).getD i aj&&!((cntF N rt).getD i 0==1)):=rfl;have V:=ae (λh:tJ N rt i=aQ=>a.1.symm.trans (gY (FN j h)));have x:=ae j;generalize(tu N).getD i aj=cJ at cI s;generalize(cntF N rt).getD i 0=ct at b0 s;have z:=ae s;clear j s;cases cJ with
     |false=>
      have E:=ae (show tJ N rt i=aj by rw[z.1];rfl)
      as_aux_lemma=>
      go_wp2;go_roundw
      case rel=>exact⟨i+1,by go_num,by have:=x.1;omega,trivial,by rw[CU,ai.1,E.1];rfl⟩
      case measure=>have:=x.1;simp[intOf];omega
     |true=>
      by_cases a4:ct=1
      ·subst a4
       have E:=ae (show tJ N rt i=aj by rw[z.1];rfl)
       as_aux_lemma=>
       go_wp2;go_roundw
       case rel=>exact⟨i+1,by go_num,by have:=x.1;omega,trivial,by rw[CU,ai.1,E.1];rfl⟩
       case measure=>have:=x.1;simp[intOf];omega
      ·have cK:(ct==1)=aj:=by rw[iy];exact a4
       have cX:(ct !=1)=aQ:=(by rw[bne_iff_ne];exact a4);have d:=ae (V.1 (by rw[z.1,cK];rfl))
       as_aux_lemma=>
       go_wp2;refine aO (v:=.int .i64 3) (by simp only[results,aJ];go_simp) rfl ?_;exact⟨by rw[d.1],J.1⟩
    ·obtain rfl:i=N.length:=iE
     have a:=ae ((gZ (by rw[ai.1];decide)).symm.trans a.1);have a5:∀i,i<N.length->rV N rt i=aj:=λi hi=>Dq aR.1 hi
     have ca:∀i,i<N.length->tJ N rt i=aj:=λi hi=>Dq ai.1 hi
     have a6:∀i,i<N.length->A.getD i aj=aQ/\uK qJ (N.getD i nd0)=aQ:=λi hi=>by have h:=a5 i hi;rw[bw.1 i,Bool.or_eq_false_iff,bY,bY]at h;exact h
     obtain⟨K,H,cb,cc,cd,ce⟩:=B.1.2.2.2 q.1.1 a5 ca;have ak:=ae (V4 _ (.slice (af ⟨b,o,ag⟩) N.length vc) N (rt:Nat) K H (N.length+1) b7.1 q.1.1 B.1.1 (X0 λi hi=>(a6 i hi).2) cb cc cd ce);obtain⟨inn,sizes,a7,cf,cg⟩:=Lj N rt q.1.1 F q.1.2 (λi hi=>by rw[aM];exact(a6 i hi).1);have a8:=ae (And.intro a7 (And.intro cf cg));rw[show qA N rt=(inn,sizes) by unfold qA;rw[a7];rfl]at a;simp only at a;have g:=(ah ad.1 0).trans rfl;have m:=(ah ad.1 1).trans rfl;have cL:=ae F;clear a5 ca a6 cb cc cd ce a7 cf cg F;cases al:Ai N (N.length+1)with
     |true=>
      rw[al]at ak;have d:=ae (a.1.symm.trans (gY al))
      as_aux_lemma=>
      go_wp2_with(go_at_call 106;refine(ak.1).mono ?_;rintro e L ⟨rfl,M⟩;have O:=ae M;clear M)
      refine aO (v:=.int .i64 8) (by simp only[results,aJ];go_simp) rfl ?_;exact⟨by rw[d.1],J.1.trans (O.1.mono J.1.size)⟩
     |false=>
      rw[al]at ak;have a:=ae ((gZ (by rw[al];decide)).symm.trans a.1)
      as_aux_lemma=>
      go_upto_region 22 with(go_at_call 106;refine(ak.1).mono ?_;rintro e L ⟨rfl,M⟩;have O:=ae M;clear M)
      clear g m;have ch:PLift (L.heap[w.heap.size]?=af (.cells #[.slice (af ⟨b,o,ag⟩) N.length vc,.int .i64 (rt:Nat)] 117)):=⟨by rw[O.1.block _ (block_lt ad.1)];exact ad.1⟩;have cM:=ae (b7.1.below O.1);have am:=ae (Kr L (.slice (af ⟨b,o,ag⟩) N.length vc) rt N inn sizes cM.1 q.1.1 cL.1 q.1.2 a8.1.1 a8.1.2.1 a8.1.2.2);generalize(uS N rt inn sizes).1 =dd at am a;generalize(uS N rt inn sizes).2 =cY at am;have an:=ae (J.1.trans (O.1.mono J.1.size));have g:L.cell? ⟨w.heap.size,0,ag⟩=af (.slice (af ⟨b,o,ag⟩) N.length vc):=(ah ch.1 0).trans rfl;have m:L.cell? ⟨w.heap.size,1,ag⟩=af (.int .i64 (rt:Nat)):=(ah ch.1 1).trans rfl;by_cases hdd:32<dd
      ·have cN:decide (dd>32)=aQ:=iq hdd
       have d:=ae (a.1.symm.trans (gY hdd))
       as_aux_lemma=>
       go_wp2_with(go_at_call 107;refine(am.1).mono ?_;rintro e cO ⟨rfl,P⟩;have a9:=ae P;clear P)
       refine aO (v:=.int .i64 5) (by simp only[results,aJ];go_simp) rfl ?_;exact⟨by rw[d.1],an.1.trans (a9.1.mono an.1.size)⟩
      ·have cN:decide (dd>32)=aj:=iw hdd
       have d:=ae (a.1.symm.trans (gZ hdd))
       as_aux_lemma=>
       go_wp2_with(go_at_call 107;refine(am.1).mono ?_;rintro e cO ⟨rfl,P⟩;have a9:=ae P;clear P)
       refine aO (v:=.int .i64 0) (by simp only[results,aJ];go_simp) rfl ?_;exact⟨by rw[d.1],an.1.trans (a9.1.mono an.1.size)⟩
end Go.Proofs.YthcalnnipjflkaaGreatDoor
namespace Go.Proofs.YthcalnnipjflkaaGreatDoor
open Go.RowKit Go.Sort
open Go.Lib hiding intOf
def V7 (lt:Int->Int->Bool)(d:Array Int)(n:Nat):Array Int:=pdq lt d 0 n (bitsLen n) aQ aQ
def nC (n:Nat):Array Int:=((aS n).map λi:Nat=>(i:Int)).toArray
def kW (l:List Int)(x:Int):Option Nat:=(l[x.toNat]?).map Int.toNat
def cO (c:Nat->Nat->Int):Option Nat->Option Nat->Int
 |some a,af b=>c a b
 |_,_=>0
def uX (c:Nat->Nat->Int)(n:Nd)(a b:Int):Int:=cO c (kW n.keys a) (kW n.keys b)
def jY (N:List Nd)(c:Nat->Nat->Int)(i:Nat):List Int:=
 if(N.getD i nd0).kind=10/\(N.getD i nd0).ord=aj then(V7 (ltOf (uX c (N.getD i nd0))) (nC (N.getD i nd0).items.length) (N.getD i nd0).items.length).toList
 else(nC (N.getD i nd0).items.length).toList
def rQ (c:Nat->Nat->Int)(x y:Nd)(p q:List Int)(k:Nat):Int:=
 if x.kind=10 then
  (if cO c (kW x.keys (p.getD k 0)) (kW y.keys (q.getD k 0))≠0 then cO c (kW x.keys (p.getD k 0)) (kW y.keys (q.getD k 0))
  else cO c (kW x.items (p.getD k 0)) (kW y.items (q.getD k 0)))
 else cO c (kW x.items (p.getD k 0)) (kW y.items (q.getD k 0))
def xK (g:Nat->Int)(n:Nat):Int:=match(aS n).find? (λk=>!(g k==0))with
 |some k=>g k
 |none=>0
theorem V8 {g:Nat->Int}{n k:Nat}(a:k<n)(b:∀j,j<k->g j=0)(h:g k≠0):xK g n=g k:=by
 unfold xK
 have:(aS n).find? (λk=>!(g k==0))=af k:=by rw[List.find?_range_eq_some];refine⟨by simp[h],bQ.2 a,λj c=>by simp[b j c]⟩
 rw[this]
theorem V9 {g:Nat->Int}{n:Nat}(a:∀j,j<n->g j=0):xK g n=0:=by
 unfold xK
 have:(aS n).find? (λk=>!(g k==0))=ag:=by rw[List.find?_eq_none];intro k b;simp[a k (bQ.1 b)]
 rw[this]
def bodyC (N:List Nd)(c:Nat->Nat->Int)(i j:Nat):Int:=
 if(N.getD i nd0).kind<(N.getD j nd0).kind then -1
 else if(N.getD i nd0).kind>(N.getD j nd0).kind then 1
 else if(N.getD i nd0).ord≠(N.getD j nd0).ord then(if(N.getD j nd0).ord=aQ then -1 else 1)
 else if yR (N.getD i nd0).kind (N.getD i nd0).text (N.getD j nd0).text≠0 then yR (N.getD i nd0).kind (N.getD i nd0).text (N.getD j nd0).text
 else if xK (rQ c (N.getD i nd0) (N.getD j nd0) (jY N c i) (jY N c j)) (min (jY N c i).length (jY N c j).length)≠0 then
  xK (rQ c (N.getD i nd0) (N.getD j nd0) (jY N c i) (jY N c j)) (min (jY N c i).length (jY N c j).length)
 else if(jY N c i).length<(jY N c j).length then -1
 else if(jY N c i).length>(jY N c j).length then 1 else 0
def pO (N:List Nd):Nat->Nat->Nat->Int
 |0,_,_=>0
 |f+1,i,j=>bodyC N (pO N f) i j
def Agree (N:List Nd)(i j:Nat)(c d:Nat->Nat->Int):Prop:=∀x∈(N.getD i nd0).keys++(N.getD i nd0).items++((N.getD j nd0).keys++(N.getD j nd0).items),∀y∈(N.getD i nd0).keys++(N.getD i nd0).items++((N.getD j nd0).keys++(N.getD j nd0).items),c x.toNat y.toNat=d x.toNat y.toNat
theorem Fh {c d:Nat->Nat->Int}{l m:List Int}(h:∀x∈l,∀y∈m,c x.toNat y.toNat=d x.toNat y.toNat)(a b:Int):cO c (kW l a) (kW m b)=cO d (kW l a) (kW m b):=by
 unfold kW;cases ha:l[a.toNat]? with
 |none=>rfl
 |some x=>
  cases e:m[b.toNat]? with
  |none=>rfl
  |some y=>exact h x (bC ha) y (bC e)
theorem J6 {N:List Nd}{i:Nat}{c d:Nat->Nat->Int}(h:∀x∈(N.getD i nd0).keys,∀y∈(N.getD i nd0).keys,c x.toNat y.toNat=d x.toNat y.toNat):jY N c i=jY N d i:=by unfold jY;rw[show uX c (N.getD i nd0)=uX d (N.getD i nd0)from by funext a b;exact Fh h a b]
theorem We {N:List Nd}{i j:Nat}{c d:Nat->Nat->Int}(h:Agree N i j c d):bodyC N c i j=bodyC N d i j:=by
 have e1:jY N c i=jY N d i:=J6 λx hx y hy=>h x (ay _ (ay _ hx)) y (ay _ (ay _ hy))
 have a:jY N c j=jY N d j:=J6 λx hx y hy=>h x (aK _ (ay _ hx)) y (aK _ (ay _ hy))
 have e3:rQ c (N.getD i nd0) (N.getD j nd0) (jY N d i) (jY N d j)=rQ d (N.getD i nd0) (N.getD j nd0) (jY N d i) (jY N d j):=by
  funext k
  unfold rQ;rw[Fh (l:=(N.getD i nd0).keys) (m:=(N.getD j nd0).keys) (λx hx y hy=>h x (ay _ (ay _ hx)) y (aK _ (ay _ hy))) ((jY N d i).getD k 0) ((jY N d j).getD k 0),Fh (l:=(N.getD i nd0).items) (m:=(N.getD j nd0).items) (λx hx y hy=>h x (ay _ (aK _ hx)) y (aK _ (aK _ hy))) ((jY N d i).getD k 0) ((jY N d j).getD k 0)]
 unfold bodyC;rw[e1,a,e3]
theorem J7 {N:List Nd}{K:Nat->Prop}{H:Nat->Nat}(a:uT N K H):∀f i j,K i->K j->H i<f->H j<f->pO N (f+1) i j=pO N f i j
 |0,_,_,_,_,h,_=>absurd h (aX _)
 |f+1,i,j,hi,b,c,d=>by
  show bodyC N (pO N (f+1)) i j=bodyC N (pO N f) i j
  have key:∀x∈(N.getD i nd0).keys++(N.getD i nd0).items++((N.getD j nd0).keys++(N.getD j nd0).items),K x.toNat/\H x.toNat<f:=λx hx=>by
   rcases List.mem_append.1 hx with h|h
   ·have:=(a i hi).2 x h;exact⟨this.1,iE⟩
   ·have:=(a j b).2 x h;exact⟨this.1,iE⟩
  exact We λx hx y hy=>J7 a f _ _ (key x hx).1 (key y hy).1 (key x hx).2 (key y hy).2
theorem Wh {N:List Nd}{K:Nat->Prop}{H:Nat->Nat}(a:uT N K H){F:Nat}{i j:Nat}(hi:K i)(b:K j)(c:H i<F)(d:H j<F):pO N F i j=bodyC N (pO N F) i j:=(J7 a F i j hi b c d).symm
theorem Wi (n:Nat):(nC n).size=n:=by simp[nC]
theorem Wj {n i:Nat}(hi:i<n):(nC n)[i]! =(i:Int):=by simp[nC,hi]
structure qp (l:List Int)(L:Nat):Prop where
 len:l.length=L
 pm:l.Perm (nC L).toList
structure CT (N:List Nd)(v:aH)(root:Int)(tb sr:Nat)(ent:Nat->List Int)(w0:au)(E:List aH)(X:au):Prop where
 nodes:jJ w0 v N
 below:aN w0.heap.size w0 X
 lo:w0.heap.size<=sr
 tab:TabAt X tb sr v root N.length E
 val:∀i,i<N.length->E.getD i jr=jr\/∃eb,E.getD i jr=.slice (af ⟨eb,0,ag⟩) (N.getD i nd0).items.length (N.getD i nd0).items.length/\
  X.heap[eb]?=af (.cells ((ent i).map (Value.int .i64)).toArray 3)/\qp (ent i) (N.getD i nd0).items.length/\∀x∈ent i,0<=x/\x<((N.getD i nd0).items.length:Int)
structure KT (sr:Nat)(E E':List aH)(X Y:au):Prop where
 g:X.grownBy Y (af sr)
 new:∀i,E'.getD i jr=E.getD i jr\/∃eb L c,E'.getD i jr=.slice (af ⟨eb,0,ag⟩) L c/\X.heap.size<=eb
theorem KT.refl (sr:Nat)(E:List aH)(X:au):KT sr E E X X:=⟨CZ (bn _ _) _,λ_=>.inl rfl⟩
theorem KT.trans {sr:Nat}{E F b:List aH}{X Y Z:au}(h:KT sr E F X Y)(k:KT sr F b Y Z):KT sr E b X Z:=⟨h.g.trans k.g,λi=>by
 rcases k.new i with a|⟨d,L,c,a,e⟩
 ·rw[a];exact h.new i
 ·exact .inr ⟨d,L,c,a,aV h.g.size e⟩⟩
theorem KT.below {sr:Nat}(E:List aH){X Y:au}(h:aN X.heap.size X Y):KT sr E E X Y:=⟨CZ h _,λ_=>.inl rfl⟩
section
variable {N:List Nd} {v:aH} {root:Int} {tb sr:Nat} {ent:Nat->List Int} {w0:au} {E:List aH} {X Y:au}
theorem CT.keep (h:CT N v root tb sr ent w0 E X)(a:aN X.heap.size X Y):CT N v root tb sr ent w0 E Y:=
 ⟨h.nodes,h.below.trans (a.mono h.below.size),h.lo,h.tab.below a,λi hi=>by
  rcases h.val i hi with b|⟨c,b,d,e⟩
  ·exact .inl b
  ·exact .inr ⟨c,b,Mix.lu a d,e⟩⟩
theorem CT.uniq {F:List aH}(h:CT N v root tb sr ent w0 E X)(k:CT N v root tb sr ent w0 F X):E=F:=by have a:=h.tab.row.symm.trans k.tab.row;injection a with a;injection a with a b c;exact List.toArray_inj a
theorem CT.Fq (h:CT N v root tb sr ent w0 E X):jJ X v N:=h.nodes.below h.below
def iY (N:List Nd)(v:aH)(root:Int)(tb sr:Nat)(ent:Nat->List Int)(w0:au)(X Y:au):Prop:=∀E,CT N v root tb sr ent w0 E X->∃a,CT N v root tb sr ent w0 a Y/\KT sr E a X Y
theorem iY.refl (X:au):iY N v root tb sr ent w0 X X:=λE h=>⟨E,h,KT.refl _ _ _⟩
theorem iY.trans {Z:au}(h:iY N v root tb sr ent w0 X Y)(k:iY N v root tb sr ent w0 Y Z):iY N v root tb sr ent w0 X Z:=λE a=>by obtain⟨b,c,d⟩:=h E a;obtain⟨F,e,f⟩:=k b c;exact⟨F,e,d.trans f⟩
theorem iY.below (h:aN X.heap.size X Y):iY N v root tb sr ent w0 X Y:=λE a=>⟨E,a.keep h,KT.below E h⟩
theorem iY.drew (X:au):iY N v root tb sr ent w0 X {X with drawn:=X.drawn+1}:=iY.below ⟨rfl,rfl,rfl,aA _,λ_ _=>rfl⟩
theorem iY.block (h:iY N v root tb sr ent w0 X Y)(b:CT N v root tb sr ent w0 E X){k:Nat}{o:Obj}(c:k≠sr)(a:X.heap[k]?=af o):Y.heap[k]?=af o:=by obtain⟨f,_,d⟩:=h E b;rw[d.g.block k (block_lt a) (by intro e;injection e with e;exact c e)];exact a
def pU (N:List Nd)(v:aH)(root:Int)(tb sr:Nat)(ent:Nat->List Int)(w0:au)(x y c:Int):Prop:=∀X E,CT N v root tb sr ent w0 E X->
 aU ax 111 #[.pointer (af ⟨tb,0,ag⟩),.int .i64 x,.pointer (af ⟨tb,0,ag⟩),.int .i64 y,.map ag] X λe Y=>e=.returned (.int .i64 c)/\∃a,CT N v root tb sr ent w0 a Y/\KT sr E a X Y
theorem WA (a b i o p nb no:Nat)(c:Int)(hi:i<N.length)(ha:a<(N.getD i nd0).keys.length)(q:b<(N.getD i nd0).keys.length){vc:Nat}(hv:v=.slice (af ⟨nb,no,ag⟩) N.length vc)
  (hc:pU N v root tb sr ent w0 ((N.getD i nd0).keys.getD a 0) ((N.getD i nd0).keys.getD b 0) c)(d:CT N v root tb sr ent w0 E X)
  (D:X.heap[o]?=af (.cells #[.pointer (af ⟨tb,0,ag⟩)] 138))(F:X.heap[p]?=af (.cells #[.pointer (af ⟨nb,no+i*5,ag⟩)] 154))(M:o≠sr)(O:p≠sr):
  aU ax 110 #[.int .i64 (a:Nat),.int .i64 (b:Nat),.pointer (af ⟨o,0,ag⟩),.pointer (af ⟨p,0,ag⟩)] X λe Y=>e=.returned (.int .i64 c)/\∃f,CT N v root tb sr ent w0 f Y/\KT sr E f X Y:=by
 have r:=ae d;subst hv;obtain⟨va,am,e,an,P⟩:=d.nodes;cases e;rcases P with u|⟨ao,ap,Q,G⟩
 ·exfalso;rw[u]at hi;exact aX _ hi
 cases Q;have H:=G i N[i] (az hi);rw[show N.getD i nd0=N[i] by rw[aB,az hi,aW]]at ha q hc;generalize N[i]=n at H ha q hc;obtain⟨aq,ar,I,R,S,J,T,U,V⟩:=H;have av:nb<w0.heap.size:=World.block_lt_of_cell? w0 _ I;have aw:nb≠sr:=by have:=d.lo;omega
 obtain⟨aD,W,rfl,aa,ab⟩:=U;rcases ab with u|⟨s,lo,rfl,K⟩
 ·exfalso;rw[u]at ha;exact aX _ ha
 have A:∀j,j<n.keys.length->w0.cell? ⟨s,lo+j,ag⟩=af (.int .i64 (n.keys.getD j 0)):=λj ac=>K j _ (by rw[aB,az ac,aW])
 have B:=A a ha;have C:=A b q;obtain⟨x,hx⟩:=iC (n.keys.getD a 0);obtain⟨y,hy⟩:=iC (n.keys.getD b 0);rw[hx]at B hc;rw[hy]at C hc;have aE:(a:Int)<(n.keys.length:Int):=iE
 have aG:(b:Int)<(n.keys.length:Int):=iE
 have ad:=ae hc
 have g:PLift (∀Z,iY N (.slice (af ⟨nb,no,ag⟩) N.length vc) root tb sr ent w0 X Z->(∃f,CT N (.slice (af ⟨nb,no,ag⟩) N.length vc) root tb sr ent w0 f Z)/\Z.cell? ⟨o,0,ag⟩=af (.pointer (af ⟨tb,0,ag⟩))/\Z.cell? ⟨p,0,ag⟩=af (.pointer (af ⟨nb,no+i*5,ag⟩))/\
   Z.cell? ⟨nb,no+i*5+3,ag⟩=af (.slice (af ⟨s,lo,ag⟩) n.keys.length W)/\Z.cell? ⟨s,lo+a,ag⟩=af (.int .i64 x)/\Z.cell? ⟨s,lo+b,ag⟩=af (.int .i64 y)):=⟨λZ l=>by
  obtain⟨f,t,aL⟩:=l E r.1;exact⟨⟨f,t⟩,(ah (l.block r.1 M D) 0).trans rfl,(ah (l.block r.1 O F) 0).trans rfl,iU t.below J,iU t.below B,iU t.below C⟩⟩
 clear d G I R S J T K aa V A B C ha q hx hy D F hc hi
 as_aux_lemma=>
 go_enter Tryz.func110,Tryz.ntmps110
 go_upto_region 1 with fail
 refine Mix.qQ (aF:=?_) (iY N (.slice (af ⟨nb,no,ag⟩) N.length vc) root tb sr ent w0) iY.refl (λ_ _ _ h k=>h.trans k) (iY.drew X) iF iF iF iF iF ?_ ?_;rotate_left 1
 ·intro ρ m
  haveI:Nonempty (Mix.iZ (iY N (.slice (af ⟨nb,no,ag⟩) N.length vc) root tb sr ent w0) ρ):=⟨⟨ρ,iY.refl ρ⟩⟩;have aM:=λz:Mix.iZ (iY N (.slice (af ⟨nb,no,ag⟩) N.length vc) root tb sr ent w0) ρ=>(g.1 z.w (m.trans z.h)).2.1
  have aR:=λz:Mix.iZ (iY N (.slice (af ⟨nb,no,ag⟩) N.length vc) root tb sr ent w0) ρ=>(g.1 z.w (m.trans z.h)).2.2.1
  have a0:=λz:Mix.iZ (iY N (.slice (af ⟨nb,no,ag⟩) N.length vc) root tb sr ent w0) ρ=>(g.1 z.w (m.trans z.h)).2.2.2.1
  have f7:=λz:Mix.iZ (iY N (.slice (af ⟨nb,no,ag⟩) N.length vc) root tb sr ent w0) ρ=>(g.1 z.w (m.trans z.h)).2.2.2.2.1
  have f8:=λz:Mix.iZ (iY N (.slice (af ⟨nb,no,ag⟩) N.length vc) root tb sr ent w0) ρ=>(g.1 z.w (m.trans z.h)).2.2.2.2.2
  have ai:=ae (λz:Mix.iZ (iY N (.slice (af ⟨nb,no,ag⟩) N.length vc) root tb sr ent w0) ρ=>show aU ax 111 #[.pointer (af ⟨tb,0,ag⟩),.int .i64 x,.pointer (af ⟨tb,0,ag⟩),.int .i64 y,.map ag] z.w (λe W'=>e=.returned (.int .i64 c)/\iY N (.slice (af ⟨nb,no,ag⟩) N.length vc) root tb sr ent w0 z.w W')from by
   obtain⟨ak,L⟩:=(g.1 z.w (m.trans z.h)).1
   exact(ad.1 z.w ak L).mono λe W' h=>⟨h.1,λE d=>by obtain rfl:=d.uniq L;exact h.2⟩)
  repeat(go_big_quiet_step((go_at_call 111;exact Mix.iZ.calls (λ_ _ _ h k=>h.trans k) (ai.1 _))))
  apply dh;exact rfl
 intro Z l;have al:=ae (l E r.1);clear l;go_wp2;go_ret;exact⟨rfl,al.1⟩
end
end Go.Proofs.YthcalnnipjflkaaGreatDoor
namespace Go.Proofs.YthcalnnipjflkaaGreatDoor
open Go.RowKit
open Go.Lib hiding intOf
theorem Yc {s:ByteArray}{i:Nat}(h:i<s.size):s.get! i=s[i]:=get_at s i h
theorem Yd (s:ByteArray)(i:Nat)(h:i<s.size)(l:128<=(s[i]'h).toNat):
  1<=(aC s i).2 /\(∀j,j<(aC s i).2 ->i+j<s.size/\128<=(s.get! (i+j)).toNat)/\bT ((aC s i).1 :Nat)=aQ/\128<=(aC s i).1 :=by
 have g0:s.get! (i+0)=s[i]:=get_at s i h;have hn:¬(s[i]'h).toNat<128:=iE
 have c:∀n,n<=1->∀j,j<n->i+j<s.size/\128<=(s.get! (i+j)).toNat:=λn hn j d=>by
  obtain rfl:j=0:=iE
  exact⟨h,by rw[g0];exact l⟩
 have e:∀k,(decide (i+k<s.size)&&(s.get! (i+k)).toNat/64==2)=aQ->i+k<s.size/\128<=(s.get! (i+k)).toNat:=λk m=>by simp only[aI,decide_eq_true_eq,beq_iff_eq]at m;omega
 have bl:∀k,(s.get! k).toNat<256:=λk=>(s.get! k).toNat_lt
 unfold aC;simp only[g0,hn,if_false];split
 ·rename_i a
  simp only[aI,beq_iff_eq]at a;have f:=e 1 (by simpa using a.2);split
  ·rename_i b
   refine⟨by show 1<=2;omega,λj d=>?_,?_,b⟩
   ·match j,d with
    |0,_=>exact c 1 (aA _) 0 iG
    |1,_=>exact f
   ·simp only[dw,validRune,decide_eq_true_eq]
    have:=bl (i+1);omega
  ·exact⟨iG,c 1 (aA _),iG,iG⟩
 split
 ·rename_i a
  simp only[aI,beq_iff_eq]at a;have f:=e 1 (by simpa using a.1.2);have g:=e 2 (by simpa using a.2);split
  ·rename_i b
   simp only[aI,decide_eq_true_eq]at b;refine⟨by show 1<=3;omega,λj d=>?_,b.2,by have:=b.1;show 128<=_;omega⟩
   match j,d with
   |0,_=>exact c 1 (aA _) 0 iG
   |1,_=>exact f
   |2,_=>exact g
  ·exact⟨iG,c 1 (aA _),iG,iG⟩
 split
 ·rename_i a
  simp only[aI,beq_iff_eq]at a;have f:=e 1 (by simpa using a.1.1.2);have g:=e 2 (by simpa using a.1.2);have o:=e 3 (by simpa using a.2);split
  ·rename_i b
   simp only[aI,decide_eq_true_eq]at b;refine⟨by show 1<=4;omega,λj d=>?_,b.2,by have:=b.1;show 128<=_;omega⟩
   match j,d with
   |0,_=>exact c 1 (aA _) 0 iG
   |1,_=>exact f
   |2,_=>exact g
   |3,_=>exact o
  ·exact⟨iG,c 1 (aA _),iG,iG⟩
 ·exact⟨iG,c 1 (aA _),iG,iG⟩
theorem Ye (r:Int)(hv:bT r=aQ)(w:au):aU ax 130 #[.int .i32 r] w λe w'=>e=.returned (.bool aQ)/\w'=w:=by
 rw[dw]at hv;unfold validRune at hv;have hv:=of_decide_eq_true hv;by_cases h:r<55296
 ·have a:0<=r:=iE
  go_enter dA,dn;go_wp2;go_ret;exact⟨rfl,rfl⟩
 ·have a:0<=r:=iE
  have b:57343<r:=iE
  have c:r<=1114111:=iE
  go_enter dA,dn;go_wp2;go_ret;exact⟨rfl,rfl⟩
theorem Yf (a:ByteArray)(ha:∀b∈a.data.toList,b.toNat<128)(w:au):aU ax 113 #[.string a,.int .i32 65533] w λe w'=>e=.returned (.int .i64 (-1))/\aN w.heap.size w w':=by
 have d:=ae ha;clear ha;go_enter bZ,bV;go_wp2
 go_loopg [5,6] a.size (λg _ _ f=>∃i:Nat,i+g=a.size/\f=w.iter a i)
 case atStart=>exact⟨0,iE,rfl⟩
 case round=>
  obtain⟨i,j,rfl⟩:=hrel;cases gk with
  |zero=>
   obtain rfl:i=a.size:=iE
   have c:=run_next_end (P:=ax) w a a.size;go_wp2;go_ret;exact⟨rfl,(bn _ _).alloc (aA _) _⟩
  |succ g=>
   have hi:i<a.size:=iE;obtain⟨x,hx⟩:∃x:UInt8,a[i]'hi=x:=⟨_,rfl⟩
   have h:x.toNat<128:=d.1 x (by rw[<-hx];exact bJ (xs:=a.data) hi);have c:=λty=>run_next_ascii (P:=ax) w a i ty hi (by rw[hx];exact h)
   rw[hx]at c;have k:((x.toNat:Int)==65533)=aj:=(by rw[iy];omega);clear hx;go_wp2
   go_roundg g
   case measure=>omega
   case rel=>exact⟨i+1,iE,rfl⟩
theorem Yg (a:ByteArray)(ha:∀b∈a.data.toList,b.toNat<128)(hs:a.size<=100)(r:Int)(hv:bT r=aQ)(g:128<=r)(l:r≠65533)(w:au):
  aU ax 113 #[.string a,.int .i32 r] w λe w'=>e=.returned (.int .i64 (-1))/\aN w.heap.size w w':=by
 obtain⟨e1,f,e3⟩:=encode_facts r hv g;have n:=ae hv;have D:0<=r:=iE
 have E:¬r<128:=iE
 have F:(r==65533)=aj:=by rw[iy];exact l
 have hcv:∀c,(convert 21 9 (.int .i32 r)).run ax c=.ok (.string (dF r)) c:=λc=>run_convert_int_string c _ _ _ _ rfl rfl
 have o:=ae λc=>Ye r n.1 c
 generalize dF r=rs at e1 f e3 hcv;have i:rs.size - 1<rs.size:=iE
 have e3:=e3 i;have p:(rs.size:Int) - 1=((rs.size - 1:Nat):Int):=iE
 have q:rs.size<=4:=f;obtain⟨m,hm⟩:=iC (rs.size - 1);have s:rs.size=m+1:=iE
 have G:(rs.size:Int) - 1=(m:Nat):=iE
 have H:(m:Int)<(rs.size:Int):=iE
 have t:m<rs.size:=iE
 obtain⟨y,hy⟩:∃y:UInt8,rs[m]'t=y:=⟨_,rfl⟩
 have u:128<=y.toNat:=by subst hm;rw[<-hy];exact e3
 have j:=ae ha;have I:m<=3:=iE
 clear e3 e1 f p i ha hv g q s hm
 as_aux_lemma=>
 go_enter bZ,bV
 go_wp2_with(go_at_call 130;refine(o.1 _).mono ?_;rintro e v ⟨rfl,rfl⟩)
 go_step3
 go_wp2
 go_loopw [9,10] (λz A wr=>z=.int .i64 (m:Nat)/\A=.int .i64 0/\wr=v) (λ_ _ _=>0)
 case atStart=>exact⟨rfl,rfl,rfl⟩
 case round=>
  obtain⟨rfl,rfl,rfl⟩:=hrel;by_cases hc:m<a.size
  ·have B:(m:Int)<(a.size:Int):=iE
   obtain⟨x,hx⟩:∃x:UInt8,a[m]'hc=x:=⟨_,rfl⟩
   have J:x.toNat<128:=j.1 x (by rw[<-hx];exact bJ (xs:=a.data) hc);have K:((x.toNat:Int)==(y.toNat:Int))=aj:=(by rw[iy];omega);have L:((x.toNat:Int)!=(y.toNat:Int))=aQ:=(by rw[bne_iff_ne];omega);have M:(m:Int)+1<=(a.size:Int):=iE;have N:m+1<=a.size:=iE
   as_aux_lemma=>
   go_wp2
   go_step3
   go_wp2
   go_quiet (fail)
   go_wp2
   repeat(apply wp_seq)
   have k:=ae (λW:au=>Tryz.strings_IndexByte (a.extract (m+1) a.size) (y.toNat:Nat) W)
   have C:indexByte (a.extract (m+1) a.size).data.toList ((y.toNat:Int)).toNat.toUInt8= -1:=by rw[<-firstIdx_eq];refine firstIdx_ascii a _ _ _ j.1 ?_;simpa using u
   rw[C]at k;refine Mix.mM (aF:=?_) iF iF iF iF iF ?_ ?_;rotate_left 1
   ·intro ρ O
    repeat(go_big_quiet_step((go_at_call 47;exact iR.Grow.calls ((k.1 _).mono λe w' h=>⟨h.1,h.2 ▸bn _ _⟩))))
    refine dh ?_;exact rfl
   intro W d;go_wp2;simp only[Exit.noGoto_ret];go_wp2;simp only[Exit.noGoto_ret];go_wp2;go_ret;exact⟨rfl,d.os,d.tape,d.output,d.size,d.block⟩
  ·have B:¬(m:Int)<(a.size:Int):=iE
   go_wp2;go_ret;exact⟨rfl,bn _ _⟩
theorem Yh (s:ByteArray)(r:Int)(w:au)(a:0<=r)(b:r<128):
  aU ax 113 #[.string s,.int .i32 r] w λe w'=>e=.returned (.int .i64 (bF s.data.toList r.toNat.toUInt8))/\w'=w:=by
 go_enter bZ,bV
 go_wp2_with(go_at_call 47;refine(Tryz.strings_IndexByte s r w).mono ?_;rintro e c ⟨rfl,rfl⟩)
 go_ret;exact⟨rfl,rfl⟩
theorem Yi (a:ByteArray)(ha:∀b∈a.data.toList,b.toNat<128)(hs:a.size<=100)(r:Int)(hv:bT r=aQ)(c:128<=r)(w:au):
  aU ax 113 #[.string a,.int .i32 r] w λe w'=>e=.returned (.int .i64 (-1))/\aN w.heap.size w w':=by
 by_cases h:r=65533
 ·subst h;exact Yf a ha w
 ·exact Yg a ha hs r hv c h w
theorem Yj (s a:ByteArray)(w:au)(Y:2<=a.size)(hs:a.size<=100)(Z:s.size<=8)(ha:∀b∈a.data.toList,b.toNat<128):
  aU ax 98 #[.string s,.string a] w λe w'=>e=.returned (.int .i64 (aT s.data.toList a.data.toList))/\aN w.heap.size w w':=by
 have z:=ae ha;clear ha
 have aa:a.toList.isEmpty=aj:=by
  rw[Lib.toList_data];cases h:a.data.toList with
  |nil=>have:=dG a;rw[h,List.length_nil]at this;omega
  |cons _ _=>rfl
 have ab:((a.size:Int)==1)=aj:=iy.2 iE;have K:decide ((8:Int)<(s.size:Int))=aj:=iw iE
 have L:=ae λW:au=>(show aU ax 114 #[.int .i64 (s.size:Nat)] W (λe w'=>e=.returned (.bool aj)/\w'=W)from by
  have ac:¬(8:Int)<(s.size:Int):=iE
  go_enter Tryz.func114,Tryz.ntmps114;go_wp2;go_ret;exact⟨by rw[<-K];rfl,rfl⟩)
 as_aux_lemma=>
 go_enter Tryz.func98,Tryz.ntmps98
 go_wp2_with(go_at_call 114;refine(L.1 _).mono ?_;rintro e c ⟨rfl,rfl⟩)
 go_loopg [9,10] s.size (λg _ _ A=>∃i:Nat,i+g=s.size/\A.heap[c.heap.size]?=af (.stringIter s i)/\aN c.heap.size c A/\dK s.data.toList a.data.toList i)
 case atStart=>exact⟨0,iE,World.iter_heap _ _ _,(bn _ _).alloc (aA _) _,Lib.NoAny.zero _ _⟩
 case round=>
  obtain⟨i,ad,hit,f,B⟩:=hrel;obtain⟨d,M⟩:∃d:au,d=wr:=⟨_,rfl⟩;subst M;have l:=ae (And.intro B (And.intro f hit));clear B f;cases gk with
  |zero=>
   obtain rfl:i=s.size:=iE
   have n:=λty=>run_next_end_at (P:=ax) d c.heap.size s s.size ty hit (Nat.lt_irrefl _)
   clear hit
   as_aux_lemma=>
   go_wp2;go_ret;exact⟨by rw[Lib.indexAny_none (by rw[<-dG];exact l.1.1)];rfl,l.1.2.1⟩
  |succ g=>
   have hi:i<s.size:=iE;obtain⟨x,hx⟩:∃x:UInt8,s[i]'hi=x:=⟨_,rfl⟩
   have v:s.data.toList[i]?=af x:=(by rw[<-hx];exact bG s i hi);have C:=ae v;have N:=ae (show c.heap.size<d.heap.size from block_lt hit);by_cases O:x.toNat<128
   ·have n:=λty=>run_next_ascii_at (P:=ax) d c.heap.size s i ty hit hi (by rw[hx];exact O)
    rw[hx]at n;have o:=ae (dB (k:=c.heap.size) l.1.2.1 (aA _) s (i+1));have m:=ae (dH d c.heap.size s i (i+1) hit);clear v hx hit;have p:=Lib.contains_iff_indexByte a.data.toList x;have Q:((x.toNat:Int)).toNat.toUInt8=x:=iH;have q:=ae λW:au=>Yh a (x.toNat:Nat) W iE iE
    rw[Q]at q;generalize d.iterAt c.heap.size s (i+1)=R at n o m;cases r:a.data.toList.contains x
    ·rw[r]at p
     have ai:¬((0:Int)<=bF a.data.toList x):=of_decide_eq_false p.symm;clear p
     as_aux_lemma=>
     go_wp2_with(go_at_call 113;refine(q.1 _).mono ?_;rintro e D ⟨rfl,rfl⟩)
     go_roundg g
     case measure=>omega
     case rel=>exact⟨i+1,iE,m.1,o.1,l.1.1.succ C.1 r⟩
    ·rw[r]at p
     have ak:(0:Int)<=bF a.data.toList x:=of_decide_eq_true p.symm;clear p
     as_aux_lemma=>
     go_wp2_with(go_at_call 113;refine(q.1 _).mono ?_;rintro e D ⟨rfl,rfl⟩)
     go_ret;exact⟨by rw[Lib.indexAny_hit l.1.1 C.1 r];rfl,o.1⟩
   ·have E:128<=(s[i]'hi).toNat:=by rw[hx];omega
    obtain⟨S,y,F,T⟩:=Yd s i hi E;have n:=λty=>run_next_any_at (P:=ax) d c.heap.size s i ty hit hi
    have o:=ae (dB (k:=c.heap.size) l.1.2.1 (aA _) s (i+(aC s i).2));have m:=ae (dH d c.heap.size s i (i+(aC s i).2) hit)
    have t:PLift (i+(aC s i).2 <=s.size/\dK s.data.toList a.data.toList (i+(aC s i).2)):=⟨by
     refine⟨by have:=(y ((aC s i).2 - 1) iE).1;omega,λj b al f=>?_⟩;by_cases U:j<i
     ·exact l.1.1 j b U f
     ·have u:=y (j - i) iE
      rw[show i+(j - i)=j by omega]at u;have V:s.data.toList[j]?=af s[j]:=bG s j u.1;rw[V]at f;have f:=Option.some.inj f;rw[Yc u.1,f]at u;cases X:a.data.toList.contains b with
      |false=>rfl
      |true=>
       have:=z.1 b (List.contains_iff_mem.1 X)
       omega⟩
    have q:=ae λW:au=>Yi a z.1 hs ((aC s i).1 :Nat) F iE W
    have hw:c.heap.size<=d.heap.size:=Nat.le_of_lt N.1;have G:=ae (iterAt_size d c.heap.size s (i+(aC s i).2));clear v hx hit y F E;generalize d.iterAt c.heap.size s (i+(aC s i).2)=R at n o m G;generalize(aC s i).1 =am at n q T;generalize(aC s i).2 =H at m t S
    as_aux_lemma=>
    go_wp2_with(go_at_call 113;refine(q.1 _).mono ?_;rintro e D ⟨rfl,I⟩;have J:=ae I;clear I)
    go_roundg (s.size - (i+H))
    case measure=>have:=t.1.1;omega
    case rel=>exact⟨i+H,by have:=t.1.1;omega,by rw[J.1.block _ (block_lt m.1)];exact m.1,o.1.trans (J.1.mono (by have:=G.1;omega)),t.1.2⟩
theorem Lp (s a:ByteArray)(w:au)(c:2<=a.size)(hc:a.size<=100)(hs:s.size<=1073741824)(ha:∀b∈a.data.toList,b.toNat<128):
  aU ax 98 #[.string s,.string a] w λe w'=>e=.returned (.int .i64 (aT s.data.toList a.data.toList))/\aN w.heap.size w w':=by
 have d:(Tryz.prog.info? (Tryz.lays153_ren.t 116)).map (λi=>(i.zero,i.size))=af (af (.agg (aP 256 (.bool aj))),256):=iF
 by_cases f:s.size<=8
 ·exact Yj s a w c hc f ha
 ·refine(Any.strings_IndexAny_long Tryz.lays153 (dC d).1 (dC d).2 s a w c iE iE iE (λj b g=>ha b (bC g))).mono λe w' ⟨h,c⟩=>⟨h,?_⟩
  rw[c];exact((bn _ _).alloc (aA _) _).alloc iH _
theorem Yk (s a:ByteArray)(w:au)(c:2<=a.size)(hc:a.size<=100)(hs:s.size<=1073741824)(ha:∀b∈a.data.toList,b.toNat<128):
  aU ax 99 #[.string s,.string a] w λe w'=>e=.returned (.bool (decide (0<=aT s.data.toList a.data.toList)))/\aN w.heap.size w w':=by
 have d:=ae (Lp s a w c hc hs ha);clear c hc hs ha;generalize aT s.data.toList a.data.toList=n at d;have hd:decide (n≥0)=decide (0<=n):=rfl
 as_aux_lemma=>
 go_enter Tryz.func99,Tryz.ntmps99
 go_wp2_with(go_at_call 98;refine(d.1).mono ?_;rintro e h ⟨rfl,f⟩;have g:=ae f;clear f)
 go_ret;exact⟨rfl,g.1⟩
def tK:List PanicEntry:=[{v:=.iface 132 (.agg #[]),recovered:=aj}]
structure PK (pb:Nat)(nv lL:aH)(X Y:au):Prop where
 os:Y.os=X.os
 tape:Y.tape=X.tape
 output:Y.output=X.output
 size:X.heap.size<=Y.heap.size
 block:∀k,k<X.heap.size->k≠pb->nv.ownBlock≠af k->Y.heap[k]?=X.heap[k]?
 own:∀g,lL.ownBlock=af g->nv.ownBlock=af g\/X.heap.size<=g
theorem PK.below {pb:Nat}{nv:aH}{X Y:au}(h:aN X.heap.size X Y):PK pb nv nv X Y:=⟨h.os,h.tape,h.output,h.size,λk a _ _=>h.block k a,λ_ h=>.inl h⟩
theorem PK.trans {pb:Nat}{b c d:aH}{X Y Z:au}(h:PK pb b c X Y)(k:PK pb c d Y Z):PK pb b d X Z where
 os:=k.os.trans h.os
 tape:=k.tape.trans h.tape
 output:=k.output.trans h.output
 size:=aV h.size k.size
 block:=λq f a i=>by
  rw[k.block q (Nat.lt_of_lt_of_le f h.size) a (λe=>by
   rcases h.own q e with j|j
   ·exact i j
   ·omega)]
  exact h.block q f a i
 own:=λg l=>by
  rcases k.own g l with a|a
  ·exact h.own g a
  ·exact .inr (aV h.size a)
theorem PK.same {pb:Nat}{nv:aH}{X Y:au}(h:Same X Y):PK pb nv nv X Y:=PK.below (h.below _)
theorem jw.same {X Y:au}{pb:Nat}{s:ByteArray}{p:Nat}{nv:aH}(h:jw X pb s p nv)(k:Same X Y):jw Y pb s p nv:=by unfold jw at*;rw[k.heap];exact h
theorem jw.grow {X Y:au}{pb:Nat}{s:ByteArray}{p:Nat}{nv:aH}(h:jw X pb s p nv)(k:aN X.heap.size X Y):jw Y pb s p nv:=by unfold jw at*;rw[k.block _ (block_lt h)];exact h
theorem jw.move {X:au}{pb:Nat}{s:ByteArray}{p:Nat}{nv:aH}(h:jw X pb s p nv)(q:Nat):jw (X.setCell ⟨pb,1,ag⟩ (.int .i64 (q:Nat))) pb s q nv:=by unfold jw at*;simp[World.setCell,Array.getElem?_modify,h]
theorem PK.move {X:au}{pb:Nat}{s:ByteArray}{p:Nat}{nv a:aH}(_:jw X pb s p nv)(v:aH)(o:Nat):PK pb a a X (X.setCell ⟨pb,o,ag⟩ v):=
 ⟨rfl,rfl,rfl,by simp[World.setCell],λk _ b _=>Below.heap_setCell _ _ _ _ (λe=>b e),λ_ h=>.inl h⟩
theorem PK.Au {pb:Nat}{nv a:aH}{W X Y:au}(h:PK pb nv a W X)(k:aN W.heap.size X Y):PK pb nv a W Y:=
 ⟨k.os.trans h.os,k.tape.trans h.tape,k.output.trans h.output,aV h.size k.size,λq b c d=>by rw[k.block q b];exact h.block q b c d,h.own⟩
theorem jw.FP {X Y:au}{pb B:Nat}{s:ByteArray}{p:Nat}{nv:aH}(h:jw X pb s p nv)(hp:pb<B)(k:aN B X Y):jw Y pb s p nv:=by unfold jw at*;rw[k.block _ hp];exact h
theorem jw.moved {X Z:au}{pb:Nat}{s:ByteArray}{p r:Nat}{nv:aH}{q:Int}(h:jw X pb s p nv)(a:q=((r:Nat):Int))(k:Same X Z):jw (Z.setCell ⟨pb,1,ag⟩ (.int .i64 q)) pb s r nv:=by subst a;exact(h.same k).move _
theorem PK.moved {X Z:au}{pb:Nat}{s:ByteArray}{p:Nat}{nv a v:aH}{o:Nat}(h:jw X pb s p nv)(k:Same X Z):PK pb a a X (Z.setCell ⟨pb,o,ag⟩ v):=
 (PK.same k).trans (PK.move (h.same k) _ _)
abbrev PS (pb:Nat)(X Y:au):Prop:=PK pb (.slice ag 0 0) (.slice ag 0 0) X Y
section
variable {w:au} {pb:Nat} {s:ByteArray} {pos:Nat} {nv:aH}
theorem FQ (hp:jw w pb s pos nv):aU ax 82 #[.pointer (af ⟨pb,0,ag⟩)] w λe w'=>e=.returned (.int .u8 (lI s pos))/\Same w w':=next_any w pb s pos nv hp
theorem Aw (c:UInt8)(hp:jw w pb s pos nv)(hs:s.size<=65536)(b:pos<s.size)(hc:s[pos]=c):
  aU ax 86 #[.pointer (af ⟨pb,0,ag⟩),.int .u8 c.toNat] w λe w'=>e=.returned (.tuple #[])/\jw w' pb s (pos+1) nv/\PS pb w w':=by
 refine(Wv w pb s pos nv c hp hs b hc).mono ?_;rintro e w' ⟨he,d,a,rfl⟩;exact⟨he,(hp.same a).move _,(PK.same a).trans (PK.move (hp.same a) _ _)⟩
theorem Dt (c:UInt8)(hp:jw w pb s pos nv)(hs:s.size<=65536)(hc:∀h:pos<s.size,s[pos]≠c):
  aU ax 86 #[.pointer (af ⟨pb,0,ag⟩),.int .u8 c.toNat] w λe w'=>e=.panicked tK/\Same w w':=by
 have f:w.cell? ⟨pb,0,ag⟩=af (.string s):=(ah hp 0).trans rfl;have g:w.cell? ⟨pb,1,ag⟩=af (.int .i64 pos):=(ah hp 1).trans rfl;clear hp;by_cases h:pos<s.size
 ·have a:(pos:Int)<(s.size:Int):=iE
  have b:decide ((pos:Int)≥(s.size:Int))=aj:=by simpa using h
  have d:decide ((s.size:Int)<=(pos:Int))=aj:=by simpa using h
  have i:((s[pos].toNat:Int)==(c.toNat:Int))=aj:=by rw[iy];intro e;exact hc h (dm.1 iE)
  have j:((s[pos].toNat:Int)!=(c.toNat:Int))=aQ:=by rw[bne_iff_ne];intro e;exact hc h (dm.1 iE)
  clear hc
  as_aux_lemma=>
  go_enter dI,dD;go_wp2
  go_quiet (fail)
  go_wp2;exact⟨rfl,rfl,(Same.refl w).drewN _⟩
 ·have a:¬(pos:Int)<(s.size:Int):=iE
  have b:decide ((pos:Int)≥(s.size:Int))=aQ:=by simpa using h
  have d:decide ((s.size:Int)<=(pos:Int))=aQ:=by simpa using h
  clear hc
  as_aux_lemma=>
  go_enter dI,dD;go_wp2
  go_quiet (fail)
  go_wp2;exact⟨rfl,rfl,(Same.refl w).drewN _⟩
end
def delims:ByteArray:=⟨#[44,93,125,62,61,40,41]⟩
theorem Yl (c:UInt8):CO c=delims.data.toList.contains c:=by unfold CO;show _=List.contains [44,93,125,62,61,40,41] c;simp only[List.contains_cons,List.contains_nil,Bool.or_false];simp only[Bool.or_assoc]
theorem FT:∀l:List UInt8,(aT l delims.data.toList= -1/\jq l=l)\/(aT l delims.data.toList=((jq l).length:Nat)/\(jq l).length<l.length)
 |[]=>.inl ⟨rfl,rfl⟩
 |c::l=>by
  unfold aT jq;rw[List.takeWhile_cons,Yl c];cases hc:delims.data.toList.contains c with
  |true=>exact .inr ⟨iH,iH⟩
  |false=>
   have d:=FT l;simp only[Bool.not_false,if_true,Bool.false_eq_true,if_false];have e:l.takeWhile (λc=>!CO c)=jq l:=rfl;rw[e];rcases d with⟨a,b⟩|⟨a,b⟩
   ·rw[a,b]
    exact .inl ⟨rfl,rfl⟩
   ·rw[a]
    refine .inr ⟨?_,by simp only[List.length_cons];omega⟩;have:((((jq l).length:Nat):Int)== -1)=aj:=(by rw[iy];omega);rw[this];simp
theorem Du (l:List UInt8):(jq l).length<=l.length:=by
 rcases FT l with⟨_,h⟩|⟨_,h⟩
 ·rw[h];exact aA _
 ·omega
theorem Ym (l:List UInt8):l.take (jq l).length=jq l:=by have:jq l <+: l:=List.takeWhile_prefix _;exact List.prefix_iff_eq_take.1 this |>.symm
theorem Yn (s:ByteArray)(p:Nat):(s.extract p s.size).data.toList=s.data.toList.drop p:=by
 rw[ByteArray.data_extract,bU];show List.take (s.size - p) (List.drop p s.data.toList)=_;rw[List.take_of_length_le];rw[List.length_drop];have:s.data.toList.length=s.size:=iH
 omega
theorem Yo (s:ByteArray)(p n:Nat)(_:p+n<=s.size):s.extract p (p+n)=⟨((s.data.toList.drop p).take n).toArray⟩:=by apply ByteArray.ext;apply Array.ext';rw[ByteArray.data_extract,bU];show List.take (p+n - p) (List.drop p s.data.toList)=_;rw[Nat.add_sub_cancel_left]
theorem Dv (s:ByteArray)(p:Nat):(s.data.toList.drop p).length=s.size - p:=iH
section
variable {w:au} {pb:Nat} {s:ByteArray} {pos:Nat} {nv:aH}
theorem AA (hp:jw w pb s pos nv)(hs:s.size<=65536)(C:pos<=s.size):
  aU ax 85 #[.pointer (af ⟨pb,0,ag⟩)] w λe w'=>e=.returned (.string ⟨(jq (s.data.toList.drop pos)).toArray⟩)/\jw w' pb s (pos+(jq (s.data.toList.drop pos)).length) nv/\PS pb w w':=by
 obtain⟨l,a⟩:=iC (s.data.toList.drop pos);have D:l.length=s.size - pos:=by rw[<-a];exact Dv s pos
 have f:=FT l;have p:=Du l;have q:=Ym l;have hex:=Yn s pos;rw[a]at hex
 have r:(s.extract pos s.size).size<=1073741824:=by
  have:(s.extract pos s.size).data.toList.length=(s.extract pos s.size).size:=iH
  rw[hex]at this;omega
 have j:=ae λW:au=>Lp (s.extract pos s.size) delims W iG iG r iG
 rw[hex]at j;have E:(pos:Int)<=(s.size:Int):=iE
 have A:0<=(pos:Int):=iE
 rw[a];obtain⟨n,hn⟩:=iC ((jq l).length);have b:=Yo s pos n iE;rw[a,<-hn,q]at b;rw[hn]at f p b⊢;have F:(pos:Int)+(n:Int)<=(s.size:Int):=iE
 have G:(pos:Int)<=(pos:Int)+(n:Int):=iE
 have H:(pos:Int)+(n:Int)<=65536:=iE
 have t:PLift ((pos:Int)+(n:Int)=((pos+n:Nat):Int)):=⟨iE⟩;generalize jq l=W at f b hn⊢;have u:=ae (And.intro hp hn);have k:w.cell? ⟨pb,0,ag⟩=af (.string s):=(ah hp 0).trans rfl;have m:w.cell? ⟨pb,1,ag⟩=af (.int .i64 pos):=(ah hp 1).trans rfl;obtain⟨v,x⟩:=iC (aT l delims.data.toList);rw[x]at j f;clear hp a hex p q r hn x A
 as_aux_lemma=>
 go_enter Tryz.func85,Tryz.ntmps85
 as_aux_lemma=>
 go_upto_region 1 with fail
 refine Mix.mM (aF:=?_) iF iF iF iF iF ?_ ?_;rotate_left 1
 ·intro ρ g
  have d0:=λz:iR.Grow ρ=>iU (g.trans (z.h.mono g.size)) k
  have I:=λz:iR.Grow ρ=>iU (g.trans (z.h.mono g.size)) m
  repeat(go_big_quiet_step((go_at_call 98;exact iR.Grow.calls (j.1 _))))
  refine dh ?_;exact rfl
 intro B c;have d:=ae (u.1.1.grow c);have y:=ae c;have k:=iU c k;have m:=iU c m;have J:∀o,B.frozen? ⟨pb,o,ag⟩=aj:=λo=>cu d.1 o
 clear c;rcases f with⟨rfl,i⟩|⟨rfl,i⟩
 ·have K:l.length=n:=by have:=u.1.2;rw[i]at this;exact this
  have L:(s.size:Int) - (pos:Int)=(n:Nat):=iE
  clear i
  as_aux_lemma=>
  go_wp2
  go_quiet (fail)
  go_wp2
  go_quiet (fail)
  go_wp2;go_ret;exact⟨by rw[<-b];rfl,d.1.moved t.1 ⟨rfl,rfl,rfl,rfl⟩,(PK.below y.1).trans (PK.moved d.1 ⟨rfl,rfl,rfl,rfl⟩)⟩
 ·have M:¬((n:Nat):Int)<0:=iE
  clear i
  as_aux_lemma=>
  go_wp2
  go_quiet (fail)
  go_wp2;go_ret;exact⟨by rw[<-b];rfl,d.1.moved t.1 ⟨rfl,rfl,rfl,rfl⟩,(PK.below y.1).trans (PK.moved d.1 ⟨rfl,rfl,rfl,rfl⟩)⟩
end
theorem Lr (w:List UInt8):∀i,(mV w i).length=w.length/2:=by
 intro i;unfold mV
 have h:∀(l:List Nat) (R:List UInt8),(l.foldl (xE w) R).length=R.length:=by
  intro l
  induction l with
  |nil=>intro R;rfl
  |cons x l a=>intro R;rw[bz,a];unfold xE;rw[List.length_set]
 rw[h,bu]
theorem Yp (w:List UInt8)(i:Nat):mV w (i+1)=xE w (mV w i) i:=by
 unfold mV;rw[List.range_succ,List.foldl_append]
 rfl
def Rd (pb:Nat)(s:ByteArray)(nv:aH)(X:au)(r:Option (List UInt8×Nat))(e:Ending)(Y:au):Prop:=
 (match r with
  |some (t,q)=>e=.returned (.string ⟨t.toArray⟩)/\jw Y pb s q nv
  |none=>e=.panicked tK)/\PS pb X Y
theorem Yq (x:UInt8):IntKind.u8.wrap ((x.toNat:Int)*16)=(((x<<<4).toNat:Nat):Int):=vz (p:=λx=>IntKind.u8.wrap ((x.toNat:Int)*16)=(((x<<<4).toNat:Nat):Int)) (by decide+kernel) x
theorem u8_or (x:UInt8)(d:Nat)(hd:d<16):bits .or .u8 (((x<<<4).toNat:Nat):Int) (d:Int)=((((x<<<4)|||bD d).toNat:Nat):Int):=by have h:=vz (p:=λx=>∀d:Fin 16,bits .or .u8 (((x<<<4).toNat:Nat):Int) ((d.val:Nat):Int)=((((x<<<4)|||bD d.val).toNat:Nat):Int)) (by decide+kernel) x;exact h ⟨d,hd⟩
theorem Yr {l:List UInt8}{i:Nat}(h:i<l.length):l.getD i 0∈l:=by rw[aB,az h];exact di h
theorem Yt (c:UInt8):hexN c<16:=vz (p:=λc=>hexN c<16) (by decide+kernel) c
section
variable {w:au} {pb:Nat} {s:ByteArray} {pos:Nat} {nv:aH}
theorem Yu (hp:jw w pb s pos nv)(hs:s.size<=65536)(O:pos<=s.size):
  aU ax 84 #[.pointer (af ⟨pb,0,ag⟩)] w (Rd pb s nv w ((uG (jq (s.data.toList.drop pos))).map λt=>(t,pos+(jq (s.data.toList.drop pos)).length))):=by
 have l:=ae (AA hp hs O);have H:=Du (s.data.toList.drop pos);rw[Dv]at H;generalize jq (s.data.toList.drop pos)=W at l H⊢;have f:=ae (show uG W=if W.length%2=1 then ag else if W.any (λc=>decide (hexN c<0))then ag else af (mV W W.length)from rfl);generalize uG W=R at f⊢;have P:(⟨W.toArray⟩:ByteArray).size=W.length:=by show W.toArray.size=_;simp
 obtain⟨n,hn⟩:=iC W.length;rw[hn]at l f H P⊢;have aL:(n:Int)<=65536:=iE
 have q:=ae hn;clear hp hn O hs;obtain⟨ws,I⟩:∃ws:ByteArray,(⟨W.toArray⟩:ByteArray)=ws:=⟨_,rfl⟩;rw[I]at l P;have Q:ws.data.toList=W:=by rw[<-I]
 have ao:=ae Q;clear I Q;by_cases S:n%2=1
 ·have g:=ae (f.1.trans (gY S))
  have hr:((n:Int)%2!=0)=aQ:=by rw[bne_iff_ne];omega
  as_aux_lemma=>
  go_enter dJ,dE
  go_wp2_with(go_at_call 85;refine(l.1).mono ?_;rintro e a ⟨rfl,A,r⟩;have B:=ae r;clear A r)
  refine⟨rfl,?_⟩;rw[g.1];exact⟨rfl,B.1⟩
 ·have f:=ae (f.1.trans (gZ S))
  have hr:((n:Int)%2!=0)=aj:=by rw[bne_eq_false_iff_eq];omega
  obtain⟨m,hm⟩:∃m,n=2*m:=⟨n/2,iE⟩;have aM:(n:Int)/2=(m:Nat):=iE
  as_aux_lemma=>
  go_enter dJ,dE
  go_upto_region 4 with(go_at_call 85;refine(l.1).mono ?_;rintro e a ⟨rfl,A,r⟩;have B:=ae r;have ap:=ae A;clear A r)
  go_wp2_with(refine vM Tryz.underlying49 Ba rfl _ rfl _ _ rfl m a.heap.size rfl rfl iE iE rfl ?_)
  intro T U
  have V:PLift (jI T a.heap.size (mV W 0)/\aN a.heap.size a T):=⟨by rw[U];refine⟨?_,iW a _⟩;have e:mV W 0=aY m 0:=(by unfold mV;rw[q.1,hm,bK m iG];rfl);rw[e];unfold jI;rw[Bc];exact aZ a _⟩
  clear U
  as_aux_lemma=>
  go_wp2
  go_loopw [21] (λJ wr=>∃i:Nat,J=.int .i64 i/\i<=2*m/\jI wr a.heap.size (mV W i)/\aN a.heap.size a wr/\∀j,j<i->0<=hexN (W.getD j 0)) (λJ _=>2*m - (intOf J).toNat)
  case atStart=>exact⟨0,rfl,cZ _,V.1.1,V.1.2,λj h=>absurd h (aX _)⟩
  case round=>
   as_aux_lemma=>
   obtain⟨i,rfl,hi,K,X,Y⟩:=hrel;obtain⟨L,aq⟩:∃L:au,L=wr:=⟨_,rfl⟩;subst aq;have b:=ae (And.intro K (And.intro X Y));clear X Y;by_cases C:i<2*m
   ·have aR:(i:Int)<2*(m:Int):=iE
    have aa:i<ws.size:=iE;obtain⟨x,hx⟩:∃x:UInt8,ws[i]'aa=x:=⟨_,rfl⟩
    have ab:W.getD i 0=x:=by
     rw[<-ao.1,aB,bG ws i aa,hx]
     rfl
    have D:=ae λZ:au=>Tryz.strings_IndexByte ⟨#[48,49,50,51,52,53,54,55,56,57,97,98,99,100,101,102]⟩ (x.toNat:Nat) Z
    have ac:((x.toNat:Int)).toNat.toUInt8=x:=iH;rw[ac,show bF (⟨#[48,49,50,51,52,53,54,55,56,57,97,98,99,100,101,102]⟩:ByteArray).data.toList x=hexN x from rfl]at D;have ar:=Yt x;have E:=ae (And.intro ab C);obtain⟨d,hd⟩:=iC (hexN x);have M:=ae hd;rw[hd]at D ar;clear hd ac ab K;by_cases ad:d<0
    ·have g:=ae (f.1.trans (gY (by
      rw[bH];refine⟨x,?_,by rw[decide_eq_true_eq,M.1];exact ad⟩;rw[<-E.1.1];exact Yr (by rw[q.1,hm];exact E.1.2))))
     clear C
     as_aux_lemma=>
     go_wp2_with(go_at_call 47;refine(D.1 _).mono ?_;rintro e w3 ⟨rfl,rfl⟩)
     refine⟨rfl,?_⟩;rw[g.1];exact⟨rfl,B.1.trans (PK.below b.1.2.1)⟩
    ·obtain⟨dd,rfl⟩:=Int.eq_ofNat_of_zero_le (show 0<=d by omega)
     obtain⟨k,ai⟩:=iC (i/2);have a0:(i:Int)/2=(k:Nat):=iE;have a1:k<m:=iE;have a2:(k:Int)<(m:Int):=iE;have ak:k<(mV W i).length:=(by rw[Lr,q.1,hm];omega);have e1:=b.1.1.cell ak;have N:=b.1.1.set k (((mV W i).getD k 0<<<4)|||bD dd)
     have al:mV W (i+1)=(mV W i).set k (((mV W i).getD k 0<<<4)|||bD dd):=by rw[Yp];unfold xE;rw[ai,E.1.1,M.1,Int.toNat_natCast]
     rw[<-al]at N;have F:=ae N;have a3:∀o,L.frozen? ⟨a.heap.size,o,ag⟩=aj:=λo=>cu b.1.1 o
     have hdd:dd<16:=iE;generalize(mV W i).getD k 0=y at e1 F;have av:=Yq y;have am:=u8_or y dd hdd;have a4:IntKind.u8.wrap (dd:Int)=(dd:Int):=(by unfold IntKind.wrap;simp[IntKind.bits,IntKind.signed];omega);generalize y<<<4=z at av am F;generalize z|||bD dd=u at am F
     have aw:PLift (∀j,j<i+1->0<=hexN (W.getD j 0)):=⟨λj G=>by
      by_cases aD:j<i
      ·exact b.1.2.2 j aD
      ·obtain rfl:j=i:=iE
       rw[E.1.1,M.1]
       omega⟩
     have an:=ae C;clear ai ak N al hdd ad C
     as_aux_lemma=>
     go_wp2_with(go_at_call 47;refine(D.1 _).mono ?_;rintro e w3 ⟨rfl,rfl⟩)
     go_roundw
     case rel=>exact⟨i+1,by go_num,by have:=an.1;omega,F.1,b.1.2.1.setCell (p:=⟨a.heap.size,k,ag⟩) (aA _) _,aw.1⟩
     case measure=>have:=an.1;simp[intOf];omega
   ·obtain rfl:i=2*m:=iE
    have g:=ae (f.1.trans (gZ (by
     rw[bH];rintro⟨x,hx,h⟩;obtain⟨j,G,rfl⟩:=bW hx;have aE:=b.1.2.2 j (by rw[q.1,hm]at G;exact G);rw[aB,az G,aW]at aE;have:=of_decide_eq_true h
     omega)))
    have aF:(mV W (2*m)).length=m:=(by rw[Lr,q.1,hm,bK m iG]);have aG:=Hg (cap:=m) K;rw[aF]at aG;rw[hm]at g
    as_aux_lemma=>
    go_wp2;refine aO (v:=.string ⟨(mV W (2*m)).toArray⟩) (by simp only[results,Tryz.results84];go_simp) rfl ?_;rw[g.1];exact⟨⟨rfl,ap.1.grow b.1.2.1⟩,B.1.trans (PK.below b.1.2.1)⟩
end
end Go.Proofs.YthcalnnipjflkaaGreatDoor
