import Derived.Test.YthcalnnipjflkaaGreatDoorP15
open PLift renaming up -> ae
open List renaming setIfInBounds_toArray -> af, set_cons_succ -> aj, set_cons_zero -> au, replicate -> ax, getD_eq_getElem?_getD -> az, getElem?_eq_getElem -> aA, getElem_mem -> aK, take_succ_eq_append_getElem -> aQ, foldl_append -> aX, not_mem_nil -> bH, length_cons -> bI, take_length -> bJ, nodup_cons -> bK, nodup_nil -> bT, length_append -> bV, mem_cons -> bW, range -> dh, getElem?_cons_zero -> dm, map_set -> dG, mem_singleton -> dH, getElem_ofFn -> dJ, getElem?_map -> dK, length_nil -> dL, range_succ -> dM
open Option renaming none -> ag, some -> ah
open Go.Lib renaming cell_of_heap -> ay, frozen_of_heap -> aJ, alloc_old -> bG, byteCells -> bZ, byteCells_length -> dC, IsBuilder -> dD
open Array renaming size_push -> aB, replicate -> aC, getElem?_modify -> aY, getElem?_push -> dF
open Go renaming World -> aH, bodyPost_ret -> aO, heap_alloc_new -> aP, wpOp_step -> aT, Value -> aU, run_make_row' -> bF, Calls -> dA
open Bool renaming false -> aI, true -> di
open Int renaming eq_ofNat_of_zero_le -> aN, toNat_natCast -> aW
open Go.Proofs.Tryz renaming prog -> aS, results91 -> bC, ntmps91 -> bQ, func91 -> bU, underlying36 -> cZ, underlying157 -> dI, results82 -> dO, ntmps82 -> dP, func82 -> dQ
open Go.RowKit renaming Below -> aV
open Nat renaming zero_le -> aZ, le_trans -> bP, not_lt_zero -> dn, le_refl -> dw
open Go.Instr renaming makeSlice -> bn
open Go.Value renaming int -> bu, slice -> bD, oneCell' -> dN
open Go.RowKit.Below renaming refl -> bz
open Go.World renaming setCell -> bY, ownsRow_nil -> cu, cell?_of_block -> dB, grownBy_alloc -> dE
set_option linter.all false
set_option maxHeartbeats 4000000
set_option maxRecDepth 100000
namespace Go.Proofs.YthcalnnipjflkaaGreatDoor
open Go.RowKit
open Go.Lib hiding intOf
theorem Vw (d:Fin 13->Nat)(h:(List.ofFn d).Nodup):∀i j,d i=d j->i=j:=by
 intro i j e;have hp:=List.pairwise_iff_getElem.1 h;rcases Nat.lt_trichotomy i.1 j.1 with a|a|a
 ·have:=hp i.1 j.1 iH iH a
  simp only[dJ]at this;exact absurd e this
 ·exact Fin.ext a
 ·have:=hp j.1 i.1 iH iH a
  simp only[dJ]at this;exact absurd e.symm this
def yT (a b1 b2 b3 b c d e f g h i j:Nat):Fin 13->Nat
 |0=>a|1=>b1|2=>b2|3=>b3|4=>b|5=>c|6=>d|7=>e|8=>f|9=>g|10=>h|11=>i|12=>j
theorem Vx {a b1 b2 b3 b c d e f g k l m:Nat}(h:[a,b1,b2,b3,b,c,d,e,f,g,k,l,m].Nodup):∀i j,yT a b1 b2 b3 b c d e f g k l m i=yT a b1 b2 b3 b c d e f g k l m j->i=j:=Vw _ h
theorem uP {w:aH}{b c n:Nat}{v:aU}(h:w.heap[b]?=ah (.cells (aC n (.int .i64 0)) 3))(a:w.heap[c]?=ah (.cells #[v] 36)):b≠c:=by rintro rfl;rw[h]at a;have:=Option.some.inj a;injection this with _ d;exact absurd d iG
structure C6 (w0:aH)(n b0 b1 b3 b5 b6 b7 b8:Nat)(v:aU)(root:Int)(J:List Int)(w:aH):Prop where
 below:aV w0.heap.size w0 w
 box:w.heap[b0]?=ah (.cells #[v,.int .i64 root] 117)
 e1:w.heap[b1]?=ah (.cells (aC n (.int .i64 0)) 3)
 e3:w.heap[b3]?=ah (.cells (aC n (.int .i64 0)) 3)
 e5:w.heap[b5]?=ah (.cells (J.map (bu .i64)).toArray 3)
 e6:w.heap[b6]?=ah (.cells #[.slice (ah ⟨b1,0,ag⟩) n n] 36)
 e7:w.heap[b7]?=ah (.cells #[.slice (ah ⟨b3,0,ag⟩) n n] 36)
 e8:w.heap[b8]?=ah (.cells #[.slice (ah ⟨b5,0,ag⟩) n n] 36)
 lo:w0.heap.size=b0
 l1:b0<b1
 l3:b0<b3
 l5:b0<b5
 l6:b0<b6
 l7:b0<b7
 l8:b0<b8
 nd:[b1,b3,b5,b6,b7,b8].Nodup
theorem C6.set {w0:aH}{n b b1 b3 a c d e:Nat}{v:aU}{root:Int}{f:List Int}{w:aH}(h:C6 w0 n b b1 b3 a c d e v root f w)(j:Nat)(x:Int):C6 w0 n b b1 b3 a c d e v root (f.set j x) (w.setCell ⟨a,j,ag⟩ (.int .i64 x)):=by
 have hn:=h.nd;simp only[bK,bW,bH,or_false,not_or,bT,and_true,not_false_eq_true]at hn;obtain⟨⟨g,i,k,l,m⟩,⟨o,q,r,s⟩,⟨t,u,y⟩,⟨z,A⟩,B⟩:=hn;have l5:=h.l5
 exact {h with
  below:=h.below.setCell (p:=⟨a,j,ag⟩) (by have:=h.lo;show w0.heap.size<=a;omega) _
  box:=by rw[jm _ iE];exact h.box
  e1:=by rw[jm _ iE];exact h.e1
  e3:=by rw[jm _ iE];exact h.e3
  e5:=by simp[bY,aY,h.e5,dG]
  e6:=by rw[jm _ iE];exact h.e6
  e7:=by rw[jm _ iE];exact h.e7
  e8:=by rw[jm _ iE];exact h.e8}
theorem Vy {n j:Nat}(b:j<n):(ax j (-1:Int)++ax (n - j) 0).set j (-1)=ax (j+1) (-1)++ax (n - (j+1)) 0:=by
 obtain⟨m,hm⟩:∃m,n - j=m+1:=⟨n - j - 1,iE⟩;have a:n - (j+1)=m:=iE
 rw[hm,a,List.replicate_succ,List.set_append,List.replicate_succ' (n:=j)];simp
theorem Af {w W:aH}(h:w.grownBy W ag)(o:Obj):w.grownBy (W.alloc o) ag:=h.trans (dE W o ag)
theorem yU (A:Array Obj)(a b c d e f:Obj):((((((A.push a).push b).push c).push d).push e).push f)[A.size]?=ah a/\((((((A.push a).push b).push c).push d).push e).push f)[A.size+1]?=ah b/\((((((A.push a).push b).push c).push d).push e).push f)[A.size+1+1]?=ah c/\((((((A.push a).push b).push c).push d).push e).push f)[A.size+1+1+1]?=ah d/\((((((A.push a).push b).push c).push d).push e).push f)[A.size+1+1+1+1]?=ah e/\((((((A.push a).push b).push c).push d).push e).push f)[A.size+1+1+1+1+1]?=ah f:=by
 have lt:∀(B:Array Obj) (o:Obj) (i:Nat),i<B.size->(B.push o)[i]?=B[i]?:=λB o i h=>by rw[dF,gZ iE]
 have eq:∀(B:Array Obj) (o:Obj) (i:Nat),i=B.size->(B.push o)[i]?=ah o:=λB o i h=>by rw[dF,gY h]
 exact⟨by rw[lt _ _ _ (by simp only[aB];omega),lt _ _ _ (by simp only[aB];omega),lt _ _ _ (by simp only[aB];omega),lt _ _ _ (by simp only[aB];omega),lt _ _ _ (by simp only[aB];omega),eq _ _ _ rfl],by rw[lt _ _ _ (by simp only[aB];omega),lt _ _ _ (by simp only[aB];omega),lt _ _ _ (by simp only[aB];omega),lt _ _ _ (by simp only[aB];omega),eq _ _ _ (by simp only[aB])],by rw[lt _ _ _ (by simp only[aB];omega),lt _ _ _ (by simp only[aB];omega),lt _ _ _ (by simp only[aB];omega),eq _ _ _ (by simp only[aB])],by rw[lt _ _ _ (by simp only[aB];omega),lt _ _ _ (by simp only[aB];omega),eq _ _ _ (by simp only[aB])],by rw[lt _ _ _ (by simp only[aB];omega),eq _ _ _ (by simp only[aB])],by rw[eq _ _ _ (by simp only[aB])]⟩
def uQ (wr:aH)(a b c d n:Nat):aH:=
 ((
  (((wr.alloc (.cells #[.slice ag 0 0] 36)).alloc (.cells #[.slice ag 0 0] 36)).alloc (.cells (aC n (.bool aI)) 4)).alloc (.cells #[.slice (ah ⟨wr.heap.size+1+1,0,ag⟩) n n] 168)).alloc (.cells #[.int .i64 0] 3)).alloc
  (.cells #[.func (.func 136) #[] #[.pointer (ah ⟨wr.heap.size+1+1+1+1,0,ag⟩),.pointer (ah ⟨b,0,ag⟩),.pointer (ah ⟨c,0,ag⟩),.pointer (ah ⟨wr.heap.size+1,0,ag⟩),.pointer (ah ⟨wr.heap.size+1+1+1,0,ag⟩),.pointer (ah ⟨wr.heap.size+1+1+1+1+1,0,ag⟩),.pointer (ah ⟨a,0,ag⟩),.pointer (ah ⟨wr.heap.size,0,ag⟩),.pointer (ah ⟨d,0,ag⟩)]] 184)
theorem Vz (wr:aH)(a b c d n:Nat):wr.grownBy (uQ wr a b c d n) ag:=
 Af (Af (Af (Af (Af (dE wr _ ag) _) _) _) _) _
def dS (H a b1 b3 b c d e:Nat):Fin 13->Nat:=yT a b1 b3 b (H+1+1) c d e (H+1+1+1) (H+1+1+1+1) (H+1+1+1+1+1) H (H+1)
theorem VA {w0:aH}{N:List Nd}{b1 b3 f b c d:Nat}{v:aU}{root:Int}{wr:aH}(h:C6 w0 N.length w0.heap.size b1 b3 f b c d v root (ax N.length (-1)) wr):
  GW w0 v root N (dS wr.heap.size w0.heap.size b1 b3 f b c d) (wr.heap.size+6) ⟨0,ax N.length 0,ax N.length 0,ax N.length (-1),ax N.length aI,[],[]⟩ (.slice ag 0 0) (.slice ag 0 0) (uQ wr w0.heap.size b c d N.length):=by
 have g:=Vz wr w0.heap.size b c d N.length;have hn:=h.nd;simp only[bK,bW,bH,or_false,not_or,bT,and_true,not_false_eq_true]at hn;obtain⟨⟨q,r,s,t,u⟩,⟨w,x,y,z⟩,⟨A,B,C⟩,⟨D,E⟩,F⟩:=hn;have i:=block_lt h.box;have j:=block_lt h.e1;have l:=block_lt h.e3;have m:=block_lt h.e5;have n:=block_lt h.e6;have o:=block_lt h.e7;have p:=block_lt h.e8;have g1:=h.l1;have G:=h.l3;have H:=h.l5;have I:=h.l6;have J:=h.l7;have K:=h.l8;have a:∀k,k<wr.heap.size->(uQ wr w0.heap.size b c d N.length).heap[k]?=wr.heap[k]?:=λk e=>g.block k e iH
 have L:(uQ wr w0.heap.size b c d N.length).heap.size=wr.heap.size+6:=by simp[uQ]
 refine {below:=h.below.grown g h.below.size (λk e=>by cases e),lo:=?_,hi:=?_,inj:=?_,fix:=?_,kZ:=iE,nK:=cu _ _ _ _,oH:=cu _ _ _ _,ne:=.inl rfl,li:=iH,ll:=iH,ln:=iH,lo2:=iH,stk:=iH,cnt:=iH,bd:=iH}
 ·intro k
  match k with
  |0|1|2|3|4|5|6|7|8|9|10|11|12=>simp only[dS,yT];omega
 ·intro k
  match k with
  |0|1|2|3|4|5|6|7|8|9|10|11|12=>simp only[dS,yT];omega
 ·refine Vx ?_
  simp only[bK,bW,bH,or_false,not_or,bT,and_true,not_false_eq_true];omega
 ·intro k
  match k with
  |0=>exact(a _ i).trans h.box
  |1=>exact(a _ j).trans (by simpa[tobj]using h.e1)
  |2=>exact(a _ l).trans (by simpa[tobj]using h.e3)
  |3=>exact(a _ m).trans h.e5
  |4=>exact(yU wr.heap _ _ _ _ _ _).2.2.1.trans (by simp[tobj])
  |5=>exact(a _ n).trans h.e6
  |6=>exact(a _ o).trans h.e7
  |7=>exact(a _ p).trans h.e8
  |8=>exact(yU wr.heap _ _ _ _ _ _).2.2.2.1
  |9=>exact(yU wr.heap _ _ _ _ _ _).2.2.2.2.1
  |10=>exact(yU wr.heap _ _ _ _ _ _).2.2.2.2.2
  |11=>exact(yU wr.heap _ _ _ _ _ _).1
  |12=>exact(yU wr.heap _ _ _ _ _ _).2.1
theorem VC {N:List Nd}{root:Nat}{inn sizes:List Int}(h:uM N root=ah (inn,sizes)):∃s',mg N (N.length+1) root ⟨0,ax N.length 0,ax N.length 0,ax N.length (-1),ax N.length aI,[],[]⟩=ah s'/\s'.inn=inn/\s'.sizes=sizes:=by unfold uM at h;obtain⟨s',a,b⟩:=Option.map_eq_some_iff.1 h;injection b with c d;exact⟨s',a,c,d⟩
theorem VD (w:aH)(v:aU)(root:Nat)(N:List Nd)(inn sizes:List Int)(V:jJ w v N)(hR:nN N)(hn:N.length<=4096)(W:root<N.length)(hc:uM N root=ah (inn,sizes)):
  dA aS 122 #[.agg #[v,.int .i64 root]] w λe w'=>∃(g base:Nat) (X:aU),e=.returned (.tuple #[.slice (ah ⟨g,0,ag⟩) N.length N.length,X])/\aV w.heap.size w w'/\w.heap.size<=g/\g<base/\inn.length=N.length/\
   w'.heap[g]?=ah (.cells (inn.map (bu .i64)).toArray 3)/\w'.ownsRow base 3 1 X sizes.length (sizes.map (bu .i64)):=by
 have aD:=ae V;have aE:=ae hR;have aF:=ae hc;obtain⟨va,vc,rfl,bh,aG⟩:=V;clear aG hR hc;have aL:PLift ((w.alloc (.cells #[.slice va N.length vc,.int .i64 root] 117)).heap[w.heap.size]?=ah (.cells #[.slice va N.length vc,.int .i64 root] 117)):=⟨aP w _⟩;have aM:PLift (aV w.heap.size w (w.alloc (.cells #[.slice va N.length vc,.int .i64 root] 117))):=⟨iW w _⟩;have G:(w.alloc (.cells #[.slice va N.length vc,.int .i64 root] 117)).heap.size=w.heap.size+1:=jl _ _;have aR:=ae G;clear G
 as_aux_lemma=>
 go_enter Tryz.func122,Tryz.ntmps122
 as_aux_lemma=>
 go_upto_region 2 with fail
 have a0:∀l:aH,(bn 36 (.int .i64 (N.length:Int)) (.int .i64 (N.length:Int))).run aS l=.ok (.slice (ah ⟨l.heap.size,0,ag⟩) N.length N.length) (l.alloc (.cells (aC N.length (.int .i64 0)) 3)):=λl=>by rw[bF 36 3 (.int .i64 0) 8 cZ su rfl .i64 .i64 N.length iE iE l,sD]
 refine Vg N.length iF iF iF (by simp only[kH,Act.put,af,aj,au]) ?_ ?_
 ·intro i o L H p q r s t u x z A w' K c f hA hR hK
  replace H:=ae H;replace f:=ae f;replace hA:=ae hA;replace hR:=ae hR;replace hK:=ae hK
  match i,c,f,hK with
  |0,c,f,hK=>
   obtain rfl:=Option.some.inj c;have a:=hK.1 p q r (.int .i64 N.length) t u x z A _ (R3.move0 hR.1);replace a:=ae a
   as_aux_lemma=>
   simp only[kH,Act.put,af,aj,au];refine aT c ?_;intro m d;go_simp;replace a:=a.1;simp only[kH,Act.put,af,aj,au]at a;exact d _ _ a
  |1,c,f,hK=>
   obtain rfl:=Option.some.inj c;obtain rfl:=hR.1.m0 (hA.1 ⟨0,.data⟩ iH rfl);have a:=hK.1 p q r (.int .i64 N.length) (.slice (ah ⟨w'.heap.size,0,ag⟩) N.length N.length) u x z A _ (R3.U8 hR.1 f.1 (λh=>H.1 9 _ rfl h ⟨1,.data⟩ iH rfl));replace a:=ae a
   as_aux_lemma=>
   simp only[kH,Act.put,af,aj,au];refine aT c ?_;intro m d;go_simp;replace a:=a.1;simp only[kH,Act.put,af,aj,au]at a;exact d _ _ a
  |2,c,f,hK=>
   obtain rfl:=Option.some.inj c;have a:=hK.1 p q r s t (.int .i64 N.length) x z A _ (R3.U3 hR.1);replace a:=ae a
   as_aux_lemma=>
   simp only[kH,Act.put,af,aj,au];refine aT c ?_;intro m d;go_simp;replace a:=a.1;simp only[kH,Act.put,af,aj,au]at a;exact d _ _ a
  |3,c,f,hK=>
   obtain rfl:=Option.some.inj c;obtain rfl:=hR.1.m2 (hA.1 ⟨2,.data⟩ iH rfl);have a:=hK.1 p q r s t (.int .i64 N.length) (.slice (ah ⟨w'.heap.size,0,ag⟩) N.length N.length) z A _ (R3.row3 hR.1 f.1 (λh=>H.1 10 _ rfl h ⟨3,.data⟩ iH rfl));replace a:=ae a
   as_aux_lemma=>
   simp only[kH,Act.put,af,aj,au];refine aT c ?_;intro m d;go_simp;replace a:=a.1;simp only[kH,Act.put,af,aj,au]at a;exact d _ _ a
  |4,c,f,hK=>
   obtain rfl:=Option.some.inj c;have a:=hK.1 p q r s t u x (.int .i64 N.length) A _ (R3.U7 hR.1);replace a:=ae a
   as_aux_lemma=>
   simp only[kH,Act.put,af,aj,au];refine aT c ?_;intro m d;go_simp;replace a:=a.1;simp only[kH,Act.put,af,aj,au]at a;exact d _ _ a
  |5,c,f,hK=>
   obtain rfl:=Option.some.inj c;obtain rfl:=hR.1.m4 (hA.1 ⟨4,.data⟩ iH rfl);have a:=hK.1 p q r s t u x (.int .i64 N.length) (.slice (ah ⟨w'.heap.size,0,ag⟩) N.length N.length) _ (R3.U9 hR.1 f.1 (λh=>H.1 11 _ rfl h ⟨5,.data⟩ iH rfl));replace a:=ae a
   as_aux_lemma=>
   simp only[kH,Act.put,af,aj,au];refine aT c ?_;intro m d;go_simp;replace a:=a.1;simp only[kH,Act.put,af,aj,au]at a;exact d _ _ a
  |6,c,f,hK=>
   obtain rfl:=Option.some.inj c;have a:=hK.1 (.pointer (ah ⟨w'.heap.size,0,ag⟩)) q r s t u x z A _ (R3.Va hR.1 f.1);replace a:=ae a
   as_aux_lemma=>
   simp only[kH,Act.put,af,aj,au];refine aT c ?_;intro m d;go_simp;replace a:=a.1;simp only[kH,Act.put,af,aj,au]at a;exact d _ _ a
  |7,c,f,hK=>
   obtain rfl:=Option.some.inj c;have a:=hK.1 p (.pointer (ah ⟨w'.heap.size,0,ag⟩)) r s t u x z A _ (R3.Vb hR.1 f.1);replace a:=ae a
   as_aux_lemma=>
   simp only[kH,Act.put,af,aj,au];refine aT c ?_;intro m d;go_simp;replace a:=a.1;simp only[kH,Act.put,af,aj,au]at a;exact d _ _ a
  |8,c,f,hK=>
   obtain rfl:=Option.some.inj c;have a:=hK.1 p q (.pointer (ah ⟨w'.heap.size,0,ag⟩)) s t u x z A _ (R3.Vd hR.1 f.1);replace a:=ae a
   as_aux_lemma=>
   simp only[kH,Act.put,af,aj,au];refine aT c ?_;intro m d;go_simp;replace a:=a.1;simp only[kH,Act.put,af,aj,au]at a;exact d _ _ a
  |9,c,f,hK=>
   obtain rfl:=Option.some.inj c;obtain⟨I,J,-,-⟩:=hR.1.r1 (hA.1 ⟨1,.data⟩ iH rfl);subst J;have B:=hA.1 ⟨6,.data⟩ iH rfl;obtain⟨b,rfl,M,k⟩:=hR.1.v6 B;have O:=ay k 0;have Y:=aJ k 0;generalize(if L.getD 9 aI=di then bD (ah ⟨I,0,ag⟩) N.length N.length else bD ag 0 0)=Z at k O;have a:=hK.1 (.pointer (ah ⟨b,0,ag⟩)) q r s _ u x z A _ (R3.Ve hR.1 B M k);replace a:=ae a
   as_aux_lemma=>
   simp only[kH,Act.put,af,aj,au];refine aT c ?_;intro m d;go_simp;replace a:=a.1;simp only[kH,Act.put,af,aj,au]at a;exact d _ _ a
  |10,c,f,hK=>
   obtain rfl:=Option.some.inj c;obtain⟨I,J,-,-⟩:=hR.1.r3 (hA.1 ⟨3,.data⟩ iH rfl);subst J;have B:=hA.1 ⟨7,.data⟩ iH rfl;obtain⟨b,rfl,M,k⟩:=hR.1.v7 B;have O:=ay k 0;have Y:=aJ k 0;generalize(if L.getD 10 aI=di then bD (ah ⟨I,0,ag⟩) N.length N.length else bD ag 0 0)=Z at k O;have a:=hK.1 p (.pointer (ah ⟨b,0,ag⟩)) r s t u _ z A _ (R3.Vf hR.1 B M k);replace a:=ae a
   as_aux_lemma=>
   simp only[kH,Act.put,af,aj,au];refine aT c ?_;intro m d;go_simp;replace a:=a.1;simp only[kH,Act.put,af,aj,au]at a;exact d _ _ a
  |11,c,f,hK=>
   obtain rfl:=Option.some.inj c;obtain⟨I,J,-,-⟩:=hR.1.r5 (hA.1 ⟨5,.data⟩ iH rfl);subst J;have B:=hA.1 ⟨8,.data⟩ iH rfl;obtain⟨b,rfl,M,k⟩:=hR.1.v8 B;have O:=ay k 0;have Y:=aJ k 0;generalize(if L.getD 11 aI=di then bD (ah ⟨I,0,ag⟩) N.length N.length else bD ag 0 0)=Z at k O;have a:=hK.1 p q (.pointer (ah ⟨b,0,ag⟩)) s t u x z _ _ (R3.oQ hR.1 B M k);replace a:=ae a
   as_aux_lemma=>
   simp only[kH,Act.put,af,aj,au];refine aT c ?_;intro m d;go_simp;replace a:=a.1;simp only[kH,Act.put,af,aj,au]at a;exact d _ _ a
  |i+12,c,f,hK=>exact absurd c iH
 ·intro b1 b3 g C D n w' Q aa ab ac ad ai ak al am an ao ap aq e1 e3 e5 e6 e7 e8
  have G:=aR.1;rw[G]at Q aa ab ac ad ai ak
  have ar:PLift (C6 w N.length w.heap.size b1 b3 g C D n (.slice va N.length vc) root (ax N.length 0) w'):=by refine⟨⟨aM.1.trans (Q.mono iE),by rw[Q.block _ iE];exact aL.1,e1,e3,by simpa using e5,e6,e7,e8,rfl,iE,iE,iE,iE,iE,iE,?_⟩⟩;have a1:=uP e1 e6;have a2:=uP e1 e7;have a3:=uP e1 e8;have a4:=uP e3 e6;have a5:=uP e3 e7;have a6:=uP e3 e8;have a7:=uP e5 e6;have a8:=uP e5 e7;have a9:=uP e5 e8;simp only[bK,bW,bH,or_false,not_or,bT,and_true,not_false_eq_true];exact⟨⟨al,am,a1,a2,a3⟩,⟨an,a4,a5,a6⟩,⟨a7,a8,a9⟩,⟨ao,ap⟩,aq⟩
  clear Q aa ab ac ad ai ak al am an ao ap aq e1 e3 e5 e6 e7 e8 G a0;simp only[kH,Act.put,af,aj,au]
  as_aux_lemma=>
  have ba:w'.cell? ⟨n,0,ag⟩=ah (.slice (ah ⟨g,0,ag⟩) N.length N.length):=(ay ar.1.e8 0).trans rfl;go_wp2
  go_loopw [25] (λS wr=>∃j:Nat,S=.int .i64 j/\j<=N.length/\C6 w N.length w.heap.size b1 b3 g C D n (.slice va N.length vc) root (ax j (-1)++ax (N.length - j) 0) wr) (λS _=>N.length - (intOf S).toNat)
  case atStart=>exact⟨0,rfl,aZ _,by simpa using ar.1⟩
  case round=>
   as_aux_lemma=>
   obtain⟨j,rfl,B,E⟩:=hrel;have P:=ae E;have ba:wr.cell? ⟨n,0,ag⟩=ah (.slice (ah ⟨g,0,ag⟩) N.length N.length):=(ay E.e8 0).trans rfl;by_cases bb:j<N.length
   ·have bi:(j:Int)<(N.length:Int):=iE
    have bc:wr.cell? ⟨g,j,ag⟩=ah (.int .i64 ((ax j (-1:Int)++ax (N.length - j) 0).getD j 0)):=kJ E.e5 iI;have bj:∀o,wr.frozen? ⟨g,o,ag⟩=aI:=λo=>aJ E.e5 o
    generalize(ax j (-1:Int)++ax (N.length - j) 0).getD j 0=y at bc;clear E
    as_aux_lemma=>
    go_wp2;go_roundw
    case rel=>exact⟨j+1,by go_num,iE,by rw[<-Vy bb];exact P.1.set j (-1)⟩
    case measure=>simp[intOf];omega
   ·obtain rfl:j=N.length:=iE
    clear E
    have bd:∀l:aH,(bn 168 (.int .i64 (N.length:Int)) (.int .i64 (N.length:Int))).run aS l=.ok (.slice (ah ⟨l.heap.size,0,ag⟩) N.length N.length) (l.alloc (.cells (aC N.length (.bool aI)) 4)):=λl=>by rw[bF 168 4 (.bool aI) 1 Tryz.underlying168 D8 rfl .i64 .i64 N.length iE iE l,sD]
    as_aux_lemma=>
    go_upto_region 13 with fail
    change Code.wp _ _ _ _ (uQ wr w.heap.size C D n N.length)
    obtain⟨s',hv,rfl,rfl⟩:=VC aF.1;simp only[Nat.sub_self,List.replicate_zero,List.append_nil]at P;have R:=ae (VA P.1);have T:=Vu w (.slice va N.length vc) root N (dS wr.heap.size w.heap.size b1 b3 g C D n) (wr.heap.size+6) aD.1 aE.1 hn (N.length+1) root _ s' _ _ _ hv W (by simp[W]) R.1;simp only[EX,dS,yT]at T;have av:=ae T;have be:(uQ wr w.heap.size C D n N.length).cell? ⟨wr.heap.size+1+1+1+1+1,0,ag⟩=ah (.func (.func 136) #[] #[.pointer (ah ⟨wr.heap.size+1+1+1+1,0,ag⟩),.pointer (ah ⟨C,0,ag⟩),.pointer (ah ⟨D,0,ag⟩),.pointer (ah ⟨wr.heap.size+1,0,ag⟩),.pointer (ah ⟨wr.heap.size+1+1+1,0,ag⟩),.pointer (ah ⟨wr.heap.size+1+1+1+1+1,0,ag⟩),.pointer (ah ⟨w.heap.size,0,ag⟩),.pointer (ah ⟨wr.heap.size,0,ag⟩),.pointer (ah ⟨n,0,ag⟩)]):=(ay (R.1.fix 10) 0).trans rfl;have bf:(uQ wr w.heap.size C D n N.length).cell? ⟨w.heap.size,1,ag⟩=ah (.int .i64 root):=(ay (R.1.fix 0) 1).trans rfl;clear hv T bd;generalize uQ wr w.heap.size C D n N.length=bk at R av be bf⊢
    as_aux_lemma=>
    go_wp2_with(go_at_call 136;refine(av.1).mono ?_;rintro e w3 ⟨rfl,bl,U,aw,bg⟩;have F:=ae aw;clear aw bg)
    have bm:w3.cell? ⟨n,0,ag⟩=ah (.slice (ah ⟨g,0,ag⟩) N.length N.length):=(ay (F.1.fix 7) 0).trans rfl;have bo:w3.cell? ⟨wr.heap.size,0,ag⟩=ah U:=(ay (F.1.fix 11) 0).trans rfl
    as_aux_lemma=>
    go_region;go_wp2;refine aO (v:=.tuple #[.slice (ah ⟨g,0,ag⟩) N.length N.length,U]) (by simp only[results,Tryz.results122];go_simp) rfl ?_;exact⟨g,wr.heap.size+6,U,rfl,F.1.below.drew,by have:=P.1.l5;omega,by have:=block_lt P.1.e5;omega,F.1.ln,F.1.fix 3,F.1.oH.drew⟩
def Ag (inn:List Int)(M:List (List Int))(i:Nat):List (List Int):=M.set (inn.getD i 0).toNat (M.getD (inn.getD i 0).toNat []++[(i:Int)])
def E8 (inn:List Int)(C:Nat):List (List Int):=(dh inn.length).foldl (Ag inn) (ax C [])
def mX (inn:List Int)(c:Nat)(st:List Int×Bool)(x:Int):List Int×Bool:=
 if inn.getD x.toNat 0=(c:Int)then(st.1,aI)else(st.1.set c (max (st.1.getD c 0) (st.1.getD (inn.getD x.toNat 0).toNat 0)),st.2)
def xI (N:List Nd)(inn:List Int)(c:Nat)(st:List Int×Bool)(i:Int):List Int×Bool:=
 (N.getD i.toNat nd0).items.foldl (mX inn c) ((N.getD i.toNat nd0).keys.foldl (mX inn c) st)
def Ah (N:List Nd)(inn:List Int)(M:List (List Int))(sizes:List Int)(st:List Int×Bool)(c:Nat):List Int×Bool:=
 let a:=(M.getD c []).foldl (xI N inn c) st
 (a.1.set c (wrap64 (a.1.getD c 0+sizes.getD c 0)),a.2)
def uS (N:List Nd)(root:Nat)(inn sizes:List Int):Int×Bool:=
 let st:=(dh sizes.length).foldl (Ah N inn (E8 inn sizes.length) sizes) (ax sizes.length 0,di)
 (wrap64 (st.1.getD (inn.getD root 0).toNat 0 - 1),st.2)
example:uS [⟨10,⟨#[]⟩,aI,[1],[2]⟩,⟨5,⟨#[97]⟩,aI,[],[]⟩,⟨9,⟨#[]⟩,aI,[],[3]⟩,⟨2,⟨#[49]⟩,aI,[],[]⟩] 0 [3,0,2,1] [1,1,1,1]=(2,di):=by decide+kernel
def jr:aU:=.slice ag 0 0
structure DW (w1:aH)(hb C:Nat)(M:List (List Int))(vals:List aU)(B:List Int)(wr:aH):Prop where
 below:aV hb w1 wr
 mY:wr.heap[hb]?=ah (.cells (B.map (bu .i64)).toArray 3)
 mrow:wr.heap[hb+1]?=ah (.cells vals.toArray 36)
 ml:M.length=C
 vl:vals.length=C
 bl:B.length=C
 rows:∀c,c<C->wr.ownsRow (hb+2) 3 1 (vals.getD c jr) (M.getD c []).length ((M.getD c []).map (bu .i64))
 sep:∀c c',c<C->c'<C->c≠c'->(vals.getD c jr).ownBlock=ag\/(vals.getD c jr).ownBlock≠(vals.getD c' jr).ownBlock
theorem Fa {α:Type}(n c:Nat)(x:α):(ax n x).getD c x=x:=by rw[az,List.getElem?_replicate];split<;>rfl
theorem mZ {α:Type}(L:List α)(i j:Nat)(x y:α):(L.set i x).getD j y=if i=j/\i<L.length then x else L.getD j y:=by
 rw[az,List.getElem?_set,az];by_cases h:i=j
 ·subst h
  by_cases a:i<L.length
  ·simp[a]
  ·simp[a]
 ·simp[h]
section
variable {w1 wr:aH} {hb C:Nat} {M:List (List Int)} {vals:List aU} {B:List Int}
theorem VE (w1:aH)(C:Nat):DW w1 w1.heap.size C (ax C []) (ax C jr) (ax C 0) ((w1.alloc (.cells (aC C (.int .i64 0)) 3)).alloc (.cells (aC C (.slice ag 0 0)) 36)) where
 below:=((bz _ w1).alloc (dw _) _).alloc (by rw[jl];omega) _
 mY:=by rw[bG _ _ _ (by rw[jl];omega),aP];simp
 mrow:=by have h:=aP (w1.alloc (.cells (aC C (.int .i64 0)) 3)) (.cells (aC C (.slice ag 0 0)) 36);rw[jl]at h;rw[h];simp[jr]
 ml:=iH
 vl:=iH
 bl:=iH
 rows:=λc _=>by rw[Fa,Fa];exact cu _ _ _ _
 sep:=λc a _ _ _=>.inl (by rw[Fa];rfl)
theorem DW.drew (h:DW w1 hb C M vals B wr):DW w1 hb C M vals B wr.drew:={h with below:=h.below.drew,rows:=λc hc=>(h.rows c hc).drew}
theorem DW.alloc (h:DW w1 hb C M vals B wr)(o:Obj):DW w1 hb C M vals B (wr.alloc o):=
 {h with
  below:=h.below.alloc (by have:=block_lt h.mY;omega) o
  mY:=by rw[bG _ _ _ (block_lt h.mY)];exact h.mY
  mrow:=by rw[bG _ _ _ (block_lt h.mrow)];exact h.mrow
  rows:=λc hc=>(h.rows c hc).alloc o}
theorem DW.setB (h:DW w1 hb C M vals B wr)(c:Nat)(x:Int):DW w1 hb C M vals (B.set c x) (wr.setCell ⟨hb,c,ag⟩ (.int .i64 x)):=
 {h with
  below:=h.below.setCell (p:=⟨hb,c,ag⟩) (dw _) _
  mY:=by simp[bY,aY,h.mY,dG]
  mrow:=by rw[jm _ iE];exact h.mrow
  bl:=by simpa using h.bl
  rows:=λa hc=>uN (h.rows a hc) iE (lN wr hb c _)}
theorem DW.push (h:DW w1 hb C M vals B wr){c:Nat}(hc:c<C)(L:List Int)(v':aU)(w':aH)(i:wr.grownBy w' (vals.getD c jr).ownBlock)(o:w'.ownsRow (hb+2) 3 1 v' L.length (L.map (bu .i64)))
  (m:∀k,v'.ownBlock=ah k->(vals.getD c jr).ownBlock=ah k\/wr.heap.size<=k):
  DW w1 hb C (M.set c L) (vals.set c v') B (w'.setCell ⟨hb+1,c,ag⟩ v'):=by
 have q:=h.rows;have hn:∀k,(vals.getD c jr).ownBlock=ah k->hb+2<=k:=λk a=>((h.rows c hc).lt k a).1
 have r:=h.ml;have s:=h.vl;refine⟨?_,?_,?_,by simpa using h.ml,by simpa using h.vl,h.bl,?_,?_⟩
 ·exact(h.below.grown i (by have:=block_lt h.mY;omega) (λk a=>by have:=hn k a;omega)).setCell (p:=⟨hb+1,c,ag⟩) (by show hb<=hb+1;omega) _
 ·rw[jm _ iE,i.block _ (block_lt h.mY) (λe=>by have:=hn _ e.symm;omega)];exact h.mY
 ·have hm:=h.mrow
  rw[<-i.block _ (block_lt h.mrow) (λe=>by have:=hn _ e.symm;omega)]at hm;simp[bY,aY,hm]
 ·intro k a
  refine uN (b:=hb+1) ?_ iE (lN w' (hb+1) c v');rw[mZ,mZ];by_cases d:c=k
  ·subst d
   rw[gY ⟨rfl,iE⟩,gY ⟨rfl,iE⟩];exact o
  ·rw[gZ (λe=>d e.1),gZ (λe=>d e.1)]
   exact(h.rows k a).kept i (h.sep k c a hc (λe=>d e.symm))
 ·intro k k' a l j
  rw[mZ,mZ];by_cases d:c=k
  ·subst d
   rw[gY ⟨rfl,iE⟩,gZ (λe=>j e.1)];cases g:v'.ownBlock with
   |none=>exact .inl rfl
   |some b=>
    refine .inr λe=>?_
    rcases m b g with f|f
    ·rcases h.sep c k' hc l j with e3|e3
     ·rw[e3]at f;cases f
     ·exact e3 (f.trans e)
    ·have:=((h.rows k' l).lt b e.symm).2
     omega
  ·rw[gZ (λe=>d e.1)]
   by_cases n:c=k'
   ·subst n
    rw[gY ⟨rfl,iE⟩];cases g:(vals.getD k jr).ownBlock with
    |none=>exact .inl rfl
    |some b=>
     refine .inr λe=>?_
     rcases m b e.symm with f|f
     ·rcases h.sep k c a hc j with e3|e3
      ·rw[e3]at g;cases g
      ·exact e3 (g.trans f.symm)
     ·have:=((h.rows k a).lt b g).2
      omega
   ·rw[gZ (λe=>n e.1)]
    exact h.sep k k' a l j
end
def Fb (n:Nat)(M:List (List Int)):Prop:=∀L∈M,L.length<=n/\∀x∈L,0<=x/\x<(n:Int)
theorem VF {inn:List Int}{M:List (List Int)}{i:Nat}(h:Fb i M):Fb (i+1) (Ag inn M i):=by
 intro L b;unfold Ag at b;rcases List.mem_or_eq_of_mem_set b with b|rfl
 ·obtain⟨d,c⟩:=h L b
  exact⟨iE,λx hx=>by have:=c x hx;omega⟩
 ·have a:(M.getD (inn.getD i 0).toNat [])∈M\/M.getD (inn.getD i 0).toNat []=[]:=by
   rw[az];cases e:M[(inn.getD i 0).toNat]? with
   |none=>exact .inr rfl
   |some y=>exact .inl (List.mem_of_getElem? e)
  rcases a with a|a
  ·obtain⟨d,c⟩:=h _ a
   refine⟨by simp only[bV,bI,dL];omega,λx hx=>?_⟩;rcases List.mem_append.1 hx with hx|hx
   ·have:=c x hx;omega
   ·rw[dH.1 hx];omega
  ·rw[a]
   refine⟨iH,λx hx=>?_⟩;rw[List.nil_append]at hx;rw[dH.1 hx];omega
theorem Kq:(Tryz.prog.info? 36).map (λi=>(i.zero,i.size,i.bytes))=ah (ah (.slice ag 0 0),1,24):=iF
theorem Kr (w:aH)(v:aU)(root:Nat)(N:List Nd)(inn sizes:List Int)(bt:jJ w v N)(hR:nN N)(hn:N.length<=4096)(bv:root<N.length)(hc:uM N root=ah (inn,sizes))(bw:∀x∈inn,0<=x/\x<(sizes.length:Int))(c7:sizes.length<=4096):
  dA aS 107 #[.agg #[v,.int .i64 root]] w λe w'=>e=.returned (.tuple #[.int .i64 (uS N root inn sizes).1,.bool (uS N root inn sizes).2])/\aV w.heap.size w w':=by
 have a6:=ae bt;have cs:=ae hR;have aD:=ae bw;have bx:=ae (λ(w':aH) (ct:jJ w' v N)=>VD w' v root N inn sizes ct hR hn bv hc);obtain⟨va,vc,rfl,c8,cv⟩:=bt;have bA:jJ (w.alloc (.cells #[.slice va N.length vc,.int .i64 root] 117)) (.slice va N.length vc) N:=a6.1.below (iW w _);have cw:PLift ((w.alloc (.cells #[.slice va N.length vc,.int .i64 root] 117)).heap[w.heap.size]?=ah (.cells #[.slice va N.length vc,.int .i64 root] 117)):=⟨aP w _⟩;have cx:=ae (bx.1 _ bA);clear cv hR hc bw bA bx
 as_aux_lemma=>
 go_enter Tryz.func107,Tryz.ntmps107
 as_aux_lemma=>
 go_wp2_with(go_at_call 122;refine(cx.1).mono ?_;rintro e f ⟨aE,base,c9,rfl,bB,cy,cz,r,bE,a7⟩;obtain⟨da,db,rfl⟩:=mW a7;have bL:=ae bB;have aF:=ae bE;have cA:=ae a7;have ac:=ae r;clear bB bE a7 cy cz r)
 have cB:(w.alloc (.cells #[.slice va N.length vc,.int .i64 root] 117)).heap.size=w.heap.size+1:=jl _ _;have I:PLift (aV w.heap.size w f):=⟨(iW w _).trans (bL.1.mono iE)⟩;have aG:PLift (f.heap[w.heap.size]?=ah (.cells #[.slice va N.length vc,.int .i64 root] 117)):=⟨by rw[bL.1.block _ iE];exact cw.1⟩;have dc:=ae (a6.1.below I.1)
 have dd:∀C:aH,(bn 36 (.int .i64 (sizes.length:Int)) (.int .i64 (sizes.length:Int))).run aS C=.ok (.slice (ah ⟨C.heap.size,0,ag⟩) sizes.length sizes.length) (C.alloc (.cells (aC sizes.length (.int .i64 0)) 3)):=λC=>by rw[bF 36 3 (.int .i64 0) 8 cZ su rfl .i64 .i64 sizes.length iE iE C,sD]
 have de:∀C:aH,(bn 157 (.int .i64 (sizes.length:Int)) (.int .i64 (sizes.length:Int))).run aS C=.ok (.slice (ah ⟨C.heap.size,0,ag⟩) sizes.length sizes.length) (C.alloc (.cells (aC sizes.length (.slice ag 0 0)) 36)):=λC=>by rw[bF 157 36 (.slice ag 0 0) 24 dI Kq rfl .i64 .i64 sizes.length iE iE C,sD]
 clear cB
 as_aux_lemma=>
 go_wp2;go_simp;go_wp2;go_simp;go_wp2
 go_loopw [31] (λB wr=>∃(j:Nat) (M:List (List Int)) (J:List aU),B=.int .i64 j/\j<=N.length/\M=(dh j).foldl (Ag inn) (ax sizes.length [])/\Fb j M/\DW f f.heap.size sizes.length M J (ax sizes.length 0) wr) (λB _=>N.length - (intOf B).toNat)
 case atStart=>exact⟨0,_,_,rfl,aZ _,rfl,(λL P=>by rw[(List.mem_replicate.1 P).2];exact⟨dw _,λx hx=>by cases hx⟩),VE f sizes.length⟩
 case round=>
  as_aux_lemma=>
  obtain⟨j,M,J,rfl,df,bM,bN,bO⟩:=hrel;have bR:=ae bM;have aL:=ae bN;have s:=ae bO;clear bM bN bO;by_cases cC:j<N.length
  ·have dg:(j:Int)<(N.length:Int):=iE
   have a8:j<inn.length:=(by rw[ac.1];exact cC);have Q:wr.cell? ⟨aE,j,ag⟩=ah (.int .i64 (inn.getD j 0)):=iU s.1.below (kJ aF.1 a8);have K:=aD.1 (inn.getD j 0) (by rw[az,aA a8];exact aK a8);have aM:PLift (Ag inn M j=M.set (inn.getD j 0).toNat (M.getD (inn.getD j 0).toNat []++[(j:Int)])):=⟨rfl⟩;generalize inn.getD j 0=x at Q K aM;obtain⟨c,rfl⟩:=aN K.1;have h:c<sizes.length:=(by have:=K.2;omega);have cD:(c:Int)<(sizes.length:Int):=K.2;simp only[aW]at aM;have G:=s.1.rows c h;obtain⟨A,ad,hv⟩:=mW G;rw[hv]at G;have R:=ae hv
   have a9:wr.cell? ⟨f.heap.size+1,c,ag⟩=ah (.slice A (M.getD c []).length ad):=by rw[ay s.1.mrow,<-hv,az,aA (by rw[s.1.vl];exact h)];simp[s.1.vl,h]
   have ba:PLift ((M.getD c []).length<=4096):=by refine⟨?_⟩;rw[az,aA (by rw[s.1.ml];exact h)];have:=(aL.1 _ (aK (by rw[s.1.ml];exact h))).1;exact bP this iE
   obtain⟨L,P⟩:=iC (M.getD c []);rw[P]at G a9 aM ba R;have bS:=ae (World.ownsRow.alloc G (.cells #[.int .i64 j] 3));have cE:PLift (f.heap.size+2<=(wr.alloc (.cells #[.int .i64 j] 3)).heap.size):=⟨by rw[jl];have:=block_lt s.1.mrow;omega⟩;have cF:PLift ((wr.alloc (.cells #[.int .i64 j] 3)).cell? ⟨wr.heap.size,0,ag⟩=ah (.int .i64 j)):=⟨(ay (aP wr _) 0).trans rfl⟩;obtain⟨cG,bX,b0,b1,b2⟩:=info_parts su;have aR:=ae (And.intro bX (And.intro b0 (And.intro b1 b2)));clear G hv P K bX b0 b1 b2
   as_aux_lemma=>
   go_wp2_with(refine wG _ rfl _ _ 36 rfl (f.heap.size+2) 3 cG (.int .i64 0) 1 8 cZ aR.1.1 aR.1.2.1 aR.1.2.2.1 aR.1.2.2.2 rfl iG (.slice A L.length ad) L.length (L.map (bu .i64)) rfl bS.1 ⟨wr.heap.size,0,ag⟩ 1 1 [.int .i64 j] rfl rfl (by intro j2 u ab;match j2,ab with|0,ab=>simp only[dm,Option.some.injEq]at ab;subst ab;exact cF.1|j2+1,ab=>simp at ab) (by simp[dN]) iG (by have:=ba.1;unfold maxLen;omega) (by have:=ba.1;omega) cE.1 ?_)
   intro v' a0 bb bc b3;have b4:∀k,v'.ownBlock=ah k->(J.getD c jr).ownBlock=ah k\/(wr.alloc (.cells #[.int .i64 j] 3)).heap.size<=k:=λk b5=>by rw[jl,R.1];exact b3 k b5
   have ai:=ae ((s.1.alloc (.cells #[.int .i64 j] 3)).push h (L++[(j:Int)]) v' a0 (by rw[R.1];exact bc) (by simpa using bb) b4)
   have bd:a0.heap[f.heap.size+1]?=ah (.cells J.toArray 36):=by rw[bc.block _ (block_lt (s.1.alloc (.cells #[.int .i64 j] 3)).mrow) (λe=>by have:=(bS.1.lt _ e.symm).1;omega)];exact(s.1.alloc (.cells #[.int .i64 j] 3)).mrow
   have dj:a0.cell? ⟨f.heap.size+1,c,ag⟩=ah (.slice A L.length ad):=by rw[ay bd,<-R.1,az,aA (by rw[s.1.vl];exact h)];simp[s.1.vl,h]
   have dk:∀o,a0.frozen? ⟨f.heap.size+1,o,ag⟩=aI:=λo=>aJ bd o
   obtain⟨dl,dp,cH⟩:=mW bb;subst cH;clear bb bc b3 b4 bd
   as_aux_lemma=>
   go_wp2;go_roundw
   case rel=>exact⟨j+1,_,_,by go_num,iE,by rw[dM,aX,<-bR.1];rfl,VF aL.1,by rw[aM.1];exact ai.1⟩
   case measure=>simp[intOf];omega
  ·obtain rfl:j=N.length:=iE
   as_aux_lemma=>
   have cI:PLift (M=E8 inn sizes.length):=⟨by rw[bR.1];unfold E8;rw[ac.1]⟩
   as_aux_lemma=>
   go_wp2
   go_loopw [6,49] (λO be wr=>∃(c:Nat) (st:List Int×Bool),be=.int .i64 c/\c<=sizes.length/\O=.bool st.2 /\st=(dh c).foldl (Ah N inn M sizes) (ax sizes.length 0,di)/\DW f f.heap.size sizes.length M J st.1 wr) (λ_ be _=>sizes.length - (intOf be).toNat)
   case atStart=>exact⟨0,(ax sizes.length 0,di),rfl,aZ _,rfl,rfl,s.1⟩
   case round=>
    as_aux_lemma=>
    obtain⟨c,D,rfl,hc,rfl,b6,b7⟩:=hrel;have b8:=ae b6;have t:=ae b7;clear b6 b7;by_cases h:c<sizes.length
    ·have cD:(c:Int)<(sizes.length:Int):=iE
     obtain⟨A,ad,hv⟩:=mW (t.1.rows c h);have R:=ae hv
     have a9:wr.cell? ⟨f.heap.size+1,c,ag⟩=ah (.slice A (M.getD c []).length ad):=by rw[ay t.1.mrow,<-hv,az,aA (by rw[t.1.vl];exact h)];simp[t.1.vl,h]
     have b9:PLift (∀x∈M.getD c [],0<=x/\x<(N.length:Int)):=by refine⟨?_⟩;rw[az,aA (by rw[t.1.ml];exact h)];exact(aL.1 _ (aK (by rw[t.1.ml];exact h))).2
     have cJ:(M.getD c []).length<=4096:=by rw[az,aA (by rw[t.1.ml];exact h)];have:=(aL.1 _ (aK (by rw[t.1.ml];exact h))).1;exact bP this iE
     obtain⟨L,P⟩:=iC (M.getD c []);have ca:=ae P;rw[P]at a9 b9 R cJ;clear hv P
     as_aux_lemma=>
     go_wp2
     go_loopw [6,57] (λO a1 wr=>∃(k:Nat) (st:List Int×Bool),a1=.int .i64 k/\k<=L.length/\O=.bool st.2 /\st=(L.take k).foldl (xI N inn c) D/\DW f f.heap.size sizes.length M J st.1 wr) (λ_ a1 _=>L.length - (intOf a1).toNat)
     case atStart=>exact⟨0,D,rfl,aZ _,rfl,rfl,t.1⟩
     case round=>
      as_aux_lemma=>
      obtain⟨k,m,rfl,b5,rfl,cb,cc⟩:=hrel;have cd:=ae cb;have H:=ae cc;clear cb cc;by_cases bf:k<L.length
      ·have dq:(k:Int)<(L.length:Int):=iE
       have G:=H.1.rows c h;rw[R.1,ca.1]at G;obtain⟨g,dr,cK,-⟩:=EY G iE;injection cK with hA _ bg;subst hA bg;have cL:wr.cell? ⟨g,k,ag⟩=ah (.int .i64 L[k]):=EZ G (by rw[dK,aA bf];rfl);have hx:=b9.1 L[k] (aK bf);have ce:PLift ((L.take (k+1)).foldl (xI N inn c) D=xI N inn c m L[k]):=⟨by rw[aQ bf,aX,<-cd.1];rfl⟩;generalize L[k]=x at cL hx ce;obtain⟨a,rfl⟩:=aN hx.1;have ha:a<N.length:=(by have:=hx.2;omega);have ds:(a:Int)<(N.length:Int):=hx.2;have cM:=a6.1;obtain⟨dt,du,cN,cO,cP⟩:=cM;injection cN with e1 _ e3;subst e1 e3;rcases cP with ak|⟨b,o,rfl,cf⟩
       ·exfalso;rw[ak]at ha;exact dn _ ha
       have cg:=cf a N[a] (aA ha);have K:=cs.1 N[a] (aK ha)
       have ch:PLift ((L.take (k+1)).foldl (xI N inn c) D=N[a].items.foldl (mX inn c) (N[a].keys.foldl (mX inn c) m)):=by refine⟨?_⟩;rw[ce.1];unfold xI;simp only[aW];rw[show N.getD a nd0=N[a]from by rw[az,aA ha];rfl]
       generalize N[a]=n at cg K ch;have ci:=ae K;have bh:=I.1.trans (H.1.below.mono I.1.size);obtain⟨a1,B,cQ,cR,cS,cj,ck,a2,a3⟩:=cg;obtain⟨S,T,rfl,dv,a2⟩:=a2;obtain⟨U,V,rfl,dx,a3⟩:=a3;have cT:=ae a2;have cU:=ae a3;have dy:=iU bh cj;have dz:=iU bh ck
       have dS:wr.cell? ⟨w.heap.size,0,ag⟩=ah (.slice (ah ⟨b,o,ag⟩) N.length vc):=by rw[dB (H.1.below.block _ (block_lt aG.1)),ay aG.1];rfl
       clear cf K bh cQ cR cS cj ck a2 a3 hx G cO
       as_aux_lemma=>
       go_upto_region 16 with fail
       go_region;obtain⟨E,cl⟩:=iC wr.heap.size;have cm:PLift (f.heap.size<E):=⟨by rw[<-cl];exact block_lt H.1.mY⟩;have cV:=ae ((H.1.drew).alloc (.cells #[.slice S n.keys.length T,.slice U n.items.length V] 36));have cW:PLift ((wr.drew.alloc (.cells #[.slice S n.keys.length T,.slice U n.items.length V] 36)).heap[E]?=ah (.cells #[.slice S n.keys.length T,.slice U n.items.length V] 36)):=⟨by rw[<-cl];exact aP wr.drew _⟩
       as_aux_lemma=>
       go_wp2
       go_loopw [6,75] (λO al wr=>∃st:List Int×Bool,O=.bool st.2 /\((al=.int .i64 0/\st=m)\/(al=.int .i64 1/\st=n.keys.foldl (mX inn c) m)\/(al=.int .i64 2/\st=n.items.foldl (mX inn c) (n.keys.foldl (mX inn c) m)))/\DW f f.heap.size sizes.length M J st.1 wr/\wr.heap[E]?=ah (.cells #[.slice S n.keys.length T,.slice U n.items.length V] 36)) (λ_ al _=>2 - (intOf al).toNat)
       case atStart=>exact⟨_,rfl,.inl ⟨rfl,rfl⟩,cV.1,cW.1⟩
       case round=>
        as_aux_lemma=>
        obtain⟨dT,rfl,cX,cn,a4⟩:=hrel;have d0:wr.cell? ⟨E,0,ag⟩=ah (.slice S n.keys.length T):=(ay a4 0).trans rfl;have d1:wr.cell? ⟨E,1,ag⟩=ah (.slice U n.items.length V):=(ay a4 1).trans rfl;have ai:=ae cn;have co:=ae a4;clear cn a4;rcases cX with⟨rfl,bi⟩|⟨rfl,rfl⟩|⟨rfl,rfl⟩
        ·have bi:=bi.symm
         subst bi
         as_aux_lemma=>
         go_wp2
         go_loopw [6,81] (λO B wr=>∃(i:Nat) (st:List Int×Bool),B=.int .i64 i/\i<=n.keys.length/\O=.bool st.2 /\st=(n.keys.take i).foldl (mX inn c) m/\DW f f.heap.size sizes.length M J st.1 wr/\wr.heap[E]?=ah (.cells #[.slice S n.keys.length T,.slice U n.items.length V] 36)) (λ_ B _=>n.keys.length - (intOf B).toNat)
         case atStart=>exact⟨0,_,rfl,aZ _,rfl,rfl,ai.1,co.1⟩
         case round=>
          as_aux_lemma=>
          obtain⟨i,d,rfl,hi,rfl,am,an,ao⟩:=hrel;have ap:=ae am;have l:=ae an;have W:=ae ao;clear am an ao;by_cases r:i<n.keys.length
          ·have cY:(i:Int)<(n.keys.length:Int):=iE
           have hx:=ci.1.1 n.keys[i] (aK r);rcases cT.1 with ak|⟨c0,lo,rfl,X⟩
           ·exfalso;rw[ak]at r;exact dn _ r
           have bj:=iU (I.1.trans (l.1.below.mono I.1.size)) (X i n.keys[i] (aA r));have Y:PLift ((n.keys.take (i+1)).foldl (mX inn c) m=mX inn c d n.keys[i]):=⟨by rw[aQ r,aX,<-ap.1];rfl⟩;generalize n.keys[i]=x at hx bj Y;obtain⟨q,rfl⟩:=aN hx.1;have bk:q<N.length:=(by have:=hx.2;omega);have c1:(q:Int)<(N.length:Int):=hx.2;have Z:q<inn.length:=(by rw[ac.1];exact bk);have Q:wr.cell? ⟨aE,q,ag⟩=ah (.int .i64 (inn.getD q 0)):=iU l.1.below (kJ aF.1 Z);have hy:=aD.1 (inn.getD q 0) (by rw[az,aA Z];exact aK Z);have p:PLift (mX inn c d (q:Int)=if inn.getD q 0=(c:Int)then(d.1,aI)else(d.1.set c (max (d.1.getD c 0) (d.1.getD (inn.getD q 0).toNat 0)),d.2)):=⟨rfl⟩;generalize inn.getD q 0=cp at Q hy p;obtain⟨y,rfl⟩:=aN hy.1;have aq:y<sizes.length:=(by have:=hy.2;omega);have cq:(y:Int)<(sizes.length:Int):=hy.2;simp only[aW]at p;have c2:=ae X;clear X hx hy;by_cases z:(y:Int)=(c:Int)
           ·have bm:((y:Int)==(c:Int))=di:=by simpa using z
            rw[gY z]at p;clear z
            as_aux_lemma=>
            go_wp2;go_roundw
            case rel=>exact⟨i+1,(d.1,aI),by go_num,iE,rfl,by rw[Y.1,p.1],l.1,W.1⟩
            case measure=>simp[intOf];omega
           ·have bm:((y:Int)==(c:Int))=aI:=by simpa using z
            rw[gZ z]at p;have ar:wr.cell? ⟨f.heap.size,c,ag⟩=ah (.int .i64 (d.1.getD c 0)):=kJ l.1.mY (by rw[l.1.bl];exact h);have av:wr.cell? ⟨f.heap.size,y,ag⟩=ah (.int .i64 (d.1.getD y 0)):=kJ l.1.mY (by rw[l.1.bl];exact aq);have cr:∀o,wr.frozen? ⟨f.heap.size,o,ag⟩=aI:=λo=>aJ l.1.mY o
            have F:=ae ((l.1.setB c (max (d.1.getD c 0) (d.1.getD y 0))).drew);generalize d.1.getD c 0=aw at ar F p;generalize d.1.getD y 0=aa at av F p;clear z
            as_aux_lemma=>
            go_upto_region 24 with fail
            go_region;go_wp2;go_roundw
            case rel=>exact⟨i+1,(d.1.set c (max aw aa),d.2),by go_num,iE,rfl,by rw[Y.1,p.1],F.1,by show(wr.setCell _ _).heap[E]?=_;rw[jm _ (by have:=cm.1;omega)];exact W.1⟩
            case measure=>simp[intOf];omega
          ·obtain rfl:i=n.keys.length:=iE
           have bo:PLift (d=n.keys.foldl (mX inn c) m):=⟨by rw[ap.1,bJ]⟩
           as_aux_lemma=>
           go_wp2;go_roundw
           case rel=>exact⟨d,rfl,.inr (.inl ⟨rfl,bo.1⟩),l.1,W.1⟩
           case measure=>decide
        ·as_aux_lemma=>
         go_wp2
         go_loopw [6,81] (λO B wr=>∃(i:Nat) (st:List Int×Bool),B=.int .i64 i/\i<=n.items.length/\O=.bool st.2 /\st=(n.items.take i).foldl (mX inn c) (n.keys.foldl (mX inn c) m)/\DW f f.heap.size sizes.length M J st.1 wr/\wr.heap[E]?=ah (.cells #[.slice S n.keys.length T,.slice U n.items.length V] 36)) (λ_ B _=>n.items.length - (intOf B).toNat)
         case atStart=>exact⟨0,_,rfl,aZ _,rfl,rfl,ai.1,co.1⟩
         case round=>
          as_aux_lemma=>
          obtain⟨i,d,rfl,hi,rfl,am,an,ao⟩:=hrel;have ap:=ae am;have l:=ae an;have W:=ae ao;clear am an ao;by_cases r:i<n.items.length
          ·have cY:(i:Int)<(n.items.length:Int):=iE
           have hx:=ci.1.2 n.items[i] (aK r);rcases cU.1 with ak|⟨c0,lo,rfl,X⟩
           ·exfalso;rw[ak]at r;exact dn _ r
           have bj:=iU (I.1.trans (l.1.below.mono I.1.size)) (X i n.items[i] (aA r));have Y:PLift ((n.items.take (i+1)).foldl (mX inn c) (n.keys.foldl (mX inn c) m)=mX inn c d n.items[i]):=⟨by rw[aQ r,aX,<-ap.1];rfl⟩;generalize n.items[i]=x at hx bj Y;obtain⟨q,rfl⟩:=aN hx.1;have bk:q<N.length:=(by have:=hx.2;omega);have c1:(q:Int)<(N.length:Int):=hx.2;have Z:q<inn.length:=(by rw[ac.1];exact bk);have Q:wr.cell? ⟨aE,q,ag⟩=ah (.int .i64 (inn.getD q 0)):=iU l.1.below (kJ aF.1 Z);have hy:=aD.1 (inn.getD q 0) (by rw[az,aA Z];exact aK Z);have p:PLift (mX inn c d (q:Int)=if inn.getD q 0=(c:Int)then(d.1,aI)else(d.1.set c (max (d.1.getD c 0) (d.1.getD (inn.getD q 0).toNat 0)),d.2)):=⟨rfl⟩;generalize inn.getD q 0=cp at Q hy p;obtain⟨y,rfl⟩:=aN hy.1;have aq:y<sizes.length:=(by have:=hy.2;omega);have cq:(y:Int)<(sizes.length:Int):=hy.2;simp only[aW]at p;have c2:=ae X;clear X hx hy;by_cases z:(y:Int)=(c:Int)
           ·have bm:((y:Int)==(c:Int))=di:=by simpa using z
            rw[gY z]at p;clear z
            as_aux_lemma=>
            go_wp2;go_roundw
            case rel=>exact⟨i+1,(d.1,aI),by go_num,iE,rfl,by rw[Y.1,p.1],l.1,W.1⟩
            case measure=>simp[intOf];omega
           ·have bm:((y:Int)==(c:Int))=aI:=by simpa using z
            rw[gZ z]at p;have ar:wr.cell? ⟨f.heap.size,c,ag⟩=ah (.int .i64 (d.1.getD c 0)):=kJ l.1.mY (by rw[l.1.bl];exact h);have av:wr.cell? ⟨f.heap.size,y,ag⟩=ah (.int .i64 (d.1.getD y 0)):=kJ l.1.mY (by rw[l.1.bl];exact aq);have cr:∀o,wr.frozen? ⟨f.heap.size,o,ag⟩=aI:=λo=>aJ l.1.mY o
            have F:=ae ((l.1.setB c (max (d.1.getD c 0) (d.1.getD y 0))).drew);generalize d.1.getD c 0=aw at ar F p;generalize d.1.getD y 0=aa at av F p;clear z
            as_aux_lemma=>
            go_upto_region 24 with fail
            go_region;go_wp2;go_roundw
            case rel=>exact⟨i+1,(d.1.set c (max aw aa),d.2),by go_num,iE,rfl,by rw[Y.1,p.1],F.1,by show(wr.setCell _ _).heap[E]?=_;rw[jm _ (by have:=cm.1;omega)];exact W.1⟩
            case measure=>simp[intOf];omega
          ·obtain rfl:i=n.items.length:=iE
           have bo:PLift (d=n.items.foldl (mX inn c) (n.keys.foldl (mX inn c) m)):=⟨by rw[ap.1,bJ]⟩
           as_aux_lemma=>
           go_wp2;go_roundw
           case rel=>exact⟨d,rfl,.inr (.inr ⟨rfl,bo.1⟩),l.1,W.1⟩
           case measure=>decide
        ·as_aux_lemma=>
         go_wp2;go_roundw
         case rel=>exact⟨k+1,_,by go_num,iE,rfl,ch.1.symm,ai.1⟩
         case measure=>simp[intOf];omega
      ·obtain rfl:k=L.length:=iE
       have c3:PLift (m=L.foldl (xI N inn c) D):=⟨by rw[cd.1,bJ]⟩;have bp:=cA.1;obtain⟨c4,d2,c5,-⟩:=EY bp iE;injection c5 with hA _ bg;subst hA bg;have bq:f.cell? ⟨c4,c,ag⟩=ah (.int .i64 (sizes.getD c 0)):=EZ bp (by rw[dK,aA h,az,aA h];rfl);have c6:=iU H.1.below bq;have ar:wr.cell? ⟨f.heap.size,c,ag⟩=ah (.int .i64 (m.1.getD c 0)):=kJ H.1.mY (by rw[H.1.bl];exact h);have cr:∀o,wr.frozen? ⟨f.heap.size,o,ag⟩=aI:=λo=>aJ H.1.mY o
       have F:=ae ((H.1.setB c (wrap64 (m.1.getD c 0+sizes.getD c 0))).drew)
       have br:PLift ((dh (c+1)).foldl (Ah N inn M sizes) (ax sizes.length 0,di)=(m.1.set c (wrap64 (m.1.getD c 0+sizes.getD c 0)),m.2)):=by refine⟨?_⟩;rw[dM,aX,<-b8.1];show Ah N inn M sizes D c=_;unfold Ah;rw[ca.1,<-c3.1]
       generalize m.1.getD c 0=aw at ar F br;generalize sizes.getD c 0=aa at bq c6 F br;clear bq bp
       as_aux_lemma=>
       go_upto_region 28 with fail
       go_region;go_wp2;go_roundw
       case rel=>exact⟨c+1,(m.1.set c (wrap64 (aw+aa)),m.2),by go_num,iE,rfl,br.1.symm,F.1⟩
       case measure=>simp[intOf];omega
    ·obtain rfl:c=sizes.length:=iE
     have bs:root<inn.length:=(by rw[ac.1];exact bv);have Q:wr.cell? ⟨aE,root,ag⟩=ah (.int .i64 (inn.getD root 0)):=iU t.1.below (kJ aF.1 bs);have hy:=aD.1 (inn.getD root 0) (by rw[az,aA bs];exact aK bs);have a5:PLift (uS N root inn sizes=(wrap64 (D.1.getD (inn.getD root 0).toNat 0 - 1),D.2)):=⟨by unfold uS;rw[<-cI.1,<-b8.1]⟩;generalize inn.getD root 0=cp at Q hy a5;obtain⟨y,rfl⟩:=aN hy.1;have aq:y<sizes.length:=(by have:=hy.2;omega);have cq:(y:Int)<(sizes.length:Int):=hy.2;simp only[aW]at a5;have av:wr.cell? ⟨f.heap.size,y,ag⟩=ah (.int .i64 (D.1.getD y 0)):=kJ t.1.mY (by rw[t.1.bl];exact aq)
     have d3:wr.cell? ⟨w.heap.size,1,ag⟩=ah (.int .i64 root):=by rw[dB (t.1.below.block _ (block_lt aG.1)),ay aG.1];rfl
     generalize D.1.getD y 0=aa at av a5;clear hy
     as_aux_lemma=>
     go_wp2;refine aO (v:=.tuple #[.int .i64 (wrap64 (aa - 1)),.bool D.2]) (by simp only[results,Tryz.results107];go_simp) rfl ?_;exact⟨by rw[a5.1],I.1.trans (t.1.below.mono I.1.size)⟩
structure TabAt (w:aH)(b r:Nat)(v:aU)(root:Int)(n:Nat)(E:List aU):Prop where
 box:w.heap[b]?=ah (.cells #[v,.int .i64 root,.slice (ah ⟨r,0,ag⟩) n n] 159)
 row:w.heap[r]?=ah (.cells E.toArray 36)
 len:E.length=n
 ne:b≠r
theorem Wn (w:aH)(v:aU)(root:Int)(N:List Nd)(k:jJ w v N)(hn:N.length<=4096):
  dA aS 74 #[.agg #[v,.int .i64 root]] w λe w'=>e=.returned (.pointer (ah ⟨w.heap.size+1+1,0,ag⟩))/\aV w.heap.size w w'/\TabAt w' (w.heap.size+1+1) (w.heap.size+1) v root N.length (ax N.length (.slice ag 0 0)):=by
 obtain⟨va,vc,rfl,p,l⟩:=k;clear l
 have q:∀a:aH,(bn 157 (.int .i64 (N.length:Int)) (.int .i64 (N.length:Int))).run aS a=.ok (.slice (ah ⟨a.heap.size,0,ag⟩) N.length N.length) (a.alloc (.cells (aC N.length (.slice ag 0 0)) 36)):=λa=>by rw[bF 157 36 (.slice ag 0 0) 24 dI Kq rfl .i64 .i64 N.length iE iE a,sD]
 as_aux_lemma=>
 go_enter Tryz.func74,Tryz.ntmps74
 as_aux_lemma=>
 go_upto_region 1 with fail
 have c:(w.alloc (.cells #[.slice va N.length vc,.int .i64 root] 117)).heap.size=w.heap.size+1:=jl _ _;have b:(w.alloc (.cells #[.slice va N.length vc,.int .i64 root] 117)).heap[w.heap.size]?=ah (.cells #[.slice va N.length vc,.int .i64 root] 117):=aP w _;have g:PLift (aV w.heap.size w (w.alloc (.cells #[.slice va N.length vc,.int .i64 root] 117))):=⟨iW w _⟩;obtain⟨W0,i⟩:=iC (w.alloc (.cells #[.slice va N.length vc,.int .i64 root] 117));rw[i]at c b g⊢;have m:W0.cell? ⟨w.heap.size,0,ag⟩=ah (.slice va N.length vc):=(ay b 0).trans rfl;have n:W0.cell? ⟨w.heap.size,1,ag⟩=ah (.int .i64 root):=(ay b 1).trans rfl;have r:=λd=>iU (iW W0 d) m
 have s:=λd=>iU (iW W0 d) n
 have f:=ae c;clear b c i
 as_aux_lemma=>
 go_region
 all_goals
  as_aux_lemma=>
  go_wp2;refine aO (v:=.pointer (ah ⟨W0.heap.size+1,0,ag⟩)) (by simp only[results,Tryz.results74];go_simp) rfl ?_;have j:w.heap.size<=W0.drew.heap.size:=by have t:=f.1;have u:W0.drew.heap.size=W0.heap.size:=rfl;omega
  have o:=((bz w.heap.size W0).drew.alloc j (.cells (aC N.length (.slice ag 0 0)) 36));refine⟨by rw[f.1],g.1.trans (o.alloc (bP j (by rw[jl];omega)) _),?_⟩;rw[<-f.1];refine⟨?_,?_,iH,iE⟩
  ·have h:=aP (W0.alloc (.cells (aC N.length (.slice ag 0 0)) 36)) (.cells #[.slice va N.length vc,.int .i64 root,.slice (ah ⟨W0.heap.size,0,ag⟩) N.length N.length] 159)
   rw[jl]at h;exact h
  ·have h:=aP W0 (.cells (aC N.length (.slice ag 0 0)) 36)
   rw[<-bG (W0.alloc (.cells (aC N.length (.slice ag 0 0)) 36)) (.cells #[.slice va N.length vc,.int .i64 root,.slice (ah ⟨W0.heap.size,0,ag⟩) N.length N.length] 159) _ (by rw[jl];omega)]at h;refine h.trans ?_;simp
theorem Am (B b:Nat)(l:List UInt8)(c:UInt8)(w:aH)(h:dD 51 5 B b (bZ l) w)(r:l.length+1<=140737488355328)(V:B<=w.heap.size):
  dA aS 92 #[.pointer (ah ⟨b,0,ag⟩),.int .u8 c.toNat] w λe w'=>e=.returned .nilIface/\(dD 51 5 B b (bZ (l++[c])) w'/\aV B w w'):=by
 obtain⟨J,s,t,x,y⟩:=info_parts xQ;have f:=ae (And.intro s (And.intro t (And.intro x y)));have K:=ae (Wl B b _ _ h);clear s t x y h
 as_aux_lemma=>
 go_enter Tryz.func92,Tryz.ntmps92
 as_aux_lemma=>
 go_upto_region 2 with(go_at_call 32;refine(K.1).mono ?_;rintro e a ⟨rfl,z,A⟩;have L:=ae z;have m:=ae A;clear z A)
 obtain⟨C,v,g,n,D⟩:=L.1;rw[dC]at n;have W:a.cell? ⟨b,0,ag⟩=ah (.pointer (ah ⟨b,0,ag⟩)):=by rw[ay g];rfl
 have X:a.cell? ⟨b,1,ag⟩=ah v:=by rw[ay g];rfl
 have E:=ae (World.ownsRow.alloc n (.cells #[.int .u8 c.toNat] 5));have F:=ae C;have G:=ae g;have M:=ae D;have H:PLift (B<=(a.alloc (.cells #[.int .u8 c.toNat] 5)).heap.size):=⟨by rw[jl];have:=m.1.size;omega⟩;have N:PLift ((a.alloc (.cells #[.int .u8 c.toNat] 5)).cell? ⟨a.heap.size,0,ag⟩=ah (.int .u8 c.toNat)):=⟨(ay (aP a _) 0).trans rfl⟩;have I:=ae r;clear n C g D r
 as_aux_lemma=>
 go_wp2_with(refine wG _ rfl _ _ 49 rfl B 5 J (.int .u8 0) 1 1 Tryz.underlying49 f.1.1 f.1.2.1 f.1.2.2.1 f.1.2.2.2 rfl iG v l.length (bZ l) rfl E.1 ⟨a.heap.size,0,ag⟩ 1 1 [.int .u8 c.toNat] rfl rfl (by intro j2 u d;match j2,d with|0,d=>simp only[dm,Option.some.injEq]at d;subst d;exact N.1|j2+1,d=>simp at d) (by simp[dN]) iG (by have:=I.1;unfold maxLen;omega) (by have:=I.1;omega) H.1 ?_)
 intro v' i o q O;have P:b<a.heap.size:=block_lt G.1
 have j:i.heap[b]?=ah (.cells #[.pointer (ah ⟨b,0,ag⟩),v] 51 (0,0)):=by rw[q.block b (by rw[jl];omega) (λe=>M.1 e.symm),bG _ _ _ P];exact G.1
 have Y:i.cell? ⟨b,1,ag⟩=ah v:=by rw[ay j];rfl
 have Z:i.frozen? ⟨b,1,ag⟩=aI:=aJ j 1;have Q:PLift (aV B a i):=⟨((bz B a).alloc (by have:=m.1.size;omega) _).grown q H.1 (λk R=>(E.1.lt k R).1)⟩;have S:=ae (Lib.BuilderAt.put (T:=51) (e:=5) F.1 j (bs':=bZ (l++[c])) (v':=v') (by rw[dC,Lib.byteCells_append,show(l++[c]).length=l.length+1 from by simp];exact o) iG);obtain⟨aa,ab,U⟩:=mW o;subst U;clear o q O j
 as_aux_lemma=>
 go_wp2;refine aO (v:=.nilIface) (by simp only[results,Tryz.results92];go_simp) rfl ?_;exact⟨rfl,.inr S.1,(m.1.trans Q.1).setCell (p:=⟨b,1,ag⟩) F.1 _⟩
def mF (c:UInt8):List UInt8:=if c=34\/c=92 then[92,c]else[c]
def quo (l:List UInt8):List UInt8:=(34::l.flatMap mF)++[34]
theorem Wp (l:List UInt8):(l.flatMap mF).length<=2*l.length:=by
 induction l with
 |nil=>simp
 |cons c l a=>
  rw[List.flatMap_cons,bV,bI];have:(mF c).length<=2:=by unfold mF;split<;>simp
  omega
theorem Wq {l:List UInt8}{i:Nat}(hi:i<l.length):(l.take (i+1)).flatMap mF=(l.take i).flatMap mF++mF l[i]:=by rw[aQ hi,List.flatMap_append,List.flatMap_singleton]
theorem Ws (s:ByteArray)(w:aH)(hs:s.size<=1073741824):
  dA aS 108 #[.string s] w λe w'=>e=.returned (.string ⟨(quo s.data.toList).toArray⟩)/\aV w.heap.size w w':=by
 have y:PLift (s.data.toList.length=s.size):=⟨iH⟩;have G:=ae (Am w.heap.size w.heap.size [] 34 (w.alloc (.cells #[.pointer ag,.slice ag 0 0] 51)) (Lib.fresh_isBuilder _ _ w) iH (by rw[jl];omega));have H:PLift (aV w.heap.size w (w.alloc (.cells #[.pointer ag,.slice ag 0 0] 51))):=⟨iW w _⟩
 as_aux_lemma=>
 go_enter Tryz.func108,Tryz.ntmps108
 as_aux_lemma=>
 go_wp2_with(go_at_call 92;refine(G.1).mono ?_;rintro e R ⟨rfl,g,z⟩;have I:=ae g;have J:=ae z;clear g z)
 go_loopw [8] (λq wr=>∃i:Nat,q=.int .i64 i/\i<=s.size/\dD 51 5 w.heap.size w.heap.size (byteCells (34::(s.data.toList.take i).flatMap mF)) wr/\aV w.heap.size w wr) (λq _=>s.size - (intOf q).toNat)
 case atStart=>exact⟨0,rfl,aZ _,I.1,H.1.trans J.1⟩
 case round=>
  as_aux_lemma=>
  obtain⟨i,rfl,hi,A,B⟩:=hrel;have f:=ae A;have a:=ae B;clear A B
  have c:PLift ((34::(s.data.toList.take i).flatMap mF).length<=2147483650):=by refine⟨?_⟩;have:=Wp (s.data.toList.take i);have C:(s.data.toList.take i).length<=i:=(by rw[List.length_take];omega);rw[bI];omega
  by_cases K:i<s.size
  ·have S:(i:Int)<(s.size:Int):=iE
   have M:i<s.data.toList.length:=(by rw[y.1];exact K);have p:=ae (Wq M);have r:s.data.toList[i]=s[i]:=rfl;rw[r]at p;generalize D:(s.data.toList.take i).flatMap mF=L at f c p;have t:=ae (Am w.heap.size w.heap.size (34::L) 92 wr f.1 (by have:=c.1;omega) a.1.size);have N:=ae (Am w.heap.size w.heap.size (34::L) s[i] wr f.1 (by have:=c.1;omega) a.1.size);by_cases d:s[i]=34\/s[i]=92
   ·have j:PLift (mF s[i]=[92,s[i]]):=⟨by unfold mF;rw[gY d]⟩
    have O:(((s[i].toNat:Int)==34)=di)\/(((s[i].toNat:Int)==34)=aI/\((s[i].toNat:Int)==92)=di):=by
     rcases d with h|h
     ·left;rw[h];decide
     ·right;rw[h];decide
    clear d D r;rcases O with g|⟨g,C⟩
    all_goals
     as_aux_lemma=>
     go_upto_region 8 with(go_at_call 92;refine(t.1).mono ?_;rintro e E ⟨rfl,k,l⟩;have u:=ae k;have m:=ae l;clear k l)
     have P:=ae (Am w.heap.size w.heap.size (34::L++[92]) s[i] E u.1 (by have:=c.1;simp only[bV,bI,dL]at this⊢;omega) (bP a.1.size m.1.size))
     as_aux_lemma=>
     go_wp2_with(go_at_call 92;refine(P.1).mono ?_;rintro e w3 ⟨rfl,n,b⟩;have x:=ae n;have o:=ae b;clear n b)
     go_roundw
     case rel=>exact⟨i+1,by go_num,iE,by rw[p.1,j.1];simpa using x.1,(a.1.trans m.1).trans o.1⟩
     case measure=>simp[intOf];omega
   ·have j:PLift (mF s[i]=[s[i]]):=⟨by unfold mF;rw[gZ d]⟩
    have g:((s[i].toNat:Int)==34)=aI:=by simp only[iy,ne_eq];intro h;exact d (.inl (UInt8.toNat_inj.1 (by have:(34:UInt8).toNat=34:=rfl;omega)))
    have C:((s[i].toNat:Int)==92)=aI:=by simp only[iy,ne_eq];intro h;exact d (.inr (UInt8.toNat_inj.1 (by have:(92:UInt8).toNat=92:=rfl;omega)))
    clear d D r
    as_aux_lemma=>
    go_wp2_with(go_at_call 92;refine(N.1).mono ?_;rintro e w3 ⟨rfl,n,b⟩;have x:=ae n;have o:=ae b;clear n b)
    go_roundw
    case rel=>exact⟨i+1,by go_num,iE,by rw[p.1,j.1];exact x.1,a.1.trans o.1⟩
    case measure=>simp[intOf];omega
  ·obtain rfl:i=s.size:=iE
   have j:PLift ((s.data.toList.take s.size).flatMap mF=s.data.toList.flatMap mF):=⟨by rw[<-y.1,bJ]⟩;rw[j.1]at f c;have F:PLift (quo s.data.toList=(34::s.data.toList.flatMap mF)++[34]):=⟨rfl⟩;generalize s.data.toList.flatMap mF=L at f c F;have t:=ae (Am w.heap.size w.heap.size (34::L) 34 wr f.1 (by have:=c.1;omega) a.1.size)
   as_aux_lemma=>
   go_upto_region 11 with(go_at_call 92;refine(t.1).mono ?_;rintro e E ⟨rfl,k,l⟩;have u:=ae k;have m:=ae l;clear k l)
   have Q:=ae (Tryz.Builder_String_any _ _ _ _ u.1 (bP a.1.size m.1.size))
   as_aux_lemma=>
   go_wp2_with(go_at_call 19;refine(Q.1).mono ?_;rintro e w3 ⟨rfl,b⟩;have o:=ae b;clear b)
   refine aO (v:=.string ⟨(34::L++[34]).toArray⟩) (by simp only[results,Tryz.results108];go_simp) rfl ?_;exact⟨by rw[F.1],(a.1.trans m.1).trans o.1⟩
def CY (n:Nd):ByteArray:=
 if n.kind=0 then⟨#[110,117,108,108]⟩else if n.kind=5 then⟨(quo n.text.data.toList).toArray⟩else if n.kind=7 then⟨#[64]⟩++n.text else if n.kind=8 then⟨#[37]⟩++n.text else n.text
theorem Wu (n:Nd)(w:aH)(b o:Nat)(hn:vH w b o n)(hs:n.text.size<=1073741824)(h:n.kind≠6):
  dA aS 91 #[.pointer (ah ⟨b,o,ag⟩)] w λe w'=>e=.returned (.string (CY n))/\aV w.heap.size w w':=by
 obtain⟨y,z,r,s,-⟩:=hn;have l:=ae (Ws n.text w hs);have a:PLift (CY n=if n.kind=0 then⟨#[110,117,108,108]⟩else if n.kind=5 then⟨(quo n.text.data.toList).toArray⟩else if n.kind=7 then⟨#[64]⟩++n.text else if n.kind=8 then⟨#[37]⟩++n.text else n.text):=⟨rfl⟩;generalize n.text=t at s l a hs;generalize n.kind=k at r h a;have i:(k==6)=aI:=by simpa using h
 have m:=ae hs;clear h hs;by_cases c:k=0
 ·subst c
  rw[gY rfl]at a
  as_aux_lemma=>
  go_enter bU,bQ;go_wp2;refine aO (v:=.string ⟨#[110,117,108,108]⟩) (by simp only[results,bC];go_simp) rfl ?_;exact⟨by rw[a.1],bz _ _⟩
 ·rw[gZ c]at a
  have j:(k==0)=aI:=by simpa using c
  by_cases d:k=5
  ·subst d
   rw[gY rfl]at a;clear c j i
   as_aux_lemma=>
   go_enter bU,bQ
   go_wp2_with(go_at_call 108;refine(l.1).mono ?_;rintro e A ⟨rfl,p⟩;have u:=ae p;clear p)
   refine aO (v:=.string ⟨(quo t.data.toList).toArray⟩) (by simp only[results,bC];go_simp) rfl ?_;exact⟨by rw[a.1],u.1⟩
  ·rw[gZ d]at a
   have q:(k==5)=aI:=(by simpa using d);by_cases f:k=7
   ·subst f
    rw[gY rfl]at a;clear c j i d q;have hs:=m.1
    as_aux_lemma=>
    go_enter bU,bQ;go_wp2;refine aO (v:=.string (⟨#[64]⟩++t)) (by simp only[results,bC];go_simp) rfl ?_;exact⟨by rw[a.1],bz _ _⟩
   ·rw[gZ f]at a
    have x:(k==7)=aI:=(by simpa using f);by_cases g:k=8
    ·subst g
     rw[gY rfl]at a;clear c j i d q f x;have hs:=m.1
     as_aux_lemma=>
     go_enter bU,bQ;go_wp2;refine aO (v:=.string (⟨#[37]⟩++t)) (by simp only[results,bC];go_simp) rfl ?_;exact⟨by rw[a.1],bz _ _⟩
    ·rw[gZ g]at a
     have B:(k==8)=aI:=(by simpa using g);clear c d f g
     as_aux_lemma=>
     go_enter bU,bQ;go_wp2;refine aO (v:=.string t) (by simp only[results,bC];go_simp) rfl ?_;exact⟨by rw[a.1],bz _ _⟩
structure LW (w0:aH)(v:aU)(root:Int)(rv:aU)(N:List Nd)(tb kb:Nat)(K:List Int)(w:aH):Prop where
 nodes:jJ w0 v N
 below:aV w0.heap.size w0 w
 tab:w.heap[tb]?=ah (.cells #[v,.int .i64 root,rv] 159)
 pR:w.heap[kb]?=ah (.cells (K.map (bu .i64)).toArray 3)
 xM:K.length=N.length
 lo:w0.heap.size<=kb
 ne:tb≠kb
section
variable {w0 w w':aH} {v rv:aU} {root:Int} {N:List Nd} {tb kb:Nat} {K:List Int}
theorem LW.below2 (h:LW w0 v root rv N tb kb K w)(a:aV w.heap.size w w'):LW w0 v root rv N tb kb K w':=
 {h with
  below:=h.below.trans (a.mono h.below.size)
  tab:=by rw[a.block _ (block_lt h.tab)];exact h.tab
  pR:=by rw[a.block _ (block_lt h.pR)];exact h.pR}
theorem LW.set (h:LW w0 v root rv N tb kb K w)(a:Nat)(x:Int):LW w0 v root rv N tb kb (K.set a x) (w.setCell ⟨kb,a,ag⟩ (.int .i64 x)):=
 {h with
  below:=h.below.setCell (p:=⟨kb,a,ag⟩) h.lo _
  tab:=by rw[jm _ h.ne];exact h.tab
  pR:=by simp[bY,aY,h.pR,dG]
  xM:=by simpa using h.xM}
end
theorem CZ {w w':aH}(h:aV w.heap.size w w')(r:Option Nat):w.grownBy w' r:=⟨h.os,h.tape,h.output,h.size,λk a _=>h.block k a⟩
theorem C9 {α β:Type}{g:β->α->Option β}{x:α}{l:List α}{s b:β}(h:(x::l).foldlM g s=ah b):∃a,g s x=ah a/\l.foldlM g a=ah b:=by
 rw[List.foldlM_cons]at h;cases c:g s x with
 |none=>rw[c]at h;cases h
 |some a=>rw[c]at h;exact⟨a,rfl,h⟩
def jw (w:aH)(a:Nat)(s:ByteArray)(pos:Nat)(b:aU):Prop:=w.heap[a]?=ah (.cells #[.string s,.int .i64 pos,b] 136)
structure Same (w w':aH):Prop where
 os:w'.os=w.os
 tape:w'.tape=w.tape
 output:w'.output=w.output
 heap:w'.heap=w.heap
theorem Same.below {w w':aH}(h:Same w w')(B:Nat):aV B w w':=⟨h.os,h.tape,h.output,by rw[h.heap];exact dw _,λk _=>by rw[h.heap]⟩
theorem Same.drewN {a b:aH}(h:Same a b)(n:Nat):Same a (b.drewN n):=⟨h.os,h.tape,h.output,h.heap⟩
theorem Same.refl (w:aH):Same w w:=⟨rfl,rfl,rfl,rfl⟩
def lI (s:ByteArray)(pos:Nat):Nat:=if h:pos<s.size then s[pos].toNat else 0
theorem next_any (w:aH)(a:Nat)(s:ByteArray)(pos:Nat)(c:aU)(hp:jw w a s pos c):
  dA aS 82 #[.pointer (ah ⟨a,0,ag⟩)] w λe w'=>e=.returned (.int .u8 (lI s pos))/\Same w w':=by
 have f:w.cell? ⟨a,0,ag⟩=ah (.string s):=(ay hp 0).trans rfl;have g:w.cell? ⟨a,1,ag⟩=ah (.int .i64 pos):=(ay hp 1).trans rfl;clear hp;by_cases h:pos<s.size
 ·have d:(pos:Int)<(s.size:Int):=iE
  have b:PLift (lI s pos=s[pos].toNat):=⟨by unfold lI;rw[dif_pos h]⟩
  as_aux_lemma=>
  go_enter dQ,dP;go_wp2
  go_quiet (fail)
  go_wp2
  go_quiet (fail)
  go_wp2;refine aO (v:=.int .u8 s[pos].toNat) (by simp only[results,dO];go_simp) rfl ?_;exact⟨by rw[b.1],by first|exact((Same.refl w).drewN _).drewN _|exact(Same.refl w).drewN _⟩
 ·have d:¬(pos:Int)<(s.size:Int):=iE
  have b:PLift (lI s pos=0):=⟨by unfold lI;rw[dif_neg h]⟩
  as_aux_lemma=>
  go_enter dQ,dP;go_wp2
  go_quiet (fail)
  go_wp2;refine aO (v:=.int .u8 0) (by simp only[results,dO];go_simp) rfl ?_;exact⟨by rw[b.1];rfl,by first|exact((Same.refl w).drewN _).drewN _|exact(Same.refl w).drewN _⟩
theorem Wv (w:aH)(a:Nat)(s:ByteArray)(pos:Nat)(f:aU)(c:UInt8)(hp:jw w a s pos f)(hs:s.size<=65536)(b:pos<s.size)(hc:s[pos]=c):
  dA aS 86 #[.pointer (ah ⟨a,0,ag⟩),.int .u8 c.toNat] w λe w'=>e=.returned (.tuple #[])/\∃d,Same w d/\w'=d.setCell ⟨a,1,ag⟩ (.int .i64 ((pos+1:Nat):Int)):=by
 have g:w.cell? ⟨a,0,ag⟩=ah (.string s):=(ay hp 0).trans rfl;have h:w.cell? ⟨a,1,ag⟩=ah (.int .i64 pos):=(ay hp 1).trans rfl;have i:∀o,w.frozen? ⟨a,o,ag⟩=aI:=λo=>aJ hp o
 have j:(pos:Int)<(s.size:Int):=iE
 have k:decide ((pos:Int)≥(s.size:Int))=aI:=by simpa using b
 have l:decide ((s.size:Int)<=(pos:Int))=aI:=by simpa using b
 subst hc;clear hp
 as_aux_lemma=>
 go_enter Tryz.func86,Tryz.ntmps86;go_wp2
 go_quiet (fail)
 go_wp2;go_end0;exact⟨rfl,_,(Same.refl w).drewN _,rfl⟩
end Go.Proofs.YthcalnnipjflkaaGreatDoor
