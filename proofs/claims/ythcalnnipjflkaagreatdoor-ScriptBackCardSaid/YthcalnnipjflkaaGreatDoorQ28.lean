import Derived.Test.YthcalnnipjflkaaGreatDoorP27
open PLift renaming up -> ae
open Go.Lib renaming cell_of_heap -> af, frozen_of_heap -> aI, hasPrefix -> aK, trimPrefix -> aN, hid -> aQ, alloc_old -> bC, toList_data -> dI
open Option renaming none -> ag, some -> au, isSome_some -> bJ, getD_some -> bQ, isSome_iff_exists -> bU
open List renaming replicate -> ah, getD_eq_getElem?_getD -> aH, length_cons -> aJ, length_drop -> aW, replicate_succ -> aX, mem_cons_self -> aY, append_assoc -> bu, mem_cons_of_mem -> bF, getElem?_eq_getElem -> bP, getElem?_replicate -> bV, append_nil -> bW, length -> bY, take_of_length_le -> bZ, mem_append_left -> dm, length_pos_iff -> dw, getElem?_map -> dC, cons_ne_nil -> dF, cons_append -> dG, length_nil -> dH, range -> eu
open Bool renaming false -> aj, and_eq_true -> az, true -> aB, false_and -> bH, true_and -> dn, and_false -> dJ, and_self -> dK
open Nat renaming le_refl -> ax, le_trans -> aV, lt_of_lt_of_le -> bI, lt_succ_self -> bK, add_assoc -> dL, sub_self -> dN
open Go renaming World -> ay, bodyPost_ret -> aC, heap_alloc_new -> aP, Calls -> aS, Value -> aT, Ending -> dP
open Go.Proofs.Tryz renaming prog -> aA, results48 -> aZ, results58 -> bG, ntmps25 -> bT, func25 -> cu, results73 -> cZ, results64 -> dh, ntmps73 -> dA, ntmps48 -> dB, func73 -> dD, func48 -> dE, ntmps64 -> dM, ntmps58 -> dQ, ntmps53 -> dR, ntmps23 -> dU, ntmps27 -> dV, func64 -> dW, func58 -> dX, func53 -> dY, func23 -> dZ, func27 -> ed
open Int renaming toNat_natCast -> aO, eq_ofNat_of_zero_le -> bn
open Array renaming getElem?_eq_some_iff -> aU, toList_extract -> bD, getElem?_modify -> di
open ByteArray renaming data_extract -> bz
set_option linter.all false
set_option maxHeartbeats 8000000
set_option maxRecDepth 100000
namespace Go.Proofs.YthcalnnipjflkaaGreatDoor
open Go.RowKit Go.Sort
open Go.Lib hiding intOf
theorem FO {N:List Nd}{root:Int}(h:o9 N root=0):N.length<=4096/\0<=root/\root<(N.length:Int)/\nN N/\(∀i,i<N.length->rV N root.toNat i=aj)/\(∀i,i<N.length->tJ N root.toNat i=aj):=by
 unfold o9 at h;by_cases f:4096<N.length
 ·rw[gY f]at h;exact absurd h iG
 rw[gZ f]at h;by_cases g:N.length=0
 ·rw[gY g]at h;exact absurd h iG
 rw[gZ g]at h;by_cases d:vI N root=aj
 ·rw[gY d]at h;exact absurd h iG
 rw[gZ d]at h;by_cases e:(eu N.length).any (rV N root.toNat)=aB
 ·rw[gY e]at h;exact absurd h iG
 rw[gZ e]at h;by_cases j:(eu N.length).any (tJ N root.toNat)=aB
 ·rw[gY j]at h;exact absurd h iG
 obtain⟨a,b,c⟩:=Ll (N:=N) (root:=root) (by cases k:vI N root with|true=>rfl|false=>exact absurd k d);exact⟨iE,a,b,c,λi hi=>Dq (by simpa using e) hi,λi hi=>Dq (by simpa using j) hi⟩
theorem X4 {N:List Nd}{root:Int}(h:o9 N root=0):uM N root.toNat=au ((qA N root.toNat).1,(qA N root.toNat).2)/\(∀x∈(qA N root.toNat).1,0<=x/\x<((qA N root.toNat).2.length:Int))/\(qA N root.toNat).2.length<=4096:=by
 obtain⟨c,g,j,d,f,_⟩:=FO h
 obtain⟨inn,sizes,e,a,b⟩:=Lj N root.toNat d c iE (λi hi=>by have:=f i hi;unfold rV at this;rw[Bool.or_eq_false_iff,Bool.not_eq_false']at this;exact this.1)
 rw[show qA N root.toNat=(inn,sizes) by unfold qA;rw[e];rfl];exact⟨e,a,b⟩
def rW (N:List Nd)(root:Int):Int×Bool:=uS N root.toNat (qA N root.toNat).1 (qA N root.toNat).2
theorem X5 (w:ay)(v:aT)(root:Int)(N:List Nd)(k:jJ w v N)(hF:yS N)(l:∀n∈N,n.text.size<=70000)(m:jM w)(o:Ar N root.toNat)(c:o9 N root=0):
  aS aA 90 #[.agg #[v,.int .i64 root]] w λe w'=>e=.returned (.tuple #[.int .i64 (rW N root).1,.bool (rW N root).2])/\Below w.heap.size w w':=by
 have g:jJ (w.alloc (.cells #[v,.int .i64 root] 117)) v N:=k.below (iW w _);have p:=ae (Lm _ v root N g hF l (m.below (iW w _)) o);rw[c]at p;have h:=FO c;have hc:=X4 c;obtain⟨rt,rfl⟩:=bn h.2.1;rw[aO]at hc;have a:=ae (iJ h hc);have y:=ae g;obtain⟨va,vc,rfl,C,z⟩:=k;have q:PLift ((w.alloc (.cells #[.slice va N.length vc,.int .i64 (rt:Nat)] 117)).heap[w.heap.size]?=au (.cells #[.slice va N.length vc,.int .i64 (rt:Nat)] 117)):=⟨aP w _⟩;have i:PLift (Below w.heap.size w (w.alloc (.cells #[.slice va N.length vc,.int .i64 (rt:Nat)] 117))):=⟨iW w _⟩;clear h hc g z hF l m o c
 as_aux_lemma=>
 go_enter Tryz.func90,Tryz.ntmps90
 as_aux_lemma=>
 go_upto_region 3 with(go_at_call 89;refine(p.1).mono ?_;rintro e d ⟨rfl,r⟩;have f:=ae r;clear r)
 have s:PLift (d.heap[w.heap.size]?=au (.cells #[.slice va N.length vc,.int .i64 (rt:Nat)] 117)):=⟨by rw[f.1.block _ (block_lt q.1)];exact q.1⟩;have A:=ae (y.1.below f.1);have t:=ae (Kr d (.slice va N.length vc) rt N _ _ A.1 a.1.1.2.2.2.1 a.1.1.1 (by have:=a.1.1.2.2.1;omega) a.1.2.1 a.1.2.2.1 a.1.2.2.2);obtain⟨dd,hdd⟩:=iC ((rW N (rt:Nat)).1 );obtain⟨j,b⟩:=iC ((rW N (rt:Nat)).2 );have u:=ae (iJ hdd b);unfold rW at hdd b;rw[aO]at hdd b;rw[hdd,b]at t;clear hdd b;have D:=iK s.1 0 (.slice va N.length vc);have E:=iK s.1 1 (.int .i64 (rt:Nat))
 as_aux_lemma=>
 go_wp2_with(go_at_call 107;refine(t.1).mono ?_;rintro e F ⟨rfl,x⟩;have B:=ae x;clear x)
 refine aC (v:=.tuple #[.int .i64 dd,.bool j]) (by simp only[results,Tryz.results90];go_simp) rfl ?_;exact⟨by rw[u.1.1,u.1.2],(i.1.trans (f.1.mono i.1.size)).trans (B.1.mono (aV i.1.size f.1.size))⟩
noncomputable def qB (N:List Nd)(root:Int):Int:=if o9 N root=0 then(if(rW N root).2 =aB then 0 else 14)else 3
theorem X6 (w:ay)(v:aT)(root:Int)(N:List Nd)(B:jJ w v N)(hF:yS N)(p:∀n∈N,n.text.size<=70000)(q:jM w)(r:Ar N root.toNat):
  aS aA 73 #[.agg #[v,.int .i64 root]] w λe w'=>e=.returned (.int .i64 (qB N root))/\Below w.heap.size w w':=by
 have s:jJ (w.alloc (.cells #[v,.int .i64 root] 117)) v N:=B.below (iW w _);have i:=ae (Lm _ v root N s hF p (q.below (iW w _)) r);have t:=ae λa (u:jJ a v N) (x:jM a) (d:o9 N root=0)=>X5 a v root N u hF p x r d
 have h:=ae (show qB N root=if o9 N root=0 then(if(rW N root).2 =aB then 0 else 14)else 3 from rfl);have C:=ae s;have D:=ae (q.below (iW w (.cells #[v,.int .i64 root] 117)));obtain⟨va,vc,rfl,J,E⟩:=B;have m:PLift ((w.alloc (.cells #[.slice va N.length vc,.int .i64 root] 117)).heap[w.heap.size]?=au (.cells #[.slice va N.length vc,.int .i64 root] 117)):=⟨aP w _⟩;have f:PLift (Below w.heap.size w (w.alloc (.cells #[.slice va N.length vc,.int .i64 root] 117))):=⟨iW w _⟩;generalize qB N root=A at h;clear s E hF p q r;by_cases d:o9 N root=0
 ·rw[gY d]at h
  have o:=ae λa u x=>t.1 a u x d
  rw[d]at i;generalize(rW N root).1 =dd at o;generalize(rW N root).2 =F at o h;clear d t;cases F with
  |true=>
   have j:=ae (h.1.trans (gY rfl))
   as_aux_lemma=>
   go_enter dD,dA
   as_aux_lemma=>
   go_upto_region 3 with(go_at_call 89;refine(i.1).mono ?_;rintro e a ⟨rfl,g⟩;have b:=ae g;clear g)
   have k:PLift (a.heap[w.heap.size]?=au (.cells #[.slice va N.length vc,.int .i64 root] 117)):=⟨by rw[b.1.block _ (block_lt m.1)];exact m.1⟩;have y:=ae (o.1 a (C.1.below b.1) (D.1.below b.1));have G:=iK k.1 0 (.slice va N.length vc);have H:=iK k.1 1 (.int .i64 root)
   as_aux_lemma=>
   go_wp2_with(go_at_call 90;refine(y.1).mono ?_;rintro e I ⟨rfl,l⟩;have z:=ae l;clear l)
   refine aC (v:=.int .i64 0) (by simp only[results,cZ];go_simp) rfl ?_;exact⟨by rw[j.1],(f.1.trans (b.1.mono f.1.size)).trans (z.1.mono (aV f.1.size b.1.size))⟩
  |false=>
   have j:=ae (h.1.trans (gZ iG))
   as_aux_lemma=>
   go_enter dD,dA
   as_aux_lemma=>
   go_upto_region 3 with(go_at_call 89;refine(i.1).mono ?_;rintro e a ⟨rfl,g⟩;have b:=ae g;clear g)
   have k:PLift (a.heap[w.heap.size]?=au (.cells #[.slice va N.length vc,.int .i64 root] 117)):=⟨by rw[b.1.block _ (block_lt m.1)];exact m.1⟩;have y:=ae (o.1 a (C.1.below b.1) (D.1.below b.1));have G:=iK k.1 0 (.slice va N.length vc);have H:=iK k.1 1 (.int .i64 root)
   as_aux_lemma=>
   go_wp2_with(go_at_call 90;refine(y.1).mono ?_;rintro e I ⟨rfl,l⟩;have z:=ae l;clear l)
   refine aC (v:=.int .i64 14) (by simp only[results,cZ];go_simp) rfl ?_;exact⟨by rw[j.1],(f.1.trans (b.1.mono f.1.size)).trans (z.1.mono (aV f.1.size b.1.size))⟩
 ·have j:=ae (h.1.trans (gZ d))
  generalize o9 N root=c at i d;have K:(c==0)=aj:=by rw[iy];exact d
  have L:(c !=0)=aB:=by rw[bne_iff_ne];exact d
  clear t
  as_aux_lemma=>
  go_enter dD,dA
  as_aux_lemma=>
  go_wp2_with(go_at_call 89;refine(i.1).mono ?_;rintro e a ⟨rfl,g⟩;have b:=ae g;clear g)
  refine aC (v:=.int .i64 3) (by simp only[results,cZ];go_simp) rfl ?_;exact⟨by rw[j.1],f.1.trans (b.1.mono f.1.size)⟩
noncomputable def qC (N:List Nd)(root:Int):ByteArray×Int:=
 if qB N root=0 then(if 65536<jV N (N.length+1) root.toNat then(⟨#[]⟩,6)else(⟨(lJ N (tH N (N.length+1)) (N.length+1) root.toNat).toArray⟩,0))else(⟨#[]⟩,qB N root)
theorem X7 {N:List Nd}{root:Int}(h:qB N root=0):o9 N root=0/\(rW N root).2 =aB:=by
 unfold qB at h;by_cases a:o9 N root=0
 ·rw[gY a]at h
  refine⟨a,?_⟩;by_cases b:(rW N root).2 =aB
  ·exact b
  ·rw[gZ b]at h;exact absurd h iG
 ·rw[gZ a]at h;exact absurd h iG
theorem X8 {N:List Nd}{v:aT}{root:Int}{tb c:Nat}{b:Nat->List Int}{w0 X:ay}{E:List aT}{a:Nat}(h:wH N v root tb c b w0 a)(d:CT N v root tb c b w0 E X):qp (b a) (N.getD a nd0).items.length:=by obtain⟨e,w',f,⟨g,_,_,hp,_⟩,_⟩:=h X E d [];exact hp
def Ends (N:List Nd)(root:Int):Prop:=qB N root=0->∃H,Fine N (λi=>i<N.length) H (N.length+1)/\Fm N
theorem X9 (w:ay)(v:aT)(root:Int)(N:List Nd)(ak:jJ w v N)(hF:yS N)(al:∀n∈N,n.text.size<=70000)(am:jM w)(an:Ar N root.toNat)(ao:Ends N root):
  aS aA 64 #[.agg #[v,.int .i64 root]] w λe w'=>e=.returned (.tuple #[.string (qC N root).1,.int .i64 (qC N root).2])/\Below w.heap.size w w':=by
 have A:=ae ak;have ap:=ae am;have k:=ae (show qC N root=if qB N root=0 then(if 65536<jV N (N.length+1) root.toNat then(⟨#[]⟩,6)else(⟨(lJ N (tH N (N.length+1)) (N.length+1) root.toNat).toArray⟩,0))else(⟨#[]⟩,qB N root)from rfl);obtain⟨B,V⟩:=iC ((qC N root).1 );obtain⟨C,W⟩:=iC ((qC N root).2 );rw[V,W];have u:=ae (iJ V W);have L:=ae λ(wr:ay) (hr:jJ wr v N) (M:jM wr)=>X6 wr v root N hr hF al M an
 clear V W an hF am;obtain⟨va,vc,a1,bk,a2⟩:=ak;subst a1;have X:=ae (aP w (.cells #[.slice va N.length vc,.int .i64 root] 117));have O:=ae (jl w (.cells #[.slice va N.length vc,.int .i64 root] 117));have r:PLift (Below w.heap.size w (w.alloc (.cells #[.slice va N.length vc,.int .i64 root] 117))):=⟨iW w _⟩;have Y:=ae (A.1.below r.1);have Z:=ae (ap.1.below r.1);clear a2;by_cases g:qB N root=0
 case neg=>
  rw[gZ g]at k;have i:PLift (B=⟨#[]⟩/\C=qB N root):=⟨by rw[<-u.1.1,<-u.1.2,k.1];exact⟨rfl,rfl⟩⟩;generalize qB N root=c at L g i;have bl:(c==0)=aj:=by rw[iy];exact g
  have bm:(c !=0)=aB:=by rw[bne_iff_ne];exact g
  clear ao
  as_aux_lemma=>
  go_enter dW,dM
  as_aux_lemma=>
  go_wp2_with(go_at_call 73;refine(L.1 _ Y.1 Z.1).mono ?_;rintro e b ⟨rfl,l⟩;have s:=ae l;clear l)
  refine aC (v:=.tuple #[.string ⟨#[]⟩,.int .i64 c]) (by simp only[results,dh];go_simp) rfl ?_;exact⟨by rw[i.1.1,i.1.2],r.1.trans (s.1.mono r.1.size)⟩
 rw[gY g]at k;rw[g]at L;obtain⟨H,aq,ar⟩:=ao g;obtain⟨a3,av,a4,-⟩:=FO (X7 g).1;clear g;obtain⟨rt,rfl⟩:=bn av;rw[aO]at k;have aw:rt<N.length:=iE
 have d:=ae (iJ aq (iJ ar aw));have a5:=ae λ(wr:ay) (hr:jJ wr (.slice va N.length vc) N)=>Wn wr (.slice va N.length vc) (rt:Nat) N hr a3
 clear av a4 aw aq ar
 as_aux_lemma=>
 go_enter dW,dM
 as_aux_lemma=>
 go_upto_region 1 with fail
 obtain⟨W0,a6⟩:=iC (w.alloc (.cells #[.slice va N.length vc,.int .i64 (rt:Nat)] 117));rw[a6]at X O r Y Z⊢;have D:=iK X.1 0 (.slice va N.length vc);have E:=iK X.1 1 (.int .i64 (rt:Nat))
 as_aux_lemma=>
 go_wp2_with(first
  |(go_at_call 73;refine(L.1 _ Y.1 Z.1).mono ?_;rintro e b ⟨rfl,l⟩;have s:=ae (r.1.trans (l.mono r.1.size));have a7:=ae (A.1.below s.1);have a8:=ae l;have D:b.cell? ⟨w.heap.size,0,ag⟩=au (.slice va N.length vc):=(l.cell (p:=⟨w.heap.size,0,ag⟩) (by rw[O.1];exact bK _)).trans D;have E:b.cell? ⟨w.heap.size,1,ag⟩=au (.int .i64 (rt:Nat)):=(l.cell (p:=⟨w.heap.size,1,ag⟩) (by rw[O.1];exact bK _)).trans E;clear l)
  |(go_at_call 74;refine(a5.1 _ a7.1).mono ?_;rintro e f ⟨rfl,P,aD⟩;have Q:=ae (s.1.trans (P.mono s.1.size));have bo:=ae (A.1.below Q.1);have aa:=ae aD;have ab:=bI (show w.heap.size<W0.heap.size by rw[O.1];exact bK _) a8.1.size;have D:f.cell? ⟨w.heap.size,0,ag⟩=au (.slice va N.length vc):=(P.cell (p:=⟨w.heap.size,0,ag⟩) ab).trans D;have E:f.cell? ⟨w.heap.size,1,ag⟩=au (.int .i64 (rt:Nat)):=(P.cell (p:=⟨w.heap.size,1,ag⟩) ab).trans E;clear P aD ab))
 have bp:∀F:ay,(Instr.makeSlice 36 (.int .i64 (N.length:Int)) (.int .i64 (N.length:Int))).run aA F=.ok (.slice (au ⟨F.heap.size,0,ag⟩) N.length N.length) (F.alloc (.cells (Array.replicate N.length (.int .i64 0)) 3)):=λF=>by rw[run_make_row' 36 3 (.int .i64 0) 8 Tryz.underlying36 su rfl .i64 .i64 N.length iE iE F,sD]
 as_aux_lemma=>
 go_simp;go_wp2
 go_loopw [22] (λac wr=>∃j:Nat,ac=.int .i64 j/\j<=N.length/\wr.heap[f.heap.size]?=au (.cells ((ah j (-1)++ah (N.length - j) 0).map (Value.int .i64)).toArray 3)/\Below f.heap.size f wr) (λac _=>N.length - (intOf ac).toNat)
 case atStart=>exact⟨0,rfl,Nat.zero_le _,by rw[aP];simp,iW f _⟩
 case round=>
  as_aux_lemma=>
  obtain⟨j,rfl,aE,aF,aG⟩:=hrel;have R:=ae aF;have z:=ae aG;clear aF aG;by_cases bq:j<N.length
  ·have br:(j:Int)<(N.length:Int):=iE
   have e1:wr.cell? ⟨f.heap.size,j,ag⟩=au (.int .i64 ((ah j (-1)++ah (N.length - j) 0).getD j 0)):=kJ R.1 iI;have bs:∀o,wr.frozen? ⟨f.heap.size,o,ag⟩=aj:=λo=>aI R.1 o
   generalize(ah j (-1:Int)++ah (N.length - j) 0).getD j 0=bt at e1
   as_aux_lemma=>
   go_wp2;go_roundw
   case rel=>exact⟨j+1,by go_num,iE,by
    have a9:(ah j (-1:Int)++ah (N.length - j) 0).set j (-1)=ah (j+1) (-1)++ah (N.length - (j+1)) 0:=by obtain⟨q,ba⟩:∃q,N.length - j=q+1:=⟨N.length - j - 1,iE⟩;have bb:N.length - (j+1)=q:=iE;rw[ba,bb,aX,List.set_append_right _ _ iH,List.length_replicate,dN,List.set_cons_zero,List.replicate_succ'];simp
    rw[<-a9];simp[World.setCell,di,R.1,List.map_set],z.1.setCell (p:=⟨f.heap.size,j,ag⟩) (ax _) _⟩
   case measure=>simp[intOf];omega
  ·obtain rfl:j=N.length:=iE
   have S:=ae (aa.1.below z.1);have bc:=ae (Q.1.trans (z.1.mono Q.1.size))
   have aL:wJ N (N.length+1) (ah N.length (-1)):=⟨iH,λj aE h=>by rw[aH,bV,gY aE]at h;exact absurd h iG⟩
   obtain⟨K',M,-,hval⟩:=XP d.1.1 (N.length+1) rt _ d.1.2.2 (d.1.1.fu _ d.1.2.2) aL
   have bd:PLift (LW w (.slice va N.length vc) (rt:Nat) (.slice (au ⟨b.heap.size+1,0,ag⟩) N.length N.length) N (b.heap.size+1+1) f.heap.size (ah N.length (-1)) wr):=
    ⟨⟨A.1,bc.1,S.1.box,by have:=R.1;rw[dN,List.replicate_zero,bW]at this;exact this,iH,Q.1.size,by have:=(aU.1 aa.1.box).1;omega⟩⟩
   have G:=ae (XG w (.slice va N.length vc) (rt:Nat) _ N (b.heap.size+1+1) f.heap.size d.1.1.rng (λn hn=>aV (al n hn) iG) d.1.1.fit (N.length+1) rt _ K' wr M d.1.2.2 bd.1);rw[hval]at G;have bv:=ae s.1.size;have d0:wr.cell? ⟨w.heap.size,0,ag⟩=au (.slice va N.length vc):=iU z.1 D;have be:wr.cell? ⟨w.heap.size,1,ag⟩=au (.int .i64 (rt:Nat)):=iU z.1 E;clear M hval aL;by_cases T:65536<jV N (N.length+1) rt
   ·rw[gY T]at k
    have i:PLift (B=⟨#[]⟩/\C=6):=⟨by rw[<-u.1.1,<-u.1.2,k.1];exact⟨rfl,rfl⟩⟩;have U:nM (jV N (N.length+1) rt)=65537:=(by unfold nM;omega);rw[U]at G
    as_aux_lemma=>
    go_wp2_with(go_at_call 75;refine(G.1).mono ?_;rintro e w3 ⟨rfl,I,J⟩;have m:=ae I;have K:=ae J;clear I J)
    refine aC (v:=.tuple #[.string ⟨#[]⟩,.int .i64 6]) (by simp only[results,dh];go_simp) rfl ?_;exact⟨by rw[i.1.1,i.1.2],m.1.below⟩
   ·rw[gZ T]at k
    have i:PLift (B=⟨(lJ N (tH N (N.length+1)) (N.length+1) rt).toArray⟩/\C=0):=⟨by rw[<-u.1.1,<-u.1.2,k.1];exact⟨rfl,rfl⟩⟩;have bf:=ae T;have U:nM (jV N (N.length+1) rt)<=65536:=(by unfold nM;omega);generalize nM (jV N (N.length+1) rt)=y at G U;have bg:¬(65536:Int)<((y:Nat):Int):=iE;have bw:decide (((y:Nat):Int)>65536)=aj:=iw bg
    have t:PLift (w.heap.size<wr.heap.size/\b.heap.size+1<wr.heap.size/\w.heap.size<=b.heap.size/\b.heap.size+1+1<f.heap.size):=⟨by
     have bx:=(aU.1 aa.1.box).1;have bA:=s.1.size;have bB:=z.1.size
     omega⟩
    clear T U
    as_aux_lemma=>
    go_upto_region 14 with(go_at_call 75;refine(G.1).mono ?_;rintro e w3 ⟨rfl,I,J⟩;have m:=ae I;have K:=ae J;clear I J)
    clear d0;have e1:(w3.alloc (.cells #[.pointer ag,.slice ag 0 0] 51)).cell? ⟨w.heap.size,1,ag⟩=au (.int .i64 (rt:Nat)):=(World.cell?_of_block (bC w3 _ w.heap.size (bI t.1.1 K.1.size))).trans ((World.cell?_of_block (K.1.block w.heap.size t.1.1 (λe=>by have:=Option.some.inj e;have:=t.1;omega))).trans be)
    have aM:PLift (CT N (.slice va N.length vc) (rt:Nat) (b.heap.size+1+1) (b.heap.size+1) (tH N (N.length+1)) w (ah N.length (.slice ag 0 0)) (w3.alloc (.cells #[.pointer ag,.slice ag 0 0] 51))):=
     ⟨⟨A.1,m.1.below.alloc m.1.below.size _,by have:=t.1;omega,⟨(bC w3 _ _ (aU.1 m.1.tab).1).trans m.1.tab,(bC w3 _ _ (bI t.1.2.1 K.1.size)).trans ((K.1.block _ t.1.2.1 (λe=>by have:=Option.some.inj e;have:=t.1;omega)).trans S.1.row),S.1.len,S.1.ne⟩,
      λa ha=>.inl (by rw[aH,bV,gY ha];rfl)⟩⟩
    have bh:PLift (WX N (.slice va N.length vc) (rt:Nat) (b.heap.size+1+1) (b.heap.size+1) (tH N (N.length+1)) w w3.heap.size w3.heap.size (ah N.length (.slice ag 0 0)) [] (w3.alloc (.cells #[.pointer ag,.slice ag 0 0] 51))):=
     ⟨⟨aM.1,Lib.fresh_isBuilder _ _ w3,m.1.below.size,by rw[jl];omega⟩⟩
    have ad:∀a,a<N.length->wH N (.slice va N.length vc) (rt:Nat) (b.heap.size+1+1) (b.heap.size+1) (tH N (N.length+1)) w a:=λa ha=>XA d.1.1 ap.1 a ha λx hx=>((d.1.1.wf a ha).2 x (dm _ hx)).1
    have bi:=ae (XU d.1.1 d.1.2.1 (.slice va N.length vc) (rt:Nat) (b.heap.size+1+1) (b.heap.size+1) w w3.heap.size w3.heap.size (λa ha=>X8 (ad a ha) aM.1) ad (N.length+1) rt [] _ _ d.1.2.2 (d.1.1.fu _ d.1.2.2) (by have:=bf.1;rw[dH];omega) bh.1);clear ad
    as_aux_lemma=>
    go_wp2_with(first
     |(go_at_call 76;refine(bi.1).mono ?_;rintro e bE ⟨rfl,bL,aR,-⟩;have ai:=ae aR;clear aR)
     |(go_at_call 19;refine(Tryz.Builder_String_any _ _ _ _ ai.1.nG ai.1.oJ).mono ?_;rintro e bM ⟨rfl,a0⟩;have bj:=ae a0;clear a0))
    refine aC (v:=.tuple #[.string ⟨(lJ N (tH N (N.length+1)) (N.length+1) rt).toArray⟩,.int .i64 0]) (by simp only[results,dh];go_simp) rfl ?_;exact⟨by rw[i.1.1,i.1.2],ai.1.ct.below.trans (bj.1.mono m.1.below.size)⟩
end Go.Proofs.YthcalnnipjflkaaGreatDoor
namespace Go.Proofs.YthcalnnipjflkaaGreatDoor
theorem jO.inRange {T:Nat}{N:List Nd}(h:jO T N):nN N:=by intro n hn;obtain⟨i,hi⟩:=h.range hn;exact⟨λx hx=>by have:=hi.refs x (dm _ hx);omega,λx hx=>by have:=hi.refs x (List.mem_append_right _ hx);omega⟩
theorem jO.wf {T:Nat}{N:List Nd}(h:jO T N):uT N (λi=>i<N.length) (λi=>N.length - i):=by intro i hi;refine⟨hi,λx hx=>?_⟩;rw[aH,bP hi,bQ]at hx;have:=(h i _ (bP hi)).refs x hx;show x.toNat<N.length/\N.length - x.toNat<N.length - i;omega
theorem jO.Ya {T:Nat}{N:List Nd}(h:jO T N)(a:T<=70000):yS N:=by intro n hn;obtain⟨i,hi⟩:=h.range hn;have b:=hi.JE;have c:=hi.kind;refine⟨by simp[Lit.wf,IntKind.min,IntKind.max,IntKind.signed,IntKind.bits];omega,by have:=hi.text;unfold maxLen;omega⟩
theorem jO.texts {T:Nat}{N:List Nd}(h:jO T N)(a:T<=70000):∀n∈N,n.text.size<=70000:=λn hn=>by obtain⟨i,hi⟩:=h.range hn;exact aV hi.text a
theorem jO.Yb {T:Nat}{N:List Nd}(h:jO T N)(a:N.length<=4096)(root:Nat):Ar N root:=by
 intro _ _ _;refine⟨_,_,h.wf,λn hn x hx=>?_,λi hi=>iE,λn hn=>?_⟩
 ·have:=(h.inRange n hn).1 x hx
  omega
 ·obtain⟨i,hi⟩:=h.range hn
  exact aV hi.keysL a
theorem jO.fm {T:Nat}{N:List Nd}(h:jO T N):Fm N:=λn hn=>by obtain⟨i,hi⟩:=h.range hn;exact⟨hi.kind,hi.leaf,hi.tag⟩
theorem jO.ends {T:Nat}{N:List Nd}(h:jO T N)(a:T<=70000)(b:N.length<=4096)(root:Int):Ends N root:=by
 intro _;refine⟨_,⟨h.wf,λi hi=>iE,h.inRange,h.texts a,λn hn=>?_,λn hn=>?_,iE⟩,h.fm⟩
 ·obtain⟨i,hi⟩:=h.range hn
  exact hi.map
 ·obtain⟨i,hi⟩:=h.range hn
  exact aV hi.JF iE
end Go.Proofs.YthcalnnipjflkaaGreatDoor
namespace Go.Proofs.YthcalnnipjflkaaGreatDoor
open Go.RowKit
open Go.Lib hiding intOf
noncomputable def wL (l:List UInt8):Int:=
 if 65536<l.length then 6 else match wF l with
  |none=>4
  |some N=>if(qC N 0).2 =0/\(qC N 0).1 =⟨l.toArray⟩then 0 else 4
def Zw (c:Int)(e:dP):Prop:=∃a n k r,e=.returned (.tuple #[.agg #[.slice a n k,.int .i64 r],.int .i64 c])
theorem Zx (s:ByteArray)(hs:s.size<=65536)(w:ay)(T:jM w):
  aS aA 58 #[.string s] w λe w'=>Zw (wL s.data.toList) e/\Below w.heap.size w w':=by
 have U:(⟨s.data.toList.toArray⟩:ByteArray)=s:=iH
 have H:=kC s
 have I:PLift (wL s.data.toList=match wF s.data.toList with
  |none=>4
  |some N=>if(qC N 0).2 =0/\(qC N 0).1 =s then 0 else 4):=⟨by unfold wL;rw[gZ (by rw[H];omega),U]⟩
 generalize wL s.data.toList=c at I⊢;have D:=ae λW:ay=>Zv s hs W
 have av:(s.size:Int)<=65536:=iE
 have ai:¬65536<(s.size:Int):=iE
 have aw:decide ((s.size:Int)>65536)=aj:=iw ai;have V:=ae (aP w (.cells #[.slice ag 0 0,.int .i64 0] 117));have E:=ae (iW w (.cells #[.slice ag 0 0,.int .i64 0] 117));have ak:=ae λ(W:ay) (al:Below w.heap.size w W)=>T.below al
 have am:=ae hs;clear T U hs;cases hp:wF s.data.toList with
 |none=>
  have l:=ae (show c=4 by rw[I.1,hp])
  have J:PLift (∀W:ay,aS aA 63 #[.string s] W λe w'=>(∃a n k,e=.returned (.tuple #[.agg #[.slice a n k,.int .i64 0],.bool aj]))/\Below W.heap.size W w'):=⟨λW=>(D.1 W).mono λe w' h=>by rw[hp]at h;obtain⟨a,n,k,t,u⟩:=h;exact⟨⟨a,n,k,t⟩,u⟩⟩
  clear hp D;go_enter dX,dQ
  go_wp2_with(go_at_call 63;refine(J.1 _).mono ?_;rintro e b ⟨⟨a,n,k,rfl⟩,m⟩;have K:=ae m;have q:=ae (Mix.lu m V.1);clear m;have L:=iK q.1 0 (.slice ag 0 0);have r1:=iK q.1 1 (.int .i64 0);have M:∀o,b.frozen? ⟨w.heap.size,o,ag⟩=aj:=λo=>aI q.1 o;have aD:w.heap.size<b.heap.size:=block_lt q.1)
  refine aC (v:=.tuple #[.agg #[.slice ag 0 0,.int .i64 0],.int .i64 4]) (by simp only[results,bG];go_simp) rfl ⟨⟨ag,0,0,0,by rw[l.1]⟩,?_⟩;have g:=E.1.trans (K.1.mono E.1.size);exact((g.setCell (p:=⟨w.heap.size,0,ag⟩) (ax _) _).setCell (p:=⟨w.heap.size,1,ag⟩) (ax _) _).alloc (by simp only[World.setCell,Array.size_modify];exact g.size) _
 |some N=>
  obtain⟨x,O,an⟩:=UH hp
  have J:PLift (∀W:ay,aS aA 63 #[.string s] W λe w'=>(∃a k,e=.returned (.tuple #[.agg #[.slice a N.length k,.int .i64 0],.bool aB])/\jJ w' (.slice a N.length k) N)/\Below W.heap.size W w'):=⟨λW=>(D.1 W).mono λe w' h=>by rw[hp]at h;obtain⟨v,t,u,ao⟩:=h;obtain⟨a,k,rfl,ap,aq⟩:=u;exact⟨⟨a,k,t,a,k,rfl,ap,aq⟩,ao⟩⟩
  have F:s.data.toList.length<=70000:=by rw[H];have:=am.1;omega
  have P:=ae λ(W:ay) (v:aT) (t:jJ W v N) (u:jM W)=>X9 W v 0 N t (x.Ya F) (x.texts F) u (x.Yb O _) (x.ends F O _)
  have l:=ae (show c=if(qC N 0).2 =0/\(qC N 0).1 =s then 0 else 4 by rw[I.1,hp]);generalize(qC N 0).1 =Q at P l;generalize(qC N 0).2 =R at P l;clear hp D x O an F H;go_enter dX,dQ
  go_upto_region 6 with(go_at_call 63;refine(J.1 _).mono ?_;rintro e b ⟨⟨a,k,rfl,X⟩,m⟩;have ar:=ae X;have K:=ae m;have q:=ae (Mix.lu m V.1);clear m X)
  have Y:PLift (w.heap.size<b.heap.size):=⟨block_lt q.1⟩;have r:=ae (aP b (.cells #[.slice a N.length k,.int .i64 0] 117));have G:PLift ((b.alloc (.cells #[.slice a N.length k,.int .i64 0] 117)).heap[w.heap.size]?=au (.cells #[.slice ag 0 0,.int .i64 0] 117)):=⟨by rw[bC _ _ _ Y.1];exact q.1⟩;have Z:=ae (ar.1.below (iW b (.cells #[.slice a N.length k,.int .i64 0] 117)));have i:PLift (Below w.heap.size w (b.alloc (.cells #[.slice a N.length k,.int .i64 0] 117))):=⟨(E.1.trans (K.1.mono E.1.size)).alloc (by have:=Y.1;omega) _⟩;obtain⟨y,aa⟩:=iC (b.alloc (.cells #[.slice a N.length k,.int .i64 0] 117));rw[aa]at r G Z i⊢;clear aa;have S:=ae (P.1 y _ Z.1 (ak.1 _ i.1));have aE:=iK r.1 0 (.slice a N.length k);have aF:=iK r.1 1 (.int .i64 0);by_cases z:R=0
  ·subst z
   by_cases A:Q=s
   ·subst A
    have B:PLift (c=0):=⟨by rw[l.1,gY ⟨rfl,rfl⟩]⟩
    go_wp2_with(go_at_call 64;refine(S.1).mono ?_;rintro e w3 ⟨rfl,d⟩;have C:=ae d;have j:=ae (Mix.lu d r.1);have f:=ae (Mix.lu d G.1);clear d;have L:=iK f.1 0 (.slice ag 0 0);have r1:=iK f.1 1 (.int .i64 0);have M:∀o,w3.frozen? ⟨w.heap.size,o,ag⟩=aj:=λo=>aI f.1 o;have ab:=iK j.1 0 (.slice a N.length k);have ac:w3.cell? ⟨b.heap.size,1,ag⟩=au (.int .i64 0):=(af j.1 1).trans rfl)
    refine aC (v:=.tuple #[.agg #[.slice a N.length k,.int .i64 0],.int .i64 0]) (by simp only[results,bG];go_simp) rfl ⟨⟨a,N.length,k,0,by rw[B.1]⟩,?_⟩;have g:=i.1.trans (C.1.mono i.1.size);exact(g.setCell (p:=⟨w.heap.size,0,ag⟩) (ax _) _).setCell (p:=⟨w.heap.size,1,ag⟩) (ax _) _
   ·have B:PLift (c=4):=⟨by rw[l.1,gZ (λh=>A h.2)]⟩
    have ad:(Q.toList==s.toList)=aj:=(by rw[iy];intro e;exact A (by rw[dI,dI]at e;exact ByteArray.ext (Array.ext' e)))
    have e3:(Q.toList !=s.toList)=aB:=(by rw[bne,ad];rfl);have aG:=ae A;clear A
    go_wp2_with(go_at_call 64;refine(S.1).mono ?_;rintro e w3 ⟨rfl,d⟩;have C:=ae d;have j:=ae (Mix.lu d r.1);have f:=ae (Mix.lu d G.1);clear d;have L:=iK f.1 0 (.slice ag 0 0);have r1:=iK f.1 1 (.int .i64 0);have M:∀o,w3.frozen? ⟨w.heap.size,o,ag⟩=aj:=λo=>aI f.1 o;have ab:=iK j.1 0 (.slice a N.length k);have ac:w3.cell? ⟨b.heap.size,1,ag⟩=au (.int .i64 0):=(af j.1 1).trans rfl)
    refine aC (v:=.tuple #[.agg #[.slice ag 0 0,.int .i64 0],.int .i64 4]) (by simp only[results,bG];go_simp) rfl ⟨⟨ag,0,0,0,by rw[B.1]⟩,?_⟩;have g:=i.1.trans (C.1.mono i.1.size);exact(g.setCell (p:=⟨w.heap.size,0,ag⟩) (ax _) _).setCell (p:=⟨w.heap.size,1,ag⟩) (ax _) _
  ·have B:PLift (c=4):=⟨by rw[l.1,gZ (λh=>z h.1)]⟩
   have e1:(R==0)=aj:=(by rw[iy];exact z);have ad:(R !=0)=aB:=(by rw[bne_iff_ne];exact z);clear z
   go_wp2_with(go_at_call 64;refine(S.1).mono ?_;rintro e w3 ⟨rfl,d⟩;have C:=ae d;have j:=ae (Mix.lu d r.1);have f:=ae (Mix.lu d G.1);clear d;have L:=iK f.1 0 (.slice ag 0 0);have r1:=iK f.1 1 (.int .i64 0);have M:∀o,w3.frozen? ⟨w.heap.size,o,ag⟩=aj:=λo=>aI f.1 o;have ab:=iK j.1 0 (.slice a N.length k);have ac:w3.cell? ⟨b.heap.size,1,ag⟩=au (.int .i64 0):=(af j.1 1).trans rfl)
   refine aC (v:=.tuple #[.agg #[.slice ag 0 0,.int .i64 0],.int .i64 4]) (by simp only[results,bG];go_simp) rfl ⟨⟨ag,0,0,0,by rw[B.1]⟩,?_⟩;have g:=i.1.trans (C.1.mono i.1.size);exact(g.setCell (p:=⟨w.heap.size,0,ag⟩) (ax _) _).setCell (p:=⟨w.heap.size,1,ag⟩) (ax _) _
theorem Zy:∀(n:Nat) (l:List UInt8),l.length=n->∀(d:Int) (q:Bool) (i:Nat),jB l d q i= -1\/((i:Int)<=jB l d q i/\jB l d q i<(i:Int)+l.length):=by
 intro n
 induction n using Nat.strongRecOn with
 |_ n b=>
  intro l a d q i;cases l with
  |nil=>exact .inl rfl
  |cons c r=>
   simp only[aJ]at a
   have step:∀(r':List UInt8) (d:Int) (q:Bool) (j:Nat),r'.length<n->i+1<=j->j+r'.length<=i+(r.length+1)->jB r' d q j= -1\/((i:Int)<=jB r' d q j/\jB r' d q j<(i:Int)+((r.length+1:Nat):Int)):=by
    intro r' d q j e f g;rcases b r'.length e r' rfl d q j with h|h
    ·exact .inl h
    ·exact .inr iE
   unfold jB;simp only[aJ];split
   ·cases r with
    |nil=>exact .inl rfl
    |cons x r'=>simp only[aJ]at a step⊢;exact step r' d q (i+2) iE iE iE
   split
   ·exact step r d _ (i+1) iE iE iE
   split
   ·exact step r d _ (i+1) iE iE iE
   split
   ·exact step r _ _ (i+1) iE iE iE
   split
   ·split
    ·exact .inr ⟨iE,iE⟩
    ·exact step r _ _ (i+1) iE iE iE
   ·exact step r _ _ (i+1) iE iE iE
theorem Zz (r:List UInt8):jB (123::r) 0 aj 0=jB r 1 aj 1:=by
 conv=>lhs;unfold jB
 simp
noncomputable def kL (l:List UInt8):List UInt8×List UInt8×Bool:=
 match l with
 |[]=>([],[],aj)
 |c::r=>
  if c=46 then(34::r.take (lF aB r)++[34],r.drop (lF aB r),decide (0<lF aB r))
  else if c=123 then(if jB l 0 aj 0<0 then([],l,aj)
   else((l.take (jB l 0 aj 0).toNat).drop 1,l.drop ((jB l 0 aj 0).toNat+1),(wL ((l.take (jB l 0 aj 0).toNat).drop 1)==0)&&!xA ((l.take (jB l 0 aj 0).toNat).drop 1)))
  else([],l,aj)
theorem MI (c:UInt8)(r:List UInt8):kL (c::r)=if c=46 then(34::r.take (lF aB r)++[34],r.drop (lF aB r),decide (0<lF aB r))
 else if c=123 then(if jB (c::r) 0 aj 0<0 then([],c::r,aj)
  else(((c::r).take (jB (c::r) 0 aj 0).toNat).drop 1,(c::r).drop ((jB (c::r) 0 aj 0).toNat+1),(wL (((c::r).take (jB (c::r) 0 aj 0).toNat).drop 1)==0)&&!xA (((c::r).take (jB (c::r) 0 aj 0).toNat).drop 1)))
 else([],c::r,aj):=rfl
theorem FY (l:List UInt8):(kL l).2.1.length<=l.length/\((kL l).2.2 =aB->(kL l).2.1.length<l.length):=by
 cases l with
 |nil=>exact⟨ax _,λh=>by cases h⟩
 |cons c r=>
  rw[MI];split
  ·simp only[aW,aJ]
   exact⟨iE,λ_=>iE⟩
  split
  ·split
   ·exact⟨ax _,λh=>by cases h⟩
   ·simp only[aW,aJ]
    exact⟨iE,λ_=>iE⟩
  ·exact⟨ax _,λh=>by cases h⟩
def y9 (l:List UInt8)(e:dP):Prop:=e=.returned (.tuple #[.string ⟨(kL l).1.toArray⟩,.string ⟨(kL l).2.1.toArray⟩,.bool (kL l).2.2])
theorem ZA (s:ByteArray)(r:List UInt8)(w:ay)(hs:s.data.toList=123::r)(q:s.size<=65536)(t:jM w):
  aS aA 53 #[.string s] w λe w'=>y9 (123::r) e/\Below w.heap.size w w':=by
 have u:s.size=r.length+1:=by have:=ig bY hs;simpa using this
 have b:0<s.size:=iE
 have h:s[0]'b=123:=by
  have:s.data.toList.getD 0 0=s[0]'b:=lC s 0 b
  rw[<-this,hs];rfl
 have Q:(((s[0]'b).toNat:Int)==46)=aj:=by rw[h];rfl
 have e1:(((s[0]'b).toNat:Int)!=123)=aj:=by rw[h];rfl
 have v:=Zz r;have i:=Zy _ r rfl 1 aj 1;rw[<-v]at i;have d:=ae λW:ay=>I8 s W iE
 rw[hs]at d
 have j:=ae (show kL (123::r)=(if jB (123::r) 0 aj 0<0 then([],123::r,aj)
   else(((123::r).take (jB (123::r) 0 aj 0).toNat).drop 1,(123::r).drop ((jB (123::r) 0 aj 0).toNat+1),(wL (((123::r).take (jB (123::r) 0 aj 0).toNat).drop 1)==0)&&!xA (((123::r).take (jB (123::r) 0 aj 0).toNat).drop 1)))from rfl)
 generalize jB (123::r) 0 aj 0=c at i d j;have x:(⟨(123::r).toArray⟩:ByteArray)=s:=by rw[<-hs]
 have G:=ae x;have y:=ae t;clear t v h x;rcases i with rfl|⟨H,I⟩
 ·have a:=ae (j.1.trans (gY iG))
  clear hs u q
  as_aux_lemma=>
  go_enter dY,dR
  go_wp2_with(go_at_call 57;refine(d.1 _).mono ?_;rintro e J ⟨rfl,rfl⟩)
  go_ret3;exact⟨by unfold y9;rw[a.1];show Ending.returned (Value.tuple #[Value.string ⟨#[]⟩,Value.string s,Value.bool aj])=Ending.returned (Value.tuple #[Value.string ⟨#[]⟩,Value.string ⟨(123::r).toArray⟩,Value.bool aj]);rw[G.1],Below.refl _ _⟩
 ·obtain⟨m,rfl⟩:=bn (show 0<=c by omega)
  have a:=ae (j.1.trans (gZ iE));rw[aO]at a;have R:1<=(m:Int):=iE
  have S:(m:Int)+1<=(s.size:Int):=iE
  have T:(m:Int)<=(s.size:Int):=iE
  have L:¬(m:Int)<0:=iE
  have U:0<=(m:Int)+1:=iE
  have V:((m:Int)+1).toNat=m+1:=iE
  have X:decide ((m:Int)<0)=aj:=iw L;have Y:(m:Int)<=65536:=iE
  have hx:s.extract 1 m=⟨(((123::r).take m).drop 1).toArray⟩:=ext_list (by rw[bz,bD,hs];show List.take (m - 1) (List.drop 1 (123::r))=_;rw[List.drop_take])
  have z:(s.extract 1 m).data.toList=((123::r).take m).drop 1:=by rw[hx]
  have A:(s.extract 1 m).size<=65536:=by rw[hx,kZ,aW,List.length_take];simp only[aJ];omega
  have B:s.extract (m+1) s.size=⟨((123::r).drop (m+1)).toArray⟩:=ext_list (by rw[bz,bD,hs];show List.take (s.size - (m+1)) (List.drop (m+1) (123::r))=_;rw[bZ];rw[aW];simp only[aJ];omega)
  have k:=ae (iJ hx B);have f:=ae λ(W:ay) (l:jM W)=>Zx (s.extract 1 m) A W l
  have g:=ae λW:ay=>Uz (s.extract 1 m) W iE
  rw[z]at f g;generalize(((123::r).take m).drop 1)=K at k f g a;obtain⟨pe,C⟩:=iC (wL K);obtain⟨nm,D⟩:=iC (xA K);rw[C]at f a;rw[D]at g a;obtain⟨n,M⟩:=iC ((pe==0));rw[M]at a;clear hs u q hx z A B C D H I;have Z:=ae λ(W:ay) (l:Below w.heap.size w W)=>y.1.below l
  cases n
  all_goals cases nm
  all_goals
   as_aux_lemma=>
   go_enter dY,dR
   go_upto_region 11 with(first
    |(go_at_call 57;refine(d.1 _).mono ?_;rintro e J ⟨rfl,rfl⟩)
    |(go_at_call 58;refine(f.1 _ (y.1)).mono ?_;rintro e N ⟨⟨ga,gn,O,gr,rfl⟩,E⟩;have F:=ae E;clear E))
   obtain⟨o,p⟩:=iC (N.alloc (.cells #[.slice ga gn O,.int .i64 gr] 117));have P:PLift (Below w.heap.size w o):=⟨by rw[<-p];exact F.1.alloc F.1.size _⟩;rw[p];clear p
   as_aux_lemma=>
   go_wp2_with(go_at_call 59;refine(g.1 _).mono ?_;rintro e aa ⟨⟨tt,rfl⟩,rfl⟩)
   go_quiet (fail)
   go_wp2;go_ret3;exact⟨by unfold y9;rw[a.1];show _=Ending.returned (Value.tuple #[Value.string ⟨K.toArray⟩,Value.string ⟨((123::r).drop (m+1)).toArray⟩,_]);rw[<-k.1.1,<-k.1.2];rfl,P.1.trans (below_drewN _ _ _)⟩
theorem MJ (s:ByteArray)(w:ay)(g:s.data.toList≠[])(i:s.size<=65536)(j:jM w):
  aS aA 53 #[.string s] w λe w'=>y9 s.data.toList e/\Below w.heap.size w w':=by
 have f:(⟨s.data.toList.toArray⟩:ByteArray)=s:=iH
 cases h:s.data.toList with
 |nil=>exact absurd h g
 |cons c r=>
  rw[h]at f;by_cases a:c=46
  ·subst a
   refine(I7 s r w h iE).mono ?_;rintro e w' ⟨rfl,b⟩;exact⟨rfl,b⟩
  ·by_cases d:c=123
   ·subst d
    exact ZA s r w h i j
   ·refine(Jh s c r w h iE a d).mono ?_
    rintro e w' ⟨rfl,b⟩;refine⟨?_,b⟩;unfold y9;rw[MI,gZ a,gZ d];simp only[];rw[f]
noncomputable def pq (l:List UInt8):El×List UInt8×Bool:=
 if l.getD 0 0=91 then(⟨0,(lZ (l.drop 1)).1,⟨#[]⟩⟩,aN (lZ (l.drop 1)).2.1 [93],(lZ (l.drop 1)).2.2 &&aK (lZ (l.drop 1)).2.1 [93])
 else if((kL l).2.2 &&aK (kL l).2.1 [64])=aB then
  (⟨0,(lZ (aN (kL l).2.1 [64])).1,⟨(kL l).1.toArray⟩⟩,(lZ (aN (kL l).2.1 [64])).2.1,(lZ (aN (kL l).2.1 [64])).2.2 &&decide (0<(lZ (aN (kL l).2.1 [64])).1))
 else(⟨0,0,⟨(kL l).1.toArray⟩⟩,(kL l).2.1,(kL l).2.2)
theorem ZB (l:List UInt8)(b:l≠[]):(pq l).2.2 =aB->(pq l).2.1.length<l.length:=by
 have d:0<l.length:=dw.2 b;unfold pq;split
 ·intro _
  have a:=ES (l.drop 1);have c:=CJ (lZ (l.drop 1)).2.1 [93];rw[aW]at a;simp only;omega
 split
 ·rename_i h
  intro _;rw[az]at h;have a:=(FY l).2 h.1;have c:=CJ (kL l).2.1 [64];have e:=ES (aN (kL l).2.1 [64]);simp only;omega
 ·exact λh=>(FY l).2 h
def wM (l:List UInt8)(e:dP):Prop:=e=.returned (.tuple #[.agg #[.int .i64 (pq l).1.k,.int .i64 (pq l).1.i,.string (pq l).1.key],.string ⟨(pq l).2.1.toArray⟩,.bool (pq l).2.2])
theorem ZC (s:ByteArray)(r:List UInt8)(w:ay)(hs:s.data.toList=91::r)(n:s.size<=65536)(i:jM w):
  aS aA 48 #[.string s,.bool aj] w λe w'=>wM (91::r) e/\Below w.heap.size w w':=by
 have o:s.size=r.length+1:=by have:=ig bY hs;simpa using this
 have c:0<s.size:=iE
 have y:(1:Int)<=(s.size:Int):=iE
 have j:s[0]'c=91:=by
  have:s.data.toList.getD 0 0=s[0]'c:=lC s 0 c
  rw[<-this,hs];rfl
 have e1:(((s[0]'c).toNat:Int)==91)=aB:=by rw[j];rfl
 have hx:s.extract 1 s.size=⟨r.toArray⟩:=ext_list (by
  rw[bz,bD,hs];show List.take (s.size - 1) (List.drop 1 (91::r))=_;rw[bZ]
  ·rfl
  ·simp;omega)
 have k:(s.extract 1 s.size).data.toList=r:=by rw[hx]
 have a:=ae λ(W:ay) (q:jM W)=>JD (s.extract 1 s.size) W (by rw[hx,kZ];omega) q
 rw[k]at a;unfold xC at a;have b:=ae (show pq (91::r)=(⟨0,(lZ r).1,⟨#[]⟩⟩,aN (lZ r).2.1 [93],(lZ r).2.2 &&aK (lZ r).2.1 [93])from rfl);have d:=ES r;generalize lZ r=X at a b d;obtain⟨x,rest,ok⟩:=X;simp only[]at a b d;have f:=ae λW:ay=>Tryz.strings_CutPrefix ⟨rest.toArray⟩ ⟨#[93]⟩ W
 rw[show(⟨#[93]⟩:ByteArray).data.toList=[93]from rfl,show(⟨rest.toArray⟩:ByteArray).data.toList=rest from rfl]at f;obtain⟨tl,l⟩:=iC (aN rest [93]);obtain⟨g,m⟩:=iC (aK rest [93]);rw[l,m]at f b;have t:=ae (i.below (iW w (.cells #[.int .i64 0,.int .i64 0,.string ⟨#[]⟩] 101)));clear hs n i j hx k o l m d;cases ok
 all_goals cases g
 all_goals
  as_aux_lemma=>
  go_enter dE,dB
  go_wp2_with(first
   |(go_at_call 52;refine(a.1 _ t.1).mono ?_;rintro e z ⟨rfl,h⟩;obtain⟨A,B,C,D,E,F,G⟩:=EJ h;have u:=ae h;clear h)
   |(go_at_call 51;refine(f.1 _).mono ?_;rintro e H ⟨rfl,rfl⟩))
  first
   |refine aC (v:=.tuple #[.agg #[.int .i64 0,.int .i64 x,.string ⟨#[]⟩],.string ⟨tl.toArray⟩,.bool aB]) (by simp only[results,aZ];go_simp) rfl ⟨(by unfold wM;rw[b.1];rfl),?_⟩
   |refine aC (v:=.tuple #[.agg #[.int .i64 0,.int .i64 x,.string ⟨#[]⟩],.string ⟨tl.toArray⟩,.bool aj]) (by simp only[results,aZ];go_simp) rfl ⟨(by unfold wM;rw[b.1];rfl),?_⟩
  have hw:=((Below.refl w.heap.size w).alloc (ax _) (.cells #[.int .i64 0,.int .i64 0,.string ⟨#[]⟩] 101)).trans (u.1.mono iH);exact(((hw.setCell (p:=⟨w.heap.size,0,ag⟩) (ax _) (.int .i64 0)).setCell (p:=⟨w.heap.size,1,ag⟩) (ax _) (.int .i64 x)).setCell (p:=⟨w.heap.size,2,ag⟩) (ax _) (.string ⟨#[]⟩))
theorem ZE (s:ByteArray)(c:UInt8)(r:List UInt8)(w:ay)(hs:s.data.toList=c::r)(hc:c≠91)(C:s.size<=65536)(D:jM w)(d:((kL (c::r)).2.2 &&aK (kL (c::r)).2.1 [64])=aB):
  aS aA 48 #[.string s,.bool aj] w λe w'=>wM (c::r) e/\Below w.heap.size w w':=by
 have S:s.size=r.length+1:=by have:=ig bY hs;simpa using this
 have l:0<s.size:=iE
 have E:s[0]'l=c:=by
  have:s.data.toList.getD 0 0=s[0]'l:=lC s 0 l
  rw[<-this,hs];rfl
 have e1:(((s[0]'l).toNat:Int)==91)=aj:=by rw[E];simp only[iy,ne_eq];exact λe=>hc (UInt8.toNat_inj.1 (by have e:(91:UInt8).toNat=91:=rfl;omega))
 have g:=ae λ(W:ay) (i:jM W)=>MJ s W (by rw[hs];exact dF _ _) C i
 rw[hs]at g;unfold y9 at g;have f:=ae (show pq (c::r)=_ from by unfold pq;rw[gZ (show ¬(c::r).getD 0 0=91 from hc),gY d]);have m:=(FY (c::r)).1;generalize kL (c::r)=X at g f m d;obtain⟨key,rest,ok⟩:=X;simp only[]at g f m d;rw[az]at d;obtain⟨rfl,d⟩:=d;have y:=ae λW:ay=>Tryz.strings_CutPrefix ⟨rest.toArray⟩ ⟨#[64]⟩ W
 rw[show(⟨#[64]⟩:ByteArray).data.toList=[64]from rfl,show(⟨rest.toArray⟩:ByteArray).data.toList=rest from rfl,d]at y;have F:=CJ rest [64];generalize aN rest [64]=tl at y f F;have j:=ae λ(W:ay) (i:jM W)=>JD ⟨tl.toArray⟩ W (by rw[kZ];simp only[aJ]at m;omega) i
 rw[show(⟨tl.toArray⟩:ByteArray).data.toList=tl from rfl]at j;unfold xC at j;generalize lZ tl=Y at j f;obtain⟨x,G,T⟩:=Y;simp only[]at j f;have H:=ae λ(W:ay) (i:Below w.heap.size w W)=>D.below i
 have aa:=ae (Decidable.em (0<x));clear hs C D E S d F m;have n:0<x\/¬0<x:=Decidable.em _;cases T
 all_goals rcases n with n|n
 all_goals
  have I:=ae n
  as_aux_lemma=>
  go_enter dE,dB
  go_upto_region 14 with(go_at_call 53;refine(g.1 _ (H.1 _ (iW w _))).mono ?_;rintro e a ⟨rfl,J⟩;have z:=ae J;clear J)
  have q:PLift (w.heap.size<a.heap.size):=⟨by have:=z.1.size;rw[jl]at this;omega⟩;have U:PLift (a.heap[w.heap.size]?=au (.cells #[.int .i64 0,.int .i64 0,.string ⟨#[]⟩] 101)):=⟨by rw[z.1.block _ (by rw[jl];omega)];exact aP w _⟩;have K:=ae (aP a (.cells #[.int .i64 0,.int .i64 0,.string ⟨key.toArray⟩] 101));have L:PLift ((a.alloc (.cells #[.int .i64 0,.int .i64 0,.string ⟨key.toArray⟩] 101)).heap[w.heap.size]?=au (.cells #[.int .i64 0,.int .i64 0,.string ⟨#[]⟩] 101)):=⟨by rw[bC _ _ _ q.1];exact U.1⟩;have t:PLift (Below w.heap.size w (a.alloc (.cells #[.int .i64 0,.int .i64 0,.string ⟨key.toArray⟩] 101))):=⟨((iW w _).trans (z.1.mono (by rw[jl];omega))).alloc (by have:=q.1;omega) _⟩;obtain⟨M,N⟩:=iC (a.alloc (.cells #[.int .i64 0,.int .i64 0,.string ⟨key.toArray⟩] 101));rw[N]at K L t⊢;clear N
  as_aux_lemma=>
  go_upto_region 17 with(first
   |(go_at_call 51;refine(y.1 _).mono ?_;rintro e ab ⟨rfl,rfl⟩)
   |(
    go_at_call 52;refine(j.1 _ (H.1 _ t.1)).mono ?_;rintro e w3 ⟨rfl,O⟩;have A:=ae O;clear O;
    have B:=ae (Mix.lu A.1 K.1);have V:=ae (Mix.lu A.1 L.1);have P:=iK B.1 1 (.int .i64 0);have Z:∀o,w3.frozen? ⟨a.heap.size,o,ag⟩=aj:=λo=>aI B.1 o))
  have u:PLift ((w3.setCell ⟨a.heap.size,1,ag⟩ (.int .i64 x)).heap[a.heap.size]?=au (.cells #[.int .i64 0,.int .i64 x,.string ⟨key.toArray⟩] 101)):=⟨by have h:=B.1;simp[World.setCell,di,h]⟩;have k:PLift ((w3.setCell ⟨a.heap.size,1,ag⟩ (.int .i64 x)).heap[w.heap.size]?=au (.cells #[.int .i64 0,.int .i64 0,.string ⟨#[]⟩] 101)):=⟨by rw[jm _ (by have:=q.1;omega)];exact V.1⟩;have Q:PLift (Below w.heap.size w (w3.setCell ⟨a.heap.size,1,ag⟩ (.int .i64 x))):=⟨(t.1.trans (A.1.mono t.1.size)).setCell (p:=⟨a.heap.size,1,ag⟩) (by have:=q.1;show w.heap.size<=a.heap.size;omega) _⟩;obtain⟨b,R⟩:=iC (w3.setCell ⟨a.heap.size,1,ag⟩ (.int .i64 x));rw[R]at u k Q⊢;clear R P Z;have ac:=iK u.1 0 (.int .i64 0);have P:=iK u.1 1 (.int .i64 x);have ad:=iK u.1 2 (.string ⟨key.toArray⟩);have ai:=iK k.1 0 (.int .i64 0);have r1:=iK k.1 1 (.int .i64 0);have r2:=iK k.1 2 (.string ⟨#[]⟩);have ak:∀o,b.frozen? ⟨w.heap.size,o,ag⟩=aj:=λo=>aI k.1 o
  as_aux_lemma=>
  go_wp2
  first
   |refine aC (v:=.tuple #[.agg #[.int .i64 0,.int .i64 x,.string ⟨key.toArray⟩],.string ⟨G.toArray⟩,.bool aB]) (by simp only[results,aZ];go_simp) rfl ⟨(by unfold wM;rw[f.1];first|rfl|(rw[show decide (0<x)=aB from iq I.1];rfl)),?_⟩
   |refine aC (v:=.tuple #[.agg #[.int .i64 0,.int .i64 x,.string ⟨key.toArray⟩],.string ⟨G.toArray⟩,.bool aj]) (by simp only[results,aZ];go_simp) rfl ⟨(by unfold wM;rw[f.1];first|rfl|(rw[show decide (0<x)=aj from iw I.1];rfl)),?_⟩
  exact(((Q.1.setCell (p:=⟨w.heap.size,0,ag⟩) (ax _) (.int .i64 0)).setCell (p:=⟨w.heap.size,1,ag⟩) (ax _) (.int .i64 x)).setCell (p:=⟨w.heap.size,2,ag⟩) (ax _) (.string ⟨key.toArray⟩))
theorem ZF (s:ByteArray)(w:ay)(c:UInt8)(r:List UInt8)(hs:s.data.toList=c::r)(hc:c≠91)(k rest:ByteArray)(ok:Bool)
  (f:jM w)(g:∀w,jM w->aS aA 53 #[.string s] w λe w'=>e=.returned (.tuple #[.string k,.string rest,.bool ok])/\Below w.heap.size w w')
  (h:(ok&&aK rest.data.toList [64])=aj):
  aS aA 48 #[.string s,.bool aj] w λe w'=>e=.returned (.tuple #[yG 0 0 k,.string rest,.bool ok])/\Below w.heap.size w w':=by
 have l:s.size=r.length+1:=by have:=ig bY hs;simpa using this
 have a:0<s.size:=iE
 have i:s[0]'a=c:=by
  have:s.data.toList.getD 0 0=s[0]'a:=lC s 0 a
  rw[<-this,hs];rfl
 have e1:(((s[0]'a).toNat:Int)==91)=aj:=by rw[i];simp only[iy,ne_eq];exact λe=>hc (UInt8.toNat_inj.1 (by have e:(91:UInt8).toNat=91:=rfl;omega))
 have m:=aQ g;have n:=aQ (f.below (iW w (.cells #[.int .i64 0,.int .i64 0,.string ⟨#[]⟩] 101)));clear f
 have o:(ok=aj/\∃b,aK rest.data.toList [64]=b)\/(ok=aB/\aK rest.data.toList [64]=aj):=by
  cases ok
  ·exact .inl ⟨rfl,_,rfl⟩
  ·exact .inr ⟨rfl,by simpa using h⟩
 clear i hs l g h hc;rcases o with⟨rfl,b,q⟩|⟨rfl,q⟩
 all_goals
  go_enter dE,dB
  go_wp2_with(first
   |(go_at_call 53;refine(m.out _ n.out).mono ?_;rintro e u ⟨rfl,d⟩;obtain⟨x,y,z,A,B,C,D⟩:=EJ d;have t:=aQ d;clear d)
   |(go_at_call 51;refine(Tryz.strings_CutPrefix _ _ _).mono ?_;rintro e E ⟨rfl,rfl⟩))
  refine aC (v:=.tuple #[yG 0 0 k,.string rest,.bool _]) (by simp only[results,aZ,yG];go_simp) rfl ⟨rfl,?_⟩;have hw:=((Below.refl w.heap.size w).alloc (ax _) (.cells #[.int .i64 0,.int .i64 0,.string ⟨#[]⟩] 101)).trans (t.out.mono iH);have j:=(((hw.setCell (p:=⟨w.heap.size,0,ag⟩) (ax _) (.int .i64 0)).setCell (p:=⟨w.heap.size,1,ag⟩) (ax _) (.int .i64 0)).setCell (p:=⟨w.heap.size,2,ag⟩) (ax _) (.string k));exact j.alloc j.size _
theorem ZG (l:List UInt8)(g:l≠[])(i:l.length<=65536)(w:ay)(a:jM w):
  aS aA 48 #[.string ⟨l.toArray⟩,.bool aj] w λe w'=>wM l e/\Below w.heap.size w w':=by
 cases l with
 |nil=>exact absurd rfl g
 |cons c r=>
  have hs:(⟨(c::r).toArray⟩:ByteArray).data.toList=c::r:=rfl;have b:(⟨(c::r).toArray⟩:ByteArray).size<=65536:=by rw[kZ];exact i
  by_cases hc:c=91
  ·subst hc
   exact ZC _ r w hs b a
  ·by_cases d:((kL (c::r)).2.2 &&aK (kL (c::r)).2.1 [64])=aB
   ·exact ZE _ c r w hs hc b a d
   ·have f:((kL (c::r)).2.2 &&aK (kL (c::r)).2.1 [64])=aj:=by simpa using d
    have j:∀W,jM W->aS aA 53 #[.string ⟨(c::r).toArray⟩] W λe w'=>e=.returned (.tuple #[.string ⟨(kL (c::r)).1.toArray⟩,.string ⟨(kL (c::r)).2.1.toArray⟩,.bool (kL (c::r)).2.2])/\Below W.heap.size W w':=λW k=>MJ _ W (dF _ _) b k
    refine(ZF ⟨(c::r).toArray⟩ w c r hs hc _ _ _ a j f).mono λe w' h=>⟨?_,h.2⟩
    rw[h.1];unfold wM pq;rw[gZ (show ¬(c::r).getD 0 0=91 from hc),gZ (by rw[f];decide)]
    rfl
noncomputable def tV (l:List UInt8):Bool:=(qi pq l).2 ==0
theorem ZH:yI aj pq (λl=>l.length<=65536):=by
 intro l b a;refine⟨λw hw=>?_,λc=>?_⟩
 ·exact ZG l a b w hw
 ·have:=ZB l a c
  exact⟨this,iE⟩
theorem ZI (l:List UInt8)(a:l.length<=65536):qK l (tV l):=by intro w hw;refine(Jn pq _ ZH l a w hw iE).mono ?_;rintro e w' ⟨b,v,he,-⟩;refine⟨v,_,he,?_,b⟩;unfold tV;rw[bne]
structure ahG (w0:ay)(nv fv:aT)(c:Cx):Prop where
 env:Env w0
 ns:Cj nv c.ns.length (c.ns.map Value.string) w0
 fs:Cj fv c.fs.length (c.fs.map (Value.int .i64)) w0
 few:c.ns.length<=1000000/\c.fs.length<=1000000
 szs:∀s∈c.ns,s.size<=65536
 tx:c.tx.size<=65536
structure ahH (w0:ay)(op:Int)(nv fv:aT)(tx:ByteArray)(i j t:Nat)(wr:ay):Prop where
 below:Below w0.heap.size w0 wr
 wri:wr.heap[w0.heap.size]?=au (wrt op nv fv tx i j t)
theorem ahH.same {w0:ay}{op:Int}{a b:aT}{tx:ByteArray}{i j t:Nat}{wr w':ay}(h:ahH w0 op a b tx i j t wr)(c:Below wr.heap.size wr w'):ahH w0 op a b tx i j t w':=
 ⟨h.below.trans (c.mono h.below.size),by rw[c.block _ (aU.1 h.wri).1];exact h.wri⟩
theorem ahH.set {w0:ay}{op:Int}{a b:aT}{tx:ByteArray}{i j t i' j' t':Nat}{wr:ay}(h:ahH w0 op a b tx i j t wr)(k:Nat)(v:aT)
  (hv:(#[.int .i64 op,a,b,.string tx,.int .i64 i,.int .i64 j,.int .i64 t]:Array aT).setIfInBounds k v=#[.int .i64 op,a,b,.string tx,.int .i64 i',.int .i64 j',.int .i64 t']):
  ahH w0 op a b tx i' j' t' (wr.setCell ⟨w0.heap.size,k,ag⟩ v):=
 ⟨h.below.setCell (p:=⟨w0.heap.size,k,ag⟩) (ax _) _,by rw[tZ h.wri v,hv];rfl⟩
def Cx.nm (c:Cx)(i:Nat):ByteArray:=c.ns.getD i ⟨#[]⟩
def Cx.fm (c:Cx)(j:Nat):Int:=c.fs.getD j 0
theorem agu {c:Cx}{i:Nat}(h:i<c.ns.length):c.ns[i]?=au (c.nm i):=by unfold Cx.nm;simp[aH,h]
theorem agF {c:Cx}{j:Nat}(h:j<c.fs.length):c.fs[j]?=au (c.fm j):=by unfold Cx.fm;simp[aH,h]
theorem ahG.nm {w0:ay}{a b:aT}{c:Cx}(H:ahG w0 a b c)(i:Nat):(c.nm i).size<=65536:=by
 by_cases h:i<c.ns.length
 ·exact H.szs _ (List.mem_of_getElem? (agu h))
 ·unfold Cx.nm;rw[aH,List.getElem?_eq_none iE];decide
theorem agG {w0 wr:ay}{op:Int}{b a:aT}{c:Cx}{i j t:Nat}(H:ahG w0 b a c)(h:ahH w0 op b a c.tx i j t wr)(hi:i<c.ns.length):
  aS aA 35 #[.pointer (au ⟨w0.heap.size,0,ag⟩)] wr λe w'=>e=.returned (.tuple #[.string (c.nm i),.bool aB])/\ahH w0 op b a c.tx (i+1) j t w':=by
 obtain⟨f,cp,rfl,hr⟩:=H.ns;obtain⟨g,of,rfl,hc⟩:=hr iE;have hx:=hc i (.string (c.nm i)) (by rw[dC,agu hi];rfl);have d:g<w0.heap.size:=World.block_lt_of_cell? w0 _ hx;refine(agj wr w0.heap.size op g of c.ns.length cp a c.tx (c.nm i) i j t h.wri hi (by have:=H.few.1;unfold maxLen;omega) (by rw[h.below.cell (p:=⟨g,of+i,ag⟩) d];exact hx) iE).mono ?_;rintro e w' ⟨rfl,n,rfl⟩;exact⟨rfl,(h.set 4 _ rfl).same (below_drewN _ _ _)⟩
theorem agH {w0 wr:ay}{op:Int}{b a:aT}{c:Cx}{i j t:Nat}(H:ahG w0 b a c)(h:ahH w0 op b a c.tx i j t wr)(hi:i=c.ns.length):
  aS aA 35 #[.pointer (au ⟨w0.heap.size,0,ag⟩)] wr λe w'=>e=.returned (.tuple #[.string ⟨#[]⟩,.bool aj])/\ahH w0 op b a c.tx i j t w':=by
 obtain⟨d,cp,rfl,_⟩:=H.ns;subst hi;refine(agi wr w0.heap.size op d cp a c.tx _ j t h.wri).mono ?_;rintro e w' ⟨rfl,n,rfl⟩;exact⟨rfl,h.same (below_drewN _ _ _)⟩
noncomputable def PM (c:Cx)(K:AK)(i j:Nat):Bool:=match K with
 |.n=>decide (i<c.ns.length)&&nameB (c.nm i).data.toList
 |.f=>decide (j<c.fs.length)&&(decide (0<=c.fm j)&&decide (c.fm j<9))
 |.p=>decide (i<c.ns.length)&&tV (c.nm i).data.toList
 |.t=>aB
def ahF (c:Cx)(K:AK)(i j:Nat):List UInt8:=match K with
 |.n=>(c.nm i).data.toList
 |.f=>fmtS (c.fm j).toNat
 |.p=>34::qb (c.nm i).data.toList++[34]
 |.t=>34::qb c.tx.data.toList++[34]
def AK.di:AK->Nat|.n=>1|.p=>1|_=>0
def AK.dj:AK->Nat|.f=>1|_=>0
def AK.dt:AK->Nat|.t=>1|_=>0
def ago:AK->Nat
 |.n=>23
 |.f=>25
 |.p=>27
 |.t=>29
def WP (w0:ay)(op:Int)(a b:aT)(c:Cx)(K:AK)(i j t:Nat)(e:dP)(w':ay):Prop:=
 ∃s:ByteArray,e=.returned (.tuple #[.string s,.bool (PM c K i j)])/\Below w0.heap.size w0 w'/\(PM c K i j=aB->s=⟨(ahF c K i j).toArray⟩/\ahH w0 op a b c.tx (i+K.di) (j+K.dj) (t+K.dt) w')
theorem agp (s:ByteArray):(⟨s.data.toList.toArray⟩:ByteArray)=s:=ext_list iH
theorem ag5 {w0 wr:ay}{op:Int}{g k:aT}{c:Cx}{i j t:Nat}(H:ahG w0 g k c)(h:ahH w0 op g k c.tx i j t wr)(hi:i<=c.ns.length):
  aS aA 23 #[.pointer (au ⟨w0.heap.size,0,ag⟩)] wr (WP w0 op g k c .n i j t):=by
 by_cases b:i<c.ns.length
 ·have a:=aQ (iJ (agG H h b) (iJ b (aV (H.nm i) (by unfold maxLen;omega:65536<=maxLen))))
  clear b hi h H;go_enter dZ,dU
  go_wp2_with(first|(go_at_call 35;refine a.out.1.mono ?_;rintro e l ⟨rfl,d⟩;have f:=aQ d;clear d)|(go_at_call 34;refine(name_any _ _ a.out.2.2).mono ?_;rintro e m ⟨rfl,rfl⟩))
  go_ret2;have e:PM c .n i j=nameB (c.nm i).data.toList:=by simp only[PM,a.out.2.1,decide_true,dn]
  unfold WP;rw[e];exact⟨_,rfl,f.out.below,λ_=>⟨(agp _).symm,f.out⟩⟩
 ·have a:=aQ (iJ (agH H h iE) b)
  clear b hi h H;go_enter dZ,dU
  go_wp2_with(go_at_call 35;refine a.out.1.mono ?_;rintro e l ⟨rfl,d⟩;have f:=aQ d;clear d)
  go_ret2;have e:PM c .n i j=aj:=by simp only[PM,a.out.2,decide_false,bH]
  unfold WP;rw[e];exact⟨_,rfl,f.out.below,λh=>by cases h⟩
theorem ag6 {w0 wr:ay}{op:Int}{q r:aT}{c:Cx}{i j t:Nat}(H:ahG w0 q r c)(h:ahH w0 op q r c.tx i j t wr)(hi:i<=c.ns.length):
  aS aA 27 #[.pointer (au ⟨w0.heap.size,0,ag⟩)] wr (WP w0 op q r c .p i j t):=by
 have u:∀(s:ByteArray) w',s.size<=65536->Below w0.heap.size w0 w'->aS aA 37 #[.string s] w' λe g=>∃(v:aT) (k:Int),e=.returned (.tuple #[v,.int .i64 k])/\(k==0)=tV s.data.toList/\Below w'.heap.size w' g:=λs w' hs w=>by
  have hp:=ZI s.data.toList (by simpa using hs) w' (H.env.below w).lib;rw[agp]at hp;refine hp.mono λe g ⟨v,k,f,d,a⟩=>⟨v,k,f,?_,a⟩
  rw[bne,Bool.not_inj_iff]at d;exact d
 have x:∀(s:ByteArray) w',s.size<=65536->Below w0.heap.size w0 w'->aS aA 38 #[.string s] w' λe g=>e=.returned (.string ⟨(34::qb s.data.toList++[34]).toArray⟩)/\Below w'.heap.size w' g:=λs w' hs w=>afB s w' iE (H.env.below w).tabs
 have l:=ae (iJ u (iJ x (H.nm i)));by_cases n:i<c.ns.length
 ·have o:=aQ (iJ (agG H h n) n)
  clear n hi h H u x;go_enter ed,dV
  go_wp2_with(first
   |(go_at_call 35;refine o.out.1.mono ?_;rintro e B ⟨rfl,f⟩;have b:=aQ f;clear f)
   |(go_at_call 37;refine(l.1.1 _ _ l.1.2.2 b.out.below).mono ?_;rintro e g ⟨v,k,rfl,d,a⟩;have m:=ae (iJ d a);clear d a)
   |(go_at_call 38;refine(l.1.2.1 _ _ l.1.2.2 (b.out.below.trans (m.1.2.mono b.out.below.size))).mono ?_;rintro e w3 ⟨rfl,a⟩;have y:=ae a;clear a))
  go_ret2;have e:PM c .p i j=(k==0):=by simp only[PM,o.out.2,decide_true,dn,m.1.1]
  unfold WP;rw[e];have z:=(b.out.same m.1.2).same y.1;exact⟨_,rfl,z.below,λ_=>⟨rfl,z⟩⟩
 ·have o:=aQ (iJ (agH H h iE) n)
  have A:(⟨#[]⟩:ByteArray).size<=65536:=iG
  clear n hi h H u x;go_enter ed,dV
  go_wp2_with(first
   |(go_at_call 35;refine o.out.1.mono ?_;rintro e B ⟨rfl,f⟩;have b:=aQ f;clear f)
   |(go_at_call 37;refine(l.1.1 _ _ A b.out.below).mono ?_;rintro e g ⟨v,k,rfl,d,a⟩;have m:=ae (iJ d a);clear d a)
   |(go_at_call 38;refine(l.1.2.1 _ _ A (b.out.below.trans (m.1.2.mono b.out.below.size))).mono ?_;rintro e w3 ⟨rfl,a⟩;have y:=ae a;clear a))
  go_ret2;have e:PM c .p i j=aj:=by simp only[PM,o.out.2,decide_false,bH]
  unfold WP;rw[e];exact⟨_,rfl,((b.out.same m.1.2).same y.1).below,λh=>by cases h⟩
theorem ag7 {w0 wr:ay}{op:Int}{a b:aT}{c:Cx}{i j t:Nat}(H:ahG w0 a b c)(h:ahH w0 op a b c.tx i j t wr)(f:t<1000):
  aS aA 29 #[.pointer (au ⟨w0.heap.size,0,ag⟩)] wr (WP w0 op a b c .t i j t):=by
 have k:=H.env.Jg;refine(agk wr w0.heap.size op a b c.tx i j t h.wri f (by have:=H.tx;omega) (H.env.below h.below).tabs iE iE).mono ?_;rintro e w' ⟨rfl,g⟩;have d:=(h.set (i':=i) (j':=j) (t':=t+1) 6 _ rfl).same g;exact⟨_,rfl,d.below,λ_=>⟨rfl,d⟩⟩
theorem ag8 {w0 wr:ay}{op:Int}{o q:aT}{c:Cx}{i j t:Nat}(H:ahG w0 o q c)(h:ahH w0 op o q c.tx i j t wr)(k:j<=c.fs.length):
  aS aA 25 #[.pointer (au ⟨w0.heap.size,0,ag⟩)] wr (WP w0 op o q c .f i j t):=by
 obtain⟨v,cp,l,hr⟩:=H.fs;have w:wr.cell? ⟨w0.heap.size,2,ag⟩=au (.slice v c.fs.length cp):=by rw[af h.wri,l];rfl
 have z:wr.cell? ⟨w0.heap.size,5,ag⟩=au (.int .i64 j):=by rw[af h.wri];rfl
 have A:=aI h.wri 5;obtain⟨N,b⟩:=iC c.fs.length;have m:=H.few.2;rw[b]at w k hr m;by_cases d:j<N
 ·obtain⟨g,of,rfl,hc⟩:=hr iE
  have hx:=hc j (.int .i64 (c.fm j)) (by rw[dC,agF iE];rfl);have y:g<w0.heap.size:=World.block_lt_of_cell? w0 _ hx;have hy:wr.cell? ⟨g,of+j,ag⟩=au (.int .i64 (c.fm j)):=by rw[h.below.cell (p:=⟨g,of+j,ag⟩) y];exact hx
  have hF:∀f:Nat,f<9->wr.cell? ⟨0,f,ag⟩=au (.string ⟨(fmtS f).toArray⟩):=λf hf=>by rw[h.below.cell (p:=⟨0,f,ag⟩) H.env.Jg.1];exact H.env.fmt f hf
  have r:=aQ (iJ (show ∀n,ahH w0 op o q c.tx i (j+1) t ((wr.drewN n).setCell ⟨w0.heap.size,5,ag⟩ (.int .i64 ((j:Int)+1)))from λn=>(h.set (i':=i) (j':=j+1) (t':=t) 5 (.int .i64 ((j:Int)+1)) rfl).same (below_drewN _ _ n)) (iJ d b));have ne:((j:Int)==(N:Int))=aj:=iI
  have b1:IntKind.i64.wrap ((j:Int)+1)=(j:Int)+1:=IntWalk.i64_in _ iE;have B:(0:Int)<=j:=iE
  have C:(j:Int)<N:=iE
  have D:0≠w0.heap.size:=by have:=H.env.Jg.1;omega
  obtain⟨x,e⟩:=iC (c.fm j);rw[e]at hy;by_cases s:0<=x
  ·by_cases u:x<9
   ·obtain⟨f,rfl⟩:∃f:Nat,x=f:=⟨x.toNat,iE⟩
    have ds:=hF f iE;have a:=aQ (show PM c .f i j=aB/\ahF c .f i j=fmtS f by simp only[PM,ahF,e,b,d,s,u,decide_true,dK,aO,and_self]);clear hF d m k hr e hx hc b H h l;go_enter cu,bT;go_wp2
    go_quiet (fail)
    go_wp2
    go_quiet (fail)
    go_wp2;go_ret2;unfold WP;rw[a.out.1,a.out.2];exact⟨_,rfl,(r.out.1 _).below,λ_=>⟨rfl,r.out.1 _⟩⟩
   ·have a:=aQ (show PM c .f i j=aj by simp only[PM,e,u,decide_false,dJ])
    clear hF d m k hr e hx hc b H h l;go_enter cu,bT;go_wp2
    go_quiet (fail)
    go_wp2
    go_quiet (fail)
    go_wp2
    all_goals
     go_ret2;unfold WP;rw[a.out];exact⟨_,rfl,(r.out.1 _).below,λh=>by cases h⟩
  ·have a:=aQ (show PM c .f i j=aj by simp only[PM,e,s,decide_false,dJ,bH])
   clear hF d m k hr e hx hc b H h l;go_enter cu,bT;go_wp2
   go_quiet (fail)
   go_wp2
   go_quiet (fail)
   go_wp2
   all_goals
    go_ret2;unfold WP;rw[a.out];exact⟨_,rfl,(r.out.1 _).below,λh=>by cases h⟩
 ·obtain rfl:j=N:=iE
  have a:=aQ (iJ (show PM c .f i j=aj by simp only[PM,b,d,decide_false,bH]) h);clear d m k hr b H h l;go_enter cu,bT;go_wp2
  go_quiet (fail)
  go_wp2;go_ret2;unfold WP;rw[a.out.1];exact⟨_,rfl,(a.out.2.same (below_drewN _ _ _)).below,λh=>by cases h⟩
noncomputable def okL (c:Cx):List AK->Nat->Nat->Bool
 |[],_,_=>aB
 |K::a,i,j=>PM c K i j&&okL c a (i+K.di) (j+K.dj)
def OA (c:Cx):List AK->Nat->Nat->List UInt8
 |[],_,_=>[]
 |K::a,i,j=>32::(ahF c K i j++OA c a (i+K.di) (j+K.dj))
def agm (f:AK->Nat):List AK->Nat
 |[]=>0
 |K::a=>f K+agm f a
def OB (c:Cx)(j:Nat):List AK:=if j=12 then ah (min (max 1 c.ns.length) 64) .n else jc j
def endOk (c:Cx)(a:List AK):Prop:=agm AK.di a=c.ns.length/\agm AK.dj a=c.fs.length/\(0<agm AK.dt a\/c.tx.size=0)
instance (c:Cx) (ks:List AK):Decidable (endOk c ks):=by unfold endOk;infer_instance
noncomputable def txJ (c:Cx)(j:Nat):Option (List UInt8):=if okL c (OB c j) 0 0=aB/\endOk c (OB c j)then au (wo j++OA c (OB c j) 0 0)else ag
def agv (op:Int):Option Nat:=if 1<=op/\op<=15 then au (op.toNat - 1)else ag
noncomputable def txF (m:Int×Cx):Option (List UInt8):=match agv m.1 with|some j=>txJ m.2 j|none=>ag
theorem agI {j:Nat}(a:j<15):agv (jC j)=au j:=by
 rcases j with _|_|_|_|_|_|_|_|_|_|_|_|_|_|_|j
 case succ=>omega
 all_goals rfl
theorem agr {op:Int}{j:Nat}(h:agv op=au j):j<15/\jC j=op:=by
 unfold agv at h;split at h
 ·obtain rfl:=Option.some.inj h
  obtain⟨k,a⟩:∃k:Nat,op=(k:Int)+1:=⟨op.toNat - 1,iE⟩;subst a;have e:((k:Int)+1).toNat - 1=k:=iE
  rw[e];refine⟨iE,?_⟩;rcases k with _|_|_|_|_|_|_|_|_|_|_|_|_|_|_|k
  case succ=>omega
  all_goals rfl
 ·cases h
theorem agJ:∀(l:List UInt8) (i:Nat),vw i l=aB->∀b∈l,48<=b.toNat/\b.toNat<=122
 |[],_,_,_,a=>by cases a
 |c::r,i,h,b,a=>by
  simp only[vw,az]at h;rcases List.mem_cons.1 a with rfl|a
  ·have:=of_decide_eq_true h.1
   omega
  ·exact agJ r _ h.2 b a
theorem agw {l:List UInt8}(h:nameB l=aB):(∀b∈l,48<=b.toNat/\b.toNat<=122)/\l≠[]/\l.length<=64:=by simp only[nameB,az,decide_eq_true_eq,Bool.not_eq_true',List.isEmpty_eq_false_iff]at h;exact⟨agJ l 0 h.1.1,h.1.2,h.2⟩
theorem agK {f:Nat}(hf:f<9):(∀b∈fmtS f,48<=b.toNat/\b.toNat<=122)/\fmtS f≠[]/\rF (fmtS f)=au f:=by
 rcases f with _|_|_|_|_|_|_|_|_|f
 case succ=>omega
 all_goals exact⟨iG,iG,iG⟩
theorem key_ok {j:Nat}(a:j<15):(∀b∈wo j,48<=b.toNat/\b.toNat<=122)/\wo j≠[]/\wu (wo j)=au j:=by
 rcases j with _|_|_|_|_|_|_|_|_|_|_|_|_|_|_|j
 case succ=>omega
 all_goals exact⟨iG,iG,iG⟩
theorem agq (l r:List UInt8)(h:∀b∈l,48<=b.toNat/\b.toNat<=122)(hr:iV 32 r=[]):iV 32 (l++r)=l:=by unfold iV at hr⊢;rw[List.takeWhile_append_of_pos,hr,bW];intro b a;have:=h b a;simp only[bne_iff_ne,ne_eq];rintro rfl;exact absurd this.1 iG
theorem agL (t r:List UInt8):rE ((34::qb t++[34])++r)=au (t,r):=by
 unfold rE;rw[gY (by rfl)];have e:List.drop 1 ((34::qb t++[34])++r)=qb t++34::r:=iH
 rw[e];exact agd t r
theorem take_one {α:Type}(l:List α)(i:Nat)(x:α)(h:l[i]?=au x):(l.drop i).take 1=[x]:=by
 obtain⟨hi,rfl⟩:=List.getElem?_eq_some_iff.1 h;rw[List.drop_eq_getElem_cons hi]
 rfl
theorem ag9 (c:Cx)(K:AK)(i j:Nat)(rest:List UInt8)(a:Cx)(h:PM c K i j=aB)(hr:iV 32 rest=[]):
  oV tV K (ahF c K i j++rest)=aB/\(ny tV K (ahF c K i j++rest)).toNat=(ahF c K i j).length/\ahF c K i j≠[]/\
  kY tV K (ahF c K i j++rest) a=⟨a.ns++(c.ns.drop i).take K.di,a.fs++(c.fs.drop j).take K.dj,if 0<K.dt then c.tx else a.tx⟩:=by
 cases K with
 |n=>simp only[PM,az,decide_eq_true_eq]at h;obtain⟨b,d,-⟩:=agw h.2;have e:=agq _ rest b hr;simp only[oV,ny,kY,ahF,e,h.2,aO,true_and];refine⟨d,?_⟩;rw[show AK.di .n=1 from rfl,show AK.dj .n=0 from rfl,show AK.dt .n=0 from rfl,take_one _ _ _ (agu h.1),agp];simp
 |f=>simp only[PM,az,decide_eq_true_eq]at h;obtain⟨f,hf⟩:∃f:Nat,c.fm j=f:=⟨(c.fm j).toNat,iE⟩;obtain⟨b,d,k⟩:=agK (show f<9 by omega);have e:=agq _ rest b hr;have g:=agF h.1;rw[hf]at g;simp only[oV,ny,kY,ahF,hf,aO,e,k,bJ,if_true,true_and];refine⟨d,?_⟩;rw[show AK.di .f=0 from rfl,show AK.dj .f=1 from rfl,show AK.dt .f=0 from rfl,take_one _ _ _ g];simp
 |p=>simp only[PM,az,decide_eq_true_eq]at h;have e:=agL (c.nm i).data.toList rest;simp only[oV,ny,kY,ahF,nZ,lX,sK,e,h.2,bJ,dK,if_true,true_and];refine⟨iI,iH,?_⟩;rw[show AK.di .p=1 from rfl,show AK.dj .p=0 from rfl,show AK.dt .p=0 from rfl,take_one _ _ _ (agu h.1),agp];simp
 |t=>have e:=agL c.tx.data.toList rest;simp only[oV,ny,kY,ahF,nZ,lX,sK,e,bJ,true_and];refine⟨iI,iH,?_⟩;rw[show AK.di .t=0 from rfl,show AK.dj .t=0 from rfl,show AK.dt .t=1 from rfl,agp];simp
theorem ags (c:Cx)(a:List AK)(i j:Nat):iV 32 (OA c a i j)=[]:=by cases a<;>rfl
theorem agx {α:Type}(x:α)(r:List α):∀pre:List α,(pre++x::r).drop (pre.length+1)=r
 |[]=>rfl
 |_::pre=>agx x r pre
theorem aha {α:Type}(l:List α)(i d:Nat):l.take i++(l.drop i).take d=l.take (i+d):=(List.take_add).symm
theorem agM (c:Cx):∀(a:List AK) (i j:Nat) (pre:List UInt8) (tx:ByteArray),okL c a i j=aB->
  jQ tV (pre++OA c a i j) a pre.length ⟨c.ns.take i,c.fs.take j,tx⟩=(au ⟨c.ns.take (i+agm AK.di a),c.fs.take (j+agm AK.dj a),if 0<agm AK.dt a then c.tx else tx⟩,-1)
 |[],i,j,pre,tx,_=>by unfold jQ OA;rw[gZ iH];simp[agm]
 |K::a,i,j,pre,tx,h=>by
  simp only[okL,az]at h;obtain⟨f,g,k,l⟩:=ag9 c K i j (OA c a (i+K.di) (j+K.dj)) ⟨c.ns.take i,c.fs.take j,tx⟩ h.1 (ags ..);have hw:0<(ahF c K i j).length:=dw.2 k;have hd:(pre++OA c (K::a) i j).drop (pre.length+1)=ahF c K i j++OA c a (i+K.di) (j+K.dj):=agx 32 _ pre;have q:(pre++OA c (K::a) i j).length=pre.length+1+(ahF c K i j).length+(OA c a (i+K.di) (j+K.dj)).length:=by simp[OA];omega
  have m:(pre++OA c (K::a) i j).getD pre.length 0=32:=by simp[OA,aH]
  rw[zM,gZ iE,gZ (by rw[m];simp),gZ iE,hd,gY f,g,l];simp only[aha];have e:pre++OA c (K::a) i j=(pre++32::ahF c K i j)++OA c a (i+K.di) (j+K.dj):=by simp[OA]
  have n:pre.length+1+(ahF c K i j).length=(pre++32::ahF c K i j).length:=iI
  have o:(if 0<agm AK.dt a then c.tx else if 0<K.dt then c.tx else tx)=if 0<agm AK.dt (K::a)then c.tx else tx:=by
   have hs:agm AK.dt (K::a)=K.dt+agm AK.dt a:=rfl;by_cases b:0<agm AK.dt a
   ·rw[gY b,gY iE]
   ·by_cases d:0<K.dt
    ·rw[gZ b,gY d,gY iE]
    ·rw[gZ b,gZ d,gZ iE]
  have e3:i+agm AK.di (K::a)=i+K.di+agm AK.di a:=(dL ..).symm;have p:j+agm AK.dj (K::a)=j+K.dj+agm AK.dj a:=(dL ..).symm;rw[e,n,agM c a _ _ _ _ h.2,o,e3,p]
theorem agN {c:Cx}{m i j:Nat}(h:okL c (ah (m+1) .n) i j=aB):PM c .n i j=aB/\okL c (ah m .n) (i+1) j=aB:=by rw[aX]at h;simp only[okL,az]at h;exact h
theorem agO (c:Cx):∀(m f i j:Nat) (pre:List UInt8),m<=f->okL c (ah m .n) i j=aB->zN (pre++OA c (ah m .n) i j) f pre.length=m
 |0,f,i,j,pre,_,_=>by
  cases f with
  |zero=>rfl
  |succ f=>unfold zN OA;rw[gZ iH]
 |m+1,0,i,j,pre,h,_=>iE
 |m+1,f+1,i,j,pre,h,b=>by
  obtain⟨a,d⟩:=agN b;simp only[PM,az,decide_eq_true_eq]at a;obtain⟨g,o,-⟩:=agw a.2;have k:=agO c m f (i+1) j (pre++32::(c.nm i).data.toList) iE d;have hc:=agq _ (OA c (ah m .n) (i+1) j) g (ags ..);rw[aX];have e:pre++OA c (.n::ah m .n) i j=(pre++32::(c.nm i).data.toList)++OA c (ah m .n) (i+1) j:=by simp[OA,ahF,AK.di,AK.dj]
  have hd:(pre++OA c (.n::ah m .n) i j).drop (pre.length+1)=(c.nm i).data.toList++OA c (ah m .n) (i+1) j:=agx 32 _ pre;have l:pre.length+1+(c.nm i).data.toList.length=(pre++32::(c.nm i).data.toList).length:=iI
  unfold zN;rw[gY (by simp[OA]),hd,hc,l,e,k]
theorem ahb (c:Cx)(j:Nat)(h:okL c (OB c j) 0 0=aB):qh (wo j++OA c (OB c j) 0 0) j=OB c j:=by
 unfold qh;by_cases a:j=12
 ·subst a
  rw[gY rfl];have d:OB c 12=ah (min (max 1 c.ns.length) 64) .n:=gY rfl;rw[d]at h⊢;obtain⟨m,hm⟩:∃m,min (max 1 c.ns.length) 64=m+1:=⟨min (max 1 c.ns.length) 64 - 1,iE⟩;rw[hm]at h⊢;obtain⟨b,f⟩:=agN h;simp only[PM,az,decide_eq_true_eq]at b;obtain⟨g,l,-⟩:=agw b.2;obtain⟨i,o,-⟩:=key_ok (show 12<15 by omega);rw[agq _ _ i (ags ..)];have hc:=agq _ (OA c (ah m .n) 1 0) g (ags ..);have hd:(wo 12++OA c (.n::ah m .n) 0 0).drop ((wo 12).length+1)=(c.nm 0).data.toList++OA c (ah m .n) 1 0:=agx 32 _ _;have e:wo 12++OA c (.n::ah m .n) 0 0=(wo 12++32::(c.nm 0).data.toList)++OA c (ah m .n) 1 0:=by simp[OA,ahF,AK.di,AK.dj]
  have k:(wo 12).length+1+(c.nm 0).data.toList.length=(wo 12++32::(c.nm 0).data.toList).length:=iI
  unfold oq wB;rw[aX,hd,hc,k,e,agO c m 63 1 0 _ iE f]
 ·rw[gZ a]
  exact(gZ a).symm
theorem ahc {m:Int×Cx}{o:List UInt8}(h:txF m=au o):ou tV o=(au m,-1):=by
 unfold txF at h;split at h
 ·rename_i j b
  obtain⟨b,d⟩:=agr b;unfold txJ at h;split at h
  ·rename_i a
   obtain⟨a,e1,e,e3⟩:=a;obtain rfl:=Option.some.inj h;obtain⟨f,n,g⟩:=key_ok b;have c:=agM m.2 (OB m.2 j) 0 0 (wo j) ⟨#[]⟩ a;simp only[List.take_zero,e1,e,Nat.zero_add,List.take_length]at c
   have i:(if 0<agm AK.dt (OB m.2 j)then m.2.tx else⟨#[]⟩)=m.2.tx:=by
    split
    ·rfl
    ·rename_i k
     have l:=e3.resolve_left k
     exact(ext_list (by have:m.2.tx.data.toList.length=0:=(by simpa using l);rw[List.length_eq_zero_iff.1 this])).symm
   rw[i]at c;unfold ou;rw[agq _ _ f (ags ..),g];simp only[ahb m.2 j a,c,Option.map_some,d]
  ·cases h
 ·cases h
theorem agP:∀(l r:List UInt8),(∀b∈l,48<=b.toNat/\b.toNat<=122)->chk (l++r)=chk r
 |[],_,_=>rfl
 |c::l,r,h=>by rw[dG,Ny (by have:=h c (aY ..);omega)];exact agP l r λb a=>h b (bF _ a)
def FnL (l:List UInt8):Prop:=(∀b∈l,32<=b.toNat/\b.toNat≠127)/\∀r,chk (l++r)=chk r
theorem FnL.nm {l:List UInt8}(h:∀b∈l,48<=b.toNat/\b.toNat<=122):FnL l:=⟨λb a=>by have:=h b a;omega,λr=>agP l r h⟩
theorem FnL.app {l m:List UInt8}(h:FnL l)(c:FnL m):FnL (l++m):=by
 refine⟨λb a=>?_,λr=>by rw[bu,h.2,c.2]⟩;rcases List.mem_append.1 a with a|a
 ·exact h.1 b a
 ·exact c.1 b a
theorem FnL.one {c:UInt8}(h:32<=c.toNat/\c.toNat<127):FnL [c]:=⟨λb a=>by rw[List.mem_singleton.1 a];omega,λr=>Ny iE r⟩
theorem FnL.qt (t:List UInt8):FnL (34::qb t++[34]):=
 ((FnL.one (c:=34) iG).app ⟨agf t,age t⟩).app (FnL.one (c:=34) iG)
theorem FnL.w {c:Cx}{K:AK}{i j:Nat}(h:PM c K i j=aB):FnL (ahF c K i j):=by
 cases K with
 |n=>simp only[PM,az,decide_eq_true_eq]at h;exact FnL.nm (agw h.2).1
 |f=>simp only[PM,az,decide_eq_true_eq]at h;exact FnL.nm (agK (show(c.fm j).toNat<9 by omega)).1
 |p=>exact FnL.qt _
 |t=>exact FnL.qt _
theorem FnL.pt (c:Cx):∀(a:List AK) (i j:Nat),okL c a i j=aB->FnL (OA c a i j)
 |[],_,_,_=>⟨λ_ h=>(by cases h),λ_=>rfl⟩
 |K::a,i,j,h=>by simp only[okL,az]at h;exact(FnL.one (c:=32) iG).app ((FnL.w h.1).app (FnL.pt c a _ _ h.2))
theorem agQ {m:Int×Cx}{o:List UInt8}(h:txF m=au o):FnL o/\qN o=aB:=by
 unfold txF at h;split at h
 ·rename_i j d
  unfold txJ at h;split at h
  ·rename_i e
   obtain rfl:=Option.some.inj h;obtain⟨a,f,-⟩:=key_ok (agr d).1;refine⟨(FnL.nm a).app (FnL.pt _ _ _ _ e.1),?_⟩;cases c:wo j with
   |nil=>exact absurd c f
   |cons b r=>have:=a b (by rw[c];exact aY ..);simp only[qN,dG,List.isEmpty_cons,Bool.not_false,dn,List.getD_cons_zero,bne_iff_ne,ne_eq];rintro rfl;exact absurd this.1 iG
  ·cases h
 ·cases h
noncomputable def OT:List (Int×Cx)->List UInt8
 |[]=>[]
 |m::L=>((txF m).getD []++[10])++OT L
theorem ahd {o:List UInt8}(h:FnL o)(r:List UInt8):iV 10 ((o++[10])++r)=o:=by rw[bu];exact agc 10 o r λa=>absurd (h.1 10 a).1 iG
theorem agR:∀L:List (Int×Cx),(∀m∈L,(txF m).isSome=aB)->chk (OT L)=aB
 |[],_=>by unfold OT chk;rfl
 |m::L,h=>by obtain⟨o,a⟩:=bU.1 (h m (aY ..));unfold OT;rw[a,bQ,bu,(agQ a).1.2,List.singleton_append,Ny iG];exact agR L λx hx=>h x (bF _ hx)
theorem agS:∀(L:List (Int×Cx)) (n a:Nat) (acc:List (Int×Cx)),(∀m∈L,(txF m).isSome=aB)->acc.length+L.length<=256->(OT L).length<=n->lY tV n (OT L) a acc=(au (acc++L),0,0)
 |[],n,a,acc,_,_,_=>by unfold OT;rw[SH,bW]
 |m::L,n,a,acc,h,c,hn=>by
  obtain⟨o,b⟩:=bU.1 (h m (aY ..));obtain⟨f,g⟩:=agQ b;have e:OT (m::L)=(o++[10])++OT L:=by conv=>lhs;unfold OT;rw[b,bQ]
  have hc:=ahd f (OT L);rw[e]at hn⊢;simp only[List.length_append,aJ,dH]at hn c;obtain⟨k,rfl⟩:∃k,n=k+1:=⟨n - 1,iE⟩;rw[SN (d:=m) (by cases o<;>rfl) (by rw[hc];exact g) iE (by rw[hc];exact ahc b),hc]
  have hd:((o++[10])++OT L).drop (o.length+1)=OT L:=by rw[List.drop_append_of_le_length iH,List.drop_of_length_le iH,List.nil_append]
  rw[hd,agS L k _ _ (λx hx=>h x (bF _ hx)) iI iE,bu]
  rfl
theorem ahe {L:List (Int×Cx)}(h:∀m∈L,(txF m).isSome=aB)(a:L.length<=256)(b:(OT L).length<=65536):jT tV (OT L)=(au L,0,0):=by unfold jT;rw[gZ iE,NC _ (agR L h)];exact agS L _ 0 [] h (by simpa using a) (ax _)
