import Derived.Test.YthcalnnipjflkaaGreatDoorP26
open PLift renaming up -> ae
open Option renaming some -> af, none -> ag, getD_some -> aZ, bind_some -> bJ, map_some -> bQ
open List renaming getElem?_eq_getElem -> ah, getD_eq_getElem?_getD -> aj, length_append -> au, length_cons -> ax, range -> ay, length_nil -> az, mem_append_left -> aI, getElem_mem -> aJ, mem_append_right -> aK, sum_cons -> aU, append_assoc -> aX, map_cons -> bu, range_succ -> bC, append_nil -> bD, replicate -> bF, nil_append -> bP, map_congr_left -> bZ, flatMap_append -> cu, size_toArray -> di, range' -> dm, cons_append -> dn, mem_append -> dw, mem_range -> dA, map_nil -> dD, sum_nil -> dE
open Go.Lib renaming cell_of_heap -> aA, frozen_of_heap -> bG, IsBuilder -> bI
open Go renaming World -> aB, Value -> aN, wpQuiet_nil -> aW, Calls -> bz, heap_alloc_new -> bW, bodyPost_ret -> cZ
open Go.Proofs.Tryz renaming prog -> aC, underlying193 -> bH, ntmps76 -> bK, func76 -> bV, results76 -> dB
open Nat renaming not_lt_zero -> aH, le_refl -> bn, zero_le -> bU, le_trans -> dh, add_assoc -> dC
open Int renaming toNat_natCast -> aO, eq_ofNat_of_zero_le -> aT, natCast_add -> bT, toNat_of_nonneg -> bY
open Go.Value renaming int -> aP
open Array renaming getElem?_eq_some_iff -> aQ
open Bool renaming false -> aS, true -> aV
open ByteArray renaming size_append -> aY
set_option linter.all false
set_option maxHeartbeats 16000000
set_option maxRecDepth 1000000
namespace Go.Proofs.YthcalnnipjflkaaGreatDoor
open Go.RowKit Go.Sort
open Go.Lib hiding intOf
theorem Xr (n:Nat):(((ay n).map (λi:Nat=>(i:Int))++bF (n - n) 0).map (aP .i64)).toArray=((nC n).toList.map (aP .i64)).toArray:=by unfold nC;simp
theorem Xt {N:List Nd}{v:aN}{root:Int}{tb sr:Nat}{ent:Nat->List Int}{w0:aB}{E:List aN}{w n j:aB}{b L:Nat}{D:Array Int}(c:SS N v root tb sr ent w0 b L n E (λ_=>False) D j)(C:SP tb sr b w0 n)(r:CT N v root tb sr ent w0 E w)(l:Below w.heap.size w n)(R:sr<w.heap.size)(F:w.heap.size<=b)
  (a:Nat)(ha:a<N.length)(G:(N.getD a nd0).items.length=L)(m:ent a=D.toList):
  ∃g,Ending.returned (.slice (af ⟨b,0,ag⟩) L L)=.returned (.slice (af ⟨g,0,ag⟩) L L)/\(j.setCell ⟨sr,a,ag⟩ (.slice (af ⟨b,0,ag⟩) L L)).heap[g]?=af (.cells ((ent a).map (aP .i64)).toArray 3)/\qp (ent a) L/\(∀x∈ent a,0<=x/\x<(L:Int))/\
   ∃s,CT N v root tb sr ent w0 s (j.setCell ⟨sr,a,ag⟩ (.slice (af ⟨b,0,ag⟩) L L))/\KT sr E s w (j.setCell ⟨sr,a,ag⟩ (.slice (af ⟨b,0,ag⟩) L L)):=by
 obtain⟨H,d,S,I⟩:=c.ct;have t:qp (ent a) L:=⟨by rw[m,Array.length_toList];exact c.sz,by rw[m];exact c.pm⟩
 have u:∀x∈ent a,0<=x/\x<(L:Int):=λx hx=>by
  rw[m]at hx;obtain⟨k,o,rfl⟩:=List.getElem_of_mem hx;have y:k<D.size:=by simpa using o
  have:=c.rg k (by rw[<-c.sz];exact y);rw[getElem!_pos D k y]at this;simpa using this
 have z:j.heap[b]?=af (.cells ((ent a).map (aP .i64)).toArray 3):=by rw[m];exact c.row
 have A:=C.ns;have T:=l.size;have U:=c.size;have V:=r.below.size;have J:=r.lo;refine⟨b,rfl,by rw[uY _ A];exact z,t,u,H.set a (.slice (af ⟨b,0,ag⟩) L L),⟨d.nodes,?_,d.lo,⟨?_,?_,by simpa using d.tab.len,d.tab.ne⟩,λi hi=>?_⟩,⟨⟨?_,?_,?_,?_,?_⟩,λi=>?_⟩⟩
 ·exact d.below.setCell (p:=⟨sr,a,ag⟩) J _
 ·rw[uY _ d.tab.ne];exact d.tab.box
 ·rw[Fv d.tab.row]
  simp
 ·rw[mZ]
  by_cases e:a=i
  ·subst e
   rw[gY ⟨rfl,by rw[d.tab.len];exact ha⟩,G];exact .inr ⟨b,rfl,by rw[uY _ A];exact z,t,u⟩
  ·rw[gZ (λh=>e h.1)]
   rcases d.val i hi with f|⟨g,f,q,K⟩
   ·exact .inl f
   ·refine .inr ⟨g,f,?_,K⟩
    rw[uY]
    ·exact q
    ·intro e
     subst e;have:=q.symm.trans d.tab.row;injection this with this;injection this with _ M _;exact absurd M iG
 ·exact c.os.trans l.os
 ·exact c.tape.trans l.tape
 ·exact c.output.trans l.output
 ·rw[Dh];omega
 ·intro k o O
  have B:k≠sr:=λe=>O (by rw[e])
  rw[uY _ B,c.block k iE B iE,l.block k o]
 ·rw[mZ]
  split
  ·exact .inr ⟨b,L,L,rfl,F⟩
  ·rcases I i with f|⟨g,P,Q,f,q⟩
   ·exact .inl f
   ·exact .inr ⟨g,P,Q,f,iE⟩
section
variable {N:List Nd} {v:aN} {root:Int} {tb sr:Nat} {ent:Nat->List Int} {w0:aB} {E:List aN} {w:aB}
theorem Xu (c:Nat->Nat->Int)(a:Nat)(C:CT N v root tb sr ent w0 E w)(ha:a<N.length)(ad:E.getD a jr=jr)(g:(N.getD a nd0).kind=10/\(N.getD a nd0).ord=aS)(ai:(N.getD a nd0).keys.length=(N.getD a nd0).items.length)(ak:(N.getD a nd0).items.length<=1000000)(bf:ent a=jY N c a)
  (hc:∀x y,x<(N.getD a nd0).keys.length->y<(N.getD a nd0).keys.length->pU N v root tb sr ent w0 ((N.getD a nd0).keys.getD x 0) ((N.getD a nd0).keys.getD y 0) (c ((N.getD a nd0).keys.getD x 0).toNat ((N.getD a nd0).keys.getD y 0).toNat)):
  bz aC 93 #[.pointer (af ⟨tb,0,ag⟩),.int .i64 (a:Nat)] w λe w'=>∃P,e=.returned (.slice (af ⟨P,0,ag⟩) (N.getD a nd0).items.length (N.getD a nd0).items.length)/\w'.heap[P]?=af (.cells ((ent a).map (aP .i64)).toArray 3)/\qp (ent a) (N.getD a nd0).items.length/\(∀x∈ent a,0<=x/\x<((N.getD a nd0).items.length:Int))/\∃al,CT N v root tb sr ent w0 al w'/\KT sr E al w w':=by
 have F:=ae C.tab;have G:=ae C;have Q:=ae (iJ hc ai);have R:=ae ha;have bN:(a:Int)<(N.length:Int):=iE
 have bg:=C.Fq;obtain⟨va,vc,rfl,bO,bh⟩:=bg;rcases bh with bi|⟨b,o,rfl,am⟩
 ·exfalso;rw[bi]at ha;exact aH _ ha
 have an:=am a N[a] (ah ha);have S:N.getD a nd0=N[a]:=by rw[aj,ah ha];rfl
 rw[S]at g ak Q⊢;generalize ao:N[a]=n at an g ak Q⊢;have l:=ae (S.trans ao);clear ao;obtain⟨bR,H,ap,bj,aq,bk,ar,bl,T⟩:=an;obtain⟨bS,bX,rfl,b0,T⟩:=T;have t:PLift (Below w.heap.size w (w.alloc (.cells #[.pointer (af ⟨tb,0,ag⟩)] 138))):=⟨iW w _⟩;have bm:=ae ap;have bo:=ae aq;have bp:=ae ar;have U:=ae g;have bq:=ae ad;have av:(w.alloc (.cells #[.pointer (af ⟨tb,0,ag⟩)] 138)).heap[w.heap.size]?=af (.cells #[.pointer (af ⟨tb,0,ag⟩)] 138):=bW w _;have I:=ae av;clear am S g ap bj aq bk ar bl T C ad hc ai av
 as_aux_lemma=>
 go_enter Tryz.func93,Tryz.ntmps93
 as_aux_lemma=>
 go_upto_region 1 with fail
 obtain⟨W0,aw⟩:=iC (w.alloc (.cells #[.pointer (af ⟨tb,0,ag⟩)] 138));rw[aw]at t I⊢;clear aw;have aD:=ae (F.1.below t.1);have J:=iK I.1 0 (.pointer (af ⟨tb,0,ag⟩));have br:=iK aD.1.box 0 (.slice (af ⟨b,o,ag⟩) N.length vc)
 as_aux_lemma=>
 go_upto_region 2 with fail
 clear J br;have K:PLift (Below W0.heap.size W0 (W0.alloc (.cells #[.pointer (af ⟨b,o+a*5,ag⟩)] 154))):=⟨iW W0 _⟩;have L:PLift ((W0.alloc (.cells #[.pointer (af ⟨b,o+a*5,ag⟩)] 154)).heap[W0.heap.size]?=af (.cells #[.pointer (af ⟨b,o+a*5,ag⟩)] 154)):=⟨bW W0 _⟩;obtain⟨d,aE⟩:=iC (W0.alloc (.cells #[.pointer (af ⟨b,o+a*5,ag⟩)] 154));rw[aE]at K L⊢;clear aE;have V:=ae (aD.1.below K.1);have m:PLift (Below w.heap.size w d):=⟨t.1.trans (K.1.mono t.1.size)⟩;have W:PLift (d.heap[w.heap.size]?=af (.cells #[.pointer (af ⟨tb,0,ag⟩)] 138)):=⟨by rw[K.1.block _ (block_lt I.1)];exact I.1⟩;have J:=iK W.1 0 (.pointer (af ⟨tb,0,ag⟩));have aF:=iK V.1.box 2 (.slice (af ⟨sr,0,ag⟩) N.length N.length)
 have aG:d.cell? ⟨sr,a,ag⟩=af (.slice ag 0 0):=by
  have aL:a<E.length:=by rw[F.1.len];exact ha
  have he:=bq.1;rw[aj,ah aL]at he;rw[aA V.1.row];simp only[List.getElem?_toArray,ah aL];exact ig af he
 have aM:=iK L.1 0 (.pointer (af ⟨b,o+a*5,ag⟩));have bs:=iU m.1 bp.1
 have b1:∀u:aB,(Instr.makeSlice 36 (.int .i64 (n.items.length:Int)) (.int .i64 (n.items.length:Int))).run aC u=.ok (.slice (af ⟨u.heap.size,0,ag⟩) n.items.length n.items.length) (u.alloc (.cells (Array.replicate n.items.length (.int .i64 0)) 3)):=λu=>by rw[run_make_row' 36 3 (.int .i64 0) 8 Tryz.underlying36 su rfl .i64 .i64 n.items.length iE iE u,sD]
 as_aux_lemma=>
 go_wp2
 go_loopw [38] (λH wr=>∃j:Nat,H=.int .i64 j/\j<=n.items.length/\wr.heap[d.heap.size]?=af (.cells (((ay j).map (λi:Nat=>(i:Int))++bF (n.items.length - j) 0).map (aP .i64)).toArray 3)/\Below d.heap.size d wr) (λH _=>n.items.length - (intOf H).toNat)
 case atStart=>exact⟨0,rfl,bU _,by rw[bW];simp,iW d _⟩
 case round=>
  as_aux_lemma=>
  obtain⟨j,rfl,b2,aR,a0⟩:=hrel;have A:=ae aR;have f:=ae a0;clear aR a0;by_cases bt:j<n.items.length
  ·have b3:(j:Int)<(n.items.length:Int):=iE
   have e1:wr.cell? ⟨d.heap.size,j,ag⟩=af (.int .i64 (((ay j).map (λi:Nat=>(i:Int))++bF (n.items.length - j) 0).getD j 0)):=kJ A.1 iI;have b4:∀o,wr.frozen? ⟨d.heap.size,o,ag⟩=aS:=λo=>bG A.1 o
   generalize((ay j).map (λi:Nat=>(i:Int))++bF (n.items.length - j) 0).getD j 0=b5 at e1
   as_aux_lemma=>
   go_wp2;go_roundw
   case rel=>exact⟨j+1,by go_num,iE,by rw[<-Kv bt];simp[World.setCell,Array.getElem?_modify,A.1,List.map_set],f.1.setCell (p:=⟨d.heap.size,j,ag⟩) (bn _) _⟩
   case measure=>simp[intOf];omega
  ·obtain rfl:j=n.items.length:=iE
   have bv:=ae (V.1.below f.1);have bw:wr.cell? ⟨w.heap.size,0,ag⟩=af (.pointer (af ⟨tb,0,ag⟩)):=iU f.1 J;have bx:wr.cell? ⟨W0.heap.size,0,ag⟩=af (.pointer (af ⟨b,o+a*5,ag⟩)):=iU f.1 aM;have bA:wr.cell? ⟨tb,2,ag⟩=af (.slice (af ⟨sr,0,ag⟩) N.length N.length):=iU f.1 aF;have ds:wr.cell? ⟨sr,a,ag⟩=af (.slice ag 0 0):=iU f.1 aG;have bB:∀o,wr.frozen? ⟨sr,o,ag⟩=aS:=λo=>bG bv.1.row o
   have g0:=iU f.1 (iU m.1 bm.1);have g2:=iU f.1 (iU m.1 bo.1);have bE:=ae (m.1.trans (f.1.mono m.1.size));have q:PLift (w.heap.size<=d.heap.size):=⟨m.1.size⟩;have B:Below w.heap.size w wr:=bE.1;have a1:sr<w.heap.size:=block_lt F.1.row;have a2:tb<w.heap.size:=block_lt F.1.box;have X:=block_lt W.1;have a3:W0.heap.size<d.heap.size:=block_lt L.1;have a4:w0.heap.size<=w.heap.size:=G.1.below.size;have a5:=block_lt A.1;have Y:SP tb sr d.heap.size w0 wr:=⟨a5,by have:=B.size;omega,by have:=B.size;omega,by have:=q.1;omega,by have:=q.1;omega,by have:=q.1;omega⟩;have Z:wr.heap[w.heap.size]?=af (.cells #[.pointer (af ⟨tb,0,ag⟩)] 138):=(by rw[f.1.block _ X];exact W.1);have a6:wr.heap[W0.heap.size]?=af (.cells #[.pointer (af ⟨b,o+a*5,ag⟩)] 154):=(by rw[f.1.block _ a3];exact L.1);have r:=Q.1;rw[<-l.1]at r;have a7:=Xq (E2:=E) Y c R.1 r.2 rfl (λx y hx hy=>r.1 x y (by rw[r.2];exact hx) (by rw[r.2];exact hy)) Z a6 ⟨iE,by have:=q.1;omega⟩ ⟨by have:=t.1.size;omega,iE⟩
   have a8:SS N (.slice (af ⟨b,o,ag⟩) N.length vc) root tb sr ent w0 d.heap.size (N.getD a nd0).items.length wr E (λ_=>False) (nC (N.getD a nd0).items.length) wr:=
    ⟨Wi _,λk g=>by rw[Wj g];omega,List.Perm.refl _,by rw[A.1,l.1,Xr],⟨E,G.1.keep B,λk g P b6 b7 he=>⟨λe=>by have:=G.1.KF g he;have:=q.1;omega,λe=>e⟩,λ_=>.inl rfl⟩,λ_ h=>h.elim,rfl,rfl,rfl,bn _,λ_ _ _ _=>rfl⟩
   have M:=Xm a7 (N.getD a nd0).items.length (nC (N.getD a nd0).items.length) wr a8 (by rw[l.1];omega) iG (bn _) (by rw[l.1];omega);have a9:PLift (ent a=(Df (ltOf (uX c (N.getD a nd0))) (nC (N.getD a nd0).items.length) (N.getD a nd0).items.length).toList):=⟨by rw[bf];unfold jY;rw[gY (by rw[l.1];exact U.1)];rfl⟩;generalize Df (ltOf (uX c (N.getD a nd0))) (nC (N.getD a nd0).items.length) (N.getD a nd0).items.length=D at M a9;rw[l.1]at M;have bL:=ae M;have bM:=ae Y;have aa:=ae (iJ B (iJ a1 (iJ a2 a4)));have ab:=ae (iJ Z X);rw[U.1.1]at g0;rw[U.1.2]at g2;clear M Y B a1 a2 X a3 a4 a5 Z a6 r a7 a8 ds bB
   as_aux_lemma=>
   go_upto_region 12 with(go_at_call 109;refine bL.1.mono ?_;rintro e O ⟨rfl,ba,-⟩;have ac:=ae ba;clear ba)
   clear bw bx bA g0 g2 J aM aF bs aG;obtain⟨bb,s,bc,bd⟩:=ac.1.ct;have b8:=ae (iJ s (iJ bc bd));have r2:O.cell? ⟨w.heap.size,0,ag⟩=af (.pointer (af ⟨tb,0,ag⟩)):=(aA (by rw[ac.1.block _ (block_lt ab.1.1) (by have:=aa.1.2.1;omega) (by have:=ab.1.2;omega)];exact ab.1.1) 0).trans rfl;have rt:O.cell? ⟨tb,2,ag⟩=af (.slice (af ⟨sr,0,ag⟩) N.length N.length):=(aA s.tab.box 2).trans rfl;have be:a<bb.length:=(by rw[s.tab.len];exact R.1);obtain⟨z,b9⟩:∃z,O.cell? ⟨sr,a,ag⟩=af z:=⟨bb[a],by rw[aA s.tab.row];simp[be]⟩;have ca:∀o,O.frozen? ⟨sr,o,ag⟩=aS:=λo=>bG s.tab.row o
   clear s bc bd be
   as_aux_lemma=>
   go_wp2;refine cZ (v:=.slice (af ⟨d.heap.size,0,ag⟩) n.items.length n.items.length) (by simp only[results,Tryz.results93];go_simp) rfl ?_;exact Xt ac.1 bM.1 G.1 aa.1.1 aa.1.2.1 q.1 a R.1 (by rw[l.1]) a9.1
end
section
variable {N:List Nd} {v:aN} {root:Int} {tb sr:Nat} {ent:Nat->List Int} {w0:aB} {E:List aN} {w:aB}
def wH (N:List Nd)(v:aN)(root:Int)(tb sr:Nat)(ent:Nat->List Int)(w0:aB)(a:Nat):Prop:=∀X E,CT N v root tb sr ent w0 E X->
 bz aC 93 #[.pointer (af ⟨tb,0,ag⟩),.int .i64 (a:Nat)] X λe Y=>∃b,e=.returned (.slice (af ⟨b,0,ag⟩) (N.getD a nd0).items.length (N.getD a nd0).items.length)/\Y.heap[b]?=af (.cells ((ent a).map (aP .i64)).toArray 3)/\qp (ent a) (N.getD a nd0).items.length/\(∀x∈ent a,0<=x/\x<((N.getD a nd0).items.length:Int))/\∃c,CT N v root tb sr ent w0 c Y/\KT sr E c X Y
theorem Fz (c:Nat->Nat->Int)(a:Nat)(ha:a<N.length)(A:(N.getD a nd0).kind=10->(N.getD a nd0).keys.length=(N.getD a nd0).items.length)(B:(N.getD a nd0).items.length<=1000000)(q:ent a=jY N c a)
  (hc:(N.getD a nd0).kind=10->(N.getD a nd0).ord=aS->∀x y,x<(N.getD a nd0).keys.length->y<(N.getD a nd0).keys.length->pU N v root tb sr ent w0 ((N.getD a nd0).keys.getD x 0) ((N.getD a nd0).keys.getD y 0) (c ((N.getD a nd0).keys.getD x 0).toNat ((N.getD a nd0).keys.getD y 0).toNat)):
  wH N v root tb sr ent w0 a:=by
 intro X E b;rcases b.val a ha with hn|⟨f,l,m,n,o⟩
 ·by_cases d:(N.getD a nd0).kind=10/\(N.getD a nd0).ord=aS
  ·exact Xu c a b ha hn d (A d.1) B q (hc d.1 d.2)
  ·have C:(N.getD a nd0).kind≠10\/(N.getD a nd0).ord=aV:=by
    by_cases r:(N.getD a nd0).kind=10
    ·right
     cases D:(N.getD a nd0).ord with
     |true=>rfl
     |false=>exact absurd ⟨r,D⟩ d
    ·exact .inl r
   have he:ent a=(ay (N.getD a nd0).items.length).map (λi:Nat=>(i:Int)):=by rw[q];unfold jY;rw[gZ d];unfold nC;simp
   refine(Wx X v root N tb sr a E b.Fq b.tab ha hn C iE).mono ?_;rintro e Y ⟨f,l,m,n,o,j⟩;have s:qp (ent a) (N.getD a nd0).items.length:=⟨by rw[he];simp,by rw[he];unfold nC;exact List.Perm.refl _⟩
   have t:∀x∈ent a,0<=x/\x<((N.getD a nd0).items.length:Int):=λx hx=>by rw[he]at hx;obtain⟨k,d,rfl⟩:=List.mem_map.1 hx;have:=dA.1 d;omega
   have u:Y.heap[f]?=af (.cells ((ent a).map (aP .i64)).toArray 3):=(by rw[he];exact n);refine⟨f,l,u,s,t,_,⟨b.nodes,b.below.grown j b.below.size (λk d=>by have:=Option.some.inj d;have:=b.lo;omega),b.lo,o,λi hi=>?_⟩,⟨j,λi=>?_⟩⟩
   ·rw[mZ]
    by_cases e:a=i
    ·subst e
     rw[gY ⟨rfl,by rw[b.tab.len];exact ha⟩];exact .inr ⟨f,rfl,u,s,t⟩
    ·rw[gZ (λh=>e h.1)]
     rcases b.val i hi with g|⟨w,g,p,F⟩
     ·exact .inl g
     ·refine .inr ⟨w,g,?_,F⟩
      rw[j.block w (block_lt p) (by intro e;have G:=Option.some.inj e;subst G;have:=p.symm.trans b.tab.row;injection this with this;injection this with _ H _;exact absurd H iG)]
      exact p
   ·rw[mZ]
    split
    ·exact .inr ⟨f,_,_,rfl,m⟩
    ·exact .inl rfl
 ·have I:E[a]?=af (.slice (af ⟨f,0,ag⟩) (N.getD a nd0).items.length (N.getD a nd0).items.length):=by
   have z:a<E.length:=(by rw[b.tab.len];exact ha);rw[aj,ah z,aZ]at l;rw[ah z,l]
  refine(Wy X v root N tb sr a f _ _ E b.Fq b.tab ha I).mono ?_;rintro e Y ⟨j,g⟩;exact⟨f,j,Mix.lu g m,n,o,E,b.keep g,KT.below E g⟩
end
theorem iY.reg {N:List Nd}{v:aN}{root:Int}{tb sr:Nat}{ent:Nat->List Int}{w0:aB}{c X:aB}(h:iY N v root tb sr ent w0 c X){Q:Exit->Act->aB->Prop}{id:Nat}{a:Act}{l:List Oper}{aF:Act}(b:J5 l a.tmps.size=aV)
  (hA:∀ρ:aB,(∀z:Mix.iZ (iY N v root tb sr ent w0) ρ,iY N v root tb sr ent w0 c z.w)->Nonempty (Mix.iZ (iY N v root tb sr ent w0) ρ)->wpQuiet aC l.toArray (λw'=>∃x:Mix.iZ (iY N v root tb sr ent w0) ρ,w'=x.w) (λa'=>a'=aF) l a)
  (hK:∀d:aB,iY N v root tb sr ent w0 c d->Q .normal aF d):(Code.region id l.toArray aV).wp aC Q a X:=by
 simp only[J5,Bool.and_eq_true,beq_iff_eq]at b;exact Mix.qQ (iY N v root tb sr ent w0) iY.refl (λ_ _ _ h k=>h.trans k) (iY.drew _) iF b.1.1.1 b.1.1.2 b.1.2 b.2 (λρ e=>hA ρ (λz=>h.trans (e.trans z.h)) ⟨⟨ρ,iY.refl ρ⟩⟩) λW f=>hK W (h.trans f)
theorem KI (c:Nat->Nat->Int){l m:List Int}{p q:Nat}(hp:p<l.length)(a:q<m.length):cO c (kW l (p:Int)) (kW m (q:Int))=c (l.getD p 0).toNat (m.getD q 0).toNat:=by
 unfold kW;rw[aO,aO,ah hp,ah a,aj,aj,ah hp,ah a]
 rfl
theorem CT.row_ne {N:List Nd}{v:aN}{root:Int}{tb sr:Nat}{ent:Nat->List Int}{w0:aB}{E:List aN}{X:aB}(h:CT N v root tb sr ent w0 E X){a:Nat}{b:Array aN}(hr:X.heap[a]?=af (.cells b 3)):a≠sr:=by intro e;subst e;have:=hr.symm.trans h.tab.row;injection this with this;injection this with _ c _;exact absurd c iG
section
variable {N:List Nd} {v:aN} {root:Int} {tb sr:Nat} {ent:Nat->List Int} {w0:aB} {E:List aN} {X:aB}
theorem Xv (c:Nat->Nat->Int)(i j:Nat)(bm:CT N v root tb sr ent w0 E X)(hi:i<N.length)(bo:j<N.length)(ce:jM w0)(M:(N.getD i nd0).text.size<=70000/\(N.getD j nd0).text.size<=70000)(aM:(N.getD i nd0).kind=10->(N.getD i nd0).keys.length=(N.getD i nd0).items.length)(aR:(N.getD j nd0).kind=10->(N.getD j nd0).keys.length=(N.getD j nd0).items.length)
  (a0:(N.getD i nd0).items.length<=1000000)(a1:(N.getD j nd0).items.length<=1000000)
  (cf:wH N v root tb sr ent w0 i)(cg:wH N v root tb sr ent w0 j)(ch:ent i=jY N c i)(ci:ent j=jY N c j)
  (aa:∀x∈(N.getD i nd0).keys,∀y∈(N.getD j nd0).keys,pU N v root tb sr ent w0 x y (c x.toNat y.toNat))(ab:∀x∈(N.getD i nd0).items,∀y∈(N.getD j nd0).items,pU N v root tb sr ent w0 x y (c x.toNat y.toNat)):
  bz aC 125 #[.pointer (af ⟨tb,0,ag⟩),.int .i64 (i:Nat),.pointer (af ⟨tb,0,ag⟩),.int .i64 (j:Nat),.map ag] X λe Y=>e=.returned (.int .i64 (bodyC N c i j))/\∃b,CT N v root tb sr ent w0 b Y/\KT sr E b X Y:=by
 have s:=ae bm;obtain⟨va,vc,rfl,dT,d0⟩:=bm.nodes;rcases d0 with d1|⟨nb,no,rfl,bp⟩
 ·exfalso;rw[d1]at hi;exact aH _ hi
 have cj:=bp i N[i] (ah hi);have ck:=bp j N[j] (ah bo);have cl:N.getD i nd0=N[i]:=by rw[aj,ah hi,aZ]
 have cm:N.getD j nd0=N[j]:=by rw[aj,ah bo,aZ]
 have d2:PLift (bodyC N c i j=_):=⟨rfl⟩;obtain⟨R,hR⟩:=iC (bodyC N c i j);rw[hR];unfold bodyC at hR;rw[<-ch,<-ci]at hR;have a2:=ae (show ∀X E,CT N (.slice (af ⟨nb,no,ag⟩) N.length vc) root tb sr ent w0 E X->bz aC 93 #[.pointer (af ⟨tb,0,ag⟩),.int .i64 (i:Nat)] X (λe Y=>∃ao,e=.returned (.slice (af ⟨ao,0,ag⟩) (N.getD i nd0).items.length (N.getD i nd0).items.length)/\Y.heap[ao]?=af (.cells ((ent i).map (aP .i64)).toArray 3)/\qp (ent i) (N.getD i nd0).items.length/\(∀x∈ent i,0<=x/\x<((N.getD i nd0).items.length:Int))/\∃b,CT N (.slice (af ⟨nb,no,ag⟩) N.length vc) root tb sr ent w0 b Y/\KT sr E b X Y)from cf);have a3:=ae (show ∀X E,CT N (.slice (af ⟨nb,no,ag⟩) N.length vc) root tb sr ent w0 E X->bz aC 93 #[.pointer (af ⟨tb,0,ag⟩),.int .i64 (j:Nat)] X (λe Y=>∃ao,e=.returned (.slice (af ⟨ao,0,ag⟩) (N.getD j nd0).items.length (N.getD j nd0).items.length)/\Y.heap[ao]?=af (.cells ((ent j).map (aP .i64)).toArray 3)/\qp (ent j) (N.getD j nd0).items.length/\(∀x∈ent j,0<=x/\x<((N.getD j nd0).items.length:Int))/\∃b,CT N (.slice (af ⟨nb,no,ag⟩) N.length vc) root tb sr ent w0 b Y/\KT sr E b X Y)from cg);rw[cl]at a2 hR M aM a0 aa ab;rw[cm]at a3 hR M aR a1 aa ab;clear cf cg ch ci cl cm d2;generalize ent i=P at a2 hR;generalize ent j=Q at a3 hR;generalize N[i]=A at cj a2 hR M aM a0 aa ab;generalize N[j]=B at ck a3 hR M aR a1 aa ab;obtain⟨bq,cn,co,cp,cq,cr,cs,ct,cv⟩:=cj;obtain⟨br,cw,cx,b1,b2,b3,cy,cz,cA⟩:=ck;have a4:=ae (iJ ct (iJ cv (iJ cz cA)));obtain⟨bq,bs,rfl,ew,-⟩:=ct;obtain⟨cn,bt,rfl,ex,-⟩:=cv;obtain⟨br,bv,rfl,ey,-⟩:=cz;obtain⟨cw,bw,rfl,ez,-⟩:=cA;have d:=ae hR;have a5:=ae (iJ M (iJ aM (iJ aR (iJ aa ab))));have d3:=ae (iJ a0 a1);have eA:(i:Int)<(N.length:Int):=iE
 have eB:(j:Int)<(N.length:Int):=iE
 have cB:=ae (λ(Z:aB) (t:Below w0.heap.size w0 Z)=>UJ A.kind A.text B.text M.1 M.2 Z (ce.below t));have d4:PLift (iY N (.slice (af ⟨nb,no,ag⟩) N.length vc) root tb sr ent w0 X X):=⟨iY.refl X⟩
 have O:PLift (∀Z,iY N (.slice (af ⟨nb,no,ag⟩) N.length vc) root tb sr ent w0 X Z->(∃b,CT N (.slice (af ⟨nb,no,ag⟩) N.length vc) root tb sr ent w0 b Z/\KT sr E b X Z)/\Z.cell? ⟨tb,0,ag⟩=af (.slice (af ⟨nb,no,ag⟩) N.length vc)/\(Z.cell? ⟨nb,no+i*5,ag⟩=af (.int .i64 A.kind)/\Z.cell? ⟨nb,no+i*5+1,ag⟩=af (.string A.text)/\Z.cell? ⟨nb,no+i*5+2,ag⟩=af (.bool A.ord)/\Z.cell? ⟨nb,no+i*5+3,ag⟩=af (.slice bq A.keys.length bs)/\Z.cell? ⟨nb,no+i*5+4,ag⟩=af (.slice cn A.items.length bt))/\(Z.cell? ⟨nb,no+j*5,ag⟩=af (.int .i64 B.kind)/\Z.cell? ⟨nb,no+j*5+1,ag⟩=af (.string B.text)/\Z.cell? ⟨nb,no+j*5+2,ag⟩=af (.bool B.ord)/\Z.cell? ⟨nb,no+j*5+3,ag⟩=af (.slice br B.keys.length bv)/\Z.cell? ⟨nb,no+j*5+4,ag⟩=af (.slice cw B.items.length bw))):=⟨λZ t=>by obtain⟨b,r,cC⟩:=t E s.1;have C:=r.below;exact⟨⟨b,r,cC⟩,(aA r.tab.box 0).trans rfl,⟨iU C co,iU C cp,iU C cq,iU C cr,iU C cs⟩,iU C cx,iU C b1,iU C b2,iU C b3,iU C cy⟩⟩
 clear bp co cp cq cr cs cx b1 b2 b3 cy hR bm ce M aM aR aa ab a0 a1 hi bo dT
 as_aux_lemma=>
 go_enter Tryz.func125,Tryz.ntmps125
 as_aux_lemma=>
 go_upto_region 1 with fail
 refine iY.reg d4.1 (aF:=?_) iF ?_ ?_;rotate_left 1
 ·intro ρ p U
  have a:=ae (λz=>O.1 _ (p z));have eC:=λz=>(a.1 z).2.1
  repeat(go_big_quiet_step(fail))
  apply aW;exact rfl
 intro eD cD;have cE:=ae cD;clear cD
 as_aux_lemma=>
 go_upto_region 2 with fail
 refine iY.reg cE.1 (aF:=?_) iF ?_ ?_;rotate_left 1
 ·intro ρ p U
  have a:=ae (λz=>O.1 _ (p z));have a6:=λz=>(a.1 z).2.2.1.1
  have d5:=λz=>(a.1 z).2.2.2.1
  repeat(go_big_quiet_step(fail))
  apply aW;exact rfl
 intro eE cF;have bx:=ae cF;clear cF;by_cases a7:A.kind<B.kind
 ·have d6:decide (A.kind<B.kind)=aV:=iq a7
  have f:=ae (d.1.symm.trans (gY a7))
  as_aux_lemma=>
  go_wp2;go_ret;exact⟨by rw[f.1];rfl,bx.1 E s.1⟩
 have d6:decide (A.kind<B.kind)=aS:=iw a7;have d:=ae ((gZ a7).symm.trans d.1)
 as_aux_lemma=>
 go_upto_region 4 with fail
 refine iY.reg bx.1 (aF:=?_) iF ?_ ?_;rotate_left 1
 ·intro ρ p U
  have a:=ae (λz=>O.1 _ (p z));have a6:=λz=>(a.1 z).2.2.1.1
  have d5:=λz=>(a.1 z).2.2.2.1
  repeat(go_big_quiet_step(fail))
  apply aW;exact rfl
 intro eI cG;have bA:=ae cG;clear cG;by_cases a8:A.kind>B.kind
 ·have d7:decide (A.kind>B.kind)=aV:=iq a8
  have f:=ae (d.1.symm.trans (gY a8))
  as_aux_lemma=>
  go_wp2;go_ret;exact⟨by rw[f.1];rfl,bA.1 E s.1⟩
 have d7:decide (A.kind>B.kind)=aS:=iw a8;have d:=ae ((gZ a8).symm.trans d.1)
 as_aux_lemma=>
 go_upto_region 6 with fail
 refine iY.reg bA.1 (aF:=?_) iF ?_ ?_;rotate_left 1
 ·intro ρ p U
  have a:=ae (λz=>O.1 _ (p z));have eJ:=λz=>(a.1 z).2.2.1.2.2.1
  have bB:=λz=>(a.1 z).2.2.2.2.2.1
  repeat(go_big_quiet_step(fail))
  apply aW;exact rfl
 intro d8 cH;have ap:=ae cH;clear cH;by_cases ac:A.ord=B.ord
 case neg=>
  have bE:=O.1 d8 ap.1;have bB:=bE.2.2.2.2.2.1;cases a9:B.ord with
  |true=>
   have bL:A.ord=aS:=(by cases h:A.ord with|false=>rfl|true=>exact absurd (h.trans a9.symm) ac);have f:=ae (d.1.symm.trans (gY ac));rw[a9]at f bB;rw[bL];clear bE
   as_aux_lemma=>
   go_wp2;go_ret;exact⟨by rw[f.1];rfl,ap.1 E s.1⟩
  |false=>
   have bL:A.ord=aV:=(by cases h:A.ord with|true=>rfl|false=>exact absurd (h.trans a9.symm) ac);have f:=ae (d.1.symm.trans (gY ac));rw[a9]at f bB;rw[bL];clear bE
   as_aux_lemma=>
   go_wp2;go_ret;exact⟨by rw[f.1];rfl,ap.1 E s.1⟩
 have cI:(!(B.ord==B.ord))=aS:=iH
 rw[ac,cI];clear cI;have d:=ae ((gZ (λh=>h ac)).symm.trans d.1)
 as_aux_lemma=>
 obtain⟨ad,cJ⟩:=iC (yR A.kind A.text B.text);rw[cJ]at cB d;clear cJ
 go_upto_region 10 with fail
 refine iY.reg ap.1 (aF:=?_) iF ?_ ?_;rotate_left 1
 ·intro ρ p U
  have a:=ae (λz=>O.1 _ (p z));have a6:=λz=>(a.1 z).2.2.1.1
  have eK:=λz=>(a.1 z).2.2.1.2.1
  have eL:=λz=>(a.1 z).2.2.2.2.1
  have d9:=ae (λz:Mix.iZ (iY N (.slice (af ⟨nb,no,ag⟩) N.length vc) root tb sr ent w0) ρ=>show bz aC 148 #[.int .i64 A.kind,.string A.text,.string B.text] z.w (λe W'=>e=.returned (.int .i64 ad)/\iY N (.slice (af ⟨nb,no,ag⟩) N.length vc) root tb sr ent w0 z.w W')from by obtain⟨⟨ai,D,_⟩,_⟩:=a.1 z;exact(cB.1 z.w D.below).mono λe W' h=>⟨h.1,iY.below h.2⟩)
  repeat(go_big_quiet_step((go_at_call 148;exact Mix.iZ.calls (λ_ _ _ h k=>h.trans k) (d9.1 _))))
  apply aW;exact rfl
 intro ea cK;have ba:=ae cK;clear cK;by_cases aq:ad=0
 case neg=>
  have eM:(ad==0)=aS:=by rw[iy];exact aq
  have eN:(ad !=0)=aV:=by rw[bne_iff_ne];exact aq
  have f:=ae (d.1.symm.trans (gY aq))
  as_aux_lemma=>
  go_wp2;go_ret;exact⟨by rw[f.1];rfl,ba.1 E s.1⟩
 have d:=ae ((gZ (λh=>h aq)).symm.trans d.1);subst aq;obtain⟨⟨eO,cL,eb⟩,-⟩:=O.1 ea ba.1;have bM:=ae cL;clear cL eb
 as_aux_lemma=>
 go_upto_region 14 with(first
  |(go_at_call 93;with_reducible refine(a2.1 _ _ bM.1).mono ?_;rintro e eR ⟨ar,rfl,cM,cN,cP,ec,cQ,cR⟩;have G:=ae (iJ cM (iJ cN (iJ cP (iJ cQ cR))));clear cM cN cP cQ cR)
  |(go_at_call 93;with_reducible refine(a3.1 _ _ G.1.2.2.2.1).mono ?_;rintro e bb ⟨bN,rfl,ak,cS,cT,ee,cU,cV⟩;have H:=ae (iJ ak (iJ cS (iJ cT (iJ cU cV))));clear ak cS cT cU cV))
 have ef:PLift (iY N (.slice (af ⟨nb,no,ag⟩) N.length vc) root tb sr ent w0 X bb):=⟨ba.1.trans (iY.trans (λF hF=>by obtain rfl:=hF.uniq bM.1;exact⟨ec,G.1.2.2.2⟩) (λF hF=>by obtain rfl:=hF.uniq G.1.2.2.2.1;exact⟨ee,H.1.2.2.2⟩))⟩
 have eg:PLift (∀Z,iY N (.slice (af ⟨nb,no,ag⟩) N.length vc) root tb sr ent w0 bb Z->Z.heap[ar]?=af (.cells (P.map (aP .i64)).toArray 3)/\Z.heap[bN]?=af (.cells (Q.map (aP .i64)).toArray 3)):=⟨λZ t=>by
  have cW:=G.1.2.2.2.1.row_ne G.1.1;have eh:=H.1.2.2.2.1.row_ne H.1.1;have L:bb.heap[ar]?=af (.cells (P.map (aP .i64)).toArray 3):=by rw[H.1.2.2.2.2.g.block ar (block_lt G.1.1) (by intro e;injection e with e;exact cW e)];exact G.1.1
  exact⟨t.block H.1.2.2.2.1 cW L,t.block H.1.2.2.2.1 eh H.1.1⟩⟩
 have al:=ae (iJ G.1.2.1.len (iJ G.1.2.2.1 (iJ H.1.2.1.len H.1.2.2.1)));obtain⟨m,hm⟩:=iC (min A.items.length B.items.length);have eS:min (A.items.length:Int) (B.items.length:Int)=(m:Int):=iE
 have eT:(m:Int)<=1000000:=by have:=d3.1;omega
 have cX:=ae (show m<=A.items.length/\m<=B.items.length from⟨iE,iE⟩);have cY:P.length=A.items.length:=al.1.1;have c0:Q.length=B.items.length:=al.1.2.2.1;rw[cY,c0,hm]at d;clear hm cY c0 G H bM cE bx bA ap ba
 as_aux_lemma=>
 go_wp2
 go_loopw [94] (λbO wr=>∃k:Nat,bO=.int .i64 k/\k<=m/\iY N (.slice (af ⟨nb,no,ag⟩) N.length vc) root tb sr ent w0 bb wr/\∀l,l<k->rQ c A B P Q l=0) (λbO _=>m - (intOf bO).toNat)
 case atStart=>exact⟨0,rfl,bU _,iY.refl _,λl h=>absurd h (aH _)⟩
 case round=>
  as_aux_lemma=>
  obtain⟨k,rfl,cC,ak,p⟩:=hrel;obtain⟨S,ei⟩:∃S:aB,S=wr:=⟨_,rfl⟩;subst ei;have V:PLift (iY N (.slice (af ⟨nb,no,ag⟩) N.length vc) root tb sr ent w0 X S):=⟨ef.1.trans ak⟩;have T:=ae (iJ ak p);have bc:PLift (iY N (.slice (af ⟨nb,no,ag⟩) N.length vc) root tb sr ent w0 S S):=⟨iY.refl _⟩;clear ak p;by_cases bd:k<m
  ·have eV:(k:Int)<(m:Int):=iE
   have bR:k<P.length:=(by rw[al.1.1];have:=cX.1;omega);have bS:k<Q.length:=(by rw[al.1.2.2.1];have:=cX.1;omega);have ej:=al.1.2.1 _ (getD_mem bR);have ek:=al.1.2.2.2 _ (getD_mem bS);obtain⟨n,be⟩:∃n:Nat,P.getD k 0=(n:Int):=⟨(P.getD k 0).toNat,iE⟩;obtain⟨o,bf⟩:∃o:Nat,Q.getD k 0=(o:Int):=⟨(Q.getD k 0).toNat,iE⟩;have am:n<A.items.length:=iE;have an:o<B.items.length:=iE;have eW:(n:Int)<(A.items.length:Int):=iE;have eZ:(o:Int)<(B.items.length:Int):=iE;obtain⟨bX,b0,rfl,c1⟩:=a4.1.2.1.at am;obtain⟨b4,b5,rfl,c2⟩:=a4.1.2.2.2.at an;have bg:=ae bd;have bh:=ae (λZ b r=>a5.1.2.2.2.2 _ (getD_mem am) _ (getD_mem an) Z b r);have I:rQ c A B P Q k=(if A.kind=10 then(if cO c (kW A.keys (n:Int)) (kW B.keys (o:Int))≠0 then cO c (kW A.keys (n:Int)) (kW B.keys (o:Int))else cO c (kW A.items (n:Int)) (kW B.items (o:Int)))else cO c (kW A.items (n:Int)) (kW B.items (o:Int))):=(by unfold rQ;rw[be,bf]);rw[KI c am an]at I
   have av:PLift (∀Z,iY N (.slice (af ⟨nb,no,ag⟩) N.length vc) root tb sr ent w0 S Z->((∃b,CT N (.slice (af ⟨nb,no,ag⟩) N.length vc) root tb sr ent w0 b Z/\KT sr E b X Z)/\Z.cell? ⟨tb,0,ag⟩=af (.slice (af ⟨nb,no,ag⟩) N.length vc)/\(Z.cell? ⟨nb,no+i*5,ag⟩=af (.int .i64 A.kind)/\Z.cell? ⟨nb,no+i*5+1,ag⟩=af (.string A.text)/\Z.cell? ⟨nb,no+i*5+2,ag⟩=af (.bool A.ord)/\Z.cell? ⟨nb,no+i*5+3,ag⟩=af (.slice bq A.keys.length bs)/\Z.cell? ⟨nb,no+i*5+4,ag⟩=af (.slice (af ⟨bX,b0,ag⟩) A.items.length bt))/\(Z.cell? ⟨nb,no+j*5,ag⟩=af (.int .i64 B.kind)/\Z.cell? ⟨nb,no+j*5+1,ag⟩=af (.string B.text)/\Z.cell? ⟨nb,no+j*5+2,ag⟩=af (.bool B.ord)/\Z.cell? ⟨nb,no+j*5+3,ag⟩=af (.slice br B.keys.length bv)/\Z.cell? ⟨nb,no+j*5+4,ag⟩=af (.slice (af ⟨b4,b5,ag⟩) B.items.length bw)))/\Z.cell? ⟨ar,k,ag⟩=af (.int .i64 (n:Nat))/\Z.cell? ⟨bN,k,ag⟩=af (.int .i64 (o:Nat))/\Z.cell? ⟨bX,b0+n,ag⟩=af (.int .i64 (A.items.getD n 0))/\Z.cell? ⟨b4,b5+o,ag⟩=af (.int .i64 (B.items.getD o 0))):=⟨λZ t=>by
    have L:=O.1 Z (V.1.trans t);have c3:=eg.1 Z (T.1.1.trans t);have el:=L;obtain⟨⟨b,r,em⟩,_⟩:=el;refine⟨L,?_,?_,iU r.below c1,iU r.below c2⟩
    ·rw[aA c3.1,<-be]
     simp[bR,aj]
    ·rw[aA c3.2,<-bf]
     simp[bS,aj]⟩
   obtain⟨bi,c4⟩:=iC (A.items.getD n 0);obtain⟨bj,c5⟩:=iC (B.items.getD o 0);obtain⟨q,c6⟩:=iC (c (A.items.getD n 0).toNat (B.items.getD o 0).toNat);rw[c6]at I bh;rw[c4,c5]at bh av
   have aw:=ae (λh:rQ c A B P Q k≠0=>d.1.symm.trans (by have e:=V8 (g:=rQ c A B P Q) bd (λl b6=>T.1.2 l b6) h;rw[e,gY h]))
   have c7:=(av.1 S bc.1).1;have a6:=c7.2.2.1.1;clear ej ek bR bS c1 c2 c6 c4 c5;by_cases aD:A.kind=10
   ·have en:(A.kind==10)=aV:=by rw[aD];rfl
    rw[gY aD]at I;have eo:B.kind=10:=iE;have bk:n<A.keys.length:=(by rw[a5.1.2.1 aD];exact am);have bl:o<B.keys.length:=(by rw[a5.1.2.2.1 eo];exact an);have e0:(n:Int)<(A.keys.length:Int):=iE;have e1:(o:Int)<(B.keys.length:Int):=iE;rw[KI c bk bl]at I;obtain⟨c8,c9,rfl,da⟩:=a4.1.1.at bk;obtain⟨db,dc,rfl,dd⟩:=a4.1.2.2.1.at bl;have b7:=ae (λZ b r=>a5.1.2.2.2.1 _ (getD_mem bk) _ (getD_mem bl) Z b r)
    have de:PLift (∀Z,iY N (.slice (af ⟨nb,no,ag⟩) N.length vc) root tb sr ent w0 S Z->((∃b,CT N (.slice (af ⟨nb,no,ag⟩) N.length vc) root tb sr ent w0 b Z/\KT sr E b X Z)/\Z.cell? ⟨tb,0,ag⟩=af (.slice (af ⟨nb,no,ag⟩) N.length vc)/\(Z.cell? ⟨nb,no+i*5,ag⟩=af (.int .i64 A.kind)/\Z.cell? ⟨nb,no+i*5+1,ag⟩=af (.string A.text)/\Z.cell? ⟨nb,no+i*5+2,ag⟩=af (.bool A.ord)/\Z.cell? ⟨nb,no+i*5+3,ag⟩=af (.slice (af ⟨c8,c9,ag⟩) A.keys.length bs)/\Z.cell? ⟨nb,no+i*5+4,ag⟩=af (.slice (af ⟨bX,b0,ag⟩) A.items.length bt))/\(Z.cell? ⟨nb,no+j*5,ag⟩=af (.int .i64 B.kind)/\Z.cell? ⟨nb,no+j*5+1,ag⟩=af (.string B.text)/\Z.cell? ⟨nb,no+j*5+2,ag⟩=af (.bool B.ord)/\Z.cell? ⟨nb,no+j*5+3,ag⟩=af (.slice (af ⟨db,dc,ag⟩) B.keys.length bv)/\Z.cell? ⟨nb,no+j*5+4,ag⟩=af (.slice (af ⟨b4,b5,ag⟩) B.items.length bw)))/\Z.cell? ⟨ar,k,ag⟩=af (.int .i64 (n:Nat))/\Z.cell? ⟨bN,k,ag⟩=af (.int .i64 (o:Nat))/\Z.cell? ⟨c8,c9+n,ag⟩=af (.int .i64 (A.keys.getD n 0))/\Z.cell? ⟨db,dc+o,ag⟩=af (.int .i64 (B.keys.getD o 0))):=⟨λZ t=>by have L:=av.1 Z t;obtain⟨⟨b,r,em⟩,_⟩:=L.1;exact⟨L.1,L.2.1,L.2.2.1,iU r.below da,iU r.below dd⟩⟩
    obtain⟨b8,df⟩:=iC (A.keys.getD n 0);obtain⟨b9,dg⟩:=iC (B.keys.getD o 0);obtain⟨W,dj⟩:=iC (c (A.keys.getD n 0).toNat (B.keys.getD o 0).toNat);rw[dj]at I b7;rw[df,dg]at b7 de;have J:=ae I;clear da dd dj df dg I bk bl am an be bf bd
    as_aux_lemma=>
    go_upto_region 18 with fail
    refine iY.reg bc.1 (aF:=?_) iF ?_ ?_;rotate_left 1
    ·intro ρ p U
     have a:=ae (λz=>de.1 _ (p z));have dk:=λz=>(a.1 z).2.1
     have dl:=λz=>(a.1 z).2.2.1
     have dp:=λz=>(a.1 z).1.2.2.1.2.2.2.1
     have dq:=λz=>(a.1 z).1.2.2.1.2.2.2.2
     have dr:=λz=>(a.1 z).1.2.2.2.2.2.2.1
     have ds:=λz=>(a.1 z).1.2.2.2.2.2.2.2
     have dt:=λz=>(a.1 z).2.2.2.1
     have du:=λz=>(a.1 z).2.2.2.2
     have aE:=ae (λz:Mix.iZ (iY N (.slice (af ⟨nb,no,ag⟩) N.length vc) root tb sr ent w0) ρ=>show bz aC 111 #[.pointer (af ⟨tb,0,ag⟩),.int .i64 b8,.pointer (af ⟨tb,0,ag⟩),.int .i64 b9,.map ag] z.w (λe W'=>e=.returned (.int .i64 W)/\iY N (.slice (af ⟨nb,no,ag⟩) N.length vc) root tb sr ent w0 z.w W')from by
      obtain⟨⟨⟨ai,D,_⟩,_⟩,_⟩:=a.1 z
      exact(b7.1 z.w ai D).mono λe W' h=>⟨h.1,λF hF=>by obtain rfl:=hF.uniq D;exact h.2⟩)
     repeat(go_big_quiet_step((go_at_call 111;exact Mix.iZ.calls (λ_ _ _ h k=>h.trans k) (aE.1 _))))
     apply aW;exact rfl
    intro e2 dv;have dx:=ae dv;clear dv;by_cases K:W=0
    ·have ca:=ae (λh:q=0=>J.1.trans (by rw[gZ (λe=>e K),h]))
     have cb:=ae (λh:q≠0=>(aw.1 (by rw[J.1,gZ (λe=>e K)];exact h)).trans (J.1.trans (by rw[gZ (λe=>e K)])));have ep:(W==0)=aV:=(by rw[K];rfl);subst K;clear c7 a6 J aw
     as_aux_lemma=>
     go_upto_region 21 with fail
     refine iY.reg dx.1 (aF:=?_) iF ?_ ?_;rotate_left 1
     ·intro ρ p U
      have a:=ae (λz=>av.1 _ (p z));have dk:=λz=>(a.1 z).2.1
      have dl:=λz=>(a.1 z).2.2.1
      have dp:=λz=>(a.1 z).1.2.2.1.2.2.2.1
      have dq:=λz=>(a.1 z).1.2.2.1.2.2.2.2
      have dr:=λz=>(a.1 z).1.2.2.2.2.2.2.1
      have ds:=λz=>(a.1 z).1.2.2.2.2.2.2.2
      have dt:=λz=>(a.1 z).2.2.2.1
      have du:=λz=>(a.1 z).2.2.2.2
      have aE:=ae (λz:Mix.iZ (iY N (.slice (af ⟨nb,no,ag⟩) N.length vc) root tb sr ent w0) ρ=>show bz aC 111 #[.pointer (af ⟨tb,0,ag⟩),.int .i64 bi,.pointer (af ⟨tb,0,ag⟩),.int .i64 bj,.map ag] z.w (λe W'=>e=.returned (.int .i64 q)/\iY N (.slice (af ⟨nb,no,ag⟩) N.length vc) root tb sr ent w0 z.w W')from by
       obtain⟨⟨⟨ai,D,_⟩,_⟩,_⟩:=a.1 z
       exact(bh.1 z.w ai D).mono λe W' h=>⟨h.1,λF hF=>by obtain rfl:=hF.uniq D;exact h.2⟩)
      repeat(go_big_quiet_step((go_at_call 111;exact Mix.iZ.calls (λ_ _ _ h k=>h.trans k) (aE.1 _))))
      apply aW;exact rfl
     intro eq aG;have aL:=ae aG;clear aG;by_cases u:q=0
     ·have cc:=ae (ca.1 u)
      subst u
      as_aux_lemma=>
      go_wp2;go_roundw
      case rel=>exact⟨k+1,by go_num,by have:=bg.1;omega,T.1.1.trans aL.1,λl b6=>by
       by_cases e:l=k
       ·rw[e];exact cc.1
       ·exact T.1.2 l iE⟩
      case measure=>have:=bg.1;simp[intOf];omega
     ·have er:(q==0)=aS:=by rw[iy];exact u
      have es:(q !=0)=aV:=(by rw[bne_iff_ne];exact u);have f:=ae (cb.1 u)
      as_aux_lemma=>
      go_wp2;go_ret;exact⟨by rw[f.1];rfl,(V.1.trans aL.1) E s.1⟩
    ·have ep:(W==0)=aS:=by rw[iy];exact K
     have e3:(W !=0)=aV:=(by rw[bne_iff_ne];exact K);have f:=ae ((aw.1 (by rw[J.1,gY K];exact K)).trans (J.1.trans (by rw[gY K])))
     as_aux_lemma=>
     go_wp2;go_ret;exact⟨by rw[f.1];rfl,(V.1.trans dx.1) E s.1⟩
   ·have en:(A.kind==10)=aS:=by rw[iy];exact aD
    rw[gZ aD]at I;have J:=ae I;have ca:=ae (λh:q=0=>J.1.trans h);have cb:=ae (λh:q≠0=>(aw.1 (by rw[J.1];exact h)).trans J.1);clear I am an be bf bd aw
    as_aux_lemma=>
    go_upto_region 21 with fail
    refine iY.reg bc.1 (aF:=?_) iF ?_ ?_;rotate_left 1
    ·intro ρ p U
     have a:=ae (λz=>av.1 _ (p z));have dk:=λz=>(a.1 z).2.1
     have dl:=λz=>(a.1 z).2.2.1
     have dp:=λz=>(a.1 z).1.2.2.1.2.2.2.1
     have dq:=λz=>(a.1 z).1.2.2.1.2.2.2.2
     have dr:=λz=>(a.1 z).1.2.2.2.2.2.2.1
     have ds:=λz=>(a.1 z).1.2.2.2.2.2.2.2
     have dt:=λz=>(a.1 z).2.2.2.1
     have du:=λz=>(a.1 z).2.2.2.2
     have aE:=ae (λz:Mix.iZ (iY N (.slice (af ⟨nb,no,ag⟩) N.length vc) root tb sr ent w0) ρ=>show bz aC 111 #[.pointer (af ⟨tb,0,ag⟩),.int .i64 bi,.pointer (af ⟨tb,0,ag⟩),.int .i64 bj,.map ag] z.w (λe W'=>e=.returned (.int .i64 q)/\iY N (.slice (af ⟨nb,no,ag⟩) N.length vc) root tb sr ent w0 z.w W')from by
      obtain⟨⟨⟨ai,D,_⟩,_⟩,_⟩:=a.1 z
      exact(bh.1 z.w ai D).mono λe W' h=>⟨h.1,λF hF=>by obtain rfl:=hF.uniq D;exact h.2⟩)
     repeat(go_big_quiet_step((go_at_call 111;exact Mix.iZ.calls (λ_ _ _ h k=>h.trans k) (aE.1 _))))
     apply aW;exact rfl
    intro eq aG;have aL:=ae aG;clear aG;by_cases u:q=0
    ·have cc:=ae (ca.1 u)
     subst u
     as_aux_lemma=>
     go_wp2;go_roundw
     case rel=>exact⟨k+1,by go_num,by have:=bg.1;omega,T.1.1.trans aL.1,λl b6=>by
      by_cases e:l=k
      ·rw[e];exact cc.1
      ·exact T.1.2 l iE⟩
     case measure=>have:=bg.1;simp[intOf];omega
    ·have er:(q==0)=aS:=by rw[iy];exact u
     have es:(q !=0)=aV:=(by rw[bne_iff_ne];exact u);have f:=ae (cb.1 u)
     as_aux_lemma=>
     go_wp2;go_ret;exact⟨by rw[f.1];rfl,(V.1.trans aL.1) E s.1⟩
  ·obtain rfl:k=m:=iE
   have dy:=V9 T.1.2;have cd:=d.1;rw[gZ (show ¬xK (rQ c A B P Q) _≠0 from λh=>h dy)]at cd;have d:=ae cd;clear dy cd;clear T bc;by_cases dz:A.items.length<B.items.length
   ·have et:(A.items.length:Int)<(B.items.length:Int):=iE
    have f:=ae (d.1.symm.trans (gY dz))
    as_aux_lemma=>
    go_wp2;go_ret;exact⟨by rw[f.1];rfl,V.1 E s.1⟩
   ·have et:¬(A.items.length:Int)<(B.items.length:Int):=iE
    have d:=ae ((gZ dz).symm.trans d.1);by_cases dS:A.items.length>B.items.length
    ·have ev:(B.items.length:Int)<(A.items.length:Int):=iE
     have f:=ae (d.1.symm.trans (gY dS))
     as_aux_lemma=>
     go_wp2;go_ret;exact⟨by rw[f.1];rfl,V.1 E s.1⟩
    ·have ev:¬(B.items.length:Int)<(A.items.length:Int):=iE
     have f:=ae (d.1.symm.trans (gZ dS))
     as_aux_lemma=>
     go_wp2;go_ret;exact⟨by rw[f.1];rfl,V.1 E s.1⟩
end
end Go.Proofs.YthcalnnipjflkaaGreatDoor
namespace Go.Proofs.YthcalnnipjflkaaGreatDoor
open Go.RowKit Go.Sort
open Go.WideMaps (KeyLaw)
open Go.Lib hiding intOf
theorem KJ:KeyLaw aC 193:=
 deep_law_laid iF (m:=2) iE (of_decide_eq_true iF) iF iF
theorem Xw (a b:Int)(d:(Lit.int .i64 a).wf=aV)(wb:(Lit.int .i64 b).wf=aV):∃l,keyOf aC 193 (.agg #[.int .i64 a,.int .i64 b])=af l:=by
 have e:Tryz.prog.keyType 193=aV:=iF
 unfold keyOf;rw[bH];simp only[e,Value.formed,bH];have c:Tryz.prog.cellsOf 193=2:=iF
 have f:Tryz.prog.cellsOf 3=1:=iF
 obtain⟨m,hm⟩:∃m,Tryz.prog.types.size=m+1:=Nat.exists_eq_succ_of_ne_zero (Nat.pos_iff_ne_zero.1 (of_decide_eq_true iF));rw[c,hm];simp only[Value.cells,Program.keyLits,bH,c];simp only[f,Tryz.underlying3,show ay 2=[0,1]from rfl];simp[d,wb]
theorem lookup_nil (a b:Int)(d:(Lit.int .i64 a).wf=aV)(wb:(Lit.int .i64 b).wf=aV)(w:aB):(Instr.lookup 192 (.map ag) (.agg #[.int .i64 a,.int .i64 b]) aV).run aC w=.ok (.tuple #[.int .i64 0,.bool aS]) w:=by
 obtain⟨l,c⟩:=Xw a b d wb;have f:(zeroValue 3).run aC w=.ok (.int .i64 0) w:=rfl;rcases KJ.find w c [] iH with⟨g,_⟩|⟨j,e,_,h,_⟩
 ·simp[Instr.lookup,run_underlying Tryz.underlying192,KJ.check w _ c,g,f,Result.andThen]
 ·simp at h
theorem Xx (w:aB):(binOp .neq 192 (.map ag) (.map ag)).run aC w=.ok (.bool aS) w:=by
 first
  |rfl
  |simp[binOp]
section
variable {N:List Nd} {v:aN} {root:Int} {tb sr:Nat} {ent:Nat->List Int} {w0:aB} {E:List aN} {X:aB}
theorem Xy (i j:Nat)(hi:i<=1000000)(f:j<=1000000)(c:Int)(hd:bz aC 125 #[.pointer (af ⟨tb,0,ag⟩),.int .i64 (i:Nat),.pointer (af ⟨tb,0,ag⟩),.int .i64 (j:Nat),.map ag] X λe Y=>e=.returned (.int .i64 c)/\∃a,CT N v root tb sr ent w0 a Y/\KT sr E a X Y):
  bz aC 111 #[.pointer (af ⟨tb,0,ag⟩),.int .i64 (i:Nat),.pointer (af ⟨tb,0,ag⟩),.int .i64 (j:Nat),.map ag] X λe Y=>e=.returned (.int .i64 c)/\∃a,CT N v root tb sr ent w0 a Y/\KT sr E a X Y:=by
 have g:=ae hd;have k:=Xx;have wi:(Lit.int .i64 (i:Int)).wf=aV:=by simp[Lit.wf,IntKind.min,IntKind.max,IntKind.signed,IntKind.bits];omega
 have b:(Lit.int .i64 (j:Int)).wf=aV:=by simp[Lit.wf,IntKind.min,IntKind.max,IntKind.signed,IntKind.bits];omega
 have l:=λw=>lookup_nil (i:Int) (j:Int) wi b w
 clear hd wi b hi f;go_enter Tryz.func111,Tryz.ntmps111
 go_wp2_with(go_at_call 125;refine g.1.mono ?_;rintro e m ⟨rfl,d⟩;have h:=ae d;clear d)
 go_ret;exact⟨rfl,h.1⟩
end
end Go.Proofs.YthcalnnipjflkaaGreatDoor
namespace Go.Proofs.YthcalnnipjflkaaGreatDoor
open Go.RowKit Go.Sort
open Go.Lib hiding intOf
structure Fine (N:List Nd)(K:Nat->Prop)(H:Nat->Nat)(F:Nat):Prop where
 wf:uT N K H
 fu:∀i,K i->H i<F
 rng:nN N
 txt:∀n∈N,n.text.size<=70000
 fit:yV N
 xN:∀n∈N,n.items.length<=1000000
 len:N.length<=1000000
def tH (N:List Nd)(F:Nat)(i:Nat):List Int:=jY N (pO N F) i
section
variable {N:List Nd} {v:aN} {root:Int} {tb sr:Nat} {w0:aB} {K:Nat->Prop} {H:Nat->Nat} {F:Nat}
theorem Fine.mem (h:Fine N K H F){i:Nat}(hi:i<N.length):N.getD i nd0∈N:=by rw[aj,ah hi,aZ];exact aJ hi
theorem pU.KL {a:Nat->List Int}{x y c:Int}(hx:0<=x)(hy:0<=y)(h:pU N v root tb sr a w0 ((x.toNat:Nat):Int) ((y.toNat:Nat):Int) c):pU N v root tb sr a w0 x y c:=by rw[bY hx,bY hy]at h;exact h
theorem Xz (hf:Fine N K H F)(n:jM w0):∀f i j,K i->K j->H i<f->H j<f->pU N v root tb sr (tH N F) w0 ((i:Nat):Int) ((j:Nat):Int) (pO N F i j):=by
 intro f
 induction f with
 |zero=>intro _ _ _ _ h;exact absurd h (aH _)
 |succ f o=>
  intro i j hi d s t X E p;obtain⟨e,q⟩:=hf.wf i hi;obtain⟨g,r⟩:=hf.wf j d;have a:=hf.mem e;have b:=hf.mem g
  have pairs:∀x,(x∈(N.getD i nd0).keys++(N.getD i nd0).items\/x∈(N.getD j nd0).keys++(N.getD j nd0).items)->0<=x/\K x.toNat/\H x.toNat<f:=λx hx=>by
   rcases hx with h|h
   ·have k:=q x h
    refine⟨?_,k.1,iE⟩;rcases dw.1 h with h|h
    ·exact((hf.rng _ a).1 x h).1
    ·exact((hf.rng _ a).2 x h).1
   ·have k:=r x h
    refine⟨?_,k.1,iE⟩;rcases dw.1 h with h|h
    ·exact((hf.rng _ b).1 x h).1
    ·exact((hf.rng _ b).2 x h).1
  have c:∀x y,(x∈(N.getD i nd0).keys++(N.getD i nd0).items\/x∈(N.getD j nd0).keys++(N.getD j nd0).items)->(y∈(N.getD i nd0).keys++(N.getD i nd0).items\/y∈(N.getD j nd0).keys++(N.getD j nd0).items)->pU N v root tb sr (tH N F) w0 x y (pO N F x.toNat y.toNat):=λx y hx hy=>by have l:=pairs x hx;have m:=pairs y hy;exact pU.KL l.1 m.1 (o _ _ l.2.1 m.2.1 l.2.2 m.2.2)
  rw[Wh hf.wf hi d (hf.fu i hi) (hf.fu j d)];refine Xy i j (by have:=hf.len;omega) (by have:=hf.len;omega) _ (Xv (pO N F) i j p e g n ⟨hf.txt _ a,hf.txt _ b⟩ (hf.fit _ a) (hf.fit _ b) (hf.xN _ a) (hf.xN _ b) ?_ ?_ rfl rfl ?_ ?_)
  ·exact Fz (pO N F) i e (hf.fit _ a) (hf.xN _ a) rfl λ_ _ x y hx hy=>c _ _ (.inl (aI _ (getD_mem hx))) (.inl (aI _ (getD_mem hy)))
  ·exact Fz (pO N F) j g (hf.fit _ b) (hf.xN _ b) rfl λ_ _ x y hx hy=>c _ _ (.inr (aI _ (getD_mem hx))) (.inr (aI _ (getD_mem hy)))
  ·exact λx hx y hy=>c x y (.inl (aI _ hx)) (.inr (aI _ hy))
  ·exact λx hx y hy=>c x y (.inl (aK _ hx)) (.inr (aK _ hy))
theorem XA (hf:Fine N K H F)(e:jM w0)(i:Nat)(hi:i<N.length)(a:∀x∈(N.getD i nd0).keys,K x.toNat):wH N v root tb sr (tH N F) w0 i:=by
 have b:=hf.mem hi;refine Fz (pO N F) i hi (hf.fit _ b) (hf.xN _ b) rfl λ_ _ x y hx hy=>?_
 have c:=getD_mem hx;have d:=getD_mem hy;exact pU.KL ((hf.rng _ b).1 _ c).1 ((hf.rng _ b).1 _ d).1 (Xz hf e F _ _ (a _ c) (a _ d) (hf.fu _ (a _ c)) (hf.fu _ (a _ d)))
end
def rU (rec:Nat->List UInt8)(n:Nd)(P:List Int)(k:Nat):List UInt8:=
 ((if k=0 then[]else[44])++(if n.kind=10 then rec (n.keys.getD (P.getD k 0).toNat 0).toNat++[61]else[]))++rec (n.items.getD (P.getD k 0).toNat 0).toNat
def Di (n:Nd):UInt8:=if n.kind=10 then(if n.ord=aV then 60 else 123)else 91
def Dj (n:Nd):UInt8:=if n.kind=10 then(if n.ord=aV then 62 else 125)else 93
def lJ (N:List Nd)(E:Nat->List Int):Nat->Nat->List UInt8
 |0,_=>[]
 |f+1,a=>if(N.getD a nd0).kind=11 then(33::(N.getD a nd0).text.data.toList++[40])++lJ N E f ((N.getD a nd0).items.getD 0 0).toNat++[41]
  else if(N.getD a nd0).kind<9 then(o7 (N.getD a nd0)).data.toList
  else([Di (N.getD a nd0)]++(ay (N.getD a nd0).items.length).flatMap (rU (lJ N E f) (N.getD a nd0) (E a)))++[Dj (N.getD a nd0)]
def nD (rec:Nat->Nat)(n:Nd)(k:Nat):Nat:=(if n.kind=10 then 1+rec (n.keys.getD k 0).toNat else 0)+rec (n.items.getD k 0).toNat
def pV (n:Nd):Nat:=if n.kind=9 then 2+(n.items.length - 1)else if n.kind=10 then 2+(n.items.length - 1)else if n.kind=11 then 3+n.text.size else(o7 n).size
def jV (N:List Nd):Nat->Nat->Nat
 |0,_=>0
 |f+1,a=>pV (N.getD a nd0)+((ay (N.getD a nd0).items.length).map (nD (jV N f) (N.getD a nd0))).sum
def Fm (N:List Nd):Prop:=∀n∈N,n.kind<=11/\(n.kind<9->n.items=[])/\(n.kind=11->n.items.length=1)
theorem KQ {α:Type}(g h:α->Nat):∀l:List α,(l.map λx=>g x+h x).sum=(l.map g).sum+(l.map h).sum
 |[]=>rfl
 |x::l=>by simp only[bu,aU,KQ g h l];omega
theorem KR:∀n:Nat,((ay n).map λk=>if k=0 then 0 else 1).sum=n - 1
 |0=>rfl
 |n+1=>by rw[bC,List.map_append,List.sum_append,KR n];simp only[bu,dD,aU,dE];split<;>omega
theorem XH {l m:List Nat}(h:l.Perm m):l.sum=m.sum:=by
 induction h with
 |nil=>rfl
 |cons x _ a=>simp only[aU,a]
 |swap x y l=>simp only[aU];omega
 |trans _ _ b c=>exact b.trans c
theorem XI {P:List Int}{L:Nat}(a:qp P L)(g:Nat->Nat):((ay L).map λk=>g (P.getD k 0).toNat).sum=((ay L).map g).sum:=by
 have e1:(ay L).map (λk=>g (P.getD k 0).toNat)=P.map λx=>g x.toNat:=by
  apply List.ext_getElem
  ·simp[a.len]
  ·intro i e b
   have c:i<P.length:=(by simpa using b);simp[aj,c]
 have d:(nC L).toList.map (λx=>g x.toNat)=(ay L).map g:=by unfold nC;simp[List.map_map,Function.comp_def]
 rw[e1,<-d];exact XH (a.pm.map _)
theorem FD (N:List Nd)(a:Nat):(a<N.length/\N.getD a nd0∈N)\/N.getD a nd0=nd0:=by
 by_cases h:a<N.length
 ·refine .inl ⟨h,?_⟩
  rw[aj,ah h,aZ];exact aJ h
 ·right
  rw[aj,List.getElem?_eq_none iE]
  rfl
theorem Fm.at {N:List Nd}(h:Fm N)(a:Nat):(N.getD a nd0).kind<=11/\((N.getD a nd0).kind<9->(N.getD a nd0).items=[])/\((N.getD a nd0).kind=11->(N.getD a nd0).items.length=1):=by
 rcases FD N a with⟨_,b⟩|b
 ·exact h _ b
 ·rw[b]
  exact⟨iG,λ_=>rfl,λh=>absurd h iG⟩
theorem KU {N:List Nd}{E:Nat->List Int}(hf:Fm N)(i:∀a,a<N.length->qp (E a) (N.getD a nd0).items.length):∀f a,(lJ N E f a).length=jV N f a:=by
 intro f
 induction f with
 |zero=>intro a;rfl
 |succ f c=>
  intro a;have ha:=hf.at a
  have g:9<=(N.getD a nd0).kind->qp (E a) (N.getD a nd0).items.length:=λh=>by
   rcases FD N a with⟨d,_⟩|d
   ·exact i a d
   ·rw[d]at h;exact absurd h iG
  unfold lJ jV;generalize N.getD a nd0=n at ha g;by_cases b:n.kind=11
  ·rw[gY b]
   unfold pV;rw[gZ iE,gZ iE,gY b,ha.2.2 b];simp only[bC,List.range_zero,bP,bu,dD,aU,dE,au,ax,az,c];unfold nD;rw[gZ iE];have:n.text.data.toList.length=n.text.size:=iH;omega
  ·rw[gZ b]
   by_cases e:n.kind<9
   ·rw[gY e]
    unfold pV;rw[gZ iE,gZ iE,gZ b,ha.2.1 e];simp
   ·rw[gZ e]
    have j:=g iE
    have l:∀k,(rU (lJ N E f) n (E a) k).length=(if k=0 then 0 else 1)+nD (jV N f) n ((E a).getD k 0).toNat:=λk=>by
     unfold rU nD;rw[au,au,c];have e1:(if k=0 then([]:List UInt8)else[44]).length=if k=0 then 0 else 1:=by split<;>rfl
     have m:(if n.kind=10 then lJ N E f (n.keys.getD ((E a).getD k 0).toNat 0).toNat++[61]else[]).length=if n.kind=10 then 1+jV N f (n.keys.getD ((E a).getD k 0).toNat 0).toNat else 0:=by
      split
      ·rw[au,c];simp;omega
      ·rfl
     rw[e1,m];omega
    have o:pV n=2+(n.items.length - 1):=by
     unfold pV;by_cases h:n.kind=9
     ·rw[gY h]
     ·rw[gZ h,gY iE]
    rw[o,au,au,List.length_flatMap];rw[show(ay n.items.length).map (λk=>(rU (lJ N E f) n (E a) k).length)=(ay n.items.length).map (λk=>(if k=0 then 0 else 1)+nD (jV N f) n ((E a).getD k 0).toNat)from bZ λk _=>l k];rw[KQ (λk=>if k=0 then 0 else 1) (λk=>nD (jV N f) n ((E a).getD k 0).toNat),KR,XI j (nD (jV N f) n)];simp only[ax,az];omega
theorem FH {N:List Nd}{K:Nat->Prop}{H:Nat->Nat}(a:uT N K H)(b:yV N):∀f i,K i->H i<f->jV N (f+1) i=jV N f i
 |0,_,_,h=>absurd h (aH _)
 |f+1,i,hi,h=>by
  show pV (N.getD i nd0)+((ay (N.getD i nd0).items.length).map (nD (jV N (f+1)) (N.getD i nd0))).sum=pV (N.getD i nd0)+((ay (N.getD i nd0).items.length).map (nD (jV N f) (N.getD i nd0))).sum;obtain⟨m,hx⟩:=a i hi
  have hm:(N.getD i nd0).kind=10->(N.getD i nd0).keys.length=(N.getD i nd0).items.length:=by
   rcases FD N i with⟨_,c⟩|c
   ·exact b _ c
   ·rw[c];intro h;exact absurd h iG
  congr 2
  refine bZ λk e=>?_
  have d:=dA.1 e;have g:=hx _ (aK _ (getD_mem d));unfold nD;rw[FH a b f _ g.1 iE];split
  ·rename_i j
   have l:=hx _ (aI _ (getD_mem (by rw[hm j];exact d)));rw[FH a b f _ l.1 iE]
  ·rfl
theorem XJ {N:List Nd}{K:Nat->Prop}{H:Nat->Nat}(a:uT N K H)(b:yV N){F:Nat}{i:Nat}(hi:K i)(h:H i<F):jV N F i=pV (N.getD i nd0)+((ay (N.getD i nd0).items.length).map (nD (jV N F) (N.getD i nd0))).sum:=(FH a b F i hi h).symm
def nM (x:Nat):Nat:=min x 65537
def wJ (N:List Nd)(F:Nat)(a:List Int):Prop:=a.length=N.length/\∀j,j<N.length->0<=a.getD j 0->a.getD j 0=((nM (jV N F j):Nat):Int)
theorem KW (g:Nat->Nat)(c:Nat->Nat)(h:∀k,c k<=g k/\(c k=g k\/65537<=c k)):∀l:List Nat,(l.map c).sum<=(l.map g).sum/\((l.map c).sum=(l.map g).sum\/65537<=(l.map c).sum)
 |[]=>⟨bn _,.inl rfl⟩
 |x::l=>by have a:=h x;have b:=KW g c h l;simp only[bu,aU];omega
def o8 (N:List Nd)(F:Nat)(n:Nd)(k:Nat):Nat:=nD (λi=>nM (jV N F i)) n k
theorem XK (N:List Nd)(F:Nat)(n:Nd)(k:Nat):o8 N F n k<=nD (jV N F) n k/\(o8 N F n k=nD (jV N F) n k\/65537<=o8 N F n k):=by unfold o8 nD nM;dsimp only;split<;>omega
theorem KX (N:List Nd)(F:Nat)(n:Nd)(k:Nat):o8 N F n k<=131075:=by unfold o8 nD nM;dsimp only;split<;>omega
theorem Dk {x:Nat}(h:x<=4611686018427387904):wrap64 (x:Int)=(x:Int):=by unfold wrap64;omega
theorem XL {N:List Nd}{F f:Nat}{K:Nat->Prop}{H:Nat->Nat}(l:∀a p,K a->H a<f->wJ N F p->∃K',qy N f a p=af K'/\wJ N F K'/\K'.getD a 0=((nM (jV N F a):Nat):Int))(n:Nd)(hm:n.kind=10->n.keys.length=n.items.length)
  (hx:∀x∈n.keys++n.items,K x.toNat/\H x.toNat<f):∀(m i s:Nat) (b:List Int),i+m<=n.items.length->s+m*131075<=4611686018427387904->wJ N F b->
   ∃j,(dm i m).foldlM (stepG (qy N f) n) ((s:Int),b)=af (((s+((dm i m).map (o8 N F n)).sum:Nat):Int),j)/\wJ N F j:=by
 intro m
 induction m with
 |zero=>intro i s b _ _ h;exact⟨b,iH,h⟩
 |succ m t=>
  intro i s b A B hS;have q:i<n.items.length:=iE
  have k:=hx _ (aK _ (getD_mem q))
  have u:∃c,stepG (qy N f) n ((s:Int),b) i=af (((s+o8 N F n i:Nat):Int),c)/\wJ N F c:=by
   have o:=KX N F n i;unfold stepG;by_cases d:n.kind=10
   ·rw[gY d]
    have v:i<n.keys.length:=(by rw[hm d];exact q);have r:=hx _ (aI _ (getD_mem v));obtain⟨w,e1,y,v1⟩:=l _ b r.1 r.2 hS;obtain⟨c,e,g,v2⟩:=l _ w k.1 k.2 y;refine⟨c,?_,g⟩;rw[e1];simp only[bQ,bJ];rw[e];simp only[bQ];rw[v1,v2];have hc:o8 N F n i=(1+nM (jV N F (n.keys.getD i 0).toNat))+nM (jV N F (n.items.getD i 0).toNat):=(by unfold o8 nD;rw[gY d]);rw[hc]at o⊢;rw[show(1:Int)+((nM (jV N F (n.keys.getD i 0).toNat):Nat):Int)=((1+nM (jV N F (n.keys.getD i 0).toNat):Nat):Int) by omega,Dk iE,<-bT,Dk iE,<-bT,Dk iE];rw[dC]
   ·rw[gZ d]
    obtain⟨c,e,g,v2⟩:=l _ b k.1 k.2 hS;refine⟨c,?_,g⟩;simp only[bJ];rw[e];simp only[bQ];rw[v2];have hc:o8 N F n i=nM (jV N F (n.items.getD i 0).toNat):=(by unfold o8 nD;rw[gZ d,Nat.zero_add]);rw[hc]at o⊢;rw[<-bT,Dk iE]
  obtain⟨c,e,g⟩:=u;have o:=KX N F n i;obtain⟨j,e3,z⟩:=t (i+1) (s+o8 N F n i) c iE iE g;refine⟨j,?_,z⟩;rw[List.range'_succ,List.foldlM_cons,e];simp only[Option.bind_eq_bind,bJ];rw[e3,bu,aU,dC]
theorem XM (l:List UInt8):(quo l).length<=2*l.length+2:=by
 unfold quo
 have:∀l:List UInt8,(l.flatMap mF).length<=2*l.length:=by
  intro l
  induction l with
  |nil=>exact bn _
  |cons c l a=>rw[List.flatMap_cons,au,ax];have:(mF c).length<=2:=(by unfold mF;split<;>simp);omega
 have:=this l;simp only[ax,au,az];omega
theorem XN (n:Nd):(o7 n).size<=2*n.text.size+4:=by
 unfold o7 CY;have a:n.text.data.toList.length=n.text.size:=iH
 split
 ·show(35::n.text.data.toList.flatMap qx).toArray.size<=_
  rw[di,ax,KN,a];omega
 split
 ·show 4<=_;omega
 split
 ·show(quo n.text.data.toList).toArray.size<=_
  have:=XM n.text.data.toList;rw[di];omega
 split
 ·rw[aY]
  show 1+n.text.size<=_;omega
 split
 ·rw[aY]
  show 1+n.text.size<=_;omega
 ·omega
theorem XO (n:Nd):wI n=((pV n:Nat):Int):=by
 unfold wI pV;split
 ·omega
 split
 ·omega
 split
 ·omega
 ·rfl
theorem XP {N:List Nd}{K:Nat->Prop}{H:Nat->Nat}{F:Nat}(hf:Fine N K H F):∀f a b,K a->H a<f->wJ N F b->∃K',qy N f a b=af K'/\wJ N F K'/\K'.getD a 0=((nM (jV N F a):Nat):Int):=by
 intro f
 induction f with
 |zero=>intro a b _ h;exact absurd h (aH _)
 |succ f n=>
  intro a b ha q hS;obtain⟨c,hx⟩:=hf.wf a ha;have d:=hf.mem c;have hit:=hf.xN _ d;have r:=hf.txt _ d;unfold qy;by_cases g:0<=b.getD a 0
  ·rw[gY g]
   exact⟨b,rfl,hS,hS.2 a c g⟩
  ·rw[gZ g]
   have s:pV (N.getD a nd0)<=2000000:=by
    have:=XN (N.getD a nd0);unfold pV;split
    ·omega
    split
    ·omega
    split
    ·omega
    ·omega
   obtain⟨o,e1,i⟩:=XL (F:=F) n (N.getD a nd0) (hf.fit _ d) (λx l=>⟨(hx x l).1,by have:=(hx x l).2;omega⟩) (N.getD a nd0).items.length 0 (pV (N.getD a nd0)) b iE iE hS;rw[XO,e1]
   have hval:min (((pV (N.getD a nd0)+((dm 0 (N.getD a nd0).items.length).map (o8 N F (N.getD a nd0))).sum:Nat):Int)) 65537=((nM (jV N F a):Nat):Int):=by rw[XJ hf.wf hf.fit ha (hf.fu a ha),<-List.range_eq_range'];have:=KW (nD (jV N F) (N.getD a nd0)) (o8 N F (N.getD a nd0)) (XK N F (N.getD a nd0)) (ay (N.getD a nd0).items.length);unfold nM;omega
   have m:a<o.length:=(by rw[i.1];exact c);refine⟨_,rfl,⟨by simpa using i.1,λj p k=>?_⟩,?_⟩
   ·rw[mZ]at k⊢
    by_cases e:a=j
    ·subst e
     rw[gY ⟨rfl,m⟩];exact hval
    ·rw[gZ (λh=>e h.1)]at k⊢
     exact i.2 j p k
   ·rw[mZ,gY ⟨rfl,m⟩]
    exact hval
theorem Dl {w w':aB}{e t:TypeId}{k b:Nat}{c:Array aN}{a:Nat×Nat}(h:OthersKept e (af b) w w')(d:w.heap[k]?=af (.cells c t a))(f:k≠b)(g:t≠e):w'.heap[k]?=af (.cells c t a):=
 h k _ d (λe=>f (Option.some.inj e)) λi j e=>by cases e;exact g rfl
def oI (X Y:aB):Prop:=∀(k:Nat) (c:Array aN) (a:Nat×Nat),X.heap[k]?=af (.cells c 3 a)->Y.heap[k]?=af (.cells c 3 a)
theorem oI.refl (X:aB):oI X X:=λ_ _ _ h=>h
theorem oI.trans {X Y Z:aB}(h:oI X Y)(k:oI Y Z):oI X Z:=λa c b e=>k a c b (h a c b e)
structure WX (N:List Nd)(v:aN)(root:Int)(tb sr:Nat)(ent:Nat->List Int)(w0:aB)(B b:Nat)(E:List aN)(l:List UInt8)(X:aB):Prop where
 ct:CT N v root tb sr ent w0 E X
 nG:bI 51 5 B b (byteCells l) X
 Dn:w0.heap.size<=B
 oJ:B<=X.heap.size
section
variable {N:List Nd} {v:aN} {root:Int} {tb sr:Nat} {ent:Nat->List Int} {w0:aB} {B b:Nat} {E E':List aN} {l l':List UInt8} {w w':aB}
theorem XQ (h:bI 51 5 B b (byteCells l) w):∃c a,w.heap[b]?=af (.cells c 51 a):=by
 rcases h with⟨_,v,h,_⟩|⟨_,v,h,_⟩
 ·exact⟨_,_,h⟩
 ·exact⟨_,_,h⟩
theorem Dp {k t:Nat}{c:Array aN}{d:Nat×Nat}(h:bI 51 5 B b (byteCells l) w)(e:w.heap[k]?=af (.cells c t d))(f:t≠51):k≠b:=by rintro rfl;obtain⟨g,i,a⟩:=XQ h;rw[e]at a;cases a;exact f rfl
theorem WX.wrote (h:WX N v root tb sr ent w0 B b E l w)(j:bI 51 5 B b (byteCells l') w')(e:Below B w w')(a:OthersKept 5 (af b) w w'):WX N v root tb sr ent w0 B b E l' w'/\oI w w':=
 ⟨⟨⟨h.ct.nodes,h.ct.below.trans (e.mono h.Dn),h.ct.lo,⟨Dl a h.ct.tab.box (Dp h.nG h.ct.tab.box iG) iG,Dl a h.ct.tab.row (Dp h.nG h.ct.tab.row iG) iG,h.ct.tab.len,h.ct.tab.ne⟩,
  λi hi=>by
   rcases h.ct.val i hi with d|⟨m,d,f,n⟩
   ·exact .inl d
   ·exact .inr ⟨m,d,Dl a f (Dp h.nG f iG) iG,n⟩⟩,j,h.Dn,dh h.oJ e.size⟩,
 λk c o g=>Dl a g (Dp h.nG g iG) iG⟩
theorem WX.fresh (h:WX N v root tb sr ent w0 B b E l w)(a:Below w.heap.size w w'):WX N v root tb sr ent w0 B b E l w'/\oI w w':=
 ⟨⟨h.ct.keep a,by
  rcases h.nG with⟨e,x,d,f,g⟩|⟨e,x,d,f,g⟩
  ·exact .inl ⟨e,x,by rw[a.block b (aQ.1 d).1];exact d,AO f a,g⟩
  ·exact .inr ⟨e,x,by rw[a.block b (aQ.1 d).1];exact d,AO f a,g⟩,h.Dn,dh h.oJ a.size⟩,
 λk c j i=>by rw[a.block k (aQ.1 i).1];exact i⟩
theorem WX.learnt (h:WX N v root tb sr ent w0 B b E l w)(hc:CT N v root tb sr ent w0 E' w')(u:KT sr E E' w w'):WX N v root tb sr ent w0 B b E' l w'/\oI w w':=by
 have d:∀(k:Nat) (c:Array aN) (t:TypeId) (f:Nat×Nat),w.heap[k]?=af (.cells c t f)->t≠36->w'.heap[k]?=af (.cells c t f):=by
  intro k c t f i y;rw[u.g.block k (aQ.1 i).1 ?_]
  ·exact i
  ·intro e
   have:=Option.some.inj e;subst this;have:=h.ct.tab.row;rw[i]at this;cases this;exact y rfl
 refine⟨⟨hc,?_,h.Dn,dh h.oJ u.g.size⟩,λk c f i=>d k c _ f i iG⟩;rcases h.nG with⟨m,x,n,j,o⟩|⟨m,x,n,j,o⟩
 ·refine .inl ⟨m,x,d _ _ _ _ n iG,?_,o⟩
  refine⟨j.1,?_⟩;rcases j.2 with a|⟨g,cap,p,a,q,r,s⟩
  ·exact .inl a
  ·exact .inr ⟨g,cap,p,a,q,d _ _ _ _ r iG,s⟩
 ·refine .inr ⟨m,x,d _ _ _ _ n iG,?_,o⟩
  refine⟨j.1,?_⟩;rcases j.2 with a|⟨g,cap,p,a,q,r,s⟩
  ·exact .inl a
  ·exact .inr ⟨g,cap,p,a,q,d _ _ _ _ r iG,s⟩
end
theorem XR (g:Nat->List UInt8):∀{i L:Nat},i<=L->((ay i).flatMap g).length<=((ay L).flatMap g).length:=by
 intro i L h;obtain⟨d,rfl⟩:=Nat.exists_eq_add_of_le h;clear h
 induction d with
 |zero=>exact bn _
 |succ d a=>rw[show i+(d+1)=(i+d)+1 by omega,bC,cu,au];omega
theorem XT (g:Nat->List UInt8)(i:Nat):(ay (i+1)).flatMap g=(ay i).flatMap g++g i:=by rw[bC,cu,List.flatMap_singleton]
theorem XU {N:List Nd}{K:Nat->Prop}{H:Nat->Nat}{F:Nat}(hf:Fine N K H F)(bl:Fm N)(v:aN)(root:Int)(tb sr:Nat)(w0:aB)(B b:Nat){ent:Nat->List Int}(bM:∀a,a<N.length->qp (ent a) (N.getD a nd0).items.length)(cl:∀a,K a->wH N v root tb sr ent w0 a):
  ∀(f a:Nat) (l:List UInt8) (E:List aN) (w:aB),K a->H a<f->l.length+jV N f a<=1073741824->WX N v root tb sr ent w0 B b E l w->
  bz aC 76 #[.pointer (af ⟨tb,0,ag⟩),.pointer (af ⟨b,0,ag⟩),.int .i64 a] w λe w'=>e=.returned (.tuple #[])/\∃E',WX N v root tb sr ent w0 B b E' (l++lJ N ent f a) w'/\oI w w':=by
 intro f
 induction f with
 |zero=>intro a l E w _ h;exact absurd h (aH _)
 |succ f cm=>
  intro a l E w bN cM bm ad;obtain⟨ha,a2⟩:=hf.wf a bN;have bo:=ae cm;have L:=ae ad;have dl:(a:Int)<(N.length:Int):=iE
  obtain⟨va,vc,cN,cO,cP⟩:=ad.ct.nodes;subst cN;rcases cP with Z|⟨nb,o,rfl,cn⟩
  ·exfalso;rw[Z]at ha;exact aH _ ha
  have bO:=cn a N[a] (ah ha);have co:N.getD a nd0=N[a]:=by rw[aj,ah ha];rfl
  have aq:=bl.at a;have a3:=hf.txt _ (hf.mem ha);have hit:=hf.xN _ (hf.mem ha);have bp:=hf.fit _ (hf.mem ha);have bq:=hf.rng _ (hf.mem ha);have a4:=cl a bN;have cp:=KU bl bM (f+1) a;have cQ:lJ N ent (f+1) a=_:=rfl;rw[<-cp]at bm;clear cp;obtain⟨T,j⟩:=iC (lJ N ent (f+1) a);rw[j]at bm⊢;clear cQ;unfold lJ at j;unfold wH at a4;rw[co]at aq a3 hit bp bq a4 a2 j;generalize N[a]=n at bO aq a3 hit bp bq a4 a2 j;have cq:=ae λwr (hw:Below w0.heap.size w0 wr)=>KP n wr nb (o+a*5) (vH.below bO hw) iE
  obtain⟨dp,ai,bR,bS,bX,cr,b0,cs,b1⟩:=bO;have ak:=ae (iJ bR (iJ bS (iJ bX (iJ cr b0))));have dq:=iK ad.ct.tab.box 0 (.slice (af ⟨nb,o,ag⟩) N.length vc);have aM:=iU ad.ct.below bR;have b2:=iU ad.ct.below bS;have a5:=iU ad.ct.below bX;have b3:=iU ad.ct.below b0;have br:PLift (∀x∈n.keys++n.items,K x.toNat/\H x.toNat<f):=⟨λx hx=>⟨(a2 x hx).1,by have:=(a2 x hx).2;omega⟩⟩;have bs:=ae bq;have cR:=ae bp;have bt:=ae bm;have bv:=ae λp:Nat=>KU (E:=ent) bl bM f p
  have bw:=ae a4;clear cO cn co a2 bq bp bm ad a4 bM cl bl cm bN cM ha bR bS bX cr b0 hf;by_cases al:n.kind=11
  ·rw[gY al]at j
   have b4:=aq.2.2 al;rw[al]at aM;have G:0<n.items.length:=iE;have cv:(0:Int)<(n.items.length:Int):=iE;obtain⟨cS,cT,rfl,b5,bx⟩:=b1;rcases bx with Z|⟨b6,lo,rfl,Q⟩
   ·exfalso;rw[Z]at G;exact aH _ G
   have b7:=Q 0 n.items[0] (ah G);have hx:=bs.1.2 n.items[0] (aJ G);have R:n.items.getD 0 0=n.items[0]:=(by rw[aj,ah G];rfl);have hy:=br.1 n.items[0] (aK _ (aJ G));rw[R]at j;generalize n.items[0]=x at hx b7 j hy;obtain⟨p,rfl⟩:=aT hx.1;simp only[aO]at j hy;have cw:=bv.1 p;have O:=ae j;have a6:=ae b7
   have C:PLift (l.length+(n.text.size+2)+(lJ N ent f p).length+1<=1073741824):=⟨by
    have D:=bt.1;rw[<-j]at D;have:n.text.data.toList.length=n.text.size:=iH;simp only[au,ax,az]at D
    omega⟩
   have hd:((⟨#[33]⟩:ByteArray)++n.text++⟨#[40]⟩).data.toList=33::n.text.data.toList++[40]:=iH
   have b8:((⟨#[33]⟩:ByteArray)++n.text++⟨#[40]⟩).size=n.text.size+2:=by rw[aY,aY];show 1+n.text.size+1=_;omega
   have b9:=ae (La B b l (⟨#[33]⟩++n.text++⟨#[40]⟩) w L.1.nG (by rw[b8];have:=C.1;omega) L.1.oJ);rw[hd]at b9
   have a7:(l++(33::n.text.data.toList++[40])).length+jV N f p<=1073741824:=by rw[<-cw];have D:=C.1;have:n.text.data.toList.length=n.text.size:=iH;simp only[au,ax,az];omega
   have cx:=ae λam (cU:WX N (.slice (af ⟨nb,o,ag⟩) N.length vc) root tb sr ent w0 B b E (l++(33::n.text.data.toList++[40])) am)=>bo.1 p _ E am hy.1 hy.2 a7 cU
   clear a7;have cy:(n.text.size:Int)<=70000:=iE;have cV:((n.text.size:Int)+1)<=70001:=iE;have ar:=ae (show(n.text.data.toList.length=n.text.size) by simp);generalize n.text=t at b2 b9 j O cx C cy cV b8 hd ar;clear a5 aq a3 hit Q hx R hy b5 G j cw b7 b4 b8 hd
   as_aux_lemma=>
   go_enter bV,bK
   as_aux_lemma=>
   go_upto_region 3 with(go_at_call 17;refine(b9.1).mono ?_;rintro e am ⟨rfl,c,d,g⟩;have z:=ae (L.1.wrote c d g);clear c d g)
   have cz:=iU z.1.1.ct.below ak.1.2.2.2.2;have cA:=iU z.1.1.ct.below a6.1;rw[Nat.add_zero]at cA;have aR:am.cell? ⟨b6,lo+0,ag⟩=af (.int .i64 (p:Nat)):=cA
   as_aux_lemma=>
   go_upto_region 4 with(go_at_call 76;refine(cx.1 _ z.1.1).mono ?_;rintro e an ⟨rfl,E2,cB,cC⟩;have P:=ae cB;have cW:=ae cC;clear cB cC)
   have ao:=ae (qR B b _ 41 an P.1.nG (by have:=C.1;have:=ar.1;simp only[au,ax,az];omega) P.1.oJ)
   as_aux_lemma=>
   go_wp2_with(go_at_call 92;refine(ao.1).mono ?_;rintro e w3 ⟨rfl,c,d,g⟩;have ap:=ae (P.1.wrote c d g);clear c d g)
   refine cZ (v:=.tuple #[]) (by simp only[results,dB];go_simp) rfl ?_;refine⟨rfl,E2,?_,(z.1.2.trans cW.1).trans ap.1.2⟩;have h:=ap.1.1;rw[<-O.1];simp only[aX]at h⊢;exact h
  rw[gZ al]at j;by_cases a8:n.kind<9
  ·rw[gY a8]at j
   have cD:(o7 n).data.toList=T:=j;have O:=ae cD;have ca:=cq.1 w L.1.ct.below;generalize o7 n=t at ca O;obtain⟨k,X⟩:=iC n.kind;rw[X]at aM al a8;have dr:(k==11)=aS:=(by simpa using al);have cX:=ae ca;clear aq a3 hit b1 cs j cD X b2 a5 b3 ca
   as_aux_lemma=>
   go_enter bV,bK
   as_aux_lemma=>
   go_wp2_with(go_at_call 91;refine(cX.1).mono ?_;rintro e am ⟨rfl,cE⟩;have cY:=ae cE;clear cE)
   have z:=ae (L.1.fresh cY.1)
   have a7:l.length+t.size<=140737488355328:=by have D:=bt.1;rw[<-O.1]at D;have:t.data.toList.length=t.size:=iH;omega
   have c0:=ae (La B b l t am z.1.1.nG a7 z.1.1.oJ);clear a7
   as_aux_lemma=>
   go_wp2_with(go_at_call 17;refine(c0.1).mono ?_;rintro e an ⟨rfl,c,d,g⟩;have P:=ae (z.1.1.wrote c d g);clear c d g)
   refine cZ (v:=.tuple #[]) (by simp only[results,dB];go_simp) rfl ?_;refine⟨rfl,E,?_,z.1.2.trans P.1.2⟩;have h:=P.1.1;rw[O.1]at h;exact h
  rw[gZ a8]at j;obtain⟨cS,cT,rfl,b5,bx⟩:=b1;obtain⟨ds,dt,rfl,c1,cF⟩:=cs;have cG:=ae bx;have c2:=ae cF;have cy:(n.items.length:Int)<=1000000:=iE
  obtain⟨u,a9⟩:∃u:Nat->List UInt8,u=λi=>(ay i).flatMap (rU (lJ N ent f) n (ent a)):=⟨_,rfl⟩
  have cH:(ay n.items.length).flatMap (rU (lJ N ent f) n (ent a))=u n.items.length:=by rw[a9]
  have a0:PLift (u 0=[]/\(∀i,u (i+1)=u i++rU (lJ N ent f) n (ent a) i)/\∀i,i<=n.items.length->(u i).length<=(u n.items.length).length):=⟨by rw[a9];rfl,λi=>by rw[a9];exact XT _ i,λi hi=>by rw[a9];exact XR _ hi⟩;rw[cH]at j;clear a9 cH
  have C:PLift (l.length+1+(u n.items.length).length+1<=1073741824):=⟨by
   have D:=bt.1;rw[<-j]at D;simp only[au,ax,az]at D
   omega⟩
  have O:=ae j;clear j a3 hit bx cF b5 c1 cq bt b2;have c3:n.kind=9\/n.kind=10:=by have:=aq.1;omega
  clear aq;rcases c3 with X|X
  ·have J:=ae X
   rw[X]at aM;clear X al a8 a5;have cb:PLift (∀i,rU (lJ N ent f) n (ent a) i=((if i=0 then[]else[44])++[])++lJ N ent f (n.items.getD ((ent a).getD i 0).toNat 0).toNat):=⟨λi=>by unfold rU;rw[gZ (show ¬n.kind=10 by rw[J.1];decide)]⟩;have ar:PLift (([91]++u n.items.length)++[93]=T):=⟨by rw[<-O.1];unfold Di Dj;rw[gZ (by rw[J.1];decide),gZ (by rw[J.1];decide)]⟩;have ao:=ae (qR B b l 91 w L.1.nG (by have:=C.1;omega) L.1.oJ);clear O
   as_aux_lemma=>
   go_enter bV,bK
   as_aux_lemma=>
   go_upto_region 13 with(go_at_call 92;refine(ao.1).mono ?_;rintro e am ⟨rfl,c,d,g⟩;have z:=ae (L.1.wrote c d g);clear c d g)
   clear aM b3
   as_aux_lemma=>
   go_wp2_with(go_at_call 93;refine(bw.1 _ _ z.1.1.ct).mono ?_;rintro e an ⟨cc,rfl,ba,bb,bc,E2,aR,bd⟩;have av:=ae (iJ ba (iJ bb.len bc));have P:=ae (z.1.1.learnt aR bd);clear ba bb bc aR bd)
   clear bw
   go_loopw [69] (λai wr=>∃(i:Nat) (S:List aN),ai=.int .i64 i/\i<=n.items.length/\WX N (.slice (af ⟨nb,o,ag⟩) N.length vc) root tb sr ent w0 B b S (l++([91]++u i)) wr/\oI an wr) (λai _=>n.items.length - (intOf ai).toNat)
   case atStart=>exact⟨0,E2,rfl,bU _,by rw[a0.1.1];exact P.1.1,oI.refl _⟩
   case round=>
    as_aux_lemma=>
    obtain⟨i,S,rfl,hi,be,aw⟩:=hrel;obtain⟨m,cd⟩:∃m:aB,m=wr:=⟨_,rfl⟩;subst cd;have s:=ae (iJ be aw);have aa:=aw _ _ _ av.1.1;clear be aw;by_cases G:i<n.items.length
    ·have cv:(i:Int)<(n.items.length:Int):=iE
     have ab:i<(ent a).length:=(by rw[av.1.2.1];exact G);have bf:=av.1.2.2 _ (getD_mem ab);obtain⟨q,ac⟩:∃q:Nat,(ent a).getD i 0=(q:Int):=⟨((ent a).getD i 0).toNat,iE⟩;have c4:m.cell? ⟨cc,i,ag⟩=af (.int .i64 (q:Nat)):=(by rw[<-ac];exact kJ aa ab);have y:=cb.1 i;rw[ac,aO]at y;have Y:q<n.items.length:=iE;have c5:(q:Int)<(n.items.length:Int):=iE;rcases cG.1 with Z|⟨b6,lo,rfl,Q⟩
     ·exfalso;rw[Z]at G;exact aH _ G
     have U:=Q q n.items[q] (ah Y);have hx:=bs.1.2 n.items[q] (aJ Y);have hy:=br.1 n.items[q] (aK _ (aJ Y));have R:n.items.getD q 0=n.items[q]:=(by rw[aj,ah Y];rfl);rw[R]at y;generalize n.items[q]=x at hx U y hy;obtain⟨p,rfl⟩:=aT hx.1;simp only[aO]at y hy;have bg:=ae (iJ (bv.1 p) hy.2);have ce:=ae hy.1;have a6:=ae U;clear Q hx R hy U;have I:=ae (a0.1.2.1 i);have aD:PLift ((u (i+1)).length<=(u n.items.length).length):=⟨a0.1.2.2 _ iE⟩;rw[y]at I;by_cases V:i=0
     case' pos=>rw[gY V]at I;have cf:¬(0:Int)<(i:Int):=iE;have c6:decide ((0:Int)<(i:Int))=aS:=iw cf;have d0:=iU s.1.1.ct.below ak.1.1;rw[J.1]at d0;have cg:m=m:=rfl;have M:PLift (WX N (.slice (af ⟨nb,o,ag⟩) N.length vc) root tb sr ent w0 B b S (l++([91]++u i)++[]) m/\oI an m):=⟨by rw[bD];exact s.1⟩;have c7:=ae V;clear V aa y ab bf ac cg;obtain⟨bh,aE⟩:=iD m;subst aE
     case' neg=>
      rw[gZ V]at I;have c8:(0:Int)<(i:Int):=iE;have ch:=ae (qR B b _ 44 m s.1.1.nG (by have D:=C.1;have A:=aD.1;rw[I.1]at A;simp only[au,ax,az]at A⊢;omega) s.1.1.oJ);clear V aa y ab bf ac
      go_upto_region 18 with(go_at_call 92;refine(ch.1).mono ?_;rintro e w3 ⟨rfl,c,d,g⟩;have W:=s.1.1.wrote c d g;have M:=ae (iJ W.1 (s.1.2.trans W.2));clear c d g W)
      have d0:=iU M.1.1.ct.below ak.1.1;rw[J.1]at d0;obtain⟨bh,aE⟩:=iD w3;subst aE
     all_goals
      have cz:=iU M.1.1.ct.below ak.1.2.2.2.2;have b4:=iU M.1.1.ct.below a6.1;have ci:=ae (bo.1 p _ S bh ce.1 bg.1.2 (by rw[<-bg.1.1];have D:=C.1;have A:=aD.1;rw[I.1]at A;simp only[au,ax,az]at A⊢;omega) M.1.1)
      as_aux_lemma=>
      go_wp2_with(go_at_call 76;refine(ci.1).mono ?_;rintro e c9 ⟨rfl,cj,bi,bj⟩;have bk:=ae (iJ bi (M.1.2.trans bj));clear bi bj)
      go_roundw
      case rel=>exact⟨i+1,cj,by go_num,iE,by have h:=bk.1.1;rw[I.1];simp only[aX,bD,bP,dn]at h⊢;exact h,bk.1.2⟩
      case measure=>simp[intOf];omega
    ·obtain rfl:i=n.items.length:=iE
     have bA:=ae (qR B b _ 93 m s.1.1.nG (by have D:=C.1;simp only[au,ax,az];omega) s.1.1.oJ);clear aa
     as_aux_lemma=>
     go_wp2_with(go_at_call 92;refine(bA.1).mono ?_;rintro e w3 ⟨rfl,c,d,g⟩;have ap:=ae (s.1.1.wrote c d g);clear c d g)
     go_end0;refine⟨rfl,S,?_,((z.1.2.trans P.1.2).trans s.1.2).trans ap.1.2⟩;have h:=ap.1.1;rw[<-ar.1];simp only[aX]at h⊢;exact h
  ·have J:=ae X
   rw[X]at aM;clear X al a8;cases ck:n.ord
   all_goals
    have bB:=ae ck;rw[ck]at a5;clear ck;have cb:PLift (∀i,rU (lJ N ent f) n (ent a) i=((if i=0 then[]else[44])++(lJ N ent f (n.keys.getD ((ent a).getD i 0).toNat 0).toNat++[61]))++lJ N ent f (n.items.getD ((ent a).getD i 0).toNat 0).toNat):=⟨λi=>by unfold rU;rw[gY J.1]⟩
   case' false=>obtain⟨op,aF⟩:∃x:UInt8,x=123:=⟨_,rfl⟩;obtain⟨a1,aG⟩:∃x:UInt8,x=125:=⟨_,rfl⟩;have ar:PLift (([op]++u n.items.length)++[a1]=T):=⟨by rw[<-O.1,aF,aG];unfold Di Dj;rw[gY J.1,gY J.1,gZ (by rw[bB.1];decide),gZ (by rw[bB.1];decide)]⟩;have ao:=ae (qR B b l op w L.1.nG (by have:=C.1;omega) L.1.oJ);rw[show op.toNat=123 by rw[aF];rfl]at ao;have cI:PLift (a1.toNat=125):=⟨by rw[aG];rfl⟩;clear aF aG
   case' true=>obtain⟨op,aF⟩:∃x:UInt8,x=60:=⟨_,rfl⟩;obtain⟨a1,aG⟩:∃x:UInt8,x=62:=⟨_,rfl⟩;have ar:PLift (([op]++u n.items.length)++[a1]=T):=⟨by rw[<-O.1,aF,aG];unfold Di Dj;rw[gY J.1,gY J.1,gY bB.1,gY bB.1]⟩;have ao:=ae (qR B b l op w L.1.nG (by have:=C.1;omega) L.1.oJ);rw[show op.toNat=60 by rw[aF];rfl]at ao;have cI:PLift (a1.toNat=62):=⟨by rw[aG];rfl⟩;clear aF aG
   all_goals
    clear O
    as_aux_lemma=>
    go_enter bV,bK
    as_aux_lemma=>
    go_upto_region 13 with(go_at_call 92;refine(ao.1).mono ?_;rintro e am ⟨rfl,c,d,g⟩;have z:=ae (L.1.wrote c d g);clear c d g)
    clear aM b3 a5
    as_aux_lemma=>
    go_wp2_with(go_at_call 93;refine(bw.1 _ _ z.1.1.ct).mono ?_;rintro e an ⟨cc,rfl,ba,bb,bc,E2,aR,bd⟩;have av:=ae (iJ ba (iJ bb.len bc));have P:=ae (z.1.1.learnt aR bd);clear ba bb bc aR bd)
    clear bw
    go_loopw [69] (λai wr=>∃(i:Nat) (S:List aN),ai=.int .i64 i/\i<=n.items.length/\WX N (.slice (af ⟨nb,o,ag⟩) N.length vc) root tb sr ent w0 B b S (l++([op]++u i)) wr/\oI an wr) (λai _=>n.items.length - (intOf ai).toNat)
    case atStart=>exact⟨0,E2,rfl,bU _,by rw[a0.1.1];exact P.1.1,oI.refl _⟩
    case round=>
     as_aux_lemma=>
     obtain⟨i,S,rfl,hi,be,aw⟩:=hrel;obtain⟨m,cd⟩:∃m:aB,m=wr:=⟨_,rfl⟩;subst cd;have s:=ae (iJ be aw);have aa:=aw _ _ _ av.1.1;clear be aw;by_cases G:i<n.items.length
     ·have cv:(i:Int)<(n.items.length:Int):=iE
      have ab:i<(ent a).length:=(by rw[av.1.2.1];exact G);have bf:=av.1.2.2 _ (getD_mem ab);obtain⟨q,ac⟩:∃q:Nat,(ent a).getD i 0=(q:Int):=⟨((ent a).getD i 0).toNat,iE⟩;have c4:m.cell? ⟨cc,i,ag⟩=af (.int .i64 (q:Nat)):=(by rw[<-ac];exact kJ aa ab);have y:=cb.1 i;rw[ac,aO]at y;have Y:q<n.items.length:=iE;have c5:(q:Int)<(n.items.length:Int):=iE;rcases cG.1 with Z|⟨b6,lo,rfl,Q⟩
      ·exfalso;rw[Z]at G;exact aH _ G
      have U:=Q q n.items[q] (ah Y);have hx:=bs.1.2 n.items[q] (aJ Y);have hy:=br.1 n.items[q] (aK _ (aJ Y));have R:n.items.getD q 0=n.items[q]:=(by rw[aj,ah Y];rfl);rw[R]at y;generalize n.items[q]=x at hx U y hy;obtain⟨p,rfl⟩:=aT hx.1;simp only[aO]at y hy;have bg:=ae (iJ (bv.1 p) hy.2);have ce:=ae hy.1;have a6:=ae U;clear Q hx R hy U;have aL:q<n.keys.length:=(by rw[cR.1 J.1];exact Y);have du:(q:Int)<(n.keys.length:Int):=iE;rcases c2.1 with Z|⟨dv,dx,rfl,Q⟩
      ·exfalso;rw[Z]at aL;exact aH _ aL
      have U:=Q q n.keys[q] (ah aL);have hx:=bs.1.1 n.keys[q] (aJ aL);have hy:=br.1 n.keys[q] (aI _ (aJ aL));have R:n.keys.getD q 0=n.keys[q]:=(by rw[aj,ah aL];rfl);rw[R]at y;generalize n.keys[q]=x at hx U y hy;obtain⟨r,rfl⟩:=aT hx.1;simp only[aO]at y hy;have cJ:=ae (iJ (bv.1 r) hy.2);have da:=ae hy.1;have db:=ae U;clear Q hx R hy U aL;have I:=ae (a0.1.2.1 i);have aD:PLift ((u (i+1)).length<=(u n.items.length).length):=⟨a0.1.2.2 _ iE⟩;rw[y]at I;by_cases V:i=0
      case' pos=>rw[gY V]at I;have cf:¬(0:Int)<(i:Int):=iE;have c6:decide ((0:Int)<(i:Int))=aS:=iw cf;have d0:=iU s.1.1.ct.below ak.1.1;rw[J.1]at d0;have cg:m=m:=rfl;have M:PLift (WX N (.slice (af ⟨nb,o,ag⟩) N.length vc) root tb sr ent w0 B b S (l++([op]++u i)++[]) m/\oI an m):=⟨by rw[bD];exact s.1⟩;have c7:=ae V;clear V aa y ab bf ac cg;obtain⟨bh,aE⟩:=iD m;subst aE
      case' neg=>
       rw[gZ V]at I;have c8:(0:Int)<(i:Int):=iE;have ch:=ae (qR B b _ 44 m s.1.1.nG (by have D:=C.1;have A:=aD.1;rw[I.1]at A;simp only[au,ax,az]at A⊢;omega) s.1.1.oJ);clear V aa y ab bf ac
       go_upto_region 18 with(go_at_call 92;refine(ch.1).mono ?_;rintro e w3 ⟨rfl,c,d,g⟩;have W:=s.1.1.wrote c d g;have M:=ae (iJ W.1 (s.1.2.trans W.2));clear c d g W)
       have d0:=iU M.1.1.ct.below ak.1.1;rw[J.1]at d0;obtain⟨bh,aE⟩:=iD w3;subst aE
      all_goals
       have dc:=iU M.1.1.ct.below ak.1.2.2.2.1;have dd:=iU M.1.1.ct.below db.1;have de:=ae (bo.1 r _ S bh da.1 cJ.1.2 (by rw[<-cJ.1.1];have D:=C.1;have A:=aD.1;rw[I.1]at A;simp only[au,ax,az]at A⊢;omega) M.1.1)
       as_aux_lemma=>
       go_upto_region 20 with(go_at_call 76;refine(de.1).mono ?_;rintro e df ⟨rfl,dg,cK,cL⟩;have bE:=ae (iJ cK (M.1.2.trans cL));clear cK cL)
       clear d0 dc dd;have dj:=ae (qR B b _ 61 df bE.1.1.nG (by have D:=C.1;have A:=aD.1;rw[I.1]at A;simp only[au,ax,az]at A⊢;omega) bE.1.1.oJ)
       as_aux_lemma=>
       go_upto_region 21 with(go_at_call 92;refine(dj.1).mono ?_;rintro e dk ⟨rfl,c,d,g⟩;have W:=bE.1.1.wrote c d g;have bL:=ae (iJ W.1 (bE.1.2.trans W.2));clear c d g W)
       have cz:=iU bL.1.1.ct.below ak.1.2.2.2.2;have b4:=iU bL.1.1.ct.below a6.1;have ci:=ae (bo.1 p _ dg dk ce.1 bg.1.2 (by rw[<-bg.1.1];have D:=C.1;have A:=aD.1;rw[I.1]at A;simp only[au,ax,az]at A⊢;omega) bL.1.1)
       as_aux_lemma=>
       go_wp2_with(go_at_call 76;refine(ci.1).mono ?_;rintro e c9 ⟨rfl,cj,bi,bj⟩;have bk:=ae (iJ bi (bL.1.2.trans bj));clear bi bj)
       go_roundw
       case rel=>exact⟨i+1,cj,by go_num,iE,by have h:=bk.1.1;rw[I.1];simp only[aX,bD,bP,dn]at h⊢;exact h,bk.1.2⟩
       case measure=>simp[intOf];omega
     ·obtain rfl:i=n.items.length:=iE
      have bA:=ae (qR B b _ a1 m s.1.1.nG (by have D:=C.1;simp only[au,ax,az];omega) s.1.1.oJ);rw[cI.1]at bA;clear aa
      as_aux_lemma=>
      go_wp2_with(go_at_call 92;refine(bA.1).mono ?_;rintro e w3 ⟨rfl,c,d,g⟩;have ap:=ae (s.1.1.wrote c d g);clear c d g)
      go_end0;refine⟨rfl,S,?_,((z.1.2.trans P.1.2).trans s.1.2).trans ap.1.2⟩;have h:=ap.1.1;rw[<-ar.1];simp only[aX]at h⊢;exact h
