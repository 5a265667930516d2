import Derived.Test.YthcalnnipjflkaaGreatDoorP13
open PLift renaming up -> ae
open Option renaming some -> af, none -> ah, map_eq_some_iff -> bz, getD_some -> dM
open List renaming getElem?_eq_getElem -> ag, getD_eq_getElem?_getD -> au, replicate -> ax, getElem_mem -> ay, take_succ_eq_append_getElem -> aK, length_append -> aO, range -> aY, length_cons -> aZ, foldl_append -> bC, take_length -> bG, getElem?_cons_zero -> bJ, length_replicate -> bP, getElem?_replicate -> di, mem_append -> dm, range_succ -> dw, flatMap_singleton -> dA, flatMap_append -> dG, nodup_append -> dI, getElem?_map -> dJ, flatMap_cons -> dK, not_mem_nil -> dN, length_take -> dO, length_set -> dP, map_set -> dW, range' -> eF
open Go.Lib renaming cell_of_heap -> aj, frozen_of_heap -> aH, byteCells -> aP, byteCells_length -> aU, IsBuilder -> aX, OthersKept -> dh, byteCells_append -> dE, alloc_old -> dF
open Bool renaming false -> az, true -> aV
open Int renaming eq_ofNat_of_zero_le -> aA, toNat_natCast -> aQ
open Go renaming bodyPost_ret -> aB, World -> aI, heap_alloc_new -> aJ, Value -> aW, Calls -> bH, run_make_row' -> bY, info_parts -> dD
open Go.Proofs.Tryz renaming prog -> aC, results91 -> bF, ntmps91 -> bI, func91 -> bK, ntmps75 -> bU, func75 -> bW, underlying36 -> bZ, underlying49 -> cZ, results93 -> dC, underlying157 -> dH, results92 -> dQ, results82 -> dR, results75 -> dU, ntmps92 -> dV, ntmps82 -> dX, ntmps93 -> dY, func92 -> dZ, func82 -> ed, func93 -> eu
open Go.RowKit renaming Below -> aN
open Array renaming replicate -> aS, getElem?_modify -> bQ
open Nat renaming not_lt_zero -> aT, zero_le -> bu, le_trans -> bD, le_refl -> dL
open Go.RowKit.Below renaming refl -> bn
open Go.Instr renaming makeSlice -> bT
open Go.World.ownsRow renaming alloc -> bV
open Option.some renaming injEq -> cu
open Go.Value renaming int -> dn, oneCell' -> dB
set_option linter.all false
set_option maxHeartbeats 4000000
set_option maxRecDepth 100000
namespace Go.Proofs.YthcalnnipjflkaaGreatDoor
open Go.RowKit
open Go.Lib hiding intOf
theorem wrap64_small {x:Int}(a:0<=x)(b:x<=1000000):wrap64 x=x:=by unfold wrap64;omega
theorem XX {n:Nat}{s:TS}(b:TJ n s)(hn:n<=4096)(a:Nat)(ha:a<n)(f:s.index.getD a 0=0):
  TJ n (lG a s)/\(lG a s).index.count 0+1=s.index.count 0/\(lG a s).index=s.index.set a (s.next+1)/\(lG a s).low=s.low.set a (s.next+1)/\(lG a s).stack=s.stack++[(a:Int)]/\0<=s.next:=by
 have hc:s.index.count 0<=n:=by rw[<-b.li];exact List.count_le_length
 have p:=b.nx;have q:=Lc s.index a (by rw[b.li];exact ha) f;have hw:wrap64 (s.next+1)=s.next+1:=wrap64_small iE iE;have c:(lG a s).index=s.index.set a (s.next+1):=by show s.index.set a (wrap64 (s.next+1))=_;rw[hw]
 have g:(lG a s).low=s.low.set a (s.next+1):=by show s.low.set a (wrap64 (s.next+1))=_;rw[hw]
 have j:=Ld s.index a (s.next+1) (by rw[b.li];exact ha) f iE;have i:(lG a s).next=s.next+1:=hw
 have l:(a:Int)∉s.stack:=λh=>by
  obtain⟨k,e,_,d⟩:=b.st _ h;have:a=k:=iE
  subst this;exact d f
 refine⟨⟨by rw[c,dP];exact b.li,by rw[g,dP];exact b.ll,b.ln,?_,?_,?_,?_,?_,?_⟩,by rw[c];exact j,c,g,rfl,iE⟩
 ·rw[i,c];omega
 ·show(s.stack++[(a:Int)]).Nodup
  rw[dI];refine⟨b.nd,iH,λx hx y hy e=>?_⟩;have:y=(a:Int):=by simpa using hy
  exact l (by rw[<-this,<-e];exact hx)
 ·intro x hx
  have m:x∈s.stack++[(a:Int)]:=hx;rcases dm.1 m with h|h
  ·obtain⟨k,e,d,o⟩:=b.st x h
   refine⟨k,e,d,?_⟩;rw[c,nH];split
   ·omega
   ·exact o
  ·refine⟨a,by simpa using h,ha,?_⟩
   rw[c,nH,gY ⟨rfl,by rw[b.li];exact ha⟩];omega
 ·intro k d hv
  rw[c,nH]at hv;by_cases e:a=k
  ·subst e;left;show(a:Int)∈s.stack++[(a:Int)];simp
  ·rw[gZ (λh=>e h.1)]at hv
   rcases b.out k d hv with h|h
   ·left;show(k:Int)∈s.stack++[(a:Int)];simp[h]
   ·exact .inr h
 ·intro k d hv
  rw[c,nH]at hv;rw[c,g,nH,nH];by_cases e:a=k
  ·rw[gY ⟨e,by rw[b.li];exact ha⟩,gY ⟨e,by rw[b.ll];exact ha⟩];omega
  ·rw[gZ (λh=>e h.1)]at hv
   rw[gZ (λh=>e h.1),gZ (λh=>e h.1)];exact b.pos k d hv
 ·have:=b.few
  rw[i];show(s.sizes.length:Int)+((s.stack++[(a:Int)]).length:Int)<=_;rw[aO];show(s.sizes.length:Int)+((s.stack.length+1:Nat):Int)<=_;omega
theorem XY {n:Nat}{s:TS}(b:TJ n s)(a:Nat)(P Q:List Int)(hs:s.stack=P++((a:Int)::Q)):
  ∃s',xH a s=af s'/\TJ n s'/\s'.index=s.index/\s'.low=s.low/\(∃X,s'.stack=P++X)/\(s.low.getD a 0=s.index.getD a 0->s'.stack=P):=by
 unfold xH;by_cases g:s.low.getD a 0=s.index.getD a 0
 ·rw[gY g]
  have i:=b.nd;rw[hs,dI]at i;have p:(a:Int)∉Q:=(List.nodup_cons.1 i.2.1).1
  obtain⟨t,sz,q,d,c,j,l,m,r,u⟩:=XW a (s.stack.length+1) Q s P 0 hs p (λx hx=>by
   obtain⟨k,e,_,_⟩:=b.st x (by rw[hs];simp[hx])
   omega) (by rw[hs];simp;omega)
  rw[q];refine⟨{t with sizes:=t.sizes++[sz]},rfl,⟨by show t.index.length=n;rw[c];exact b.li,by show t.low.length=n;rw[j];exact b.ll,by show t.inn.length=n;rw[r];exact b.ln,?_,?_,?_,?_,?_,?_⟩,c,j,⟨[],by show t.stack=_;rw[d,List.append_nil]⟩,λ_=>d⟩
  ·show t.next=(n:Int) - (t.index.count 0:Nat)
   rw[l,c];exact b.nx
  ·show t.stack.Nodup
   rw[d];exact i.1
  ·intro x hx
   have o:x∈t.stack:=hx;show ∃k:Nat,x=(k:Int)/\k<n/\t.index.getD k 0≠0;rw[c];exact b.st x (by rw[hs];rw[d]at o;simp[o])
  ·intro k f hv
   have v:s.index.getD k 0≠0:=(by rw[<-c];exact hv);show(k:Int)∈t.stack\/(0<=t.inn.getD k (-1)/\t.inn.getD k (-1)<((t.sizes++[sz]).length:Int));rw[d,aO,m];obtain⟨g1,g2⟩:=u k (by rw[b.ln];exact f);by_cases hm:(k:Int)∈(a:Int)::Q
   ·right;rw[g1 hm];show 0<=(s.sizes.length:Int)/\(s.sizes.length:Int)<((s.sizes.length+1:Nat):Int);omega
   ·rw[g2 hm]
    rcases b.out k f v with h|h
    ·left
     rw[hs]at h;rcases dm.1 h with h|h
     ·exact h
     ·exact absurd h hm
    ·right;show _/\_<((s.sizes.length+1:Nat):Int);omega
  ·intro k f hv
   show 1<=t.index.getD k 0/\1<=t.low.getD k 0;rw[c,j];exact b.pos k f (by rw[<-c];exact hv)
  ·show((t.sizes++[sz]).length:Int)+(t.stack.length:Int)<=t.next
   rw[m,d,l,aO];have:=b.few;rw[hs,aO,aZ]at this;show((s.sizes.length+1:Nat):Int)+_<=_;omega
 ·rw[gZ g]
  exact⟨s,rfl,b,rfl,rfl,⟨_,hs⟩,λh=>absurd h g⟩
theorem Le (N:List Nd)(hR:nN N)(hn:N.length<=4096):∀f,FK N N.length f
 |0=>λa s g ha j hf=>by have:=Lc s.index a (by rw[g.li];exact ha) j;omega
 |f+1=>λa s g ha j hf=>by
  obtain⟨B,P,m,q,C,Q⟩:=XX g hn a ha j;have r:(lG a s).index.getD a 0=s.next+1:=by rw[m,nH,gY ⟨rfl,by rw[g.li];exact ha⟩]
  have R:(lG a s).low.getD a 0=s.next+1:=by rw[q,nH,gY ⟨rfl,by rw[g.ll];exact ha⟩]
  have n:(lG a s).index.getD a 0≠0:=by rw[r];omega
  have t:N.getD a nd0=N[a]:=by rw[au,ag ha,dM]
  have u:=hR N[a] (ay ha);have v:=Le N hR hn f;obtain⟨w,e1,D,o,E,S⟩:=FM v a ha (N.getD a nd0).keys (lG a s) (by rw[t];exact u.1) B n iE;obtain⟨y,F,G,z,H,T⟩:=FM v a ha (N.getD a nd0).items w (by rw[t];exact u.2) D (o.vis n) (bD o.cnt iE);have c:=o.trans z;obtain⟨X,I⟩:=c.stk;have J:y.stack=s.stack++((a:Int)::X):=by rw[I,C,List.append_assoc];rfl
  obtain⟨K,e3,L,l,p,M,O⟩:=XY G a s.stack X J;have A:y.index.getD a 0=s.next+1:=by rw[c.idx a n,r]
  have i:∀k,s.index.getD k 0≠0->(lG a s).index.getD k 0=s.index.getD k 0/\(lG a s).low.getD k 0=s.low.getD k 0/\k≠a:=λk b=>by
   have d:k≠a:=λe=>b (by rw[e];exact j)
   rw[m,q,nH,nH,gZ (λh=>d h.1.symm),gZ (λh=>d h.1.symm)];exact⟨rfl,rfl,d⟩
  refine⟨K,?_,L,⟨M,λk b=>?_,λk _ b=>?_,?_,λk b=>?_⟩,by rw[l,A],?_,λh=>?_⟩
  ·show(nJ (mg N f) a (N.getD a nd0).keys (lG a s)).bind _=_
   rw[e1];show(nJ (mg N f) a (N.getD a nd0).items w).bind _=_;rw[F];exact e3
  ·rw[l,c.idx k (by rw[(i k b).1];exact b),(i k b).1]
  ·rw[p,c.low k (by simp[(i k b).2.2]) (by rw[(i k b).1];exact b),(i k b).2.1]
  ·rw[l]
   have:=c.cnt;omega
  ·rw[l]at b⊢
   by_cases d:k=a
   ·subst d
    right
    intro x hx;rcases dm.1 hx with h|h
    ·exact z.vis (E x h)
    ·exact H x h
   ·rcases c.cls k b with h|h
    ·left
     rw[m,nH,gZ (λh=>d h.1.symm)]at h;exact h
    ·exact .inr h
  ·rw[p]
   omega
  ·rw[p]at h
   exact O (by rw[h,A])
theorem Lh (N:List Nd)(V:Nat->Prop)(hc:∀k,V k->∀x∈(N.getD k nd0).keys++(N.getD k nd0).items,V x.toNat):∀(f a:Nat) (M:List Bool),V a->(∀k,M.getD k az=aV->V k)->∀k,(jR N f a M).getD k az=aV->V k
 |0,_,M,_,b=>b
 |f+1,a,M,ha,b=>by
  have d:∀(l:List Int) (M:List Bool),(∀x∈l,V x.toNat)->(∀k,M.getD k az=aV->V k)->∀k,(l.foldl (λM x=>jR N f x.toNat M) M).getD k az=aV->V k:=by
   intro l
   induction l with
   |nil=>intro M _ b;exact b
   |cons x l g=>intro M e b;rw[List.foldl_cons];exact g _ (λy hy=>e y (List.mem_cons_of_mem _ hy)) (Lh N V hc f x.toNat M (e x (List.mem_cons_self ..)) b)
  show ∀k,(if M.getD a az then M else _).getD k az=aV->V k;split
  ·exact b
  ·refine d _ _ (λx hx=>hc a ha x (List.mem_append_right _ hx)) (d _ _ (λx hx=>hc a ha x (List.mem_append_left _ hx)) ?_)
   intro k c;rw[nH]at c;split at c
   ·rename_i h;rw[<-h.1];exact ha
   ·exact b k c
theorem Lj (N:List Nd)(root:Nat)(hR:nN N)(hn:N.length<=4096)(d:root<N.length)(j:∀i,i<N.length->(jR N (N.length+1) root (ax N.length az)).getD i az=aV):
  ∃inn sizes,uM N root=af (inn,sizes)/\(∀x∈inn,0<=x/\x<(sizes.length:Int))/\sizes.length<=4096:=by
 have c:∀k,(ax N.length (0:Int)).getD k 0=0:=λk=>by rw[au,di];split<;>rfl
 have l:TJ N.length ⟨0,ax N.length 0,ax N.length 0,ax N.length (-1),ax N.length az,[],[]⟩:=
  ⟨bP,bP,bP,iH,List.nodup_nil,λ_ h=>(dN h).elim,λk _ h=>absurd (c k) h,λk _ h=>absurd (c k) h,iH⟩
 obtain⟨s,e,a,m,n,o,p⟩:=Le N hR hn (N.length+1) root _ l d (c root) iH;have f:s.index.getD root 0≠0:=by rw[n];show(0:Int)+1≠0;decide
 have t:=(a.pos root d f).2;have q:s.stack=[]:=p (by show _=(0:Int)+1;have:s.low.getD root 0<=0+1:=o;omega)
 have r:∀i,i<N.length->s.index.getD i 0≠0:=λi hi=>
  Lh N (λk=>s.index.getD k 0≠0) (λk b=>by
   rcases m.cls k b with h|h
   ·exact absurd (c k) h
   ·exact h) _ root _ f (λk b=>by rw[au,di]at b;split at b<;>simp at b) i (j i hi)
 refine⟨s.inn,s.sizes,by unfold uM;rw[e];rfl,λx hx=>?_,?_⟩
 ·obtain⟨i,hi,rfl⟩:=List.getElem_of_mem hx
  have g:i<N.length:=by rw[<-a.ln];exact hi
  rcases a.out i g (r i g)with h|h
  ·rw[q]at h;exact(dN h).elim
  ·rw[au,ag hi,dM]at h
   exact h
 ·have:=a.few
  have:=a.nx;omega
theorem Kq:(Tryz.prog.info? 36).map (λi=>(i.zero,i.size,i.bytes))=af (af (.slice ah 0 0),1,24):=iF
theorem Kr (w:aI)(v:aW)(root:Nat)(N:List Nd)(inn sizes:List Int)(bt:jJ w v N)(hR:nN N)(hn:N.length<=4096)(bv:root<N.length)(hc:uM N root=af (inn,sizes))(bw:∀x∈inn,0<=x/\x<(sizes.length:Int))(c7:sizes.length<=4096):
  bH aC 107 #[.agg #[v,.int .i64 root]] w λe w'=>e=.returned (.tuple #[.int .i64 (uS N root inn sizes).1,.bool (uS N root inn sizes).2])/\aN w.heap.size w w':=by
 have a6:=ae bt;have cs:=ae hR;have aD:=ae bw;have bx:=ae (λ(w':aI) (ct:jJ w' v N)=>VD w' v root N inn sizes ct hR hn bv hc);obtain⟨va,vc,rfl,c8,cv⟩:=bt;have bA:jJ (w.alloc (.cells #[.slice va N.length vc,.int .i64 root] 117)) (.slice va N.length vc) N:=a6.1.below (iW w _);have cw:PLift ((w.alloc (.cells #[.slice va N.length vc,.int .i64 root] 117)).heap[w.heap.size]?=af (.cells #[.slice va N.length vc,.int .i64 root] 117)):=⟨aJ w _⟩;have cx:=ae (bx.1 _ bA);clear cv hR hc bw bA bx
 as_aux_lemma=>
 go_enter Tryz.func107,Tryz.ntmps107
 as_aux_lemma=>
 go_wp2_with(go_at_call 122;refine(cx.1).mono ?_;rintro e f ⟨aE,base,c9,rfl,bB,cy,cz,r,bE,a7⟩;obtain⟨da,db,rfl⟩:=mW a7;have bL:=ae bB;have aF:=ae bE;have cA:=ae a7;have ac:=ae r;clear bB bE a7 cy cz r)
 have cB:(w.alloc (.cells #[.slice va N.length vc,.int .i64 root] 117)).heap.size=w.heap.size+1:=jl _ _;have I:PLift (aN w.heap.size w f):=⟨(iW w _).trans (bL.1.mono iE)⟩;have aG:PLift (f.heap[w.heap.size]?=af (.cells #[.slice va N.length vc,.int .i64 root] 117)):=⟨by rw[bL.1.block _ iE];exact cw.1⟩;have dc:=ae (a6.1.below I.1)
 have dd:∀C:aI,(bT 36 (.int .i64 (sizes.length:Int)) (.int .i64 (sizes.length:Int))).run aC C=.ok (.slice (af ⟨C.heap.size,0,ah⟩) sizes.length sizes.length) (C.alloc (.cells (aS sizes.length (.int .i64 0)) 3)):=λC=>by rw[bY 36 3 (.int .i64 0) 8 bZ su rfl .i64 .i64 sizes.length iE iE C,sD]
 have de:∀C:aI,(bT 157 (.int .i64 (sizes.length:Int)) (.int .i64 (sizes.length:Int))).run aC C=.ok (.slice (af ⟨C.heap.size,0,ah⟩) sizes.length sizes.length) (C.alloc (.cells (aS sizes.length (.slice ah 0 0)) 36)):=λC=>by rw[bY 157 36 (.slice ah 0 0) 24 dH Kq rfl .i64 .i64 sizes.length iE iE C,sD]
 clear cB
 as_aux_lemma=>
 go_wp2;go_simp;go_wp2;go_simp;go_wp2
 go_loopw [31] (λB wr=>∃(j:Nat) (M:List (List Int)) (J:List aW),B=.int .i64 j/\j<=N.length/\M=(aY j).foldl (Ag inn) (ax sizes.length [])/\Fb j M/\DW f f.heap.size sizes.length M J (ax sizes.length 0) wr) (λB _=>N.length - (intOf B).toNat)
 case atStart=>exact⟨0,_,_,rfl,bu _,rfl,(λL P=>by rw[(List.mem_replicate.1 P).2];exact⟨dL _,λx hx=>by cases hx⟩),VE f sizes.length⟩
 case round=>
  as_aux_lemma=>
  obtain⟨j,M,J,rfl,df,bM,bN,bO⟩:=hrel;have bR:=ae bM;have aL:=ae bN;have s:=ae bO;clear bM bN bO;by_cases cC:j<N.length
  ·have dg:(j:Int)<(N.length:Int):=iE
   have a8:j<inn.length:=(by rw[ac.1];exact cC);have Q:wr.cell? ⟨aE,j,ah⟩=af (.int .i64 (inn.getD j 0)):=iU s.1.below (kJ aF.1 a8);have K:=aD.1 (inn.getD j 0) (by rw[au,ag a8];exact ay a8);have aM:PLift (Ag inn M j=M.set (inn.getD j 0).toNat (M.getD (inn.getD j 0).toNat []++[(j:Int)])):=⟨rfl⟩;generalize inn.getD j 0=x at Q K aM;obtain⟨c,rfl⟩:=aA K.1;have h:c<sizes.length:=(by have:=K.2;omega);have cD:(c:Int)<(sizes.length:Int):=K.2;simp only[aQ]at aM;have G:=s.1.rows c h;obtain⟨A,ad,hv⟩:=mW G;rw[hv]at G;have R:=ae hv
   have a9:wr.cell? ⟨f.heap.size+1,c,ah⟩=af (.slice A (M.getD c []).length ad):=by rw[aj s.1.mrow,<-hv,au,ag (by rw[s.1.vl];exact h)];simp[s.1.vl,h]
   have ba:PLift ((M.getD c []).length<=4096):=by refine⟨?_⟩;rw[au,ag (by rw[s.1.ml];exact h)];have:=(aL.1 _ (ay (by rw[s.1.ml];exact h))).1;exact bD this iE
   obtain⟨L,P⟩:=iC (M.getD c []);rw[P]at G a9 aM ba R;have bS:=ae (bV G (.cells #[.int .i64 j] 3));have cE:PLift (f.heap.size+2<=(wr.alloc (.cells #[.int .i64 j] 3)).heap.size):=⟨by rw[jl];have:=block_lt s.1.mrow;omega⟩;have cF:PLift ((wr.alloc (.cells #[.int .i64 j] 3)).cell? ⟨wr.heap.size,0,ah⟩=af (.int .i64 j)):=⟨(aj (aJ wr _) 0).trans rfl⟩;obtain⟨cG,bX,b0,b1,b2⟩:=dD su;have aR:=ae (iJ bX (iJ b0 (iJ b1 b2)));clear G hv P K bX b0 b1 b2
   as_aux_lemma=>
   go_wp2_with(refine wG _ rfl _ _ 36 rfl (f.heap.size+2) 3 cG (.int .i64 0) 1 8 bZ aR.1.1 aR.1.2.1 aR.1.2.2.1 aR.1.2.2.2 rfl iG (.slice A L.length ad) L.length (L.map (dn .i64)) rfl bS.1 ⟨wr.heap.size,0,ah⟩ 1 1 [.int .i64 j] rfl rfl (by intro j2 u ab;match j2,ab with|0,ab=>simp only[bJ,cu]at ab;subst ab;exact cF.1|j2+1,ab=>simp at ab) (by simp[dB]) iG (by have:=ba.1;unfold maxLen;omega) (by have:=ba.1;omega) cE.1 ?_)
   intro v' a0 bb bc b3;have b4:∀k,v'.ownBlock=af k->(J.getD c jr).ownBlock=af k\/(wr.alloc (.cells #[.int .i64 j] 3)).heap.size<=k:=λk b5=>by rw[jl,R.1];exact b3 k b5
   have ai:=ae ((s.1.alloc (.cells #[.int .i64 j] 3)).push h (L++[(j:Int)]) v' a0 (by rw[R.1];exact bc) (by simpa using bb) b4)
   have bd:a0.heap[f.heap.size+1]?=af (.cells J.toArray 36):=by rw[bc.block _ (block_lt (s.1.alloc (.cells #[.int .i64 j] 3)).mrow) (λe=>by have:=(bS.1.lt _ e.symm).1;omega)];exact(s.1.alloc (.cells #[.int .i64 j] 3)).mrow
   have dj:a0.cell? ⟨f.heap.size+1,c,ah⟩=af (.slice A L.length ad):=by rw[aj bd,<-R.1,au,ag (by rw[s.1.vl];exact h)];simp[s.1.vl,h]
   have dk:∀o,a0.frozen? ⟨f.heap.size+1,o,ah⟩=az:=λo=>aH bd o
   obtain⟨dl,dp,cH⟩:=mW bb;subst cH;clear bb bc b3 b4 bd
   as_aux_lemma=>
   go_wp2;go_roundw
   case rel=>exact⟨j+1,_,_,by go_num,iE,by rw[dw,bC,<-bR.1];rfl,VF aL.1,by rw[aM.1];exact ai.1⟩
   case measure=>simp[intOf];omega
  ·obtain rfl:j=N.length:=iE
   as_aux_lemma=>
   have cI:PLift (M=E8 inn sizes.length):=⟨by rw[bR.1];unfold E8;rw[ac.1]⟩
   as_aux_lemma=>
   go_wp2
   go_loopw [6,49] (λO be wr=>∃(c:Nat) (st:List Int×Bool),be=.int .i64 c/\c<=sizes.length/\O=.bool st.2 /\st=(aY c).foldl (Ah N inn M sizes) (ax sizes.length 0,aV)/\DW f f.heap.size sizes.length M J st.1 wr) (λ_ be _=>sizes.length - (intOf be).toNat)
   case atStart=>exact⟨0,(ax sizes.length 0,aV),rfl,bu _,rfl,rfl,s.1⟩
   case round=>
    as_aux_lemma=>
    obtain⟨c,D,rfl,hc,rfl,b6,b7⟩:=hrel;have b8:=ae b6;have t:=ae b7;clear b6 b7;by_cases h:c<sizes.length
    ·have cD:(c:Int)<(sizes.length:Int):=iE
     obtain⟨A,ad,hv⟩:=mW (t.1.rows c h);have R:=ae hv
     have a9:wr.cell? ⟨f.heap.size+1,c,ah⟩=af (.slice A (M.getD c []).length ad):=by rw[aj t.1.mrow,<-hv,au,ag (by rw[t.1.vl];exact h)];simp[t.1.vl,h]
     have b9:PLift (∀x∈M.getD c [],0<=x/\x<(N.length:Int)):=by refine⟨?_⟩;rw[au,ag (by rw[t.1.ml];exact h)];exact(aL.1 _ (ay (by rw[t.1.ml];exact h))).2
     have cJ:(M.getD c []).length<=4096:=by rw[au,ag (by rw[t.1.ml];exact h)];have:=(aL.1 _ (ay (by rw[t.1.ml];exact h))).1;exact bD this iE
     obtain⟨L,P⟩:=iC (M.getD c []);have ca:=ae P;rw[P]at a9 b9 R cJ;clear hv P
     as_aux_lemma=>
     go_wp2
     go_loopw [6,57] (λO a1 wr=>∃(k:Nat) (st:List Int×Bool),a1=.int .i64 k/\k<=L.length/\O=.bool st.2 /\st=(L.take k).foldl (xI N inn c) D/\DW f f.heap.size sizes.length M J st.1 wr) (λ_ a1 _=>L.length - (intOf a1).toNat)
     case atStart=>exact⟨0,D,rfl,bu _,rfl,rfl,t.1⟩
     case round=>
      as_aux_lemma=>
      obtain⟨k,m,rfl,b5,rfl,cb,cc⟩:=hrel;have cd:=ae cb;have H:=ae cc;clear cb cc;by_cases bf:k<L.length
      ·have dq:(k:Int)<(L.length:Int):=iE
       have G:=H.1.rows c h;rw[R.1,ca.1]at G;obtain⟨g,dr,cK,-⟩:=EY G iE;injection cK with hA _ bg;subst hA bg;have cL:wr.cell? ⟨g,k,ah⟩=af (.int .i64 L[k]):=EZ G (by rw[dJ,ag bf];rfl);have hx:=b9.1 L[k] (ay bf);have ce:PLift ((L.take (k+1)).foldl (xI N inn c) D=xI N inn c m L[k]):=⟨by rw[aK bf,bC,<-cd.1];rfl⟩;generalize L[k]=x at cL hx ce;obtain⟨a,rfl⟩:=aA hx.1;have ha:a<N.length:=(by have:=hx.2;omega);have ds:(a:Int)<(N.length:Int):=hx.2;have cM:=a6.1;obtain⟨dt,du,cN,cO,cP⟩:=cM;injection cN with e1 _ e3;subst e1 e3;rcases cP with ak|⟨b,o,rfl,cf⟩
       ·exfalso;rw[ak]at ha;exact aT _ ha
       have cg:=cf a N[a] (ag ha);have K:=cs.1 N[a] (ay ha)
       have ch:PLift ((L.take (k+1)).foldl (xI N inn c) D=N[a].items.foldl (mX inn c) (N[a].keys.foldl (mX inn c) m)):=by refine⟨?_⟩;rw[ce.1];unfold xI;simp only[aQ];rw[show N.getD a nd0=N[a]from by rw[au,ag ha];rfl]
       generalize N[a]=n at cg K ch;have ci:=ae K;have bh:=I.1.trans (H.1.below.mono I.1.size);obtain⟨a1,B,cQ,cR,cS,cj,ck,a2,a3⟩:=cg;obtain⟨S,T,rfl,dv,a2⟩:=a2;obtain⟨U,V,rfl,dx,a3⟩:=a3;have cT:=ae a2;have cU:=ae a3;have dy:=iU bh cj;have dz:=iU bh ck
       have dS:wr.cell? ⟨w.heap.size,0,ah⟩=af (.slice (af ⟨b,o,ah⟩) N.length vc):=by rw[World.cell?_of_block (H.1.below.block _ (block_lt aG.1)),aj aG.1];rfl
       clear cf K bh cQ cR cS cj ck a2 a3 hx G cO
       as_aux_lemma=>
       go_upto_region 16 with fail
       go_region;obtain⟨E,cl⟩:=iC wr.heap.size;have cm:PLift (f.heap.size<E):=⟨by rw[<-cl];exact block_lt H.1.mY⟩;have cV:=ae ((H.1.drew).alloc (.cells #[.slice S n.keys.length T,.slice U n.items.length V] 36));have cW:PLift ((wr.drew.alloc (.cells #[.slice S n.keys.length T,.slice U n.items.length V] 36)).heap[E]?=af (.cells #[.slice S n.keys.length T,.slice U n.items.length V] 36)):=⟨by rw[<-cl];exact aJ wr.drew _⟩
       as_aux_lemma=>
       go_wp2
       go_loopw [6,75] (λO al wr=>∃st:List Int×Bool,O=.bool st.2 /\((al=.int .i64 0/\st=m)\/(al=.int .i64 1/\st=n.keys.foldl (mX inn c) m)\/(al=.int .i64 2/\st=n.items.foldl (mX inn c) (n.keys.foldl (mX inn c) m)))/\DW f f.heap.size sizes.length M J st.1 wr/\wr.heap[E]?=af (.cells #[.slice S n.keys.length T,.slice U n.items.length V] 36)) (λ_ al _=>2 - (intOf al).toNat)
       case atStart=>exact⟨_,rfl,.inl ⟨rfl,rfl⟩,cV.1,cW.1⟩
       case round=>
        as_aux_lemma=>
        obtain⟨dT,rfl,cX,cn,a4⟩:=hrel;have d0:=iK a4 0 (.slice S n.keys.length T);have d1:=iK a4 1 (.slice U n.items.length V);have ai:=ae cn;have co:=ae a4;clear cn a4;rcases cX with⟨rfl,bi⟩|⟨rfl,rfl⟩|⟨rfl,rfl⟩
        ·have bi:=bi.symm
         subst bi
         as_aux_lemma=>
         go_wp2
         go_loopw [6,81] (λO B wr=>∃(i:Nat) (st:List Int×Bool),B=.int .i64 i/\i<=n.keys.length/\O=.bool st.2 /\st=(n.keys.take i).foldl (mX inn c) m/\DW f f.heap.size sizes.length M J st.1 wr/\wr.heap[E]?=af (.cells #[.slice S n.keys.length T,.slice U n.items.length V] 36)) (λ_ B _=>n.keys.length - (intOf B).toNat)
         case atStart=>exact⟨0,_,rfl,bu _,rfl,rfl,ai.1,co.1⟩
         case round=>
          as_aux_lemma=>
          obtain⟨i,d,rfl,hi,rfl,am,an,ao⟩:=hrel;have ap:=ae am;have l:=ae an;have W:=ae ao;clear am an ao;by_cases r:i<n.keys.length
          ·have cY:(i:Int)<(n.keys.length:Int):=iE
           have hx:=ci.1.1 n.keys[i] (ay r);rcases cT.1 with ak|⟨c0,lo,rfl,X⟩
           ·exfalso;rw[ak]at r;exact aT _ r
           have bj:=iU (I.1.trans (l.1.below.mono I.1.size)) (X i n.keys[i] (ag r));have Y:PLift ((n.keys.take (i+1)).foldl (mX inn c) m=mX inn c d n.keys[i]):=⟨by rw[aK r,bC,<-ap.1];rfl⟩;generalize n.keys[i]=x at hx bj Y;obtain⟨q,rfl⟩:=aA hx.1;have bk:q<N.length:=(by have:=hx.2;omega);have c1:(q:Int)<(N.length:Int):=hx.2;have Z:q<inn.length:=(by rw[ac.1];exact bk);have Q:wr.cell? ⟨aE,q,ah⟩=af (.int .i64 (inn.getD q 0)):=iU l.1.below (kJ aF.1 Z);have hy:=aD.1 (inn.getD q 0) (by rw[au,ag Z];exact ay Z);have p:PLift (mX inn c d (q:Int)=if inn.getD q 0=(c:Int)then(d.1,az)else(d.1.set c (max (d.1.getD c 0) (d.1.getD (inn.getD q 0).toNat 0)),d.2)):=⟨rfl⟩;generalize inn.getD q 0=cp at Q hy p;obtain⟨y,rfl⟩:=aA hy.1;have aq:y<sizes.length:=(by have:=hy.2;omega);have cq:(y:Int)<(sizes.length:Int):=hy.2;simp only[aQ]at p;have c2:=ae X;clear X hx hy;by_cases z:(y:Int)=(c:Int)
           ·have bm:((y:Int)==(c:Int))=aV:=by simpa using z
            rw[gY z]at p;clear z
            as_aux_lemma=>
            go_wp2;go_roundw
            case rel=>exact⟨i+1,(d.1,az),by go_num,iE,rfl,by rw[Y.1,p.1],l.1,W.1⟩
            case measure=>simp[intOf];omega
           ·have bm:((y:Int)==(c:Int))=az:=by simpa using z
            rw[gZ z]at p;have ar:wr.cell? ⟨f.heap.size,c,ah⟩=af (.int .i64 (d.1.getD c 0)):=kJ l.1.mY (by rw[l.1.bl];exact h);have av:wr.cell? ⟨f.heap.size,y,ah⟩=af (.int .i64 (d.1.getD y 0)):=kJ l.1.mY (by rw[l.1.bl];exact aq);have cr:∀o,wr.frozen? ⟨f.heap.size,o,ah⟩=az:=λo=>aH l.1.mY o
            have F:=ae ((l.1.setB c (max (d.1.getD c 0) (d.1.getD y 0))).drew);generalize d.1.getD c 0=aw at ar F p;generalize d.1.getD y 0=aa at av F p;clear z
            as_aux_lemma=>
            go_upto_region 24 with fail
            go_region;go_wp2;go_roundw
            case rel=>exact⟨i+1,(d.1.set c (max aw aa),d.2),by go_num,iE,rfl,by rw[Y.1,p.1],F.1,by show(wr.setCell _ _).heap[E]?=_;rw[jm _ (by have:=cm.1;omega)];exact W.1⟩
            case measure=>simp[intOf];omega
          ·obtain rfl:i=n.keys.length:=iE
           have bo:PLift (d=n.keys.foldl (mX inn c) m):=⟨by rw[ap.1,bG]⟩
           as_aux_lemma=>
           go_wp2;go_roundw
           case rel=>exact⟨d,rfl,.inr (.inl ⟨rfl,bo.1⟩),l.1,W.1⟩
           case measure=>decide
        ·as_aux_lemma=>
         go_wp2
         go_loopw [6,81] (λO B wr=>∃(i:Nat) (st:List Int×Bool),B=.int .i64 i/\i<=n.items.length/\O=.bool st.2 /\st=(n.items.take i).foldl (mX inn c) (n.keys.foldl (mX inn c) m)/\DW f f.heap.size sizes.length M J st.1 wr/\wr.heap[E]?=af (.cells #[.slice S n.keys.length T,.slice U n.items.length V] 36)) (λ_ B _=>n.items.length - (intOf B).toNat)
         case atStart=>exact⟨0,_,rfl,bu _,rfl,rfl,ai.1,co.1⟩
         case round=>
          as_aux_lemma=>
          obtain⟨i,d,rfl,hi,rfl,am,an,ao⟩:=hrel;have ap:=ae am;have l:=ae an;have W:=ae ao;clear am an ao;by_cases r:i<n.items.length
          ·have cY:(i:Int)<(n.items.length:Int):=iE
           have hx:=ci.1.2 n.items[i] (ay r);rcases cU.1 with ak|⟨c0,lo,rfl,X⟩
           ·exfalso;rw[ak]at r;exact aT _ r
           have bj:=iU (I.1.trans (l.1.below.mono I.1.size)) (X i n.items[i] (ag r));have Y:PLift ((n.items.take (i+1)).foldl (mX inn c) (n.keys.foldl (mX inn c) m)=mX inn c d n.items[i]):=⟨by rw[aK r,bC,<-ap.1];rfl⟩;generalize n.items[i]=x at hx bj Y;obtain⟨q,rfl⟩:=aA hx.1;have bk:q<N.length:=(by have:=hx.2;omega);have c1:(q:Int)<(N.length:Int):=hx.2;have Z:q<inn.length:=(by rw[ac.1];exact bk);have Q:wr.cell? ⟨aE,q,ah⟩=af (.int .i64 (inn.getD q 0)):=iU l.1.below (kJ aF.1 Z);have hy:=aD.1 (inn.getD q 0) (by rw[au,ag Z];exact ay Z);have p:PLift (mX inn c d (q:Int)=if inn.getD q 0=(c:Int)then(d.1,az)else(d.1.set c (max (d.1.getD c 0) (d.1.getD (inn.getD q 0).toNat 0)),d.2)):=⟨rfl⟩;generalize inn.getD q 0=cp at Q hy p;obtain⟨y,rfl⟩:=aA hy.1;have aq:y<sizes.length:=(by have:=hy.2;omega);have cq:(y:Int)<(sizes.length:Int):=hy.2;simp only[aQ]at p;have c2:=ae X;clear X hx hy;by_cases z:(y:Int)=(c:Int)
           ·have bm:((y:Int)==(c:Int))=aV:=by simpa using z
            rw[gY z]at p;clear z
            as_aux_lemma=>
            go_wp2;go_roundw
            case rel=>exact⟨i+1,(d.1,az),by go_num,iE,rfl,by rw[Y.1,p.1],l.1,W.1⟩
            case measure=>simp[intOf];omega
           ·have bm:((y:Int)==(c:Int))=az:=by simpa using z
            rw[gZ z]at p;have ar:wr.cell? ⟨f.heap.size,c,ah⟩=af (.int .i64 (d.1.getD c 0)):=kJ l.1.mY (by rw[l.1.bl];exact h);have av:wr.cell? ⟨f.heap.size,y,ah⟩=af (.int .i64 (d.1.getD y 0)):=kJ l.1.mY (by rw[l.1.bl];exact aq);have cr:∀o,wr.frozen? ⟨f.heap.size,o,ah⟩=az:=λo=>aH l.1.mY o
            have F:=ae ((l.1.setB c (max (d.1.getD c 0) (d.1.getD y 0))).drew);generalize d.1.getD c 0=aw at ar F p;generalize d.1.getD y 0=aa at av F p;clear z
            as_aux_lemma=>
            go_upto_region 24 with fail
            go_region;go_wp2;go_roundw
            case rel=>exact⟨i+1,(d.1.set c (max aw aa),d.2),by go_num,iE,rfl,by rw[Y.1,p.1],F.1,by show(wr.setCell _ _).heap[E]?=_;rw[jm _ (by have:=cm.1;omega)];exact W.1⟩
            case measure=>simp[intOf];omega
          ·obtain rfl:i=n.items.length:=iE
           have bo:PLift (d=n.items.foldl (mX inn c) (n.keys.foldl (mX inn c) m)):=⟨by rw[ap.1,bG]⟩
           as_aux_lemma=>
           go_wp2;go_roundw
           case rel=>exact⟨d,rfl,.inr (.inr ⟨rfl,bo.1⟩),l.1,W.1⟩
           case measure=>decide
        ·as_aux_lemma=>
         go_wp2;go_roundw
         case rel=>exact⟨k+1,_,by go_num,iE,rfl,ch.1.symm,ai.1⟩
         case measure=>simp[intOf];omega
      ·obtain rfl:k=L.length:=iE
       have c3:PLift (m=L.foldl (xI N inn c) D):=⟨by rw[cd.1,bG]⟩;have bp:=cA.1;obtain⟨c4,d2,c5,-⟩:=EY bp iE;injection c5 with hA _ bg;subst hA bg;have bq:f.cell? ⟨c4,c,ah⟩=af (.int .i64 (sizes.getD c 0)):=EZ bp (by rw[dJ,ag h,au,ag h];rfl);have c6:=iU H.1.below bq;have ar:wr.cell? ⟨f.heap.size,c,ah⟩=af (.int .i64 (m.1.getD c 0)):=kJ H.1.mY (by rw[H.1.bl];exact h);have cr:∀o,wr.frozen? ⟨f.heap.size,o,ah⟩=az:=λo=>aH H.1.mY o
       have F:=ae ((H.1.setB c (wrap64 (m.1.getD c 0+sizes.getD c 0))).drew)
       have br:PLift ((aY (c+1)).foldl (Ah N inn M sizes) (ax sizes.length 0,aV)=(m.1.set c (wrap64 (m.1.getD c 0+sizes.getD c 0)),m.2)):=by refine⟨?_⟩;rw[dw,bC,<-b8.1];show Ah N inn M sizes D c=_;unfold Ah;rw[ca.1,<-c3.1]
       generalize m.1.getD c 0=aw at ar F br;generalize sizes.getD c 0=aa at bq c6 F br;clear bq bp
       as_aux_lemma=>
       go_upto_region 28 with fail
       go_region;go_wp2;go_roundw
       case rel=>exact⟨c+1,(m.1.set c (wrap64 (aw+aa)),m.2),by go_num,iE,rfl,br.1.symm,F.1⟩
       case measure=>simp[intOf];omega
    ·obtain rfl:c=sizes.length:=iE
     have bs:root<inn.length:=(by rw[ac.1];exact bv);have Q:wr.cell? ⟨aE,root,ah⟩=af (.int .i64 (inn.getD root 0)):=iU t.1.below (kJ aF.1 bs);have hy:=aD.1 (inn.getD root 0) (by rw[au,ag bs];exact ay bs);have a5:PLift (uS N root inn sizes=(wrap64 (D.1.getD (inn.getD root 0).toNat 0 - 1),D.2)):=⟨by unfold uS;rw[<-cI.1,<-b8.1]⟩;generalize inn.getD root 0=cp at Q hy a5;obtain⟨y,rfl⟩:=aA hy.1;have aq:y<sizes.length:=(by have:=hy.2;omega);have cq:(y:Int)<(sizes.length:Int):=hy.2;simp only[aQ]at a5;have av:wr.cell? ⟨f.heap.size,y,ah⟩=af (.int .i64 (D.1.getD y 0)):=kJ t.1.mY (by rw[t.1.bl];exact aq)
     have d3:wr.cell? ⟨w.heap.size,1,ah⟩=af (.int .i64 root):=by rw[World.cell?_of_block (t.1.below.block _ (block_lt aG.1)),aj aG.1];rfl
     generalize D.1.getD y 0=aa at av a5;clear hy
     as_aux_lemma=>
     go_wp2;refine aB (v:=.tuple #[.int .i64 (wrap64 (aa - 1)),.bool D.2]) (by simp only[results,Tryz.results107];go_simp) rfl ?_;exact⟨by rw[a5.1],I.1.trans (t.1.below.mono I.1.size)⟩
structure TabAt (w:aI)(b r:Nat)(v:aW)(root:Int)(n:Nat)(E:List aW):Prop where
 box:w.heap[b]?=af (.cells #[v,.int .i64 root,.slice (af ⟨r,0,ah⟩) n n] 159)
 row:w.heap[r]?=af (.cells E.toArray 36)
 len:E.length=n
 ne:b≠r
theorem Wn (w:aI)(v:aW)(root:Int)(N:List Nd)(k:jJ w v N)(hn:N.length<=4096):
  bH aC 74 #[.agg #[v,.int .i64 root]] w λe w'=>e=.returned (.pointer (af ⟨w.heap.size+1+1,0,ah⟩))/\aN w.heap.size w w'/\TabAt w' (w.heap.size+1+1) (w.heap.size+1) v root N.length (ax N.length (.slice ah 0 0)):=by
 obtain⟨va,vc,rfl,p,l⟩:=k;clear l
 have q:∀a:aI,(bT 157 (.int .i64 (N.length:Int)) (.int .i64 (N.length:Int))).run aC a=.ok (.slice (af ⟨a.heap.size,0,ah⟩) N.length N.length) (a.alloc (.cells (aS N.length (.slice ah 0 0)) 36)):=λa=>by rw[bY 157 36 (.slice ah 0 0) 24 dH Kq rfl .i64 .i64 N.length iE iE a,sD]
 as_aux_lemma=>
 go_enter Tryz.func74,Tryz.ntmps74
 as_aux_lemma=>
 go_upto_region 1 with fail
 have c:(w.alloc (.cells #[.slice va N.length vc,.int .i64 root] 117)).heap.size=w.heap.size+1:=jl _ _;have b:(w.alloc (.cells #[.slice va N.length vc,.int .i64 root] 117)).heap[w.heap.size]?=af (.cells #[.slice va N.length vc,.int .i64 root] 117):=aJ w _;have g:PLift (aN w.heap.size w (w.alloc (.cells #[.slice va N.length vc,.int .i64 root] 117))):=⟨iW w _⟩;obtain⟨W0,i⟩:=iC (w.alloc (.cells #[.slice va N.length vc,.int .i64 root] 117));rw[i]at c b g⊢;have m:=iK b 0 (.slice va N.length vc);have n:=iK b 1 (.int .i64 root);have r:=λd=>iU (iW W0 d) m
 have s:=λd=>iU (iW W0 d) n
 have f:=ae c;clear b c i
 as_aux_lemma=>
 go_region
 all_goals
  as_aux_lemma=>
  go_wp2;refine aB (v:=.pointer (af ⟨W0.heap.size+1,0,ah⟩)) (by simp only[results,Tryz.results74];go_simp) rfl ?_;have j:w.heap.size<=W0.drew.heap.size:=by have t:=f.1;have u:W0.drew.heap.size=W0.heap.size:=rfl;omega
  have o:=((bn w.heap.size W0).drew.alloc j (.cells (aS N.length (.slice ah 0 0)) 36));refine⟨by rw[f.1],g.1.trans (o.alloc (bD j (by rw[jl];omega)) _),?_⟩;rw[<-f.1];refine⟨?_,?_,iH,iE⟩
  ·have h:=aJ (W0.alloc (.cells (aS N.length (.slice ah 0 0)) 36)) (.cells #[.slice va N.length vc,.int .i64 root,.slice (af ⟨W0.heap.size,0,ah⟩) N.length N.length] 159)
   rw[jl]at h;exact h
  ·have h:=aJ W0 (.cells (aS N.length (.slice ah 0 0)) 36)
   rw[<-dF (W0.alloc (.cells (aS N.length (.slice ah 0 0)) 36)) (.cells #[.slice va N.length vc,.int .i64 root,.slice (af ⟨W0.heap.size,0,ah⟩) N.length N.length] 159) _ (by rw[jl];omega)]at h;refine h.trans ?_;simp
theorem Am (B b:Nat)(l:List UInt8)(c:UInt8)(w:aI)(h:aX 51 5 B b (aP l) w)(r:l.length+1<=140737488355328)(V:B<=w.heap.size):
  bH aC 92 #[.pointer (af ⟨b,0,ah⟩),.int .u8 c.toNat] w λe w'=>e=.returned .nilIface/\(aX 51 5 B b (aP (l++[c])) w'/\aN B w w'):=by
 obtain⟨J,s,t,x,y⟩:=dD xQ;have f:=ae (iJ s (iJ t (iJ x y)));have K:=ae (Wl B b _ _ h);clear s t x y h
 as_aux_lemma=>
 go_enter dZ,dV
 as_aux_lemma=>
 go_upto_region 2 with(go_at_call 32;refine(K.1).mono ?_;rintro e a ⟨rfl,z,A⟩;have L:=ae z;have m:=ae A;clear z A)
 obtain⟨C,v,g,n,D⟩:=L.1;rw[aU]at n;have W:a.cell? ⟨b,0,ah⟩=af (.pointer (af ⟨b,0,ah⟩)):=by rw[aj g];rfl
 have X:a.cell? ⟨b,1,ah⟩=af v:=by rw[aj g];rfl
 have E:=ae (bV n (.cells #[.int .u8 c.toNat] 5));have F:=ae C;have G:=ae g;have M:=ae D;have H:PLift (B<=(a.alloc (.cells #[.int .u8 c.toNat] 5)).heap.size):=⟨by rw[jl];have:=m.1.size;omega⟩;have N:PLift ((a.alloc (.cells #[.int .u8 c.toNat] 5)).cell? ⟨a.heap.size,0,ah⟩=af (.int .u8 c.toNat)):=⟨(aj (aJ a _) 0).trans rfl⟩;have I:=ae r;clear n C g D r
 as_aux_lemma=>
 go_wp2_with(refine wG _ rfl _ _ 49 rfl B 5 J (.int .u8 0) 1 1 cZ f.1.1 f.1.2.1 f.1.2.2.1 f.1.2.2.2 rfl iG v l.length (aP l) rfl E.1 ⟨a.heap.size,0,ah⟩ 1 1 [.int .u8 c.toNat] rfl rfl (by intro j2 u d;match j2,d with|0,d=>simp only[bJ,cu]at d;subst d;exact N.1|j2+1,d=>simp at d) (by simp[dB]) iG (by have:=I.1;unfold maxLen;omega) (by have:=I.1;omega) H.1 ?_)
 intro v' i o q O;have P:b<a.heap.size:=block_lt G.1
 have j:i.heap[b]?=af (.cells #[.pointer (af ⟨b,0,ah⟩),v] 51 (0,0)):=by rw[q.block b (by rw[jl];omega) (λe=>M.1 e.symm),dF _ _ _ P];exact G.1
 have Y:i.cell? ⟨b,1,ah⟩=af v:=by rw[aj j];rfl
 have Z:=aH j 1;have Q:PLift (aN B a i):=⟨((bn B a).alloc (by have:=m.1.size;omega) _).grown q H.1 (λk R=>(E.1.lt k R).1)⟩;have S:=ae (Lib.BuilderAt.put (T:=51) (e:=5) F.1 j (bs':=aP (l++[c])) (v':=v') (by rw[aU,dE,show(l++[c]).length=l.length+1 from by simp];exact o) iG);obtain⟨aa,ab,U⟩:=mW o;subst U;clear o q O j
 as_aux_lemma=>
 go_wp2;refine aB (v:=.nilIface) (by simp only[results,dQ];go_simp) rfl ?_;exact⟨rfl,.inr S.1,(m.1.trans Q.1).setCell (p:=⟨b,1,ah⟩) F.1 _⟩
def mF (c:UInt8):List UInt8:=if c=34\/c=92 then[92,c]else[c]
def quo (l:List UInt8):List UInt8:=(34::l.flatMap mF)++[34]
theorem Wp (l:List UInt8):(l.flatMap mF).length<=2*l.length:=by
 induction l with
 |nil=>simp
 |cons c l a=>
  rw[dK,aO,aZ];have:(mF c).length<=2:=by unfold mF;split<;>simp
  omega
theorem Wq {l:List UInt8}{i:Nat}(hi:i<l.length):(l.take (i+1)).flatMap mF=(l.take i).flatMap mF++mF l[i]:=by rw[aK hi,dG,dA]
theorem Ws (s:ByteArray)(w:aI)(hs:s.size<=1073741824):
  bH aC 108 #[.string s] w λe w'=>e=.returned (.string ⟨(quo s.data.toList).toArray⟩)/\aN w.heap.size w w':=by
 have y:PLift (s.data.toList.length=s.size):=⟨iH⟩;have G:=ae (Am w.heap.size w.heap.size [] 34 (w.alloc (.cells #[.pointer ah,.slice ah 0 0] 51)) (Lib.fresh_isBuilder _ _ w) iH (by rw[jl];omega));have H:PLift (aN w.heap.size w (w.alloc (.cells #[.pointer ah,.slice ah 0 0] 51))):=⟨iW w _⟩
 as_aux_lemma=>
 go_enter Tryz.func108,Tryz.ntmps108
 as_aux_lemma=>
 go_wp2_with(go_at_call 92;refine(G.1).mono ?_;rintro e R ⟨rfl,g,z⟩;have I:=ae g;have J:=ae z;clear g z)
 go_loopw [8] (λq wr=>∃i:Nat,q=.int .i64 i/\i<=s.size/\aX 51 5 w.heap.size w.heap.size (byteCells (34::(s.data.toList.take i).flatMap mF)) wr/\aN w.heap.size w wr) (λq _=>s.size - (intOf q).toNat)
 case atStart=>exact⟨0,rfl,bu _,I.1,H.1.trans J.1⟩
 case round=>
  as_aux_lemma=>
  obtain⟨i,rfl,hi,A,B⟩:=hrel;have f:=ae A;have a:=ae B;clear A B
  have c:PLift ((34::(s.data.toList.take i).flatMap mF).length<=2147483650):=by refine⟨?_⟩;have:=Wp (s.data.toList.take i);have C:(s.data.toList.take i).length<=i:=(by rw[dO];omega);rw[aZ];omega
  by_cases K:i<s.size
  ·have S:(i:Int)<(s.size:Int):=iE
   have M:i<s.data.toList.length:=(by rw[y.1];exact K);have p:=ae (Wq M);have r:s.data.toList[i]=s[i]:=rfl;rw[r]at p;generalize D:(s.data.toList.take i).flatMap mF=L at f c p;have t:=ae (Am w.heap.size w.heap.size (34::L) 92 wr f.1 (by have:=c.1;omega) a.1.size);have N:=ae (Am w.heap.size w.heap.size (34::L) s[i] wr f.1 (by have:=c.1;omega) a.1.size);by_cases d:s[i]=34\/s[i]=92
   ·have j:PLift (mF s[i]=[92,s[i]]):=⟨by unfold mF;rw[gY d]⟩
    have O:(((s[i].toNat:Int)==34)=aV)\/(((s[i].toNat:Int)==34)=az/\((s[i].toNat:Int)==92)=aV):=by
     rcases d with h|h
     ·left;rw[h];decide
     ·right;rw[h];decide
    clear d D r;rcases O with g|⟨g,C⟩
    all_goals
     as_aux_lemma=>
     go_upto_region 8 with(go_at_call 92;refine(t.1).mono ?_;rintro e E ⟨rfl,k,l⟩;have u:=ae k;have m:=ae l;clear k l)
     have P:=ae (Am w.heap.size w.heap.size (34::L++[92]) s[i] E u.1 (by have:=c.1;simp only[aO,aZ,List.length_nil]at this⊢;omega) (bD a.1.size m.1.size))
     as_aux_lemma=>
     go_wp2_with(go_at_call 92;refine(P.1).mono ?_;rintro e w3 ⟨rfl,n,b⟩;have x:=ae n;have o:=ae b;clear n b)
     go_roundw
     case rel=>exact⟨i+1,by go_num,iE,by rw[p.1,j.1];simpa using x.1,(a.1.trans m.1).trans o.1⟩
     case measure=>simp[intOf];omega
   ·have j:PLift (mF s[i]=[s[i]]):=⟨by unfold mF;rw[gZ d]⟩
    have g:((s[i].toNat:Int)==34)=az:=by simp only[iy,ne_eq];intro h;exact d (.inl (UInt8.toNat_inj.1 (by have:(34:UInt8).toNat=34:=rfl;omega)))
    have C:((s[i].toNat:Int)==92)=az:=by simp only[iy,ne_eq];intro h;exact d (.inr (UInt8.toNat_inj.1 (by have:(92:UInt8).toNat=92:=rfl;omega)))
    clear d D r
    as_aux_lemma=>
    go_wp2_with(go_at_call 92;refine(N.1).mono ?_;rintro e w3 ⟨rfl,n,b⟩;have x:=ae n;have o:=ae b;clear n b)
    go_roundw
    case rel=>exact⟨i+1,by go_num,iE,by rw[p.1,j.1];exact x.1,a.1.trans o.1⟩
    case measure=>simp[intOf];omega
  ·obtain rfl:i=s.size:=iE
   have j:PLift ((s.data.toList.take s.size).flatMap mF=s.data.toList.flatMap mF):=⟨by rw[<-y.1,bG]⟩;rw[j.1]at f c;have F:PLift (quo s.data.toList=(34::s.data.toList.flatMap mF)++[34]):=⟨rfl⟩;generalize s.data.toList.flatMap mF=L at f c F;have t:=ae (Am w.heap.size w.heap.size (34::L) 34 wr f.1 (by have:=c.1;omega) a.1.size)
   as_aux_lemma=>
   go_upto_region 11 with(go_at_call 92;refine(t.1).mono ?_;rintro e E ⟨rfl,k,l⟩;have u:=ae k;have m:=ae l;clear k l)
   have Q:=ae (Tryz.Builder_String_any _ _ _ _ u.1 (bD a.1.size m.1.size))
   as_aux_lemma=>
   go_wp2_with(go_at_call 19;refine(Q.1).mono ?_;rintro e w3 ⟨rfl,b⟩;have o:=ae b;clear b)
   refine aB (v:=.string ⟨(34::L++[34]).toArray⟩) (by simp only[results,Tryz.results108];go_simp) rfl ?_;exact⟨by rw[F.1],(a.1.trans m.1).trans o.1⟩
def CY (n:Nd):ByteArray:=
 if n.kind=0 then⟨#[110,117,108,108]⟩else if n.kind=5 then⟨(quo n.text.data.toList).toArray⟩else if n.kind=7 then⟨#[64]⟩++n.text else if n.kind=8 then⟨#[37]⟩++n.text else n.text
theorem Wu (n:Nd)(w:aI)(b o:Nat)(hn:vH w b o n)(hs:n.text.size<=1073741824)(h:n.kind≠6):
  bH aC 91 #[.pointer (af ⟨b,o,ah⟩)] w λe w'=>e=.returned (.string (CY n))/\aN w.heap.size w w':=by
 obtain⟨y,z,r,s,-⟩:=hn;have l:=ae (Ws n.text w hs);have a:PLift (CY n=if n.kind=0 then⟨#[110,117,108,108]⟩else if n.kind=5 then⟨(quo n.text.data.toList).toArray⟩else if n.kind=7 then⟨#[64]⟩++n.text else if n.kind=8 then⟨#[37]⟩++n.text else n.text):=⟨rfl⟩;generalize n.text=t at s l a hs;generalize n.kind=k at r h a;have i:(k==6)=az:=by simpa using h
 have m:=ae hs;clear h hs;by_cases c:k=0
 ·subst c
  rw[gY rfl]at a
  as_aux_lemma=>
  go_enter bK,bI;go_wp2;refine aB (v:=.string ⟨#[110,117,108,108]⟩) (by simp only[results,bF];go_simp) rfl ?_;exact⟨by rw[a.1],bn _ _⟩
 ·rw[gZ c]at a
  have j:(k==0)=az:=by simpa using c
  by_cases d:k=5
  ·subst d
   rw[gY rfl]at a;clear c j i
   as_aux_lemma=>
   go_enter bK,bI
   go_wp2_with(go_at_call 108;refine(l.1).mono ?_;rintro e A ⟨rfl,p⟩;have u:=ae p;clear p)
   refine aB (v:=.string ⟨(quo t.data.toList).toArray⟩) (by simp only[results,bF];go_simp) rfl ?_;exact⟨by rw[a.1],u.1⟩
  ·rw[gZ d]at a
   have q:(k==5)=az:=(by simpa using d);by_cases f:k=7
   ·subst f
    rw[gY rfl]at a;clear c j i d q;have hs:=m.1
    as_aux_lemma=>
    go_enter bK,bI;go_wp2;refine aB (v:=.string (⟨#[64]⟩++t)) (by simp only[results,bF];go_simp) rfl ?_;exact⟨by rw[a.1],bn _ _⟩
   ·rw[gZ f]at a
    have x:(k==7)=az:=(by simpa using f);by_cases g:k=8
    ·subst g
     rw[gY rfl]at a;clear c j i d q f x;have hs:=m.1
     as_aux_lemma=>
     go_enter bK,bI;go_wp2;refine aB (v:=.string (⟨#[37]⟩++t)) (by simp only[results,bF];go_simp) rfl ?_;exact⟨by rw[a.1],bn _ _⟩
    ·rw[gZ g]at a
     have B:(k==8)=az:=(by simpa using g);clear c d f g
     as_aux_lemma=>
     go_enter bK,bI;go_wp2;refine aB (v:=.string t) (by simp only[results,bF];go_simp) rfl ?_;exact⟨by rw[a.1],bn _ _⟩
structure LW (w0:aI)(v:aW)(root:Int)(rv:aW)(N:List Nd)(tb kb:Nat)(K:List Int)(w:aI):Prop where
 nodes:jJ w0 v N
 below:aN w0.heap.size w0 w
 tab:w.heap[tb]?=af (.cells #[v,.int .i64 root,rv] 159)
 pR:w.heap[kb]?=af (.cells (K.map (dn .i64)).toArray 3)
 xM:K.length=N.length
 lo:w0.heap.size<=kb
 ne:tb≠kb
section
variable {w0 w w':aI} {v rv:aW} {root:Int} {N:List Nd} {tb kb:Nat} {K:List Int}
theorem LW.below2 (h:LW w0 v root rv N tb kb K w)(a:aN w.heap.size w w'):LW w0 v root rv N tb kb K w':=
 {h with
  below:=h.below.trans (a.mono h.below.size)
  tab:=by rw[a.block _ (block_lt h.tab)];exact h.tab
  pR:=by rw[a.block _ (block_lt h.pR)];exact h.pR}
theorem LW.set (h:LW w0 v root rv N tb kb K w)(a:Nat)(x:Int):LW w0 v root rv N tb kb (K.set a x) (w.setCell ⟨kb,a,ah⟩ (.int .i64 x)):=
 {h with
  below:=h.below.setCell (p:=⟨kb,a,ah⟩) h.lo _
  tab:=by rw[jm _ h.ne];exact h.tab
  pR:=by simp[World.setCell,bQ,h.pR,dW]
  xM:=by simpa using h.xM}
end
theorem CZ {w w':aI}(h:aN w.heap.size w w')(r:Option Nat):w.grownBy w' r:=⟨h.os,h.tape,h.output,h.size,λk a _=>h.block k a⟩
theorem C9 {α β:Type}{g:β->α->Option β}{x:α}{l:List α}{s b:β}(h:(x::l).foldlM g s=af b):∃a,g s x=af a/\l.foldlM g a=af b:=by
 rw[List.foldlM_cons]at h;cases c:g s x with
 |none=>rw[c]at h;cases h
 |some a=>rw[c]at h;exact⟨a,rfl,h⟩
def jw (w:aI)(a:Nat)(s:ByteArray)(pos:Nat)(b:aW):Prop:=w.heap[a]?=af (.cells #[.string s,.int .i64 pos,b] 136)
structure Same (w w':aI):Prop where
 os:w'.os=w.os
 tape:w'.tape=w.tape
 output:w'.output=w.output
 heap:w'.heap=w.heap
theorem Same.below {w w':aI}(h:Same w w')(B:Nat):aN B w w':=⟨h.os,h.tape,h.output,by rw[h.heap];exact dL _,λk _=>by rw[h.heap]⟩
theorem Same.drewN {a b:aI}(h:Same a b)(n:Nat):Same a (b.drewN n):=⟨h.os,h.tape,h.output,h.heap⟩
theorem Same.refl (w:aI):Same w w:=⟨rfl,rfl,rfl,rfl⟩
def lI (s:ByteArray)(pos:Nat):Nat:=if h:pos<s.size then s[pos].toNat else 0
theorem next_any (w:aI)(a:Nat)(s:ByteArray)(pos:Nat)(c:aW)(hp:jw w a s pos c):
  bH aC 82 #[.pointer (af ⟨a,0,ah⟩)] w λe w'=>e=.returned (.int .u8 (lI s pos))/\Same w w':=by
 have f:=iK hp 0 (.string s);have g:=iK hp 1 (.int .i64 pos);clear hp;by_cases h:pos<s.size
 ·have d:(pos:Int)<(s.size:Int):=iE
  have b:PLift (lI s pos=s[pos].toNat):=⟨by unfold lI;rw[dif_pos h]⟩
  as_aux_lemma=>
  go_enter ed,dX;go_wp2
  go_quiet (fail)
  go_wp2
  go_quiet (fail)
  go_wp2;refine aB (v:=.int .u8 s[pos].toNat) (by simp only[results,dR];go_simp) rfl ?_;exact⟨by rw[b.1],by first|exact((Same.refl w).drewN _).drewN _|exact(Same.refl w).drewN _⟩
 ·have d:¬(pos:Int)<(s.size:Int):=iE
  have b:PLift (lI s pos=0):=⟨by unfold lI;rw[dif_neg h]⟩
  as_aux_lemma=>
  go_enter ed,dX;go_wp2
  go_quiet (fail)
  go_wp2;refine aB (v:=.int .u8 0) (by simp only[results,dR];go_simp) rfl ?_;exact⟨by rw[b.1];rfl,by first|exact((Same.refl w).drewN _).drewN _|exact(Same.refl w).drewN _⟩
theorem Wv (w:aI)(a:Nat)(s:ByteArray)(pos:Nat)(f:aW)(c:UInt8)(hp:jw w a s pos f)(hs:s.size<=65536)(b:pos<s.size)(hc:s[pos]=c):
  bH aC 86 #[.pointer (af ⟨a,0,ah⟩),.int .u8 c.toNat] w λe w'=>e=.returned (.tuple #[])/\∃d,Same w d/\w'=d.setCell ⟨a,1,ah⟩ (.int .i64 ((pos+1:Nat):Int)):=by
 have g:=iK hp 0 (.string s);have h:=iK hp 1 (.int .i64 pos);have i:∀o,w.frozen? ⟨a,o,ah⟩=az:=λo=>aH hp o
 have j:(pos:Int)<(s.size:Int):=iE
 have k:decide ((pos:Int)≥(s.size:Int))=az:=by simpa using b
 have l:decide ((s.size:Int)<=(pos:Int))=az:=by simpa using b
 subst hc;clear hp
 as_aux_lemma=>
 go_enter Tryz.func86,Tryz.ntmps86;go_wp2
 go_quiet (fail)
 go_wp2;go_end0;exact⟨rfl,_,(Same.refl w).drewN _,rfl⟩
theorem TabAt.below {w w':aI}{b r n:Nat}{v:aW}{root:Int}{E:List aW}(h:TabAt w b r v root n E)(a:aN w.heap.size w w'):TabAt w' b r v root n E:=
 ⟨by rw[a.block _ (block_lt h.box)];exact h.box,by rw[a.block _ (block_lt h.row)];exact h.row,h.len,h.ne⟩
theorem Kv {L j:Nat}(b:j<L):((aY j).map (λi:Nat=>(i:Int))++ax (L - j) 0).set j (j:Int)=(aY (j+1)).map (λi:Nat=>(i:Int))++ax (L - (j+1)) 0:=by
 obtain⟨m,hm⟩:∃m,L - j=m+1:=⟨L - j - 1,iE⟩;have a:L - (j+1)=m:=iE
 rw[hm,a,List.replicate_succ,List.set_append,dw,List.map_append];simp
theorem Wx (w:aI)(v:aW)(root:Int)(N:List Nd)(tb d a:Nat)(E:List aW)(D:jJ w v N)(F:TabAt w tb d v root N.length E)(ha:a<N.length)(G:E.getD a jr=jr)(r:(N.getD a nd0).kind≠10\/(N.getD a nd0).ord=aV)(H:(N.getD a nd0).items.length<=4294967296):
  bH aC 93 #[.pointer (af ⟨tb,0,ah⟩),.int .i64 a] w λe w'=>∃f,e=.returned (.slice (af ⟨f,0,ah⟩) (N.getD a nd0).items.length (N.getD a nd0).items.length)/\w.heap.size<=f/\w'.heap[f]?=af (.cells (((aY (N.getD a nd0).items.length).map (λi:Nat=>(i:Int))).map (dn .i64)).toArray 3)/\TabAt w' tb d v root N.length (E.set a (.slice (af ⟨f,0,ah⟩) (N.getD a nd0).items.length (N.getD a nd0).items.length))/\w.grownBy w' (af d):=by
 have aL:=ae D;have I:=ae F;have aM:(a:Int)<(N.length:Int):=iE
 obtain⟨va,vc,rfl,aR,ab⟩:=D;rcases ab with ac|⟨b,o,rfl,J⟩
 ·exfalso;rw[ac]at ha;exact aT _ ha
 have K:=J a N[a] (ag ha);have L:N.getD a nd0=N[a]:=by rw[au,ag ha];rfl
 rw[L]at r H⊢;generalize N[a]=n at K r H⊢;obtain⟨a0,s,M,ad,O,ai,P,ak,A⟩:=K;obtain⟨a1,a2,rfl,a3,A⟩:=A;have t:PLift (aN w.heap.size w (w.alloc (.cells #[.pointer (af ⟨tb,0,ah⟩)] 138))):=⟨iW w _⟩;have al:=ae M;have am:=ae O;have an:=ae P;have ao:=ae r;have ap:=ae G;have Q:(w.alloc (.cells #[.pointer (af ⟨tb,0,ah⟩)] 138)).heap[w.heap.size]?=af (.cells #[.pointer (af ⟨tb,0,ah⟩)] 138):=aJ w _;have u:=ae Q;clear J L r M ad O ai P ak A F G Q
 as_aux_lemma=>
 go_enter eu,dY
 as_aux_lemma=>
 go_upto_region 1 with fail
 obtain⟨W0,R⟩:=iC (w.alloc (.cells #[.pointer (af ⟨tb,0,ah⟩)] 138));rw[R]at t u⊢;clear R;have S:=ae (I.1.below t.1);have B:=iK u.1 0 (.pointer (af ⟨tb,0,ah⟩));have aq:=iK S.1.box 0 (.slice (af ⟨b,o,ah⟩) N.length vc)
 as_aux_lemma=>
 go_upto_region 2 with fail
 clear B aq;have x:PLift (aN W0.heap.size W0 (W0.alloc (.cells #[.pointer (af ⟨b,o+a*5,ah⟩)] 154))):=⟨iW W0 _⟩;have T:PLift ((W0.alloc (.cells #[.pointer (af ⟨b,o+a*5,ah⟩)] 154)).heap[W0.heap.size]?=af (.cells #[.pointer (af ⟨b,o+a*5,ah⟩)] 154)):=⟨aJ W0 _⟩;obtain⟨c,U⟩:=iC (W0.alloc (.cells #[.pointer (af ⟨b,o+a*5,ah⟩)] 154));rw[U]at x T⊢;clear U;have y:=ae (S.1.below x.1);have k:PLift (aN w.heap.size w c):=⟨t.1.trans (x.1.mono t.1.size)⟩;have ar:PLift (c.heap[w.heap.size]?=af (.cells #[.pointer (af ⟨tb,0,ah⟩)] 138)):=⟨by rw[x.1.block _ (block_lt u.1)];exact u.1⟩;have B:=iK ar.1 0 (.pointer (af ⟨tb,0,ah⟩));have av:=iK y.1.box 2 (.slice (af ⟨d,0,ah⟩) N.length N.length)
 have aw:c.cell? ⟨d,a,ah⟩=af (.slice ah 0 0):=by
  have V:a<E.length:=by rw[I.1.len];exact ha
  have he:=ap.1;rw[au,ag V]at he;rw[aj y.1.row];simp only[List.getElem?_toArray,ag V];exact ig af he
 have aD:=iK T.1 0 (.pointer (af ⟨b,o+a*5,ah⟩));have a4:=iU k.1 an.1
 have a5:∀m:aI,(bT 36 (.int .i64 (n.items.length:Int)) (.int .i64 (n.items.length:Int))).run aC m=.ok (.slice (af ⟨m.heap.size,0,ah⟩) n.items.length n.items.length) (m.alloc (.cells (aS n.items.length (.int .i64 0)) 3)):=λm=>by rw[bY 36 3 (.int .i64 0) 8 bZ su rfl .i64 .i64 n.items.length iE iE m,sD]
 as_aux_lemma=>
 go_wp2
 go_loopw [38] (λs wr=>∃j:Nat,s=.int .i64 j/\j<=n.items.length/\wr.heap[c.heap.size]?=af (.cells (((aY j).map (λi:Nat=>(i:Int))++ax (n.items.length - j) 0).map (dn .i64)).toArray 3)/\aN c.heap.size c wr) (λs _=>n.items.length - (intOf s).toNat)
 case atStart=>exact⟨0,rfl,bu _,by rw[aJ];simp,iW c _⟩
 case round=>
  as_aux_lemma=>
  obtain⟨j,rfl,a6,X,Y⟩:=hrel;have z:=ae X;have g:=ae Y;clear X Y;by_cases aE:j<n.items.length
  ·have a7:(j:Int)<(n.items.length:Int):=iE
   have e1:wr.cell? ⟨c.heap.size,j,ah⟩=af (.int .i64 (((aY j).map (λi:Nat=>(i:Int))++ax (n.items.length - j) 0).getD j 0)):=kJ z.1 iI;have a8:∀o,wr.frozen? ⟨c.heap.size,o,ah⟩=az:=λo=>aH z.1 o
   generalize((aY j).map (λi:Nat=>(i:Int))++ax (n.items.length - j) 0).getD j 0=a9 at e1
   as_aux_lemma=>
   go_wp2;go_roundw
   case rel=>exact⟨j+1,by go_num,iE,by rw[<-Kv aE];simp[World.setCell,bQ,z.1,dW],g.1.setCell (p:=⟨c.heap.size,j,ah⟩) (dL _) _⟩
   case measure=>simp[intOf];omega
  ·obtain rfl:j=n.items.length:=iE
   have l:=ae (y.1.below g.1);have ba:wr.cell? ⟨w.heap.size,0,ah⟩=af (.pointer (af ⟨tb,0,ah⟩)):=iU g.1 B;have bb:wr.cell? ⟨W0.heap.size,0,ah⟩=af (.pointer (af ⟨b,o+a*5,ah⟩)):=iU g.1 aD;have bc:wr.cell? ⟨tb,2,ah⟩=af (.slice (af ⟨d,0,ah⟩) N.length N.length):=iU g.1 av;have ds:wr.cell? ⟨d,a,ah⟩=af (.slice ah 0 0):=iU g.1 aw;have bd:∀o,wr.frozen? ⟨d,o,ah⟩=az:=λo=>aH l.1.row o
   have g0:=iU g.1 (iU k.1 al.1);have g2:=iU g.1 (iU k.1 am.1);have aF:=ae (k.1.trans (g.1.mono k.1.size));have aG:PLift (w.heap.size<=c.heap.size):=⟨k.1.size⟩
   have Z:PLift (∀W,W=wr.setCell ⟨d,a,ah⟩ (.slice (af ⟨c.heap.size,0,ah⟩) n.items.length n.items.length)->∃f,Ending.returned (.slice (af ⟨c.heap.size,0,ah⟩) n.items.length n.items.length)=.returned (.slice (af ⟨f,0,ah⟩) n.items.length n.items.length)/\w.heap.size<=f/\W.heap[f]?=af (.cells (((aY n.items.length).map (λi:Nat=>(i:Int))).map (dn .i64)).toArray 3)/\TabAt W tb d (.slice (af ⟨b,o,ah⟩) N.length vc) root N.length (E.set a (.slice (af ⟨f,0,ah⟩) n.items.length n.items.length))/\w.grownBy W (af d)):=by
    refine⟨λW C=>⟨c.heap.size,rfl,aG.1,?_,?_,?_⟩⟩
    ·rw[C,jm _ (by have:=block_lt y.1.row;omega),z.1];simp
    ·rw[C]
     exact⟨by rw[jm _ l.1.ne];exact l.1.box,by simp[World.setCell,bQ,l.1.row],by simpa using l.1.len,l.1.ne⟩
    ·rw[C];exact(CZ aF.1 (af d)).trans (lN wr d a _)
   by_cases q:n.kind=10
   ·have aa:n.ord=aV:=by
     rcases ao.1 with h|h
     ·exact absurd q h
     ·exact h
    rw[q]at g0;rw[aa]at g2;clear aa q
    as_aux_lemma=>
    go_wp2;refine aB (v:=.slice (af ⟨c.heap.size,0,ah⟩) n.items.length n.items.length) (by simp only[results,dC];go_simp) rfl ?_;exact Z.1 _ rfl
   ·have be:(n.kind==10)=az:=by simpa using q
    clear q
    as_aux_lemma=>
    go_wp2;refine aB (v:=.slice (af ⟨c.heap.size,0,ah⟩) n.items.length n.items.length) (by simp only[results,dC];go_simp) rfl ?_;exact Z.1 _ rfl
theorem Wy (w:aI)(v:aW)(root:Int)(N:List Nd)(tb j a f L c:Nat)(E:List aW)(s:jJ w v N)(k:TabAt w tb j v root N.length E)(ha:a<N.length)(l:E[a]?=af (.slice (af ⟨f,0,ah⟩) L c)):
  bH aC 93 #[.pointer (af ⟨tb,0,ah⟩),.int .i64 a] w λe w'=>e=.returned (.slice (af ⟨f,0,ah⟩) L c)/\aN w.heap.size w w':=by
 have t:=ae k;have u:=ae l;have B:(a:Int)<(N.length:Int):=iE
 obtain⟨va,vc,rfl,C,x⟩:=s;rcases x with y|⟨b,o,rfl,-⟩
 ·exfalso;rw[y]at ha;exact aT _ ha
 have g:PLift (aN w.heap.size w (w.alloc (.cells #[.pointer (af ⟨tb,0,ah⟩)] 138))):=⟨iW w _⟩;have h:PLift ((w.alloc (.cells #[.pointer (af ⟨tb,0,ah⟩)] 138)).heap[w.heap.size]?=af (.cells #[.pointer (af ⟨tb,0,ah⟩)] 138)):=⟨aJ w _⟩;clear k l
 as_aux_lemma=>
 go_enter eu,dY
 as_aux_lemma=>
 go_upto_region 1 with fail
 obtain⟨W0,m⟩:=iC (w.alloc (.cells #[.pointer (af ⟨tb,0,ah⟩)] 138));rw[m]at g h⊢;clear m;have n:=ae (t.1.below g.1);have p:=iK h.1 0 (.pointer (af ⟨tb,0,ah⟩));have z:=iK n.1.box 0 (.slice (af ⟨b,o,ah⟩) N.length vc)
 as_aux_lemma=>
 go_upto_region 2 with fail
 clear p z;have i:PLift (aN W0.heap.size W0 (W0.alloc (.cells #[.pointer (af ⟨b,o+a*5,ah⟩)] 154))):=⟨iW W0 _⟩;obtain⟨d,q⟩:=iC (W0.alloc (.cells #[.pointer (af ⟨b,o+a*5,ah⟩)] 154));rw[q]at i⊢;clear q;have r:=ae (n.1.below i.1);have A:PLift (d.heap[w.heap.size]?=af (.cells #[.pointer (af ⟨tb,0,ah⟩)] 138)):=⟨by rw[i.1.block _ (block_lt h.1)];exact h.1⟩;have p:=iK A.1 0 (.pointer (af ⟨tb,0,ah⟩));have D:=iK r.1.box 2 (.slice (af ⟨j,0,ah⟩) N.length N.length)
 have F:d.cell? ⟨j,a,ah⟩=af (.slice (af ⟨f,0,ah⟩) L c):=by rw[aj r.1.row];simpa using u.1
 as_aux_lemma=>
 go_wp2;refine aB (v:=.slice (af ⟨f,0,ah⟩) L c) (by simp only[results,dC];go_simp) rfl ?_;exact⟨rfl,g.1.trans (i.1.mono g.1.size)⟩
theorem XC {Q:Exit->Act->aI->Prop}{id:Nat}{a:Act}{w:aI}{l:List Oper}(n:Nat)(b c os:Oper){aF:Act}(ns:List UInt8){B:Nat}{v:aW}{acc:List UInt8}
  (g:l.length=n+3)(hs:Region.noSelect l.toArray=aV)(h:Mix.kN .any l.toArray n 0 (aS l.length az)=af (ax n aV++ax (l.length - n) az).toArray)
  (hd:Mix.kS a.tmps.size (l.take n) []=aV)(e:l[n]?=af b)(f:l[n+1]?=af c)(i:l[n+2]?=af os)(g1:b.guard=ah)(g2:c.guard=ah)(j:os.guard=ah)
  (k:Region.ready .any l.toArray (ax n aV++ax 3 az).toArray=[n])
  (m:Region.ready .any l.toArray ((ax n aV++ax 3 az).toArray.setIfInBounds n aV)=[n+1])
  (o:Region.ready .any l.toArray (((ax n aV++ax 3 az).toArray.setIfInBounds n aV).setIfInBounds (n+1) aV)=[n+2])
  (p:Region.ready .any l.toArray ((((ax n aV++ax 3 az).toArray.setIfInBounds n aV).setIfInBounds (n+1) aV).setIfInBounds (n+2) aV)=[])
  (s x:Operand)(q:c.op=.call {callee:=.builtin .append,args:=#[s,x],argTypes:=#[49,49]})
  (r:OwnB B v acc w)(F:acc.length+ns.length<=140737488355328)(t:B<=w.heap.size)
  (hA:∀ρ:aI,aN B w ρ->wpQuiet aC l.toArray (λw'=>∃n,w'=ρ.drewN n) (λa'=>a'=aF) (l.take n) a)
  (u:∀W:aI,(execOp aF.eval b).run aC W=.ok (.value (.slice (af ⟨W.heap.size,0,ah⟩) ns.length ns.length)) (W.alloc (.cells (byteCells ns).toArray 5)))
  (y:∀d,(aF.put b.dst d).eval s=v)(hx:∀d,(aF.put b.dst d).eval x=d)
  (z:∀d v' W,(execOp ((aF.put b.dst d).put c.dst v').eval os).run aC W=.ok (.value v') W)
  (hK:∀v' W,OwnB B v' (acc++ns) W->aN B w W->Q .normal (((aF.put b.dst (.slice (af ⟨w.heap.size,0,ah⟩) ns.length ns.length)).put c.dst v').put os.dst v') W):(Code.region id l.toArray aV).wp aC Q a w:=by
 obtain⟨A,hi,C,D,E⟩:=dD xQ;refine Mix.XB n B b c os iF g hs h hd e f i g1 g2 j k m o p hA (byteCells ns).toArray 5 ns.length ns.length u s x 49 q A (.int .u8 0) 1 1 cZ hi C D E rfl iG v acc.length (byteCells acc) r y hx (by simp[byteCells]) (by simpa using AP ns) (by unfold maxLen;omega) iE t z ?_;intro v' W e f;refine hK v' W ?_ f;unfold OwnB;rw[byteCells_append,aO];exact e
def qx (c:UInt8):List UInt8:=[qX (c/16),qX (c%16)]
def o7 (n:Nd):ByteArray:=if n.kind=6 then⟨(35::n.text.data.toList.flatMap qx).toArray⟩else CY n
theorem KN (l:List UInt8):(l.flatMap qx).length=2*l.length:=by
 induction l with
 |nil=>rfl
 |cons c l a=>rw[dK,aO,a,aZ];show 2+_=_;omega
theorem XD {l:List UInt8}{i:Nat}(hi:i<l.length):(l.take (i+1)).flatMap qx=(l.take i).flatMap qx++qx l[i]:=by rw[aK hi,dG,dA]
theorem XE (n:Nd)(w:aI)(b o:Nat)(hn:vH w b o n)(hs:n.text.size<=1073741824)(j:n.kind=6):
  bH aC 91 #[.pointer (af ⟨b,o,ah⟩)] w λe w'=>e=.returned (.string (o7 n))/\aN w.heap.size w w':=by
 obtain⟨M,d,A,k,-⟩:=hn;have p:PLift (o7 n=⟨(35::n.text.data.toList.flatMap qx).toArray⟩):=⟨by unfold o7;rw[gY j]⟩;rw[j]at A;generalize n.text=t at k p hs;have q:t.data.toList.length=t.size:=iH
 have N:(t.size:Int)<=1073741824:=iE
 obtain⟨l,r⟩:=iC t.data.toList;have a:=ae (iJ r (iJ q hs));rw[r]at p q;have B:=ae k;have C:=ae (NL w 35);have D:=ae (iW w (.cells #[.int .u8 (35:UInt8).toNat] 5));clear r q j
 as_aux_lemma=>
 go_enter bK,bI
 as_aux_lemma=>
 go_upto_region 8 with fail
 have O:=λE=>iU (iW w E) k
 go_wp2
 go_loopw [3,26] (λf d wr=>∃i:Nat,d=.int .i64 i/\i<=l.length/\OwnB w.heap.size f (35::(l.take i).flatMap qx) wr/\aN w.heap.size w wr) (λ_ d _=>l.length - (intOf d).toNat)
 case atStart=>exact⟨0,rfl,bu _,C.1,D.1⟩
 case round=>
  as_aux_lemma=>
  obtain⟨i,rfl,hi,s,u⟩:=hrel;obtain⟨x,F⟩:∃x:aI,x=wr:=⟨_,rfl⟩;subst F;have c:=ae (iJ s u);clear s u;by_cases g:i<l.length
  ·have P:i<t.size:=by rw[<-a.1.2.1,a.1.1];exact g
   have Q:(i:Int)<(t.size:Int):=iE
   have G:PLift ((35::(l.take (i+1)).flatMap qx)=(35::(l.take i).flatMap qx)++[qX (t[i]/16),qX (t[i]%16)]):=⟨by
    rw[XD g]
    have e:l[i]=t[i]:=by
     have h:=a.1.1;subst h;simp
     rfl
    rw[e]
    rfl⟩
   have H:PLift ((35::(l.take i).flatMap qx).length+2<=140737488355328):=⟨by
    rw[aZ,KN,dO];have:=a.1.2.1;rw[a.1.1]at this;have:=a.1.2.2
    omega⟩
   have y:=ae g;have I:=NM t[i];have i2:=NP t[i];clear g
   as_aux_lemma=>
   go_upto_region 11 with fail
   refine XC (aF:=?_) 17 _ _ _ [qX (t[i]/16),qX (t[i]%16)] rfl iF iF iF rfl rfl rfl rfl rfl rfl iF iF iF iF _ _ rfl c.1.1 H.1 c.1.2.size ?_ ?_ ?_ ?_ ?_ ?_;rotate_left 1
   ·intro ρ J
    have R:=λn=>iU (below_drewN (c.1.2.trans J) n) B.1
    simp only[List.take_succ_cons,List.take_zero]
    repeat(go_big_quiet_step(fail))
    refine wpQuiet_nil ?_;exact rfl
   ·intro W
    go_simp
    rfl
   ·intro f;rfl
   ·intro f;rfl
   ·intro f v' W;rfl
   ·clear I i2
    intro v' S K L;simp only[Act.put,List.setIfInBounds_toArray,List.set_cons_zero,List.set_cons_succ];go_wp2;go_roundw
    case rel=>exact⟨i+1,by go_num,by have:=y.1;omega,by rw[G.1];exact K,c.1.2.trans L⟩
    case measure=>have:=y.1;simp[intOf];omega
  ·obtain rfl:i=l.length:=iE
   have hcv:=F5 c.1.1;rw[bG]at hcv;obtain⟨T,U,z⟩:=c.1.1.slice;have V:¬((l.length:Int)<(t.size:Int)):=(by have:=a.1.2.1;rw[a.1.1]at this;omega);generalize(35::(l.take l.length).flatMap qx).length=m at z;subst z
   as_aux_lemma=>
   go_wp2;refine aB (v:=.string ⟨(35::l.flatMap qx).toArray⟩) (by simp only[results,bF];go_simp) rfl ?_;exact⟨by rw[p.1],c.1.2⟩
theorem KP (n:Nd)(w:aI)(b o:Nat)(hn:vH w b o n)(hs:n.text.size<=1073741824):
  bH aC 91 #[.pointer (af ⟨b,o,ah⟩)] w λe w'=>e=.returned (.string (o7 n))/\aN w.heap.size w w':=by
 by_cases a:n.kind=6
 ·exact XE n w b o hn hs a
 ·have h:=Wu n w b o hn hs a
  unfold o7;rw[gZ a];exact h
def wI (n:Nd):Int:=
 if n.kind=9 then 2+max 0 ((n.items.length:Int) - 1)else if n.kind=10 then 2+max 0 ((n.items.length:Int) - 1)else if n.kind=11 then 3+(n.text.size:Int)else((o7 n).size:Int)
def stepG (rec:Nat->List Int->Option (List Int))(n:Nd)(st:Int×List Int)(i:Nat):Option (Int×List Int):=
 (if n.kind=10 then(rec (n.keys.getD i 0).toNat st.2).map λK=>(wrap64 (st.1 +wrap64 (1+K.getD (n.keys.getD i 0).toNat 0)),K)else af st).bind λst=>(rec (n.items.getD i 0).toNat st.2).map λK=>(wrap64 (st.1 +K.getD (n.items.getD i 0).toNat 0),K)
def qy (N:List Nd):Nat->Nat->List Int->Option (List Int)
 |0,_,_=>ah
 |f+1,a,K=>if 0<=K.getD a 0 then af K else((eF 0 (N.getD a nd0).items.length).foldlM (stepG (qy N f) (N.getD a nd0)) (wI (N.getD a nd0),K)).map λst=>st.2.set a (min st.1 65537)
theorem FC {rec:Nat->List Int->Option (List Int)}{n:Nd}{st a:Int×List Int}{i:Nat}(b:n.kind≠10)(h:stepG rec n st i=af a):∃K,rec (n.items.getD i 0).toNat st.2 =af K/\a=(wrap64 (st.1 +K.getD (n.items.getD i 0).toNat 0),K):=by unfold stepG at h;rw[gZ b]at h;obtain⟨K,c,d⟩:=bz.1 (show(rec (n.items.getD i 0).toNat st.2).map _=af a from h);exact⟨K,c,d.symm⟩
theorem XF {rec:Nat->List Int->Option (List Int)}{n:Nd}{st b:Int×List Int}{i:Nat}(c:n.kind=10)(h:stepG rec n st i=af b):∃a K,rec (n.keys.getD i 0).toNat st.2 =af a/\rec (n.items.getD i 0).toNat a=af K/\b=(wrap64 (wrap64 (st.1 +wrap64 (1+a.getD (n.keys.getD i 0).toNat 0))+K.getD (n.items.getD i 0).toNat 0),K):=by unfold stepG at h;rw[gY c]at h;obtain⟨k,d,e⟩:=Option.bind_eq_some_iff.1 h;obtain⟨a,f,rfl⟩:=bz.1 d;obtain⟨K,g,j⟩:=bz.1 e;exact⟨a,K,f,g,j.symm⟩
theorem XG (w0:aI)(v:aW)(root:Int)(Q:aW)(N:List Nd)(tb c:Nat)(hR:nN N)(be:∀n∈N,n.text.size<=1073741824)(bf:∀n∈N,n.kind=10->n.keys.length=n.items.length):∀(f a:Nat) (K K':List Int) (w:aI),qy N f a K=af K'->a<N.length->LW w0 v root Q N tb c K w->
  bH aC 75 #[.pointer (af ⟨tb,0,ah⟩),.int .i64 a,.slice (af ⟨c,0,ah⟩) N.length N.length] w λe w'=>e=.returned (.int .i64 (K'.getD a 0))/\LW w0 v root Q N tb c K' w'/\w.grownBy w' (af c):=by
 intro f
 induction f with
 |zero=>intro a K K' w h;cases h
 |succ f ac=>
  intro a K K' w h ha j;have ad:=ae ac;have C:=ae j;have bg:a<K.length:=by rw[j.xM];exact ha
  have b7:(a:Int)<(N.length:Int):=iE
  have aF:w.cell? ⟨c,a,ah⟩=af (.int .i64 (K.getD a 0)):=kJ j.pR bg;by_cases R:0<=K.getD a 0
  ·unfold qy at h
   rw[gY R]at h;obtain rfl:=Option.some.inj h;obtain⟨y,hy⟩:=iC (K.getD a 0);have bh:=ae hy;rw[hy]at aF R;clear h hy ac j
   as_aux_lemma=>
   go_enter bW,bU;go_wp2;refine aB (v:=.int .i64 y) (by simp only[results,dU];go_simp) rfl ?_;exact⟨by rw[bh.1],C.1,yf _ _⟩
  ·unfold qy at h
   rw[gZ R]at h;obtain⟨aG,S,hK'⟩:=bz.1 h;have bi:=ae hK';obtain⟨va,vc,bj,bk,bl⟩:=j.nodes;subst bj;rcases bl with z|⟨b,o,rfl,aL⟩
   ·exfalso;rw[z]at ha;exact aT _ ha
   have ai:=aL a N[a] (ag ha);have aM:N.getD a nd0=N[a]:=(by rw[au,ag ha];rfl);have ak:=hR N[a] (ay ha);have E:=be N[a] (ay ha);have al:=bf N[a] (ay ha);rw[aM]at S;generalize N[a]=n at ai ak E al S;have bm:=ae ai;have am:=ae ak;have b8:=ae E;have aR:=ae al;obtain⟨b9,T,U,a0,bo,a1,an,V,W⟩:=ai;obtain⟨ca,cb,rfl,cc,V⟩:=V;obtain⟨cd,ce,rfl,cf,W⟩:=W;have bp:=ae V;have a2:=ae W;have a3:=ae U;have bq:=ae a1;have br:=ae an;have bs:PLift (∀wr,LW w0 (.slice (af ⟨b,o,ah⟩) N.length vc) root Q N tb c K wr->True):=⟨λ_ _=>trivial⟩;have bt:=iK j.tab 0 (.slice (af ⟨b,o,ah⟩) N.length vc);have bv:=iU j.below U;have cg:=iU j.below a0;have bw:=iU j.below an;have bx:K.getD a 0<0:=iE;generalize K.getD a 0=y at aF bx;have D:=ae S;have ch:b<w0.heap.size:=World.block_lt_of_cell? w0 _ U;have a4:=ae (KP n w b (o+a*5) (bm.1.below j.below) E);have bA:=ae E;have F:PLift (wI n=if n.kind=9 then 2+max 0 ((n.items.length:Int) - 1)else if n.kind=10 then 2+max 0 ((n.items.length:Int) - 1)else if n.kind=11 then 3+(n.text.size:Int)else((o7 n).size:Int)):=⟨rfl⟩;have bB:PLift (n.kind=n.kind):=⟨rfl⟩;obtain⟨k,ao⟩:=iC n.kind;rw[ao]at bv a3 F aR;have a5:=ae ao;clear h hK' ac j bk aL aM ak E al S R U a0 bo a1 an V W ao bB bs;by_cases u:k=9
   case' pos=>have A:PLift (wI n=2+max 0 ((n.items.length:Int) - 1)):=⟨by rw[F.1,gY u]⟩;have bE:k≠10:=iE;subst u;rw[A.1]at D;have G:=ae (iJ C.1 (yf w (af c)));go_enter bW,bU;go_wp2
   case' neg=>
    by_cases r:k=10
    case' pos=>have A:PLift (wI n=2+max 0 ((n.items.length:Int) - 1)):=⟨by rw[F.1,gZ u,gY r]⟩;clear u;subst r;rw[A.1]at D;have G:=ae (iJ C.1 (yf w (af c)));go_enter bW,bU;go_wp2
    case' neg=>
     have bE:k≠10:=r;by_cases X:k=11
     case' pos=>have A:PLift (wI n=3+(n.text.size:Int)):=⟨by rw[F.1,gZ u,gZ r,gY X]⟩;clear u r;have ci:=bA.1;subst X;rw[A.1]at D;have G:=ae (iJ C.1 (yf w (af c)));go_enter bW,bU;go_wp2
     case' neg=>
      have A:PLift (wI n=((o7 n).size:Int)):=⟨by rw[F.1,gZ u,gZ r,gZ X]⟩;have cj:(k==9)=az:=(by simpa using u);have ck:(k==10)=az:=(by simpa using r);have cl:(k==11)=az:=(by simpa using X);have cm:=ae (iJ C.1 (yf w (af c)));rw[A.1]at D;generalize o7 n=cn at a4 D;go_enter bW,bU
      go_wp2_with(go_at_call 91;refine(a4.1).mono ?_;rintro e co ⟨rfl,Y⟩;have G:=ae (iJ (C.1.below2 Y) (CZ Y (af c)));have cp:=iU Y bw;clear Y)
   all_goals
    go_loopw [8,58] (λbL T wr=>∃(i m:Nat) (sum:Int) (s:List Int),T=.int .i64 i/\i+m=n.items.length/\bL=.int .i64 sum/\(eF i m).foldlM (stepG (qy N f) n) (sum,s)=af aG/\LW w0 (.slice (af ⟨b,o,ah⟩) N.length vc) root Q N tb c s wr/\w.grownBy wr (af c)) (λ_ T _=>n.items.length - (intOf T).toNat)
    case atStart=>exact⟨0,n.items.length,_,K,rfl,iE,rfl,D.1,G.1.1,G.1.2⟩
    case round=>
     as_aux_lemma=>
     obtain⟨i,m,sum,s,rfl,cq,rfl,t,d,H⟩:=hrel;have Z:=ae d;have a6:=ae H;have d0:=iU d.below a3.1;have bt:=iK d.tab 0 (.slice (af ⟨b,o,ah⟩) N.length vc);have cr:=iU d.below br.1;cases m with
     |succ m=>
      rw[List.range'_succ]at t;obtain⟨cs,aa,t⟩:=C9 t;have l:i<n.items.length:=iE;have ct:(i:Int)<(n.items.length:Int):=iE;by_cases r:n.kind=10
      ·first
       |exfalso;have:=a5.1;omega
       |obtain⟨bM,I,J,q,g⟩:=XF r aa
        have L:i<n.keys.length:=(by rw[aR.1 rfl];exact l);have cv:(i:Int)<(n.keys.length:Int):=iE;have ab:=am.1.1 n.keys[i] (ay L);have a7:n.keys.getD i 0=n.keys[i]:=(by rw[au,ag L];rfl);rw[a7]at J g;rcases bp.1 with z|⟨lk,cw,rfl,ap⟩
        ·exfalso;rw[z]at L;exact aT _ L
        have bN:=iU Z.1.below (ap i n.keys[i] (ag L));have cx:=iU Z.1.below bq.1;have cy:=ae ap;generalize n.keys[i]=cz at ab bN J g;obtain⟨a8,rfl⟩:=aA ab.1;have bO:a8<N.length:=(by have:=ab.2;omega);simp only[aQ]at J g;have bR:=ae (ad.1 a8 _ bM wr J bO Z.1);clear ap ab a7 J;have hx:=am.1.2 n.items[i] (ay l);have M:n.items.getD i 0=n.items[i]:=(by rw[au,ag l];rfl);rw[M]at q g;rcases a2.1 with z|⟨bS,lo,rfl,B⟩
        ·exfalso;rw[z]at l;exact aT _ l
        have aq:=iU d.below (B i n.items[i] (ag l));generalize n.items[i]=x at hx aq q g;obtain⟨p,rfl⟩:=aA hx.1;have hp:p<N.length:=(by have:=hx.2;omega);simp only[aQ]at q g;have ar:=ae q;subst g;have av:=ae t;have bX:=ae B;clear B hx M q t aa d H
        as_aux_lemma=>
        go_upto_region 17 with(go_at_call 75;refine(bR.1).mono ?_;rintro e b0 ⟨rfl,a9,ba⟩;have b1:=ae a9;have b2:=ae ba;clear a9 ba)
        have aw:=ae (ad.1 p _ I b0 ar.1 hp b1.1)
        as_aux_lemma=>
        go_wp2_with(go_at_call 75;refine(aw.1).mono ?_;rintro e w3 ⟨rfl,O,P⟩;have aD:=ae O;have aE:=ae P;clear O P)
        go_roundw
        case rel=>exact⟨i+1,m,_,I,by go_num,iE,rfl,av.1,aD.1,(a6.1.trans b2.1).trans aE.1⟩
        case measure=>simp[intOf];omega
      ·first
       |exfalso;have:=a5.1;omega
       |obtain⟨I,q,g⟩:=FC r aa
        have hx:=am.1.2 n.items[i] (ay l);have M:n.items.getD i 0=n.items[i]:=(by rw[au,ag l];rfl);rw[M]at q g;rcases a2.1 with z|⟨bS,lo,rfl,B⟩
        ·exfalso;rw[z]at l;exact aT _ l
        have aq:=iU d.below (B i n.items[i] (ag l));generalize n.items[i]=x at hx aq q g;obtain⟨p,rfl⟩:=aA hx.1;have hp:p<N.length:=(by have:=hx.2;omega);simp only[aQ]at q g;have ar:=ae q;subst g;have av:=ae t;have bX:=ae B;clear B hx M q t aa d H;have aw:=ae (ad.1 p _ I wr ar.1 hp Z.1)
        as_aux_lemma=>
        go_wp2_with(go_at_call 75;refine(aw.1).mono ?_;rintro e w3 ⟨rfl,O,P⟩;have aD:=ae O;have aE:=ae P;clear O P)
        go_roundw
        case rel=>exact⟨i+1,m,_,I,by go_num,iE,rfl,av.1,aD.1,a6.1.trans aE.1⟩
        case measure=>simp[intOf];omega
     |zero=>
      have b3:i=n.items.length:=iE;subst b3;have bb:(sum,s)=aG:=Option.some.inj t;have bc:PLift (K'=s.set a (min sum 65537)):=⟨by rw[<-bi.1,<-bb]⟩;have bd:a<s.length:=(by rw[d.xM];exact ha);have e1:wr.cell? ⟨c,a,ah⟩=af (.int .i64 (s.getD a 0)):=kJ d.pR bd;have cA:∀o,wr.frozen? ⟨c,o,ah⟩=az:=λo=>aH d.pR o
      have b4:=ae (d.set a (min sum 65537));have b5:=ae (H.trans (lN wr c a (.int .i64 (min sum 65537))));have b6:PLift ((s.set a (min sum 65537)).getD a 0=min sum 65537):=⟨by rw[mZ,gY ⟨rfl,bd⟩]⟩;generalize s.getD a 0=cB at e1;clear bb t d H
      as_aux_lemma=>
      go_wp2;refine aB (v:=.int .i64 (min sum 65537)) (by simp only[results,dU];go_simp) rfl ?_;exact⟨by rw[bc.1,b6.1],by rw[bc.1];exact b4.1,b5.1⟩
theorem KY {B:Nat}{e size n:Nat}{v:aW}{xs:List aW}{w:aI}(h:w.ownsRow B e size v n xs)(g:Nat)(hv:v.ownBlock=af g):∃c a,w.heap[g]?=af (.cells c e a):=by
 rcases h.2 with⟨rfl,-⟩|⟨g',cap,b,rfl,-,d,-⟩
 ·cases hv
 ·cases Option.some.inj hv
  exact⟨b,_,d⟩
theorem KZ (B b:Nat)(a:List aW)(w:aI)(h:aX 51 5 B b a w):
  bH aC 32 #[.pointer (af ⟨b,0,ah⟩)] w λe w'=>e=.returned (.tuple #[])/\(Lib.BuilderAt 51 5 B b (.pointer (af ⟨b,0,ah⟩)) a w'/\aN B w w'/\dh 5 (af b) w w'):=by
 rcases h with h|h
 ·refine(Ko b w h.cell0 h.shape h.frozen0).mono ?_
  rintro e w' ⟨rfl,rfl⟩;exact⟨rfl,h.used _,(bn B w).setCell (p:=⟨b,0,ah⟩) h.1 _,(OthersKept.refl _ _ w).setCell ⟨b,0,ah⟩ rfl _⟩
 ·refine(J9 b w h.cell0).mono ?_
  rintro e w' ⟨rfl,rfl⟩;exact⟨rfl,h,bn B _,OthersKept.refl _ _ _⟩
theorem La (B b:Nat)(l:List UInt8)(s:ByteArray)(w:aI)(h:aX 51 5 B b (aP l) w)(q:l.length+s.size<=140737488355328)(r:B<=w.heap.size):
  bH aC 17 #[.pointer (af ⟨b,0,ah⟩),.string s] w λe w'=>e=.returned (.tuple #[.int .i64 s.size,.nilIface])/\(aX 51 5 B b (aP (l++s.data.toList)) w'/\aN B w w'/\dh 5 (af b) w w'):=by
 go_enter Tryz.func17,Tryz.ntmps17
 go_wp2_with(go_at_call 32;refine(KZ B b _ _ h).mono ?_)
 rintro e f ⟨rfl,t,j,k⟩;obtain⟨m,v,c,i,u⟩:=t;rw[aU]at i;have D:f.cell? ⟨b,0,ah⟩=af (.pointer (af ⟨b,0,ah⟩)):=by rw[aj c];rfl
 have E:f.cell? ⟨b,1,ah⟩=af v:=by rw[aj c];rfl
 have x:=ae k;have y:=ae i;clear k
 go_wp2_with(at_builtin;refine Nj _ rfl _ _ rfl rfl (B:=B) i s rfl q (bD r j.size) ?_)
 intro v' a n z o;have A:PLift (dh 5 (af b) w a):=⟨x.1.grown o λg hv=>KY y.1 g hv⟩;have C:b<f.heap.size:=(Array.getElem?_eq_some_iff.1 c).1
 have d:a.heap[b]?=af (.cells #[.pointer (af ⟨b,0,ah⟩),v] 51 (0,0)):=by rw[o.block b C (λe=>u e.symm)];exact c
 have d0:a.cell? ⟨b,0,ah⟩=af (.pointer (af ⟨b,0,ah⟩)):=by rw[aj d];rfl
 have F:a.cell? ⟨b,1,ah⟩=af v:=by rw[aj d];rfl
 have G:=aH d 1;obtain⟨H,cap,rfl⟩:=n.slice;go_wp2;go_ret2;refine⟨rfl,.inr ?_,?_,?_⟩
 ·exact Lib.BuilderAt.put (T:=51) (e:=5) m d (bs':=aP (l++s.data.toList)) (by rw[aU,show l.length+s.size=(l++s.data.toList).length from by simp];exact n) iG
 ·exact(j.trans z).setCell (p:=⟨b,1,ah⟩) m _
 ·exact A.1.setCell ⟨b,1,ah⟩ rfl _
theorem qR (B b:Nat)(l:List UInt8)(c:UInt8)(w:aI)(h:aX 51 5 B b (aP l) w)(t:l.length+1<=140737488355328)(Z:B<=w.heap.size):
  bH aC 92 #[.pointer (af ⟨b,0,ah⟩),.int .u8 c.toNat] w λe w'=>e=.returned .nilIface/\(aX 51 5 B b (aP (l++[c])) w'/\aN B w w'/\dh 5 (af b) w w'):=by
 obtain⟨L,x,y,z,A⟩:=dD xQ;have i:=ae (iJ x (iJ y (iJ z A)));have M:=ae (KZ B b _ _ h);clear x y z A h
 as_aux_lemma=>
 go_enter dZ,dV
 as_aux_lemma=>
 go_upto_region 2 with(go_at_call 32;refine(M.1).mono ?_;rintro e a ⟨rfl,C,D,E⟩;have N:=ae C;have o:=ae D;have O:=ae E;clear C D E)
 obtain⟨F,v,j,q,G⟩:=N.1;rw[aU]at q;have aa:a.cell? ⟨b,0,ah⟩=af (.pointer (af ⟨b,0,ah⟩)):=by rw[aj j];rfl
 have ab:a.cell? ⟨b,1,ah⟩=af v:=by rw[aj j];rfl
 have r:=ae (bV q (.cells #[.int .u8 c.toNat] 5));have H:=ae F;have I:=ae j;have P:=ae G;have J:PLift (B<=(a.alloc (.cells #[.int .u8 c.toNat] 5)).heap.size):=⟨by rw[jl];have:=o.1.size;omega⟩;have Q:PLift ((a.alloc (.cells #[.int .u8 c.toNat] 5)).cell? ⟨a.heap.size,0,ah⟩=af (.int .u8 c.toNat)):=⟨(aj (aJ a _) 0).trans rfl⟩;have K:=ae t;clear q F j G t
 as_aux_lemma=>
 go_wp2_with(refine wG _ rfl _ _ 49 rfl B 5 L (.int .u8 0) 1 1 cZ i.1.1 i.1.2.1 i.1.2.2.1 i.1.2.2.2 rfl iG v l.length (aP l) rfl r.1 ⟨a.heap.size,0,ah⟩ 1 1 [.int .u8 c.toNat] rfl rfl (by intro j2 u d;match j2,d with|0,d=>simp only[bJ,cu]at d;subst d;exact Q.1|j2+1,d=>simp at d) (by simp[dB]) iG (by have:=K.1;unfold maxLen;omega) (by have:=K.1;omega) J.1 ?_)
 intro v' f s m R;have S:b<a.heap.size:=block_lt I.1
 have n:f.heap[b]?=af (.cells #[.pointer (af ⟨b,0,ah⟩),v] 51 (0,0)):=by rw[m.block b (by rw[jl];omega) (λe=>P.1 e.symm),dF _ _ _ S];exact I.1
 have ac:f.cell? ⟨b,1,ah⟩=af v:=by rw[aj n];rfl
 have ad:=aH n 1;have U:PLift (aN B a f):=⟨((bn B a).alloc (by have:=o.1.size;omega) _).grown m J.1 (λk V=>(r.1.lt k V).1)⟩;have W:=ae (Lib.BuilderAt.put (T:=51) (e:=5) H.1 n (bs':=aP (l++[c])) (v':=v') (by rw[aU,dE,show(l++[c]).length=l.length+1 from by simp];exact s) iG);have X:PLift (dh 5 (af b) w f):=⟨(O.1.alloc _).grown m λg hv=>KY r.1 g hv⟩;obtain⟨ai,ak,Y⟩:=mW s;subst Y;clear s m R n
 as_aux_lemma=>
 go_wp2;refine aB (v:=.nilIface) (by simp only[results,dQ];go_simp) rfl ?_;exact⟨rfl,.inr W.1,(o.1.trans U.1).setCell (p:=⟨b,1,ah⟩) H.1 _,X.1.setCell ⟨b,1,ah⟩ rfl _⟩
