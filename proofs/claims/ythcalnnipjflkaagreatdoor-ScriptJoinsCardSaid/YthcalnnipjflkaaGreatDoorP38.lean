import Derived.Test.YthcalnnipjflkaaGreatDoorP26
import Derived.Test.YthcalnnipjflkaaGreatDoorP34
open Option renaming some -> ae, none -> ag, getD_some -> aQ, bind_some -> bF, map_some -> bH
open PLift renaming up -> af
open List renaming getElem?_eq_getElem -> ah, getD_eq_getElem?_getD -> aj, range -> ay, mem_append_left -> aB, length_append -> aC, sum_cons -> aI, mem_append_right -> aP, length_cons -> aS, map_cons -> aW, replicate -> aZ, length_nil -> bG, map_congr_left -> bP, size_toArray -> bT, range' -> bU, getElem_mem -> bV, mem_append -> bW, range_succ -> bY, mem_range -> bZ, map_nil -> cZ, sum_nil -> dh
open Go.Lib renaming cell_of_heap -> au, frozen_of_heap -> bu
open Go renaming World -> ax, Value -> aH, wpQuiet_nil -> aN, Calls -> bn, heap_alloc_new -> bJ
open Go.Proofs.Tryz renaming prog -> az, underlying193 -> bz
open Go.Value renaming int -> aA
open Nat renaming not_lt_zero -> aJ, lt_of_lt_of_le -> aT, le_refl -> aV, zero_add -> bD, le_trans -> bQ, add_assoc -> cu, zero_le -> di
open Bool renaming true -> aK, false -> aO
open Int renaming toNat_natCast -> aU, natCast_add -> bI, toNat_of_nonneg -> bK
open Array renaming getElem?_modify -> aX, getElem?_setIfInBounds -> aY
open Go.World renaming setCell -> bC
set_option linter.all false
set_option maxHeartbeats 16000000
set_option maxRecDepth 1000000
namespace Go.Proofs.YthcalnnipjflkaaGreatDoor
open Go.RowKit Go.Sort
open Go.Lib hiding intOf
section
variable {N:List Nd} {v:aH} {root:Int} {tb sr:Nat} {ent:Nat->List Int} {w0:ax} {E:List aH} {X Y:ax}
theorem CT.other (h:CT N v root tb sr ent w0 E X)(k:Nat)(g:Y.os=X.os)(j:Y.tape=X.tape)(l:Y.output=X.output)(m:X.heap.size<=Y.heap.size)(a:∀q,q<X.heap.size->q≠k->Y.heap[q]?=X.heap[q]?)(s:w0.heap.size<=k)(n:k≠tb)(o:k≠sr)
  (p:∀i,i<N.length->∀b L c,E.getD i jr=.slice (ae ⟨b,0,ag⟩) L c->b≠k):CT N v root tb sr ent w0 E Y where
 nodes:=h.nodes
 below:=⟨g.trans h.below.os,j.trans h.below.tape,l.trans h.below.output,bQ h.below.size m,λq e=>by rw[a q (aT e h.below.size) iE];exact h.below.block q e⟩
 lo:=h.lo
 tab:=⟨by rw[a _ (block_lt h.tab.box) (Ne.symm n)];exact h.tab.box,by rw[a _ (block_lt h.tab.row) (Ne.symm o)];exact h.tab.row,h.tab.len,h.tab.ne⟩
 val:=λi hi=>by
  rcases h.val i hi with d|⟨b,d,f,r⟩
  ·exact .inl d
  ·exact .inr ⟨b,d,by rw[a _ (block_lt f) (p i hi _ _ _ d)];exact f,r⟩
theorem CT.KF (h:CT N v root tb sr ent w0 E X){i:Nat}(hi:i<N.length){b L c:Nat}(he:E.getD i jr=.slice (ae ⟨b,0,ag⟩) L c):b<X.heap.size:=by
 rcases h.val i hi with a|⟨e,a,d,_⟩
 ·rw[a]at he;simp[jr]at he
 ·rw[a]at he
  injection he with he;injection he with he;injection he with he;rw[<-he];exact block_lt d
end
structure SS (N:List Nd)(v:aH)(root:Int)(tb sr:Nat)(ent:Nat->List Int)(w0:ax)(blk n:Nat)(W2:ax)(E2:List aH)(P:Nat->Prop)(d:Array Int)(X:ax):Prop where
 sz:d.size=n
 rg:∀i,i<n->0<=d[i]!/\d[i]!<(n:Int)
 pm:d.toList.Perm (nC n).toList
 row:X.heap[blk]?=ae (.cells (d.toList.map (aA .i64)).toArray 3)
 ct:∃E,CT N v root tb sr ent w0 E X/\(∀i,i<N.length->∀eb L c,E.getD i jr=.slice (ae ⟨eb,0,ag⟩) L c->eb≠blk/\¬P eb)/\
  ∀i,E.getD i jr=E2.getD i jr\/∃eb L c,E.getD i jr=.slice (ae ⟨eb,0,ag⟩) L c/\W2.heap.size<=eb
 pl:∀p,P p->p<X.heap.size
 os:X.os=W2.os
 tape:X.tape=W2.tape
 output:X.output=W2.output
 size:W2.heap.size<=X.heap.size
 block:∀k,k<W2.heap.size->k≠sr->k≠blk->X.heap[k]?=W2.heap[k]?
structure SP (tb sr blk:Nat)(w0 W2:ax):Prop where
 lb:blk<W2.heap.size
 ls:sr<W2.heap.size
 lt:tb<W2.heap.size
 lo:w0.heap.size<=blk
 ns:blk≠sr
 nt:blk≠tb
section
variable {N:List Nd} {v:aH} {root:Int} {tb sr:Nat} {ent:Nat->List Int} {w0:ax} {blk n:Nat} {W2:ax} {E2:List aH} {P:Nat->Prop} {d:Array Int} {X Y:ax}
theorem SS.grow (h:SS N v root tb sr ent w0 blk n W2 E2 P d X)(a:Below X.heap.size X Y):SS N v root tb sr ent w0 blk n W2 E2 P d Y where
 sz:=h.sz
 rg:=h.rg
 pm:=h.pm
 row:=Mix.lu a h.row
 ct:=by obtain⟨E,b,c⟩:=h.ct;exact⟨E,b.keep a,c⟩
 pl:=λp hp=>aT (h.pl p hp) a.size
 os:=a.os.trans h.os
 tape:=a.tape.trans h.tape
 output:=a.output.trans h.output
 size:=bQ h.size a.size
 block:=λk e b c=>by rw[a.block k (aT e h.size)];exact h.block k e b c
theorem SS.turn (h:SS N v root tb sr ent w0 blk n W2 E2 P d X)(hp:SP tb sr blk w0 W2)(k:Nat)(b:Array Int)(a:k=blk\/(W2.heap.size<=k/\P k))(l:Y.os=X.os)(m:Y.tape=X.tape)(o:Y.output=X.output)(r:Y.heap.size=X.heap.size)(s:∀q,q≠k->Y.heap[q]?=X.heap[q]?)
  (t:b.size=n)(u:∀i,i<n->0<=b[i]!/\b[i]!<(n:Int))(w:b.toList.Perm (nC n).toList)(x:Y.heap[blk]?=ae (.cells (b.toList.map (aA .i64)).toArray 3)):SS N v root tb sr ent w0 blk n W2 E2 P b Y where
 sz:=t
 rg:=u
 pm:=w
 row:=x
 ct:=by
  obtain⟨E,g,f,y⟩:=h.ct;have A:=hp.ls;have B:=hp.lt;have C:=hp.lb;refine⟨E,g.other k l m o iE (λq _ j=>s q j) ?_ ?_ ?_ (λi hi z L c he=>?_),f,y⟩
  ·rcases a with rfl|a
   ·exact hp.lo
   ·have:=hp.lo;omega
  ·rcases a with rfl|a
   ·exact hp.nt
   ·omega
  ·rcases a with rfl|a
   ·exact hp.ns
   ·omega
  ·have:=f i hi z L c he
   rcases a with rfl|a
   ·exact this.1
   ·intro e;exact this.2 (e▸a.2)
 pl:=λp hp=>by rw[r];exact h.pl p hp
 os:=l.trans h.os
 tape:=m.trans h.tape
 output:=o.trans h.output
 size:=by rw[r];exact h.size
 block:=λq j g f=>by
  rw[s q (by
    rcases a with rfl|a;· exact f
    ·omega)]
  exact h.block q j g f
end
theorem Xn (c:Nat->Nat->Int)(n:Nd){x y:Int}(d:0<=x)(hx:x<(n.keys.length:Int))(e:0<=y)(hy:y<(n.keys.length:Int)):uX c n x y=c (n.keys.getD x.toNat 0).toNat (n.keys.getD y.toNat 0).toNat:=by
 have a:x.toNat<n.keys.length:=iE
 have b:y.toNat<n.keys.length:=iE
 unfold uX kW;rw[ah a,ah b,aj,aj,ah a,ah b]
 rfl
theorem Xo {d:Array Int}{a b:Nat}(ha:a<d.size)(c:b<d.size):(swp d a b).toList.Perm d.toList:=by have h:=perm_set_set d.toList a b (by simpa using ha) (by simpa using c);unfold swp;simpa[ha,c]using h
theorem Xp (d:Array Int){i:Nat}(hi:i<d.size):(d.toList.map (aA .i64)).toArray[i]?=ae (.int .i64 d[i]!):=by simp[hi]
theorem KG (d:Array Int)(i:Nat)(x:Int):((d.toList.map (aA .i64)).toArray).setIfInBounds i (.int .i64 x)=((d.setIfInBounds i x).toList.map (aA .i64)).toArray:=by
 apply Array.ext_getElem?;intro k;by_cases e:i=k
 ·subst e
  by_cases h:i<d.size<;>simp[h,aY]
 ·simp[aY,e]
theorem Fv {W:ax}{b:Nat}{a:Array aH}{T:TypeId}(h:W.heap[b]?=ae (.cells a T))(o:Nat)(x:aH):(W.setCell ⟨b,o,ag⟩ x).heap[b]?=ae (.cells (a.setIfInBounds o x) T):=by simp[bC,aX,h]
theorem uY {W:ax}{b o k:Nat}(x:aH)(h:k≠b):(W.setCell ⟨b,o,ag⟩ x).heap[k]?=W.heap[k]?:=by simp[bC,aX,Ne.symm h]
theorem Dh (W:ax)(b o:Nat)(x:aH):(W.setCell ⟨b,o,ag⟩ x).heap.size=W.heap.size:=by simp[bC]
section
variable {N:List Nd} {v:aH} {root:Int} {tb sr:Nat} {ent:Nat->List Int} {w0:ax} {blk n:Nat} {W2:ax} {E2:List aH}
theorem KH (hp:SP tb sr blk w0 W2)(c:Nat->Nat->Int){i m r nb no:Nat}(hi:i<N.length)(hn:(N.getD i nd0).keys.length=n){vc:Nat}(hv:v=.slice (ae ⟨nb,no,ag⟩) N.length vc)
  (hc:∀a b,a<n->b<n->pU N v root tb sr ent w0 ((N.getD i nd0).keys.getD a 0) ((N.getD i nd0).keys.getD b 0) (c ((N.getD i nd0).keys.getD a 0).toNat ((N.getD i nd0).keys.getD b 0).toNat))
  (C:W2.heap[m]?=ae (.cells #[.pointer (ae ⟨tb,0,ag⟩)] 138))(D:W2.heap[r]?=ae (.cells #[.pointer (ae ⟨nb,no+i*5,ag⟩)] 154))(z:m≠sr/\m≠blk)(A:r≠sr/\r≠blk)(P:Nat->Prop):
  lH W2.heap.size blk 0 n 110 #[.pointer (ae ⟨m,0,ag⟩),.pointer (ae ⟨r,0,ag⟩)] (uX c (N.getD i nd0)) P (SS N v root tb sr ent w0 blk n W2 E2 P) where
 enters:=enters_of Tryz.func110 iF rfl
 row:=λd W h=>⟨h.sz,λk f=>⟨by rw[bD,rP h.row];exact Xp d (by rw[h.sz];exact f),Fe h.row _⟩⟩
 drew:=λd W h=>h.grow ⟨rfl,rfl,rfl,aV _,λ_ _=>rfl⟩
 alloc:=λd W o h=>h.grow (iW W o)
 swap:=λd W a b h ha s=>by
  have F:a<d.size:=by rw[h.sz];exact ha
  have G:b<d.size:=by rw[h.sz];exact s
  refine h.turn hp blk _ (.inl rfl) rfl rfl rfl (by rw[Dh,Dh]) (λq w=>by rw[uY _ w,uY _ w]) (by rw[swp_size];exact h.sz) (λk f=>?_) ?_ ?_
  ·rw[swp_get d F G]
   split
   ·exact h.rg a ha
   ·split
    ·exact h.rg b s
    ·exact h.rg k f
  ·exact(Xo F G).trans h.pm
  ·rw[bD,bD,Fv (Fv h.row _ _),KG,KG]
   rfl
 box:=λd W p x h s t=>by have O:=hp.lb;refine h.turn hp p d (.inr ⟨s,t⟩) rfl rfl rfl (by rw[Dh]) (λq w=>by rw[uY _ w]) h.sz h.rg h.pm ?_;rw[uY _ iE];exact h.row
 lo:=λd W h=>⟨hp.lb,h.size⟩
 cmp:=λd W a b h ha s=>by
  obtain⟨E,Q,R,S⟩:=h.ct;have r1:=h.rg a ha;have r2:=h.rg b s;obtain⟨x,hx⟩:∃x:Nat,d[a]! =(x:Int):=⟨d[a]!.toNat,iE⟩;obtain⟨y,hy⟩:∃y:Nat,d[b]! =(y:Int):=⟨d[b]!.toNat,iE⟩;have H:x<n:=iE
  have I:y<n:=iE
  rw[Xn c (N.getD i nd0) r1.1 (by rw[hn];exact r1.2) r2.1 (by rw[hn];exact r2.2),hx,hy,aU,aU];have T:=block_lt C;have U:=block_lt D;refine(WA x y i m r nb no _ hi (by rw[hn];exact H) (by rw[hn];exact I) hv (hc x y H I) Q (by rw[h.block m T z.1 z.2];exact C) (by rw[h.block r U A.1 A.2];exact D) z.1 A.1).mono ?_;rintro e Y ⟨he,V,X,f⟩;have ab:=hp.ls;have O:=hp.lb;have ac:=h.size;refine⟨he,⟨h.sz,h.rg,h.pm,?_,⟨V,X,?_,?_⟩,λp t=>aT (h.pl p t) f.g.size,f.g.os.trans h.os,f.g.tape.trans h.tape,f.g.output.trans h.output,bQ h.size f.g.size,?_⟩,?_⟩
  ·rw[f.g.block blk (block_lt h.row) (by intro e;injection e with e;exact hp.ns e)];exact h.row
  ·intro k B Z L aa l
   rcases f.new k with j|⟨J,K,M,j,u⟩
   ·exact R k B Z L aa (j.symm.trans l)
   ·rw[j]at l
    injection l with l;injection l with l;injection l with l;subst l;exact⟨iE,λt=>by have:=h.pl _ t;omega⟩
  ·intro k
   rcases f.new k with j|⟨J,K,M,j,u⟩
   ·rw[j];exact S k
   ·exact .inr ⟨J,K,M,j,iE⟩
  ·intro k B j u
   rw[f.g.block k iE (by intro e;injection e with e;exact j e)];exact h.block k B j u
  ·exact⟨f.g.size,λp j u=>f.g.block p u (by intro e;injection e with e;omega)⟩
theorem Xq (hp:SP tb sr blk w0 W2)(c:Nat->Nat->Int){i g j nb no:Nat}(hi:i<N.length)(hn:(N.getD i nd0).keys.length=n){vc:Nat}(hv:v=.slice (ae ⟨nb,no,ag⟩) N.length vc)
  (hc:∀a b,a<n->b<n->pU N v root tb sr ent w0 ((N.getD i nd0).keys.getD a 0) ((N.getD i nd0).keys.getD b 0) (c ((N.getD i nd0).keys.getD a 0).toNat ((N.getD i nd0).keys.getD b 0).toNat))
  (w:W2.heap[g]?=ae (.cells #[.pointer (ae ⟨tb,0,ag⟩)] 138))(x:W2.heap[j]?=ae (.cells #[.pointer (ae ⟨nb,no+i*5,ag⟩)] 154))(y:g≠sr/\g≠blk)(z:j≠sr/\j≠blk):
  Ak W2.heap.size blk 0 n 110 #[.pointer (ae ⟨g,0,ag⟩),.pointer (ae ⟨j,0,ag⟩)] (uX c (N.getD i nd0)) (SS N v root tb sr ent w0 blk n W2 E2 (λ_=>False)) where
 c:=KH hp c hi hn hv hc w x y z _
 ext:=⟨λp=>SS N v root tb sr ent w0 blk n W2 E2 (λq=>q=p),λp=>⟨KH hp c hi hn hv hc w x y z _,λd W o h A=>by
  have f:=h.grow (iW W o);obtain⟨E,l,r,s⟩:=h.ct;exact⟨f.sz,f.rg,f.pm,f.row,⟨E,l.keep (iW W o),λk m t L u he=>⟨(r k m t L u he).1,λe=>by have:=l.KF m he;omega⟩,s⟩,λq B=>by rw[jl];omega,f.os,f.tape,f.output,f.size,f.block⟩,
  λd W h=>by obtain⟨E,l,r,s⟩:=h.ct;exact⟨h.sz,h.rg,h.pm,h.row,⟨E,l,λk m t L u he=>⟨(r k m t L u he).1,λe=>e⟩,s⟩,λ_ hF=>hF.elim,h.os,h.tape,h.output,h.size,h.block⟩⟩⟩
end
theorem Xr (n:Nat):(((ay n).map (λi:Nat=>(i:Int))++aZ (n - n) 0).map (aA .i64)).toArray=((nC n).toList.map (aA .i64)).toArray:=by unfold nC;simp
theorem Xt {N:List Nd}{v:aH}{root:Int}{tb sr:Nat}{ent:Nat->List Int}{w0:ax}{E:List aH}{w n j:ax}{b L:Nat}{D:Array Int}(c:SS N v root tb sr ent w0 b L n E (λ_=>False) D j)(C:SP tb sr b w0 n)(r:CT N v root tb sr ent w0 E w)(l:Below w.heap.size w n)(R:sr<w.heap.size)(F:w.heap.size<=b)
  (a:Nat)(ha:a<N.length)(G:(N.getD a nd0).items.length=L)(m:ent a=D.toList):
  ∃g,Ending.returned (.slice (ae ⟨b,0,ag⟩) L L)=.returned (.slice (ae ⟨g,0,ag⟩) L L)/\(j.setCell ⟨sr,a,ag⟩ (.slice (ae ⟨b,0,ag⟩) L L)).heap[g]?=ae (.cells ((ent a).map (aA .i64)).toArray 3)/\qp (ent a) L/\(∀x∈ent a,0<=x/\x<(L:Int))/\
   ∃s,CT N v root tb sr ent w0 s (j.setCell ⟨sr,a,ag⟩ (.slice (ae ⟨b,0,ag⟩) L L))/\KT sr E s w (j.setCell ⟨sr,a,ag⟩ (.slice (ae ⟨b,0,ag⟩) L L)):=by
 obtain⟨H,d,S,I⟩:=c.ct;have t:qp (ent a) L:=⟨by rw[m,Array.length_toList];exact c.sz,by rw[m];exact c.pm⟩
 have u:∀x∈ent a,0<=x/\x<(L:Int):=λx hx=>by
  rw[m]at hx;obtain⟨k,o,rfl⟩:=List.getElem_of_mem hx;have y:k<D.size:=by simpa using o
  have:=c.rg k (by rw[<-c.sz];exact y);rw[getElem!_pos D k y]at this;simpa using this
 have z:j.heap[b]?=ae (.cells ((ent a).map (aA .i64)).toArray 3):=by rw[m];exact c.row
 have A:=C.ns;have T:=l.size;have U:=c.size;have V:=r.below.size;have J:=r.lo;refine⟨b,rfl,by rw[uY _ A];exact z,t,u,H.set a (.slice (ae ⟨b,0,ag⟩) L L),⟨d.nodes,?_,d.lo,⟨?_,?_,by simpa using d.tab.len,d.tab.ne⟩,λi hi=>?_⟩,⟨⟨?_,?_,?_,?_,?_⟩,λi=>?_⟩⟩
 ·exact d.below.setCell (p:=⟨sr,a,ag⟩) J _
 ·rw[uY _ d.tab.ne];exact d.tab.box
 ·rw[Fv d.tab.row]
  simp
 ·rw[mZ]
  by_cases e:a=i
  ·subst e
   rw[gY ⟨rfl,by rw[d.tab.len];exact ha⟩,G];exact .inr ⟨b,rfl,by rw[uY _ A];exact z,t,u⟩
  ·rw[gZ (λh=>e h.1)]
   rcases d.val i hi with f|⟨g,f,q,K⟩
   ·exact .inl f
   ·refine .inr ⟨g,f,?_,K⟩
    rw[uY]
    ·exact q
    ·intro e
     subst e;have:=q.symm.trans d.tab.row;injection this with this;injection this with _ M _;exact absurd M iG
 ·exact c.os.trans l.os
 ·exact c.tape.trans l.tape
 ·exact c.output.trans l.output
 ·rw[Dh];omega
 ·intro k o O
  have B:k≠sr:=λe=>O (by rw[e])
  rw[uY _ B,c.block k iE B iE,l.block k o]
 ·rw[mZ]
  split
  ·exact .inr ⟨b,L,L,rfl,F⟩
  ·rcases I i with f|⟨g,P,Q,f,q⟩
   ·exact .inl f
   ·exact .inr ⟨g,P,Q,f,iE⟩
section
variable {N:List Nd} {v:aH} {root:Int} {tb sr:Nat} {ent:Nat->List Int} {w0:ax} {E:List aH} {w:ax}
theorem Xu (c:Nat->Nat->Int)(a:Nat)(C:CT N v root tb sr ent w0 E w)(ha:a<N.length)(ad:E.getD a jr=jr)(g:(N.getD a nd0).kind=10/\(N.getD a nd0).ord=aO)(ai:(N.getD a nd0).keys.length=(N.getD a nd0).items.length)(ak:(N.getD a nd0).items.length<=1000000)(bf:ent a=jY N c a)
  (hc:∀x y,x<(N.getD a nd0).keys.length->y<(N.getD a nd0).keys.length->pU N v root tb sr ent w0 ((N.getD a nd0).keys.getD x 0) ((N.getD a nd0).keys.getD y 0) (c ((N.getD a nd0).keys.getD x 0).toNat ((N.getD a nd0).keys.getD y 0).toNat)):
  bn az 93 #[.pointer (ae ⟨tb,0,ag⟩),.int .i64 (a:Nat)] w λe w'=>∃P,e=.returned (.slice (ae ⟨P,0,ag⟩) (N.getD a nd0).items.length (N.getD a nd0).items.length)/\w'.heap[P]?=ae (.cells ((ent a).map (aA .i64)).toArray 3)/\qp (ent a) (N.getD a nd0).items.length/\(∀x∈ent a,0<=x/\x<((N.getD a nd0).items.length:Int))/\∃al,CT N v root tb sr ent w0 al w'/\KT sr E al w w':=by
 have F:=af C.tab;have G:=af C;have Q:=af (And.intro hc ai);have R:=af ha;have bN:(a:Int)<(N.length:Int):=iE
 have bg:=C.Fq;obtain⟨va,vc,rfl,bO,bh⟩:=bg;rcases bh with bi|⟨b,o,rfl,am⟩
 ·exfalso;rw[bi]at ha;exact aJ _ ha
 have an:=am a N[a] (ah ha);have S:N.getD a nd0=N[a]:=by rw[aj,ah ha];rfl
 rw[S]at g ak Q⊢;generalize ao:N[a]=n at an g ak Q⊢;have l:=af (S.trans ao);clear ao;obtain⟨bR,H,ap,bj,aq,bk,ar,bl,T⟩:=an;obtain⟨bS,bX,rfl,b0,T⟩:=T;have t:PLift (Below w.heap.size w (w.alloc (.cells #[.pointer (ae ⟨tb,0,ag⟩)] 138))):=⟨iW w _⟩;have bm:=af ap;have bo:=af aq;have bp:=af ar;have U:=af g;have bq:=af ad;have av:(w.alloc (.cells #[.pointer (ae ⟨tb,0,ag⟩)] 138)).heap[w.heap.size]?=ae (.cells #[.pointer (ae ⟨tb,0,ag⟩)] 138):=bJ w _;have I:=af av;clear am S g ap bj aq bk ar bl T C ad hc ai av
 as_aux_lemma=>
 go_enter Tryz.func93,Tryz.ntmps93
 as_aux_lemma=>
 go_upto_region 1 with fail
 obtain⟨W0,aw⟩:=iC (w.alloc (.cells #[.pointer (ae ⟨tb,0,ag⟩)] 138));rw[aw]at t I⊢;clear aw;have aD:=af (F.1.below t.1);have J:W0.cell? ⟨w.heap.size,0,ag⟩=ae (.pointer (ae ⟨tb,0,ag⟩)):=(au I.1 0).trans rfl;have br:W0.cell? ⟨tb,0,ag⟩=ae (.slice (ae ⟨b,o,ag⟩) N.length vc):=(au aD.1.box 0).trans rfl
 as_aux_lemma=>
 go_upto_region 2 with fail
 clear J br;have K:PLift (Below W0.heap.size W0 (W0.alloc (.cells #[.pointer (ae ⟨b,o+a*5,ag⟩)] 154))):=⟨iW W0 _⟩;have L:PLift ((W0.alloc (.cells #[.pointer (ae ⟨b,o+a*5,ag⟩)] 154)).heap[W0.heap.size]?=ae (.cells #[.pointer (ae ⟨b,o+a*5,ag⟩)] 154)):=⟨bJ W0 _⟩;obtain⟨d,aE⟩:=iC (W0.alloc (.cells #[.pointer (ae ⟨b,o+a*5,ag⟩)] 154));rw[aE]at K L⊢;clear aE;have V:=af (aD.1.below K.1);have m:PLift (Below w.heap.size w d):=⟨t.1.trans (K.1.mono t.1.size)⟩;have W:PLift (d.heap[w.heap.size]?=ae (.cells #[.pointer (ae ⟨tb,0,ag⟩)] 138)):=⟨by rw[K.1.block _ (block_lt I.1)];exact I.1⟩;have J:d.cell? ⟨w.heap.size,0,ag⟩=ae (.pointer (ae ⟨tb,0,ag⟩)):=(au W.1 0).trans rfl;have aF:d.cell? ⟨tb,2,ag⟩=ae (.slice (ae ⟨sr,0,ag⟩) N.length N.length):=(au V.1.box 2).trans rfl
 have aG:d.cell? ⟨sr,a,ag⟩=ae (.slice ag 0 0):=by
  have aL:a<E.length:=by rw[F.1.len];exact ha
  have he:=bq.1;rw[aj,ah aL]at he;rw[au V.1.row];simp only[List.getElem?_toArray,ah aL];exact ig ae he
 have aM:d.cell? ⟨W0.heap.size,0,ag⟩=ae (.pointer (ae ⟨b,o+a*5,ag⟩)):=(au L.1 0).trans rfl;have bs:=iU m.1 bp.1
 have b1:∀u:ax,(Instr.makeSlice 36 (.int .i64 (n.items.length:Int)) (.int .i64 (n.items.length:Int))).run az u=.ok (.slice (ae ⟨u.heap.size,0,ag⟩) n.items.length n.items.length) (u.alloc (.cells (Array.replicate n.items.length (.int .i64 0)) 3)):=λu=>by rw[run_make_row' 36 3 (.int .i64 0) 8 Tryz.underlying36 su rfl .i64 .i64 n.items.length iE iE u,sD]
 as_aux_lemma=>
 go_wp2
 go_loopw [38] (λH wr=>∃j:Nat,H=.int .i64 j/\j<=n.items.length/\wr.heap[d.heap.size]?=ae (.cells (((ay j).map (λi:Nat=>(i:Int))++aZ (n.items.length - j) 0).map (aA .i64)).toArray 3)/\Below d.heap.size d wr) (λH _=>n.items.length - (intOf H).toNat)
 case atStart=>exact⟨0,rfl,di _,by rw[bJ];simp,iW d _⟩
 case round=>
  as_aux_lemma=>
  obtain⟨j,rfl,b2,aR,a0⟩:=hrel;have A:=af aR;have f:=af a0;clear aR a0;by_cases bt:j<n.items.length
  ·have b3:(j:Int)<(n.items.length:Int):=iE
   have e1:wr.cell? ⟨d.heap.size,j,ag⟩=ae (.int .i64 (((ay j).map (λi:Nat=>(i:Int))++aZ (n.items.length - j) 0).getD j 0)):=kJ A.1 iI;have b4:∀o,wr.frozen? ⟨d.heap.size,o,ag⟩=aO:=λo=>bu A.1 o
   generalize((ay j).map (λi:Nat=>(i:Int))++aZ (n.items.length - j) 0).getD j 0=b5 at e1
   as_aux_lemma=>
   go_wp2;go_roundw
   case rel=>exact⟨j+1,by go_num,iE,by rw[<-Kv bt];simp[bC,aX,A.1,List.map_set],f.1.setCell (p:=⟨d.heap.size,j,ag⟩) (aV _) _⟩
   case measure=>simp[intOf];omega
  ·obtain rfl:j=n.items.length:=iE
   have bv:=af (V.1.below f.1);have bw:wr.cell? ⟨w.heap.size,0,ag⟩=ae (.pointer (ae ⟨tb,0,ag⟩)):=iU f.1 J;have bx:wr.cell? ⟨W0.heap.size,0,ag⟩=ae (.pointer (ae ⟨b,o+a*5,ag⟩)):=iU f.1 aM;have bA:wr.cell? ⟨tb,2,ag⟩=ae (.slice (ae ⟨sr,0,ag⟩) N.length N.length):=iU f.1 aF;have ds:wr.cell? ⟨sr,a,ag⟩=ae (.slice ag 0 0):=iU f.1 aG;have bB:∀o,wr.frozen? ⟨sr,o,ag⟩=aO:=λo=>bu bv.1.row o
   have g0:=iU f.1 (iU m.1 bm.1);have g2:=iU f.1 (iU m.1 bo.1);have bE:=af (m.1.trans (f.1.mono m.1.size));have q:PLift (w.heap.size<=d.heap.size):=⟨m.1.size⟩;have B:Below w.heap.size w wr:=bE.1;have a1:sr<w.heap.size:=block_lt F.1.row;have a2:tb<w.heap.size:=block_lt F.1.box;have X:=block_lt W.1;have a3:W0.heap.size<d.heap.size:=block_lt L.1;have a4:w0.heap.size<=w.heap.size:=G.1.below.size;have a5:=block_lt A.1;have Y:SP tb sr d.heap.size w0 wr:=⟨a5,by have:=B.size;omega,by have:=B.size;omega,by have:=q.1;omega,by have:=q.1;omega,by have:=q.1;omega⟩;have Z:wr.heap[w.heap.size]?=ae (.cells #[.pointer (ae ⟨tb,0,ag⟩)] 138):=(by rw[f.1.block _ X];exact W.1);have a6:wr.heap[W0.heap.size]?=ae (.cells #[.pointer (ae ⟨b,o+a*5,ag⟩)] 154):=(by rw[f.1.block _ a3];exact L.1);have r:=Q.1;rw[<-l.1]at r;have a7:=Xq (E2:=E) Y c R.1 r.2 rfl (λx y hx hy=>r.1 x y (by rw[r.2];exact hx) (by rw[r.2];exact hy)) Z a6 ⟨iE,by have:=q.1;omega⟩ ⟨by have:=t.1.size;omega,iE⟩
   have a8:SS N (.slice (ae ⟨b,o,ag⟩) N.length vc) root tb sr ent w0 d.heap.size (N.getD a nd0).items.length wr E (λ_=>False) (nC (N.getD a nd0).items.length) wr:=
    ⟨Wi _,λk g=>by rw[Wj g];omega,List.Perm.refl _,by rw[A.1,l.1,Xr],⟨E,G.1.keep B,λk g P b6 b7 he=>⟨λe=>by have:=G.1.KF g he;have:=q.1;omega,λe=>e⟩,λ_=>.inl rfl⟩,λ_ h=>h.elim,rfl,rfl,rfl,aV _,λ_ _ _ _=>rfl⟩
   have M:=Xm a7 (N.getD a nd0).items.length (nC (N.getD a nd0).items.length) wr a8 (by rw[l.1];omega) iG (aV _) (by rw[l.1];omega);have a9:PLift (ent a=(Df (ltOf (uX c (N.getD a nd0))) (nC (N.getD a nd0).items.length) (N.getD a nd0).items.length).toList):=⟨by rw[bf];unfold jY;rw[gY (by rw[l.1];exact U.1)];rfl⟩;generalize Df (ltOf (uX c (N.getD a nd0))) (nC (N.getD a nd0).items.length) (N.getD a nd0).items.length=D at M a9;rw[l.1]at M;have bL:=af M;have bM:=af Y;have aa:=af (And.intro B (And.intro a1 (And.intro a2 a4)));have ab:=af (And.intro Z X);rw[U.1.1]at g0;rw[U.1.2]at g2;clear M Y B a1 a2 X a3 a4 a5 Z a6 r a7 a8 ds bB
   as_aux_lemma=>
   go_upto_region 12 with(go_at_call 109;refine bL.1.mono ?_;rintro e O ⟨rfl,ba,-⟩;have ac:=af ba;clear ba)
   clear bw bx bA g0 g2 J aM aF bs aG;obtain⟨bb,s,bc,bd⟩:=ac.1.ct;have b8:=af (And.intro s (And.intro bc bd));have r2:O.cell? ⟨w.heap.size,0,ag⟩=ae (.pointer (ae ⟨tb,0,ag⟩)):=(au (by rw[ac.1.block _ (block_lt ab.1.1) (by have:=aa.1.2.1;omega) (by have:=ab.1.2;omega)];exact ab.1.1) 0).trans rfl;have rt:O.cell? ⟨tb,2,ag⟩=ae (.slice (ae ⟨sr,0,ag⟩) N.length N.length):=(au s.tab.box 2).trans rfl;have be:a<bb.length:=(by rw[s.tab.len];exact R.1);obtain⟨z,b9⟩:∃z,O.cell? ⟨sr,a,ag⟩=ae z:=⟨bb[a],by rw[au s.tab.row];simp[be]⟩;have ca:∀o,O.frozen? ⟨sr,o,ag⟩=aO:=λo=>bu s.tab.row o
   clear s bc bd be
   as_aux_lemma=>
   go_wp2;refine bodyPost_ret (v:=.slice (ae ⟨d.heap.size,0,ag⟩) n.items.length n.items.length) (by simp only[results,Tryz.results93];go_simp) rfl ?_;exact Xt ac.1 bM.1 G.1 aa.1.1 aa.1.2.1 q.1 a R.1 (by rw[l.1]) a9.1
end
section
variable {N:List Nd} {v:aH} {root:Int} {tb sr:Nat} {ent:Nat->List Int} {w0:ax} {E:List aH} {w:ax}
def wH (N:List Nd)(v:aH)(root:Int)(tb sr:Nat)(ent:Nat->List Int)(w0:ax)(a:Nat):Prop:=∀X E,CT N v root tb sr ent w0 E X->
 bn az 93 #[.pointer (ae ⟨tb,0,ag⟩),.int .i64 (a:Nat)] X λe Y=>∃b,e=.returned (.slice (ae ⟨b,0,ag⟩) (N.getD a nd0).items.length (N.getD a nd0).items.length)/\Y.heap[b]?=ae (.cells ((ent a).map (aA .i64)).toArray 3)/\qp (ent a) (N.getD a nd0).items.length/\(∀x∈ent a,0<=x/\x<((N.getD a nd0).items.length:Int))/\∃c,CT N v root tb sr ent w0 c Y/\KT sr E c X Y
theorem Fz (c:Nat->Nat->Int)(a:Nat)(ha:a<N.length)(A:(N.getD a nd0).kind=10->(N.getD a nd0).keys.length=(N.getD a nd0).items.length)(B:(N.getD a nd0).items.length<=1000000)(q:ent a=jY N c a)
  (hc:(N.getD a nd0).kind=10->(N.getD a nd0).ord=aO->∀x y,x<(N.getD a nd0).keys.length->y<(N.getD a nd0).keys.length->pU N v root tb sr ent w0 ((N.getD a nd0).keys.getD x 0) ((N.getD a nd0).keys.getD y 0) (c ((N.getD a nd0).keys.getD x 0).toNat ((N.getD a nd0).keys.getD y 0).toNat)):
  wH N v root tb sr ent w0 a:=by
 intro X E b;rcases b.val a ha with hn|⟨f,l,m,n,o⟩
 ·by_cases d:(N.getD a nd0).kind=10/\(N.getD a nd0).ord=aO
  ·exact Xu c a b ha hn d (A d.1) B q (hc d.1 d.2)
  ·have C:(N.getD a nd0).kind≠10\/(N.getD a nd0).ord=aK:=by
    by_cases r:(N.getD a nd0).kind=10
    ·right
     cases D:(N.getD a nd0).ord with
     |true=>rfl
     |false=>exact absurd ⟨r,D⟩ d
    ·exact .inl r
   have he:ent a=(ay (N.getD a nd0).items.length).map (λi:Nat=>(i:Int)):=by rw[q];unfold jY;rw[gZ d];unfold nC;simp
   refine(Wx X v root N tb sr a E b.Fq b.tab ha hn C iE).mono ?_;rintro e Y ⟨f,l,m,n,o,j⟩;have s:qp (ent a) (N.getD a nd0).items.length:=⟨by rw[he];simp,by rw[he];unfold nC;exact List.Perm.refl _⟩
   have t:∀x∈ent a,0<=x/\x<((N.getD a nd0).items.length:Int):=λx hx=>by rw[he]at hx;obtain⟨k,d,rfl⟩:=List.mem_map.1 hx;have:=bZ.1 d;omega
   have u:Y.heap[f]?=ae (.cells ((ent a).map (aA .i64)).toArray 3):=(by rw[he];exact n);refine⟨f,l,u,s,t,_,⟨b.nodes,b.below.grown j b.below.size (λk d=>by have:=Option.some.inj d;have:=b.lo;omega),b.lo,o,λi hi=>?_⟩,⟨j,λi=>?_⟩⟩
   ·rw[mZ]
    by_cases e:a=i
    ·subst e
     rw[gY ⟨rfl,by rw[b.tab.len];exact ha⟩];exact .inr ⟨f,rfl,u,s,t⟩
    ·rw[gZ (λh=>e h.1)]
     rcases b.val i hi with g|⟨w,g,p,F⟩
     ·exact .inl g
     ·refine .inr ⟨w,g,?_,F⟩
      rw[j.block w (block_lt p) (by intro e;have G:=Option.some.inj e;subst G;have:=p.symm.trans b.tab.row;injection this with this;injection this with _ H _;exact absurd H iG)]
      exact p
   ·rw[mZ]
    split
    ·exact .inr ⟨f,_,_,rfl,m⟩
    ·exact .inl rfl
 ·have I:E[a]?=ae (.slice (ae ⟨f,0,ag⟩) (N.getD a nd0).items.length (N.getD a nd0).items.length):=by
   have z:a<E.length:=(by rw[b.tab.len];exact ha);rw[aj,ah z,aQ]at l;rw[ah z,l]
  refine(Wy X v root N tb sr a f _ _ E b.Fq b.tab ha I).mono ?_;rintro e Y ⟨j,g⟩;exact⟨f,j,Mix.lu g m,n,o,E,b.keep g,KT.below E g⟩
end
theorem iY.reg {N:List Nd}{v:aH}{root:Int}{tb sr:Nat}{ent:Nat->List Int}{w0:ax}{c X:ax}(h:iY N v root tb sr ent w0 c X){Q:Exit->Act->ax->Prop}{id:Nat}{a:Act}{l:List Oper}{aF:Act}(b:J5 l a.tmps.size=aK)
  (hA:∀ρ:ax,(∀z:Mix.iZ (iY N v root tb sr ent w0) ρ,iY N v root tb sr ent w0 c z.w)->Nonempty (Mix.iZ (iY N v root tb sr ent w0) ρ)->wpQuiet az l.toArray (λw'=>∃x:Mix.iZ (iY N v root tb sr ent w0) ρ,w'=x.w) (λa'=>a'=aF) l a)
  (hK:∀d:ax,iY N v root tb sr ent w0 c d->Q .normal aF d):(Code.region id l.toArray aK).wp az Q a X:=by
 simp only[J5,Bool.and_eq_true,beq_iff_eq]at b;exact Mix.qQ (iY N v root tb sr ent w0) iY.refl (λ_ _ _ h k=>h.trans k) (iY.drew _) iF b.1.1.1 b.1.1.2 b.1.2 b.2 (λρ e=>hA ρ (λz=>h.trans (e.trans z.h)) ⟨⟨ρ,iY.refl ρ⟩⟩) λW f=>hK W (h.trans f)
theorem KI (c:Nat->Nat->Int){l m:List Int}{p q:Nat}(hp:p<l.length)(a:q<m.length):cO c (kW l (p:Int)) (kW m (q:Int))=c (l.getD p 0).toNat (m.getD q 0).toNat:=by
 unfold kW;rw[aU,aU,ah hp,ah a,aj,aj,ah hp,ah a]
 rfl
theorem CT.row_ne {N:List Nd}{v:aH}{root:Int}{tb sr:Nat}{ent:Nat->List Int}{w0:ax}{E:List aH}{X:ax}(h:CT N v root tb sr ent w0 E X){a:Nat}{b:Array aH}(hr:X.heap[a]?=ae (.cells b 3)):a≠sr:=by intro e;subst e;have:=hr.symm.trans h.tab.row;injection this with this;injection this with _ c _;exact absurd c iG
section
variable {N:List Nd} {v:aH} {root:Int} {tb sr:Nat} {ent:Nat->List Int} {w0:ax} {E:List aH} {X:ax}
theorem Xv (c:Nat->Nat->Int)(i j:Nat)(bm:CT N v root tb sr ent w0 E X)(hi:i<N.length)(bo:j<N.length)(ce:jM w0)(M:(N.getD i nd0).text.size<=70000/\(N.getD j nd0).text.size<=70000)(aM:(N.getD i nd0).kind=10->(N.getD i nd0).keys.length=(N.getD i nd0).items.length)(aR:(N.getD j nd0).kind=10->(N.getD j nd0).keys.length=(N.getD j nd0).items.length)
  (a0:(N.getD i nd0).items.length<=1000000)(a1:(N.getD j nd0).items.length<=1000000)
  (cf:wH N v root tb sr ent w0 i)(cg:wH N v root tb sr ent w0 j)(ch:ent i=jY N c i)(ci:ent j=jY N c j)
  (aa:∀x∈(N.getD i nd0).keys,∀y∈(N.getD j nd0).keys,pU N v root tb sr ent w0 x y (c x.toNat y.toNat))(ab:∀x∈(N.getD i nd0).items,∀y∈(N.getD j nd0).items,pU N v root tb sr ent w0 x y (c x.toNat y.toNat)):
  bn az 125 #[.pointer (ae ⟨tb,0,ag⟩),.int .i64 (i:Nat),.pointer (ae ⟨tb,0,ag⟩),.int .i64 (j:Nat),.map ag] X λe Y=>e=.returned (.int .i64 (bodyC N c i j))/\∃b,CT N v root tb sr ent w0 b Y/\KT sr E b X Y:=by
 have s:=af bm;obtain⟨va,vc,rfl,dT,d0⟩:=bm.nodes;rcases d0 with d1|⟨nb,no,rfl,bp⟩
 ·exfalso;rw[d1]at hi;exact aJ _ hi
 have cj:=bp i N[i] (ah hi);have ck:=bp j N[j] (ah bo);have cl:N.getD i nd0=N[i]:=by rw[aj,ah hi,aQ]
 have cm:N.getD j nd0=N[j]:=by rw[aj,ah bo,aQ]
 have d2:PLift (bodyC N c i j=_):=⟨rfl⟩;obtain⟨R,hR⟩:=iC (bodyC N c i j);rw[hR];unfold bodyC at hR;rw[<-ch,<-ci]at hR;have a2:=af (show ∀X E,CT N (.slice (ae ⟨nb,no,ag⟩) N.length vc) root tb sr ent w0 E X->bn az 93 #[.pointer (ae ⟨tb,0,ag⟩),.int .i64 (i:Nat)] X (λe Y=>∃ao,e=.returned (.slice (ae ⟨ao,0,ag⟩) (N.getD i nd0).items.length (N.getD i nd0).items.length)/\Y.heap[ao]?=ae (.cells ((ent i).map (aA .i64)).toArray 3)/\qp (ent i) (N.getD i nd0).items.length/\(∀x∈ent i,0<=x/\x<((N.getD i nd0).items.length:Int))/\∃b,CT N (.slice (ae ⟨nb,no,ag⟩) N.length vc) root tb sr ent w0 b Y/\KT sr E b X Y)from cf);have a3:=af (show ∀X E,CT N (.slice (ae ⟨nb,no,ag⟩) N.length vc) root tb sr ent w0 E X->bn az 93 #[.pointer (ae ⟨tb,0,ag⟩),.int .i64 (j:Nat)] X (λe Y=>∃ao,e=.returned (.slice (ae ⟨ao,0,ag⟩) (N.getD j nd0).items.length (N.getD j nd0).items.length)/\Y.heap[ao]?=ae (.cells ((ent j).map (aA .i64)).toArray 3)/\qp (ent j) (N.getD j nd0).items.length/\(∀x∈ent j,0<=x/\x<((N.getD j nd0).items.length:Int))/\∃b,CT N (.slice (ae ⟨nb,no,ag⟩) N.length vc) root tb sr ent w0 b Y/\KT sr E b X Y)from cg);rw[cl]at a2 hR M aM a0 aa ab;rw[cm]at a3 hR M aR a1 aa ab;clear cf cg ch ci cl cm d2;generalize ent i=P at a2 hR;generalize ent j=Q at a3 hR;generalize N[i]=A at cj a2 hR M aM a0 aa ab;generalize N[j]=B at ck a3 hR M aR a1 aa ab;obtain⟨bq,cn,co,cp,cq,cr,cs,ct,cv⟩:=cj;obtain⟨br,cw,cx,b1,b2,b3,cy,cz,cA⟩:=ck;have a4:=af (And.intro ct (And.intro cv (And.intro cz cA)));obtain⟨bq,bs,rfl,ew,-⟩:=ct;obtain⟨cn,bt,rfl,ex,-⟩:=cv;obtain⟨br,bv,rfl,ey,-⟩:=cz;obtain⟨cw,bw,rfl,ez,-⟩:=cA;have d:=af hR;have a5:=af (And.intro M (And.intro aM (And.intro aR (And.intro aa ab))));have d3:=af (And.intro a0 a1);have eA:(i:Int)<(N.length:Int):=iE
 have eB:(j:Int)<(N.length:Int):=iE
 have cB:=af (λ(Z:ax) (t:Below w0.heap.size w0 Z)=>UJ A.kind A.text B.text M.1 M.2 Z (ce.below t));have d4:PLift (iY N (.slice (ae ⟨nb,no,ag⟩) N.length vc) root tb sr ent w0 X X):=⟨iY.refl X⟩
 have O:PLift (∀Z,iY N (.slice (ae ⟨nb,no,ag⟩) N.length vc) root tb sr ent w0 X Z->(∃b,CT N (.slice (ae ⟨nb,no,ag⟩) N.length vc) root tb sr ent w0 b Z/\KT sr E b X Z)/\Z.cell? ⟨tb,0,ag⟩=ae (.slice (ae ⟨nb,no,ag⟩) N.length vc)/\(Z.cell? ⟨nb,no+i*5,ag⟩=ae (.int .i64 A.kind)/\Z.cell? ⟨nb,no+i*5+1,ag⟩=ae (.string A.text)/\Z.cell? ⟨nb,no+i*5+2,ag⟩=ae (.bool A.ord)/\Z.cell? ⟨nb,no+i*5+3,ag⟩=ae (.slice bq A.keys.length bs)/\Z.cell? ⟨nb,no+i*5+4,ag⟩=ae (.slice cn A.items.length bt))/\(Z.cell? ⟨nb,no+j*5,ag⟩=ae (.int .i64 B.kind)/\Z.cell? ⟨nb,no+j*5+1,ag⟩=ae (.string B.text)/\Z.cell? ⟨nb,no+j*5+2,ag⟩=ae (.bool B.ord)/\Z.cell? ⟨nb,no+j*5+3,ag⟩=ae (.slice br B.keys.length bv)/\Z.cell? ⟨nb,no+j*5+4,ag⟩=ae (.slice cw B.items.length bw))):=⟨λZ t=>by obtain⟨b,r,cC⟩:=t E s.1;have C:=r.below;exact⟨⟨b,r,cC⟩,(au r.tab.box 0).trans rfl,⟨iU C co,iU C cp,iU C cq,iU C cr,iU C cs⟩,iU C cx,iU C b1,iU C b2,iU C b3,iU C cy⟩⟩
 clear bp co cp cq cr cs cx b1 b2 b3 cy hR bm ce M aM aR aa ab a0 a1 hi bo dT
 as_aux_lemma=>
 go_enter Tryz.func125,Tryz.ntmps125
 as_aux_lemma=>
 go_upto_region 1 with fail
 refine iY.reg d4.1 (aF:=?_) iF ?_ ?_;rotate_left 1
 ·intro ρ p U
  have a:=af (λz=>O.1 _ (p z));have eC:=λz=>(a.1 z).2.1
  repeat(go_big_quiet_step(fail))
  apply aN;exact rfl
 intro eD cD;have cE:=af cD;clear cD
 as_aux_lemma=>
 go_upto_region 2 with fail
 refine iY.reg cE.1 (aF:=?_) iF ?_ ?_;rotate_left 1
 ·intro ρ p U
  have a:=af (λz=>O.1 _ (p z));have a6:=λz=>(a.1 z).2.2.1.1
  have d5:=λz=>(a.1 z).2.2.2.1
  repeat(go_big_quiet_step(fail))
  apply aN;exact rfl
 intro eE cF;have bx:=af cF;clear cF;by_cases a7:A.kind<B.kind
 ·have d6:decide (A.kind<B.kind)=aK:=iq a7
  have f:=af (d.1.symm.trans (gY a7))
  as_aux_lemma=>
  go_wp2;go_ret;exact⟨by rw[f.1];rfl,bx.1 E s.1⟩
 have d6:decide (A.kind<B.kind)=aO:=iw a7;have d:=af ((gZ a7).symm.trans d.1)
 as_aux_lemma=>
 go_upto_region 4 with fail
 refine iY.reg bx.1 (aF:=?_) iF ?_ ?_;rotate_left 1
 ·intro ρ p U
  have a:=af (λz=>O.1 _ (p z));have a6:=λz=>(a.1 z).2.2.1.1
  have d5:=λz=>(a.1 z).2.2.2.1
  repeat(go_big_quiet_step(fail))
  apply aN;exact rfl
 intro eI cG;have bA:=af cG;clear cG;by_cases a8:A.kind>B.kind
 ·have d7:decide (A.kind>B.kind)=aK:=iq a8
  have f:=af (d.1.symm.trans (gY a8))
  as_aux_lemma=>
  go_wp2;go_ret;exact⟨by rw[f.1];rfl,bA.1 E s.1⟩
 have d7:decide (A.kind>B.kind)=aO:=iw a8;have d:=af ((gZ a8).symm.trans d.1)
 as_aux_lemma=>
 go_upto_region 6 with fail
 refine iY.reg bA.1 (aF:=?_) iF ?_ ?_;rotate_left 1
 ·intro ρ p U
  have a:=af (λz=>O.1 _ (p z));have eJ:=λz=>(a.1 z).2.2.1.2.2.1
  have bB:=λz=>(a.1 z).2.2.2.2.2.1
  repeat(go_big_quiet_step(fail))
  apply aN;exact rfl
 intro d8 cH;have ap:=af cH;clear cH;by_cases ac:A.ord=B.ord
 case neg=>
  have bE:=O.1 d8 ap.1;have bB:=bE.2.2.2.2.2.1;cases a9:B.ord with
  |true=>
   have bL:A.ord=aO:=(by cases h:A.ord with|false=>rfl|true=>exact absurd (h.trans a9.symm) ac);have f:=af (d.1.symm.trans (gY ac));rw[a9]at f bB;rw[bL];clear bE
   as_aux_lemma=>
   go_wp2;go_ret;exact⟨by rw[f.1];rfl,ap.1 E s.1⟩
  |false=>
   have bL:A.ord=aK:=(by cases h:A.ord with|true=>rfl|false=>exact absurd (h.trans a9.symm) ac);have f:=af (d.1.symm.trans (gY ac));rw[a9]at f bB;rw[bL];clear bE
   as_aux_lemma=>
   go_wp2;go_ret;exact⟨by rw[f.1];rfl,ap.1 E s.1⟩
 have cI:(!(B.ord==B.ord))=aO:=iH
 rw[ac,cI];clear cI;have d:=af ((gZ (λh=>h ac)).symm.trans d.1)
 as_aux_lemma=>
 obtain⟨ad,cJ⟩:=iC (yR A.kind A.text B.text);rw[cJ]at cB d;clear cJ
 go_upto_region 10 with fail
 refine iY.reg ap.1 (aF:=?_) iF ?_ ?_;rotate_left 1
 ·intro ρ p U
  have a:=af (λz=>O.1 _ (p z));have a6:=λz=>(a.1 z).2.2.1.1
  have eK:=λz=>(a.1 z).2.2.1.2.1
  have eL:=λz=>(a.1 z).2.2.2.2.1
  have d9:=af (λz:Mix.iZ (iY N (.slice (ae ⟨nb,no,ag⟩) N.length vc) root tb sr ent w0) ρ=>show bn az 148 #[.int .i64 A.kind,.string A.text,.string B.text] z.w (λe W'=>e=.returned (.int .i64 ad)/\iY N (.slice (ae ⟨nb,no,ag⟩) N.length vc) root tb sr ent w0 z.w W')from by obtain⟨⟨ai,D,_⟩,_⟩:=a.1 z;exact(cB.1 z.w D.below).mono λe W' h=>⟨h.1,iY.below h.2⟩)
  repeat(go_big_quiet_step((go_at_call 148;exact Mix.iZ.calls (λ_ _ _ h k=>h.trans k) (d9.1 _))))
  apply aN;exact rfl
 intro ea cK;have ba:=af cK;clear cK;by_cases aq:ad=0
 case neg=>
  have eM:(ad==0)=aO:=by rw[iy];exact aq
  have eN:(ad !=0)=aK:=by rw[bne_iff_ne];exact aq
  have f:=af (d.1.symm.trans (gY aq))
  as_aux_lemma=>
  go_wp2;go_ret;exact⟨by rw[f.1];rfl,ba.1 E s.1⟩
 have d:=af ((gZ (λh=>h aq)).symm.trans d.1);subst aq;obtain⟨⟨eO,cL,eb⟩,-⟩:=O.1 ea ba.1;have bM:=af cL;clear cL eb
 as_aux_lemma=>
 go_upto_region 14 with(first
  |(go_at_call 93;with_reducible refine(a2.1 _ _ bM.1).mono ?_;rintro e eR ⟨ar,rfl,cM,cN,cP,ec,cQ,cR⟩;have G:=af (And.intro cM (And.intro cN (And.intro cP (And.intro cQ cR))));clear cM cN cP cQ cR)
  |(go_at_call 93;with_reducible refine(a3.1 _ _ G.1.2.2.2.1).mono ?_;rintro e bb ⟨bN,rfl,ak,cS,cT,ee,cU,cV⟩;have H:=af (And.intro ak (And.intro cS (And.intro cT (And.intro cU cV))));clear ak cS cT cU cV))
 have ef:PLift (iY N (.slice (ae ⟨nb,no,ag⟩) N.length vc) root tb sr ent w0 X bb):=⟨ba.1.trans (iY.trans (λF hF=>by obtain rfl:=hF.uniq bM.1;exact⟨ec,G.1.2.2.2⟩) (λF hF=>by obtain rfl:=hF.uniq G.1.2.2.2.1;exact⟨ee,H.1.2.2.2⟩))⟩
 have eg:PLift (∀Z,iY N (.slice (ae ⟨nb,no,ag⟩) N.length vc) root tb sr ent w0 bb Z->Z.heap[ar]?=ae (.cells (P.map (aA .i64)).toArray 3)/\Z.heap[bN]?=ae (.cells (Q.map (aA .i64)).toArray 3)):=⟨λZ t=>by
  have cW:=G.1.2.2.2.1.row_ne G.1.1;have eh:=H.1.2.2.2.1.row_ne H.1.1;have L:bb.heap[ar]?=ae (.cells (P.map (aA .i64)).toArray 3):=by rw[H.1.2.2.2.2.g.block ar (block_lt G.1.1) (by intro e;injection e with e;exact cW e)];exact G.1.1
  exact⟨t.block H.1.2.2.2.1 cW L,t.block H.1.2.2.2.1 eh H.1.1⟩⟩
 have al:=af (And.intro G.1.2.1.len (And.intro G.1.2.2.1 (And.intro H.1.2.1.len H.1.2.2.1)));obtain⟨m,hm⟩:=iC (min A.items.length B.items.length);have eS:min (A.items.length:Int) (B.items.length:Int)=(m:Int):=iE
 have eT:(m:Int)<=1000000:=by have:=d3.1;omega
 have cX:=af (show m<=A.items.length/\m<=B.items.length from⟨iE,iE⟩);have cY:P.length=A.items.length:=al.1.1;have c0:Q.length=B.items.length:=al.1.2.2.1;rw[cY,c0,hm]at d;clear hm cY c0 G H bM cE bx bA ap ba
 as_aux_lemma=>
 go_wp2
 go_loopw [94] (λbO wr=>∃k:Nat,bO=.int .i64 k/\k<=m/\iY N (.slice (ae ⟨nb,no,ag⟩) N.length vc) root tb sr ent w0 bb wr/\∀l,l<k->rQ c A B P Q l=0) (λbO _=>m - (intOf bO).toNat)
 case atStart=>exact⟨0,rfl,di _,iY.refl _,λl h=>absurd h (aJ _)⟩
 case round=>
  as_aux_lemma=>
  obtain⟨k,rfl,cC,ak,p⟩:=hrel;obtain⟨S,ei⟩:∃S:ax,S=wr:=⟨_,rfl⟩;subst ei;have V:PLift (iY N (.slice (ae ⟨nb,no,ag⟩) N.length vc) root tb sr ent w0 X S):=⟨ef.1.trans ak⟩;have T:=af (And.intro ak p);have bc:PLift (iY N (.slice (ae ⟨nb,no,ag⟩) N.length vc) root tb sr ent w0 S S):=⟨iY.refl _⟩;clear ak p;by_cases bd:k<m
  ·have eV:(k:Int)<(m:Int):=iE
   have bR:k<P.length:=(by rw[al.1.1];have:=cX.1;omega);have bS:k<Q.length:=(by rw[al.1.2.2.1];have:=cX.1;omega);have ej:=al.1.2.1 _ (getD_mem bR);have ek:=al.1.2.2.2 _ (getD_mem bS);obtain⟨n,be⟩:∃n:Nat,P.getD k 0=(n:Int):=⟨(P.getD k 0).toNat,iE⟩;obtain⟨o,bf⟩:∃o:Nat,Q.getD k 0=(o:Int):=⟨(Q.getD k 0).toNat,iE⟩;have am:n<A.items.length:=iE;have an:o<B.items.length:=iE;have eW:(n:Int)<(A.items.length:Int):=iE;have eZ:(o:Int)<(B.items.length:Int):=iE;obtain⟨bX,b0,rfl,c1⟩:=a4.1.2.1.at am;obtain⟨b4,b5,rfl,c2⟩:=a4.1.2.2.2.at an;have bg:=af bd;have bh:=af (λZ b r=>a5.1.2.2.2.2 _ (getD_mem am) _ (getD_mem an) Z b r);have I:rQ c A B P Q k=(if A.kind=10 then(if cO c (kW A.keys (n:Int)) (kW B.keys (o:Int))≠0 then cO c (kW A.keys (n:Int)) (kW B.keys (o:Int))else cO c (kW A.items (n:Int)) (kW B.items (o:Int)))else cO c (kW A.items (n:Int)) (kW B.items (o:Int))):=(by unfold rQ;rw[be,bf]);rw[KI c am an]at I
   have av:PLift (∀Z,iY N (.slice (ae ⟨nb,no,ag⟩) N.length vc) root tb sr ent w0 S Z->((∃b,CT N (.slice (ae ⟨nb,no,ag⟩) N.length vc) root tb sr ent w0 b Z/\KT sr E b X Z)/\Z.cell? ⟨tb,0,ag⟩=ae (.slice (ae ⟨nb,no,ag⟩) N.length vc)/\(Z.cell? ⟨nb,no+i*5,ag⟩=ae (.int .i64 A.kind)/\Z.cell? ⟨nb,no+i*5+1,ag⟩=ae (.string A.text)/\Z.cell? ⟨nb,no+i*5+2,ag⟩=ae (.bool A.ord)/\Z.cell? ⟨nb,no+i*5+3,ag⟩=ae (.slice bq A.keys.length bs)/\Z.cell? ⟨nb,no+i*5+4,ag⟩=ae (.slice (ae ⟨bX,b0,ag⟩) A.items.length bt))/\(Z.cell? ⟨nb,no+j*5,ag⟩=ae (.int .i64 B.kind)/\Z.cell? ⟨nb,no+j*5+1,ag⟩=ae (.string B.text)/\Z.cell? ⟨nb,no+j*5+2,ag⟩=ae (.bool B.ord)/\Z.cell? ⟨nb,no+j*5+3,ag⟩=ae (.slice br B.keys.length bv)/\Z.cell? ⟨nb,no+j*5+4,ag⟩=ae (.slice (ae ⟨b4,b5,ag⟩) B.items.length bw)))/\Z.cell? ⟨ar,k,ag⟩=ae (.int .i64 (n:Nat))/\Z.cell? ⟨bN,k,ag⟩=ae (.int .i64 (o:Nat))/\Z.cell? ⟨bX,b0+n,ag⟩=ae (.int .i64 (A.items.getD n 0))/\Z.cell? ⟨b4,b5+o,ag⟩=ae (.int .i64 (B.items.getD o 0))):=⟨λZ t=>by
    have L:=O.1 Z (V.1.trans t);have c3:=eg.1 Z (T.1.1.trans t);have el:=L;obtain⟨⟨b,r,em⟩,_⟩:=el;refine⟨L,?_,?_,iU r.below c1,iU r.below c2⟩
    ·rw[au c3.1,<-be]
     simp[bR,aj]
    ·rw[au c3.2,<-bf]
     simp[bS,aj]⟩
   obtain⟨bi,c4⟩:=iC (A.items.getD n 0);obtain⟨bj,c5⟩:=iC (B.items.getD o 0);obtain⟨q,c6⟩:=iC (c (A.items.getD n 0).toNat (B.items.getD o 0).toNat);rw[c6]at I bh;rw[c4,c5]at bh av
   have aw:=af (λh:rQ c A B P Q k≠0=>d.1.symm.trans (by have e:=V8 (g:=rQ c A B P Q) bd (λl b6=>T.1.2 l b6) h;rw[e,gY h]))
   have c7:=(av.1 S bc.1).1;have a6:=c7.2.2.1.1;clear ej ek bR bS c1 c2 c6 c4 c5;by_cases aD:A.kind=10
   ·have en:(A.kind==10)=aK:=by rw[aD];rfl
    rw[gY aD]at I;have eo:B.kind=10:=iE;have bk:n<A.keys.length:=(by rw[a5.1.2.1 aD];exact am);have bl:o<B.keys.length:=(by rw[a5.1.2.2.1 eo];exact an);have e0:(n:Int)<(A.keys.length:Int):=iE;have e1:(o:Int)<(B.keys.length:Int):=iE;rw[KI c bk bl]at I;obtain⟨c8,c9,rfl,da⟩:=a4.1.1.at bk;obtain⟨db,dc,rfl,dd⟩:=a4.1.2.2.1.at bl;have b7:=af (λZ b r=>a5.1.2.2.2.1 _ (getD_mem bk) _ (getD_mem bl) Z b r)
    have de:PLift (∀Z,iY N (.slice (ae ⟨nb,no,ag⟩) N.length vc) root tb sr ent w0 S Z->((∃b,CT N (.slice (ae ⟨nb,no,ag⟩) N.length vc) root tb sr ent w0 b Z/\KT sr E b X Z)/\Z.cell? ⟨tb,0,ag⟩=ae (.slice (ae ⟨nb,no,ag⟩) N.length vc)/\(Z.cell? ⟨nb,no+i*5,ag⟩=ae (.int .i64 A.kind)/\Z.cell? ⟨nb,no+i*5+1,ag⟩=ae (.string A.text)/\Z.cell? ⟨nb,no+i*5+2,ag⟩=ae (.bool A.ord)/\Z.cell? ⟨nb,no+i*5+3,ag⟩=ae (.slice (ae ⟨c8,c9,ag⟩) A.keys.length bs)/\Z.cell? ⟨nb,no+i*5+4,ag⟩=ae (.slice (ae ⟨bX,b0,ag⟩) A.items.length bt))/\(Z.cell? ⟨nb,no+j*5,ag⟩=ae (.int .i64 B.kind)/\Z.cell? ⟨nb,no+j*5+1,ag⟩=ae (.string B.text)/\Z.cell? ⟨nb,no+j*5+2,ag⟩=ae (.bool B.ord)/\Z.cell? ⟨nb,no+j*5+3,ag⟩=ae (.slice (ae ⟨db,dc,ag⟩) B.keys.length bv)/\Z.cell? ⟨nb,no+j*5+4,ag⟩=ae (.slice (ae ⟨b4,b5,ag⟩) B.items.length bw)))/\Z.cell? ⟨ar,k,ag⟩=ae (.int .i64 (n:Nat))/\Z.cell? ⟨bN,k,ag⟩=ae (.int .i64 (o:Nat))/\Z.cell? ⟨c8,c9+n,ag⟩=ae (.int .i64 (A.keys.getD n 0))/\Z.cell? ⟨db,dc+o,ag⟩=ae (.int .i64 (B.keys.getD o 0))):=⟨λZ t=>by have L:=av.1 Z t;obtain⟨⟨b,r,em⟩,_⟩:=L.1;exact⟨L.1,L.2.1,L.2.2.1,iU r.below da,iU r.below dd⟩⟩
    obtain⟨b8,df⟩:=iC (A.keys.getD n 0);obtain⟨b9,dg⟩:=iC (B.keys.getD o 0);obtain⟨W,dj⟩:=iC (c (A.keys.getD n 0).toNat (B.keys.getD o 0).toNat);rw[dj]at I b7;rw[df,dg]at b7 de;have J:=af I;clear da dd dj df dg I bk bl am an be bf bd
    as_aux_lemma=>
    go_upto_region 18 with fail
    refine iY.reg bc.1 (aF:=?_) iF ?_ ?_;rotate_left 1
    ·intro ρ p U
     have a:=af (λz=>de.1 _ (p z));have dk:=λz=>(a.1 z).2.1
     have dl:=λz=>(a.1 z).2.2.1
     have dp:=λz=>(a.1 z).1.2.2.1.2.2.2.1
     have dq:=λz=>(a.1 z).1.2.2.1.2.2.2.2
     have dr:=λz=>(a.1 z).1.2.2.2.2.2.2.1
     have ds:=λz=>(a.1 z).1.2.2.2.2.2.2.2
     have dt:=λz=>(a.1 z).2.2.2.1
     have du:=λz=>(a.1 z).2.2.2.2
     have aE:=af (λz:Mix.iZ (iY N (.slice (ae ⟨nb,no,ag⟩) N.length vc) root tb sr ent w0) ρ=>show bn az 111 #[.pointer (ae ⟨tb,0,ag⟩),.int .i64 b8,.pointer (ae ⟨tb,0,ag⟩),.int .i64 b9,.map ag] z.w (λe W'=>e=.returned (.int .i64 W)/\iY N (.slice (ae ⟨nb,no,ag⟩) N.length vc) root tb sr ent w0 z.w W')from by
      obtain⟨⟨⟨ai,D,_⟩,_⟩,_⟩:=a.1 z
      exact(b7.1 z.w ai D).mono λe W' h=>⟨h.1,λF hF=>by obtain rfl:=hF.uniq D;exact h.2⟩)
     repeat(go_big_quiet_step((go_at_call 111;exact Mix.iZ.calls (λ_ _ _ h k=>h.trans k) (aE.1 _))))
     apply aN;exact rfl
    intro e2 dv;have dx:=af dv;clear dv;by_cases K:W=0
    ·have ca:=af (λh:q=0=>J.1.trans (by rw[gZ (λe=>e K),h]))
     have cb:=af (λh:q≠0=>(aw.1 (by rw[J.1,gZ (λe=>e K)];exact h)).trans (J.1.trans (by rw[gZ (λe=>e K)])));have ep:(W==0)=aK:=(by rw[K];rfl);subst K;clear c7 a6 J aw
     as_aux_lemma=>
     go_upto_region 21 with fail
     refine iY.reg dx.1 (aF:=?_) iF ?_ ?_;rotate_left 1
     ·intro ρ p U
      have a:=af (λz=>av.1 _ (p z));have dk:=λz=>(a.1 z).2.1
      have dl:=λz=>(a.1 z).2.2.1
      have dp:=λz=>(a.1 z).1.2.2.1.2.2.2.1
      have dq:=λz=>(a.1 z).1.2.2.1.2.2.2.2
      have dr:=λz=>(a.1 z).1.2.2.2.2.2.2.1
      have ds:=λz=>(a.1 z).1.2.2.2.2.2.2.2
      have dt:=λz=>(a.1 z).2.2.2.1
      have du:=λz=>(a.1 z).2.2.2.2
      have aE:=af (λz:Mix.iZ (iY N (.slice (ae ⟨nb,no,ag⟩) N.length vc) root tb sr ent w0) ρ=>show bn az 111 #[.pointer (ae ⟨tb,0,ag⟩),.int .i64 bi,.pointer (ae ⟨tb,0,ag⟩),.int .i64 bj,.map ag] z.w (λe W'=>e=.returned (.int .i64 q)/\iY N (.slice (ae ⟨nb,no,ag⟩) N.length vc) root tb sr ent w0 z.w W')from by
       obtain⟨⟨⟨ai,D,_⟩,_⟩,_⟩:=a.1 z
       exact(bh.1 z.w ai D).mono λe W' h=>⟨h.1,λF hF=>by obtain rfl:=hF.uniq D;exact h.2⟩)
      repeat(go_big_quiet_step((go_at_call 111;exact Mix.iZ.calls (λ_ _ _ h k=>h.trans k) (aE.1 _))))
      apply aN;exact rfl
     intro eq aG;have aL:=af aG;clear aG;by_cases u:q=0
     ·have cc:=af (ca.1 u)
      subst u
      as_aux_lemma=>
      go_wp2;go_roundw
      case rel=>exact⟨k+1,by go_num,by have:=bg.1;omega,T.1.1.trans aL.1,λl b6=>by
       by_cases e:l=k
       ·rw[e];exact cc.1
       ·exact T.1.2 l iE⟩
      case measure=>have:=bg.1;simp[intOf];omega
     ·have er:(q==0)=aO:=by rw[iy];exact u
      have es:(q !=0)=aK:=(by rw[bne_iff_ne];exact u);have f:=af (cb.1 u)
      as_aux_lemma=>
      go_wp2;go_ret;exact⟨by rw[f.1];rfl,(V.1.trans aL.1) E s.1⟩
    ·have ep:(W==0)=aO:=by rw[iy];exact K
     have e3:(W !=0)=aK:=(by rw[bne_iff_ne];exact K);have f:=af ((aw.1 (by rw[J.1,gY K];exact K)).trans (J.1.trans (by rw[gY K])))
     as_aux_lemma=>
     go_wp2;go_ret;exact⟨by rw[f.1];rfl,(V.1.trans dx.1) E s.1⟩
   ·have en:(A.kind==10)=aO:=by rw[iy];exact aD
    rw[gZ aD]at I;have J:=af I;have ca:=af (λh:q=0=>J.1.trans h);have cb:=af (λh:q≠0=>(aw.1 (by rw[J.1];exact h)).trans J.1);clear I am an be bf bd aw
    as_aux_lemma=>
    go_upto_region 21 with fail
    refine iY.reg bc.1 (aF:=?_) iF ?_ ?_;rotate_left 1
    ·intro ρ p U
     have a:=af (λz=>av.1 _ (p z));have dk:=λz=>(a.1 z).2.1
     have dl:=λz=>(a.1 z).2.2.1
     have dp:=λz=>(a.1 z).1.2.2.1.2.2.2.1
     have dq:=λz=>(a.1 z).1.2.2.1.2.2.2.2
     have dr:=λz=>(a.1 z).1.2.2.2.2.2.2.1
     have ds:=λz=>(a.1 z).1.2.2.2.2.2.2.2
     have dt:=λz=>(a.1 z).2.2.2.1
     have du:=λz=>(a.1 z).2.2.2.2
     have aE:=af (λz:Mix.iZ (iY N (.slice (ae ⟨nb,no,ag⟩) N.length vc) root tb sr ent w0) ρ=>show bn az 111 #[.pointer (ae ⟨tb,0,ag⟩),.int .i64 bi,.pointer (ae ⟨tb,0,ag⟩),.int .i64 bj,.map ag] z.w (λe W'=>e=.returned (.int .i64 q)/\iY N (.slice (ae ⟨nb,no,ag⟩) N.length vc) root tb sr ent w0 z.w W')from by
      obtain⟨⟨⟨ai,D,_⟩,_⟩,_⟩:=a.1 z
      exact(bh.1 z.w ai D).mono λe W' h=>⟨h.1,λF hF=>by obtain rfl:=hF.uniq D;exact h.2⟩)
     repeat(go_big_quiet_step((go_at_call 111;exact Mix.iZ.calls (λ_ _ _ h k=>h.trans k) (aE.1 _))))
     apply aN;exact rfl
    intro eq aG;have aL:=af aG;clear aG;by_cases u:q=0
    ·have cc:=af (ca.1 u)
     subst u
     as_aux_lemma=>
     go_wp2;go_roundw
     case rel=>exact⟨k+1,by go_num,by have:=bg.1;omega,T.1.1.trans aL.1,λl b6=>by
      by_cases e:l=k
      ·rw[e];exact cc.1
      ·exact T.1.2 l iE⟩
     case measure=>have:=bg.1;simp[intOf];omega
    ·have er:(q==0)=aO:=by rw[iy];exact u
     have es:(q !=0)=aK:=(by rw[bne_iff_ne];exact u);have f:=af (cb.1 u)
     as_aux_lemma=>
     go_wp2;go_ret;exact⟨by rw[f.1];rfl,(V.1.trans aL.1) E s.1⟩
  ·obtain rfl:k=m:=iE
   have dy:=V9 T.1.2;have cd:=d.1;rw[gZ (show ¬xK (rQ c A B P Q) _≠0 from λh=>h dy)]at cd;have d:=af cd;clear dy cd;clear T bc;by_cases dz:A.items.length<B.items.length
   ·have et:(A.items.length:Int)<(B.items.length:Int):=iE
    have f:=af (d.1.symm.trans (gY dz))
    as_aux_lemma=>
    go_wp2;go_ret;exact⟨by rw[f.1];rfl,V.1 E s.1⟩
   ·have et:¬(A.items.length:Int)<(B.items.length:Int):=iE
    have d:=af ((gZ dz).symm.trans d.1);by_cases dS:A.items.length>B.items.length
    ·have ev:(B.items.length:Int)<(A.items.length:Int):=iE
     have f:=af (d.1.symm.trans (gY dS))
     as_aux_lemma=>
     go_wp2;go_ret;exact⟨by rw[f.1];rfl,V.1 E s.1⟩
    ·have ev:¬(B.items.length:Int)<(A.items.length:Int):=iE
     have f:=af (d.1.symm.trans (gZ dS))
     as_aux_lemma=>
     go_wp2;go_ret;exact⟨by rw[f.1];rfl,V.1 E s.1⟩
end
end Go.Proofs.YthcalnnipjflkaaGreatDoor
namespace Go.Proofs.YthcalnnipjflkaaGreatDoor
open Go.RowKit Go.Sort
open Go.WideMaps (KeyLaw)
open Go.Lib hiding intOf
theorem KJ:KeyLaw az 193:=
 deep_law_laid iF (m:=2) iE (of_decide_eq_true iF) iF iF
theorem Xw (a b:Int)(d:(Lit.int .i64 a).wf=aK)(wb:(Lit.int .i64 b).wf=aK):∃l,keyOf az 193 (.agg #[.int .i64 a,.int .i64 b])=ae l:=by
 have e:Tryz.prog.keyType 193=aK:=iF
 unfold keyOf;rw[bz];simp only[e,Value.formed,bz];have c:Tryz.prog.cellsOf 193=2:=iF
 have f:Tryz.prog.cellsOf 3=1:=iF
 obtain⟨m,hm⟩:∃m,Tryz.prog.types.size=m+1:=Nat.exists_eq_succ_of_ne_zero (Nat.pos_iff_ne_zero.1 (of_decide_eq_true iF));rw[c,hm];simp only[Value.cells,Program.keyLits,bz,c];simp only[f,Tryz.underlying3,show ay 2=[0,1]from rfl];simp[d,wb]
theorem lookup_nil (a b:Int)(d:(Lit.int .i64 a).wf=aK)(wb:(Lit.int .i64 b).wf=aK)(w:ax):(Instr.lookup 192 (.map ag) (.agg #[.int .i64 a,.int .i64 b]) aK).run az w=.ok (.tuple #[.int .i64 0,.bool aO]) w:=by
 obtain⟨l,c⟩:=Xw a b d wb;have f:(zeroValue 3).run az w=.ok (.int .i64 0) w:=rfl;rcases KJ.find w c [] iH with⟨g,_⟩|⟨j,e,_,h,_⟩
 ·simp[Instr.lookup,run_underlying Tryz.underlying192,KJ.check w _ c,g,f,Result.andThen]
 ·simp at h
theorem Xx (w:ax):(binOp .neq 192 (.map ag) (.map ag)).run az w=.ok (.bool aO) w:=by
 first
  |rfl
  |simp[binOp]
section
variable {N:List Nd} {v:aH} {root:Int} {tb sr:Nat} {ent:Nat->List Int} {w0:ax} {E:List aH} {X:ax}
theorem Xy (i j:Nat)(hi:i<=1000000)(f:j<=1000000)(c:Int)(hd:bn az 125 #[.pointer (ae ⟨tb,0,ag⟩),.int .i64 (i:Nat),.pointer (ae ⟨tb,0,ag⟩),.int .i64 (j:Nat),.map ag] X λe Y=>e=.returned (.int .i64 c)/\∃a,CT N v root tb sr ent w0 a Y/\KT sr E a X Y):
  bn az 111 #[.pointer (ae ⟨tb,0,ag⟩),.int .i64 (i:Nat),.pointer (ae ⟨tb,0,ag⟩),.int .i64 (j:Nat),.map ag] X λe Y=>e=.returned (.int .i64 c)/\∃a,CT N v root tb sr ent w0 a Y/\KT sr E a X Y:=by
 have g:=af hd;have k:=Xx;have wi:(Lit.int .i64 (i:Int)).wf=aK:=by simp[Lit.wf,IntKind.min,IntKind.max,IntKind.signed,IntKind.bits];omega
 have b:(Lit.int .i64 (j:Int)).wf=aK:=by simp[Lit.wf,IntKind.min,IntKind.max,IntKind.signed,IntKind.bits];omega
 have l:=λw=>lookup_nil (i:Int) (j:Int) wi b w
 clear hd wi b hi f;go_enter Tryz.func111,Tryz.ntmps111
 go_wp2_with(go_at_call 125;refine g.1.mono ?_;rintro e m ⟨rfl,d⟩;have h:=af d;clear d)
 go_ret;exact⟨rfl,h.1⟩
end
end Go.Proofs.YthcalnnipjflkaaGreatDoor
namespace Go.Proofs.YthcalnnipjflkaaGreatDoor
open Go.RowKit Go.Sort
open Go.Lib hiding intOf
structure Fine (N:List Nd)(K:Nat->Prop)(H:Nat->Nat)(F:Nat):Prop where
 wf:uT N K H
 fu:∀i,K i->H i<F
 rng:nN N
 txt:∀n∈N,n.text.size<=70000
 fit:yV N
 xN:∀n∈N,n.items.length<=1000000
 len:N.length<=1000000
def tH (N:List Nd)(F:Nat)(i:Nat):List Int:=jY N (pO N F) i
section
variable {N:List Nd} {v:aH} {root:Int} {tb sr:Nat} {w0:ax} {K:Nat->Prop} {H:Nat->Nat} {F:Nat}
theorem Fine.mem (h:Fine N K H F){i:Nat}(hi:i<N.length):N.getD i nd0∈N:=by rw[aj,ah hi,aQ];exact bV hi
theorem pU.KL {a:Nat->List Int}{x y c:Int}(hx:0<=x)(hy:0<=y)(h:pU N v root tb sr a w0 ((x.toNat:Nat):Int) ((y.toNat:Nat):Int) c):pU N v root tb sr a w0 x y c:=by rw[bK hx,bK hy]at h;exact h
theorem Xz (hf:Fine N K H F)(n:jM w0):∀f i j,K i->K j->H i<f->H j<f->pU N v root tb sr (tH N F) w0 ((i:Nat):Int) ((j:Nat):Int) (pO N F i j):=by
 intro f
 induction f with
 |zero=>intro _ _ _ _ h;exact absurd h (aJ _)
 |succ f o=>
  intro i j hi d s t X E p;obtain⟨e,q⟩:=hf.wf i hi;obtain⟨g,r⟩:=hf.wf j d;have a:=hf.mem e;have b:=hf.mem g
  have pairs:∀x,(x∈(N.getD i nd0).keys++(N.getD i nd0).items\/x∈(N.getD j nd0).keys++(N.getD j nd0).items)->0<=x/\K x.toNat/\H x.toNat<f:=λx hx=>by
   rcases hx with h|h
   ·have k:=q x h
    refine⟨?_,k.1,iE⟩;rcases bW.1 h with h|h
    ·exact((hf.rng _ a).1 x h).1
    ·exact((hf.rng _ a).2 x h).1
   ·have k:=r x h
    refine⟨?_,k.1,iE⟩;rcases bW.1 h with h|h
    ·exact((hf.rng _ b).1 x h).1
    ·exact((hf.rng _ b).2 x h).1
  have c:∀x y,(x∈(N.getD i nd0).keys++(N.getD i nd0).items\/x∈(N.getD j nd0).keys++(N.getD j nd0).items)->(y∈(N.getD i nd0).keys++(N.getD i nd0).items\/y∈(N.getD j nd0).keys++(N.getD j nd0).items)->pU N v root tb sr (tH N F) w0 x y (pO N F x.toNat y.toNat):=λx y hx hy=>by have l:=pairs x hx;have m:=pairs y hy;exact pU.KL l.1 m.1 (o _ _ l.2.1 m.2.1 l.2.2 m.2.2)
  rw[Wh hf.wf hi d (hf.fu i hi) (hf.fu j d)];refine Xy i j (by have:=hf.len;omega) (by have:=hf.len;omega) _ (Xv (pO N F) i j p e g n ⟨hf.txt _ a,hf.txt _ b⟩ (hf.fit _ a) (hf.fit _ b) (hf.xN _ a) (hf.xN _ b) ?_ ?_ rfl rfl ?_ ?_)
  ·exact Fz (pO N F) i e (hf.fit _ a) (hf.xN _ a) rfl λ_ _ x y hx hy=>c _ _ (.inl (aB _ (getD_mem hx))) (.inl (aB _ (getD_mem hy)))
  ·exact Fz (pO N F) j g (hf.fit _ b) (hf.xN _ b) rfl λ_ _ x y hx hy=>c _ _ (.inr (aB _ (getD_mem hx))) (.inr (aB _ (getD_mem hy)))
  ·exact λx hx y hy=>c x y (.inl (aB _ hx)) (.inr (aB _ hy))
  ·exact λx hx y hy=>c x y (.inl (aP _ hx)) (.inr (aP _ hy))
theorem XA (hf:Fine N K H F)(e:jM w0)(i:Nat)(hi:i<N.length)(a:∀x∈(N.getD i nd0).keys,K x.toNat):wH N v root tb sr (tH N F) w0 i:=by
 have b:=hf.mem hi;refine Fz (pO N F) i hi (hf.fit _ b) (hf.xN _ b) rfl λ_ _ x y hx hy=>?_
 have c:=getD_mem hx;have d:=getD_mem hy;exact pU.KL ((hf.rng _ b).1 _ c).1 ((hf.rng _ b).1 _ d).1 (Xz hf e F _ _ (a _ c) (a _ d) (hf.fu _ (a _ c)) (hf.fu _ (a _ d)))
end
def rU (rec:Nat->List UInt8)(n:Nd)(P:List Int)(k:Nat):List UInt8:=
 ((if k=0 then[]else[44])++(if n.kind=10 then rec (n.keys.getD (P.getD k 0).toNat 0).toNat++[61]else[]))++rec (n.items.getD (P.getD k 0).toNat 0).toNat
def Di (n:Nd):UInt8:=if n.kind=10 then(if n.ord=aK then 60 else 123)else 91
def Dj (n:Nd):UInt8:=if n.kind=10 then(if n.ord=aK then 62 else 125)else 93
def lJ (N:List Nd)(E:Nat->List Int):Nat->Nat->List UInt8
 |0,_=>[]
 |f+1,a=>if(N.getD a nd0).kind=11 then(33::(N.getD a nd0).text.data.toList++[40])++lJ N E f ((N.getD a nd0).items.getD 0 0).toNat++[41]
  else if(N.getD a nd0).kind<9 then(o7 (N.getD a nd0)).data.toList
  else([Di (N.getD a nd0)]++(ay (N.getD a nd0).items.length).flatMap (rU (lJ N E f) (N.getD a nd0) (E a)))++[Dj (N.getD a nd0)]
def nD (rec:Nat->Nat)(n:Nd)(k:Nat):Nat:=(if n.kind=10 then 1+rec (n.keys.getD k 0).toNat else 0)+rec (n.items.getD k 0).toNat
def pV (n:Nd):Nat:=if n.kind=9 then 2+(n.items.length - 1)else if n.kind=10 then 2+(n.items.length - 1)else if n.kind=11 then 3+n.text.size else(o7 n).size
def jV (N:List Nd):Nat->Nat->Nat
 |0,_=>0
 |f+1,a=>pV (N.getD a nd0)+((ay (N.getD a nd0).items.length).map (nD (jV N f) (N.getD a nd0))).sum
def Fm (N:List Nd):Prop:=∀n∈N,n.kind<=11/\(n.kind<9->n.items=[])/\(n.kind=11->n.items.length=1)
theorem KQ {α:Type}(g h:α->Nat):∀l:List α,(l.map λx=>g x+h x).sum=(l.map g).sum+(l.map h).sum
 |[]=>rfl
 |x::l=>by simp only[aW,aI,KQ g h l];omega
theorem KR:∀n:Nat,((ay n).map λk=>if k=0 then 0 else 1).sum=n - 1
 |0=>rfl
 |n+1=>by rw[bY,List.map_append,List.sum_append,KR n];simp only[aW,cZ,aI,dh];split<;>omega
theorem XH {l m:List Nat}(h:l.Perm m):l.sum=m.sum:=by
 induction h with
 |nil=>rfl
 |cons x _ a=>simp only[aI,a]
 |swap x y l=>simp only[aI];omega
 |trans _ _ b c=>exact b.trans c
theorem XI {P:List Int}{L:Nat}(a:qp P L)(g:Nat->Nat):((ay L).map λk=>g (P.getD k 0).toNat).sum=((ay L).map g).sum:=by
 have e1:(ay L).map (λk=>g (P.getD k 0).toNat)=P.map λx=>g x.toNat:=by
  apply List.ext_getElem
  ·simp[a.len]
  ·intro i e b
   have c:i<P.length:=(by simpa using b);simp[aj,c]
 have d:(nC L).toList.map (λx=>g x.toNat)=(ay L).map g:=by unfold nC;simp[List.map_map,Function.comp_def]
 rw[e1,<-d];exact XH (a.pm.map _)
theorem FD (N:List Nd)(a:Nat):(a<N.length/\N.getD a nd0∈N)\/N.getD a nd0=nd0:=by
 by_cases h:a<N.length
 ·refine .inl ⟨h,?_⟩
  rw[aj,ah h,aQ];exact bV h
 ·right
  rw[aj,List.getElem?_eq_none iE]
  rfl
theorem Fm.at {N:List Nd}(h:Fm N)(a:Nat):(N.getD a nd0).kind<=11/\((N.getD a nd0).kind<9->(N.getD a nd0).items=[])/\((N.getD a nd0).kind=11->(N.getD a nd0).items.length=1):=by
 rcases FD N a with⟨_,b⟩|b
 ·exact h _ b
 ·rw[b]
  exact⟨iG,λ_=>rfl,λh=>absurd h iG⟩
theorem KU {N:List Nd}{E:Nat->List Int}(hf:Fm N)(i:∀a,a<N.length->qp (E a) (N.getD a nd0).items.length):∀f a,(lJ N E f a).length=jV N f a:=by
 intro f
 induction f with
 |zero=>intro a;rfl
 |succ f c=>
  intro a;have ha:=hf.at a
  have g:9<=(N.getD a nd0).kind->qp (E a) (N.getD a nd0).items.length:=λh=>by
   rcases FD N a with⟨d,_⟩|d
   ·exact i a d
   ·rw[d]at h;exact absurd h iG
  unfold lJ jV;generalize N.getD a nd0=n at ha g;by_cases b:n.kind=11
  ·rw[gY b]
   unfold pV;rw[gZ iE,gZ iE,gY b,ha.2.2 b];simp only[bY,List.range_zero,List.nil_append,aW,cZ,aI,dh,aC,aS,bG,c];unfold nD;rw[gZ iE];have:n.text.data.toList.length=n.text.size:=iH;omega
  ·rw[gZ b]
   by_cases e:n.kind<9
   ·rw[gY e]
    unfold pV;rw[gZ iE,gZ iE,gZ b,ha.2.1 e];simp
   ·rw[gZ e]
    have j:=g iE
    have l:∀k,(rU (lJ N E f) n (E a) k).length=(if k=0 then 0 else 1)+nD (jV N f) n ((E a).getD k 0).toNat:=λk=>by
     unfold rU nD;rw[aC,aC,c];have e1:(if k=0 then([]:List UInt8)else[44]).length=if k=0 then 0 else 1:=by split<;>rfl
     have m:(if n.kind=10 then lJ N E f (n.keys.getD ((E a).getD k 0).toNat 0).toNat++[61]else[]).length=if n.kind=10 then 1+jV N f (n.keys.getD ((E a).getD k 0).toNat 0).toNat else 0:=by
      split
      ·rw[aC,c];simp;omega
      ·rfl
     rw[e1,m];omega
    have o:pV n=2+(n.items.length - 1):=by
     unfold pV;by_cases h:n.kind=9
     ·rw[gY h]
     ·rw[gZ h,gY iE]
    rw[o,aC,aC,List.length_flatMap];rw[show(ay n.items.length).map (λk=>(rU (lJ N E f) n (E a) k).length)=(ay n.items.length).map (λk=>(if k=0 then 0 else 1)+nD (jV N f) n ((E a).getD k 0).toNat)from bP λk _=>l k];rw[KQ (λk=>if k=0 then 0 else 1) (λk=>nD (jV N f) n ((E a).getD k 0).toNat),KR,XI j (nD (jV N f) n)];simp only[aS,bG];omega
theorem FH {N:List Nd}{K:Nat->Prop}{H:Nat->Nat}(a:uT N K H)(b:yV N):∀f i,K i->H i<f->jV N (f+1) i=jV N f i
 |0,_,_,h=>absurd h (aJ _)
 |f+1,i,hi,h=>by
  show pV (N.getD i nd0)+((ay (N.getD i nd0).items.length).map (nD (jV N (f+1)) (N.getD i nd0))).sum=pV (N.getD i nd0)+((ay (N.getD i nd0).items.length).map (nD (jV N f) (N.getD i nd0))).sum;obtain⟨m,hx⟩:=a i hi
  have hm:(N.getD i nd0).kind=10->(N.getD i nd0).keys.length=(N.getD i nd0).items.length:=by
   rcases FD N i with⟨_,c⟩|c
   ·exact b _ c
   ·rw[c];intro h;exact absurd h iG
  congr 2
  refine bP λk e=>?_
  have d:=bZ.1 e;have g:=hx _ (aP _ (getD_mem d));unfold nD;rw[FH a b f _ g.1 iE];split
  ·rename_i j
   have l:=hx _ (aB _ (getD_mem (by rw[hm j];exact d)));rw[FH a b f _ l.1 iE]
  ·rfl
theorem XJ {N:List Nd}{K:Nat->Prop}{H:Nat->Nat}(a:uT N K H)(b:yV N){F:Nat}{i:Nat}(hi:K i)(h:H i<F):jV N F i=pV (N.getD i nd0)+((ay (N.getD i nd0).items.length).map (nD (jV N F) (N.getD i nd0))).sum:=(FH a b F i hi h).symm
def nM (x:Nat):Nat:=min x 65537
def wJ (N:List Nd)(F:Nat)(a:List Int):Prop:=a.length=N.length/\∀j,j<N.length->0<=a.getD j 0->a.getD j 0=((nM (jV N F j):Nat):Int)
theorem KW (g:Nat->Nat)(c:Nat->Nat)(h:∀k,c k<=g k/\(c k=g k\/65537<=c k)):∀l:List Nat,(l.map c).sum<=(l.map g).sum/\((l.map c).sum=(l.map g).sum\/65537<=(l.map c).sum)
 |[]=>⟨aV _,.inl rfl⟩
 |x::l=>by have a:=h x;have b:=KW g c h l;simp only[aW,aI];omega
def o8 (N:List Nd)(F:Nat)(n:Nd)(k:Nat):Nat:=nD (λi=>nM (jV N F i)) n k
theorem XK (N:List Nd)(F:Nat)(n:Nd)(k:Nat):o8 N F n k<=nD (jV N F) n k/\(o8 N F n k=nD (jV N F) n k\/65537<=o8 N F n k):=by unfold o8 nD nM;dsimp only;split<;>omega
theorem KX (N:List Nd)(F:Nat)(n:Nd)(k:Nat):o8 N F n k<=131075:=by unfold o8 nD nM;dsimp only;split<;>omega
theorem Dk {x:Nat}(h:x<=4611686018427387904):wrap64 (x:Int)=(x:Int):=by unfold wrap64;omega
theorem XL {N:List Nd}{F f:Nat}{K:Nat->Prop}{H:Nat->Nat}(l:∀a p,K a->H a<f->wJ N F p->∃K',qy N f a p=ae K'/\wJ N F K'/\K'.getD a 0=((nM (jV N F a):Nat):Int))(n:Nd)(hm:n.kind=10->n.keys.length=n.items.length)
  (hx:∀x∈n.keys++n.items,K x.toNat/\H x.toNat<f):∀(m i s:Nat) (b:List Int),i+m<=n.items.length->s+m*131075<=4611686018427387904->wJ N F b->
   ∃j,(bU i m).foldlM (stepG (qy N f) n) ((s:Int),b)=ae (((s+((bU i m).map (o8 N F n)).sum:Nat):Int),j)/\wJ N F j:=by
 intro m
 induction m with
 |zero=>intro i s b _ _ h;exact⟨b,iH,h⟩
 |succ m t=>
  intro i s b A B hS;have q:i<n.items.length:=iE
  have k:=hx _ (aP _ (getD_mem q))
  have u:∃c,stepG (qy N f) n ((s:Int),b) i=ae (((s+o8 N F n i:Nat):Int),c)/\wJ N F c:=by
   have o:=KX N F n i;unfold stepG;by_cases d:n.kind=10
   ·rw[gY d]
    have v:i<n.keys.length:=(by rw[hm d];exact q);have r:=hx _ (aB _ (getD_mem v));obtain⟨w,e1,y,v1⟩:=l _ b r.1 r.2 hS;obtain⟨c,e,g,v2⟩:=l _ w k.1 k.2 y;refine⟨c,?_,g⟩;rw[e1];simp only[bH,bF];rw[e];simp only[bH];rw[v1,v2];have hc:o8 N F n i=(1+nM (jV N F (n.keys.getD i 0).toNat))+nM (jV N F (n.items.getD i 0).toNat):=(by unfold o8 nD;rw[gY d]);rw[hc]at o⊢;rw[show(1:Int)+((nM (jV N F (n.keys.getD i 0).toNat):Nat):Int)=((1+nM (jV N F (n.keys.getD i 0).toNat):Nat):Int) by omega,Dk iE,<-bI,Dk iE,<-bI,Dk iE];rw[cu]
   ·rw[gZ d]
    obtain⟨c,e,g,v2⟩:=l _ b k.1 k.2 hS;refine⟨c,?_,g⟩;simp only[bF];rw[e];simp only[bH];rw[v2];have hc:o8 N F n i=nM (jV N F (n.items.getD i 0).toNat):=(by unfold o8 nD;rw[gZ d,bD]);rw[hc]at o⊢;rw[<-bI,Dk iE]
  obtain⟨c,e,g⟩:=u;have o:=KX N F n i;obtain⟨j,e3,z⟩:=t (i+1) (s+o8 N F n i) c iE iE g;refine⟨j,?_,z⟩;rw[List.range'_succ,List.foldlM_cons,e];simp only[Option.bind_eq_bind,bF];rw[e3,aW,aI,cu]
theorem XM (l:List UInt8):(quo l).length<=2*l.length+2:=by
 unfold quo
 have:∀l:List UInt8,(l.flatMap mF).length<=2*l.length:=by
  intro l
  induction l with
  |nil=>exact aV _
  |cons c l a=>rw[List.flatMap_cons,aC,aS];have:(mF c).length<=2:=(by unfold mF;split<;>simp);omega
 have:=this l;simp only[aS,aC,bG];omega
theorem XN (n:Nd):(o7 n).size<=2*n.text.size+4:=by
 unfold o7 CY;have a:n.text.data.toList.length=n.text.size:=iH
 split
 ·show(35::n.text.data.toList.flatMap qx).toArray.size<=_
  rw[bT,aS,KN,a];omega
 split
 ·show 4<=_;omega
 split
 ·show(quo n.text.data.toList).toArray.size<=_
  have:=XM n.text.data.toList;rw[bT];omega
 split
 ·rw[ByteArray.size_append]
  show 1+n.text.size<=_;omega
 split
 ·rw[ByteArray.size_append]
  show 1+n.text.size<=_;omega
 ·omega
theorem XO (n:Nd):wI n=((pV n:Nat):Int):=by
 unfold wI pV;split
 ·omega
 split
 ·omega
 split
 ·omega
 ·rfl
theorem XP {N:List Nd}{K:Nat->Prop}{H:Nat->Nat}{F:Nat}(hf:Fine N K H F):∀f a b,K a->H a<f->wJ N F b->∃K',qy N f a b=ae K'/\wJ N F K'/\K'.getD a 0=((nM (jV N F a):Nat):Int):=by
 intro f
 induction f with
 |zero=>intro a b _ h;exact absurd h (aJ _)
 |succ f n=>
  intro a b ha q hS;obtain⟨c,hx⟩:=hf.wf a ha;have d:=hf.mem c;have hit:=hf.xN _ d;have r:=hf.txt _ d;unfold qy;by_cases g:0<=b.getD a 0
  ·rw[gY g]
   exact⟨b,rfl,hS,hS.2 a c g⟩
  ·rw[gZ g]
   have s:pV (N.getD a nd0)<=2000000:=by
    have:=XN (N.getD a nd0);unfold pV;split
    ·omega
    split
    ·omega
    split
    ·omega
    ·omega
   obtain⟨o,e1,i⟩:=XL (F:=F) n (N.getD a nd0) (hf.fit _ d) (λx l=>⟨(hx x l).1,by have:=(hx x l).2;omega⟩) (N.getD a nd0).items.length 0 (pV (N.getD a nd0)) b iE iE hS;rw[XO,e1]
   have hval:min (((pV (N.getD a nd0)+((bU 0 (N.getD a nd0).items.length).map (o8 N F (N.getD a nd0))).sum:Nat):Int)) 65537=((nM (jV N F a):Nat):Int):=by rw[XJ hf.wf hf.fit ha (hf.fu a ha),<-List.range_eq_range'];have:=KW (nD (jV N F) (N.getD a nd0)) (o8 N F (N.getD a nd0)) (XK N F (N.getD a nd0)) (ay (N.getD a nd0).items.length);unfold nM;omega
   have m:a<o.length:=(by rw[i.1];exact c);refine⟨_,rfl,⟨by simpa using i.1,λj p k=>?_⟩,?_⟩
   ·rw[mZ]at k⊢
    by_cases e:a=j
    ·subst e
     rw[gY ⟨rfl,m⟩];exact hval
    ·rw[gZ (λh=>e h.1)]at k⊢
     exact i.2 j p k
   ·rw[mZ,gY ⟨rfl,m⟩]
    exact hval
end Go.Proofs.YthcalnnipjflkaaGreatDoor
