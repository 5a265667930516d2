import Derived.Test.YthcalnnipjflkaaGreatDoorP11
open Option renaming some -> ae, none -> af
open PLift renaming up -> ag
open Go.Lib renaming cell_of_heap -> ah, frozen_of_heap -> aA, alloc_old -> bD, hid -> bI
open List renaming setIfInBounds_toArray -> aj, set_cons_succ -> au, set_cons_zero -> ax, replicate -> ay, getD_eq_getElem?_getD -> aB, getElem?_eq_getElem -> aJ, getElem_mem -> aV, not_mem_nil -> aW, mem_cons -> aX, map_set -> bu, length_dropLast -> bF, mem_append -> bG, nodup_cons -> bH, nodup_nil -> bJ, count_pos_iff -> bP, length_append -> bQ, mem_singleton -> bT, length_cons -> bW, getElem?_cons_zero -> bY, length_nil -> bZ, length_set -> cu, getElem_ofFn -> di, getElem?_set -> dm, foldlM_cons -> dw, count_cons -> dA, range -> dH
open Array renaming size_push -> az, replicate -> aN, getElem?_eq_some_iff -> aU, getElem?_modify -> aY, getElem?_push -> cZ
open Go renaming Value -> aC, World -> aH, wpOp_step -> aS, heap_alloc_new -> aZ, TypeId -> bK, run_make_row' -> dC, bodyPost_ret -> dE
open Bool renaming false -> aI, true -> bV
open Go.Value renaming int -> aK, slice -> aQ, oneCell' -> dB, bool -> dG
open Nat renaming le_trans -> aO, not_lt_zero -> bn, le_refl -> bC, lt_of_le_of_lt -> dh, zero_le -> dn, le_of_lt -> dD
open Go.World renaming grownBy_alloc -> aP, setCell -> aT, ownsRow_nil -> bU
open Int renaming eq_ofNat_of_zero_le -> bz, le_refl -> dF
set_option linter.all false
set_option maxHeartbeats 4000000
set_option maxRecDepth 100000
namespace Go.Proofs.YthcalnnipjflkaaGreatDoor
open Go.RowKit
open Go.Lib hiding intOf
structure TS where
 next:Int
 index:List Int
 low:List Int
 inn:List Int
 on:List Bool
 stack:List Int
 sizes:List Int
def stepT (visit:Nat->TS->Option TS)(a x:Nat)(s:TS):Option TS:=
 if s.index.getD x 0=0 then(visit x s).map λs=>{s with low:=s.low.set a (min (s.low.getD a 0) (s.low.getD x 0))}
 else if s.on.getD x aI then ae {s with low:=s.low.set a (min (s.low.getD a 0) (s.index.getD x 0))}
 else ae s
def mf (s:TS)(x:Int):TS:={s with stack:=s.stack.dropLast,on:=s.on.set x.toNat aI,inn:=s.inn.set x.toNat s.sizes.length}
def pM (a:Nat):Nat->TS->Int->Option (TS×Int)
 |0,_,_=>af
 |f+1,s,size=>
  match s.stack.getLast? with
  |none=>af
  |some x=>if x=a then ae (mf s x,wrap64 (size+1))else pM a f (mf s x) (wrap64 (size+1))
def lG (a:Nat)(s:TS):TS:={s with next:=wrap64 (s.next+1),index:=s.index.set a (wrap64 (s.next+1)),low:=s.low.set a (wrap64 (s.next+1)),stack:=s.stack++[(a:Int)],on:=s.on.set a bV}
def nJ (visit:Nat->TS->Option TS)(a:Nat)(l:List Int)(s:TS):Option TS:=l.foldlM (λs x=>stepT visit a x.toNat s) s
def xH (a:Nat)(s:TS):Option TS:=
 if s.low.getD a 0=s.index.getD a 0 then(pM a (s.stack.length+1) s 0).map λp=>{p.1 with sizes:=p.1.sizes++[p.2]}else ae s
def mg (N:List Nd):Nat->Nat->TS->Option TS
 |0,_,_=>af
 |f+1,a,s=>(nJ (mg N f) a (N.getD a nd0).keys (lG a s)).bind λs=>(nJ (mg N f) a (N.getD a nd0).items s).bind (xH a)
def uM (N:List Nd)(root:Nat):Option (List Int×List Int):=
 (mg N (N.length+1) root ⟨0,ay N.length 0,ay N.length 0,ay N.length (-1),ay N.length aI,[],[]⟩).map λs=>(s.inn,s.sizes)
example:uM [⟨10,⟨#[]⟩,aI,[1],[2]⟩,⟨5,⟨#[97]⟩,aI,[],[]⟩,⟨9,⟨#[]⟩,aI,[],[3]⟩,⟨2,⟨#[49]⟩,aI,[],[]⟩] 0=ae ([3,0,2,1],[1,1,1,1]):=by decide+kernel
def tobj (d:Fin 13->Nat)(n:Nat)(v:aC)(root:Int)(s:TS)(a b:aC):Fin 13->Obj
 |0=>.cells #[v,.int .i64 root] 117
 |1=>.cells (s.index.map (aK .i64)).toArray 3
 |2=>.cells (s.low.map (aK .i64)).toArray 3
 |3=>.cells (s.inn.map (aK .i64)).toArray 3
 |4=>.cells (s.on.map dG).toArray 4
 |5=>.cells #[.slice (ae ⟨d 1,0,af⟩) n n] 36
 |6=>.cells #[.slice (ae ⟨d 2,0,af⟩) n n] 36
 |7=>.cells #[.slice (ae ⟨d 3,0,af⟩) n n] 36
 |8=>.cells #[.slice (ae ⟨d 4,0,af⟩) n n] 168
 |9=>.cells #[.int .i64 s.next] 3
 |10=>.cells #[.func (.func 136) #[] #[.pointer (ae ⟨d 9,0,af⟩),.pointer (ae ⟨d 5,0,af⟩),.pointer (ae ⟨d 6,0,af⟩),.pointer (ae ⟨d 12,0,af⟩),.pointer (ae ⟨d 8,0,af⟩),.pointer (ae ⟨d 10,0,af⟩),.pointer (ae ⟨d 0,0,af⟩),.pointer (ae ⟨d 11,0,af⟩),.pointer (ae ⟨d 7,0,af⟩)]] 184
 |11=>.cells #[b] 36
 |12=>.cells #[a] 36
structure GX (w0:aH)(v:aC)(root:Int)(N:List Nd)(d:Fin 13->Nat)(base:Nat)(s:TS)(sv zv:aC)(w:aH):Prop where
 below:Below w0.heap.size w0 w
 lo:∀k,w0.heap.size<=d k
 hi:∀k,d k<base
 inj:∀i j,d i=d j->i=j
 fix:∀k,w.heap[d k]?=ae (tobj d N.length v root s sv zv k)
 kZ:base<=w.heap.size
 nK:w.ownsRow base 3 1 sv s.stack.length (s.stack.map (aK .i64))
 oH:w.ownsRow base 3 1 zv s.sizes.length (s.sizes.map (aK .i64))
 ne:sv.ownBlock=af\/sv.ownBlock≠zv.ownBlock
 li:s.index.length=N.length
 ll:s.low.length=N.length
 ln:s.inn.length=N.length
 lo2:s.on.length=N.length
 stk:∀x∈s.stack,0<=x/\x<(N.length:Int)
structure GW (w0:aH)(v:aC)(root:Int)(N:List Nd)(d:Fin 13->Nat)(base:Nat)(s:TS)(sv zv:aC)(w:aH):Prop extends GX w0 v root N d base s sv zv w where
 cnt:s.next+s.index.count 0=N.length
 bd:((s.stack.length+s.sizes.length:Nat):Int)<=s.next
theorem EW {d:Fin 13->Nat}{obj a:Fin 13->Obj}{w:aH}(h:∀k,w.heap[d k]?=ae (obj k))(inj:∀i j,d i=d j->i=j)(j:Fin 13)(i:Nat)(x:aC){c:Array aC}{T:bK}(f:obj j=.cells c T)(g:a j=.cells (c.setIfInBounds i x) T)
  (l:∀k,k≠j->a k=obj k):∀k,(w.setCell ⟨d j,i,af⟩ x).heap[d k]?=ae (a k):=by
 intro k;by_cases b:k=j
 ·subst b
  have:=h k;rw[f]at this;rw[g];simp[aT,aY,this]
 ·rw[jm _ (λe=>b (inj _ _ e)),l k b];exact h k
theorem uN {w w':aH}{base b n:Nat}{v:aC}{xs:List aC}{e:bK}(h:w.ownsRow base e 1 v n xs)(c:b<base)(a:w.grownBy w' (ae b)):w'.ownsRow base e 1 v n xs:=by refine h.kept a (.inr λe=>?_);have:=(h.lt b e).1;omega
section
variable {w0:aH} {v:aC} {root:Int} {N:List Nd} {d:Fin 13->Nat} {base:Nat} {s:TS} {sv zv:aC} {w:aH}
theorem GX.drew (h:GX w0 v root N d base s sv zv w):GX w0 v root N d base s sv zv w.drew:=
 {h with below:=h.below.drew}
theorem GX.grown {w':aH}(h:GX w0 v root N d base s sv zv w)(a:w.grownBy w' af):GX w0 v root N d base s sv zv w':=
 {h with
  below:=h.below.grown a h.below.size (λk b=>by cases b)
  fix:=λk=>by rw[a.block _ (aU.1 (h.fix k)).1 iH];exact h.fix k
  kZ:=aO h.kZ a.size
  nK:=h.nK.kept a (by cases c:sv.ownBlock<;>simp)
  oH:=h.oH.kept a (by cases c:zv.ownBlock<;>simp)}
theorem GX.alloc (h:GX w0 v root N d base s sv zv w)(o:Obj):GX w0 v root N d base s sv zv (w.alloc o):=h.grown (aP w o af)
theorem GW.drew (h:GW w0 v root N d base s sv zv w):GW w0 v root N d base s sv zv w.drew:={toGX:=h.toGX.drew,cnt:=h.cnt,bd:=h.bd}
theorem GX.store (h:GX w0 v root N d base s sv zv w)(j:Fin 13)(i:Nat)(x:aC)(s':TS){a:Array aC}{T:bK}(c:tobj d N.length v root s sv zv j=.cells a T)(e:tobj d N.length v root s' sv zv j=.cells (a.setIfInBounds i x) T)
  (f:∀k,k≠j->tobj d N.length v root s' sv zv k=tobj d N.length v root s sv zv k)(b:s'.stack=s.stack)(g:s'.sizes=s.sizes)(l:s'.index.length=N.length)(m:s'.low.length=N.length)(n:s'.inn.length=N.length)(o:s'.on.length=N.length):
  GX w0 v root N d base s' sv zv (w.setCell ⟨d j,i,af⟩ x) where
 below:=h.below.setCell (p:=⟨d j,i,af⟩) (h.lo j) _
 lo:=h.lo
 hi:=h.hi
 inj:=h.inj
 fix:=EW h.fix h.inj j i x c e f
 kZ:=by simpa[aT]using h.kZ
 nK:=by rw[b];exact uN h.nK (h.hi j) (lN w (d j) i x)
 oH:=by rw[g];exact uN h.oH (h.hi j) (lN w (d j) i x)
 ne:=h.ne
 li:=l
 ll:=m
 ln:=n
 lo2:=o
 stk:=by rw[b];exact h.stk
theorem GX.zY (h:GX w0 v root N d base s sv zv w)(a:Nat)(x:Int):GX w0 v root N d base {s with low:=s.low.set a x} sv zv (w.setCell ⟨d 2,a,af⟩ (.int .i64 x)):=
 h.store 2 a _ _ rfl (by simp[tobj,bu]) (λk b=>by
  match k with
  |2=>exact absurd rfl b
  |0|1|3|4|5|6|7|8|9|10|11|12=>rfl) rfl rfl h.li (by simpa using h.ll) h.ln h.lo2
theorem GX.setIndex (h:GX w0 v root N d base s sv zv w)(a:Nat)(x:Int):GX w0 v root N d base {s with index:=s.index.set a x} sv zv (w.setCell ⟨d 1,a,af⟩ (.int .i64 x)):=
 h.store 1 a _ _ rfl (by simp[tobj,bu]) (λk b=>by
  match k with
  |1=>exact absurd rfl b
  |0|2|3|4|5|6|7|8|9|10|11|12=>rfl) rfl rfl (by simpa using h.li) h.ll h.ln h.lo2
theorem GX.Vh (h:GX w0 v root N d base s sv zv w)(a:Nat)(x:Int):GX w0 v root N d base {s with inn:=s.inn.set a x} sv zv (w.setCell ⟨d 3,a,af⟩ (.int .i64 x)):=
 h.store 3 a _ _ rfl (by simp[tobj,bu]) (λk b=>by
  match k with
  |3=>exact absurd rfl b
  |0|1|2|4|5|6|7|8|9|10|11|12=>rfl) rfl rfl h.li h.ll (by simpa using h.ln) h.lo2
theorem GX.JM (h:GX w0 v root N d base s sv zv w)(a:Nat)(x:Bool):GX w0 v root N d base {s with on:=s.on.set a x} sv zv (w.setCell ⟨d 4,a,af⟩ (.bool x)):=
 h.store 4 a _ _ rfl (by simp[tobj,bu]) (λk b=>by
  match k with
  |4=>exact absurd rfl b
  |0|1|2|3|5|6|7|8|9|10|11|12=>rfl) rfl rfl h.li h.ll h.ln (by simpa using h.lo2)
theorem GX.Vj (h:GX w0 v root N d base s sv zv w)(x:Int):GX w0 v root N d base {s with next:=x} sv zv (w.setCell ⟨d 9,0,af⟩ (.int .i64 x)):=
 h.store 9 0 _ _ rfl (by simp[tobj]) (λk a=>by
  match k with
  |9=>exact absurd rfl a
  |0|1|2|3|4|5|6|7|8|10|11|12=>rfl) rfl rfl h.li h.ll h.ln h.lo2
theorem GW.zY (h:GW w0 v root N d base s sv zv w)(a:Nat)(x:Int):GW w0 v root N d base {s with low:=s.low.set a x} sv zv (w.setCell ⟨d 2,a,af⟩ (.int .i64 x)):=
 {toGX:=h.toGX.zY a x,cnt:=h.cnt,bd:=h.bd}
theorem GX.setStack (h:GX w0 v root N d base s sv zv w)(L:List Int)(a:aC)(w':aH)(b:w.grownBy w' sv.ownBlock)(g:w'.ownsRow base 3 1 a L.length (L.map (aK .i64)))
  (i:∀k,a.ownBlock=ae k->sv.ownBlock=ae k\/w.heap.size<=k)(j:∀x∈L,0<=x/\x<(N.length:Int)):
  GX w0 v root N d base {s with stack:=L} a zv (w'.setCell ⟨d 12,0,af⟩ a) where
 below:=(h.below.grown b h.below.size (λk f=>aO (dD (dh (h.lo 0) (h.hi 0))) (h.nK.lt k f).1)).setCell (p:=⟨d 12,0,af⟩) (h.lo 12) _
 lo:=h.lo
 hi:=h.hi
 inj:=h.inj
 fix:=EW (obj:=tobj d N.length v root s sv zv) (λk=>by rw[b.block _ (aU.1 (h.fix k)).1 (λe=>by have:=(h.nK.lt _ e.symm).1;have:=h.hi k;omega)];exact h.fix k) h.inj 12 0 a rfl (by simp[tobj]) (λk f=>by
  match k with
  |12=>exact absurd rfl f
  |0|1|2|3|4|5|6|7|8|9|10|11=>rfl)
 kZ:=by simpa[aT]using aO h.kZ b.size
 nK:=uN g (h.hi 12) (lN w' (d 12) 0 a)
 oH:=uN (h.oH.kept b (by
  rcases h.ne with e|e
  ·rw[e];cases zv.ownBlock<;>simp
  ·exact .inr (λq=>e q.symm))) (h.hi 12) (lN w' (d 12) 0 a)
 ne:=by
  cases l:a.ownBlock with
  |none=>exact .inl rfl
  |some k=>
   refine .inr λe=>?_
   rcases i k l with c|c
   ·rcases h.ne with e3|e3
    ·rw[e3]at c;cases c
    ·exact e3 (c.trans e)
   ·have:=(h.oH.lt k e.symm).2
    omega
 li:=h.li
 ll:=h.ll
 ln:=h.ln
 lo2:=h.lo2
 stk:=j
theorem GX.Vk (h:GX w0 v root N d base s sv zv w)(L:List Int)(a:aC)(w':aH)(b:w.grownBy w' zv.ownBlock)(g:w'.ownsRow base 3 1 a L.length (L.map (aK .i64)))
  (i:∀k,a.ownBlock=ae k->zv.ownBlock=ae k\/w.heap.size<=k):
  GX w0 v root N d base {s with sizes:=L} sv a (w'.setCell ⟨d 11,0,af⟩ a) where
 below:=(h.below.grown b h.below.size (λk c=>aO (dD (dh (h.lo 0) (h.hi 0))) (h.oH.lt k c).1)).setCell (p:=⟨d 11,0,af⟩) (h.lo 11) _
 lo:=h.lo
 hi:=h.hi
 inj:=h.inj
 fix:=EW (obj:=tobj d N.length v root s sv zv) (λk=>by rw[b.block _ (aU.1 (h.fix k)).1 (λe=>by have:=(h.oH.lt _ e.symm).1;have:=h.hi k;omega)];exact h.fix k) h.inj 11 0 a rfl (by simp[tobj]) (λk c=>by
  match k with
  |11=>exact absurd rfl c
  |0|1|2|3|4|5|6|7|8|9|10|12=>rfl)
 kZ:=by simpa[aT]using aO h.kZ b.size
 oH:=uN g (h.hi 11) (lN w' (d 11) 0 a)
 nK:=uN (h.nK.kept b h.ne) (h.hi 11) (lN w' (d 11) 0 a)
 ne:=by
  cases j:a.ownBlock with
  |none=>cases hs:sv.ownBlock with
   |none=>exact .inl rfl
   |some k=>exact .inr iH
  |some k=>
   by_cases hs:sv.ownBlock=ae k
   ·exfalso
    rcases i k j with f|f
    ·rcases h.ne with e3|e3
     ·rw[e3]at hs;cases hs
     ·exact e3 (hs.trans f.symm)
    ·have:=(h.nK.lt k hs).2
     omega
   ·exact .inr hs
 li:=h.li
 ll:=h.ll
 ln:=h.ln
 lo2:=h.lo2
 stk:=h.stk
structure Fr (base:Nat)(sv zv sv' mr:aC)(w w':aH):Prop where
 size:w.heap.size<=w'.heap.size
 kept:∀k,base<=k->k<w.heap.size->sv.ownBlock≠ae k->zv.ownBlock≠ae k->w'.heap[k]?=w.heap[k]?
 zZ:∀k,sv'.ownBlock=ae k->sv.ownBlock=ae k\/w.heap.size<=k
 Aa:∀k,mr.ownBlock=ae k->zv.ownBlock=ae k\/w.heap.size<=k
theorem Fr.refl (base:Nat)(sv zv:aC)(w:aH):Fr base sv zv sv zv w w:=⟨bC _,λ_ _ _ _ _=>rfl,λ_ h=>.inl h,λ_ h=>.inl h⟩
theorem Fr.trans {base:Nat}{sv zv c d f g:aC}{w i j:aH}(h:Fr base sv zv c d w i)(b:Fr base c d f g i j):Fr base sv zv f g w j:=by
 refine⟨aO h.size b.size,λk l a hs m=>?_,λk a=>?_,λk a=>?_⟩
 ·rw[b.kept k l (Nat.lt_of_lt_of_le a h.size) (λe=>?_) (λe=>?_),h.kept k l a hs m]
  ·rcases h.zZ k e with e|e
   ·exact hs e
   ·omega
  ·rcases h.Aa k e with e|e
   ·exact m e
   ·omega
 ·rcases b.zZ k a with e|e
  ·exact h.zZ k e
  ·exact .inr (aO h.size e)
 ·rcases b.Aa k a with e|e
  ·exact h.Aa k e
  ·exact .inr (aO h.size e)
theorem Fr.rO {base:Nat}{sv zv:aC}{w w':aH}{r:Option Nat}(a:w.grownBy w' r)(hr:∀k,r=ae k->k<base):Fr base sv zv sv zv w w':=
 ⟨a.size,λk c b _ _=>a.block k b (λe=>by have:=hr k e.symm;omega),λ_ h=>.inl h,λ_ h=>.inl h⟩
end
def EX (d:Fin 13->Nat)(a:Int):Array aC:=#[.int .i64 a,.pointer (ae ⟨d 9,0,af⟩),.pointer (ae ⟨d 5,0,af⟩),.pointer (ae ⟨d 6,0,af⟩),.pointer (ae ⟨d 12,0,af⟩),.pointer (ae ⟨d 8,0,af⟩),.pointer (ae ⟨d 10,0,af⟩),.pointer (ae ⟨d 0,0,af⟩),.pointer (ae ⟨d 11,0,af⟩),.pointer (ae ⟨d 7,0,af⟩)]
def JO (w0:aH)(v:aC)(root:Int)(N:List Nd)(d:Fin 13->Nat)(base:Nat)(s':TS)(c f:aC)(w:aH)(e:Ending)(w':aH):Prop:=
 e=.returned (.tuple #[])/\∃a b,GW w0 v root N d base s' a b w'/\Fr base c f a b w w'
def JP (w0:aH)(v:aC)(root:Int)(N:List Nd)(d:Fin 13->Nat)(base:Nat)(visit:Nat->TS->Option TS):Prop:=
 ∀(x:Nat) (s s':TS) (a b:aC) (w:aH),visit x s=ae s'->x<N.length->s.index.getD x 0=0->GW w0 v root N d base s a b w->
  Calls Tryz.prog 136 (EX d x) w (JO w0 v root N d base s' a b w)
theorem kJ {L:List Int}{w:aH}{b k:Nat}{T:bK}(h:w.heap[b]?=ae (.cells (L.map (aK .i64)).toArray T))(a:k<L.length):w.cell? ⟨b,k,af⟩=ae (.int .i64 (L.getD k 0)):=by rw[ah h,aB,aJ a];simp[a]
theorem Ac {L:List Bool}{w:aH}{b k:Nat}{T:bK}(h:w.heap[b]?=ae (.cells (L.map dG).toArray T))(a:k<L.length):w.cell? ⟨b,k,af⟩=ae (.bool (L.getD k aI)):=by rw[ah h,aB,aJ a];simp[a]
theorem grown_drew {w w':aH}{r:Option Nat}(h:w.grownBy w' r):w.grownBy w'.drew r:=⟨h.os,h.tape,h.output,h.size,h.block⟩
theorem JQ (w0:aH)(v:aC)(root:Int)(N:List Nd)(d:Fin 13->Nat)(base:Nat)(visit:Nat->TS->Option TS)(m:JP w0 v root N d base visit)(a x:Nat)(s s':TS)(i j:aC)(w:aH)(g:Nat)
  (ha:a<N.length)(hx:x<N.length)(hs:stepT visit a x s=ae s')(b:GW w0 v root N d base s i j w)(E:base<=g)(u:w.cell? ⟨g,0,af⟩=ae (.int .i64 a))(has:i.ownBlock≠ae g)(F:j.ownBlock≠ae g):
  Calls Tryz.prog 137 #[.int .i64 x,.pointer (ae ⟨d 5,0,af⟩),.pointer (ae ⟨d 10,0,af⟩),.pointer (ae ⟨d 6,0,af⟩),.pointer (ae ⟨g,0,af⟩),.pointer (ae ⟨d 8,0,af⟩)] w (JO w0 v root N d base s' i j w):=by
 have A:=bI b;have S:=bI m;have T:=bI hs;have U:(x:Int)<(N.length:Int):=iE
 have V:(a:Int)<(N.length:Int):=iE
 have W:=iK (b.fix 5) 0 (.slice (ae ⟨d 1,0,af⟩) N.length N.length);have p:w.cell? ⟨d 1,x,af⟩=ae (.int .i64 (s.index.getD x 0)):=kJ (b.fix 1) (by rw[b.li];exact hx);have G:=World.block_lt_of_cell? w _ u;by_cases hi:s.index.getD x 0=0
 ·have X:=iK (b.fix 10) 0 (.func (.func 136) #[] #[.pointer (ae ⟨d 9,0,af⟩),.pointer (ae ⟨d 5,0,af⟩),.pointer (ae ⟨d 6,0,af⟩),.pointer (ae ⟨d 12,0,af⟩),.pointer (ae ⟨d 8,0,af⟩),.pointer (ae ⟨d 10,0,af⟩),.pointer (ae ⟨d 0,0,af⟩),.pointer (ae ⟨d 11,0,af⟩),.pointer (ae ⟨d 7,0,af⟩)])
  rw[hi]at p
  have H:∃c,visit x s=ae c/\s'={c with low:=c.low.set a (min (c.low.getD a 0) (c.low.getD x 0))}:=by
   unfold stepT at hs;rw[gY hi]at hs;cases B:visit x s with
   |none=>rw[B]at hs;cases hs
   |some c=>rw[B]at hs;exact⟨c,rfl,(Option.some.inj hs).symm⟩
  obtain⟨c,I,rfl⟩:=H;have J:=bI (m x s c i j w I hx hi b);clear b m hs hi;go_enter Tryz.func137,Tryz.ntmps137
  go_wp2_with(go_at_call 136;refine(J.out).mono ?_;rintro e l ⟨rfl,K,L,f,q⟩)
  have M:=bI f;have O:=bI q;have P:=iK (f.fix 6) 0 (.slice (ae ⟨d 2,0,af⟩) N.length N.length);have Y:l.cell? ⟨g,0,af⟩=ae (.int .i64 a):=by rw[World.cell?_of_block (w:=w) (q.kept g E G has F)];exact u
  have r:l.cell? ⟨d 2,a,af⟩=ae (.int .i64 (c.low.getD a 0)):=kJ (f.fix 2) (by rw[f.ll];exact ha);have Q:l.cell? ⟨d 2,x,af⟩=ae (.int .i64 (c.low.getD x 0)):=kJ (f.fix 2) (by rw[f.ll];exact hx);have R:∀o,l.frozen? ⟨d 2,o,af⟩=aI:=λo=>aA (f.fix 2) o
  have h:=bI ((f.zY a (min (c.low.getD a 0) (c.low.getD x 0))).drew);generalize c.low.getD a 0=y at r h;generalize c.low.getD x 0=z at Q h;clear f q;go_region;go_end0;exact⟨rfl,K,L,h.out,O.out.trans (Fr.rO (grown_drew (lN l (d 2) a _)) (λk t=>by rw[<-Option.some.inj t];exact M.out.hi 2))⟩
 ·have C:(s.index.getD x 0==0)=aI:=by simp only[iy,ne_eq];exact hi
  have Z:=iK (b.fix 8) 0 (.slice (ae ⟨d 4,0,af⟩) N.length N.length);have D:w.cell? ⟨d 4,x,af⟩=ae (.bool (s.on.getD x aI)):=Ac (b.fix 4) (by rw[b.lo2];exact hx);unfold stepT at hs;rw[gZ hi]at hs;cases n:s.on.getD x aI with
  |false=>rw[n]at hs D;obtain rfl:s=s':=Option.some.inj hs;generalize s.index.getD x 0=y at p C;clear b m hs hi n;go_enter Tryz.func137,Tryz.ntmps137;go_wp2;go_end0;exact⟨rfl,i,j,A.out,Fr.refl _ _ _ _⟩
  |true=>
   rw[n]at hs D;obtain rfl:=Option.some.inj hs;have P:=iK (b.fix 6) 0 (.slice (ae ⟨d 2,0,af⟩) N.length N.length);have r:w.cell? ⟨d 2,a,af⟩=ae (.int .i64 (s.low.getD a 0)):=kJ (b.fix 2) (by rw[b.ll];exact ha);have R:∀o,w.frozen? ⟨d 2,o,af⟩=aI:=λo=>aA (b.fix 2) o
   have h:=bI ((b.zY a (min (s.low.getD a 0) (s.index.getD x 0))).drew);generalize s.low.getD a 0=z at r h;generalize s.index.getD x 0=y at p C h;clear b m hs hi n;go_enter Tryz.func137,Tryz.ntmps137;go_wp2;go_region;go_end0;exact⟨rfl,i,j,h.out,Fr.rO (grown_drew (lN w (d 2) a _)) (λk t=>by rw[<-Option.some.inj t];exact A.out.hi 2)⟩
theorem Vl {visit:Nat->TS->Option TS}{a:Nat}{x:Int}{l:List Int}{s c:TS}(h:nJ visit a (x::l) s=ae c):∃b,stepT visit a x.toNat s=ae b/\nJ visit a l b=ae c:=by
 unfold nJ at h;rw[dw]at h;cases d:stepT visit a x.toNat s with
 |none=>rw[d]at h;cases h
 |some b=>rw[d]at h;exact⟨b,rfl,h⟩
theorem JR {visit:Nat->TS->Option TS}{a j:Nat}{l:List Int}{s b:TS}(d:j<l.length)(h:nJ visit a (l.drop j) s=ae b):∃c,stepT visit a (l[j]).toNat s=ae c/\nJ visit a (l.drop (j+1)) c=ae b:=by rw[List.drop_eq_getElem_cons d]at h;exact Vl h
theorem JS {visit:Nat->TS->Option TS}{a:Nat}{l:List Int}{s b:TS}(h:nJ visit a (l.drop l.length) s=ae b):s=b:=by rw[List.drop_length]at h;exact Option.some.inj h
theorem Vm {N:List Nd}{f a:Nat}{s s':TS}(h:mg N (f+1) a s=ae s'):∃b c,nJ (mg N f) a (N.getD a nd0).keys (lG a s)=ae b/\nJ (mg N f) a (N.getD a nd0).items b=ae c/\xH a c=ae s':=by
 unfold mg at h;cases e:nJ (mg N f) a (N.getD a nd0).keys (lG a s)with
 |none=>rw[e]at h;cases h
 |some b=>
  rw[e]at h;have h:(nJ (mg N f) a (N.getD a nd0).items b).bind (xH a)=ae s':=h;cases d:nJ (mg N f) a (N.getD a nd0).items b with
  |none=>rw[d]at h;cases h
  |some c=>rw[d]at h;exact⟨b,c,rfl,d,h⟩
theorem mW {w:aH}{base n size:Nat}{e:bK}{v:aC}{xs:List aC}(h:w.ownsRow base e size v n xs):∃A c,v=.slice A n c:=by
 rcases h.2 with⟨rfl,rfl⟩|⟨g,cap,a,rfl,-⟩
 ·exact⟨_,_,rfl⟩
 ·exact⟨_,_,rfl⟩
theorem EY {w:aH}{base n size:Nat}{e:bK}{v:aC}{xs:List aC}(h:w.ownsRow base e size v n xs)(hn:0<n):∃g c,v=.slice (ae ⟨g,0,af⟩) n c/\n<=c/\c<=maxLen:=by
 rcases h.2 with⟨rfl,rfl⟩|⟨g,cap,a,rfl,-,-,hc,hm,-⟩
 ·exact absurd hn (Nat.lt_irrefl 0)
 ·exact⟨_,_,rfl,hc,hm⟩
theorem EZ {w:aH}{base g n c:Nat}{e:bK}{xs:List aC}(h:w.ownsRow base e 1 (.slice (ae ⟨g,0,af⟩) n c) n xs){k:Nat}{u:aC}(b:xs[k]?=ae u):w.cell? ⟨g,k,af⟩=ae u:=by
 rcases h.2 with⟨he,-⟩|⟨g',cap,i,he,j,d,hc,hm,hs,f⟩
 ·cases he
 ·injection he with a l m
  injection a with a;injection a with a;subst a;rw[ah d,<-b,<-f]
  have o:k<n:=by have:=(List.getElem?_eq_some_iff.1 b).1;rw[h.1]at this;omega
  rw[List.getElem?_take_of_lt iE];simp
theorem Vo {w:aH}{base g n c:Nat}{e:bK}{xs:List aC}(h:w.ownsRow base e 1 (.slice (ae ⟨g,0,af⟩) n c) n xs):w.ownsRow base e 1 (.slice (ae ⟨g,0,af⟩) (n - 1) c) (n - 1) xs.dropLast:=by
 refine⟨by have:=h.1;simp only[bF];omega,?_⟩;rcases h.2 with⟨he,-⟩|⟨g',cap,d,he,f,i,hc,hm,hs,b⟩
 ·cases he
 ·injection he with a k j
  injection a with a;injection a with a;subst a j;refine .inr ⟨g,c,d,rfl,f,i,iE,hm,hs,?_⟩;have l:=h.1;rw[List.dropLast_eq_take,<-b,List.take_take]
  congr 1
  rw[b];omega
theorem Vp {l:List Int}{a:Nat}{x:Int}(ha:a<l.length)(h:l.getD a 0=0)(hx:x≠0):(l.set a x).count 0+1=l.count 0:=by rw[aB,aJ ha]at h;have h:l[a]=0:=h;have hp:0<l.count 0:=bP.2 (by rw[<-h];exact aV ha);rw[List.count_set ha,h];simp[hx];omega
theorem JU {a f:Nat}{s:TS}{size:Int}{r:TS×Int}(h:pM a (f+1) s size=ae r):∃x,s.stack.getLast?=ae x/\((x=a/\r=(mf s x,wrap64 (size+1)))\/(x≠a/\pM a f (mf s x) (wrap64 (size+1))=ae r)):=by
 unfold pM at h;cases b:s.stack.getLast? with
 |none=>rw[b]at h;cases h
 |some x=>
  rw[b]at h;refine⟨x,rfl,?_⟩;have h:(if x=(a:Int)then ae (mf s x,wrap64 (size+1))else pM a f (mf s x) (wrap64 (size+1)))=ae r:=h;by_cases hx:x=a
  ·rw[gY hx]at h
   exact .inl ⟨hx,(Option.some.inj h).symm⟩
  ·rw[gZ hx]at h
   exact .inr ⟨hx,h⟩
theorem Vq {a:Nat}:∀(f:Nat) (s:TS) (size:Int) (r:TS×Int),pM a f s size=ae r->r.1.next=s.next/\r.1.index=s.index/\r.1.sizes=s.sizes/\r.1.stack.length<s.stack.length:=by
 intro f
 induction f with
 |zero=>intro s size r h;cases h
 |succ f c=>
  intro s size r h;obtain⟨x,hx,h⟩:=JU h
  have j:0<s.stack.length:=by
   cases hs:s.stack with
   |nil=>rw[hs]at hx;cases hx
   |cons y l=>simp
  have b:(mf s x).stack.length<s.stack.length:=by show s.stack.dropLast.length<_;rw[bF];omega
  rcases h with⟨-,rfl⟩|⟨-,h⟩
  ·exact⟨rfl,rfl,rfl,b⟩
  ·obtain⟨d,e,g,i⟩:=c _ _ _ h
   exact⟨d,e,g,Nat.lt_trans i b⟩
theorem Vr {a:Nat}{s s':TS}(h:xH a s=ae s'):(s.low.getD a 0≠s.index.getD a 0/\s=s')\/(s.low.getD a 0=s.index.getD a 0/\∃r,pM a (s.stack.length+1) s 0=ae r/\s'={r.1 with sizes:=r.1.sizes++[r.2]}):=by
 unfold xH at h;by_cases hx:s.low.getD a 0=s.index.getD a 0
 ·rw[gY hx]at h
  refine .inr ⟨hx,?_⟩;cases b:pM a (s.stack.length+1) s 0 with
  |none=>rw[b]at h;cases h
  |some r=>rw[b]at h;exact⟨r,rfl,(Option.some.inj h).symm⟩
 ·rw[gZ hx]at h
  exact .inl ⟨hx,Option.some.inj h⟩
theorem Vs {L:List Int}{x:Int}(h:L.getLast?=ae x):(L.map (aK .i64))[L.length - 1]?=ae (.int .i64 x):=by rw[List.getLast?_eq_getElem?]at h;rw[List.getElem?_map,h];rfl
structure tC (k:Nat)(a:Int)(sv zv:aC)(w:aH):Prop where
 box:w.heap[k]?=ae (.cells #[.int .i64 a] 3)
 far:sv.ownBlock≠ae k
 Ad:zv.ownBlock≠ae k
theorem tC.step {k base:Nat}{a:Int}{sv zv sv' mr:aC}{w w':aH}(h:tC k a sv zv w)(b:base<=k)(hf:Fr base sv zv sv' mr w w'):tC k a sv' mr w':=by
 have c:=(aU.1 h.box).1;refine⟨by rw[hf.kept k b c h.far h.Ad];exact h.box,λe=>?_,λe=>?_⟩
 ·rcases hf.zZ k e with e|e
  ·exact h.far e
  ·omega
 ·rcases hf.Aa k e with e|e
  ·exact h.Ad e
  ·omega
section
variable {w0:aH} {v:aC} {root:Int} {N:List Nd} {d:Fin 13->Nat} {base:Nat} {s:TS} {sv zv sv' mr:aC} {w w':aH}
theorem Vt {a:Nat}(b:GW w0 v root N d base s sv zv w)(ha:a<N.length)(hi:s.index.getD a 0=0)(hn:N.length<=4096)(hx:GX w0 v root N d base (lG a s) sv' mr w'):GW w0 v root N d base (lG a s) sv' mr w':=by
 have hc:=b.cnt;have c:=b.bd
 have hp:0<s.index.count 0:=by rw[aB,aJ (by rw[b.li];exact ha)]at hi;exact bP.2 (by rw[<-show s.index[a]'(by rw[b.li];exact ha)=0 from hi];exact aV _)
 have hw:wrap64 (s.next+1)=s.next+1:=by unfold wrap64;omega
 have e:=Vp (x:=s.next+1) (by rw[b.li];exact ha) hi iE;refine {toGX:=hx,cnt:=?_,bd:=?_}
 ·show wrap64 (s.next+1)+(s.index.set a (wrap64 (s.next+1))).count 0=_
  rw[hw];omega
 ·show(((s.stack++[(a:Int)]).length+s.sizes.length:Nat):Int)<=wrap64 (s.next+1)
  rw[hw];simp only[bQ,bW,bZ];omega
theorem GX.drewN (h:GX w0 v root N d base s sv zv w)(n:Nat):GX w0 v root N d base s sv zv (w.drewN n):={h with below:=below_drewN h.below n}
theorem GW.drewN (h:GW w0 v root N d base s sv zv w)(n:Nat):GW w0 v root N d base s sv zv (w.drewN n):={toGX:=h.toGX.drewN n,cnt:=h.cnt,bd:=h.bd}
theorem Fr.drewN (h:Fr base sv zv sv' mr w w')(n:Nat):Fr base sv zv sv' mr w (w'.drewN n):=⟨h.size,h.kept,h.zZ,h.Aa⟩
theorem tC.drewN {k:Nat}{a:Int}(h:tC k a sv zv w)(n:Nat):tC k a sv zv (w.drewN n):=⟨h.box,h.far,h.Ad⟩
theorem JV {g n m c b i:Nat}{x:aC}(a:b<base):Fr base (.slice (ae ⟨g,0,af⟩) n c) zv (.slice (ae ⟨g,0,af⟩) m c) zv w (w.setCell ⟨b,i,af⟩ x):=
 ⟨by simp[aT],λk d _ _ _=>jm _ iE,λ_ h=>.inl h,λ_ h=>.inl h⟩
theorem Ae {b i:Nat}{x:aC}(a:b<base):Fr base sv zv sv zv w (w.setCell ⟨b,i,af⟩ x):=Fr.rO (lN w b i x) (λk c=>by rw[<-Option.some.inj c];exact a)
theorem GX.pop {g n c:Nat}(h:GX w0 v root N d base s (.slice (ae ⟨g,0,af⟩) n c) zv w)(hn:n=s.stack.length):GX w0 v root N d base {s with stack:=s.stack.dropLast} (.slice (ae ⟨g,0,af⟩) (n - 1) c) zv (w.setCell ⟨d 12,0,af⟩ (.slice (ae ⟨g,0,af⟩) (n - 1) c)):=by subst hn;refine h.setStack _ _ w ⟨rfl,rfl,rfl,bC _,λ_ _ _=>rfl⟩ ?_ (λk a=>.inl a) (λx hx=>h.stk x (List.dropLast_subset _ hx));have:=Vo h.nK;rw[List.map_dropLast,bF];exact this
end
theorem Vu (w0:aH)(v:aC)(root:Int)(N:List Nd)(d:Fin 13->Nat)(base:Nat)(c4:jJ w0 v N)(hR:nN N)(hn:N.length<=4096):∀f,JP w0 v root N d base (mg N f):=by
 intro f
 induction f with
 |zero=>intro x s s' B C w hs;cases hs
 |succ f cf=>
  intro a s s' B C w hs ha hi U;obtain⟨c5,c6,Y,Z,cg⟩:=Vm hs;have ch:=ag cf;have p:=ag U;have bq:=ag Y;have br:=ag Z;have c7:=ag cg;have c8:=ag hi;have c9:=ag hR;obtain⟨va,vc,da,ew,ci⟩:=c4;subst da;have db:=ag ci;have dc:(a:Int)<(N.length:Int):=iE
  clear Y Z;rcases db.1 with aD|⟨b,o,rfl,cj⟩
  ·exfalso;rw[aD]at ha;exact bn _ ha
  have bs:N[a]?=ae N[a]:=aJ ha;have ck:=cj a N[a] bs;have cl:N.getD a nd0=N[a]:=by rw[aB,bs];rfl
  have bt:=c9.1 N[a] (aV ha);have Y:=bq.1;have Z:=br.1;rw[cl]at Y Z;generalize N[a]=n at ck bt Y Z;have cm:=ag bt;have bq:=ag Y;have br:=ag Z;obtain⟨ex,ey,bv,dd,de,cn,ba,bb,bc⟩:=ck;obtain⟨ez,eA,rfl,eB,bb⟩:=bb;obtain⟨eC,eD,rfl,eE,bc⟩:=bc;have df:=ag bb;have dg:=ag bc;have co:=ag ba;have dj:=ag cn;clear cj bs cl bt Y Z bv dd de cn ba bb bc;have cp:=iK (U.fix 9) 0 (.int .i64 s.next);have dk:=λaE=>iU (iW w aE) cp
  have eI:∀o,w.frozen? ⟨d 9,o,af⟩=aI:=λo=>aA (U.fix 9) o
  have eJ:∀aE o,(w.alloc aE).frozen? ⟨d 9,o,af⟩=aI:=λaE o=>aA ((bD w aE _ (block_lt (U.fix 9))).trans (U.fix 9)) o
  have aF:((w.alloc (.cells #[.int .i64 a] 3)).setCell ⟨d 9,0,af⟩ (.int .i64 (wrap64 (s.next+1)))).heap[w.heap.size]?=ae (.cells #[.int .i64 a] 3):=by rw[jm _ (by have:=U.hi 9;have:=U.kZ;omega)];exact aZ w _
  have be:Fr base B C B C w ((w.alloc (.cells #[.int .i64 a] 3)).setCell ⟨d 9,0,af⟩ (.int .i64 (wrap64 (s.next+1)))):=
   (Fr.rO (aP w _ af) (λk h=>by cases h)).trans (Fr.rO (lN _ (d 9) 0 _) (λk h=>by rw[<-Option.some.inj h];exact U.hi 9))
  have F:=ag ((U.toGX.alloc (.cells #[.int .i64 a] 3)).Vj (wrap64 (s.next+1)));generalize hy:s.next=y at cp dk aF be F;have dl:=ag hy;clear hs cg hi hR ci U cf hy;unfold EX
  as_aux_lemma=>
  go_enter Tryz.func136,Tryz.ntmps136;go_wp2
  as_aux_lemma=>
  generalize eK:(w.alloc (.cells #[.int .i64 a] 3)).setCell ⟨d 9,0,af⟩ (.int .i64 (wrap64 (y+1)))=K at F aF be⊢;have J:=F.1;have bw:=iK (J.fix 5) 0 (.slice (ae ⟨d 1,0,af⟩) N.length N.length);have bx:=iK (J.fix 6) 0 (.slice (ae ⟨d 2,0,af⟩) N.length N.length);have dp:=iK (J.fix 9) 0 (.int .i64 (wrap64 (y+1)));have bA:=iK aF 0 (.int .i64 a);have aG:K.cell? ⟨d 1,a,af⟩=ae (.int .i64 (s.index.getD a 0)):=kJ (J.fix 1) (by rw[J.li];exact ha);have kl:K.cell? ⟨d 2,a,af⟩=ae (.int .i64 (s.low.getD a 0)):=kJ (J.fix 2) (by rw[J.ll];exact ha);have dq:∀o,K.frozen? ⟨d 1,o,af⟩=aI:=λo=>aA (J.fix 1) o
  have dr:∀o,K.frozen? ⟨d 2,o,af⟩=aI:=λo=>aA (J.fix 2) o
  have cq:d 1≠d 2:=λe=>by have:=J.inj _ _ e;exact absurd this iG
  have ds:d 2≠d 1:=λe=>cq e.symm
  have dt:d 1≠d 6:=λe=>by have:=J.inj _ _ e;exact absurd this iG
  have du:d 1≠d 9:=λe=>by have:=J.inj _ _ e;exact absurd this iG
  have dv:d 1≠w.heap.size:=by have:=p.1.hi 1;have:=p.1.kZ;omega
  clear J;have D:=ag (((F.1.setIndex a (wrap64 (y+1))).zY a (wrap64 (y+1))).drew)
  have bf:((K.setCell ⟨d 1,a,af⟩ (.int .i64 (wrap64 (y+1)))).setCell ⟨d 2,a,af⟩ (.int .i64 (wrap64 (y+1)))).drew.heap[w.heap.size]?=ae (.cells #[.int .i64 a] 3):=by show((K.setCell _ _).setCell _ _).heap[w.heap.size]?=_;rw[jm _ (by have:=p.1.hi 2;have:=p.1.kZ;omega),jm _ (by have:=p.1.hi 1;have:=p.1.kZ;omega)];exact aF
  have bB:Fr base B C B C w ((K.setCell ⟨d 1,a,af⟩ (.int .i64 (wrap64 (y+1)))).setCell ⟨d 2,a,af⟩ (.int .i64 (wrap64 (y+1)))).drew:=
   (be.trans (Fr.rO (lN _ (d 1) a _) (λk h=>by rw[<-Option.some.inj h];exact p.1.hi 1))).trans (Fr.rO (grown_drew (lN _ (d 2) a _)) (λk h=>by rw[<-Option.some.inj h];exact p.1.hi 2))
  go_region
  as_aux_lemma=>
  generalize eL:((K.setCell ⟨d 1,a,af⟩ (.int .i64 (wrap64 (y+1)))).setCell ⟨d 2,a,af⟩ (.int .i64 (wrap64 (y+1)))).drew=L at D bf bB⊢;clear bw bx dp bA aG kl dq dr cq ds dt du dv aF be;have bg:=D.1;obtain⟨cr,cs,ct,cv,cw⟩:=info_parts su;have X:=ag (iJ cs (iJ ct (iJ cv cw)));have cx:=iK (bg.fix 12) 0 B;have bA:=iK bf 0 (.int .i64 a);have dx:=ag (World.ownsRow.alloc bg.nK (.cells #[.int .i64 a] 3));have dy:PLift (base<=(L.alloc (.cells #[.int .i64 a] 3)).heap.size):=⟨(bg.alloc _).kZ⟩;have dz:PLift ((L.alloc (.cells #[.int .i64 a] 3)).cell? ⟨L.heap.size,0,af⟩=ae (.int .i64 a)):=⟨(ah (aZ L _) 0).trans rfl⟩;have cy:=ag bf;have dS:=ag bB
  have cz:PLift (s.stack.length<=4096):=by refine⟨?_⟩;have aL:=p.1.bd;have dT:=p.1.cnt;show s.stack.length<=4096;omega
  clear cs ct cv cw bg bf bB
  go_wp2_with(refine wG _ rfl _ _ 36 rfl base 3 cr (.int .i64 0) 1 8 Tryz.underlying36 X.1.1 X.1.2.1 X.1.2.2.1 X.1.2.2.2 rfl iG B s.stack.length (s.stack.map (aK .i64)) rfl dx.1 ⟨L.heap.size,0,af⟩ 1 1 [.int .i64 a] rfl rfl (by intro j u G;match j,G with|0,G=>simp only[bY,Option.some.injEq]at G;subst G;exact dz.1|j+1,G=>simp at G) (by simp[dB]) iG (by have:=cz.1;unfold maxLen;omega) (by have:=cz.1;omega) dy.1 ?_)
  as_aux_lemma=>
  intro v' P bE ao cA;obtain⟨M,O,d0⟩:=mW bE;subst d0;have bh:∀k,(aQ M (s.stack.length+1) O).ownBlock=ae k->B.ownBlock=ae k\/(L.alloc (.cells #[.int .i64 a] 3)).heap.size<=k:=λk h=>by rw[jl];exact cA k h
  have ap:=(D.1.alloc (.cells #[.int .i64 a] 3)).setStack (s.stack++[(a:Int)]) (.slice M (s.stack.length+1) O) P ao (by simpa using bE) bh (by
   intro x hx;rcases bG.1 hx with hx|hx
   ·exact p.1.stk x hx
   ·rw[bT.1 hx];exact⟨iE,dc⟩)
  have cB:=ap.JM a bV;have bL:(L.alloc (.cells #[.int .i64 a] 3)).heap.size=L.heap.size+1:=jl _ _;have cC:∀k,B.ownBlock=ae k->base<=k:=λk h=>(p.1.nK.lt k h).1
  have cD:w.heap.size<L.heap.size:=block_lt cy.1
  have bM:P.heap[d 12]?=ae (.cells #[B] 36):=by rw[ao.block _ (block_lt ((D.1.alloc (.cells #[.int .i64 a] 3)).fix 12)) (λe=>by have:=cC _ e.symm;have:=p.1.hi 12;omega)];exact(D.1.alloc (.cells #[.int .i64 a] 3)).fix 12
  have cx:=iK bM 0 B;have bN:∀o,P.frozen? ⟨d 12,o,af⟩=aI:=λo=>aA bM o
  have cE:P.heap[w.heap.size]?=ae (.cells #[.int .i64 a] 3):=by rw[ao.block _ (by rw[bL];omega) (λe=>by have:=(p.1.nK.lt _ e.symm).2;omega),bD _ _ _ cD];exact cy.1
  have bi:(P.setCell ⟨d 12,0,af⟩ (.slice M (s.stack.length+1) O)).heap[w.heap.size]?=ae (.cells #[.int .i64 a] 3):=by rw[jm _ (by have:=p.1.hi 12;have:=p.1.kZ;omega)];exact cE
  have aM:((P.setCell ⟨d 12,0,af⟩ (.slice M (s.stack.length+1) O)).setCell ⟨d 4,a,af⟩ (.bool bV)).heap[w.heap.size]?=ae (.cells #[.int .i64 a] 3):=by rw[jm _ (by have:=p.1.hi 4;have:=p.1.kZ;omega)];exact bi
  have cF:Fr base B C (.slice M (s.stack.length+1) O) C w P:=by have aL:=dS.1.trans (Fr.rO (aP L (.cells #[.int .i64 a] 3) af) (λk h=>by cases h));refine aL.trans ⟨ao.size,λk d1 h hs aq=>ao.block k h (λe=>hs e.symm),λk h=>bh k h,λk h=>.inl h⟩
  have bj:Fr base B C (.slice M (s.stack.length+1) O) C w ((P.setCell ⟨d 12,0,af⟩ (.slice M (s.stack.length+1) O)).setCell ⟨d 4,a,af⟩ (.bool bV)):=
   (cF.trans (Fr.rO (lN _ (d 12) 0 _) (λk h=>by rw[<-Option.some.inj h];exact p.1.hi 12))).trans (Fr.rO (lN _ (d 4) a _) (λk h=>by rw[<-Option.some.inj h];exact p.1.hi 4))
  have aa:PLift (GX w0 (.slice (ae ⟨b,o,af⟩) N.length vc) root N d base (lG a s) (.slice M (s.stack.length+1) O) C ((P.setCell ⟨d 12,0,af⟩ (.slice M (s.stack.length+1) O)).setCell ⟨d 4,a,af⟩ (.bool bV))):=by
   have he:lG a s={s with next:=wrap64 (y+1),index:=s.index.set a (wrap64 (y+1)),low:=s.low.set a (wrap64 (y+1)),stack:=s.stack++[(a:Int)],on:=s.on.set a bV}:=by unfold lG;rw[dl.1]
   rw[he];exact⟨cB⟩
  have cG:PLift ((aQ M (s.stack.length+1) O).ownBlock≠ae w.heap.size/\C.ownBlock≠ae w.heap.size):=by
   refine⟨⟨λe=>?_,λe=>?_⟩⟩
   ·rcases bh _ e with e|e
    ·have:=(p.1.nK.lt _ e).2;omega
    ·rw[bL]at e;omega
   ·have:=(p.1.oH.lt _ e).2;omega
  clear cB bL cC cD bM cE cF bE ao bh cA
  go_upto_region 4 with fail
  as_aux_lemma=>
  generalize eM:P.setCell ⟨d 12,0,af⟩ (.slice M (s.stack.length+1) O)=aR at ap bi aM bj aa⊢;clear cx bN;have bO:=iK (ap.fix 8) 0 (.slice (ae ⟨d 4,0,af⟩) N.length N.length);have d2:=iK bi 0 (.int .i64 a);have d3:aR.cell? ⟨d 4,a,af⟩=ae (.bool (s.on.getD a aI)):=Ac (ap.fix 4) (by rw[p.1.lo2];exact ha);have d4:∀o,aR.frozen? ⟨d 4,o,af⟩=aI:=λo=>aA (ap.fix 4) o
  clear ap
  go_upto_region 6 with fail
  as_aux_lemma=>
  generalize eN:aR.setCell ⟨d 4,a,af⟩ (.bool bV)=bR at aM bj aa⊢;clear bO d2 d3 d4 bi;have d5:=ag aM;have d6:PLift (tC w.heap.size a (.slice M (s.stack.length+1) O) C bR):=⟨⟨aM,cG.1.1,cG.1.2⟩⟩;have d7:=ag (Vt p.1 ha c8.1 hn aa.1);have ab:PLift (base<=w.heap.size):=⟨p.1.kZ⟩;have d8:=ag bj;clear aM bj;have eO:=iK (aa.1.fix 0) 0 (.slice (ae ⟨b,o,af⟩) N.length vc);have eR:=iK d5.1 0 (.int .i64 a);have eS:=iU aa.1.below dj.1;go_wp2
  as_aux_lemma=>
  go_loopw [43] (λac wr=>∃(j:Nat) (A:TS) (H E:aC),ac=.int .i64 j/\j<=n.keys.length/\nJ (mg N f) a (n.keys.drop j) A=ae c5/\GW w0 (.slice (ae ⟨b,o,af⟩) N.length vc) root N d base A H E wr/\Fr base B C H E w wr/\tC w.heap.size a H E wr) (λac _=>n.keys.length - (intOf ac).toNat)
  case atStart=>exact⟨0,lG a s,_,C,rfl,dn _,bq.1,d7.1,d8.1,d6.1⟩
  case round=>
   as_aux_lemma=>
   obtain⟨j,A,H,E,rfl,G,a0,V,a1,ad⟩:=hrel;have a2:=ag a0;have I:=ag V;have ar:=ag a1;have W:=ag ad;have ba:=iU V.below co.1;have bv:=iK (V.fix 0) 0 (.slice (ae ⟨b,o,af⟩) N.length vc);have mt:=iK ad.box 0 (.int .i64 a);clear a0 V a1 ad;by_cases Q:j<n.keys.length
   ·have d9:(j:Int)<(n.keys.length:Int):=iE
    have hx:=cm.1.1 n.keys[j] (aV Q);rcases df.1 with aD|⟨ea,lo,rfl,ai⟩
    ·exfalso;rw[aD]at Q;exact bn _ Q
    have bS:=iU I.1.below (ai j n.keys[j] (aJ Q));obtain⟨a3,ak,he⟩:=JR Q a2.1;generalize n.keys[j]=x at hx bS ak;obtain⟨k,rfl⟩:=bz hx.1;have h:k<N.length:=(by have:=hx.2;omega);have bX:=ag (JQ w0 _ root N d base (mg N f) ch.1 a k A a3 H E wr w.heap.size ha h ak I.1 ab.1 mt W.1.far W.1.Ad);have b0:=ag he;have eb:=ag ai;clear ai hx ak he
    go_wp2_with(go_at_call 137;refine(bX.1).mono ?_;rintro e w3 ⟨rfl,b1,b2,a4,a5⟩;have b3:=ag a4;have R:=ag a5;clear a4 a5)
    as_aux_lemma=>
    go_roundw
    case rel=>exact⟨j+1,a3,b1,b2,by go_num,iE,b0.1,b3.1,ar.1.trans R.1,W.1.step ab.1 R.1⟩
    case measure=>simp[intOf];omega
   ·obtain rfl:j=n.keys.length:=iE
    obtain rfl:=JS a2.1;go_wp2
    as_aux_lemma=>
    go_loopw [58] (λac wr=>∃(j:Nat) (A:TS) (H E:aC),ac=.int .i64 j/\j<=n.items.length/\nJ (mg N f) a (n.items.drop j) A=ae c6/\GW w0 (.slice (ae ⟨b,o,af⟩) N.length vc) root N d base A H E wr/\Fr base B C H E w wr/\tC w.heap.size a H E wr) (λac _=>n.items.length - (intOf ac).toNat)
    case atStart=>exact⟨0,A,H,E,rfl,dn _,br.1,I.1,ar.1,W.1⟩
    case round=>
     as_aux_lemma=>
     obtain⟨j,A,H,E,rfl,G,a0,V,a1,ad⟩:=hrel;have a2:=ag a0;have I:=ag V;have ar:=ag a1;have W:=ag ad;have ba:=iU V.below co.1;have bv:=iK (V.fix 0) 0 (.slice (ae ⟨b,o,af⟩) N.length vc);have mt:=iK ad.box 0 (.int .i64 a);clear a0 V a1 ad;by_cases Q:j<n.items.length
     ·have d9:(j:Int)<(n.items.length:Int):=iE
      have hx:=cm.1.2 n.items[j] (aV Q);rcases dg.1 with aD|⟨ea,lo,rfl,ai⟩
      ·exfalso;rw[aD]at Q;exact bn _ Q
      have bS:=iU I.1.below (ai j n.items[j] (aJ Q));obtain⟨a3,ak,he⟩:=JR Q a2.1;generalize n.items[j]=x at hx bS ak;obtain⟨k,rfl⟩:=bz hx.1;have h:k<N.length:=(by have:=hx.2;omega);have bX:=ag (JQ w0 _ root N d base (mg N f) ch.1 a k A a3 H E wr w.heap.size ha h ak I.1 ab.1 mt W.1.far W.1.Ad);have b0:=ag he;have eb:=ag ai;clear ai hx ak he
      go_wp2_with(go_at_call 137;refine(bX.1).mono ?_;rintro e w3 ⟨rfl,b1,b2,a4,a5⟩;have b3:=ag a4;have R:=ag a5;clear a4 a5)
      as_aux_lemma=>
      go_roundw
      case rel=>exact⟨j+1,a3,b1,b2,by go_num,iE,b0.1,b3.1,ar.1.trans R.1,W.1.step ab.1 R.1⟩
      case measure=>simp[intOf];omega
     ·obtain rfl:j=n.items.length:=iE
      obtain rfl:=JS a2.1
      as_aux_lemma=>
      have bx:=iK (I.1.fix 6) 0 (.slice (ae ⟨d 2,0,af⟩) N.length N.length);have bw:=iK (I.1.fix 5) 0 (.slice (ae ⟨d 1,0,af⟩) N.length N.length);have kl:wr.cell? ⟨d 2,a,af⟩=ae (.int .i64 (A.low.getD a 0)):=kJ (I.1.fix 2) (by rw[I.1.ll];exact ha);have aG:wr.cell? ⟨d 1,a,af⟩=ae (.int .i64 (A.index.getD a 0)):=kJ (I.1.fix 1) (by rw[I.1.li];exact ha);rcases Vr c7.1 with⟨bk,bl⟩|⟨cH,r,hr,bl⟩
      ·subst bl
       generalize A.low.getD a 0=ec at kl bk;generalize A.index.getD a 0=cI at aG bk;have eT:(ec==cI)=aI:=by simp only[iy,ne_eq];exact bk
       as_aux_lemma=>
       go_wp2
       go_quiet (fail)
       go_wp2;refine dE (results_none rfl _ _ _) rfl ?_;exact⟨rfl,H,E,I.1.drewN _,ar.1.drewN _⟩
      ·rw[cH]at kl
       generalize A.index.getD a 0=cI at aG kl;have ee:=ag bl;have cJ:=ag hr;clear bl hr cH
       as_aux_lemma=>
       go_wp2
       go_quiet (fail)
       obtain⟨cK,cL⟩:=iC (wr.drewN nq);have av:=ag (I.1.drewN nq);have cM:=ag (ar.1.drewN nq);have cN:=ag (W.1.drewN nq);rw[cL]at av cM cN⊢;clear cL bw bx kl aG
       as_aux_lemma=>
       go_wp2
       go_loopg [16] (A.stack.length+1) (λk ef wr=>∃(t:TS) (bm:aC) (z:Int),ef=.int .i64 z/\pM a k t z=ae r/\GX w0 (.slice (ae ⟨b,o,af⟩) N.length vc) root N d base t bm E wr/\Fr base B C bm E w wr/\tC w.heap.size a bm E wr/\t.sizes=A.sizes)
       case atStart=>exact⟨A,H,0,rfl,cJ.1,av.1.toGX,cM.1,cN.1,rfl⟩
       case round=>
        as_aux_lemma=>
        obtain⟨t,bm,z,rfl,hp,hx,hf,b4,cO⟩:=hrel;cases gk with
        |zero=>cases hp
        |succ k=>
        obtain⟨x,hlast,cP⟩:=JU hp;obtain⟨al,am,aq⟩:=mW hx.oH;have b5:=ag aq;have cQ:=ag cO;rw[aq]at hx hf b4;clear aq cO
        have cR:0<t.stack.length:=by
         cases hs:t.stack with
         |nil=>rw[hs]at hlast;cases hlast
         |cons y l=>simp
        obtain⟨g,c,rfl,eg,cS⟩:=EY hx.nK cR;have bo:=hx.stk x (List.mem_of_getLast? hlast);obtain⟨q,rfl⟩:=bz bo.1;have cT:q<N.length:=(by have:=bo.2;omega);have eV:(q:Int)<(N.length:Int):=bo.2;have cU:=iK (hx.fix 12) 0 (.slice (ae ⟨g,0,af⟩) t.stack.length c);have b6:wr.cell? ⟨g,t.stack.length - 1,af⟩=ae (.int .i64 q):=EZ hx.nK (Vs hlast);have bN:∀o,wr.frozen? ⟨d 12,o,af⟩=aI:=λo=>aA (hx.fix 12) o
        have S:=ag (hx.pop rfl);have R:=ag (hf.trans (JV (m:=t.stack.length - 1) (i:=0) (x:=.slice (ae ⟨g,0,af⟩) (t.stack.length - 1) c) (hx.hi 12)));have a6:=ag (b4.step ab.1 (JV (m:=t.stack.length - 1) (i:=0) (x:=.slice (ae ⟨g,0,af⟩) (t.stack.length - 1) c) (hx.hi 12)));have eh:=ag cP;have cV:(t.stack.length:Int)<=9223372036854775807:=(by unfold maxLen at cS;omega);clear hp hx hf b4 cP hlast bo cS;obtain⟨m,hm⟩:∃m,t.stack.length=m+1:=⟨t.stack.length - 1,iE⟩;rw[hm]at cU b6 S R a6 eg cV;have eW:(m:Int)+1<=9223372036854775807:=iE;simp only[Nat.add_sub_cancel]at b6 S R a6;clear hm cR cV
        as_aux_lemma=>
        go_upto_region 20 with fail
        obtain⟨aw,cW⟩:=iC (wr.setCell ⟨d 12,0,af⟩ (.slice (ae ⟨g,0,af⟩) m c));rw[cW]at S R a6⊢;clear cW cU b6 bN;have bO:=iK (S.1.fix 8) 0 (.slice (ae ⟨d 4,0,af⟩) N.length N.length);have ei:aw.cell? ⟨d 4,q,af⟩=ae (.bool (t.on.getD q aI)):=Ac (S.1.fix 4) (by rw[S.1.lo2];exact cT);have ej:∀o,aw.frozen? ⟨d 4,o,af⟩=aI:=λo=>aA (S.1.fix 4) o
        have F:=ag (S.1.JM q aI);have b7:=ag (R.1.trans (Ae (i:=q) (x:=.bool aI) (S.1.hi 4)));have b8:=ag (a6.1.step ab.1 (Ae (i:=q) (x:=.bool aI) (S.1.hi 4)));clear S R a6
        as_aux_lemma=>
        go_upto_region 21 with fail
        obtain⟨an,cX⟩:=iC (aw.setCell ⟨d 4,q,af⟩ (.bool aI));rw[cX]at F b7 b8⊢;clear cX bO ei ej;have ek:=iK (F.1.fix 7) 0 (.slice (ae ⟨d 3,0,af⟩) N.length N.length);have el:=iK (F.1.fix 11) 0 (.slice al t.sizes.length am);have em:an.cell? ⟨d 3,q,af⟩=ae (.int .i64 (t.inn.getD q 0)):=kJ (F.1.fix 3) (by rw[F.1.ln];exact cT);have fn:∀o,an.frozen? ⟨d 3,o,af⟩=aI:=λo=>aA (F.1.fix 3) o
        have D:=ag (F.1.Vh q t.sizes.length);have b9:=ag (b7.1.trans (Ae (i:=q) (x:=.int .i64 t.sizes.length) (F.1.hi 3)));have ca:=ag (b8.1.step ab.1 (Ae (i:=q) (x:=.int .i64 t.sizes.length) (F.1.hi 3)));clear F b7 b8
        as_aux_lemma=>
        go_upto_region 22 with fail
        obtain⟨T,cY⟩:=iC (an.setCell ⟨d 3,q,af⟩ (.int .i64 t.sizes.length));rw[cY]at D b9 ca⊢;clear cY ek el em fn;have bA:=iK ca.1.box 0 (.int .i64 a);rcases eh.1 with⟨cb,a7⟩|⟨cb,a7⟩
        ·have en:a=q:=iE
         have bp:=ag a7;clear a7 cb;subst en;have eZ:=iK (D.1.fix 11) 0 (.slice al t.sizes.length am);have eo:=ag (World.ownsRow.alloc D.1.oH (.cells #[.int .i64 (wrap64 (z+1))] 3));have ep:PLift (base<=(T.alloc (.cells #[.int .i64 (wrap64 (z+1))] 3)).heap.size):=⟨(D.1.alloc _).kZ⟩;have eq:PLift ((T.alloc (.cells #[.int .i64 (wrap64 (z+1))] 3)).cell? ⟨T.heap.size,0,af⟩=ae (.int .i64 (wrap64 (z+1)))):=⟨(ah (aZ T _) 0).trans rfl⟩
         have c0:PLift (t.sizes.length<=4096):=by refine⟨?_⟩;have aL:=av.1.bd;have dT:=av.1.cnt;rw[cQ.1];omega
         as_aux_lemma=>
         go_wp2_with(refine wG _ rfl _ _ 36 rfl base 3 cr (.int .i64 0) 1 8 Tryz.underlying36 X.1.1 X.1.2.1 X.1.2.2.1 X.1.2.2.2 rfl iG (.slice al t.sizes.length am) t.sizes.length (t.sizes.map (aK .i64)) rfl eo.1 ⟨T.heap.size,0,af⟩ 1 1 [.int .i64 (wrap64 (z+1))] rfl rfl (by intro j u G;match j,G with|0,G=>simp only[bY,Option.some.injEq]at G;subst G;exact eq.1|j+1,G=>simp at G) (by simp[dB]) iG (by have:=c0.1;unfold maxLen;omega) (by have:=c0.1;omega) ep.1 ?_)
         intro v' a8 cc a9 c1;have cd:∀k,v'.ownBlock=ae k->(aQ al t.sizes.length am).ownBlock=ae k\/(T.alloc (.cells #[.int .i64 (wrap64 (z+1))] 3)).heap.size<=k:=λk h=>by rw[jl];exact c1 k h
         have aa:=ag ((D.1.alloc (.cells #[.int .i64 (wrap64 (z+1))] 3)).Vk (t.sizes++[wrap64 (z+1)]) v' a8 a9 (by simpa using cc) cd);have c2:∀k,(aQ al t.sizes.length am).ownBlock=ae k->base<=k:=λk h=>(D.1.oH.lt k h).1
         have ce:a8.heap[d 11]?=ae (.cells #[.slice al t.sizes.length am] 36):=by rw[a9.block _ (block_lt ((D.1.alloc (.cells #[.int .i64 (wrap64 (z+1))] 3)).fix 11)) (λe=>by have:=c2 _ e.symm;have:=D.1.hi 11;omega)];exact(D.1.alloc (.cells #[.int .i64 (wrap64 (z+1))] 3)).fix 11
         have e0:=iK ce 0 (.slice al t.sizes.length am);have e2:∀o,a8.frozen? ⟨d 11,o,af⟩=aI:=λo=>aA ce o
         have er:PLift (Fr base B C (.slice (ae ⟨g,0,af⟩) m c) v' w a8):=by refine⟨?_⟩;have aL:=b9.1.trans (Fr.rO (aP T (.cells #[.int .i64 (wrap64 (z+1))] 3) af) (λk h=>by cases h));exact aL.trans ⟨a9.size,λk d1 h hs aq=>a9.block k h (λe=>aq e.symm),λk h=>.inl h,λk h=>cd k h⟩
         have es:=ag (er.1.trans (Ae (i:=0) (x:=v') (D.1.hi 11)));obtain⟨e4,e5,et⟩:=mW cc;subst et;clear cc a9 c1 cd c2 ce
         as_aux_lemma=>
         go_wp2;go_end0;have h:=Vq _ _ _ _ cJ.1;rw[bp.1]at h;obtain⟨e1,ev,e3,c3⟩:=h;have hs:=ee.1;rw[bp.1]at hs;have g1:=av.1.cnt;have g2:=av.1.bd;refine⟨rfl,_,_,{toGX:=?_,cnt:=?_,bd:=?_},es.1⟩
         ·rw[hs];exact aa.1
         ·rw[hs,<-g1]
          show(mf t a).next+(mf t a).index.count 0=_;rw[<-e1,<-ev]
         ·rw[hs]
          show(((mf t a).stack.length+((mf t a).sizes++[wrap64 (z+1)]).length:Nat):Int)<=(mf t a).next;have e1:(mf t a).next=A.next:=e1;have e3:(mf t a).sizes=A.sizes:=e3;have c3:(mf t a).stack.length<A.stack.length:=c3;rw[e1,e3];simp only[bQ,bW,bZ];omega
        ·have bk:((q:Int)==(a:Int))=aI:=by simp only[iy,ne_eq];exact cb
         have bp:=ag a7;clear a7
         as_aux_lemma=>
         go_wp2
         go_roundg k
         case measure=>omega
         case rel=>exact⟨_,_,_,rfl,bp.1,by rw[b5.1];exact D.1,by rw[b5.1];exact b9.1,by rw[b5.1];exact ca.1,cQ.1⟩
theorem Vw (d:Fin 13->Nat)(h:(List.ofFn d).Nodup):∀i j,d i=d j->i=j:=by
 intro i j e;have hp:=List.pairwise_iff_getElem.1 h;rcases Nat.lt_trichotomy i.1 j.1 with a|a|a
 ·have:=hp i.1 j.1 iH iH a
  simp only[di]at this;exact absurd e this
 ·exact Fin.ext a
 ·have:=hp j.1 i.1 iH iH a
  simp only[di]at this;exact absurd e.symm this
def yT (a b1 b2 b3 b c d e f g h i j:Nat):Fin 13->Nat
 |0=>a|1=>b1|2=>b2|3=>b3|4=>b|5=>c|6=>d|7=>e|8=>f|9=>g|10=>h|11=>i|12=>j
theorem Vx {a b1 b2 b3 b c d e f g k l m:Nat}(h:[a,b1,b2,b3,b,c,d,e,f,g,k,l,m].Nodup):∀i j,yT a b1 b2 b3 b c d e f g k l m i=yT a b1 b2 b3 b c d e f g k l m j->i=j:=Vw _ h
theorem uP {w:aH}{b c n:Nat}{v:aC}(h:w.heap[b]?=ae (.cells (aN n (.int .i64 0)) 3))(a:w.heap[c]?=ae (.cells #[v] 36)):b≠c:=by rintro rfl;rw[h]at a;have:=Option.some.inj a;injection this with _ d;exact absurd d iG
structure C6 (w0:aH)(n b0 b1 b3 b5 b6 b7 b8:Nat)(v:aC)(root:Int)(J:List Int)(w:aH):Prop where
 below:Below w0.heap.size w0 w
 box:w.heap[b0]?=ae (.cells #[v,.int .i64 root] 117)
 e1:w.heap[b1]?=ae (.cells (aN n (.int .i64 0)) 3)
 e3:w.heap[b3]?=ae (.cells (aN n (.int .i64 0)) 3)
 e5:w.heap[b5]?=ae (.cells (J.map (aK .i64)).toArray 3)
 e6:w.heap[b6]?=ae (.cells #[.slice (ae ⟨b1,0,af⟩) n n] 36)
 e7:w.heap[b7]?=ae (.cells #[.slice (ae ⟨b3,0,af⟩) n n] 36)
 e8:w.heap[b8]?=ae (.cells #[.slice (ae ⟨b5,0,af⟩) n n] 36)
 lo:w0.heap.size=b0
 l1:b0<b1
 l3:b0<b3
 l5:b0<b5
 l6:b0<b6
 l7:b0<b7
 l8:b0<b8
 nd:[b1,b3,b5,b6,b7,b8].Nodup
theorem C6.set {w0:aH}{n b b1 b3 a c d e:Nat}{v:aC}{root:Int}{f:List Int}{w:aH}(h:C6 w0 n b b1 b3 a c d e v root f w)(j:Nat)(x:Int):C6 w0 n b b1 b3 a c d e v root (f.set j x) (w.setCell ⟨a,j,af⟩ (.int .i64 x)):=by
 have hn:=h.nd;simp only[bH,aX,aW,or_false,not_or,bJ,and_true,not_false_eq_true]at hn;obtain⟨⟨g,i,k,l,m⟩,⟨o,q,r,s⟩,⟨t,u,y⟩,⟨z,A⟩,B⟩:=hn;have l5:=h.l5
 exact {h with
  below:=h.below.setCell (p:=⟨a,j,af⟩) (by have:=h.lo;show w0.heap.size<=a;omega) _
  box:=by rw[jm _ iE];exact h.box
  e1:=by rw[jm _ iE];exact h.e1
  e3:=by rw[jm _ iE];exact h.e3
  e5:=by simp[aT,aY,h.e5,bu]
  e6:=by rw[jm _ iE];exact h.e6
  e7:=by rw[jm _ iE];exact h.e7
  e8:=by rw[jm _ iE];exact h.e8}
theorem Vy {n j:Nat}(b:j<n):(ay j (-1:Int)++ay (n - j) 0).set j (-1)=ay (j+1) (-1)++ay (n - (j+1)) 0:=by
 obtain⟨m,hm⟩:∃m,n - j=m+1:=⟨n - j - 1,iE⟩;have a:n - (j+1)=m:=iE
 rw[hm,a,List.replicate_succ,List.set_append,List.replicate_succ' (n:=j)];simp
theorem Af {w W:aH}(h:w.grownBy W af)(o:Obj):w.grownBy (W.alloc o) af:=h.trans (aP W o af)
theorem yU (A:Array Obj)(a b c d e f:Obj):((((((A.push a).push b).push c).push d).push e).push f)[A.size]?=ae a/\((((((A.push a).push b).push c).push d).push e).push f)[A.size+1]?=ae b/\((((((A.push a).push b).push c).push d).push e).push f)[A.size+1+1]?=ae c/\((((((A.push a).push b).push c).push d).push e).push f)[A.size+1+1+1]?=ae d/\((((((A.push a).push b).push c).push d).push e).push f)[A.size+1+1+1+1]?=ae e/\((((((A.push a).push b).push c).push d).push e).push f)[A.size+1+1+1+1+1]?=ae f:=by
 have lt:∀(B:Array Obj) (o:Obj) (i:Nat),i<B.size->(B.push o)[i]?=B[i]?:=λB o i h=>by rw[cZ,gZ iE]
 have eq:∀(B:Array Obj) (o:Obj) (i:Nat),i=B.size->(B.push o)[i]?=ae o:=λB o i h=>by rw[cZ,gY h]
 exact⟨by rw[lt _ _ _ (by simp only[az];omega),lt _ _ _ (by simp only[az];omega),lt _ _ _ (by simp only[az];omega),lt _ _ _ (by simp only[az];omega),lt _ _ _ (by simp only[az];omega),eq _ _ _ rfl],by rw[lt _ _ _ (by simp only[az];omega),lt _ _ _ (by simp only[az];omega),lt _ _ _ (by simp only[az];omega),lt _ _ _ (by simp only[az];omega),eq _ _ _ (by simp only[az])],by rw[lt _ _ _ (by simp only[az];omega),lt _ _ _ (by simp only[az];omega),lt _ _ _ (by simp only[az];omega),eq _ _ _ (by simp only[az])],by rw[lt _ _ _ (by simp only[az];omega),lt _ _ _ (by simp only[az];omega),eq _ _ _ (by simp only[az])],by rw[lt _ _ _ (by simp only[az];omega),eq _ _ _ (by simp only[az])],by rw[eq _ _ _ (by simp only[az])]⟩
def uQ (wr:aH)(a b c d n:Nat):aH:=
 ((
  (((wr.alloc (.cells #[.slice af 0 0] 36)).alloc (.cells #[.slice af 0 0] 36)).alloc (.cells (aN n (.bool aI)) 4)).alloc (.cells #[.slice (ae ⟨wr.heap.size+1+1,0,af⟩) n n] 168)).alloc (.cells #[.int .i64 0] 3)).alloc
  (.cells #[.func (.func 136) #[] #[.pointer (ae ⟨wr.heap.size+1+1+1+1,0,af⟩),.pointer (ae ⟨b,0,af⟩),.pointer (ae ⟨c,0,af⟩),.pointer (ae ⟨wr.heap.size+1,0,af⟩),.pointer (ae ⟨wr.heap.size+1+1+1,0,af⟩),.pointer (ae ⟨wr.heap.size+1+1+1+1+1,0,af⟩),.pointer (ae ⟨a,0,af⟩),.pointer (ae ⟨wr.heap.size,0,af⟩),.pointer (ae ⟨d,0,af⟩)]] 184)
theorem Vz (wr:aH)(a b c d n:Nat):wr.grownBy (uQ wr a b c d n) af:=
 Af (Af (Af (Af (Af (aP wr _ af) _) _) _) _) _
def dS (H a b1 b3 b c d e:Nat):Fin 13->Nat:=yT a b1 b3 b (H+1+1) c d e (H+1+1+1) (H+1+1+1+1) (H+1+1+1+1+1) H (H+1)
theorem VA {w0:aH}{N:List Nd}{b1 b3 f b c d:Nat}{v:aC}{root:Int}{wr:aH}(h:C6 w0 N.length w0.heap.size b1 b3 f b c d v root (ay N.length (-1)) wr):
  GW w0 v root N (dS wr.heap.size w0.heap.size b1 b3 f b c d) (wr.heap.size+6) ⟨0,ay N.length 0,ay N.length 0,ay N.length (-1),ay N.length aI,[],[]⟩ (.slice af 0 0) (.slice af 0 0) (uQ wr w0.heap.size b c d N.length):=by
 have g:=Vz wr w0.heap.size b c d N.length;have hn:=h.nd;simp only[bH,aX,aW,or_false,not_or,bJ,and_true,not_false_eq_true]at hn;obtain⟨⟨q,r,s,t,u⟩,⟨w,x,y,z⟩,⟨A,B,C⟩,⟨D,E⟩,F⟩:=hn;have i:=block_lt h.box;have j:=block_lt h.e1;have l:=block_lt h.e3;have m:=block_lt h.e5;have n:=block_lt h.e6;have o:=block_lt h.e7;have p:=block_lt h.e8;have g1:=h.l1;have G:=h.l3;have H:=h.l5;have I:=h.l6;have J:=h.l7;have K:=h.l8;have a:∀k,k<wr.heap.size->(uQ wr w0.heap.size b c d N.length).heap[k]?=wr.heap[k]?:=λk e=>g.block k e iH
 have L:(uQ wr w0.heap.size b c d N.length).heap.size=wr.heap.size+6:=by simp[uQ]
 refine {below:=h.below.grown g h.below.size (λk e=>by cases e),lo:=?_,hi:=?_,inj:=?_,fix:=?_,kZ:=iE,nK:=bU _ _ _ _,oH:=bU _ _ _ _,ne:=.inl rfl,li:=iH,ll:=iH,ln:=iH,lo2:=iH,stk:=iH,cnt:=iH,bd:=iH}
 ·intro k
  match k with
  |0|1|2|3|4|5|6|7|8|9|10|11|12=>simp only[dS,yT];omega
 ·intro k
  match k with
  |0|1|2|3|4|5|6|7|8|9|10|11|12=>simp only[dS,yT];omega
 ·refine Vx ?_
  simp only[bH,aX,aW,or_false,not_or,bJ,and_true,not_false_eq_true];omega
 ·intro k
  match k with
  |0=>exact(a _ i).trans h.box
  |1=>exact(a _ j).trans (by simpa[tobj]using h.e1)
  |2=>exact(a _ l).trans (by simpa[tobj]using h.e3)
  |3=>exact(a _ m).trans h.e5
  |4=>exact(yU wr.heap _ _ _ _ _ _).2.2.1.trans (by simp[tobj])
  |5=>exact(a _ n).trans h.e6
  |6=>exact(a _ o).trans h.e7
  |7=>exact(a _ p).trans h.e8
  |8=>exact(yU wr.heap _ _ _ _ _ _).2.2.2.1
  |9=>exact(yU wr.heap _ _ _ _ _ _).2.2.2.2.1
  |10=>exact(yU wr.heap _ _ _ _ _ _).2.2.2.2.2
  |11=>exact(yU wr.heap _ _ _ _ _ _).1
  |12=>exact(yU wr.heap _ _ _ _ _ _).2.1
theorem VC {N:List Nd}{root:Nat}{inn sizes:List Int}(h:uM N root=ae (inn,sizes)):∃s',mg N (N.length+1) root ⟨0,ay N.length 0,ay N.length 0,ay N.length (-1),ay N.length aI,[],[]⟩=ae s'/\s'.inn=inn/\s'.sizes=sizes:=by unfold uM at h;obtain⟨s',a,b⟩:=Option.map_eq_some_iff.1 h;injection b with c d;exact⟨s',a,c,d⟩
theorem VD (w:aH)(v:aC)(root:Nat)(N:List Nd)(inn sizes:List Int)(V:jJ w v N)(hR:nN N)(hn:N.length<=4096)(W:root<N.length)(hc:uM N root=ae (inn,sizes)):
  Calls Tryz.prog 122 #[.agg #[v,.int .i64 root]] w λe w'=>∃(g base:Nat) (X:aC),e=.returned (.tuple #[.slice (ae ⟨g,0,af⟩) N.length N.length,X])/\Below w.heap.size w w'/\w.heap.size<=g/\g<base/\inn.length=N.length/\
   w'.heap[g]?=ae (.cells (inn.map (aK .i64)).toArray 3)/\w'.ownsRow base 3 1 X sizes.length (sizes.map (aK .i64)):=by
 have aD:=ag V;have aE:=ag hR;have aF:=ag hc;obtain⟨va,vc,rfl,bh,aG⟩:=V;clear aG hR hc;have aL:PLift ((w.alloc (.cells #[.slice va N.length vc,.int .i64 root] 117)).heap[w.heap.size]?=ae (.cells #[.slice va N.length vc,.int .i64 root] 117)):=⟨aZ w _⟩;have aM:PLift (Below w.heap.size w (w.alloc (.cells #[.slice va N.length vc,.int .i64 root] 117))):=⟨iW w _⟩;have G:(w.alloc (.cells #[.slice va N.length vc,.int .i64 root] 117)).heap.size=w.heap.size+1:=jl _ _;have aR:=ag G;clear G
 as_aux_lemma=>
 go_enter Tryz.func122,Tryz.ntmps122
 as_aux_lemma=>
 go_upto_region 2 with fail
 have a0:∀l:aH,(Instr.makeSlice 36 (.int .i64 (N.length:Int)) (.int .i64 (N.length:Int))).run Tryz.prog l=.ok (.slice (ae ⟨l.heap.size,0,af⟩) N.length N.length) (l.alloc (.cells (aN N.length (.int .i64 0)) 3)):=λl=>by rw[dC 36 3 (.int .i64 0) 8 Tryz.underlying36 su rfl .i64 .i64 N.length iE iE l,sD]
 refine Vg N.length iF iF iF (by simp only[kH,Act.put,aj,au,ax]) ?_ ?_
 ·intro i o L H p q r s t u x z A w' K c f hA hR hK
  replace H:=ag H;replace f:=ag f;replace hA:=ag hA;replace hR:=ag hR;replace hK:=ag hK
  match i,c,f,hK with
  |0,c,f,hK=>
   obtain rfl:=Option.some.inj c;have a:=hK.1 p q r (.int .i64 N.length) t u x z A _ (R3.move0 hR.1);replace a:=ag a
   as_aux_lemma=>
   simp only[kH,Act.put,aj,au,ax];refine aS c ?_;intro m d;go_simp;replace a:=a.1;simp only[kH,Act.put,aj,au,ax]at a;exact d _ _ a
  |1,c,f,hK=>
   obtain rfl:=Option.some.inj c;obtain rfl:=hR.1.m0 (hA.1 ⟨0,.data⟩ iH rfl);have a:=hK.1 p q r (.int .i64 N.length) (.slice (ae ⟨w'.heap.size,0,af⟩) N.length N.length) u x z A _ (R3.U8 hR.1 f.1 (λh=>H.1 9 _ rfl h ⟨1,.data⟩ iH rfl));replace a:=ag a
   as_aux_lemma=>
   simp only[kH,Act.put,aj,au,ax];refine aS c ?_;intro m d;go_simp;replace a:=a.1;simp only[kH,Act.put,aj,au,ax]at a;exact d _ _ a
  |2,c,f,hK=>
   obtain rfl:=Option.some.inj c;have a:=hK.1 p q r s t (.int .i64 N.length) x z A _ (R3.U3 hR.1);replace a:=ag a
   as_aux_lemma=>
   simp only[kH,Act.put,aj,au,ax];refine aS c ?_;intro m d;go_simp;replace a:=a.1;simp only[kH,Act.put,aj,au,ax]at a;exact d _ _ a
  |3,c,f,hK=>
   obtain rfl:=Option.some.inj c;obtain rfl:=hR.1.m2 (hA.1 ⟨2,.data⟩ iH rfl);have a:=hK.1 p q r s t (.int .i64 N.length) (.slice (ae ⟨w'.heap.size,0,af⟩) N.length N.length) z A _ (R3.row3 hR.1 f.1 (λh=>H.1 10 _ rfl h ⟨3,.data⟩ iH rfl));replace a:=ag a
   as_aux_lemma=>
   simp only[kH,Act.put,aj,au,ax];refine aS c ?_;intro m d;go_simp;replace a:=a.1;simp only[kH,Act.put,aj,au,ax]at a;exact d _ _ a
  |4,c,f,hK=>
   obtain rfl:=Option.some.inj c;have a:=hK.1 p q r s t u x (.int .i64 N.length) A _ (R3.U7 hR.1);replace a:=ag a
   as_aux_lemma=>
   simp only[kH,Act.put,aj,au,ax];refine aS c ?_;intro m d;go_simp;replace a:=a.1;simp only[kH,Act.put,aj,au,ax]at a;exact d _ _ a
  |5,c,f,hK=>
   obtain rfl:=Option.some.inj c;obtain rfl:=hR.1.m4 (hA.1 ⟨4,.data⟩ iH rfl);have a:=hK.1 p q r s t u x (.int .i64 N.length) (.slice (ae ⟨w'.heap.size,0,af⟩) N.length N.length) _ (R3.U9 hR.1 f.1 (λh=>H.1 11 _ rfl h ⟨5,.data⟩ iH rfl));replace a:=ag a
   as_aux_lemma=>
   simp only[kH,Act.put,aj,au,ax];refine aS c ?_;intro m d;go_simp;replace a:=a.1;simp only[kH,Act.put,aj,au,ax]at a;exact d _ _ a
  |6,c,f,hK=>
   obtain rfl:=Option.some.inj c;have a:=hK.1 (.pointer (ae ⟨w'.heap.size,0,af⟩)) q r s t u x z A _ (R3.Va hR.1 f.1);replace a:=ag a
   as_aux_lemma=>
   simp only[kH,Act.put,aj,au,ax];refine aS c ?_;intro m d;go_simp;replace a:=a.1;simp only[kH,Act.put,aj,au,ax]at a;exact d _ _ a
  |7,c,f,hK=>
   obtain rfl:=Option.some.inj c;have a:=hK.1 p (.pointer (ae ⟨w'.heap.size,0,af⟩)) r s t u x z A _ (R3.Vb hR.1 f.1);replace a:=ag a
   as_aux_lemma=>
   simp only[kH,Act.put,aj,au,ax];refine aS c ?_;intro m d;go_simp;replace a:=a.1;simp only[kH,Act.put,aj,au,ax]at a;exact d _ _ a
  |8,c,f,hK=>
   obtain rfl:=Option.some.inj c;have a:=hK.1 p q (.pointer (ae ⟨w'.heap.size,0,af⟩)) s t u x z A _ (R3.Vd hR.1 f.1);replace a:=ag a
   as_aux_lemma=>
   simp only[kH,Act.put,aj,au,ax];refine aS c ?_;intro m d;go_simp;replace a:=a.1;simp only[kH,Act.put,aj,au,ax]at a;exact d _ _ a
  |9,c,f,hK=>
   obtain rfl:=Option.some.inj c;obtain⟨I,J,-,-⟩:=hR.1.r1 (hA.1 ⟨1,.data⟩ iH rfl);subst J;have B:=hA.1 ⟨6,.data⟩ iH rfl;obtain⟨b,rfl,M,k⟩:=hR.1.v6 B;have O:=ah k 0;have Y:=aA k 0;generalize(if L.getD 9 aI=bV then aQ (ae ⟨I,0,af⟩) N.length N.length else aQ af 0 0)=Z at k O;have a:=hK.1 (.pointer (ae ⟨b,0,af⟩)) q r s _ u x z A _ (R3.Ve hR.1 B M k);replace a:=ag a
   as_aux_lemma=>
   simp only[kH,Act.put,aj,au,ax];refine aS c ?_;intro m d;go_simp;replace a:=a.1;simp only[kH,Act.put,aj,au,ax]at a;exact d _ _ a
  |10,c,f,hK=>
   obtain rfl:=Option.some.inj c;obtain⟨I,J,-,-⟩:=hR.1.r3 (hA.1 ⟨3,.data⟩ iH rfl);subst J;have B:=hA.1 ⟨7,.data⟩ iH rfl;obtain⟨b,rfl,M,k⟩:=hR.1.v7 B;have O:=ah k 0;have Y:=aA k 0;generalize(if L.getD 10 aI=bV then aQ (ae ⟨I,0,af⟩) N.length N.length else aQ af 0 0)=Z at k O;have a:=hK.1 p (.pointer (ae ⟨b,0,af⟩)) r s t u _ z A _ (R3.Vf hR.1 B M k);replace a:=ag a
   as_aux_lemma=>
   simp only[kH,Act.put,aj,au,ax];refine aS c ?_;intro m d;go_simp;replace a:=a.1;simp only[kH,Act.put,aj,au,ax]at a;exact d _ _ a
  |11,c,f,hK=>
   obtain rfl:=Option.some.inj c;obtain⟨I,J,-,-⟩:=hR.1.r5 (hA.1 ⟨5,.data⟩ iH rfl);subst J;have B:=hA.1 ⟨8,.data⟩ iH rfl;obtain⟨b,rfl,M,k⟩:=hR.1.v8 B;have O:=ah k 0;have Y:=aA k 0;generalize(if L.getD 11 aI=bV then aQ (ae ⟨I,0,af⟩) N.length N.length else aQ af 0 0)=Z at k O;have a:=hK.1 p q (.pointer (ae ⟨b,0,af⟩)) s t u x z _ _ (R3.oQ hR.1 B M k);replace a:=ag a
   as_aux_lemma=>
   simp only[kH,Act.put,aj,au,ax];refine aS c ?_;intro m d;go_simp;replace a:=a.1;simp only[kH,Act.put,aj,au,ax]at a;exact d _ _ a
  |i+12,c,f,hK=>exact absurd c iH
 ·intro b1 b3 g C D n w' Q aa ab ac ad ai ak al am an ao ap aq e1 e3 e5 e6 e7 e8
  have G:=aR.1;rw[G]at Q aa ab ac ad ai ak
  have ar:PLift (C6 w N.length w.heap.size b1 b3 g C D n (.slice va N.length vc) root (ay N.length 0) w'):=by refine⟨⟨aM.1.trans (Q.mono iE),by rw[Q.block _ iE];exact aL.1,e1,e3,by simpa using e5,e6,e7,e8,rfl,iE,iE,iE,iE,iE,iE,?_⟩⟩;have a1:=uP e1 e6;have a2:=uP e1 e7;have a3:=uP e1 e8;have a4:=uP e3 e6;have a5:=uP e3 e7;have a6:=uP e3 e8;have a7:=uP e5 e6;have a8:=uP e5 e7;have a9:=uP e5 e8;simp only[bH,aX,aW,or_false,not_or,bJ,and_true,not_false_eq_true];exact⟨⟨al,am,a1,a2,a3⟩,⟨an,a4,a5,a6⟩,⟨a7,a8,a9⟩,⟨ao,ap⟩,aq⟩
  clear Q aa ab ac ad ai ak al am an ao ap aq e1 e3 e5 e6 e7 e8 G a0;simp only[kH,Act.put,aj,au,ax]
  as_aux_lemma=>
  have ba:=iK ar.1.e8 0 (.slice (ae ⟨g,0,af⟩) N.length N.length);go_wp2
  go_loopw [25] (λS wr=>∃j:Nat,S=.int .i64 j/\j<=N.length/\C6 w N.length w.heap.size b1 b3 g C D n (.slice va N.length vc) root (ay j (-1)++ay (N.length - j) 0) wr) (λS _=>N.length - (intOf S).toNat)
  case atStart=>exact⟨0,rfl,dn _,by simpa using ar.1⟩
  case round=>
   as_aux_lemma=>
   obtain⟨j,rfl,B,E⟩:=hrel;have P:=ag E;have ba:=iK E.e8 0 (.slice (ae ⟨g,0,af⟩) N.length N.length);by_cases bb:j<N.length
   ·have bi:(j:Int)<(N.length:Int):=iE
    have bc:wr.cell? ⟨g,j,af⟩=ae (.int .i64 ((ay j (-1:Int)++ay (N.length - j) 0).getD j 0)):=kJ E.e5 iI;have bj:∀o,wr.frozen? ⟨g,o,af⟩=aI:=λo=>aA E.e5 o
    generalize(ay j (-1:Int)++ay (N.length - j) 0).getD j 0=y at bc;clear E
    as_aux_lemma=>
    go_wp2;go_roundw
    case rel=>exact⟨j+1,by go_num,iE,by rw[<-Vy bb];exact P.1.set j (-1)⟩
    case measure=>simp[intOf];omega
   ·obtain rfl:j=N.length:=iE
    clear E
    have bd:∀l:aH,(Instr.makeSlice 168 (.int .i64 (N.length:Int)) (.int .i64 (N.length:Int))).run Tryz.prog l=.ok (.slice (ae ⟨l.heap.size,0,af⟩) N.length N.length) (l.alloc (.cells (aN N.length (.bool aI)) 4)):=λl=>by rw[dC 168 4 (.bool aI) 1 Tryz.underlying168 D8 rfl .i64 .i64 N.length iE iE l,sD]
    as_aux_lemma=>
    go_upto_region 13 with fail
    change Code.wp _ _ _ _ (uQ wr w.heap.size C D n N.length)
    obtain⟨s',hv,rfl,rfl⟩:=VC aF.1;simp only[Nat.sub_self,List.replicate_zero,List.append_nil]at P;have R:=ag (VA P.1);have T:=Vu w (.slice va N.length vc) root N (dS wr.heap.size w.heap.size b1 b3 g C D n) (wr.heap.size+6) aD.1 aE.1 hn (N.length+1) root _ s' _ _ _ hv W (by simp[W]) R.1;simp only[EX,dS,yT]at T;have av:=ag T;have be:(uQ wr w.heap.size C D n N.length).cell? ⟨wr.heap.size+1+1+1+1+1,0,af⟩=ae (.func (.func 136) #[] #[.pointer (ae ⟨wr.heap.size+1+1+1+1,0,af⟩),.pointer (ae ⟨C,0,af⟩),.pointer (ae ⟨D,0,af⟩),.pointer (ae ⟨wr.heap.size+1,0,af⟩),.pointer (ae ⟨wr.heap.size+1+1+1,0,af⟩),.pointer (ae ⟨wr.heap.size+1+1+1+1+1,0,af⟩),.pointer (ae ⟨w.heap.size,0,af⟩),.pointer (ae ⟨wr.heap.size,0,af⟩),.pointer (ae ⟨n,0,af⟩)]):=(ah (R.1.fix 10) 0).trans rfl;have bf:(uQ wr w.heap.size C D n N.length).cell? ⟨w.heap.size,1,af⟩=ae (.int .i64 root):=(ah (R.1.fix 0) 1).trans rfl;clear hv T bd;generalize uQ wr w.heap.size C D n N.length=bk at R av be bf⊢
    as_aux_lemma=>
    go_wp2_with(go_at_call 136;refine(av.1).mono ?_;rintro e w3 ⟨rfl,bl,U,aw,bg⟩;have F:=ag aw;clear aw bg)
    have bm:w3.cell? ⟨n,0,af⟩=ae (.slice (ae ⟨g,0,af⟩) N.length N.length):=(ah (F.1.fix 7) 0).trans rfl;have bo:w3.cell? ⟨wr.heap.size,0,af⟩=ae U:=(ah (F.1.fix 11) 0).trans rfl
    as_aux_lemma=>
    go_region;go_wp2;refine dE (v:=.tuple #[.slice (ae ⟨g,0,af⟩) N.length N.length,U]) (by simp only[results,Tryz.results122];go_simp) rfl ?_;exact⟨g,wr.heap.size+6,U,rfl,F.1.below.drew,by have:=P.1.l5;omega,by have:=block_lt P.1.e5;omega,F.1.ln,F.1.fix 3,F.1.oH.drew⟩
def Ag (inn:List Int)(M:List (List Int))(i:Nat):List (List Int):=M.set (inn.getD i 0).toNat (M.getD (inn.getD i 0).toNat []++[(i:Int)])
def E8 (inn:List Int)(C:Nat):List (List Int):=(dH inn.length).foldl (Ag inn) (ay C [])
def mX (inn:List Int)(c:Nat)(st:List Int×Bool)(x:Int):List Int×Bool:=
 if inn.getD x.toNat 0=(c:Int)then(st.1,aI)else(st.1.set c (max (st.1.getD c 0) (st.1.getD (inn.getD x.toNat 0).toNat 0)),st.2)
def xI (N:List Nd)(inn:List Int)(c:Nat)(st:List Int×Bool)(i:Int):List Int×Bool:=
 (N.getD i.toNat nd0).items.foldl (mX inn c) ((N.getD i.toNat nd0).keys.foldl (mX inn c) st)
def Ah (N:List Nd)(inn:List Int)(M:List (List Int))(sizes:List Int)(st:List Int×Bool)(c:Nat):List Int×Bool:=
 let a:=(M.getD c []).foldl (xI N inn c) st
 (a.1.set c (wrap64 (a.1.getD c 0+sizes.getD c 0)),a.2)
def uS (N:List Nd)(root:Nat)(inn sizes:List Int):Int×Bool:=
 let st:=(dH sizes.length).foldl (Ah N inn (E8 inn sizes.length) sizes) (ay sizes.length 0,bV)
 (wrap64 (st.1.getD (inn.getD root 0).toNat 0 - 1),st.2)
example:uS [⟨10,⟨#[]⟩,aI,[1],[2]⟩,⟨5,⟨#[97]⟩,aI,[],[]⟩,⟨9,⟨#[]⟩,aI,[],[3]⟩,⟨2,⟨#[49]⟩,aI,[],[]⟩] 0 [3,0,2,1] [1,1,1,1]=(2,bV):=by decide+kernel
def jr:aC:=.slice af 0 0
structure DW (w1:aH)(hb C:Nat)(M:List (List Int))(vals:List aC)(B:List Int)(wr:aH):Prop where
 below:Below hb w1 wr
 mY:wr.heap[hb]?=ae (.cells (B.map (aK .i64)).toArray 3)
 mrow:wr.heap[hb+1]?=ae (.cells vals.toArray 36)
 ml:M.length=C
 vl:vals.length=C
 bl:B.length=C
 rows:∀c,c<C->wr.ownsRow (hb+2) 3 1 (vals.getD c jr) (M.getD c []).length ((M.getD c []).map (aK .i64))
 sep:∀c c',c<C->c'<C->c≠c'->(vals.getD c jr).ownBlock=af\/(vals.getD c jr).ownBlock≠(vals.getD c' jr).ownBlock
theorem Fa {α:Type}(n c:Nat)(x:α):(ay n x).getD c x=x:=by rw[aB,List.getElem?_replicate];split<;>rfl
theorem mZ {α:Type}(L:List α)(i j:Nat)(x y:α):(L.set i x).getD j y=if i=j/\i<L.length then x else L.getD j y:=by
 rw[aB,dm,aB];by_cases h:i=j
 ·subst h
  by_cases a:i<L.length
  ·simp[a]
  ·simp[a]
 ·simp[h]
section
variable {w1 wr:aH} {hb C:Nat} {M:List (List Int)} {vals:List aC} {B:List Int}
theorem VE (w1:aH)(C:Nat):DW w1 w1.heap.size C (ay C []) (ay C jr) (ay C 0) ((w1.alloc (.cells (aN C (.int .i64 0)) 3)).alloc (.cells (aN C (.slice af 0 0)) 36)) where
 below:=((Below.refl _ w1).alloc (bC _) _).alloc (by rw[jl];omega) _
 mY:=by rw[bD _ _ _ (by rw[jl];omega),aZ];simp
 mrow:=by have h:=aZ (w1.alloc (.cells (aN C (.int .i64 0)) 3)) (.cells (aN C (.slice af 0 0)) 36);rw[jl]at h;rw[h];simp[jr]
 ml:=iH
 vl:=iH
 bl:=iH
 rows:=λc _=>by rw[Fa,Fa];exact bU _ _ _ _
 sep:=λc a _ _ _=>.inl (by rw[Fa];rfl)
theorem DW.drew (h:DW w1 hb C M vals B wr):DW w1 hb C M vals B wr.drew:={h with below:=h.below.drew,rows:=λc hc=>(h.rows c hc).drew}
theorem DW.alloc (h:DW w1 hb C M vals B wr)(o:Obj):DW w1 hb C M vals B (wr.alloc o):=
 {h with
  below:=h.below.alloc (by have:=block_lt h.mY;omega) o
  mY:=by rw[bD _ _ _ (block_lt h.mY)];exact h.mY
  mrow:=by rw[bD _ _ _ (block_lt h.mrow)];exact h.mrow
  rows:=λc hc=>(h.rows c hc).alloc o}
theorem DW.setB (h:DW w1 hb C M vals B wr)(c:Nat)(x:Int):DW w1 hb C M vals (B.set c x) (wr.setCell ⟨hb,c,af⟩ (.int .i64 x)):=
 {h with
  below:=h.below.setCell (p:=⟨hb,c,af⟩) (bC _) _
  mY:=by simp[aT,aY,h.mY,bu]
  mrow:=by rw[jm _ iE];exact h.mrow
  bl:=by simpa using h.bl
  rows:=λa hc=>uN (h.rows a hc) iE (lN wr hb c _)}
theorem DW.push (h:DW w1 hb C M vals B wr){c:Nat}(hc:c<C)(L:List Int)(v':aC)(w':aH)(i:wr.grownBy w' (vals.getD c jr).ownBlock)(o:w'.ownsRow (hb+2) 3 1 v' L.length (L.map (aK .i64)))
  (m:∀k,v'.ownBlock=ae k->(vals.getD c jr).ownBlock=ae k\/wr.heap.size<=k):
  DW w1 hb C (M.set c L) (vals.set c v') B (w'.setCell ⟨hb+1,c,af⟩ v'):=by
 have q:=h.rows;have hn:∀k,(vals.getD c jr).ownBlock=ae k->hb+2<=k:=λk a=>((h.rows c hc).lt k a).1
 have r:=h.ml;have s:=h.vl;refine⟨?_,?_,?_,by simpa using h.ml,by simpa using h.vl,h.bl,?_,?_⟩
 ·exact(h.below.grown i (by have:=block_lt h.mY;omega) (λk a=>by have:=hn k a;omega)).setCell (p:=⟨hb+1,c,af⟩) (by show hb<=hb+1;omega) _
 ·rw[jm _ iE,i.block _ (block_lt h.mY) (λe=>by have:=hn _ e.symm;omega)];exact h.mY
 ·have hm:=h.mrow
  rw[<-i.block _ (block_lt h.mrow) (λe=>by have:=hn _ e.symm;omega)]at hm;simp[aT,aY,hm]
 ·intro k a
  refine uN (b:=hb+1) ?_ iE (lN w' (hb+1) c v');rw[mZ,mZ];by_cases d:c=k
  ·subst d
   rw[gY ⟨rfl,iE⟩,gY ⟨rfl,iE⟩];exact o
  ·rw[gZ (λe=>d e.1),gZ (λe=>d e.1)]
   exact(h.rows k a).kept i (h.sep k c a hc (λe=>d e.symm))
 ·intro k k' a l j
  rw[mZ,mZ];by_cases d:c=k
  ·subst d
   rw[gY ⟨rfl,iE⟩,gZ (λe=>j e.1)];cases g:v'.ownBlock with
   |none=>exact .inl rfl
   |some b=>
    refine .inr λe=>?_
    rcases m b g with f|f
    ·rcases h.sep c k' hc l j with e3|e3
     ·rw[e3]at f;cases f
     ·exact e3 (f.trans e)
    ·have:=((h.rows k' l).lt b e.symm).2
     omega
  ·rw[gZ (λe=>d e.1)]
   by_cases n:c=k'
   ·subst n
    rw[gY ⟨rfl,iE⟩];cases g:(vals.getD k jr).ownBlock with
    |none=>exact .inl rfl
    |some b=>
     refine .inr λe=>?_
     rcases m b e.symm with f|f
     ·rcases h.sep k c a hc j with e3|e3
      ·rw[e3]at g;cases g
      ·exact e3 (g.trans f.symm)
     ·have:=((h.rows k a).lt b g).2
      omega
   ·rw[gZ (λe=>n e.1)]
    exact h.sep k k' a l j
end
def Fb (n:Nat)(M:List (List Int)):Prop:=∀L∈M,L.length<=n/\∀x∈L,0<=x/\x<(n:Int)
theorem VF {inn:List Int}{M:List (List Int)}{i:Nat}(h:Fb i M):Fb (i+1) (Ag inn M i):=by
 intro L b;unfold Ag at b;rcases List.mem_or_eq_of_mem_set b with b|rfl
 ·obtain⟨d,c⟩:=h L b
  exact⟨iE,λx hx=>by have:=c x hx;omega⟩
 ·have a:(M.getD (inn.getD i 0).toNat [])∈M\/M.getD (inn.getD i 0).toNat []=[]:=by
   rw[aB];cases e:M[(inn.getD i 0).toNat]? with
   |none=>exact .inr rfl
   |some y=>exact .inl (List.mem_of_getElem? e)
  rcases a with a|a
  ·obtain⟨d,c⟩:=h _ a
   refine⟨by simp only[bQ,bW,bZ];omega,λx hx=>?_⟩;rcases bG.1 hx with hx|hx
   ·have:=c x hx;omega
   ·rw[bT.1 hx];omega
  ·rw[a]
   refine⟨iH,λx hx=>?_⟩;rw[List.nil_append]at hx;rw[bT.1 hx];omega
theorem nH {α:Type}(l:List α)(i j:Nat)(v d:α):(l.set i v).getD j d=if i=j/\i<l.length then v else l.getD j d:=by
 simp only[aB,dm];by_cases h:i=j
 ·subst h
  by_cases a:i<l.length<;>simp[a]
 ·simp[h]
theorem Lc (l:List Int)(i:Nat)(h:i<l.length)(a:l.getD i 0=0):0<l.count 0:=by rw[aB,aJ h,Option.getD_some]at a;rw[bP];exact a▸aV h
theorem Ld:∀(l:List Int) (i:Nat) (v:Int),i<l.length->l.getD i 0=0->v≠0->(l.set i v).count 0+1=l.count 0
 |[],_,_,h,_,_=>absurd h (bn _)
 |x::l,0,v,_,a,hv=>by have hx:x=0:=a;subst hx;rw[ax,List.count_cons_of_ne hv,List.count_cons_self]
 |x::l,i+1,v,h,a,hv=>by have b:=Ld l i v (by simpa using h) a hv;rw[au,dA,dA];omega
structure TJ (n:Nat)(s:TS):Prop where
 li:s.index.length=n
 ll:s.low.length=n
 ln:s.inn.length=n
 nx:s.next=(n:Int) - (s.index.count 0:Nat)
 nd:s.stack.Nodup
 st:∀x∈s.stack,∃k:Nat,x=(k:Int)/\k<n/\s.index.getD k 0≠0
 out:∀k,k<n->s.index.getD k 0≠0->(k:Int)∈s.stack\/(0<=s.inn.getD k (-1)/\s.inn.getD k (-1)<(s.sizes.length:Int))
 pos:∀k,k<n->s.index.getD k 0≠0->1<=s.index.getD k 0/\1<=s.low.getD k 0
 few:(s.sizes.length:Int)+(s.stack.length:Int)<=s.next
structure Gr (N:List Nd)(a:Option Nat)(s s':TS):Prop where
 stk:∃X,s'.stack=s.stack++X
 idx:∀k,s.index.getD k 0≠0->s'.index.getD k 0=s.index.getD k 0
 low:∀k,ae k≠a->s.index.getD k 0≠0->s'.low.getD k 0=s.low.getD k 0
 cnt:s'.index.count 0<=s.index.count 0
 cls:∀k,s'.index.getD k 0≠0->s.index.getD k 0≠0\/∀x∈(N.getD k nd0).keys++(N.getD k nd0).items,s'.index.getD x.toNat 0≠0
theorem Gr.refl (N:List Nd)(a:Option Nat)(s:TS):Gr N a s s:=⟨⟨[],iH⟩,λ_ _=>rfl,λ_ _ _=>rfl,bC _,λ_ h=>.inl h⟩
theorem Gr.vis {N:List Nd}{a:Option Nat}{s s':TS}(h:Gr N a s s'){k:Nat}(b:s.index.getD k 0≠0):s'.index.getD k 0≠0:=by rw[h.idx k b];exact b
theorem Gr.trans {N:List Nd}{a:Option Nat}{s t u:TS}(h:Gr N a s t)(k:Gr N a t u):Gr N a s u where
 stk:=by obtain⟨X,hx⟩:=h.stk;obtain⟨Y,hy⟩:=k.stk;exact⟨X++Y,by rw[hy,hx,List.append_assoc]⟩
 idx:=λi hi=>by rw[k.idx i (h.vis hi),h.idx i hi]
 low:=λi ha hi=>by rw[k.low i ha (h.vis hi),h.low i ha hi]
 cnt:=aO k.cnt h.cnt
 cls:=λi hi=>by
  rcases k.cls i hi with b|b
  ·rcases h.cls i b with c|c
   ·exact .inl c
   ·exact .inr λx hx=>k.vis (c x hx)
  ·exact .inr b
theorem Gr.any {N:List Nd}{s t:TS}(h:Gr N af s t)(a:Option Nat):Gr N a s t:=⟨h.stk,h.idx,λi _ hi=>h.low i iH hi,h.cnt,h.cls⟩
theorem TJ.Aq {n:Nat}{s:TS}(h:TJ n s)(a:Nat)(v:Int)(hv:1<=v):TJ n {s with low:=s.low.set a v}:=
 ⟨h.li,by rw[cu];exact h.ll,h.ln,h.nx,h.nd,h.st,h.out,λk b hx=>⟨(h.pos k b hx).1,by
  show 1<=(s.low.set a v).getD k 0;rw[nH];split
  ·exact hv
  ·exact(h.pos k b hx).2⟩,h.few⟩
theorem Gr.Aq (N:List Nd)(s:TS)(a:Nat)(v:Int):Gr N (ae a) s {s with low:=s.low.set a v}:=
 ⟨⟨[],iH⟩,λ_ _=>rfl,λk b _=>by show(s.low.set a v).getD k 0=_;rw[nH,gZ (λh=>b (by rw[h.1]))],bC _,λ_ h=>.inl h⟩
def FK (N:List Nd)(n f:Nat):Prop:=∀a s,TJ n s->a<n->s.index.getD a 0=0->s.index.count 0<=f->
 ∃s',mg N f a s=ae s'/\TJ n s'/\Gr N af s s'/\s'.index.getD a 0=s.next+1/\s'.low.getD a 0<=s.next+1/\(s'.low.getD a 0=s.next+1->s'.stack=s.stack)
theorem XV {N:List Nd}{n f:Nat}(j:FK N n f)(a x:Nat)(s:TS)(hx:x<n)(b:TJ n s)(ha:a<n)(e:s.index.getD a 0≠0)(hf:s.index.count 0<=f):
  ∃s',stepT (mg N f) a x s=ae s'/\TJ n s'/\Gr N (ae a) s s'/\s'.index.getD x 0≠0/\s'.low.getD a 0<=s.low.getD a 0:=by
 unfold stepT;by_cases c:s.index.getD x 0=0
 ·rw[gY c]
  obtain⟨g,e1,d,h,k,-,-⟩:=j x s b hx c hf;have l:=h.vis e
  have i:g.index.getD x 0≠0:=by have:=b.nx;have p:s.index.count 0<=n:=(by rw[<-b.li];exact List.count_le_length);rw[k];omega
  rw[e1];refine⟨_,rfl,d.Aq a _ ?_,(h.any _).trans (Gr.Aq N g a _),i,?_⟩
  ·have m:=(d.pos a ha l).2
   have o:=(d.pos x hx i).2;omega
  ·show(g.low.set a _).getD a 0<=_
   rw[nH,gY ⟨rfl,by rw[d.ll];exact ha⟩,h.low a iH e];omega
 ·rw[gZ c]
  split
  ·refine⟨_,rfl,b.Aq a _ ?_,Gr.Aq N s a _,c,?_⟩
   ·have m:=(b.pos a ha e).2
    have o:=(b.pos x hx c).1;omega
   ·show(s.low.set a _).getD a 0<=_
    rw[nH,gY ⟨rfl,by rw[b.ll];exact ha⟩];omega
  ·exact⟨s,rfl,b,Gr.refl _ _ _,c,dF _⟩
theorem FM {N:List Nd}{n f:Nat}(d:FK N n f)(a:Nat)(ha:a<n):∀(l:List Int) (s:TS),(∀x∈l,0<=x/\x<(n:Int))->TJ n s->s.index.getD a 0≠0->s.index.count 0<=f->
  ∃s',nJ (mg N f) a l s=ae s'/\TJ n s'/\Gr N (ae a) s s'/\(∀x∈l,s'.index.getD x.toNat 0≠0)/\s'.low.getD a 0<=s.low.getD a 0
 |[],s,_,b,_,_=>⟨s,rfl,b,Gr.refl _ _ _,λ_ h=>(aW h).elim,dF _⟩
 |x::l,s,e,b,g,hf=>by
  have hx:=e x (List.mem_cons_self ..);obtain⟨j,e1,k,c,m,o⟩:=XV d a x.toNat s iE b ha g hf;obtain⟨p,q,r,i,t,u⟩:=FM d a ha l j (λy hy=>e y (List.mem_cons_of_mem _ hy)) k (c.vis g) (aO c.cnt hf);refine⟨p,?_,r,c.trans i,λy hy=>?_,Int.le_trans u o⟩
  ·show List.foldlM _ s (x::l)=_
   rw[dw,e1];exact q
  ·rcases aX.1 hy with h|h
   ·subst h;exact i.vis m
   ·exact t y h
theorem XW (a:Nat):∀(f:Nat) (Q:List Int) (s:TS) (P:List Int) (sz:Int),s.stack=P++((a:Int)::Q)->(a:Int)∉Q->(∀x∈Q,0<=x)->Q.length<f->
  ∃s' b,pM a f s sz=ae (s',b)/\s'.stack=P/\s'.index=s.index/\s'.low=s.low/\s'.next=s.next/\s'.sizes=s.sizes/\s'.inn.length=s.inn.length/\
   ∀k:Nat,k<s.inn.length->((k:Int)∈(a:Int)::Q->s'.inn.getD k (-1)=(s.sizes.length:Int))/\((k:Int)∉(a:Int)::Q->s'.inn.getD k (-1)=s.inn.getD k (-1)):=by
 intro f
 induction f with
 |zero=>intro Q s P sz _ _ _ h;exact absurd h (bn _)
 |succ f m=>
  intro Q s P sz hs c hp hf;rcases List.eq_nil_or_concat Q with rfl|⟨Q',x,rfl⟩
  ·have d:s.stack.getLast?=ae (a:Int):=by rw[hs];simp
   have e:pM a (f+1) s sz=ae (mf s a,wrap64 (sz+1)):=by show(match s.stack.getLast? with|none=>af|some x=>_)=_;rw[d];simp
   refine⟨_,_,e,?_,rfl,rfl,rfl,rfl,by show(s.inn.set _ _).length=_;rw[cu],λk i=>⟨λh=>?_,λh=>?_⟩⟩
   ·show s.stack.dropLast=P
    rw[hs];simp
   ·show(s.inn.set (a:Int).toNat _).getD k (-1)=_
    have:(k:Int)=(a:Int):=(by simpa using h);rw[nH,gY ⟨iE,iE⟩]
   ·show(s.inn.set (a:Int).toNat _).getD k (-1)=_
    have:¬(k:Int)=(a:Int):=(by simpa using h);rw[nH,gZ (λh=>this (by have:=h.1;omega))]
  ·rw[List.concat_eq_append]at hs c hp hf⊢
   have n:x≠(a:Int):=λe=>c (by rw[e];simp)
   have A:=hp x iH
   have d:s.stack.getLast?=ae x:=by rw[hs,show P++(a:Int)::(Q'++[x])=(P++(a:Int)::Q')++[x] by simp,List.getLast?_concat]
   have e:pM a (f+1) s sz=pM a f (mf s x) (wrap64 (sz+1)):=by show(match s.stack.getLast? with|none=>af|some x=>_)=_;rw[d];simp[n]
   have o:(mf s x).stack=P++((a:Int)::Q'):=by show s.stack.dropLast=_;rw[hs,show P++(a:Int)::(Q'++[x])=(P++(a:Int)::Q')++[x] by simp,List.dropLast_concat]
   obtain⟨s',b,p,q,r,t,u,v,w,z⟩:=m Q' (mf s x) P (wrap64 (sz+1)) o (λh=>c (by simp[h])) (λy hy=>hp y (by simp[hy])) (by simp at hf;omega);have j:(mf s x).inn.length=s.inn.length:=(by show(s.inn.set _ _).length=_;rw[cu]);refine⟨s',b,by rw[e];exact p,q,r,t,u,v,by rw[w,j],λk i=>?_⟩;have g:=z k (by rw[j];exact i);have l:(mf s x).inn.getD k (-1)=if x.toNat=k/\x.toNat<s.inn.length then(s.sizes.length:Int)else s.inn.getD k (-1):=nH ..
   refine⟨λh=>?_,λh=>?_⟩
   ·by_cases hm:(k:Int)∈(a:Int)::Q'
    ·exact g.1 hm
    ·rw[g.2 hm,l]
     have:(k:Int)=x:=by
      simp only[aX,bG,aW,or_false]at h hm;rcases h with h|h|h
      ·exact absurd (.inl h) hm
      ·exact absurd (.inr h) hm
      ·exact h
     rw[gY ⟨iE,iE⟩]
   ·rw[g.2 (λhm=>h (by
     simp only[aX,bG]at hm⊢;rcases hm with h|h
     ·exact .inl h
     ·exact .inr (.inl h))),l,gZ]
    intro B;exact h (by rw[show(k:Int)=x by omega];simp)
