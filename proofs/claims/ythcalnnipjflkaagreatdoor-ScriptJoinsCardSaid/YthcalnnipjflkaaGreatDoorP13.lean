import Derived.Test.YthcalnnipjflkaaGreatDoorP12
import Derived.OwnWalk
import Derived.Deep.Onto
open Option renaming some -> ae, none -> af
open Go renaming Value -> ag, World -> aj, wpList_append_grows -> aB, TypeId -> aH
open Nat renaming le_trans -> ah, lt_of_le_of_lt -> aC, le_of_lt -> aI
open Array renaming getElem?_eq_some_iff -> au
open Go.Value renaming int -> ax
open List renaming replicate -> ay, map_set -> aA
open Go.World renaming setCell -> az
set_option linter.all false
namespace Go.Proofs.YthcalnnipjflkaaGreatDoor
open Go.RowKit
theorem wG {P:Program}{ops:Array Oper}{rest:List Oper}{o:Oper}{a:Act}{Q:Exit->Act->aj->Prop}(w:aj)(r:o.guard=af)(s x:Operand)(t:aH)
  (y:o.op=.call {callee:=.builtin .append,args:=#[s,x],argTypes:=#[t,t]})
  (base:Nat)(e:aH)(i:TypeInfo)(z:ag)(size bytes:Nat)(A:P.underlying t=ae (.slice e))(hi:P.info? e=ae i)(F:i.zero=ae z)
  (B:i.size=size)(G:i.bytes=bytes)(H:z.cells.size=size)(I:0<size)
  (v:ag)(n:Nat)(xs:List ag)(hs:a.eval s=v)(J:w.ownsRow base e size v n xs)
  (ad:Addr)(m c:Nat)(f:List ag)(hx:a.eval x=.slice (ae ad) m c)(C:f.length=m*size)(D:∀j u,f[j]?=ae u->w.cell? (ad.add j)=ae u)(E:∀u∈f,u.oneCell'=true)
  (hm:0<m)(K:n+m<=maxLen)(L:(n+m)*bytes<=140737488355328)(M:base<=w.heap.size)
  (h:∀v' w',w'.ownsRow base e size v' (n+m) (xs++f)->w.grownBy w' v.ownBlock->(∀k,v'.ownBlock=ae k->v.ownBlock=ae k\/w.heap.size<=k)->wpList P ops Q rest (a.put o.dst v') w'):wpList P ops Q (o::rest) a w:=by
 have N:=J;obtain⟨O,hr|⟨g,cap,S,rfl,q,T,U,V,W,X⟩⟩:=J
 ·obtain⟨rfl,rfl⟩:=hr
  have R:xs=[]:=List.length_eq_zero_iff.1 (by simpa using O);subst R;refine aB w r s x t y e i z size bytes A hi F B G H I af 0 0 [] hs (λ_=>⟨rfl,rfl⟩) iH (λb q=>by cases q) ad m c f hx C D E iE K L ?_;intro v' w' l d;exact h v' w' (l.mono M) d (λk p=>.inr (l.lt k p).1)
 ·by_cases hf:n+m<=cap
  ·refine wpList_append_fits w r s x t y base e i size A hi B g n cap xs hs N ad m c f hx C D E hf ?_
   intro w' l d;exact h _ w' l d (λk p=>.inl p)
  ·refine aB w r s x t y e i z size bytes A hi F B G H I (ae ⟨g,0,af⟩) n cap xs hs (λh=>by cases h) O (λb q=>by cases q;exact N.cells rfl) ad m c f hx C D E iE K L ?_
   intro v' w' l d;refine h v' w' (l.mono M) ⟨d.os,d.tape,d.output,d.size,λk p _=>d.block k p iH⟩ (λk p=>.inr (l.lt k p).1)
end Go.Proofs.YthcalnnipjflkaaGreatDoor
namespace Go.Proofs.YthcalnnipjflkaaGreatDoor
open Go.RowKit
open Go.Lib hiding intOf
structure TS where
 next:Int
 index:List Int
 low:List Int
 inn:List Int
 on:List Bool
 stack:List Int
 sizes:List Int
def stepT (visit:Nat->TS->Option TS)(a x:Nat)(s:TS):Option TS:=
 if s.index.getD x 0=0 then(visit x s).map λs=>{s with low:=s.low.set a (min (s.low.getD a 0) (s.low.getD x 0))}
 else if s.on.getD x false then ae {s with low:=s.low.set a (min (s.low.getD a 0) (s.index.getD x 0))}
 else ae s
def mf (s:TS)(x:Int):TS:={s with stack:=s.stack.dropLast,on:=s.on.set x.toNat false,inn:=s.inn.set x.toNat s.sizes.length}
def pM (a:Nat):Nat->TS->Int->Option (TS×Int)
 |0,_,_=>af
 |f+1,s,size=>
  match s.stack.getLast? with
  |none=>af
  |some x=>if x=a then ae (mf s x,wrap64 (size+1))else pM a f (mf s x) (wrap64 (size+1))
def lG (a:Nat)(s:TS):TS:={s with next:=wrap64 (s.next+1),index:=s.index.set a (wrap64 (s.next+1)),low:=s.low.set a (wrap64 (s.next+1)),stack:=s.stack++[(a:Int)],on:=s.on.set a true}
def nJ (visit:Nat->TS->Option TS)(a:Nat)(l:List Int)(s:TS):Option TS:=l.foldlM (λs x=>stepT visit a x.toNat s) s
def xH (a:Nat)(s:TS):Option TS:=
 if s.low.getD a 0=s.index.getD a 0 then(pM a (s.stack.length+1) s 0).map λp=>{p.1 with sizes:=p.1.sizes++[p.2]}else ae s
def mg (N:List Nd):Nat->Nat->TS->Option TS
 |0,_,_=>af
 |f+1,a,s=>(nJ (mg N f) a (N.getD a nd0).keys (lG a s)).bind λs=>(nJ (mg N f) a (N.getD a nd0).items s).bind (xH a)
def uM (N:List Nd)(root:Nat):Option (List Int×List Int):=
 (mg N (N.length+1) root ⟨0,ay N.length 0,ay N.length 0,ay N.length (-1),ay N.length false,[],[]⟩).map λs=>(s.inn,s.sizes)
example:uM [⟨10,⟨#[]⟩,false,[1],[2]⟩,⟨5,⟨#[97]⟩,false,[],[]⟩,⟨9,⟨#[]⟩,false,[],[3]⟩,⟨2,⟨#[49]⟩,false,[],[]⟩] 0=ae ([3,0,2,1],[1,1,1,1]):=by decide+kernel
def tobj (d:Fin 13->Nat)(n:Nat)(v:ag)(root:Int)(s:TS)(a b:ag):Fin 13->Obj
 |0=>.cells #[v,.int .i64 root] 117
 |1=>.cells (s.index.map (ax .i64)).toArray 3
 |2=>.cells (s.low.map (ax .i64)).toArray 3
 |3=>.cells (s.inn.map (ax .i64)).toArray 3
 |4=>.cells (s.on.map Value.bool).toArray 4
 |5=>.cells #[.slice (ae ⟨d 1,0,af⟩) n n] 36
 |6=>.cells #[.slice (ae ⟨d 2,0,af⟩) n n] 36
 |7=>.cells #[.slice (ae ⟨d 3,0,af⟩) n n] 36
 |8=>.cells #[.slice (ae ⟨d 4,0,af⟩) n n] 168
 |9=>.cells #[.int .i64 s.next] 3
 |10=>.cells #[.func (.func 136) #[] #[.pointer (ae ⟨d 9,0,af⟩),.pointer (ae ⟨d 5,0,af⟩),.pointer (ae ⟨d 6,0,af⟩),.pointer (ae ⟨d 12,0,af⟩),.pointer (ae ⟨d 8,0,af⟩),.pointer (ae ⟨d 10,0,af⟩),.pointer (ae ⟨d 0,0,af⟩),.pointer (ae ⟨d 11,0,af⟩),.pointer (ae ⟨d 7,0,af⟩)]] 184
 |11=>.cells #[b] 36
 |12=>.cells #[a] 36
structure GX (w0:aj)(v:ag)(root:Int)(N:List Nd)(d:Fin 13->Nat)(base:Nat)(s:TS)(sv zv:ag)(w:aj):Prop where
 below:Below w0.heap.size w0 w
 lo:∀k,w0.heap.size<=d k
 hi:∀k,d k<base
 inj:∀i j,d i=d j->i=j
 fix:∀k,w.heap[d k]?=ae (tobj d N.length v root s sv zv k)
 kZ:base<=w.heap.size
 nK:w.ownsRow base 3 1 sv s.stack.length (s.stack.map (ax .i64))
 oH:w.ownsRow base 3 1 zv s.sizes.length (s.sizes.map (ax .i64))
 ne:sv.ownBlock=af\/sv.ownBlock≠zv.ownBlock
 li:s.index.length=N.length
 ll:s.low.length=N.length
 ln:s.inn.length=N.length
 lo2:s.on.length=N.length
 stk:∀x∈s.stack,0<=x/\x<(N.length:Int)
structure GW (w0:aj)(v:ag)(root:Int)(N:List Nd)(d:Fin 13->Nat)(base:Nat)(s:TS)(sv zv:ag)(w:aj):Prop extends GX w0 v root N d base s sv zv w where
 cnt:s.next+s.index.count 0=N.length
 bd:((s.stack.length+s.sizes.length:Nat):Int)<=s.next
theorem EW {d:Fin 13->Nat}{obj a:Fin 13->Obj}{w:aj}(h:∀k,w.heap[d k]?=ae (obj k))(inj:∀i j,d i=d j->i=j)(j:Fin 13)(i:Nat)(x:ag){c:Array ag}{T:aH}(f:obj j=.cells c T)(g:a j=.cells (c.setIfInBounds i x) T)
  (l:∀k,k≠j->a k=obj k):∀k,(w.setCell ⟨d j,i,af⟩ x).heap[d k]?=ae (a k):=by
 intro k;by_cases b:k=j
 ·subst b
  have:=h k;rw[f]at this;rw[g];simp[az,Array.getElem?_modify,this]
 ·rw[jm _ (λe=>b (inj _ _ e)),l k b];exact h k
theorem uN {w w':aj}{base b n:Nat}{v:ag}{xs:List ag}{e:aH}(h:w.ownsRow base e 1 v n xs)(c:b<base)(a:w.grownBy w' (ae b)):w'.ownsRow base e 1 v n xs:=by refine h.kept a (.inr λe=>?_);have:=(h.lt b e).1;omega
section
variable {w0:aj} {v:ag} {root:Int} {N:List Nd} {d:Fin 13->Nat} {base:Nat} {s:TS} {sv zv:ag} {w:aj}
theorem GX.drew (h:GX w0 v root N d base s sv zv w):GX w0 v root N d base s sv zv w.drew:=
 {h with below:=h.below.drew}
theorem GX.grown {w':aj}(h:GX w0 v root N d base s sv zv w)(a:w.grownBy w' af):GX w0 v root N d base s sv zv w':=
 {h with
  below:=h.below.grown a h.below.size (λk b=>by cases b)
  fix:=λk=>by rw[a.block _ (au.1 (h.fix k)).1 iH];exact h.fix k
  kZ:=ah h.kZ a.size
  nK:=h.nK.kept a (by cases c:sv.ownBlock<;>simp)
  oH:=h.oH.kept a (by cases c:zv.ownBlock<;>simp)}
theorem GX.alloc (h:GX w0 v root N d base s sv zv w)(o:Obj):GX w0 v root N d base s sv zv (w.alloc o):=h.grown (World.grownBy_alloc w o af)
theorem GW.drew (h:GW w0 v root N d base s sv zv w):GW w0 v root N d base s sv zv w.drew:={toGX:=h.toGX.drew,cnt:=h.cnt,bd:=h.bd}
theorem GX.store (h:GX w0 v root N d base s sv zv w)(j:Fin 13)(i:Nat)(x:ag)(s':TS){a:Array ag}{T:aH}(c:tobj d N.length v root s sv zv j=.cells a T)(e:tobj d N.length v root s' sv zv j=.cells (a.setIfInBounds i x) T)
  (f:∀k,k≠j->tobj d N.length v root s' sv zv k=tobj d N.length v root s sv zv k)(b:s'.stack=s.stack)(g:s'.sizes=s.sizes)(l:s'.index.length=N.length)(m:s'.low.length=N.length)(n:s'.inn.length=N.length)(o:s'.on.length=N.length):
  GX w0 v root N d base s' sv zv (w.setCell ⟨d j,i,af⟩ x) where
 below:=h.below.setCell (p:=⟨d j,i,af⟩) (h.lo j) _
 lo:=h.lo
 hi:=h.hi
 inj:=h.inj
 fix:=EW h.fix h.inj j i x c e f
 kZ:=by simpa[az]using h.kZ
 nK:=by rw[b];exact uN h.nK (h.hi j) (lN w (d j) i x)
 oH:=by rw[g];exact uN h.oH (h.hi j) (lN w (d j) i x)
 ne:=h.ne
 li:=l
 ll:=m
 ln:=n
 lo2:=o
 stk:=by rw[b];exact h.stk
theorem GX.zY (h:GX w0 v root N d base s sv zv w)(a:Nat)(x:Int):GX w0 v root N d base {s with low:=s.low.set a x} sv zv (w.setCell ⟨d 2,a,af⟩ (.int .i64 x)):=
 h.store 2 a _ _ rfl (by simp[tobj,aA]) (λk b=>by
  match k with
  |2=>exact absurd rfl b
  |0|1|3|4|5|6|7|8|9|10|11|12=>rfl) rfl rfl h.li (by simpa using h.ll) h.ln h.lo2
theorem GX.setIndex (h:GX w0 v root N d base s sv zv w)(a:Nat)(x:Int):GX w0 v root N d base {s with index:=s.index.set a x} sv zv (w.setCell ⟨d 1,a,af⟩ (.int .i64 x)):=
 h.store 1 a _ _ rfl (by simp[tobj,aA]) (λk b=>by
  match k with
  |1=>exact absurd rfl b
  |0|2|3|4|5|6|7|8|9|10|11|12=>rfl) rfl rfl (by simpa using h.li) h.ll h.ln h.lo2
theorem GX.Vh (h:GX w0 v root N d base s sv zv w)(a:Nat)(x:Int):GX w0 v root N d base {s with inn:=s.inn.set a x} sv zv (w.setCell ⟨d 3,a,af⟩ (.int .i64 x)):=
 h.store 3 a _ _ rfl (by simp[tobj,aA]) (λk b=>by
  match k with
  |3=>exact absurd rfl b
  |0|1|2|4|5|6|7|8|9|10|11|12=>rfl) rfl rfl h.li h.ll (by simpa using h.ln) h.lo2
theorem GX.JM (h:GX w0 v root N d base s sv zv w)(a:Nat)(x:Bool):GX w0 v root N d base {s with on:=s.on.set a x} sv zv (w.setCell ⟨d 4,a,af⟩ (.bool x)):=
 h.store 4 a _ _ rfl (by simp[tobj,aA]) (λk b=>by
  match k with
  |4=>exact absurd rfl b
  |0|1|2|3|5|6|7|8|9|10|11|12=>rfl) rfl rfl h.li h.ll h.ln (by simpa using h.lo2)
theorem GX.Vj (h:GX w0 v root N d base s sv zv w)(x:Int):GX w0 v root N d base {s with next:=x} sv zv (w.setCell ⟨d 9,0,af⟩ (.int .i64 x)):=
 h.store 9 0 _ _ rfl (by simp[tobj]) (λk a=>by
  match k with
  |9=>exact absurd rfl a
  |0|1|2|3|4|5|6|7|8|10|11|12=>rfl) rfl rfl h.li h.ll h.ln h.lo2
theorem GW.zY (h:GW w0 v root N d base s sv zv w)(a:Nat)(x:Int):GW w0 v root N d base {s with low:=s.low.set a x} sv zv (w.setCell ⟨d 2,a,af⟩ (.int .i64 x)):=
 {toGX:=h.toGX.zY a x,cnt:=h.cnt,bd:=h.bd}
theorem GX.setStack (h:GX w0 v root N d base s sv zv w)(L:List Int)(a:ag)(w':aj)(b:w.grownBy w' sv.ownBlock)(g:w'.ownsRow base 3 1 a L.length (L.map (ax .i64)))
  (i:∀k,a.ownBlock=ae k->sv.ownBlock=ae k\/w.heap.size<=k)(j:∀x∈L,0<=x/\x<(N.length:Int)):
  GX w0 v root N d base {s with stack:=L} a zv (w'.setCell ⟨d 12,0,af⟩ a) where
 below:=(h.below.grown b h.below.size (λk f=>ah (aI (aC (h.lo 0) (h.hi 0))) (h.nK.lt k f).1)).setCell (p:=⟨d 12,0,af⟩) (h.lo 12) _
 lo:=h.lo
 hi:=h.hi
 inj:=h.inj
 fix:=EW (obj:=tobj d N.length v root s sv zv) (λk=>by rw[b.block _ (au.1 (h.fix k)).1 (λe=>by have:=(h.nK.lt _ e.symm).1;have:=h.hi k;omega)];exact h.fix k) h.inj 12 0 a rfl (by simp[tobj]) (λk f=>by
  match k with
  |12=>exact absurd rfl f
  |0|1|2|3|4|5|6|7|8|9|10|11=>rfl)
 kZ:=by simpa[az]using ah h.kZ b.size
 nK:=uN g (h.hi 12) (lN w' (d 12) 0 a)
 oH:=uN (h.oH.kept b (by
  rcases h.ne with e|e
  ·rw[e];cases zv.ownBlock<;>simp
  ·exact .inr (λq=>e q.symm))) (h.hi 12) (lN w' (d 12) 0 a)
 ne:=by
  cases l:a.ownBlock with
  |none=>exact .inl rfl
  |some k=>
   refine .inr λe=>?_
   rcases i k l with c|c
   ·rcases h.ne with e3|e3
    ·rw[e3]at c;cases c
    ·exact e3 (c.trans e)
   ·have:=(h.oH.lt k e.symm).2
    omega
 li:=h.li
 ll:=h.ll
 ln:=h.ln
 lo2:=h.lo2
 stk:=j
theorem GX.Vk (h:GX w0 v root N d base s sv zv w)(L:List Int)(a:ag)(w':aj)(b:w.grownBy w' zv.ownBlock)(g:w'.ownsRow base 3 1 a L.length (L.map (ax .i64)))
  (i:∀k,a.ownBlock=ae k->zv.ownBlock=ae k\/w.heap.size<=k):
  GX w0 v root N d base {s with sizes:=L} sv a (w'.setCell ⟨d 11,0,af⟩ a) where
 below:=(h.below.grown b h.below.size (λk c=>ah (aI (aC (h.lo 0) (h.hi 0))) (h.oH.lt k c).1)).setCell (p:=⟨d 11,0,af⟩) (h.lo 11) _
 lo:=h.lo
 hi:=h.hi
 inj:=h.inj
 fix:=EW (obj:=tobj d N.length v root s sv zv) (λk=>by rw[b.block _ (au.1 (h.fix k)).1 (λe=>by have:=(h.oH.lt _ e.symm).1;have:=h.hi k;omega)];exact h.fix k) h.inj 11 0 a rfl (by simp[tobj]) (λk c=>by
  match k with
  |11=>exact absurd rfl c
  |0|1|2|3|4|5|6|7|8|9|10|12=>rfl)
 kZ:=by simpa[az]using ah h.kZ b.size
 oH:=uN g (h.hi 11) (lN w' (d 11) 0 a)
 nK:=uN (h.nK.kept b h.ne) (h.hi 11) (lN w' (d 11) 0 a)
 ne:=by
  cases j:a.ownBlock with
  |none=>cases hs:sv.ownBlock with
   |none=>exact .inl rfl
   |some k=>exact .inr iH
  |some k=>
   by_cases hs:sv.ownBlock=ae k
   ·exfalso
    rcases i k j with f|f
    ·rcases h.ne with e3|e3
     ·rw[e3]at hs;cases hs
     ·exact e3 (hs.trans f.symm)
    ·have:=(h.nK.lt k hs).2
     omega
   ·exact .inr hs
 li:=h.li
 ll:=h.ll
 ln:=h.ln
 lo2:=h.lo2
 stk:=h.stk
structure Fr (base:Nat)(sv zv sv' mr:ag)(w w':aj):Prop where
 size:w.heap.size<=w'.heap.size
 kept:∀k,base<=k->k<w.heap.size->sv.ownBlock≠ae k->zv.ownBlock≠ae k->w'.heap[k]?=w.heap[k]?
 zZ:∀k,sv'.ownBlock=ae k->sv.ownBlock=ae k\/w.heap.size<=k
 Aa:∀k,mr.ownBlock=ae k->zv.ownBlock=ae k\/w.heap.size<=k
theorem Fr.refl (base:Nat)(sv zv:ag)(w:aj):Fr base sv zv sv zv w w:=⟨Nat.le_refl _,λ_ _ _ _ _=>rfl,λ_ h=>.inl h,λ_ h=>.inl h⟩
theorem Fr.trans {base:Nat}{sv zv c d f g:ag}{w i j:aj}(h:Fr base sv zv c d w i)(b:Fr base c d f g i j):Fr base sv zv f g w j:=by
 refine⟨ah h.size b.size,λk l a hs m=>?_,λk a=>?_,λk a=>?_⟩
 ·rw[b.kept k l (Nat.lt_of_lt_of_le a h.size) (λe=>?_) (λe=>?_),h.kept k l a hs m]
  ·rcases h.zZ k e with e|e
   ·exact hs e
   ·omega
  ·rcases h.Aa k e with e|e
   ·exact m e
   ·omega
 ·rcases b.zZ k a with e|e
  ·exact h.zZ k e
  ·exact .inr (ah h.size e)
 ·rcases b.Aa k a with e|e
  ·exact h.Aa k e
  ·exact .inr (ah h.size e)
theorem Fr.rO {base:Nat}{sv zv:ag}{w w':aj}{r:Option Nat}(a:w.grownBy w' r)(hr:∀k,r=ae k->k<base):Fr base sv zv sv zv w w':=
 ⟨a.size,λk c b _ _=>a.block k b (λe=>by have:=hr k e.symm;omega),λ_ h=>.inl h,λ_ h=>.inl h⟩
end
end Go.Proofs.YthcalnnipjflkaaGreatDoor
