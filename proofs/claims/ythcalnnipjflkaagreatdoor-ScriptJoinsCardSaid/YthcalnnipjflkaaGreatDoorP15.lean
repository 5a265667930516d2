import Derived.Test.YthcalnnipjflkaaGreatDoorP13
import Derived.Deep.Cut
open Option renaming some -> ae, none -> af, getD_some -> aW
open Go.Lib renaming cell_of_heap -> ag, frozen_of_heap -> ax, hid -> aT, alloc_old -> bW
open PLift renaming up -> ah
open List renaming getD_eq_getElem?_getD -> aj, getElem?_eq_getElem -> au, getElem_mem -> aA, length_append -> aB, mem_append -> aH, replicate -> aI, length_set -> aK, not_mem_nil -> aO, length_replicate -> aP, length_dropLast -> aQ, count_pos_iff -> aU, length_cons -> aV, getElem?_replicate -> aY, getElem?_cons_zero -> aZ, count_le_length -> bz, mem_cons_of_mem -> bC, mem_cons -> bD, mem_cons_self -> bI, append_assoc -> bJ, nodup_append -> bK, foldlM_cons -> bQ, length_nil -> bT, count_cons -> bU
open Bool renaming false -> ay, true -> aX
open Go renaming Value -> az, World -> aC, heap_alloc_new -> bu, TypeId -> bF
open Nat renaming not_lt_zero -> aJ, le_trans -> bH, le_refl -> bP, zero_le -> bZ
open Int renaming eq_ofNat_of_zero_le -> aN, le_refl -> bY
open Go.World renaming grownBy_alloc -> aS
open Go.Value renaming slice -> bn, int -> bG, oneCell' -> bV
set_option linter.all false
set_option maxHeartbeats 4000000
set_option maxRecDepth 100000
namespace Go.Proofs.YthcalnnipjflkaaGreatDoor
open Go.RowKit
open Go.Lib hiding intOf
def EX (d:Fin 13->Nat)(a:Int):Array az:=#[.int .i64 a,.pointer (ae ⟨d 9,0,af⟩),.pointer (ae ⟨d 5,0,af⟩),.pointer (ae ⟨d 6,0,af⟩),.pointer (ae ⟨d 12,0,af⟩),.pointer (ae ⟨d 8,0,af⟩),.pointer (ae ⟨d 10,0,af⟩),.pointer (ae ⟨d 0,0,af⟩),.pointer (ae ⟨d 11,0,af⟩),.pointer (ae ⟨d 7,0,af⟩)]
def JO (w0:aC)(v:az)(root:Int)(N:List Nd)(d:Fin 13->Nat)(base:Nat)(s':TS)(c f:az)(w:aC)(e:Ending)(w':aC):Prop:=
 e=.returned (.tuple #[])/\∃a b,GW w0 v root N d base s' a b w'/\Fr base c f a b w w'
def JP (w0:aC)(v:az)(root:Int)(N:List Nd)(d:Fin 13->Nat)(base:Nat)(visit:Nat->TS->Option TS):Prop:=
 ∀(x:Nat) (s s':TS) (a b:az) (w:aC),visit x s=ae s'->x<N.length->s.index.getD x 0=0->GW w0 v root N d base s a b w->
  Calls Tryz.prog 136 (EX d x) w (JO w0 v root N d base s' a b w)
theorem kJ {L:List Int}{w:aC}{b k:Nat}{T:bF}(h:w.heap[b]?=ae (.cells (L.map (bG .i64)).toArray T))(a:k<L.length):w.cell? ⟨b,k,af⟩=ae (.int .i64 (L.getD k 0)):=by rw[ag h,aj,au a];simp[a]
theorem Ac {L:List Bool}{w:aC}{b k:Nat}{T:bF}(h:w.heap[b]?=ae (.cells (L.map Value.bool).toArray T))(a:k<L.length):w.cell? ⟨b,k,af⟩=ae (.bool (L.getD k ay)):=by rw[ag h,aj,au a];simp[a]
theorem grown_drew {w w':aC}{r:Option Nat}(h:w.grownBy w' r):w.grownBy w'.drew r:=⟨h.os,h.tape,h.output,h.size,h.block⟩
theorem JQ (w0:aC)(v:az)(root:Int)(N:List Nd)(d:Fin 13->Nat)(base:Nat)(visit:Nat->TS->Option TS)(m:JP w0 v root N d base visit)(a x:Nat)(s s':TS)(i j:az)(w:aC)(g:Nat)
  (ha:a<N.length)(hx:x<N.length)(hs:stepT visit a x s=ae s')(b:GW w0 v root N d base s i j w)(E:base<=g)(u:w.cell? ⟨g,0,af⟩=ae (.int .i64 a))(has:i.ownBlock≠ae g)(F:j.ownBlock≠ae g):
  Calls Tryz.prog 137 #[.int .i64 x,.pointer (ae ⟨d 5,0,af⟩),.pointer (ae ⟨d 10,0,af⟩),.pointer (ae ⟨d 6,0,af⟩),.pointer (ae ⟨g,0,af⟩),.pointer (ae ⟨d 8,0,af⟩)] w (JO w0 v root N d base s' i j w):=by
 have A:=aT b;have S:=aT m;have T:=aT hs;have U:(x:Int)<(N.length:Int):=iE
 have V:(a:Int)<(N.length:Int):=iE
 have W:w.cell? ⟨d 5,0,af⟩=ae (.slice (ae ⟨d 1,0,af⟩) N.length N.length):=(ag (b.fix 5) 0).trans rfl;have p:w.cell? ⟨d 1,x,af⟩=ae (.int .i64 (s.index.getD x 0)):=kJ (b.fix 1) (by rw[b.li];exact hx);have G:=World.block_lt_of_cell? w _ u;by_cases hi:s.index.getD x 0=0
 ·have X:w.cell? ⟨d 10,0,af⟩=ae (.func (.func 136) #[] #[.pointer (ae ⟨d 9,0,af⟩),.pointer (ae ⟨d 5,0,af⟩),.pointer (ae ⟨d 6,0,af⟩),.pointer (ae ⟨d 12,0,af⟩),.pointer (ae ⟨d 8,0,af⟩),.pointer (ae ⟨d 10,0,af⟩),.pointer (ae ⟨d 0,0,af⟩),.pointer (ae ⟨d 11,0,af⟩),.pointer (ae ⟨d 7,0,af⟩)]):=(ag (b.fix 10) 0).trans rfl
  rw[hi]at p
  have H:∃c,visit x s=ae c/\s'={c with low:=c.low.set a (min (c.low.getD a 0) (c.low.getD x 0))}:=by
   unfold stepT at hs;rw[gY hi]at hs;cases B:visit x s with
   |none=>rw[B]at hs;cases hs
   |some c=>rw[B]at hs;exact⟨c,rfl,(Option.some.inj hs).symm⟩
  obtain⟨c,I,rfl⟩:=H;have J:=aT (m x s c i j w I hx hi b);clear b m hs hi;go_enter Tryz.func137,Tryz.ntmps137
  go_wp2_with(go_at_call 136;refine(J.out).mono ?_;rintro e l ⟨rfl,K,L,f,q⟩)
  have M:=aT f;have O:=aT q;have P:l.cell? ⟨d 6,0,af⟩=ae (.slice (ae ⟨d 2,0,af⟩) N.length N.length):=(ag (f.fix 6) 0).trans rfl;have Y:l.cell? ⟨g,0,af⟩=ae (.int .i64 a):=by rw[World.cell?_of_block (w:=w) (q.kept g E G has F)];exact u
  have r:l.cell? ⟨d 2,a,af⟩=ae (.int .i64 (c.low.getD a 0)):=kJ (f.fix 2) (by rw[f.ll];exact ha);have Q:l.cell? ⟨d 2,x,af⟩=ae (.int .i64 (c.low.getD x 0)):=kJ (f.fix 2) (by rw[f.ll];exact hx);have R:∀o,l.frozen? ⟨d 2,o,af⟩=ay:=λo=>ax (f.fix 2) o
  have h:=aT ((f.zY a (min (c.low.getD a 0) (c.low.getD x 0))).drew);generalize c.low.getD a 0=y at r h;generalize c.low.getD x 0=z at Q h;clear f q;go_region;go_end0;exact⟨rfl,K,L,h.out,O.out.trans (Fr.rO (grown_drew (lN l (d 2) a _)) (λk t=>by rw[<-Option.some.inj t];exact M.out.hi 2))⟩
 ·have C:(s.index.getD x 0==0)=ay:=by simp only[iy,ne_eq];exact hi
  have Z:w.cell? ⟨d 8,0,af⟩=ae (.slice (ae ⟨d 4,0,af⟩) N.length N.length):=(ag (b.fix 8) 0).trans rfl;have D:w.cell? ⟨d 4,x,af⟩=ae (.bool (s.on.getD x ay)):=Ac (b.fix 4) (by rw[b.lo2];exact hx);unfold stepT at hs;rw[gZ hi]at hs;cases n:s.on.getD x ay with
  |false=>rw[n]at hs D;obtain rfl:s=s':=Option.some.inj hs;generalize s.index.getD x 0=y at p C;clear b m hs hi n;go_enter Tryz.func137,Tryz.ntmps137;go_wp2;go_end0;exact⟨rfl,i,j,A.out,Fr.refl _ _ _ _⟩
  |true=>
   rw[n]at hs D;obtain rfl:=Option.some.inj hs;have P:w.cell? ⟨d 6,0,af⟩=ae (.slice (ae ⟨d 2,0,af⟩) N.length N.length):=(ag (b.fix 6) 0).trans rfl;have r:w.cell? ⟨d 2,a,af⟩=ae (.int .i64 (s.low.getD a 0)):=kJ (b.fix 2) (by rw[b.ll];exact ha);have R:∀o,w.frozen? ⟨d 2,o,af⟩=ay:=λo=>ax (b.fix 2) o
   have h:=aT ((b.zY a (min (s.low.getD a 0) (s.index.getD x 0))).drew);generalize s.low.getD a 0=z at r h;generalize s.index.getD x 0=y at p C h;clear b m hs hi n;go_enter Tryz.func137,Tryz.ntmps137;go_wp2;go_region;go_end0;exact⟨rfl,i,j,h.out,Fr.rO (grown_drew (lN w (d 2) a _)) (λk t=>by rw[<-Option.some.inj t];exact A.out.hi 2)⟩
theorem Vl {visit:Nat->TS->Option TS}{a:Nat}{x:Int}{l:List Int}{s c:TS}(h:nJ visit a (x::l) s=ae c):∃b,stepT visit a x.toNat s=ae b/\nJ visit a l b=ae c:=by
 unfold nJ at h;rw[bQ]at h;cases d:stepT visit a x.toNat s with
 |none=>rw[d]at h;cases h
 |some b=>rw[d]at h;exact⟨b,rfl,h⟩
theorem JR {visit:Nat->TS->Option TS}{a j:Nat}{l:List Int}{s b:TS}(d:j<l.length)(h:nJ visit a (l.drop j) s=ae b):∃c,stepT visit a (l[j]).toNat s=ae c/\nJ visit a (l.drop (j+1)) c=ae b:=by rw[List.drop_eq_getElem_cons d]at h;exact Vl h
theorem JS {visit:Nat->TS->Option TS}{a:Nat}{l:List Int}{s b:TS}(h:nJ visit a (l.drop l.length) s=ae b):s=b:=by rw[List.drop_length]at h;exact Option.some.inj h
theorem Vm {N:List Nd}{f a:Nat}{s s':TS}(h:mg N (f+1) a s=ae s'):∃b c,nJ (mg N f) a (N.getD a nd0).keys (lG a s)=ae b/\nJ (mg N f) a (N.getD a nd0).items b=ae c/\xH a c=ae s':=by
 unfold mg at h;cases e:nJ (mg N f) a (N.getD a nd0).keys (lG a s)with
 |none=>rw[e]at h;cases h
 |some b=>
  rw[e]at h;have h:(nJ (mg N f) a (N.getD a nd0).items b).bind (xH a)=ae s':=h;cases d:nJ (mg N f) a (N.getD a nd0).items b with
  |none=>rw[d]at h;cases h
  |some c=>rw[d]at h;exact⟨b,c,rfl,d,h⟩
theorem mW {w:aC}{base n size:Nat}{e:bF}{v:az}{xs:List az}(h:w.ownsRow base e size v n xs):∃A c,v=.slice A n c:=by
 rcases h.2 with⟨rfl,rfl⟩|⟨g,cap,a,rfl,-⟩
 ·exact⟨_,_,rfl⟩
 ·exact⟨_,_,rfl⟩
theorem EY {w:aC}{base n size:Nat}{e:bF}{v:az}{xs:List az}(h:w.ownsRow base e size v n xs)(hn:0<n):∃g c,v=.slice (ae ⟨g,0,af⟩) n c/\n<=c/\c<=maxLen:=by
 rcases h.2 with⟨rfl,rfl⟩|⟨g,cap,a,rfl,-,-,hc,hm,-⟩
 ·exact absurd hn (Nat.lt_irrefl 0)
 ·exact⟨_,_,rfl,hc,hm⟩
theorem EZ {w:aC}{base g n c:Nat}{e:bF}{xs:List az}(h:w.ownsRow base e 1 (.slice (ae ⟨g,0,af⟩) n c) n xs){k:Nat}{u:az}(b:xs[k]?=ae u):w.cell? ⟨g,k,af⟩=ae u:=by
 rcases h.2 with⟨he,-⟩|⟨g',cap,i,he,j,d,hc,hm,hs,f⟩
 ·cases he
 ·injection he with a l m
  injection a with a;injection a with a;subst a;rw[ag d,<-b,<-f]
  have o:k<n:=by have:=(List.getElem?_eq_some_iff.1 b).1;rw[h.1]at this;omega
  rw[List.getElem?_take_of_lt iE];simp
theorem Vo {w:aC}{base g n c:Nat}{e:bF}{xs:List az}(h:w.ownsRow base e 1 (.slice (ae ⟨g,0,af⟩) n c) n xs):w.ownsRow base e 1 (.slice (ae ⟨g,0,af⟩) (n - 1) c) (n - 1) xs.dropLast:=by
 refine⟨by have:=h.1;simp only[aQ];omega,?_⟩;rcases h.2 with⟨he,-⟩|⟨g',cap,d,he,f,i,hc,hm,hs,b⟩
 ·cases he
 ·injection he with a k j
  injection a with a;injection a with a;subst a j;refine .inr ⟨g,c,d,rfl,f,i,iE,hm,hs,?_⟩;have l:=h.1;rw[List.dropLast_eq_take,<-b,List.take_take]
  congr 1
  rw[b];omega
theorem Vp {l:List Int}{a:Nat}{x:Int}(ha:a<l.length)(h:l.getD a 0=0)(hx:x≠0):(l.set a x).count 0+1=l.count 0:=by rw[aj,au ha]at h;have h:l[a]=0:=h;have hp:0<l.count 0:=aU.2 (by rw[<-h];exact aA ha);rw[List.count_set ha,h];simp[hx];omega
theorem JU {a f:Nat}{s:TS}{size:Int}{r:TS×Int}(h:pM a (f+1) s size=ae r):∃x,s.stack.getLast?=ae x/\((x=a/\r=(mf s x,wrap64 (size+1)))\/(x≠a/\pM a f (mf s x) (wrap64 (size+1))=ae r)):=by
 unfold pM at h;cases b:s.stack.getLast? with
 |none=>rw[b]at h;cases h
 |some x=>
  rw[b]at h;refine⟨x,rfl,?_⟩;have h:(if x=(a:Int)then ae (mf s x,wrap64 (size+1))else pM a f (mf s x) (wrap64 (size+1)))=ae r:=h;by_cases hx:x=a
  ·rw[gY hx]at h
   exact .inl ⟨hx,(Option.some.inj h).symm⟩
  ·rw[gZ hx]at h
   exact .inr ⟨hx,h⟩
theorem Vq {a:Nat}:∀(f:Nat) (s:TS) (size:Int) (r:TS×Int),pM a f s size=ae r->r.1.next=s.next/\r.1.index=s.index/\r.1.sizes=s.sizes/\r.1.stack.length<s.stack.length:=by
 intro f
 induction f with
 |zero=>intro s size r h;cases h
 |succ f c=>
  intro s size r h;obtain⟨x,hx,h⟩:=JU h
  have j:0<s.stack.length:=by
   cases hs:s.stack with
   |nil=>rw[hs]at hx;cases hx
   |cons y l=>simp
  have b:(mf s x).stack.length<s.stack.length:=by show s.stack.dropLast.length<_;rw[aQ];omega
  rcases h with⟨-,rfl⟩|⟨-,h⟩
  ·exact⟨rfl,rfl,rfl,b⟩
  ·obtain⟨d,e,g,i⟩:=c _ _ _ h
   exact⟨d,e,g,Nat.lt_trans i b⟩
theorem Vr {a:Nat}{s s':TS}(h:xH a s=ae s'):(s.low.getD a 0≠s.index.getD a 0/\s=s')\/(s.low.getD a 0=s.index.getD a 0/\∃r,pM a (s.stack.length+1) s 0=ae r/\s'={r.1 with sizes:=r.1.sizes++[r.2]}):=by
 unfold xH at h;by_cases hx:s.low.getD a 0=s.index.getD a 0
 ·rw[gY hx]at h
  refine .inr ⟨hx,?_⟩;cases b:pM a (s.stack.length+1) s 0 with
  |none=>rw[b]at h;cases h
  |some r=>rw[b]at h;exact⟨r,rfl,(Option.some.inj h).symm⟩
 ·rw[gZ hx]at h
  exact .inl ⟨hx,Option.some.inj h⟩
theorem Vs {L:List Int}{x:Int}(h:L.getLast?=ae x):(L.map (bG .i64))[L.length - 1]?=ae (.int .i64 x):=by rw[List.getLast?_eq_getElem?]at h;rw[List.getElem?_map,h];rfl
structure tC (k:Nat)(a:Int)(sv zv:az)(w:aC):Prop where
 box:w.heap[k]?=ae (.cells #[.int .i64 a] 3)
 far:sv.ownBlock≠ae k
 Ad:zv.ownBlock≠ae k
theorem tC.step {k base:Nat}{a:Int}{sv zv sv' mr:az}{w w':aC}(h:tC k a sv zv w)(b:base<=k)(hf:Fr base sv zv sv' mr w w'):tC k a sv' mr w':=by
 have c:=(Array.getElem?_eq_some_iff.1 h.box).1;refine⟨by rw[hf.kept k b c h.far h.Ad];exact h.box,λe=>?_,λe=>?_⟩
 ·rcases hf.zZ k e with e|e
  ·exact h.far e
  ·omega
 ·rcases hf.Aa k e with e|e
  ·exact h.Ad e
  ·omega
section
variable {w0:aC} {v:az} {root:Int} {N:List Nd} {d:Fin 13->Nat} {base:Nat} {s:TS} {sv zv sv' mr:az} {w w':aC}
theorem Vt {a:Nat}(b:GW w0 v root N d base s sv zv w)(ha:a<N.length)(hi:s.index.getD a 0=0)(hn:N.length<=4096)(hx:GX w0 v root N d base (lG a s) sv' mr w'):GW w0 v root N d base (lG a s) sv' mr w':=by
 have hc:=b.cnt;have c:=b.bd
 have hp:0<s.index.count 0:=by rw[aj,au (by rw[b.li];exact ha)]at hi;exact aU.2 (by rw[<-show s.index[a]'(by rw[b.li];exact ha)=0 from hi];exact aA _)
 have hw:wrap64 (s.next+1)=s.next+1:=by unfold wrap64;omega
 have e:=Vp (x:=s.next+1) (by rw[b.li];exact ha) hi iE;refine {toGX:=hx,cnt:=?_,bd:=?_}
 ·show wrap64 (s.next+1)+(s.index.set a (wrap64 (s.next+1))).count 0=_
  rw[hw];omega
 ·show(((s.stack++[(a:Int)]).length+s.sizes.length:Nat):Int)<=wrap64 (s.next+1)
  rw[hw];simp only[aB,aV,bT];omega
theorem GX.drewN (h:GX w0 v root N d base s sv zv w)(n:Nat):GX w0 v root N d base s sv zv (w.drewN n):={h with below:=below_drewN h.below n}
theorem GW.drewN (h:GW w0 v root N d base s sv zv w)(n:Nat):GW w0 v root N d base s sv zv (w.drewN n):={toGX:=h.toGX.drewN n,cnt:=h.cnt,bd:=h.bd}
theorem Fr.drewN (h:Fr base sv zv sv' mr w w')(n:Nat):Fr base sv zv sv' mr w (w'.drewN n):=⟨h.size,h.kept,h.zZ,h.Aa⟩
theorem tC.drewN {k:Nat}{a:Int}(h:tC k a sv zv w)(n:Nat):tC k a sv zv (w.drewN n):=⟨h.box,h.far,h.Ad⟩
theorem JV {g n m c b i:Nat}{x:az}(a:b<base):Fr base (.slice (ae ⟨g,0,af⟩) n c) zv (.slice (ae ⟨g,0,af⟩) m c) zv w (w.setCell ⟨b,i,af⟩ x):=
 ⟨by simp[World.setCell],λk d _ _ _=>jm _ iE,λ_ h=>.inl h,λ_ h=>.inl h⟩
theorem Ae {b i:Nat}{x:az}(a:b<base):Fr base sv zv sv zv w (w.setCell ⟨b,i,af⟩ x):=Fr.rO (lN w b i x) (λk c=>by rw[<-Option.some.inj c];exact a)
theorem GX.pop {g n c:Nat}(h:GX w0 v root N d base s (.slice (ae ⟨g,0,af⟩) n c) zv w)(hn:n=s.stack.length):GX w0 v root N d base {s with stack:=s.stack.dropLast} (.slice (ae ⟨g,0,af⟩) (n - 1) c) zv (w.setCell ⟨d 12,0,af⟩ (.slice (ae ⟨g,0,af⟩) (n - 1) c)):=by subst hn;refine h.setStack _ _ w ⟨rfl,rfl,rfl,bP _,λ_ _ _=>rfl⟩ ?_ (λk a=>.inl a) (λx hx=>h.stk x (List.dropLast_subset _ hx));have:=Vo h.nK;rw[List.map_dropLast,aQ];exact this
end
theorem nH {α:Type}(l:List α)(i j:Nat)(v d:α):(l.set i v).getD j d=if i=j/\i<l.length then v else l.getD j d:=by
 simp only[aj,List.getElem?_set];by_cases h:i=j
 ·subst h
  by_cases a:i<l.length<;>simp[a]
 ·simp[h]
theorem Lc (l:List Int)(i:Nat)(h:i<l.length)(a:l.getD i 0=0):0<l.count 0:=by rw[aj,au h,aW]at a;rw[aU];exact a▸aA h
theorem Ld:∀(l:List Int) (i:Nat) (v:Int),i<l.length->l.getD i 0=0->v≠0->(l.set i v).count 0+1=l.count 0
 |[],_,_,h,_,_=>absurd h (aJ _)
 |x::l,0,v,_,a,hv=>by have hx:x=0:=a;subst hx;rw[List.set_cons_zero,List.count_cons_of_ne hv,List.count_cons_self]
 |x::l,i+1,v,h,a,hv=>by have b:=Ld l i v (by simpa using h) a hv;rw[List.set_cons_succ,bU,bU];omega
structure TJ (n:Nat)(s:TS):Prop where
 li:s.index.length=n
 ll:s.low.length=n
 ln:s.inn.length=n
 nx:s.next=(n:Int) - (s.index.count 0:Nat)
 nd:s.stack.Nodup
 st:∀x∈s.stack,∃k:Nat,x=(k:Int)/\k<n/\s.index.getD k 0≠0
 out:∀k,k<n->s.index.getD k 0≠0->(k:Int)∈s.stack\/(0<=s.inn.getD k (-1)/\s.inn.getD k (-1)<(s.sizes.length:Int))
 pos:∀k,k<n->s.index.getD k 0≠0->1<=s.index.getD k 0/\1<=s.low.getD k 0
 few:(s.sizes.length:Int)+(s.stack.length:Int)<=s.next
structure Gr (N:List Nd)(a:Option Nat)(s s':TS):Prop where
 stk:∃X,s'.stack=s.stack++X
 idx:∀k,s.index.getD k 0≠0->s'.index.getD k 0=s.index.getD k 0
 low:∀k,ae k≠a->s.index.getD k 0≠0->s'.low.getD k 0=s.low.getD k 0
 cnt:s'.index.count 0<=s.index.count 0
 cls:∀k,s'.index.getD k 0≠0->s.index.getD k 0≠0\/∀x∈(N.getD k nd0).keys++(N.getD k nd0).items,s'.index.getD x.toNat 0≠0
theorem Gr.refl (N:List Nd)(a:Option Nat)(s:TS):Gr N a s s:=⟨⟨[],iH⟩,λ_ _=>rfl,λ_ _ _=>rfl,bP _,λ_ h=>.inl h⟩
theorem Gr.vis {N:List Nd}{a:Option Nat}{s s':TS}(h:Gr N a s s'){k:Nat}(b:s.index.getD k 0≠0):s'.index.getD k 0≠0:=by rw[h.idx k b];exact b
theorem Gr.trans {N:List Nd}{a:Option Nat}{s t u:TS}(h:Gr N a s t)(k:Gr N a t u):Gr N a s u where
 stk:=by obtain⟨X,hx⟩:=h.stk;obtain⟨Y,hy⟩:=k.stk;exact⟨X++Y,by rw[hy,hx,bJ]⟩
 idx:=λi hi=>by rw[k.idx i (h.vis hi),h.idx i hi]
 low:=λi ha hi=>by rw[k.low i ha (h.vis hi),h.low i ha hi]
 cnt:=bH k.cnt h.cnt
 cls:=λi hi=>by
  rcases k.cls i hi with b|b
  ·rcases h.cls i b with c|c
   ·exact .inl c
   ·exact .inr λx hx=>k.vis (c x hx)
  ·exact .inr b
theorem Gr.any {N:List Nd}{s t:TS}(h:Gr N af s t)(a:Option Nat):Gr N a s t:=⟨h.stk,h.idx,λi _ hi=>h.low i iH hi,h.cnt,h.cls⟩
theorem TJ.Aq {n:Nat}{s:TS}(h:TJ n s)(a:Nat)(v:Int)(hv:1<=v):TJ n {s with low:=s.low.set a v}:=
 ⟨h.li,by rw[aK];exact h.ll,h.ln,h.nx,h.nd,h.st,h.out,λk b hx=>⟨(h.pos k b hx).1,by
  show 1<=(s.low.set a v).getD k 0;rw[nH];split
  ·exact hv
  ·exact(h.pos k b hx).2⟩,h.few⟩
theorem Gr.Aq (N:List Nd)(s:TS)(a:Nat)(v:Int):Gr N (ae a) s {s with low:=s.low.set a v}:=
 ⟨⟨[],iH⟩,λ_ _=>rfl,λk b _=>by show(s.low.set a v).getD k 0=_;rw[nH,gZ (λh=>b (by rw[h.1]))],bP _,λ_ h=>.inl h⟩
def FK (N:List Nd)(n f:Nat):Prop:=∀a s,TJ n s->a<n->s.index.getD a 0=0->s.index.count 0<=f->
 ∃s',mg N f a s=ae s'/\TJ n s'/\Gr N af s s'/\s'.index.getD a 0=s.next+1/\s'.low.getD a 0<=s.next+1/\(s'.low.getD a 0=s.next+1->s'.stack=s.stack)
theorem XV {N:List Nd}{n f:Nat}(j:FK N n f)(a x:Nat)(s:TS)(hx:x<n)(b:TJ n s)(ha:a<n)(e:s.index.getD a 0≠0)(hf:s.index.count 0<=f):
  ∃s',stepT (mg N f) a x s=ae s'/\TJ n s'/\Gr N (ae a) s s'/\s'.index.getD x 0≠0/\s'.low.getD a 0<=s.low.getD a 0:=by
 unfold stepT;by_cases c:s.index.getD x 0=0
 ·rw[gY c]
  obtain⟨g,e1,d,h,k,-,-⟩:=j x s b hx c hf;have l:=h.vis e
  have i:g.index.getD x 0≠0:=by have:=b.nx;have p:s.index.count 0<=n:=(by rw[<-b.li];exact bz);rw[k];omega
  rw[e1];refine⟨_,rfl,d.Aq a _ ?_,(h.any _).trans (Gr.Aq N g a _),i,?_⟩
  ·have m:=(d.pos a ha l).2
   have o:=(d.pos x hx i).2;omega
  ·show(g.low.set a _).getD a 0<=_
   rw[nH,gY ⟨rfl,by rw[d.ll];exact ha⟩,h.low a iH e];omega
 ·rw[gZ c]
  split
  ·refine⟨_,rfl,b.Aq a _ ?_,Gr.Aq N s a _,c,?_⟩
   ·have m:=(b.pos a ha e).2
    have o:=(b.pos x hx c).1;omega
   ·show(s.low.set a _).getD a 0<=_
    rw[nH,gY ⟨rfl,by rw[b.ll];exact ha⟩];omega
  ·exact⟨s,rfl,b,Gr.refl _ _ _,c,bY _⟩
theorem FM {N:List Nd}{n f:Nat}(d:FK N n f)(a:Nat)(ha:a<n):∀(l:List Int) (s:TS),(∀x∈l,0<=x/\x<(n:Int))->TJ n s->s.index.getD a 0≠0->s.index.count 0<=f->
  ∃s',nJ (mg N f) a l s=ae s'/\TJ n s'/\Gr N (ae a) s s'/\(∀x∈l,s'.index.getD x.toNat 0≠0)/\s'.low.getD a 0<=s.low.getD a 0
 |[],s,_,b,_,_=>⟨s,rfl,b,Gr.refl _ _ _,λ_ h=>(aO h).elim,bY _⟩
 |x::l,s,e,b,g,hf=>by
  have hx:=e x (bI ..);obtain⟨j,e1,k,c,m,o⟩:=XV d a x.toNat s iE b ha g hf;obtain⟨p,q,r,i,t,u⟩:=FM d a ha l j (λy hy=>e y (bC _ hy)) k (c.vis g) (bH c.cnt hf);refine⟨p,?_,r,c.trans i,λy hy=>?_,Int.le_trans u o⟩
  ·show List.foldlM _ s (x::l)=_
   rw[bQ,e1];exact q
  ·rcases bD.1 hy with h|h
   ·subst h;exact i.vis m
   ·exact t y h
theorem XW (a:Nat):∀(f:Nat) (Q:List Int) (s:TS) (P:List Int) (sz:Int),s.stack=P++((a:Int)::Q)->(a:Int)∉Q->(∀x∈Q,0<=x)->Q.length<f->
  ∃s' b,pM a f s sz=ae (s',b)/\s'.stack=P/\s'.index=s.index/\s'.low=s.low/\s'.next=s.next/\s'.sizes=s.sizes/\s'.inn.length=s.inn.length/\
   ∀k:Nat,k<s.inn.length->((k:Int)∈(a:Int)::Q->s'.inn.getD k (-1)=(s.sizes.length:Int))/\((k:Int)∉(a:Int)::Q->s'.inn.getD k (-1)=s.inn.getD k (-1)):=by
 intro f
 induction f with
 |zero=>intro Q s P sz _ _ _ h;exact absurd h (aJ _)
 |succ f m=>
  intro Q s P sz hs c hp hf;rcases List.eq_nil_or_concat Q with rfl|⟨Q',x,rfl⟩
  ·have d:s.stack.getLast?=ae (a:Int):=by rw[hs];simp
   have e:pM a (f+1) s sz=ae (mf s a,wrap64 (sz+1)):=by show(match s.stack.getLast? with|none=>af|some x=>_)=_;rw[d];simp
   refine⟨_,_,e,?_,rfl,rfl,rfl,rfl,by show(s.inn.set _ _).length=_;rw[aK],λk i=>⟨λh=>?_,λh=>?_⟩⟩
   ·show s.stack.dropLast=P
    rw[hs];simp
   ·show(s.inn.set (a:Int).toNat _).getD k (-1)=_
    have:(k:Int)=(a:Int):=(by simpa using h);rw[nH,gY ⟨iE,iE⟩]
   ·show(s.inn.set (a:Int).toNat _).getD k (-1)=_
    have:¬(k:Int)=(a:Int):=(by simpa using h);rw[nH,gZ (λh=>this (by have:=h.1;omega))]
  ·rw[List.concat_eq_append]at hs c hp hf⊢
   have n:x≠(a:Int):=λe=>c (by rw[e];simp)
   have A:=hp x iH
   have d:s.stack.getLast?=ae x:=by rw[hs,show P++(a:Int)::(Q'++[x])=(P++(a:Int)::Q')++[x] by simp,List.getLast?_concat]
   have e:pM a (f+1) s sz=pM a f (mf s x) (wrap64 (sz+1)):=by show(match s.stack.getLast? with|none=>af|some x=>_)=_;rw[d];simp[n]
   have o:(mf s x).stack=P++((a:Int)::Q'):=by show s.stack.dropLast=_;rw[hs,show P++(a:Int)::(Q'++[x])=(P++(a:Int)::Q')++[x] by simp,List.dropLast_concat]
   obtain⟨s',b,p,q,r,t,u,v,w,z⟩:=m Q' (mf s x) P (wrap64 (sz+1)) o (λh=>c (by simp[h])) (λy hy=>hp y (by simp[hy])) (by simp at hf;omega);have j:(mf s x).inn.length=s.inn.length:=(by show(s.inn.set _ _).length=_;rw[aK]);refine⟨s',b,by rw[e];exact p,q,r,t,u,v,by rw[w,j],λk i=>?_⟩;have g:=z k (by rw[j];exact i);have l:(mf s x).inn.getD k (-1)=if x.toNat=k/\x.toNat<s.inn.length then(s.sizes.length:Int)else s.inn.getD k (-1):=nH ..
   refine⟨λh=>?_,λh=>?_⟩
   ·by_cases hm:(k:Int)∈(a:Int)::Q'
    ·exact g.1 hm
    ·rw[g.2 hm,l]
     have:(k:Int)=x:=by
      simp only[bD,aH,aO,or_false]at h hm;rcases h with h|h|h
      ·exact absurd (.inl h) hm
      ·exact absurd (.inr h) hm
      ·exact h
     rw[gY ⟨iE,iE⟩]
   ·rw[g.2 (λhm=>h (by
     simp only[bD,aH]at hm⊢;rcases hm with h|h
     ·exact .inl h
     ·exact .inr (.inl h))),l,gZ]
    intro B;exact h (by rw[show(k:Int)=x by omega];simp)
theorem wrap64_small {x:Int}(a:0<=x)(b:x<=1000000):wrap64 x=x:=by unfold wrap64;omega
theorem XX {n:Nat}{s:TS}(b:TJ n s)(hn:n<=4096)(a:Nat)(ha:a<n)(f:s.index.getD a 0=0):
  TJ n (lG a s)/\(lG a s).index.count 0+1=s.index.count 0/\(lG a s).index=s.index.set a (s.next+1)/\(lG a s).low=s.low.set a (s.next+1)/\(lG a s).stack=s.stack++[(a:Int)]/\0<=s.next:=by
 have hc:s.index.count 0<=n:=by rw[<-b.li];exact bz
 have p:=b.nx;have q:=Lc s.index a (by rw[b.li];exact ha) f;have hw:wrap64 (s.next+1)=s.next+1:=wrap64_small iE iE;have c:(lG a s).index=s.index.set a (s.next+1):=by show s.index.set a (wrap64 (s.next+1))=_;rw[hw]
 have g:(lG a s).low=s.low.set a (s.next+1):=by show s.low.set a (wrap64 (s.next+1))=_;rw[hw]
 have j:=Ld s.index a (s.next+1) (by rw[b.li];exact ha) f iE;have i:(lG a s).next=s.next+1:=hw
 have l:(a:Int)∉s.stack:=λh=>by
  obtain⟨k,e,_,d⟩:=b.st _ h;have:a=k:=iE
  subst this;exact d f
 refine⟨⟨by rw[c,aK];exact b.li,by rw[g,aK];exact b.ll,b.ln,?_,?_,?_,?_,?_,?_⟩,by rw[c];exact j,c,g,rfl,iE⟩
 ·rw[i,c];omega
 ·show(s.stack++[(a:Int)]).Nodup
  rw[bK];refine⟨b.nd,iH,λx hx y hy e=>?_⟩;have:y=(a:Int):=by simpa using hy
  exact l (by rw[<-this,<-e];exact hx)
 ·intro x hx
  have m:x∈s.stack++[(a:Int)]:=hx;rcases aH.1 m with h|h
  ·obtain⟨k,e,d,o⟩:=b.st x h
   refine⟨k,e,d,?_⟩;rw[c,nH];split
   ·omega
   ·exact o
  ·refine⟨a,by simpa using h,ha,?_⟩
   rw[c,nH,gY ⟨rfl,by rw[b.li];exact ha⟩];omega
 ·intro k d hv
  rw[c,nH]at hv;by_cases e:a=k
  ·subst e;left;show(a:Int)∈s.stack++[(a:Int)];simp
  ·rw[gZ (λh=>e h.1)]at hv
   rcases b.out k d hv with h|h
   ·left;show(k:Int)∈s.stack++[(a:Int)];simp[h]
   ·exact .inr h
 ·intro k d hv
  rw[c,nH]at hv;rw[c,g,nH,nH];by_cases e:a=k
  ·rw[gY ⟨e,by rw[b.li];exact ha⟩,gY ⟨e,by rw[b.ll];exact ha⟩];omega
  ·rw[gZ (λh=>e h.1)]at hv
   rw[gZ (λh=>e h.1),gZ (λh=>e h.1)];exact b.pos k d hv
 ·have:=b.few
  rw[i];show(s.sizes.length:Int)+((s.stack++[(a:Int)]).length:Int)<=_;rw[aB];show(s.sizes.length:Int)+((s.stack.length+1:Nat):Int)<=_;omega
theorem XY {n:Nat}{s:TS}(b:TJ n s)(a:Nat)(P Q:List Int)(hs:s.stack=P++((a:Int)::Q)):
  ∃s',xH a s=ae s'/\TJ n s'/\s'.index=s.index/\s'.low=s.low/\(∃X,s'.stack=P++X)/\(s.low.getD a 0=s.index.getD a 0->s'.stack=P):=by
 unfold xH;by_cases g:s.low.getD a 0=s.index.getD a 0
 ·rw[gY g]
  have i:=b.nd;rw[hs,bK]at i;have p:(a:Int)∉Q:=(List.nodup_cons.1 i.2.1).1
  obtain⟨t,sz,q,d,c,j,l,m,r,u⟩:=XW a (s.stack.length+1) Q s P 0 hs p (λx hx=>by
   obtain⟨k,e,_,_⟩:=b.st x (by rw[hs];simp[hx])
   omega) (by rw[hs];simp;omega)
  rw[q];refine⟨{t with sizes:=t.sizes++[sz]},rfl,⟨by show t.index.length=n;rw[c];exact b.li,by show t.low.length=n;rw[j];exact b.ll,by show t.inn.length=n;rw[r];exact b.ln,?_,?_,?_,?_,?_,?_⟩,c,j,⟨[],by show t.stack=_;rw[d,List.append_nil]⟩,λ_=>d⟩
  ·show t.next=(n:Int) - (t.index.count 0:Nat)
   rw[l,c];exact b.nx
  ·show t.stack.Nodup
   rw[d];exact i.1
  ·intro x hx
   have o:x∈t.stack:=hx;show ∃k:Nat,x=(k:Int)/\k<n/\t.index.getD k 0≠0;rw[c];exact b.st x (by rw[hs];rw[d]at o;simp[o])
  ·intro k f hv
   have v:s.index.getD k 0≠0:=(by rw[<-c];exact hv);show(k:Int)∈t.stack\/(0<=t.inn.getD k (-1)/\t.inn.getD k (-1)<((t.sizes++[sz]).length:Int));rw[d,aB,m];obtain⟨g1,g2⟩:=u k (by rw[b.ln];exact f);by_cases hm:(k:Int)∈(a:Int)::Q
   ·right;rw[g1 hm];show 0<=(s.sizes.length:Int)/\(s.sizes.length:Int)<((s.sizes.length+1:Nat):Int);omega
   ·rw[g2 hm]
    rcases b.out k f v with h|h
    ·left
     rw[hs]at h;rcases aH.1 h with h|h
     ·exact h
     ·exact absurd h hm
    ·right;show _/\_<((s.sizes.length+1:Nat):Int);omega
  ·intro k f hv
   show 1<=t.index.getD k 0/\1<=t.low.getD k 0;rw[c,j];exact b.pos k f (by rw[<-c];exact hv)
  ·show((t.sizes++[sz]).length:Int)+(t.stack.length:Int)<=t.next
   rw[m,d,l,aB];have:=b.few;rw[hs,aB,aV]at this;show((s.sizes.length+1:Nat):Int)+_<=_;omega
 ·rw[gZ g]
  exact⟨s,rfl,b,rfl,rfl,⟨_,hs⟩,λh=>absurd h g⟩
theorem Le (N:List Nd)(hR:nN N)(hn:N.length<=4096):∀f,FK N N.length f
 |0=>λa s g ha j hf=>by have:=Lc s.index a (by rw[g.li];exact ha) j;omega
 |f+1=>λa s g ha j hf=>by
  obtain⟨B,P,m,q,C,Q⟩:=XX g hn a ha j;have r:(lG a s).index.getD a 0=s.next+1:=by rw[m,nH,gY ⟨rfl,by rw[g.li];exact ha⟩]
  have R:(lG a s).low.getD a 0=s.next+1:=by rw[q,nH,gY ⟨rfl,by rw[g.ll];exact ha⟩]
  have n:(lG a s).index.getD a 0≠0:=by rw[r];omega
  have t:N.getD a nd0=N[a]:=by rw[aj,au ha,aW]
  have u:=hR N[a] (aA ha);have v:=Le N hR hn f;obtain⟨w,e1,D,o,E,S⟩:=FM v a ha (N.getD a nd0).keys (lG a s) (by rw[t];exact u.1) B n iE;obtain⟨y,F,G,z,H,T⟩:=FM v a ha (N.getD a nd0).items w (by rw[t];exact u.2) D (o.vis n) (bH o.cnt iE);have c:=o.trans z;obtain⟨X,I⟩:=c.stk;have J:y.stack=s.stack++((a:Int)::X):=by rw[I,C,bJ];rfl
  obtain⟨K,e3,L,l,p,M,O⟩:=XY G a s.stack X J;have A:y.index.getD a 0=s.next+1:=by rw[c.idx a n,r]
  have i:∀k,s.index.getD k 0≠0->(lG a s).index.getD k 0=s.index.getD k 0/\(lG a s).low.getD k 0=s.low.getD k 0/\k≠a:=λk b=>by
   have d:k≠a:=λe=>b (by rw[e];exact j)
   rw[m,q,nH,nH,gZ (λh=>d h.1.symm),gZ (λh=>d h.1.symm)];exact⟨rfl,rfl,d⟩
  refine⟨K,?_,L,⟨M,λk b=>?_,λk _ b=>?_,?_,λk b=>?_⟩,by rw[l,A],?_,λh=>?_⟩
  ·show(nJ (mg N f) a (N.getD a nd0).keys (lG a s)).bind _=_
   rw[e1];show(nJ (mg N f) a (N.getD a nd0).items w).bind _=_;rw[F];exact e3
  ·rw[l,c.idx k (by rw[(i k b).1];exact b),(i k b).1]
  ·rw[p,c.low k (by simp[(i k b).2.2]) (by rw[(i k b).1];exact b),(i k b).2.1]
  ·rw[l]
   have:=c.cnt;omega
  ·rw[l]at b⊢
   by_cases d:k=a
   ·subst d
    right
    intro x hx;rcases aH.1 hx with h|h
    ·exact z.vis (E x h)
    ·exact H x h
   ·rcases c.cls k b with h|h
    ·left
     rw[m,nH,gZ (λh=>d h.1.symm)]at h;exact h
    ·exact .inr h
  ·rw[p]
   omega
  ·rw[p]at h
   exact O (by rw[h,A])
theorem Lh (N:List Nd)(V:Nat->Prop)(hc:∀k,V k->∀x∈(N.getD k nd0).keys++(N.getD k nd0).items,V x.toNat):∀(f a:Nat) (M:List Bool),V a->(∀k,M.getD k ay=aX->V k)->∀k,(jR N f a M).getD k ay=aX->V k
 |0,_,M,_,b=>b
 |f+1,a,M,ha,b=>by
  have d:∀(l:List Int) (M:List Bool),(∀x∈l,V x.toNat)->(∀k,M.getD k ay=aX->V k)->∀k,(l.foldl (λM x=>jR N f x.toNat M) M).getD k ay=aX->V k:=by
   intro l
   induction l with
   |nil=>intro M _ b;exact b
   |cons x l g=>intro M e b;rw[List.foldl_cons];exact g _ (λy hy=>e y (bC _ hy)) (Lh N V hc f x.toNat M (e x (bI ..)) b)
  show ∀k,(if M.getD a ay then M else _).getD k ay=aX->V k;split
  ·exact b
  ·refine d _ _ (λx hx=>hc a ha x (List.mem_append_right _ hx)) (d _ _ (λx hx=>hc a ha x (List.mem_append_left _ hx)) ?_)
   intro k c;rw[nH]at c;split at c
   ·rename_i h;rw[<-h.1];exact ha
   ·exact b k c
theorem Lj (N:List Nd)(root:Nat)(hR:nN N)(hn:N.length<=4096)(d:root<N.length)(j:∀i,i<N.length->(jR N (N.length+1) root (aI N.length ay)).getD i ay=aX):
  ∃inn sizes,uM N root=ae (inn,sizes)/\(∀x∈inn,0<=x/\x<(sizes.length:Int))/\sizes.length<=4096:=by
 have c:∀k,(aI N.length (0:Int)).getD k 0=0:=λk=>by rw[aj,aY];split<;>rfl
 have l:TJ N.length ⟨0,aI N.length 0,aI N.length 0,aI N.length (-1),aI N.length ay,[],[]⟩:=
  ⟨aP,aP,aP,iH,List.nodup_nil,λ_ h=>(aO h).elim,λk _ h=>absurd (c k) h,λk _ h=>absurd (c k) h,iH⟩
 obtain⟨s,e,a,m,n,o,p⟩:=Le N hR hn (N.length+1) root _ l d (c root) iH;have f:s.index.getD root 0≠0:=by rw[n];show(0:Int)+1≠0;decide
 have t:=(a.pos root d f).2;have q:s.stack=[]:=p (by show _=(0:Int)+1;have:s.low.getD root 0<=0+1:=o;omega)
 have r:∀i,i<N.length->s.index.getD i 0≠0:=λi hi=>
  Lh N (λk=>s.index.getD k 0≠0) (λk b=>by
   rcases m.cls k b with h|h
   ·exact absurd (c k) h
   ·exact h) _ root _ f (λk b=>by rw[aj,aY]at b;split at b<;>simp at b) i (j i hi)
 refine⟨s.inn,s.sizes,by unfold uM;rw[e];rfl,λx hx=>?_,?_⟩
 ·obtain⟨i,hi,rfl⟩:=List.getElem_of_mem hx
  have g:i<N.length:=by rw[<-a.ln];exact hi
  rcases a.out i g (r i g)with h|h
  ·rw[q]at h;exact(aO h).elim
  ·rw[aj,au hi,aW]at h
   exact h
 ·have:=a.few
  have:=a.nx;omega
theorem Vu (w0:aC)(v:az)(root:Int)(N:List Nd)(d:Fin 13->Nat)(base:Nat)(c4:jJ w0 v N)(hR:nN N)(hn:N.length<=4096):∀f,JP w0 v root N d base (mg N f):=by
 intro f
 induction f with
 |zero=>intro x s s' B C w hs;cases hs
 |succ f cf=>
  intro a s s' B C w hs ha hi U;obtain⟨c5,c6,Y,Z,cg⟩:=Vm hs;have ch:=ah cf;have p:=ah U;have bq:=ah Y;have br:=ah Z;have c7:=ah cg;have c8:=ah hi;have c9:=ah hR;obtain⟨va,vc,da,ew,ci⟩:=c4;subst da;have db:=ah ci;have dc:(a:Int)<(N.length:Int):=iE
  clear Y Z;rcases db.1 with aD|⟨b,o,rfl,cj⟩
  ·exfalso;rw[aD]at ha;exact aJ _ ha
  have bs:N[a]?=ae N[a]:=au ha;have ck:=cj a N[a] bs;have cl:N.getD a nd0=N[a]:=by rw[aj,bs];rfl
  have bt:=c9.1 N[a] (aA ha);have Y:=bq.1;have Z:=br.1;rw[cl]at Y Z;generalize N[a]=n at ck bt Y Z;have cm:=ah bt;have bq:=ah Y;have br:=ah Z;obtain⟨ex,ey,bv,dd,de,cn,ba,bb,bc⟩:=ck;obtain⟨ez,eA,rfl,eB,bb⟩:=bb;obtain⟨eC,eD,rfl,eE,bc⟩:=bc;have df:=ah bb;have dg:=ah bc;have co:=ah ba;have dj:=ah cn;clear cj bs cl bt Y Z bv dd de cn ba bb bc;have cp:w.cell? ⟨d 9,0,af⟩=ae (.int .i64 s.next):=(ag (U.fix 9) 0).trans rfl;have dk:=λaE=>iU (iW w aE) cp
  have eI:∀o,w.frozen? ⟨d 9,o,af⟩=ay:=λo=>ax (U.fix 9) o
  have eJ:∀aE o,(w.alloc aE).frozen? ⟨d 9,o,af⟩=ay:=λaE o=>ax ((bW w aE _ (block_lt (U.fix 9))).trans (U.fix 9)) o
  have aF:((w.alloc (.cells #[.int .i64 a] 3)).setCell ⟨d 9,0,af⟩ (.int .i64 (wrap64 (s.next+1)))).heap[w.heap.size]?=ae (.cells #[.int .i64 a] 3):=by rw[jm _ (by have:=U.hi 9;have:=U.kZ;omega)];exact bu w _
  have be:Fr base B C B C w ((w.alloc (.cells #[.int .i64 a] 3)).setCell ⟨d 9,0,af⟩ (.int .i64 (wrap64 (s.next+1)))):=
   (Fr.rO (aS w _ af) (λk h=>by cases h)).trans (Fr.rO (lN _ (d 9) 0 _) (λk h=>by rw[<-Option.some.inj h];exact U.hi 9))
  have F:=ah ((U.toGX.alloc (.cells #[.int .i64 a] 3)).Vj (wrap64 (s.next+1)));generalize hy:s.next=y at cp dk aF be F;have dl:=ah hy;clear hs cg hi hR ci U cf hy;unfold EX
  as_aux_lemma=>
  go_enter Tryz.func136,Tryz.ntmps136;go_wp2
  as_aux_lemma=>
  generalize eK:(w.alloc (.cells #[.int .i64 a] 3)).setCell ⟨d 9,0,af⟩ (.int .i64 (wrap64 (y+1)))=K at F aF be⊢;have J:=F.1;have bw:K.cell? ⟨d 5,0,af⟩=ae (.slice (ae ⟨d 1,0,af⟩) N.length N.length):=(ag (J.fix 5) 0).trans rfl;have bx:K.cell? ⟨d 6,0,af⟩=ae (.slice (ae ⟨d 2,0,af⟩) N.length N.length):=(ag (J.fix 6) 0).trans rfl;have dp:K.cell? ⟨d 9,0,af⟩=ae (.int .i64 (wrap64 (y+1))):=(ag (J.fix 9) 0).trans rfl;have bA:K.cell? ⟨w.heap.size,0,af⟩=ae (.int .i64 a):=(ag aF 0).trans rfl;have aG:K.cell? ⟨d 1,a,af⟩=ae (.int .i64 (s.index.getD a 0)):=kJ (J.fix 1) (by rw[J.li];exact ha);have kl:K.cell? ⟨d 2,a,af⟩=ae (.int .i64 (s.low.getD a 0)):=kJ (J.fix 2) (by rw[J.ll];exact ha);have dq:∀o,K.frozen? ⟨d 1,o,af⟩=ay:=λo=>ax (J.fix 1) o
  have dr:∀o,K.frozen? ⟨d 2,o,af⟩=ay:=λo=>ax (J.fix 2) o
  have cq:d 1≠d 2:=λe=>by have:=J.inj _ _ e;exact absurd this iG
  have ds:d 2≠d 1:=λe=>cq e.symm
  have dt:d 1≠d 6:=λe=>by have:=J.inj _ _ e;exact absurd this iG
  have du:d 1≠d 9:=λe=>by have:=J.inj _ _ e;exact absurd this iG
  have dv:d 1≠w.heap.size:=by have:=p.1.hi 1;have:=p.1.kZ;omega
  clear J;have D:=ah (((F.1.setIndex a (wrap64 (y+1))).zY a (wrap64 (y+1))).drew)
  have bf:((K.setCell ⟨d 1,a,af⟩ (.int .i64 (wrap64 (y+1)))).setCell ⟨d 2,a,af⟩ (.int .i64 (wrap64 (y+1)))).drew.heap[w.heap.size]?=ae (.cells #[.int .i64 a] 3):=by show((K.setCell _ _).setCell _ _).heap[w.heap.size]?=_;rw[jm _ (by have:=p.1.hi 2;have:=p.1.kZ;omega),jm _ (by have:=p.1.hi 1;have:=p.1.kZ;omega)];exact aF
  have bB:Fr base B C B C w ((K.setCell ⟨d 1,a,af⟩ (.int .i64 (wrap64 (y+1)))).setCell ⟨d 2,a,af⟩ (.int .i64 (wrap64 (y+1)))).drew:=
   (be.trans (Fr.rO (lN _ (d 1) a _) (λk h=>by rw[<-Option.some.inj h];exact p.1.hi 1))).trans (Fr.rO (grown_drew (lN _ (d 2) a _)) (λk h=>by rw[<-Option.some.inj h];exact p.1.hi 2))
  go_region
  as_aux_lemma=>
  generalize eL:((K.setCell ⟨d 1,a,af⟩ (.int .i64 (wrap64 (y+1)))).setCell ⟨d 2,a,af⟩ (.int .i64 (wrap64 (y+1)))).drew=L at D bf bB⊢;clear bw bx dp bA aG kl dq dr cq ds dt du dv aF be;have bg:=D.1;obtain⟨cr,cs,ct,cv,cw⟩:=info_parts su;have X:=ah (And.intro cs (And.intro ct (And.intro cv cw)));have cx:L.cell? ⟨d 12,0,af⟩=ae B:=(ag (bg.fix 12) 0).trans rfl;have bA:L.cell? ⟨w.heap.size,0,af⟩=ae (.int .i64 a):=(ag bf 0).trans rfl;have dx:=ah (World.ownsRow.alloc bg.nK (.cells #[.int .i64 a] 3));have dy:PLift (base<=(L.alloc (.cells #[.int .i64 a] 3)).heap.size):=⟨(bg.alloc _).kZ⟩;have dz:PLift ((L.alloc (.cells #[.int .i64 a] 3)).cell? ⟨L.heap.size,0,af⟩=ae (.int .i64 a)):=⟨(ag (bu L _) 0).trans rfl⟩;have cy:=ah bf;have dS:=ah bB
  have cz:PLift (s.stack.length<=4096):=by refine⟨?_⟩;have aL:=p.1.bd;have dT:=p.1.cnt;show s.stack.length<=4096;omega
  clear cs ct cv cw bg bf bB
  go_wp2_with(refine wG _ rfl _ _ 36 rfl base 3 cr (.int .i64 0) 1 8 Tryz.underlying36 X.1.1 X.1.2.1 X.1.2.2.1 X.1.2.2.2 rfl iG B s.stack.length (s.stack.map (bG .i64)) rfl dx.1 ⟨L.heap.size,0,af⟩ 1 1 [.int .i64 a] rfl rfl (by intro j u G;match j,G with|0,G=>simp only[aZ,Option.some.injEq]at G;subst G;exact dz.1|j+1,G=>simp at G) (by simp[bV]) iG (by have:=cz.1;unfold maxLen;omega) (by have:=cz.1;omega) dy.1 ?_)
  as_aux_lemma=>
  intro v' P bE ao cA;obtain⟨M,O,d0⟩:=mW bE;subst d0;have bh:∀k,(bn M (s.stack.length+1) O).ownBlock=ae k->B.ownBlock=ae k\/(L.alloc (.cells #[.int .i64 a] 3)).heap.size<=k:=λk h=>by rw[jl];exact cA k h
  have ap:=(D.1.alloc (.cells #[.int .i64 a] 3)).setStack (s.stack++[(a:Int)]) (.slice M (s.stack.length+1) O) P ao (by simpa using bE) bh (by
   intro x hx;rcases aH.1 hx with hx|hx
   ·exact p.1.stk x hx
   ·rw[List.mem_singleton.1 hx];exact⟨iE,dc⟩)
  have cB:=ap.JM a aX;have bL:(L.alloc (.cells #[.int .i64 a] 3)).heap.size=L.heap.size+1:=jl _ _;have cC:∀k,B.ownBlock=ae k->base<=k:=λk h=>(p.1.nK.lt k h).1
  have cD:w.heap.size<L.heap.size:=block_lt cy.1
  have bM:P.heap[d 12]?=ae (.cells #[B] 36):=by rw[ao.block _ (block_lt ((D.1.alloc (.cells #[.int .i64 a] 3)).fix 12)) (λe=>by have:=cC _ e.symm;have:=p.1.hi 12;omega)];exact(D.1.alloc (.cells #[.int .i64 a] 3)).fix 12
  have cx:P.cell? ⟨d 12,0,af⟩=ae B:=(ag bM 0).trans rfl;have bN:∀o,P.frozen? ⟨d 12,o,af⟩=ay:=λo=>ax bM o
  have cE:P.heap[w.heap.size]?=ae (.cells #[.int .i64 a] 3):=by rw[ao.block _ (by rw[bL];omega) (λe=>by have:=(p.1.nK.lt _ e.symm).2;omega),bW _ _ _ cD];exact cy.1
  have bi:(P.setCell ⟨d 12,0,af⟩ (.slice M (s.stack.length+1) O)).heap[w.heap.size]?=ae (.cells #[.int .i64 a] 3):=by rw[jm _ (by have:=p.1.hi 12;have:=p.1.kZ;omega)];exact cE
  have aM:((P.setCell ⟨d 12,0,af⟩ (.slice M (s.stack.length+1) O)).setCell ⟨d 4,a,af⟩ (.bool aX)).heap[w.heap.size]?=ae (.cells #[.int .i64 a] 3):=by rw[jm _ (by have:=p.1.hi 4;have:=p.1.kZ;omega)];exact bi
  have cF:Fr base B C (.slice M (s.stack.length+1) O) C w P:=by have aL:=dS.1.trans (Fr.rO (aS L (.cells #[.int .i64 a] 3) af) (λk h=>by cases h));refine aL.trans ⟨ao.size,λk d1 h hs aq=>ao.block k h (λe=>hs e.symm),λk h=>bh k h,λk h=>.inl h⟩
  have bj:Fr base B C (.slice M (s.stack.length+1) O) C w ((P.setCell ⟨d 12,0,af⟩ (.slice M (s.stack.length+1) O)).setCell ⟨d 4,a,af⟩ (.bool aX)):=
   (cF.trans (Fr.rO (lN _ (d 12) 0 _) (λk h=>by rw[<-Option.some.inj h];exact p.1.hi 12))).trans (Fr.rO (lN _ (d 4) a _) (λk h=>by rw[<-Option.some.inj h];exact p.1.hi 4))
  have aa:PLift (GX w0 (.slice (ae ⟨b,o,af⟩) N.length vc) root N d base (lG a s) (.slice M (s.stack.length+1) O) C ((P.setCell ⟨d 12,0,af⟩ (.slice M (s.stack.length+1) O)).setCell ⟨d 4,a,af⟩ (.bool aX))):=by
   have he:lG a s={s with next:=wrap64 (y+1),index:=s.index.set a (wrap64 (y+1)),low:=s.low.set a (wrap64 (y+1)),stack:=s.stack++[(a:Int)],on:=s.on.set a aX}:=by unfold lG;rw[dl.1]
   rw[he];exact⟨cB⟩
  have cG:PLift ((bn M (s.stack.length+1) O).ownBlock≠ae w.heap.size/\C.ownBlock≠ae w.heap.size):=by
   refine⟨⟨λe=>?_,λe=>?_⟩⟩
   ·rcases bh _ e with e|e
    ·have:=(p.1.nK.lt _ e).2;omega
    ·rw[bL]at e;omega
   ·have:=(p.1.oH.lt _ e).2;omega
  clear cB bL cC cD bM cE cF bE ao bh cA
  go_upto_region 4 with fail
  as_aux_lemma=>
  generalize eM:P.setCell ⟨d 12,0,af⟩ (.slice M (s.stack.length+1) O)=aR at ap bi aM bj aa⊢;clear cx bN;have bO:aR.cell? ⟨d 8,0,af⟩=ae (.slice (ae ⟨d 4,0,af⟩) N.length N.length):=(ag (ap.fix 8) 0).trans rfl;have d2:aR.cell? ⟨w.heap.size,0,af⟩=ae (.int .i64 a):=(ag bi 0).trans rfl;have d3:aR.cell? ⟨d 4,a,af⟩=ae (.bool (s.on.getD a ay)):=Ac (ap.fix 4) (by rw[p.1.lo2];exact ha);have d4:∀o,aR.frozen? ⟨d 4,o,af⟩=ay:=λo=>ax (ap.fix 4) o
  clear ap
  go_upto_region 6 with fail
  as_aux_lemma=>
  generalize eN:aR.setCell ⟨d 4,a,af⟩ (.bool aX)=bR at aM bj aa⊢;clear bO d2 d3 d4 bi;have d5:=ah aM;have d6:PLift (tC w.heap.size a (.slice M (s.stack.length+1) O) C bR):=⟨⟨aM,cG.1.1,cG.1.2⟩⟩;have d7:=ah (Vt p.1 ha c8.1 hn aa.1);have ab:PLift (base<=w.heap.size):=⟨p.1.kZ⟩;have d8:=ah bj;clear aM bj;have eO:bR.cell? ⟨d 0,0,af⟩=ae (.slice (ae ⟨b,o,af⟩) N.length vc):=(ag (aa.1.fix 0) 0).trans rfl;have eR:bR.cell? ⟨w.heap.size,0,af⟩=ae (.int .i64 a):=(ag d5.1 0).trans rfl;have eS:=iU aa.1.below dj.1;go_wp2
  as_aux_lemma=>
  go_loopw [43] (λac wr=>∃(j:Nat) (A:TS) (H E:az),ac=.int .i64 j/\j<=n.keys.length/\nJ (mg N f) a (n.keys.drop j) A=ae c5/\GW w0 (.slice (ae ⟨b,o,af⟩) N.length vc) root N d base A H E wr/\Fr base B C H E w wr/\tC w.heap.size a H E wr) (λac _=>n.keys.length - (intOf ac).toNat)
  case atStart=>exact⟨0,lG a s,_,C,rfl,bZ _,bq.1,d7.1,d8.1,d6.1⟩
  case round=>
   as_aux_lemma=>
   obtain⟨j,A,H,E,rfl,G,a0,V,a1,ad⟩:=hrel;have a2:=ah a0;have I:=ah V;have ar:=ah a1;have W:=ah ad;have ba:=iU V.below co.1;have bv:wr.cell? ⟨d 0,0,af⟩=ae (.slice (ae ⟨b,o,af⟩) N.length vc):=(ag (V.fix 0) 0).trans rfl;have mt:wr.cell? ⟨w.heap.size,0,af⟩=ae (.int .i64 a):=(ag ad.box 0).trans rfl;clear a0 V a1 ad;by_cases Q:j<n.keys.length
   ·have d9:(j:Int)<(n.keys.length:Int):=iE
    have hx:=cm.1.1 n.keys[j] (aA Q);rcases df.1 with aD|⟨ea,lo,rfl,ai⟩
    ·exfalso;rw[aD]at Q;exact aJ _ Q
    have bS:=iU I.1.below (ai j n.keys[j] (au Q));obtain⟨a3,ak,he⟩:=JR Q a2.1;generalize n.keys[j]=x at hx bS ak;obtain⟨k,rfl⟩:=aN hx.1;have h:k<N.length:=(by have:=hx.2;omega);have bX:=ah (JQ w0 _ root N d base (mg N f) ch.1 a k A a3 H E wr w.heap.size ha h ak I.1 ab.1 mt W.1.far W.1.Ad);have b0:=ah he;have eb:=ah ai;clear ai hx ak he
    go_wp2_with(go_at_call 137;refine(bX.1).mono ?_;rintro e w3 ⟨rfl,b1,b2,a4,a5⟩;have b3:=ah a4;have R:=ah a5;clear a4 a5)
    as_aux_lemma=>
    go_roundw
    case rel=>exact⟨j+1,a3,b1,b2,by go_num,iE,b0.1,b3.1,ar.1.trans R.1,W.1.step ab.1 R.1⟩
    case measure=>simp[intOf];omega
   ·obtain rfl:j=n.keys.length:=iE
    obtain rfl:=JS a2.1;go_wp2
    as_aux_lemma=>
    go_loopw [58] (λac wr=>∃(j:Nat) (A:TS) (H E:az),ac=.int .i64 j/\j<=n.items.length/\nJ (mg N f) a (n.items.drop j) A=ae c6/\GW w0 (.slice (ae ⟨b,o,af⟩) N.length vc) root N d base A H E wr/\Fr base B C H E w wr/\tC w.heap.size a H E wr) (λac _=>n.items.length - (intOf ac).toNat)
    case atStart=>exact⟨0,A,H,E,rfl,bZ _,br.1,I.1,ar.1,W.1⟩
    case round=>
     as_aux_lemma=>
     obtain⟨j,A,H,E,rfl,G,a0,V,a1,ad⟩:=hrel;have a2:=ah a0;have I:=ah V;have ar:=ah a1;have W:=ah ad;have ba:=iU V.below co.1;have bv:wr.cell? ⟨d 0,0,af⟩=ae (.slice (ae ⟨b,o,af⟩) N.length vc):=(ag (V.fix 0) 0).trans rfl;have mt:wr.cell? ⟨w.heap.size,0,af⟩=ae (.int .i64 a):=(ag ad.box 0).trans rfl;clear a0 V a1 ad;by_cases Q:j<n.items.length
     ·have d9:(j:Int)<(n.items.length:Int):=iE
      have hx:=cm.1.2 n.items[j] (aA Q);rcases dg.1 with aD|⟨ea,lo,rfl,ai⟩
      ·exfalso;rw[aD]at Q;exact aJ _ Q
      have bS:=iU I.1.below (ai j n.items[j] (au Q));obtain⟨a3,ak,he⟩:=JR Q a2.1;generalize n.items[j]=x at hx bS ak;obtain⟨k,rfl⟩:=aN hx.1;have h:k<N.length:=(by have:=hx.2;omega);have bX:=ah (JQ w0 _ root N d base (mg N f) ch.1 a k A a3 H E wr w.heap.size ha h ak I.1 ab.1 mt W.1.far W.1.Ad);have b0:=ah he;have eb:=ah ai;clear ai hx ak he
      go_wp2_with(go_at_call 137;refine(bX.1).mono ?_;rintro e w3 ⟨rfl,b1,b2,a4,a5⟩;have b3:=ah a4;have R:=ah a5;clear a4 a5)
      as_aux_lemma=>
      go_roundw
      case rel=>exact⟨j+1,a3,b1,b2,by go_num,iE,b0.1,b3.1,ar.1.trans R.1,W.1.step ab.1 R.1⟩
      case measure=>simp[intOf];omega
     ·obtain rfl:j=n.items.length:=iE
      obtain rfl:=JS a2.1
      as_aux_lemma=>
      have bx:wr.cell? ⟨d 6,0,af⟩=ae (.slice (ae ⟨d 2,0,af⟩) N.length N.length):=(ag (I.1.fix 6) 0).trans rfl;have bw:wr.cell? ⟨d 5,0,af⟩=ae (.slice (ae ⟨d 1,0,af⟩) N.length N.length):=(ag (I.1.fix 5) 0).trans rfl;have kl:wr.cell? ⟨d 2,a,af⟩=ae (.int .i64 (A.low.getD a 0)):=kJ (I.1.fix 2) (by rw[I.1.ll];exact ha);have aG:wr.cell? ⟨d 1,a,af⟩=ae (.int .i64 (A.index.getD a 0)):=kJ (I.1.fix 1) (by rw[I.1.li];exact ha);rcases Vr c7.1 with⟨bk,bl⟩|⟨cH,r,hr,bl⟩
      ·subst bl
       generalize A.low.getD a 0=ec at kl bk;generalize A.index.getD a 0=cI at aG bk;have eT:(ec==cI)=ay:=by simp only[iy,ne_eq];exact bk
       as_aux_lemma=>
       go_wp2
       go_quiet (fail)
       go_wp2;refine bodyPost_ret (results_none rfl _ _ _) rfl ?_;exact⟨rfl,H,E,I.1.drewN _,ar.1.drewN _⟩
      ·rw[cH]at kl
       generalize A.index.getD a 0=cI at aG kl;have ee:=ah bl;have cJ:=ah hr;clear bl hr cH
       as_aux_lemma=>
       go_wp2
       go_quiet (fail)
       obtain⟨cK,cL⟩:=iC (wr.drewN nq);have av:=ah (I.1.drewN nq);have cM:=ah (ar.1.drewN nq);have cN:=ah (W.1.drewN nq);rw[cL]at av cM cN⊢;clear cL bw bx kl aG
       as_aux_lemma=>
       go_wp2
       go_loopg [16] (A.stack.length+1) (λk ef wr=>∃(t:TS) (bm:az) (z:Int),ef=.int .i64 z/\pM a k t z=ae r/\GX w0 (.slice (ae ⟨b,o,af⟩) N.length vc) root N d base t bm E wr/\Fr base B C bm E w wr/\tC w.heap.size a bm E wr/\t.sizes=A.sizes)
       case atStart=>exact⟨A,H,0,rfl,cJ.1,av.1.toGX,cM.1,cN.1,rfl⟩
       case round=>
        as_aux_lemma=>
        obtain⟨t,bm,z,rfl,hp,hx,hf,b4,cO⟩:=hrel;cases gk with
        |zero=>cases hp
        |succ k=>
        obtain⟨x,hlast,cP⟩:=JU hp;obtain⟨al,am,aq⟩:=mW hx.oH;have b5:=ah aq;have cQ:=ah cO;rw[aq]at hx hf b4;clear aq cO
        have cR:0<t.stack.length:=by
         cases hs:t.stack with
         |nil=>rw[hs]at hlast;cases hlast
         |cons y l=>simp
        obtain⟨g,c,rfl,eg,cS⟩:=EY hx.nK cR;have bo:=hx.stk x (List.mem_of_getLast? hlast);obtain⟨q,rfl⟩:=aN bo.1;have cT:q<N.length:=(by have:=bo.2;omega);have eV:(q:Int)<(N.length:Int):=bo.2;have cU:wr.cell? ⟨d 12,0,af⟩=ae (.slice (ae ⟨g,0,af⟩) t.stack.length c):=(ag (hx.fix 12) 0).trans rfl;have b6:wr.cell? ⟨g,t.stack.length - 1,af⟩=ae (.int .i64 q):=EZ hx.nK (Vs hlast);have bN:∀o,wr.frozen? ⟨d 12,o,af⟩=ay:=λo=>ax (hx.fix 12) o
        have S:=ah (hx.pop rfl);have R:=ah (hf.trans (JV (m:=t.stack.length - 1) (i:=0) (x:=.slice (ae ⟨g,0,af⟩) (t.stack.length - 1) c) (hx.hi 12)));have a6:=ah (b4.step ab.1 (JV (m:=t.stack.length - 1) (i:=0) (x:=.slice (ae ⟨g,0,af⟩) (t.stack.length - 1) c) (hx.hi 12)));have eh:=ah cP;have cV:(t.stack.length:Int)<=9223372036854775807:=(by unfold maxLen at cS;omega);clear hp hx hf b4 cP hlast bo cS;obtain⟨m,hm⟩:∃m,t.stack.length=m+1:=⟨t.stack.length - 1,iE⟩;rw[hm]at cU b6 S R a6 eg cV;have eW:(m:Int)+1<=9223372036854775807:=iE;simp only[Nat.add_sub_cancel]at b6 S R a6;clear hm cR cV
        as_aux_lemma=>
        go_upto_region 20 with fail
        obtain⟨aw,cW⟩:=iC (wr.setCell ⟨d 12,0,af⟩ (.slice (ae ⟨g,0,af⟩) m c));rw[cW]at S R a6⊢;clear cW cU b6 bN;have bO:aw.cell? ⟨d 8,0,af⟩=ae (.slice (ae ⟨d 4,0,af⟩) N.length N.length):=(ag (S.1.fix 8) 0).trans rfl;have ei:aw.cell? ⟨d 4,q,af⟩=ae (.bool (t.on.getD q ay)):=Ac (S.1.fix 4) (by rw[S.1.lo2];exact cT);have ej:∀o,aw.frozen? ⟨d 4,o,af⟩=ay:=λo=>ax (S.1.fix 4) o
        have F:=ah (S.1.JM q ay);have b7:=ah (R.1.trans (Ae (i:=q) (x:=.bool ay) (S.1.hi 4)));have b8:=ah (a6.1.step ab.1 (Ae (i:=q) (x:=.bool ay) (S.1.hi 4)));clear S R a6
        as_aux_lemma=>
        go_upto_region 21 with fail
        obtain⟨an,cX⟩:=iC (aw.setCell ⟨d 4,q,af⟩ (.bool ay));rw[cX]at F b7 b8⊢;clear cX bO ei ej;have ek:an.cell? ⟨d 7,0,af⟩=ae (.slice (ae ⟨d 3,0,af⟩) N.length N.length):=(ag (F.1.fix 7) 0).trans rfl;have el:an.cell? ⟨d 11,0,af⟩=ae (.slice al t.sizes.length am):=(ag (F.1.fix 11) 0).trans rfl;have em:an.cell? ⟨d 3,q,af⟩=ae (.int .i64 (t.inn.getD q 0)):=kJ (F.1.fix 3) (by rw[F.1.ln];exact cT);have fn:∀o,an.frozen? ⟨d 3,o,af⟩=ay:=λo=>ax (F.1.fix 3) o
        have D:=ah (F.1.Vh q t.sizes.length);have b9:=ah (b7.1.trans (Ae (i:=q) (x:=.int .i64 t.sizes.length) (F.1.hi 3)));have ca:=ah (b8.1.step ab.1 (Ae (i:=q) (x:=.int .i64 t.sizes.length) (F.1.hi 3)));clear F b7 b8
        as_aux_lemma=>
        go_upto_region 22 with fail
        obtain⟨T,cY⟩:=iC (an.setCell ⟨d 3,q,af⟩ (.int .i64 t.sizes.length));rw[cY]at D b9 ca⊢;clear cY ek el em fn;have bA:T.cell? ⟨w.heap.size,0,af⟩=ae (.int .i64 a):=(ag ca.1.box 0).trans rfl;rcases eh.1 with⟨cb,a7⟩|⟨cb,a7⟩
        ·have en:a=q:=iE
         have bp:=ah a7;clear a7 cb;subst en;have eZ:T.cell? ⟨d 11,0,af⟩=ae (.slice al t.sizes.length am):=(ag (D.1.fix 11) 0).trans rfl;have eo:=ah (World.ownsRow.alloc D.1.oH (.cells #[.int .i64 (wrap64 (z+1))] 3));have ep:PLift (base<=(T.alloc (.cells #[.int .i64 (wrap64 (z+1))] 3)).heap.size):=⟨(D.1.alloc _).kZ⟩;have eq:PLift ((T.alloc (.cells #[.int .i64 (wrap64 (z+1))] 3)).cell? ⟨T.heap.size,0,af⟩=ae (.int .i64 (wrap64 (z+1)))):=⟨(ag (bu T _) 0).trans rfl⟩
         have c0:PLift (t.sizes.length<=4096):=by refine⟨?_⟩;have aL:=av.1.bd;have dT:=av.1.cnt;rw[cQ.1];omega
         as_aux_lemma=>
         go_wp2_with(refine wG _ rfl _ _ 36 rfl base 3 cr (.int .i64 0) 1 8 Tryz.underlying36 X.1.1 X.1.2.1 X.1.2.2.1 X.1.2.2.2 rfl iG (.slice al t.sizes.length am) t.sizes.length (t.sizes.map (bG .i64)) rfl eo.1 ⟨T.heap.size,0,af⟩ 1 1 [.int .i64 (wrap64 (z+1))] rfl rfl (by intro j u G;match j,G with|0,G=>simp only[aZ,Option.some.injEq]at G;subst G;exact eq.1|j+1,G=>simp at G) (by simp[bV]) iG (by have:=c0.1;unfold maxLen;omega) (by have:=c0.1;omega) ep.1 ?_)
         intro v' a8 cc a9 c1;have cd:∀k,v'.ownBlock=ae k->(bn al t.sizes.length am).ownBlock=ae k\/(T.alloc (.cells #[.int .i64 (wrap64 (z+1))] 3)).heap.size<=k:=λk h=>by rw[jl];exact c1 k h
         have aa:=ah ((D.1.alloc (.cells #[.int .i64 (wrap64 (z+1))] 3)).Vk (t.sizes++[wrap64 (z+1)]) v' a8 a9 (by simpa using cc) cd);have c2:∀k,(bn al t.sizes.length am).ownBlock=ae k->base<=k:=λk h=>(D.1.oH.lt k h).1
         have ce:a8.heap[d 11]?=ae (.cells #[.slice al t.sizes.length am] 36):=by rw[a9.block _ (block_lt ((D.1.alloc (.cells #[.int .i64 (wrap64 (z+1))] 3)).fix 11)) (λe=>by have:=c2 _ e.symm;have:=D.1.hi 11;omega)];exact(D.1.alloc (.cells #[.int .i64 (wrap64 (z+1))] 3)).fix 11
         have e0:a8.cell? ⟨d 11,0,af⟩=ae (.slice al t.sizes.length am):=(ag ce 0).trans rfl;have e2:∀o,a8.frozen? ⟨d 11,o,af⟩=ay:=λo=>ax ce o
         have er:PLift (Fr base B C (.slice (ae ⟨g,0,af⟩) m c) v' w a8):=by refine⟨?_⟩;have aL:=b9.1.trans (Fr.rO (aS T (.cells #[.int .i64 (wrap64 (z+1))] 3) af) (λk h=>by cases h));exact aL.trans ⟨a9.size,λk d1 h hs aq=>a9.block k h (λe=>aq e.symm),λk h=>.inl h,λk h=>cd k h⟩
         have es:=ah (er.1.trans (Ae (i:=0) (x:=v') (D.1.hi 11)));obtain⟨e4,e5,et⟩:=mW cc;subst et;clear cc a9 c1 cd c2 ce
         as_aux_lemma=>
         go_wp2;go_end0;have h:=Vq _ _ _ _ cJ.1;rw[bp.1]at h;obtain⟨e1,ev,e3,c3⟩:=h;have hs:=ee.1;rw[bp.1]at hs;have g1:=av.1.cnt;have g2:=av.1.bd;refine⟨rfl,_,_,{toGX:=?_,cnt:=?_,bd:=?_},es.1⟩
         ·rw[hs];exact aa.1
         ·rw[hs,<-g1]
          show(mf t a).next+(mf t a).index.count 0=_;rw[<-e1,<-ev]
         ·rw[hs]
          show(((mf t a).stack.length+((mf t a).sizes++[wrap64 (z+1)]).length:Nat):Int)<=(mf t a).next;have e1:(mf t a).next=A.next:=e1;have e3:(mf t a).sizes=A.sizes:=e3;have c3:(mf t a).stack.length<A.stack.length:=c3;rw[e1,e3];simp only[aB,aV,bT];omega
        ·have bk:((q:Int)==(a:Int))=ay:=by simp only[iy,ne_eq];exact cb
         have bp:=ah a7;clear a7
         as_aux_lemma=>
         go_wp2
         go_roundg k
         case measure=>omega
         case rel=>exact⟨_,_,_,rfl,bp.1,by rw[b5.1];exact D.1,by rw[b5.1];exact b9.1,by rw[b5.1];exact ca.1,cQ.1⟩
end Go.Proofs.YthcalnnipjflkaaGreatDoor
