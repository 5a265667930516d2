import Derived.Test.YthcalnnipjflkaaGreatDoorP02
import Derived.Test.YthcalnnipjflkaaGreatDoorP06
import Derived.Shelf.GgSortFunc.SW
import Derived.Sort.WalkA
import Derived.Sort.WalkB2
import Derived.Sort.WalkB12
import Derived.Deep.LoopGhost
open Go renaming World -> ae, Value -> ag
open Option renaming none -> af
set_option linter.all false
namespace Go.Proofs.YthcalnnipjflkaaGreatDoor
open Go.RowKit Go.Sort
open Go.Lib hiding intOf
def ja (base:Nat)(W W':ae):Prop:=W.heap.size<=W'.heap.size/\∀p,base<=p->p<W.heap.size->W'.heap[p]?=W.heap[p]?
structure lH (base blk off n g:Nat)(cb:Array ag)(cf:Int->Int->Int)(Rs:Nat->Prop)(S:Array Int->ae->Prop):Prop where
 enters:∀args w,(callFunc g args).run Tryz.prog w=.ok (.enter g args) w
 row:∀d W,S d W->d.size=n/\∀i,i<n->W.cell? ⟨blk,off+i,af⟩=some (.int .i64 d[i]!)/\W.frozen? ⟨blk,off+i,af⟩=false
 drew:∀d (W:ae),S d W->S d {W with drawn:=W.drawn+1}
 alloc:∀d W o,S d W->S d (W.alloc o)
 swap:∀d W i j,S d W->i<n->j<n->S (swp d i j) ((W.setCell ⟨blk,off+i,af⟩ (.int .i64 d[j]!)).setCell ⟨blk,off+j,af⟩ (.int .i64 d[i]!))
 box:∀d W p v,S d W->base<=p->Rs p->S d (W.setCell ⟨p,0,af⟩ v)
 lo:∀d W,S d W->blk<base/\base<=W.heap.size
 cmp:∀d W i j,S d W->i<n->j<n->Calls Tryz.prog g (#[.int .i64 d[i]!,.int .i64 d[j]!]++cb) W λe W'=>e=.returned (.int .i64 (cf d[i]! d[j]!))/\S d W'/\ja base W W'
structure Ak (base blk off n g:Nat)(cb:Array ag)(cf:Int->Int->Int)(S:Array Int->ae->Prop):Prop where
 c:lH base blk off n g cb cf (λ_=>False) S
 ext:∃S':Nat->Array Int->ae->Prop,∀p,lH base blk off n g cb cf (λq=>q=p) (S' p)/\(∀d W o,S d W->W.heap.size=p->S' p d (W.alloc o))/\∀d W,S' p d W->S d W
def jD (base:Nat)(S:Array Int->ae->Prop)(d:Array Int)(W W':ae):Prop:=S d W->S d W'/\ja base W W'
theorem ja.refl (base:Nat)(W:ae):ja base W W:=⟨Nat.le_refl _,λ_ _ _=>rfl⟩
theorem ja.trans {base:Nat}{a b c:ae}(h:ja base a b)(k:ja base b c):ja base a c:=
 ⟨Nat.le_trans h.1 k.1,λp d e=>(k.2 p d (Nat.lt_of_lt_of_le e h.1)).trans (h.2 p d e)⟩
theorem ja.set {base blk:Nat}(W:ae)(o:Nat)(v:ag)(h:blk<base):ja base W (W.setCell ⟨blk,o,af⟩ v):=
 ⟨by simp[World.setCell],λp b _=>by
  have a:¬blk=p:=iE
  simp[World.setCell,Array.getElem?_modify,a]⟩
theorem ja.drew (base:Nat)(W:ae):ja base W {W with drawn:=W.drawn+1}:=⟨Nat.le_refl _,λ_ _ _=>rfl⟩
theorem CX {W:ae}{blk off i j:Nat}{u:ag}(v:ag)(hi:∃x,W.cell? ⟨blk,off+i,af⟩=some x)(a:W.cell? ⟨blk,off+j,af⟩=some u):∃z,(W.setCell ⟨blk,off+i,af⟩ v).cell? ⟨blk,off+j,af⟩=some z:=by
 by_cases e:i=j
 ·subst e
  obtain⟨x,hx⟩:=hi;exact⟨v,World.cell?_setCell_same _ _ _ hx⟩
 ·exact⟨_,(World.cell?_setCell_other _ _ _ _ (by intro e';simp only[Addr.mk.injEq]at e';omega)).trans a⟩
theorem jD.refl {base:Nat}{S:Array Int->ae->Prop}{d:Array Int}(W:ae):jD base S d W W:=λh=>⟨h,ja.refl _ _⟩
theorem jD.trans {base:Nat}{S:Array Int->ae->Prop}{d:Array Int}{a b c:ae}(h:jD base S d a b)(k:jD base S d b c):jD base S d a c:=
 λe=>⟨(k (h e).1).1,(h e).2.trans (k (h e).1).2⟩
theorem lH.Fg {base blk off n g:Nat}{cb:Array ag}{cf:Int->Int->Int}{Rs:Nat->Prop}{S:Array Int->ae->Prop}(C:lH base blk off n g cb cf Rs S)(d:Array Int)(W:ae):jD base S d W {W with drawn:=W.drawn+1}:=
 λh=>⟨C.drew d W h,Nat.le_refl _,λ_ _ _=>rfl⟩
theorem jD.inh {base:Nat}{S:Array Int->ae->Prop}{d:Array Int}(ρ:ae):Nonempty (Mix.iZ (jD base S d) ρ):=⟨⟨ρ,jD.refl ρ⟩⟩
def J5 (l:List Oper)(n:Nat):Bool:=Region.noSelect l.toArray&&(Mix.kN .any l.toArray l.length 0 (Array.replicate l.length false)==some (List.replicate l.length true).toArray)&&Mix.kS n l []&&(Region.ready .any l.toArray (List.replicate l.length true).toArray==[])
section
variable {base blk off n g:Nat} {cb:Array ag} {cf:Int->Int->Int} {Rs:Nat->Prop} {S:Array Int->ae->Prop}
theorem lH.reg (C:lH base blk off n g cb cf Rs S){d:Array Int}{W:ae}{Q:Exit->Act->ae->Prop}{id:Nat}{a:Act}{l:List Oper}{aF:Act}(b:J5 l a.tmps.size=true)
  (hA:∀ρ:ae,jD base S d W ρ->wpQuiet Tryz.prog l.toArray (λw'=>∃x:Mix.iZ (jD base S d) ρ,w'=x.w) (λa'=>a'=aF) l a)
  (hK:∀c:ae,jD base S d W c->Q .normal aF c):(Code.region id l.toArray true).wp Tryz.prog Q a W:=by
 simp only[J5,Bool.and_eq_true,beq_iff_eq]at b;exact Mix.qQ (jD base S d) jD.refl (λ_ _ _ h k=>h.trans k) (C.Fg d W) iF b.1.1.1 b.1.1.2 b.1.2 b.2 hA hK
theorem lH.lg (C:lH base blk off n g cb cf Rs S){d:Array Int}{W:ae}{i j:Nat}{x y:Int}(hS:S d W)(hi:i<n)(b:j<n)(hx:d[i]! =x)(hy:d[j]! =y)(ρ:ae)(c:jD base S d W ρ):
  Nonempty (Mix.iZ (jD base S d) ρ)/\(∀z:Mix.iZ (jD base S d) ρ,z.w.cell? ⟨blk,off+i,af⟩=.some (.int .i64 x))/\(∀z:Mix.iZ (jD base S d) ρ,z.w.cell? ⟨blk,off+j,af⟩=.some (.int .i64 y))/\
   ∀z:Mix.iZ (jD base S d) ρ,Calls Tryz.prog g (#[.int .i64 x,.int .i64 y]++cb) z.w λe W'=>e=.returned (.int .i64 (cf x y))/\jD base S d z.w W':=by
 subst hx hy;have a:∀z:Mix.iZ (jD base S d) ρ,S d z.w:=λz=>((c.trans z.h) hS).1
 exact⟨jD.inh ρ,λz=>((C.row d _ (a z)).2 i hi).1,λz=>((C.row d _ (a z)).2 j b).1,λz=>(C.cmp d z.w i j (a z) hi b).mono λ_ _ k=>⟨k.1,λ_=>k.2⟩⟩
theorem lH.qm (C:lH base blk off n g cb cf Rs S){d:Array Int}{W:ae}{i j:Nat}{x y:Int}(hS:S d W)(hi:i<n)(a:j<n)(hx:d[i]! =x)(hy:d[j]! =y):
  W.cell? ⟨blk,off+i,af⟩=.some (.int .i64 x)/\W.cell? ⟨blk,off+j,af⟩=.some (.int .i64 y)/\W.frozen? ⟨blk,off+i,af⟩=false/\W.frozen? ⟨blk,off+j,af⟩=false/\
   (∃u,(W.setCell ⟨blk,off+i,af⟩ (.int .i64 y)).cell? ⟨blk,off+j,af⟩=.some u)/\((i:Nat):Int).toNat=i/\((j:Nat):Int).toNat=j/\
   S (swp d i j) ((W.setCell ⟨blk,off+i,af⟩ (.int .i64 y)).setCell ⟨blk,off+j,af⟩ (.int .i64 x)).drew/\ja base W ((W.setCell ⟨blk,off+i,af⟩ (.int .i64 y)).setCell ⟨blk,off+j,af⟩ (.int .i64 x)).drew:=by
 subst hx hy;have r:=C.row d W hS;have b:=(C.lo d W hS).1;exact⟨(r.2 i hi).1,(r.2 j a).1,(r.2 i hi).2,(r.2 j a).2,CX _ ⟨_,(r.2 i hi).1⟩ (r.2 j a).1,Int.toNat_natCast _,Int.toNat_natCast _,C.drew _ _ (C.swap d W i j hS hi a),((ja.set W _ _ b).trans (ja.set _ _ _ b)).trans (ja.drew base _)⟩
end
theorem qo:Tryz.prog.follows Departure.mixedOrders=true:=iF
end Go.Proofs.YthcalnnipjflkaaGreatDoor
