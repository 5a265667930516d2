import Derived.KernelRfl
import Derived.Lib.Builder
import Derived.Test.YthcalnnipjflkaaGreatDoorProg
namespace Go
set_option linter.all false
theorem gY.{u} {c : Prop} {h : Decidable c} (hc : c) {α : Sort u} {t e : α} : ite c t e = t := if_pos hc
theorem gZ.{u} {c : Prop} {h : Decidable c} (hc : ¬c) {α : Sort u} {t e : α} : ite c t e = e := if_neg hc
theorem ig.{u, v} {α : Sort u} {β : Sort v} {a b : α} (f : α → β) (h : a = b) : f a = f b := congrArg f h
theorem iq {p : Prop} [h : Decidable p] (hp : p) : decide p = true := decide_eq_true hp
theorem iw {p : Prop} [h : Decidable p] (hp : ¬p) : decide p = false := decide_eq_false hp
theorem iy.{u} {α : Type u} [BEq α] [LawfulBEq α] {a b : α} : (a == b) = false ↔ a ≠ b := beq_eq_false_iff_ne
theorem iC.{u} {α : Sort u} (a : α) : ∃ x, a = x := ⟨a, rfl⟩
theorem iD.{u} {α : Sort u} (a : α) : ∃ x, x = a := ⟨a, rfl⟩
theorem iE {p : Prop} (h : p := by omega) : p := h
theorem iF {p : Prop} (h : p := by kernel_rfl) : p := h
theorem iG {p : Prop} (h : p := by decide) : p := h
theorem iH {p : Prop} (h : p := by simp) : p := h
theorem iI {p : Prop} (h : p := by simp;omega) : p := h
theorem iJ {a b : Prop} (h : a) (k : b) : a ∧ b := ⟨h, k⟩
theorem iK {w : World} {b : Nat} {cs : Array Value} {T : TypeId} {fr : Nat × Nat} (hb : w.heap[b]? = some (.cells cs T fr)) (k : Nat) (v : Value) (h : cs[k]? = some v := by exact rfl) : w.cell? ⟨b, k, none⟩ = some v := (Lib.cell_of_heap hb k).trans h
end Go
