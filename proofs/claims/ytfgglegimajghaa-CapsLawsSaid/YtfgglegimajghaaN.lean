/- Inequality of capabilities, as the walk spells it; the formats by a number that is not known. -/
import Derived.Test.YtfgglegimajghaaFormats
namespace Go.Proofs.Ytfgglegimajghaa
open Go.RowKit

theorem chain_ne {α : Type} {a b : Cp} (h : a ≠ b) (t f : α) : (if a.k = b.k then (if a.y = b.y then (if a.r = b.r then (if a.ib = b.ib then (if a.d = b.d then (if a.s = b.s then (if a.o = b.o then (if a.sh = b.sh then (if a.c = b.c then (if a.m = b.m then t else f) else f) else f) else f) else f) else f) else f) else f) else f) else f) = f := by
  cases a
  cases b
  simp only [ne_eq, Cp.mk.injEq] at h
  dsimp only
  repeat' split
  all_goals first | rfl | (exfalso; apply h; simp_all)
theorem nine {n : Int} (h0 : 0 ≤ n) (h1 : n < 9) : n = 0 ∨ n = 1 ∨ n = 2 ∨ n = 3 ∨ n = 4 ∨ n = 5 ∨ n = 6 ∨ n = 7 ∨ n = 8 := by omega
theorem ofA (n : Int) (h0 : 0 ≤ n) (h1 : n < 9) (c : Cp) (hc : ofC n.toNat = c) (w : World) : Calls Try.prog 10 #[.int .i64 n] w fun e w' => e = .returned (.tuple #[.agg #[.int .u16 c.k, .int .u16 c.y, .int .u16 c.r, .int .i64 c.ib, .int .i64 c.d, .int .i64 c.s, .bool c.o, .bool c.sh, .bool c.c, .bool c.m], .int .i64 0]) ∧ Below w.heap.size w w' := by
  subst hc
  rcases nine h0 h1 with rfl | rfl | rfl | rfl | rfl | rfl | rfl | rfl | rfl
  · exact of0 w
  · exact of1 w
  · exact of2 w
  · exact of3 w
  · exact of4 w
  · exact of5 w
  · exact of6 w
  · exact of7 w
  · exact of8 w
theorem ofC_good (n : Int) (h0 : 0 ≤ n) (h1 : n < 9) : (ofC n.toNat).ok = true ∧ (ofC n.toNat).le (ofC 4) = true ∧ (ofC n.toNat).Wf := by
  rcases nine h0 h1 with rfl | rfl | rfl | rfl | rfl | rfl | rfl | rfl | rfl
  · exact ⟨by kernel_rfl, by kernel_rfl, by constructor <;> decide⟩
  · exact ⟨by kernel_rfl, by kernel_rfl, by constructor <;> decide⟩
  · exact ⟨by kernel_rfl, by kernel_rfl, by constructor <;> decide⟩
  · exact ⟨by kernel_rfl, by kernel_rfl, by constructor <;> decide⟩
  · exact ⟨by kernel_rfl, by kernel_rfl, by constructor <;> decide⟩
  · exact ⟨by kernel_rfl, by kernel_rfl, by constructor <;> decide⟩
  · exact ⟨by kernel_rfl, by kernel_rfl, by constructor <;> decide⟩
  · exact ⟨by kernel_rfl, by kernel_rfl, by constructor <;> decide⟩
  · exact ⟨by kernel_rfl, by kernel_rfl, by constructor <;> decide⟩
end Go.Proofs.Ytfgglegimajghaa
