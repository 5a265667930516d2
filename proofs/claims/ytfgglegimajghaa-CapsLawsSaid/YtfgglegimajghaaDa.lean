/- What the contracts of Meet and Join lean on. -/
import Derived.Test.YtfgglegimajghaaC
import Derived.Test.YtfgglegimajghaaMix
import Derived.BigQuiet
namespace Go.Proofs.Ytfgglegimajghaa
open Go.RowKit
def minL (a b : Int) : Int := if lowB a b then a else b
def maxL (a b : Int) : Int := if lowB b a then a else b
theorem limitLow (a b : Int) (w : World) : Calls Try.prog 27 #[.int .i64 a, .int .i64 b, .func (.func 24) #[] #[]] w fun e w' => e = .returned (.int .i64 (minL a b)) ∧ w' = w :=
  (limitLow_any a b w).mono fun _ _ ⟨h1, h2⟩ => ⟨h1, h2.symm⟩
theorem limitHigh (a b : Int) (w : World) : Calls Try.prog 27 #[.int .i64 a, .int .i64 b, .func (.func 28) #[] #[]] w fun e w' => e = .returned (.int .i64 (maxL a b)) ∧ w' = w :=
  (limitHigh_any a b w).mono fun _ _ ⟨h1, h2⟩ => ⟨h1, h2.symm⟩
def shMeet (s t : Int) : Int := if s = t ∨ t = 0 then s else if s = 0 then t else 3
def shJoin (s t : Int) : Int := if s = t ∨ t = 3 then s else if s = 3 then t else 0
def Cp.meet (a b : Cp) : Cp :=
  ⟨bits .and .u16 a.k b.k, bits .and .u16 a.y b.y, bits .and .u16 a.r b.r, minL a.ib b.ib, minL a.d b.d, shMeet a.s b.s, a.o && b.o, a.sh && b.sh, a.c && b.c, a.m && b.m⟩
def Cp.join (a b : Cp) : Cp :=
  ⟨bits .or .u16 a.k b.k, bits .or .u16 a.y b.y, bits .or .u16 a.r b.r, maxL a.ib b.ib, maxL a.d b.d, shJoin a.s b.s, a.o || b.o, a.sh || b.sh, a.c || b.c, a.m || b.m⟩
/-- the Go value of a capability -/
def Cp.v (a : Cp) : Value := .agg #[.int .u16 a.k, .int .u16 a.y, .int .u16 a.r, .int .i64 a.ib, .int .i64 a.d, .int .i64 a.s, .bool a.o, .bool a.sh, .bool a.c, .bool a.m]
theorem size3 {w w1 : World} {X Y Z : Obj} {B : Nat} (h : Below B (((w.alloc X).alloc Y).alloc Z) w1) : w.heap.size < w1.heap.size ∧ w.heap.size + 1 < w1.heap.size ∧ w.heap.size + 1 + 1 < w1.heap.size := by
  have := h.size
  simp at this
  omega

def mv (a b : Cp) (x : Int) : Value := .agg #[.int .u16 (bits .and .u16 a.k b.k), .int .u16 (bits .and .u16 a.y b.y), .int .u16 (bits .and .u16 a.r b.r), .int .i64 (minL a.ib b.ib), .int .i64 (minL a.d b.d), .int .i64 x, .bool (a.o && b.o), .bool (a.sh && b.sh), .bool (a.c && b.c), .bool (a.m && b.m)]
theorem mv_eq {a b : Cp} {x : Int} (h : shMeet a.s b.s = x) : Ending.returned (mv a b x) = .returned (a.meet b).v := by subst h; rfl
theorem below3 {w w1 w2 : World} {X Y Z : Obj} (h1 : Below (((w.alloc X).alloc Y).alloc Z).heap.size (((w.alloc X).alloc Y).alloc Z) w1) (h2 : Below w1.heap.size w1 w2) : Below w.heap.size w w2 := by
  have hz := h1.size
  have a1 : w.heap.size ≤ (w.alloc X).heap.size := by simp
  have a2 : w.heap.size ≤ ((w.alloc X).alloc Y).heap.size := by simp; omega
  have a3 : w.heap.size ≤ (((w.alloc X).alloc Y).alloc Z).heap.size := by simp; omega
  exact ((((Below.refl w.heap.size w).alloc (Nat.le_refl _) X).alloc a1 Y).alloc a2 Z).trans ((h1.mono a3).trans (h2.mono (by omega)))
theorem below_stores {w w2 : World} {X : Obj} {k b b' : Nat} {x v0 v1 v2 v3 v4 v5 v6 v7 v8 v9 : Value} (h : Below w.heap.size w w2) (hb : w.heap.size ≤ b) (hb' : w.heap.size ≤ b') :
    Below w.heap.size w ((((((((((((w2.alloc X).drewN k).setCell ⟨b, 5, none⟩ x).setCell ⟨b', 0, none⟩ v0).setCell ⟨b', 1, none⟩ v1).setCell ⟨b', 2, none⟩ v2).setCell ⟨b', 3, none⟩ v3).setCell ⟨b', 4, none⟩ v4).setCell ⟨b', 5, none⟩ v5).setCell ⟨b', 6, none⟩ v6).setCell ⟨b', 7, none⟩ v7).setCell ⟨b', 8, none⟩ v8 |>.setCell ⟨b', 9, none⟩ v9) :=
  ((((((((((((h.alloc h.size X).trans (Mix.below_drewN _ _ _)).setCell (p := ⟨b, 5, none⟩) hb _).setCell (p := ⟨b', 0, none⟩) hb' _).setCell (p := ⟨b', 1, none⟩) hb' _).setCell (p := ⟨b', 2, none⟩) hb' _).setCell (p := ⟨b', 3, none⟩) hb' _).setCell (p := ⟨b', 4, none⟩) hb' _).setCell (p := ⟨b', 5, none⟩) hb' _).setCell (p := ⟨b', 6, none⟩) hb' _).setCell (p := ⟨b', 7, none⟩) hb' _).setCell (p := ⟨b', 8, none⟩) hb' _).setCell (p := ⟨b', 9, none⟩) hb' _
/-- stores into ten cells of one block, no other -/
theorem below_stores1 {w w2 : World} {b' : Nat} {v0 v1 v2 v3 v4 v5 v6 v7 v8 v9 : Value} (h : Below w.heap.size w w2) (hb' : w.heap.size ≤ b') :
    Below w.heap.size w ((((((((((w2.setCell ⟨b', 0, none⟩ v0).setCell ⟨b', 1, none⟩ v1).setCell ⟨b', 2, none⟩ v2).setCell ⟨b', 3, none⟩ v3).setCell ⟨b', 4, none⟩ v4).setCell ⟨b', 5, none⟩ v5).setCell ⟨b', 6, none⟩ v6).setCell ⟨b', 7, none⟩ v7).setCell ⟨b', 8, none⟩ v8).setCell ⟨b', 9, none⟩ v9) :=
  (((((((((h.setCell (p := ⟨b', 0, none⟩) hb' _).setCell (p := ⟨b', 1, none⟩) hb' _).setCell (p := ⟨b', 2, none⟩) hb' _).setCell (p := ⟨b', 3, none⟩) hb' _).setCell (p := ⟨b', 4, none⟩) hb' _).setCell (p := ⟨b', 5, none⟩) hb' _).setCell (p := ⟨b', 6, none⟩) hb' _).setCell (p := ⟨b', 7, none⟩) hb' _).setCell (p := ⟨b', 8, none⟩) hb' _).setCell (p := ⟨b', 9, none⟩) hb' _
theorem below_stores0 {w w2 : World} {X : Obj} {k b' : Nat} {v0 v1 v2 v3 v4 v5 v6 v7 v8 v9 : Value} (h : Below w.heap.size w w2) (hb' : w.heap.size ≤ b') :
    Below w.heap.size w (((((((((((w2.alloc X).drewN k).setCell ⟨b', 0, none⟩ v0).setCell ⟨b', 1, none⟩ v1).setCell ⟨b', 2, none⟩ v2).setCell ⟨b', 3, none⟩ v3).setCell ⟨b', 4, none⟩ v4).setCell ⟨b', 5, none⟩ v5).setCell ⟨b', 6, none⟩ v6).setCell ⟨b', 7, none⟩ v7).setCell ⟨b', 8, none⟩ v8 |>.setCell ⟨b', 9, none⟩ v9) :=
  below_stores1 ((h.alloc h.size X).trans (Mix.below_drewN _ _ _)) hb'
def jv (a b : Cp) (x : Int) : Value := .agg #[.int .u16 (bits .or .u16 a.k b.k), .int .u16 (bits .or .u16 a.y b.y), .int .u16 (bits .or .u16 a.r b.r), .int .i64 (maxL a.ib b.ib), .int .i64 (maxL a.d b.d), .int .i64 x, .bool (a.o || b.o), .bool (a.sh || b.sh), .bool (a.c || b.c), .bool (a.m || b.m)]
theorem jv_eq {a b : Cp} {x : Int} (h : shJoin a.s b.s = x) : Ending.returned (jv a b x) = .returned (a.join b).v := by subst h; rfl
theorem refLow_any (a b : Int) (w : World) : Calls Try.prog 26 #[.int .i64 a, .int .i64 b] w fun e w' => e = .returned (.bool (lowB a b)) ∧ w = w' := by
  go_enter Try.func26, Try.ntmps26
  go_wp2
  all_goals go_ret
  all_goals refine ⟨ret_bool ?_, rfl⟩
  all_goals first | (simp_all [lowB]; done) | (have e1 : (b == 0) = false := (by simpa using ‹¬b = 0›); have e2 : (a == 0) = false := (by simpa using ‹¬a = 0›); simp [lowB, e1, bne, e2])
theorem refLower (a b : Int) (w : World) : Calls Try.prog 29 #[.int .i64 a, .int .i64 b] w fun e w' => e = .returned (.int .i64 (minL a b)) ∧ w' = w := by
  cases h : lowB a b
  all_goals
    go_enter Try.func29, Try.ntmps29
    go_wp2_with (go_at_call 26; refine (refLow_any _ _ _).mono ?_; rw [h]; rintro e w' ⟨rfl, rfl⟩)
    go_ret
    exact ⟨ret_int (by simp [minL, h]), rfl⟩
theorem maxL_eq (a b : Int) : maxL a b = if lowB a b then b else a := by
  unfold maxL lowB
  by_cases h1 : a = 0 <;> by_cases h2 : b = 0 <;> simp [h1, h2]
  by_cases h3 : a ≤ b <;> by_cases h4 : b ≤ a <;> simp [h3, h4] <;> omega
theorem refUpper (a b : Int) (w : World) : Calls Try.prog 30 #[.int .i64 a, .int .i64 b] w fun e w' => e = .returned (.int .i64 (maxL a b)) ∧ w' = w := by
  have hm := maxL_eq a b
  cases h : lowB a b
  all_goals
    rw [h] at hm
    have hm' := Lib.hid hm
    clear hm
    go_enter Try.func30, Try.ntmps30
    go_wp2_with (go_at_call 26; refine (refLow_any _ _ _).mono ?_; rw [h]; rintro e w' ⟨rfl, rfl⟩)
    go_ret
    exact ⟨ret_int (by rw [hm'.out]; simp), rfl⟩
end Go.Proofs.Ytfgglegimajghaa
