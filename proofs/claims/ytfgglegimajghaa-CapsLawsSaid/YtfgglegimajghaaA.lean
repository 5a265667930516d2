/- The plain notions of the contracts over the capabilities. -/
import Derived.Test.YtfgglegimajghaaRows
import Derived.WalkKit
import Derived.Lib.Hide
namespace Go.Proofs.Ytfgglegimajghaa
open Go.RowKit

/-- a limit is at most another one, 0 being infinite -/
def lowB (a b : Int) : Bool := b == 0 || (a != 0 && decide (a ≤ b))
/-- a valid capability -/
def vOk (k y r ib d s : Int) (sh c : Bool) : Bool :=
  bits .andNot .u16 k 4095 == 0 && bits .andNot .u16 y k == 0 && bits .andNot .u16 r k == 0 && decide (0 ≤ ib) && decide (0 ≤ d) && decide (0 ≤ s) && decide (s ≤ 3) && (!c || sh)
/-- the error number of a check -/
def ern (b : Bool) : Int := if b then 0 else 1
/-- the mask of a list of kinds -/
def maskF (m k : Int) : Int := bits .or .u16 m (IntKind.u16.wrap (2 ^ k.toNat))
def maskOf (ks : List Int) : Int := ks.foldl maskF 0
theorem maskOf_snoc (ks : List Int) (k : Nat) (h : k < ks.length) : maskOf (ks.take (k + 1)) = maskF (maskOf (ks.take k)) ks[k] := by
  rw [List.take_succ_eq_append_getElem h]; unfold maskOf; rw [List.foldl_append]; rfl
theorem ret_int {k : IntKind} {a b : Int} (h : a = b) : Ending.returned (.int k a) = .returned (.int k b) := by rw [h]
theorem ret_bool {a b : Bool} (h : a = b) : Ending.returned (.bool a) = .returned (.bool b) := by rw [h]

theorem set_any (ks : List Int) (b off cap : Nat) (w : World) (hl : ks.length ≤ 16) (hk : ∀ k ∈ ks, 0 ≤ k ∧ k < 16)
    (hc : ∀ i, i < ks.length → w.cell? ⟨b, off + i, none⟩ = some (.int .i64 (ks.getD i 0))) :
    Calls Try.prog 20 #[.slice (some ⟨b, off, none⟩) ks.length cap] w fun e w' => e = .returned (.int .u16 (maskOf ks)) ∧ w = w' := by
  go_enter Try.func20, Try.ntmps20
  go_wp2
  go_loop [3, 8] (fun m i => ∃ k : Nat, k ≤ ks.length ∧ i = .int .i64 k ∧ m = .int .u16 (maskOf (ks.take k))) (fun _ i => ks.length - (intOf i).toNat)
  case atStart => exact ⟨0, Nat.zero_le _, rfl, rfl⟩
  case round =>
    obtain ⟨k, hk', rfl, rfl⟩ := hrel
    by_cases hlt : k < ks.length
    · have hcell := hc k hlt
      have hkk := hk ks[k] (List.getElem_mem _)
      obtain ⟨hk0, hk1⟩ := hkk
      have hs := Lib.hid (maskOf_snoc ks k hlt)
      clear hc hk
      go_wp2
      go_round
      case rel => exact ⟨k + 1, by omega, by go_num, by rw [hs.out]; rfl⟩
      case measure => simp [intOf]; omega
    · go_wp2
      go_ret
      exact ⟨ret_int (by rw [List.take_of_length_le (by omega)]), rfl⟩

set_option maxHeartbeats 1000000 in
theorem check_any (k y r ib d s : Int) (o sh c m : Bool) (w : World) :
    Calls Try.prog 12 #[.agg #[.int .u16 k, .int .u16 y, .int .u16 r, .int .i64 ib, .int .i64 d, .int .i64 s, .bool o, .bool sh, .bool c, .bool m]] w
      fun e w' => e = .returned (.int .i64 (ern (vOk k y r ib d s sh c))) ∧ Below w.heap.size w w' := by
  go_enter Try.func12, Try.ntmps12
  go_wp2
  all_goals go_ret
  all_goals refine ⟨ret_int ?_, (Below.refl _ _).alloc (Nat.le_refl _) _⟩
  all_goals (cases sh <;> simp_all [ern, vOk] <;> omega)
theorem low_any (a b : Int) (w : World) :
    Calls Try.prog 24 #[.int .i64 a, .int .i64 b] w
      fun e w' => e = .returned (.bool (lowB a b)) ∧ w = w' := by
  go_enter Try.func24, Try.ntmps24
  go_wp2
  all_goals go_ret
  all_goals refine ⟨ret_bool ?_, rfl⟩
  all_goals simp [lowB, *]
theorem limitLow_any (a b : Int) (w : World) :
    Calls Try.prog 27 #[.int .i64 a, .int .i64 b, .func (.func 24) #[] #[]] w
      fun e w' => e = .returned (.int .i64 (if lowB a b then a else b)) ∧ w = w' := by
  cases h : lowB a b
  all_goals
    go_enter Try.func27, Try.ntmps27
    go_wp2_with (go_at_call 24; refine (low_any _ _ _).mono ?_; rw [h]; rintro e w' ⟨rfl, rfl⟩)
    go_ret
    exact ⟨rfl, rfl⟩
theorem high_any (a b : Int) (w : World) :
    Calls Try.prog 28 #[.int .i64 a, .int .i64 b] w
      fun e w' => e = .returned (.bool (lowB b a)) ∧ w = w' := by
  go_enter Try.func28, Try.ntmps28
  go_wp2_with (go_at_call 24; refine (low_any _ _ _).mono ?_; rintro e w' ⟨rfl, rfl⟩)
  go_ret
  exact ⟨rfl, rfl⟩
theorem limitHigh_any (a b : Int) (w : World) :
    Calls Try.prog 27 #[.int .i64 a, .int .i64 b, .func (.func 28) #[] #[]] w
      fun e w' => e = .returned (.int .i64 (if lowB b a then a else b)) ∧ w = w' := by
  cases h : lowB b a
  all_goals
    go_enter Try.func27, Try.ntmps27
    go_wp2_with (go_at_call 28; refine (high_any _ _ _).mono ?_; rw [h]; rintro e w' ⟨rfl, rfl⟩)
    go_ret
    exact ⟨rfl, rfl⟩
theorem implies_any (a b : Bool) (w : World) :
    Calls Try.prog 23 #[.bool a, .bool b] w
      fun e w' => e = .returned (.bool (!a || b)) ∧ w = w' := by
  cases a <;> cases b
  all_goals
    go_enter Try.func23, Try.ntmps23
    go_wp2
    go_ret
    exact ⟨rfl, rfl⟩
end Go.Proofs.Ytfgglegimajghaa
