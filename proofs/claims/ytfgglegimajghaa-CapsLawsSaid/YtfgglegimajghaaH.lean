/- The contract of the reference's check. -/
import Derived.Test.YtfgglegimajghaaG
namespace Go.Proofs.Ytfgglegimajghaa
open Go.RowKit
/-- nothing is wrong with bit j -/
def okBit (a : Cp) (j : Nat) : Bool := !((hasB a.k j && decide (11 < j)) || ((hasB a.y j || hasB a.r j) && !hasB a.k j))
def okBits (a : Cp) (n : Nat) : Bool := (List.range n).all (okBit a)
theorem okBits_succ (a : Cp) (n : Nat) : okBits a (n + 1) = (okBits a n && okBit a n) := by simp [okBits, List.range_succ]
/-- the masks are masks of 16 bits -/
structure Cp.Wf (a : Cp) : Prop where
  k0 : 0 ≤ a.k
  k1 : a.k ≤ 65535
  y0 : 0 ≤ a.y
  y1 : a.y ≤ 65535
  r0 : 0 ≤ a.r
  r1 : a.r ≤ 65535
def Cp.rok (a : Cp) : Bool := okBits a 16 && (decide (0 ≤ a.ib) && decide (0 ≤ a.d) && decide (0 ≤ a.s) && decide (a.s ≤ 3) && (a.sh || !a.c))
theorem rok_bad (a : Cp) (k : Nat) (hlt : k < 16) : okBit a k = false → a.rok = false := by
  intro hf
  unfold Cp.rok okBits
  rw [show (List.range 16).all (okBit a) = false from by rw [List.all_eq_false]; exact ⟨k, by simpa using hlt, by simp [hf]⟩]
  rfl
set_option maxHeartbeats 2000000 in
theorem valid_any (a : Cp) (wf : a.Wf) (w : World) :
    Calls Try.prog 13 #[.agg #[.int .u16 a.k, .int .u16 a.y, .int .u16 a.r, .int .i64 a.ib, .int .i64 a.d, .int .i64 a.s, .bool a.o, .bool a.sh, .bool a.c, .bool a.m]] w
      fun e w' => e = .returned (.bool a.rok) ∧ Below w.heap.size w w' := by
  have Wf := Lib.hid wf
  clear wf
  go_enter Try.func13, Try.ntmps13
  go_wp2
  go_loop [3] (fun i => ∃ k : Nat, k ≤ 16 ∧ i = .int .i64 k ∧ okBits a k = true) (fun i => 16 - (intOf i).toNat)
  case atStart => exact ⟨0, by omega, rfl, rfl⟩
  case round =>
    obtain ⟨k, hk, rfl, hs⟩ := hrel
    have Hs := Lib.hid hs
    clear hs
    by_cases hlt : k < 16
    · have hlt' : (k : Int) < 16 := by omega
      have hsc := Lib.hid (okBits_succ a k)
      have hbad := Lib.hid (rok_bad a k hlt)
      go_wp2_with (go_at_call 22; first | ((with_reducible refine (has_any a.k k _ Wf.out.k0 Wf.out.k1 hlt).mono ?_); rintro e w' ⟨rfl, rfl⟩) | ((with_reducible refine (has_any a.y k _ Wf.out.y0 Wf.out.y1 hlt).mono ?_); rintro e w' ⟨rfl, rfl⟩) | ((with_reducible refine (has_any a.r k _ Wf.out.r0 Wf.out.r1 hlt).mono ?_); rintro e w' ⟨rfl, rfl⟩))
      all_goals first
        | (go_ret
           exact ⟨ret_bool (hbad.out (by simp_all [okBit] <;> omega)).symm, (Below.refl _ _).alloc (Nat.le_refl _) _⟩)
        | (go_round
           case rel => exact ⟨k + 1, by omega, by go_num, by rw [hsc.out, Hs.out]; simp_all [okBit] <;> omega⟩
           case measure => simp [intOf]; omega)
    · obtain rfl : k = 16 := by omega
      go_wp2
      all_goals go_ret
      all_goals refine ⟨ret_bool ?_, (Below.refl _ _).alloc (Nat.le_refl _) _⟩
      all_goals (unfold Cp.rok; rw [Hs.out]; simp_all <;> omega)
end Go.Proofs.Ytfgglegimajghaa
