/- The contracts of the reference's check and order. -/
import Derived.Test.YtfgglegimajghaaDa
namespace Go.Proofs.Ytfgglegimajghaa
open Go.RowKit
/-- bit i of a mask -/
def hasB (m : Int) (i : Nat) : Bool := (m / 2 ^ i) % 2 == 1
theorem has_any (m : Int) (i : Nat) (w : World) (h0 : 0 ≤ m) (_h1 : m ≤ 65535) (h3 : i < 16) :
    Calls Try.prog 22 #[.int .u16 m, .int .i64 i] w fun e w' => e = .returned (.bool (hasB m i)) ∧ w = w' := by
  have hd : 0 ≤ m / 2 ^ i := Int.ediv_nonneg h0 (Int.le_of_lt (Int.pow_pos (by decide)))
  go_enter Try.func22, Try.ntmps22
  go_wp2
  go_ret
  refine ⟨ret_bool ?_, rfl⟩
  simp only [hasB]

def subB (a b : Int) (n : Nat) : Bool := (List.range n).all fun j => !hasB a j || hasB b j
theorem subB_succ (a b : Int) (n : Nat) : subB a b (n + 1) = (subB a b n && (!hasB a n || hasB b n)) := by simp [subB, List.range_succ]
theorem within_any (a b : Int) (w : World) (h0 : 0 ≤ a) (h1 : a ≤ 65535) (k0 : 0 ≤ b) (k1 : b ≤ 65535) :
    Calls Try.prog 25 #[.int .u16 a, .int .u16 b] w fun e w' => e = .returned (.bool (subB a b 16)) ∧ w = w' := by
  go_enter Try.func25, Try.ntmps25
  go_wp2
  go_loop [5] (fun i => ∃ k : Nat, k ≤ 16 ∧ i = .int .i64 k ∧ subB a b k = true) (fun i => 16 - (intOf i).toNat)
  case atStart => exact ⟨0, by omega, rfl, rfl⟩
  case round =>
    obtain ⟨k, hk, rfl, hs⟩ := hrel
    have Hs := Lib.hid hs
    clear hs
    by_cases hlt : k < 16
    · have hlt' : (k : Int) < 16 := by omega
      have hsc := Lib.hid (subB_succ a b k)
      by_cases hA : hasB a k = true
      · by_cases hB : hasB b k = true
        · go_wp2_with (go_at_call 22; first | ((with_reducible refine (has_any a k _ h0 h1 hlt).mono ?_); rw [hA]; rintro e w' ⟨rfl, rfl⟩) | ((with_reducible refine (has_any b k _ k0 k1 hlt).mono ?_); rw [hB]; rintro e w' ⟨rfl, rfl⟩))
          go_round
          case rel => exact ⟨k + 1, by omega, by go_num, by rw [hsc.out, Hs.out, hA, hB]; rfl⟩
          case measure => simp [intOf]; omega
        · have hB' : hasB b k = false := by simpa using hB
          clear hB
          have hf : subB a b 16 = false := by
            unfold subB
            rw [List.all_eq_false]
            exact ⟨k, by simpa using hlt, by simp [hA, hB']⟩
          have hF := Lib.hid hf
          clear hf
          go_wp2_with (go_at_call 22; first | ((with_reducible refine (has_any a k _ h0 h1 hlt).mono ?_); rw [hA]; rintro e w' ⟨rfl, rfl⟩) | ((with_reducible refine (has_any b k _ k0 k1 hlt).mono ?_); rw [hB']; rintro e w' ⟨rfl, rfl⟩))
          go_ret
          exact ⟨ret_bool (by rw [hF.out]), rfl⟩
      · have hA' : hasB a k = false := by simpa using hA
        clear hA
        go_wp2_with (go_at_call 22; first | ((with_reducible refine (has_any a k _ h0 h1 hlt).mono ?_); rw [hA']; rintro e w' ⟨rfl, rfl⟩))
        go_round
        case rel => exact ⟨k + 1, by omega, by go_num, by rw [hsc.out, Hs.out, hA']; rfl⟩
        case measure => simp [intOf]; omega
    · obtain rfl : k = 16 := by omega
      go_wp2
      go_ret
      exact ⟨ret_bool (by rw [Hs.out]), rfl⟩
end Go.Proofs.Ytfgglegimajghaa
