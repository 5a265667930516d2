/- The plain laws of the capabilities: no program is in sight. -/
import Derived.Test.YtfgglegimajghaaI
namespace Go.Proofs.Ytfgglegimajghaa
open Go.RowKit
/-! ### Masks -/
abbrev bw (x : Int) : BitVec 16 := BitVec.ofInt 16 x
theorem wrap_u16 (n : Nat) (h : n < 65536) : IntKind.u16.wrap (n : Int) = n := by
  simp [IntKind.wrap, IntKind.bits, IntKind.signed]; omega
theorem and_eq (x y : Int) : bits .and .u16 x y = ((bw x &&& bw y).toNat : Int) := by
  show IntKind.u16.wrap ((bw x &&& bw y).toNat : Int) = _
  exact wrap_u16 _ (BitVec.isLt _)
theorem or_eq (x y : Int) : bits .or .u16 x y = ((bw x ||| bw y).toNat : Int) := by
  show IntKind.u16.wrap ((bw x ||| bw y).toNat : Int) = _
  exact wrap_u16 _ (BitVec.isLt _)
theorem andNot_eq (x y : Int) : bits .andNot .u16 x y = ((bw x &&& ~~~bw y).toNat : Int) := by
  show IntKind.u16.wrap ((bw x &&& ~~~bw y).toNat : Int) = _
  exact wrap_u16 _ (BitVec.isLt _)
theorem bw_nat (b : BitVec 16) : bw (b.toNat : Int) = b := by simp [bw]
theorem bw_and (x y : Int) : bw (bits .and .u16 x y) = bw x &&& bw y := by rw [and_eq, bw_nat]
theorem bw_or (x y : Int) : bw (bits .or .u16 x y) = bw x ||| bw y := by rw [or_eq, bw_nat]
theorem bw_toNat {x : Int} (h0 : 0 ≤ x) (h1 : x ≤ 65535) : ((bw x).toNat : Int) = x := by
  obtain ⟨n, rfl⟩ := Int.eq_ofNat_of_zero_le h0
  simp [bw]; omega
theorem bw_inj {x y : Int} (h0 : 0 ≤ x) (h1 : x ≤ 65535) (k0 : 0 ≤ y) (k1 : y ≤ 65535) (h : bw x = bw y) : x = y := by
  rw [← bw_toNat h0 h1, ← bw_toNat k0 k1, h]
theorem range_nat (b : BitVec 16) : 0 ≤ (b.toNat : Int) ∧ (b.toNat : Int) ≤ 65535 := by have := b.isLt; omega
/-- a mask is a part of another one -/
def subM (x y : Int) : Bool := bits .andNot .u16 x y == 0
theorem subM_iff (x y : Int) : subM x y = true ↔ ∀ i, i < 16 → (bw x).getLsbD i = true → (bw y).getLsbD i = true := by
  unfold subM
  rw [beq_iff_eq, andNot_eq]
  constructor
  · intro h i hi hx
    have h0 : bw x &&& ~~~bw y = 0#16 := by
      apply BitVec.eq_of_toNat_eq
      simpa using h
    have := congrArg (fun b => b.getLsbD i) h0
    simp [hi, hx] at this
    exact this
  · intro h
    have h0 : bw x &&& ~~~bw y = 0#16 := by
      apply BitVec.eq_of_getLsbD_eq
      intro i hi
      have := h i hi
      cases hx : (bw x).getLsbD i <;> simp_all
    rw [h0]; rfl
theorem hasB_eq {x : Int} (h0 : 0 ≤ x) (h1 : x ≤ 65535) (i : Nat) : hasB x i = (bw x).getLsbD i := by
  unfold hasB
  rw [← bw_toNat h0 h1]
  generalize bw x = b
  rw [bw_nat]
  rw [BitVec.getLsbD, Nat.testBit_eq_decide_div_mod_eq]
  have : ((b.toNat : Int) / 2 ^ i % 2 == 1) = decide (b.toNat / 2 ^ i % 2 = 1) := by
    rw [Bool.eq_iff_iff, beq_iff_eq, decide_eq_true_eq]
    have e : (b.toNat : Int) / 2 ^ i % 2 = ((b.toNat / 2 ^ i % 2 : Nat) : Int) := by simp
    rw [e]; omega
  exact this
theorem subB_eq {x y : Int} (h0 : 0 ≤ x) (h1 : x ≤ 65535) (k0 : 0 ≤ y) (k1 : y ≤ 65535) : subB x y 16 = subM x y := by
  rw [Bool.eq_iff_iff, subM_iff]
  unfold subB
  rw [List.all_eq_true]
  constructor
  · intro h i hi hx
    have := h i (by simpa using hi)
    rw [hasB_eq h0 h1, hasB_eq k0 k1] at this
    simpa [hx] using this
  · intro h i hi
    have hi' : i < 16 := by simpa using hi
    rw [hasB_eq h0 h1, hasB_eq k0 k1]
    have := h i hi'
    cases hx : (bw x).getLsbD i <;> simp_all
end Go.Proofs.Ytfgglegimajghaa
