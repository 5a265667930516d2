/- The plain laws of the capabilities: the lattice. -/
import Derived.Test.YtfgglegimajghaaP
namespace Go.Proofs.Ytfgglegimajghaa
open Go.RowKit
/-! ### Masks -/
theorem subM_refl (x : Int) : subM x x = true := (subM_iff _ _).2 fun _ _ h => h
theorem subM_trans {x y z : Int} (h : subM x y = true) (k : subM y z = true) : subM x z = true :=
  (subM_iff _ _).2 fun i hi hx => (subM_iff _ _).1 k i hi ((subM_iff _ _).1 h i hi hx)
theorem subM_and (x y z : Int) : subM z (bits .and .u16 x y) = (subM z x && subM z y) := by
  rw [Bool.eq_iff_iff, Bool.and_eq_true, subM_iff, subM_iff, subM_iff, bw_and]
  constructor
  · intro h
    refine ⟨fun i hi hz => ?_, fun i hi hz => ?_⟩ <;> have := h i hi hz <;> simp at this
    · exact this.1
    · exact this.2
  · rintro ⟨h1, h2⟩ i hi hz
    simp [h1 i hi hz, h2 i hi hz]
theorem subM_or (x y z : Int) : subM (bits .or .u16 x y) z = (subM x z && subM y z) := by
  rw [Bool.eq_iff_iff, Bool.and_eq_true, subM_iff, subM_iff, subM_iff, bw_or]
  constructor
  · intro h
    exact ⟨fun i hi hz => h i hi (by simp [hz]), fun i hi hz => h i hi (by simp [hz])⟩
  · rintro ⟨h1, h2⟩ i hi hz
    simp at hz
    rcases hz with hz | hz
    · exact h1 i hi hz
    · exact h2 i hi hz
theorem subM_antisymm {x y : Int} (h0 : 0 ≤ x) (h1 : x ≤ 65535) (k0 : 0 ≤ y) (k1 : y ≤ 65535) (h : subM x y = true) (k : subM y x = true) : x = y := by
  refine bw_inj h0 h1 k0 k1 (BitVec.eq_of_getLsbD_eq fun i hi => ?_)
  rw [Bool.eq_iff_iff]
  exact ⟨(subM_iff _ _).1 h i hi, (subM_iff _ _).1 k i hi⟩
theorem and_range (x y : Int) : 0 ≤ bits .and .u16 x y ∧ bits .and .u16 x y ≤ 65535 := by rw [and_eq]; exact range_nat _
theorem or_range (x y : Int) : 0 ≤ bits .or .u16 x y ∧ bits .or .u16 x y ≤ 65535 := by rw [or_eq]; exact range_nat _
theorem and_comm' (x y : Int) : bits .and .u16 x y = bits .and .u16 y x := by rw [and_eq, and_eq, BitVec.and_comm]
theorem and_assoc' (x y z : Int) : bits .and .u16 x (bits .and .u16 y z) = bits .and .u16 (bits .and .u16 x y) z := by
  rw [and_eq x (bits .and .u16 y z), and_eq (bits .and .u16 x y) z, bw_and, bw_and, BitVec.and_assoc]
theorem or_assoc' (x y z : Int) : bits .or .u16 x (bits .or .u16 y z) = bits .or .u16 (bits .or .u16 x y) z := by
  rw [or_eq x (bits .or .u16 y z), or_eq (bits .or .u16 x y) z, bw_or, bw_or, BitVec.or_assoc]
theorem and_or {x : Int} (y : Int) (h0 : 0 ≤ x) (h1 : x ≤ 65535) : bits .and .u16 x (bits .or .u16 x y) = x := by
  rw [and_eq, bw_or]
  rw [show bw x &&& (bw x ||| bw y) = bw x from BitVec.eq_of_getLsbD_eq fun i hi => by cases h : (bw x).getLsbD i <;> simp [h]]
  exact bw_toNat h0 h1
theorem or_and {x : Int} (y : Int) (h0 : 0 ≤ x) (h1 : x ≤ 65535) : bits .or .u16 x (bits .and .u16 x y) = x := by
  rw [or_eq, bw_and]
  rw [show bw x ||| (bw x &&& bw y) = bw x from BitVec.eq_of_getLsbD_eq fun i hi => by cases h : (bw x).getLsbD i <;> simp [h]]
  exact bw_toNat h0 h1
/-! ### Limits -/
theorem low_iff (a b : Int) : lowB a b = true ↔ b = 0 ∨ (a ≠ 0 ∧ a ≤ b) := by simp [lowB]
theorem low_refl (a : Int) : lowB a a = true := by rw [low_iff]; omega
theorem low_total (a b : Int) : lowB a b = true ∨ lowB b a = true := by simp only [low_iff]; omega
theorem low_trans {a b c : Int} (h : lowB a b = true) (k : lowB b c = true) : lowB a c = true := by simp only [low_iff] at *; omega
theorem low_antisymm {a b : Int} (h : lowB a b = true) (k : lowB b a = true) : a = b := by simp only [low_iff] at *; omega
theorem minL_le (a b c : Int) : lowB c (minL a b) = (lowB c a && lowB c b) := by
  unfold minL
  rw [Bool.eq_iff_iff, Bool.and_eq_true]
  by_cases h : lowB a b = true
  · rw [if_pos h]; exact ⟨fun k => ⟨k, low_trans k h⟩, fun k => k.1⟩
  · rw [if_neg h]
    have h' := (low_total a b).resolve_left h
    exact ⟨fun k => ⟨low_trans k h', k⟩, fun k => k.2⟩
theorem maxL_le (a b c : Int) : lowB (maxL a b) c = (lowB a c && lowB b c) := by
  unfold maxL
  rw [Bool.eq_iff_iff, Bool.and_eq_true]
  by_cases h : lowB b a = true
  · rw [if_pos h]; exact ⟨fun k => ⟨k, low_trans h k⟩, fun k => k.1⟩
  · rw [if_neg h]
    have h' := (low_total b a).resolve_left h
    exact ⟨fun k => ⟨low_trans h' k, k⟩, fun k => k.2⟩
theorem minL_nonneg {a b : Int} (h : 0 ≤ a) (k : 0 ≤ b) : 0 ≤ minL a b := by unfold minL; split <;> assumption
theorem maxL_nonneg {a b : Int} (h : 0 ≤ a) (k : 0 ≤ b) : 0 ≤ maxL a b := by unfold maxL; split <;> assumption
/-! ### Shapes -/
theorem shape_iff (s t : Int) : shapeB s t = true ↔ s = t ∨ s = 3 ∨ t = 0 := by simp [shapeB, or_assoc]
theorem shMeet_le {s t u : Int} (hs : 0 ≤ s ∧ s ≤ 3) (ht : 0 ≤ t ∧ t ≤ 3) (hu : 0 ≤ u ∧ u ≤ 3) : shapeB u (shMeet s t) = (shapeB u s && shapeB u t) := by
  rw [Bool.eq_iff_iff, Bool.and_eq_true, shape_iff, shape_iff, shape_iff]
  unfold shMeet
  split
  · omega
  · split <;> omega
theorem shJoin_le {s t u : Int} (hs : 0 ≤ s ∧ s ≤ 3) (ht : 0 ≤ t ∧ t ≤ 3) (hu : 0 ≤ u ∧ u ≤ 3) : shapeB (shJoin s t) u = (shapeB s u && shapeB t u) := by
  rw [Bool.eq_iff_iff, Bool.and_eq_true, shape_iff, shape_iff, shape_iff]
  unfold shJoin
  split
  · omega
  · split <;> omega
theorem shMeet_range {s t : Int} (hs : 0 ≤ s ∧ s ≤ 3) (ht : 0 ≤ t ∧ t ≤ 3) : 0 ≤ shMeet s t ∧ shMeet s t ≤ 3 := by
  unfold shMeet
  split
  · omega
  · split <;> omega
theorem shJoin_range {s t : Int} (hs : 0 ≤ s ∧ s ≤ 3) (ht : 0 ≤ t ∧ t ≤ 3) : 0 ≤ shJoin s t ∧ shJoin s t ≤ 3 := by
  unfold shJoin
  split
  · omega
  · split <;> omega
/-! ### Capabilities -/
theorem ok_iff (a : Cp) : a.ok = true ↔ subM a.k 4095 = true ∧ subM a.y a.k = true ∧ subM a.r a.k = true ∧ 0 ≤ a.ib ∧ 0 ≤ a.d ∧ (0 ≤ a.s ∧ a.s ≤ 3) ∧ (a.c = true → a.sh = true) := by
  unfold Cp.ok vOk
  simp only [Bool.and_eq_true, decide_eq_true_eq, Bool.or_eq_true, Bool.not_eq_true', subM]
  constructor
  · rintro ⟨⟨⟨⟨⟨⟨⟨h1, h2⟩, h3⟩, h4⟩, h5⟩, h6⟩, h7⟩, h8⟩
    exact ⟨h1, h2, h3, h4, h5, ⟨h6, h7⟩, fun h => by rcases h8 with h8 | h8; · rw [h] at h8; cases h8
                                                     · exact h8⟩
  · rintro ⟨h1, h2, h3, h4, h5, ⟨h6, h7⟩, h8⟩
    refine ⟨⟨⟨⟨⟨⟨⟨h1, h2⟩, h3⟩, h4⟩, h5⟩, h6⟩, h7⟩, ?_⟩
    cases hc : a.c
    · exact .inl rfl
    · exact .inr (h8 hc)
theorem le_iff (a b : Cp) : a.le b = true ↔ subM a.k b.k = true ∧ subM a.y b.y = true ∧ subM a.r b.r = true ∧ lowB a.ib b.ib = true ∧ lowB a.d b.d = true ∧ shapeB a.s b.s = true ∧ (a.o = true → b.o = true) ∧ (a.sh = true → b.sh = true) ∧ (a.c = true → b.c = true) ∧ (a.m = true → b.m = true) := by
  have imp : ∀ p q : Bool, ((!p || q) = true) ↔ (p = true → q = true) := by decide
  unfold Cp.le
  simp only [Bool.and_eq_true, imp, subM, and_assoc]
theorem mask12 {x : Int} (h0 : 0 ≤ x) (h1 : x ≤ 65535) : subM x 4095 = true ↔ ∀ i, i < 16 → hasB x i = true → i ≤ 11 := by
  rw [subM_iff]
  constructor
  · intro h i hi hx
    rw [hasB_eq h0 h1] at hx
    have := h i hi hx
    have key : ∀ i : Fin 16, (bw 4095).getLsbD i.1 = true → i.1 ≤ 11 := by decide
    exact key ⟨i, hi⟩ this
  · intro h i hi hx
    have := h i hi (by rw [hasB_eq h0 h1]; exact hx)
    have key : ∀ i : Fin 16, i.1 ≤ 11 → (bw 4095).getLsbD i.1 = true := by decide
    exact key ⟨i, hi⟩ this
theorem rok_eq (a : Cp) (wf : a.Wf) : a.rok = a.ok := by
  rw [Bool.eq_iff_iff, ok_iff]
  unfold Cp.rok okBits
  simp only [Bool.and_eq_true, List.all_eq_true, List.mem_range, decide_eq_true_eq, Bool.or_eq_true, Bool.not_eq_true']
  rw [mask12 wf.k0 wf.k1, subM_iff, subM_iff]
  constructor
  · rintro ⟨h, ⟨⟨⟨h4, h5⟩, h6⟩, h7⟩, h8⟩
    refine ⟨fun i hi hx => ?_, fun i hi hx => ?_, fun i hi hx => ?_, h4, h5, ⟨h6, h7⟩, fun hc => ?_⟩
    · have := h i hi
      simp [okBit, hx] at this
      omega
    · have := h i hi
      rw [← hasB_eq wf.y0 wf.y1] at hx
      rw [← hasB_eq wf.k0 wf.k1]
      simp [okBit, hx] at this
      exact this.2
    · have := h i hi
      rw [← hasB_eq wf.r0 wf.r1] at hx
      rw [← hasB_eq wf.k0 wf.k1]
      simp [okBit, hx] at this
      exact this.2
    · rcases h8 with h8 | h8
      · exact h8
      · rw [hc] at h8; cases h8
  · rintro ⟨h1, h2, h3, h4, h5, ⟨h6, h7⟩, h8⟩
    refine ⟨fun i hi => ?_, ⟨⟨⟨h4, h5⟩, h6⟩, h7⟩, ?_⟩
    · have g1 := h1 i hi
      have g2 := h2 i hi
      have g3 := h3 i hi
      rw [← hasB_eq wf.y0 wf.y1, ← hasB_eq wf.k0 wf.k1] at g2
      rw [← hasB_eq wf.r0 wf.r1, ← hasB_eq wf.k0 wf.k1] at g3
      unfold okBit
      cases hk : hasB a.k i <;> cases hy : hasB a.y i <;> cases hr : hasB a.r i <;> simp_all <;> omega
    · cases hc : a.c
      · exact .inr rfl
      · exact .inl (h8 hc)
theorem rle_eq (a b : Cp) (wa : a.Wf) (wb : b.Wf) : a.rle b = a.le b := by
  unfold Cp.rle Cp.le
  rw [subB_eq wa.k0 wa.k1 wb.k0 wb.k1, subB_eq wa.y0 wa.y1 wb.y0 wb.y1, subB_eq wa.r0 wa.r1 wb.r0 wb.r1]
  simp only [subM, flagsB, Bool.and_assoc]
/-! ### The lattice -/
theorem le_refl (a : Cp) : a.le a = true := by
  rw [le_iff]
  exact ⟨subM_refl _, subM_refl _, subM_refl _, low_refl _, low_refl _, (shape_iff _ _).2 (.inl rfl), id, id, id, id⟩
theorem le_trans {a b c : Cp} (ha : a.ok = true) (hb : b.ok = true) (hc : c.ok = true) (h : a.le b = true) (k : b.le c = true) : a.le c = true := by
  rw [le_iff] at h k ⊢
  obtain ⟨h1, h2, h3, h4, h5, h6, h7, h8, h9, h10⟩ := h
  obtain ⟨k1, k2, k3, k4, k5, k6, k7, k8, k9, k10⟩ := k
  have sa := ((ok_iff a).1 ha).2.2.2.2.2.1
  have sb := ((ok_iff b).1 hb).2.2.2.2.2.1
  have sc := ((ok_iff c).1 hc).2.2.2.2.2.1
  refine ⟨subM_trans h1 k1, subM_trans h2 k2, subM_trans h3 k3, low_trans h4 k4, low_trans h5 k5, ?_, k7 ∘ h7, k8 ∘ h8, k9 ∘ h9, k10 ∘ h10⟩
  rw [shape_iff] at h6 k6 ⊢
  omega
theorem le_antisymm {a b : Cp} (wa : a.Wf) (wb : b.Wf) (h : a.le b = true) (k : b.le a = true) : a = b := by
  rw [le_iff] at h k
  obtain ⟨h1, h2, h3, h4, h5, h6, h7, h8, h9, h10⟩ := h
  obtain ⟨k1, k2, k3, k4, k5, k6, k7, k8, k9, k10⟩ := k
  have flag : ∀ p q : Bool, (p = true → q = true) → (q = true → p = true) → p = q := by decide
  have e1 := subM_antisymm wa.k0 wa.k1 wb.k0 wb.k1 h1 k1
  have e2 := subM_antisymm wa.y0 wa.y1 wb.y0 wb.y1 h2 k2
  have e3 := subM_antisymm wa.r0 wa.r1 wb.r0 wb.r1 h3 k3
  have e4 := low_antisymm h4 k4
  have e5 := low_antisymm h5 k5
  have e6 : a.s = b.s := by rw [shape_iff] at h6 k6; omega
  have e7 := flag _ _ h7 k7
  have e8 := flag _ _ h8 k8
  have e9 := flag _ _ h9 k9
  have e10 := flag _ _ h10 k10
  clear h1 h2 h3 h4 h5 h6 h7 h8 h9 h10 k1 k2 k3 k4 k5 k6 k7 k8 k9 k10 flag wa wb
  cases a
  cases b
  dsimp only at e1 e2 e3 e4 e5 e6 e7 e8 e9 e10
  subst e1 e2 e3 e4 e5 e6 e7 e8 e9 e10
  rfl
theorem meet_wf (a b : Cp) : (a.meet b).Wf := ⟨(and_range _ _).1, (and_range _ _).2, (and_range _ _).1, (and_range _ _).2, (and_range _ _).1, (and_range _ _).2⟩
theorem join_wf (a b : Cp) : (a.join b).Wf := ⟨(or_range _ _).1, (or_range _ _).2, (or_range _ _).1, (or_range _ _).2, (or_range _ _).1, (or_range _ _).2⟩
theorem meet_ok {a b : Cp} (ha : a.ok = true) (hb : b.ok = true) : (a.meet b).ok = true := by
  rw [ok_iff] at ha hb ⊢
  obtain ⟨h1, h2, h3, h4, h5, h6, h7⟩ := ha
  obtain ⟨k1, k2, k3, k4, k5, k6, k7⟩ := hb
  have l : ∀ x y : Int, subM (bits .and .u16 x y) x = true ∧ subM (bits .and .u16 x y) y = true := fun x y => by
    have := subM_and x y (bits .and .u16 x y)
    rw [subM_refl] at this
    simpa using this.symm
  refine ⟨subM_trans (l _ _).1 h1, ?_, ?_, minL_nonneg h4 k4, minL_nonneg h5 k5, shMeet_range h6 k6, ?_⟩
  · show subM (bits .and .u16 a.y b.y) (bits .and .u16 a.k b.k) = true
    rw [subM_and, subM_trans (l _ _).1 h2, subM_trans (l _ _).2 k2]; rfl
  · show subM (bits .and .u16 a.r b.r) (bits .and .u16 a.k b.k) = true
    rw [subM_and, subM_trans (l _ _).1 h3, subM_trans (l _ _).2 k3]; rfl
  · show (a.c && b.c) = true → (a.sh && b.sh) = true
    rw [Bool.and_eq_true, Bool.and_eq_true]
    exact fun h => ⟨h7 h.1, k7 h.2⟩
theorem join_ok {a b : Cp} (ha : a.ok = true) (hb : b.ok = true) : (a.join b).ok = true := by
  rw [ok_iff] at ha hb ⊢
  obtain ⟨h1, h2, h3, h4, h5, h6, h7⟩ := ha
  obtain ⟨k1, k2, k3, k4, k5, k6, k7⟩ := hb
  have l : ∀ x y : Int, subM x (bits .or .u16 x y) = true ∧ subM y (bits .or .u16 x y) = true := fun x y => by
    have := subM_or x y (bits .or .u16 x y)
    rw [subM_refl] at this
    simpa using this.symm
  refine ⟨?_, ?_, ?_, maxL_nonneg h4 k4, maxL_nonneg h5 k5, shJoin_range h6 k6, ?_⟩
  · show subM (bits .or .u16 a.k b.k) 4095 = true
    rw [subM_or, h1, k1]; rfl
  · show subM (bits .or .u16 a.y b.y) (bits .or .u16 a.k b.k) = true
    rw [subM_or, subM_trans h2 (l _ _).1, subM_trans k2 (l _ _).2]; rfl
  · show subM (bits .or .u16 a.r b.r) (bits .or .u16 a.k b.k) = true
    rw [subM_or, subM_trans h3 (l _ _).1, subM_trans k3 (l _ _).2]; rfl
  · show (a.c || b.c) = true → (a.sh || b.sh) = true
    rw [Bool.or_eq_true, Bool.or_eq_true]
    exact fun h => h.imp h7 k7
theorem shape_ok {a : Cp} (h : a.ok = true) : 0 ≤ a.s ∧ a.s ≤ 3 := ((ok_iff a).1 h).2.2.2.2.2.1
theorem le_meet {a b c : Cp} (ha : a.ok = true) (hb : b.ok = true) (hc : c.ok = true) : c.le (a.meet b) = (c.le a && c.le b) := by
  have hs := shMeet_le (shape_ok ha) (shape_ok hb) (shape_ok hc)
  rw [Bool.eq_iff_iff, Bool.and_eq_true, le_iff, le_iff, le_iff]
  simp only [Cp.meet, subM_and, minL_le, hs, Bool.and_eq_true, imp_and]
  constructor
  · rintro ⟨⟨a1, b1⟩, ⟨a2, b2⟩, ⟨a3, b3⟩, ⟨a4, b4⟩, ⟨a5, b5⟩, ⟨a6, b6⟩, ⟨a7, b7⟩, ⟨a8, b8⟩, ⟨a9, b9⟩, a10, b10⟩
    exact ⟨⟨a1, a2, a3, a4, a5, a6, a7, a8, a9, a10⟩, b1, b2, b3, b4, b5, b6, b7, b8, b9, b10⟩
  · rintro ⟨⟨a1, a2, a3, a4, a5, a6, a7, a8, a9, a10⟩, b1, b2, b3, b4, b5, b6, b7, b8, b9, b10⟩
    exact ⟨⟨a1, b1⟩, ⟨a2, b2⟩, ⟨a3, b3⟩, ⟨a4, b4⟩, ⟨a5, b5⟩, ⟨a6, b6⟩, ⟨a7, b7⟩, ⟨a8, b8⟩, ⟨a9, b9⟩, a10, b10⟩
theorem join_le {a b c : Cp} (ha : a.ok = true) (hb : b.ok = true) (hc : c.ok = true) : (a.join b).le c = (a.le c && b.le c) := by
  have hs := shJoin_le (shape_ok ha) (shape_ok hb) (shape_ok hc)
  rw [Bool.eq_iff_iff, Bool.and_eq_true, le_iff, le_iff, le_iff]
  simp only [Cp.join, subM_or, maxL_le, hs, Bool.and_eq_true, Bool.or_eq_true, or_imp]
  constructor
  · rintro ⟨⟨a1, b1⟩, ⟨a2, b2⟩, ⟨a3, b3⟩, ⟨a4, b4⟩, ⟨a5, b5⟩, ⟨a6, b6⟩, ⟨a7, b7⟩, ⟨a8, b8⟩, ⟨a9, b9⟩, a10, b10⟩
    exact ⟨⟨a1, a2, a3, a4, a5, a6, a7, a8, a9, a10⟩, b1, b2, b3, b4, b5, b6, b7, b8, b9, b10⟩
  · rintro ⟨⟨a1, a2, a3, a4, a5, a6, a7, a8, a9, a10⟩, b1, b2, b3, b4, b5, b6, b7, b8, b9, b10⟩
    exact ⟨⟨a1, b1⟩, ⟨a2, b2⟩, ⟨a3, b3⟩, ⟨a4, b4⟩, ⟨a5, b5⟩, ⟨a6, b6⟩, ⟨a7, b7⟩, ⟨a8, b8⟩, ⟨a9, b9⟩, a10, b10⟩
theorem meet_le {a b : Cp} (ha : a.ok = true) (hb : b.ok = true) : (a.meet b).le a = true ∧ (a.meet b).le b = true := by
  have := le_meet ha hb (meet_ok ha hb)
  rw [le_refl] at this
  simpa using this.symm
theorem le_join {a b : Cp} (ha : a.ok = true) (hb : b.ok = true) : a.le (a.join b) = true ∧ b.le (a.join b) = true := by
  have := join_le ha hb (join_ok ha hb)
  rw [le_refl] at this
  simpa using this.symm
theorem meet_comm {a b : Cp} (ha : a.ok = true) (hb : b.ok = true) : a.meet b = b.meet a :=
  le_antisymm (meet_wf _ _) (meet_wf _ _) (by rw [le_meet hb ha (meet_ok ha hb), (meet_le ha hb).1, (meet_le ha hb).2]; rfl)
    (by rw [le_meet ha hb (meet_ok hb ha), (meet_le hb ha).1, (meet_le hb ha).2]; rfl)
theorem meet_assoc {a b c : Cp} (ha : a.ok = true) (hb : b.ok = true) (hc : c.ok = true) : a.meet (b.meet c) = (a.meet b).meet c := by
  have hbc := meet_ok hb hc
  have hab := meet_ok ha hb
  have l := meet_le ha hbc
  have r := meet_le hab hc
  have o1 := meet_ok ha hbc
  have o2 := meet_ok hab hc
  refine le_antisymm (meet_wf _ _) (meet_wf _ _) ?_ ?_
  · rw [le_meet hab hc o1, le_meet ha hb o1, l.1, le_trans o1 hbc hb l.2 (meet_le hb hc).1, le_trans o1 hbc hc l.2 (meet_le hb hc).2]; rfl
  · rw [le_meet ha hbc o2, le_meet hb hc o2, r.2, le_trans o2 hab ha r.1 (meet_le ha hb).1, le_trans o2 hab hb r.1 (meet_le ha hb).2]; rfl
theorem join_assoc {a b c : Cp} (ha : a.ok = true) (hb : b.ok = true) (hc : c.ok = true) : a.join (b.join c) = (a.join b).join c := by
  have hbc := join_ok hb hc
  have hab := join_ok ha hb
  have l := le_join ha hbc
  have r := le_join hab hc
  have o1 := join_ok ha hbc
  have o2 := join_ok hab hc
  refine le_antisymm (join_wf _ _) (join_wf _ _) ?_ ?_
  · rw [join_le ha hbc o2, join_le hb hc o2, r.2, le_trans ha hab o2 (le_join ha hb).1 r.1, le_trans hb hab o2 (le_join ha hb).2 r.1]; rfl
  · rw [join_le hab hc o1, join_le ha hb o1, l.1, le_trans hb hbc o1 (le_join hb hc).1 l.2, le_trans hc hbc o1 (le_join hb hc).2 l.2]; rfl
theorem meet_join {a b : Cp} (wa : a.Wf) (ha : a.ok = true) (hb : b.ok = true) : a.meet (a.join b) = a := by
  have hab := join_ok ha hb
  exact le_antisymm (meet_wf _ _) wa (meet_le ha hab).1 (by rw [le_meet ha hab ha, le_refl, (le_join ha hb).1]; rfl)
theorem join_meet {a b : Cp} (wa : a.Wf) (ha : a.ok = true) (hb : b.ok = true) : a.join (a.meet b) = a := by
  have hab := meet_ok ha hb
  exact le_antisymm (join_wf _ _) wa (by rw [join_le ha hab ha, le_refl, (meet_le ha hb).1]; rfl) (le_join ha hab).1
end Go.Proofs.Ytfgglegimajghaa
