/- path.Parse at texts whose steps are names: letter, key, read, elements, Parse. -/
import Derived.Test.YtfnemklcmhilnaaGreatDoorScD
namespace Go.Proofs.YtfnemklcmhilnaaGreatDoor
open Go.RowKit
open Go.Lib hiding intOf
def letB (x : Int) (f : Bool) : Bool := decide ((97 ≤ x ∧ x ≤ 122) ∨ (65 ≤ x ∧ x ≤ 90) ∨ x = 95 ∨ (f = false ∧ 48 ≤ x ∧ x ≤ 57))
theorem cls2 (x : Int) :
    (¬ 97 ≤ x ∧ ¬ 65 ≤ x ∧ (x == 95) = false ∧ ¬ 48 ≤ x ∧ True) ∨ (¬ 97 ≤ x ∧ ¬ 65 ≤ x ∧ (x == 95) = false ∧ 48 ≤ x ∧ x ≤ 57) ∨ (¬ 97 ≤ x ∧ ¬ 65 ≤ x ∧ (x == 95) = false ∧ 48 ≤ x ∧ ¬ x ≤ 57)
    ∨ (¬ 97 ≤ x ∧ 65 ≤ x ∧ x ≤ 90 ∧ True ∧ True) ∨ (¬ 97 ≤ x ∧ (65 ≤ x ∧ ¬ x ≤ 90) ∧ (x == 95) = false ∧ 48 ≤ x ∧ ¬ x ≤ 57) ∨ (¬ 97 ≤ x ∧ 65 ≤ x ∧ ¬ x ≤ 90 ∧ (x == 95) = true ∧ True)
    ∨ (97 ≤ x ∧ x ≤ 122 ∧ True ∧ True ∧ True) ∨ ((97 ≤ x ∧ ¬ x ≤ 122) ∧ (65 ≤ x ∧ ¬ x ≤ 90) ∧ (x == 95) = false ∧ 48 ≤ x ∧ ¬ x ≤ 57) := by
  simp only [and_true, beq_iff_eq, beq_eq_false_iff_ne, ne_eq]; omega
theorem let_cases (x : Int) (f : Bool) : ∃ b, Hid (letB x f = b) ∧ (
    (b = false ∧ ¬ 97 ≤ x ∧ ¬ 65 ≤ x ∧ (x == 95) = false ∧ ¬ 48 ≤ x) ∨ (b = !f ∧ ¬ 97 ≤ x ∧ ¬ 65 ≤ x ∧ (x == 95) = false ∧ 48 ≤ x ∧ x ≤ 57) ∨ (b = false ∧ ¬ 97 ≤ x ∧ ¬ 65 ≤ x ∧ (x == 95) = false ∧ 48 ≤ x ∧ ¬ x ≤ 57)
    ∨ (b = true ∧ ¬ 97 ≤ x ∧ 65 ≤ x ∧ x ≤ 90) ∨ (b = false ∧ ¬ 97 ≤ x ∧ 65 ≤ x ∧ ¬ x ≤ 90 ∧ (x == 95) = false ∧ 48 ≤ x ∧ ¬ x ≤ 57) ∨ (b = true ∧ ¬ 97 ≤ x ∧ 65 ≤ x ∧ ¬ x ≤ 90 ∧ (x == 95) = true)
    ∨ (b = true ∧ 97 ≤ x ∧ x ≤ 122) ∨ (b = false ∧ 97 ≤ x ∧ ¬ x ≤ 122 ∧ 65 ≤ x ∧ ¬ x ≤ 90 ∧ (x == 95) = false ∧ 48 ≤ x ∧ ¬ x ≤ 57)) := by
  have T : ∀ P : Prop, [Decidable P] → P → decide P = true := fun P _ h => decide_eq_true h
  have F : ∀ P : Prop, [Decidable P] → ¬ P → decide P = false := fun P _ h => decide_eq_false h
  rcases cls2 x with ⟨h1, h2, h3, h4, h5⟩ | ⟨h1, h2, h3, h4, h5⟩ | ⟨h1, h2, h3, h4, h5⟩ | ⟨h1, h2, h3, h4, h5⟩ | ⟨h1, ⟨h2, h6⟩, h3, h4, h5⟩ | ⟨h1, h2, h3, h4, h5⟩ | ⟨h1, h2, h3, h4, h5⟩ | ⟨⟨h1, h7⟩, ⟨h2, h6⟩, h3, h4, h5⟩
  · exact ⟨false, F _ (by simp at h3; omega), .inl ⟨rfl, h1, h2, h3, h4⟩⟩
  · cases f
    · exact ⟨true, T _ (.inr (.inr (.inr ⟨rfl, h4, h5⟩))), .inr (.inl ⟨rfl, h1, h2, h3, h4, h5⟩)⟩
    · exact ⟨false, F _ (by simp at h3; simp; omega), .inr (.inl ⟨rfl, h1, h2, h3, h4, h5⟩)⟩
  · exact ⟨false, F _ (by simp at h3; omega), .inr (.inr (.inl ⟨rfl, h1, h2, h3, h4, h5⟩))⟩
  · exact ⟨true, T _ (by omega), .inr (.inr (.inr (.inl ⟨rfl, h1, h2, h3⟩)))⟩
  · exact ⟨false, F _ (by simp at h3; omega), .inr (.inr (.inr (.inr (.inl ⟨rfl, h1, h2, h6, h3, h4, h5⟩))))⟩
  · exact ⟨true, T _ (by simp at h4; omega), .inr (.inr (.inr (.inr (.inr (.inl ⟨rfl, h1, h2, h3, h4⟩)))))⟩
  · exact ⟨true, T _ (by omega), .inr (.inr (.inr (.inr (.inr (.inr (.inl ⟨rfl, h1, h2⟩))))))⟩
  · exact ⟨false, F _ (by simp at h3; omega), .inr (.inr (.inr (.inr (.inr (.inr (.inr ⟨rfl, h1, h7, h2, h6, h3, h4, h5⟩))))))⟩
set_option maxHeartbeats 1000000 in
theorem letter_any (x : Int) (f : Bool) (w : World) :
    Calls Tryz.prog 50 #[.int .u8 x, .bool f] w fun e w' => e = .returned (.bool (letB x f)) ∧ w = w' := by
  obtain ⟨b, HB, hc⟩ := let_cases x f
  cases f
  all_goals
    rcases hc with ⟨rfl, h⟩ | ⟨rfl, h⟩ | ⟨rfl, h⟩ | ⟨rfl, h⟩ | ⟨rfl, h⟩ | ⟨rfl, h⟩ | ⟨rfl, h⟩ | ⟨rfl, h⟩
    all_goals
      obtain ⟨h1, h2⟩ := h
      go_enter Tryz.func50, Tryz.ntmps50
      go_wp2
      go_ret
      exact ⟨ret_bool HB.out.symm, rfl⟩
/-- how many bytes of a name stand at the beginning -/
def runL : Bool → List UInt8 → Nat
  | _, [] => 0
  | f, c :: t => if letB c.toNat f then runL false t + 1 else 0
theorem runL_le : ∀ (l : List UInt8) (f : Bool), runL f l ≤ l.length
  | [], _ => Nat.le_refl _
  | c :: t, f => by
    unfold runL
    have := runL_le t false
    split <;> simp <;> omega
def RunRel (r : List UInt8) (i : Nat) : Prop := i ≤ r.length ∧ runL true r = i + runL (i == 0) (r.drop i)
theorem run_start (r : List UInt8) : RunRel r 0 := ⟨Nat.zero_le _, by simp⟩
theorem run_step {r : List UInt8} {i : Nat} (h : RunRel r i) (hi : i < r.length) (hb : letB (r[i].toNat) (i == 0) = true) : RunRel r (i + 1) := by
  refine ⟨hi, ?_⟩
  rw [h.2, drop_cons hi, runL, if_pos hb]
  have : (i + 1 == 0) = false := by simp
  rw [this]
  omega
theorem run_stop {r : List UInt8} {i : Nat} (h : RunRel r i) (hi : i < r.length) (hb : letB (r[i].toNat) (i == 0) = false) : runL true r = i := by
  rw [h.2, drop_cons hi]
  unfold runL
  rw [hb]; simp
theorem run_end {r : List UInt8} {i : Nat} (h : RunRel r i) (hi : ¬ i < r.length) : runL true r = i := by
  rw [h.2, List.drop_eq_nil_of_le (by omega)]
  rfl
theorem key_fin {s : ByteArray} {r : List UInt8} {i : Nat} (hs : s.data.toList = 46 :: r) (hi : runL true r = i) :
    Ending.returned (.tuple #[.string (⟨#[34]⟩ ++ s.extract 1 (i + 1) ++ ⟨#[34]⟩), .string (s.extract (i + 1) (r.length + 1)), .bool (decide (1 < (i : Int) + 1))]) = .returned (.tuple #[.string ⟨(34 :: (r.take (runL true r)) ++ [34]).toArray⟩, .string ⟨(r.drop (runL true r)).toArray⟩, .bool (decide (0 < runL true r))]) := by
  have hsz : s.size = r.length + 1 := by
    have := congrArg List.length hs
    simpa using this
  have e1 : (⟨#[34]⟩ ++ s.extract 1 (i + 1) ++ ⟨#[34]⟩ : ByteArray) = ⟨(34 :: (r.take (runL true r)) ++ [34]).toArray⟩ := ext_list (by simp [ByteArray.data_extract, ByteArray.data_append, hs, hi])
  have e2 : s.extract (i + 1) (r.length + 1) = ⟨(r.drop (runL true r)).toArray⟩ := ext_list (by
    simp [ByteArray.data_extract, hs, hi]
    exact List.take_of_length_le (by simp))
  have e3 : decide (1 < (i : Int) + 1) = decide (0 < runL true r) := by rw [hi]; congr 1; apply propext; omega
  rw [e1, e2, e3]
set_option maxHeartbeats 2000000 in
theorem key_dot (s : ByteArray) (r : List UInt8) (w : World) (hs : s.data.toList = 46 :: r) (hl : s.size ≤ 100000000) :
    Calls Tryz.prog 47 #[.string s] w fun e w' => e = .returned (.tuple #[.string ⟨(34 :: r.take (runL true r) ++ [34]).toArray⟩, .string ⟨(r.drop (runL true r)).toArray⟩, .bool (decide (0 < runL true r))]) ∧ Below w.heap.size w w' := by
  have hsz : s.size = r.length + 1 := by
    have := congrArg List.length hs
    simpa using this
  have h0 : s[0]'(by omega) = 46 := by
    have : s.data.toList.getD 0 0 = s[0]'(by omega) := getD_of s 0 (by omega)
    rw [← this, hs]; rfl
  have hat : ∀ i, (h : i < r.length) → s[i + 1]'(by omega) = r[i] := fun i h => by
    have : s.data.toList.getD (i + 1) 0 = s[i + 1]'(by omega) := getD_of s (i + 1) (by omega)
    rw [← this, hs]
    simp [List.getD_eq_getElem?_getD, List.getElem?_eq_getElem h]
  have e0 : ((s[0]'(by omega)).toNat : Int) = 46 := by rw [h0]; rfl
  have HS := Lib.hid hs
  have HSZ := Lib.hid hsz
  have HAT := Lib.hid hat
  have hpos : 0 < s.size := by omega
  clear hs hat h0
  go_enter Tryz.func47, Tryz.ntmps47
  have hrl : (r.length : Int) + 1 ≤ 100000000 := by omega
  go_wp2
  clear e0
  go_loop [5] (fun n => ∃ i : Nat, n = .int .i64 ((i : Int) + 1) ∧ RunRel r i) (fun n => s.size - (intOf n).toNat)
  case atStart => exact ⟨0, rfl, run_start r⟩
  case round =>
    obtain ⟨i, rfl, hr⟩ := hrel
    have hil := hr.1
    by_cases hlt : i < r.length
    · have hls : (i : Int) + 1 < s.size := by have := HSZ.out; omega
      have hle : (0 : Int) ≤ (i : Int) + 1 := by omega
      have htn : ((i : Int) + 1).toNat = i + 1 := by omega
      have hln : i + 1 < s.size := by have := HSZ.out; omega
      have hgt := HAT.out i hlt
      obtain ⟨f, hf⟩ : ∃ f, (i == 0) = f := ⟨_, rfl⟩
      have e1 : ((i : Int) + 1 == 1) = f := by
        rw [← hf]
        by_cases h : i = 0
        · subst h; rfl
        · have h1 : (i == 0) = false := by simpa using h
          have h2 : ((i : Int) + 1 == 1) = false := by simp; omega
          rw [h1, h2]
      have e3 : ((i : Int) == 0) = f := by
        rw [← e1]
        by_cases h : i = 0
        · subst h; rfl
        · have h1 : ((i : Int) == 0) = false := by simp; omega
          have h2 : ((i : Int) + 1 == 1) = false := by simp; omega
          rw [h1, h2]
      have hnext := run_step hr hlt
      have hstop := run_stop hr hlt
      rw [← hgt, hf] at hnext hstop
      cases hb : letB (s[i + 1].toNat) f
      · have HR := Lib.hid (hstop hb)
        clear hnext hstop hgt hf
        go_wp2_with (go_at_call 50; refine (letter_any _ _ _).mono ?_; rintro e w1 ⟨rfl, rfl⟩)
        have hb1 : (1 : Int) ≤ (i : Int) + 1 := by omega
        have hb2 : (i : Int) + 1 ≤ s.size := by omega
        go_quiet (fail)
        go_wp2
        go_ret3
        exact ⟨key_fin HS.out HR.out, below_drewN _ _ _⟩
      · have HR := Lib.hid (hnext hb)
        clear hnext hstop hgt hf
        go_wp2_with (go_at_call 50; refine (letter_any _ _ _).mono ?_; rintro e w1 ⟨rfl, rfl⟩)
        go_round
        case rel => exact ⟨i + 1, by go_num, HR.out⟩
        case measure => simp [intOf]; omega
    · have hls : ¬ (i : Int) + 1 < s.size := by have := HSZ.out; omega
      have HR := Lib.hid (run_end hr hlt)
      have hb1 : (1 : Int) ≤ (i : Int) + 1 := by omega
      have hb2 : (i : Int) + 1 ≤ s.size := by have := HSZ.out; omega
      have hb3 : (0 : Int) ≤ (i : Int) + 1 := by omega
      have htn : ((i : Int) + 1).toNat = i + 1 := by omega
      go_wp2
      go_quiet (fail)
      go_wp2
      go_ret3
      exact ⟨key_fin HS.out HR.out, below_drewN _ _ _⟩
/-- where the brace that the first byte opens is closed, or -1 -/
def closF : List UInt8 → Int → Bool → Nat → Int
  | [], _, _, _ => -1
  | c :: r, d, q, i =>
    if q = true ∧ c = 92 then (match r with | [] => -1 | _ :: r' => closF r' d q (i + 2))
    else if c = 34 then closF r d (!q) (i + 1)
    else if q = true then closF r d q (i + 1)
    else if c = 123 then closF r (d + 1) q (i + 1)
    else if c = 125 then (if d - 1 = 0 then (i : Int) else closF r (d - 1) q (i + 1))
    else closF r d q (i + 1)
theorem cls5 (x : Int) : ((x == 92) = true ∧ (x == 34) = false ∧ (x == 123) = false ∧ (x == 125) = false) ∨ ((x == 92) = false ∧ (x == 34) = true ∧ (x == 123) = false ∧ (x == 125) = false) ∨ ((x == 92) = false ∧ (x == 34) = false ∧ (x == 123) = true ∧ (x == 125) = false)
    ∨ ((x == 92) = false ∧ (x == 34) = false ∧ (x == 123) = false ∧ (x == 125) = true) ∨ ((x == 92) = false ∧ (x == 34) = false ∧ (x == 123) = false ∧ (x == 125) = false) := by
  simp only [beq_iff_eq, beq_eq_false_iff_ne, ne_eq]; omega
theorem byte_int (c : UInt8) (n : Nat) (hn : n < 256) : (((c.toNat : Int) == (n : Int)) = true ↔ c = UInt8.ofNat n) := by
  rw [beq_iff_eq]
  constructor
  · intro h
    apply UInt8.toNat_inj.1
    rw [UInt8.toNat_ofNat']
    omega
  · rintro rfl
    rw [UInt8.toNat_ofNat']
    omega
theorem clos_stop (d : Int) (q : Bool) (i : Nat) (l : List UInt8) (h : l.length ≤ i) : closF (l.drop i) d q i = -1 := by
  rw [List.drop_eq_nil_of_le h]; rfl
theorem clos_step {l : List UInt8} {i : Nat} (h : i < l.length) (d : Int) (q : Bool) : closF (l.drop i) d q i =
    if q = true ∧ l[i] = 92 then closF (l.drop (i + 2)) d q (i + 2)
    else if l[i] = 34 then closF (l.drop (i + 1)) d (!q) (i + 1)
    else if q = true then closF (l.drop (i + 1)) d q (i + 1)
    else if l[i] = 123 then closF (l.drop (i + 1)) (d + 1) q (i + 1)
    else if l[i] = 125 then (if d - 1 = 0 then (i : Int) else closF (l.drop (i + 1)) (d - 1) q (i + 1))
    else closF (l.drop (i + 1)) d q (i + 1) := by
  rw [drop_cons h]
  conv => lhs; unfold closF
  have e : l.drop (i + 2) = (l.drop (i + 1)).drop 1 := by rw [List.drop_drop]
  rw [e]
  cases l.drop (i + 1) <;> rfl
set_option maxHeartbeats 2000000 in
theorem closing_any (s : ByteArray) (w : World) (hs : s.size ≤ 100000000) :
    Calls Tryz.prog 51 #[.string s] w fun e w' => e = .returned (.int .i64 (closF s.data.toList 0 false 0)) ∧ w = w' := by
  have HL : Hid (s.data.toList.length = s.size) := by show s.data.toList.length = s.size; simp
  go_enter Tryz.func51, Tryz.ntmps51
  go_wp2
  go_loop [3, 4, 5] (fun dv qv iv => ∃ (i : Nat) (d : Int) (q : Bool), dv = .int .i64 d ∧ qv = .bool q ∧ iv = .int .i64 i ∧ i ≤ s.size + 1 ∧ -(i : Int) ≤ d ∧ d ≤ i ∧ closF s.data.toList 0 false 0 = closF (s.data.toList.drop i) d q i) (fun _ _ iv => s.size + 1 - (intOf iv).toNat)
  case atStart => exact ⟨0, 0, false, rfl, rfl, rfl, by omega, by omega, by omega, by rw [List.drop_zero]⟩
  case round =>
    obtain ⟨i, d, q, rfl, rfl, rfl, hi, hd1, hd2, heq⟩ := hrel
    by_cases hlt : i < s.size
    · have hl := HL.out
      have hst := clos_step (l := s.data.toList) (i := i) (by omega) d q
      have hg : s.data.toList[i]'(by omega) = s[i] := rfl
      rw [hg] at hst
      have b92 : ((s[i].toNat : Int) == 92) = true ↔ s[i] = 92 := byte_int s[i] 92 (by decide)
      have b34 : ((s[i].toNat : Int) == 34) = true ↔ s[i] = 34 := byte_int s[i] 34 (by decide)
      have b123 : ((s[i].toNat : Int) == 123) = true ↔ s[i] = 123 := byte_int s[i] 123 (by decide)
      have b125 : ((s[i].toNat : Int) == 125) = true ↔ s[i] = 125 := byte_int s[i] 125 (by decide)
      have n92 : (((s[i].toNat : Int) == 92) = false) → ¬ s[i] = 92 := fun h e => by rw [b92.2 e] at h; cases h
      have n34 : (((s[i].toNat : Int) == 34) = false) → ¬ s[i] = 34 := fun h e => by rw [b34.2 e] at h; cases h
      have n123 : (((s[i].toNat : Int) == 123) = false) → ¬ s[i] = 123 := fun h e => by rw [b123.2 e] at h; cases h
      have n125 : (((s[i].toNat : Int) == 125) = false) → ¬ s[i] = 125 := fun h e => by rw [b125.2 e] at h; cases h
      have hH : ∀ x, closF (s.data.toList.drop i) d q i = x → Hid (closF s.data.toList 0 false 0 = x) := fun x h => heq.trans h
      rw [hst] at hH
      have hls : (i : Int) < s.size := by omega
      have hcl : ∀ j : Nat, j = i + 1 ∨ j = i + 2 → j ≤ s.size + 1 := by omega
      clear heq hst hg hl
      rcases cls5 (s[i].toNat : Int) with ⟨h1, h2, h3, h4⟩ | ⟨h1, h2, h3, h4⟩ | ⟨h1, h2, h3, h4⟩ | ⟨h1, h2, h3, h4⟩ | ⟨h1, h2, h3, h4⟩
      · cases q
        · have HR := hH _ (by rw [if_neg (by simp), if_neg (n34 h2), if_neg (by simp), if_neg (n123 h3), if_neg (n125 h4)])
          clear hH b92 b34 b123 b125 n92 n34 n123 n125
          go_wp2
          go_round
          case rel => exact ⟨i + 1, d, false, rfl, rfl, by go_num, by omega, by omega, by omega, HR.out⟩
          case measure => simp [intOf]; omega
        · have HR := hH _ (by rw [if_pos ⟨rfl, b92.1 h1⟩])
          clear hH b92 b34 b123 b125 n92 n34 n123 n125
          go_wp2
          go_round
          case rel => exact ⟨i + 2, d, true, rfl, rfl, congrArg _ (by omega), by omega, by omega, by omega, HR.out⟩
          case measure => simp [intOf]; omega
      · have HR := hH _ (by rw [if_neg (fun h => n92 h1 h.2), if_pos (b34.1 h2)])
        clear hH b92 b34 b123 b125 n92 n34 n123 n125
        cases q
        · go_wp2
          go_round
          case rel => exact ⟨i + 1, d, true, rfl, rfl, by go_num, by omega, by omega, by omega, HR.out⟩
          case measure => simp [intOf]; omega
        · go_wp2
          go_round
          case rel => exact ⟨i + 1, d, false, rfl, rfl, by go_num, by omega, by omega, by omega, HR.out⟩
          case measure => simp [intOf]; omega
      · cases q
        · have HR := hH _ (by rw [if_neg (by simp), if_neg (n34 h2), if_neg (by simp), if_pos (b123.1 h3)])
          clear hH b92 b34 b123 b125 n92 n34 n123 n125
          go_wp2
          go_round
          case rel => exact ⟨i + 1, d + 1, false, rfl, rfl, by go_num, by omega, by omega, by omega, HR.out⟩
          case measure => simp [intOf]; omega
        · have HR := hH _ (by rw [if_neg (fun h => n92 h1 h.2), if_neg (n34 h2), if_pos rfl])
          clear hH b92 b34 b123 b125 n92 n34 n123 n125
          go_wp2
          go_round
          case rel => exact ⟨i + 1, d, true, rfl, rfl, by go_num, by omega, by omega, by omega, HR.out⟩
          case measure => simp [intOf]; omega
      · cases q
        · by_cases hd : d - 1 = 0
          · have HR := hH _ (by rw [if_neg (by simp), if_neg (n34 h2), if_neg (by simp), if_neg (n123 h3), if_pos (b125.1 h4), if_pos hd])
            have hd3 : ((d - 1 : Int) == 0) = true := by simpa using hd
            have hd4 : (d == 1) = true := by simp; omega
            clear hH b92 b34 b123 b125 n92 n34 n123 n125 hd
            go_wp2
            go_ret
            exact ⟨ret_int HR.out.symm, rfl⟩
          · have HR := hH _ (by rw [if_neg (by simp), if_neg (n34 h2), if_neg (by simp), if_neg (n123 h3), if_pos (b125.1 h4), if_neg hd])
            have hd3 : ((d - 1 : Int) == 0) = false := by simpa using hd
            have hd4 : (d == 1) = false := by simp; omega
            clear hH b92 b34 b123 b125 n92 n34 n123 n125 hd
            go_wp2
            go_round
            case rel => exact ⟨i + 1, d - 1, false, rfl, rfl, by go_num, by omega, by omega, by omega, HR.out⟩
            case measure => simp [intOf]; omega
        · have HR := hH _ (by rw [if_neg (fun h => n92 h1 h.2), if_neg (n34 h2), if_pos rfl])
          clear hH b92 b34 b123 b125 n92 n34 n123 n125
          go_wp2
          go_round
          case rel => exact ⟨i + 1, d, true, rfl, rfl, by go_num, by omega, by omega, by omega, HR.out⟩
          case measure => simp [intOf]; omega
      · cases q
        · have HR := hH _ (by rw [if_neg (by simp), if_neg (n34 h2), if_neg (by simp), if_neg (n123 h3), if_neg (n125 h4)])
          clear hH b92 b34 b123 b125 n92 n34 n123 n125
          go_wp2
          go_round
          case rel => exact ⟨i + 1, d, false, rfl, rfl, by go_num, by omega, by omega, by omega, HR.out⟩
          case measure => simp [intOf]; omega
        · have HR := hH _ (by rw [if_neg (fun h => n92 h1 h.2), if_neg (n34 h2), if_pos rfl])
          clear hH b92 b34 b123 b125 n92 n34 n123 n125
          go_wp2
          go_round
          case rel => exact ⟨i + 1, d, true, rfl, rfl, by go_num, by omega, by omega, by omega, HR.out⟩
          case measure => simp [intOf]; omega
    · have hls : ¬ (i : Int) < s.size := by omega
      have HR : Hid (closF s.data.toList 0 false 0 = -1) := by
        show _ = _
        rw [heq, clos_stop _ _ _ _ (by rw [HL.out]; omega)]
      clear heq
      go_wp2
      go_ret
      exact ⟨ret_int HR.out.symm, rfl⟩
end Go.Proofs.YtfnemklcmhilnaaGreatDoor
