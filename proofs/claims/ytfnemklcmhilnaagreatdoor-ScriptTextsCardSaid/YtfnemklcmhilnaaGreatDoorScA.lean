/- The small functions of a script: a word, a name, a digit; the cut at one byte. -/
import Derived.Test.YtfnemklcmhilnaaGreatDoorShelf
import Derived.Test.YtfnemklcmhilnaaGreatDoorRows
import Derived.WalkKit
import Derived.WalkSpells
import Derived.WalkLawsBesides
import Derived.Lib.Hide
import Derived.BigQuiet
import Derived.Deep.QuietTactic
import Derived.IntWalk
import Derived.Laws.Closers25b
namespace Go.Proofs.YtfnemklcmhilnaaGreatDoor
open Go.RowKit
open Go.Lib hiding intOf
theorem ret_int {k : IntKind} {a b : Int} (h : a = b) : Ending.returned (.int k a) = .returned (.int k b) := by rw [h]
theorem ret_bool {a b : Bool} (h : a = b) : Ending.returned (.bool a) = .returned (.bool b) := by rw [h]
theorem ret_str {a b : ByteArray} (h : a = b) : Ending.returned (.string a) = .returned (.string b) := by rw [h]
theorem ext_list {a b : ByteArray} (h : a.data.toList = b.data.toList) : a = b := by
  cases a; cases b; simp at h; subst h; rfl
theorem bcell {W w1 : World} (hb : Below W.heap.size W w1) : (∀ b o, b < W.heap.size → w1.cell? ⟨b, o, none⟩ = W.cell? ⟨b, o, none⟩) ∧ (∀ b o, b < W.heap.size → w1.frozen? ⟨b, o, none⟩ = W.frozen? ⟨b, o, none⟩) :=
  ⟨fun b o h => hb.cell (p := ⟨b, o, none⟩) h, fun b o h => hb.frozen (p := ⟨b, o, none⟩) h⟩

/-- before the first c -/
def cutB (c : UInt8) (l : List UInt8) : List UInt8 := l.takeWhile (· != c)
def cutA (c : UInt8) (l : List UInt8) : List UInt8 := (l.dropWhile (· != c)).drop 1
theorem indexByte_no : ∀ (l : List UInt8) (c : UInt8), c ∉ l → indexByte l c = -1 := by
  intro l c h
  rcases Int.lt_or_le (indexByte l c) 0 with h1 | h1
  · have := indexByte_ge l c; omega
  · obtain ⟨n, hn⟩ := Int.eq_ofNat_of_zero_le h1
    have := (indexByte_some (l := l) (c := c) (o := n) hn).1
    exact absurd (List.mem_of_getElem? this) h
theorem indexByte_yes : ∀ (l : List UInt8) (c : UInt8), c ∈ l → indexByte l c = (cutB c l).length ∧ l[(cutB c l).length]? = some c := by
  intro l c h
  have e : l[(cutB c l).length]? = some c ∧ ∀ k, k < (cutB c l).length → l[k]? ≠ some c := by
    induction l with
    | nil => cases h
    | cons x r ih =>
      by_cases hx : x = c
      · subst hx
        simp [cutB]
      · have hr : c ∈ r := by
          rcases List.mem_cons.1 h with h | h
          · exact absurd h.symm hx
          · exact h
        obtain ⟨i1, i2⟩ := ih hr
        have e : cutB c (x :: r) = x :: cutB c r := by simp [cutB, hx]
        rw [e]
        refine ⟨by simpa using i1, fun k hk => ?_⟩
        cases k with
        | zero => simpa using hx
        | succ k => simp at hk ⊢; exact i2 k hk
  refine ⟨?_, e.1⟩
  rcases Int.lt_or_le (indexByte l c) 0 with h1 | h1
  · have h2 : indexByte l c = -1 := by have := indexByte_ge l c; omega
    exact absurd e.1 (indexByte_none h2 _)
  · obtain ⟨n, hn⟩ := Int.eq_ofNat_of_zero_le h1
    obtain ⟨j1, j2⟩ := indexByte_some (l := l) (c := c) (o := n) hn
    rw [hn]
    have : n = (cutB c l).length := by
      rcases Nat.lt_trichotomy n (cutB c l).length with h | h | h
      · exact absurd j1 (e.2 n h)
      · exact h
      · exact absurd e.1 (j2 _ h)
    rw [this]
theorem cutB_take (c : UInt8) (l : List UInt8) : l.take (cutB c l).length = cutB c l := by
  induction l with
  | nil => rfl
  | cons x r ih =>
    by_cases hx : x = c
    · subst hx; simp [cutB]
    · have e : cutB c (x :: r) = x :: cutB c r := by simp [cutB, hx]
      rw [e]; simp [ih]
theorem cutB_none (c : UInt8) (l : List UInt8) (h : c ∉ l) : cutB c l = l := by
  induction l with
  | nil => rfl
  | cons x r ih =>
    simp only [List.mem_cons, not_or] at h
    have hx : x ≠ c := fun e => h.1 e.symm
    have e : cutB c (x :: r) = x :: cutB c r := by simp [cutB, hx]
    rw [e, ih h.2]
theorem cutA_drop (c : UInt8) (l : List UInt8) : l.drop ((cutB c l).length + 1) = cutA c l := by
  induction l with
  | nil => simp [cutB, cutA]
  | cons x r ih =>
    by_cases hx : x = c
    · subst hx; simp [cutB, cutA]
    · have e : cutB c (x :: r) = x :: cutB c r := by simp [cutB, hx]
      rw [e]; simp [cutA, hx] at ih ⊢; exact ih
theorem cutB_le (c : UInt8) (l : List UInt8) : (cutB c l).length ≤ l.length := (List.takeWhile_sublist _).length_le
theorem cutB_lt (c : UInt8) (l : List UInt8) (h : c ∈ l) : (cutB c l).length < l.length := by
  have := (indexByte_yes l c h).2
  exact (List.getElem?_eq_some_iff.1 this).1

set_option maxHeartbeats 1000000 in
theorem scut_yes (s : ByteArray) (c : UInt8) (w : World) (hs : s.size ≤ maxLen) (h : c ∈ s.data.toList) :
    Calls Tryz.prog 25 #[.string s, .string ⟨#[c]⟩] w fun e w' => e = .returned (.tuple #[.string ⟨(cutB c s.data.toList).toArray⟩, .string ⟨(cutA c s.data.toList).toArray⟩, .bool true]) ∧ ∃ n, w' = w.drewN n := by
  obtain ⟨h1, h2⟩ := indexByte_yes _ _ h
  have hlt : (cutB c s.data.toList).length < s.size := by have := cutB_lt _ _ h; simpa using this
  have e1 : s.extract 0 (cutB c s.data.toList).length = ⟨(cutB c s.data.toList).toArray⟩ := ext_list (by simp [ByteArray.data_extract]; exact cutB_take _ _)
  have e2 : s.extract ((cutB c s.data.toList).length + 1) s.size = ⟨(cutA c s.data.toList).toArray⟩ := ext_list (by
    rw [ByteArray.data_extract]; simp; rw [← cutA_drop, List.take_of_length_le (by simp)])
  unfold maxLen at hs
  generalize hn : (cutB c s.data.toList).length = n at *
  have H1 := Lib.hid h1
  have E1 := Lib.hid e1
  have E2 := Lib.hid e2
  clear h1 h2 e1 e2 h hn
  go_enter Tryz.func25, Tryz.ntmps25
  go_wp2_with (go_at_call 34; refine (Tryz.stringslite_Index_one _ _ _).mono ?_; rintro e w' ⟨rfl, rfl⟩; rw [H1.out])
  have b1 : IntKind.i64.wrap ((n : Int) + 1) = (n : Int) + 1 := IntWalk.i64_in _ (by omega)
  have b2 : ((n : Int) + 1).toNat = n + 1 := by omega
  have b3 : (0 : Int) ≤ (n : Int) + 1 := by omega
  have b4 : (n : Int) ≤ s.size := by omega
  have b5 : (n : Int) + 1 ≤ s.size := by omega
  go_quiet (fail)
  go_wp2
  go_ret3
  exact ⟨by rw [E1.out, E2.out]; rfl, nq, rfl⟩
set_option maxHeartbeats 1000000 in
theorem scut_no (s : ByteArray) (c : UInt8) (w : World) (h : c ∉ s.data.toList) :
    Calls Tryz.prog 25 #[.string s, .string ⟨#[c]⟩] w fun e w' => e = .returned (.tuple #[.string s, .string ⟨#[]⟩, .bool false]) ∧ ∃ n, w' = w.drewN n := by
  have H1 := Lib.hid (indexByte_no _ _ h)
  clear h
  go_enter Tryz.func25, Tryz.ntmps25
  go_wp2_with (go_at_call 34; refine (Tryz.stringslite_Index_one _ _ _).mono ?_; rintro e w' ⟨rfl, rfl⟩; rw [H1.out])
  go_ret3
  exact ⟨rfl, 0, rfl⟩
def cutF (c : UInt8) (l : List UInt8) : Bool := l.contains c
theorem scut_any (s : ByteArray) (c : UInt8) (w : World) (hs : s.size ≤ maxLen) :
    Calls Tryz.prog 25 #[.string s, .string ⟨#[c]⟩] w fun e w' => e = .returned (.tuple #[.string ⟨(cutB c s.data.toList).toArray⟩, .string ⟨(cutA c s.data.toList).toArray⟩, .bool (cutF c s.data.toList)]) ∧ ∃ n, w' = w.drewN n := by
  by_cases h : c ∈ s.data.toList
  · have e : cutF c s.data.toList = true := by simpa [cutF] using h
    rw [e]; exact scut_yes s c w hs h
  · have e : cutF c s.data.toList = false := by simpa [cutF] using h
    have e1 : s = ⟨(cutB c s.data.toList).toArray⟩ := ext_list (by rw [cutB_none _ _ h])
    have e2 : cutA c s.data.toList = [] := by
      rw [← cutA_drop, cutB_none _ _ h]; simp
    rw [e, e2, ← e1]; exact scut_no s c w h
set_option maxHeartbeats 1000000 in
theorem cut_any (s : ByteArray) (c : UInt8) (w : World) (hs : s.size ≤ maxLen) :
    Calls Tryz.prog 13 #[.string s, .string ⟨#[c]⟩] w fun e w' => e = .returned (.tuple #[.string ⟨(cutB c s.data.toList).toArray⟩, .string ⟨(cutA c s.data.toList).toArray⟩, .bool (cutF c s.data.toList)]) ∧ ∃ n, w' = w.drewN n := by
  have HS := Lib.hid hs
  clear hs
  go_enter Tryz.func13, Tryz.ntmps13
  go_wp2_with (go_at_call 25; refine (scut_any _ _ _ HS.out).mono ?_; rintro e w' ⟨rfl, n, rfl⟩)
  go_ret3
  exact ⟨rfl, _, rfl⟩
set_option maxHeartbeats 1000000 in
theorem word_any (s : ByteArray) (w : World) (hs : s.size ≤ maxLen) :
    Calls Tryz.prog 26 #[.string s] w fun e w' => e = .returned (.string ⟨(cutB 32 s.data.toList).toArray⟩) ∧ ∃ n, w' = w.drewN n := by
  have HS := Lib.hid hs
  clear hs
  go_enter Tryz.func26, Tryz.ntmps26
  go_wp2_with (go_at_call 13; refine (cut_any _ 32 _ HS.out).mono ?_; rintro e w' ⟨rfl, n, rfl⟩)
  go_ret
  exact ⟨rfl, _, rfl⟩

/-- may a byte stand at a place of a name? -/
def okc (i c : Nat) : Bool := decide ((97 ≤ c ∧ c ≤ 122) ∨ (65 ≤ c ∧ c ≤ 90) ∨ c = 95 ∨ (i ≠ 0 ∧ 48 ≤ c ∧ c ≤ 57))
def nameTo (l : List UInt8) (k : Nat) : Prop := ∀ i, i < k → okc i (l.getD i 0).toNat = true
def nameAll : Nat → List UInt8 → Bool
  | _, [] => true
  | i, c :: r => okc i c.toNat && nameAll (i + 1) r
def nameB (l : List UInt8) : Bool := nameAll 0 l && !l.isEmpty && decide (l.length ≤ 64)
theorem nameAll_iff : ∀ (l : List UInt8) (i : Nat), nameAll i l = true ↔ ∀ k, k < l.length → okc (i + k) (l.getD k 0).toNat = true
  | [], i => by simp [nameAll]
  | c :: r, i => by
    have ih := nameAll_iff r (i + 1)
    simp only [nameAll, Bool.and_eq_true, ih]
    constructor
    · rintro ⟨h1, h2⟩ k hk
      cases k with
      | zero => simpa using h1
      | succ k => have := h2 k (by simpa using hk); simpa [Nat.add_assoc, Nat.add_comm 1 k] using this
    · intro h
      refine ⟨by simpa using h 0 (by simp), fun k hk => ?_⟩
      have := h (k + 1) (by simpa using hk)
      simpa [Nat.add_assoc, Nat.add_comm 1 k] using this
theorem nameTo_all {l : List UInt8} (h : nameTo l l.length) : nameAll 0 l = true := (nameAll_iff l 0).2 (by simpa [nameTo] using h)
theorem nameTo_not {l : List UInt8} {k : Nat} (hk : k < l.length) (h : okc k (l.getD k 0).toNat = false) : nameB l = false := by
  have : nameAll 0 l = false := by
    cases e : nameAll 0 l
    · rfl
    · have := (nameAll_iff l 0).1 e k hk
      rw [Nat.zero_add, h] at this; cases this
  simp [nameB, this]
theorem nameTo_step {l : List UInt8} {k : Nat} (h : nameTo l k) (h2 : okc k (l.getD k 0).toNat = true) : nameTo l (k + 1) := by
  intro i hi
  by_cases e : i = k
  · subst e; exact h2
  · exact h i (by omega)
theorem getD_of (s : ByteArray) (k : Nat) (h : k < s.size) : s.data.toList.getD k 0 = s[k] := by
  rw [List.getD_eq_getElem?_getD, List.getElem?_eq_getElem (by simpa using h)]; rfl
theorem cls (x : Int) :
    (¬ 97 ≤ x ∧ ¬ 65 ≤ x ∧ (x != 95) = true ∧ ¬ 48 ≤ x ∧ True) ∨ (¬ 97 ≤ x ∧ ¬ 65 ≤ x ∧ (x != 95) = true ∧ 48 ≤ x ∧ x ≤ 57) ∨ (¬ 97 ≤ x ∧ ¬ 65 ≤ x ∧ (x != 95) = true ∧ 48 ≤ x ∧ ¬ x ≤ 57)
    ∨ (¬ 97 ≤ x ∧ 65 ≤ x ∧ x ≤ 90 ∧ True ∧ True) ∨ (¬ 97 ≤ x ∧ (65 ≤ x ∧ ¬ x ≤ 90) ∧ (x != 95) = true ∧ 48 ≤ x ∧ ¬ x ≤ 57) ∨ (¬ 97 ≤ x ∧ 65 ≤ x ∧ ¬ x ≤ 90 ∧ (x != 95) = false ∧ True)
    ∨ (97 ≤ x ∧ x ≤ 122 ∧ True ∧ True ∧ True) ∨ ((97 ≤ x ∧ ¬ x ≤ 122) ∧ (65 ≤ x ∧ ¬ x ≤ 90) ∧ (x != 95) = true ∧ 48 ≤ x ∧ ¬ x ≤ 57) := by
  simp only [and_true, bne_iff_ne, ne_eq, bne_eq_false_iff_eq]; omega
set_option maxHeartbeats 1000000 in
theorem name_any (s : ByteArray) (w : World) (hs : s.size ≤ maxLen) :
    Calls Tryz.prog 27 #[.string s] w fun e w' => e = .returned (.bool (nameB s.data.toList)) ∧ w = w' := by
  unfold maxLen at hs
  go_enter Tryz.func27, Tryz.ntmps27
  go_wp2
  go_loop [7] (fun i => ∃ k : Nat, k ≤ s.size ∧ i = .int .i64 k ∧ nameTo s.data.toList k) (fun i => s.size - (intOf i).toNat)
  case atStart => exact ⟨0, Nat.zero_le _, rfl, fun i hi => absurd hi (Nat.not_lt_zero i)⟩
  case round =>
    obtain ⟨k, hk, rfl, hn⟩ := hrel
    by_cases hlt : k < s.size
    · have hg := getD_of s k hlt
      have H := Lib.hid hn
      have hl : k < s.data.toList.length := by simpa using hlt
      have hno : okc k (s[k]).toNat = false → Hid (nameB s.data.toList = false) := fun hb => nameTo_not hl (by rw [hg]; exact hb)
      have hyes : okc k (s[k]).toNat = true → Hid (nameTo s.data.toList (k + 1)) := fun hb => nameTo_step hn (by rw [hg]; exact hb)
      clear hg hn
      have okx : okc k (s[k]).toNat = decide ((97 ≤ ((s[k]).toNat : Int) ∧ ((s[k]).toNat : Int) ≤ 122) ∨ (65 ≤ ((s[k]).toNat : Int) ∧ ((s[k]).toNat : Int) ≤ 90) ∨ ((s[k]).toNat : Int) = 95 ∨ (k ≠ 0 ∧ 48 ≤ ((s[k]).toNat : Int) ∧ ((s[k]).toNat : Int) ≤ 57)) := by
        unfold okc; congr 1; apply propext; omega
      have hz : ((k : Int) == 0) = true ∧ k = 0 ∨ ((k : Int) == 0) = false ∧ 0 < k := by
        rcases Nat.eq_zero_or_pos k with h | h
        · exact .inl ⟨by simp [h], h⟩
        · exact .inr ⟨by simp; omega, h⟩
      have fin : k + 1 ≤ s.size := hlt
      rcases cls ((s[k]).toNat : Int) with ⟨h1, h2, h3, h4, h5⟩ | ⟨h1, h2, h3, h4, h5⟩ | ⟨h1, h2, h3, h4, h5⟩ | ⟨h1, h2, h3, h4, h5⟩ | ⟨h1, ⟨h2, h6⟩, h3, h4, h5⟩ | ⟨h1, h2, h3, h4, h5⟩ | ⟨h1, h2, h3, h4, h5⟩ | ⟨⟨h1, h7⟩, ⟨h2, h6⟩, h3, h4, h5⟩
      case inr.inl =>
        rcases hz with ⟨hz, hz0⟩ | ⟨hz, hz0⟩
        · have HR := hno (by rw [okx]; exact decide_eq_false (by simp at h3; omega))
          clear hno hyes hz0 okx
          go_wp2
          go_ret
          exact ⟨ret_bool HR.out.symm, rfl⟩
        · have HR := hyes (by rw [okx]; exact decide_eq_true (by first | omega | (simp at h3; omega) | (simp at h4; omega)))
          clear hno hyes hz0 okx
          go_wp2
          go_round
          case rel => exact ⟨k + 1, by omega, by go_num, HR.out⟩
          case measure => simp [intOf]; omega
      case inl | inr.inr.inl | inr.inr.inr.inr.inl | inr.inr.inr.inr.inr.inr.inr =>
        have HR := hno (by rw [okx]; exact decide_eq_false (by simp at h3; omega))
        clear hno hyes okx
        rcases hz with ⟨hz, hz0⟩ | ⟨hz, hz0⟩
        all_goals
          clear hz0
          go_wp2
          go_ret
          exact ⟨ret_bool HR.out.symm, rfl⟩
      all_goals
        have HR := hyes (by rw [okx]; exact decide_eq_true (by first | omega | (simp at h3; omega) | (simp at h4; omega)))
        clear hno hyes hz okx
        go_wp2
        go_round
        case rel => exact ⟨k + 1, by omega, by go_num, HR.out⟩
        case measure => simp [intOf]; omega
    · obtain rfl : k = s.size := by omega
      have HR := Lib.hid (nameTo_all (l := s.data.toList) (by rw [show s.data.toList.length = s.size from by simp]; exact hn))
      clear hn
      by_cases h0 : s.size = 0
      · obtain rfl : s = ⟨#[]⟩ := by
          have : s.data.size = 0 := h0
          exact ext_list (by simp [Array.eq_empty_of_size_eq_zero this])
        go_wp2
        go_ret
        exact ⟨rfl, rfl⟩
      · have e1 : s.data.toList.isEmpty = false := by
          cases h : s.data.toList with
          | nil => exact absurd (by simpa using congrArg List.length h) h0
          | cons x r => rfl
        have e3 : ∀ b : Bool, decide ((s.size : Int) ≤ 64) = b → nameB s.data.toList = b := by
          rintro b rfl
          simp [nameB, HR.out, e1]
          omega
        have HE := Lib.hid e3
        clear e3
        have e2 : ¬ s.toList = [] := fun e => by
          have := (toList_nil_iff_emptyBytes s).1 e
          subst this
          exact h0 rfl
        have e4 : (!s.toList.isEmpty) = true := by
          cases h : s.toList with
          | nil => exact absurd h e2
          | cons x r => rfl
        go_wp2
        go_ret
        exact ⟨ret_bool (HE.out _ rfl).symm, rfl⟩
set_option maxHeartbeats 1000000 in
theorem digit_any (c : Int) (w : World) :
    Calls Tryz.prog 35 #[.int .u8 c] w fun e w' => e = .returned (.int .i64 (indexByte [48, 49, 50, 51, 52, 53, 54, 55, 56, 57, 97, 98, 99, 100, 101, 102] c.toNat.toUInt8)) ∧ w = w' := by
  go_enter Tryz.func35, Tryz.ntmps35
  go_wp2_with (go_at_call 41; refine (Tryz.strings_IndexByte _ _ _).mono ?_; rintro e w' ⟨rfl, rfl⟩)
  go_ret
  exact ⟨rfl, rfl⟩
end Go.Proofs.YtfnemklcmhilnaaGreatDoor
