/- The plain laws: a printed load command is read back; the scripts of the chapter's examples. -/
import Derived.Test.YtfnemklcmhilnaaGreatDoorScS
namespace Go.Proofs.YtfnemklcmhilnaaGreatDoor
open Go.RowKit
open Go.Lib hiding intOf
def ppA (t : List UInt8) : Bool := t == [46, 120]
def loadL (t : List UInt8) : List UInt8 := 108 :: 111 :: 97 :: 100 :: 32 :: 120 :: 32 :: 99 :: 98 :: 111 :: 114 :: 32 :: 34 :: (qb t ++ [34])
theorem loadL_len (t : List UInt8) : (loadL t).length = (qb t).length + 14 := by simp [loadL]
theorem cutB_app (c : UInt8) : ∀ (l r : List UInt8), c ∉ l → cutB c (l ++ c :: r) = l
  | [], r, _ => by simp [cutB]
  | x :: l, r, h => by
    simp only [List.mem_cons, not_or] at h
    have ih := cutB_app c l r h.2
    have hx : (x != c) = true := by simpa using fun e => h.1 (Eq.symm e)
    show List.takeWhile (· != c) (x :: (l ++ c :: r)) = x :: l
    rw [List.takeWhile_cons]
    simp only [hx, ↓reduceIte]
    exact congrArg _ ih
theorem loadL_ctl (t : List UInt8) : ∀ b ∈ loadL t, 32 ≤ b.toNat ∧ b.toNat ≠ 127 := by
  intro b hb
  unfold loadL at hb
  have hq := qb_ctl t b
  simp only [List.mem_cons, List.mem_append, List.not_mem_nil, or_false] at hb
  rcases hb with rfl | rfl | rfl | rfl | rfl | rfl | rfl | rfl | rfl | rfl | rfl | rfl | rfl | h | rfl
  all_goals first | exact hq h | decide
theorem load_cut (t : List UInt8) : cutB 10 (loadL t ++ [10]) = loadL t := cutB_app 10 _ [] (fun h => by have := (loadL_ctl t 10 h).1; exact absurd this (by decide))
theorem load_form (t : List UInt8) : formIdx (cutB 32 (loadL t)) = some 0 := rfl
theorem load_word (t : List UInt8) : (cutB 32 (loadL t)).length = 4 := rfl
theorem uqR_qb (t : List UInt8) : uqR (34 :: (qb t ++ [34])) = some (t, []) := by
  unfold uqR
  rw [if_pos (show (34 :: (qb t ++ [34])).head? = some 34 from rfl)]
  exact uq_qb t []
theorem load_line (pp : List UInt8 → Bool) (t : List UInt8) : lineL pp (loadL t) [.n, .f, .t] 4 ⟨[], [], ⟨#[]⟩⟩ = (some ⟨[⟨#[120]⟩], [6], ⟨t.toArray⟩⟩, -1) := by
  have hlen := loadL_len t
  rw [lineL_cons, if_neg (by omega), if_neg (by simp [loadL]), if_neg (by omega)]
  have k1 : rdOk pp .n ((loadL t).drop (4 + 1)) = true := rfl
  rw [if_pos k1]
  have k2 : (rdN pp .n ((loadL t).drop (4 + 1))).toNat = 1 := rfl
  rw [k2]
  have k3 : rdC pp .n ((loadL t).drop (4 + 1)) ⟨[], [], ⟨#[]⟩⟩ = ⟨[⟨#[120]⟩], [], ⟨#[]⟩⟩ := rfl
  rw [k3]
  rw [lineL_cons, if_neg (by omega), if_neg (by simp [loadL]), if_neg (by omega)]
  have k4 : rdOk pp .f ((loadL t).drop (4 + 1 + 1 + 1)) = true := rfl
  rw [if_pos k4]
  have k5 : (rdN pp .f ((loadL t).drop (4 + 1 + 1 + 1))).toNat = 4 := rfl
  rw [k5]
  have k6 : rdC pp .f ((loadL t).drop (4 + 1 + 1 + 1)) ⟨[⟨#[120]⟩], [], ⟨#[]⟩⟩ = ⟨[⟨#[120]⟩], [6], ⟨#[]⟩⟩ := rfl
  rw [k6]
  rw [lineL_cons, if_neg (by omega), if_neg (by simp [loadL]), if_neg (by omega)]
  have hd : (loadL t).drop (4 + 1 + 1 + 1 + 4 + 1) = 34 :: (qb t ++ [34]) := rfl
  rw [hd]
  have hu := uqR_qb t
  have k7 : rdOk pp .t (34 :: (qb t ++ [34])) = true := by simp only [rdOk, uqOk, hu]; rfl
  rw [if_pos k7]
  have k8 : (rdN pp .t (34 :: (qb t ++ [34]))).toNat = (qb t).length + 2 := by
    simp only [rdN, uqN, hu, List.length_cons, List.length_append, List.length_nil]
    omega
  rw [k8]
  have k9 : rdC pp .t (34 :: (qb t ++ [34])) ⟨[⟨#[120]⟩], [6], ⟨#[]⟩⟩ = ⟨[⟨#[120]⟩], [6], ⟨t.toArray⟩⟩ := by
    simp only [rdC, uqT, hu]
  rw [k9]
  unfold lineL
  rw [if_neg (by omega)]
theorem chk_load (t : List UInt8) : chk (loadL t ++ [10]) = true := by
  have e : loadL t ++ [10] = 108 :: 111 :: 97 :: 100 :: 32 :: 120 :: 32 :: 99 :: 98 :: 111 :: 114 :: 32 :: 34 :: (qb t ++ [34, 10]) := by simp [loadL]
  rw [e]
  repeat rw [chk_low (by decide)]
  rw [chk_qb, chk_low (by decide), chk_low (by decide)]
  unfold chk; rfl
theorem parse_load (pp : List UInt8 → Bool) (t : List UInt8) (h : (qb t).length ≤ 65000) : parseF pp (loadL t ++ [10]) = (some [(1, ⟨[⟨#[120]⟩], [6], ⟨t.toArray⟩⟩)], 0, 0) := by
  have hlen := loadL_len t
  have hl2 : (loadL t ++ [10]).length = (loadL t).length + 1 := by simp
  unfold parseF
  rw [if_neg (by omega), cp_chk _ (chk_load t), hl2]
  have hlf : lineF pp (cutB 10 (loadL t ++ [10])) = (some (1, ⟨[⟨#[120]⟩], [6], ⟨t.toArray⟩⟩), -1) := by
    rw [load_cut]
    unfold lineF
    rw [load_form]
    simp only [load_word]
    show (Option.map _ (lineL pp (loadL t) [.n, .f, .t] 4 ⟨[], [], ⟨#[]⟩⟩).1, (lineL pp (loadL t) [.n, .f, .t] 4 ⟨[], [], ⟨#[]⟩⟩).2) = _
    rw [load_line]
    rfl
  have hc : isCmd (cutB 10 (loadL t ++ [10])) = true := by rw [load_cut]; rfl
  rw [parseL_good rfl hc (by simp) hlf, load_cut]
  rw [List.drop_eq_nil_of_le (by omega), parseL_nil]
  rfl
theorem load_ok (pp : List UInt8 → Bool) (t : List UInt8) (n : Nat) (hn : n = (loadL t ++ [10]).length) : parseOk pp n (loadL t ++ [10]) := by
  have hl2 : (loadL t ++ [10]).length = (loadL t).length + 1 := by simp
  rw [hl2] at hn
  subst hn
  unfold parseOk
  intro _
  rw [load_cut]
  refine ⟨fun _ => ?_, ?_⟩
  · unfold lineFok
    rw [load_form]
    simp only [load_word]
    refine ⟨by decide, ?_⟩
    show lineOk pp (loadL t) [.n, .f, .t] 4
    refine fun _ _ _ => ⟨(fun h => by cases h), fun _ => ?_⟩
    refine fun _ _ _ => ⟨(fun h => by cases h), fun _ => ?_⟩
    exact fun _ _ _ => ⟨(fun h => by cases h), fun _ => trivial⟩
  · rw [List.drop_eq_nil_of_le (by omega)]
    cases (loadL t).length with
    | zero => trivial
    | succ m => intro h; cases h
theorem chk_asc : ∀ l : List UInt8, (∀ b ∈ l, b.toNat < 128) → chk l = true
  | [], _ => by unfold chk; rfl
  | c :: r, h => by
    rw [chk_low (h c (List.mem_cons_self ..))]
    exact chk_asc r fun b hb => h b (List.mem_cons_of_mem _ hb)
theorem parseF_asc (pp : List UInt8 → Bool) (l : List UInt8) (h : (l.all fun b => decide (b.toNat < 128)) = true) (hl : l.length ≤ 65536) : parseF pp l = parseL pp l.length l 0 [] := by
  unfold parseF
  rw [if_neg (by omega), cp_chk _ (chk_asc l fun b hb => by simpa using List.all_eq_true.1 h b hb)]
def scA : List UInt8 := [108, 111, 97, 100, 32, 97, 32, 106, 115, 111, 110, 32, 34, 123, 92, 34, 120, 92, 34, 58, 32, 49, 125, 34, 10, 115, 101, 116, 32, 97, 32, 34, 46, 120, 34, 32, 34, 50, 34]
def scB : List UInt8 := [108, 111, 97, 100, 32, 97, 32, 120, 109, 108, 32, 34, 34]
def scC : List UInt8 := [103, 101, 116, 32, 97, 32, 34, 120, 34]
def scD : List UInt8 := [112, 114, 105, 110, 116, 32, 97, 32, 98]
def scE : List UInt8 := [112, 114, 105, 110, 116]
theorem parse_A : parseF ppA scA = (some [(1, ⟨[⟨#[97]⟩], [0], ⟨#[123, 34, 120, 34, 58, 32, 49, 125]⟩⟩), (8, ⟨[⟨#[97]⟩, ⟨#[46, 120]⟩], [], ⟨#[50]⟩⟩)], 0, 0) := by
  rw [parseF_asc _ _ (by decide) (by decide)]; rfl
theorem parse_B : parseF ppA scB = (none, 7, 4) := by
  rw [parseF_asc _ _ (by decide) (by decide)]; rfl
theorem parse_C : parseF ppA scC = (none, 6, 4) := by
  rw [parseF_asc _ _ (by decide) (by decide)]; rfl
theorem parse_D : parseF ppA scD = (none, 7, 4) := by
  rw [parseF_asc _ _ (by decide) (by decide)]; rfl
theorem parse_E : parseF ppA scE = (none, 5, 4) := by
  rw [parseF_asc _ _ (by decide) (by decide)]; rfl
end Go.Proofs.YtfnemklcmhilnaaGreatDoor
