/- Quoted texts of a script: what is written for a text is read back as the text, is well-formed UTF-8 and holds no control character. No program in sight. -/
import Derived.Lib.DecodeN
namespace Go.Proofs.YtfnemklcmhilnaaGreatDoor
open Go.Lib

/-- The rune and the width at the head of a list of bytes. -/
def dec (l : List UInt8) : Nat × Nat := decodeN l.length (l.getD 0 0).toNat (l.getD 1 0).toNat (l.getD 2 0).toNat (l.getD 3 0).toNat
def hexd (d : UInt8) : UInt8 := if d < 10 then 48 + d else 87 + d
/-- What is written for the head of a text. -/
def one (c : UInt8) (r : List UInt8) : List UInt8 :=
  if c = 92 ∨ c = 34 then [92, c] else if c = 10 then [92, 110] else if c = 13 then [92, 114] else if c = 9 then [92, 116]
  else if dec (c :: r) = (65533, 1) ∨ c < 32 ∨ c = 127 then [92, 120, hexd (c / 16), hexd (c % 16)] else (c :: r).take (dec (c :: r)).2
def qb : List UInt8 → List UInt8
  | [] => []
  | c :: r => one c r ++ qb (r.drop ((dec (c :: r)).2 - 1))
termination_by l => l.length
decreasing_by simp; omega
/-- A hexadecimal digit's value, 16 for any other byte. -/
def dig (c : UInt8) : UInt8 := if 48 ≤ c ∧ c ≤ 57 then c - 48 else if 97 ≤ c ∧ c ≤ 102 then c - 87 else 16
def uq : List UInt8 → Option (List UInt8 × List UInt8)
  | [] => none
  | c :: r =>
    if c = 34 then some ([], r)
    else if c < 32 ∨ c = 127 then none
    else if c ≠ 92 then (uq r).map fun p => (c :: p.1, p.2)
    else match r with
      | [] => none
      | e :: r2 =>
        if e = 92 ∨ e = 34 then (uq r2).map fun p => (e :: p.1, p.2)
        else if e = 110 then (uq r2).map fun p => (10 :: p.1, p.2)
        else if e = 114 then (uq r2).map fun p => (13 :: p.1, p.2)
        else if e = 116 then (uq r2).map fun p => (9 :: p.1, p.2)
        else if e = 120 then match r2 with
          | a :: b :: r3 => if dig a = 16 ∨ dig b = 16 then none else (uq r3).map fun p => ((16 * dig a + dig b) :: p.1, p.2)
          | _ => none
        else none
def chk : List UInt8 → Bool
  | [] => true
  | c :: r => if dec (c :: r) = (65533, 1) then false else chk (r.drop ((dec (c :: r)).2 - 1))
termination_by l => l.length
decreasing_by simp; omega

theorem dec_low {c : UInt8} (h : c.toNat < 128) (r : List UInt8) : dec (c :: r) = (c.toNat, 1) := by
  unfold dec decodeN
  simp [h]
theorem decN_high {n b0 b1 b2 b3 : Nat} (h : 128 ≤ b0) : decodeN n b0 b1 b2 b3 = (65533, 1)
    ∨ ((decodeN n b0 b1 b2 b3).2 = 2 ∧ 1 < n ∧ 128 ≤ b1 ∧ ∀ n' c2 c3, 1 < n' → decodeN n' b0 b1 c2 c3 = decodeN n b0 b1 b2 b3)
    ∨ ((decodeN n b0 b1 b2 b3).2 = 3 ∧ 2 < n ∧ 128 ≤ b1 ∧ 128 ≤ b2 ∧ ∀ n' c3, 2 < n' → decodeN n' b0 b1 b2 c3 = decodeN n b0 b1 b2 b3)
    ∨ ((decodeN n b0 b1 b2 b3).2 = 4 ∧ 3 < n ∧ 128 ≤ b1 ∧ 128 ≤ b2 ∧ 128 ≤ b3 ∧ ∀ n', 3 < n' → decodeN n' b0 b1 b2 b3 = decodeN n b0 b1 b2 b3) := by
  have h0 : ¬ b0 < 128 := by omega
  by_cases h2 : b0 / 32 = 6 ∧ (1 < n ∧ b1 / 64 = 2)
  · by_cases g : b0 % 32 * 64 + b1 % 64 ≥ 128
    · have e : ∀ n' c2 c3, 1 < n' → decodeN n' b0 b1 c2 c3 = (b0 % 32 * 64 + b1 % 64, 2) := fun n' c2 c3 hn => by
        unfold decodeN
        rw [if_neg h0, if_pos ⟨h2.1, hn, h2.2.2⟩, if_pos g]
      exact .inr (.inl ⟨by rw [e _ _ _ h2.2.1], h2.2.1, by omega, fun n' c2 c3 hn => by rw [e _ _ _ hn, e _ _ _ h2.2.1]⟩)
    · left
      unfold decodeN
      rw [if_neg h0, if_pos h2, if_neg g]
  · by_cases h3 : b0 / 16 = 14 ∧ (1 < n ∧ b1 / 64 = 2) ∧ (2 < n ∧ b2 / 64 = 2)
    · by_cases g : b0 % 16 * 4096 + b1 % 64 * 64 + b2 % 64 ≥ 2048 ∧ (b0 % 16 * 4096 + b1 % 64 * 64 + b2 % 64 < 55296 ∨ (57344 ≤ b0 % 16 * 4096 + b1 % 64 * 64 + b2 % 64 ∧ b0 % 16 * 4096 + b1 % 64 * 64 + b2 % 64 ≤ 1114111))
      · have e : ∀ n' c3, 2 < n' → decodeN n' b0 b1 b2 c3 = (b0 % 16 * 4096 + b1 % 64 * 64 + b2 % 64, 3) := fun n' c3 hn => by
          unfold decodeN
          rw [if_neg h0, if_neg (by omega), if_pos ⟨h3.1, ⟨by omega, h3.2.1.2⟩, hn, h3.2.2.2⟩, if_pos g]
        exact .inr (.inr (.inl ⟨by rw [e _ _ h3.2.2.1], h3.2.2.1, by omega, by omega, fun n' c3 hn => by rw [e _ _ hn, e _ _ h3.2.2.1]⟩))
      · left
        unfold decodeN
        rw [if_neg h0, if_neg h2, if_pos h3, if_neg g]
    · by_cases h4 : b0 / 8 = 30 ∧ (1 < n ∧ b1 / 64 = 2) ∧ (2 < n ∧ b2 / 64 = 2) ∧ (3 < n ∧ b3 / 64 = 2)
      · by_cases g : b0 % 8 * 262144 + b1 % 64 * 4096 + b2 % 64 * 64 + b3 % 64 ≥ 65536 ∧ (b0 % 8 * 262144 + b1 % 64 * 4096 + b2 % 64 * 64 + b3 % 64 < 55296 ∨ (57344 ≤ b0 % 8 * 262144 + b1 % 64 * 4096 + b2 % 64 * 64 + b3 % 64 ∧ b0 % 8 * 262144 + b1 % 64 * 4096 + b2 % 64 * 64 + b3 % 64 ≤ 1114111))
        · have e : ∀ n', 3 < n' → decodeN n' b0 b1 b2 b3 = (b0 % 8 * 262144 + b1 % 64 * 4096 + b2 % 64 * 64 + b3 % 64, 4) := fun n' hn => by
            unfold decodeN
            rw [if_neg h0, if_neg (by omega), if_neg (by omega), if_pos ⟨h4.1, ⟨by omega, h4.2.1.2⟩, ⟨by omega, h4.2.2.1.2⟩, hn, h4.2.2.2.2⟩, if_pos g]
          exact .inr (.inr (.inr ⟨by rw [e _ h4.2.2.2.1], h4.2.2.2.1, by omega, by omega, by omega, fun n' hn => by rw [e _ hn, e _ h4.2.2.2.1]⟩))
        · left
          unfold decodeN
          rw [if_neg h0, if_neg h2, if_neg h3, if_pos h4, if_neg g]
      · left
        unfold decodeN
        rw [if_neg h0, if_neg h2, if_neg h3, if_neg h4]
theorem dec_high {c : UInt8} (h : 128 ≤ c.toNat) (r : List UInt8) : dec (c :: r) = (65533, 1) ∨ (2 ≤ (dec (c :: r)).2 ∧ (dec (c :: r)).2 ≤ (c :: r).length ∧ (∀ b ∈ (c :: r).take (dec (c :: r)).2, 128 ≤ b.toNat) ∧ ∀ l, dec ((c :: r).take (dec (c :: r)).2 ++ l) = dec (c :: r)) := by
  rcases decN_high (n := (c :: r).length) (b1 := ((c :: r).getD 1 0).toNat) (b2 := ((c :: r).getD 2 0).toNat) (b3 := ((c :: r).getD 3 0).toNat) h with k | ⟨k, kn, k1, ks⟩ | ⟨k, kn, k1, k2, ks⟩ | ⟨k, kn, k1, k2, k3, ks⟩
  · exact .inl k
  · rcases r with _ | ⟨d1, r⟩
    · simp at kn
    have k' : (dec (c :: d1 :: r)).2 = 2 := k
    refine .inr ⟨by omega, by rw [k']; simp, ?_, ?_⟩ <;> rw [k']
    · simp at k1 ⊢
      exact ⟨h, k1⟩
    · intro l
      exact ks _ _ _ (by simp)
  · rcases r with _ | ⟨d1, _ | ⟨d2, r⟩⟩
    · simp at kn
    · simp at kn
    have k' : (dec (c :: d1 :: d2 :: r)).2 = 3 := k
    refine .inr ⟨by omega, by rw [k']; simp, ?_, ?_⟩ <;> rw [k']
    · simp at k1 k2 ⊢
      exact ⟨h, k1, k2⟩
    · intro l
      exact ks _ _ (by simp)
  · rcases r with _ | ⟨d1, _ | ⟨d2, _ | ⟨d3, r⟩⟩⟩
    · simp at kn
    · simp at kn
    · simp at kn
    have k' : (dec (c :: d1 :: d2 :: d3 :: r)).2 = 4 := k
    refine .inr ⟨by omega, by rw [k']; simp, ?_, ?_⟩ <;> rw [k']
    · simp at k1 k2 k3 ⊢
      exact ⟨h, k1, k2, k3⟩
    · intro l
      exact ks _ (by simp)
theorem all_bytes {p : UInt8 → Prop} (h : ∀ n : Fin 256, p (UInt8.ofNat n.1)) (c : UInt8) : p c := by
  have := h ⟨c.toNat, c.toNat_lt⟩
  simpa using this
theorem uq_copy : ∀ (bs l : List UInt8), (∀ b ∈ bs, 32 ≤ b.toNat ∧ b.toNat ≠ 127 ∧ b.toNat ≠ 34 ∧ b.toNat ≠ 92) → uq (bs ++ l) = (uq l).map fun p => (bs ++ p.1, p.2)
  | [], l, _ => by simp
  | b :: bs, l, h => by
    obtain ⟨h1, h2, h3, h4⟩ := h b (by simp)
    have e1 : b ≠ 34 := fun e => h3 (by rw [e]; rfl)
    have e2 : ¬ (b < 32 ∨ b = 127) := by
      rintro (e | e)
      · have : b.toNat < 32 := e
        omega
      · exact h2 (by rw [e]; rfl)
    have e3 : b ≠ 92 := fun e => h4 (by rw [e]; rfl)
    rw [List.cons_append]
    conv => lhs; unfold uq
    rw [if_neg e1, if_neg e2, if_pos e3, uq_copy bs l (fun x hx => h x (by simp [hx]))]
    cases uq l <;> simp
theorem one_ctl (c : UInt8) (r : List UInt8) : ∀ b ∈ one c r, 32 ≤ b.toNat ∧ b.toNat ≠ 127 := by
  have hx : ∀ d : UInt8, d < 16 → 32 ≤ (hexd d).toNat ∧ (hexd d).toNat ≠ 127 := all_bytes (p := fun d => d < 16 → 32 ≤ (hexd d).toNat ∧ (hexd d).toNat ≠ 127) (by decide +kernel)
  have hd : ∀ d : UInt8, d / 16 < 16 ∧ d % 16 < 16 := all_bytes (p := fun d => d / 16 < 16 ∧ d % 16 < 16) (by decide +kernel)
  unfold one
  repeat' split
  · rename_i h
    intro b hb
    simp only [List.mem_cons, List.not_mem_nil, or_false] at hb
    rcases hb with rfl | rfl
    · decide
    · rcases h with rfl | rfl <;> decide
  · decide
  · decide
  · decide
  · intro b hb
    simp only [List.mem_cons, List.not_mem_nil, or_false] at hb
    rcases hb with rfl | rfl | rfl | rfl
    · decide
    · decide
    · exact hx _ (hd c).1
    · exact hx _ (hd c).2
  · rename_i h
    simp only [not_or] at h
    by_cases hc : c.toNat < 128
    · rw [dec_low hc]
      intro b hb
      simp at hb
      subst hb
      refine ⟨?_, fun e => h.2.2 (UInt8.toNat_inj.1 e)⟩
      have := h.2.1
      simpa [UInt8.lt_iff_toNat_lt] using this
    · intro b hb
      rcases dec_high (c := c) (by omega) r with k | ⟨-, -, k, -⟩
      · exact absurd k h.1
      · have := k b hb
        omega
/-- What is read behind the head's writing is the head. -/
theorem uq_one (c : UInt8) (r l : List UInt8) : uq (one c r ++ l) = (uq l).map fun p => ((c :: r).take (dec (c :: r)).2 ++ p.1, p.2) := by
  have hh : ∀ c : UInt8, dig (hexd (c / 16)) ≠ 16 ∧ dig (hexd (c % 16)) ≠ 16 ∧ 16 * dig (hexd (c / 16)) + dig (hexd (c % 16)) = c :=
    all_bytes (p := fun c => dig (hexd (c / 16)) ≠ 16 ∧ dig (hexd (c % 16)) ≠ 16 ∧ 16 * dig (hexd (c / 16)) + dig (hexd (c % 16)) = c) (by decide +kernel)
  have lo : c.toNat < 128 → (c :: r).take (dec (c :: r)).2 = [c] := fun h => by rw [dec_low h]; rfl
  by_cases g1 : c = 92 ∨ c = 34
  · rw [lo (by rcases g1 with rfl | rfl <;> decide)]
    unfold one
    rw [if_pos g1]
    conv => lhs; simp only [List.cons_append, List.nil_append]; unfold uq
    rw [if_neg (by decide), if_neg (by decide), if_neg (by decide)]
    simp only [if_pos g1]
    rfl
  by_cases g2 : c = 10
  · subst g2
    rw [lo (by decide)]
    unfold one
    conv => lhs; simp only [List.cons_append, List.nil_append]; unfold uq
    rfl
  by_cases g3 : c = 13
  · subst g3
    rw [lo (by decide)]
    unfold one
    conv => lhs; simp only [List.cons_append, List.nil_append]; unfold uq
    rfl
  by_cases g4 : c = 9
  · subst g4
    rw [lo (by decide)]
    unfold one
    conv => lhs; simp only [List.cons_append, List.nil_append]; unfold uq
    rfl
  by_cases g5 : dec (c :: r) = (65533, 1) ∨ c < 32 ∨ c = 127
  · have e : (c :: r).take (dec (c :: r)).2 = [c] := by
      rcases g5 with k | k | k
      · rw [k]; rfl
      · exact lo (by have : c.toNat < 32 := k; omega)
      · exact lo (by rw [k]; decide)
    obtain ⟨a1, a2, a3⟩ := hh c
    rw [e]
    unfold one
    rw [if_neg g1, if_neg g2, if_neg g3, if_neg g4, if_pos g5]
    conv => lhs; simp only [List.cons_append, List.nil_append]; unfold uq
    rw [if_neg (by decide), if_neg (by decide), if_neg (by decide)]
    simp only [show ¬ ((120 : UInt8) = 92 ∨ (120 : UInt8) = 34) by decide, if_false, show ¬ (120 : UInt8) = 110 by decide, show ¬ (120 : UInt8) = 114 by decide, show ¬ (120 : UInt8) = 116 by decide, if_true, a1, a2, or_self, a3]
    rfl
  · have hc := one_ctl c r
    unfold one at hc ⊢
    rw [if_neg g1, if_neg g2, if_neg g3, if_neg g4, if_neg g5] at hc ⊢
    refine uq_copy _ _ fun b hb => ⟨(hc b hb).1, (hc b hb).2, ?_, ?_⟩
    all_goals
      by_cases hl : c.toNat < 128
      · rw [lo hl] at hb
        obtain rfl : b = c := by simpa using hb
        intro e
        simp only [not_or] at g1
        first | exact g1.2 (UInt8.toNat_inj.1 e) | exact g1.1 (UInt8.toNat_inj.1 e)
      · simp only [not_or] at g5
        rcases dec_high (c := c) (by omega) r with k | ⟨-, -, k, -⟩
        · exact absurd k g5.1
        · have := k b hb
          omega
theorem dec_width (c : UInt8) (r : List UInt8) : 1 ≤ (dec (c :: r)).2 := by
  by_cases h : c.toNat < 128
  · rw [dec_low h]; exact Nat.le_refl _
  · rcases dec_high (c := c) (by omega) r with k | ⟨k, -⟩
    · rw [k]; decide
    · omega
theorem take_drop_head (c : UInt8) (r : List UInt8) : (c :: r).take (dec (c :: r)).2 ++ r.drop ((dec (c :: r)).2 - 1) = c :: r := by
  have h := dec_width c r
  obtain ⟨n, hn⟩ : ∃ n, (dec (c :: r)).2 = n + 1 := ⟨_, (Nat.succ_pred_eq_of_pos h).symm⟩
  rw [hn]
  simp
/-- What is written for a text is read back as the text. -/
theorem uq_qb (l : List UInt8) (rest : List UInt8) : uq (qb l ++ 34 :: rest) = some (l, rest) := by
  induction hn : l.length using Nat.strongRecOn generalizing l with
  | _ n ih =>
    cases l with
    | nil =>
      rw [qb, List.nil_append]
      unfold uq
      rw [if_pos rfl]
    | cons c r =>
      unfold qb
      rw [List.append_assoc, uq_one, ih _ (by subst hn; simp; omega) (r.drop ((dec (c :: r)).2 - 1)) rfl]
      simp only [Option.map_some, take_drop_head]
/-- What is written for a text is well-formed. -/
theorem chk_low {c : UInt8} (h : c.toNat < 128) (r : List UInt8) : chk (c :: r) = chk r := by
  conv => lhs; unfold chk
  rw [dec_low h, if_neg (by intro e; have := congrArg Prod.fst e; simp at this; omega)]
  simp
theorem chk_one (c : UInt8) (r l : List UInt8) : chk (one c r ++ l) = chk l := by
  have hx : ∀ c : UInt8, (hexd (c / 16)).toNat < 128 ∧ (hexd (c % 16)).toNat < 128 := all_bytes (p := fun c => (hexd (c / 16)).toNat < 128 ∧ (hexd (c % 16)).toNat < 128) (by decide +kernel)
  unfold one
  repeat' split
  · rename_i h
    simp only [List.cons_append, List.nil_append]
    rw [chk_low (by decide), chk_low (by rcases h with rfl | rfl <;> decide)]
  · simp only [List.cons_append, List.nil_append]
    rw [chk_low (by decide), chk_low (by decide)]
  · simp only [List.cons_append, List.nil_append]
    rw [chk_low (by decide), chk_low (by decide)]
  · simp only [List.cons_append, List.nil_append]
    rw [chk_low (by decide), chk_low (by decide)]
  · simp only [List.cons_append, List.nil_append]
    rw [chk_low (by decide), chk_low (by decide), chk_low (hx c).1, chk_low (hx c).2]
  · rename_i h
    simp only [not_or] at h
    by_cases hc : c.toNat < 128
    · rw [dec_low hc]
      exact chk_low hc l
    · rcases dec_high (c := c) (by omega) r with k | ⟨k1, k2, -, k4⟩
      · exact absurd k h.1
      · obtain ⟨n, hn⟩ : ∃ n, (dec (c :: r)).2 = n + 1 := ⟨(dec (c :: r)).2 - 1, by omega⟩
        have e := k4 l
        rw [hn] at e k2 ⊢
        simp only [List.take_succ_cons, List.cons_append] at e ⊢
        conv => lhs; unfold chk
        rw [e, if_neg h.1, hn]
        simp only [List.length_cons, Nat.add_le_add_iff_right] at k2
        simp [List.length_take, Nat.min_eq_left k2]
theorem chk_qb (l rest : List UInt8) : chk (qb l ++ rest) = chk rest := by
  induction hn : l.length using Nat.strongRecOn generalizing l with
  | _ n ih =>
    cases l with
    | nil => rw [qb, List.nil_append]
    | cons c r =>
      unfold qb
      rw [List.append_assoc, chk_one, ih _ (by subst hn; simp; omega) (r.drop ((dec (c :: r)).2 - 1)) rfl]
theorem qb_ctl (l : List UInt8) : ∀ b ∈ qb l, 32 ≤ b.toNat ∧ b.toNat ≠ 127 := by
  induction hn : l.length using Nat.strongRecOn generalizing l with
  | _ n ih =>
    cases l with
    | nil => rw [qb]; simp
    | cons c r =>
      unfold qb
      intro b hb
      rcases List.mem_append.1 hb with h | h
      · exact one_ctl c r b h
      · exact ih _ (by subst hn; simp; omega) (r.drop ((dec (c :: r)).2 - 1)) rfl b h
theorem dec_le (c : UInt8) (r : List UInt8) : (dec (c :: r)).2 ≤ r.length + 1 := by
  by_cases h : c.toNat < 128
  · rw [dec_low h]; exact Nat.succ_le_succ (Nat.zero_le _)
  · rcases dec_high (c := c) (by omega) r with k | ⟨-, k, -⟩
    · rw [k]; exact Nat.succ_le_succ (Nat.zero_le _)
    · exact k
theorem one_len (c : UInt8) (r : List UInt8) : (one c r).length ≤ 4 * (dec (c :: r)).2 := by
  have h := dec_width c r
  unfold one
  repeat' split
  all_goals simp only [List.length_cons, List.length_nil, List.length_take]; omega
/-- What is written for a text is at most four times as long. -/
theorem qb_len (l : List UInt8) : (qb l).length ≤ 4 * l.length := by
  induction hn : l.length using Nat.strongRecOn generalizing l with
  | _ n ih =>
    cases l with
    | nil => rw [qb]; simp
    | cons c r =>
      unfold qb
      have h1 := one_len c r
      have h2 := ih _ (by subst hn; simp; omega) (r.drop ((dec (c :: r)).2 - 1)) rfl
      have h3 := dec_le c r
      have h4 := dec_width c r
      subst hn
      rw [List.length_drop] at h2
      rw [List.length_append, List.length_cons]
      omega
end Go.Proofs.YtfnemklcmhilnaaGreatDoor
