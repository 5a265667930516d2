/- A quoted text read back: what unquote hands back. -/
import Derived.Test.YtfnemklcmhilnaaGreatDoorScQ
namespace Go.Proofs.YtfnemklcmhilnaaGreatDoor
open Go.RowKit
open Go.Lib hiding intOf
def uqV (l : List UInt8) : Value :=
  match l with
  | 34 :: r => match uq r with
    | some (t, rest) => .tuple #[.string ⟨t.toArray⟩, .int .i64 ((l.length : Int) - rest.length), .bool true]
    | none => .tuple #[.string ⟨#[]⟩, .int .i64 0, .bool false]
  | _ => .tuple #[.string ⟨#[]⟩, .int .i64 0, .bool false]
def URel (l : List UInt8) (i : Nat) (acc : List UInt8) : Prop := 1 ≤ i ∧ i ≤ l.length ∧ acc.length ≤ i ∧ l.head? = some 34 ∧ uq (l.drop 1) = (uq (l.drop i)).map fun p => (acc ++ p.1, p.2)
def uqBad : Value := .tuple #[.string ⟨#[]⟩, .int .i64 0, .bool false]
theorem u_head {l : List UInt8} (h : l.head? = some 34) : l = 34 :: l.drop 1 := by
  cases l with
  | nil => cases h
  | cons c r => simp at h; subst h; rfl
theorem u_bad {l acc : List UInt8} {i : Nat} (h : URel l i acc) (hu : uq (l.drop i) = none) : uqV l = uqBad := by
  have e := h.2.2.2.2
  rw [hu] at e
  rw [u_head h.2.2.2.1]
  simp only [uqV]
  rw [e]
  rfl
theorem u_end {l acc : List UInt8} {i : Nat} (h : URel l i acc) (hi : i < l.length) (hc : l[i] = 34) : uqV l = .tuple #[.string ⟨acc.toArray⟩, .int .i64 ((i : Int) + 1), .bool true] := by
  have e := h.2.2.2.2
  have e1 : uq (l.drop i) = some ([], l.drop (i + 1)) := by
    rw [drop_cons hi, hc]
    unfold uq
    rw [if_pos rfl]
  rw [e1] at e
  rw [u_head h.2.2.2.1]
  simp only [uqV]
  rw [e]
  simp only [Option.map_some, List.append_nil]
  have hl : (34 :: l.drop 1).length = l.length := by rw [← u_head h.2.2.2.1]
  rw [hl, List.length_drop]
  congr 1
  have : ((l.length : Int) - ((l.length - (i + 1) : Nat) : Int)) = (i : Int) + 1 := by omega
  rw [this]
theorem u_step {l acc : List UInt8} {i j : Nat} (h : URel l i acc) (c : UInt8) (hj : j ≤ l.length) (hij : i < j) (hu : uq (l.drop i) = (uq (l.drop j)).map fun p => (c :: p.1, p.2)) : URel l j (acc ++ [c]) := by
  obtain ⟨h1, h2, h3, h4, h5⟩ := h
  refine ⟨by omega, hj, by simp; omega, h4, ?_⟩
  rw [h5, hu, Option.map_map]
  congr 1
  funext p
  simp
theorem u_start {l : List UInt8} (h : l.head? = some 34) : URel l 1 [] := by
  refine ⟨Nat.le_refl _, by rw [u_head h]; simp, by simp, h, ?_⟩
  cases uq (l.drop 1) <;> simp
theorem u_not {l : List UInt8} (h : l.head? ≠ some 34) : uqV l = uqBad := by
  unfold uqV
  split
  · simp at h
  · rfl
theorem dig_is (c : UInt8) : indexByte [48, 49, 50, 51, 52, 53, 54, 55, 56, 57, 97, 98, 99, 100, 101, 102] c = if dig c = 16 then -1 else ((dig c).toNat : Int) :=
  all_bytes (p := fun c => indexByte [48, 49, 50, 51, 52, 53, 54, 55, 56, 57, 97, 98, 99, 100, 101, 102] c = if dig c = 16 then -1 else ((dig c).toNat : Int)) (by decide +kernel) c
theorem dig_lt (c : UInt8) (h : dig c ≠ 16) : (dig c).toNat < 16 :=
  all_bytes (p := fun c => dig c ≠ 16 → (dig c).toNat < 16) (by decide +kernel) c h
theorem digit_yes (c : UInt8) (w : World) (h : dig c ≠ 16) : Calls Tryz.prog 35 #[.int .u8 c.toNat] w fun e w' => e = .returned (.int .i64 ((dig c).toNat : Int)) ∧ w = w' := by
  refine (digit_any _ w).mono ?_
  rintro e w' ⟨rfl, rfl⟩
  refine ⟨ret_int ?_, rfl⟩
  have : ((c.toNat : Int).toNat.toUInt8) = c := by simp
  rw [this, dig_is, if_neg h]
theorem digit_no (c : UInt8) (w : World) (h : dig c = 16) : Calls Tryz.prog 35 #[.int .u8 c.toNat] w fun e w' => e = .returned (.int .i64 (-1)) ∧ w = w' := by
  refine (digit_any _ w).mono ?_
  rintro e w' ⟨rfl, rfl⟩
  refine ⟨ret_int ?_, rfl⟩
  have : ((c.toNat : Int).toNat.toUInt8) = c := by simp
  rw [this, dig_is, if_pos h]
theorem Calls.same_of {P : Program} {f : FuncId} {args : Array Value} {w : World} {v : Value} (h : Calls P f args w fun e w' => e = .returned v ∧ w = w') : Calls P f args w fun e w' => e = .returned v ∧ w' = w := h.mono fun _ _ ⟨h1, h2⟩ => ⟨h1, h2.symm⟩
theorem uq_plain {c : UInt8} {r : List UInt8} (h1 : c ≠ 34) (h2 : ¬ (c < 32 ∨ c = 127)) (h3 : c ≠ 92) : uq (c :: r) = (uq r).map fun p => (c :: p.1, p.2) := by
  conv => lhs; unfold uq
  rw [if_neg h1, if_neg h2, if_pos h3]
theorem uq_low {c : UInt8} {r : List UInt8} (h1 : c ≠ 34) (h2 : c < 32 ∨ c = 127) : uq (c :: r) = none := by
  unfold uq
  rw [if_neg h1, if_pos h2]
theorem uq_esc0 : uq [92] = none := by rfl
theorem uq_esc1 {e : UInt8} {r : List UInt8} (h : e = 92 ∨ e = 34) : uq (92 :: e :: r) = (uq r).map fun p => (e :: p.1, p.2) := by
  conv => lhs; unfold uq
  rw [if_neg (by decide), if_neg (by decide), if_neg (by decide)]
  simp only [if_pos h]
theorem uq_n (r : List UInt8) : uq (92 :: 110 :: r) = (uq r).map fun p => (10 :: p.1, p.2) := by
  conv => lhs; unfold uq
  rfl
theorem uq_r (r : List UInt8) : uq (92 :: 114 :: r) = (uq r).map fun p => (13 :: p.1, p.2) := by
  conv => lhs; unfold uq
  rfl
theorem uq_t (r : List UInt8) : uq (92 :: 116 :: r) = (uq r).map fun p => (9 :: p.1, p.2) := by
  conv => lhs; unfold uq
  rfl
theorem uq_x0 {r : List UInt8} (h : r.length < 2) : uq (92 :: 120 :: r) = none := by
  rcases r with _ | ⟨a, _ | ⟨b, r⟩⟩
  · rfl
  · rfl
  · simp at h; omega
theorem uq_xbad {a b : UInt8} {r : List UInt8} (h : dig a = 16 ∨ dig b = 16) : uq (92 :: 120 :: a :: b :: r) = none := by
  unfold uq
  rw [if_neg (by decide), if_neg (by decide), if_neg (by decide)]
  simp only [show ¬ ((120 : UInt8) = 92 ∨ (120 : UInt8) = 34) by decide, if_false, show ¬ (120 : UInt8) = 110 by decide, show ¬ (120 : UInt8) = 114 by decide, show ¬ (120 : UInt8) = 116 by decide, if_true, if_pos h]
theorem uq_x {a b : UInt8} {r : List UInt8} (ha : ¬ dig a = 16) (hb : ¬ dig b = 16) : uq (92 :: 120 :: a :: b :: r) = (uq r).map fun p => ((16 * dig a + dig b) :: p.1, p.2) := by
  conv => lhs; unfold uq
  rw [if_neg (by decide), if_neg (by decide), if_neg (by decide)]
  simp only [show ¬ ((120 : UInt8) = 92 ∨ (120 : UInt8) = 34) by decide, if_false, show ¬ (120 : UInt8) = 110 by decide, show ¬ (120 : UInt8) = 114 by decide, show ¬ (120 : UInt8) = 116 by decide, if_true, ha, hb, or_self]
theorem uq_other {e : UInt8} {r : List UInt8} (h1 : e ≠ 92) (h2 : e ≠ 34) (h3 : e ≠ 110) (h4 : e ≠ 114) (h5 : e ≠ 116) (h6 : e ≠ 120) : uq (92 :: e :: r) = none := by
  unfold uq
  rw [if_neg (by decide), if_neg (by decide), if_neg (by decide)]
  simp only [h1, h2, or_self, if_false, h3, h4, h5, h6]
theorem lookup_cons {l : List UInt8} {i : Nat} (h : i < l.length) (c : UInt8) (hc : l[i] = c) : l.drop i = c :: l.drop (i + 1) := by rw [drop_cons h, hc]
set_option maxHeartbeats 1000000 in
set_option maxRecDepth 100000 in
theorem unquote_any (s : ByteArray) (w : World) (hs : s.size ≤ 35184372088000) :
    Calls Tryz.prog 29 #[.string s] w fun e w' => e = .returned (uqV s.data.toList) ∧ Below w.heap.size w w' := by
  have hl : s.data.toList.length = s.size := by simp
  by_cases h0 : s.size = 0
  · obtain rfl : s = ⟨#[]⟩ := by
      have : s.data.size = 0 := h0
      exact ext_list (by simp [Array.eq_empty_of_size_eq_zero this])
    go_enter Tryz.func29, Tryz.ntmps29
    go_wp2
    go_ret3
    exact ⟨rfl, Below.refl _ _⟩
  have e2 : ¬ s.toList = [] := fun e => by
    have := (toList_nil_iff_emptyBytes s).1 e
    subst this
    exact h0 rfl
  have e4 : s.toList.isEmpty = false := by
    cases h : s.toList with
    | nil => exact absurd h e2
    | cons x r => rfl
  have hp0 : 0 < s.size := by omega
  have hh : s.data.toList.head? = some s[0] := by
    rw [List.head?_eq_getElem?, List.getElem?_eq_getElem (by omega)]; rfl
  by_cases hq : s[0] = 34
  · have HU := Lib.hid (u_start (l := s.data.toList) (by rw [hh, hq]))
    have g0 : ((s[0].toNat : Int) != 34) = false := by rw [hq]; rfl
    clear hh hq
    go_enter Tryz.func29, Tryz.ntmps29
    go_wp2
    go_loopw [5, 6] (fun b i wr => ∃ (k : Nat) (acc : List UInt8), i = .int .i64 k ∧ OwnB w.heap.size b acc wr ∧ Below w.heap.size w wr ∧ URel s.data.toList k acc) (fun _ i _ => s.size - (intOf i).toNat)
    case atStart => exact ⟨1, [], rfl, OwnB.nil _ _, Below.refl _ _, HU.out⟩
    case round =>
      obtain ⟨k, acc, rfl, hown, hbw, hu⟩ := hrel
      have hsz := hbw.size
      have hk1 := hu.1
      have hk2 := hu.2.1
      have hk3 := hu.2.2.1
      rw [hl] at hk2
      have HBW := Lib.hid hbw
      have HOWN := Lib.hid hown
      clear hbw HU g0 e2 e4
      by_cases hk : k < s.size
      · have hkl : k < s.data.toList.length := by omega
        have hk' : (s.data.toList)[k]'hkl = s[k] := rfl
        have hd := drop_cons hkl
        rw [hk'] at hd
        have neb : ∀ (c b : UInt8), c ≠ b → ((c.toNat : Int) == (b.toNat : Int)) = false := fun c b h => by
          simp only [beq_eq_false_iff_ne, ne_eq, Int.ofNat_inj]
          exact fun e => h (UInt8.toNat_inj.1 e)
        have nlt : ∀ c : UInt8, ¬ c < 32 → ¬ (c.toNat : Int) < 32 := fun c h e => h (by show c.toNat < 32; omega)
        have bw1 : IntKind.i64.wrap ((k : Int) + 1) = (k : Int) + 1 := IntWalk.i64_in _ (by omega)
        by_cases c34 : s[k] = 34
        · have f34 : ((s[k].toNat : Int) == 34) = true := by rw [c34]; rfl
          have HR := Lib.hid (u_end hu hkl (by rw [hk', c34]))
          obtain ⟨ao, cp, rfl⟩ := hown.slice
          have hstr := str_of hown
          clear hu hd hk' neb nlt c34 hown
          go_wp2
          go_ret3
          exact ⟨by rw [HR.out]; rfl, HBW.out⟩
        have f34 : ((s[k].toNat : Int) == 34) = false := neb _ 34 c34
        by_cases clo : s[k] < 32
        · have flo : (s[k].toNat : Int) < 32 := by have : s[k].toNat < 32 := clo
                                                   omega
          have HR := Lib.hid (u_bad hu (by rw [hd]; exact uq_low c34 (.inl clo)))
          clear hu hd hk' neb nlt c34 hown clo
          go_wp2
          go_ret3
          exact ⟨by rw [HR.out]; rfl, HBW.out⟩
        have flo := nlt _ clo
        by_cases c127 : s[k] = 127
        · have f127 : ((s[k].toNat : Int) == 127) = true := by rw [c127]; rfl
          have HR := Lib.hid (u_bad hu (by rw [hd]; exact uq_low c34 (.inr c127)))
          clear hu hd hk' neb nlt c34 hown clo c127
          go_wp2
          go_ret3
          exact ⟨by rw [HR.out]; rfl, HBW.out⟩
        have f127 : ((s[k].toNat : Int) == 127) = false := neb _ 127 c127
        by_cases c92 : s[k] = 92
        · have f92 : ((s[k].toNat : Int) != 92) = false := by rw [c92]; rfl
          rw [c92] at hd
          clear c34 clo c127 c92
          by_cases hk1e : k + 1 < s.size
          · have hkl1 : k + 1 < s.data.toList.length := by omega
            have hk1' : (s.data.toList)[k + 1]'hkl1 = s[k + 1] := rfl
            have hd1 := drop_cons hkl1
            rw [hk1'] at hd1
            rw [hd1] at hd
            have bw2 : ((k : Int) + 1).toNat = k + 1 := by omega
            have bw3 : ((k : Int) + 1 == (s.size : Int)) = false := by simp; omega
            have bw4 : IntKind.i64.wrap ((k : Int) + 1 + 1) = (k : Int) + 1 + 1 := IntWalk.i64_in _ (by omega)
            by_cases e92 : s[k + 1] = 92
            · have g92 : ((s[k + 1].toNat : Int) == 92) = true := by rw [e92]; rfl
              have HR := Lib.hid (u_step hu s[k + 1] (j := k + 2) (by omega) (by omega) (by rw [hd]; exact uq_esc1 (.inl e92)))
              clear hu hd hd1 hk' hk1' neb nlt hown e92
              go_wp2_with (first | (at_builtin; refine app_bytes _ rfl _ _ rfl [s[k + 1]] rfl HOWN.out _ rfl _ rfl (by simp; omega) hsz ?_; intro v' w2 hown2 hb2))
              go_roundw
              case rel => exact ⟨k + 2, _, congrArg (Value.int .i64) (by omega), hown2, HBW.out.trans hb2, HR.out⟩
              case measure => simp [intOf]; omega
            have g92 : ((s[k + 1].toNat : Int) == 92) = false := neb _ 92 e92
            by_cases e34 : s[k + 1] = 34
            · have g34 : ((s[k + 1].toNat : Int) == 34) = true := by rw [e34]; rfl
              have HR := Lib.hid (u_step hu s[k + 1] (j := k + 2) (by omega) (by omega) (by rw [hd]; exact uq_esc1 (.inr e34)))
              clear hu hd hd1 hk' hk1' neb nlt hown e92 e34
              go_wp2_with (first | (at_builtin; refine app_bytes _ rfl _ _ rfl [s[k + 1]] rfl HOWN.out _ rfl _ rfl (by simp; omega) hsz ?_; intro v' w2 hown2 hb2))
              go_roundw
              case rel => exact ⟨k + 2, _, congrArg (Value.int .i64) (by omega), hown2, HBW.out.trans hb2, HR.out⟩
              case measure => simp [intOf]; omega
            have g34 : ((s[k + 1].toNat : Int) == 34) = false := neb _ 34 e34
            by_cases e110 : s[k + 1] = 110
            · have g110 : ((s[k + 1].toNat : Int) == 110) = true := by rw [e110]; rfl
              have HR := Lib.hid (u_step hu 10 (j := k + 2) (by omega) (by omega) (by rw [hd, e110]; exact uq_n _))
              clear hu hd hd1 hk' hk1' neb nlt hown e92 e34 e110
              go_wp2_with (first | (at_builtin; refine app_bytes _ rfl _ _ rfl [10] rfl HOWN.out _ rfl _ rfl (by simp; omega) hsz ?_; intro v' w2 hown2 hb2))
              go_roundw
              case rel => exact ⟨k + 2, _, congrArg (Value.int .i64) (by omega), hown2, HBW.out.trans hb2, HR.out⟩
              case measure => simp [intOf]; omega
            have g110 : ((s[k + 1].toNat : Int) == 110) = false := neb _ 110 e110
            by_cases e114 : s[k + 1] = 114
            · have g114 : ((s[k + 1].toNat : Int) == 114) = true := by rw [e114]; rfl
              have HR := Lib.hid (u_step hu 13 (j := k + 2) (by omega) (by omega) (by rw [hd, e114]; exact uq_r _))
              clear hu hd hd1 hk' hk1' neb nlt hown e92 e34 e110 e114
              go_wp2_with (first | (at_builtin; refine app_bytes _ rfl _ _ rfl [13] rfl HOWN.out _ rfl _ rfl (by simp; omega) hsz ?_; intro v' w2 hown2 hb2))
              go_roundw
              case rel => exact ⟨k + 2, _, congrArg (Value.int .i64) (by omega), hown2, HBW.out.trans hb2, HR.out⟩
              case measure => simp [intOf]; omega
            have g114 : ((s[k + 1].toNat : Int) == 114) = false := neb _ 114 e114
            by_cases e116 : s[k + 1] = 116
            · have g116 : ((s[k + 1].toNat : Int) == 116) = true := by rw [e116]; rfl
              have HR := Lib.hid (u_step hu 9 (j := k + 2) (by omega) (by omega) (by rw [hd, e116]; exact uq_t _))
              clear hu hd hd1 hk' hk1' neb nlt hown e92 e34 e110 e114 e116
              go_wp2_with (first | (at_builtin; refine app_bytes _ rfl _ _ rfl [9] rfl HOWN.out _ rfl _ rfl (by simp; omega) hsz ?_; intro v' w2 hown2 hb2))
              go_roundw
              case rel => exact ⟨k + 2, _, congrArg (Value.int .i64) (by omega), hown2, HBW.out.trans hb2, HR.out⟩
              case measure => simp [intOf]; omega
            have g116 : ((s[k + 1].toNat : Int) == 116) = false := neb _ 116 e116
            by_cases e120 : s[k + 1] = 120
            · have g120 : ((s[k + 1].toNat : Int) == 120) = true := by rw [e120]; rfl
              rw [e120] at hd
              clear e92 e34 e110 e114 e116 e120
              have bw5 : IntKind.i64.wrap ((k : Int) + 1 + 2) = (k : Int) + 1 + 2 := IntWalk.i64_in _ (by omega)
              have bw6 : ((k : Int) + 1 + 1).toNat = k + 2 := by omega
              have bw7 : ((k : Int) + 1 + 2).toNat = k + 3 := by omega
              by_cases hx : k + 3 < s.size
              · have hkl2 : k + 2 < s.data.toList.length := by omega
                have hkl3 : k + 3 < s.data.toList.length := by omega
                have hk2' : (s.data.toList)[k + 2]'hkl2 = s[k + 2] := rfl
                have hk3' : (s.data.toList)[k + 3]'hkl3 = s[k + 3] := rfl
                have hd2 := drop_cons hkl2
                have hd3 := drop_cons hkl3
                rw [hk2'] at hd2
                rw [hk3'] at hd3
                rw [hd2, hd3] at hd
                have hx2 : ¬ ((s.size : Int) ≤ (k : Int) + 1 + 2) := by omega
                have hx3 : (k : Int) + 1 + 1 < s.size := by omega
                have hx4 : (k : Int) + 1 + 2 < s.size := by omega
                by_cases h2 : dig s[k + 2] = 16
                · have HR := Lib.hid (u_bad hu (by rw [hd]; exact uq_xbad (.inl h2)))
                  clear hu hd hd1 hd2 hd3 hk' hk1' hk2' hk3' neb nlt hown
                  have D2 := Lib.hid h2
                  clear h2
                  go_wp2_with (first | (go_at_call 35; (with_reducible refine (digit_no s[k + 2] _ D2.out).mono ?_); rintro e w2 ⟨rfl, rfl⟩))
                  go_ret3
                  exact ⟨by rw [HR.out]; rfl, HBW.out⟩
                by_cases h3 : dig s[k + 3] = 16
                · have HR := Lib.hid (u_bad hu (by rw [hd]; exact uq_xbad (.inr h3)))
                  clear hu hd hd1 hd2 hd3 hk' hk1' hk2' hk3' neb nlt hown
                  have D2 := Lib.hid h2
                  have D3 := Lib.hid h3
                  clear h2 h3
                  go_wp2_with (first | (go_at_call 35; (with_reducible refine (digit_yes s[k + 2] _ D2.out).mono ?_); rintro e w2 ⟨rfl, rfl⟩) | (go_at_call 35; (with_reducible refine (digit_no s[k + 3] _ D3.out).mono ?_); rintro e w3 ⟨rfl, rfl⟩))
                  go_ret3
                  exact ⟨by rw [HR.out]; rfl, HBW.out⟩
                · have HR := Lib.hid (u_step hu (16 * dig s[k + 2] + dig s[k + 3]) (j := k + 4) (by omega) (by omega) (by rw [hd]; exact uq_x h2 h3))
                  clear hu hd hd1 hd2 hd3 hk' hk1' hk2' hk3' neb nlt hown
                  have D2 := Lib.hid h2
                  have D3 := Lib.hid h3
                  clear h2 h3
                  go_wp2_with (first | (go_at_call 35; (with_reducible refine (digit_yes s[k + 2] _ D2.out).mono ?_); rintro e w2 ⟨rfl, rfl⟩) | (go_at_call 35; (with_reducible refine (digit_yes s[k + 3] _ D3.out).mono ?_); rintro e w3 ⟨rfl, rfl⟩))
                  have q2 := dig_lt _ D2.out
                  have q3 := dig_lt _ D3.out
                  have hn1 : IntKind.i64.wrap (16 * ((dig s[k + 2]).toNat : Int)) = 16 * ((dig s[k + 2]).toNat : Int) := IntWalk.i64_in _ (by omega)
                  have hn2 : IntKind.i64.wrap (16 * ((dig s[k + 2]).toNat : Int) + ((dig s[k + 3]).toNat : Int)) = 16 * ((dig s[k + 2]).toNat : Int) + ((dig s[k + 3]).toNat : Int) := IntWalk.i64_in _ (by omega)
                  have hn3 : ((16 * dig s[k + 2] + dig s[k + 3]).toNat : Int) = 16 * ((dig s[k + 2]).toNat : Int) + ((dig s[k + 3]).toNat : Int) := by
                    rw [UInt8.toNat_add, UInt8.toNat_mul, show (16 : UInt8).toNat = 16 from rfl]
                    omega
                  have hn4 : IntKind.u8.wrap (16 * ((dig s[k + 2]).toNat : Int) + ((dig s[k + 3]).toNat : Int)) = 16 * ((dig s[k + 2]).toNat : Int) + ((dig s[k + 3]).toNat : Int) := by
                    rw [← hn3]; exact IntWalk.u8_in _ (by have := (16 * dig s[k + 2] + dig s[k + 3]).toNat_lt; omega)
                  have HN3 := Lib.hid hn3
                  clear hn3 q2 q3
                  refine reg_bytes (aF := ?_) 14 _ _ _ [16 * dig s[k + 2] + dig s[k + 3]] rfl (by kernel_rfl) (by kernel_rfl) (by kernel_rfl) rfl rfl rfl rfl rfl rfl (by kernel_rfl) (by kernel_rfl) (by kernel_rfl) (by kernel_rfl) _ _ rfl HOWN.out (by simp; omega) hsz ?_ ?_ ?_ ?_ ?_ ?_
                  rotate_left 1
                  · intro ρ
                    simp only [List.take_succ_cons, List.take_zero]
                    repeat (go_big_quiet_step ((go_at_call 35; first | with_reducible exact Calls.quiet_of_same (Calls.same_of (digit_yes s[k + 2] _ D2.out)) | with_reducible exact Calls.quiet_of_same (Calls.same_of (digit_yes s[k + 3] _ D3.out)))))
                    refine wpQuiet_nil ?_
                    exact rfl
                  · intro W
                    go_simp
                    simp only [byteCells, List.map_cons, List.map_nil, HN3.out]
                  · intro bv; rfl
                  · intro bv; rfl
                  · intro bv v' W; rfl
                  · clear hn1 hn2 hn4
                    intro v' w2 hown2 hb2
                    simp only [Act.put, List.setIfInBounds_toArray, List.set_cons_zero, List.set_cons_succ]
                    go_wp2
                    go_roundw
                    case rel => exact ⟨k + 4, _, congrArg (Value.int .i64) (by omega), hown2, HBW.out.trans hb2, HR.out⟩
                    case measure => simp [intOf]; omega
              · have hx2 : (s.size : Int) ≤ (k : Int) + 1 + 2 := by omega
                have HR := Lib.hid (u_bad hu (by rw [hd]; exact uq_x0 (by rw [List.length_drop]; omega)))
                clear hu hd hd1 hk' hk1' neb nlt hown
                go_wp2
                go_ret3
                exact ⟨by rw [HR.out]; rfl, HBW.out⟩
            · have g120 : ((s[k + 1].toNat : Int) == 120) = false := neb _ 120 e120
              have HR := Lib.hid (u_bad hu (by rw [hd]; exact uq_other e92 e34 e110 e114 e116 e120))
              clear hu hd hd1 hk' hk1' neb nlt hown e92 e34 e110 e114 e116 e120
              go_wp2
              go_ret3
              exact ⟨by rw [HR.out]; rfl, HBW.out⟩
          · have e1 : k + 1 = s.size := by omega
            have bw3 : ((k : Int) + 1 == (s.size : Int)) = true := by simp; omega
            have HR := Lib.hid (u_bad hu (by rw [hd, List.drop_eq_nil_of_le (by omega)]; exact uq_esc0))
            clear hu hd hk' neb nlt hown e1
            go_wp2
            go_ret3
            exact ⟨by rw [HR.out]; rfl, HBW.out⟩
        · have f92 : ((s[k].toNat : Int) != 92) = true := by
            have e : ((s[k].toNat : Int) == 92) = false := neb _ 92 c92
            simp only [bne, e]; rfl
          have HR := Lib.hid (u_step hu s[k] (j := k + 1) (by omega) (by omega) (by rw [hd]; exact uq_plain c34 (by rintro (h | h); exact clo h; exact c127 h) c92))
          clear hu hd hk' neb nlt c34 hown clo c127 c92
          go_wp2_with (first | (at_builtin; refine app_bytes _ rfl _ _ rfl [s[k]] rfl HOWN.out _ rfl _ rfl (by simp; omega) hsz ?_; intro v' w2 hown2 hb2))
          go_roundw
          case rel => exact ⟨k + 1, _, congrArg (Value.int .i64) (by omega), hown2, HBW.out.trans hb2, HR.out⟩
          case measure => simp [intOf]; omega
      · have HR := Lib.hid (u_bad hu (by rw [List.drop_eq_nil_of_le (by omega)]; rfl))
        clear hu hown
        go_wp2
        go_ret3
        exact ⟨by rw [HR.out]; rfl, HBW.out⟩
  · have HV := Lib.hid (u_not (l := s.data.toList) (by rw [hh]; simpa using hq))
    have g0 : ((s[0].toNat : Int) != 34) = true := by
      simp only [bne_iff_ne, ne_eq]
      exact fun e => hq (UInt8.toNat_inj.1 (by have e : (34 : UInt8).toNat = 34 := rfl; omega))
    clear hh hq
    go_enter Tryz.func29, Tryz.ntmps29
    go_wp2
    go_ret3
    exact ⟨by rw [HV.out]; rfl, Below.refl _ _⟩
end Go.Proofs.YtfnemklcmhilnaaGreatDoor
