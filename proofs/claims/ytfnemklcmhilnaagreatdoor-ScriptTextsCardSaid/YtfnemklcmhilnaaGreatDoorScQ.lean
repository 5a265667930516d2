/- The quoted text: what quote hands back. -/
import Derived.Test.YtfnemklcmhilnaaGreatDoorScC
import Derived.BigQuiet
import Derived.Deep.QuietTactic
import Derived.IntWalk
import Derived.Test.YtfnemklcmhilnaaGreatDoorScR
namespace Go.Proofs.YtfnemklcmhilnaaGreatDoor
open Go.RowKit
open Go.Lib hiding intOf
def QRel (l : List UInt8) (i : Nat) (acc : List UInt8) : Prop := i ≤ l.length ∧ acc.length ≤ 1 + 4 * i ∧ acc ++ qb (l.drop i) = 34 :: qb l
theorem q_start (l : List UInt8) : QRel l 0 [34] := ⟨Nat.zero_le _, by simp, by simp⟩
theorem q_step {l acc : List UInt8} {i r n : Nat} (h : QRel l i acc) (hi : i < l.length) (hd : dec (l.drop i) = (r, n)) : QRel l (i + n) (acc ++ one l[i] (l.drop (i + 1))) := by
  obtain ⟨h1, h2, h3⟩ := h
  have hw := dec_width l[i] (l.drop (i + 1))
  have hl := dec_le l[i] (l.drop (i + 1))
  have ho := one_len l[i] (l.drop (i + 1))
  rw [← drop_cons hi, hd] at hw hl ho
  simp only [List.length_drop] at hl hw ho
  refine ⟨by omega, by rw [List.length_append]; omega, ?_⟩
  rw [← h3, drop_cons hi]
  conv => rhs; rw [qb]
  rw [← drop_cons hi, hd, List.drop_drop, show i + 1 + (n - 1) = i + n by omega, List.append_assoc]
theorem q_done {l acc : List UInt8} {i : Nat} (h : QRel l i acc) (hi : ¬ i < l.length) : acc = 34 :: qb l := by
  have := h.2.2
  rw [List.drop_eq_nil_of_le (by omega)] at this
  simpa [qb] using this
theorem own_one (w : World) (c : UInt8) : OwnB w.heap.size (.slice (some ⟨w.heap.size, 0, none⟩) 1 1) [c] (w.alloc (.cells #[.int .u8 c.toNat] 5)) :=
  ⟨rfl, .inr ⟨w.heap.size, 1, _, rfl, Nat.le_refl _, heap_alloc_new w _, Nat.le_refl _, by unfold maxLen; decide, rfl, rfl⟩⟩
def hexs : Value := .string ⟨#[48, 49, 50, 51, 52, 53, 54, 55, 56, 57, 97, 98, 99, 100, 101, 102]⟩
theorem hex_fin (d : Nat) (hd : d < 16) (w : World) : (Instr.index 9 (.string ⟨#[48, 49, 50, 51, 52, 53, 54, 55, 56, 57, 97, 98, 99, 100, 101, 102]⟩) (.int .u8 (d : Int))).run Tryz.prog w = .ok (.int .u8 ((hexd (UInt8.ofNat d)).toNat : Int)) w := by
  have h : d = 0 ∨ d = 1 ∨ d = 2 ∨ d = 3 ∨ d = 4 ∨ d = 5 ∨ d = 6 ∨ d = 7 ∨ d = 8 ∨ d = 9 ∨ d = 10 ∨ d = 11 ∨ d = 12 ∨ d = 13 ∨ d = 14 ∨ d = 15 := by omega
  rcases h with rfl | rfl | rfl | rfl | rfl | rfl | rfl | rfl | rfl | rfl | rfl | rfl | rfl | rfl | rfl | rfl <;> (rw [run_index_string w _ _ _ _ Tryz.underlying9]; rfl)
theorem hex_hi (c : UInt8) (w : World) : (Instr.index 9 (.string ⟨#[48, 49, 50, 51, 52, 53, 54, 55, 56, 57, 97, 98, 99, 100, 101, 102]⟩) (.int .u8 ((c.toNat : Int) / 16))).run Tryz.prog w = .ok (.int .u8 ((hexd (c / 16)).toNat : Int)) w := by
  have h := hex_fin (c.toNat / 16) (by have := c.toNat_lt; omega) w
  have e : UInt8.ofNat (c.toNat / 16) = c / 16 := all_bytes (p := fun c => UInt8.ofNat (c.toNat / 16) = c / 16) (by decide +kernel) c
  rw [e] at h
  exact h
theorem hex_lo (c : UInt8) (w : World) : (Instr.index 9 (.string ⟨#[48, 49, 50, 51, 52, 53, 54, 55, 56, 57, 97, 98, 99, 100, 101, 102]⟩) (.int .u8 (bits .and .u8 (c.toNat : Int) 15))).run Tryz.prog w = .ok (.int .u8 ((hexd (c % 16)).toNat : Int)) w := by
  have h := hex_fin (c.toNat % 16) (Nat.mod_lt _ (by decide)) w
  have e : UInt8.ofNat (c.toNat % 16) = c % 16 := all_bytes (p := fun c => UInt8.ofNat (c.toNat % 16) = c % 16) (by decide +kernel) c
  have e2 : bits .and .u8 (c.toNat : Int) 15 = ((c.toNat % 16 : Nat) : Int) := all_bytes (p := fun c => bits .and .u8 (c.toNat : Int) 15 = ((c.toNat % 16 : Nat) : Int)) (by decide +kernel) c
  rw [e] at h
  rw [e2]
  exact h
theorem reg_bytes {Q : Exit → Act → World → Prop} {id : Nat} {a : Act} {w : World} {l : List Oper} (n : Nat) (ob oa os : Oper) {aF : Act} (ns : List UInt8) {B : Nat} {v : Value} {acc : List UInt8}
    (hlen : l.length = n + 3) (hs : Region.noSelect l.toArray = true) (hB : Mix.lexTo .any l.toArray n 0 (Array.replicate l.length false) = some (List.replicate n true ++ List.replicate (l.length - n) false).toArray)
    (hd : Mix.dstsB a.tmps.size (l.take n) [] = true) (h1 : l[n]? = some ob) (h2 : l[n + 1]? = some oa) (h3 : l[n + 2]? = some os) (g1 : ob.guard = none) (g2 : oa.guard = none) (g3 : os.guard = none)
    (hr0 : Region.ready .any l.toArray (List.replicate n true ++ List.replicate 3 false).toArray = [n])
    (hr1 : Region.ready .any l.toArray ((List.replicate n true ++ List.replicate 3 false).toArray.setIfInBounds n true) = [n + 1])
    (hr2 : Region.ready .any l.toArray (((List.replicate n true ++ List.replicate 3 false).toArray.setIfInBounds n true).setIfInBounds (n + 1) true) = [n + 2])
    (hr3 : Region.ready .any l.toArray ((((List.replicate n true ++ List.replicate 3 false).toArray.setIfInBounds n true).setIfInBounds (n + 1) true).setIfInBounds (n + 2) true) = [])
    (s x : Operand) (ho : oa.op = .call { callee := .builtin .append, args := #[s, x], argTypes := #[37, 37] })
    (hown : OwnB B v acc w) (hlb : acc.length + ns.length ≤ 140737488355328) (hBw : B ≤ w.heap.size)
    (hA : ∀ ρ : World, wpQuiet Tryz.prog l.toArray (fun w' => ∃ n, w' = ρ.drewN n) (fun a' => a' = aF) (l.take n) a)
    (hb : ∀ W : World, (execOp aF.eval ob).run Tryz.prog W = .ok (.value (.slice (some ⟨W.heap.size, 0, none⟩) ns.length ns.length)) (W.alloc (.cells (byteCells ns).toArray 5)))
    (hsv : ∀ bv, (aF.put ob.dst bv).eval s = v) (hx : ∀ bv, (aF.put ob.dst bv).eval x = bv)
    (hos : ∀ bv v' W, (execOp ((aF.put ob.dst bv).put oa.dst v').eval os).run Tryz.prog W = .ok (.value v') W)
    (hK : ∀ v' W, OwnB B v' (acc ++ ns) W → Below B w W → Q .normal (((aF.put ob.dst (.slice (some ⟨w.heap.size, 0, none⟩) ns.length ns.length)).put oa.dst v').put os.dst v') W) : (Code.region id l.toArray true).wp Tryz.prog Q a w := by
  obtain ⟨i0, hi, hz0, hz1, hz2⟩ := info_parts info_u8
  refine Mix.wp_region_app n ob oa os (by kernel_rfl) hlen hs hB hd h1 h2 h3 g1 g2 g3 hr0 hr1 hr2 hr3 hA (byteCells ns).toArray 5 ns.length ns.length hb s x 37 ho B i0 (.int .u8 0) 1 1 Tryz.underlying37 hi hz0 hz1 hz2 rfl (by decide) v acc.length (byteCells acc) hown hsv hx (by simp [byteCells]) (by simpa using byteCells_one' ns) (by unfold maxLen; omega) (by omega) hBw hos ?_
  intro v' W h1 h2
  refine hK v' W ?_ h2
  unfold OwnB
  rw [byteCells_append, List.length_append]
  exact h1
set_option maxHeartbeats 1000000 in
set_option maxRecDepth 100000 in
theorem quote_any (s : ByteArray) (w : World) (hs : s.size ≤ 35184372088000) (hT : Tabs w) :
    Calls Tryz.prog 31 #[.string s] w fun e w' => e = .returned (.string ⟨(34 :: qb s.data.toList ++ [34]).toArray⟩) ∧ Below w.heap.size w w' := by
  have HT := Lib.hid hT
  clear hT
  go_enter Tryz.func31, Tryz.ntmps31
  go_wp2
  go_loopw [3, 4] (fun b i wr => ∃ (k : Nat) (acc : List UInt8), i = .int .i64 k ∧ OwnB w.heap.size b acc wr ∧ Below w.heap.size w wr ∧ QRel s.data.toList k acc) (fun _ i _ => s.size - (intOf i).toNat)
  case atStart => exact ⟨0, [34], rfl, own_one w 34, (Below.refl _ w).alloc (Nat.le_refl _) _, q_start _⟩
  case round =>
    obtain ⟨k, acc, rfl, hown, hbw, hq⟩ := hrel
    have hl : s.data.toList.length = s.size := by simp
    have hsz := hbw.size
    by_cases hp : k < s.size
    · obtain ⟨r, n, hd⟩ : ∃ r n : Nat, dec (s.data.toList.drop k) = (r, n) := ⟨_, _, rfl⟩
      have hgo : Lib.decodeGo (s.extract k s.size) = (r, n) := by rw [decGo_is _ _ hp, hd]
      have hT2 := Lib.hid (HT.out.below hbw)
      have hk : (s.data.toList)[k]'(by omega) = s[k] := rfl
      have hst := q_step hq (by omega) hd
      rw [hk] at hst
      have hlen := hq.2.1
      have hon : n ≤ s.size - k ∧ 1 ≤ n := by
        have := dec_width s.data.toList[k] (s.data.toList.drop (k + 1))
        have h2 := dec_le s.data.toList[k] (s.data.toList.drop (k + 1))
        rw [← drop_cons (by omega), hd] at this h2
        simp only [List.length_drop] at h2 this
        omega
      obtain ⟨hn1, hn2⟩ := hon
      have hle : (k : Int) ≤ s.size := by omega
      have hdr : s.data.toList.drop k = s[k] :: s.data.toList.drop (k + 1) := drop_cons (by omega)
      generalize hrest : s.data.toList.drop (k + 1) = rest at *
      rw [hdr] at hd
      have HGO := Lib.hid hgo
      have HDR := Lib.hid hdr.symm
      have HST := Lib.hid hst
      have HD := Lib.hid hd
      have HOWN := Lib.hid hown
      have HBW := Lib.hid hbw
      clear hgo hst hd hown hbw hq hdr hrest hk
      have hb1 : IntKind.i64.wrap ((k : Int) + n) = (k : Int) + n := IntWalk.i64_in _ (by omega)
      by_cases c92 : s[k] = 92
      · have g0 : ((s[k].toNat : Int) == 92) = true := by rw [c92]; rfl
        have ho : one s[k] rest = [92, s[k]] := by unfold one; rw [if_pos (.inl c92)]
        rw [ho] at HST
        clear HD ho c92
        go_wp2_with (first
          | (go_at_call 24; refine (Tryz.utf8_DecodeRuneInString _ _ hT2.out).mono ?_; rw [HGO.out]; rintro e w1 ⟨rfl, hw1⟩)
          | (at_builtin; refine app_bytes _ rfl _ _ rfl [92, s[k]] rfl (HOWN.out.below hw1) _ rfl _ rfl (by simp; omega) (Nat.le_trans hsz hw1.size) ?_; intro v' w2 hown2 hb2))
        go_roundw
        case rel => exact ⟨k + n, _, by simp, hown2, (HBW.out.trans (hw1.mono hsz)).trans hb2, HST.out⟩
        case measure => simp [intOf]; omega
      by_cases c34 : s[k] = 34
      · have g0 : ((s[k].toNat : Int) == 92) = false := by rw [c34]; rfl
        have g1 : ((s[k].toNat : Int) == 34) = true := by rw [c34]; rfl
        have ho : one s[k] rest = [92, s[k]] := by unfold one; rw [if_pos (.inr c34)]
        rw [ho] at HST
        clear HD ho c34 c92
        go_wp2_with (first
          | (go_at_call 24; refine (Tryz.utf8_DecodeRuneInString _ _ hT2.out).mono ?_; rw [HGO.out]; rintro e w1 ⟨rfl, hw1⟩)
          | (at_builtin; refine app_bytes _ rfl _ _ rfl [92, s[k]] rfl (HOWN.out.below hw1) _ rfl _ rfl (by simp; omega) (Nat.le_trans hsz hw1.size) ?_; intro v' w2 hown2 hb2))
        go_roundw
        case rel => exact ⟨k + n, _, by simp, hown2, (HBW.out.trans (hw1.mono hsz)).trans hb2, HST.out⟩
        case measure => simp [intOf]; omega
      by_cases c10 : s[k] = 10
      · have g0 : ((s[k].toNat : Int) == 92) = false := by rw [c10]; rfl
        have g1 : ((s[k].toNat : Int) == 34) = false := by rw [c10]; rfl
        have g2 : ((s[k].toNat : Int) == 10) = true := by rw [c10]; rfl
        have ho : one s[k] rest = [92, 110] := by unfold one; rw [if_neg (by simp [c92, c34]), if_pos c10]
        rw [ho] at HST
        clear HD ho c10 c92 c34
        go_wp2_with (first
          | (go_at_call 24; refine (Tryz.utf8_DecodeRuneInString _ _ hT2.out).mono ?_; rw [HGO.out]; rintro e w1 ⟨rfl, hw1⟩)
          | (at_builtin; refine app_bytes _ rfl _ _ rfl [92, 110] rfl (HOWN.out.below hw1) _ rfl _ rfl (by simp; omega) (Nat.le_trans hsz hw1.size) ?_; intro v' w2 hown2 hb2))
        go_roundw
        case rel => exact ⟨k + n, _, by simp, hown2, (HBW.out.trans (hw1.mono hsz)).trans hb2, HST.out⟩
        case measure => simp [intOf]; omega
      by_cases c13 : s[k] = 13
      · have g0 : ((s[k].toNat : Int) == 92) = false := by rw [c13]; rfl
        have g1 : ((s[k].toNat : Int) == 34) = false := by rw [c13]; rfl
        have g2 : ((s[k].toNat : Int) == 10) = false := by rw [c13]; rfl
        have g3 : ((s[k].toNat : Int) == 13) = true := by rw [c13]; rfl
        have ho : one s[k] rest = [92, 114] := by unfold one; rw [if_neg (by simp [c92, c34]), if_neg c10, if_pos c13]
        rw [ho] at HST
        clear HD ho c13 c92 c34 c10
        go_wp2_with (first
          | (go_at_call 24; refine (Tryz.utf8_DecodeRuneInString _ _ hT2.out).mono ?_; rw [HGO.out]; rintro e w1 ⟨rfl, hw1⟩)
          | (at_builtin; refine app_bytes _ rfl _ _ rfl [92, 114] rfl (HOWN.out.below hw1) _ rfl _ rfl (by simp; omega) (Nat.le_trans hsz hw1.size) ?_; intro v' w2 hown2 hb2))
        go_roundw
        case rel => exact ⟨k + n, _, by simp, hown2, (HBW.out.trans (hw1.mono hsz)).trans hb2, HST.out⟩
        case measure => simp [intOf]; omega
      by_cases c9 : s[k] = 9
      · have g0 : ((s[k].toNat : Int) == 92) = false := by rw [c9]; rfl
        have g1 : ((s[k].toNat : Int) == 34) = false := by rw [c9]; rfl
        have g2 : ((s[k].toNat : Int) == 10) = false := by rw [c9]; rfl
        have g3 : ((s[k].toNat : Int) == 13) = false := by rw [c9]; rfl
        have g4 : ((s[k].toNat : Int) == 9) = true := by rw [c9]; rfl
        have ho : one s[k] rest = [92, 116] := by unfold one; rw [if_neg (by simp [c92, c34]), if_neg c10, if_neg c13, if_pos c9]
        rw [ho] at HST
        clear HD ho c9 c92 c34 c10 c13
        go_wp2_with (first
          | (go_at_call 24; refine (Tryz.utf8_DecodeRuneInString _ _ hT2.out).mono ?_; rw [HGO.out]; rintro e w1 ⟨rfl, hw1⟩)
          | (at_builtin; refine app_bytes _ rfl _ _ rfl [92, 116] rfl (HOWN.out.below hw1) _ rfl _ rfl (by simp; omega) (Nat.le_trans hsz hw1.size) ?_; intro v' w2 hown2 hb2))
        go_roundw
        case rel => exact ⟨k + n, _, by simp, hown2, (HBW.out.trans (hw1.mono hsz)).trans hb2, HST.out⟩
        case measure => simp [intOf]; omega
      have ne : ∀ b : UInt8, s[k] ≠ b → ((s[k].toNat : Int) == (b.toNat : Int)) = false := fun b h => by
        simp only [beq_eq_false_iff_ne, ne_eq, Int.ofNat_inj]
        exact fun e => h (UInt8.toNat_inj.1 e)
      have g0 : ((s[k].toNat : Int) == 92) = false := ne 92 c92
      have g1 : ((s[k].toNat : Int) == 34) = false := ne 34 c34
      have g2 : ((s[k].toNat : Int) == 10) = false := ne 10 c10
      have g3 : ((s[k].toNat : Int) == 13) = false := ne 13 c13
      have g4 : ((s[k].toNat : Int) == 9) = false := ne 9 c9
      have one_bad : (dec (s[k] :: rest) = (65533, 1) ∨ s[k] < 32 ∨ s[k] = 127) → one s[k] rest = [92, 120, hexd (s[k] / 16), hexd (s[k] % 16)] := fun h => by
        unfold one; rw [if_neg (by simp [c92, c34]), if_neg c10, if_neg c13, if_neg c9, if_pos h]
      have one_good : ¬ (dec (s[k] :: rest) = (65533, 1) ∨ s[k] < 32 ∨ s[k] = 127) → one s[k] rest = (s[k] :: rest).take n := fun h => by
        unfold one; rw [if_neg (by simp [c92, c34]), if_neg c10, if_neg c13, if_neg c9, if_neg h, HD.out]
      have hx : ∀ d : UInt8, d < 16 → d.toNat < 16 := fun d h => h
      clear ne c92 c34 c10 c13 c9
      by_cases hbad : r = 65533 ∧ n = 1
      · have q1 : ((r : Int) == 65533) = true := by rw [hbad.1]; rfl
        have q2 : ((n : Int) == 1) = true := by rw [hbad.2]; rfl
        rw [one_bad (.inl (by rw [HD.out, hbad.1, hbad.2]))] at HST
        clear HD hbad one_bad one_good
        go_wp2_with (first
          | (go_at_call 24; refine (Tryz.utf8_DecodeRuneInString _ _ hT2.out).mono ?_; rw [HGO.out]; rintro e w1 ⟨rfl, hw1⟩))
        have i1 := hex_hi s[k]
        have i2 := hex_lo s[k]
        refine reg_bytes (aF := ?_) 7 _ _ _ [92, 120, hexd (s[k] / 16), hexd (s[k] % 16)] rfl (by kernel_rfl) (by kernel_rfl) (by kernel_rfl) rfl rfl rfl rfl rfl rfl (by kernel_rfl) (by kernel_rfl) (by kernel_rfl) (by kernel_rfl) _ _ rfl (HOWN.out.below hw1) (by simp; omega) (Nat.le_trans hsz hw1.size) ?_ ?_ ?_ ?_ ?_ ?_
        rotate_left 1
        · intro ρ
          simp only [List.take_succ_cons, List.take_zero]
          repeat (go_big_quiet_step (fail))
          refine wpQuiet_nil ?_
          exact rfl
        · intro W
          go_simp
          rfl
        · intro bv; rfl
        · intro bv; rfl
        · intro bv v' W; rfl
        · clear i1 i2
          intro v' w2 hown2 hb2
          simp only [Act.put, List.setIfInBounds_toArray, List.set_cons_zero, List.set_cons_succ]
          go_wp2
          go_roundw
          case rel => exact ⟨k + n, _, by simp, hown2, (HBW.out.trans (hw1.mono hsz)).trans hb2, HST.out⟩
          case measure => simp [intOf]; omega
      have q : ((r : Int) == 65533) = false ∨ (((r : Int) == 65533) = true ∧ ((n : Int) == 1) = false) := by
        by_cases h : r = 65533
        · exact .inr ⟨by simp; omega, by simp; omega⟩
        · exact .inl (by simp; omega)
      have n127 : (s[k].toNat : Int) = 127 → s[k] = 127 := fun h => UInt8.toNat_inj.1 (by have e : (127 : UInt8).toNat = 127 := rfl; omega)
      have hlow : (s[k] < 32) = ((s[k].toNat : Int) < 32) := propext ⟨fun h => by have : s[k].toNat < 32 := h; omega, fun h => by show s[k].toNat < 32; omega⟩
      have h127 : (s[k] = 127) = (((s[k].toNat : Int) == 127) = true) := propext ⟨fun h => by rw [h]; rfl, fun h => n127 (by simpa using h)⟩
      have hD : ¬ dec (s[k] :: rest) = (65533, 1) := by rw [HD.out]; simpa using hbad
      rw [hlow, h127] at one_bad one_good
      clear hlow h127
      by_cases hlo : (s[k].toNat : Int) < 32
      · rw [one_bad (.inr (.inl hlo))] at HST
        clear HD hbad one_bad one_good hD
        rcases q with q | ⟨q, q2⟩
        all_goals
          go_wp2_with (first
            | (go_at_call 24; refine (Tryz.utf8_DecodeRuneInString _ _ hT2.out).mono ?_; rw [HGO.out]; rintro e w1 ⟨rfl, hw1⟩))
          clear hlo
          have i1 := hex_hi s[k]
          have i2 := hex_lo s[k]
          refine reg_bytes (aF := ?_) 7 _ _ _ [92, 120, hexd (s[k] / 16), hexd (s[k] % 16)] rfl (by kernel_rfl) (by kernel_rfl) (by kernel_rfl) rfl rfl rfl rfl rfl rfl (by kernel_rfl) (by kernel_rfl) (by kernel_rfl) (by kernel_rfl) _ _ rfl (HOWN.out.below hw1) (by simp; omega) (Nat.le_trans hsz hw1.size) ?_ ?_ ?_ ?_ ?_ ?_
          rotate_left 1
          · intro ρ
            simp only [List.take_succ_cons, List.take_zero]
            repeat (go_big_quiet_step (fail))
            refine wpQuiet_nil ?_
            exact rfl
          · intro W
            go_simp
            rfl
          · intro bv; rfl
          · intro bv; rfl
          · intro bv v' W; rfl
          · clear i1 i2
            intro v' w2 hown2 hb2
            simp only [Act.put, List.setIfInBounds_toArray, List.set_cons_zero, List.set_cons_succ]
            go_wp2
            go_roundw
            case rel => exact ⟨k + n, _, by simp, hown2, (HBW.out.trans (hw1.mono hsz)).trans hb2, HST.out⟩
            case measure => simp [intOf]; omega
      by_cases h7 : ((s[k].toNat : Int) == 127) = true
      · rw [one_bad (.inr (.inr h7))] at HST
        clear HD hbad one_bad one_good hD
        rcases q with q | ⟨q, q2⟩
        all_goals
          go_wp2_with (first
            | (go_at_call 24; refine (Tryz.utf8_DecodeRuneInString _ _ hT2.out).mono ?_; rw [HGO.out]; rintro e w1 ⟨rfl, hw1⟩))
          clear h7
          have i1 := hex_hi s[k]
          have i2 := hex_lo s[k]
          refine reg_bytes (aF := ?_) 7 _ _ _ [92, 120, hexd (s[k] / 16), hexd (s[k] % 16)] rfl (by kernel_rfl) (by kernel_rfl) (by kernel_rfl) rfl rfl rfl rfl rfl rfl (by kernel_rfl) (by kernel_rfl) (by kernel_rfl) (by kernel_rfl) _ _ rfl (HOWN.out.below hw1) (by simp; omega) (Nat.le_trans hsz hw1.size) ?_ ?_ ?_ ?_ ?_ ?_
          rotate_left 1
          · intro ρ
            simp only [List.take_succ_cons, List.take_zero]
            repeat (go_big_quiet_step (fail))
            refine wpQuiet_nil ?_
            exact rfl
          · intro W
            go_simp
            rfl
          · intro bv; rfl
          · intro bv; rfl
          · intro bv v' W; rfl
          · clear i1 i2
            intro v' w2 hown2 hb2
            simp only [Act.put, List.setIfInBounds_toArray, List.set_cons_zero, List.set_cons_succ]
            go_wp2
            go_roundw
            case rel => exact ⟨k + n, _, by simp, hown2, (HBW.out.trans (hw1.mono hsz)).trans hb2, HST.out⟩
            case measure => simp [intOf]; omega
      have hx2 : s.extract k (k + n) = ⟨((s[k] :: rest).take n).toArray⟩ := ext_list (by
        rw [HDR.out]
        simp [ByteArray.data_extract])
      have HX := Lib.hid hx2
      have h7' : ((s[k].toNat : Int) == 127) = false := by simpa using h7
      rw [one_good (by rintro (h | h | h); exact hD h; exact hlo h; exact h7 h)] at HST
      clear HD hbad one_bad one_good hx2 h7 hD
      have b2 : ((k : Int) + n).toNat = k + n := by omega
      have b3 : (k : Int) ≤ (k : Int) + n := by omega
      have b4 : (k : Int) + n ≤ s.size := by omega
      rcases q with q | ⟨q, q2⟩
      all_goals
        go_wp2_with (first
          | (go_at_call 24; refine (Tryz.utf8_DecodeRuneInString _ _ hT2.out).mono ?_; rw [HGO.out]; rintro e w1 ⟨rfl, hw1⟩)
          | (at_builtin; refine app_str _ rfl _ _ rfl rfl (HOWN.out.below hw1) (s.extract k (k + n)) rfl (by simp [ByteArray.size_extract]; omega) (Nat.le_trans hsz hw1.size) ?_; intro v' w2 hown2 hb2 hg2))
        rw [HX.out] at hown2
        go_roundw
        case rel => exact ⟨k + n, _, by simp, hown2, (HBW.out.trans (hw1.mono hsz)).trans hb2, HST.out⟩
        case measure => simp [intOf]; omega
    · obtain rfl := q_done hq (by omega)
      have hlen := hq.2.1
      have hlk := hq.1
      rw [hl] at hlk
      have hlen2 : (34 :: qb s.data.toList).length + 1 ≤ 140737488355328 := by omega
      have HOWN := Lib.hid hown
      have HBW := Lib.hid hbw
      clear hown hbw hq hlen
      go_wp2_with (at_builtin; refine app_bytes _ rfl _ _ rfl [34] rfl HOWN.out _ rfl _ rfl hlen2 hsz ?_)
      intro v' w2 hown2 hb2
      obtain ⟨ao, cp2, rfl⟩ := hown2.slice
      have hstr := str_of hown2
      have hlen3 : (34 :: (qb s.data.toList ++ [34])).length = (qb s.data.toList).length + 1 + 1 := by simp
      rw [hlen3] at hstr
      simp only [hlen3]
      have HL := Lib.hid hlen3
      clear hlen3 hlen2
      go_wp2
      go_ret
      exact ⟨rfl, HBW.out.trans hb2⟩
end Go.Proofs.YtfnemklcmhilnaaGreatDoor
