/- CapsLaws: whatever the three capabilities, the law answers true. -/
import Derived.Test.YtfgglegimajghaaN
import Derived.Test.YtfgglegimajghaaThree
import Derived.BigQuiet
import Derived.BigGuardPart
import Derived.Deep.DeepCutAuto
namespace Go.Proofs.Ytfgglegimajghaa
open Go.RowKit

theorem chain_eq {α : Type} {a b : Cp} (h : a = b) (t f : α) : (if a.k = b.k then (if a.y = b.y then (if a.r = b.r then (if a.ib = b.ib then (if a.d = b.d then (if a.s = b.s then (if a.o = b.o then (if a.sh = b.sh then (if a.c = b.c then (if a.m = b.m then t else f) else f) else f) else f) else f) else f) else f) else f) else f) else f) = t := by
  subst h
  simp
theorem laws_ways {a b c : Cp} (wa : a.Wf) (wb : b.Wf) (ha : a.ok = true) (hb : b.ok = true) (hc : c.ok = true) {p q r s : Bool} (hp : a.le b = p) (hq : b.le a = q) (hr : b.le c = r) (hs : a.le c = s) :
    p = false ∨ (p = true ∧ q = true ∧ a = b ∧ r = true ∧ s = true) ∨ (p = true ∧ q = true ∧ a = b ∧ r = false) ∨ (p = true ∧ q = false ∧ a ≠ b ∧ r = true ∧ s = true) ∨ (p = true ∧ q = false ∧ a ≠ b ∧ r = false) := by
  subst hp hq hr hs
  cases h1 : a.le b
  · exact .inl rfl
  · have hne : b.le a = false → a ≠ b := by
      rintro h rfl
      rw [le_refl] at h
      cases h
    cases h2 : b.le a <;> cases h3 : b.le c
    · exact .inr (.inr (.inr (.inr ⟨rfl, rfl, hne h2, rfl⟩)))
    · exact .inr (.inr (.inr (.inl ⟨rfl, rfl, hne h2, rfl, le_trans ha hb hc h1 h3⟩)))
    · exact .inr (.inr (.inl ⟨rfl, rfl, le_antisymm wa wb h1 h2, rfl⟩))
    · exact .inr (.inl ⟨rfl, rfl, le_antisymm wa wb h1 h2, rfl, le_trans ha hb hc h1 h3⟩)
set_option maxRecDepth 100000 in
set_option maxHeartbeats 16000000 in
theorem laws_walk (a b c : Cp) (wa : a.Wf) (wb : b.Wf) (_wc : c.Wf) (w : World) : Calls Try.prog 7 #[.agg #[.int .u16 a.k, .int .u16 a.y, .int .u16 a.r, .int .i64 a.ib, .int .i64 a.d, .int .i64 a.s, .bool a.o, .bool a.sh, .bool a.c, .bool a.m, .int .u16 b.k, .int .u16 b.y, .int .u16 b.r, .int .i64 b.ib, .int .i64 b.d, .int .i64 b.s, .bool b.o, .bool b.sh, .bool b.c, .bool b.m, .int .u16 c.k, .int .u16 c.y, .int .u16 c.r, .int .i64 c.ib, .int .i64 c.d, .int .i64 c.s, .bool c.o, .bool c.sh, .bool c.c, .bool c.m]] w fun e w' => e = .returned (.bool true) ∧ Below w.heap.size w w' := by
  go_enter Try.func7, Try.ntmps7
  go_wp2_with (go_at_call 9; ((with_reducible refine (awake_any _).mono ?_); rintro e w1 ⟨rfl, hb1⟩))
  have l1 : w.heap.size < w1.heap.size := by have := hb1.size; simp at this; omega
  have q1 : w1.heap[w.heap.size]? = some (.cells #[.int .u16 a.k, .int .u16 a.y, .int .u16 a.r, .int .i64 a.ib, .int .i64 a.d, .int .i64 a.s, .bool a.o, .bool a.sh, .bool a.c, .bool a.m, .int .u16 b.k, .int .u16 b.y, .int .u16 b.r, .int .i64 b.ib, .int .i64 b.d, .int .i64 b.s, .bool b.o, .bool b.sh, .bool b.c, .bool b.m, .int .u16 c.k, .int .u16 c.y, .int .u16 c.r, .int .i64 c.ib, .int .i64 c.d, .int .i64 c.s, .bool c.o, .bool c.sh, .bool c.c, .bool c.m] 35) := by
    have := hb1.block w.heap.size (by simp)
    rw [this]; exact new_at _ _
  have hB1 : Below w.heap.size w w1 := ((Below.refl _ _).alloc (Nat.le_refl _) _).trans (hb1.mono (by simp))
  clear hb1
  have HB1 := Lib.hid hB1
  clear hB1
  go_loopw [3] (fun i wr => ∃ k : Nat, k ≤ 3 ∧ i = .int .i64 k ∧ Hid (Below w.heap.size w wr ∧ w.heap.size < wr.heap.size ∧ wr.heap[w.heap.size]? = some (.cells #[.int .u16 a.k, .int .u16 a.y, .int .u16 a.r, .int .i64 a.ib, .int .i64 a.d, .int .i64 a.s, .bool a.o, .bool a.sh, .bool a.c, .bool a.m, .int .u16 b.k, .int .u16 b.y, .int .u16 b.r, .int .i64 b.ib, .int .i64 b.d, .int .i64 b.s, .bool b.o, .bool b.sh, .bool b.c, .bool b.m, .int .u16 c.k, .int .u16 c.y, .int .u16 c.r, .int .i64 c.ib, .int .i64 c.d, .int .i64 c.s, .bool c.o, .bool c.sh, .bool c.c, .bool c.m] 35) ∧ (0 < k → a.ok = true) ∧ (1 < k → b.ok = true) ∧ (2 < k → c.ok = true))) (fun i _ => 3 - (intOf i).toNat)
  case atStart => exact ⟨0, by omega, rfl, ⟨HB1.out, l1, q1, fun h => absurd h (by decide), fun h => absurd h (by decide), fun h => absurd h (by decide)⟩⟩
  case round =>
    clear q1 l1 HB1
    obtain ⟨k, hk, rfl, hr⟩ := hrel
    obtain ⟨hB, hl, hq, ka, kb, kc⟩ := hr
    have c0 := cell_at' hq 0
    have c1 := cell_at' hq 1
    have c2 := cell_at' hq 2
    have c3 := cell_at' hq 3
    have c4 := cell_at' hq 4
    have c5 := cell_at' hq 5
    have c6 := cell_at' hq 6
    have c7 := cell_at' hq 7
    have c8 := cell_at' hq 8
    have c9 := cell_at' hq 9
    have c10 := cell_at' hq 10
    have c11 := cell_at' hq 11
    have c12 := cell_at' hq 12
    have c13 := cell_at' hq 13
    have c14 := cell_at' hq 14
    have c15 := cell_at' hq 15
    have c16 := cell_at' hq 16
    have c17 := cell_at' hq 17
    have c18 := cell_at' hq 18
    have c19 := cell_at' hq 19
    have c20 := cell_at' hq 20
    have c21 := cell_at' hq 21
    have c22 := cell_at' hq 22
    have c23 := cell_at' hq 23
    have c24 := cell_at' hq 24
    have c25 := cell_at' hq 25
    have c26 := cell_at' hq 26
    have c27 := cell_at' hq 27
    have c28 := cell_at' hq 28
    have c29 := cell_at' hq 29
    simp only [List.getElem?_toArray, List.getElem?_cons_zero, List.getElem?_cons_succ] at c0 c1 c2 c3 c4 c5 c6 c7 c8 c9 c10 c11 c12 c13 c14 c15 c16 c17 c18 c19 c20 c21 c22 c23 c24 c25 c26 c27 c28 c29
    have HB := Lib.hid hB
    have HQ := Lib.hid hq
    have KA := Lib.hid ka
    have KB := Lib.hid kb
    have KC := Lib.hid kc
    clear hB hq ka kb kc
    by_cases hlt : k < 3
    · have hk3 : k = 0 ∨ k = 1 ∨ k = 2 := by omega
      rcases hk3 with rfl | rfl | rfl
      · cases ha : a.ok
        · have H := Lib.hid ha
          clear ha
          go_wp2_with (go_at_call 12; ((with_reducible refine (checkN a H.out _).mono ?_); rintro e w2 ⟨rfl, hb2⟩))
          go_ret
          exact ⟨rfl, HB.out.trans (hb2.mono HB.out.size)⟩
        · have H := Lib.hid ha
          clear ha
          go_wp2_with (go_at_call 12; ((with_reducible refine (checkY a H.out _).mono ?_); rintro e w2 ⟨rfl, hb2⟩))
          go_roundw
          case rel => exact ⟨1, by omega, by go_num, ⟨HB.out.trans (hb2.mono HB.out.size), Nat.lt_of_lt_of_le hl hb2.size, Mix.block_grow hb2 HQ.out, fun _ => by first | trivial | rfl, fun h => absurd h (by decide), fun h => absurd h (by decide)⟩⟩
          case measure => simp [intOf]
      · cases hb : b.ok
        · have H := Lib.hid hb
          clear hb
          go_wp2_with (go_at_call 12; ((with_reducible refine (checkN b H.out _).mono ?_); rintro e w2 ⟨rfl, hb2⟩))
          go_ret
          exact ⟨rfl, HB.out.trans (hb2.mono HB.out.size)⟩
        · have H := Lib.hid hb
          clear hb
          go_wp2_with (go_at_call 12; ((with_reducible refine (checkY b H.out _).mono ?_); rintro e w2 ⟨rfl, hb2⟩))
          go_roundw
          case rel => exact ⟨2, by omega, by go_num, ⟨HB.out.trans (hb2.mono HB.out.size), Nat.lt_of_lt_of_le hl hb2.size, Mix.block_grow hb2 HQ.out, fun _ => KA.out (by decide), fun _ => by first | trivial | rfl, fun h => absurd h (by decide)⟩⟩
          case measure => simp [intOf]
      · cases hc : c.ok
        · have H := Lib.hid hc
          clear hc
          go_wp2_with (go_at_call 12; ((with_reducible refine (checkN c H.out _).mono ?_); rintro e w2 ⟨rfl, hb2⟩))
          go_ret
          exact ⟨rfl, HB.out.trans (hb2.mono HB.out.size)⟩
        · have H := Lib.hid hc
          clear hc
          go_wp2_with (go_at_call 12; ((with_reducible refine (checkY c H.out _).mono ?_); rintro e w2 ⟨rfl, hb2⟩))
          go_roundw
          case rel => exact ⟨3, by omega, by go_num, ⟨HB.out.trans (hb2.mono HB.out.size), Nat.lt_of_lt_of_le hl hb2.size, Mix.block_grow hb2 HQ.out, fun _ => KA.out (by decide), fun _ => KB.out (by decide), fun _ => by first | trivial | rfl⟩⟩
          case measure => simp [intOf]
    · obtain rfl : k = 3 := by omega
      have ha := KA.out (by decide)
      have hb := KB.out (by decide)
      have hc := KC.out (by decide)
      clear KA KB KC hlt hk
      obtain ⟨p, hp⟩ : ∃ p, a.le b = p := ⟨_, rfl⟩
      obtain ⟨q, hq⟩ : ∃ q, b.le a = q := ⟨_, rfl⟩
      obtain ⟨r, hr⟩ : ∃ r, b.le c = r := ⟨_, rfl⟩
      obtain ⟨s, hs⟩ : ∃ s, a.le c = s := ⟨_, rfl⟩
      have ways := laws_ways wa wb ha hb hc hp hq hr hs
      have G1 : Hid ((a.ok && a.ok && a.le a) = true) := by unfold Hid; rw [ha, le_refl]; rfl
      have G2 : Hid ((a.ok && b.ok && a.le b) = p) := by unfold Hid; rw [ha, hb, hp]; rfl
      have G3 : Hid ((b.ok && a.ok && b.le a) = q) := by unfold Hid; rw [ha, hb, hq]; rfl
      have G4 : Hid ((b.ok && c.ok && b.le c) = r) := by unfold Hid; rw [hb, hc, hr]; rfl
      have G5 : Hid ((a.ok && c.ok && a.le c) = s) := by unfold Hid; rw [ha, hc, hs]; rfl
      obtain ⟨mbc, hmbc⟩ : ∃ x, b.meet c = x := ⟨_, rfl⟩
      obtain ⟨m3, hm3⟩ : ∃ x, a.meet mbc = x := ⟨_, rfl⟩
      obtain ⟨mab, hmab⟩ : ∃ x, a.meet b = x := ⟨_, rfl⟩
      obtain ⟨jbc, hjbc⟩ : ∃ x, b.join c = x := ⟨_, rfl⟩
      obtain ⟨j3, hj3⟩ : ∃ x, a.join jbc = x := ⟨_, rfl⟩
      obtain ⟨jab, hjab⟩ : ∃ x, a.join b = x := ⟨_, rfl⟩
      have hm3' : mab.meet c = m3 := by rw [← hm3, ← hmbc, ← hmab]; exact (meet_assoc ha hb hc).symm
      have hj3' : jab.join c = j3 := by rw [← hj3, ← hjbc, ← hjab]; exact (join_assoc ha hb hc).symm
      have habs : a.meet jab = a := by rw [← hjab]; exact meet_join wa ha hb
      have habs' : a.join mab = a := by rw [← hmab]; exact join_meet wa ha hb
      have hmba : b.meet a = mab := by rw [← hmab]; exact (meet_comm ha hb).symm
      have ombc : mbc.ok = true := by rw [← hmbc]; exact meet_ok hb hc
      have omab : mab.ok = true := by rw [← hmab]; exact meet_ok ha hb
      have ojbc : jbc.ok = true := by rw [← hjbc]; exact join_ok hb hc
      have ojab : jab.ok = true := by rw [← hjab]; exact join_ok ha hb
      have Khmbc := Lib.hid hmbc
      have Khm3 := Lib.hid hm3
      have Khmab := Lib.hid hmab
      have Khjbc := Lib.hid hjbc
      have Khj3 := Lib.hid hj3
      have Khjab := Lib.hid hjab
      have Khm3' := Lib.hid hm3'
      have Khj3' := Lib.hid hj3'
      have Khabs := Lib.hid habs
      have Khabs' := Lib.hid habs'
      have Khmba := Lib.hid hmba
      have Kombc := Lib.hid ombc
      have Komab := Lib.hid omab
      have Kojbc := Lib.hid ojbc
      have Kojab := Lib.hid ojab
      have Kha := Lib.hid ha
      have Khb := Lib.hid hb
      have Khc := Lib.hid hc
      have WAYS := Lib.hid ways
      clear hmbc hm3 hmab hjbc hj3 hjab hm3' hj3' habs habs' hmba ombc omab ojbc ojab ha hb hc ways hp hq hr hs
      go_wp2_with fail
      refine Mix.wp_region_grow_three (aF := ?aF) 6 4 5 6 _ _ _ _ _ _ (.cells #[.int .u16 0, .int .u16 0, .int .u16 0, .int .i64 0, .int .i64 0, .int .i64 0, .bool false, .bool false, .bool false, .bool false] 25) (.cells #[.int .u16 0, .int .u16 0, .int .u16 0, .int .i64 0, .int .i64 0, .int .i64 0, .bool false, .bool false, .bool false, .bool false] 25) (.cells #[.int .u16 0, .int .u16 0, .int .u16 0, .int .i64 0, .int .i64 0, .int .i64 0, .bool false, .bool false, .bool false, .bool false] 25) (.cells #[.int .u16 a.k, .int .u16 a.y, .int .u16 a.r, .int .i64 a.ib, .int .i64 a.d, .int .i64 a.s, .bool a.o, .bool a.sh, .bool a.c, .bool a.m] 25) (.cells #[.int .u16 b.k, .int .u16 b.y, .int .u16 b.r, .int .i64 b.ib, .int .i64 b.d, .int .i64 b.s, .bool b.o, .bool b.sh, .bool b.c, .bool b.m] 25) (.cells #[.int .u16 c.k, .int .u16 c.y, .int .u16 c.r, .int .i64 c.ib, .int .i64 c.d, .int .i64 c.s, .bool c.o, .bool c.sh, .bool c.c, .bool c.m] 25) (by kernel_rfl) rfl (by kernel_rfl) (by kernel_rfl) (by kernel_rfl) rfl rfl rfl rfl rfl rfl ⟨⟨rfl, rfl, rfl, rfl, rfl, rfl⟩, rfl, rfl, rfl, rfl, rfl, rfl⟩ (by decide) (by kernel_rfl) (by kernel_rfl) (by kernel_rfl) (by kernel_rfl) (by kernel_rfl) (by kernel_rfl) (by kernel_rfl) (by kernel_rfl) (by kernel_rfl) (by kernel_rfl) (by kernel_rfl) (by kernel_rfl) (by kernel_rfl) (by kernel_rfl) ?hA ?ha1 ?ha2 ?ha3 ?hst1 ?hst2 ?hst3 ?hK
      case hA =>
        intro ρ hρ
        have hρc : ∀ b o, b < wr.heap.size → ρ.cell? ⟨b, o, none⟩ = wr.cell? ⟨b, o, none⟩ := fun b o hb => hρ.cell (p := ⟨b, o, none⟩) hb
        have hg : ∀ (x : Mix.Grow ρ) b o, b < ρ.heap.size → x.w.cell? ⟨b, o, none⟩ = ρ.cell? ⟨b, o, none⟩ := fun x b o hb => x.cell b o hb
        have hsz := hρ.size
        have m1 : w.heap.size < ρ.heap.size := by omega
        clear hρ hsz
        simp only [List.take_succ_cons, List.take_zero]
        repeat (first | go_big_quiet_step (fail))
        refine wpQuiet_nil ?_
        exact rfl
      case ha1 => intro u v W; refine ⟨?_, ?_, ?_, ?_, ?_⟩ <;> go_simp
      case ha2 => intro u v W; refine ⟨?_, ?_, ?_, ?_, ?_⟩ <;> go_simp
      case ha3 => intro u v W; refine ⟨?_, ?_, ?_, ?_, ?_⟩ <;> go_simp
      case hst1 =>
        clear c0 c1 c2 c3 c4 c5 c6 c7 c8 c9 c10 c11 c12 c13 c14 c15 c16 c17 c18 c19 c20 c21 c22 c23 c24 c25 c26 c27 c28 c29
        intro b1 b2 b3 W h
        have h0 := cell_at' h 0
        have h1 := cell_at' h 1
        have h2 := cell_at' h 2
        have h3 := cell_at' h 3
        have h4 := cell_at' h 4
        have h5 := cell_at' h 5
        have h6 := cell_at' h 6
        have h7 := cell_at' h 7
        have h8 := cell_at' h 8
        have h9 := cell_at' h 9
        simp only [List.getElem?_toArray, List.getElem?_cons_zero, List.getElem?_cons_succ] at h0 h1 h2 h3 h4 h5 h6 h7 h8 h9
        have hf := free_at' h
        have he := Lib.hid (set_ten h)
        clear h
        go_simp
        rw [he.out]
      case hst2 =>
        clear c0 c1 c2 c3 c4 c5 c6 c7 c8 c9 c10 c11 c12 c13 c14 c15 c16 c17 c18 c19 c20 c21 c22 c23 c24 c25 c26 c27 c28 c29
        intro b1 b2 b3 W h
        have h0 := cell_at' h 0
        have h1 := cell_at' h 1
        have h2 := cell_at' h 2
        have h3 := cell_at' h 3
        have h4 := cell_at' h 4
        have h5 := cell_at' h 5
        have h6 := cell_at' h 6
        have h7 := cell_at' h 7
        have h8 := cell_at' h 8
        have h9 := cell_at' h 9
        simp only [List.getElem?_toArray, List.getElem?_cons_zero, List.getElem?_cons_succ] at h0 h1 h2 h3 h4 h5 h6 h7 h8 h9
        have hf := free_at' h
        have he := Lib.hid (set_ten h)
        clear h
        go_simp
        rw [he.out]
      case hst3 =>
        clear c0 c1 c2 c3 c4 c5 c6 c7 c8 c9 c10 c11 c12 c13 c14 c15 c16 c17 c18 c19 c20 c21 c22 c23 c24 c25 c26 c27 c28 c29
        intro b1 b2 b3 W h
        have h0 := cell_at' h 0
        have h1 := cell_at' h 1
        have h2 := cell_at' h 2
        have h3 := cell_at' h 3
        have h4 := cell_at' h 4
        have h5 := cell_at' h 5
        have h6 := cell_at' h 6
        have h7 := cell_at' h 7
        have h8 := cell_at' h 8
        have h9 := cell_at' h 9
        simp only [List.getElem?_toArray, List.getElem?_cons_zero, List.getElem?_cons_succ] at h0 h1 h2 h3 h4 h5 h6 h7 h8 h9
        have hf := free_at' h
        have he := Lib.hid (set_ten h)
        clear h
        go_simp
        rw [he.out]
      case hK =>
        intro b1 b2 b3 W hW h1 h2 h3 q1 q2 q3
        have hBW := HB.out.trans (hW.mono HB.out.size)
        have HBW := Lib.hid hBW
        have u1 := (old_at (X := .cells #[] 0) q1).2
        have u2 := (old_at (X := .cells #[] 0) q2).2
        have u3 := (old_at (X := .cells #[] 0) q3).2
        clear c0 c1 c2 c3 c4 c5 c6 c7 c8 c9 c10 c11 c12 c13 c14 c15 c16 c17 c18 c19 c20 c21 c22 c23 c24 c25 c26 c27 c28 c29 hW hBW
        have v1 : b1 < W.heap.size := (Array.getElem?_eq_some_iff.1 q1).1
        have v2 : b2 < W.heap.size := (Array.getElem?_eq_some_iff.1 q2).1
        have v3 : b3 < W.heap.size := (Array.getElem?_eq_some_iff.1 q3).1
        clear u1 u2 u3
        have d0 := cell_at' q1 0
        have e0 := cell_at' q2 0
        have f0 := cell_at' q3 0
        have d1 := cell_at' q1 1
        have e1 := cell_at' q2 1
        have f1 := cell_at' q3 1
        have d2 := cell_at' q1 2
        have e2 := cell_at' q2 2
        have f2 := cell_at' q3 2
        have d3 := cell_at' q1 3
        have e3 := cell_at' q2 3
        have f3 := cell_at' q3 3
        have d4 := cell_at' q1 4
        have e4 := cell_at' q2 4
        have f4 := cell_at' q3 4
        have d5 := cell_at' q1 5
        have e5 := cell_at' q2 5
        have f5 := cell_at' q3 5
        have d6 := cell_at' q1 6
        have e6 := cell_at' q2 6
        have f6 := cell_at' q3 6
        have d7 := cell_at' q1 7
        have e7 := cell_at' q2 7
        have f7 := cell_at' q3 7
        have d8 := cell_at' q1 8
        have e8 := cell_at' q2 8
        have f8 := cell_at' q3 8
        have d9 := cell_at' q1 9
        have e9 := cell_at' q2 9
        have f9 := cell_at' q3 9
        simp only [List.getElem?_toArray, List.getElem?_cons_zero, List.getElem?_cons_succ] at d0 d1 d2 d3 d4 d5 d6 d7 d8 d9 e0 e1 e2 e3 e4 e5 e6 e7 e8 e9 f0 f1 f2 f3 f4 f5 f6 f7 f8 f9
        clear q1 q2 q3 h1 h2 h3
        simp only [Act.put, List.setIfInBounds_toArray, List.set_cons_zero, List.set_cons_succ]
        go_upto_region 9 with (fail)
        go_cut [57] (fun t wx => t = .bool false ∧ Hid (Below W.heap.size W wx))
        case first =>
          rcases WAYS.out with rfl | ⟨rfl, rfl, he, rfl, rfl⟩ | ⟨rfl, rfl, he, rfl⟩ | ⟨rfl, rfl, he, rfl, rfl⟩ | ⟨rfl, rfl, he, rfl⟩
          · skip
            refine Mix.wp_region_grow (by kernel_rfl) (by kernel_rfl) ?_
            have hg : ∀ (x : Mix.Grow W) b o, b < W.heap.size → x.w.cell? ⟨b, o, none⟩ = W.cell? ⟨b, o, none⟩ := fun x b o hb => x.cell b o hb
            repeat (first | go_big_quiet_step ((first | (go_at_call 14; with_reducible exact Mix.Grow.calls (leqV a a true G1.out _)) | (go_at_call 14; with_reducible exact Mix.Grow.calls (leqV a b _ G2.out _)) | (go_at_call 14; with_reducible exact Mix.Grow.calls (leqV b a _ G3.out _)) | (go_at_call 14; with_reducible exact Mix.Grow.calls (leqV b c _ G4.out _)) | (go_at_call 14; with_reducible exact Mix.Grow.calls (leqV a c _ G5.out _)))) )
            refine wpQuiet_nil ?_
            rintro _ ⟨x, rfl⟩
            have hb9 := x.h
            generalize x.w = w9 at hb9 ⊢
            obtain ⟨hc9, hf9⟩ := bcell hb9
            clear hg
            go_wp2_with fail
            go_meet
            case rel => exact ⟨by first | rfl | simp, hb9⟩
          · skip
            have he' : ∀ t f : Result Bool, (if a.k = b.k then (if a.y = b.y then (if a.r = b.r then (if a.ib = b.ib then (if a.d = b.d then (if a.s = b.s then (if a.o = b.o then (if a.sh = b.sh then (if a.c = b.c then (if a.m = b.m then t else f) else f) else f) else f) else f) else f) else f) else f) else f) else f) = t := chain_eq he
            clear he
            refine Mix.wp_region_grow (by kernel_rfl) (by kernel_rfl) ?_
            have hg : ∀ (x : Mix.Grow W) b o, b < W.heap.size → x.w.cell? ⟨b, o, none⟩ = W.cell? ⟨b, o, none⟩ := fun x b o hb => x.cell b o hb
            repeat (first | go_big_quiet_step ((first | (go_at_call 14; with_reducible exact Mix.Grow.calls (leqV a a true G1.out _)) | (go_at_call 14; with_reducible exact Mix.Grow.calls (leqV a b _ G2.out _)) | (go_at_call 14; with_reducible exact Mix.Grow.calls (leqV b a _ G3.out _)) | (go_at_call 14; with_reducible exact Mix.Grow.calls (leqV b c _ G4.out _)) | (go_at_call 14; with_reducible exact Mix.Grow.calls (leqV a c _ G5.out _)))) )
            refine wpQuiet_nil ?_
            rintro _ ⟨x, rfl⟩
            have hb9 := x.h
            generalize x.w = w9 at hb9 ⊢
            obtain ⟨hc9, hf9⟩ := bcell hb9
            clear hg
            go_wp2_with fail
            go_meet
            case rel => exact ⟨by first | rfl | simp, hb9⟩
          · skip
            have he' : ∀ t f : Result Bool, (if a.k = b.k then (if a.y = b.y then (if a.r = b.r then (if a.ib = b.ib then (if a.d = b.d then (if a.s = b.s then (if a.o = b.o then (if a.sh = b.sh then (if a.c = b.c then (if a.m = b.m then t else f) else f) else f) else f) else f) else f) else f) else f) else f) else f) = t := chain_eq he
            clear he
            refine Mix.wp_region_grow (by kernel_rfl) (by kernel_rfl) ?_
            have hg : ∀ (x : Mix.Grow W) b o, b < W.heap.size → x.w.cell? ⟨b, o, none⟩ = W.cell? ⟨b, o, none⟩ := fun x b o hb => x.cell b o hb
            repeat (first | go_big_quiet_step ((first | (go_at_call 14; with_reducible exact Mix.Grow.calls (leqV a a true G1.out _)) | (go_at_call 14; with_reducible exact Mix.Grow.calls (leqV a b _ G2.out _)) | (go_at_call 14; with_reducible exact Mix.Grow.calls (leqV b a _ G3.out _)) | (go_at_call 14; with_reducible exact Mix.Grow.calls (leqV b c _ G4.out _)) | (go_at_call 14; with_reducible exact Mix.Grow.calls (leqV a c _ G5.out _)))) )
            refine wpQuiet_nil ?_
            rintro _ ⟨x, rfl⟩
            have hb9 := x.h
            generalize x.w = w9 at hb9 ⊢
            obtain ⟨hc9, hf9⟩ := bcell hb9
            clear hg
            go_wp2_with fail
            go_meet
            case rel => exact ⟨by first | rfl | simp, hb9⟩
          · skip
            have he' : ∀ t f : Result Bool, (if a.k = b.k then (if a.y = b.y then (if a.r = b.r then (if a.ib = b.ib then (if a.d = b.d then (if a.s = b.s then (if a.o = b.o then (if a.sh = b.sh then (if a.c = b.c then (if a.m = b.m then t else f) else f) else f) else f) else f) else f) else f) else f) else f) else f) = f := chain_ne he
            clear he
            refine Mix.wp_region_grow (by kernel_rfl) (by kernel_rfl) ?_
            have hg : ∀ (x : Mix.Grow W) b o, b < W.heap.size → x.w.cell? ⟨b, o, none⟩ = W.cell? ⟨b, o, none⟩ := fun x b o hb => x.cell b o hb
            repeat (first | go_big_quiet_step ((first | (go_at_call 14; with_reducible exact Mix.Grow.calls (leqV a a true G1.out _)) | (go_at_call 14; with_reducible exact Mix.Grow.calls (leqV a b _ G2.out _)) | (go_at_call 14; with_reducible exact Mix.Grow.calls (leqV b a _ G3.out _)) | (go_at_call 14; with_reducible exact Mix.Grow.calls (leqV b c _ G4.out _)) | (go_at_call 14; with_reducible exact Mix.Grow.calls (leqV a c _ G5.out _)))) )
            refine wpQuiet_nil ?_
            rintro _ ⟨x, rfl⟩
            have hb9 := x.h
            generalize x.w = w9 at hb9 ⊢
            obtain ⟨hc9, hf9⟩ := bcell hb9
            clear hg
            go_wp2_with fail
            go_meet
            case rel => exact ⟨by first | rfl | simp, hb9⟩
          · skip
            have he' : ∀ t f : Result Bool, (if a.k = b.k then (if a.y = b.y then (if a.r = b.r then (if a.ib = b.ib then (if a.d = b.d then (if a.s = b.s then (if a.o = b.o then (if a.sh = b.sh then (if a.c = b.c then (if a.m = b.m then t else f) else f) else f) else f) else f) else f) else f) else f) else f) else f) = f := chain_ne he
            clear he
            refine Mix.wp_region_grow (by kernel_rfl) (by kernel_rfl) ?_
            have hg : ∀ (x : Mix.Grow W) b o, b < W.heap.size → x.w.cell? ⟨b, o, none⟩ = W.cell? ⟨b, o, none⟩ := fun x b o hb => x.cell b o hb
            repeat (first | go_big_quiet_step ((first | (go_at_call 14; with_reducible exact Mix.Grow.calls (leqV a a true G1.out _)) | (go_at_call 14; with_reducible exact Mix.Grow.calls (leqV a b _ G2.out _)) | (go_at_call 14; with_reducible exact Mix.Grow.calls (leqV b a _ G3.out _)) | (go_at_call 14; with_reducible exact Mix.Grow.calls (leqV b c _ G4.out _)) | (go_at_call 14; with_reducible exact Mix.Grow.calls (leqV a c _ G5.out _)))) )
            refine wpQuiet_nil ?_
            rintro _ ⟨x, rfl⟩
            have hb9 := x.h
            generalize x.w = w9 at hb9 ⊢
            obtain ⟨hc9, hf9⟩ := bcell hb9
            clear hg
            go_wp2_with fail
            go_meet
            case rel => exact ⟨by first | rfl | simp, hb9⟩
        case rest =>
          obtain ⟨rfl, hbc⟩ := hcut
          have hbc' : Below W.heap.size W wc := hbc
          obtain ⟨hcc, hff⟩ := bcell hbc'
          have hsz := hbc'.size
          have x1 : b1 < wc.heap.size := by omega
          have x2 : b2 < wc.heap.size := by omega
          have x3 : b3 < wc.heap.size := by omega
          clear hbc' hsz
          go_upto_region 11 with (fail)
          refine Mix.wp_region_grow (by kernel_rfl) (by kernel_rfl) ?_
          have hg : ∀ (x : Mix.Grow wc) b o, b < wc.heap.size → x.w.cell? ⟨b, o, none⟩ = wc.cell? ⟨b, o, none⟩ := fun x b o hb => x.cell b o hb
          repeat (first | go_big_quiet_step ((first | (go_at_call 16; with_reducible exact Mix.Grow.calls (meetV b c mbc Khmbc.out Khb.out Khc.out _)) | (go_at_call 16; with_reducible exact Mix.Grow.calls (meetV a mbc m3 Khm3.out Kha.out Kombc.out _)) | (go_at_call 16; with_reducible exact Mix.Grow.calls (meetV a b mab Khmab.out Kha.out Khb.out _)) | (go_at_call 16; with_reducible exact Mix.Grow.calls (meetV mab c m3 Khm3'.out Komab.out Khc.out _)) | (go_at_call 17; with_reducible exact Mix.Grow.calls (joinV b c jbc Khjbc.out Khb.out Khc.out _)) | (go_at_call 17; with_reducible exact Mix.Grow.calls (joinV a jbc j3 Khj3.out Kha.out Kojbc.out _)) | (go_at_call 17; with_reducible exact Mix.Grow.calls (joinV a b jab Khjab.out Kha.out Khb.out _)) | (go_at_call 17; with_reducible exact Mix.Grow.calls (joinV jab c j3 Khj3'.out Kojab.out Khc.out _)) | (go_at_call 16; with_reducible exact Mix.Grow.calls (meetV a jab a Khabs.out Kha.out Kojab.out _)) | (go_at_call 17; with_reducible exact Mix.Grow.calls (joinV a mab a Khabs'.out Kha.out Komab.out _)) | (go_at_call 16; with_reducible exact Mix.Grow.calls (meetV b a mab Khmba.out Khb.out Kha.out _)))) )
          refine wpQuiet_nil ?_
          rintro _ ⟨x, rfl⟩
          have hb11 := x.h
          generalize x.w = w11 at hb11 ⊢
          obtain ⟨hc11, hf11⟩ := bcell hb11
          clear hg
          go_wp2_with fail
          go_ret
          exact ⟨by first | rfl | exact ret_bool (by simp), (HBW.out.trans (Below.mono hbc HBW.out.size)).trans (hb11.mono (HBW.out.trans (Below.mono hbc HBW.out.size)).size)⟩
end Go.Proofs.Ytfgglegimajghaa
