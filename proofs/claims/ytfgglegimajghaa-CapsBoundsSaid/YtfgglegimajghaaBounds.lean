/- CapsBounds: whatever the three capabilities, the law answers true. -/
import Derived.Test.YtfgglegimajghaaR
import Derived.BigQuiet
import Derived.BigGuardPart
namespace Go.Proofs.Ytfgglegimajghaa
open Go.RowKit

set_option maxRecDepth 100000 in
set_option maxHeartbeats 16000000 in
theorem bounds_walk (a b c : Cp) (_wa : a.Wf) (_wb : b.Wf) (_wc : c.Wf) (w : World) : Calls Try.prog 6 #[.agg #[.int .u16 a.k, .int .u16 a.y, .int .u16 a.r, .int .i64 a.ib, .int .i64 a.d, .int .i64 a.s, .bool a.o, .bool a.sh, .bool a.c, .bool a.m, .int .u16 b.k, .int .u16 b.y, .int .u16 b.r, .int .i64 b.ib, .int .i64 b.d, .int .i64 b.s, .bool b.o, .bool b.sh, .bool b.c, .bool b.m, .int .u16 c.k, .int .u16 c.y, .int .u16 c.r, .int .i64 c.ib, .int .i64 c.d, .int .i64 c.s, .bool c.o, .bool c.sh, .bool c.c, .bool c.m]] w fun e w' => e = .returned (.bool true) ∧ Below w.heap.size w w' := by
  go_enter Try.func6, Try.ntmps6
  go_wp2_with (go_at_call 9; ((with_reducible refine (awake_any _).mono ?_); rintro e w1 ⟨rfl, hb1⟩))
  have l1 : w.heap.size < w1.heap.size := by have := hb1.size; simp at this; omega
  have q1 : w1.heap[w.heap.size]? = some (.cells #[.int .u16 a.k, .int .u16 a.y, .int .u16 a.r, .int .i64 a.ib, .int .i64 a.d, .int .i64 a.s, .bool a.o, .bool a.sh, .bool a.c, .bool a.m, .int .u16 b.k, .int .u16 b.y, .int .u16 b.r, .int .i64 b.ib, .int .i64 b.d, .int .i64 b.s, .bool b.o, .bool b.sh, .bool b.c, .bool b.m, .int .u16 c.k, .int .u16 c.y, .int .u16 c.r, .int .i64 c.ib, .int .i64 c.d, .int .i64 c.s, .bool c.o, .bool c.sh, .bool c.c, .bool c.m] 35) := by
    have := hb1.block w.heap.size (by simp)
    rw [this]; exact new_at _ _
  have hB1 : Below w.heap.size w w1 := ((Below.refl _ _).alloc (Nat.le_refl _) _).trans (hb1.mono (by simp))
  clear hb1
  have HB1 := Lib.hid hB1
  clear hB1
  go_loopw [3] (fun i wr => ∃ k : Nat, k ≤ 3 ∧ i = .int .i64 k ∧ Hid (Below w.heap.size w wr ∧ w.heap.size < wr.heap.size ∧ wr.heap[w.heap.size]? = some (.cells #[.int .u16 a.k, .int .u16 a.y, .int .u16 a.r, .int .i64 a.ib, .int .i64 a.d, .int .i64 a.s, .bool a.o, .bool a.sh, .bool a.c, .bool a.m, .int .u16 b.k, .int .u16 b.y, .int .u16 b.r, .int .i64 b.ib, .int .i64 b.d, .int .i64 b.s, .bool b.o, .bool b.sh, .bool b.c, .bool b.m, .int .u16 c.k, .int .u16 c.y, .int .u16 c.r, .int .i64 c.ib, .int .i64 c.d, .int .i64 c.s, .bool c.o, .bool c.sh, .bool c.c, .bool c.m] 35) ∧ (0 < k → a.ok = true) ∧ (1 < k → b.ok = true) ∧ (2 < k → c.ok = true))) (fun i _ => 3 - (intOf i).toNat)
  case atStart => exact ⟨0, by omega, rfl, ⟨HB1.out, l1, q1, fun h => absurd h (by decide), fun h => absurd h (by decide), fun h => absurd h (by decide)⟩⟩
  case round =>
    clear q1 l1 HB1
    obtain ⟨k, hk, rfl, hr⟩ := hrel
    obtain ⟨hB, hl, hq, ka, kb, kc⟩ := hr
    have c0 := cell_at' hq 0
    have c1 := cell_at' hq 1
    have c2 := cell_at' hq 2
    have c3 := cell_at' hq 3
    have c4 := cell_at' hq 4
    have c5 := cell_at' hq 5
    have c6 := cell_at' hq 6
    have c7 := cell_at' hq 7
    have c8 := cell_at' hq 8
    have c9 := cell_at' hq 9
    have c10 := cell_at' hq 10
    have c11 := cell_at' hq 11
    have c12 := cell_at' hq 12
    have c13 := cell_at' hq 13
    have c14 := cell_at' hq 14
    have c15 := cell_at' hq 15
    have c16 := cell_at' hq 16
    have c17 := cell_at' hq 17
    have c18 := cell_at' hq 18
    have c19 := cell_at' hq 19
    have c20 := cell_at' hq 20
    have c21 := cell_at' hq 21
    have c22 := cell_at' hq 22
    have c23 := cell_at' hq 23
    have c24 := cell_at' hq 24
    have c25 := cell_at' hq 25
    have c26 := cell_at' hq 26
    have c27 := cell_at' hq 27
    have c28 := cell_at' hq 28
    have c29 := cell_at' hq 29
    simp only [List.getElem?_toArray, List.getElem?_cons_zero, List.getElem?_cons_succ] at c0 c1 c2 c3 c4 c5 c6 c7 c8 c9 c10 c11 c12 c13 c14 c15 c16 c17 c18 c19 c20 c21 c22 c23 c24 c25 c26 c27 c28 c29
    have HB := Lib.hid hB
    have HQ := Lib.hid hq
    have KA := Lib.hid ka
    have KB := Lib.hid kb
    have KC := Lib.hid kc
    clear hB hq ka kb kc
    by_cases hlt : k < 3
    · have hk3 : k = 0 ∨ k = 1 ∨ k = 2 := by omega
      rcases hk3 with rfl | rfl | rfl
      · cases ha : a.ok
        · have H := Lib.hid ha
          clear ha
          go_wp2_with (go_at_call 12; ((with_reducible refine (checkN a H.out _).mono ?_); rintro e w2 ⟨rfl, hb2⟩))
          go_ret
          exact ⟨rfl, HB.out.trans (hb2.mono HB.out.size)⟩
        · have H := Lib.hid ha
          clear ha
          go_wp2_with (go_at_call 12; ((with_reducible refine (checkY a H.out _).mono ?_); rintro e w2 ⟨rfl, hb2⟩))
          go_roundw
          case rel => exact ⟨1, by omega, by go_num, ⟨HB.out.trans (hb2.mono HB.out.size), Nat.lt_of_lt_of_le hl hb2.size, Mix.block_grow hb2 HQ.out, fun _ => by first | trivial | rfl, fun h => absurd h (by decide), fun h => absurd h (by decide)⟩⟩
          case measure => simp [intOf]
      · cases hb : b.ok
        · have H := Lib.hid hb
          clear hb
          go_wp2_with (go_at_call 12; ((with_reducible refine (checkN b H.out _).mono ?_); rintro e w2 ⟨rfl, hb2⟩))
          go_ret
          exact ⟨rfl, HB.out.trans (hb2.mono HB.out.size)⟩
        · have H := Lib.hid hb
          clear hb
          go_wp2_with (go_at_call 12; ((with_reducible refine (checkY b H.out _).mono ?_); rintro e w2 ⟨rfl, hb2⟩))
          go_roundw
          case rel => exact ⟨2, by omega, by go_num, ⟨HB.out.trans (hb2.mono HB.out.size), Nat.lt_of_lt_of_le hl hb2.size, Mix.block_grow hb2 HQ.out, fun _ => KA.out (by decide), fun _ => by first | trivial | rfl, fun h => absurd h (by decide)⟩⟩
          case measure => simp [intOf]
      · cases hc : c.ok
        · have H := Lib.hid hc
          clear hc
          go_wp2_with (go_at_call 12; ((with_reducible refine (checkN c H.out _).mono ?_); rintro e w2 ⟨rfl, hb2⟩))
          go_ret
          exact ⟨rfl, HB.out.trans (hb2.mono HB.out.size)⟩
        · have H := Lib.hid hc
          clear hc
          go_wp2_with (go_at_call 12; ((with_reducible refine (checkY c H.out _).mono ?_); rintro e w2 ⟨rfl, hb2⟩))
          go_roundw
          case rel => exact ⟨3, by omega, by go_num, ⟨HB.out.trans (hb2.mono HB.out.size), Nat.lt_of_lt_of_le hl hb2.size, Mix.block_grow hb2 HQ.out, fun _ => KA.out (by decide), fun _ => KB.out (by decide), fun _ => by first | trivial | rfl⟩⟩
          case measure => simp [intOf]
    · obtain rfl : k = 3 := by omega
      have ha := KA.out (by decide)
      have hb := KB.out (by decide)
      have hc := KC.out (by decide)
      clear KA KB KC hlt hk
      obtain ⟨m, hm⟩ : ∃ m, a.meet b = m := ⟨_, rfl⟩
      obtain ⟨j, hj⟩ : ∃ j, a.join b = j := ⟨_, rfl⟩
      have om : m.ok = true := by rw [← hm]; exact meet_ok ha hb
      have oj : j.ok = true := by rw [← hj]; exact join_ok ha hb
      have F1 : Hid ((m.ok && a.ok && m.le a) = true) := by unfold Hid; rw [om, ha, ← hm, (meet_le ha hb).1]; rfl
      have F2 : Hid ((m.ok && b.ok && m.le b) = true) := by unfold Hid; rw [om, hb, ← hm, (meet_le ha hb).2]; rfl
      have F3 : Hid ((a.ok && j.ok && a.le j) = true) := by unfold Hid; rw [oj, ha, ← hj, (le_join ha hb).1]; rfl
      have F4 : Hid ((b.ok && j.ok && b.le j) = true) := by unfold Hid; rw [oj, hb, ← hj, (le_join ha hb).2]; rfl
      obtain ⟨p, hp⟩ : ∃ p, c.le a = p := ⟨_, rfl⟩
      obtain ⟨q, hq⟩ : ∃ q, c.le b = q := ⟨_, rfl⟩
      obtain ⟨r, hr⟩ : ∃ r, a.le c = r := ⟨_, rfl⟩
      obtain ⟨s, hs⟩ : ∃ s, b.le c = s := ⟨_, rfl⟩
      have G1 : Hid ((c.ok && m.ok && c.le m) = (p && q)) := by unfold Hid; rw [om, hc, ← hm, le_meet ha hb hc, hp, hq]; rfl
      have G2 : Hid ((c.ok && a.ok && c.le a) = p) := by unfold Hid; rw [hc, ha, hp]; rfl
      have G3 : Hid ((c.ok && b.ok && c.le b) = q) := by unfold Hid; rw [hc, hb, hq]; rfl
      have G4 : Hid ((j.ok && c.ok && j.le c) = (r && s)) := by unfold Hid; rw [oj, hc, ← hj, join_le ha hb hc, hr, hs]; rfl
      have G5 : Hid ((a.ok && c.ok && a.le c) = r) := by unfold Hid; rw [ha, hc, hr]; rfl
      have G6 : Hid ((b.ok && c.ok && b.le c) = s) := by unfold Hid; rw [hb, hc, hs]; rfl
      have Hm := Lib.hid hm
      have Hj := Lib.hid hj
      have Om := Lib.hid om
      have Oj := Lib.hid oj
      have Ha := Lib.hid ha
      have Hb := Lib.hid hb
      clear hm hj om oj ha hb hc hp hq hr hs
      go_wp2_with fail
      refine Mix.wp_region_grow_two (aF := ?aF) 10 4 5 _ _ _ _ (.cells #[.int .u16 0, .int .u16 0, .int .u16 0, .int .i64 0, .int .i64 0, .int .i64 0, .bool false, .bool false, .bool false, .bool false] 25) (.cells #[.int .u16 0, .int .u16 0, .int .u16 0, .int .i64 0, .int .i64 0, .int .i64 0, .bool false, .bool false, .bool false, .bool false] 25) (.cells #[.int .u16 m.k, .int .u16 m.y, .int .u16 m.r, .int .i64 m.ib, .int .i64 m.d, .int .i64 m.s, .bool m.o, .bool m.sh, .bool m.c, .bool m.m] 25) (.cells #[.int .u16 j.k, .int .u16 j.y, .int .u16 j.r, .int .i64 j.ib, .int .i64 j.d, .int .i64 j.s, .bool j.o, .bool j.sh, .bool j.c, .bool j.m] 25) (by kernel_rfl) rfl (by kernel_rfl) (by kernel_rfl) (by kernel_rfl) rfl rfl rfl rfl rfl rfl rfl rfl rfl rfl rfl rfl (by decide) (by kernel_rfl) (by kernel_rfl) (by kernel_rfl) (by kernel_rfl) (by kernel_rfl) (by kernel_rfl) ?hA ?ha1 ?ha2 ?hst1 ?hst2 ?hK
      case hA =>
        intro ρ hρ
        have hρc : ∀ b o, b < wr.heap.size → ρ.cell? ⟨b, o, none⟩ = wr.cell? ⟨b, o, none⟩ := fun b o hb => hρ.cell (p := ⟨b, o, none⟩) hb
        have hg : ∀ (x : Mix.Grow ρ) b o, b < ρ.heap.size → x.w.cell? ⟨b, o, none⟩ = ρ.cell? ⟨b, o, none⟩ := fun x b o hb => x.cell b o hb
        have hsz := hρ.size
        have m1 : w.heap.size < ρ.heap.size := by omega
        clear hρ hsz
        simp only [List.take_succ_cons, List.take_zero]
        repeat (first | go_big_quiet_step ((first | (go_at_call 16; with_reducible exact Mix.Grow.calls (meetV a b m Hm.out Ha.out Hb.out _)) | (go_at_call 17; with_reducible exact Mix.Grow.calls (joinV a b j Hj.out Ha.out Hb.out _)))) )
        refine wpQuiet_nil ?_
        exact rfl
      case ha1 => intro v W; constructor <;> go_simp
      case ha2 => intro v W; constructor <;> go_simp
      case hst1 =>
        clear c0 c1 c2 c3 c4 c5 c6 c7 c8 c9 c10 c11 c12 c13 c14 c15 c16 c17 c18 c19 c20 c21 c22 c23 c24 c25 c26 c27 c28 c29
        intro b1 b2 W h
        have h0 := cell_at' h 0
        have h1 := cell_at' h 1
        have h2 := cell_at' h 2
        have h3 := cell_at' h 3
        have h4 := cell_at' h 4
        have h5 := cell_at' h 5
        have h6 := cell_at' h 6
        have h7 := cell_at' h 7
        have h8 := cell_at' h 8
        have h9 := cell_at' h 9
        simp only [List.getElem?_toArray, List.getElem?_cons_zero, List.getElem?_cons_succ] at h0 h1 h2 h3 h4 h5 h6 h7 h8 h9
        have hf := free_at' h
        have he := Lib.hid (set_ten h)
        clear h
        go_simp
        rw [he.out]
      case hst2 =>
        clear c0 c1 c2 c3 c4 c5 c6 c7 c8 c9 c10 c11 c12 c13 c14 c15 c16 c17 c18 c19 c20 c21 c22 c23 c24 c25 c26 c27 c28 c29
        intro b1 b2 W h
        have h0 := cell_at' h 0
        have h1 := cell_at' h 1
        have h2 := cell_at' h 2
        have h3 := cell_at' h 3
        have h4 := cell_at' h 4
        have h5 := cell_at' h 5
        have h6 := cell_at' h 6
        have h7 := cell_at' h 7
        have h8 := cell_at' h 8
        have h9 := cell_at' h 9
        simp only [List.getElem?_toArray, List.getElem?_cons_zero, List.getElem?_cons_succ] at h0 h1 h2 h3 h4 h5 h6 h7 h8 h9
        have hf := free_at' h
        have he := Lib.hid (set_ten h)
        clear h
        go_simp
        rw [he.out]
      case hK =>
        intro b1 b2 W hW h1 h2 h12 q1 q2
        have qq := Mix.block_grow hW HQ.out
        have hBW := HB.out.trans (hW.mono HB.out.size)
        have HBW := Lib.hid hBW
        have hsz := hW.size
        have u0 : w.heap.size < W.heap.size := by omega
        have u1 := (old_at (X := .cells #[] 0) q1).2
        have u2 := (old_at (X := .cells #[] 0) q2).2
        clear c0 c1 c2 c3 c4 c5 c6 c7 c8 c9 c10 c11 c12 c13 c14 c15 c16 c17 c18 c19 c20 c21 c22 c23 c24 c25 c26 c27 c28 c29 hW hBW hsz
        have c0 := cell_at' qq 0
        have c1 := cell_at' qq 1
        have c2 := cell_at' qq 2
        have c3 := cell_at' qq 3
        have c4 := cell_at' qq 4
        have c5 := cell_at' qq 5
        have c6 := cell_at' qq 6
        have c7 := cell_at' qq 7
        have c8 := cell_at' qq 8
        have c9 := cell_at' qq 9
        have c10 := cell_at' qq 10
        have c11 := cell_at' qq 11
        have c12 := cell_at' qq 12
        have c13 := cell_at' qq 13
        have c14 := cell_at' qq 14
        have c15 := cell_at' qq 15
        have c16 := cell_at' qq 16
        have c17 := cell_at' qq 17
        have c18 := cell_at' qq 18
        have c19 := cell_at' qq 19
        have c20 := cell_at' qq 20
        have c21 := cell_at' qq 21
        have c22 := cell_at' qq 22
        have c23 := cell_at' qq 23
        have c24 := cell_at' qq 24
        have c25 := cell_at' qq 25
        have c26 := cell_at' qq 26
        have c27 := cell_at' qq 27
        have c28 := cell_at' qq 28
        have c29 := cell_at' qq 29
        have d0 := cell_at' q1 0
        have e0 := cell_at' q2 0
        have d1 := cell_at' q1 1
        have e1 := cell_at' q2 1
        have d2 := cell_at' q1 2
        have e2 := cell_at' q2 2
        have d3 := cell_at' q1 3
        have e3 := cell_at' q2 3
        have d4 := cell_at' q1 4
        have e4 := cell_at' q2 4
        have d5 := cell_at' q1 5
        have e5 := cell_at' q2 5
        have d6 := cell_at' q1 6
        have e6 := cell_at' q2 6
        have d7 := cell_at' q1 7
        have e7 := cell_at' q2 7
        have d8 := cell_at' q1 8
        have e8 := cell_at' q2 8
        have d9 := cell_at' q1 9
        have e9 := cell_at' q2 9
        simp only [List.getElem?_toArray, List.getElem?_cons_zero, List.getElem?_cons_succ] at c0 c1 c2 c3 c4 c5 c6 c7 c8 c9 c10 c11 c12 c13 c14 c15 c16 c17 c18 c19 c20 c21 c22 c23 c24 c25 c26 c27 c28 c29 d0 d1 d2 d3 d4 d5 d6 d7 d8 d9 e0 e1 e2 e3 e4 e5 e6 e7 e8 e9
        clear qq q1 q2
        simp only [Act.put, List.setIfInBounds_toArray, List.set_cons_zero, List.set_cons_succ]
        go_wp2_with fail
        refine (checkY m Om.out _).mono ?_
        rintro e w2 ⟨rfl, hb2⟩
        obtain ⟨hc2, hf2⟩ := bcell hb2
        have zz2 := hb2.size
        have s2_0 : w.heap.size < w2.heap.size := by omega
        have s2_1 : b1 < w2.heap.size := by omega
        have s2_2 : b2 < w2.heap.size := by omega
        go_wp2_with fail
        refine (checkY j Oj.out _).mono ?_
        rintro e w3 ⟨rfl, hb3⟩
        obtain ⟨hc3, hf3⟩ := bcell hb3
        have zz3 := hb3.size
        have s3_0 : w.heap.size < w3.heap.size := by omega
        have s3_1 : b1 < w3.heap.size := by omega
        have s3_2 : b2 < w3.heap.size := by omega
        go_wp2_with fail
        refine (leqV m a true F1.out _).mono ?_
        rintro e w4 ⟨rfl, hb4⟩
        obtain ⟨hc4, hf4⟩ := bcell hb4
        have zz4 := hb4.size
        have s4_0 : w.heap.size < w4.heap.size := by omega
        have s4_1 : b1 < w4.heap.size := by omega
        have s4_2 : b2 < w4.heap.size := by omega
        go_wp2_with fail
        refine (leqV m b true F2.out _).mono ?_
        rintro e w5 ⟨rfl, hb5⟩
        obtain ⟨hc5, hf5⟩ := bcell hb5
        have zz5 := hb5.size
        have s5_0 : w.heap.size < w5.heap.size := by omega
        have s5_1 : b1 < w5.heap.size := by omega
        have s5_2 : b2 < w5.heap.size := by omega
        go_wp2_with fail
        refine (leqV a j true F3.out _).mono ?_
        rintro e w6 ⟨rfl, hb6⟩
        obtain ⟨hc6, hf6⟩ := bcell hb6
        have zz6 := hb6.size
        have s6_0 : w.heap.size < w6.heap.size := by omega
        have s6_1 : b1 < w6.heap.size := by omega
        have s6_2 : b2 < w6.heap.size := by omega
        go_wp2_with fail
        refine (leqV b j true F4.out _).mono ?_
        rintro e w7 ⟨rfl, hb7⟩
        obtain ⟨hc7, hf7⟩ := bcell hb7
        have zz7 := hb7.size
        have s7_0 : w.heap.size < w7.heap.size := by omega
        have s7_1 : b1 < w7.heap.size := by omega
        have s7_2 : b2 < w7.heap.size := by omega
        go_wp2_with fail
        have HBX := Lib.hid (((((((HBW.out).trans (hb2.mono (HBW.out).size)).trans (hb3.mono ((HBW.out).trans (hb2.mono (HBW.out).size)).size)).trans (hb4.mono (((HBW.out).trans (hb2.mono (HBW.out).size)).trans (hb3.mono ((HBW.out).trans (hb2.mono (HBW.out).size)).size)).size)).trans (hb5.mono ((((HBW.out).trans (hb2.mono (HBW.out).size)).trans (hb3.mono ((HBW.out).trans (hb2.mono (HBW.out).size)).size)).trans (hb4.mono (((HBW.out).trans (hb2.mono (HBW.out).size)).trans (hb3.mono ((HBW.out).trans (hb2.mono (HBW.out).size)).size)).size)).size)).trans (hb6.mono (((((HBW.out).trans (hb2.mono (HBW.out).size)).trans (hb3.mono ((HBW.out).trans (hb2.mono (HBW.out).size)).size)).trans (hb4.mono (((HBW.out).trans (hb2.mono (HBW.out).size)).trans (hb3.mono ((HBW.out).trans (hb2.mono (HBW.out).size)).size)).size)).trans (hb5.mono ((((HBW.out).trans (hb2.mono (HBW.out).size)).trans (hb3.mono ((HBW.out).trans (hb2.mono (HBW.out).size)).size)).trans (hb4.mono (((HBW.out).trans (hb2.mono (HBW.out).size)).trans (hb3.mono ((HBW.out).trans (hb2.mono (HBW.out).size)).size)).size)).size)).size)).trans (hb7.mono ((((((HBW.out).trans (hb2.mono (HBW.out).size)).trans (hb3.mono ((HBW.out).trans (hb2.mono (HBW.out).size)).size)).trans (hb4.mono (((HBW.out).trans (hb2.mono (HBW.out).size)).trans (hb3.mono ((HBW.out).trans (hb2.mono (HBW.out).size)).size)).size)).trans (hb5.mono ((((HBW.out).trans (hb2.mono (HBW.out).size)).trans (hb3.mono ((HBW.out).trans (hb2.mono (HBW.out).size)).size)).trans (hb4.mono (((HBW.out).trans (hb2.mono (HBW.out).size)).trans (hb3.mono ((HBW.out).trans (hb2.mono (HBW.out).size)).size)).size)).size)).trans (hb6.mono (((((HBW.out).trans (hb2.mono (HBW.out).size)).trans (hb3.mono ((HBW.out).trans (hb2.mono (HBW.out).size)).size)).trans (hb4.mono (((HBW.out).trans (hb2.mono (HBW.out).size)).trans (hb3.mono ((HBW.out).trans (hb2.mono (HBW.out).size)).size)).size)).trans (hb5.mono ((((HBW.out).trans (hb2.mono (HBW.out).size)).trans (hb3.mono ((HBW.out).trans (hb2.mono (HBW.out).size)).size)).trans (hb4.mono (((HBW.out).trans (hb2.mono (HBW.out).size)).trans (hb3.mono ((HBW.out).trans (hb2.mono (HBW.out).size)).size)).size)).size)).size)).size))
        cases p <;> cases r
        all_goals
          refine Mix.wp_region_grow (by kernel_rfl) (by kernel_rfl) ?_
          have hg : ∀ (x : Mix.Grow w7) b o, b < w7.heap.size → x.w.cell? ⟨b, o, none⟩ = w7.cell? ⟨b, o, none⟩ := fun x b o hb => x.cell b o hb
          repeat (first | go_big_quiet_step ((first | (go_at_call 14; with_reducible exact Mix.Grow.calls (leqV c m _ G1.out _)) | (go_at_call 14; with_reducible exact Mix.Grow.calls (leqV c a _ G2.out _)) | (go_at_call 14; with_reducible exact Mix.Grow.calls (leqV c b _ G3.out _)) | (go_at_call 14; with_reducible exact Mix.Grow.calls (leqV j c _ G4.out _)) | (go_at_call 14; with_reducible exact Mix.Grow.calls (leqV a c _ G5.out _)) | (go_at_call 14; with_reducible exact Mix.Grow.calls (leqV b c _ G6.out _)))) )
          refine wpQuiet_nil ?_
          rintro _ ⟨x, rfl⟩
          have hb9 := x.h
          generalize x.w = w9 at hb9 ⊢
          obtain ⟨hc9, hf9⟩ := bcell hb9
          clear hg
          go_wp2_with fail
          go_ret
          exact ⟨ret_bool (by simp), HBX.out.trans (hb9.mono HBX.out.size)⟩
end Go.Proofs.Ytfgglegimajghaa
