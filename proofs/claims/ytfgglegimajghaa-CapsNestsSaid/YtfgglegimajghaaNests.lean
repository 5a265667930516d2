/- CapsNests: whatever the two numbers, the law answers true. -/
import Derived.Test.YtfgglegimajghaaN
import Derived.BigQuiet
import Derived.BigGuardPart
namespace Go.Proofs.Ytfgglegimajghaa
open Go.RowKit

theorem leqJY (w : World) : Calls Try.prog 14 #[.agg #[.int .u16 1583, .int .u16 32, .int .u16 1583, .int .i64 0, .int .i64 32, .int .i64 0, .bool false, .bool false, .bool false, .bool true], .agg #[.int .u16 3711, .int .u16 127, .int .u16 3711, .int .i64 0, .int .i64 32, .int .i64 0, .bool false, .bool true, .bool true, .bool true]] w fun e w' => e = .returned (.bool true) ∧ Below w.heap.size w w' := leqV (ofC 0) (ofC 1) true (by kernel_rfl) w
theorem leqYJ (w : World) : Calls Try.prog 14 #[.agg #[.int .u16 3711, .int .u16 127, .int .u16 3711, .int .i64 0, .int .i64 32, .int .i64 0, .bool false, .bool true, .bool true, .bool true], .agg #[.int .u16 1583, .int .u16 32, .int .u16 1583, .int .i64 0, .int .i64 32, .int .i64 0, .bool false, .bool false, .bool false, .bool true]] w fun e w' => e = .returned (.bool false) ∧ Below w.heap.size w w' := leqV (ofC 1) (ofC 0) false (by kernel_rfl) w
theorem leqS (a : Cp) (h : (a.ok && (ofC 4).ok && a.le (ofC 4)) = true) (w : World) : Calls Try.prog 14 #[.agg #[.int .u16 a.k, .int .u16 a.y, .int .u16 a.r, .int .i64 a.ib, .int .i64 a.d, .int .i64 a.s, .bool a.o, .bool a.sh, .bool a.c, .bool a.m], .agg #[.int .u16 4095, .int .u16 4095, .int .u16 4095, .int .i64 0, .int .i64 32, .int .i64 0, .bool true, .bool true, .bool true, .bool true]] w fun e w' => e = .returned (.bool true) ∧ Below w.heap.size w w' := leqV a (ofC 4) true h w
set_option maxRecDepth 100000 in
set_option maxHeartbeats 8000000 in
theorem nests_true (f g : Int) (f0 : 0 ≤ f) (f1 : f ≤ 255) (g0 : 0 ≤ g) (g1 : g ≤ 255) (a b : Cp) (ea : ofC (f % 9).toNat = a) (eb : ofC (g % 9).toNat = b) (ha : a.ok = true) (hb : b.ok = true) (hs : a.le (ofC 4) = true) (hv : a.le b = true) (hm : a.meet b = a) (hj : a.join b = b) (w : World) : Calls Try.prog 8 #[.int .u8 f, .int .u8 g] w fun e w' => e = .returned (.bool true) ∧ Below w.heap.size w w' := by
  have Hs : Hid ((a.ok && (ofC 4).ok && a.le (ofC 4)) = true) := by unfold Hid; rw [ha, hs]; rfl
  have Hl : Hid ((a.ok && b.ok && a.le b) = true) := by unfold Hid; rw [ha, hb, hv]; rfl
  have Ea := Lib.hid ea
  have Eb := Lib.hid eb
  have Ha := Lib.hid ha
  have Hb := Lib.hid hb
  have Hm := Lib.hid hm
  have Hj := Lib.hid hj
  have r0 : 0 ≤ f % 9 := by omega
  have r1 : f % 9 < 9 := by omega
  have r2 : 0 ≤ g % 9 := by omega
  have r3 : g % 9 < 9 := by omega
  clear ea eb ha hb hs hv hm hj
  go_enter Try.func8, Try.ntmps8
  go_wp2_with (first | (go_at_call 9; ((with_reducible refine (awake_any _).mono ?_); rintro e w1 ⟨rfl, hb1⟩)))
  refine (ofA _ r0 r1 a Ea.out _).mono ?_
  rintro e w2 ⟨rfl, hb2⟩
  go_wp2_with fail
  refine (ofA _ r2 r3 b Eb.out _).mono ?_
  rintro e w3 ⟨rfl, hb3⟩
  go_wp2_with fail
  refine (ofF4 _).mono ?_
  rintro e w4 ⟨rfl, hb4⟩
  go_wp2_with fail
  refine (ofF0 _).mono ?_
  rintro e w5 ⟨rfl, hb5⟩
  go_wp2_with fail
  refine (ofF1 _).mono ?_
  rintro e w6 ⟨rfl, hb6⟩
  go_wp2_with fail
  have z1 := hb1.size
  have z2 := hb2.size
  have z3 := hb3.size
  have z4 := hb4.size
  have z5 := hb5.size
  have z6 := hb6.size
  simp at z3 z4 z5 z6
  have n2 := new_at w2 (.cells #[.int .u16 a.k, .int .u16 a.y, .int .u16 a.r, .int .i64 a.ib, .int .i64 a.d, .int .i64 a.s, .bool a.o, .bool a.sh, .bool a.c, .bool a.m] 25)
  have p2_3 := Mix.block_grow hb3 n2
  have p2_4 := Mix.block_grow hb4 (old_at (X := .cells #[.int .u16 b.k, .int .u16 b.y, .int .u16 b.r, .int .i64 b.ib, .int .i64 b.d, .int .i64 b.s, .bool b.o, .bool b.sh, .bool b.c, .bool b.m] 25) p2_3).1
  have p2_5 := Mix.block_grow hb5 (old_at (X := .cells #[.int .u16 4095, .int .u16 4095, .int .u16 4095, .int .i64 0, .int .i64 32, .int .i64 0, .bool true, .bool true, .bool true, .bool true] 25) p2_4).1
  have p2_6 := Mix.block_grow hb6 (old_at (X := .cells #[.int .u16 1583, .int .u16 32, .int .u16 1583, .int .i64 0, .int .i64 32, .int .i64 0, .bool false, .bool false, .bool false, .bool true] 25) p2_5).1
  have n3 := new_at w3 (.cells #[.int .u16 b.k, .int .u16 b.y, .int .u16 b.r, .int .i64 b.ib, .int .i64 b.d, .int .i64 b.s, .bool b.o, .bool b.sh, .bool b.c, .bool b.m] 25)
  have p3_4 := Mix.block_grow hb4 n3
  have p3_5 := Mix.block_grow hb5 (old_at (X := .cells #[.int .u16 4095, .int .u16 4095, .int .u16 4095, .int .i64 0, .int .i64 32, .int .i64 0, .bool true, .bool true, .bool true, .bool true] 25) p3_4).1
  have p3_6 := Mix.block_grow hb6 (old_at (X := .cells #[.int .u16 1583, .int .u16 32, .int .u16 1583, .int .i64 0, .int .i64 32, .int .i64 0, .bool false, .bool false, .bool false, .bool true] 25) p3_5).1
  have n4 := new_at w4 (.cells #[.int .u16 4095, .int .u16 4095, .int .u16 4095, .int .i64 0, .int .i64 32, .int .i64 0, .bool true, .bool true, .bool true, .bool true] 25)
  have p4_5 := Mix.block_grow hb5 n4
  have p4_6 := Mix.block_grow hb6 (old_at (X := .cells #[.int .u16 1583, .int .u16 32, .int .u16 1583, .int .i64 0, .int .i64 32, .int .i64 0, .bool false, .bool false, .bool false, .bool true] 25) p4_5).1
  have n5 := new_at w5 (.cells #[.int .u16 1583, .int .u16 32, .int .u16 1583, .int .i64 0, .int .i64 32, .int .i64 0, .bool false, .bool false, .bool false, .bool true] 25)
  have p5_6 := Mix.block_grow hb6 n5
  obtain ⟨W, hW⟩ : ∃ W : World, W = w6.alloc (.cells #[.int .u16 3711, .int .u16 127, .int .u16 3711, .int .i64 0, .int .i64 32, .int .i64 0, .bool false, .bool true, .bool true, .bool true] 25) := ⟨_, rfl⟩
  rw [← hW]
  have q2 : W.heap[w2.heap.size]? = some (.cells #[.int .u16 a.k, .int .u16 a.y, .int .u16 a.r, .int .i64 a.ib, .int .i64 a.d, .int .i64 a.s, .bool a.o, .bool a.sh, .bool a.c, .bool a.m] 25) := by rw [hW]; exact (old_at p2_6).1
  have q3 : W.heap[w3.heap.size]? = some (.cells #[.int .u16 b.k, .int .u16 b.y, .int .u16 b.r, .int .i64 b.ib, .int .i64 b.d, .int .i64 b.s, .bool b.o, .bool b.sh, .bool b.c, .bool b.m] 25) := by rw [hW]; exact (old_at p3_6).1
  have q4 : W.heap[w4.heap.size]? = some (.cells #[.int .u16 4095, .int .u16 4095, .int .u16 4095, .int .i64 0, .int .i64 32, .int .i64 0, .bool true, .bool true, .bool true, .bool true] 25) := by rw [hW]; exact (old_at p4_6).1
  have q5 : W.heap[w5.heap.size]? = some (.cells #[.int .u16 1583, .int .u16 32, .int .u16 1583, .int .i64 0, .int .i64 32, .int .i64 0, .bool false, .bool false, .bool false, .bool true] 25) := by rw [hW]; exact (old_at p5_6).1
  have q6 : W.heap[w6.heap.size]? = some (.cells #[.int .u16 3711, .int .u16 127, .int .u16 3711, .int .i64 0, .int .i64 32, .int .i64 0, .bool false, .bool true, .bool true, .bool true] 25) := by rw [hW]; exact new_at _ _
  have hWB : Below w.heap.size w W := by
    rw [hW]
    exact (((((((((hb1.trans (hb2.mono (by omega))).alloc (by omega) _).trans (hb3.mono (by simp; omega))).alloc (by omega) _).trans (hb4.mono (by simp; omega))).alloc (by omega) _).trans (hb5.mono (by simp; omega))).alloc (by omega) _).trans (hb6.mono (by simp; omega))).alloc (by omega) _
  have hsz : W.heap.size = w6.heap.size + 1 := by rw [hW]; simp
  have l2 : w2.heap.size < W.heap.size := by omega
  have l3 : w3.heap.size < W.heap.size := by omega
  have l4 : w4.heap.size < W.heap.size := by omega
  have l5 : w5.heap.size < W.heap.size := by omega
  have l6 : w6.heap.size < W.heap.size := by omega
  clear hsz hW n2 n3 n4 n5 p2_3 p2_4 p2_5 p2_6 p3_4 p3_5 p3_6 p4_5 p4_6 p5_6 z1 z2 z3 z4 z5 z6 hb1 hb2 hb3 hb4 hb5 hb6
  have c2_0 := cell_at' q2 0
  have c2_1 := cell_at' q2 1
  have c2_2 := cell_at' q2 2
  have c2_3 := cell_at' q2 3
  have c2_4 := cell_at' q2 4
  have c2_5 := cell_at' q2 5
  have c2_6 := cell_at' q2 6
  have c2_7 := cell_at' q2 7
  have c2_8 := cell_at' q2 8
  have c2_9 := cell_at' q2 9
  have c3_0 := cell_at' q3 0
  have c3_1 := cell_at' q3 1
  have c3_2 := cell_at' q3 2
  have c3_3 := cell_at' q3 3
  have c3_4 := cell_at' q3 4
  have c3_5 := cell_at' q3 5
  have c3_6 := cell_at' q3 6
  have c3_7 := cell_at' q3 7
  have c3_8 := cell_at' q3 8
  have c3_9 := cell_at' q3 9
  have c4_0 := cell_at' q4 0
  have c4_1 := cell_at' q4 1
  have c4_2 := cell_at' q4 2
  have c4_3 := cell_at' q4 3
  have c4_4 := cell_at' q4 4
  have c4_5 := cell_at' q4 5
  have c4_6 := cell_at' q4 6
  have c4_7 := cell_at' q4 7
  have c4_8 := cell_at' q4 8
  have c4_9 := cell_at' q4 9
  have c5_0 := cell_at' q5 0
  have c5_1 := cell_at' q5 1
  have c5_2 := cell_at' q5 2
  have c5_3 := cell_at' q5 3
  have c5_4 := cell_at' q5 4
  have c5_5 := cell_at' q5 5
  have c5_6 := cell_at' q5 6
  have c5_7 := cell_at' q5 7
  have c5_8 := cell_at' q5 8
  have c5_9 := cell_at' q5 9
  have c6_0 := cell_at' q6 0
  have c6_1 := cell_at' q6 1
  have c6_2 := cell_at' q6 2
  have c6_3 := cell_at' q6 3
  have c6_4 := cell_at' q6 4
  have c6_5 := cell_at' q6 5
  have c6_6 := cell_at' q6 6
  have c6_7 := cell_at' q6 7
  have c6_8 := cell_at' q6 8
  have c6_9 := cell_at' q6 9
  simp only [List.getElem?_toArray, List.getElem?_cons_zero, List.getElem?_cons_succ] at c2_0 c2_1 c2_2 c2_3 c2_4 c2_5 c2_6 c2_7 c2_8 c2_9 c3_0 c3_1 c3_2 c3_3 c3_4 c3_5 c3_6 c3_7 c3_8 c3_9 c4_0 c4_1 c4_2 c4_3 c4_4 c4_5 c4_6 c4_7 c4_8 c4_9 c5_0 c5_1 c5_2 c5_3 c5_4 c5_5 c5_6 c5_7 c5_8 c5_9 c6_0 c6_1 c6_2 c6_3 c6_4 c6_5 c6_6 c6_7 c6_8 c6_9
  clear q2 q3 q4 q5 q6
  have HWB := Lib.hid hWB
  clear hWB
  refine Mix.wp_region_grow (by kernel_rfl) (by kernel_rfl) ?_
  have hg : ∀ (x : Mix.Grow W) b o, b < W.heap.size → x.w.cell? ⟨b, o, none⟩ = W.cell? ⟨b, o, none⟩ := fun x b o hb => x.cell b o hb
  repeat (first | go_big_quiet_step ((first | (go_at_call 14; with_reducible exact Mix.Grow.calls (leqS a Hs.out _)) | (go_at_call 14; with_reducible exact Mix.Grow.calls (leqJY _)) | (go_at_call 14; with_reducible exact Mix.Grow.calls (leqYJ _)) | (go_at_call 14; with_reducible exact Mix.Grow.calls (leqV a b true Hl.out _)) | (go_at_call 16; with_reducible exact Mix.Grow.calls (meetV a b a Hm.out Ha.out Hb.out _)) | (go_at_call 17; with_reducible exact Mix.Grow.calls (joinV a b b Hj.out Ha.out Hb.out _)))) )
  refine wpQuiet_nil ?_
  rintro _ ⟨x, rfl⟩
  have hb7 := x.h
  generalize x.w = w7 at hb7 ⊢
  obtain ⟨hc7, hf7⟩ := bcell hb7
  clear hg
  go_wp2_with fail
  go_ret
  exact ⟨rfl, HWB.out.trans (hb7.mono HWB.out.size)⟩
set_option maxRecDepth 100000 in
set_option maxHeartbeats 8000000 in
theorem nests_false (f g : Int) (f0 : 0 ≤ f) (f1 : f ≤ 255) (g0 : 0 ≤ g) (g1 : g ≤ 255) (a b : Cp) (ea : ofC (f % 9).toNat = a) (eb : ofC (g % 9).toNat = b) (ha : a.ok = true) (hb : b.ok = true) (hs : a.le (ofC 4) = true) (hv : a.le b = false) (m j : Cp) (hm : a.meet b = m) (hj : a.join b = j) (nm : m ≠ a) (nj : j ≠ b) (w : World) : Calls Try.prog 8 #[.int .u8 f, .int .u8 g] w fun e w' => e = .returned (.bool true) ∧ Below w.heap.size w w' := by
  have Hs : Hid ((a.ok && (ofC 4).ok && a.le (ofC 4)) = true) := by unfold Hid; rw [ha, hs]; rfl
  have Hl : Hid ((a.ok && b.ok && a.le b) = false) := by unfold Hid; rw [ha, hb, hv]; rfl
  have Ea := Lib.hid ea
  have Eb := Lib.hid eb
  have Ha := Lib.hid ha
  have Hb := Lib.hid hb
  have Hm := Lib.hid hm
  have Hj := Lib.hid hj
  have r0 : 0 ≤ f % 9 := by omega
  have r1 : f % 9 < 9 := by omega
  have r2 : 0 ≤ g % 9 := by omega
  have r3 : g % 9 < 9 := by omega
  clear ea eb ha hb hs hv hm hj
  have nm' : ∀ t f : Result Bool, (if m.k = a.k then (if m.y = a.y then (if m.r = a.r then (if m.ib = a.ib then (if m.d = a.d then (if m.s = a.s then (if m.o = a.o then (if m.sh = a.sh then (if m.c = a.c then (if m.m = a.m then t else f) else f) else f) else f) else f) else f) else f) else f) else f) else f) = f := chain_ne nm
  have nj' : ∀ t f : Result Bool, (if j.k = b.k then (if j.y = b.y then (if j.r = b.r then (if j.ib = b.ib then (if j.d = b.d then (if j.s = b.s then (if j.o = b.o then (if j.sh = b.sh then (if j.c = b.c then (if j.m = b.m then t else f) else f) else f) else f) else f) else f) else f) else f) else f) else f) = f := chain_ne nj
  clear nm nj
  go_enter Try.func8, Try.ntmps8
  go_wp2_with (first | (go_at_call 9; ((with_reducible refine (awake_any _).mono ?_); rintro e w1 ⟨rfl, hb1⟩)))
  refine (ofA _ r0 r1 a Ea.out _).mono ?_
  rintro e w2 ⟨rfl, hb2⟩
  go_wp2_with fail
  refine (ofA _ r2 r3 b Eb.out _).mono ?_
  rintro e w3 ⟨rfl, hb3⟩
  go_wp2_with fail
  refine (ofF4 _).mono ?_
  rintro e w4 ⟨rfl, hb4⟩
  go_wp2_with fail
  refine (ofF0 _).mono ?_
  rintro e w5 ⟨rfl, hb5⟩
  go_wp2_with fail
  refine (ofF1 _).mono ?_
  rintro e w6 ⟨rfl, hb6⟩
  go_wp2_with fail
  have z1 := hb1.size
  have z2 := hb2.size
  have z3 := hb3.size
  have z4 := hb4.size
  have z5 := hb5.size
  have z6 := hb6.size
  simp at z3 z4 z5 z6
  have n2 := new_at w2 (.cells #[.int .u16 a.k, .int .u16 a.y, .int .u16 a.r, .int .i64 a.ib, .int .i64 a.d, .int .i64 a.s, .bool a.o, .bool a.sh, .bool a.c, .bool a.m] 25)
  have p2_3 := Mix.block_grow hb3 n2
  have p2_4 := Mix.block_grow hb4 (old_at (X := .cells #[.int .u16 b.k, .int .u16 b.y, .int .u16 b.r, .int .i64 b.ib, .int .i64 b.d, .int .i64 b.s, .bool b.o, .bool b.sh, .bool b.c, .bool b.m] 25) p2_3).1
  have p2_5 := Mix.block_grow hb5 (old_at (X := .cells #[.int .u16 4095, .int .u16 4095, .int .u16 4095, .int .i64 0, .int .i64 32, .int .i64 0, .bool true, .bool true, .bool true, .bool true] 25) p2_4).1
  have p2_6 := Mix.block_grow hb6 (old_at (X := .cells #[.int .u16 1583, .int .u16 32, .int .u16 1583, .int .i64 0, .int .i64 32, .int .i64 0, .bool false, .bool false, .bool false, .bool true] 25) p2_5).1
  have n3 := new_at w3 (.cells #[.int .u16 b.k, .int .u16 b.y, .int .u16 b.r, .int .i64 b.ib, .int .i64 b.d, .int .i64 b.s, .bool b.o, .bool b.sh, .bool b.c, .bool b.m] 25)
  have p3_4 := Mix.block_grow hb4 n3
  have p3_5 := Mix.block_grow hb5 (old_at (X := .cells #[.int .u16 4095, .int .u16 4095, .int .u16 4095, .int .i64 0, .int .i64 32, .int .i64 0, .bool true, .bool true, .bool true, .bool true] 25) p3_4).1
  have p3_6 := Mix.block_grow hb6 (old_at (X := .cells #[.int .u16 1583, .int .u16 32, .int .u16 1583, .int .i64 0, .int .i64 32, .int .i64 0, .bool false, .bool false, .bool false, .bool true] 25) p3_5).1
  have n4 := new_at w4 (.cells #[.int .u16 4095, .int .u16 4095, .int .u16 4095, .int .i64 0, .int .i64 32, .int .i64 0, .bool true, .bool true, .bool true, .bool true] 25)
  have p4_5 := Mix.block_grow hb5 n4
  have p4_6 := Mix.block_grow hb6 (old_at (X := .cells #[.int .u16 1583, .int .u16 32, .int .u16 1583, .int .i64 0, .int .i64 32, .int .i64 0, .bool false, .bool false, .bool false, .bool true] 25) p4_5).1
  have n5 := new_at w5 (.cells #[.int .u16 1583, .int .u16 32, .int .u16 1583, .int .i64 0, .int .i64 32, .int .i64 0, .bool false, .bool false, .bool false, .bool true] 25)
  have p5_6 := Mix.block_grow hb6 n5
  obtain ⟨W, hW⟩ : ∃ W : World, W = w6.alloc (.cells #[.int .u16 3711, .int .u16 127, .int .u16 3711, .int .i64 0, .int .i64 32, .int .i64 0, .bool false, .bool true, .bool true, .bool true] 25) := ⟨_, rfl⟩
  rw [← hW]
  have q2 : W.heap[w2.heap.size]? = some (.cells #[.int .u16 a.k, .int .u16 a.y, .int .u16 a.r, .int .i64 a.ib, .int .i64 a.d, .int .i64 a.s, .bool a.o, .bool a.sh, .bool a.c, .bool a.m] 25) := by rw [hW]; exact (old_at p2_6).1
  have q3 : W.heap[w3.heap.size]? = some (.cells #[.int .u16 b.k, .int .u16 b.y, .int .u16 b.r, .int .i64 b.ib, .int .i64 b.d, .int .i64 b.s, .bool b.o, .bool b.sh, .bool b.c, .bool b.m] 25) := by rw [hW]; exact (old_at p3_6).1
  have q4 : W.heap[w4.heap.size]? = some (.cells #[.int .u16 4095, .int .u16 4095, .int .u16 4095, .int .i64 0, .int .i64 32, .int .i64 0, .bool true, .bool true, .bool true, .bool true] 25) := by rw [hW]; exact (old_at p4_6).1
  have q5 : W.heap[w5.heap.size]? = some (.cells #[.int .u16 1583, .int .u16 32, .int .u16 1583, .int .i64 0, .int .i64 32, .int .i64 0, .bool false, .bool false, .bool false, .bool true] 25) := by rw [hW]; exact (old_at p5_6).1
  have q6 : W.heap[w6.heap.size]? = some (.cells #[.int .u16 3711, .int .u16 127, .int .u16 3711, .int .i64 0, .int .i64 32, .int .i64 0, .bool false, .bool true, .bool true, .bool true] 25) := by rw [hW]; exact new_at _ _
  have hWB : Below w.heap.size w W := by
    rw [hW]
    exact (((((((((hb1.trans (hb2.mono (by omega))).alloc (by omega) _).trans (hb3.mono (by simp; omega))).alloc (by omega) _).trans (hb4.mono (by simp; omega))).alloc (by omega) _).trans (hb5.mono (by simp; omega))).alloc (by omega) _).trans (hb6.mono (by simp; omega))).alloc (by omega) _
  have hsz : W.heap.size = w6.heap.size + 1 := by rw [hW]; simp
  have l2 : w2.heap.size < W.heap.size := by omega
  have l3 : w3.heap.size < W.heap.size := by omega
  have l4 : w4.heap.size < W.heap.size := by omega
  have l5 : w5.heap.size < W.heap.size := by omega
  have l6 : w6.heap.size < W.heap.size := by omega
  clear hsz hW n2 n3 n4 n5 p2_3 p2_4 p2_5 p2_6 p3_4 p3_5 p3_6 p4_5 p4_6 p5_6 z1 z2 z3 z4 z5 z6 hb1 hb2 hb3 hb4 hb5 hb6
  have c2_0 := cell_at' q2 0
  have c2_1 := cell_at' q2 1
  have c2_2 := cell_at' q2 2
  have c2_3 := cell_at' q2 3
  have c2_4 := cell_at' q2 4
  have c2_5 := cell_at' q2 5
  have c2_6 := cell_at' q2 6
  have c2_7 := cell_at' q2 7
  have c2_8 := cell_at' q2 8
  have c2_9 := cell_at' q2 9
  have c3_0 := cell_at' q3 0
  have c3_1 := cell_at' q3 1
  have c3_2 := cell_at' q3 2
  have c3_3 := cell_at' q3 3
  have c3_4 := cell_at' q3 4
  have c3_5 := cell_at' q3 5
  have c3_6 := cell_at' q3 6
  have c3_7 := cell_at' q3 7
  have c3_8 := cell_at' q3 8
  have c3_9 := cell_at' q3 9
  have c4_0 := cell_at' q4 0
  have c4_1 := cell_at' q4 1
  have c4_2 := cell_at' q4 2
  have c4_3 := cell_at' q4 3
  have c4_4 := cell_at' q4 4
  have c4_5 := cell_at' q4 5
  have c4_6 := cell_at' q4 6
  have c4_7 := cell_at' q4 7
  have c4_8 := cell_at' q4 8
  have c4_9 := cell_at' q4 9
  have c5_0 := cell_at' q5 0
  have c5_1 := cell_at' q5 1
  have c5_2 := cell_at' q5 2
  have c5_3 := cell_at' q5 3
  have c5_4 := cell_at' q5 4
  have c5_5 := cell_at' q5 5
  have c5_6 := cell_at' q5 6
  have c5_7 := cell_at' q5 7
  have c5_8 := cell_at' q5 8
  have c5_9 := cell_at' q5 9
  have c6_0 := cell_at' q6 0
  have c6_1 := cell_at' q6 1
  have c6_2 := cell_at' q6 2
  have c6_3 := cell_at' q6 3
  have c6_4 := cell_at' q6 4
  have c6_5 := cell_at' q6 5
  have c6_6 := cell_at' q6 6
  have c6_7 := cell_at' q6 7
  have c6_8 := cell_at' q6 8
  have c6_9 := cell_at' q6 9
  simp only [List.getElem?_toArray, List.getElem?_cons_zero, List.getElem?_cons_succ] at c2_0 c2_1 c2_2 c2_3 c2_4 c2_5 c2_6 c2_7 c2_8 c2_9 c3_0 c3_1 c3_2 c3_3 c3_4 c3_5 c3_6 c3_7 c3_8 c3_9 c4_0 c4_1 c4_2 c4_3 c4_4 c4_5 c4_6 c4_7 c4_8 c4_9 c5_0 c5_1 c5_2 c5_3 c5_4 c5_5 c5_6 c5_7 c5_8 c5_9 c6_0 c6_1 c6_2 c6_3 c6_4 c6_5 c6_6 c6_7 c6_8 c6_9
  clear q2 q3 q4 q5 q6
  have HWB := Lib.hid hWB
  clear hWB
  refine Mix.wp_region_grow (by kernel_rfl) (by kernel_rfl) ?_
  have hg : ∀ (x : Mix.Grow W) b o, b < W.heap.size → x.w.cell? ⟨b, o, none⟩ = W.cell? ⟨b, o, none⟩ := fun x b o hb => x.cell b o hb
  repeat (first | go_big_quiet_step ((first | (go_at_call 14; with_reducible exact Mix.Grow.calls (leqS a Hs.out _)) | (go_at_call 14; with_reducible exact Mix.Grow.calls (leqJY _)) | (go_at_call 14; with_reducible exact Mix.Grow.calls (leqYJ _)) | (go_at_call 14; with_reducible exact Mix.Grow.calls (leqV a b false Hl.out _)) | (go_at_call 16; with_reducible exact Mix.Grow.calls (meetV a b m Hm.out Ha.out Hb.out _)) | (go_at_call 17; with_reducible exact Mix.Grow.calls (joinV a b j Hj.out Ha.out Hb.out _)))) )
  refine wpQuiet_nil ?_
  rintro _ ⟨x, rfl⟩
  have hb7 := x.h
  generalize x.w = w7 at hb7 ⊢
  obtain ⟨hc7, hf7⟩ := bcell hb7
  clear hg
  go_wp2_with fail
  go_ret
  exact ⟨rfl, HWB.out.trans (hb7.mono HWB.out.size)⟩
theorem nests_walk (f g : Int) (wf : (Lit.int .u8 f).wf = true) (wg : (Lit.int .u8 g).wf = true) (w : World) : Calls Try.prog 8 #[.int .u8 f, .int .u8 g] w fun e w' => e = .returned (.bool true) ∧ Below w.heap.size w w' := by
  have bf : 0 ≤ f ∧ f ≤ 255 := by simp [Lit.wf, IntKind.min, IntKind.max, IntKind.signed, IntKind.bits] at wf; omega
  have bg : 0 ≤ g ∧ g ≤ 255 := by simp [Lit.wf, IntKind.min, IntKind.max, IntKind.signed, IntKind.bits] at wg; omega
  obtain ⟨ha, hs, fa⟩ := ofC_good (f % 9) (by omega) (by omega)
  obtain ⟨hb, _, fb⟩ := ofC_good (g % 9) (by omega) (by omega)
  generalize ea : ofC (f % 9).toNat = a at ha hs fa
  generalize eb : ofC (g % 9).toNat = b at hb fb
  cases hv : a.le b
  · refine nests_false f g bf.1 bf.2 bg.1 bg.2 a b ea eb ha hb hs hv _ _ rfl rfl (fun h => ?_) (fun h => ?_) w
    · have := (meet_le ha hb).2
      rw [h, hv] at this
      cases this
    · have := (le_join ha hb).1
      rw [h, hv] at this
      cases this
  · refine nests_true f g bf.1 bf.2 bg.1 bg.2 a b ea eb ha hb hs hv ?_ ?_ w
    · exact le_antisymm (meet_wf _ _) fa (meet_le ha hb).1 (by rw [le_meet ha hb ha, le_refl, hv]; rfl)
    · exact le_antisymm (join_wf _ _) fb (by rw [join_le ha hb hb, le_refl, hv]; rfl) (le_join ha hb).2
end Go.Proofs.Ytfgglegimajghaa
