/- CapsFormats: whatever the number, the law answers true. -/
import Derived.Test.YtfgglegimajghaaR
import Derived.Test.YtfgglegimajghaaK
import Derived.BigQuiet
import Derived.BigGuardPart
namespace Go.Proofs.Ytfgglegimajghaa
open Go.RowKit

theorem ofF0 (w : World) : Calls Try.prog 10 #[.int .i64 0] w fun e w' => e = .returned (.tuple #[.agg #[.int .u16 1583, .int .u16 32, .int .u16 1583, .int .i64 0, .int .i64 32, .int .i64 0, .bool false, .bool false, .bool false, .bool true], .int .i64 0]) ∧ Below w.heap.size w w' := of0 w
theorem rofF0 (w : World) : Calls Try.prog 11 #[.int .i64 0] w fun e w' => e = .returned (.agg #[.int .u16 1583, .int .u16 32, .int .u16 1583, .int .i64 0, .int .i64 32, .int .i64 0, .bool false, .bool false, .bool false, .bool true]) ∧ Below w.heap.size w w' := rof_any 0 (by decide) w
theorem chkF0 (w : World) : Calls Try.prog 12 #[.agg #[.int .u16 1583, .int .u16 32, .int .u16 1583, .int .i64 0, .int .i64 32, .int .i64 0, .bool false, .bool false, .bool false, .bool true]] w fun e w' => e = .returned (.int .i64 0) ∧ Below w.heap.size w w' := check_ok (ofC 0) (by kernel_rfl) w
theorem ofF1 (w : World) : Calls Try.prog 10 #[.int .i64 1] w fun e w' => e = .returned (.tuple #[.agg #[.int .u16 3711, .int .u16 127, .int .u16 3711, .int .i64 0, .int .i64 32, .int .i64 0, .bool false, .bool true, .bool true, .bool true], .int .i64 0]) ∧ Below w.heap.size w w' := of1 w
theorem rofF1 (w : World) : Calls Try.prog 11 #[.int .i64 1] w fun e w' => e = .returned (.agg #[.int .u16 3711, .int .u16 127, .int .u16 3711, .int .i64 0, .int .i64 32, .int .i64 0, .bool false, .bool true, .bool true, .bool true]) ∧ Below w.heap.size w w' := rof_any 1 (by decide) w
theorem chkF1 (w : World) : Calls Try.prog 12 #[.agg #[.int .u16 3711, .int .u16 127, .int .u16 3711, .int .i64 0, .int .i64 32, .int .i64 0, .bool false, .bool true, .bool true, .bool true]] w fun e w' => e = .returned (.int .i64 0) ∧ Below w.heap.size w w' := check_ok (ofC 1) (by kernel_rfl) w
theorem ofF2 (w : World) : Calls Try.prog 10 #[.int .i64 2] w fun e w' => e = .returned (.tuple #[.agg #[.int .u16 1966, .int .u16 32, .int .u16 1024, .int .i64 64, .int .i64 32, .int .i64 0, .bool false, .bool false, .bool false, .bool true], .int .i64 0]) ∧ Below w.heap.size w w' := of2 w
theorem rofF2 (w : World) : Calls Try.prog 11 #[.int .i64 2] w fun e w' => e = .returned (.agg #[.int .u16 1966, .int .u16 32, .int .u16 1024, .int .i64 64, .int .i64 32, .int .i64 0, .bool false, .bool false, .bool false, .bool true]) ∧ Below w.heap.size w w' := rof_any 2 (by decide) w
theorem chkF2 (w : World) : Calls Try.prog 12 #[.agg #[.int .u16 1966, .int .u16 32, .int .u16 1024, .int .i64 64, .int .i64 32, .int .i64 0, .bool false, .bool false, .bool false, .bool true]] w fun e w' => e = .returned (.int .i64 0) ∧ Below w.heap.size w w' := check_ok (ofC 2) (by kernel_rfl) w
theorem ofF3 (w : World) : Calls Try.prog 10 #[.int .i64 3] w fun e w' => e = .returned (.tuple #[.agg #[.int .u16 1056, .int .u16 32, .int .u16 1024, .int .i64 0, .int .i64 2, .int .i64 1, .bool false, .bool false, .bool false, .bool true], .int .i64 0]) ∧ Below w.heap.size w w' := of3 w
theorem rofF3 (w : World) : Calls Try.prog 11 #[.int .i64 3] w fun e w' => e = .returned (.agg #[.int .u16 1056, .int .u16 32, .int .u16 1024, .int .i64 0, .int .i64 2, .int .i64 1, .bool false, .bool false, .bool false, .bool true]) ∧ Below w.heap.size w w' := rof_any 3 (by decide) w
theorem chkF3 (w : World) : Calls Try.prog 12 #[.agg #[.int .u16 1056, .int .u16 32, .int .u16 1024, .int .i64 0, .int .i64 2, .int .i64 1, .bool false, .bool false, .bool false, .bool true]] w fun e w' => e = .returned (.int .i64 0) ∧ Below w.heap.size w w' := check_ok (ofC 3) (by kernel_rfl) w
theorem ofF4 (w : World) : Calls Try.prog 10 #[.int .i64 4] w fun e w' => e = .returned (.tuple #[.agg #[.int .u16 4095, .int .u16 4095, .int .u16 4095, .int .i64 0, .int .i64 32, .int .i64 0, .bool true, .bool true, .bool true, .bool true], .int .i64 0]) ∧ Below w.heap.size w w' := of4 w
theorem rofF4 (w : World) : Calls Try.prog 11 #[.int .i64 4] w fun e w' => e = .returned (.agg #[.int .u16 4095, .int .u16 4095, .int .u16 4095, .int .i64 0, .int .i64 32, .int .i64 0, .bool true, .bool true, .bool true, .bool true]) ∧ Below w.heap.size w w' := rof_any 4 (by decide) w
theorem chkF4 (w : World) : Calls Try.prog 12 #[.agg #[.int .u16 4095, .int .u16 4095, .int .u16 4095, .int .i64 0, .int .i64 32, .int .i64 0, .bool true, .bool true, .bool true, .bool true]] w fun e w' => e = .returned (.int .i64 0) ∧ Below w.heap.size w w' := check_ok (ofC 4) (by kernel_rfl) w
theorem ofF5 (w : World) : Calls Try.prog 10 #[.int .i64 5] w fun e w' => e = .returned (.tuple #[.agg #[.int .u16 1636, .int .u16 32, .int .u16 1636, .int .i64 0, .int .i64 32, .int .i64 0, .bool false, .bool false, .bool false, .bool false], .int .i64 0]) ∧ Below w.heap.size w w' := of5 w
theorem rofF5 (w : World) : Calls Try.prog 11 #[.int .i64 5] w fun e w' => e = .returned (.agg #[.int .u16 1636, .int .u16 32, .int .u16 1636, .int .i64 0, .int .i64 32, .int .i64 0, .bool false, .bool false, .bool false, .bool false]) ∧ Below w.heap.size w w' := rof_any 5 (by decide) w
theorem chkF5 (w : World) : Calls Try.prog 12 #[.agg #[.int .u16 1636, .int .u16 32, .int .u16 1636, .int .i64 0, .int .i64 32, .int .i64 0, .bool false, .bool false, .bool false, .bool false]] w fun e w' => e = .returned (.int .i64 0) ∧ Below w.heap.size w w' := check_ok (ofC 5) (by kernel_rfl) w
theorem ofF6 (w : World) : Calls Try.prog 10 #[.int .i64 6] w fun e w' => e = .returned (.tuple #[.agg #[.int .u16 3839, .int .u16 255, .int .u16 3839, .int .i64 0, .int .i64 32, .int .i64 0, .bool false, .bool true, .bool true, .bool true], .int .i64 0]) ∧ Below w.heap.size w w' := of6 w
theorem rofF6 (w : World) : Calls Try.prog 11 #[.int .i64 6] w fun e w' => e = .returned (.agg #[.int .u16 3839, .int .u16 255, .int .u16 3839, .int .i64 0, .int .i64 32, .int .i64 0, .bool false, .bool true, .bool true, .bool true]) ∧ Below w.heap.size w w' := rof_any 6 (by decide) w
theorem chkF6 (w : World) : Calls Try.prog 12 #[.agg #[.int .u16 3839, .int .u16 255, .int .u16 3839, .int .i64 0, .int .i64 32, .int .i64 0, .bool false, .bool true, .bool true, .bool true]] w fun e w' => e = .returned (.int .i64 0) ∧ Below w.heap.size w w' := check_ok (ofC 6) (by kernel_rfl) w
theorem ofF7 (w : World) : Calls Try.prog 10 #[.int .i64 7] w fun e w' => e = .returned (.tuple #[.agg #[.int .u16 1774, .int .u16 32, .int .u16 1774, .int .i64 0, .int .i64 32, .int .i64 0, .bool false, .bool false, .bool false, .bool true], .int .i64 0]) ∧ Below w.heap.size w w' := of7 w
theorem rofF7 (w : World) : Calls Try.prog 11 #[.int .i64 7] w fun e w' => e = .returned (.agg #[.int .u16 1774, .int .u16 32, .int .u16 1774, .int .i64 0, .int .i64 32, .int .i64 0, .bool false, .bool false, .bool false, .bool true]) ∧ Below w.heap.size w w' := rof_any 7 (by decide) w
theorem chkF7 (w : World) : Calls Try.prog 12 #[.agg #[.int .u16 1774, .int .u16 32, .int .u16 1774, .int .i64 0, .int .i64 32, .int .i64 0, .bool false, .bool false, .bool false, .bool true]] w fun e w' => e = .returned (.int .i64 0) ∧ Below w.heap.size w w' := check_ok (ofC 7) (by kernel_rfl) w
theorem ofF8 (w : World) : Calls Try.prog 10 #[.int .i64 8] w fun e w' => e = .returned (.tuple #[.agg #[.int .u16 2047, .int .u16 32, .int .u16 512, .int .i64 0, .int .i64 2, .int .i64 2, .bool false, .bool false, .bool false, .bool true], .int .i64 0]) ∧ Below w.heap.size w w' := of8 w
theorem rofF8 (w : World) : Calls Try.prog 11 #[.int .i64 8] w fun e w' => e = .returned (.agg #[.int .u16 2047, .int .u16 32, .int .u16 512, .int .i64 0, .int .i64 2, .int .i64 2, .bool false, .bool false, .bool false, .bool true]) ∧ Below w.heap.size w w' := rof_any 8 (by decide) w
theorem chkF8 (w : World) : Calls Try.prog 12 #[.agg #[.int .u16 2047, .int .u16 32, .int .u16 512, .int .i64 0, .int .i64 2, .int .i64 2, .bool false, .bool false, .bool false, .bool true]] w fun e w' => e = .returned (.int .i64 0) ∧ Below w.heap.size w w' := check_ok (ofC 8) (by kernel_rfl) w
theorem ofBadV (f : Int) (w : World) (h0 : (f == 0) = false) (h1 : (f == 1) = false) (h2 : (f == 2) = false) (h3 : (f == 3) = false) (h4 : (f == 4) = false) (h5 : (f == 5) = false) (h6 : (f == 6) = false) (h7 : (f == 7) = false) (h8 : (f == 8) = false) : Calls Try.prog 10 #[.int .i64 f] w fun e w' => e = .returned (.tuple #[.agg #[.int .u16 0, .int .u16 0, .int .u16 0, .int .i64 0, .int .i64 0, .int .i64 0, .bool false, .bool false, .bool false, .bool false], .int .i64 1]) ∧ Below w.heap.size w w' := ofBad f w h0 h1 h2 h3 h4 h5 h6 h7 h8
set_option maxRecDepth 100000 in
set_option maxHeartbeats 4000000 in
theorem formats0 (w : World) : Calls Try.prog 3 #[.int .i64 0] w fun e w' => e = .returned (.bool true) ∧ Below w.heap.size w w' := by
  go_enter Try.func3, Try.ntmps3
  go_wp2_with (first | (go_at_call 9; ((with_reducible refine (awake_any _).mono ?_); rintro e w1 ⟨rfl, hb1⟩)) | (go_at_call 10; ((with_reducible refine (ofF0 _).mono ?_); rintro e w2 ⟨rfl, hb2⟩)))
  obtain ⟨W, hW⟩ : ∃ W : World, W = w2.alloc (.cells #[.int .u16 1583, .int .u16 32, .int .u16 1583, .int .i64 0, .int .i64 32, .int .i64 0, .bool false, .bool false, .bool false, .bool true] 25) := ⟨_, rfl⟩
  rw [← hW]
  have q : W.heap[w2.heap.size]? = some (.cells #[.int .u16 1583, .int .u16 32, .int .u16 1583, .int .i64 0, .int .i64 32, .int .i64 0, .bool false, .bool false, .bool false, .bool true] 25) := by rw [hW]; exact new_at _ _
  have hWB : Below w.heap.size w W := by rw [hW]; exact (hb1.trans (hb2.mono hb1.size)).alloc (Nat.le_trans hb1.size hb2.size) _
  have l2 : w2.heap.size < W.heap.size := by rw [hW]; simp
  clear hW hb1 hb2
  have c0 := cell_at' q 0
  have c1 := cell_at' q 1
  have c2 := cell_at' q 2
  have c3 := cell_at' q 3
  have c4 := cell_at' q 4
  have c5 := cell_at' q 5
  have c6 := cell_at' q 6
  have c7 := cell_at' q 7
  have c8 := cell_at' q 8
  have c9 := cell_at' q 9
  simp only [List.getElem?_toArray, List.getElem?_cons_zero, List.getElem?_cons_succ] at c0 c1 c2 c3 c4 c5 c6 c7 c8 c9
  clear q
  refine Mix.wp_region_grow (by kernel_rfl) (by kernel_rfl) ?_
  have hg : ∀ (x : Mix.Grow W) b o, b < W.heap.size → x.w.cell? ⟨b, o, none⟩ = W.cell? ⟨b, o, none⟩ := fun x b o hb => x.cell b o hb
  repeat (first | go_big_quiet_step ((first | (go_at_call 11; with_reducible exact Mix.Grow.calls (rofF0 _)) | (go_at_call 12; with_reducible exact Mix.Grow.calls (chkF0 _)))) )
  refine wpQuiet_nil ?_
  rintro _ ⟨x, rfl⟩
  have hb3 := x.h
  generalize x.w = w3 at hb3 ⊢
  obtain ⟨hc3, hf3⟩ := bcell hb3
  clear hg
  go_wp2_with fail
  go_ret
  exact ⟨rfl, hWB.trans (hb3.mono hWB.size)⟩
set_option maxRecDepth 100000 in
set_option maxHeartbeats 4000000 in
theorem formats1 (w : World) : Calls Try.prog 3 #[.int .i64 1] w fun e w' => e = .returned (.bool true) ∧ Below w.heap.size w w' := by
  go_enter Try.func3, Try.ntmps3
  go_wp2_with (first | (go_at_call 9; ((with_reducible refine (awake_any _).mono ?_); rintro e w1 ⟨rfl, hb1⟩)) | (go_at_call 10; ((with_reducible refine (ofF1 _).mono ?_); rintro e w2 ⟨rfl, hb2⟩)))
  obtain ⟨W, hW⟩ : ∃ W : World, W = w2.alloc (.cells #[.int .u16 3711, .int .u16 127, .int .u16 3711, .int .i64 0, .int .i64 32, .int .i64 0, .bool false, .bool true, .bool true, .bool true] 25) := ⟨_, rfl⟩
  rw [← hW]
  have q : W.heap[w2.heap.size]? = some (.cells #[.int .u16 3711, .int .u16 127, .int .u16 3711, .int .i64 0, .int .i64 32, .int .i64 0, .bool false, .bool true, .bool true, .bool true] 25) := by rw [hW]; exact new_at _ _
  have hWB : Below w.heap.size w W := by rw [hW]; exact (hb1.trans (hb2.mono hb1.size)).alloc (Nat.le_trans hb1.size hb2.size) _
  have l2 : w2.heap.size < W.heap.size := by rw [hW]; simp
  clear hW hb1 hb2
  have c0 := cell_at' q 0
  have c1 := cell_at' q 1
  have c2 := cell_at' q 2
  have c3 := cell_at' q 3
  have c4 := cell_at' q 4
  have c5 := cell_at' q 5
  have c6 := cell_at' q 6
  have c7 := cell_at' q 7
  have c8 := cell_at' q 8
  have c9 := cell_at' q 9
  simp only [List.getElem?_toArray, List.getElem?_cons_zero, List.getElem?_cons_succ] at c0 c1 c2 c3 c4 c5 c6 c7 c8 c9
  clear q
  refine Mix.wp_region_grow (by kernel_rfl) (by kernel_rfl) ?_
  have hg : ∀ (x : Mix.Grow W) b o, b < W.heap.size → x.w.cell? ⟨b, o, none⟩ = W.cell? ⟨b, o, none⟩ := fun x b o hb => x.cell b o hb
  repeat (first | go_big_quiet_step ((first | (go_at_call 11; with_reducible exact Mix.Grow.calls (rofF1 _)) | (go_at_call 12; with_reducible exact Mix.Grow.calls (chkF1 _)))) )
  refine wpQuiet_nil ?_
  rintro _ ⟨x, rfl⟩
  have hb3 := x.h
  generalize x.w = w3 at hb3 ⊢
  obtain ⟨hc3, hf3⟩ := bcell hb3
  clear hg
  go_wp2_with fail
  go_ret
  exact ⟨rfl, hWB.trans (hb3.mono hWB.size)⟩
set_option maxRecDepth 100000 in
set_option maxHeartbeats 4000000 in
theorem formats2 (w : World) : Calls Try.prog 3 #[.int .i64 2] w fun e w' => e = .returned (.bool true) ∧ Below w.heap.size w w' := by
  go_enter Try.func3, Try.ntmps3
  go_wp2_with (first | (go_at_call 9; ((with_reducible refine (awake_any _).mono ?_); rintro e w1 ⟨rfl, hb1⟩)) | (go_at_call 10; ((with_reducible refine (ofF2 _).mono ?_); rintro e w2 ⟨rfl, hb2⟩)))
  obtain ⟨W, hW⟩ : ∃ W : World, W = w2.alloc (.cells #[.int .u16 1966, .int .u16 32, .int .u16 1024, .int .i64 64, .int .i64 32, .int .i64 0, .bool false, .bool false, .bool false, .bool true] 25) := ⟨_, rfl⟩
  rw [← hW]
  have q : W.heap[w2.heap.size]? = some (.cells #[.int .u16 1966, .int .u16 32, .int .u16 1024, .int .i64 64, .int .i64 32, .int .i64 0, .bool false, .bool false, .bool false, .bool true] 25) := by rw [hW]; exact new_at _ _
  have hWB : Below w.heap.size w W := by rw [hW]; exact (hb1.trans (hb2.mono hb1.size)).alloc (Nat.le_trans hb1.size hb2.size) _
  have l2 : w2.heap.size < W.heap.size := by rw [hW]; simp
  clear hW hb1 hb2
  have c0 := cell_at' q 0
  have c1 := cell_at' q 1
  have c2 := cell_at' q 2
  have c3 := cell_at' q 3
  have c4 := cell_at' q 4
  have c5 := cell_at' q 5
  have c6 := cell_at' q 6
  have c7 := cell_at' q 7
  have c8 := cell_at' q 8
  have c9 := cell_at' q 9
  simp only [List.getElem?_toArray, List.getElem?_cons_zero, List.getElem?_cons_succ] at c0 c1 c2 c3 c4 c5 c6 c7 c8 c9
  clear q
  refine Mix.wp_region_grow (by kernel_rfl) (by kernel_rfl) ?_
  have hg : ∀ (x : Mix.Grow W) b o, b < W.heap.size → x.w.cell? ⟨b, o, none⟩ = W.cell? ⟨b, o, none⟩ := fun x b o hb => x.cell b o hb
  repeat (first | go_big_quiet_step ((first | (go_at_call 11; with_reducible exact Mix.Grow.calls (rofF2 _)) | (go_at_call 12; with_reducible exact Mix.Grow.calls (chkF2 _)))) )
  refine wpQuiet_nil ?_
  rintro _ ⟨x, rfl⟩
  have hb3 := x.h
  generalize x.w = w3 at hb3 ⊢
  obtain ⟨hc3, hf3⟩ := bcell hb3
  clear hg
  go_wp2_with fail
  go_ret
  exact ⟨rfl, hWB.trans (hb3.mono hWB.size)⟩
set_option maxRecDepth 100000 in
set_option maxHeartbeats 4000000 in
theorem formats3 (w : World) : Calls Try.prog 3 #[.int .i64 3] w fun e w' => e = .returned (.bool true) ∧ Below w.heap.size w w' := by
  go_enter Try.func3, Try.ntmps3
  go_wp2_with (first | (go_at_call 9; ((with_reducible refine (awake_any _).mono ?_); rintro e w1 ⟨rfl, hb1⟩)) | (go_at_call 10; ((with_reducible refine (ofF3 _).mono ?_); rintro e w2 ⟨rfl, hb2⟩)))
  obtain ⟨W, hW⟩ : ∃ W : World, W = w2.alloc (.cells #[.int .u16 1056, .int .u16 32, .int .u16 1024, .int .i64 0, .int .i64 2, .int .i64 1, .bool false, .bool false, .bool false, .bool true] 25) := ⟨_, rfl⟩
  rw [← hW]
  have q : W.heap[w2.heap.size]? = some (.cells #[.int .u16 1056, .int .u16 32, .int .u16 1024, .int .i64 0, .int .i64 2, .int .i64 1, .bool false, .bool false, .bool false, .bool true] 25) := by rw [hW]; exact new_at _ _
  have hWB : Below w.heap.size w W := by rw [hW]; exact (hb1.trans (hb2.mono hb1.size)).alloc (Nat.le_trans hb1.size hb2.size) _
  have l2 : w2.heap.size < W.heap.size := by rw [hW]; simp
  clear hW hb1 hb2
  have c0 := cell_at' q 0
  have c1 := cell_at' q 1
  have c2 := cell_at' q 2
  have c3 := cell_at' q 3
  have c4 := cell_at' q 4
  have c5 := cell_at' q 5
  have c6 := cell_at' q 6
  have c7 := cell_at' q 7
  have c8 := cell_at' q 8
  have c9 := cell_at' q 9
  simp only [List.getElem?_toArray, List.getElem?_cons_zero, List.getElem?_cons_succ] at c0 c1 c2 c3 c4 c5 c6 c7 c8 c9
  clear q
  refine Mix.wp_region_grow (by kernel_rfl) (by kernel_rfl) ?_
  have hg : ∀ (x : Mix.Grow W) b o, b < W.heap.size → x.w.cell? ⟨b, o, none⟩ = W.cell? ⟨b, o, none⟩ := fun x b o hb => x.cell b o hb
  repeat (first | go_big_quiet_step ((first | (go_at_call 11; with_reducible exact Mix.Grow.calls (rofF3 _)) | (go_at_call 12; with_reducible exact Mix.Grow.calls (chkF3 _)))) )
  refine wpQuiet_nil ?_
  rintro _ ⟨x, rfl⟩
  have hb3 := x.h
  generalize x.w = w3 at hb3 ⊢
  obtain ⟨hc3, hf3⟩ := bcell hb3
  clear hg
  go_wp2_with fail
  go_ret
  exact ⟨rfl, hWB.trans (hb3.mono hWB.size)⟩
set_option maxRecDepth 100000 in
set_option maxHeartbeats 4000000 in
theorem formats4 (w : World) : Calls Try.prog 3 #[.int .i64 4] w fun e w' => e = .returned (.bool true) ∧ Below w.heap.size w w' := by
  go_enter Try.func3, Try.ntmps3
  go_wp2_with (first | (go_at_call 9; ((with_reducible refine (awake_any _).mono ?_); rintro e w1 ⟨rfl, hb1⟩)) | (go_at_call 10; ((with_reducible refine (ofF4 _).mono ?_); rintro e w2 ⟨rfl, hb2⟩)))
  obtain ⟨W, hW⟩ : ∃ W : World, W = w2.alloc (.cells #[.int .u16 4095, .int .u16 4095, .int .u16 4095, .int .i64 0, .int .i64 32, .int .i64 0, .bool true, .bool true, .bool true, .bool true] 25) := ⟨_, rfl⟩
  rw [← hW]
  have q : W.heap[w2.heap.size]? = some (.cells #[.int .u16 4095, .int .u16 4095, .int .u16 4095, .int .i64 0, .int .i64 32, .int .i64 0, .bool true, .bool true, .bool true, .bool true] 25) := by rw [hW]; exact new_at _ _
  have hWB : Below w.heap.size w W := by rw [hW]; exact (hb1.trans (hb2.mono hb1.size)).alloc (Nat.le_trans hb1.size hb2.size) _
  have l2 : w2.heap.size < W.heap.size := by rw [hW]; simp
  clear hW hb1 hb2
  have c0 := cell_at' q 0
  have c1 := cell_at' q 1
  have c2 := cell_at' q 2
  have c3 := cell_at' q 3
  have c4 := cell_at' q 4
  have c5 := cell_at' q 5
  have c6 := cell_at' q 6
  have c7 := cell_at' q 7
  have c8 := cell_at' q 8
  have c9 := cell_at' q 9
  simp only [List.getElem?_toArray, List.getElem?_cons_zero, List.getElem?_cons_succ] at c0 c1 c2 c3 c4 c5 c6 c7 c8 c9
  clear q
  refine Mix.wp_region_grow (by kernel_rfl) (by kernel_rfl) ?_
  have hg : ∀ (x : Mix.Grow W) b o, b < W.heap.size → x.w.cell? ⟨b, o, none⟩ = W.cell? ⟨b, o, none⟩ := fun x b o hb => x.cell b o hb
  repeat (first | go_big_quiet_step ((first | (go_at_call 11; with_reducible exact Mix.Grow.calls (rofF4 _)) | (go_at_call 12; with_reducible exact Mix.Grow.calls (chkF4 _)))) )
  refine wpQuiet_nil ?_
  rintro _ ⟨x, rfl⟩
  have hb3 := x.h
  generalize x.w = w3 at hb3 ⊢
  obtain ⟨hc3, hf3⟩ := bcell hb3
  clear hg
  go_wp2_with fail
  go_ret
  exact ⟨rfl, hWB.trans (hb3.mono hWB.size)⟩
set_option maxRecDepth 100000 in
set_option maxHeartbeats 4000000 in
theorem formats5 (w : World) : Calls Try.prog 3 #[.int .i64 5] w fun e w' => e = .returned (.bool true) ∧ Below w.heap.size w w' := by
  go_enter Try.func3, Try.ntmps3
  go_wp2_with (first | (go_at_call 9; ((with_reducible refine (awake_any _).mono ?_); rintro e w1 ⟨rfl, hb1⟩)) | (go_at_call 10; ((with_reducible refine (ofF5 _).mono ?_); rintro e w2 ⟨rfl, hb2⟩)))
  obtain ⟨W, hW⟩ : ∃ W : World, W = w2.alloc (.cells #[.int .u16 1636, .int .u16 32, .int .u16 1636, .int .i64 0, .int .i64 32, .int .i64 0, .bool false, .bool false, .bool false, .bool false] 25) := ⟨_, rfl⟩
  rw [← hW]
  have q : W.heap[w2.heap.size]? = some (.cells #[.int .u16 1636, .int .u16 32, .int .u16 1636, .int .i64 0, .int .i64 32, .int .i64 0, .bool false, .bool false, .bool false, .bool false] 25) := by rw [hW]; exact new_at _ _
  have hWB : Below w.heap.size w W := by rw [hW]; exact (hb1.trans (hb2.mono hb1.size)).alloc (Nat.le_trans hb1.size hb2.size) _
  have l2 : w2.heap.size < W.heap.size := by rw [hW]; simp
  clear hW hb1 hb2
  have c0 := cell_at' q 0
  have c1 := cell_at' q 1
  have c2 := cell_at' q 2
  have c3 := cell_at' q 3
  have c4 := cell_at' q 4
  have c5 := cell_at' q 5
  have c6 := cell_at' q 6
  have c7 := cell_at' q 7
  have c8 := cell_at' q 8
  have c9 := cell_at' q 9
  simp only [List.getElem?_toArray, List.getElem?_cons_zero, List.getElem?_cons_succ] at c0 c1 c2 c3 c4 c5 c6 c7 c8 c9
  clear q
  refine Mix.wp_region_grow (by kernel_rfl) (by kernel_rfl) ?_
  have hg : ∀ (x : Mix.Grow W) b o, b < W.heap.size → x.w.cell? ⟨b, o, none⟩ = W.cell? ⟨b, o, none⟩ := fun x b o hb => x.cell b o hb
  repeat (first | go_big_quiet_step ((first | (go_at_call 11; with_reducible exact Mix.Grow.calls (rofF5 _)) | (go_at_call 12; with_reducible exact Mix.Grow.calls (chkF5 _)))) )
  refine wpQuiet_nil ?_
  rintro _ ⟨x, rfl⟩
  have hb3 := x.h
  generalize x.w = w3 at hb3 ⊢
  obtain ⟨hc3, hf3⟩ := bcell hb3
  clear hg
  go_wp2_with fail
  go_ret
  exact ⟨rfl, hWB.trans (hb3.mono hWB.size)⟩
set_option maxRecDepth 100000 in
set_option maxHeartbeats 4000000 in
theorem formats6 (w : World) : Calls Try.prog 3 #[.int .i64 6] w fun e w' => e = .returned (.bool true) ∧ Below w.heap.size w w' := by
  go_enter Try.func3, Try.ntmps3
  go_wp2_with (first | (go_at_call 9; ((with_reducible refine (awake_any _).mono ?_); rintro e w1 ⟨rfl, hb1⟩)) | (go_at_call 10; ((with_reducible refine (ofF6 _).mono ?_); rintro e w2 ⟨rfl, hb2⟩)))
  obtain ⟨W, hW⟩ : ∃ W : World, W = w2.alloc (.cells #[.int .u16 3839, .int .u16 255, .int .u16 3839, .int .i64 0, .int .i64 32, .int .i64 0, .bool false, .bool true, .bool true, .bool true] 25) := ⟨_, rfl⟩
  rw [← hW]
  have q : W.heap[w2.heap.size]? = some (.cells #[.int .u16 3839, .int .u16 255, .int .u16 3839, .int .i64 0, .int .i64 32, .int .i64 0, .bool false, .bool true, .bool true, .bool true] 25) := by rw [hW]; exact new_at _ _
  have hWB : Below w.heap.size w W := by rw [hW]; exact (hb1.trans (hb2.mono hb1.size)).alloc (Nat.le_trans hb1.size hb2.size) _
  have l2 : w2.heap.size < W.heap.size := by rw [hW]; simp
  clear hW hb1 hb2
  have c0 := cell_at' q 0
  have c1 := cell_at' q 1
  have c2 := cell_at' q 2
  have c3 := cell_at' q 3
  have c4 := cell_at' q 4
  have c5 := cell_at' q 5
  have c6 := cell_at' q 6
  have c7 := cell_at' q 7
  have c8 := cell_at' q 8
  have c9 := cell_at' q 9
  simp only [List.getElem?_toArray, List.getElem?_cons_zero, List.getElem?_cons_succ] at c0 c1 c2 c3 c4 c5 c6 c7 c8 c9
  clear q
  refine Mix.wp_region_grow (by kernel_rfl) (by kernel_rfl) ?_
  have hg : ∀ (x : Mix.Grow W) b o, b < W.heap.size → x.w.cell? ⟨b, o, none⟩ = W.cell? ⟨b, o, none⟩ := fun x b o hb => x.cell b o hb
  repeat (first | go_big_quiet_step ((first | (go_at_call 11; with_reducible exact Mix.Grow.calls (rofF6 _)) | (go_at_call 12; with_reducible exact Mix.Grow.calls (chkF6 _)))) )
  refine wpQuiet_nil ?_
  rintro _ ⟨x, rfl⟩
  have hb3 := x.h
  generalize x.w = w3 at hb3 ⊢
  obtain ⟨hc3, hf3⟩ := bcell hb3
  clear hg
  go_wp2_with fail
  go_ret
  exact ⟨rfl, hWB.trans (hb3.mono hWB.size)⟩
set_option maxRecDepth 100000 in
set_option maxHeartbeats 4000000 in
theorem formats7 (w : World) : Calls Try.prog 3 #[.int .i64 7] w fun e w' => e = .returned (.bool true) ∧ Below w.heap.size w w' := by
  go_enter Try.func3, Try.ntmps3
  go_wp2_with (first | (go_at_call 9; ((with_reducible refine (awake_any _).mono ?_); rintro e w1 ⟨rfl, hb1⟩)) | (go_at_call 10; ((with_reducible refine (ofF7 _).mono ?_); rintro e w2 ⟨rfl, hb2⟩)))
  obtain ⟨W, hW⟩ : ∃ W : World, W = w2.alloc (.cells #[.int .u16 1774, .int .u16 32, .int .u16 1774, .int .i64 0, .int .i64 32, .int .i64 0, .bool false, .bool false, .bool false, .bool true] 25) := ⟨_, rfl⟩
  rw [← hW]
  have q : W.heap[w2.heap.size]? = some (.cells #[.int .u16 1774, .int .u16 32, .int .u16 1774, .int .i64 0, .int .i64 32, .int .i64 0, .bool false, .bool false, .bool false, .bool true] 25) := by rw [hW]; exact new_at _ _
  have hWB : Below w.heap.size w W := by rw [hW]; exact (hb1.trans (hb2.mono hb1.size)).alloc (Nat.le_trans hb1.size hb2.size) _
  have l2 : w2.heap.size < W.heap.size := by rw [hW]; simp
  clear hW hb1 hb2
  have c0 := cell_at' q 0
  have c1 := cell_at' q 1
  have c2 := cell_at' q 2
  have c3 := cell_at' q 3
  have c4 := cell_at' q 4
  have c5 := cell_at' q 5
  have c6 := cell_at' q 6
  have c7 := cell_at' q 7
  have c8 := cell_at' q 8
  have c9 := cell_at' q 9
  simp only [List.getElem?_toArray, List.getElem?_cons_zero, List.getElem?_cons_succ] at c0 c1 c2 c3 c4 c5 c6 c7 c8 c9
  clear q
  refine Mix.wp_region_grow (by kernel_rfl) (by kernel_rfl) ?_
  have hg : ∀ (x : Mix.Grow W) b o, b < W.heap.size → x.w.cell? ⟨b, o, none⟩ = W.cell? ⟨b, o, none⟩ := fun x b o hb => x.cell b o hb
  repeat (first | go_big_quiet_step ((first | (go_at_call 11; with_reducible exact Mix.Grow.calls (rofF7 _)) | (go_at_call 12; with_reducible exact Mix.Grow.calls (chkF7 _)))) )
  refine wpQuiet_nil ?_
  rintro _ ⟨x, rfl⟩
  have hb3 := x.h
  generalize x.w = w3 at hb3 ⊢
  obtain ⟨hc3, hf3⟩ := bcell hb3
  clear hg
  go_wp2_with fail
  go_ret
  exact ⟨rfl, hWB.trans (hb3.mono hWB.size)⟩
set_option maxRecDepth 100000 in
set_option maxHeartbeats 4000000 in
theorem formats8 (w : World) : Calls Try.prog 3 #[.int .i64 8] w fun e w' => e = .returned (.bool true) ∧ Below w.heap.size w w' := by
  go_enter Try.func3, Try.ntmps3
  go_wp2_with (first | (go_at_call 9; ((with_reducible refine (awake_any _).mono ?_); rintro e w1 ⟨rfl, hb1⟩)) | (go_at_call 10; ((with_reducible refine (ofF8 _).mono ?_); rintro e w2 ⟨rfl, hb2⟩)))
  obtain ⟨W, hW⟩ : ∃ W : World, W = w2.alloc (.cells #[.int .u16 2047, .int .u16 32, .int .u16 512, .int .i64 0, .int .i64 2, .int .i64 2, .bool false, .bool false, .bool false, .bool true] 25) := ⟨_, rfl⟩
  rw [← hW]
  have q : W.heap[w2.heap.size]? = some (.cells #[.int .u16 2047, .int .u16 32, .int .u16 512, .int .i64 0, .int .i64 2, .int .i64 2, .bool false, .bool false, .bool false, .bool true] 25) := by rw [hW]; exact new_at _ _
  have hWB : Below w.heap.size w W := by rw [hW]; exact (hb1.trans (hb2.mono hb1.size)).alloc (Nat.le_trans hb1.size hb2.size) _
  have l2 : w2.heap.size < W.heap.size := by rw [hW]; simp
  clear hW hb1 hb2
  have c0 := cell_at' q 0
  have c1 := cell_at' q 1
  have c2 := cell_at' q 2
  have c3 := cell_at' q 3
  have c4 := cell_at' q 4
  have c5 := cell_at' q 5
  have c6 := cell_at' q 6
  have c7 := cell_at' q 7
  have c8 := cell_at' q 8
  have c9 := cell_at' q 9
  simp only [List.getElem?_toArray, List.getElem?_cons_zero, List.getElem?_cons_succ] at c0 c1 c2 c3 c4 c5 c6 c7 c8 c9
  clear q
  refine Mix.wp_region_grow (by kernel_rfl) (by kernel_rfl) ?_
  have hg : ∀ (x : Mix.Grow W) b o, b < W.heap.size → x.w.cell? ⟨b, o, none⟩ = W.cell? ⟨b, o, none⟩ := fun x b o hb => x.cell b o hb
  repeat (first | go_big_quiet_step ((first | (go_at_call 11; with_reducible exact Mix.Grow.calls (rofF8 _)) | (go_at_call 12; with_reducible exact Mix.Grow.calls (chkF8 _)))) )
  refine wpQuiet_nil ?_
  rintro _ ⟨x, rfl⟩
  have hb3 := x.h
  generalize x.w = w3 at hb3 ⊢
  obtain ⟨hc3, hf3⟩ := bcell hb3
  clear hg
  go_wp2_with fail
  go_ret
  exact ⟨rfl, hWB.trans (hb3.mono hWB.size)⟩
set_option maxRecDepth 100000 in
set_option maxHeartbeats 4000000 in
theorem formatsBad (f : Int) (hf : f < 0 ∨ 9 ≤ f) (w : World) : Calls Try.prog 3 #[.int .i64 f] w fun e w' => e = .returned (.bool true) ∧ Below w.heap.size w w' := by
  have n0 : Hid ((f == 0) = false) := by unfold Hid; rw [beq_eq_false_iff_ne]; omega
  have n1 : Hid ((f == 1) = false) := by unfold Hid; rw [beq_eq_false_iff_ne]; omega
  have n2 : Hid ((f == 2) = false) := by unfold Hid; rw [beq_eq_false_iff_ne]; omega
  have n3 : Hid ((f == 3) = false) := by unfold Hid; rw [beq_eq_false_iff_ne]; omega
  have n4 : Hid ((f == 4) = false) := by unfold Hid; rw [beq_eq_false_iff_ne]; omega
  have n5 : Hid ((f == 5) = false) := by unfold Hid; rw [beq_eq_false_iff_ne]; omega
  have n6 : Hid ((f == 6) = false) := by unfold Hid; rw [beq_eq_false_iff_ne]; omega
  have n7 : Hid ((f == 7) = false) := by unfold Hid; rw [beq_eq_false_iff_ne]; omega
  have n8 : Hid ((f == 8) = false) := by unfold Hid; rw [beq_eq_false_iff_ne]; omega
  rcases hf with hf | hf
  all_goals
    go_enter Try.func3, Try.ntmps3
    go_wp2_with (first | (go_at_call 9; ((with_reducible refine (awake_any _).mono ?_); rintro e w1 ⟨rfl, hb1⟩)) | (go_at_call 10; ((with_reducible refine (ofBadV f _ n0.out n1.out n2.out n3.out n4.out n5.out n6.out n7.out n8.out).mono ?_); rintro e w2 ⟨rfl, hb2⟩)))
    go_ret
    exact ⟨rfl, (hb1.trans (hb2.mono hb1.size)).alloc (Nat.le_trans hb1.size hb2.size) _⟩
theorem formats_walk (f : Int) (_wf : (Lit.int .i64 f).wf = true) (w : World) : Calls Try.prog 3 #[.int .i64 f] w fun e w' => e = .returned (.bool true) ∧ Below w.heap.size w w' := by
  by_cases hf : f < 0 ∨ 9 ≤ f
  · exact formatsBad f hf w
  · have : f = 0 ∨ f = 1 ∨ f = 2 ∨ f = 3 ∨ f = 4 ∨ f = 5 ∨ f = 6 ∨ f = 7 ∨ f = 8 := by omega
    rcases this with rfl | rfl | rfl | rfl | rfl | rfl | rfl | rfl | rfl
    · exact formats0 w
    · exact formats1 w
    · exact formats2 w
    · exact formats3 w
    · exact formats4 w
    · exact formats5 w
    · exact formats6 w
    · exact formats7 w
    · exact formats8 w
end Go.Proofs.Ytfgglegimajghaa
