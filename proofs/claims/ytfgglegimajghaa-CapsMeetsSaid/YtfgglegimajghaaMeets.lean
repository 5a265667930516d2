/- CapsMeets: whatever the two capabilities, the law answers true. -/
import Derived.Test.YtfgglegimajghaaR
import Derived.BigQuiet
import Derived.BigGuardPart
namespace Go.Proofs.Ytfgglegimajghaa
open Go.RowKit

theorem below2m {w w1 : World} {X Y : Obj} (h : Below ((w.alloc X).alloc Y).heap.size ((w.alloc X).alloc Y) w1) : Below w.heap.size w w1 := by
  have a2 : w.heap.size ≤ ((w.alloc X).alloc Y).heap.size := by simp; omega
  exact (((Below.refl w.heap.size w).alloc (Nat.le_refl _) X).alloc (by simp) Y).trans (h.mono a2)
set_option maxRecDepth 100000 in
set_option maxHeartbeats 4000000 in
theorem meets_good (a b : Cp) (wa : a.Wf) (wb : b.Wf) (ha : a.ok = true) (hb : b.ok = true) (w : World) : Calls Try.prog 5 #[.agg #[.int .u16 a.k, .int .u16 a.y, .int .u16 a.r, .int .i64 a.ib, .int .i64 a.d, .int .i64 a.s, .bool a.o, .bool a.sh, .bool a.c, .bool a.m], .agg #[.int .u16 b.k, .int .u16 b.y, .int .u16 b.r, .int .i64 b.ib, .int .i64 b.d, .int .i64 b.s, .bool b.o, .bool b.sh, .bool b.c, .bool b.m]] w fun e w' => e = .returned (.bool true) ∧ Below w.heap.size w w' := by
  have Wa := Lib.hid wa
  have Wb := Lib.hid wb
  have Ha := Lib.hid ha
  have Hb := Lib.hid hb
  obtain ⟨m, hm⟩ : ∃ m, a.meet b = m := ⟨_, rfl⟩
  obtain ⟨j, hj⟩ : ∃ j, a.join b = j := ⟨_, rfl⟩
  have Hm := Lib.hid hm
  have Hj := Lib.hid hj
  clear wa wb ha hb hm hj
  go_enter Try.func5, Try.ntmps5
  go_wp2_with (go_at_call 9; ((with_reducible refine (awake_any _).mono ?_); rintro e w1 ⟨rfl, hb1⟩; obtain ⟨hc1, hf1⟩ := bcell hb1))
  obtain ⟨hz0, hz1⟩ := size2 hb1
  go_wp2_with fail
  refine (validV a Wa.out true Ha.out _).mono ?_
  rintro e w2 ⟨rfl, hb2⟩
  obtain ⟨hc2, hf2⟩ := bcell hb2
  have zz2 := hb2.size
  have s2_0 : w.heap.size < w2.heap.size := by omega
  have s2_1 : w.heap.size + 1 < w2.heap.size := by omega
  go_wp2_with fail
  refine (validV b Wb.out true Hb.out _).mono ?_
  rintro e w3 ⟨rfl, hb3⟩
  obtain ⟨hc3, hf3⟩ := bcell hb3
  have zz3 := hb3.size
  have s3_0 : w.heap.size < w3.heap.size := by omega
  have s3_1 : w.heap.size + 1 < w3.heap.size := by omega
  go_wp2_with fail
  refine Mix.wp_region_grow (by kernel_rfl) (by kernel_rfl) ?_
  have hg : ∀ (x : Mix.Grow w3) b o, b < w3.heap.size → x.w.cell? ⟨b, o, none⟩ = w3.cell? ⟨b, o, none⟩ := fun x b o hb => x.cell b o hb
  repeat (first | go_big_quiet_step ((first | (go_at_call 16; with_reducible exact Mix.Grow.calls (meetV a b m Hm.out Ha.out Hb.out _)) | (go_at_call 18; with_reducible exact Mix.Grow.calls (rmeetV a b m Hm.out _)) | (go_at_call 17; with_reducible exact Mix.Grow.calls (joinV a b j Hj.out Ha.out Hb.out _)) | (go_at_call 19; with_reducible exact Mix.Grow.calls (rjoinV a b j Hj.out _)))) )
  refine wpQuiet_nil ?_
  rintro _ ⟨x, rfl⟩
  have hb4 := x.h
  generalize x.w = w4 at hb4 ⊢
  obtain ⟨hc4, hf4⟩ := bcell hb4
  clear hg
  go_wp2_with fail
  go_ret
  exact ⟨rfl, (((below2m hb1).trans (hb2.mono (by have := (below2m hb1).size; omega))).trans (hb3.mono (by have := ((below2m hb1).trans (hb2.mono (by have := (below2m hb1).size; omega))).size; omega))).trans (hb4.mono (by have := (((below2m hb1).trans (hb2.mono (by have := (below2m hb1).size; omega))).trans (hb3.mono (by have := ((below2m hb1).trans (hb2.mono (by have := (below2m hb1).size; omega))).size; omega))).size; omega))⟩
set_option maxRecDepth 100000 in
set_option maxHeartbeats 4000000 in
theorem meets_bad1 (a b : Cp) (wa : a.Wf) (ha : a.ok = false) (w : World) : Calls Try.prog 5 #[.agg #[.int .u16 a.k, .int .u16 a.y, .int .u16 a.r, .int .i64 a.ib, .int .i64 a.d, .int .i64 a.s, .bool a.o, .bool a.sh, .bool a.c, .bool a.m], .agg #[.int .u16 b.k, .int .u16 b.y, .int .u16 b.r, .int .i64 b.ib, .int .i64 b.d, .int .i64 b.s, .bool b.o, .bool b.sh, .bool b.c, .bool b.m]] w fun e w' => e = .returned (.bool true) ∧ Below w.heap.size w w' := by
  have Wa := Lib.hid wa
  have Ha := Lib.hid ha
  have Hz : Hid ((a.ok && b.ok) = false) := by unfold Hid; rw [ha]; rfl
  clear wa ha
  go_enter Try.func5, Try.ntmps5
  go_wp2_with (go_at_call 9; ((with_reducible refine (awake_any _).mono ?_); rintro e w1 ⟨rfl, hb1⟩; obtain ⟨hc1, hf1⟩ := bcell hb1))
  obtain ⟨hz0, hz1⟩ := size2 hb1
  go_wp2_with fail
  refine (validV a Wa.out false Ha.out _).mono ?_
  rintro e w2 ⟨rfl, hb2⟩
  obtain ⟨hc2, hf2⟩ := bcell hb2
  have zz2 := hb2.size
  have s2_0 : w.heap.size < w2.heap.size := by omega
  have s2_1 : w.heap.size + 1 < w2.heap.size := by omega
  go_wp2_with fail
  refine (meetZ a b Hz.out _).mono ?_
  rintro e w3 ⟨rfl, hb3⟩
  obtain ⟨hc3, hf3⟩ := bcell hb3
  have zz3 := hb3.size
  have s3_0 : w.heap.size < w3.heap.size := by omega
  have s3_1 : w.heap.size + 1 < w3.heap.size := by omega
  go_wp2_with fail
  refine (joinZ a b Hz.out _).mono ?_
  rintro e w4 ⟨rfl, hb4⟩
  obtain ⟨hc4, hf4⟩ := bcell hb4
  go_wp2_with fail
  go_ret
  exact ⟨rfl, (((below2m hb1).trans (hb2.mono (by have := (below2m hb1).size; omega))).trans (hb3.mono (by have := ((below2m hb1).trans (hb2.mono (by have := (below2m hb1).size; omega))).size; omega))).trans (hb4.mono (by have := (((below2m hb1).trans (hb2.mono (by have := (below2m hb1).size; omega))).trans (hb3.mono (by have := ((below2m hb1).trans (hb2.mono (by have := (below2m hb1).size; omega))).size; omega))).size; omega))⟩
set_option maxRecDepth 100000 in
set_option maxHeartbeats 4000000 in
theorem meets_bad2 (a b : Cp) (wa : a.Wf) (wb : b.Wf) (ha : a.ok = true) (hb : b.ok = false) (w : World) : Calls Try.prog 5 #[.agg #[.int .u16 a.k, .int .u16 a.y, .int .u16 a.r, .int .i64 a.ib, .int .i64 a.d, .int .i64 a.s, .bool a.o, .bool a.sh, .bool a.c, .bool a.m], .agg #[.int .u16 b.k, .int .u16 b.y, .int .u16 b.r, .int .i64 b.ib, .int .i64 b.d, .int .i64 b.s, .bool b.o, .bool b.sh, .bool b.c, .bool b.m]] w fun e w' => e = .returned (.bool true) ∧ Below w.heap.size w w' := by
  have Wa := Lib.hid wa
  have Wb := Lib.hid wb
  have Ha := Lib.hid ha
  have Hb := Lib.hid hb
  have Hz : Hid ((a.ok && b.ok) = false) := by unfold Hid; rw [ha, hb]; rfl
  clear wa wb ha hb
  go_enter Try.func5, Try.ntmps5
  go_wp2_with (go_at_call 9; ((with_reducible refine (awake_any _).mono ?_); rintro e w1 ⟨rfl, hb1⟩; obtain ⟨hc1, hf1⟩ := bcell hb1))
  obtain ⟨hz0, hz1⟩ := size2 hb1
  go_wp2_with fail
  refine (validV a Wa.out true Ha.out _).mono ?_
  rintro e w2 ⟨rfl, hb2⟩
  obtain ⟨hc2, hf2⟩ := bcell hb2
  have zz2 := hb2.size
  have s2_0 : w.heap.size < w2.heap.size := by omega
  have s2_1 : w.heap.size + 1 < w2.heap.size := by omega
  go_wp2_with fail
  refine (validV b Wb.out false Hb.out _).mono ?_
  rintro e w3 ⟨rfl, hb3⟩
  obtain ⟨hc3, hf3⟩ := bcell hb3
  have zz3 := hb3.size
  have s3_0 : w.heap.size < w3.heap.size := by omega
  have s3_1 : w.heap.size + 1 < w3.heap.size := by omega
  go_wp2_with fail
  refine (meetZ a b Hz.out _).mono ?_
  rintro e w4 ⟨rfl, hb4⟩
  obtain ⟨hc4, hf4⟩ := bcell hb4
  have zz4 := hb4.size
  have s4_0 : w.heap.size < w4.heap.size := by omega
  have s4_1 : w.heap.size + 1 < w4.heap.size := by omega
  go_wp2_with fail
  refine (joinZ a b Hz.out _).mono ?_
  rintro e w5 ⟨rfl, hb5⟩
  obtain ⟨hc5, hf5⟩ := bcell hb5
  go_wp2_with fail
  go_ret
  exact ⟨rfl, ((((below2m hb1).trans (hb2.mono (by have := (below2m hb1).size; omega))).trans (hb3.mono (by have := ((below2m hb1).trans (hb2.mono (by have := (below2m hb1).size; omega))).size; omega))).trans (hb4.mono (by have := (((below2m hb1).trans (hb2.mono (by have := (below2m hb1).size; omega))).trans (hb3.mono (by have := ((below2m hb1).trans (hb2.mono (by have := (below2m hb1).size; omega))).size; omega))).size; omega))).trans (hb5.mono (by have := ((((below2m hb1).trans (hb2.mono (by have := (below2m hb1).size; omega))).trans (hb3.mono (by have := ((below2m hb1).trans (hb2.mono (by have := (below2m hb1).size; omega))).size; omega))).trans (hb4.mono (by have := (((below2m hb1).trans (hb2.mono (by have := (below2m hb1).size; omega))).trans (hb3.mono (by have := ((below2m hb1).trans (hb2.mono (by have := (below2m hb1).size; omega))).size; omega))).size; omega))).size; omega))⟩
theorem meets_walk (a b : Cp) (wa : a.Wf) (wb : b.Wf) (w : World) : Calls Try.prog 5 #[.agg #[.int .u16 a.k, .int .u16 a.y, .int .u16 a.r, .int .i64 a.ib, .int .i64 a.d, .int .i64 a.s, .bool a.o, .bool a.sh, .bool a.c, .bool a.m], .agg #[.int .u16 b.k, .int .u16 b.y, .int .u16 b.r, .int .i64 b.ib, .int .i64 b.d, .int .i64 b.s, .bool b.o, .bool b.sh, .bool b.c, .bool b.m]] w fun e w' => e = .returned (.bool true) ∧ Below w.heap.size w w' := by
  cases ha : a.ok
  · exact meets_bad1 a b wa ha w
  · cases hb : b.ok
    · exact meets_bad2 a b wa wb ha hb w
    · exact meets_good a b wa wb ha hb w
end Go.Proofs.Ytfgglegimajghaa
