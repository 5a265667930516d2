/- CapsOrders: whatever the two capabilities, the law answers true. -/
import Derived.Test.YtfgglegimajghaaR
import Derived.BigQuiet
import Derived.BigGuardPart
namespace Go.Proofs.Ytfgglegimajghaa
open Go.RowKit

theorem below2 {w w1 : World} {X Y : Obj} (h : Below ((w.alloc X).alloc Y).heap.size ((w.alloc X).alloc Y) w1) : Below w.heap.size w w1 := by
  have a2 : w.heap.size ≤ ((w.alloc X).alloc Y).heap.size := by simp; omega
  exact (((Below.refl w.heap.size w).alloc (Nat.le_refl _) X).alloc (by simp) Y).trans (h.mono a2)
set_option maxRecDepth 100000 in
set_option maxHeartbeats 4000000 in
theorem orders_walk (a b : Cp) (wa : a.Wf) (wb : b.Wf) (w : World) : Calls Try.prog 4 #[.agg #[.int .u16 a.k, .int .u16 a.y, .int .u16 a.r, .int .i64 a.ib, .int .i64 a.d, .int .i64 a.s, .bool a.o, .bool a.sh, .bool a.c, .bool a.m], .agg #[.int .u16 b.k, .int .u16 b.y, .int .u16 b.r, .int .i64 b.ib, .int .i64 b.d, .int .i64 b.s, .bool b.o, .bool b.sh, .bool b.c, .bool b.m]] w fun e w' => e = .returned (.bool true) ∧ Below w.heap.size w w' := by
  have Wa := Lib.hid wa
  have Wb := Lib.hid wb
  clear wa wb
  cases ha : a.ok
  · have Ha := Lib.hid ha
    clear ha
    go_enter Try.func4, Try.ntmps4
    go_wp2_with (go_at_call 9; ((with_reducible refine (awake_any _).mono ?_); rintro e w1 ⟨rfl, hb1⟩; obtain ⟨hc1, hf1⟩ := bcell hb1))
    obtain ⟨hz0, hz1⟩ := size2 hb1
    refine Mix.wp_region_grow (by kernel_rfl) (by kernel_rfl) ?_
    have hg : ∀ (x : Mix.Grow w1) b o, b < w1.heap.size → x.w.cell? ⟨b, o, none⟩ = w1.cell? ⟨b, o, none⟩ := fun x b o hb => x.cell b o hb
    repeat (first | go_big_quiet_step ((first | (go_at_call 12; with_reducible exact Mix.Grow.calls (checkN a Ha.out _)) | (go_at_call 13; with_reducible exact Mix.Grow.calls (validV a Wa.out false Ha.out _)))) )
    refine wpQuiet_nil ?_
    rintro _ ⟨x, rfl⟩
    have hb2 := x.h
    generalize x.w = w2 at hb2 ⊢
    obtain ⟨hc2, hf2⟩ := bcell hb2
    clear hg
    have zz2 := hb2.size
    have s2_0 : w.heap.size < w2.heap.size := by omega
    have s2_1 : w.heap.size + 1 < w2.heap.size := by omega
    go_wp2_with fail
    refine (validV a Wa.out false Ha.out _).mono ?_
    rintro e w3 ⟨rfl, hb3⟩
    obtain ⟨hc3, hf3⟩ := bcell hb3
    have zz3 := hb3.size
    have s3_0 : w.heap.size < w3.heap.size := by omega
    have s3_1 : w.heap.size + 1 < w3.heap.size := by omega
    go_wp2_with fail
    refine (leqV a b false (by rw [Ha.out]; rfl) _).mono ?_
    rintro e w4 ⟨rfl, hb4⟩
    obtain ⟨hc4, hf4⟩ := bcell hb4
    go_wp2_with fail
    go_ret
    exact ⟨rfl, (((below2 hb1).trans (hb2.mono (by have := (below2 hb1).size; omega))).trans (hb3.mono (by have := ((below2 hb1).trans (hb2.mono (by have := (below2 hb1).size; omega))).size; omega))).trans (hb4.mono (by have := (((below2 hb1).trans (hb2.mono (by have := (below2 hb1).size; omega))).trans (hb3.mono (by have := ((below2 hb1).trans (hb2.mono (by have := (below2 hb1).size; omega))).size; omega))).size; omega))⟩
  · have Ha := Lib.hid ha
    clear ha
    cases hb : b.ok
    · have Hb := Lib.hid hb
      clear hb
      go_enter Try.func4, Try.ntmps4
      go_wp2_with (go_at_call 9; ((with_reducible refine (awake_any _).mono ?_); rintro e w1 ⟨rfl, hb1⟩; obtain ⟨hc1, hf1⟩ := bcell hb1))
      obtain ⟨hz0, hz1⟩ := size2 hb1
      refine Mix.wp_region_grow (by kernel_rfl) (by kernel_rfl) ?_
      have hg : ∀ (x : Mix.Grow w1) b o, b < w1.heap.size → x.w.cell? ⟨b, o, none⟩ = w1.cell? ⟨b, o, none⟩ := fun x b o hb => x.cell b o hb
      repeat (first | go_big_quiet_step ((first | (go_at_call 12; with_reducible exact Mix.Grow.calls (checkY a Ha.out _)) | (go_at_call 13; with_reducible exact Mix.Grow.calls (validV a Wa.out true Ha.out _)))) )
      refine wpQuiet_nil ?_
      rintro _ ⟨x, rfl⟩
      have hb2 := x.h
      generalize x.w = w2 at hb2 ⊢
      obtain ⟨hc2, hf2⟩ := bcell hb2
      clear hg
      have zz2 := hb2.size
      have s2_0 : w.heap.size < w2.heap.size := by omega
      have s2_1 : w.heap.size + 1 < w2.heap.size := by omega
      go_wp2_with fail
      refine (validV a Wa.out true Ha.out _).mono ?_
      rintro e w3 ⟨rfl, hb3⟩
      obtain ⟨hc3, hf3⟩ := bcell hb3
      have zz3 := hb3.size
      have s3_0 : w.heap.size < w3.heap.size := by omega
      have s3_1 : w.heap.size + 1 < w3.heap.size := by omega
      go_wp2_with fail
      refine (validV b Wb.out false Hb.out _).mono ?_
      rintro e w4 ⟨rfl, hb4⟩
      obtain ⟨hc4, hf4⟩ := bcell hb4
      have zz4 := hb4.size
      have s4_0 : w.heap.size < w4.heap.size := by omega
      have s4_1 : w.heap.size + 1 < w4.heap.size := by omega
      go_wp2_with fail
      refine (leqV a b false (by rw [Ha.out, Hb.out]; rfl) _).mono ?_
      rintro e w5 ⟨rfl, hb5⟩
      obtain ⟨hc5, hf5⟩ := bcell hb5
      go_wp2_with fail
      go_ret
      exact ⟨rfl, ((((below2 hb1).trans (hb2.mono (by have := (below2 hb1).size; omega))).trans (hb3.mono (by have := ((below2 hb1).trans (hb2.mono (by have := (below2 hb1).size; omega))).size; omega))).trans (hb4.mono (by have := (((below2 hb1).trans (hb2.mono (by have := (below2 hb1).size; omega))).trans (hb3.mono (by have := ((below2 hb1).trans (hb2.mono (by have := (below2 hb1).size; omega))).size; omega))).size; omega))).trans (hb5.mono (by have := ((((below2 hb1).trans (hb2.mono (by have := (below2 hb1).size; omega))).trans (hb3.mono (by have := ((below2 hb1).trans (hb2.mono (by have := (below2 hb1).size; omega))).size; omega))).trans (hb4.mono (by have := (((below2 hb1).trans (hb2.mono (by have := (below2 hb1).size; omega))).trans (hb3.mono (by have := ((below2 hb1).trans (hb2.mono (by have := (below2 hb1).size; omega))).size; omega))).size; omega))).size; omega))⟩
    · have Hb := Lib.hid hb
      clear hb
      obtain ⟨v, hv⟩ : ∃ v, a.le b = v := ⟨_, rfl⟩
      have Hv := Lib.hid hv
      clear hv
      have Hl : Hid ((a.ok && b.ok && a.le b) = v) := by unfold Hid; rw [Ha.out, Hb.out, Hv.out]; rfl
      go_enter Try.func4, Try.ntmps4
      go_wp2_with (go_at_call 9; ((with_reducible refine (awake_any _).mono ?_); rintro e w1 ⟨rfl, hb1⟩; obtain ⟨hc1, hf1⟩ := bcell hb1))
      obtain ⟨hz0, hz1⟩ := size2 hb1
      refine Mix.wp_region_grow (by kernel_rfl) (by kernel_rfl) ?_
      have hg : ∀ (x : Mix.Grow w1) b o, b < w1.heap.size → x.w.cell? ⟨b, o, none⟩ = w1.cell? ⟨b, o, none⟩ := fun x b o hb => x.cell b o hb
      repeat (first | go_big_quiet_step ((first | (go_at_call 12; with_reducible exact Mix.Grow.calls (checkY a Ha.out _)) | (go_at_call 13; with_reducible exact Mix.Grow.calls (validV a Wa.out true Ha.out _)))) )
      refine wpQuiet_nil ?_
      rintro _ ⟨x, rfl⟩
      have hb2 := x.h
      generalize x.w = w2 at hb2 ⊢
      obtain ⟨hc2, hf2⟩ := bcell hb2
      clear hg
      have zz2 := hb2.size
      have s2_0 : w.heap.size < w2.heap.size := by omega
      have s2_1 : w.heap.size + 1 < w2.heap.size := by omega
      go_wp2_with fail
      refine (validV a Wa.out true Ha.out _).mono ?_
      rintro e w3 ⟨rfl, hb3⟩
      obtain ⟨hc3, hf3⟩ := bcell hb3
      have zz3 := hb3.size
      have s3_0 : w.heap.size < w3.heap.size := by omega
      have s3_1 : w.heap.size + 1 < w3.heap.size := by omega
      go_wp2_with fail
      refine (validV b Wb.out true Hb.out _).mono ?_
      rintro e w4 ⟨rfl, hb4⟩
      obtain ⟨hc4, hf4⟩ := bcell hb4
      have zz4 := hb4.size
      have s4_0 : w.heap.size < w4.heap.size := by omega
      have s4_1 : w.heap.size + 1 < w4.heap.size := by omega
      go_wp2_with fail
      refine Mix.wp_region_grow (by kernel_rfl) (by kernel_rfl) ?_
      have hg : ∀ (x : Mix.Grow w4) b o, b < w4.heap.size → x.w.cell? ⟨b, o, none⟩ = w4.cell? ⟨b, o, none⟩ := fun x b o hb => x.cell b o hb
      repeat (first | go_big_quiet_step ((first | (go_at_call 14; with_reducible exact Mix.Grow.calls (leqV a b v Hl.out _)) | (go_at_call 15; with_reducible exact Mix.Grow.calls (rleqV a b Wa.out Wb.out v Hv.out _)))) )
      refine wpQuiet_nil ?_
      rintro _ ⟨x, rfl⟩
      have hb5 := x.h
      generalize x.w = w5 at hb5 ⊢
      obtain ⟨hc5, hf5⟩ := bcell hb5
      clear hg
      go_wp2_with fail
      go_ret
      exact ⟨ret_bool (by simp), ((((below2 hb1).trans (hb2.mono (by have := (below2 hb1).size; omega))).trans (hb3.mono (by have := ((below2 hb1).trans (hb2.mono (by have := (below2 hb1).size; omega))).size; omega))).trans (hb4.mono (by have := (((below2 hb1).trans (hb2.mono (by have := (below2 hb1).size; omega))).trans (hb3.mono (by have := ((below2 hb1).trans (hb2.mono (by have := (below2 hb1).size; omega))).size; omega))).size; omega))).trans (hb5.mono (by have := ((((below2 hb1).trans (hb2.mono (by have := (below2 hb1).size; omega))).trans (hb3.mono (by have := ((below2 hb1).trans (hb2.mono (by have := (below2 hb1).size; omega))).size; omega))).trans (hb4.mono (by have := (((below2 hb1).trans (hb2.mono (by have := (below2 hb1).size; omega))).trans (hb3.mono (by have := ((below2 hb1).trans (hb2.mono (by have := (below2 hb1).size; omega))).size; omega))).size; omega))).size; omega))⟩
end Go.Proofs.Ytfgglegimajghaa
