/- The contracts of Leq, Meet and Join at two valid capabilities. -/
import Derived.Test.YtfgglegimajghaaB
import Derived.BigGuardPart
import Derived.BigCall
namespace Go.Proofs.Ytfgglegimajghaa
open Go.RowKit
theorem size2 {w w1 : World} {X Y : Obj} {B : Nat} (h : Below B ((w.alloc X).alloc Y) w1) : w.heap.size < w1.heap.size ∧ w.heap.size + 1 < w1.heap.size := by
  have := h.size
  simp at this
  omega

set_option maxHeartbeats 1000000 in
theorem leq_good (a b : Cp) (ha : a.ok = true) (hb : b.ok = true) (w : World) :
    Calls Try.prog 14 #[.agg #[.int .u16 a.k, .int .u16 a.y, .int .u16 a.r, .int .i64 a.ib, .int .i64 a.d, .int .i64 a.s, .bool a.o, .bool a.sh, .bool a.c, .bool a.m],
        .agg #[.int .u16 b.k, .int .u16 b.y, .int .u16 b.r, .int .i64 b.ib, .int .i64 b.d, .int .i64 b.s, .bool b.o, .bool b.sh, .bool b.c, .bool b.m]] w
      fun e w' => e = .returned (.bool (a.le b)) ∧ Below w.heap.size w w' := by
  go_enter Try.func14, Try.ntmps14
  dsimp only [List.append]
  go_wp2_with (first | (go_at_call 12; ((with_reducible refine (check_ok a ha _).mono ?_); rintro e w1 ⟨rfl, hb1⟩; obtain ⟨hc1, hf1⟩ := bcell hb1; obtain ⟨hz0, hz1⟩ := size2 hb1)) | (go_at_call 12; ((with_reducible refine (check_ok b hb _).mono ?_); rintro e w2 ⟨rfl, hb2⟩; obtain ⟨hc2, hf2⟩ := bcell hb2)) | (go_at_call 24; refine (low_any _ _ _).mono ?_; rintro e w' ⟨rfl, rfl⟩) | (go_at_call 23; refine (implies_any _ _ _).mono ?_; rintro e w' ⟨rfl, rfl⟩))
  all_goals go_ret
  all_goals refine ⟨ret_bool ?_, ((((Below.refl _ _).alloc (Nat.le_refl _) _).alloc (by simp) _).trans (hb1.mono (by simp; omega))).trans (hb2.mono (by have := hb1.size; simp at this; omega))⟩
  all_goals (clear hc1 hf1 hc2 hf2 hb1 hb2; simp [Cp.le, shapeB, *])
theorem leq_any (a b : Cp) (w : World) :
    Calls Try.prog 14 #[.agg #[.int .u16 a.k, .int .u16 a.y, .int .u16 a.r, .int .i64 a.ib, .int .i64 a.d, .int .i64 a.s, .bool a.o, .bool a.sh, .bool a.c, .bool a.m],
        .agg #[.int .u16 b.k, .int .u16 b.y, .int .u16 b.r, .int .i64 b.ib, .int .i64 b.d, .int .i64 b.s, .bool b.o, .bool b.sh, .bool b.c, .bool b.m]] w
      fun e w' => e = .returned (.bool (a.ok && b.ok && a.le b)) ∧ Below w.heap.size w w' := by
  by_cases ha : a.ok = true
  · by_cases hb : b.ok = true
    · rw [ha, hb]; exact leq_good a b ha hb w
    · have hb' : b.ok = false := by simpa using hb
      rw [ha, hb']; exact leq_bad2 a b ha hb' w
  · have ha' : a.ok = false := by simpa using ha
    rw [ha']; exact leq_bad1 a b ha' w
end Go.Proofs.Ytfgglegimajghaa
