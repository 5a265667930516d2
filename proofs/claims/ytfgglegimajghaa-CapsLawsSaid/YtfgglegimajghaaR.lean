/- The contracts, their values written out. -/
import Derived.Test.YtfgglegimajghaaPb
import Derived.Test.YtfgglegimajghaaE
import Derived.Test.YtfgglegimajghaaF
import Derived.Test.YtfgglegimajghaaL
namespace Go.Proofs.Ytfgglegimajghaa
open Go.RowKit

theorem checkY (a : Cp) (h : a.ok = true) (w : World) : Calls Try.prog 12 #[.agg #[.int .u16 a.k, .int .u16 a.y, .int .u16 a.r, .int .i64 a.ib, .int .i64 a.d, .int .i64 a.s, .bool a.o, .bool a.sh, .bool a.c, .bool a.m]] w fun e w' => e = .returned (.int .i64 0) ∧ Below w.heap.size w w' := check_ok a h w
theorem checkN (a : Cp) (h : a.ok = false) (w : World) : Calls Try.prog 12 #[.agg #[.int .u16 a.k, .int .u16 a.y, .int .u16 a.r, .int .i64 a.ib, .int .i64 a.d, .int .i64 a.s, .bool a.o, .bool a.sh, .bool a.c, .bool a.m]] w fun e w' => e = .returned (.int .i64 1) ∧ Below w.heap.size w w' := check_bad a h w
theorem validV (a : Cp) (wf : a.Wf) (v : Bool) (h : a.ok = v) (w : World) : Calls Try.prog 13 #[.agg #[.int .u16 a.k, .int .u16 a.y, .int .u16 a.r, .int .i64 a.ib, .int .i64 a.d, .int .i64 a.s, .bool a.o, .bool a.sh, .bool a.c, .bool a.m]] w fun e w' => e = .returned (.bool v) ∧ Below w.heap.size w w' :=
  (valid_any a wf w).mono fun e w' ⟨he, hw⟩ => ⟨by rw [he, rok_eq a wf, h], hw⟩
theorem leqV (a b : Cp) (v : Bool) (h : (a.ok && b.ok && a.le b) = v) (w : World) : Calls Try.prog 14 #[.agg #[.int .u16 a.k, .int .u16 a.y, .int .u16 a.r, .int .i64 a.ib, .int .i64 a.d, .int .i64 a.s, .bool a.o, .bool a.sh, .bool a.c, .bool a.m], .agg #[.int .u16 b.k, .int .u16 b.y, .int .u16 b.r, .int .i64 b.ib, .int .i64 b.d, .int .i64 b.s, .bool b.o, .bool b.sh, .bool b.c, .bool b.m]] w fun e w' => e = .returned (.bool v) ∧ Below w.heap.size w w' :=
  (leq_any a b w).mono fun e w' ⟨he, hw⟩ => ⟨by rw [he, h], hw⟩
theorem rleqV (a b : Cp) (wa : a.Wf) (wb : b.Wf) (v : Bool) (h : a.le b = v) (w : World) : Calls Try.prog 15 #[.agg #[.int .u16 a.k, .int .u16 a.y, .int .u16 a.r, .int .i64 a.ib, .int .i64 a.d, .int .i64 a.s, .bool a.o, .bool a.sh, .bool a.c, .bool a.m], .agg #[.int .u16 b.k, .int .u16 b.y, .int .u16 b.r, .int .i64 b.ib, .int .i64 b.d, .int .i64 b.s, .bool b.o, .bool b.sh, .bool b.c, .bool b.m]] w fun e w' => e = .returned (.bool v) ∧ Below w.heap.size w w' :=
  (rleq_any a b wa wb w).mono fun e w' ⟨he, hw⟩ => ⟨by rw [he, rle_eq a b wa wb, h], hw⟩
theorem meetV (a b m : Cp) (hm : a.meet b = m) (ha : a.ok = true) (hb : b.ok = true) (w : World) : Calls Try.prog 16 #[.agg #[.int .u16 a.k, .int .u16 a.y, .int .u16 a.r, .int .i64 a.ib, .int .i64 a.d, .int .i64 a.s, .bool a.o, .bool a.sh, .bool a.c, .bool a.m], .agg #[.int .u16 b.k, .int .u16 b.y, .int .u16 b.r, .int .i64 b.ib, .int .i64 b.d, .int .i64 b.s, .bool b.o, .bool b.sh, .bool b.c, .bool b.m]] w fun e w' => e = .returned (.agg #[.int .u16 m.k, .int .u16 m.y, .int .u16 m.r, .int .i64 m.ib, .int .i64 m.d, .int .i64 m.s, .bool m.o, .bool m.sh, .bool m.c, .bool m.m]) ∧ Below w.heap.size w w' :=
  (meet_good a b ha hb w).mono fun e w' ⟨he, hw⟩ => ⟨by rw [he, hm]; rfl, hw⟩
theorem joinV (a b m : Cp) (hm : a.join b = m) (ha : a.ok = true) (hb : b.ok = true) (w : World) : Calls Try.prog 17 #[.agg #[.int .u16 a.k, .int .u16 a.y, .int .u16 a.r, .int .i64 a.ib, .int .i64 a.d, .int .i64 a.s, .bool a.o, .bool a.sh, .bool a.c, .bool a.m], .agg #[.int .u16 b.k, .int .u16 b.y, .int .u16 b.r, .int .i64 b.ib, .int .i64 b.d, .int .i64 b.s, .bool b.o, .bool b.sh, .bool b.c, .bool b.m]] w fun e w' => e = .returned (.agg #[.int .u16 m.k, .int .u16 m.y, .int .u16 m.r, .int .i64 m.ib, .int .i64 m.d, .int .i64 m.s, .bool m.o, .bool m.sh, .bool m.c, .bool m.m]) ∧ Below w.heap.size w w' :=
  (join_good a b ha hb w).mono fun e w' ⟨he, hw⟩ => ⟨by rw [he, hm]; rfl, hw⟩
theorem rmeetV (a b m : Cp) (hm : a.meet b = m) (w : World) : Calls Try.prog 18 #[.agg #[.int .u16 a.k, .int .u16 a.y, .int .u16 a.r, .int .i64 a.ib, .int .i64 a.d, .int .i64 a.s, .bool a.o, .bool a.sh, .bool a.c, .bool a.m], .agg #[.int .u16 b.k, .int .u16 b.y, .int .u16 b.r, .int .i64 b.ib, .int .i64 b.d, .int .i64 b.s, .bool b.o, .bool b.sh, .bool b.c, .bool b.m]] w fun e w' => e = .returned (.agg #[.int .u16 m.k, .int .u16 m.y, .int .u16 m.r, .int .i64 m.ib, .int .i64 m.d, .int .i64 m.s, .bool m.o, .bool m.sh, .bool m.c, .bool m.m]) ∧ Below w.heap.size w w' :=
  (refMeet_good a b w).mono fun e w' ⟨he, hw⟩ => ⟨by rw [he, hm]; rfl, hw⟩
theorem rjoinV (a b m : Cp) (hm : a.join b = m) (w : World) : Calls Try.prog 19 #[.agg #[.int .u16 a.k, .int .u16 a.y, .int .u16 a.r, .int .i64 a.ib, .int .i64 a.d, .int .i64 a.s, .bool a.o, .bool a.sh, .bool a.c, .bool a.m], .agg #[.int .u16 b.k, .int .u16 b.y, .int .u16 b.r, .int .i64 b.ib, .int .i64 b.d, .int .i64 b.s, .bool b.o, .bool b.sh, .bool b.c, .bool b.m]] w fun e w' => e = .returned (.agg #[.int .u16 m.k, .int .u16 m.y, .int .u16 m.r, .int .i64 m.ib, .int .i64 m.d, .int .i64 m.s, .bool m.o, .bool m.sh, .bool m.c, .bool m.m]) ∧ Below w.heap.size w w' :=
  (refJoin_good a b w).mono fun e w' ⟨he, hw⟩ => ⟨by rw [he, hm]; rfl, hw⟩
theorem meetZ (a b : Cp) (h : (a.ok && b.ok) = false) (w : World) : Calls Try.prog 16 #[.agg #[.int .u16 a.k, .int .u16 a.y, .int .u16 a.r, .int .i64 a.ib, .int .i64 a.d, .int .i64 a.s, .bool a.o, .bool a.sh, .bool a.c, .bool a.m], .agg #[.int .u16 b.k, .int .u16 b.y, .int .u16 b.r, .int .i64 b.ib, .int .i64 b.d, .int .i64 b.s, .bool b.o, .bool b.sh, .bool b.c, .bool b.m]] w fun e w' => e = .returned (.agg #[.int .u16 0, .int .u16 0, .int .u16 0, .int .i64 0, .int .i64 0, .int .i64 0, .bool false, .bool false, .bool false, .bool false]) ∧ Below w.heap.size w w' := by
  cases ha : a.ok
  · exact meet_bad1 a b ha w
  · rw [ha] at h
    exact meet_bad2 a b ha (by simpa using h) w
theorem joinZ (a b : Cp) (h : (a.ok && b.ok) = false) (w : World) : Calls Try.prog 17 #[.agg #[.int .u16 a.k, .int .u16 a.y, .int .u16 a.r, .int .i64 a.ib, .int .i64 a.d, .int .i64 a.s, .bool a.o, .bool a.sh, .bool a.c, .bool a.m], .agg #[.int .u16 b.k, .int .u16 b.y, .int .u16 b.r, .int .i64 b.ib, .int .i64 b.d, .int .i64 b.s, .bool b.o, .bool b.sh, .bool b.c, .bool b.m]] w fun e w' => e = .returned (.agg #[.int .u16 0, .int .u16 0, .int .u16 0, .int .i64 0, .int .i64 0, .int .i64 0, .bool false, .bool false, .bool false, .bool false]) ∧ Below w.heap.size w w' := by
  cases ha : a.ok
  · exact join_bad1 a b ha w
  · rw [ha] at h
    exact join_bad2 a b ha (by simpa using h) w
end Go.Proofs.Ytfgglegimajghaa
