/- The contracts of Leq, Meet and Join over the capabilities. -/
import Derived.Test.YtfgglegimajghaaA
import Derived.Deep.RegionHeld3
import Derived.Deep.QuietTactic
import Derived.BigQuiet
namespace Go.Proofs.Ytfgglegimajghaa
open Go.RowKit

/-- a capability -/
structure Cp where
  k : Int
  y : Int
  r : Int
  ib : Int
  d : Int
  s : Int
  o : Bool
  sh : Bool
  c : Bool
  m : Bool
  deriving DecidableEq
def Cp.ok (a : Cp) : Bool := vOk a.k a.y a.r a.ib a.d a.s a.sh a.c
def Cp.zero : Cp := ⟨0, 0, 0, 0, 0, 0, false, false, false, false⟩
def shapeB (s t : Int) : Bool := s == t || s == 3 || t == 0
def Cp.le (a b : Cp) : Bool :=
  bits .andNot .u16 a.k b.k == 0 && bits .andNot .u16 a.y b.y == 0 && bits .andNot .u16 a.r b.r == 0 && lowB a.ib b.ib && lowB a.d b.d && shapeB a.s b.s
    && (!a.o || b.o) && (!a.sh || b.sh) && (!a.c || b.c) && (!a.m || b.m)

theorem bcell {W w1 : World} (hb : Below W.heap.size W w1) : (∀ b o, b < W.heap.size → w1.cell? ⟨b, o, none⟩ = W.cell? ⟨b, o, none⟩) ∧ (∀ b o, b < W.heap.size → w1.frozen? ⟨b, o, none⟩ = W.frozen? ⟨b, o, none⟩) :=
  ⟨fun b o h => hb.cell (p := ⟨b, o, none⟩) h, fun b o h => hb.frozen (p := ⟨b, o, none⟩) h⟩

theorem check_ok (a : Cp) (h : a.ok = true) (w : World) :
    Calls Try.prog 12 #[.agg #[.int .u16 a.k, .int .u16 a.y, .int .u16 a.r, .int .i64 a.ib, .int .i64 a.d, .int .i64 a.s, .bool a.o, .bool a.sh, .bool a.c, .bool a.m]] w
      fun e w' => e = .returned (.int .i64 0) ∧ Below w.heap.size w w' :=
  (check_any a.k a.y a.r a.ib a.d a.s a.o a.sh a.c a.m w).mono fun e w' ⟨he, hw⟩ => ⟨by rw [he, show vOk a.k a.y a.r a.ib a.d a.s a.sh a.c = true from h]; rfl, hw⟩
theorem check_bad (a : Cp) (h : a.ok = false) (w : World) :
    Calls Try.prog 12 #[.agg #[.int .u16 a.k, .int .u16 a.y, .int .u16 a.r, .int .i64 a.ib, .int .i64 a.d, .int .i64 a.s, .bool a.o, .bool a.sh, .bool a.c, .bool a.m]] w
      fun e w' => e = .returned (.int .i64 1) ∧ Below w.heap.size w w' :=
  (check_any a.k a.y a.r a.ib a.d a.s a.o a.sh a.c a.m w).mono fun e w' ⟨he, hw⟩ => ⟨by rw [he, show vOk a.k a.y a.r a.ib a.d a.s a.sh a.c = false from h]; rfl, hw⟩

set_option maxHeartbeats 1000000 in
theorem leq_bad1 (a b : Cp) (ha : a.ok = false) (w : World) :
    Calls Try.prog 14 #[.agg #[.int .u16 a.k, .int .u16 a.y, .int .u16 a.r, .int .i64 a.ib, .int .i64 a.d, .int .i64 a.s, .bool a.o, .bool a.sh, .bool a.c, .bool a.m],
        .agg #[.int .u16 b.k, .int .u16 b.y, .int .u16 b.r, .int .i64 b.ib, .int .i64 b.d, .int .i64 b.s, .bool b.o, .bool b.sh, .bool b.c, .bool b.m]] w
      fun e w' => e = .returned (.bool false) ∧ Below w.heap.size w w' := by
  go_enter Try.func14, Try.ntmps14
  go_wp2_with (go_at_call 12; refine (check_bad a ha _).mono ?_; rintro e w1 ⟨rfl, hb⟩)
  go_ret
  exact ⟨rfl, (((Below.refl _ _).alloc (Nat.le_refl _) _).alloc (by simp) _).trans (hb.mono (by simp; omega))⟩
set_option maxHeartbeats 1000000 in
theorem leq_bad2 (a b : Cp) (ha : a.ok = true) (hb : b.ok = false) (w : World) :
    Calls Try.prog 14 #[.agg #[.int .u16 a.k, .int .u16 a.y, .int .u16 a.r, .int .i64 a.ib, .int .i64 a.d, .int .i64 a.s, .bool a.o, .bool a.sh, .bool a.c, .bool a.m],
        .agg #[.int .u16 b.k, .int .u16 b.y, .int .u16 b.r, .int .i64 b.ib, .int .i64 b.d, .int .i64 b.s, .bool b.o, .bool b.sh, .bool b.c, .bool b.m]] w
      fun e w' => e = .returned (.bool false) ∧ Below w.heap.size w w' := by
  go_enter Try.func14, Try.ntmps14
  go_wp2_with (first | (go_at_call 12; ((with_reducible refine (check_ok a ha _).mono ?_); rintro e w1 ⟨rfl, hb1⟩; obtain ⟨hc1, hf1⟩ := bcell hb1)) | (go_at_call 12; ((with_reducible refine (check_bad b hb _).mono ?_); rintro e w2 ⟨rfl, hb2⟩)))
  go_ret
  exact ⟨rfl, ((((Below.refl _ _).alloc (Nat.le_refl _) _).alloc (by simp) _).trans (hb1.mono (by simp; omega))).trans (hb2.mono (by have := hb1.size; simp at this; omega))⟩
end Go.Proofs.Ytfgglegimajghaa
