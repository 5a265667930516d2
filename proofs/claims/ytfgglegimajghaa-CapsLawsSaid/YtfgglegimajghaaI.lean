/- The contract of the reference's order. -/
import Derived.Test.YtfgglegimajghaaH
import Derived.Deep.DeepCutAuto
namespace Go.Proofs.Ytfgglegimajghaa
open Go.RowKit
def flagsB (a b : Cp) : Bool := (!a.o || b.o) && (!a.sh || b.sh) && (!a.c || b.c) && (!a.m || b.m)
/-- the order of the reference -/
def Cp.rle (a b : Cp) : Bool := subB a.k b.k 16 && subB a.y b.y 16 && subB a.r b.r 16 && lowB a.ib b.ib && lowB a.d b.d && shapeB a.s b.s && flagsB a b
set_option maxRecDepth 100000 in
set_option maxHeartbeats 2000000 in
theorem rleq_any (a b : Cp) (wa : a.Wf) (wb : b.Wf) (w : World) :
    Calls Try.prog 15 #[.agg #[.int .u16 a.k, .int .u16 a.y, .int .u16 a.r, .int .i64 a.ib, .int .i64 a.d, .int .i64 a.s, .bool a.o, .bool a.sh, .bool a.c, .bool a.m],
        .agg #[.int .u16 b.k, .int .u16 b.y, .int .u16 b.r, .int .i64 b.ib, .int .i64 b.d, .int .i64 b.s, .bool b.o, .bool b.sh, .bool b.c, .bool b.m]] w
      fun e w' => e = .returned (.bool (a.rle b)) ∧ Below w.heap.size w w' := by
  have Wa := Lib.hid wa
  have Wb := Lib.hid wb
  clear wa wb
  have hB : ∀ X Y, Below w.heap.size w ((w.alloc X).alloc Y) := fun X Y => ((Below.refl _ _).alloc (Nat.le_refl _) _).alloc (by simp) _
  have HB := Lib.hid hB
  clear hB
  go_enter Try.func15, Try.ntmps15
  go_upto_region 1 with (fail)
  obtain ⟨w2, hw2⟩ : ∃ w2 : World, w2 = ((w.alloc (.cells #[.int .u16 a.k, .int .u16 a.y, .int .u16 a.r, .int .i64 a.ib, .int .i64 a.d, .int .i64 a.s, .bool a.o, .bool a.sh, .bool a.c, .bool a.m] 25)).alloc (.cells #[.int .u16 b.k, .int .u16 b.y, .int .u16 b.r, .int .i64 b.ib, .int .i64 b.d, .int .i64 b.s, .bool b.o, .bool b.sh, .bool b.c, .bool b.m] 25)) := ⟨_, rfl⟩
  rw [← hw2]
  have hc2 : ∀ b' o, w2.cell? ⟨b', o, none⟩ = ((w.alloc (.cells #[.int .u16 a.k, .int .u16 a.y, .int .u16 a.r, .int .i64 a.ib, .int .i64 a.d, .int .i64 a.s, .bool a.o, .bool a.sh, .bool a.c, .bool a.m] 25)).alloc (.cells #[.int .u16 b.k, .int .u16 b.y, .int .u16 b.r, .int .i64 b.ib, .int .i64 b.d, .int .i64 b.s, .bool b.o, .bool b.sh, .bool b.c, .bool b.m] 25)).cell? ⟨b', o, none⟩ := fun _ _ => by rw [hw2]
  have hB2 : Below w.heap.size w w2 := by rw [hw2]; exact HB.out _ _
  clear hw2 HB
  go_cut [5] (fun s wx => s = .bool (shapeB a.s b.s) ∧ w2 = wx)
  case first =>
    go_wp2
    all_goals (go_meet; case rel => exact ⟨by simp [shapeB, *], rfl⟩)
  case rest =>
    obtain ⟨rfl, rfl⟩ := hcut
    generalize hS : shapeB a.s b.s = S
    have HS := Lib.hid hS
    clear hS
    go_upto_region 2 with (fail)
    go_cut [0, 1, 6] (fun _ _ s wx => s = .bool (flagsB a b) ∧ w2 = wx)
    case first =>
      go_wp2
      all_goals (go_meet; case rel => exact ⟨by simp [flagsB, *], rfl⟩)
    case rest =>
      obtain ⟨rfl, rfl⟩ := hcut
      generalize hF : flagsB a b = F
      have HF := Lib.hid hF
      clear hF
      go_wp2_with (first
        | (go_at_call 25; first | ((with_reducible refine (within_any a.k b.k _ Wa.out.k0 Wa.out.k1 Wb.out.k0 Wb.out.k1).mono ?_); rintro e w' ⟨rfl, rfl⟩) | ((with_reducible refine (within_any a.y b.y _ Wa.out.y0 Wa.out.y1 Wb.out.y0 Wb.out.y1).mono ?_); rintro e w' ⟨rfl, rfl⟩) | ((with_reducible refine (within_any a.r b.r _ Wa.out.r0 Wa.out.r1 Wb.out.r0 Wb.out.r1).mono ?_); rintro e w' ⟨rfl, rfl⟩))
        | (go_at_call 26; refine (refLow_any _ _ _).mono ?_; rintro e w' ⟨rfl, rfl⟩))
      all_goals go_ret
      all_goals refine ⟨ret_bool ?_, hB2⟩
      all_goals (unfold Cp.rle; rw [HS.out, HF.out]; simp [*])
end Go.Proofs.Ytfgglegimajghaa
