/- The cells of the forms' arguments; what stands behind a reader's call. -/
import Derived.Test.YtfnemklcmhilnaaGreatDoorScG
namespace Go.Proofs.YtfnemklcmhilnaaGreatDoor
open Go.RowKit
open Go.Lib hiding intOf
theorem row_cell {j k : Nat} (hj : j < 15) (hk : k < (argsOf j).length) : (rowV j)[2 * k]? = some (.func (.func (rdFn (argsOf j)[k])) #[] #[]) := by
  rcases j with _ | _ | _ | _ | _ | _ | _ | _ | _ | _ | _ | _ | _ | _ | _ | j
  case succ => omega
  all_goals
    rcases k with _ | _ | _ | _ | k
    all_goals first | rfl | (exfalso; simp [argsOf] at hk; done) | (exfalso; simp [argsOf] at hk; omega)
theorem rd_enter (K : AK) : ∀ args w, (callFunc (rdFn K) args).run Tryz.prog w = .ok (.enter (rdFn K) args) w := by
  cases K
  · exact enters_of Tryz.func15 (by kernel_rfl) rfl
  · exact enters_of Tryz.func17 (by kernel_rfl) rfl
  · exact enters_of Tryz.func19 (by kernel_rfl) rfl
  · exact enters_of Tryz.func21 (by kernel_rfl) rfl
/-- behind a reader's call -/
structure After (pp : List UInt8 → Bool) (l : List UInt8) (w wr : World) (FB j : Nat) (c : Cx) (W : World) : Prop where
  below : Below w.heap.size w W
  keep : KeepC (w.heap.size + 1 + 1) wr W
  cm : CmdC w.heap.size (w.heap.size + 1 + 1) (opOf j) c W
theorem After.drewN {pp : List UInt8 → Bool} {l : List UInt8} {w wr : World} {FB j : Nat} {c : Cx} {W : World} (h : After pp l w wr FB j c W) (k : Nat) : After pp l w wr FB j c (W.drewN k) := by
  obtain ⟨nv, fv, h3⟩ := h.cm
  exact ⟨h.below.trans (below_drewN _ _ _), h.keep, nv, fv, h3.base, h3.blk, h3.names, h3.fmts⟩
end Go.Proofs.YtfnemklcmhilnaaGreatDoor
