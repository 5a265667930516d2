/- A region that draws its order: operations that read, then ONE call, then operations on slots alone. -/
import Derived.Test.YtfnemklcmhilnaaGreatDoorScR
namespace Go.Mix
open Go.RowKit
theorem wp_region_call {P : Program} {Q : Exit → Act → World → Prop} {id : Nat} {a : Act} {w : World} {l : List Oper} (n m : Nat) (oc : Oper) {aF aG : Act} (D R : World → Prop) (v0 : Value) (f : FuncId) (args : Array Value) (hm : P.follows .mixedOrders = true)
    (hlen : l.length = n + 1 + m) (hs : Region.noSelect l.toArray = true) (hB : lexTo .any l.toArray n 0 (Array.replicate l.length false) = some (List.replicate n true ++ List.replicate (l.length - n) false).toArray)
    (hd : dstsB a.tmps.size (l.take n) [] = true) (h1 : l[n]? = some oc) (g1 : oc.guard = none)
    (hr0 : Region.ready .any l.toArray (List.replicate n true ++ List.replicate (l.length - n) false).toArray = [n])
    (hB2 : lexTo .any l.toArray m (n + 1) ((List.replicate n true ++ List.replicate (l.length - n) false).toArray.setIfInBounds n true) = some (Array.replicate l.length true))
    (hr2 : Region.ready .any l.toArray (Array.replicate l.length true) = []) (hd2 : dstsB a.tmps.size (l.drop (n + 1)) [] = true)
    (hDw : ∀ k, D (w.drewN k)) (hRT : ∀ W k, R W → R (W.drewN k)) (hRD : ∀ W, R W → D W)
    (hA : ∀ ρ : World, D ρ → wpQuiet P l.toArray (fun w' => ∃ n, w' = ρ.drewN n) (fun a' => a' = aF) (l.take n) a) (hsize : (aF.put oc.dst v0).tmps.size = a.tmps.size)
    (hc : ∀ W : World, (execOp aF.eval oc).run P W = .ok (.enter f args) W)
    (hC : ∀ k, Calls P f args (w.drewN k) fun e W => e = .returned v0 ∧ R W)
    (hA2 : ∀ ρ : World, wpQuiet P l.toArray (fun w' => ∃ n, w' = ρ.drewN n) (fun a' => a' = aG) (l.drop (n + 1)) (aF.put oc.dst v0))
    (hK : ∀ W, R W → Q .normal aG W) : (Code.region id l.toArray true).wp P Q a w := by
  refine wp_region_mix (aF := aF) n (fun W => ∃ k, W = w.drewN k) D (fun w w' => ∃ n, w' = w.drewN n) hm (by omega) hs hB hd (fun w => ⟨0, rfl⟩) ?_ ?_ ⟨1, rfl⟩ (fun ρ hρ => hA ρ hρ) ?_
  · rintro _ _ ⟨k, rfl⟩ ⟨j, rfl⟩
    exact ⟨k + j, by simp [World.drewN, Nat.add_assoc]⟩
  · rintro _ ⟨k, rfl⟩; exact hDw k
  rw [show l.length - n = m + 1 by omega]
  rw [show l.length - n = m + 1 by omega] at hr0 hB2
  refine wpU_one hr0 (by simpa using h1) (by unfold Region.wanted; rw [g1]) (fun v W => v = v0 ∧ R W) ?_ (fun _ W h => hRD W h.2) ?_ ?_
  · rintro v W _ hr ⟨k, rfl⟩; exact ⟨hr.1, hRT W k hr.2⟩
  · rintro _ ⟨k, rfl⟩
    rw [hc]
    exact (hC k).mono fun e W ⟨h1, h2⟩ => ⟨v0, h1, rfl, h2⟩
  · rintro v W ⟨rfl, hr⟩
    have := wpU_lex (P := P) (md := .any) (ops := l.toArray) (Q := Q) (T := fun w w' => ∃ n, w' = w.drewN n) (D := D) hs (fun w => ⟨0, rfl⟩) (C := fun W => v = v ∧ R W) (by rintro W _ hr ⟨k, rfl⟩; exact ⟨rfl, hRT W k hr.2⟩) (fun W h => hRD W h.2) ⟨_, hRD W hr⟩ (aF := aG) (f := 0) (listed' := Array.replicate l.length true)
      (l.drop (n + 1)) (n + 1) _ (aF.put oc.dst v) [] (fun j hj => by simp) (by rw [show (l.drop (n + 1)).length = m by simp; omega]; exact hB2) (by rw [hsize]; exact hd2) (fun ρ _ => hA2 ρ) (wpU_end hr2 (fun W hW => hK W hW.2))
    rw [show (l.drop (n + 1)).length = m by simp; omega] at this
    simpa using this
end Go.Mix
