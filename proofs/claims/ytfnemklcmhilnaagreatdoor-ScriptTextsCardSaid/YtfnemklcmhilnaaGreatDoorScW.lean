/- The writers of a command's parts: next, writeName, writeFormat, writeText. -/
import Derived.Test.YtfnemklcmhilnaaGreatDoorScQ
namespace Go.Proofs.YtfnemklcmhilnaaGreatDoor
open Go.RowKit
open Go.Lib hiding intOf
/-- the writer's block: the command, and how many names, formats and texts have been taken -/
def wrt (op : Int) (nv fv : Value) (tx : ByteArray) (i j t : Nat) : Obj := .cells #[.int .i64 op, nv, fv, .string tx, .int .i64 i, .int .i64 j, .int .i64 t] 63
theorem set_block {w : World} {b k : Nat} {cs : Array Value} {T : TypeId} {fr : Nat × Nat} (h : w.heap[b]? = some (.cells cs T fr)) (v : Value) : (w.setCell ⟨b, k, none⟩ v).heap[b]? = some (.cells (cs.setIfInBounds k v) T fr) := by
  simp [World.setCell, Array.getElem?_modify, h]
theorem drewN_add (w : World) (a b : Nat) : (w.drewN a).drewN b = w.drewN (a + b) := by simp [World.drewN, Nat.add_assoc]
theorem drewN_set (w : World) (a b : Nat) (p : Addr) (v : Value) : ((w.drewN a).setCell p v).drewN b = (w.setCell p v).drewN (a + b) := by simp [World.drewN, World.setCell, Nat.add_assoc]
theorem set_other {w : World} {b k c : Nat} (v : Value) (h : c ≠ b) : (w.setCell ⟨b, k, none⟩ v).heap[c]? = w.heap[c]? := by
  simp [World.setCell, Array.getElem?_modify, Ne.symm h]
theorem cell_other {w : World} {b k : Nat} (v : Value) {c : Nat} (h : c ≠ b) (o : Nat) : (w.setCell ⟨b, k, none⟩ v).cell? ⟨c, o, none⟩ = w.cell? ⟨c, o, none⟩ := by
  unfold World.cell?; rw [set_other _ h]
theorem Tabs.setCell {w : World} (h : Tabs w) {b : Nat} (h1 : 1 ≠ b) (h2 : 2 ≠ b) (k : Nat) (v : Value) : Tabs (w.setCell ⟨b, k, none⟩ v) :=
  ⟨fun c hc => by rw [cell_other _ h1]; exact h.1 c hc, fun i hi => by rw [cell_other _ h2, cell_other _ h2]; exact h.2 i hi⟩
set_option maxHeartbeats 1000000 in
theorem next_no (w : World) (b : Nat) (op : Int) (na : Option Addr) (nc : Nat) (fv : Value) (tx : ByteArray) (i j t : Nat) (hb : w.heap[b]? = some (wrt op (.slice na i nc) fv tx i j t)) :
    Calls Tryz.prog 28 #[.pointer (some ⟨b, 0, none⟩)] w fun e w' => e = .returned (.tuple #[.string ⟨#[]⟩, .bool false]) ∧ ∃ n, w' = w.drewN n := by
  have c1 : w.cell? ⟨b, 1, none⟩ = some (.slice na i nc) := by rw [Lib.cell_of_heap hb]; rfl
  have c4 : w.cell? ⟨b, 4, none⟩ = some (.int .i64 i) := by rw [Lib.cell_of_heap hb]; rfl
  clear hb
  go_enter Tryz.func28, Tryz.ntmps28
  go_wp2
  go_quiet (fail)
  go_wp2
  go_ret2
  exact ⟨rfl, nq, rfl⟩
set_option maxHeartbeats 1000000 in
theorem next_yes (w : World) (b : Nat) (op : Int) (nb no nl nc : Nat) (fv : Value) (tx s : ByteArray) (i j t : Nat) (hb : w.heap[b]? = some (wrt op (.slice (some ⟨nb, no, none⟩) nl nc) fv tx i j t)) (hi : i < nl) (hnl : nl ≤ maxLen)
    (hs : w.cell? ⟨nb, no + i, none⟩ = some (.string s)) (hne : nb ≠ b) :
    Calls Tryz.prog 28 #[.pointer (some ⟨b, 0, none⟩)] w fun e w' => e = .returned (.tuple #[.string s, .bool true]) ∧ ∃ n, w' = (w.setCell ⟨b, 4, none⟩ (.int .i64 ((i : Int) + 1))).drewN n := by
  unfold maxLen at hnl
  have c1 : w.cell? ⟨b, 1, none⟩ = some (.slice (some ⟨nb, no, none⟩) nl nc) := by rw [Lib.cell_of_heap hb]; rfl
  have c4 : w.cell? ⟨b, 4, none⟩ = some (.int .i64 i) := by rw [Lib.cell_of_heap hb]; rfl
  have f4 : w.frozen? ⟨b, 4, none⟩ = false := Lib.frozen_of_heap hb 4
  have ne : ((i : Int) == (nl : Int)) = false := by simp; omega
  have b1 : IntKind.i64.wrap ((i : Int) + 1) = (i : Int) + 1 := IntWalk.i64_in _ (by omega)
  have d1 : (w.setCell ⟨b, 4, none⟩ (.int .i64 ((i : Int) + 1))).cell? ⟨b, 1, none⟩ = some (.slice (some ⟨nb, no, none⟩) nl nc) := by
    rw [Lib.cell_of_heap (set_block hb _)]; rfl
  have d4 : (w.setCell ⟨b, 4, none⟩ (.int .i64 ((i : Int) + 1))).cell? ⟨b, 4, none⟩ = some (.int .i64 ((i : Int) + 1)) := by
    rw [Lib.cell_of_heap (set_block hb _)]; rfl
  have ds : (w.setCell ⟨b, 4, none⟩ (.int .i64 ((i : Int) + 1))).cell? ⟨nb, no + i, none⟩ = some (.string s) := by
    rw [← hs]; unfold World.cell?; rw [set_other _ hne]
  have b2 : IntKind.i64.wrap ((i : Int) + 1 - 1) = (i : Int) := by rw [show (i : Int) + 1 - 1 = i by omega]; exact IntWalk.i64_in _ (by omega)
  have b3 : (i : Int) + 1 - 1 = i := by omega
  have b6 : IntKind.i64.wrap (i : Int) = i := IntWalk.i64_in _ (by omega)
  have b4 : (0 : Int) ≤ i := by omega
  have b5 : (i : Int) < nl := by omega
  clear hb hi hnl
  go_enter Tryz.func28, Tryz.ntmps28
  go_wp2
  go_quiet (fail)
  go_wp2
  go_quiet (fail)
  go_wp2
  go_ret2
  exact ⟨rfl, _, drewN_set _ _ _ _ _⟩
set_option maxHeartbeats 1000000 in
theorem wname_no (w : World) (b : Nat) (op : Int) (na : Option Addr) (nc : Nat) (fv : Value) (tx : ByteArray) (i j t : Nat) (hb : w.heap[b]? = some (wrt op (.slice na i nc) fv tx i j t)) :
    Calls Tryz.prog 16 #[.pointer (some ⟨b, 0, none⟩)] w fun e w' => e = .returned (.tuple #[.string ⟨#[]⟩, .bool false]) ∧ ∃ n, w' = w.drewN n := by
  have HB := Lib.hid hb
  clear hb
  go_enter Tryz.func16, Tryz.ntmps16
  go_wp2_with (go_at_call 28; refine (next_no _ _ _ _ _ _ _ _ _ _ HB.out).mono ?_; rintro e w1 ⟨rfl, n, rfl⟩)
  go_ret2
  exact ⟨rfl, n, rfl⟩
set_option maxHeartbeats 1000000 in
theorem wname_yes (w : World) (b : Nat) (op : Int) (nb no nl nc : Nat) (fv : Value) (tx s : ByteArray) (i j t : Nat) (hb : w.heap[b]? = some (wrt op (.slice (some ⟨nb, no, none⟩) nl nc) fv tx i j t)) (hi : i < nl) (hnl : nl ≤ maxLen)
    (hs : w.cell? ⟨nb, no + i, none⟩ = some (.string s)) (hne : nb ≠ b) (hss : s.size ≤ maxLen) :
    Calls Tryz.prog 16 #[.pointer (some ⟨b, 0, none⟩)] w fun e w' => e = .returned (.tuple #[.string s, .bool (nameB s.data.toList)]) ∧ ∃ n, w' = (w.setCell ⟨b, 4, none⟩ (.int .i64 ((i : Int) + 1))).drewN n := by
  have H := Lib.hid (And.intro hb (And.intro hi (And.intro hnl (And.intro hs (And.intro hne hss)))))
  clear hb hi hnl hs hne hss
  go_enter Tryz.func16, Tryz.ntmps16
  go_wp2_with (first | (go_at_call 28; refine (next_yes _ _ _ _ _ _ _ _ _ s _ _ _ H.out.1 H.out.2.1 H.out.2.2.1 H.out.2.2.2.1 H.out.2.2.2.2.1).mono ?_; rintro e w1 ⟨rfl, n, rfl⟩) | (go_at_call 27; refine (name_any _ _ H.out.2.2.2.2.2).mono ?_; rintro e w2 ⟨rfl, rfl⟩))
  go_ret2
  exact ⟨rfl, n, rfl⟩
set_option maxHeartbeats 1000000 in
theorem wtext_any (w : World) (b : Nat) (op : Int) (nv fv : Value) (tx : ByteArray) (i j t : Nat) (hb : w.heap[b]? = some (wrt op nv fv tx i j t)) (ht : t < 1000) (htx : tx.size ≤ 35184372088000) (hT : Tabs w) (h1 : 1 ≠ b) (h2 : 2 ≠ b) :
    Calls Tryz.prog 22 #[.pointer (some ⟨b, 0, none⟩)] w fun e w' => e = .returned (.tuple #[.string ⟨(34 :: qb tx.data.toList ++ [34]).toArray⟩, .bool true]) ∧ Below (w.setCell ⟨b, 6, none⟩ (.int .i64 ((t : Int) + 1))).heap.size (w.setCell ⟨b, 6, none⟩ (.int .i64 ((t : Int) + 1))) w' := by
  have c6 : w.cell? ⟨b, 6, none⟩ = some (.int .i64 t) := by rw [Lib.cell_of_heap hb]; rfl
  have f6 : w.frozen? ⟨b, 6, none⟩ = false := Lib.frozen_of_heap hb 6
  have d3 : (w.setCell ⟨b, 6, none⟩ (.int .i64 ((t : Int) + 1))).cell? ⟨b, 3, none⟩ = some (.string tx) := by
    rw [Lib.cell_of_heap (set_block hb _)]; rfl
  have b1 : IntKind.i64.wrap ((t : Int) + 1) = (t : Int) + 1 := IntWalk.i64_in _ (by omega)
  have HT : Hid (Tabs (w.setCell ⟨b, 6, none⟩ (.int .i64 ((t : Int) + 1)))) := hT.setCell h1 h2 _ _
  have HX := Lib.hid htx
  clear hb ht htx hT h1 h2
  go_enter Tryz.func22, Tryz.ntmps22
  go_wp2_with (go_at_call 31; refine (quote_any _ _ HX.out HT.out).mono ?_; rintro e w2 ⟨rfl, hb2⟩)
  go_ret2
  exact ⟨rfl, hb2⟩
end Go.Proofs.YtfnemklcmhilnaaGreatDoor
