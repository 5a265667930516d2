/- The table of the forms of commands: what forms() hands back. -/
import Derived.Test.YtfnemklcmhilnaaGreatDoorScL
import Derived.Maps.RangeWalk
import Derived.Maps.OwnSet
import Derived.Laws.EntriesVeiled
import Derived.Carry
namespace Go.Proofs.YtfnemklcmhilnaaGreatDoor
open Go.RowKit
open Go.Lib hiding intOf
/-- how an element of the table reads: its operation, where its arguments lie, how many, and whether more names may follow -/
def formL {H : Type} : List Value → Option (DataW H × List MemPlace)
  | [.int .i64 op, .slice (some ⟨b, o, sp⟩) n c, .bool m] => if o = 0 ∧ sp.isNone = true then some (.agg [.lit (.int .i64 op), .lit (.int .i64 b), .lit (.int .i64 n), .lit (.int .i64 c), .lit (.bool m)], []) else none
  | [.int .i64 op, .slice none n c, .bool m] => if n = 0 ∧ c = 0 then some (.agg [.lit (.int .i64 op), .lit (.bool m)], []) else none
  | _ => none
def formR {H : Type} : Value → Option (DataW H × List MemPlace)
  | .agg cs => formL cs.toList
  | _ => none
def arg_n : Array Value := #[.func (.func 15) #[] #[], .func (.func 16) #[] #[]]
def arg_f : Array Value := #[.func (.func 17) #[] #[], .func (.func 18) #[] #[]]
def arg_p : Array Value := #[.func (.func 19) #[] #[], .func (.func 20) #[] #[]]
def arg_t : Array Value := #[.func (.func 21) #[] #[], .func (.func 22) #[] #[]]
def rowV : Nat → Array Value
  | 0 => #[.func (.func 15) #[] #[], .func (.func 16) #[] #[], .func (.func 17) #[] #[], .func (.func 18) #[] #[], .func (.func 21) #[] #[], .func (.func 22) #[] #[]]
  | 1 => #[.func (.func 15) #[] #[], .func (.func 16) #[] #[]]
  | 2 => #[.func (.func 15) #[] #[], .func (.func 16) #[] #[], .func (.func 17) #[] #[], .func (.func 18) #[] #[], .func (.func 15) #[] #[], .func (.func 16) #[] #[]]
  | 3 => #[.func (.func 15) #[] #[], .func (.func 16) #[] #[], .func (.func 15) #[] #[], .func (.func 16) #[] #[]]
  | 4 => #[.func (.func 15) #[] #[], .func (.func 16) #[] #[], .func (.func 17) #[] #[], .func (.func 18) #[] #[]]
  | 5 => #[.func (.func 15) #[] #[], .func (.func 16) #[] #[], .func (.func 17) #[] #[], .func (.func 18) #[] #[]]
  | 6 => #[.func (.func 15) #[] #[], .func (.func 16) #[] #[], .func (.func 19) #[] #[], .func (.func 20) #[] #[]]
  | 7 => #[.func (.func 15) #[] #[], .func (.func 16) #[] #[], .func (.func 19) #[] #[], .func (.func 20) #[] #[], .func (.func 21) #[] #[], .func (.func 22) #[] #[]]
  | 8 => #[.func (.func 15) #[] #[], .func (.func 16) #[] #[], .func (.func 19) #[] #[], .func (.func 20) #[] #[], .func (.func 21) #[] #[], .func (.func 22) #[] #[]]
  | 9 => #[.func (.func 15) #[] #[], .func (.func 16) #[] #[], .func (.func 19) #[] #[], .func (.func 20) #[] #[]]
  | 10 => #[.func (.func 15) #[] #[], .func (.func 16) #[] #[], .func (.func 15) #[] #[], .func (.func 16) #[] #[]]
  | 11 => #[.func (.func 15) #[] #[], .func (.func 16) #[] #[], .func (.func 15) #[] #[], .func (.func 16) #[] #[], .func (.func 15) #[] #[], .func (.func 16) #[] #[], .func (.func 15) #[] #[], .func (.func 16) #[] #[]]
  | 12 => #[.func (.func 15) #[] #[], .func (.func 16) #[] #[]]
  | 13 => #[.func (.func 15) #[] #[], .func (.func 16) #[] #[], .func (.func 21) #[] #[], .func (.func 22) #[] #[]]
  | 14 => #[.func (.func 15) #[] #[], .func (.func 16) #[] #[]]
  | _ => #[]
def elV (B : Nat) : Nat → Value
  | 0 => .agg #[.int .i64 1, .slice (some ⟨B + 5, 0, none⟩) 3 3, .bool false]
  | 1 => .agg #[.int .i64 2, .slice (some ⟨B + 6, 0, none⟩) 1 1, .bool false]
  | 2 => .agg #[.int .i64 3, .slice (some ⟨B + 7, 0, none⟩) 3 3, .bool false]
  | 3 => .agg #[.int .i64 4, .slice (some ⟨B + 8, 0, none⟩) 2 2, .bool false]
  | 4 => .agg #[.int .i64 5, .slice (some ⟨B + 9, 0, none⟩) 2 2, .bool false]
  | 5 => .agg #[.int .i64 6, .slice (some ⟨B + 10, 0, none⟩) 2 2, .bool false]
  | 6 => .agg #[.int .i64 7, .slice (some ⟨B + 11, 0, none⟩) 2 2, .bool false]
  | 7 => .agg #[.int .i64 8, .slice (some ⟨B + 12, 0, none⟩) 3 3, .bool false]
  | 8 => .agg #[.int .i64 9, .slice (some ⟨B + 13, 0, none⟩) 3 3, .bool false]
  | 9 => .agg #[.int .i64 10, .slice (some ⟨B + 14, 0, none⟩) 2 2, .bool false]
  | 10 => .agg #[.int .i64 11, .slice (some ⟨B + 15, 0, none⟩) 2 2, .bool false]
  | 11 => .agg #[.int .i64 12, .slice (some ⟨B + 16, 0, none⟩) 4 4, .bool false]
  | 12 => .agg #[.int .i64 13, .slice (some ⟨B + 17, 0, none⟩) 1 1, .bool true]
  | 13 => .agg #[.int .i64 14, .slice (some ⟨B + 18, 0, none⟩) 2 2, .bool false]
  | 14 => .agg #[.int .i64 15, .slice (some ⟨B + 19, 0, none⟩) 1 1, .bool false]
  | _ => .nilIface
def elD {H : Type} (B : Nat) : Nat → DataW H
  | 0 => .agg [.lit (.int .i64 1), .lit (.int .i64 ((B + 5 : Nat) : Int)), .lit (.int .i64 3), .lit (.int .i64 3), .lit (.bool false)]
  | 1 => .agg [.lit (.int .i64 2), .lit (.int .i64 ((B + 6 : Nat) : Int)), .lit (.int .i64 1), .lit (.int .i64 1), .lit (.bool false)]
  | 2 => .agg [.lit (.int .i64 3), .lit (.int .i64 ((B + 7 : Nat) : Int)), .lit (.int .i64 3), .lit (.int .i64 3), .lit (.bool false)]
  | 3 => .agg [.lit (.int .i64 4), .lit (.int .i64 ((B + 8 : Nat) : Int)), .lit (.int .i64 2), .lit (.int .i64 2), .lit (.bool false)]
  | 4 => .agg [.lit (.int .i64 5), .lit (.int .i64 ((B + 9 : Nat) : Int)), .lit (.int .i64 2), .lit (.int .i64 2), .lit (.bool false)]
  | 5 => .agg [.lit (.int .i64 6), .lit (.int .i64 ((B + 10 : Nat) : Int)), .lit (.int .i64 2), .lit (.int .i64 2), .lit (.bool false)]
  | 6 => .agg [.lit (.int .i64 7), .lit (.int .i64 ((B + 11 : Nat) : Int)), .lit (.int .i64 2), .lit (.int .i64 2), .lit (.bool false)]
  | 7 => .agg [.lit (.int .i64 8), .lit (.int .i64 ((B + 12 : Nat) : Int)), .lit (.int .i64 3), .lit (.int .i64 3), .lit (.bool false)]
  | 8 => .agg [.lit (.int .i64 9), .lit (.int .i64 ((B + 13 : Nat) : Int)), .lit (.int .i64 3), .lit (.int .i64 3), .lit (.bool false)]
  | 9 => .agg [.lit (.int .i64 10), .lit (.int .i64 ((B + 14 : Nat) : Int)), .lit (.int .i64 2), .lit (.int .i64 2), .lit (.bool false)]
  | 10 => .agg [.lit (.int .i64 11), .lit (.int .i64 ((B + 15 : Nat) : Int)), .lit (.int .i64 2), .lit (.int .i64 2), .lit (.bool false)]
  | 11 => .agg [.lit (.int .i64 12), .lit (.int .i64 ((B + 16 : Nat) : Int)), .lit (.int .i64 4), .lit (.int .i64 4), .lit (.bool false)]
  | 12 => .agg [.lit (.int .i64 13), .lit (.int .i64 ((B + 17 : Nat) : Int)), .lit (.int .i64 1), .lit (.int .i64 1), .lit (.bool true)]
  | 13 => .agg [.lit (.int .i64 14), .lit (.int .i64 ((B + 18 : Nat) : Int)), .lit (.int .i64 2), .lit (.int .i64 2), .lit (.bool false)]
  | 14 => .agg [.lit (.int .i64 15), .lit (.int .i64 ((B + 19 : Nat) : Int)), .lit (.int .i64 1), .lit (.int .i64 1), .lit (.bool false)]
  | _ => .nil
def keyB : Nat → List UInt8
  | 0 => [108, 111, 97, 100]
  | 1 => [100, 114, 111, 112]
  | 2 => [99, 111, 110, 118, 101, 114, 116]
  | 3 => [98, 97, 99, 107]
  | 4 => [99, 104, 101, 99, 107]
  | 5 => [112, 108, 97, 110]
  | 6 => [103, 101, 116]
  | 7 => [115, 101, 116]
  | 8 => [105, 110, 115, 101, 114, 116]
  | 9 => [114, 101, 109, 111, 118, 101]
  | 10 => [100, 105, 102, 102]
  | 11 => [109, 101, 114, 103, 101]
  | 12 => [105, 110, 102, 101, 114]
  | 13 => [118, 97, 108, 105, 100, 97, 116, 101]
  | 14 => [112, 114, 105, 110, 116]
  | _ => []
/-- the table after k entries -/
def formD {H : Type} (B : Nat) : Nat → DataW H
  | 0 => .map []
  | k + 1 => (formD B k).put (.string (keyB k)) (elD B k)
structure FI (w0 w : World) (k : Nat) : Prop where
  size : w.heap.size = w0.heap.size + 5 + k
  n : w.heap[w0.heap.size]? = some (.cells arg_n 57)
  f : w.heap[w0.heap.size + 1]? = some (.cells arg_f 57)
  p : w.heap[w0.heap.size + 2]? = some (.cells arg_p 57)
  t : w.heap[w0.heap.size + 3]? = some (.cells arg_t 57)
  below : Below w0.heap.size w0 w
  own : w.ownsMap (H := Unit) Tryz.prog 9 formR (w0.heap.size + 4) k (formD w0.heap.size k)
  rows : ∀ j, j < k → w.heap[w0.heap.size + 5 + j]? = some (.cells (rowV j) 57)
theorem FI.step {w0 w w2 : World} {k : Nat} (h : FI w0 w k) (hs : w2.heap.size = (w.alloc (.cells (rowV k) 57)).heap.size) (hg : (w.alloc (.cells (rowV k) 57)).grownBy w2 (some (w0.heap.size + 4)))
    (ho : w2.ownsMap (H := Unit) Tryz.prog 9 formR (w0.heap.size + 4) (k + 1) (formD w0.heap.size (k + 1))) : FI w0 w2 (k + 1) := by
  have old : ∀ b, b < w.heap.size → b ≠ w0.heap.size + 4 → w2.heap[b]? = w.heap[b]? := fun b hb hne => by
    rw [hg.block b (by simp; omega) (fun e => hne (Option.some.inj e)), Lib.alloc_old w _ b hb]
  have hsz := h.size
  refine ⟨by rw [hs]; simp; omega, ?_, ?_, ?_, ?_, ?_, ho, ?_⟩
  · rw [old _ (by omega) (by omega)]; exact h.n
  · rw [old _ (by omega) (by omega)]; exact h.f
  · rw [old _ (by omega) (by omega)]; exact h.p
  · rw [old _ (by omega) (by omega)]; exact h.t
  · exact (h.below.alloc (by omega) _).grown hg (by simp; omega) (fun b hb => by have e := Option.some.inj hb; omega)
  · intro j hj
    by_cases e : j = k
    · subst e
      rw [show w0.heap.size + 5 + j = w.heap.size by omega, hg.block _ (by simp) (fun e => by have := Option.some.inj e; omega)]
      exact heap_alloc_new w _
    · rw [old _ (by omega) (by omega)]; exact h.rows j (by omega)
theorem own_update {w : World} {k e t : TypeId} {R : Value → Option (DataW Unit × List MemPlace)} {b n : Nat} {D : DataW Unit} (h : w.ownsMap Tryz.prog k R b n D) (K : Maps.Keyed Tryz.prog k) (ht : Tryz.prog.underlying t = some (.map k e)) (hn : n < maxLen) {key val : Value} {kl : Lit} {d : DataW Unit} {ps : List MemPlace}
    (hkey : keyOf Tryz.prog k key = some kl) (hv : R val = some (d, ps)) : ∃ w', (Instr.mapUpdate t (.map (some b)) key val).run Tryz.prog w = .ok () w' ∧ w'.ownsMap Tryz.prog k R b (n + 1) (D.put kl d) ∧ w.grownBy w' (some b) ∧ w'.heap.size = w.heap.size := by
  obtain ⟨w', h1, h2, h3⟩ := h.update K ht hn hkey hv
  obtain ⟨es, clock, hb, F, hs, rfl⟩ := h
  obtain ⟨es', clock', hrun, -, -, -⟩ := Maps.fit_store (R' := R) K ht hb F (Nat.lt_of_le_of_lt hs hn) (fun _ _ _ _ hz => hz) hkey hv
  rw [h1] at hrun
  have e : w' = _ := (Result.ok.inj hrun).2
  refine ⟨w', h1, h2, h3, ?_⟩
  rw [e]
  simp [ChangeMaps.setBlock]
theorem insert_own {ops : Array Oper} {rest : List Oper} {o : Oper} {a : Act} {Q : Exit → Act → World → Prop} (w : World) (hg : o.guard = none) (m x v : Operand) (hop : o.op = Op.insert 34 m x v) (b n : Nat) (D : DataW Unit)
    (hm : a.eval m = .map (some b)) (hown : w.ownsMap (H := Unit) Tryz.prog 9 formR b n D) (hn : n < 1000) (s : ByteArray) (hx : a.eval x = .string s) (val : Value) (hv : a.eval v = val) (d : DataW Unit) (hval : formR val = some (d, [])) (hs : s.size ≤ maxLen)
    (hK : ∀ w', w'.ownsMap (H := Unit) Tryz.prog 9 formR b (n + 1) (D.put (.string s.data.toList) d) → w.grownBy w' (some b) → w'.heap.size = w.heap.size → wpList Tryz.prog ops Q rest (a.put o.dst undef) w') :
    wpList Tryz.prog ops Q (o :: rest) a w := by
  refine wpList_plain hg fun K' hK' => ?_
  obtain ⟨w', hrun, r1, r2, r3⟩ := own_update hown (Maps.string_keyed Tryz.underlying9) Tryz.underlying34 (by unfold maxLen; omega) (key := .string s) (kl := .string s.data.toList) (by simp [keyOf, mapKey, Tryz.underlying9, hs]) hval
  unfold Oper.wp
  simp [execOp, hop, hm, hx, hv, hrun, Result.andThen]
  exact hK' _ _ (hK w' r1 r2 r3)
theorem FI.cells {w0 w : World} {k : Nat} (h : FI w0 w k) : w.cell? ⟨w0.heap.size, 0, none⟩ = some (.func (.func 15) #[] #[]) ∧ w.cell? ⟨w0.heap.size, 1, none⟩ = some (.func (.func 16) #[] #[])
    ∧ w.cell? ⟨w0.heap.size + 1, 0, none⟩ = some (.func (.func 17) #[] #[]) ∧ w.cell? ⟨w0.heap.size + 1, 1, none⟩ = some (.func (.func 18) #[] #[])
    ∧ w.cell? ⟨w0.heap.size + 1 + 1, 0, none⟩ = some (.func (.func 19) #[] #[]) ∧ w.cell? ⟨w0.heap.size + 1 + 1, 1, none⟩ = some (.func (.func 20) #[] #[])
    ∧ w.cell? ⟨w0.heap.size + 1 + 1 + 1, 0, none⟩ = some (.func (.func 21) #[] #[]) ∧ w.cell? ⟨w0.heap.size + 1 + 1 + 1, 1, none⟩ = some (.func (.func 22) #[] #[]) := by
  refine ⟨?_, ?_, ?_, ?_, ?_, ?_, ?_, ?_⟩
  · rw [Lib.cell_of_heap h.n]; rfl
  · rw [Lib.cell_of_heap h.n]; rfl
  · rw [Lib.cell_of_heap h.f]; rfl
  · rw [Lib.cell_of_heap h.f]; rfl
  · exact (Lib.cell_of_heap h.p _).trans rfl
  · exact (Lib.cell_of_heap h.p _).trans rfl
  · exact (Lib.cell_of_heap h.t _).trans rfl
  · exact (Lib.cell_of_heap h.t _).trans rfl
def W0 (w : World) : World := ((((w.alloc (.cells arg_n 57)).alloc (.cells arg_f 57)).alloc (.cells arg_p 57)).alloc (.cells arg_t 57)).alloc (.map #[] 0)
theorem fi0 (w : World) : FI w (W0 w) 0 := by
  have s1 : (w.alloc (.cells arg_n 57)).heap.size = w.heap.size + 1 := by simp
  have s2 : ((w.alloc (.cells arg_n 57)).alloc (.cells arg_f 57)).heap.size = w.heap.size + 2 := by simp
  have s3 : (((w.alloc (.cells arg_n 57)).alloc (.cells arg_f 57)).alloc (.cells arg_p 57)).heap.size = w.heap.size + 3 := by simp
  have s4 : ((((w.alloc (.cells arg_n 57)).alloc (.cells arg_f 57)).alloc (.cells arg_p 57)).alloc (.cells arg_t 57)).heap.size = w.heap.size + 4 := by simp
  unfold W0
  refine ⟨by simp, ?_, ?_, ?_, ?_, ?_, ?_, fun j hj => absurd hj (Nat.not_lt_zero j)⟩
  · rw [Lib.alloc_old _ _ _ (by omega), Lib.alloc_old _ _ _ (by omega), Lib.alloc_old _ _ _ (by omega), Lib.alloc_old _ _ _ (by omega)]
    exact heap_alloc_new w _
  · rw [Lib.alloc_old _ _ _ (by omega), Lib.alloc_old _ _ _ (by omega), Lib.alloc_old _ _ _ (by omega), ← s1]
    exact heap_alloc_new _ _
  · rw [Lib.alloc_old _ _ _ (by omega), Lib.alloc_old _ _ _ (by omega), ← s2]
    exact heap_alloc_new _ _
  · rw [Lib.alloc_old _ _ _ (by omega), ← s3]
    exact heap_alloc_new _ _
  · exact (((((Below.refl _ w).alloc (Nat.le_refl _) _).alloc (by omega) _).alloc (by omega) _).alloc (by omega) _).alloc (by omega) _
  · have := World.ownsMap_made (H := Unit) ((((w.alloc (.cells arg_n 57)).alloc (.cells arg_f 57)).alloc (.cells arg_p 57)).alloc (.cells arg_t 57)) Tryz.prog 9 formR
    rw [s4] at this
    exact this
set_option maxHeartbeats 4000000 in
set_option maxRecDepth 100000 in
theorem forms_any (w : World) : Calls Tryz.prog 7 #[] w fun e w' => e = .returned (.map (some (w.heap.size + 4))) ∧ FI w w' 15 := by
  have hmm := @run_makeMap Tryz.prog
  have fi0 := fi0 w
  go_enter Tryz.func7, Tryz.ntmps7
  dsimp only [List.append]
  go_wp2_with (refine insert_own _ rfl _ _ _ rfl (w.heap.size + 4) 0 _ rfl (fi0.own.alloc _) (by decide) _ rfl _ rfl (elD w.heap.size 0) rfl (by unfold maxLen; decide) ?_)
  intro w1 ho hg hs
  have fi1 := FI.step fi0 (hs.trans (by simp [W0])) hg ho
  clear ho hg hs fi0 hmm
  have hz := Lib.hid fi1.size
  have ho := Lib.hid fi1.own
  obtain ⟨c0, c1, c2, c3, c4, c5, c6, c7⟩ := fi1.cells
  have HF := Lib.hid fi1
  clear fi1
  go_wp2_with (refine insert_own _ rfl _ _ _ rfl (w.heap.size + 4) 1 _ rfl (ho.out.alloc _) (by decide) _ rfl _ rfl (elD w.heap.size 1) (by rw [hz.out]; rfl) (by unfold maxLen; decide) ?_)
  clear c0 c1 c2 c3 c4 c5 c6 c7 hz ho
  intro w2 ho hg hs
  have fi2 := FI.step HF.out (hs.trans (by simp)) hg ho
  clear ho hg hs HF
  have hz := Lib.hid fi2.size
  have ho := Lib.hid fi2.own
  obtain ⟨c0, c1, c2, c3, c4, c5, c6, c7⟩ := fi2.cells
  have HF := Lib.hid fi2
  clear fi2
  go_wp2_with (refine insert_own _ rfl _ _ _ rfl (w.heap.size + 4) 2 _ rfl (ho.out.alloc _) (by decide) _ rfl _ rfl (elD w.heap.size 2) (by rw [hz.out]; rfl) (by unfold maxLen; decide) ?_)
  clear c0 c1 c2 c3 c4 c5 c6 c7 hz ho
  intro w3 ho hg hs
  have fi3 := FI.step HF.out (hs.trans (by simp)) hg ho
  clear ho hg hs HF
  have hz := Lib.hid fi3.size
  have ho := Lib.hid fi3.own
  obtain ⟨c0, c1, c2, c3, c4, c5, c6, c7⟩ := fi3.cells
  have HF := Lib.hid fi3
  clear fi3
  go_wp2_with (refine insert_own _ rfl _ _ _ rfl (w.heap.size + 4) 3 _ rfl (ho.out.alloc _) (by decide) _ rfl _ rfl (elD w.heap.size 3) (by rw [hz.out]; rfl) (by unfold maxLen; decide) ?_)
  clear c0 c1 c2 c3 c4 c5 c6 c7 hz ho
  intro w4 ho hg hs
  have fi4 := FI.step HF.out (hs.trans (by simp)) hg ho
  clear ho hg hs HF
  have hz := Lib.hid fi4.size
  have ho := Lib.hid fi4.own
  obtain ⟨c0, c1, c2, c3, c4, c5, c6, c7⟩ := fi4.cells
  have HF := Lib.hid fi4
  clear fi4
  go_wp2_with (refine insert_own _ rfl _ _ _ rfl (w.heap.size + 4) 4 _ rfl (ho.out.alloc _) (by decide) _ rfl _ rfl (elD w.heap.size 4) (by rw [hz.out]; rfl) (by unfold maxLen; decide) ?_)
  clear c0 c1 c2 c3 c4 c5 c6 c7 hz ho
  intro w5 ho hg hs
  have fi5 := FI.step HF.out (hs.trans (by simp)) hg ho
  clear ho hg hs HF
  have hz := Lib.hid fi5.size
  have ho := Lib.hid fi5.own
  obtain ⟨c0, c1, c2, c3, c4, c5, c6, c7⟩ := fi5.cells
  have HF := Lib.hid fi5
  clear fi5
  go_wp2_with (refine insert_own _ rfl _ _ _ rfl (w.heap.size + 4) 5 _ rfl (ho.out.alloc _) (by decide) _ rfl _ rfl (elD w.heap.size 5) (by rw [hz.out]; rfl) (by unfold maxLen; decide) ?_)
  clear c0 c1 c2 c3 c4 c5 c6 c7 hz ho
  intro w6 ho hg hs
  have fi6 := FI.step HF.out (hs.trans (by simp)) hg ho
  clear ho hg hs HF
  have hz := Lib.hid fi6.size
  have ho := Lib.hid fi6.own
  obtain ⟨c0, c1, c2, c3, c4, c5, c6, c7⟩ := fi6.cells
  have HF := Lib.hid fi6
  clear fi6
  go_wp2_with (refine insert_own _ rfl _ _ _ rfl (w.heap.size + 4) 6 _ rfl (ho.out.alloc _) (by decide) _ rfl _ rfl (elD w.heap.size 6) (by rw [hz.out]; rfl) (by unfold maxLen; decide) ?_)
  clear c0 c1 c2 c3 c4 c5 c6 c7 hz ho
  intro w7 ho hg hs
  have fi7 := FI.step HF.out (hs.trans (by simp)) hg ho
  clear ho hg hs HF
  have hz := Lib.hid fi7.size
  have ho := Lib.hid fi7.own
  obtain ⟨c0, c1, c2, c3, c4, c5, c6, c7⟩ := fi7.cells
  have HF := Lib.hid fi7
  clear fi7
  go_wp2_with (refine insert_own _ rfl _ _ _ rfl (w.heap.size + 4) 7 _ rfl (ho.out.alloc _) (by decide) _ rfl _ rfl (elD w.heap.size 7) (by rw [hz.out]; rfl) (by unfold maxLen; decide) ?_)
  clear c0 c1 c2 c3 c4 c5 c6 c7 hz ho
  intro w8 ho hg hs
  have fi8 := FI.step HF.out (hs.trans (by simp)) hg ho
  clear ho hg hs HF
  have hz := Lib.hid fi8.size
  have ho := Lib.hid fi8.own
  obtain ⟨c0, c1, c2, c3, c4, c5, c6, c7⟩ := fi8.cells
  have HF := Lib.hid fi8
  clear fi8
  go_wp2_with (refine insert_own _ rfl _ _ _ rfl (w.heap.size + 4) 8 _ rfl (ho.out.alloc _) (by decide) _ rfl _ rfl (elD w.heap.size 8) (by rw [hz.out]; rfl) (by unfold maxLen; decide) ?_)
  clear c0 c1 c2 c3 c4 c5 c6 c7 hz ho
  intro w9 ho hg hs
  have fi9 := FI.step HF.out (hs.trans (by simp)) hg ho
  clear ho hg hs HF
  have hz := Lib.hid fi9.size
  have ho := Lib.hid fi9.own
  obtain ⟨c0, c1, c2, c3, c4, c5, c6, c7⟩ := fi9.cells
  have HF := Lib.hid fi9
  clear fi9
  go_wp2_with (refine insert_own _ rfl _ _ _ rfl (w.heap.size + 4) 9 _ rfl (ho.out.alloc _) (by decide) _ rfl _ rfl (elD w.heap.size 9) (by rw [hz.out]; rfl) (by unfold maxLen; decide) ?_)
  clear c0 c1 c2 c3 c4 c5 c6 c7 hz ho
  intro w10 ho hg hs
  have fi10 := FI.step HF.out (hs.trans (by simp)) hg ho
  clear ho hg hs HF
  have hz := Lib.hid fi10.size
  have ho := Lib.hid fi10.own
  obtain ⟨c0, c1, c2, c3, c4, c5, c6, c7⟩ := fi10.cells
  have HF := Lib.hid fi10
  clear fi10
  go_wp2_with (refine insert_own _ rfl _ _ _ rfl (w.heap.size + 4) 10 _ rfl (ho.out.alloc _) (by decide) _ rfl _ rfl (elD w.heap.size 10) (by rw [hz.out]; rfl) (by unfold maxLen; decide) ?_)
  clear c0 c1 c2 c3 c4 c5 c6 c7 hz ho
  intro w11 ho hg hs
  have fi11 := FI.step HF.out (hs.trans (by simp)) hg ho
  clear ho hg hs HF
  have hz := Lib.hid fi11.size
  have ho := Lib.hid fi11.own
  obtain ⟨c0, c1, c2, c3, c4, c5, c6, c7⟩ := fi11.cells
  have HF := Lib.hid fi11
  clear fi11
  go_wp2_with (refine insert_own _ rfl _ _ _ rfl (w.heap.size + 4) 11 _ rfl (ho.out.alloc _) (by decide) _ rfl _ rfl (elD w.heap.size 11) (by rw [hz.out]; rfl) (by unfold maxLen; decide) ?_)
  clear c0 c1 c2 c3 c4 c5 c6 c7 hz ho
  intro w12 ho hg hs
  have fi12 := FI.step HF.out (hs.trans (by simp)) hg ho
  clear ho hg hs HF
  have hz := Lib.hid fi12.size
  have ho := Lib.hid fi12.own
  obtain ⟨c0, c1, c2, c3, c4, c5, c6, c7⟩ := fi12.cells
  have HF := Lib.hid fi12
  clear fi12
  go_wp2_with (refine insert_own _ rfl _ _ _ rfl (w.heap.size + 4) 12 _ rfl (ho.out.alloc _) (by decide) _ rfl _ rfl (elD w.heap.size 12) (by rw [hz.out]; rfl) (by unfold maxLen; decide) ?_)
  clear c0 c1 c2 c3 c4 c5 c6 c7 hz ho
  intro w13 ho hg hs
  have fi13 := FI.step HF.out (hs.trans (by simp)) hg ho
  clear ho hg hs HF
  have hz := Lib.hid fi13.size
  have ho := Lib.hid fi13.own
  obtain ⟨c0, c1, c2, c3, c4, c5, c6, c7⟩ := fi13.cells
  have HF := Lib.hid fi13
  clear fi13
  go_wp2_with (refine insert_own _ rfl _ _ _ rfl (w.heap.size + 4) 13 _ rfl (ho.out.alloc _) (by decide) _ rfl _ rfl (elD w.heap.size 13) (by rw [hz.out]; rfl) (by unfold maxLen; decide) ?_)
  clear c0 c1 c2 c3 c4 c5 c6 c7 hz ho
  intro w14 ho hg hs
  have fi14 := FI.step HF.out (hs.trans (by simp)) hg ho
  clear ho hg hs HF
  have hz := Lib.hid fi14.size
  have ho := Lib.hid fi14.own
  obtain ⟨c0, c1, c2, c3, c4, c5, c6, c7⟩ := fi14.cells
  have HF := Lib.hid fi14
  clear fi14
  go_wp2_with (refine insert_own _ rfl _ _ _ rfl (w.heap.size + 4) 14 _ rfl (ho.out.alloc _) (by decide) _ rfl _ rfl (elD w.heap.size 14) (by rw [hz.out]; rfl) (by unfold maxLen; decide) ?_)
  clear c0 c1 c2 c3 c4 c5 c6 c7 hz ho
  intro w15 ho hg hs
  have fi15 := FI.step HF.out (hs.trans (by simp)) hg ho
  clear ho hg hs HF
  have HF := Lib.hid fi15
  clear fi15
  go_wp2
  go_ret
  exact ⟨rfl, HF.out⟩
end Go.Proofs.YtfnemklcmhilnaaGreatDoor
