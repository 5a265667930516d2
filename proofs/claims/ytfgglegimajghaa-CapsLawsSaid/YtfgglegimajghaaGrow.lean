/- Regions that draw their order, whose calls make memory of their own: the order of the text serves every order. -/
import Derived.Test.YtfgglegimajghaaMix
import Derived.Deep.QuietTactic
namespace Go.Mix
open Go.RowKit
/-- A world that has grown out of ρ: nothing that was there has turned. -/
structure Grow (ρ : World) where
  w : World
  h : Below ρ.heap.size ρ w
instance (ρ : World) : Nonempty (Grow ρ) := ⟨⟨ρ, Below.refl _ _⟩⟩
def growC (ρ : World) (w' : World) : Prop := ∃ x : Grow ρ, w' = x.w
theorem growC_iff {ρ w : World} : growC ρ w ↔ Below ρ.heap.size ρ w := ⟨fun ⟨x, hx⟩ => hx ▸ x.h, fun h => ⟨⟨w, h⟩, rfl⟩⟩
theorem growC_refl (w : World) : growC w w := growC_iff.2 (Below.refl _ _)
theorem Grow.cell {ρ : World} (x : Grow ρ) (b o : Nat) (hb : b < ρ.heap.size) : x.w.cell? ⟨b, o, none⟩ = ρ.cell? ⟨b, o, none⟩ := x.h.cell (p := ⟨b, o, none⟩) hb
theorem Grow.frozen {ρ : World} (x : Grow ρ) (b o : Nat) (hb : b < ρ.heap.size) : x.w.frozen? ⟨b, o, none⟩ = ρ.frozen? ⟨b, o, none⟩ := x.h.frozen (p := ⟨b, o, none⟩) hb
theorem Grow.calls {P : Program} {f : FuncId} {args : Array Value} {ρ : World} {x : Grow ρ} {v : Value}
    (h : Calls P f args x.w fun e w' => e = .returned v ∧ Below x.w.heap.size x.w w') : Calls P f args x.w fun e w'' => e = .returned v ∧ ∃ y : Grow ρ, w'' = y.w :=
  h.mono fun _ w' ⟨he, hb⟩ => ⟨he, ⟨w', x.h.trans (hb.mono x.h.size)⟩, rfl⟩
theorem Grow.calls_same {P : Program} {f : FuncId} {args : Array Value} {ρ : World} {x : Grow ρ} {v : Value}
    (h : Calls P f args x.w fun e w' => e = .returned v ∧ x.w = w') : Calls P f args x.w fun e w'' => e = .returned v ∧ ∃ y : Grow ρ, w'' = y.w :=
  h.mono fun _ _ ⟨he, hb⟩ => ⟨he, x, hb.symm⟩
section
variable {P : Program} {Q : Exit → Act → World → Prop}
/-- No variable is made: every operation yields one value. -/
theorem wp_region_grow {id : Nat} {a : Act} {w : World} {l : List Oper} (hm : P.follows .mixedOrders = true) (hB : Region.lexB .any l.toArray = true)
    (h : wpQuiet P l.toArray (fun w' => ∃ x : Grow w, w' = x.w) (fun a' => ∀ w', (∃ x : Grow w, w' = x.w) → Q .normal a' w') l a) : (Code.region id l.toArray true).wp P Q a w :=
  wp_region_quiet (C := fun w' => ∃ x : Grow w, w' = x.w) hm hB ⟨⟨w.drew, (Below.refl _ _).drew⟩, rfl⟩ (by simpa using h)

theorem block_grow {ρ w : World} {b : Nat} {o : Obj} (h : Below ρ.heap.size ρ w) (hb : ρ.heap[b]? = some o) : w.heap[b]? = some o := by
  have hlt : b < ρ.heap.size := by
    rcases Nat.lt_or_ge b ρ.heap.size with h | h
    · exact h
    · rw [Array.getElem?_eq_none h] at hb; cases hb
  rw [h.block b hlt]; exact hb
/-- Two variables are made and stored into. -/
theorem wp_region_grow_two {id : Nat} {a : Act} {w : World} {l : List Oper} (n : Nat) (t1 t2 : Tmp) (o1 o2 s1 s2 : Oper) (X1 X2 Y1 Y2 : Obj) {aF : Act} (hm : P.follows .mixedOrders = true)
    (hlen : l.length = n + 4) (hs : Region.noSelect l.toArray = true) (hB : lexTo .any l.toArray n 0 (Array.replicate l.length false) = some (List.replicate n true ++ List.replicate (l.length - n) false).toArray)
    (hd : dstsB a.tmps.size (l.take n) [] = true) (ho1 : l[n]? = some o1) (ho2 : l[n + 1]? = some o2) (hs1 : l[n + 2]? = some s1) (hs2 : l[n + 3]? = some s2)
    (hg1 : o1.guard = none) (hg2 : o2.guard = none) (hg3 : s1.guard = none) (hg4 : s2.guard = none) (hd1 : o1.dst = some t1) (hd2 : o2.dst = some t2) (hd3 : s1.dst = none) (hd4 : s2.dst = none) (hne : t1 ≠ t2)
    (hr0 : Region.ready .any l.toArray (List.replicate n true ++ List.replicate 4 false).toArray = [n, n + 1])
    (hr1 : Region.ready .any l.toArray ((List.replicate n true ++ List.replicate 4 false).toArray.setIfInBounds n true) = [n + 1])
    (hr2 : Region.ready .any l.toArray ((List.replicate n true ++ List.replicate 4 false).toArray.setIfInBounds (n + 1) true) = [n])
    (hr3 : Region.ready .any l.toArray (((List.replicate n true ++ List.replicate 4 false).toArray.setIfInBounds n true).setIfInBounds (n + 1) true) = [n + 2])
    (hr4 : Region.ready .any l.toArray ((((List.replicate n true ++ List.replicate 4 false).toArray.setIfInBounds n true).setIfInBounds (n + 1) true).setIfInBounds (n + 2) true) = [n + 3])
    (hr5 : Region.ready .any l.toArray (((((List.replicate n true ++ List.replicate 4 false).toArray.setIfInBounds n true).setIfInBounds (n + 1) true).setIfInBounds (n + 2) true).setIfInBounds (n + 3) true) = [])
    (hA : ∀ ρ, Below w.heap.size w ρ → wpQuiet P l.toArray (fun w' => ∃ x : Grow ρ, w' = x.w) (fun a' => a' = aF) (l.take n) a)
    (ha1 : ∀ (v : Value) (W : World), (execOp aF.eval o1).run P W = .ok (.value (.pointer (some ⟨W.heap.size, 0, none⟩))) (W.alloc X1) ∧ (execOp (aF.put (some t2) v).eval o1).run P W = .ok (.value (.pointer (some ⟨W.heap.size, 0, none⟩))) (W.alloc X1))
    (ha2 : ∀ (v : Value) (W : World), (execOp aF.eval o2).run P W = .ok (.value (.pointer (some ⟨W.heap.size, 0, none⟩))) (W.alloc X2) ∧ (execOp (aF.put (some t1) v).eval o2).run P W = .ok (.value (.pointer (some ⟨W.heap.size, 0, none⟩))) (W.alloc X2))
    (hst1 : ∀ (b1 b2 : Nat) (W : World), W.heap[b1]? = some X1 → (execOp ((aF.put (some t1) (.pointer (some ⟨b1, 0, none⟩))).put (some t2) (.pointer (some ⟨b2, 0, none⟩))).eval s1).run P W = .ok .skip { W with heap := W.heap.setIfInBounds b1 Y1 })
    (hst2 : ∀ (b1 b2 : Nat) (W : World), W.heap[b2]? = some X2 → (execOp ((aF.put (some t1) (.pointer (some ⟨b1, 0, none⟩))).put (some t2) (.pointer (some ⟨b2, 0, none⟩))).eval s2).run P W = .ok .skip { W with heap := W.heap.setIfInBounds b2 Y2 })
    (hK : ∀ (b1 b2 : Nat) (W : World), Below w.heap.size w W → w.heap.size ≤ b1 → w.heap.size ≤ b2 → b1 ≠ b2 → W.heap[b1]? = some Y1 → W.heap[b2]? = some Y2 →
      Q .normal ((aF.put (some t1) (.pointer (some ⟨b1, 0, none⟩))).put (some t2) (.pointer (some ⟨b2, 0, none⟩))) W) : (Code.region id l.toArray true).wp P Q a w := by
  have hl4 : l.length - n = 4 := by omega
  have gt : ∀ w1 w2 : World, Below w.heap.size w w1 → (∃ x : Grow w1, w2 = x.w) → Below w.heap.size w w2 := by
    rintro w1 _ h ⟨x, rfl⟩
    exact h.trans (x.h.mono h.size)
  have gb : ∀ (w1 w2 : World) (b : Nat) (o : Obj), w1.heap[b]? = some o → (∃ x : Grow w1, w2 = x.w) → w2.heap[b]? = some o := by
    rintro w1 _ b o h ⟨x, rfl⟩
    exact block_grow x.h h
  have new : ∀ (W : World) (X : Obj), (W.alloc X).heap[W.heap.size]? = some X := fun W X => by show (W.heap.push X)[W.heap.size]? = _; simp
  have old : ∀ (W : World) (X o : Obj) (b : Nat), W.heap[b]? = some o → (W.alloc X).heap[b]? = some o ∧ b ≠ W.heap.size := by
    intro W X o b h
    have hlt : b < W.heap.size := by
      rcases Nat.lt_or_ge b W.heap.size with h' | h'
      · exact h'
      · rw [Array.getElem?_eq_none h'] at h; cases h
    exact ⟨by rw [Below.heap_alloc _ _ _ hlt]; exact h, by omega⟩
  have setB : ∀ (W : World) (b : Nat) (Y : Obj), Below w.heap.size w W → w.heap.size ≤ b → Below w.heap.size w { W with heap := W.heap.setIfInBounds b Y } := by
    intro W b Y h hb
    refine ⟨h.os, h.tape, h.output, by simpa using h.size, fun k hk => ?_⟩
    show (W.heap.setIfInBounds b Y)[k]? = _
    rw [Array.getElem?_setIfInBounds_ne (by omega)]
    exact h.block k hk
  refine wp_region_mix (aF := aF) n (fun w' => Below w.heap.size w w') (fun w' => Below w.heap.size w w') (fun w w' => ∃ x : Grow w, w' = x.w) hm (by omega) hs hB hd (fun w => growC_refl w) gt (fun _ h => h) (Below.refl _ _).drew hA ?_
  rw [hl4]
  -- what stands behind both allocations
  have tail : ∀ (b1 b2 : Nat) (C : World → Prop), w.heap.size ≤ b1 → w.heap.size ≤ b2 → b1 ≠ b2 → (∀ W, C W → Below w.heap.size w W ∧ W.heap[b1]? = some X1 ∧ W.heap[b2]? = some X2) →
      wpU P .any l.toArray Q (fun w w' => ∃ x : Grow w, w' = x.w) (fun w' => Below w.heap.size w w') 2 (((List.replicate n true ++ List.replicate 4 false).toArray.setIfInBounds n true).setIfInBounds (n + 1) true) ((aF.put (some t1) (.pointer (some ⟨b1, 0, none⟩))).put (some t2) (.pointer (some ⟨b2, 0, none⟩))) C := by
    intro b1 b2 C h1 h2 h12 hC
    refine wpU_one (i := n + 2) hr3 (by simpa using hs1) (by unfold Region.wanted; rw [hg3]) (fun v W => Below w.heap.size w W ∧ W.heap[b1]? = some Y1 ∧ W.heap[b2]? = some X2) ?_ (fun _ _ h => h.1) ?_ ?_
    · rintro _ w1 w2 ⟨c1, c2, c3⟩ ht
      exact ⟨gt _ _ c1 ht, gb _ _ _ _ c2 ht, gb _ _ _ _ c3 ht⟩
    · intro W hW
      obtain ⟨c1, c2, c3⟩ := hC W hW
      rw [hst1 b1 b2 W c2]
      refine ⟨setB W b1 Y1 c1 h1, ?_, ?_⟩
      · have hlt : b1 < W.heap.size := (Array.getElem?_eq_some_iff.1 c2).1
        simp [hlt]
      · show (W.heap.setIfInBounds b1 Y1)[b2]? = _
        rw [Array.getElem?_setIfInBounds_ne h12]
        exact c3
    · intro v W hW
      rw [hd3]
      refine wpU_one (i := n + 3) hr4 (by simpa using hs2) (by unfold Region.wanted; rw [hg4]) (fun v W => Below w.heap.size w W ∧ W.heap[b1]? = some Y1 ∧ W.heap[b2]? = some Y2) ?_ (fun _ _ h => h.1) ?_ ?_
      · rintro _ w1 w2 ⟨c1, c2, c3⟩ ht
        exact ⟨gt _ _ c1 ht, gb _ _ _ _ c2 ht, gb _ _ _ _ c3 ht⟩
      · rintro W ⟨c1, c2, c3⟩
        have := hst2 b1 b2 W c3
        rw [show ((aF.put (some t1) (.pointer (some ⟨b1, 0, none⟩))).put (some t2) (.pointer (some ⟨b2, 0, none⟩))).put none v = ((aF.put (some t1) (.pointer (some ⟨b1, 0, none⟩))).put (some t2) (.pointer (some ⟨b2, 0, none⟩))) from rfl, this]
        refine ⟨setB W b2 Y2 c1 h2, ?_, ?_⟩
        · show (W.heap.setIfInBounds b2 Y2)[b1]? = _
          rw [Array.getElem?_setIfInBounds_ne (Ne.symm h12)]
          exact c2
        · have hlt : b2 < W.heap.size := (Array.getElem?_eq_some_iff.1 c3).1
          simp [hlt]
      · intro v' W' _
        rw [hd4]
        exact wpU_end hr5 (fun W2 ⟨c1, c2, c3⟩ => hK b1 b2 W2 c1 h1 h2 h12 c2 c3)
  refine ⟨(fun h => by rw [hr0] at h; cases h), fun i hi => ?_⟩
  rw [hr0] at hi
  rcases List.mem_cons.1 hi with rfl | hi
  · unfold opU
    simp only [show l.toArray[i]? = some o1 from by simpa using ho1]
    rw [if_pos (by unfold Region.wanted; rw [hg1])]
    refine ⟨fun v W => ∃ b, v = .pointer (some ⟨b, 0, none⟩) ∧ Below w.heap.size w W ∧ w.heap.size ≤ b ∧ W.heap[b]? = some X1, ?_, ?_, ?_, ?_⟩
    · rintro v w1 w2 ⟨b, rfl, c1, c2, c3⟩ ht
      exact ⟨b, rfl, gt _ _ c1 ht, c2, gb _ _ _ _ c3 ht⟩
    · rintro v W ⟨b, rfl, c1, c2, c3⟩
      exact c1
    · intro W hW
      rw [(ha1 undef W).1]
      exact ⟨_, rfl, Below.alloc hW hW.size _, hW.size, new W X1⟩
    · rintro v W ⟨b1, rfl, c1, c2, c3⟩
      rw [hd1]
      refine wpU_one (i := i + 1) hr1 (by simpa using ho2) (by unfold Region.wanted; rw [hg2]) (fun v W => ∃ b2, v = .pointer (some ⟨b2, 0, none⟩) ∧ b1 ≠ b2 ∧ w.heap.size ≤ b2 ∧ Below w.heap.size w W ∧ W.heap[b1]? = some X1 ∧ W.heap[b2]? = some X2) ?_ ?_ ?_ ?_
      · rintro v w1 w2 ⟨b2, rfl, e1, e2, e3, e4, e5⟩ ht
        exact ⟨b2, rfl, e1, e2, gt _ _ e3 ht, gb _ _ _ _ e4 ht, gb _ _ _ _ e5 ht⟩
      · rintro v W ⟨b2, rfl, e1, e2, e3, e4, e5⟩
        exact e3
      · rintro W1 ⟨b, hb, f1, f2, f3⟩
        obtain rfl : b1 = b := by simpa using hb
        rw [(ha2 _ W1).2]
        have := old W1 X2 X1 b1 f3
        exact ⟨_, rfl, this.2, f1.size, Below.alloc f1 f1.size _, this.1, new W1 X2⟩
      · rintro v W1 ⟨b2, rfl, e1, e2, e3, e4, e5⟩
        rw [hd2]
        refine tail b1 b2 _ c2 e2 e1 ?_
        rintro W2 ⟨b, hb, f1, f2, f3, f4, f5⟩
        obtain rfl : b2 = b := by simpa using hb
        exact ⟨f3, f4, f5⟩
  · obtain rfl : i = n + 1 := by simpa using hi
    unfold opU
    simp only [show l.toArray[n + 1]? = some o2 from by simpa using ho2]
    rw [if_pos (by unfold Region.wanted; rw [hg2])]
    refine ⟨fun v W => ∃ b, v = .pointer (some ⟨b, 0, none⟩) ∧ Below w.heap.size w W ∧ w.heap.size ≤ b ∧ W.heap[b]? = some X2, ?_, ?_, ?_, ?_⟩
    · rintro v w1 w2 ⟨b, rfl, c1, c2, c3⟩ ht
      exact ⟨b, rfl, gt _ _ c1 ht, c2, gb _ _ _ _ c3 ht⟩
    · rintro v W ⟨b, rfl, c1, c2, c3⟩
      exact c1
    · intro W hW
      rw [(ha2 undef W).1]
      exact ⟨_, rfl, Below.alloc hW hW.size _, hW.size, new W X2⟩
    · rintro v W ⟨b2, rfl, c1, c2, c3⟩
      rw [hd2]
      refine wpU_one (i := n) hr2 (by simpa using ho1) (by unfold Region.wanted; rw [hg1]) (fun v W => ∃ b1, v = .pointer (some ⟨b1, 0, none⟩) ∧ b1 ≠ b2 ∧ w.heap.size ≤ b1 ∧ Below w.heap.size w W ∧ W.heap[b1]? = some X1 ∧ W.heap[b2]? = some X2) ?_ ?_ ?_ ?_
      · rintro v w1 w2 ⟨b1, rfl, e1, e2, e3, e4, e5⟩ ht
        exact ⟨b1, rfl, e1, e2, gt _ _ e3 ht, gb _ _ _ _ e4 ht, gb _ _ _ _ e5 ht⟩
      · rintro v W ⟨b1, rfl, e1, e2, e3, e4, e5⟩
        exact e3
      · rintro W1 ⟨b, hb, f1, f2, f3⟩
        obtain rfl : b2 = b := by simpa using hb
        rw [(ha1 _ W1).2]
        have := old W1 X1 X2 b2 f3
        exact ⟨_, rfl, Ne.symm this.2, f1.size, Below.alloc f1 f1.size _, new W1 X1, this.1⟩
      · rintro v W1 ⟨b1, rfl, e1, e2, e3, e4, e5⟩
        rw [hd1, Act.put_comm aF _ _ (fun d hd => by
          intro h
          have h1 : t2 = d := by simpa using hd
          have h2 : t1 = d := by simpa using h
          exact hne (h2.trans h1.symm)), Array.setIfInBounds_comm _ _ (by omega)]
        refine tail b1 b2 _ e2 c2 e1 ?_
        rintro W2 ⟨b, hb, f1, f2, f3, f4, f5⟩
        obtain rfl : b1 = b := by simpa using hb
        exact ⟨f3, f4, f5⟩
end
end Go.Mix
