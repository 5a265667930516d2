/- A region that draws its order: a prefix of one-value operations, then three variables are made and stored into. -/
import Derived.Test.YtfgglegimajghaaGrow
namespace Go.Mix
open Go.RowKit
section
variable {P : Program} {ops : Array Oper} {Q : Exit → Act → World → Prop} {T : World → World → Prop} {D : World → Prop}

theorem opU_sub {i : Nat} {a : Act} {C C' : World → Prop} {K K' : Act → (World → Prop) → Prop} (hC : ∀ w, C' w → C w) (h : ∀ a' , K a' C → K' a' C') (h2 : ∀ a' (R : World → Prop), K a' R → K' a' R)
    (hh : opU P ops T D i K a C) : opU P ops T D i K' a C' := by
  unfold opU at *
  split
  · rename_i ho; simp only [ho] at hh; exact h _ hh
  · rename_i o ho
    simp only [ho] at hh
    split
    · rename_i hw
      simp only [hw, if_true] at hh
      obtain ⟨R, r1, r2, r3, r4⟩ := hh
      exact ⟨R, r1, r2, fun w hw => r3 w (hC w hw), fun v w hv => h2 _ _ (r4 v w hv)⟩
    · rename_i hw; simp only [hw] at hh; exact h _ hh
theorem wpU_sub {md : Region.Mode} : ∀ (fuel : Nat) (listed : Array Bool) (a : Act) (C C' : World → Prop), (∀ w, C' w → C w) → wpU P md ops Q T D fuel listed a C → wpU P md ops Q T D fuel listed a C'
  | 0, _, _, _, _, hC, h => ⟨h.1, fun w hw => h.2 w (hC w hw)⟩
  | fuel + 1, _, _, _, _, hC, h => ⟨fun h0 w hw => h.1 h0 w (hC w hw), fun i hi => opU_sub hC (fun a' hk => wpU_sub fuel _ a' _ _ hC hk) (fun _ _ hk => hk) (h.2 i hi)⟩
/-- The worlds that have grown out of w and hold these blocks. -/
def Holds (w : World) (L : List (Nat × Obj)) (W : World) : Prop := Below w.heap.size w W ∧ ∀ p ∈ L, w.heap.size ≤ p.1 ∧ W.heap[p.1]? = some p.2
theorem Holds.grow {w w1 w2 : World} {L : List (Nat × Obj)} (h : Holds w L w1) (ht : ∃ x : Grow w1, w2 = x.w) : Holds w L w2 := by
  obtain ⟨x, rfl⟩ := ht
  exact ⟨h.1.trans (x.h.mono h.1.size), fun p hp => ⟨(h.2 p hp).1, block_grow x.h (h.2 p hp).2⟩⟩
theorem Holds.alloc {w W : World} {L : List (Nat × Obj)} (h : Holds w L W) (X : Obj) : w.heap.size ≤ W.heap.size ∧ (∀ p ∈ L, p.1 ≠ W.heap.size) ∧ Holds w ((W.heap.size, X) :: L) (W.alloc X) := by
  refine ⟨h.1.size, fun p hp => ?_, Below.alloc h.1 h.1.size _, fun p hp => ?_⟩
  · have h2 := (h.2 p hp).2
    intro he
    rw [he, Array.getElem?_eq_none (Nat.le_refl _)] at h2
    cases h2
  · rcases List.mem_cons.1 hp with rfl | hp
    · exact ⟨h.1.size, by show (W.heap.push X)[W.heap.size]? = _; simp⟩
    · have h2 := (h.2 p hp)
      have hlt : p.1 < W.heap.size := by
        rcases Nat.lt_or_ge p.1 W.heap.size with h' | h'
        · exact h'
        · have := h2.2; rw [Array.getElem?_eq_none h'] at this; cases this
      exact ⟨h2.1, by rw [Below.heap_alloc _ _ _ hlt]; exact h2.2⟩
theorem Holds.set {w W : World} {L : List (Nat × Obj)} (h : Holds w L W) (b : Nat) (X Y : Obj) (hb : (b, X) ∈ L) (L' : List (Nat × Obj)) (hL : ∀ p ∈ L', p = (b, Y) ∨ (p ∈ L ∧ p.1 ≠ b)) :
    Holds w L' { W with heap := W.heap.setIfInBounds b Y } := by
  have h0 := h.2 _ hb
  have hlt : b < W.heap.size := (Array.getElem?_eq_some_iff.1 h0.2).1
  refine ⟨⟨h.1.os, h.1.tape, h.1.output, by simpa using h.1.size, fun k hk => ?_⟩, fun p hp => ?_⟩
  · show (W.heap.setIfInBounds b Y)[k]? = _
    have h1 : w.heap.size ≤ b := h0.1
    rw [Array.getElem?_setIfInBounds_ne (by omega)]
    exact h.1.block k hk
  · rcases hL p hp with rfl | ⟨hp, hne⟩
    · exact ⟨h0.1, by simp [hlt]⟩
    · refine ⟨(h.2 p hp).1, ?_⟩
      show (W.heap.setIfInBounds b Y)[p.1]? = _
      rw [Array.getElem?_setIfInBounds_ne (Ne.symm hne)]
      exact (h.2 p hp).2
/-- An allocation comes up. -/
theorem alloc_opU {w : World} {i : Nat} {o : Oper} {t : Tmp} {X : Obj} {L : List (Nat × Obj)} {a : Act} {K : Act → (World → Prop) → Prop} (hi : ops[i]? = some o) (hg : o.guard = none) (hd : o.dst = some t)
    (hT : ∀ w1 w2, T w1 w2 → ∃ x : Grow w1, w2 = x.w) (hD : ∀ W, Below w.heap.size w W → D W)
    (hr : ∀ W, (execOp a.eval o).run P W = .ok (.value (.pointer (some ⟨W.heap.size, 0, none⟩))) (W.alloc X))
    (hK : ∀ b, w.heap.size ≤ b → (∀ p ∈ L, p.1 ≠ b) → ∀ C, (∀ W, C W → Holds w ((b, X) :: L) W) → K (a.put (some t) (.pointer (some ⟨b, 0, none⟩))) C) : opU P ops T D i K a (Holds w L) := by
  unfold opU
  simp only [hi]
  rw [if_pos (by unfold Region.wanted; rw [hg])]
  refine ⟨fun v W => ∃ b, v = .pointer (some ⟨b, 0, none⟩) ∧ w.heap.size ≤ b ∧ (∀ p ∈ L, p.1 ≠ b) ∧ Holds w ((b, X) :: L) W, ?_, ?_, ?_, ?_⟩
  · rintro v w1 w2 ⟨b, rfl, h1, h2, h3⟩ ht
    exact ⟨b, rfl, h1, h2, h3.grow (hT _ _ ht)⟩
  · rintro v W ⟨b, rfl, h1, h2, h3⟩
    exact hD _ h3.1
  · intro W hW
    rw [hr W]
    obtain ⟨h1, h2, h3⟩ := hW.alloc X
    exact ⟨_, rfl, h1, h2, h3⟩
  · rintro v W ⟨b, rfl, h1, h2, h3⟩
    rw [hd]
    refine hK b h1 h2 _ ?_
    rintro W' ⟨b', hb, -, -, h4⟩
    obtain rfl : b = b' := by simpa using hb
    exact h4
/-- A store comes up, alone. -/
theorem store_wpU {md : Region.Mode} {w : World} {i fuel : Nat} {o : Oper} {b : Nat} {X Y : Obj} {L L' : List (Nat × Obj)} {a : Act} {listed : Array Bool} (hrd : Region.ready md ops listed = [i]) (hi : ops[i]? = some o) (hg : o.guard = none) (hd : o.dst = none)
    (hT : ∀ w1 w2, T w1 w2 → ∃ x : Grow w1, w2 = x.w) (hD : ∀ W, Below w.heap.size w W → D W)
    (hr : ∀ W, W.heap[b]? = some X → (execOp a.eval o).run P W = .ok .skip { W with heap := W.heap.setIfInBounds b Y })
    (hb : (b, X) ∈ L) (hL : ∀ p ∈ L', p = (b, Y) ∨ (p ∈ L ∧ p.1 ≠ b))
    (hK : wpU P md ops Q T D fuel (listed.setIfInBounds i true) a (Holds w L')) : wpU P md ops Q T D (fuel + 1) listed a (Holds w L) := by
  refine ⟨(fun h => by rw [hrd] at h; cases h), fun j hj => ?_⟩
  rw [hrd] at hj
  obtain rfl : j = i := by simpa using hj
  unfold opU
  simp only [hi]
  rw [if_pos (by unfold Region.wanted; rw [hg])]
  refine ⟨fun v W => Holds w L' W, fun v w1 w2 h1 ht => h1.grow (hT _ _ ht), fun v W h => hD _ h.1, fun W hW => ?_, fun v W hW => ?_⟩
  · rw [hr W (hW.2 _ hb).2]
    exact hW.set b X Y hb L' hL
  · rw [hd]
    exact hK
theorem put_swap (a : Act) {s t : Tmp} (u v : Value) (h : s ≠ t) : (a.put (some s) u).put (some t) v = (a.put (some t) v).put (some s) u :=
  Act.put_comm a _ _ (fun d hd hh => h ((show s = d by simpa using hh).trans (show t = d by simpa using hd).symm)) |>.symm
set_option maxHeartbeats 4000000 in
/-- Three variables are made and stored into. -/
theorem wp_region_grow_three {id : Nat} {a : Act} {w : World} {l : List Oper} {Q : Exit → Act → World → Prop} (n : Nat) (t1 t2 t3 : Tmp) (o1 o2 o3 s1 s2 s3 : Oper) (X1 X2 X3 Y1 Y2 Y3 : Obj) {aF : Act} (hm : P.follows .mixedOrders = true)
    (hlen : l.length = n + 6) (hs : Region.noSelect l.toArray = true) (hB : lexTo .any l.toArray n 0 (Array.replicate l.length false) = some (List.replicate n true ++ List.replicate (l.length - n) false).toArray)
    (hd : dstsB a.tmps.size (l.take n) [] = true) (ho1 : l[n]? = some o1) (ho2 : l[n + 1]? = some o2) (ho3 : l[n + 2]? = some o3) (hs1 : l[n + 3]? = some s1) (hs2 : l[n + 4]? = some s2) (hs3 : l[n + 5]? = some s3)
    (hg : (o1.guard = none ∧ o2.guard = none ∧ o3.guard = none ∧ s1.guard = none ∧ s2.guard = none ∧ s3.guard = none) ∧ (o1.dst = some t1 ∧ o2.dst = some t2 ∧ o3.dst = some t3 ∧ s1.dst = none ∧ s2.dst = none ∧ s3.dst = none)) (hne : t1 ≠ t2 ∧ t1 ≠ t3 ∧ t2 ≠ t3)
    (hr_ : Region.ready .any l.toArray ((List.replicate n true ++ List.replicate 6 false).toArray) = [n, n + 1, n + 2])
    (hr0_ : Region.ready .any l.toArray (((List.replicate n true ++ List.replicate 6 false).toArray).setIfInBounds n true) = [n + 1, n + 2])
    (hr1_ : Region.ready .any l.toArray (((List.replicate n true ++ List.replicate 6 false).toArray).setIfInBounds (n + 1) true) = [n, n + 2])
    (hr2_ : Region.ready .any l.toArray (((List.replicate n true ++ List.replicate 6 false).toArray).setIfInBounds (n + 2) true) = [n, n + 1])
    (hr01_ : Region.ready .any l.toArray ((((List.replicate n true ++ List.replicate 6 false).toArray).setIfInBounds n true).setIfInBounds (n + 1) true) = [n + 2])
    (hr02_ : Region.ready .any l.toArray ((((List.replicate n true ++ List.replicate 6 false).toArray).setIfInBounds n true).setIfInBounds (n + 2) true) = [n + 1])
    (hr10_ : Region.ready .any l.toArray ((((List.replicate n true ++ List.replicate 6 false).toArray).setIfInBounds (n + 1) true).setIfInBounds n true) = [n + 2])
    (hr12_ : Region.ready .any l.toArray ((((List.replicate n true ++ List.replicate 6 false).toArray).setIfInBounds (n + 1) true).setIfInBounds (n + 2) true) = [n])
    (hr20_ : Region.ready .any l.toArray ((((List.replicate n true ++ List.replicate 6 false).toArray).setIfInBounds (n + 2) true).setIfInBounds n true) = [n + 1])
    (hr21_ : Region.ready .any l.toArray ((((List.replicate n true ++ List.replicate 6 false).toArray).setIfInBounds (n + 2) true).setIfInBounds (n + 1) true) = [n])
    (hr3_ : Region.ready .any l.toArray (((((List.replicate n true ++ List.replicate 6 false).toArray).setIfInBounds n true).setIfInBounds (n + 1) true).setIfInBounds (n + 2) true) = [n + 3])
    (hr4_ : Region.ready .any l.toArray ((((((List.replicate n true ++ List.replicate 6 false).toArray).setIfInBounds n true).setIfInBounds (n + 1) true).setIfInBounds (n + 2) true).setIfInBounds (n + 3) true) = [n + 4])
    (hr5_ : Region.ready .any l.toArray (((((((List.replicate n true ++ List.replicate 6 false).toArray).setIfInBounds n true).setIfInBounds (n + 1) true).setIfInBounds (n + 2) true).setIfInBounds (n + 3) true).setIfInBounds (n + 4) true) = [n + 5])
    (hr6_ : Region.ready .any l.toArray ((((((((List.replicate n true ++ List.replicate 6 false).toArray).setIfInBounds n true).setIfInBounds (n + 1) true).setIfInBounds (n + 2) true).setIfInBounds (n + 3) true).setIfInBounds (n + 4) true).setIfInBounds (n + 5) true) = [])
    (hA : ∀ ρ, Below w.heap.size w ρ → wpQuiet P l.toArray (fun w' => ∃ x : Grow ρ, w' = x.w) (fun a' => a' = aF) (l.take n) a)
    (ha1 : ∀ (u v : Value) (W : World), (execOp (aF).eval o1).run P W = .ok (.value (.pointer (some ⟨W.heap.size, 0, none⟩))) (W.alloc X1) ∧ (execOp (aF.put (some t2) u).eval o1).run P W = .ok (.value (.pointer (some ⟨W.heap.size, 0, none⟩))) (W.alloc X1) ∧ (execOp (aF.put (some t3) u).eval o1).run P W = .ok (.value (.pointer (some ⟨W.heap.size, 0, none⟩))) (W.alloc X1) ∧ (execOp ((aF.put (some t2) u).put (some t3) v).eval o1).run P W = .ok (.value (.pointer (some ⟨W.heap.size, 0, none⟩))) (W.alloc X1) ∧ (execOp ((aF.put (some t3) u).put (some t2) v).eval o1).run P W = .ok (.value (.pointer (some ⟨W.heap.size, 0, none⟩))) (W.alloc X1))
    (ha2 : ∀ (u v : Value) (W : World), (execOp (aF).eval o2).run P W = .ok (.value (.pointer (some ⟨W.heap.size, 0, none⟩))) (W.alloc X2) ∧ (execOp (aF.put (some t1) u).eval o2).run P W = .ok (.value (.pointer (some ⟨W.heap.size, 0, none⟩))) (W.alloc X2) ∧ (execOp (aF.put (some t3) u).eval o2).run P W = .ok (.value (.pointer (some ⟨W.heap.size, 0, none⟩))) (W.alloc X2) ∧ (execOp ((aF.put (some t1) u).put (some t3) v).eval o2).run P W = .ok (.value (.pointer (some ⟨W.heap.size, 0, none⟩))) (W.alloc X2) ∧ (execOp ((aF.put (some t3) u).put (some t1) v).eval o2).run P W = .ok (.value (.pointer (some ⟨W.heap.size, 0, none⟩))) (W.alloc X2))
    (ha3 : ∀ (u v : Value) (W : World), (execOp (aF).eval o3).run P W = .ok (.value (.pointer (some ⟨W.heap.size, 0, none⟩))) (W.alloc X3) ∧ (execOp (aF.put (some t1) u).eval o3).run P W = .ok (.value (.pointer (some ⟨W.heap.size, 0, none⟩))) (W.alloc X3) ∧ (execOp (aF.put (some t2) u).eval o3).run P W = .ok (.value (.pointer (some ⟨W.heap.size, 0, none⟩))) (W.alloc X3) ∧ (execOp ((aF.put (some t1) u).put (some t2) v).eval o3).run P W = .ok (.value (.pointer (some ⟨W.heap.size, 0, none⟩))) (W.alloc X3) ∧ (execOp ((aF.put (some t2) u).put (some t1) v).eval o3).run P W = .ok (.value (.pointer (some ⟨W.heap.size, 0, none⟩))) (W.alloc X3))
    (hst1 : ∀ (b1 b2 b3 : Nat) (W : World), W.heap[b1]? = some X1 → (execOp ((((aF).put (some t1) (.pointer (some ⟨b1, 0, none⟩))).put (some t2) (.pointer (some ⟨b2, 0, none⟩))).put (some t3) (.pointer (some ⟨b3, 0, none⟩))).eval s1).run P W = .ok .skip { W with heap := W.heap.setIfInBounds b1 Y1 })
    (hst2 : ∀ (b1 b2 b3 : Nat) (W : World), W.heap[b2]? = some X2 → (execOp ((((aF).put (some t1) (.pointer (some ⟨b1, 0, none⟩))).put (some t2) (.pointer (some ⟨b2, 0, none⟩))).put (some t3) (.pointer (some ⟨b3, 0, none⟩))).eval s2).run P W = .ok .skip { W with heap := W.heap.setIfInBounds b2 Y2 })
    (hst3 : ∀ (b1 b2 b3 : Nat) (W : World), W.heap[b3]? = some X3 → (execOp ((((aF).put (some t1) (.pointer (some ⟨b1, 0, none⟩))).put (some t2) (.pointer (some ⟨b2, 0, none⟩))).put (some t3) (.pointer (some ⟨b3, 0, none⟩))).eval s3).run P W = .ok .skip { W with heap := W.heap.setIfInBounds b3 Y3 })
    (hK : ∀ (b1 b2 b3 : Nat) (W : World), Below w.heap.size w W → w.heap.size ≤ b1 → w.heap.size ≤ b2 → w.heap.size ≤ b3 → W.heap[b1]? = some Y1 → W.heap[b2]? = some Y2 → W.heap[b3]? = some Y3 → Q .normal ((((aF).put (some t1) (.pointer (some ⟨b1, 0, none⟩))).put (some t2) (.pointer (some ⟨b2, 0, none⟩))).put (some t3) (.pointer (some ⟨b3, 0, none⟩))) W) : (Code.region id l.toArray true).wp P Q a w := by
  obtain ⟨⟨g1, g2, g3, g4, g5, g6⟩, d1, d2, d3, d4, d5, d6⟩ := hg
  obtain ⟨n12, n13, n23⟩ := hne
  have hl6 : l.length - n = 6 := by omega
  have gt : ∀ w1 w2 : World, Below w.heap.size w w1 → (∃ x : Grow w1, w2 = x.w) → Below w.heap.size w w2 := by
    rintro w1 _ h ⟨x, rfl⟩
    exact h.trans (x.h.mono h.size)
  refine wp_region_mix (aF := aF) n (fun w' => Below w.heap.size w w') (fun w' => Below w.heap.size w w') (fun w w' => ∃ x : Grow w, w' = x.w) hm (by omega) hs hB hd (fun w => growC_refl w) gt (fun _ h => h) (Below.refl _ _).drew hA ?_
  rw [hl6]
  have sw : ∀ (A : Array Bool) (x y : Nat), x ≠ y → (A.setIfInBounds x true).setIfInBounds y true = (A.setIfInBounds y true).setIfInBounds x true := fun A x y h => Array.setIfInBounds_comm _ _ h
  have hTT : ∀ w1 w2 : World, (∃ x : Grow w1, w2 = x.w) → ∃ x : Grow w1, w2 = x.w := fun _ _ h => h
  have hDD : ∀ W, Below w.heap.size w W → Below w.heap.size w W := fun _ h => h
  have tail : ∀ (b1 b2 b3 : Nat) (C : World → Prop), b1 ≠ b2 → b1 ≠ b3 → b2 ≠ b3 → (∀ W, C W → Holds w [(b1, X1), (b2, X2), (b3, X3)] W) →
      wpU P .any l.toArray Q (fun w w' => ∃ x : Grow w, w' = x.w) (fun w' => Below w.heap.size w w') 3 (((((List.replicate n true ++ List.replicate 6 false).toArray).setIfInBounds n true).setIfInBounds (n + 1) true).setIfInBounds (n + 2) true) ((((aF).put (some t1) (.pointer (some ⟨b1, 0, none⟩))).put (some t2) (.pointer (some ⟨b2, 0, none⟩))).put (some t3) (.pointer (some ⟨b3, 0, none⟩))) C := by
    intro b1 b2 b3 C h12 h13 h23 hC
    refine wpU_sub _ _ _ _ _ hC ?_
    refine store_wpU hr3_ (by simpa using hs1) g4 d4 hTT hDD (hst1 b1 b2 b3) (List.mem_cons_self ..) (L' := [(b1, Y1), (b2, X2), (b3, X3)]) ?_ ?_
    · intro p hp
      simp only [List.mem_cons, List.not_mem_nil, or_false] at hp ⊢
      rcases hp with rfl | rfl | rfl
      · exact .inl rfl
      · exact .inr ⟨.inr (.inl rfl), Ne.symm h12⟩
      · exact .inr ⟨.inr (.inr rfl), Ne.symm h13⟩
    refine store_wpU hr4_ (by simpa using hs2) g5 d5 hTT hDD (hst2 b1 b2 b3) (by simp) (L' := [(b1, Y1), (b2, Y2), (b3, X3)]) ?_ ?_
    · intro p hp
      simp only [List.mem_cons, List.not_mem_nil, or_false] at hp ⊢
      rcases hp with rfl | rfl | rfl
      · exact .inr ⟨.inl rfl, h12⟩
      · exact .inl rfl
      · exact .inr ⟨.inr (.inr rfl), Ne.symm h23⟩
    refine store_wpU hr5_ (by simpa using hs3) g6 d6 hTT hDD (hst3 b1 b2 b3) (by simp) (L' := [(b1, Y1), (b2, Y2), (b3, Y3)]) ?_ ?_
    · intro p hp
      simp only [List.mem_cons, List.not_mem_nil, or_false] at hp ⊢
      rcases hp with rfl | rfl | rfl
      · exact .inr ⟨.inl rfl, h13⟩
      · exact .inr ⟨.inr (.inl rfl), h23⟩
      · exact .inl rfl
    exact ⟨hr6_, fun W h => hK b1 b2 b3 W h.1 (h.2 (b1, Y1) (by simp)).1 (h.2 (b2, Y2) (by simp)).1 (h.2 (b3, Y3) (by simp)).1 (h.2 (b1, Y1) (by simp)).2 (h.2 (b2, Y2) (by simp)).2 (h.2 (b3, Y3) (by simp)).2⟩
  refine wpU_sub 6 _ _ (Holds w []) _ (fun W h => ⟨h, fun p hp => by cases hp⟩) ?_
  refine ⟨(fun h => by rw [hr_] at h; cases h), fun i hi => ?_⟩
  rw [hr_] at hi
  simp only [List.mem_cons, List.not_mem_nil, or_false] at hi
  rcases hi with hi | hi | hi
  · rw [hi]; clear hi
    refine alloc_opU (X := X1) (by simpa using ho1) g1 d1 hTT hDD (fun W => (ha1 undef undef W).1) ?_
    intro b1 h1 e1 C1 c1
    refine ⟨(fun h => by rw [hr0_] at h; cases h), fun i hi => ?_⟩
    rw [hr0_] at hi
    simp only [List.mem_cons, List.not_mem_nil, or_false] at hi
    rcases hi with hi | hi
    · rw [hi]; clear hi; refine opU_sub (C := Holds w [(b1, X1)]) (K := fun a' C' => wpU P .any l.toArray Q (fun w w' => ∃ x : Grow w, w' = x.w) (fun w' => Below w.heap.size w w') 4 ((((List.replicate n true ++ List.replicate 6 false).toArray).setIfInBounds n true).setIfInBounds (n + 1) true) a' C') c1 (fun a' hk => wpU_sub _ _ _ _ _ c1 hk) (fun _ _ hk => hk) ?_
      refine alloc_opU (X := X2) (by simpa using ho2) g2 d2 hTT hDD (fun W => (ha2 (.pointer (some ⟨b1, 0, none⟩)) undef W).2.1) ?_
      intro b2 h2 e2 C2 c2
      refine ⟨(fun h => by rw [hr01_] at h; cases h), fun i hi => ?_⟩
      rw [hr01_] at hi
      simp only [List.mem_cons, List.not_mem_nil, or_false] at hi
      rw [hi]; clear hi
      refine opU_sub (C := Holds w [(b2, X2), (b1, X1)]) (K := fun a' C' => wpU P .any l.toArray Q (fun w w' => ∃ x : Grow w, w' = x.w) (fun w' => Below w.heap.size w w') 3 (((((List.replicate n true ++ List.replicate 6 false).toArray).setIfInBounds n true).setIfInBounds (n + 1) true).setIfInBounds (n + 2) true) a' C') c2 (fun a' hk => wpU_sub _ _ _ _ _ c2 hk) (fun _ _ hk => hk) ?_
      refine alloc_opU (X := X3) (by simpa using ho3) g3 d3 hTT hDD (fun W => (ha3 (.pointer (some ⟨b1, 0, none⟩)) (.pointer (some ⟨b2, 0, none⟩)) W).2.2.2.1) ?_
      intro b3 h3 e3 C3 c3
      simp only [List.mem_cons, List.not_mem_nil, or_false, forall_eq_or_imp, forall_eq] at e2 e3
      refine tail b1 b2 b3 _ e2 e3.2 e3.1 ?_
      intro W h
      have h := c3 W h
      exact ⟨h.1, fun p hp => h.2 p (by simp only [List.mem_cons, List.not_mem_nil, or_false] at hp ⊢; rcases hp with hp | hp | hp <;> simp [hp])⟩
    · rw [hi]; clear hi; refine opU_sub (C := Holds w [(b1, X1)]) (K := fun a' C' => wpU P .any l.toArray Q (fun w w' => ∃ x : Grow w, w' = x.w) (fun w' => Below w.heap.size w w') 4 ((((List.replicate n true ++ List.replicate 6 false).toArray).setIfInBounds n true).setIfInBounds (n + 2) true) a' C') c1 (fun a' hk => wpU_sub _ _ _ _ _ c1 hk) (fun _ _ hk => hk) ?_
      refine alloc_opU (X := X3) (by simpa using ho3) g3 d3 hTT hDD (fun W => (ha3 (.pointer (some ⟨b1, 0, none⟩)) undef W).2.1) ?_
      intro b3 h3 e3 C3 c3
      refine ⟨(fun h => by rw [hr02_] at h; cases h), fun i hi => ?_⟩
      rw [hr02_] at hi
      simp only [List.mem_cons, List.not_mem_nil, or_false] at hi
      rw [hi]; clear hi
      refine opU_sub (C := Holds w [(b3, X3), (b1, X1)]) (K := fun a' C' => wpU P .any l.toArray Q (fun w w' => ∃ x : Grow w, w' = x.w) (fun w' => Below w.heap.size w w') 3 (((((List.replicate n true ++ List.replicate 6 false).toArray).setIfInBounds n true).setIfInBounds (n + 2) true).setIfInBounds (n + 1) true) a' C') c3 (fun a' hk => wpU_sub _ _ _ _ _ c3 hk) (fun _ _ hk => hk) ?_
      refine alloc_opU (X := X2) (by simpa using ho2) g2 d2 hTT hDD (fun W => (ha2 (.pointer (some ⟨b1, 0, none⟩)) (.pointer (some ⟨b3, 0, none⟩)) W).2.2.2.1) ?_
      intro b2 h2 e2 C2 c2
      rw [sw _ (n + 2) (n + 1) (by omega)]
      rw [put_swap _ _ _ (Ne.symm n23)]
      simp only [List.mem_cons, List.not_mem_nil, or_false, forall_eq_or_imp, forall_eq] at e3 e2
      refine tail b1 b2 b3 _ e2.2 e3 (Ne.symm e2.1) ?_
      intro W h
      have h := c2 W h
      exact ⟨h.1, fun p hp => h.2 p (by simp only [List.mem_cons, List.not_mem_nil, or_false] at hp ⊢; rcases hp with hp | hp | hp <;> simp [hp])⟩
  · rw [hi]; clear hi
    refine alloc_opU (X := X2) (by simpa using ho2) g2 d2 hTT hDD (fun W => (ha2 undef undef W).1) ?_
    intro b2 h2 e2 C2 c2
    refine ⟨(fun h => by rw [hr1_] at h; cases h), fun i hi => ?_⟩
    rw [hr1_] at hi
    simp only [List.mem_cons, List.not_mem_nil, or_false] at hi
    rcases hi with hi | hi
    · rw [hi]; clear hi; refine opU_sub (C := Holds w [(b2, X2)]) (K := fun a' C' => wpU P .any l.toArray Q (fun w w' => ∃ x : Grow w, w' = x.w) (fun w' => Below w.heap.size w w') 4 ((((List.replicate n true ++ List.replicate 6 false).toArray).setIfInBounds (n + 1) true).setIfInBounds n true) a' C') c2 (fun a' hk => wpU_sub _ _ _ _ _ c2 hk) (fun _ _ hk => hk) ?_
      refine alloc_opU (X := X1) (by simpa using ho1) g1 d1 hTT hDD (fun W => (ha1 (.pointer (some ⟨b2, 0, none⟩)) undef W).2.1) ?_
      intro b1 h1 e1 C1 c1
      refine ⟨(fun h => by rw [hr10_] at h; cases h), fun i hi => ?_⟩
      rw [hr10_] at hi
      simp only [List.mem_cons, List.not_mem_nil, or_false] at hi
      rw [hi]; clear hi
      refine opU_sub (C := Holds w [(b1, X1), (b2, X2)]) (K := fun a' C' => wpU P .any l.toArray Q (fun w w' => ∃ x : Grow w, w' = x.w) (fun w' => Below w.heap.size w w') 3 (((((List.replicate n true ++ List.replicate 6 false).toArray).setIfInBounds (n + 1) true).setIfInBounds n true).setIfInBounds (n + 2) true) a' C') c1 (fun a' hk => wpU_sub _ _ _ _ _ c1 hk) (fun _ _ hk => hk) ?_
      refine alloc_opU (X := X3) (by simpa using ho3) g3 d3 hTT hDD (fun W => (ha3 (.pointer (some ⟨b2, 0, none⟩)) (.pointer (some ⟨b1, 0, none⟩)) W).2.2.2.2) ?_
      intro b3 h3 e3 C3 c3
      rw [sw (List.replicate n true ++ List.replicate 6 false).toArray (n + 1) n (by omega)]
      rw [put_swap aF _ _ (Ne.symm n12)]
      simp only [List.mem_cons, List.not_mem_nil, or_false, forall_eq_or_imp, forall_eq] at e1 e3
      refine tail b1 b2 b3 _ (Ne.symm e1) e3.1 e3.2 ?_
      intro W h
      have h := c3 W h
      exact ⟨h.1, fun p hp => h.2 p (by simp only [List.mem_cons, List.not_mem_nil, or_false] at hp ⊢; rcases hp with hp | hp | hp <;> simp [hp])⟩
    · rw [hi]; clear hi; refine opU_sub (C := Holds w [(b2, X2)]) (K := fun a' C' => wpU P .any l.toArray Q (fun w w' => ∃ x : Grow w, w' = x.w) (fun w' => Below w.heap.size w w') 4 ((((List.replicate n true ++ List.replicate 6 false).toArray).setIfInBounds (n + 1) true).setIfInBounds (n + 2) true) a' C') c2 (fun a' hk => wpU_sub _ _ _ _ _ c2 hk) (fun _ _ hk => hk) ?_
      refine alloc_opU (X := X3) (by simpa using ho3) g3 d3 hTT hDD (fun W => (ha3 (.pointer (some ⟨b2, 0, none⟩)) undef W).2.2.1) ?_
      intro b3 h3 e3 C3 c3
      refine ⟨(fun h => by rw [hr12_] at h; cases h), fun i hi => ?_⟩
      rw [hr12_] at hi
      simp only [List.mem_cons, List.not_mem_nil, or_false] at hi
      rw [hi]; clear hi
      refine opU_sub (C := Holds w [(b3, X3), (b2, X2)]) (K := fun a' C' => wpU P .any l.toArray Q (fun w w' => ∃ x : Grow w, w' = x.w) (fun w' => Below w.heap.size w w') 3 (((((List.replicate n true ++ List.replicate 6 false).toArray).setIfInBounds (n + 1) true).setIfInBounds (n + 2) true).setIfInBounds n true) a' C') c3 (fun a' hk => wpU_sub _ _ _ _ _ c3 hk) (fun _ _ hk => hk) ?_
      refine alloc_opU (X := X1) (by simpa using ho1) g1 d1 hTT hDD (fun W => (ha1 (.pointer (some ⟨b2, 0, none⟩)) (.pointer (some ⟨b3, 0, none⟩)) W).2.2.2.1) ?_
      intro b1 h1 e1 C1 c1
      rw [sw _ (n + 2) n (by omega), sw (List.replicate n true ++ List.replicate 6 false).toArray (n + 1) n (by omega)]
      rw [put_swap _ (s := t3) (t := t1) _ _ (Ne.symm n13), put_swap aF _ _ (Ne.symm n12)]
      simp only [List.mem_cons, List.not_mem_nil, or_false, forall_eq_or_imp, forall_eq] at e3 e1
      refine tail b1 b2 b3 _ (Ne.symm e1.2) (Ne.symm e1.1) e3 ?_
      intro W h
      have h := c1 W h
      exact ⟨h.1, fun p hp => h.2 p (by simp only [List.mem_cons, List.not_mem_nil, or_false] at hp ⊢; rcases hp with hp | hp | hp <;> simp [hp])⟩
  · rw [hi]; clear hi
    refine alloc_opU (X := X3) (by simpa using ho3) g3 d3 hTT hDD (fun W => (ha3 undef undef W).1) ?_
    intro b3 h3 e3 C3 c3
    refine ⟨(fun h => by rw [hr2_] at h; cases h), fun i hi => ?_⟩
    rw [hr2_] at hi
    simp only [List.mem_cons, List.not_mem_nil, or_false] at hi
    rcases hi with hi | hi
    · rw [hi]; clear hi; refine opU_sub (C := Holds w [(b3, X3)]) (K := fun a' C' => wpU P .any l.toArray Q (fun w w' => ∃ x : Grow w, w' = x.w) (fun w' => Below w.heap.size w w') 4 ((((List.replicate n true ++ List.replicate 6 false).toArray).setIfInBounds (n + 2) true).setIfInBounds n true) a' C') c3 (fun a' hk => wpU_sub _ _ _ _ _ c3 hk) (fun _ _ hk => hk) ?_
      refine alloc_opU (X := X1) (by simpa using ho1) g1 d1 hTT hDD (fun W => (ha1 (.pointer (some ⟨b3, 0, none⟩)) undef W).2.2.1) ?_
      intro b1 h1 e1 C1 c1
      refine ⟨(fun h => by rw [hr20_] at h; cases h), fun i hi => ?_⟩
      rw [hr20_] at hi
      simp only [List.mem_cons, List.not_mem_nil, or_false] at hi
      rw [hi]; clear hi
      refine opU_sub (C := Holds w [(b1, X1), (b3, X3)]) (K := fun a' C' => wpU P .any l.toArray Q (fun w w' => ∃ x : Grow w, w' = x.w) (fun w' => Below w.heap.size w w') 3 (((((List.replicate n true ++ List.replicate 6 false).toArray).setIfInBounds (n + 2) true).setIfInBounds n true).setIfInBounds (n + 1) true) a' C') c1 (fun a' hk => wpU_sub _ _ _ _ _ c1 hk) (fun _ _ hk => hk) ?_
      refine alloc_opU (X := X2) (by simpa using ho2) g2 d2 hTT hDD (fun W => (ha2 (.pointer (some ⟨b3, 0, none⟩)) (.pointer (some ⟨b1, 0, none⟩)) W).2.2.2.2) ?_
      intro b2 h2 e2 C2 c2
      rw [sw (List.replicate n true ++ List.replicate 6 false).toArray (n + 2) n (by omega), sw _ (n + 2) (n + 1) (by omega)]
      rw [put_swap aF _ _ (Ne.symm n13), put_swap _ (s := t3) (t := t2) _ _ (Ne.symm n23)]
      simp only [List.mem_cons, List.not_mem_nil, or_false, forall_eq_or_imp, forall_eq] at e1 e2
      refine tail b1 b2 b3 _ e2.1 (Ne.symm e1) (Ne.symm e2.2) ?_
      intro W h
      have h := c2 W h
      exact ⟨h.1, fun p hp => h.2 p (by simp only [List.mem_cons, List.not_mem_nil, or_false] at hp ⊢; rcases hp with hp | hp | hp <;> simp [hp])⟩
    · rw [hi]; clear hi; refine opU_sub (C := Holds w [(b3, X3)]) (K := fun a' C' => wpU P .any l.toArray Q (fun w w' => ∃ x : Grow w, w' = x.w) (fun w' => Below w.heap.size w w') 4 ((((List.replicate n true ++ List.replicate 6 false).toArray).setIfInBounds (n + 2) true).setIfInBounds (n + 1) true) a' C') c3 (fun a' hk => wpU_sub _ _ _ _ _ c3 hk) (fun _ _ hk => hk) ?_
      refine alloc_opU (X := X2) (by simpa using ho2) g2 d2 hTT hDD (fun W => (ha2 (.pointer (some ⟨b3, 0, none⟩)) undef W).2.2.1) ?_
      intro b2 h2 e2 C2 c2
      refine ⟨(fun h => by rw [hr21_] at h; cases h), fun i hi => ?_⟩
      rw [hr21_] at hi
      simp only [List.mem_cons, List.not_mem_nil, or_false] at hi
      rw [hi]; clear hi
      refine opU_sub (C := Holds w [(b2, X2), (b3, X3)]) (K := fun a' C' => wpU P .any l.toArray Q (fun w w' => ∃ x : Grow w, w' = x.w) (fun w' => Below w.heap.size w w') 3 (((((List.replicate n true ++ List.replicate 6 false).toArray).setIfInBounds (n + 2) true).setIfInBounds (n + 1) true).setIfInBounds n true) a' C') c2 (fun a' hk => wpU_sub _ _ _ _ _ c2 hk) (fun _ _ hk => hk) ?_
      refine alloc_opU (X := X1) (by simpa using ho1) g1 d1 hTT hDD (fun W => (ha1 (.pointer (some ⟨b3, 0, none⟩)) (.pointer (some ⟨b2, 0, none⟩)) W).2.2.2.2) ?_
      intro b1 h1 e1 C1 c1
      rw [sw (List.replicate n true ++ List.replicate 6 false).toArray (n + 2) (n + 1) (by omega), sw _ (n + 2) n (by omega), sw (List.replicate n true ++ List.replicate 6 false).toArray (n + 1) n (by omega)]
      rw [put_swap aF _ _ (Ne.symm n23), put_swap _ (s := t3) (t := t1) _ _ (Ne.symm n13), put_swap aF _ _ (Ne.symm n12)]
      simp only [List.mem_cons, List.not_mem_nil, or_false, forall_eq_or_imp, forall_eq] at e2 e1
      refine tail b1 b2 b3 _ (Ne.symm e1.1) (Ne.symm e1.2) (Ne.symm e2) ?_
      intro W h
      have h := c1 W h
      exact ⟨h.1, fun p hp => h.2 p (by simp only [List.mem_cons, List.not_mem_nil, or_false] at hp ⊢; rcases hp with hp | hp | hp <;> simp [hp])⟩
end
end Go.Mix
