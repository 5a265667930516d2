/- The examples of the chapter hold. -/
import Derived.Test.YtfgglegimajghaaD
import Derived.Test.YtfgglegimajghaaJ
import Derived.Test.YtfgglegimajghaaGrow
namespace Go.Proofs.Ytfgglegimajghaa
open Go.RowKit
theorem cell_at' {W : World} {b : Nat} {vs : Array Value} {T : TypeId} (h : W.heap[b]? = some (.cells vs T)) (o : Nat) : W.cell? ⟨b, o, none⟩ = vs[o]? := by
  unfold World.cell?
  simp [h]
theorem free_at' {W : World} {b : Nat} {vs : Array Value} {T : TypeId} (h : W.heap[b]? = some (.cells vs T)) (o : Nat) : W.frozen? ⟨b, o, none⟩ = false := by
  unfold World.frozen?
  simp [h]
/-- the block b is X from here on -/
def setB (W : World) (b : Nat) (X : Obj) : World := { W with heap := W.heap.setIfInBounds b X }
theorem setB_self {W : World} {b : Nat} {X : Obj} (h : W.heap[b]? = some X) : setB W b X = W := by
  have hlt : b < W.heap.size := (Array.getElem?_eq_some_iff.1 h).1
  have he : W.heap[b] = X := (Array.getElem?_eq_some_iff.1 h).2
  unfold setB
  have : W.heap.setIfInBounds b X = W.heap := by
    rw [← he]
    apply Array.ext
    · simp
    · intro i h1 h2
      by_cases hi : b = i
      · subst hi; simp
      · rw [Array.getElem_setIfInBounds_ne h2 hi]
  rw [this]
theorem setCell_setB (W : World) (b o : Nat) (c : Array Value) (T : TypeId) (fr : Nat × Nat) (v : Value) (hb : b < W.heap.size) :
    (setB W b (.cells c T fr)).setCell ⟨b, o, none⟩ v = setB W b (.cells (c.setIfInBounds o v) T fr) := by
  unfold setB World.setCell
  simp only
  have : (W.heap.setIfInBounds b (.cells c T fr)).modify b (fun
      | .cells c elem frozen => .cells (if (none : Option Nat).isSome then c else c.setIfInBounds o v) elem frozen
      | o => o) = W.heap.setIfInBounds b (.cells (c.setIfInBounds o v) T fr) := by
    apply Array.ext_getElem?
    intro i
    rw [Array.getElem?_modify]
    by_cases hi : b = i
    · subst hi
      simp [hb]
    · rw [if_neg hi, Array.getElem?_setIfInBounds_ne hi, Array.getElem?_setIfInBounds_ne hi]
  exact congrArg (fun h => ({ W with heap := h } : World)) this
theorem set_ten {W : World} {b : Nat} {T : TypeId} {c0 c1 c2 c3 c4 c5 c6 c7 c8 c9 : Value} (h : W.heap[b]? = some (.cells #[c0, c1, c2, c3, c4, c5, c6, c7, c8, c9] T)) (v0 v1 v2 v3 v4 v5 v6 v7 v8 v9 : Value) :
    (((((((((W.setCell ⟨b, 0, none⟩ v0).setCell ⟨b, 1, none⟩ v1).setCell ⟨b, 2, none⟩ v2).setCell ⟨b, 3, none⟩ v3).setCell ⟨b, 4, none⟩ v4).setCell ⟨b, 5, none⟩ v5).setCell ⟨b, 6, none⟩ v6).setCell ⟨b, 7, none⟩ v7).setCell ⟨b, 8, none⟩ v8).setCell ⟨b, 9, none⟩ v9
      = { W with heap := W.heap.setIfInBounds b (.cells #[v0, v1, v2, v3, v4, v5, v6, v7, v8, v9] T) } := by
  have hlt : b < W.heap.size := (Array.getElem?_eq_some_iff.1 h).1
  have key : ∀ V : World, V = setB W b (.cells #[c0, c1, c2, c3, c4, c5, c6, c7, c8, c9] T) →
      (((((((((V.setCell ⟨b, 0, none⟩ v0).setCell ⟨b, 1, none⟩ v1).setCell ⟨b, 2, none⟩ v2).setCell ⟨b, 3, none⟩ v3).setCell ⟨b, 4, none⟩ v4).setCell ⟨b, 5, none⟩ v5).setCell ⟨b, 6, none⟩ v6).setCell ⟨b, 7, none⟩ v7).setCell ⟨b, 8, none⟩ v8).setCell ⟨b, 9, none⟩ v9
        = setB W b (.cells #[v0, v1, v2, v3, v4, v5, v6, v7, v8, v9] T) := by
    rintro V rfl
    simp [setCell_setB, hlt]
  exact key W (setB_self h).symm

theorem new_at (W : World) (X : Obj) : (W.alloc X).heap[W.heap.size]? = some X := by show (W.heap.push X)[W.heap.size]? = _; simp
theorem old_at {W : World} {X o : Obj} {b : Nat} (h : W.heap[b]? = some o) : (W.alloc X).heap[b]? = some o ∧ b < W.heap.size := by
  have hlt : b < W.heap.size := by
    rcases Nat.lt_or_ge b W.heap.size with h' | h'
    · exact h'
    · rw [Array.getElem?_eq_none h'] at h; cases h
  exact ⟨by rw [Below.heap_alloc _ _ _ hlt]; exact h, hlt⟩
theorem ofL2 (w : World) : Calls Try.prog 10 #[.int .i64 2] w fun e w' => e = .returned (.tuple #[.agg #[.int .u16 1966, .int .u16 32, .int .u16 1024, .int .i64 64, .int .i64 32, .int .i64 0, .bool false, .bool false, .bool false, .bool true], .int .i64 0]) ∧ Below w.heap.size w w' := of2 w
theorem ofL6 (w : World) : Calls Try.prog 10 #[.int .i64 6] w fun e w' => e = .returned (.tuple #[.agg #[.int .u16 3839, .int .u16 255, .int .u16 3839, .int .i64 0, .int .i64 32, .int .i64 0, .bool false, .bool true, .bool true, .bool true], .int .i64 0]) ∧ Below w.heap.size w w' := of6 w
theorem ofL3 (w : World) : Calls Try.prog 10 #[.int .i64 3] w fun e w' => e = .returned (.tuple #[.agg #[.int .u16 1056, .int .u16 32, .int .u16 1024, .int .i64 0, .int .i64 2, .int .i64 1, .bool false, .bool false, .bool false, .bool true], .int .i64 0]) ∧ Below w.heap.size w w' := of3 w
theorem ofL8 (w : World) : Calls Try.prog 10 #[.int .i64 8] w fun e w' => e = .returned (.tuple #[.agg #[.int .u16 2047, .int .u16 32, .int .u16 512, .int .i64 0, .int .i64 2, .int .i64 2, .bool false, .bool false, .bool false, .bool true], .int .i64 0]) ∧ Below w.heap.size w w' := of8 w
theorem meet26 (w : World) : Calls Try.prog 16 #[.agg #[.int .u16 1966, .int .u16 32, .int .u16 1024, .int .i64 64, .int .i64 32, .int .i64 0, .bool false, .bool false, .bool false, .bool true], .agg #[.int .u16 3839, .int .u16 255, .int .u16 3839, .int .i64 0, .int .i64 32, .int .i64 0, .bool false, .bool true, .bool true, .bool true]] w fun e w' => e = .returned (.agg #[.int .u16 1710, .int .u16 32, .int .u16 1024, .int .i64 64, .int .i64 32, .int .i64 0, .bool false, .bool false, .bool false, .bool true]) ∧ Below w.heap.size w w' :=
  (meet_good (ofC 2) (ofC 6) (by kernel_rfl) (by kernel_rfl) w).mono fun e w' ⟨he, hw⟩ => ⟨by rw [he, show ((ofC 2).meet (ofC 6)).v = .agg #[.int .u16 1710, .int .u16 32, .int .u16 1024, .int .i64 64, .int .i64 32, .int .i64 0, .bool false, .bool false, .bool false, .bool true] from by kernel_rfl], hw⟩
theorem meet38 (w : World) : Calls Try.prog 16 #[.agg #[.int .u16 1056, .int .u16 32, .int .u16 1024, .int .i64 0, .int .i64 2, .int .i64 1, .bool false, .bool false, .bool false, .bool true], .agg #[.int .u16 2047, .int .u16 32, .int .u16 512, .int .i64 0, .int .i64 2, .int .i64 2, .bool false, .bool false, .bool false, .bool true]] w fun e w' => e = .returned (.agg #[.int .u16 1056, .int .u16 32, .int .u16 0, .int .i64 0, .int .i64 2, .int .i64 3, .bool false, .bool false, .bool false, .bool true]) ∧ Below w.heap.size w w' :=
  (meet_good (ofC 3) (ofC 8) (by kernel_rfl) (by kernel_rfl) w).mono fun e w' ⟨he, hw⟩ => ⟨by rw [he, show ((ofC 3).meet (ofC 8)).v = .agg #[.int .u16 1056, .int .u16 32, .int .u16 0, .int .i64 0, .int .i64 2, .int .i64 3, .bool false, .bool false, .bool false, .bool true] from by kernel_rfl], hw⟩
set_option maxRecDepth 100000 in
set_option maxHeartbeats 4000000 in
theorem awake_any (w : World) : Calls Try.prog 9 #[] w fun e w' => e = .returned (.bool true) ∧ Below w.heap.size w w' := by
  go_enter Try.func9, Try.ntmps9
  go_wp2_with fail
  refine (ofL2 _).mono ?_
  rintro e w1 ⟨rfl, hb1⟩
  go_wp2_with fail
  refine (ofL6 _).mono ?_
  rintro e w2 ⟨rfl, hb2⟩
  go_wp2_with fail
  refine (ofL3 _).mono ?_
  rintro e w3 ⟨rfl, hb3⟩
  go_wp2_with fail
  refine (ofL8 _).mono ?_
  rintro e w4 ⟨rfl, hb4⟩
  go_wp2_with fail
  have z1 := hb1.size
  have z2 := hb2.size
  have z3 := hb3.size
  have z4 := hb4.size
  simp at z2 z3 z4
  have n1 := new_at w1 (.cells #[.int .u16 1966, .int .u16 32, .int .u16 1024, .int .i64 64, .int .i64 32, .int .i64 0, .bool false, .bool false, .bool false, .bool true] 25)
  have p12 := Mix.block_grow hb2 n1
  have p13 := Mix.block_grow hb3 (old_at (X := .cells #[.int .u16 3839, .int .u16 255, .int .u16 3839, .int .i64 0, .int .i64 32, .int .i64 0, .bool false, .bool true, .bool true, .bool true] 25) p12).1
  have p14 := Mix.block_grow hb4 (old_at (X := .cells #[.int .u16 1056, .int .u16 32, .int .u16 1024, .int .i64 0, .int .i64 2, .int .i64 1, .bool false, .bool false, .bool false, .bool true] 25) p13).1
  have n2 := new_at w2 (.cells #[.int .u16 3839, .int .u16 255, .int .u16 3839, .int .i64 0, .int .i64 32, .int .i64 0, .bool false, .bool true, .bool true, .bool true] 25)
  have p23 := Mix.block_grow hb3 n2
  have p24 := Mix.block_grow hb4 (old_at (X := .cells #[.int .u16 1056, .int .u16 32, .int .u16 1024, .int .i64 0, .int .i64 2, .int .i64 1, .bool false, .bool false, .bool false, .bool true] 25) p23).1
  have n3 := new_at w3 (.cells #[.int .u16 1056, .int .u16 32, .int .u16 1024, .int .i64 0, .int .i64 2, .int .i64 1, .bool false, .bool false, .bool false, .bool true] 25)
  have p34 := Mix.block_grow hb4 n3
  obtain ⟨W, hW⟩ : ∃ W : World, W = w4.alloc (.cells #[.int .u16 2047, .int .u16 32, .int .u16 512, .int .i64 0, .int .i64 2, .int .i64 2, .bool false, .bool false, .bool false, .bool true] 25) := ⟨_, rfl⟩
  rw [← hW]
  have q1 : W.heap[w1.heap.size]? = some (.cells #[.int .u16 1966, .int .u16 32, .int .u16 1024, .int .i64 64, .int .i64 32, .int .i64 0, .bool false, .bool false, .bool false, .bool true] 25) := by rw [hW]; exact (old_at p14).1
  have q2 : W.heap[w2.heap.size]? = some (.cells #[.int .u16 3839, .int .u16 255, .int .u16 3839, .int .i64 0, .int .i64 32, .int .i64 0, .bool false, .bool true, .bool true, .bool true] 25) := by rw [hW]; exact (old_at p24).1
  have q3 : W.heap[w3.heap.size]? = some (.cells #[.int .u16 1056, .int .u16 32, .int .u16 1024, .int .i64 0, .int .i64 2, .int .i64 1, .bool false, .bool false, .bool false, .bool true] 25) := by rw [hW]; exact (old_at p34).1
  have q4 : W.heap[w4.heap.size]? = some (.cells #[.int .u16 2047, .int .u16 32, .int .u16 512, .int .i64 0, .int .i64 2, .int .i64 2, .bool false, .bool false, .bool false, .bool true] 25) := by rw [hW]; exact new_at _ _
  have hWB : Below w.heap.size w W := by
    rw [hW]
    exact (((((((hb1.alloc hb1.size _).trans (hb2.mono (by simp; omega)))).alloc (by omega) _).trans (hb3.mono (by simp; omega))).alloc (by omega) _).trans (hb4.mono (by simp; omega))).alloc (by omega) _
  have hs : W.heap.size = w4.heap.size + 1 := by rw [hW]; simp
  have l1 : w1.heap.size < W.heap.size := by omega
  have l2 : w2.heap.size < W.heap.size := by omega
  have l3 : w3.heap.size < W.heap.size := by omega
  have l4 : w4.heap.size < W.heap.size := by omega
  clear hs hW n1 n2 n3 p12 p13 p14 p23 p24 p34 z1 z2 z3 z4
  clear hb1 hb2 hb3 hb4
  have c1_0 := cell_at' q1 0
  have c1_1 := cell_at' q1 1
  have c1_2 := cell_at' q1 2
  have c1_3 := cell_at' q1 3
  have c1_4 := cell_at' q1 4
  have c1_5 := cell_at' q1 5
  have c1_6 := cell_at' q1 6
  have c1_7 := cell_at' q1 7
  have c1_8 := cell_at' q1 8
  have c1_9 := cell_at' q1 9
  have c2_0 := cell_at' q2 0
  have c2_1 := cell_at' q2 1
  have c2_2 := cell_at' q2 2
  have c2_3 := cell_at' q2 3
  have c2_4 := cell_at' q2 4
  have c2_5 := cell_at' q2 5
  have c2_6 := cell_at' q2 6
  have c2_7 := cell_at' q2 7
  have c2_8 := cell_at' q2 8
  have c2_9 := cell_at' q2 9
  have c3_0 := cell_at' q3 0
  have c3_1 := cell_at' q3 1
  have c3_2 := cell_at' q3 2
  have c3_3 := cell_at' q3 3
  have c3_4 := cell_at' q3 4
  have c3_5 := cell_at' q3 5
  have c3_6 := cell_at' q3 6
  have c3_7 := cell_at' q3 7
  have c3_8 := cell_at' q3 8
  have c3_9 := cell_at' q3 9
  have c4_0 := cell_at' q4 0
  have c4_1 := cell_at' q4 1
  have c4_2 := cell_at' q4 2
  have c4_3 := cell_at' q4 3
  have c4_4 := cell_at' q4 4
  have c4_5 := cell_at' q4 5
  have c4_6 := cell_at' q4 6
  have c4_7 := cell_at' q4 7
  have c4_8 := cell_at' q4 8
  have c4_9 := cell_at' q4 9
  simp only [List.getElem?_toArray, List.getElem?_cons_zero, List.getElem?_cons_succ] at c1_0 c1_1 c1_2 c1_3 c1_4 c1_5 c1_6 c1_7 c1_8 c1_9 c2_0 c2_1 c2_2 c2_3 c2_4 c2_5 c2_6 c2_7 c2_8 c2_9 c3_0 c3_1 c3_2 c3_3 c3_4 c3_5 c3_6 c3_7 c3_8 c3_9 c4_0 c4_1 c4_2 c4_3 c4_4 c4_5 c4_6 c4_7 c4_8 c4_9
  clear q1 q2 q3 q4
  have HWB := Lib.hid hWB
  clear hWB
  refine Mix.wp_region_grow_two (aF := ?aF) 6 9 10 _ _ _ _ (.cells #[.int .u16 0, .int .u16 0, .int .u16 0, .int .i64 0, .int .i64 0, .int .i64 0, .bool false, .bool false, .bool false, .bool false] 25) (.cells #[.int .u16 0, .int .u16 0, .int .u16 0, .int .i64 0, .int .i64 0, .int .i64 0, .bool false, .bool false, .bool false, .bool false] 25) (.cells #[.int .u16 1710, .int .u16 32, .int .u16 1024, .int .i64 64, .int .i64 32, .int .i64 0, .bool false, .bool false, .bool false, .bool true] 25) (.cells #[.int .u16 1056, .int .u16 32, .int .u16 0, .int .i64 0, .int .i64 2, .int .i64 3, .bool false, .bool false, .bool false, .bool true] 25) (by kernel_rfl) rfl (by kernel_rfl) (by kernel_rfl) (by kernel_rfl) rfl rfl rfl rfl rfl rfl rfl rfl rfl rfl rfl rfl (by decide) (by kernel_rfl) (by kernel_rfl) (by kernel_rfl) (by kernel_rfl) (by kernel_rfl) (by kernel_rfl) ?hA ?ha1 ?ha2 ?hst1 ?hst2 ?hK
  case hA =>
    intro ρ hρ
    have hρc : ∀ b o, b < W.heap.size → ρ.cell? ⟨b, o, none⟩ = W.cell? ⟨b, o, none⟩ := fun b o hb => hρ.cell (p := ⟨b, o, none⟩) hb
    have hg : ∀ (x : Mix.Grow ρ) b o, b < ρ.heap.size → x.w.cell? ⟨b, o, none⟩ = ρ.cell? ⟨b, o, none⟩ := fun x b o hb => x.cell b o hb
    have hsz := hρ.size
    have m1 : w1.heap.size < ρ.heap.size := by omega
    have m2 : w2.heap.size < ρ.heap.size := by omega
    have m3 : w3.heap.size < ρ.heap.size := by omega
    have m4 : w4.heap.size < ρ.heap.size := by omega
    clear hρ hsz
    simp only [List.take_succ_cons, List.take_zero]
    repeat (go_big_quiet_step ((go_at_call 16; first | with_reducible exact Mix.Grow.calls (meet26 _) | with_reducible exact Mix.Grow.calls (meet38 _))))
    refine wpQuiet_nil ?_
    exact rfl
  case ha1 => intro v W; constructor <;> go_simp
  case ha2 => intro v W; constructor <;> go_simp
  case hst1 =>
    intro b1 b2 W h
    have h0 := cell_at' h 0
    have h1 := cell_at' h 1
    have h2 := cell_at' h 2
    have h3 := cell_at' h 3
    have h4 := cell_at' h 4
    have h5 := cell_at' h 5
    have h6 := cell_at' h 6
    have h7 := cell_at' h 7
    have h8 := cell_at' h 8
    have h9 := cell_at' h 9
    simp only [List.getElem?_toArray, List.getElem?_cons_zero, List.getElem?_cons_succ] at h0 h1 h2 h3 h4 h5 h6 h7 h8 h9
    have hf := free_at' h
    have hlt : b1 < W.heap.size := (Array.getElem?_eq_some_iff.1 h).1
    have he := Lib.hid (set_ten h)
    clear h
    go_simp
    rw [he.out]
  case hst2 =>
    intro b1 b2 W h
    have h0 := cell_at' h 0
    have h1 := cell_at' h 1
    have h2 := cell_at' h 2
    have h3 := cell_at' h 3
    have h4 := cell_at' h 4
    have h5 := cell_at' h 5
    have h6 := cell_at' h 6
    have h7 := cell_at' h 7
    have h8 := cell_at' h 8
    have h9 := cell_at' h 9
    simp only [List.getElem?_toArray, List.getElem?_cons_zero, List.getElem?_cons_succ] at h0 h1 h2 h3 h4 h5 h6 h7 h8 h9
    have hf := free_at' h
    have hlt : b2 < W.heap.size := (Array.getElem?_eq_some_iff.1 h).1
    have he := Lib.hid (set_ten h)
    clear h
    go_simp
    rw [he.out]
  case hK =>
    intro b1 b2 W' hB' h1 h2 h12 q1 q2
    have hB := HWB.out.trans (hB'.mono HWB.out.size)
    have HB := Lib.hid hB
    clear hB hB'
    have r0 := cell_at' q1 0
    have r1 := cell_at' q1 1
    have r2 := cell_at' q1 2
    have r3 := cell_at' q1 3
    have r4 := cell_at' q1 4
    have r5 := cell_at' q1 5
    have r6 := cell_at' q1 6
    have r7 := cell_at' q1 7
    have r8 := cell_at' q1 8
    have r9 := cell_at' q1 9
    have s0 := cell_at' q2 0
    have s1 := cell_at' q2 1
    have s2 := cell_at' q2 2
    have s3 := cell_at' q2 3
    have s4 := cell_at' q2 4
    have s5 := cell_at' q2 5
    have s6 := cell_at' q2 6
    have s7 := cell_at' q2 7
    have s8 := cell_at' q2 8
    have s9 := cell_at' q2 9
    simp only [List.getElem?_toArray, List.getElem?_cons_zero, List.getElem?_cons_succ] at r0 r1 r2 r3 r4 r5 r6 r7 r8 r9 s0 s1 s2 s3 s4 s5 s6 s7 s8 s9
    clear q1 q2 c1_0 c1_1 c1_2 c1_3 c1_4 c1_5 c1_6 c1_7 c1_8 c1_9 c2_0 c2_1 c2_2 c2_3 c2_4 c2_5 c2_6 c2_7 c2_8 c2_9 c3_0 c3_1 c3_2 c3_3 c3_4 c3_5 c3_6 c3_7 c3_8 c3_9 c4_0 c4_1 c4_2 c4_3 c4_4 c4_5 c4_6 c4_7 c4_8 c4_9 l1 l2 l3 l4
    simp only [Act.put, List.setIfInBounds_toArray, List.set_cons_zero, List.set_cons_succ]
    go_wp2
    go_ret
    exact ⟨rfl, HB.out⟩
end Go.Proofs.Ytfgglegimajghaa
