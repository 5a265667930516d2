import Derived.BigQuiet
import Derived.Test.YtcipjifpigpfdaaGreatDoorP06
/- share.order: the walk of a visit. -/
namespace Go.Proofs.YtcipjifpigpfdaaGreatDoor
open Go.RowKit
open Go.Lib hiding intOf
theorem undrew {n : Nat} {W W' w' : World} (h : Below n W' w') (e1 : W'.os = W.os) (e2 : W'.tape = W.tape) (e3 : W'.output = W.output) (e4 : W'.heap = W.heap) : Below n W w' :=
  ⟨h.os.trans e1, h.tape.trans e2, h.output.trans e3, by rw [← e4]; exact h.size, fun k hk => by rw [← e4]; exact h.block k hk⟩
set_option maxHeartbeats 4000000 in
set_option maxRecDepth 100000 in
theorem visitO (w0 : World) (v : Value) (root : Int) (N : List Nd) (B : Nat) (rank : Nat → Nat) (hN : NodesAt w0 v N) (hR : Ranked N rank) : ∀ r, VisitO w0 v root N B rank r := by
  intro r
  induction r with
  | zero => intro a E M ov L W _ h; exact absurd h (Nat.not_lt_zero _)
  | succ r ih =>
    intro a E M ov L W ha hra hm hc hw
    have hNa : N[a]? = some N[a] := List.getElem?_eq_getElem ha
    have hit := hR.items a N[a] hNa
    have HS := PLift.up (fun (W' : World) (hb : Below w0.heap.size w0 W') => sorted_small W' v root N a N[a] (hN.below hb) hNa hit.1 (hR.keys a N[a] hNa))
    have HIH := PLift.up ih
    have HW := PLift.up hw
    have HL : PLift (L.length ≤ 4096) := ⟨by have := hR.len; omega⟩
    have HC := PLift.up (count_set_true (by rw [hw.ml]; exact ha) hm)
    have HC0 := PLift.up hc
    have HRA := PLift.up hra
    have HM := PLift.up hm
    have HRG := PLift.up hit.2
    obtain ⟨va, vc, rfl, hvl, hvn⟩ := hN
    rcases hvn with hnil | ⟨b, o, rfl, hall⟩
    · exfalso; rw [hnil] at ha; exact Nat.not_lt_zero _ ha
    obtain ⟨kv, iv, -, -, -, -, m4, -, ⟨ia, ic, rfl, hil, hic⟩⟩ := hall a N[a] hNa
    generalize N[a] = n at HS HRG m4 hil hic hit
    have M4 := PLift.up m4
    have HIC := PLift.up hic
    have hai : (a : Int) < (N.length : Int) := by omega
    have HIL := PLift.up hit.1
    have c4 : W.cell? ⟨B + 4, 0, none⟩ = some (.slice (some ⟨B + 3, 0, none⟩) N.length N.length) := (Lib.cell_of_heap hw.f4 0).trans rfl
    have cm : W.cell? ⟨B + 3, a, none⟩ = some (.bool (M.getD a false)) := bool_row hw.f3 (by rw [hw.ml]; exact ha)
    have fm : W.frozen? ⟨B + 3, a, none⟩ = false := Lib.frozen_of_heap hw.f3 a
    have HX1 := PLift.up (hw.setMet a)
    have HF1 := PLift.up (FrO.of_set (B := B) (W := W) (ov := ov) (b := B + 3) (i := a) (.bool true) (by omega))
    clear hall hNa hit hR ih hw hc hra hm m4 hic hil hvl
    unfold capsO
    as_aux_lemma =>
    go_enter Tryz.func167, Tryz.ntmps167
    go_upto_region 1 with fail
    generalize W.setCell ⟨B + 3, a, none⟩ (.bool true) = W1 at HX1 HF1 ⊢
    clear c4 cm fm
    have c5 : W1.cell? ⟨B + 5, 0, none⟩ = some ov := (Lib.cell_of_heap HX1.down.f5 0).trans rfl
    obtain ⟨i0, hi0, hz0, hz1, hz2⟩ := info_parts info_int0
    have HI0 := PLift.up (And.intro hi0 (And.intro hz0 (And.intro hz1 hz2)))
    have HXA := PLift.up (HX1.down.ext (below_new W1 (.cells #[.int .i64 a] 3)))
    have HNW : PLift ((W1.alloc (.cells #[.int .i64 a] 3)).cell? ⟨W1.heap.size, 0, none⟩ = some (.int .i64 a)) := ⟨(Lib.cell_of_heap (heap_alloc_new W1 _) 0).trans rfl⟩
    clear hi0 hz0 hz1 hz2
    go_wp2_with (at_builtin; refine wpList_append_new _ rfl _ _ 23 rfl (B + 7) 3 i0 (.int .i64 0) 1 8 Tryz.underlying23 HI0.down.1 HI0.down.2.1 HI0.down.2.2.1 HI0.down.2.2.2 rfl (by decide) ov L.length (L.map (Value.int .i64)) rfl HXA.down.own ⟨W1.heap.size, 0, none⟩ 1 1 [.int .i64 a] rfl rfl (by intro j u hj; match j, hj with | 0, hj => simp only [List.getElem?_cons_zero, Option.some.injEq] at hj; subst hj; exact HNW.down | j + 1, hj => simp at hj) (by simp [Value.oneCell']) (by decide) (by have := HL.down; unfold maxLen; omega) (by have := HL.down; omega) (by have := HXA.down.lt; omega) ?_)
    as_aux_lemma =>
    intro v' w4 hown4 hg4 hpl4
    obtain ⟨A4, cc4, hv4⟩ := own_shape hown4
    subst hv4
    have hX4 := HXA.down.setOut (L ++ [(a : Int)]) (.slice A4 (L.length + 1) cc4) w4 hg4 (by simpa using hown4) (by
      intro x hx
      rcases List.mem_append.1 hx with hx | hx
      · exact HW.down.rg x hx
      · rw [List.mem_singleton.1 hx]; exact ⟨by omega, hai⟩)
    have hfr4 : FrO B W ov (w4.setCell ⟨B + 5, 0, none⟩ (.slice A4 (L.length + 1) cc4)) (.slice A4 (L.length + 1) cc4) := by
      refine (HF1.down.trans ((FrO.of_below (below_new W1 (.cells #[.int .i64 a] 3))).trans (?_ : FrO B (W1.alloc (.cells #[.int .i64 a] 3)) ov w4 (.slice A4 (L.length + 1) cc4)))).trans (FrO.of_set _ (by omega))
      exact ⟨hg4.size, fun k _ hk hn => hg4.block k hk (fun e => hn e.symm), fun k hk => by rw [size_new]; exact hpl4 k hk⟩
    have HX5 := PLift.up hX4.1
    have HF5 := PLift.up hfr4
    have k5 : w4.cell? ⟨B + 5, 0, none⟩ = some ov := (Lib.cell_of_heap hX4.2 0).trans rfl
    have f5 : w4.frozen? ⟨B + 5, 0, none⟩ = false := Lib.frozen_of_heap hX4.2 0
    clear hown4 hg4 hpl4 hX4 hfr4 HXA HNW HI0 c5
    go_upto_region 2 with fail
    as_aux_lemma =>
    generalize w4.setCell ⟨B + 5, 0, none⟩ (.slice A4 (L.length + 1) cc4) = W5 at HX5 HF5 ⊢
    clear k5 f5 HF1 HX1
    have x5 := HX5.down
    have e2 : W5.cell? ⟨B + 2, 0, none⟩ = some (.slice (some ⟨B + 1, 0, none⟩) N.length N.length) := (Lib.cell_of_heap x5.f2 0).trans rfl
    have g0 : W5.cell? ⟨B, 0, none⟩ = some (.slice (some ⟨b, o, none⟩) N.length vc) := (Lib.cell_of_heap x5.f0 0).trans rfl
    have g1 : W5.cell? ⟨B, 1, none⟩ = some (.int .i64 root) := (Lib.cell_of_heap x5.f0 1).trans rfl
    have hb5 : Below w0.heap.size w0 W5 := by rw [← x5.hB]; exact x5.hB ▸ x5.below
    have HB5 := PLift.up hb5
    clear x5 hb5
    go_wp2
    go_region_with (go_at_call 168; refine (HS.down _ ?_).mono ?_; (first | exact HB5.down | exact HB5.down.drew | exact HB5.down.drew.drew | exact HB5.down.drew.drew.drew); rintro e w6 ⟨g, rfl, hgl, hb6, hg6⟩; have HB6 := PLift.up (undrew (W := W5) hb6 rfl rfl rfl rfl); have HG6 := PLift.up hg6; have HGL : PLift (W5.heap.size ≤ g) := ⟨hgl⟩; have HX6 := PLift.up (HX5.down.ext HB6.down); have e1 : w6.cell? ⟨B + 1, a, none⟩ = some (E.getD a (.slice none 0 0)) := (by rw [Lib.cell_of_heap HX6.down.f1]; have := HX6.down.el; simp [List.getD_eq_getElem?_getD, List.getElem?_eq_getElem (show a < E.length by omega)]); have e2 := cell_keep HB6.down e2; have ef : w6.frozen? ⟨B + 1, a, none⟩ = false := Lib.frozen_of_heap HX6.down.f1 a; clear hb6 hg6 hgl)
    all_goals
      have hx7 := HX6.down.setEnt a (.slice (some ⟨g, 0, none⟩) n.items.length n.items.length)
      have hgne : g ≠ B + 1 := by have := HX5.down.lt; have := HGL.down; omega
      have hg7 : (w6.setCell ⟨B + 1, a, none⟩ (.slice (some ⟨g, 0, none⟩) n.items.length n.items.length)).heap[g]? = some (.cells (idRow n.items.length n.items.length).toArray 3) := by rw [set_far _ hgne]; exact HG6.down
      have hf7 : FrO B W ov (w6.setCell ⟨B + 1, a, none⟩ (.slice (some ⟨g, 0, none⟩) n.items.length n.items.length)) (.slice A4 (L.length + 1) cc4) := (HF5.down.trans (FrO.of_below HB6.down)).trans (FrO.of_set _ (by omega))
      have hog : (Value.slice A4 (L.length + 1) cc4).ownBlock ≠ some g := fun e => by have := (HX5.down.own.lt _ e).2; have := HGL.down; omega
      generalize w6.setCell ⟨B + 1, a, none⟩ (.slice (some ⟨g, 0, none⟩) n.items.length n.items.length) = W7 at hx7 hg7 hf7 ⊢
      have HX7 := PLift.up hx7
      have HG7 := PLift.up hg7
      have HF7 := PLift.up hf7
      have HOG := PLift.up (And.intro hog (show B + 7 ≤ g by have := HX5.down.lt; have := HGL.down; omega))
      clear e1 e2 ef g0 g1 HB6 HX6 HG6 HGL HF5 HX5 HB5 HS hgne hog hf7 hg7
      have e2 : W7.cell? ⟨B + 2, 0, none⟩ = some (.slice (some ⟨B + 1, 0, none⟩) N.length N.length) := (Lib.cell_of_heap hx7.f2 0).trans rfl
      have e1 : W7.cell? ⟨B + 1, a, none⟩ = some (.slice (some ⟨g, 0, none⟩) n.items.length n.items.length) := by
        rw [Lib.cell_of_heap hx7.f1]
        have := hx7.el
        simp at this
        simp [show a < E.length by omega]
      clear hx7
      go_wp2
      go_loopw [27] (fun jv wr => ∃ (j : Nat) (E' : List Value) (M' : List Bool) (ov' : Value) (L' : List Int), jv = .int .i64 j ∧ j ≤ n.items.length ∧ L'.length + M'.count false = N.length ∧ OW w0 (.slice (some ⟨b, o, none⟩) N.length vc) root N B E' M' ov' L' wr ∧ FrO B W7 (.slice A4 (L.length + 1) cc4) wr ov') (fun jv _ => n.items.length - (intOf jv).toNat)
      case atStart => exact ⟨0, _, _, _, _, rfl, Nat.zero_le _, by have := HC.down; have := HC0.down; rw [List.length_append]; simp; omega, HX7.down, FrO.refl _ _ _⟩
      case round =>
        obtain ⟨j, E', M', ov', L', rfl, hj, hc', hw', hf'⟩ := hrel
        have HW' := PLift.up hw'
        have HF' := PLift.up hf'
        have HC' := PLift.up hc'
        by_cases hjl : j < n.items.length
        · have hjl2 : (j : Int) < (n.items.length : Int) := by omega
          have gj : wr.cell? ⟨g, j, none⟩ = some (.int .i64 j) := by
            rw [Lib.cell_of_heap ((hf'.keep g HOG.down.2 (block_lt HG7.down) HOG.down.1).trans HG7.down)]
            simpa using idRow_get hjl
          obtain ⟨y, hy, hyl, hyr⟩ := HRG.down n.items[j] (List.getElem_mem hjl)
          have hbl : Below w0.heap.size w0 wr := hw'.hB ▸ hw'.below
          have m4 := cell_keep hbl M4.down
          have hyl2 : (y : Int) < (N.length : Int) := by omega
          rcases HIC.down with hnil | ⟨lb, lo, rfl, hcells⟩
          · exfalso; rw [hnil] at hjl; exact Nat.not_lt_zero _ hjl
          have hx := cell_keep hbl (hcells j n.items[j] (List.getElem?_eq_getElem hjl))
          rw [hy] at hx
          have HYR : PLift (rank y < r) := ⟨by have := HRA.down; omega⟩
          have HYL := PLift.up hyl
          have c4 : wr.cell? ⟨B + 4, 0, none⟩ = some (.slice (some ⟨B + 3, 0, none⟩) N.length N.length) := (Lib.cell_of_heap hw'.f4 0).trans rfl
          have c0 : wr.cell? ⟨B, 0, none⟩ = some (.slice (some ⟨b, o, none⟩) N.length vc) := (Lib.cell_of_heap hw'.f0 0).trans rfl
          have cy : wr.cell? ⟨B + 3, y, none⟩ = some (.bool (M'.getD y false)) := bool_row hw'.f3 (by rw [hw'.ml]; exact hyl)
          obtain ⟨my, hmy⟩ : ∃ my, M'.getD y false = my := ⟨_, rfl⟩
          rw [hmy] at cy
          have HMY := PLift.up hmy
          clear hcells hbl hw' hf' hc' hy hyr hmy hyl
          go_upto_region 6 with fail
          go_quiet (fail)
          have HWQ := PLift.up (HW'.down.drewN nq)
          have HFQ := PLift.up (HF'.down.drewN nq)
          have m4 : (wr.drewN nq).cell? ⟨b, o + a * 5 + 4, none⟩ = some (.slice (some ⟨lb, lo, none⟩) n.items.length ic) := m4
          have hx : (wr.drewN nq).cell? ⟨lb, lo + j, none⟩ = some (.int .i64 y) := hx
          clear gj c4 c0 cy
          generalize wr.drewN nq = X at HWQ HFQ m4 hx ⊢
          cases my with
          | true =>
            have hil := HIL.down
            go_wp2
            go_roundw
            case rel => exact ⟨j + 1, E', M', ov', L', by go_num, by omega, HC'.down, HWQ.down, HFQ.down⟩
            case measure => simp [intOf]; omega
          | false =>
            have c0 : X.cell? ⟨B, 0, none⟩ = some (.slice (some ⟨b, o, none⟩) N.length vc) := (Lib.cell_of_heap HWQ.down.f0 0).trans rfl
            have c6 : X.cell? ⟨B + 6, 0, none⟩ = some (.func (.func 167) #[] #[.pointer (some ⟨B + 4, 0, none⟩), .pointer (some ⟨B + 5, 0, none⟩), .pointer (some ⟨B, 0, none⟩), .pointer (some ⟨B + 2, 0, none⟩), .pointer (some ⟨B + 6, 0, none⟩)]) := (Lib.cell_of_heap HWQ.down.f6 0).trans rfl
            have HV : PLift (∀ X' : World, X'.heap = X.heap → X'.os = X.os → X'.tape = X.tape → X'.output = X.output → Calls Tryz.prog 167 #[.int .i64 y, .pointer (some ⟨B + 4, 0, none⟩), .pointer (some ⟨B + 5, 0, none⟩), .pointer (some ⟨B, 0, none⟩), .pointer (some ⟨B + 2, 0, none⟩), .pointer (some ⟨B + 6, 0, none⟩)] X' fun e w' => e = .returned (.tuple #[]) ∧ ∃ E' M' ov' L', L'.length + M'.count false = N.length ∧ OW w0 (.slice (some ⟨b, o, none⟩) N.length vc) root N B E' M' ov' L' w' ∧ FrO B W7 (.slice A4 (L.length + 1) cc4) w' ov') := by
              refine ⟨fun X' e1 e2 e3 e4 => (HIH.down y E' M' ov' L' X' HYL.down HYR.down HMY.down HC'.down (HWQ.down.ext (undrew (W' := X') (Below.refl _ _) e2 e3 e4 e1 |> fun h => by rw [← e1]; exact h))).mono ?_⟩
              rintro e w' ⟨h1, E2, M2, ov2, L2, h2, h3, h4⟩
              exact ⟨h1, E2, M2, ov2, L2, h2, h3, HFQ.down.trans (h4.undrew e1)⟩
            go_wp2
            go_region_with (go_at_call 167; refine (HV.down _ ?_ ?_ ?_ ?_).mono ?_; rfl; rfl; rfl; rfl; rintro e w8 ⟨rfl, E2, M2, ov2, L2, hc2, hw2, hf2⟩; have HE := PLift.up (And.intro hc2 (And.intro hw2 hf2)); clear hc2 hw2 hf2)
            all_goals
              have hil := HIL.down
              go_wp2
              go_roundw
              case rel => exact ⟨j + 1, E2, M2, ov2, L2, by go_num, by omega, HE.down.1, HE.down.2.1, HE.down.2.2⟩
              case measure => simp [intOf]; omega
        · obtain rfl : j = n.items.length := by omega
          clear hw' hf' hc'
          go_wp2
          go_end0
          exact ⟨rfl, E', M', ov', L', HC'.down, HW'.down, HF7.down.trans HF'.down⟩
end Go.Proofs.YtcipjifpigpfdaaGreatDoor
