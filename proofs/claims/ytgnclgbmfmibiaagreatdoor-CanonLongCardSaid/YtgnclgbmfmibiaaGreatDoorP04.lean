import Derived.BigQuiet
import Derived.Lib.OthersKept
import Derived.KernelRfl
import Derived.Test.YtgnclgbmfmibiaaGreatDoorP03
import Derived.Test.YtgnclgbmfmibiaaGreatDoorP02
import Derived.Test.YtgnclgbmfmibiaaGreatDoorP01
/- canon: the length of a key text. -/
namespace Go.Proofs.YtgnclgbmfmibiaaGreatDoor
open Go.RowKit
open Go.Lib hiding intOf
def baseL (n : Nd) : Int :=
  if n.kind = 9 then 2 + max 0 ((n.items.length : Int) - 1) else if n.kind = 10 then 2 + max 0 ((n.items.length : Int) - 1) else if n.kind = 11 then 3 + (n.text.size : Int) else ((leafF n).size : Int)
def stepL (rec : Nat → List Int → Option (List Int)) (n : Nd) (st : Int × List Int) (i : Nat) : Option (Int × List Int) :=
  (if n.kind = 10 then (rec (n.keys.getD i 0).toNat st.2).map fun K => (wrap64 (st.1 + wrap64 (1 + K.getD (n.keys.getD i 0).toNat 0)), K) else some st).bind fun st => (rec (n.items.getD i 0).toNat st.2).map fun K => (wrap64 (st.1 + K.getD (n.items.getD i 0).toNat 0), K)
/-- the lengths that are known behind a call at node a -/
def lenT (N : List Nd) : Nat → Nat → List Int → Option (List Int)
  | 0, _, _ => none
  | f + 1, a, K => if 0 ≤ K.getD a 0 then some K else ((List.range' 0 (N.getD a nd0).items.length).foldlM (stepL (lenT N f) (N.getD a nd0)) (baseL (N.getD a nd0), K)).map fun st => st.2.set a (min st.1 65537)
/-- the world of length -/
structure LW (w0 : World) (v : Value) (root : Int) (rv : Value) (N : List Nd) (tb kb : Nat) (K : List Int) (w : World) : Prop where
  nodes : NodesAt w0 v N
  below : Below w0.heap.size w0 w
  tab : w.heap[tb]? = some (.cells #[v, .int .i64 root, rv] 54)
  krow : w.heap[kb]? = some (.cells (K.map (Value.int .i64)).toArray 3)
  klen : K.length = N.length
  lo : w0.heap.size ≤ kb
  ne : tb ≠ kb
section
variable {w0 w w' : World} {v rv : Value} {root : Int} {N : List Nd} {tb kb : Nat} {K : List Int}
theorem LW.below2 (h : LW w0 v root rv N tb kb K w) (hb : Below w.heap.size w w') : LW w0 v root rv N tb kb K w' :=
  { h with
    below := h.below.trans (hb.mono h.below.size)
    tab := by rw [hb.block _ (block_lt h.tab)]; exact h.tab
    krow := by rw [hb.block _ (block_lt h.krow)]; exact h.krow }
theorem LW.set (h : LW w0 v root rv N tb kb K w) (a : Nat) (x : Int) : LW w0 v root rv N tb kb (K.set a x) (w.setCell ⟨kb, a, none⟩ (.int .i64 x)) :=
  { h with
    below := h.below.setCell (p := ⟨kb, a, none⟩) h.lo _
    tab := by rw [set_far _ h.ne]; exact h.tab
    krow := by simp [World.setCell, Array.getElem?_modify, h.krow, List.map_set]
    klen := by simpa using h.klen }
end
theorem grown_of_below {w w' : World} (h : Below w.heap.size w w') (r : Option Nat) : w.grownBy w' r := ⟨h.os, h.tape, h.output, h.size, fun k hk _ => h.block k hk⟩
theorem stepL_plain {rec : Nat → List Int → Option (List Int)} {n : Nd} {st st2 : Int × List Int} {i : Nat} (hk : n.kind ≠ 10) (h : stepL rec n st i = some st2) : ∃ K, rec (n.items.getD i 0).toNat st.2 = some K ∧ st2 = (wrap64 (st.1 + K.getD (n.items.getD i 0).toNat 0), K) := by
  unfold stepL at h
  rw [if_neg hk] at h
  obtain ⟨K, h1, h2⟩ := Option.map_eq_some_iff.1 (show (rec (n.items.getD i 0).toNat st.2).map _ = some st2 from h)
  exact ⟨K, h1, h2.symm⟩
theorem stepL_map {rec : Nat → List Int → Option (List Int)} {n : Nd} {st st2 : Int × List Int} {i : Nat} (hk : n.kind = 10) (h : stepL rec n st i = some st2) : ∃ K1 K, rec (n.keys.getD i 0).toNat st.2 = some K1 ∧ rec (n.items.getD i 0).toNat K1 = some K ∧ st2 = (wrap64 (wrap64 (st.1 + wrap64 (1 + K1.getD (n.keys.getD i 0).toNat 0)) + K.getD (n.items.getD i 0).toNat 0), K) := by
  unfold stepL at h
  rw [if_pos hk] at h
  obtain ⟨s1, h1, h2⟩ := Option.bind_eq_some_iff.1 h
  obtain ⟨K1, h3, rfl⟩ := Option.map_eq_some_iff.1 h1
  obtain ⟨K, h4, h5⟩ := Option.map_eq_some_iff.1 h2
  exact ⟨K1, K, h3, h4, h5.symm⟩
theorem foldM_cons {α β : Type} {g : β → α → Option β} {x : α} {l : List α} {s s2 : β} (h : (x :: l).foldlM g s = some s2) : ∃ s1, g s x = some s1 ∧ l.foldlM g s1 = some s2 := by
  rw [List.foldlM_cons] at h
  cases hq : g s x with
  | none => rw [hq] at h; cases h
  | some s1 => rw [hq] at h; exact ⟨s1, rfl, h⟩
set_option maxHeartbeats 4000000 in
set_option maxRecDepth 100000 in
theorem length_any (w0 : World) (v : Value) (root : Int) (rv : Value) (N : List Nd) (tb kb : Nat) (hR : InRange N) (hT : ∀ n ∈ N, n.kind ≠ 6 ∧ n.text.size ≤ 1073741824) (hM : ∀ n ∈ N, n.kind = 10 → n.keys.length = n.items.length) : ∀ (f a : Nat) (K K' : List Int) (w : World), lenT N f a K = some K' → a < N.length → LW w0 v root rv N tb kb K w →
    Calls Tryz.prog 9 #[.pointer (some ⟨tb, 0, none⟩), .int .i64 a, .slice (some ⟨kb, 0, none⟩) N.length N.length] w fun e w' => e = .returned (.int .i64 (K'.getD a 0)) ∧ LW w0 v root rv N tb kb K' w' ∧ w.grownBy w' (some kb) := by
  intro f
  induction f with
  | zero => intro a K K' w h; cases h
  | succ f ih =>
    intro a K K' w h ha hW
    have HIH := PLift.up ih
    have HW := PLift.up hW
    have hal : a < K.length := by rw [hW.klen]; exact ha
    have hai : (a : Int) < (N.length : Int) := by omega
    have ck : w.cell? ⟨kb, a, none⟩ = some (.int .i64 (K.getD a 0)) := int_row hW.krow hal
    by_cases hkn : 0 ≤ K.getD a 0
    · unfold lenT at h
      rw [if_pos hkn] at h
      obtain rfl := Option.some.inj h
      obtain ⟨y, hy⟩ : ∃ y, K.getD a 0 = y := ⟨_, rfl⟩
      have HY := PLift.up hy
      rw [hy] at ck hkn
      clear h hy ih hW
      as_aux_lemma =>
      go_enter Tryz.func9, Tryz.ntmps9
      go_wp2
      refine bodyPost_ret (v := .int .i64 y) (by simp only [results, Tryz.results9]; go_simp) rfl ?_
      exact ⟨by rw [HY.down], HW.down, grown_refl _ _⟩
    · unfold lenT at h
      rw [if_neg hkn] at h
      obtain ⟨stE, hst, hK'⟩ := Option.map_eq_some_iff.1 h
      have HK' := PLift.up hK'
      obtain ⟨va, vc, hva, hvl, hvn⟩ := hW.nodes
      subst hva
      rcases hvn with hnil | ⟨b, o, rfl, hall⟩
      · exfalso; rw [hnil] at ha; exact Nat.not_lt_zero _ ha
      have hn0 := hall a N[a] (List.getElem?_eq_getElem ha)
      have hD : N.getD a nd0 = N[a] := by rw [List.getD_eq_getElem?_getD, List.getElem?_eq_getElem ha]; rfl
      have hrng := hR N[a] (List.getElem_mem ha)
      have htx := hT N[a] (List.getElem_mem ha)
      have hmp := hM N[a] (List.getElem_mem ha)
      rw [hD] at hst
      generalize N[a] = n at hn0 hrng htx hmp hst
      have HND := PLift.up hn0
      have HRN := PLift.up hrng
      have HTX := PLift.up htx
      have HMP := PLift.up hmp
      obtain ⟨kv, iv, m0, m1, m2, m3, m4, hkc, hic⟩ := hn0
      obtain ⟨ka, kc, rfl, hkl, hkc⟩ := hkc
      obtain ⟨ia, ic, rfl, hil, hic⟩ := hic
      have HKC := PLift.up hkc
      have HIC := PLift.up hic
      have M0 := PLift.up m0
      have M3 := PLift.up m3
      have M4 := PLift.up m4
      have HBN : PLift (∀ wr, LW w0 (.slice (some ⟨b, o, none⟩) N.length vc) root rv N tb kb K wr → True) := ⟨fun _ _ => trivial⟩
      have t0 : w.cell? ⟨tb, 0, none⟩ = some (.slice (some ⟨b, o, none⟩) N.length vc) := (Lib.cell_of_heap hW.tab 0).trans rfl
      have c0 := cell_keep hW.below m0
      have c1 := cell_keep hW.below m1
      have c4 := cell_keep hW.below m4
      have hkn2 : K.getD a 0 < 0 := by omega
      generalize K.getD a 0 = y at ck hkn2
      have HST := PLift.up hst
      have hb0 : b < w0.heap.size := World.block_lt_of_cell? w0 _ m0
      have HLF := PLift.up (leaf_any n w b (o + a * 5) (HND.down.below hW.below) htx.2 htx.1)
      have HTS := PLift.up htx.2
      have HBL : PLift (baseL n = if n.kind = 9 then 2 + max 0 ((n.items.length : Int) - 1) else if n.kind = 10 then 2 + max 0 ((n.items.length : Int) - 1) else if n.kind = 11 then 3 + (n.text.size : Int) else ((leafF n).size : Int)) := ⟨rfl⟩
      have HKD : PLift (n.kind = n.kind) := ⟨rfl⟩
      obtain ⟨k, hk⟩ : ∃ k, n.kind = k := ⟨_, rfl⟩
      rw [hk] at c0 M0 HBL HMP
      have HK := PLift.up hk
      clear h hK' ih hW hvl hall hD hrng htx hmp hst hkn m0 m1 m2 m3 m4 hkc hic hk HKD HBN
      by_cases h9 : k = 9
      · have HBT : PLift (baseL n = 2 + max 0 ((n.items.length : Int) - 1)) := ⟨by rw [HBL.down, if_pos h9]⟩
        have hk10 : k ≠ 10 := by omega
        subst h9
        rw [HBT.down] at HST
        have HWS := PLift.up (And.intro HW.down (grown_refl w (some kb)))
        as_aux_lemma =>
        go_enter Tryz.func9, Tryz.ntmps9
        as_aux_lemma =>
        go_wp2
        go_loopw [8, 58] (fun sv iv wr => ∃ (i m : Nat) (sum : Int) (Kj : List Int), iv = .int .i64 i ∧ i + m = n.items.length ∧ sv = .int .i64 sum ∧ (List.range' i m).foldlM (stepL (lenT N f) n) (sum, Kj) = some stE ∧ LW w0 (.slice (some ⟨b, o, none⟩) N.length vc) root rv N tb kb Kj wr ∧ w.grownBy wr (some kb)) (fun _ iv _ => n.items.length - (intOf iv).toNat)
        case atStart => exact ⟨0, n.items.length, _, K, rfl, by omega, rfl, HST.down, HWS.down.1, HWS.down.2⟩
        case round =>
          as_aux_lemma =>
          obtain ⟨i, m, sum, Kj, rfl, him, rfl, hrest, hwj, hgj⟩ := hrel
          have HWj := PLift.up hwj
          have HGj := PLift.up hgj
          have d0 := cell_keep hwj.below M0.down
          have t0 : wr.cell? ⟨tb, 0, none⟩ = some (.slice (some ⟨b, o, none⟩) N.length vc) := (Lib.cell_of_heap hwj.tab 0).trans rfl
          have d4 := cell_keep hwj.below M4.down
          cases m with
          | succ m =>
            rw [List.range'_succ] at hrest
            obtain ⟨st1, hs0, hrest⟩ := foldM_cons hrest
            have hil' : i < n.items.length := by omega
            have hil2 : (i : Int) < (n.items.length : Int) := by omega
            obtain ⟨K2, hr2, hs1⟩ := stepL_plain (by rw [HK.down]; exact hk10) hs0
            have hx := HRN.down.2 n.items[i] (List.getElem_mem hil')
            have hg : n.items.getD i 0 = n.items[i] := by rw [List.getD_eq_getElem?_getD, List.getElem?_eq_getElem hil']; rfl
            rw [hg] at hr2 hs1
            rcases HIC.down with hnil | ⟨lb, lo, rfl, hcells⟩
            · exfalso; rw [hnil] at hil'; exact Nat.not_lt_zero _ hil'
            have hc1 := cell_keep hwj.below (hcells i n.items[i] (List.getElem?_eq_getElem hil'))
            generalize n.items[i] = x at hx hc1 hr2 hs1
            obtain ⟨p, rfl⟩ := Int.eq_ofNat_of_zero_le hx.1
            have hp : p < N.length := by have := hx.2; omega
            simp only [Int.toNat_natCast] at hr2 hs1
            have HR2 := PLift.up hr2
            subst hs1
            have HREST := PLift.up hrest
            have HCELLS := PLift.up hcells
            clear hcells hx hg hr2 hrest hs0 hwj hgj
            have HC2 := PLift.up (HIH.down p _ K2 wr HR2.down hp HWj.down)
            as_aux_lemma =>
            go_wp2_with (go_at_call 9; refine (HC2.down).mono ?_; rintro e w3 ⟨rfl, hw3, hg3⟩; have HW3 := PLift.up hw3; have HG3 := PLift.up hg3; clear hw3 hg3)
            go_roundw
            case rel => exact ⟨i + 1, m, _, K2, by go_num, by omega, rfl, HREST.down, HW3.down, HGj.down.trans HG3.down⟩
            case measure => simp [intOf]; omega
          | zero =>
            have hie : i = n.items.length := by omega
            subst hie
            have hse : (sum, Kj) = stE := Option.some.inj hrest
            have HF : PLift (K' = Kj.set a (min sum 65537)) := ⟨by rw [← HK'.down, ← hse]⟩
            have hkj : a < Kj.length := by rw [hwj.klen]; exact ha
            have e1 : wr.cell? ⟨kb, a, none⟩ = some (.int .i64 (Kj.getD a 0)) := int_row hwj.krow hkj
            have ef : ∀ o, wr.frozen? ⟨kb, o, none⟩ = false := fun o => Lib.frozen_of_heap hwj.krow o
            have HWE := PLift.up (hwj.set a (min sum 65537))
            have HGE := PLift.up (hgj.trans (grown_set wr kb a (.int .i64 (min sum 65537))))
            have HGD : PLift ((Kj.set a (min sum 65537)).getD a 0 = min sum 65537) := ⟨by rw [getD_set_list, if_pos ⟨rfl, hkj⟩]⟩
            generalize Kj.getD a 0 = ye at e1
            clear hse hrest hwj hgj
            as_aux_lemma =>
            go_wp2
            refine bodyPost_ret (v := .int .i64 (min sum 65537)) (by simp only [results, Tryz.results9]; go_simp) rfl ?_
            exact ⟨by rw [HF.down, HGD.down], by rw [HF.down]; exact HWE.down, HGE.down⟩
      · by_cases h10 : k = 10
        · have HBT : PLift (baseL n = 2 + max 0 ((n.items.length : Int) - 1)) := ⟨by rw [HBL.down, if_neg h9, if_pos h10]⟩
          clear h9
          subst h10
          rw [HBT.down] at HST
          have HWS := PLift.up (And.intro HW.down (grown_refl w (some kb)))
          as_aux_lemma =>
          go_enter Tryz.func9, Tryz.ntmps9
          as_aux_lemma =>
          go_wp2
          go_loopw [8, 58] (fun sv iv wr => ∃ (i m : Nat) (sum : Int) (Kj : List Int), iv = .int .i64 i ∧ i + m = n.items.length ∧ sv = .int .i64 sum ∧ (List.range' i m).foldlM (stepL (lenT N f) n) (sum, Kj) = some stE ∧ LW w0 (.slice (some ⟨b, o, none⟩) N.length vc) root rv N tb kb Kj wr ∧ w.grownBy wr (some kb)) (fun _ iv _ => n.items.length - (intOf iv).toNat)
          case atStart => exact ⟨0, n.items.length, _, K, rfl, by omega, rfl, HST.down, HWS.down.1, HWS.down.2⟩
          case round =>
            as_aux_lemma =>
            obtain ⟨i, m, sum, Kj, rfl, him, rfl, hrest, hwj, hgj⟩ := hrel
            have HWj := PLift.up hwj
            have HGj := PLift.up hgj
            have d0 := cell_keep hwj.below M0.down
            have t0 : wr.cell? ⟨tb, 0, none⟩ = some (.slice (some ⟨b, o, none⟩) N.length vc) := (Lib.cell_of_heap hwj.tab 0).trans rfl
            have d4 := cell_keep hwj.below M4.down
            cases m with
            | succ m =>
              rw [List.range'_succ] at hrest
              obtain ⟨st1, hs0, hrest⟩ := foldM_cons hrest
              have hil' : i < n.items.length := by omega
              have hil2 : (i : Int) < (n.items.length : Int) := by omega
              obtain ⟨K1, K2, hr1, hr2, hs1⟩ := stepL_map HK.down hs0
              have hkil : i < n.keys.length := by rw [HMP.down rfl]; exact hil'
              have hkil2 : (i : Int) < (n.keys.length : Int) := by omega
              have hxk := HRN.down.1 n.keys[i] (List.getElem_mem hkil)
              have hgk : n.keys.getD i 0 = n.keys[i] := by rw [List.getD_eq_getElem?_getD, List.getElem?_eq_getElem hkil]; rfl
              rw [hgk] at hr1 hs1
              rcases HKC.down with hnil | ⟨lk, lko, rfl, hkcells⟩
              · exfalso; rw [hnil] at hkil; exact Nat.not_lt_zero _ hkil
              have hck := cell_keep HWj.down.below (hkcells i n.keys[i] (List.getElem?_eq_getElem hkil))
              have d3 := cell_keep HWj.down.below M3.down
              have HKCELLS := PLift.up hkcells
              generalize n.keys[i] = xk at hxk hck hr1 hs1
              obtain ⟨pk, rfl⟩ := Int.eq_ofNat_of_zero_le hxk.1
              have hpk : pk < N.length := by have := hxk.2; omega
              simp only [Int.toNat_natCast] at hr1 hs1
              have HC1 := PLift.up (HIH.down pk _ K1 wr hr1 hpk HWj.down)
              clear hkcells hxk hgk hr1
              have hx := HRN.down.2 n.items[i] (List.getElem_mem hil')
              have hg : n.items.getD i 0 = n.items[i] := by rw [List.getD_eq_getElem?_getD, List.getElem?_eq_getElem hil']; rfl
              rw [hg] at hr2 hs1
              rcases HIC.down with hnil | ⟨lb, lo, rfl, hcells⟩
              · exfalso; rw [hnil] at hil'; exact Nat.not_lt_zero _ hil'
              have hc1 := cell_keep hwj.below (hcells i n.items[i] (List.getElem?_eq_getElem hil'))
              generalize n.items[i] = x at hx hc1 hr2 hs1
              obtain ⟨p, rfl⟩ := Int.eq_ofNat_of_zero_le hx.1
              have hp : p < N.length := by have := hx.2; omega
              simp only [Int.toNat_natCast] at hr2 hs1
              have HR2 := PLift.up hr2
              subst hs1
              have HREST := PLift.up hrest
              have HCELLS := PLift.up hcells
              clear hcells hx hg hr2 hrest hs0 hwj hgj
              as_aux_lemma =>
              go_upto_region 17 with (go_at_call 9; refine (HC1.down).mono ?_; rintro e w2 ⟨rfl, hw2, hg2⟩; have HW2 := PLift.up hw2; have HG2 := PLift.up hg2; clear hw2 hg2)
              have HC2 := PLift.up (HIH.down p _ K2 w2 HR2.down hp HW2.down)
              as_aux_lemma =>
              go_wp2_with (go_at_call 9; refine (HC2.down).mono ?_; rintro e w3 ⟨rfl, hw3, hg3⟩; have HW3 := PLift.up hw3; have HG3 := PLift.up hg3; clear hw3 hg3)
              go_roundw
              case rel => exact ⟨i + 1, m, _, K2, by go_num, by omega, rfl, HREST.down, HW3.down, (HGj.down.trans HG2.down).trans HG3.down⟩
              case measure => simp [intOf]; omega
            | zero =>
              have hie : i = n.items.length := by omega
              subst hie
              have hse : (sum, Kj) = stE := Option.some.inj hrest
              have HF : PLift (K' = Kj.set a (min sum 65537)) := ⟨by rw [← HK'.down, ← hse]⟩
              have hkj : a < Kj.length := by rw [hwj.klen]; exact ha
              have e1 : wr.cell? ⟨kb, a, none⟩ = some (.int .i64 (Kj.getD a 0)) := int_row hwj.krow hkj
              have ef : ∀ o, wr.frozen? ⟨kb, o, none⟩ = false := fun o => Lib.frozen_of_heap hwj.krow o
              have HWE := PLift.up (hwj.set a (min sum 65537))
              have HGE := PLift.up (hgj.trans (grown_set wr kb a (.int .i64 (min sum 65537))))
              have HGD : PLift ((Kj.set a (min sum 65537)).getD a 0 = min sum 65537) := ⟨by rw [getD_set_list, if_pos ⟨rfl, hkj⟩]⟩
              generalize Kj.getD a 0 = ye at e1
              clear hse hrest hwj hgj
              as_aux_lemma =>
              go_wp2
              refine bodyPost_ret (v := .int .i64 (min sum 65537)) (by simp only [results, Tryz.results9]; go_simp) rfl ?_
              exact ⟨by rw [HF.down, HGD.down], by rw [HF.down]; exact HWE.down, HGE.down⟩
        · have hk10 : k ≠ 10 := h10
          by_cases h11 : k = 11
          · have HBT : PLift (baseL n = 3 + (n.text.size : Int)) := ⟨by rw [HBL.down, if_neg h9, if_neg h10, if_pos h11]⟩
            clear h9 h10
            have hts := HTS.down
            subst h11
            rw [HBT.down] at HST
            have HWS := PLift.up (And.intro HW.down (grown_refl w (some kb)))
            as_aux_lemma =>
            go_enter Tryz.func9, Tryz.ntmps9
            as_aux_lemma =>
            go_wp2
            go_loopw [8, 58] (fun sv iv wr => ∃ (i m : Nat) (sum : Int) (Kj : List Int), iv = .int .i64 i ∧ i + m = n.items.length ∧ sv = .int .i64 sum ∧ (List.range' i m).foldlM (stepL (lenT N f) n) (sum, Kj) = some stE ∧ LW w0 (.slice (some ⟨b, o, none⟩) N.length vc) root rv N tb kb Kj wr ∧ w.grownBy wr (some kb)) (fun _ iv _ => n.items.length - (intOf iv).toNat)
            case atStart => exact ⟨0, n.items.length, _, K, rfl, by omega, rfl, HST.down, HWS.down.1, HWS.down.2⟩
            case round =>
              as_aux_lemma =>
              obtain ⟨i, m, sum, Kj, rfl, him, rfl, hrest, hwj, hgj⟩ := hrel
              have HWj := PLift.up hwj
              have HGj := PLift.up hgj
              have d0 := cell_keep hwj.below M0.down
              have t0 : wr.cell? ⟨tb, 0, none⟩ = some (.slice (some ⟨b, o, none⟩) N.length vc) := (Lib.cell_of_heap hwj.tab 0).trans rfl
              have d4 := cell_keep hwj.below M4.down
              cases m with
              | succ m =>
                rw [List.range'_succ] at hrest
                obtain ⟨st1, hs0, hrest⟩ := foldM_cons hrest
                have hil' : i < n.items.length := by omega
                have hil2 : (i : Int) < (n.items.length : Int) := by omega
                obtain ⟨K2, hr2, hs1⟩ := stepL_plain (by rw [HK.down]; exact hk10) hs0
                have hx := HRN.down.2 n.items[i] (List.getElem_mem hil')
                have hg : n.items.getD i 0 = n.items[i] := by rw [List.getD_eq_getElem?_getD, List.getElem?_eq_getElem hil']; rfl
                rw [hg] at hr2 hs1
                rcases HIC.down with hnil | ⟨lb, lo, rfl, hcells⟩
                · exfalso; rw [hnil] at hil'; exact Nat.not_lt_zero _ hil'
                have hc1 := cell_keep hwj.below (hcells i n.items[i] (List.getElem?_eq_getElem hil'))
                generalize n.items[i] = x at hx hc1 hr2 hs1
                obtain ⟨p, rfl⟩ := Int.eq_ofNat_of_zero_le hx.1
                have hp : p < N.length := by have := hx.2; omega
                simp only [Int.toNat_natCast] at hr2 hs1
                have HR2 := PLift.up hr2
                subst hs1
                have HREST := PLift.up hrest
                have HCELLS := PLift.up hcells
                clear hcells hx hg hr2 hrest hs0 hwj hgj
                have HC2 := PLift.up (HIH.down p _ K2 wr HR2.down hp HWj.down)
                as_aux_lemma =>
                go_wp2_with (go_at_call 9; refine (HC2.down).mono ?_; rintro e w3 ⟨rfl, hw3, hg3⟩; have HW3 := PLift.up hw3; have HG3 := PLift.up hg3; clear hw3 hg3)
                go_roundw
                case rel => exact ⟨i + 1, m, _, K2, by go_num, by omega, rfl, HREST.down, HW3.down, HGj.down.trans HG3.down⟩
                case measure => simp [intOf]; omega
              | zero =>
                have hie : i = n.items.length := by omega
                subst hie
                have hse : (sum, Kj) = stE := Option.some.inj hrest
                have HF : PLift (K' = Kj.set a (min sum 65537)) := ⟨by rw [← HK'.down, ← hse]⟩
                have hkj : a < Kj.length := by rw [hwj.klen]; exact ha
                have e1 : wr.cell? ⟨kb, a, none⟩ = some (.int .i64 (Kj.getD a 0)) := int_row hwj.krow hkj
                have ef : ∀ o, wr.frozen? ⟨kb, o, none⟩ = false := fun o => Lib.frozen_of_heap hwj.krow o
                have HWE := PLift.up (hwj.set a (min sum 65537))
                have HGE := PLift.up (hgj.trans (grown_set wr kb a (.int .i64 (min sum 65537))))
                have HGD : PLift ((Kj.set a (min sum 65537)).getD a 0 = min sum 65537) := ⟨by rw [getD_set_list, if_pos ⟨rfl, hkj⟩]⟩
                generalize Kj.getD a 0 = ye at e1
                clear hse hrest hwj hgj
                as_aux_lemma =>
                go_wp2
                refine bodyPost_ret (v := .int .i64 (min sum 65537)) (by simp only [results, Tryz.results9]; go_simp) rfl ?_
                exact ⟨by rw [HF.down, HGD.down], by rw [HF.down]; exact HWE.down, HGE.down⟩
          · have HBT : PLift (baseL n = ((leafF n).size : Int)) := ⟨by rw [HBL.down, if_neg h9, if_neg h10, if_neg h11]⟩
            have b9 : (k == 9) = false := by simpa using h9
            have b10 : (k == 10) = false := by simpa using h10
            have b11 : (k == 11) = false := by simpa using h11
            have HWS0 := PLift.up (And.intro HW.down (grown_refl w (some kb)))
            rw [HBT.down] at HST
            generalize leafF n = lf at HLF HST
            as_aux_lemma =>
            go_enter Tryz.func9, Tryz.ntmps9
            as_aux_lemma =>
            go_wp2_with (go_at_call 17; refine (HLF.down).mono ?_; rintro e w1 ⟨rfl, hb1⟩; have HWS := PLift.up (And.intro (HW.down.below2 hb1) (grown_of_below hb1 (some kb))); have c4' := cell_keep hb1 c4; clear hb1)
            go_loopw [8, 58] (fun sv iv wr => ∃ (i m : Nat) (sum : Int) (Kj : List Int), iv = .int .i64 i ∧ i + m = n.items.length ∧ sv = .int .i64 sum ∧ (List.range' i m).foldlM (stepL (lenT N f) n) (sum, Kj) = some stE ∧ LW w0 (.slice (some ⟨b, o, none⟩) N.length vc) root rv N tb kb Kj wr ∧ w.grownBy wr (some kb)) (fun _ iv _ => n.items.length - (intOf iv).toNat)
            case atStart => exact ⟨0, n.items.length, _, K, rfl, by omega, rfl, HST.down, HWS.down.1, HWS.down.2⟩
            case round =>
              as_aux_lemma =>
              obtain ⟨i, m, sum, Kj, rfl, him, rfl, hrest, hwj, hgj⟩ := hrel
              have HWj := PLift.up hwj
              have HGj := PLift.up hgj
              have d0 := cell_keep hwj.below M0.down
              have t0 : wr.cell? ⟨tb, 0, none⟩ = some (.slice (some ⟨b, o, none⟩) N.length vc) := (Lib.cell_of_heap hwj.tab 0).trans rfl
              have d4 := cell_keep hwj.below M4.down
              cases m with
              | succ m =>
                rw [List.range'_succ] at hrest
                obtain ⟨st1, hs0, hrest⟩ := foldM_cons hrest
                have hil' : i < n.items.length := by omega
                have hil2 : (i : Int) < (n.items.length : Int) := by omega
                obtain ⟨K2, hr2, hs1⟩ := stepL_plain (by rw [HK.down]; exact hk10) hs0
                have hx := HRN.down.2 n.items[i] (List.getElem_mem hil')
                have hg : n.items.getD i 0 = n.items[i] := by rw [List.getD_eq_getElem?_getD, List.getElem?_eq_getElem hil']; rfl
                rw [hg] at hr2 hs1
                rcases HIC.down with hnil | ⟨lb, lo, rfl, hcells⟩
                · exfalso; rw [hnil] at hil'; exact Nat.not_lt_zero _ hil'
                have hc1 := cell_keep hwj.below (hcells i n.items[i] (List.getElem?_eq_getElem hil'))
                generalize n.items[i] = x at hx hc1 hr2 hs1
                obtain ⟨p, rfl⟩ := Int.eq_ofNat_of_zero_le hx.1
                have hp : p < N.length := by have := hx.2; omega
                simp only [Int.toNat_natCast] at hr2 hs1
                have HR2 := PLift.up hr2
                subst hs1
                have HREST := PLift.up hrest
                have HCELLS := PLift.up hcells
                clear hcells hx hg hr2 hrest hs0 hwj hgj
                have HC2 := PLift.up (HIH.down p _ K2 wr HR2.down hp HWj.down)
                as_aux_lemma =>
                go_wp2_with (go_at_call 9; refine (HC2.down).mono ?_; rintro e w3 ⟨rfl, hw3, hg3⟩; have HW3 := PLift.up hw3; have HG3 := PLift.up hg3; clear hw3 hg3)
                go_roundw
                case rel => exact ⟨i + 1, m, _, K2, by go_num, by omega, rfl, HREST.down, HW3.down, HGj.down.trans HG3.down⟩
                case measure => simp [intOf]; omega
              | zero =>
                have hie : i = n.items.length := by omega
                subst hie
                have hse : (sum, Kj) = stE := Option.some.inj hrest
                have HF : PLift (K' = Kj.set a (min sum 65537)) := ⟨by rw [← HK'.down, ← hse]⟩
                have hkj : a < Kj.length := by rw [hwj.klen]; exact ha
                have e1 : wr.cell? ⟨kb, a, none⟩ = some (.int .i64 (Kj.getD a 0)) := int_row hwj.krow hkj
                have ef : ∀ o, wr.frozen? ⟨kb, o, none⟩ = false := fun o => Lib.frozen_of_heap hwj.krow o
                have HWE := PLift.up (hwj.set a (min sum 65537))
                have HGE := PLift.up (hgj.trans (grown_set wr kb a (.int .i64 (min sum 65537))))
                have HGD : PLift ((Kj.set a (min sum 65537)).getD a 0 = min sum 65537) := ⟨by rw [getD_set_list, if_pos ⟨rfl, hkj⟩]⟩
                generalize Kj.getD a 0 = ye at e1
                clear hse hrest hwj hgj
                as_aux_lemma =>
                go_wp2
                refine bodyPost_ret (v := .int .i64 (min sum 65537)) (by simp only [results, Tryz.results9]; go_simp) rfl ?_
                exact ⟨by rw [HF.down, HGD.down], by rw [HF.down]; exact HWE.down, HGE.down⟩
end Go.Proofs.YtgnclgbmfmibiaaGreatDoor
/- canon's parser: next, and take where the byte is there. -/
namespace Go.Proofs.YtgnclgbmfmibiaaGreatDoor
open Go.RowKit
open Go.Lib hiding intOf
/-- the parser at pb -/
def PAt (w : World) (pb : Nat) (s : ByteArray) (pos : Nat) (nv : Value) : Prop := w.heap[pb]? = some (.cells #[.string s, .int .i64 pos, nv] 69)
/-- nothing but draws lies between these worlds -/
structure Same (w w' : World) : Prop where
  os : w'.os = w.os
  tape : w'.tape = w.tape
  output : w'.output = w.output
  heap : w'.heap = w.heap
theorem Same.below {w w' : World} (h : Same w w') (B : Nat) : Below B w w' := ⟨h.os, h.tape, h.output, by rw [h.heap]; exact Nat.le_refl _, fun k _ => by rw [h.heap]⟩
theorem Same.trans {a b c : World} (h : Same a b) (k : Same b c) : Same a c := ⟨k.os.trans h.os, k.tape.trans h.tape, k.output.trans h.output, k.heap.trans h.heap⟩
theorem Same.drewN {a b : World} (h : Same a b) (n : Nat) : Same a (b.drewN n) := ⟨h.os, h.tape, h.output, h.heap⟩
theorem Same.refl (w : World) : Same w w := ⟨rfl, rfl, rfl, rfl⟩
/-- the next byte, or 0 -/
def nextF (s : ByteArray) (pos : Nat) : Nat := if h : pos < s.size then s[pos].toNat else 0
set_option maxHeartbeats 4000000 in
set_option maxRecDepth 100000 in
theorem next_any (w : World) (pb : Nat) (s : ByteArray) (pos : Nat) (nv : Value) (hp : PAt w pb s pos nv) :
    Calls Tryz.prog 39 #[.pointer (some ⟨pb, 0, none⟩)] w fun e w' => e = .returned (.int .u8 (nextF s pos)) ∧ Same w w' := by
  have c0 : w.cell? ⟨pb, 0, none⟩ = some (.string s) := (Lib.cell_of_heap hp 0).trans rfl
  have c1 : w.cell? ⟨pb, 1, none⟩ = some (.int .i64 pos) := (Lib.cell_of_heap hp 1).trans rfl
  clear hp
  by_cases h : pos < s.size
  · have h2 : (pos : Int) < (s.size : Int) := by omega
    have HF : PLift (nextF s pos = s[pos].toNat) := ⟨by unfold nextF; rw [dif_pos h]⟩
    as_aux_lemma =>
    go_enter Tryz.func39, Tryz.ntmps39
    go_wp2
    go_quiet (fail)
    go_wp2
    go_quiet (fail)
    go_wp2
    refine bodyPost_ret (v := .int .u8 s[pos].toNat) (by simp only [results, Tryz.results39]; go_simp) rfl ?_
    exact ⟨by rw [HF.down], by first | exact ((Same.refl w).drewN _).drewN _ | exact (Same.refl w).drewN _⟩
  · have h2 : ¬ (pos : Int) < (s.size : Int) := by omega
    have HF : PLift (nextF s pos = 0) := ⟨by unfold nextF; rw [dif_neg h]⟩
    as_aux_lemma =>
    go_enter Tryz.func39, Tryz.ntmps39
    go_wp2
    go_quiet (fail)
    go_wp2
    refine bodyPost_ret (v := .int .u8 0) (by simp only [results, Tryz.results39]; go_simp) rfl ?_
    exact ⟨by rw [HF.down]; rfl, by first | exact ((Same.refl w).drewN _).drewN _ | exact (Same.refl w).drewN _⟩
set_option maxHeartbeats 4000000 in
set_option maxRecDepth 100000 in
theorem take_ok (w : World) (pb : Nat) (s : ByteArray) (pos : Nat) (nv : Value) (c : UInt8) (hp : PAt w pb s pos nv) (hs : s.size ≤ 65536) (hpos : pos < s.size) (hc : s[pos] = c) :
    Calls Tryz.prog 43 #[.pointer (some ⟨pb, 0, none⟩), .int .u8 c.toNat] w fun e w' => e = .returned (.tuple #[]) ∧ ∃ w1, Same w w1 ∧ w' = w1.setCell ⟨pb, 1, none⟩ (.int .i64 ((pos + 1 : Nat) : Int)) := by
  have c0 : w.cell? ⟨pb, 0, none⟩ = some (.string s) := (Lib.cell_of_heap hp 0).trans rfl
  have c1 : w.cell? ⟨pb, 1, none⟩ = some (.int .i64 pos) := (Lib.cell_of_heap hp 1).trans rfl
  have f1 : ∀ o, w.frozen? ⟨pb, o, none⟩ = false := fun o => Lib.frozen_of_heap hp o
  have h2 : (pos : Int) < (s.size : Int) := by omega
  have h3 : decide ((pos : Int) ≥ (s.size : Int)) = false := by simpa using hpos
  have h4 : decide ((s.size : Int) ≤ (pos : Int)) = false := by simpa using hpos
  subst hc
  clear hp
  as_aux_lemma =>
  go_enter Tryz.func43, Tryz.ntmps43
  go_wp2
  go_quiet (fail)
  go_wp2
  go_end0
  exact ⟨rfl, _, (Same.refl w).drewN _, rfl⟩
end Go.Proofs.YtgnclgbmfmibiaaGreatDoor
/- canon: the entries of a node that is no unordered map, where they are not known yet. -/
namespace Go.Proofs.YtgnclgbmfmibiaaGreatDoor
open Go.RowKit
open Go.Lib hiding intOf
theorem TabAt.below {w w' : World} {b r n : Nat} {v : Value} {root : Int} {E : List Value} (h : TabAt w b r v root n E) (hb : Below w.heap.size w w') : TabAt w' b r v root n E :=
  ⟨by rw [hb.block _ (block_lt h.box)]; exact h.box, by rw [hb.block _ (block_lt h.row)]; exact h.row, h.len, h.ne⟩
theorem rangeRow_set {L j : Nat} (hj : j < L) : ((List.range j).map (fun i : Nat => (i : Int)) ++ List.replicate (L - j) 0).set j (j : Int) = (List.range (j + 1)).map (fun i : Nat => (i : Int)) ++ List.replicate (L - (j + 1)) 0 := by
  obtain ⟨m, hm⟩ : ∃ m, L - j = m + 1 := ⟨L - j - 1, by omega⟩
  have hm2 : L - (j + 1) = m := by omega
  rw [hm, hm2, List.replicate_succ, List.set_append, List.range_succ, List.map_append]
  simp
set_option maxHeartbeats 4000000 in
set_option maxRecDepth 100000 in
theorem entries_plain (w : World) (v : Value) (root : Int) (N : List Nd) (tb rb a : Nat) (E : List Value) (hN : NodesAt w v N) (hT : TabAt w tb rb v root N.length E) (ha : a < N.length) (hE : E.getD a nilS = nilS) (hk : (N.getD a nd0).kind ≠ 10 ∨ (N.getD a nd0).ord = true) (hil2 : (N.getD a nd0).items.length ≤ 4294967296) :
    Calls Tryz.prog 20 #[.pointer (some ⟨tb, 0, none⟩), .int .i64 a] w fun e w' => ∃ eb, e = .returned (.slice (some ⟨eb, 0, none⟩) (N.getD a nd0).items.length (N.getD a nd0).items.length) ∧ w.heap.size ≤ eb ∧ w'.heap[eb]? = some (.cells (((List.range (N.getD a nd0).items.length).map (fun i : Nat => (i : Int))).map (Value.int .i64)).toArray 3) ∧ TabAt w' tb rb v root N.length (E.set a (.slice (some ⟨eb, 0, none⟩) (N.getD a nd0).items.length (N.getD a nd0).items.length)) ∧ w.grownBy w' (some rb) := by
  have HN := PLift.up hN
  have HT := PLift.up hT
  have hai : (a : Int) < (N.length : Int) := by omega
  obtain ⟨va, vc, rfl, hvl, hvn⟩ := hN
  rcases hvn with hnil | ⟨b, o, rfl, hall⟩
  · exfalso; rw [hnil] at ha; exact Nat.not_lt_zero _ ha
  have hn0 := hall a N[a] (List.getElem?_eq_getElem ha)
  have hD : N.getD a nd0 = N[a] := by rw [List.getD_eq_getElem?_getD, List.getElem?_eq_getElem ha]; rfl
  rw [hD] at hk hil2 ⊢
  generalize N[a] = n at hn0 hk hil2 ⊢
  obtain ⟨kv, iv, m0, m1, m2, m3, m4, hkc, hic⟩ := hn0
  obtain ⟨ia, ic, rfl, hil, hic⟩ := hic
  have HB0 : PLift (Below w.heap.size w (w.alloc (.cells #[.pointer (some ⟨tb, 0, none⟩)] 37))) := ⟨below_new w _⟩
  have M0 := PLift.up m0
  have M2 := PLift.up m2
  have M4 := PLift.up m4
  have HK := PLift.up hk
  have HEN := PLift.up hE
  have hx0 : (w.alloc (.cells #[.pointer (some ⟨tb, 0, none⟩)] 37)).heap[w.heap.size]? = some (.cells #[.pointer (some ⟨tb, 0, none⟩)] 37) := heap_alloc_new w _
  have HX0 := PLift.up hx0
  clear hall hD hk m0 m1 m2 m3 m4 hkc hic hT hE hx0
  as_aux_lemma =>
  go_enter Tryz.func20, Tryz.ntmps20
  as_aux_lemma =>
  go_upto_region 1 with fail
  obtain ⟨W0, hW0⟩ : ∃ W0, w.alloc (.cells #[.pointer (some ⟨tb, 0, none⟩)] 37) = W0 := ⟨_, rfl⟩
  rw [hW0] at HB0 HX0 ⊢
  clear hW0
  have HT0 := PLift.up (HT.down.below HB0.down)
  have k2 : W0.cell? ⟨w.heap.size, 0, none⟩ = some (.pointer (some ⟨tb, 0, none⟩)) := (Lib.cell_of_heap HX0.down 0).trans rfl
  have t0 : W0.cell? ⟨tb, 0, none⟩ = some (.slice (some ⟨b, o, none⟩) N.length vc) := (Lib.cell_of_heap HT0.down.box 0).trans rfl
  as_aux_lemma =>
  go_upto_region 2 with fail
  clear k2 t0
  have HB1 : PLift (Below W0.heap.size W0 (W0.alloc (.cells #[.pointer (some ⟨b, o + a * 5, none⟩)] 55))) := ⟨below_new W0 _⟩
  have HX5 : PLift ((W0.alloc (.cells #[.pointer (some ⟨b, o + a * 5, none⟩)] 55)).heap[W0.heap.size]? = some (.cells #[.pointer (some ⟨b, o + a * 5, none⟩)] 55)) := ⟨heap_alloc_new W0 _⟩
  obtain ⟨W1, hW1⟩ : ∃ W1, W0.alloc (.cells #[.pointer (some ⟨b, o + a * 5, none⟩)] 55) = W1 := ⟨_, rfl⟩
  rw [hW1] at HB1 HX5 ⊢
  clear hW1
  have HT1 := PLift.up (HT0.down.below HB1.down)
  have HBW : PLift (Below w.heap.size w W1) := ⟨HB0.down.trans (HB1.down.mono HB0.down.size)⟩
  have HX1 : PLift (W1.heap[w.heap.size]? = some (.cells #[.pointer (some ⟨tb, 0, none⟩)] 37)) := ⟨by rw [HB1.down.block _ (block_lt HX0.down)]; exact HX0.down⟩
  have k2 : W1.cell? ⟨w.heap.size, 0, none⟩ = some (.pointer (some ⟨tb, 0, none⟩)) := (Lib.cell_of_heap HX1.down 0).trans rfl
  have t1 : W1.cell? ⟨tb, 2, none⟩ = some (.slice (some ⟨rb, 0, none⟩) N.length N.length) := (Lib.cell_of_heap HT1.down.box 2).trans rfl
  have ks : W1.cell? ⟨rb, a, none⟩ = some (.slice none 0 0) := by
    have hl : a < E.length := by rw [HT.down.len]; exact ha
    have he := HEN.down
    rw [List.getD_eq_getElem?_getD, List.getElem?_eq_getElem hl] at he
    rw [Lib.cell_of_heap HT1.down.row]
    simp only [List.getElem?_toArray, List.getElem?_eq_getElem hl]
    exact congrArg some he
  have k5 : W1.cell? ⟨W0.heap.size, 0, none⟩ = some (.pointer (some ⟨b, o + a * 5, none⟩)) := (Lib.cell_of_heap HX5.down 0).trans rfl
  have c4 := cell_keep HBW.down M4.down
  have hmk : ∀ wx : World, (Instr.makeSlice 23 (.int .i64 (n.items.length : Int)) (.int .i64 (n.items.length : Int))).run Tryz.prog wx = .ok (.slice (some ⟨wx.heap.size, 0, none⟩) n.items.length n.items.length) (wx.alloc (.cells (Array.replicate n.items.length (.int .i64 0)) 3)) := fun wx => by
    rw [run_make_row' 23 3 (.int .i64 0) 8 Tryz.underlying23 info_int0 rfl .i64 .i64 n.items.length (by omega) (by omega) wx, made_rep]
  as_aux_lemma =>
  go_wp2
  go_loopw [38] (fun iv wr => ∃ j : Nat, iv = .int .i64 j ∧ j ≤ n.items.length ∧ wr.heap[W1.heap.size]? = some (.cells (((List.range j).map (fun i : Nat => (i : Int)) ++ List.replicate (n.items.length - j) 0).map (Value.int .i64)).toArray 3) ∧ Below W1.heap.size W1 wr) (fun iv _ => n.items.length - (intOf iv).toNat)
  case atStart => exact ⟨0, rfl, Nat.zero_le _, by rw [heap_alloc_new]; simp, below_new W1 _⟩
  case round =>
    as_aux_lemma =>
    obtain ⟨j, rfl, hj, hrow, hbr⟩ := hrel
    have HRW := PLift.up hrow
    have HBR := PLift.up hbr
    clear hrow hbr
    by_cases hjl : j < n.items.length
    · have hjl2 : (j : Int) < (n.items.length : Int) := by omega
      have e1 : wr.cell? ⟨W1.heap.size, j, none⟩ = some (.int .i64 (((List.range j).map (fun i : Nat => (i : Int)) ++ List.replicate (n.items.length - j) 0).getD j 0)) := int_row HRW.down (by simp; omega)
      have ef : ∀ o, wr.frozen? ⟨W1.heap.size, o, none⟩ = false := fun o => Lib.frozen_of_heap HRW.down o
      generalize ((List.range j).map (fun i : Nat => (i : Int)) ++ List.replicate (n.items.length - j) 0).getD j 0 = ye at e1
      as_aux_lemma =>
      go_wp2
      go_roundw
      case rel => exact ⟨j + 1, by go_num, by omega, by rw [← rangeRow_set hjl]; simp [World.setCell, Array.getElem?_modify, HRW.down, List.map_set], HBR.down.setCell (p := ⟨W1.heap.size, j, none⟩) (Nat.le_refl _) _⟩
      case measure => simp [intOf]; omega
    · obtain rfl : j = n.items.length := by omega
      have HT2 := PLift.up (HT1.down.below HBR.down)
      have d2 : wr.cell? ⟨w.heap.size, 0, none⟩ = some (.pointer (some ⟨tb, 0, none⟩)) := cell_keep HBR.down k2
      have d5 : wr.cell? ⟨W0.heap.size, 0, none⟩ = some (.pointer (some ⟨b, o + a * 5, none⟩)) := cell_keep HBR.down k5
      have dt : wr.cell? ⟨tb, 2, none⟩ = some (.slice (some ⟨rb, 0, none⟩) N.length N.length) := cell_keep HBR.down t1
      have ds : wr.cell? ⟨rb, a, none⟩ = some (.slice none 0 0) := cell_keep HBR.down ks
      have df : ∀ o, wr.frozen? ⟨rb, o, none⟩ = false := fun o => Lib.frozen_of_heap HT2.down.row o
      have g0 := cell_keep HBR.down (cell_keep HBW.down M0.down)
      have g2 := cell_keep HBR.down (cell_keep HBW.down M2.down)
      have HBZ := PLift.up (HBW.down.trans (HBR.down.mono HBW.down.size))
      have HE1 : PLift (w.heap.size ≤ W1.heap.size) := ⟨HBW.down.size⟩
      have HFIN : PLift (∀ W, W = wr.setCell ⟨rb, a, none⟩ (.slice (some ⟨W1.heap.size, 0, none⟩) n.items.length n.items.length) → ∃ eb, Ending.returned (.slice (some ⟨W1.heap.size, 0, none⟩) n.items.length n.items.length) = .returned (.slice (some ⟨eb, 0, none⟩) n.items.length n.items.length) ∧ w.heap.size ≤ eb ∧ W.heap[eb]? = some (.cells (((List.range n.items.length).map (fun i : Nat => (i : Int))).map (Value.int .i64)).toArray 3) ∧ TabAt W tb rb (.slice (some ⟨b, o, none⟩) N.length vc) root N.length (E.set a (.slice (some ⟨eb, 0, none⟩) n.items.length n.items.length)) ∧ w.grownBy W (some rb)) := by
        refine ⟨fun W hW => ⟨W1.heap.size, rfl, HE1.down, ?_, ?_, ?_⟩⟩
        · rw [hW, set_far _ (by have := block_lt HT1.down.row; omega), HRW.down]; simp
        · rw [hW]
          exact ⟨by rw [set_far _ HT2.down.ne]; exact HT2.down.box, by simp [World.setCell, Array.getElem?_modify, HT2.down.row], by simpa using HT2.down.len, HT2.down.ne⟩
        · rw [hW]; exact (grown_of_below HBZ.down (some rb)).trans (grown_set wr rb a _)
      by_cases h10 : n.kind = 10
      · have ho : n.ord = true := by
          rcases HK.down with h | h
          · exact absurd h10 h
          · exact h
        rw [h10] at g0
        rw [ho] at g2
        clear ho h10
        as_aux_lemma =>
        go_wp2
        refine bodyPost_ret (v := .slice (some ⟨W1.heap.size, 0, none⟩) n.items.length n.items.length) (by simp only [results, Tryz.results20]; go_simp) rfl ?_
        exact HFIN.down _ rfl
      · have b10 : (n.kind == 10) = false := by simpa using h10
        clear h10
        as_aux_lemma =>
        go_wp2
        refine bodyPost_ret (v := .slice (some ⟨W1.heap.size, 0, none⟩) n.items.length n.items.length) (by simp only [results, Tryz.results20]; go_simp) rfl ?_
        exact HFIN.down _ rfl
end Go.Proofs.YtgnclgbmfmibiaaGreatDoor
/- canon: the entries of a node that are known. -/
namespace Go.Proofs.YtgnclgbmfmibiaaGreatDoor
open Go.RowKit
open Go.Lib hiding intOf
set_option maxHeartbeats 4000000 in
set_option maxRecDepth 100000 in
theorem entries_known (w : World) (v : Value) (root : Int) (N : List Nd) (tb rb a eb L c : Nat) (E : List Value) (hN : NodesAt w v N) (hT : TabAt w tb rb v root N.length E) (ha : a < N.length) (hE : E[a]? = some (.slice (some ⟨eb, 0, none⟩) L c)) :
    Calls Tryz.prog 20 #[.pointer (some ⟨tb, 0, none⟩), .int .i64 a] w fun e w' => e = .returned (.slice (some ⟨eb, 0, none⟩) L c) ∧ Below w.heap.size w w' := by
  have HT := PLift.up hT
  have HE := PLift.up hE
  have hai : (a : Int) < (N.length : Int) := by omega
  obtain ⟨va, vc, rfl, hvl, hvn⟩ := hN
  rcases hvn with hnil | ⟨b, o, rfl, -⟩
  · exfalso; rw [hnil] at ha; exact Nat.not_lt_zero _ ha
  have HB0 : PLift (Below w.heap.size w (w.alloc (.cells #[.pointer (some ⟨tb, 0, none⟩)] 37))) := ⟨below_new w _⟩
  have HX0 : PLift ((w.alloc (.cells #[.pointer (some ⟨tb, 0, none⟩)] 37)).heap[w.heap.size]? = some (.cells #[.pointer (some ⟨tb, 0, none⟩)] 37)) := ⟨heap_alloc_new w _⟩
  clear hT hE
  as_aux_lemma =>
  go_enter Tryz.func20, Tryz.ntmps20
  as_aux_lemma =>
  go_upto_region 1 with fail
  obtain ⟨W0, hW0⟩ : ∃ W0, w.alloc (.cells #[.pointer (some ⟨tb, 0, none⟩)] 37) = W0 := ⟨_, rfl⟩
  rw [hW0] at HB0 HX0 ⊢
  clear hW0
  have HT0 := PLift.up (HT.down.below HB0.down)
  have k2 : W0.cell? ⟨w.heap.size, 0, none⟩ = some (.pointer (some ⟨tb, 0, none⟩)) := (Lib.cell_of_heap HX0.down 0).trans rfl
  have t0 : W0.cell? ⟨tb, 0, none⟩ = some (.slice (some ⟨b, o, none⟩) N.length vc) := (Lib.cell_of_heap HT0.down.box 0).trans rfl
  as_aux_lemma =>
  go_upto_region 2 with fail
  clear k2 t0
  have HB1 : PLift (Below W0.heap.size W0 (W0.alloc (.cells #[.pointer (some ⟨b, o + a * 5, none⟩)] 55))) := ⟨below_new W0 _⟩
  obtain ⟨W1, hW1⟩ : ∃ W1, W0.alloc (.cells #[.pointer (some ⟨b, o + a * 5, none⟩)] 55) = W1 := ⟨_, rfl⟩
  rw [hW1] at HB1 ⊢
  clear hW1
  have HT1 := PLift.up (HT0.down.below HB1.down)
  have HX1 : PLift (W1.heap[w.heap.size]? = some (.cells #[.pointer (some ⟨tb, 0, none⟩)] 37)) := ⟨by rw [HB1.down.block _ (block_lt HX0.down)]; exact HX0.down⟩
  have k2 : W1.cell? ⟨w.heap.size, 0, none⟩ = some (.pointer (some ⟨tb, 0, none⟩)) := (Lib.cell_of_heap HX1.down 0).trans rfl
  have t1 : W1.cell? ⟨tb, 2, none⟩ = some (.slice (some ⟨rb, 0, none⟩) N.length N.length) := (Lib.cell_of_heap HT1.down.box 2).trans rfl
  have ks : W1.cell? ⟨rb, a, none⟩ = some (.slice (some ⟨eb, 0, none⟩) L c) := by
    rw [Lib.cell_of_heap HT1.down.row]
    simpa using HE.down
  as_aux_lemma =>
  go_wp2
  refine bodyPost_ret (v := .slice (some ⟨eb, 0, none⟩) L c) (by simp only [results, Tryz.results20]; go_simp) rfl ?_
  exact ⟨rfl, HB0.down.trans (HB1.down.mono HB0.down.size)⟩
end Go.Proofs.YtgnclgbmfmibiaaGreatDoor
/- strings.Builder's writers, with word of what else of the caller's stands: every block but the builder's and the rows of bytes. -/
namespace Go.Proofs.YtgnclgbmfmibiaaGreatDoor
open Go.RowKit
open Go.Lib hiding intOf
theorem own_typed {B : Nat} {e size n : Nat} {v : Value} {xs : List Value} {w : World} (h : w.ownsRow B e size v n xs) (g : Nat) (hv : v.ownBlock = some g) : ∃ c fz, w.heap[g]? = some (.cells c e fz) := by
  rcases h.2 with ⟨rfl, -⟩ | ⟨g', cap, cur, rfl, -, h2, -⟩
  · cases hv
  · cases Option.some.inj hv
    exact ⟨cur, _, h2⟩
theorem bcheck_kept (B b : Nat) (bs : List Value) (w : World) (h : Lib.IsBuilder 42 5 B b bs w) :
    Calls Tryz.prog 36 #[.pointer (some ⟨b, 0, none⟩)] w fun e w' => e = .returned (.tuple #[]) ∧ (Lib.BuilderAt 42 5 B b (.pointer (some ⟨b, 0, none⟩)) bs w' ∧ Below B w w' ∧ OthersKept 5 (some b) w w') := by
  rcases h with h | h
  · refine (bcheck_fresh b w h.cell0 h.shape h.frozen0).mono ?_
    rintro e w' ⟨rfl, rfl⟩
    exact ⟨rfl, h.used _, (Below.refl B w).setCell (p := ⟨b, 0, none⟩) h.1 _, (OthersKept.refl _ _ w).setCell ⟨b, 0, none⟩ rfl _⟩
  · refine (bcheck_used b w h.cell0).mono ?_
    rintro e w' ⟨rfl, rfl⟩
    exact ⟨rfl, h, Below.refl B _, OthersKept.refl _ _ _⟩
set_option maxHeartbeats 1000000 in
set_option maxRecDepth 100000 in
theorem bwrite_kept (B b : Nat) (l : List UInt8) (s : ByteArray) (w : World) (h : Lib.IsBuilder 42 5 B b (byteCells l) w) (hlen : l.length + s.size ≤ 140737488355328) (hBw : B ≤ w.heap.size) :
    Calls Tryz.prog 18 #[.pointer (some ⟨b, 0, none⟩), .string s] w fun e w' => e = .returned (.tuple #[.int .i64 s.size, .nilIface]) ∧ (Lib.IsBuilder 42 5 B b (byteCells (l ++ s.data.toList)) w' ∧ Below B w w' ∧ OthersKept 5 (some b) w w') := by
  go_enter Tryz.func18, Tryz.ntmps18
  go_wp2_with (go_at_call 36; refine (bcheck_kept B b _ _ h).mono ?_)
  rintro e w1 ⟨rfl, h1, hb1, ho1⟩
  obtain ⟨hB, v, hbk, hown, hne⟩ := h1
  rw [byteCells_length] at hown
  have c0 : w1.cell? ⟨b, 0, none⟩ = some (.pointer (some ⟨b, 0, none⟩)) := by rw [Lib.cell_of_heap hbk]; rfl
  have c1 : w1.cell? ⟨b, 1, none⟩ = some v := by rw [Lib.cell_of_heap hbk]; rfl
  have HO1 := PLift.up ho1
  have HOW := PLift.up hown
  clear ho1
  go_wp2_with (at_builtin; refine app_str _ rfl _ _ rfl rfl (B := B) hown s rfl hlen (Nat.le_trans hBw hb1.size) ?_)
  intro v' w2 hown' hb2 hg
  have HO2 : PLift (OthersKept 5 (some b) w w2) := ⟨HO1.down.grown hg fun g hv => own_typed HOW.down g hv⟩
  have hlt : b < w1.heap.size := (Array.getElem?_eq_some_iff.1 hbk).1
  have hb3 : w2.heap[b]? = some (.cells #[.pointer (some ⟨b, 0, none⟩), v] 42 (0, 0)) := by
    rw [hg.block b hlt (fun e => hne e.symm)]
    exact hbk
  have d0 : w2.cell? ⟨b, 0, none⟩ = some (.pointer (some ⟨b, 0, none⟩)) := by rw [Lib.cell_of_heap hb3]; rfl
  have d1 : w2.cell? ⟨b, 1, none⟩ = some v := by rw [Lib.cell_of_heap hb3]; rfl
  have f1 : w2.frozen? ⟨b, 1, none⟩ = false := Lib.frozen_of_heap hb3 1
  obtain ⟨ao, cap, rfl⟩ := hown'.slice
  go_wp2
  go_ret2
  refine ⟨rfl, .inr ?_, ?_, ?_⟩
  · exact Lib.BuilderAt.put (T := 42) (e := 5) hB hb3 (bs' := byteCells (l ++ s.data.toList)) (by rw [byteCells_length, show l.length + s.size = (l ++ s.data.toList).length from by simp]; exact hown') (by decide)
  · exact (hb1.trans hb2).setCell (p := ⟨b, 1, none⟩) hB _
  · exact HO2.down.setCell ⟨b, 1, none⟩ rfl _
set_option maxHeartbeats 1000000 in
set_option maxRecDepth 100000 in
theorem bbyte_kept (B b : Nat) (l : List UInt8) (c : UInt8) (w : World) (h : Lib.IsBuilder 42 5 B b (byteCells l) w) (hlen : l.length + 1 ≤ 140737488355328) (hBw : B ≤ w.heap.size) :
    Calls Tryz.prog 19 #[.pointer (some ⟨b, 0, none⟩), .int .u8 c.toNat] w fun e w' => e = .returned .nilIface ∧ (Lib.IsBuilder 42 5 B b (byteCells (l ++ [c])) w' ∧ Below B w w' ∧ OthersKept 5 (some b) w w') := by
  obtain ⟨i0, hi0, hz0, hz1, hz2⟩ := info_parts info_u8
  have HI0 := PLift.up (And.intro hi0 (And.intro hz0 (And.intro hz1 hz2)))
  have HBC := PLift.up (bcheck_kept B b _ _ h)
  clear hi0 hz0 hz1 hz2 h
  as_aux_lemma =>
  go_enter Tryz.func19, Tryz.ntmps19
  as_aux_lemma =>
  go_upto_region 2 with (go_at_call 36; refine (HBC.down).mono ?_; rintro e w1 ⟨rfl, h1, hb1, ho1⟩; have H1 := PLift.up h1; have HB1 := PLift.up hb1; have HO1 := PLift.up ho1; clear h1 hb1 ho1)
  obtain ⟨hB, v, hbk, hown, hne⟩ := H1.down
  rw [byteCells_length] at hown
  have c0 : w1.cell? ⟨b, 0, none⟩ = some (.pointer (some ⟨b, 0, none⟩)) := by rw [Lib.cell_of_heap hbk]; rfl
  have c1 : w1.cell? ⟨b, 1, none⟩ = some v := by rw [Lib.cell_of_heap hbk]; rfl
  have HOWN := PLift.up (World.ownsRow.alloc hown (.cells #[.int .u8 c.toNat] 5))
  have HB := PLift.up hB
  have HBK := PLift.up hbk
  have HNE := PLift.up hne
  have HBS : PLift (B ≤ (w1.alloc (.cells #[.int .u8 c.toNat] 5)).heap.size) := ⟨by rw [size_new]; have := HB1.down.size; omega⟩
  have HNW : PLift ((w1.alloc (.cells #[.int .u8 c.toNat] 5)).cell? ⟨w1.heap.size, 0, none⟩ = some (.int .u8 c.toNat)) := ⟨(Lib.cell_of_heap (heap_alloc_new w1 _) 0).trans rfl⟩
  have HL := PLift.up hlen
  clear hown hB hbk hne hlen
  as_aux_lemma =>
  go_wp2_with (refine wpList_append_new _ rfl _ _ 22 rfl B 5 i0 (.int .u8 0) 1 1 Tryz.underlying22 HI0.down.1 HI0.down.2.1 HI0.down.2.2.1 HI0.down.2.2.2 rfl (by decide) v l.length (byteCells l) rfl HOWN.down ⟨w1.heap.size, 0, none⟩ 1 1 [.int .u8 c.toNat] rfl rfl (by intro j2 u hj2; match j2, hj2 with | 0, hj2 => simp only [List.getElem?_cons_zero, Option.some.injEq] at hj2; subst hj2; exact HNW.down | j2 + 1, hj2 => simp at hj2) (by simp [Value.oneCell']) (by decide) (by have := HL.down; unfold maxLen; omega) (by have := HL.down; omega) HBS.down ?_)
  intro v' w2 hown' hg hpl
  have hlt : b < w1.heap.size := block_lt HBK.down
  have hb3 : w2.heap[b]? = some (.cells #[.pointer (some ⟨b, 0, none⟩), v] 42 (0, 0)) := by
    rw [hg.block b (by rw [size_new]; omega) (fun e => HNE.down e.symm), Lib.alloc_old _ _ _ hlt]
    exact HBK.down
  have d1 : w2.cell? ⟨b, 1, none⟩ = some v := by rw [Lib.cell_of_heap hb3]; rfl
  have f1 : w2.frozen? ⟨b, 1, none⟩ = false := Lib.frozen_of_heap hb3 1
  have HG : PLift (Below B w1 w2) := ⟨((Below.refl B w1).alloc (by have := HB1.down.size; omega) _).grown hg HBS.down (fun k hk => (HOWN.down.lt k hk).1)⟩
  have HPUT := PLift.up (Lib.BuilderAt.put (T := 42) (e := 5) HB.down hb3 (bs' := byteCells (l ++ [c])) (v' := v') (by rw [byteCells_length, byteCells_append, show (l ++ [c]).length = l.length + 1 from by simp]; exact hown') (by decide))
  have HO2 : PLift (OthersKept 5 (some b) w w2) := ⟨(HO1.down.alloc _).grown hg fun g hv => own_typed HOWN.down g hv⟩
  obtain ⟨A4, cc4, hv4⟩ := own_shape hown'
  subst hv4
  clear hown' hg hpl hb3
  as_aux_lemma =>
  go_wp2
  refine bodyPost_ret (v := .nilIface) (by simp only [results, Tryz.results19]; go_simp) rfl ?_
  exact ⟨rfl, .inr HPUT.down, (HB1.down.trans HG.down).setCell (p := ⟨b, 1, none⟩) HB.down _, HO2.down.setCell ⟨b, 1, none⟩ rfl _⟩
end Go.Proofs.YtgnclgbmfmibiaaGreatDoor
/- canon: the text that write appends, and the world of write. -/
namespace Go.Proofs.YtgnclgbmfmibiaaGreatDoor
open Go.RowKit
open Go.Lib hiding intOf
def joinT (rec : Nat → Option (List UInt8)) (n : Nd) (l : List UInt8) (i : Nat) : Option (List UInt8) := (rec (n.items.getD i 0).toNat).map fun t => (l ++ (if i = 0 then [] else [44])) ++ t
/-- the text of a node (scalars but bytes, and lists) -/
def wrT (N : List Nd) : Nat → Nat → Option (List UInt8)
  | 0, _ => none
  | f + 1, a => if (N.getD a nd0).kind = 9 then ((List.range' 0 (N.getD a nd0).items.length).foldlM (joinT (wrT N f) (N.getD a nd0)) [91]).map (· ++ [93]) else if (N.getD a nd0).kind < 9 then some (leafF (N.getD a nd0)).data.toList else none
/-- the row of the entries of a list of L items -/
def RowOf (w : World) (eb L : Nat) : Prop := w.heap[eb]? = some (.cells (((List.range L).map (fun i : Nat => (i : Int))).map (Value.int .i64)).toArray 3)
def entOk (w : World) (N : List Nd) (E : List Value) (a : Nat) : Prop := E.getD a nilS = nilS ∨ ∃ eb, E.getD a nilS = .slice (some ⟨eb, 0, none⟩) (N.getD a nd0).items.length (N.getD a nd0).items.length ∧ RowOf w eb (N.getD a nd0).items.length
/-- the world of write -/
structure WW (w0 : World) (v : Value) (root : Int) (N : List Nd) (tb rb B b : Nat) (E : List Value) (l : List UInt8) (w : World) : Prop where
  nodes : NodesAt w0 v N
  below : Below w0.heap.size w0 w
  tab : TabAt w tb rb v root N.length E
  ents : ∀ a, a < N.length → entOk w N E a
  bld : Lib.IsBuilder 42 5 B b (byteCells l) w
  loB : w0.heap.size ≤ B
  lor : w0.heap.size ≤ rb
  hiB : B ≤ w.heap.size
section
variable {w0 w w' : World} {v : Value} {root : Int} {N : List Nd} {tb rb B b : Nat} {E : List Value} {l l' : List UInt8}
theorem kept_cells {e t : TypeId} {k b : Nat} {c : Array Value} {fz : Nat × Nat} (h : OthersKept e (some b) w w') (hk : w.heap[k]? = some (.cells c t fz)) (hb : k ≠ b) (ht : t ≠ e) : w'.heap[k]? = some (.cells c t fz) :=
  h k _ hk (fun e => hb (Option.some.inj e)) fun c' fz' e => by cases e; exact ht rfl
theorem bld_block (h : Lib.IsBuilder 42 5 B b (byteCells l) w) : ∃ c fz, w.heap[b]? = some (.cells c 42 fz) := by
  rcases h with ⟨_, v, h, _⟩ | ⟨_, v, h, _⟩
  · exact ⟨_, _, h⟩
  · exact ⟨_, _, h⟩
theorem ne_bld {k t : Nat} {c : Array Value} {fz : Nat × Nat} (h : Lib.IsBuilder 42 5 B b (byteCells l) w) (hk : w.heap[k]? = some (.cells c t fz)) (ht : t ≠ 42) : k ≠ b := by
  rintro rfl
  obtain ⟨c', fz', h2⟩ := bld_block h
  rw [hk] at h2
  cases h2
  exact ht rfl
/-- behind a write to the builder -/
theorem WW.wrote (h : WW w0 v root N tb rb B b E l w) (h1 : Lib.IsBuilder 42 5 B b (byteCells l') w') (h2 : Below B w w') (h3 : OthersKept 5 (some b) w w') : WW w0 v root N tb rb B b E l' w' where
  nodes := h.nodes
  below := h.below.trans (h2.mono h.loB)
  tab := ⟨kept_cells h3 h.tab.box (ne_bld h.bld h.tab.box (by decide)) (by decide), kept_cells h3 h.tab.row (ne_bld h.bld h.tab.row (by decide)) (by decide), h.tab.len, h.tab.ne⟩
  ents := fun a ha => by
    rcases h.ents a ha with h4 | ⟨eb, h4, h5⟩
    · exact .inl h4
    · exact .inr ⟨eb, h4, kept_cells h3 h5 (ne_bld h.bld h5 (by decide)) (by decide)⟩
  bld := h1
  loB := h.loB
  lor := h.lor
  hiB := Nat.le_trans h.hiB h2.size
/-- behind a call that touches nothing of the caller's -/
theorem WW.fresh (h : WW w0 v root N tb rb B b E l w) (h2 : Below w.heap.size w w') : WW w0 v root N tb rb B b E l w' where
  nodes := h.nodes
  below := h.below.trans (h2.mono h.below.size)
  tab := h.tab.below h2
  ents := fun a ha => by
    rcases h.ents a ha with h4 | ⟨eb, h4, h5⟩
    · exact .inl h4
    · exact .inr ⟨eb, h4, by unfold RowOf at *; rw [h2.block eb (Array.getElem?_eq_some_iff.1 h5).1]; exact h5⟩
  bld := by
    rcases h.bld with ⟨q1, x, q2, q3, q4⟩ | ⟨q1, x, q2, q3, q4⟩
    · exact .inl ⟨q1, x, by rw [h2.block b (Array.getElem?_eq_some_iff.1 q2).1]; exact q2, rows_below q3 h2, q4⟩
    · exact .inr ⟨q1, x, by rw [h2.block b (Array.getElem?_eq_some_iff.1 q2).1]; exact q2, rows_below q3 h2, q4⟩
  loB := h.loB
  lor := h.lor
  hiB := Nat.le_trans h.hiB h2.size
/-- behind the entries of a node, not known before -/
theorem WW.learnt (h : WW w0 v root N tb rb B b E l w) {a eb : Nat} (ha : a < N.length) (_ : w.heap.size ≤ eb) (h2 : RowOf w' eb (N.getD a nd0).items.length)
    (h3 : TabAt w' tb rb v root N.length (E.set a (.slice (some ⟨eb, 0, none⟩) (N.getD a nd0).items.length (N.getD a nd0).items.length))) (h4 : w.grownBy w' (some rb)) :
    WW w0 v root N tb rb B b (E.set a (.slice (some ⟨eb, 0, none⟩) (N.getD a nd0).items.length (N.getD a nd0).items.length)) l w' := by
  have hkeep : ∀ (k : Nat) (c : Array Value) (t : TypeId) (fz : Nat × Nat), w.heap[k]? = some (.cells c t fz) → t ≠ 23 → w'.heap[k]? = some (.cells c t fz) := by
    intro k c t fz hk ht
    rw [h4.block k (Array.getElem?_eq_some_iff.1 hk).1 ?_]
    · exact hk
    · intro e
      have := Option.some.inj e
      subst this
      have := h.tab.row
      rw [hk] at this
      cases this
      exact ht rfl
  refine ⟨h.nodes, h.below.grown h4 h.below.size (fun k hk => by rw [← Option.some.inj hk]; exact h.lor), h3, ?_, ?_, h.loB, h.lor, Nat.le_trans h.hiB h4.size⟩
  · intro j hj
    unfold entOk
    by_cases e : j = a
    · subst e
      refine .inr ⟨eb, ?_, h2⟩
      rw [List.getD_eq_getElem?_getD, List.getElem?_set_self (by rw [h.tab.len]; exact ha)]
      rfl
    · rw [List.getD_eq_getElem?_getD, List.getElem?_set_ne (fun q => e q.symm), ← List.getD_eq_getElem?_getD]
      rcases h.ents j hj with h5 | ⟨eb', h5, h6⟩
      · exact .inl h5
      · exact .inr ⟨eb', h5, hkeep _ _ _ _ h6 (by decide)⟩
  · rcases h.bld with ⟨q1, x, q2, q3, q4⟩ | ⟨q1, x, q2, q3, q4⟩
    · refine .inl ⟨q1, x, hkeep _ _ _ _ q2 (by decide), ?_, q4⟩
      refine ⟨q3.1, ?_⟩
      rcases q3.2 with q5 | ⟨g, cap, cur, q5, q6, q7, q8⟩
      · exact .inl q5
      · exact .inr ⟨g, cap, cur, q5, q6, hkeep _ _ _ _ q7 (by decide), q8⟩
    · refine .inr ⟨q1, x, hkeep _ _ _ _ q2 (by decide), ?_, q4⟩
      refine ⟨q3.1, ?_⟩
      rcases q3.2 with q5 | ⟨g, cap, cur, q5, q6, q7, q8⟩
      · exact .inl q5
      · exact .inr ⟨g, cap, cur, q5, q6, hkeep _ _ _ _ q7 (by decide), q8⟩
end
end Go.Proofs.YtgnclgbmfmibiaaGreatDoor
/- canon: (*table).write where nodes are scalars (not bytes) or lists. -/
namespace Go.Proofs.YtgnclgbmfmibiaaGreatDoor
open Go.RowKit
open Go.Lib hiding intOf
def monoE (E E' : List Value) : Prop := ∀ j, E.getD j nilS ≠ nilS → E'.getD j nilS = E.getD j nilS
theorem foldJ_len {rec : Nat → Option (List UInt8)} {n : Nd} : ∀ (r : List Nat) (l T : List UInt8), r.foldlM (joinT rec n) l = some T → l.length ≤ T.length := by
  intro r
  induction r with
  | nil => intro l T h; cases Option.some.inj h; exact Nat.le_refl _
  | cons i r ih =>
    intro l T h
    obtain ⟨l1, h1, h2⟩ := foldM_cons h
    have := ih l1 T h2
    unfold joinT at h1
    obtain ⟨t, -, rfl⟩ := Option.map_eq_some_iff.1 h1
    simp only [List.length_append] at this
    omega
theorem entries_ww {w0 w : World} {v : Value} {root : Int} {N : List Nd} {tb rb B b a : Nat} {E : List Value} {l : List UInt8} (hW : WW w0 v root N tb rb B b E l w) (ha : a < N.length) (hk : (N.getD a nd0).kind = 9) (hil : (N.getD a nd0).items.length ≤ 4294967296) :
    Calls Tryz.prog 20 #[.pointer (some ⟨tb, 0, none⟩), .int .i64 a] w fun e w' => ∃ eb E1, e = .returned (.slice (some ⟨eb, 0, none⟩) (N.getD a nd0).items.length (N.getD a nd0).items.length) ∧ WW w0 v root N tb rb B b E1 l w' ∧ E1.getD a nilS = .slice (some ⟨eb, 0, none⟩) (N.getD a nd0).items.length (N.getD a nd0).items.length ∧ monoE E E1 := by
  have hN := hW.nodes.below hW.below
  rcases hW.ents a ha with h | ⟨eb, h, hr⟩
  · refine (entries_plain w v root N tb rb a E hN hW.tab ha h (.inl (by omega)) hil).mono ?_
    rintro e w' ⟨eb, rfl, h1, h2, h3, h4⟩
    refine ⟨eb, _, rfl, hW.learnt ha h1 h2 h3 h4, ?_, ?_⟩
    · rw [List.getD_eq_getElem?_getD, List.getElem?_set_self (by rw [hW.tab.len]; exact ha)]; rfl
    · intro j hj
      have hne : a ≠ j := by rintro rfl; exact hj h
      rw [List.getD_eq_getElem?_getD, List.getElem?_set_ne hne, ← List.getD_eq_getElem?_getD]
  · have hE : E[a]? = some (.slice (some ⟨eb, 0, none⟩) (N.getD a nd0).items.length (N.getD a nd0).items.length) := by
      have hl : a < E.length := by rw [hW.tab.len]; exact ha
      rw [List.getD_eq_getElem?_getD, List.getElem?_eq_getElem hl] at h
      rw [List.getElem?_eq_getElem hl]
      exact congrArg some h
    refine (entries_known w v root N tb rb a eb _ _ E hN hW.tab ha hE).mono ?_
    rintro e w' ⟨rfl, hb⟩
    exact ⟨eb, E, rfl, hW.fresh hb, h, fun _ _ => rfl⟩
set_option maxHeartbeats 4000000 in
set_option maxRecDepth 100000 in
theorem write_any (w0 : World) (v : Value) (root : Int) (N : List Nd) (tb rb B b : Nat) (hR : InRange N) (hT : ∀ n ∈ N, n.kind ≠ 6 ∧ n.text.size ≤ 1073741824 ∧ n.items.length ≤ 4294967296) : ∀ (f a : Nat) (t : List UInt8) (E : List Value) (l : List UInt8) (w : World), wrT N f a = some t → a < N.length → l.length + t.length ≤ 1073741824 → WW w0 v root N tb rb B b E l w →
    Calls Tryz.prog 10 #[.pointer (some ⟨tb, 0, none⟩), .pointer (some ⟨b, 0, none⟩), .int .i64 a] w fun e w' => e = .returned (.tuple #[]) ∧ ∃ E', WW w0 v root N tb rb B b E' (l ++ t) w' ∧ monoE E E' := by
  intro f
  induction f with
  | zero => intro a t E l w h; cases h
  | succ f ih =>
    intro a t E l w h ha hlen hW
    have HIH := PLift.up ih
    have HW := PLift.up hW
    have hai : (a : Int) < (N.length : Int) := by omega
    obtain ⟨va, vc, hva, hvl, hvn⟩ := hW.nodes
    subst hva
    rcases hvn with hnil | ⟨nb, o, rfl, hall⟩
    · exfalso; rw [hnil] at ha; exact Nat.not_lt_zero _ ha
    have hn0 := hall a N[a] (List.getElem?_eq_getElem ha)
    have hD : N.getD a nd0 = N[a] := by rw [List.getD_eq_getElem?_getD, List.getElem?_eq_getElem ha]; rfl
    have hrng := hR N[a] (List.getElem_mem ha)
    have htx := hT N[a] (List.getElem_mem ha)
    have HD := PLift.up hD
    unfold wrT at h
    rw [hD] at h
    obtain ⟨n, hn⟩ : ∃ n, N[a] = n := ⟨_, rfl⟩
    rw [hn] at hn0 hrng htx h HD
    have HND := PLift.up hn0
    have HRN := PLift.up hrng
    have HTX := PLift.up htx
    obtain ⟨kv, iv, m0, m1, m2, m3, m4, hkc, hic⟩ := hn0
    have M0 := PLift.up m0
    have M4 := PLift.up m4
    have t0 : w.cell? ⟨tb, 0, none⟩ = some (.slice (some ⟨nb, o, none⟩) N.length vc) := (Lib.cell_of_heap hW.tab.box 0).trans rfl
    have c0 := cell_keep hW.below m0
    have HLF := PLift.up fun wr hw => leaf_any n wr nb (o + a * 5) (HND.down.below hw) htx.2.1 htx.1
    obtain ⟨k, hk⟩ : ∃ k, n.kind = k := ⟨_, rfl⟩
    rw [hk] at c0 M0 h
    have HK := PLift.up hk
    by_cases h9 : k = 9
    · rw [if_pos h9] at h
      obtain ⟨T, hT1, ht⟩ := Option.map_eq_some_iff.1 h
      have HT1 := PLift.up hT1
      have HTt := PLift.up ht
      have HLEN : PLift (l.length + T.length + 1 ≤ 1073741824) := ⟨by rw [← ht] at hlen; simp at hlen; omega⟩
      have HJ := PLift.up (foldJ_len _ _ _ hT1)
      have HKN : PLift ((N.getD a nd0).kind = 9) := ⟨by rw [HD.down, HK.down, h9]⟩
      have HA := PLift.up ha
      subst h9
      have HBY := PLift.up (bbyte_kept B b l 91 w hW.bld (by have := HLEN.down; omega) hW.hiB)
      have HEN := PLift.up fun (l1 : List UInt8) (wr : World) (hr : WW w0 (.slice (some ⟨nb, o, none⟩) N.length vc) root N tb rb B b E l1 wr) => entries_ww hr ha HKN.down (by rw [HD.down]; exact htx.2.2)
      rw [HD.down] at HEN
      clear h ih hW hvl hall hD hrng htx m0 m1 m2 m3 m4 hkc hk ht hlen hn HLF hT1 ha
      as_aux_lemma =>
      go_enter Tryz.func10, Tryz.ntmps10
      as_aux_lemma =>
      go_wp2_with (first
        | (go_at_call 19; refine (HBY.down).mono ?_; rintro e w1 ⟨rfl, hb2, hb3, hb4⟩; have HW1 := PLift.up (HW.down.wrote hb2 hb3 hb4); clear hb2 hb3 hb4)
        | (go_at_call 20; refine (HEN.down _ _ HW1.down).mono ?_; rintro e w2 ⟨eb, E1, rfl, hw2, he2, hm2⟩; have HW2 := PLift.up hw2; have HE2 := PLift.up he2; have HM2 := PLift.up hm2; clear hw2 he2 hm2))
      go_loopw [69] (fun iv wr => ∃ (i m : Nat) (lj : List UInt8) (E2 : List Value), iv = .int .i64 i ∧ i + m = n.items.length ∧ (List.range' i m).foldlM (joinT (wrT N f) n) lj = some T ∧ WW w0 (.slice (some ⟨nb, o, none⟩) N.length vc) root N tb rb B b E2 (l ++ lj) wr ∧ E2.getD a nilS = .slice (some ⟨eb, 0, none⟩) n.items.length n.items.length ∧ monoE E E2) (fun iv _ => n.items.length - (intOf iv).toNat)
      case atStart => exact ⟨0, n.items.length, [91], E1, rfl, by omega, HT1.down, HW2.down, HE2.down, HM2.down⟩
      case round =>
        as_aux_lemma =>
        obtain ⟨i, m, lj, E2, rfl, him, hrest, hwj, he3, hm3⟩ := hrel
        have HWj := PLift.up hwj
        have HE3 := PLift.up he3
        have HM3 := PLift.up hm3
        have d0 := cell_keep hwj.below M0.down
        have t0 : wr.cell? ⟨tb, 0, none⟩ = some (.slice (some ⟨nb, o, none⟩) N.length vc) := (Lib.cell_of_heap hwj.tab.box 0).trans rfl
        have d4 := cell_keep hwj.below M4.down
        have hrow : RowOf wr eb n.items.length := by
          rcases hwj.ents a HA.down with h5 | ⟨eb', h5, h6⟩
          · rw [he3] at h5; cases h5
          · rw [he3, HD.down] at h5
            rw [HD.down] at h6
            cases h5
            exact h6
        have HROW := PLift.up hrow
        cases m with
        | succ m =>
          rw [List.range'_succ] at hrest
          obtain ⟨l1, hs0, hrest⟩ := foldM_cons hrest
          have HJ2 := PLift.up (foldJ_len _ _ _ hrest)
          have hil' : i < n.items.length := by omega
          have hil2 : (i : Int) < (n.items.length : Int) := by omega
          have ce : wr.cell? ⟨eb, i, none⟩ = some (.int .i64 i) := by
            have := int_row (k := i) hrow (by simp; omega)
            rw [this, List.getD_eq_getElem?_getD]
            simp [hil']
          unfold joinT at hs0
          obtain ⟨t2, ht2, rfl⟩ := Option.map_eq_some_iff.1 hs0
          have hx := HRN.down.2 n.items[i] (List.getElem_mem hil')
          have hg : n.items.getD i 0 = n.items[i] := by rw [List.getD_eq_getElem?_getD, List.getElem?_eq_getElem hil']; rfl
          rw [hg] at ht2
          obtain ⟨ia, ic, rfl, hil, hic2⟩ := hic
          rcases hic2 with hnil | ⟨lb, lo, rfl, hcells⟩
          · exfalso; rw [hnil] at hil'; exact Nat.not_lt_zero _ hil'
          have hc0 := hcells i n.items[i] (List.getElem?_eq_getElem hil')
          have hc1 := cell_keep hwj.below hc0
          have HC0 := PLift.up hc0
          clear hc0
          generalize n.items[i] = x at hx hc1 ht2 HC0
          obtain ⟨p, rfl⟩ := Int.eq_ofNat_of_zero_le hx.1
          have hp : p < N.length := by have := hx.2; omega
          simp only [Int.toNat_natCast] at ht2
          have HREC := PLift.up fun (sep : List UInt8) (wq : World) (hq : WW w0 (.slice (some ⟨nb, o, none⟩) N.length vc) root N tb rb B b E2 (l ++ lj ++ sep) wq) (hl : (l ++ lj ++ sep).length + t2.length ≤ 1073741824) => HIH.down p t2 E2 (l ++ lj ++ sep) wq ht2 hp hl hq
          have HREST := PLift.up hrest
          by_cases hi0 : i = 0
          · have hnp : ¬ (0 : Int) < (i : Int) := by omega
            rw [if_pos hi0] at HJ2 HREST
            have HI0 := PLift.up hi0
            clear hi0
            have HR1 := PLift.up (HREC.down [] wr (by rw [List.append_nil]; exact HWj.down) (by have := HLEN.down; have := HJ2.down; simp only [List.length_append, List.append_nil] at this ⊢; omega))
            clear hcells hx hg hrest hs0 hwj he3 hm3 ht2 hrow
            as_aux_lemma =>
            go_wp2_with (go_at_call 10; refine (HR1.down).mono ?_; rintro e w3 ⟨rfl, E3, hw3, hm3⟩; have HW3 := PLift.up hw3; have HM4 := PLift.up hm3; clear hw3 hm3)
            go_roundw
            case rel => exact ⟨i + 1, m, _, E3, by go_num, by omega, HREST.down, by have := HW3.down; simp only [List.append_nil, List.append_assoc] at this ⊢; exact this, by rw [HM4.down a (by rw [HE3.down]; intro h; cases h)]; exact HE3.down, fun j hj => by rw [HM4.down j (by rw [HM3.down j hj]; exact hj)]; exact HM3.down j hj⟩
            case measure => simp [intOf]; omega
          · have hpos : (0 : Int) < (i : Int) := by omega
            rw [if_neg hi0] at HJ2 HREST
            have HB4 := PLift.up (bbyte_kept B b (l ++ lj) 44 wr HWj.down.bld (by have := HLEN.down; have := HJ2.down; simp only [List.length_append, List.length_cons, List.length_nil] at this ⊢; omega) HWj.down.hiB)
            have HLN : PLift ((l ++ lj ++ [44]).length + t2.length ≤ 1073741824) := ⟨by have := HLEN.down; have := HJ2.down; simp only [List.length_append, List.length_cons, List.length_nil] at this ⊢; omega⟩
            clear hcells hx hg hrest hs0 hwj he3 hm3 ht2 hrow
            as_aux_lemma =>
            go_wp2_with (first
              | (go_at_call 19; refine (HB4.down).mono ?_; rintro e w3 ⟨rfl, hb2, hb3, hb4⟩; have HW3 := PLift.up (HWj.down.wrote hb2 hb3 hb4); clear hb2 hb3 hb4; have d0 := cell_keep HW3.down.below M0.down; have t0 : w3.cell? ⟨tb, 0, none⟩ = some (.slice (some ⟨nb, o, none⟩) N.length vc) := (Lib.cell_of_heap HW3.down.tab.box 0).trans rfl; have d4 := cell_keep HW3.down.below M4.down; have hc1 := cell_keep HW3.down.below HC0.down)
              | (go_at_call 10; refine (HREC.down [44] _ HW3.down HLN.down).mono ?_; rintro e w4 ⟨rfl, E3, hw4, hm4⟩; have HW4 := PLift.up hw4; have HM4 := PLift.up hm4; clear hw4 hm4))
            go_roundw
            case rel => exact ⟨i + 1, m, _, E3, by go_num, by omega, HREST.down, by have := HW4.down; simp only [List.append_assoc] at this ⊢; exact this, by rw [HM4.down a (by rw [HE3.down]; intro h; cases h)]; exact HE3.down, fun j hj => by rw [HM4.down j (by rw [HM3.down j hj]; exact hj)]; exact HM3.down j hj⟩
            case measure => simp [intOf]; omega
        | zero =>
          have hie : i = n.items.length := by omega
          subst hie
          have hse : lj = T := Option.some.inj hrest
          subst hse
          have HB5 := PLift.up (bbyte_kept B b (l ++ lj) 93 wr hwj.bld (by have := HLEN.down; simp only [List.length_append]; omega) hwj.hiB)
          clear hrest hwj he3 hm3 hrow
          as_aux_lemma =>
          go_wp2_with (go_at_call 19; refine (HB5.down).mono ?_; rintro e w3 ⟨rfl, hb2, hb3, hb4⟩; have HW3 := PLift.up (HWj.down.wrote hb2 hb3 hb4); clear hb2 hb3 hb4)
          go_end0
          exact ⟨rfl, E2, by rw [← HTt.down]; have := HW3.down; simp only [List.append_assoc] at this ⊢; exact this, HM3.down⟩
    · rw [if_neg h9] at h
      by_cases h8 : k < 9
      · rw [if_pos h8] at h
        have ht := Option.some.inj h
        have HT2 := PLift.up ht
        have HLEN := PLift.up hlen
        have h11 : k ≠ 11 := by omega
        have b11 : (k == 11) = false := by simpa using h11
        have HLW := PLift.up (HLF.down w hW.below)
        clear h ih hW hvl hall hD hrng htx m0 m1 m2 m3 m4 hkc hic hk ht hlen hn HLF
        as_aux_lemma =>
        go_enter Tryz.func10, Tryz.ntmps10
        as_aux_lemma =>
        go_wp2_with (go_at_call 17; refine (HLW.down).mono ?_; rintro e w1 ⟨rfl, hb1⟩; have HB1 := PLift.up hb1; clear hb1)
        have HW1 := PLift.up (HW.down.fresh HB1.down)
        have HBW := PLift.up (bwrite_kept B b l (leafF n) w1 HW1.down.bld (by have h1 := HLEN.down; rw [← HT2.down] at h1; simp at h1; omega) HW1.down.hiB)
        as_aux_lemma =>
        go_wp2_with (go_at_call 18; refine (HBW.down).mono ?_; rintro e w2 ⟨rfl, hb2, hb3, hb4⟩; have HB2 := PLift.up hb2; have HB3 := PLift.up hb3; have HB4 := PLift.up hb4; clear hb2 hb3 hb4)
        refine bodyPost_ret (v := .tuple #[]) (by simp only [results, Tryz.results10]; go_simp) rfl ?_
        exact ⟨rfl, E, by rw [← HT2.down]; exact HW1.down.wrote HB2.down HB3.down HB4.down, fun j _ => rfl⟩
      · rw [if_neg h8] at h; cases h
end Go.Proofs.YtgnclgbmfmibiaaGreatDoor
/- canon.Key of a graph that is good and has no cycle. -/
namespace Go.Proofs.YtgnclgbmfmibiaaGreatDoor
open Go.RowKit
open Go.Lib hiding intOf
set_option maxHeartbeats 4000000 in
set_option maxRecDepth 100000 in
theorem key_any (sc : Int → ByteArray → Bool) (w : World) (v : Value) (root : Nat) (N : List Nd) (inn sizes : List Int) (hN : NodesAt w v N) (hG : Good sc N root inn sizes) (ha : (depthF N root inn sizes).2 = true)
    (hT : ∀ n ∈ N, n.kind ≠ 6 ∧ n.text.size ≤ 1073741824 ∧ n.items.length ≤ 4294967296) (hM : ∀ n ∈ N, n.kind = 10 → n.keys.length = n.items.length) (f : Nat) (K' : List Int) (hl : lenT N f root (List.replicate N.length (-1)) = some K') (t : List UInt8) (ht : ¬ 65536 < K'.getD root 0 → wrT N f root = some t ∧ t.length ≤ 1073741824) :
    Calls Tryz.prog 4 #[.agg #[v, .int .i64 root]] w fun e w' => Below w.heap.size w w' ∧ e = .returned (if 65536 < K'.getD root 0 then .tuple #[.string ⟨#[]⟩, .int .i64 6] else .tuple #[.string ⟨t.toArray⟩, .int .i64 0]) := by
  have HG := PLift.up hG
  have HN := PLift.up hN
  have hn16 := hG.few
  obtain ⟨va, vc, hva, hvl, hvn⟩ := hN
  subst hva
  obtain ⟨y, hy⟩ : ∃ y, K'.getD root 0 = y := ⟨_, rfl⟩
  rw [hy] at ht ⊢
  have HY := PLift.up hy
  have HTT := PLift.up ht
  clear ht
  have HAC := PLift.up fun (wr : World) (hr : NodesAt wr (.slice va N.length vc) N) => acyclic_ok sc wr (.slice va N.length vc) root N inn sizes hr HG.down ha
  have HOF := PLift.up fun (wr : World) (hr : NodesAt wr (.slice va N.length vc) N) => of_any wr (.slice va N.length vc) root N hr hn16
  have HX0 := PLift.up (heap_alloc_new w (.cells #[.slice va N.length vc, .int .i64 root] 28))
  have HS0 := PLift.up (size_new w (.cells #[.slice va N.length vc, .int .i64 root] 28))
  have HB0 : PLift (Below w.heap.size w (w.alloc (.cells #[.slice va N.length vc, .int .i64 root] 28))) := ⟨below_new w _⟩
  have HN0 := PLift.up (HN.down.below HB0.down)
  clear hvn hG
  as_aux_lemma =>
  go_enter Tryz.func4, Tryz.ntmps4
  as_aux_lemma =>
  go_upto_region 1 with fail
  obtain ⟨W0, hW0⟩ : ∃ W0, w.alloc (.cells #[.slice va N.length vc, .int .i64 root] 28) = W0 := ⟨_, rfl⟩
  rw [hW0] at HX0 HS0 HB0 HN0 ⊢
  have c0 : W0.cell? ⟨w.heap.size, 0, none⟩ = some (.slice va N.length vc) := (Lib.cell_of_heap HX0.down 0).trans rfl
  have c1 : W0.cell? ⟨w.heap.size, 1, none⟩ = some (.int .i64 root) := (Lib.cell_of_heap HX0.down 1).trans rfl
  as_aux_lemma =>
  go_wp2_with (first
    | (go_at_call 7; refine (HAC.down _ HN0.down).mono ?_; rintro e w1 ⟨rfl, hb1⟩; have HB1 := PLift.up (HB0.down.trans (hb1.mono HB0.down.size)); have HN1 := PLift.up (HN.down.below HB1.down); have HC1 := PLift.up hb1; have c0 : w1.cell? ⟨w.heap.size, 0, none⟩ = some (.slice va N.length vc) := (hb1.cell (p := ⟨w.heap.size, 0, none⟩) (by rw [HS0.down]; exact Nat.lt_succ_self _)).trans c0; have c1 : w1.cell? ⟨w.heap.size, 1, none⟩ = some (.int .i64 root) := (hb1.cell (p := ⟨w.heap.size, 1, none⟩) (by rw [HS0.down]; exact Nat.lt_succ_self _)).trans c1; clear hb1)
    | (go_at_call 8; refine (HOF.down _ HN1.down).mono ?_; rintro e w2 ⟨rfl, hb2, ht2⟩; have HB2 := PLift.up (HB1.down.trans (hb2.mono HB1.down.size)); have HN2 := PLift.up (HN.down.below HB2.down); have HT2 := PLift.up ht2; have hlt := Nat.lt_of_lt_of_le (show w.heap.size < W0.heap.size by rw [HS0.down]; exact Nat.lt_succ_self _) HC1.down.size; have c0 : w2.cell? ⟨w.heap.size, 0, none⟩ = some (.slice va N.length vc) := (hb2.cell (p := ⟨w.heap.size, 0, none⟩) hlt).trans c0; have c1 : w2.cell? ⟨w.heap.size, 1, none⟩ = some (.int .i64 root) := (hb2.cell (p := ⟨w.heap.size, 1, none⟩) hlt).trans c1; clear hb2 ht2 hlt))
  have hmk : ∀ wx : World, (Instr.makeSlice 23 (.int .i64 (N.length : Int)) (.int .i64 (N.length : Int))).run Tryz.prog wx = .ok (.slice (some ⟨wx.heap.size, 0, none⟩) N.length N.length) (wx.alloc (.cells (Array.replicate N.length (.int .i64 0)) 3)) := fun wx => by
    rw [run_make_row' 23 3 (.int .i64 0) 8 Tryz.underlying23 info_int0 rfl .i64 .i64 N.length (by omega) (by omega) wx, made_rep]
  as_aux_lemma =>
  go_simp
  go_wp2
  go_loopw [22] (fun iv wr => ∃ j : Nat, iv = .int .i64 j ∧ j ≤ N.length ∧ wr.heap[w2.heap.size]? = some (.cells ((List.replicate j (-1) ++ List.replicate (N.length - j) 0).map (Value.int .i64)).toArray 3) ∧ Below w2.heap.size w2 wr) (fun iv _ => N.length - (intOf iv).toNat)
  case atStart => exact ⟨0, rfl, Nat.zero_le _, by rw [heap_alloc_new]; simp, below_new w2 _⟩
  case round =>
    as_aux_lemma =>
    obtain ⟨j, rfl, hj, hrow, hbr⟩ := hrel
    have HRW := PLift.up hrow
    have HBR := PLift.up hbr
    clear hrow hbr
    by_cases hjl : j < N.length
    · have hjl2 : (j : Int) < (N.length : Int) := by omega
      have e1 : wr.cell? ⟨w2.heap.size, j, none⟩ = some (.int .i64 ((List.replicate j (-1) ++ List.replicate (N.length - j) 0).getD j 0)) := int_row HRW.down (by simp; omega)
      have ef : ∀ o, wr.frozen? ⟨w2.heap.size, o, none⟩ = false := fun o => Lib.frozen_of_heap HRW.down o
      generalize (List.replicate j (-1 : Int) ++ List.replicate (N.length - j) 0).getD j 0 = ye at e1
      as_aux_lemma =>
      go_wp2
      go_roundw
      case rel => exact ⟨j + 1, by go_num, by omega, by
        have hset : (List.replicate j (-1 : Int) ++ List.replicate (N.length - j) 0).set j (-1) = List.replicate (j + 1) (-1) ++ List.replicate (N.length - (j + 1)) 0 := by
          obtain ⟨q, hq⟩ : ∃ q, N.length - j = q + 1 := ⟨N.length - j - 1, by omega⟩
          have hq2 : N.length - (j + 1) = q := by omega
          rw [hq, hq2, List.replicate_succ, List.set_append_right _ _ (by simp), List.length_replicate, Nat.sub_self, List.set_cons_zero, List.replicate_succ']
          simp
        rw [← hset]; simp [World.setCell, Array.getElem?_modify, HRW.down, List.map_set], HBR.down.setCell (p := ⟨w2.heap.size, j, none⟩) (Nat.le_refl _) _⟩
      case measure => simp [intOf]; omega
    · obtain rfl : j = N.length := by omega
      have HT3 := PLift.up (HT2.down.below HBR.down)
      have HB3 := PLift.up (HB2.down.trans (HBR.down.mono HB2.down.size))
      have HLW : PLift (LW w (.slice va N.length vc) root (.slice (some ⟨w1.heap.size + 1, 0, none⟩) N.length N.length) N (w1.heap.size + 1 + 1) w2.heap.size (List.replicate N.length (-1)) wr) :=
        ⟨⟨HN.down, HB3.down, HT3.down.box, by have := HRW.down; rw [Nat.sub_self, List.replicate_zero, List.append_nil] at this; exact this, by simp, HB2.down.size, by have := (Array.getElem?_eq_some_iff.1 HT2.down.box).1; omega⟩⟩
      have HLEN := PLift.up (length_any w (.slice va N.length vc) root _ N (w1.heap.size + 1 + 1) w2.heap.size HG.down.rng (fun n hn => ⟨(hT n hn).1, (hT n hn).2.1⟩) hM f root _ K' wr hl HG.down.rt HLW.down)
      have HR0 := PLift.up HB1.down.size
      have d0 : wr.cell? ⟨w.heap.size, 0, none⟩ = some (.slice va N.length vc) := cell_keep HBR.down c0
      have d1 : wr.cell? ⟨w.heap.size, 1, none⟩ = some (.int .i64 root) := cell_keep HBR.down c1
      rw [HY.down] at HLEN
      by_cases hbig : 65536 < y
      · have HBG := PLift.up hbig
        as_aux_lemma =>
        go_wp2_with (go_at_call 9; refine (HLEN.down).mono ?_; rintro e w3 ⟨rfl, hw3, hg3⟩; have HW3 := PLift.up hw3; have HG3 := PLift.up hg3; clear hw3 hg3)
        refine bodyPost_ret (v := .tuple #[.string ⟨#[]⟩, .int .i64 6]) (by simp only [results, Tryz.results4]; go_simp) rfl ?_
        exact ⟨HW3.down.below, rfl⟩
      · have HBG := PLift.up hbig
        have HWLT : PLift (w.heap.size < wr.heap.size ∧ w1.heap.size + 1 < wr.heap.size ∧ w.heap.size ≤ w1.heap.size ∧ w1.heap.size + 1 + 1 < w2.heap.size) := ⟨by
          have h1 := (Array.getElem?_eq_some_iff.1 HT2.down.box).1
          have h2 := HB1.down.size
          have h3 := HBR.down.size
          omega⟩
        as_aux_lemma =>
        go_wp2_with (first
          | (go_at_call 9; refine (HLEN.down).mono ?_; rintro e w3 ⟨rfl, hw3, hg3⟩; have HW3 := PLift.up hw3; have HG3 := PLift.up hg3; clear hw3 hg3
             have d1 : (w3.alloc (.cells #[.pointer none, .slice none 0 0] 42)).cell? ⟨w.heap.size, 1, none⟩ = some (.int .i64 root) := (World.cell?_of_block (Lib.alloc_old w3 _ w.heap.size (Nat.lt_of_lt_of_le HWLT.down.1 HG3.down.size))).trans ((World.cell?_of_block (HG3.down.block w.heap.size HWLT.down.1 (fun e => by have := Option.some.inj e; have := HWLT.down; omega))).trans d1)
             have HWW : PLift (WW w (.slice va N.length vc) root N (w1.heap.size + 1 + 1) (w1.heap.size + 1) w3.heap.size w3.heap.size (List.replicate N.length (.slice none 0 0)) [] (w3.alloc (.cells #[.pointer none, .slice none 0 0] 42))) :=
               ⟨⟨HN.down, HW3.down.below.alloc HW3.down.below.size _, ⟨(Lib.alloc_old w3 _ _ (Array.getElem?_eq_some_iff.1 HW3.down.tab).1).trans HW3.down.tab, (Lib.alloc_old w3 _ _ (Nat.lt_of_lt_of_le HWLT.down.2.1 HG3.down.size)).trans ((HG3.down.block _ HWLT.down.2.1 (fun e => by have := Option.some.inj e; have := HWLT.down; omega)).trans HT3.down.row), HT3.down.len, HT3.down.ne⟩,
                 fun a ha => .inl (by rw [List.getD_eq_getElem?_getD, List.getElem?_replicate, if_pos ha]; rfl), Lib.fresh_isBuilder _ _ w3, HW3.down.below.size, by have := HWLT.down; omega, by rw [size_new]; omega⟩⟩
             have HWR := PLift.up (write_any w (.slice va N.length vc) root N (w1.heap.size + 1 + 1) (w1.heap.size + 1) w3.heap.size w3.heap.size HG.down.rng hT f root t _ [] _ (HTT.down HBG.down).1 HG.down.rt (by have := (HTT.down HBG.down).2; simpa using this) HWW.down))
          | (go_at_call 10; refine (HWR.down).mono ?_; rintro e w5 ⟨rfl, E5, hw5, -⟩; have HW5 := PLift.up hw5; clear hw5)
          | (go_at_call 11; refine (Tryz.Builder_String_any _ _ _ _ HW5.down.bld HW5.down.hiB).mono ?_; rintro e w6 ⟨rfl, hb6⟩; have HB6 := PLift.up hb6; clear hb6))
        refine bodyPost_ret (v := .tuple #[.string ⟨t.toArray⟩, .int .i64 0]) (by simp only [results, Tryz.results4]; go_simp) rfl ?_
        exact ⟨HW5.down.below.trans (HB6.down.mono HW3.down.below.size), rfl⟩
end Go.Proofs.YtgnclgbmfmibiaaGreatDoor
/- codepoint.Check of bytes below 128; graph.scalar of such a text, and of a list. -/
namespace Go.Proofs.YtgnclgbmfmibiaaGreatDoor
open Go.RowKit
open Go.Lib hiding intOf
set_option maxHeartbeats 1000000 in
set_option maxRecDepth 100000 in
theorem check_ascii (s : ByteArray) (w : World) (hs : ∀ pos, pos < s.size → (s.data.toList.getD pos 0).toNat < 128) :
    Calls Tryz.prog 64 #[.string s] w fun e w' => e = .returned (.tuple #[.int .i64 (-1), .int .i64 0]) ∧ Below w.heap.size w w' := by
  go_enter Tryz.func64, Tryz.ntmps64
  go_wp2
  go_loopw [] (fun wr => ∃ pos : Nat, wr.heap[w.heap.size]? = some (.stringIter s pos) ∧ Below w.heap.size w wr) (fun wr => s.size - wr.iterPos w.heap.size)
  case atStart => exact ⟨0, by have := World.iter_heap w s 0; simpa using this, (Below.refl _ w).alloc (Nat.le_refl _) _⟩
  case round =>
    obtain ⟨pos, hit, hbw⟩ := hrel
    by_cases hp : pos < s.size
    · have hlt := hs pos hp
      have hg : s.data.toList.getD pos 0 = s[pos]'hp := by rw [List.getD_eq_getElem?_getD, List.getElem?_eq_getElem (by simpa using hp)]; rfl
      rw [hg] at hlt
      obtain ⟨r, hr⟩ : ∃ r : Nat, (s[pos]'hp).toNat = r := ⟨_, rfl⟩
      have hnx : ∀ ty, (Instr.next (.pointer (some ⟨w.heap.size, 0, none⟩)) true ty).run Tryz.prog wr = .ok (.tuple #[.bool true, .int .i64 pos, .int .i32 r]) (wr.iterAt w.heap.size s (pos + 1)) := fun ty => by
        rw [Lib.run_next_ascii_at wr w.heap.size s pos ty hit hp hlt, hr]
      rw [hr] at hlt
      have HIT2 := PLift.up (Lib.iterAt_heap wr w.heap.size s pos (pos + 1) hit)
      have HB2 := PLift.up (Lib.below_iterAt hbw (k := w.heap.size) (Nat.le_refl _) s (pos + 1))
      have HM := PLift.up hit
      have er : ((r : Int) == 65533) = false := by simp; omega
      clear hit hg hr
      go_wp2
      go_roundw
      case rel => exact ⟨pos + 1, HIT2.down, HB2.down⟩
      case measure =>
        simp only [World.iterPos, HIT2.down, HM.down]
        omega
    · have hnx : ∀ ty, (Instr.next (.pointer (some ⟨w.heap.size, 0, none⟩)) true ty).run Tryz.prog wr = _ := fun ty => Lib.run_next_end_at wr w.heap.size s pos ty hit hp
      clear hit
      go_wp2
      go_ret2
      exact ⟨rfl, hbw⟩
set_option maxHeartbeats 1000000 in
set_option maxRecDepth 100000 in
theorem scalar_text (s : ByteArray) (hs : ∀ pos, pos < s.size → (s.data.toList.getD pos 0).toNat < 128) (w : World) :
    Calls Tryz.prog 50 #[.int .i64 5, .string s] w fun e w' => e = .returned (.bool true) ∧ Below w.heap.size w w' := by
  have HC := PLift.up (check_ascii s w hs)
  as_aux_lemma =>
  go_enter Tryz.func50, Tryz.ntmps50
  go_wp2_with (go_at_call 64; refine (HC.down).mono ?_; rintro e w1 ⟨rfl, hb1⟩; have HB1 := PLift.up hb1; clear hb1)
  go_ret
  exact ⟨rfl, HB1.down⟩
set_option maxHeartbeats 1000000 in
set_option maxRecDepth 100000 in
theorem scalar_list (s : ByteArray) (w : World) :
    Calls Tryz.prog 50 #[.int .i64 9, .string s] w fun e w' => e = .returned (.bool false) ∧ Below w.heap.size w w' := by
  go_enter Tryz.func50, Tryz.ntmps50
  go_wp2
  go_ret
  exact ⟨rfl, Below.refl _ _⟩
end Go.Proofs.YtgnclgbmfmibiaaGreatDoor
/- The family of doubled lists: each of its graphs is good. -/
namespace Go.Proofs.YtgnclgbmfmibiaaGreatDoor
def fam (t : ByteArray) : Nat → List Nd
  | 0 => [⟨5, t, false, [], []⟩]
  | n + 1 => fam t n ++ [⟨9, ⟨#[]⟩, false, [], [(n : Int), (n : Int)]⟩]
structure Shape (t : ByteArray) (n : Nat) : Prop where
  all : visitF (fam t n) (n + 2) n (List.replicate (n + 1) false) = List.replicate (n + 1) true
  ink : inkF (fam t n) = List.replicate (n + 1) false
  comp : compT (fam t n) n = some ((List.range (n + 1)).map (fun i : Nat => (i : Int)), List.replicate (n + 1) 1)
  deep : depthF (fam t n) n ((List.range (n + 1)).map (fun i : Nat => (i : Int))) (List.replicate (n + 1) 1) = ((n : Int), true)
set_option maxRecDepth 100000
theorem shape_0 (t : ByteArray) : Shape t 0 := ⟨by kernel_rfl, by kernel_rfl, by kernel_rfl, by kernel_rfl⟩
theorem shape_1 (t : ByteArray) : Shape t 1 := ⟨by kernel_rfl, by kernel_rfl, by kernel_rfl, by kernel_rfl⟩
theorem shape_2 (t : ByteArray) : Shape t 2 := ⟨by kernel_rfl, by kernel_rfl, by kernel_rfl, by kernel_rfl⟩
theorem shape_3 (t : ByteArray) : Shape t 3 := ⟨by kernel_rfl, by kernel_rfl, by kernel_rfl, by kernel_rfl⟩
theorem shape_4 (t : ByteArray) : Shape t 4 := ⟨by kernel_rfl, by kernel_rfl, by kernel_rfl, by kernel_rfl⟩
theorem shape_5 (t : ByteArray) : Shape t 5 := ⟨by kernel_rfl, by kernel_rfl, by kernel_rfl, by kernel_rfl⟩
theorem shape_6 (t : ByteArray) : Shape t 6 := ⟨by kernel_rfl, by kernel_rfl, by kernel_rfl, by kernel_rfl⟩
theorem shape_7 (t : ByteArray) : Shape t 7 := ⟨by kernel_rfl, by kernel_rfl, by kernel_rfl, by kernel_rfl⟩
theorem shape_8 (t : ByteArray) : Shape t 8 := ⟨by kernel_rfl, by kernel_rfl, by kernel_rfl, by kernel_rfl⟩
theorem shape_9 (t : ByteArray) : Shape t 9 := ⟨by kernel_rfl, by kernel_rfl, by kernel_rfl, by kernel_rfl⟩
theorem shape_10 (t : ByteArray) : Shape t 10 := ⟨by kernel_rfl, by kernel_rfl, by kernel_rfl, by kernel_rfl⟩
theorem shape_11 (t : ByteArray) : Shape t 11 := ⟨by kernel_rfl, by kernel_rfl, by kernel_rfl, by kernel_rfl⟩
theorem shape_12 (t : ByteArray) : Shape t 12 := ⟨by kernel_rfl, by kernel_rfl, by kernel_rfl, by kernel_rfl⟩
theorem shape_13 (t : ByteArray) : Shape t 13 := ⟨by kernel_rfl, by kernel_rfl, by kernel_rfl, by kernel_rfl⟩
theorem shape_14 (t : ByteArray) : Shape t 14 := ⟨by kernel_rfl, by kernel_rfl, by kernel_rfl, by kernel_rfl⟩
theorem shape_15 (t : ByteArray) : Shape t 15 := ⟨by kernel_rfl, by kernel_rfl, by kernel_rfl, by kernel_rfl⟩
theorem shape_16 (t : ByteArray) : Shape t 16 := ⟨by kernel_rfl, by kernel_rfl, by kernel_rfl, by kernel_rfl⟩
theorem shape_17 (t : ByteArray) : Shape t 17 := ⟨by kernel_rfl, by kernel_rfl, by kernel_rfl, by kernel_rfl⟩
theorem shape_18 (t : ByteArray) : Shape t 18 := ⟨by kernel_rfl, by kernel_rfl, by kernel_rfl, by kernel_rfl⟩
theorem shape_19 (t : ByteArray) : Shape t 19 := ⟨by kernel_rfl, by kernel_rfl, by kernel_rfl, by kernel_rfl⟩
theorem shape_20 (t : ByteArray) : Shape t 20 := ⟨by kernel_rfl, by kernel_rfl, by kernel_rfl, by kernel_rfl⟩
theorem shape_21 (t : ByteArray) : Shape t 21 := ⟨by kernel_rfl, by kernel_rfl, by kernel_rfl, by kernel_rfl⟩
theorem shape_22 (t : ByteArray) : Shape t 22 := ⟨by kernel_rfl, by kernel_rfl, by kernel_rfl, by kernel_rfl⟩
theorem shape_23 (t : ByteArray) : Shape t 23 := ⟨by kernel_rfl, by kernel_rfl, by kernel_rfl, by kernel_rfl⟩
theorem shape_24 (t : ByteArray) : Shape t 24 := ⟨by kernel_rfl, by kernel_rfl, by kernel_rfl, by kernel_rfl⟩
theorem shape_25 (t : ByteArray) : Shape t 25 := ⟨by kernel_rfl, by kernel_rfl, by kernel_rfl, by kernel_rfl⟩
theorem shape_26 (t : ByteArray) : Shape t 26 := ⟨by kernel_rfl, by kernel_rfl, by kernel_rfl, by kernel_rfl⟩
theorem shape_27 (t : ByteArray) : Shape t 27 := ⟨by kernel_rfl, by kernel_rfl, by kernel_rfl, by kernel_rfl⟩
theorem shape_28 (t : ByteArray) : Shape t 28 := ⟨by kernel_rfl, by kernel_rfl, by kernel_rfl, by kernel_rfl⟩
theorem shape_29 (t : ByteArray) : Shape t 29 := ⟨by kernel_rfl, by kernel_rfl, by kernel_rfl, by kernel_rfl⟩
theorem shape_30 (t : ByteArray) : Shape t 30 := ⟨by kernel_rfl, by kernel_rfl, by kernel_rfl, by kernel_rfl⟩
theorem shape (t : ByteArray) (n : Nat) (hn : n < 31) : Shape t n := by
  match n, hn with
  | 0, _ => exact shape_0 t
  | 1, _ => exact shape_1 t
  | 2, _ => exact shape_2 t
  | 3, _ => exact shape_3 t
  | 4, _ => exact shape_4 t
  | 5, _ => exact shape_5 t
  | 6, _ => exact shape_6 t
  | 7, _ => exact shape_7 t
  | 8, _ => exact shape_8 t
  | 9, _ => exact shape_9 t
  | 10, _ => exact shape_10 t
  | 11, _ => exact shape_11 t
  | 12, _ => exact shape_12 t
  | 13, _ => exact shape_13 t
  | 14, _ => exact shape_14 t
  | 15, _ => exact shape_15 t
  | 16, _ => exact shape_16 t
  | 17, _ => exact shape_17 t
  | 18, _ => exact shape_18 t
  | 19, _ => exact shape_19 t
  | 20, _ => exact shape_20 t
  | 21, _ => exact shape_21 t
  | 22, _ => exact shape_22 t
  | 23, _ => exact shape_23 t
  | 24, _ => exact shape_24 t
  | 25, _ => exact shape_25 t
  | 26, _ => exact shape_26 t
  | 27, _ => exact shape_27 t
  | 28, _ => exact shape_28 t
  | 29, _ => exact shape_29 t
  | 30, _ => exact shape_30 t
  | n + 31, h => omega
end Go.Proofs.YtgnclgbmfmibiaaGreatDoor
/- The family's graphs are good. -/
namespace Go.Proofs.YtgnclgbmfmibiaaGreatDoor
open Go.Lib hiding intOf
theorem fam_len (t : ByteArray) : ∀ n, (fam t n).length = n + 1 := by
  intro n
  induction n with
  | zero => rfl
  | succ n ih => simp [fam, ih]
theorem fam_mem (t : ByteArray) : ∀ n m, m ∈ fam t n → m = ⟨5, t, false, [], []⟩ ∨ ∃ i, i < n ∧ m = ⟨9, ⟨#[]⟩, false, [], [(i : Int), (i : Int)]⟩ := by
  intro n
  induction n with
  | zero => intro m h; simp [fam] at h; exact .inl h
  | succ n ih =>
    intro m h
    simp only [fam, List.mem_append, List.mem_singleton] at h
    rcases h with h | h
    · rcases ih m h with h | ⟨i, h1, h2⟩
      · exact .inl h
      · exact .inr ⟨i, by omega, h2⟩
    · exact .inr ⟨n, by omega, h⟩
def sc0 (k : Int) (_ : ByteArray) : Bool := k == 5
theorem fam_good (t : ByteArray) (ht : ∀ pos, pos < t.size → (t.data.toList.getD pos 0).toNat < 128) (hs : t.size ≤ maxLen) (n : Nat) (hn : n < 31) : Good sc0 (fam t n) n ((List.range (n + 1)).map (fun i : Nat => (i : Int))) (List.replicate (n + 1) 1) := by
  have hS := shape t n hn
  have hl := fam_len t n
  refine ⟨by omega, by omega, ?_, ?_, ?_, ?_, ?_, ?_, ?_, hS.comp, ?_, by simp; omega, by rw [hS.deep]; simp; omega⟩
  · intro m hm
    rcases fam_mem t n m hm with rfl | ⟨i, h1, rfl⟩
    · exact ⟨fun x hx => by simp at hx, fun x hx => by simp at hx⟩
    · exact ⟨fun x hx => by simp at hx, fun x hx => by simp at hx; omega⟩
  · intro i hi
    rw [hl, hS.all]
    rw [List.getD_eq_getElem?_getD, List.getElem?_replicate, if_pos (by omega)]; rfl
  · intro m hm
    rcases fam_mem t n m hm with rfl | ⟨i, h1, rfl⟩
    · exact fun w => scalar_text t ht w
    · exact fun w => scalar_list _ w
  · intro m hm
    rcases fam_mem t n m hm with rfl | ⟨i, h1, rfl⟩
    · rfl
    · rfl
  · intro m hm
    rcases fam_mem t n m hm with rfl | ⟨i, h1, rfl⟩
    · exact ⟨rfl, hs⟩
    · exact ⟨rfl, Nat.zero_le _⟩
  · intro i hi h
    rw [hS.ink, List.getD_eq_getElem?_getD, List.getElem?_replicate] at h
    split at h <;> cases h
  · intro m hm
    rcases fam_mem t n m hm with rfl | ⟨i, h1, rfl⟩
    · exact List.nodup_nil
    · exact List.nodup_nil
  · intro x hx
    simp only [List.mem_map, List.mem_range] at hx
    obtain ⟨i, h1, rfl⟩ := hx
    simp; omega
end Go.Proofs.YtgnclgbmfmibiaaGreatDoor
/- The text of the family's graphs. -/
namespace Go.Proofs.YtgnclgbmfmibiaaGreatDoor
theorem fam_zero (t : ByteArray) : ∀ n, (fam t n).getD 0 nd0 = ⟨5, t, false, [], []⟩ := by
  intro n
  induction n with
  | zero => rfl
  | succ n ih =>
    have := fam_len t n
    rw [fam, List.getD_eq_getElem?_getD, List.getElem?_append_left (by omega), ← List.getD_eq_getElem?_getD, ih]
theorem fam_succ (t : ByteArray) : ∀ n k, k < n → (fam t n).getD (k + 1) nd0 = ⟨9, ⟨#[]⟩, false, [], [(k : Int), (k : Int)]⟩ := by
  intro n
  induction n with
  | zero => intro k h; omega
  | succ n ih =>
    intro k h
    have hl := fam_len t n
    by_cases e : k = n
    · subst e
      rw [fam, List.getD_eq_getElem?_getD, List.getElem?_append_right (by omega), hl, Nat.sub_self]; rfl
    · rw [fam, List.getD_eq_getElem?_getD, List.getElem?_append_left (by omega), ← List.getD_eq_getElem?_getD, ih k (by omega)]
def txt (t : ByteArray) : Nat → List UInt8
  | 0 => quo t.data.toList
  | n + 1 => ([91] ++ txt t n ++ [44] ++ txt t n) ++ [93]
theorem fam_text (t : ByteArray) (n : Nat) : ∀ k f, k ≤ n → k < f → wrT (fam t n) f k = some (txt t k) := by
  intro k
  induction k with
  | zero =>
    intro f _ hf
    cases f with
    | zero => omega
    | succ f => unfold wrT; rw [fam_zero]; rfl
  | succ k ih =>
    intro f hk hf
    cases f with
    | zero => omega
    | succ f =>
      unfold wrT
      rw [fam_succ t n k (by omega), if_pos rfl]
      have h := ih f (by omega) (by omega)
      simp [List.range'_succ, joinT, h, txt]
end Go.Proofs.YtgnclgbmfmibiaaGreatDoor
/- The length of the family's text. -/
namespace Go.Proofs.YtgnclgbmfmibiaaGreatDoor
open Go.RowKit
open Go.Lib hiding intOf
def lenK (t : ByteArray) (j : Nat) : Int := min ((txt t j).length : Int) 65537
def lenRow (t : ByteArray) (n k : Nat) : List Int := (List.range (n + 1)).map fun j => if j < k then lenK t j else -1
theorem lenK_nn (t : ByteArray) (j : Nat) : 0 ≤ lenK t j ∧ lenK t j ≤ 65537 := by unfold lenK; omega
theorem txt_len (t : ByteArray) (n : Nat) : (txt t (n + 1)).length = 2 * (txt t n).length + 3 := by
  simp only [txt, List.length_append, List.length_cons, List.length_nil]; omega
theorem lenK_succ (t : ByteArray) (n : Nat) : lenK t (n + 1) = min (3 + lenK t n + lenK t n) 65537 := by
  unfold lenK; rw [txt_len]; omega
theorem lenRow_getD (t : ByteArray) {n k j : Nat} (h : j ≤ n) : (lenRow t n k).getD j 0 = if j < k then lenK t j else -1 := by
  unfold lenRow
  rw [List.getD_eq_getElem?_getD, List.getElem?_map, List.getElem?_range (by omega)]; rfl
theorem lenRow_set (t : ByteArray) {n k : Nat} (h : k ≤ n) : (lenRow t n k).set k (lenK t k) = lenRow t n (k + 1) := by
  apply List.ext_getElem?
  intro j
  rw [List.getElem?_set]
  have hl : (lenRow t n k).length = n + 1 := by simp [lenRow]
  unfold lenRow
  by_cases e : k = j
  · subst e
    rw [if_pos rfl, List.getElem?_map, List.getElem?_range (by omega)]
    simp; omega
  · rw [if_neg e]
    simp only [List.getElem?_map]
    by_cases hj : j < n + 1
    · rw [List.getElem?_range hj]
      have : (j < k) = (j < k + 1) := by apply propext; omega
      simp [this]
    · rw [List.getElem?_eq_none (by simp; omega)]; rfl
theorem lenT_known (t : ByteArray) {n k f : Nat} (hk : k ≤ n) (hf : 0 < f) : lenT (fam t n) f k (lenRow t n (k + 1)) = some (lenRow t n (k + 1)) := by
  cases f with
  | zero => omega
  | succ f =>
    unfold lenT
    rw [lenRow_getD t hk, if_pos (Nat.lt_succ_self k), if_pos (lenK_nn t k).1]
theorem fam_length (t : ByteArray) (n : Nat) : ∀ k f, k ≤ n → k < f → lenT (fam t n) f k (lenRow t n 0) = some (lenRow t n (k + 1)) := by
  intro k
  induction k with
  | zero =>
    intro f _ hf
    cases f with
    | zero => omega
    | succ f =>
      unfold lenT
      rw [lenRow_getD t (Nat.zero_le n), fam_zero, if_neg (by simp)]
      have hb : baseL ⟨5, t, false, [], []⟩ = ((txt t 0).length : Int) := by
        simp [baseL, leafF, txt, ByteArray.size]
      rw [hb, ← lenRow_set t (Nat.zero_le n)]
      rfl
  | succ k ih =>
    intro f hk hf
    cases f with
    | zero => omega
    | succ f =>
      unfold lenT
      rw [lenRow_getD t hk, fam_succ t n k (by omega), if_neg (by simp)]
      have h1 := ih f (by omega) (by omega)
      have h2 := lenT_known t (n := n) (k := k) (f := f) (by omega) (by omega)
      have hnn := lenK_nn t k
      have hg : (lenRow t n (k + 1)).getD k 0 = lenK t k := by rw [lenRow_getD t (by omega), if_pos (Nat.lt_succ_self k)]
      have hb : baseL ⟨9, ⟨#[]⟩, false, [], [(k : Int), (k : Int)]⟩ = 3 := rfl
      have w1 : wrap64 (3 + lenK t k) = 3 + lenK t k := IntWalk.wrap64_in _ (by omega)
      have w2 : wrap64 (3 + lenK t k + lenK t k) = 3 + lenK t k + lenK t k := IntWalk.wrap64_in _ (by omega)
      rw [hb, ← lenRow_set t hk, lenK_succ]
      generalize lenRow t n 0 = K0 at h1 ⊢
      generalize lenRow t n (k + 1) = K1 at h1 h2 hg ⊢
      show ((([0, 1] : List Nat).foldlM (stepL (lenT (fam t n) f) ⟨9, ⟨#[]⟩, false, [], [(k : Int), (k : Int)]⟩) (3, K0)).map _) = _
      have s1 : stepL (lenT (fam t n) f) ⟨9, ⟨#[]⟩, false, [], [(k : Int), (k : Int)]⟩ (3, K0) 0 = some (3 + lenK t k, K1) := by
        unfold stepL
        rw [if_neg (show ¬ ((9 : Int) = 10) by decide)]
        show (lenT (fam t n) f k K0).map _ = _
        rw [h1]
        show some (wrap64 (3 + K1.getD k 0), K1) = _
        rw [hg, w1]
      have s2 : stepL (lenT (fam t n) f) ⟨9, ⟨#[]⟩, false, [], [(k : Int), (k : Int)]⟩ (3 + lenK t k, K1) 1 = some (3 + lenK t k + lenK t k, K1) := by
        unfold stepL
        rw [if_neg (show ¬ ((9 : Int) = 10) by decide)]
        show (lenT (fam t n) f k K1).map _ = _
        rw [h2]
        show some (wrap64 (3 + lenK t k + K1.getD k 0), K1) = _
        rw [hg, w2]
      rw [List.foldlM_cons, s1]
      simp only [Option.bind_eq_bind, Option.bind_some]
      rw [List.foldlM_cons, s2]
      rfl
/-- the text of zero bytes -/
def zeros (e : Nat) : ByteArray := ⟨Array.replicate e 0⟩
theorem zeros_size (e : Nat) : (zeros e).size = e := by simp [zeros, ByteArray.size]
theorem zeros_ascii (e : Nat) : ∀ pos, pos < (zeros e).size → ((zeros e).data.toList.getD pos 0).toNat < 128 := by
  intro pos hp
  rw [zeros_size] at hp
  simp [zeros, hp]
theorem quo_zeros (e : Nat) : (quo (zeros e).data.toList).length = e + 2 := by
  have h : ∀ e : Nat, ((List.replicate e (0 : UInt8)).flatMap escQ) = List.replicate e 0 := by
    intro e
    induction e with
    | zero => rfl
    | succ e ih => rw [List.replicate_succ, List.flatMap_cons, ih]; rfl
  simp [quo, zeros, h]
/-- the law's own count -/
def sizeK (e : Nat) : Nat → Int
  | 0 => 2 + e
  | n + 1 => min (2 * sizeK e n + 3) 1048576
theorem sizeK_txt (e n : Nat) (he : e < 1000) : sizeK e n = min ((txt (zeros e) n).length : Int) 1048576 := by
  induction n with
  | zero => simp only [sizeK, txt, quo_zeros]; omega
  | succ n ih => rw [sizeK, txt_len, ih]; omega
theorem txt_big (e : Nat) : ∀ n, (txt (zeros e) n).length + 3 = 2 ^ n * (e + 5) := by
  intro n
  induction n with
  | zero => simp only [txt, quo_zeros]; omega
  | succ n ih => rw [txt_len, Nat.pow_succ, Nat.mul_right_comm, ← ih]; omega
theorem fam_len0 (t : ByteArray) (n : Nat) : lenRow t n 0 = List.replicate (fam t n).length (-1) := by
  rw [fam_len]
  unfold lenRow
  apply List.ext_getElem
  · simp
  · intro i h1 h2; simp
end Go.Proofs.YtgnclgbmfmibiaaGreatDoor
/- canon.ParseKey of a text that is too long. -/
namespace Go.Proofs.YtgnclgbmfmibiaaGreatDoor
open Go.RowKit
open Go.Lib hiding intOf
set_option maxHeartbeats 1000000 in
set_option maxRecDepth 100000 in
theorem parsekey_long (s : ByteArray) (w : World) (hs : 65536 < s.size) :
    Calls Tryz.prog 5 #[.string s] w fun e w' => e = .returned (.tuple #[.agg #[.slice none 0 0, .int .i64 0], .int .i64 6]) ∧ Below w.heap.size w w' := by
  have h1 : ¬ (s.size : Int) ≤ 65536 := by omega
  have h2 : (65536 : Int) < (s.size : Int) := by omega
  go_enter Tryz.func5, Tryz.ntmps5
  go_wp2
  have hx := heap_alloc_new w (.cells #[.slice none 0 0, .int .i64 0] 28)
  have c0 : (w.alloc (.cells #[.slice none 0 0, .int .i64 0] 28)).cell? ⟨w.heap.size, 0, none⟩ = some (.slice none 0 0) := (Lib.cell_of_heap hx 0).trans rfl
  have c1 : (w.alloc (.cells #[.slice none 0 0, .int .i64 0] 28)).cell? ⟨w.heap.size, 1, none⟩ = some (.int .i64 0) := (Lib.cell_of_heap hx 1).trans rfl
  refine bodyPost_ret (v := .tuple #[.agg #[.slice none 0 0, .int .i64 0], .int .i64 6]) (by simp only [results, Tryz.results5]; go_simp) rfl ?_
  exact ⟨rfl, below_new w _⟩
end Go.Proofs.YtgnclgbmfmibiaaGreatDoor
/- The law CanonLong: its walk. -/
namespace Go.Proofs.YtgnclgbmfmibiaaGreatDoor
open Go.RowKit
open Go.Lib hiding intOf
/-- the cells of the family's row -/
def FamRow (wr : World) (t : ByteArray) : Nat → List Value → Prop
  | 0, xs => xs = [.int .i64 5, .string t, .bool false, .slice none 0 0, .slice none 0 0]
  | i + 1, xs => ∃ ys q, FamRow wr t i ys ∧ xs = ys ++ [.int .i64 9, .string ⟨#[]⟩, .bool false, .slice none 0 0, .slice (some ⟨q, 0, none⟩) 2 2] ∧ wr.heap[q]? = some (.cells #[.int .i64 i, .int .i64 i] 3)
theorem FamRow.len {wr : World} {t : ByteArray} : ∀ {i : Nat} {xs : List Value}, FamRow wr t i xs → xs.length = (i + 1) * 5 := by
  intro i
  induction i with
  | zero => intro xs h; rw [show xs = _ from h]; rfl
  | succ i ih =>
    intro xs h
    obtain ⟨ys, q, h1, rfl, _⟩ := h
    rw [List.length_append, ih h1]
    simp; omega
theorem FamRow.keep {wr wr' : World} {t : ByteArray} (hk : ∀ (k : Nat) cs fz, wr.heap[k]? = some (.cells cs 3 fz) → wr'.heap[k]? = some (.cells cs 3 fz)) : ∀ {i : Nat} {xs : List Value}, FamRow wr t i xs → FamRow wr' t i xs := by
  intro i
  induction i with
  | zero => intro xs h; exact h
  | succ i ih =>
    intro xs h
    obtain ⟨ys, q, h1, h2, h3⟩ := h
    exact ⟨ys, q, ih h1, h2, hk _ _ _ h3⟩
theorem sl_nil (wr : World) : SlI wr (.slice none 0 0) [] := ⟨none, 0, rfl, by decide, .inl rfl⟩
theorem FamRow.at {wr : World} {t : ByteArray} : ∀ {i : Nat} {xs : List Value}, FamRow wr t i xs → ∀ (j : Nat) (n : Nd), (fam t i)[j]? = some n →
    ∃ kv iv, xs[j * 5]? = some (.int .i64 n.kind) ∧ xs[j * 5 + 1]? = some (.string n.text) ∧ xs[j * 5 + 2]? = some (.bool n.ord) ∧ xs[j * 5 + 3]? = some kv ∧ xs[j * 5 + 4]? = some iv ∧ SlI wr kv n.keys ∧ SlI wr iv n.items := by
  intro i
  induction i with
  | zero =>
    intro xs h j n hj
    cases j with
    | succ j => simp [fam] at hj
    | zero =>
      simp [fam] at hj
      subst hj
      rw [show xs = _ from h]
      exact ⟨_, _, rfl, rfl, rfl, rfl, rfl, sl_nil wr, sl_nil wr⟩
  | succ i ih =>
    intro xs h j n hj
    obtain ⟨ys, q, h1, rfl, h3⟩ := h
    have hl := h1.len
    have hfl := fam_len t i
    by_cases hji : j < i + 1
    · rw [fam, List.getElem?_append_left (by omega)] at hj
      obtain ⟨kv, iv, a0, a1, a2, a3, a4, a5, a6⟩ := ih h1 j n hj
      refine ⟨kv, iv, ?_, ?_, ?_, ?_, ?_, a5, a6⟩ <;> rw [List.getElem?_append_left (by omega)] <;> assumption
    · by_cases hje : j = i + 1
      · subst hje
        rw [fam, List.getElem?_append_right (by omega), hfl, Nat.sub_self] at hj
        simp at hj
        subst hj
        refine ⟨_, _, ?_, ?_, ?_, ?_, ?_, sl_nil wr, ⟨some ⟨q, 0, none⟩, 2, rfl, show 2 ≤ 140737488355328 by decide, .inr ⟨q, 0, rfl, ?_⟩⟩⟩
        · rw [List.getElem?_append_right (by omega), hl, Nat.sub_self]; rfl
        · rw [List.getElem?_append_right (by omega), hl]; simp
        · rw [List.getElem?_append_right (by omega), hl]; simp
        · rw [List.getElem?_append_right (by omega), hl]; simp
        · rw [List.getElem?_append_right (by omega), hl]; simp
        · intro k x hx
          rw [Lib.cell_of_heap h3]
          match k, hx with
          | 0, hx => simp at hx; subst hx; rfl
          | 1, hx => simp at hx; subst hx; rfl
          | k + 2, hx => simp at hx
      · rw [List.getElem?_eq_none (by rw [fam_len]; omega)] at hj
        cases hj
theorem FamRow.nodes {wr : World} {t : ByteArray} {i B : Nat} {v : Value} {xs : List Value} (h : FamRow wr t i xs) (ho : wr.ownsRow B 25 5 v (i + 1) xs) (hi : i < 1000) : NodesAt wr v (fam t i) := by
  have hfl := fam_len t i
  rcases ho.2 with ⟨_, h0⟩ | ⟨g, cap, cur, rfl, _⟩
  · omega
  · refine ⟨some ⟨g, 0, none⟩, cap, by rw [hfl], by omega, .inr ⟨g, 0, rfl, ?_⟩⟩
    intro j n hj
    obtain ⟨kv, iv, a0, a1, a2, a3, a4, a5, a6⟩ := h.at j n hj
    have hc : ∀ (k : Nat) (u : Value), xs[k]? = some u → wr.cell? ⟨g, k, none⟩ = some u := fun k u hu => by
      have h1 := World.ownsRow.cells (w := wr) ho rfl k u hu
      have h2 : (⟨g, 0, none⟩ : Addr).add k = ⟨g, k, none⟩ := by unfold Addr.add; split <;> simp_all
      rw [h2] at h1; exact h1
    rw [Nat.zero_add]
    exact ⟨kv, iv, hc _ _ a0, hc _ _ a1, hc _ _ a2, hc _ _ a3, hc _ _ a4, a5, a6⟩
/-- the loop's world -/
structure LI (w : World) (b i : Nat) (v : Value) (wr : World) : Prop where
  below : Below w.heap.size w wr
  box : wr.heap[w.heap.size + 2]? = some (.cells #[v, .int .i64 0] 28)
  row : ∃ xs, wr.ownsRow w.heap.size 25 5 v (i + 1) xs ∧ FamRow wr (zeros b) i xs
def zrow (m : Nat) : Obj := .cells (Array.replicate m (.int .u8 0)) 5
theorem zero_make (m : Nat) (hm : m ≤ 1000000) (wx : World) : (Instr.makeSlice 22 (.int .i64 (m : Int)) (.int .i64 (m : Int))).run Tryz.prog wx = .ok (.slice (some ⟨wx.heap.size, 0, none⟩) m m) (wx.alloc (zrow m)) := by
  rw [run_make_row' 22 5 (.int .u8 0) 1 Tryz.underlying22 info_u8 rfl .i64 .i64 m (by omega) (by omega) wx, made_rep]; rfl
theorem zero_str (m : Nat) (wx : World) : (convert 22 9 (.slice (some ⟨wx.heap.size, 0, none⟩) m m)).run Tryz.prog (wx.alloc (zrow m)) = .ok (.string (zeros m)) (wx.alloc (zrow m)) := by
  have h := run_convert_bytes_back (P := Tryz.prog) (wx.alloc (zrow m)) 22 9 5 ⟨wx.heap.size, 0, none⟩ m (List.replicate m 0) Tryz.underlying22 Tryz.underlying5 Tryz.underlying9 (by
    intro j hj
    have : (⟨wx.heap.size, 0, none⟩ : Addr).add j = ⟨wx.heap.size, j, none⟩ := by unfold Addr.add; split <;> simp_all
    rw [this, zrow, Lib.cell_of_heap (heap_alloc_new wx _)]
    simp at hj
    simp [hj])
  simpa [zeros] using h
theorem info_node : (Tryz.prog.info? 25).map (fun i => (i.zero, i.size, i.bytes)) = some (some (.agg #[.int .i64 0, .string ⟨#[]⟩, .bool false, .slice none 0 0, .slice none 0 0]), 5, 80) := by kernel_rfl
end Go.Proofs.YtgnclgbmfmibiaaGreatDoor
/- The law CanonLong: its walk. -/
namespace Go.Proofs.YtgnclgbmfmibiaaGreatDoor
open Go.RowKit
open Go.Lib hiding intOf
theorem LI.start (w : World) (b : Nat) : LI w b 0 (.slice (some ⟨w.heap.size + 1, 0, none⟩) 1 1) (((w.alloc (.cells (Array.replicate b (.int .u8 0)) 5)).alloc (.cells #[.int .i64 5, .string (zeros b), .bool false, .slice none 0 0, .slice none 0 0] 25)).alloc (.cells #[.slice (some ⟨w.heap.size + 1, 0, none⟩) 1 1, .int .i64 0] 28)) := by
  have hb1 := below_new w (.cells (Array.replicate b (.int .u8 0)) 5)
  have s1 := size_new w (.cells (Array.replicate b (.int .u8 0)) 5)
  generalize w.alloc (.cells (Array.replicate b (.int .u8 0)) 5) = w1 at hb1 s1 ⊢
  have h2 := heap_alloc_new w1 (.cells #[.int .i64 5, .string (zeros b), .bool false, .slice none 0 0, .slice none 0 0] 25)
  have s2 := size_new w1 (.cells #[.int .i64 5, .string (zeros b), .bool false, .slice none 0 0, .slice none 0 0] 25)
  have hb2 := hb1.alloc hb1.size (.cells #[.int .i64 5, .string (zeros b), .bool false, .slice none 0 0, .slice none 0 0] 25)
  generalize w1.alloc (.cells #[.int .i64 5, .string (zeros b), .bool false, .slice none 0 0, .slice none 0 0] 25) = w2 at h2 s2 hb2 ⊢
  refine ⟨hb2.alloc hb2.size _, ?_, ⟨_, ⟨rfl, .inr ⟨w.heap.size + 1, 1, #[.int .i64 5, .string (zeros b), .bool false, .slice none 0 0, .slice none 0 0], rfl, by omega, ?_, ?_⟩⟩, rfl⟩⟩
  · have := heap_alloc_new w2 (.cells #[.slice (some ⟨w.heap.size + 1, 0, none⟩) 1 1, .int .i64 0] 28)
    rw [s2, s1] at this
    exact this
  · rw [Lib.alloc_old _ _ _ (by omega), ← s1]; exact h2
  · exact ⟨by decide, by decide, rfl, rfl⟩
theorem LI.step {w wr w' : World} {b i : Nat} {v v' : Value} {xs : List Value} (h : LI w b i v wr) (hf : FamRow wr (zeros b) i xs)
    (hown : wr.ownsRow w.heap.size 25 5 v (i + 1) xs)
    (ho : w'.ownsRow w.heap.size 25 5 v' (i + 1 + 1) (xs ++ [.int .i64 9, .string ⟨#[]⟩, .bool false, .slice none 0 0, .slice (some ⟨wr.heap.size, 0, none⟩) 2 2]))
    (hg : ((wr.alloc (.cells #[.int .i64 i, .int .i64 i] 3)).alloc (.cells #[.int .i64 9, .string ⟨#[]⟩, .bool false, .slice none 0 0, .slice (some ⟨wr.heap.size, 0, none⟩) 2 2] 25)).grownBy w' v.ownBlock) :
    LI w b (i + 1) v' (w'.setCell ⟨w.heap.size + 2, 0, none⟩ v') ∧ w'.heap[w.heap.size + 2]? = some (.cells #[v, .int .i64 0] 28) := by
  have e1 := heap_alloc_new wr (.cells #[.int .i64 i, .int .i64 i] 3)
  have hb1 := below_new wr (.cells #[.int .i64 i, .int .i64 i] 3)
  have s1 := size_new wr (.cells #[.int .i64 i, .int .i64 i] 3)
  have o1 := World.ownsRow.alloc hown (.cells #[.int .i64 i, .int .i64 i] 3)
  generalize wr.alloc (.cells #[.int .i64 i, .int .i64 i] 3) = W1 at e1 hb1 s1 o1 hg
  have e2 : (W1.alloc (.cells #[.int .i64 9, .string ⟨#[]⟩, .bool false, .slice none 0 0, .slice (some ⟨wr.heap.size, 0, none⟩) 2 2] 25)).heap[wr.heap.size]? = some (.cells #[.int .i64 i, .int .i64 i] 3) := by
    rw [Lib.alloc_old _ _ _ (by omega)]; exact e1
  have hb2 := hb1.alloc hb1.size (.cells #[.int .i64 9, .string ⟨#[]⟩, .bool false, .slice none 0 0, .slice (some ⟨wr.heap.size, 0, none⟩) 2 2] 25)
  have s2 := size_new W1 (.cells #[.int .i64 9, .string ⟨#[]⟩, .bool false, .slice none 0 0, .slice (some ⟨wr.heap.size, 0, none⟩) 2 2] 25)
  have o2 := World.ownsRow.alloc o1 (.cells #[.int .i64 9, .string ⟨#[]⟩, .bool false, .slice none 0 0, .slice (some ⟨wr.heap.size, 0, none⟩) 2 2] 25)
  generalize W1.alloc (.cells #[.int .i64 9, .string ⟨#[]⟩, .bool false, .slice none 0 0, .slice (some ⟨wr.heap.size, 0, none⟩) 2 2] 25) = W2 at e2 hb2 s2 o2 hg
  have keep : ∀ (k : Nat) (cs : Array Value) (t : TypeId) (fz : Nat × Nat), W2.heap[k]? = some (.cells cs t fz) → t ≠ 25 → w'.heap[k]? = some (.cells cs t fz) := by
    intro k cs t fz hk ht
    rw [hg.block k (Array.getElem?_eq_some_iff.1 hk).1 ?_]
    · exact hk
    · intro e
      rcases o2.2 with ⟨rfl, _⟩ | ⟨g, cap, cur, rfl, _, hgg, _⟩
      · cases e
      · have e := Option.some.inj (show some k = some g from e)
        subst e
        rw [hk] at hgg
        cases hgg
        exact ht rfl
  have hlow : ∀ (k : Nat) (cs : Array Value) (t : TypeId) (fz : Nat × Nat), wr.heap[k]? = some (.cells cs t fz) → W2.heap[k]? = some (.cells cs t fz) := fun k cs t fz hk => by
    rw [hb2.block k (Array.getElem?_eq_some_iff.1 hk).1]; exact hk
  have hbox : w'.heap[w.heap.size + 2]? = some (.cells #[v, .int .i64 0] 28) := keep _ _ _ _ (hlow _ _ _ _ h.box) (by decide)
  have hset : ∀ (k : Nat) (cs : Array Value) (t : TypeId) (fz : Nat × Nat), w'.heap[k]? = some (.cells cs t fz) → t ≠ 28 → (w'.setCell ⟨w.heap.size + 2, 0, none⟩ v').heap[k]? = some (.cells cs t fz) := by
    intro k cs t fz hk ht
    rw [set_far]
    · exact hk
    · rintro rfl
      rw [hbox] at hk
      cases hk
      exact ht rfl
  have hbel : Below w.heap.size w w' := (h.below.trans (hb2.mono h.below.size)).grown hg (by have := h.below.size; have := hb2.size; omega) (fun k hk => (World.ownsRow.lt hown k hk).1)
  refine ⟨⟨hbel.setCell (p := ⟨w.heap.size + 2, 0, none⟩) (by show w.heap.size ≤ w.heap.size + 2; omega) _, ?_, ⟨_, ?_, xs, wr.heap.size, ?_, rfl, ?_⟩⟩, hbox⟩
  · simp [World.setCell, Array.getElem?_modify, hbox]
  · refine ⟨ho.1, ?_⟩
    rcases ho.2 with q | ⟨g, cap, cur, q1, q2, q3, q4⟩
    · exact .inl q
    · exact .inr ⟨g, cap, cur, q1, q2, hset _ _ _ _ q3 (by decide), q4⟩
  · exact hf.keep fun k cs fz hk => hset _ _ _ _ (keep _ _ _ _ (hlow _ _ _ _ hk) (by decide)) (by decide)
  · exact hset _ _ _ _ (keep _ _ _ _ e2 (by decide)) (by decide)
theorem key_fam (w : World) (v : Value) (b n : Nat) (hb : b ≤ 255) (hn : n < 31) (hN : NodesAt w v (fam (zeros b) n)) :
    Calls Tryz.prog 4 #[.agg #[v, .int .i64 n]] w fun e w' => Below w.heap.size w w' ∧ e = .returned (if 65536 < lenK (zeros b) n then .tuple #[.string ⟨#[]⟩, .int .i64 6] else .tuple #[.string ⟨(txt (zeros b) n).toArray⟩, .int .i64 0]) := by
  have hzs := zeros_size b
  have hG := fam_good (zeros b) (zeros_ascii b) (by rw [hzs]; unfold maxLen; omega) n hn
  have hlr : (lenRow (zeros b) n (n + 1)).getD n 0 = lenK (zeros b) n := by rw [lenRow_getD _ (Nat.le_refl n), if_pos (Nat.lt_succ_self n)]
  have h := key_any sc0 w v n (fam (zeros b) n) _ _ hN hG (by rw [(shape (zeros b) n hn).deep]) (by
    intro m hm
    rcases fam_mem _ n m hm with rfl | ⟨i, h1, rfl⟩
    · exact ⟨show ¬ (5 : Int) = 6 by decide, by show (zeros b).size ≤ _; omega, Nat.zero_le _⟩
    · exact ⟨show ¬ (9 : Int) = 6 by decide, Nat.zero_le _, show 2 ≤ 4294967296 by decide⟩) (by
    intro m hm h10
    rcases fam_mem _ n m hm with rfl | ⟨i, h1, rfl⟩
    · cases h10
    · cases h10) (n + 1) (lenRow (zeros b) n (n + 1)) (by rw [← fam_len0]; exact fam_length (zeros b) n n (n + 1) (Nat.le_refl n) (Nat.lt_succ_self n)) (txt (zeros b) n) (by
    intro hk
    rw [hlr] at hk
    exact ⟨fam_text (zeros b) n n (n + 1) (Nat.le_refl n) (Nat.lt_succ_self n), by unfold lenK at hk; omega⟩)
  rw [hlr] at h
  exact h
theorem key_big (w : World) (v : Value) (b n : Nat) (hb : b ≤ 255) (hn : n < 31) (hN : NodesAt w v (fam (zeros b) n)) (h : 65536 < sizeK b n) :
    Calls Tryz.prog 4 #[.agg #[v, .int .i64 n]] w fun e w' => Below w.heap.size w w' ∧ e = .returned (.tuple #[.string ⟨#[]⟩, .int .i64 6]) := by
  have h1 := key_fam w v b n hb hn hN
  rw [if_pos (by rw [sizeK_txt b n (by omega)] at h; unfold lenK; omega)] at h1
  exact h1
theorem key_small (w : World) (v : Value) (b n : Nat) (hb : b ≤ 255) (hn : n < 31) (hN : NodesAt w v (fam (zeros b) n)) (h : ¬ 65536 < sizeK b n) :
    ∃ s : ByteArray, (s.size : Int) = sizeK b n ∧ Calls Tryz.prog 4 #[.agg #[v, .int .i64 n]] w fun e w' => Below w.heap.size w w' ∧ e = .returned (.tuple #[.string s, .int .i64 0]) := by
  have h1 := key_fam w v b n hb hn hN
  rw [sizeK_txt b n (by omega)] at h ⊢
  rw [if_neg (by unfold lenK; omega)] at h1
  exact ⟨⟨(txt (zeros b) n).toArray⟩, by show (((txt (zeros b) n).toArray.size : Nat) : Int) = _; rw [List.size_toArray]; omega, h1⟩
/-- the graph, its root laid -/
theorem LI.rooted {w wr : World} {b n : Nat} {v : Value} (h : LI w b n v wr) (hn : n < 31) : NodesAt (wr.setCell ⟨w.heap.size + 2, 1, none⟩ (.int .i64 n)) v (fam (zeros b) n) ∧ Below w.heap.size w (wr.setCell ⟨w.heap.size + 2, 1, none⟩ (.int .i64 n)) ∧ (wr.setCell ⟨w.heap.size + 2, 1, none⟩ (.int .i64 n)).heap[w.heap.size + 2]? = some (.cells #[v, .int .i64 n] 28) := by
  have hset : ∀ (k : Nat) (cs : Array Value) (t : TypeId) (fz : Nat × Nat), wr.heap[k]? = some (.cells cs t fz) → t ≠ 28 → (wr.setCell ⟨w.heap.size + 2, 1, none⟩ (.int .i64 n)).heap[k]? = some (.cells cs t fz) := by
    intro k cs t fz hk ht
    rw [set_far]
    · exact hk
    · rintro rfl
      rw [h.box] at hk
      cases hk
      exact ht rfl
  obtain ⟨xs, ho, hf⟩ := h.row
  refine ⟨?_, h.below.setCell (p := ⟨w.heap.size + 2, 1, none⟩) (by show w.heap.size ≤ w.heap.size + 2; omega) _, by simp [World.setCell, Array.getElem?_modify, h.box]⟩
  refine FamRow.nodes (B := w.heap.size) (hf.keep fun k cs fz hk => hset _ _ _ _ hk (by decide)) ⟨ho.1, ?_⟩ (by omega)
  rcases ho.2 with q | ⟨g, cap, cur, q1, q2, q3, q4⟩
  · exact .inl q
  · exact .inr ⟨g, cap, cur, q1, q2, hset _ _ _ _ q3 (by decide), q4⟩
theorem pk_big : ∃ s : ByteArray, (∀ wx : World, (Instr.makeSlice 22 (.int .i64 65537) (.int .i64 65537)).run Tryz.prog wx = .ok (.slice (some ⟨wx.heap.size, 0, none⟩) 65537 65537) (wx.alloc (zrow 65537)) ∧ (convert 22 9 (.slice (some ⟨wx.heap.size, 0, none⟩) 65537 65537)).run Tryz.prog (wx.alloc (zrow 65537)) = .ok (.string s) (wx.alloc (zrow 65537))) ∧
    ∀ w : World, Calls Tryz.prog 5 #[.string s] w fun e w' => e = .returned (.tuple #[.agg #[.slice none 0 0, .int .i64 0], .int .i64 6]) ∧ Below w.heap.size w w' :=
  ⟨zeros 65537, fun wx => ⟨zero_make 65537 (by decide) wx, zero_str 65537 wx⟩, fun w => parsekey_long (zeros 65537) w (by rw [zeros_size]; decide)⟩
theorem node_cells : (Value.agg #[.int .i64 0, .string ⟨#[]⟩, .bool false, .slice none 0 0, .slice none 0 0]).cells.size = 5 := by kernel_rfl
end Go.Proofs.YtgnclgbmfmibiaaGreatDoor
