/- The law's walk: awake and ScriptTexts. -/
import Derived.Test.YtfnemklcmhilnaaGreatDoorScX
namespace Go.Proofs.YtfnemklcmhilnaaGreatDoor
open Go.RowKit
open Go.Lib hiding intOf
/-- what the examples read of the two commands of the first script -/
structure AwC (g h cap2 : Nat) (w : World) : Prop where
  t0 : w.cell? ⟨g, 3, none⟩ = some (.string ⟨#[123, 34, 120, 34, 58, 32, 49, 125]⟩)
  o1 : w.cell? ⟨g, 4, none⟩ = some (.int .i64 8)
  n1 : w.cell? ⟨g, 5, none⟩ = some (.slice (some ⟨h, 0, none⟩) 2 cap2)
  t1 : w.cell? ⟨g, 7, none⟩ = some (.string ⟨#[50]⟩)
  p1 : w.cell? ⟨h, 1, none⟩ = some (.string ⟨#[46, 120]⟩)
theorem AwC.below {g h cap2 : Nat} {w w' : World} (a : AwC g h cap2 w) (hb : Below w.heap.size w w') : AwC g h cap2 w' := by
  have k : ∀ b o v, w.cell? ⟨b, o, none⟩ = some v → w'.cell? ⟨b, o, none⟩ = some v := fun b o v hv => by
    rw [hb.cell (p := ⟨b, o, none⟩) (World.block_lt_of_cell? w _ hv)]; exact hv
  exact ⟨k _ _ _ a.t0, k _ _ _ a.o1, k _ _ _ a.n1, k _ _ _ a.t1, k _ _ _ a.p1⟩
theorem own_cells {w : World} {B e size n : Nat} {v : Value} {xs : List Value} (h : w.ownsRow B e size v n xs) (hn : 0 < n) : ∃ g cap, v = .slice (some ⟨g, 0, none⟩) n cap ∧ B ≤ g ∧ ∀ j u, xs[j]? = some u → w.cell? ⟨g, j, none⟩ = some u := by
  rcases h.2 with ⟨_, h0⟩ | ⟨g, cap, cur, hv, h1, h2, h3, h4, h5, h6⟩
  · omega
  · refine ⟨g, cap, hv, h1, fun j u hj => ?_⟩
    rw [Lib.cell_of_heap h2]
    rw [← h6] at hj
    have hl : j < (cur.toList.take (n * size)).length := (List.getElem?_eq_some_iff.1 hj).1
    rw [List.getElem?_take_of_lt (by simp at hl; omega)] at hj
    simpa using hj
theorem aw_of {B : Nat} {v : Value} {w : World} (h : CmdsAt B v [(1, ⟨[⟨#[97]⟩], [0], ⟨#[123, 34, 120, 34, 58, 32, 49, 125]⟩⟩), (8, ⟨[⟨#[97]⟩, ⟨#[46, 120]⟩], [], ⟨#[50]⟩⟩)] w) : ∃ g cap h2 cap2, v = .slice (some ⟨g, 0, none⟩) 2 cap ∧ AwC g h2 cap2 w := by
  obtain ⟨M, hM, hown, hrows⟩ := h
  cases M with
  | nil => simp at hM
  | cons m0 M =>
    cases M with
    | nil => simp at hM
    | cons m1 M =>
      cases M with
      | cons m2 M => simp at hM
      | nil =>
        obtain ⟨op0, nv0, fv0, cx0⟩ := m0
        obtain ⟨op1, nv1, fv1, cx1⟩ := m1
        simp only [List.map_cons, List.map_nil, List.cons.injEq, Prod.mk.injEq, and_true] at hM
        obtain ⟨⟨rfl, rfl⟩, ⟨rfl, rfl⟩⟩ := hM
        obtain ⟨g, cap, rfl, hg, hcell⟩ := own_cells hown (Nat.succ_pos _)
        obtain ⟨hr1, _⟩ := hrows _ (List.mem_cons_of_mem _ (List.mem_singleton.2 rfl))
        obtain ⟨h2, cap2, hv, _, hc2⟩ := own_cells hr1 (Nat.succ_pos _)
        simp only at hv
        subst hv
        exact ⟨g, cap, h2, cap2, rfl, hcell 3 _ rfl, hcell 4 _ rfl, hcell 5 _ rfl, hcell 7 _ rfl, hc2 1 _ rfl⟩
theorem awk_A (w : World) (hE : Env w) : Calls Tryz.prog 6 #[.string ⟨scA.toArray⟩] w fun e w' => ∃ g cap h cap2, e = .returned (.tuple #[.slice (some ⟨g, 0, none⟩) 2 cap, .int .i64 0, .int .i64 0]) ∧ AwC g h cap2 w' ∧ Below w.heap.size w w' := by
  refine (parse_any ppA ⟨scA.toArray⟩ w hE (by unfold maxLen; decide) ok_A).mono ?_
  rintro e w' ⟨hb, hp⟩
  have hp : ParseP w.heap.size (parseF ppA scA) e w' := hp
  rw [parse_A] at hp
  obtain ⟨v, rfl, hc⟩ := hp
  obtain ⟨g, cap, h2, cap2, rfl, ha⟩ := aw_of hc
  exact ⟨g, cap, h2, cap2, rfl, ha, hb⟩
theorem awk_n (l : List UInt8) (a : Int) (hp0 : parseF ppA l = (none, a, 4)) (hok : parseOk ppA l.length l) (hl : l.length ≤ 1000) (w : World) (hE : Env w) : Calls Tryz.prog 6 #[.string ⟨l.toArray⟩] w fun e w' => ∃ v, e = .returned (.tuple #[v, .int .i64 a, .int .i64 4]) ∧ Below w.heap.size w w' := by
  have hs := bytes_size l
  refine (parse_any ppA ⟨l.toArray⟩ w hE (by unfold maxLen; omega) (by rw [hs]; exact hok)).mono ?_
  rintro e w' ⟨hb, hp⟩
  have hp : ParseP w.heap.size (parseF ppA l) e w' := hp
  rw [hp0] at hp
  obtain ⟨v, rfl, hc⟩ := hp
  exact ⟨v, rfl, hb⟩
set_option maxHeartbeats 4000000 in
set_option maxRecDepth 100000 in
theorem awake_any (w : World) (hE : Env w) : Calls Tryz.prog 4 #[] w fun e w' => e = .returned (.bool true) ∧ Below w.heap.size w w' := by
  have HE := Lib.hid hE
  clear hE
  go_enter Tryz.func4, Tryz.ntmps4
  go_wp2_with fail
  refine (awk_A _ HE.out).mono ?_
  rintro e w1 ⟨g, cap, h, cap2, rfl, ha1, hb1⟩
  have H1 := Lib.hid (And.intro ha1 hb1)
  clear ha1 hb1
  go_wp2_with fail
  refine (awk_n scB 7 parse_B ok_B (by decide) _ (HE.out.below H1.out.2)).mono ?_
  rintro e w2 ⟨vb, rfl, hb2⟩
  have H2 := Lib.hid (And.intro (H1.out.1.below hb2) (H1.out.2.trans (hb2.mono H1.out.2.size)))
  clear hb2 H1
  go_wp2_with fail
  refine (awk_n scC 6 parse_C ok_C (by decide) _ (HE.out.below H2.out.2)).mono ?_
  rintro e w3 ⟨vc, rfl, hb3⟩
  have H3 := Lib.hid (And.intro (H2.out.1.below hb3) (H2.out.2.trans (hb3.mono H2.out.2.size)))
  clear hb3 H2
  go_wp2_with fail
  refine (awk_n scD 7 parse_D ok_D (by decide) _ (HE.out.below H3.out.2)).mono ?_
  rintro e w4 ⟨vd, rfl, hb4⟩
  have H4 := Lib.hid (And.intro (H3.out.1.below hb4) (H3.out.2.trans (hb4.mono H3.out.2.size)))
  clear hb4 H3
  go_wp2_with fail
  refine (awk_n scE 5 parse_E ok_E (by decide) _ (HE.out.below H4.out.2)).mono ?_
  rintro e w5 ⟨ve, rfl, hb5⟩
  have H5 := Lib.hid (And.intro (H4.out.1.below hb5) (H4.out.2.trans (hb5.mono H4.out.2.size)))
  clear hb5 H4
  obtain ⟨c0, c1, c2, c3, c4⟩ := H5.out.1
  go_wp2
  go_ret
  exact ⟨rfl, H5.out.2⟩
theorem one_of {B : Nat} {v : Value} {w : World} {c : Cx} {op : Int} (h : CmdsAt B v [(op, c)] w) : ∃ g cap, v = .slice (some ⟨g, 0, none⟩) 1 cap ∧ w.cell? ⟨g, 3, none⟩ = some (.string c.tx) := by
  obtain ⟨M, hM, hown, hrows⟩ := h
  cases M with
  | nil => simp at hM
  | cons m0 M =>
    cases M with
    | cons m1 M => simp at hM
    | nil =>
      obtain ⟨op0, nv0, fv0, cx0⟩ := m0
      simp only [List.map_cons, List.map_nil, List.cons.injEq, Prod.mk.injEq, and_true] at hM
      obtain ⟨rfl, rfl⟩ := hM
      obtain ⟨g, cap, rfl, hg, hcell⟩ := own_cells hown (Nat.succ_pos _)
      exact ⟨g, cap, rfl, hcell 3 _ rfl⟩
theorem read_back (t : ByteArray) (ht : t.size ≤ 1000) (w : World) (hE : Env w) (S : ByteArray) (hS : S.data.toList = loadL t.data.toList ++ [10]) :
    Calls Tryz.prog 6 #[.string S] w fun e w' => ∃ g cap, e = .returned (.tuple #[.slice (some ⟨g, 0, none⟩) 1 cap, .int .i64 0, .int .i64 0]) ∧ w'.cell? ⟨g, 3, none⟩ = some (.string t) ∧ Below w.heap.size w w' := by
  have hq : (qb t.data.toList).length ≤ 4000 := by
    have := qb_len t.data.toList
    rw [show t.data.toList.length = t.size from by simp] at this
    omega
  have hl := loadL_len t.data.toList
  have hsz : S.size = (loadL t.data.toList ++ [10]).length := by rw [← hS]; simp
  have hsz2 : S.size = (loadL t.data.toList).length + 1 := by rw [hsz]; simp
  refine (parse_any ppA S w hE (by unfold maxLen; omega) (by rw [hS, hsz]; exact load_ok ppA t.data.toList _ rfl)).mono ?_
  rintro e w' ⟨hb, hp⟩
  rw [hS, parse_load ppA t.data.toList (by omega)] at hp
  obtain ⟨v, rfl, hc⟩ := hp
  obtain ⟨g, cap, rfl, h3⟩ := one_of hc
  refine ⟨g, cap, rfl, ?_, hb⟩
  rw [h3, show (⟨t.data.toList.toArray⟩ : ByteArray) = t from ext_list rfl]
theorem pr_at (w1 : World) (hE : Env w1) (t : ByteArray) (ht : t.size ≤ 1000) :
    Calls Tryz.prog 5 #[.slice (some ⟨w1.heap.size + 1 + 1, 0, none⟩) 1 1] (((w1.alloc (.cells #[.string ⟨#[120]⟩] 9)).alloc (.cells #[.int .i64 6] 3)).alloc (cmd 1 (.slice (some ⟨w1.heap.size, 0, none⟩) 1 1) (.slice (some ⟨w1.heap.size + 1, 0, none⟩) 1 1) t)) fun e w' =>
      e = .returned (.tuple #[.string ⟨(loadL t.data.toList ++ [10]).toArray⟩, .int .i64 0]) ∧ Below w1.heap.size w1 w' := by
  have s1 : (w1.alloc (.cells #[.string ⟨#[120]⟩] 9)).heap.size = w1.heap.size + 1 := by simp
  have s2 : ((w1.alloc (.cells #[.string ⟨#[120]⟩] 9)).alloc (.cells #[.int .i64 6] 3)).heap.size = w1.heap.size + 1 + 1 := by simp
  have hb := ((((Below.refl _ w1).alloc (Nat.le_refl _) (.cells #[.string ⟨#[120]⟩] 9)).alloc (by omega) (.cells #[.int .i64 6] 3)).alloc (by omega) (cmd 1 (.slice (some ⟨w1.heap.size, 0, none⟩) 1 1) (.slice (some ⟨w1.heap.size + 1, 0, none⟩) 1 1) t))
  refine (print_load _ (w1.heap.size + 1 + 1) w1.heap.size (w1.heap.size + 1) t (hE.below hb) ?_ ?_ ?_ ht).mono ?_
  · rw [← s2]; exact heap_alloc_new _ _
  · have : (((w1.alloc (.cells #[.string ⟨#[120]⟩] 9)).alloc (.cells #[.int .i64 6] 3)).alloc (cmd 1 (.slice (some ⟨w1.heap.size, 0, none⟩) 1 1) (.slice (some ⟨w1.heap.size + 1, 0, none⟩) 1 1) t)).heap[w1.heap.size]? = some (.cells #[.string ⟨#[120]⟩] 9) := by
      rw [Lib.alloc_old _ _ _ (by omega), Lib.alloc_old _ _ _ (by omega)]; exact heap_alloc_new _ _
    exact (Lib.cell_of_heap this 0).trans rfl
  · have : (((w1.alloc (.cells #[.string ⟨#[120]⟩] 9)).alloc (.cells #[.int .i64 6] 3)).alloc (cmd 1 (.slice (some ⟨w1.heap.size, 0, none⟩) 1 1) (.slice (some ⟨w1.heap.size + 1, 0, none⟩) 1 1) t)).heap[w1.heap.size + 1]? = some (.cells #[.int .i64 6] 3) := by
      rw [Lib.alloc_old _ _ _ (by omega), ← s1]; exact heap_alloc_new _ _
    exact (Lib.cell_of_heap this 0).trans rfl
  · rintro e w' ⟨rfl, hb2⟩
    exact ⟨rfl, hb.trans (hb2.mono hb.size)⟩
set_option maxHeartbeats 4000000 in
set_option maxRecDepth 100000 in
theorem texts_any (t : ByteArray) (w : World) (hE : Env w) (ht : t.size ≤ maxLen) : Calls Tryz.prog 3 #[.string t] w fun e w' => e = .returned (.bool true) ∧ Below w.heap.size w w' := by
  have HE := Lib.hid hE
  unfold maxLen at ht
  clear hE
  by_cases hs : t.size ≤ 500
  · have hs2 : (t.size : Int) ≤ 500 := by omega
    obtain ⟨S, hS⟩ : ∃ S : ByteArray, S = ⟨(loadL t.data.toList ++ [10]).toArray⟩ := ⟨_, rfl⟩
    have hSl : S.data.toList = loadL t.data.toList ++ [10] := by rw [hS]
    have hSz : S.size = (loadL t.data.toList).length + 1 := by
      have := congrArg List.length hSl
      simpa using this
    have hbytes : ∀ i, (h0 : i < S.size) → i < S.size - 1 → 32 ≤ (S[i]'h0).toNat ∧ (S[i]'h0).toNat ≠ 127 := fun i h0 h => by
      have h1 : S.data.toList.getD i 0 = S[i]'h0 := getD_of S i h0
      rw [← h1, hSl]
      have hi : i < (loadL t.data.toList).length := by omega
      have h2 : (loadL t.data.toList ++ [10]).getD i 0 = (loadL t.data.toList)[i] := by
        rw [List.getD_eq_getElem?_getD, List.getElem?_append_left hi, List.getElem?_eq_getElem hi]; rfl
      rw [h2]
      exact loadL_ctl t.data.toList _ (List.getElem_mem hi)
    have hlen := loadL_len t.data.toList
    have hq := qb_len t.data.toList
    rw [show t.data.toList.length = t.size from by simp] at hq
    have hSb : S.size ≤ 4100 := by omega
    have hS1 : 1 ≤ S.size := by omega
    have HS := Lib.hid hS
    have HSL := Lib.hid hSl
    have HBY := Lib.hid hbytes
    clear hS hSl hbytes hlen hq hSz
    go_enter Tryz.func3, Tryz.ntmps3
    go_wp2_with fail
    refine (awake_any _ HE.out).mono ?_
    rintro e w1 ⟨rfl, hb1⟩
    have HB1 := Lib.hid hb1
    clear hb1
    go_wp2_with fail
    refine (pr_at w1 (HE.out.below HB1.out) t (by omega)).mono ?_
    rw [← HS.out]
    rintro e w2 ⟨rfl, hb2⟩
    have HB2 := Lib.hid (HB1.out.trans (hb2.mono HB1.out.size))
    clear hb2
    go_wp2_with fail
    refine (read_back t (by omega) w2 (HE.out.below HB2.out) S HSL.out).mono ?_
    rintro e w3 ⟨g, cap, rfl, hc3, hb3⟩
    have HB3 := Lib.hid (HB2.out.trans (hb3.mono HB2.out.size))
    clear hb3
    go_wp2
    go_loop [8] (fun iv => ∃ i : Nat, iv = .int .i64 i ∧ i + 1 ≤ S.size) (fun iv => S.size - (intOf iv).toNat)
    case atStart => exact ⟨0, rfl, by omega⟩
    case round =>
      obtain ⟨i, rfl, hi⟩ := hrel
      by_cases hlt : i + 1 < S.size
      · have hi0 : i < S.size := by omega
        obtain ⟨b1, b2⟩ := HBY.out i hi0 (by omega)
        have e1 : ¬ ((S[i].toNat : Int) < 32) := by omega
        have e2 : ((S[i].toNat : Int) == 127) = false := by simp; omega
        have e3 : (i : Int) < (S.size : Int) - 1 := by omega
        clear b1 b2
        go_wp2
        go_round
        case rel => exact ⟨i + 1, by go_num, by omega⟩
        case measure => simp [intOf]; omega
      · have e3 : ¬ (i : Int) < (S.size : Int) - 1 := by omega
        go_wp2
        go_ret
        exact ⟨rfl, HB3.out⟩
  · have hs2 : 500 < (t.size : Int) := by omega
    go_enter Tryz.func3, Tryz.ntmps3
    go_wp2_with (go_at_call 4; refine (awake_any _ HE.out).mono ?_; rintro e w1 ⟨rfl, hb1⟩)
    go_ret
    exact ⟨rfl, hb1⟩
end Go.Proofs.YtfnemklcmhilnaaGreatDoor
