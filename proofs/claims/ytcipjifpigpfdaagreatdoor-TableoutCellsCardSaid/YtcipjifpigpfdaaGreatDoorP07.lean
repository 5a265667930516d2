import Derived.Deep.Cut
import Derived.Test.YtcipjifpigpfdaaGreatDoorShEm
import Derived.Test.YtcipjifpigpfdaaGreatDoorP06
/- share.order. -/
namespace Go.Proofs.YtcipjifpigpfdaaGreatDoor
open Go.RowKit
open Go.Lib hiding intOf
theorem info_ints : (Tryz.prog.info? 23).map (fun i => (i.zero, i.size, i.bytes)) = some (some (.slice none 0 0), 1, 24) := by kernel_rfl
theorem ents_make (m : Nat) (hm : m ≤ 1000000) (wx : World) : (Instr.makeSlice 155 (.int .i64 (m : Int)) (.int .i64 (m : Int))).run Tryz.prog wx = .ok (.slice (some ⟨wx.heap.size, 0, none⟩) m m) (wx.alloc (.cells (Array.replicate m (.slice none 0 0)) 23)) := by
  rw [run_make_row' 155 23 (.slice none 0 0) 24 Tryz.underlying155 info_ints rfl .i64 .i64 m (by omega) (by omega) wx, made_rep]
theorem marks_make (m : Nat) (hm : m ≤ 1000000) (wx : World) : (Instr.makeSlice 90 (.int .i64 (m : Int)) (.int .i64 (m : Int))).run Tryz.prog wx = .ok (.slice (some ⟨wx.heap.size, 0, none⟩) m m) (wx.alloc (.cells (Array.replicate m (.bool false)) 4)) := by
  rw [run_make_row' 90 4 (.bool false) 1 Tryz.underlying90 info_bool0 rfl .i64 .i64 m (by omega) (by omega) wx, made_rep]
def orderObjs (B : Nat) (v : Value) (root : Int) (m : Nat) : List Obj :=
  [.cells #[v, .int .i64 root] 28, .cells (Array.replicate m (.slice none 0 0)) 23, .cells #[.slice (some ⟨B + 1, 0, none⟩) m m] 155, .cells (Array.replicate m (.bool false)) 4, .cells #[.slice (some ⟨B + 3, 0, none⟩) m m] 90, .cells #[.slice none 0 0] 23,
    .cells #[.func (.func 167) #[] #[.pointer (some ⟨B + 4, 0, none⟩), .pointer (some ⟨B + 5, 0, none⟩), .pointer (some ⟨B, 0, none⟩), .pointer (some ⟨B + 2, 0, none⟩), .pointer (some ⟨B + 6, 0, none⟩)]] 98]
theorem OW.start (w : World) (v : Value) (root : Int) (N : List Nd) : OW w v root N w.heap.size (List.replicate N.length (.slice none 0 0)) (List.replicate N.length false) (.slice none 0 0) [] (allocs w (orderObjs w.heap.size v root N.length)) := by
  obtain ⟨h1, h2, h3⟩ := allocs_at (orderObjs w.heap.size v root N.length) w
  refine ⟨rfl, h1, h3 0 _ rfl, ?_, h3 2 _ rfl, ?_, h3 4 _ rfl, h3 5 _ rfl, h3 6 _ rfl, World.ownsRow_nil _ _ _ _, by simp, by simp, fun x hx => by cases hx⟩
  · refine (h3 1 _ rfl).trans ?_; simp
  · refine (h3 3 _ rfl).trans ?_; simp
set_option maxHeartbeats 4000000 in
set_option maxRecDepth 100000 in
theorem order_ranked (w : World) (v : Value) (root : Nat) (N : List Nd) (rank : Nat → Nat) (hN : NodesAt w v N) (hR : Ranked N rank) (hroot : root < N.length) :
    Calls Tryz.prog 121 #[.agg #[v, .int .i64 root]] w fun e w' => ∃ (ov ev : Value) (L : List Int), e = .returned (.tuple #[ov, ev]) ∧ Below w.heap.size w w' ∧ w'.ownsRow w.heap.size 3 1 ov L.length (L.map (Value.int .i64)) ∧ (∀ x ∈ L, 0 ≤ x ∧ x < (N.length : Int)) ∧ L.length ≤ 4096 := by
  have hv := (visitO w v root N w.heap.size rank hN hR (rank root + 1) root (List.replicate N.length (.slice none 0 0)) (List.replicate N.length false) (.slice none 0 0) [] (allocs w (orderObjs w.heap.size v root N.length)) hroot (Nat.lt_succ_self _) (by rw [List.getD_eq_getElem?_getD, List.getElem?_replicate]; simp [hroot]) (by simp) (OW.start w v root N))
  have hx := OW.start w v root N
  simp only [orderObjs, allocs, capsO] at hv hx
  have HV := PLift.up hv
  have HX := PLift.up hx
  clear hv hx
  have HL := PLift.up hR.len
  have hN1 := hR.len
  have hm1 := ents_make N.length (by omega)
  have hm2 := marks_make N.length (by omega)
  obtain ⟨va, vc, rfl, hvl, hvn⟩ := hN
  clear hR hvn hroot
  go_enter Tryz.func121, Tryz.ntmps121
  go_upto_region 6 with fail
  generalize hW0 : World.alloc _ _ = W0
  have HX0 : PLift (OW w (.slice va N.length vc) root N w.heap.size (List.replicate N.length (.slice none 0 0)) (List.replicate N.length false) (.slice none 0 0) [] W0) := ⟨by rw [← hW0]; exact HX.down⟩
  have HV0 : PLift (Calls Tryz.prog 167 #[.int .i64 root, .pointer (some ⟨w.heap.size + 4, 0, none⟩), .pointer (some ⟨w.heap.size + 5, 0, none⟩), .pointer (some ⟨w.heap.size, 0, none⟩), .pointer (some ⟨w.heap.size + 2, 0, none⟩), .pointer (some ⟨w.heap.size + 6, 0, none⟩)] W0 fun e w' => e = .returned (.tuple #[]) ∧ ∃ E' M' ov' L', L'.length + M'.count false = N.length ∧ OW w (.slice va N.length vc) root N w.heap.size E' M' ov' L' w' ∧ FrO w.heap.size W0 (.slice none 0 0) w' ov') := ⟨by rw [← hW0]; exact HV.down⟩
  clear hW0 HX HV hm1 hm2
  have c1 : W0.cell? ⟨w.heap.size, 1, none⟩ = some (.int .i64 root) := (Lib.cell_of_heap HX0.down.f0 1).trans rfl
  have c6 : W0.cell? ⟨w.heap.size + 1 + 1 + 1 + 1 + 1 + 1, 0, none⟩ = some (.func (.func 167) #[] #[.pointer (some ⟨w.heap.size + 1 + 1 + 1 + 1, 0, none⟩), .pointer (some ⟨w.heap.size + 1 + 1 + 1 + 1 + 1, 0, none⟩), .pointer (some ⟨w.heap.size, 0, none⟩), .pointer (some ⟨w.heap.size + 1 + 1, 0, none⟩), .pointer (some ⟨w.heap.size + 1 + 1 + 1 + 1 + 1 + 1, 0, none⟩)]) := (Lib.cell_of_heap HX0.down.f6 0).trans rfl
  go_wp2_with (go_at_call 167; refine HV0.down.mono ?_; rintro e w2 ⟨rfl, E2, M2, ov2, L2, hc2, hx2, -⟩; have HX2 := PLift.up hx2; have HC2 := PLift.up hc2; clear hx2 hc2)
  have d5 : w2.cell? ⟨w.heap.size + 1 + 1 + 1 + 1 + 1, 0, none⟩ = some ov2 := (Lib.cell_of_heap HX2.down.f5 0).trans rfl
  have d2 : w2.cell? ⟨w.heap.size + 1 + 1, 0, none⟩ = some (.slice (some ⟨w.heap.size + 1, 0, none⟩) N.length N.length) := (Lib.cell_of_heap HX2.down.f2 0).trans rfl
  clear c1 c6
  go_quiet (fail)
  go_wp2
  go_ret2
  have h := HX2.down.drewN nq
  exact ⟨ov2, _, L2, rfl, h.below, h.own.mono (by omega), h.rg, by have := HC2.down; have := HL.down; omega⟩
end Go.Proofs.YtcipjifpigpfdaaGreatDoor
/- share.counts. -/
namespace Go.Proofs.YtcipjifpigpfdaaGreatDoor
open Go.RowKit
open Go.Lib hiding intOf
def cntS (C : List Int) (n : Nd) : List Int := n.items.foldl incr C
def cntSF (N : List Nd) (root : Int) : List Int := N.foldl cntS (incr (List.replicate N.length 0) root)
set_option maxHeartbeats 4000000 in
set_option maxRecDepth 100000 in
theorem scounts_any (w : World) (v : Value) (N : List Nd) (root : Nat) (hN : NodesAt w v N) (hR : InRange N) (hroot : root < N.length) (hn : N.length ≤ 4096) :
    Calls Tryz.prog 122 #[.agg #[v, .int .i64 root]] w fun e w' => e = .returned (.slice (some ⟨w.heap.size + 1, 0, none⟩) N.length N.length) ∧ Below w.heap.size w w' ∧ w'.heap[w.heap.size + 1]? = some (.cells ((cntSF N root).map (Value.int .i64)).toArray 3) := by
  have HN := Lib.hid hN
  have HR := Lib.hid hR
  obtain ⟨va, vc, rfl, hvl, hvn⟩ := hN
  have HVN := Lib.hid hvn
  have hroot2 : (root : Int) < (N.length : Int) := by omega
  have hroot3 : (0 : Int) ≤ root := by omega
  clear hR hvn
  go_enter Tryz.func122, Tryz.ntmps122
  go_wp2_with (refine make_letter Tryz.underlying23 info_int0 rfl _ rfl _ _ rfl N.length (w.heap.size + 1) rfl rfl (by omega) (by omega) (size_new _ _) ?_)
  intro W hW
  have HC0 : Hid (CW w N #[.slice va N.length vc, .int .i64 root] (List.replicate N.length 0) W) := by
    show CW w N #[.slice va N.length vc, .int .i64 root] (List.replicate N.length 0) W
    rw [hW.out]; exact cw_start w N _
  have c1 : W.cell? ⟨w.heap.size, 1, none⟩ = some (.int .i64 root) := (Lib.cell_of_heap HC0.out.box 1).trans rfl
  have c0 : W.cell? ⟨w.heap.size, 0, none⟩ = some (.slice va N.length vc) := (Lib.cell_of_heap HC0.out.box 0).trans rfl
  have cr : W.cell? ⟨w.heap.size + 1, root, none⟩ = some (.int .i64 0) := by rw [Lib.cell_of_heap HC0.out.row]; simp [hroot]
  have fr : W.frozen? ⟨w.heap.size + 1, root, none⟩ = false := Lib.frozen_of_heap HC0.out.row root
  have HC1 : Hid (CW w N #[.slice va N.length vc, .int .i64 root] (incr (List.replicate N.length 0) root) (W.setCell ⟨w.heap.size + 1, root, none⟩ (.int .i64 1))) := by
    have h := HC0.out.set root 1
    have e : incr (List.replicate N.length 0) root = (List.replicate N.length 0).set root 1 := by
      unfold incr
      simp only [Int.toNat_natCast]
      rw [List.getD_eq_getElem?_getD, List.getElem?_replicate, if_pos hroot]
      have h1 : wrap64 ((some (0 : Int)).getD 0 + 1) = 1 := by simp [wrap64]
      rw [h1]
    show CW w N #[.slice va N.length vc, .int .i64 root] (incr (List.replicate N.length 0) root) _
    rw [e]; exact h
  have hz1 : w.heap.size < W.heap.size := (Array.getElem?_eq_some_iff.1 HC0.out.box).1
  go_wp2
  go_loopw [22] (fun iv wr => ∃ (i : Nat) (C : List Int), iv = .int .i64 i ∧ i ≤ N.length ∧ C = (N.take i).foldl cntS (incr (List.replicate N.length 0) root) ∧ CW w N #[.slice va N.length vc, .int .i64 root] C wr) (fun iv _ => N.length - (intOf iv).toNat)
  case atStart => exact ⟨0, _, rfl, Nat.zero_le _, rfl, HC1.out⟩
  case round =>
    obtain ⟨i, C, rfl, hi, hC, hcw⟩ := hrel
    have HCW := Lib.hid hcw
    have HC := Lib.hid hC
    by_cases hlt : i < N.length
    · have hlt2 : (i : Int) < (N.length : Int) := by omega
      rcases HVN.out with hnil | ⟨b, o, rfl, hall⟩
      · exfalso; rw [hnil] at hlt; exact Nat.not_lt_zero _ hlt
      have hn0 := hall i N[i] (List.getElem?_eq_getElem hlt)
      have hrng := HR.out N[i] (List.getElem_mem hlt)
      have HTKN : Hid ((N.take (i + 1)).foldl cntS (incr (List.replicate N.length 0) root) = cntS C N[i]) := by
        show _ = _
        rw [List.take_succ_eq_append_getElem hlt, List.foldl_append, ← HC.out]; rfl
      generalize N[i] = n at hn0 hrng HTKN
      have HRN := Lib.hid hrng
      obtain ⟨kv, iv, c0, c1, c2, c3, c4, hkc, hic⟩ := hn0
      obtain ⟨ka, kc, rfl, hkl, hkc⟩ := hkc
      obtain ⟨ia, ic, rfl, hil, hic⟩ := hic
      have HKC := Lib.hid hkc
      have HIC := Lib.hid hic
      have d0 := cell_keep hcw.below c0
      have d1 := cell_keep hcw.below c1
      have d2 := cell_keep hcw.below c2
      have d3 := cell_keep hcw.below c3
      have d4 := cell_keep hcw.below c4
      obtain ⟨Hn, hHn⟩ : ∃ Hn, wr.heap.size = Hn := ⟨_, rfl⟩
      have HHN : Hid (Hn ≠ w.heap.size + 1) := by
        have := (Array.getElem?_eq_some_iff.1 hcw.row).1
        show Hn ≠ w.heap.size + 1; omega
      have HNEW : Hid ((wr.alloc (.cells #[.int .i64 n.kind, .string n.text, .bool n.ord, .slice ka n.keys.length kc, .slice ia n.items.length ic] 25)).heap[Hn]? = some (.cells #[.int .i64 n.kind, .string n.text, .bool n.ord, .slice ka n.keys.length kc, .slice ia n.items.length ic] 25)) := by
        show _ = _
        rw [← hHn]; exact heap_alloc_new wr _
      clear hall hC hcw hrng hkc hic c0 c1 c2 c3 c4
      go_wp2
      go_loopw [29] (fun jv wr => ∃ (j : Nat) (D : List Int), jv = .int .i64 j ∧ j ≤ n.items.length ∧ D = (n.items.take j).foldl incr C ∧ CW w N #[.slice (some ⟨b, o, none⟩) N.length vc, .int .i64 root] D wr ∧ wr.heap[Hn]? = some (.cells #[.int .i64 n.kind, .string n.text, .bool n.ord, .slice ka n.keys.length kc, .slice ia n.items.length ic] 25)) (fun jv _ => n.items.length - (intOf jv).toNat)
      case atStart => exact ⟨0, _, rfl, Nat.zero_le _, rfl, HCW.out.alloc _, HNEW.out⟩
      case round =>
        obtain ⟨j, D, rfl, hj, hD, hcw, hnb⟩ := hrel
        have HCW := Lib.hid hcw
        have HD := Lib.hid hD
        have HNB := Lib.hid hnb
        by_cases hjl : j < n.items.length
        · have hjl2 : (j : Int) < (n.items.length : Int) := by omega
          have hx := HRN.out.2 n.items[j] (List.getElem_mem hjl)
          rcases HIC.out with hnil | ⟨lb, lo, rfl, hcells⟩
          · exfalso; rw [hnil] at hjl; exact Nat.not_lt_zero _ hjl
          have hc1 := cell_keep hcw.below (hcells j n.items[j] (List.getElem?_eq_getElem hjl))
          have HTK : Hid ((n.items.take (j + 1)).foldl incr C = incr D n.items[j]) := by
            show _ = _
            rw [List.take_succ_eq_append_getElem hjl, List.foldl_append, ← HD.out]; rfl
          generalize n.items[j] = x at hx hc1 HTK
          obtain ⟨k, rfl⟩ := Int.eq_ofNat_of_zero_le hx.1
          have hk : k < D.length := by rw [hcw.len]; have := hx.2; omega
          have hk2 : (k : Int) < (N.length : Int) := hx.2
          have hck : wr.cell? ⟨w.heap.size + 1, k, none⟩ = some (.int .i64 D[k]) := by rw [Lib.cell_of_heap hcw.row]; simp [hk]
          have hfk : wr.frozen? ⟨w.heap.size + 1, k, none⟩ = false := Lib.frozen_of_heap hcw.row k
          have HIN : Hid (incr D (k : Int) = D.set k (wrap64 (D[k] + 1))) := by
            show _ = _
            unfold incr
            simp only [Int.toNat_natCast]
            rw [List.getD_eq_getElem?_getD, List.getElem?_eq_getElem hk]; rfl
          have HCELLS := Lib.hid hcells
          generalize D[k] = y at hck HIN
          clear hcells hx hD hcw hnb hk
          go_wp2
          go_roundw
          case rel =>
            refine ⟨j + 1, _, by go_num, by omega, HTK.out.symm, ?_, ?_⟩
            · rw [HIN.out]; exact HCW.out.set k _
            · rw [set_far _ HHN.out]; exact HNB.out
          case measure => simp [intOf]; omega
        · obtain rfl : j = n.items.length := by omega
          have HE : Hid (D = n.items.foldl incr C) := by
            show _ = _
            rw [HD.out, List.take_length]
          clear hD hcw hnb
          go_wp2
          go_roundw
          case rel => exact ⟨i + 1, _, by go_num, by omega, rfl, by rw [HTKN.out]; unfold cntS; rw [← HE.out]; exact HCW.out⟩
          case measure => simp [intOf]; omega
    · obtain rfl : i = N.length := by omega
      have HE : Hid (C = cntSF N root) := by
        show _ = _
        rw [HC.out, List.take_length]; rfl
      clear hC hcw
      go_wp2
      go_ret
      exact ⟨rfl, HCW.out.below, by rw [← HE.out]; exact HCW.out.row⟩
end Go.Proofs.YtcipjifpigpfdaaGreatDoor
/- graph.components: the walk of a visit. -/
namespace Go.Proofs.YtcipjifpigpfdaaGreatDoor
open Go.RowKit
open Go.Lib hiding intOf
set_option maxHeartbeats 4000000 in
set_option maxRecDepth 100000 in
theorem visit_all (w0 : World) (v : Value) (root : Int) (N : List Nd) (d : Fin 13 → Nat) (base : Nat) (hN : NodesAt w0 v N) (hR : InRange N) (hn : N.length ≤ 4096) : ∀ f, VisitsAt w0 v root N d base (visitT N f) := by
  intro f
  induction f with
  | zero => intro x s s' sv zv w hs; cases hs
  | succ f ih =>
    intro a s s' sv zv w hs ha hi hg
    obtain ⟨s2, s3, he1, he2, hl⟩ := visitT_parts hs
    have HIH := PLift.up ih
    have HG := PLift.up hg
    have HE1 := PLift.up he1
    have HE2 := PLift.up he2
    have HL := PLift.up hl
    have HI := PLift.up hi
    have HR := PLift.up hR
    obtain ⟨va, vc, hva, hvl, hvn⟩ := hN
    subst hva
    have HVN := PLift.up hvn
    have hai : (a : Int) < (N.length : Int) := by omega
    clear he1 he2
    rcases HVN.down with hnil | ⟨b, o, rfl, hall⟩
    · exfalso; rw [hnil] at ha; exact Nat.not_lt_zero _ ha
    have hNa : N[a]? = some N[a] := List.getElem?_eq_getElem ha
    have hn0 := hall a N[a] hNa
    have hD : N.getD a nd0 = N[a] := by rw [List.getD_eq_getElem?_getD, hNa]; rfl
    have hrng := HR.down N[a] (List.getElem_mem ha)
    have he1 := HE1.down
    have he2 := HE2.down
    rw [hD] at he1 he2
    generalize N[a] = n at hn0 hrng he1 he2
    have HRN := PLift.up hrng
    have HE1 := PLift.up he1
    have HE2 := PLift.up he2
    obtain ⟨kv, iv, m0, m1, m2, m3, m4, hkc, hic⟩ := hn0
    obtain ⟨ka, kc, rfl, hkl, hkc⟩ := hkc
    obtain ⟨ia, ic, rfl, hil, hic⟩ := hic
    have HKC := PLift.up hkc
    have HIC := PLift.up hic
    have M4 := PLift.up m4
    have M3 := PLift.up m3
    clear hall hNa hD hrng he1 he2 m0 m1 m2 m3 m4 hkc hic
    have c9 : w.cell? ⟨d 9, 0, none⟩ = some (.int .i64 s.next) := (Lib.cell_of_heap (hg.fix 9) 0).trans rfl
    have c9' := fun ob => cell_keep (below_new w ob) c9
    have f9 : ∀ o, w.frozen? ⟨d 9, o, none⟩ = false := fun o => Lib.frozen_of_heap (hg.fix 9) o
    have f9' : ∀ ob o, (w.alloc ob).frozen? ⟨d 9, o, none⟩ = false := fun ob o => Lib.frozen_of_heap ((Lib.alloc_old w ob _ (block_lt (hg.fix 9))).trans (hg.fix 9)) o
    have hat : ((w.alloc (.cells #[.int .i64 a] 3)).setCell ⟨d 9, 0, none⟩ (.int .i64 (wrap64 (s.next + 1)))).heap[w.heap.size]? = some (.cells #[.int .i64 a] 3) := by
      rw [set_far _ (by have := hg.hi 9; have := hg.bsz; omega)]
      exact heap_alloc_new w _
    have hfr : Fr base sv zv sv zv w ((w.alloc (.cells #[.int .i64 a] 3)).setCell ⟨d 9, 0, none⟩ (.int .i64 (wrap64 (s.next + 1)))) :=
      (Fr.of_grown (World.grownBy_alloc w _ none) (fun k hk => by cases hk)).trans (Fr.of_grown (grown_set _ (d 9) 0 _) (fun k hk => by rw [← Option.some.inj hk]; exact hg.hi 9))
    have HX2 := PLift.up ((hg.toGX.alloc (.cells #[.int .i64 a] 3)).setNext (wrap64 (s.next + 1)))
    generalize hy : s.next = y at c9 c9' hat hfr HX2
    have HY := PLift.up hy
    clear hs hl hi hR hvn hg ih hy
    unfold capsV
    as_aux_lemma =>
    go_enter Tryz.func165, Tryz.ntmps165
    go_wp2
    as_aux_lemma =>
    generalize hW2 : (w.alloc (.cells #[.int .i64 a] 3)).setCell ⟨d 9, 0, none⟩ (.int .i64 (wrap64 (y + 1))) = W2 at HX2 hat hfr ⊢
    have hx2 := HX2.down
    have k5 : W2.cell? ⟨d 5, 0, none⟩ = some (.slice (some ⟨d 1, 0, none⟩) N.length N.length) := (Lib.cell_of_heap (hx2.fix 5) 0).trans rfl
    have k6 : W2.cell? ⟨d 6, 0, none⟩ = some (.slice (some ⟨d 2, 0, none⟩) N.length N.length) := (Lib.cell_of_heap (hx2.fix 6) 0).trans rfl
    have k9 : W2.cell? ⟨d 9, 0, none⟩ = some (.int .i64 (wrap64 (y + 1))) := (Lib.cell_of_heap (hx2.fix 9) 0).trans rfl
    have kt : W2.cell? ⟨w.heap.size, 0, none⟩ = some (.int .i64 a) := (Lib.cell_of_heap hat 0).trans rfl
    have ki : W2.cell? ⟨d 1, a, none⟩ = some (.int .i64 (s.index.getD a 0)) := int_row (hx2.fix 1) (by rw [hx2.li]; exact ha)
    have kl : W2.cell? ⟨d 2, a, none⟩ = some (.int .i64 (s.low.getD a 0)) := int_row (hx2.fix 2) (by rw [hx2.ll]; exact ha)
    have fi : ∀ o, W2.frozen? ⟨d 1, o, none⟩ = false := fun o => Lib.frozen_of_heap (hx2.fix 1) o
    have fl : ∀ o, W2.frozen? ⟨d 2, o, none⟩ = false := fun o => Lib.frozen_of_heap (hx2.fix 2) o
    have n12 : d 1 ≠ d 2 := fun e => by have := hx2.inj _ _ e; exact absurd this (by decide)
    have n21 : d 2 ≠ d 1 := fun e => n12 e.symm
    have n16 : d 1 ≠ d 6 := fun e => by have := hx2.inj _ _ e; exact absurd this (by decide)
    have n19 : d 1 ≠ d 9 := fun e => by have := hx2.inj _ _ e; exact absurd this (by decide)
    have n1t : d 1 ≠ w.heap.size := by have := HG.down.hi 1; have := HG.down.bsz; omega
    clear hx2
    have HX3 := PLift.up (((HX2.down.setIndex a (wrap64 (y + 1))).setLow a (wrap64 (y + 1))).drew)
    have hat3 : ((W2.setCell ⟨d 1, a, none⟩ (.int .i64 (wrap64 (y + 1)))).setCell ⟨d 2, a, none⟩ (.int .i64 (wrap64 (y + 1)))).drew.heap[w.heap.size]? = some (.cells #[.int .i64 a] 3) := by
      show ((W2.setCell _ _).setCell _ _).heap[w.heap.size]? = _
      rw [set_far _ (by have := HG.down.hi 2; have := HG.down.bsz; omega), set_far _ (by have := HG.down.hi 1; have := HG.down.bsz; omega)]
      exact hat
    have hfr3 : Fr base sv zv sv zv w ((W2.setCell ⟨d 1, a, none⟩ (.int .i64 (wrap64 (y + 1)))).setCell ⟨d 2, a, none⟩ (.int .i64 (wrap64 (y + 1)))).drew :=
      (hfr.trans (Fr.of_grown (grown_set _ (d 1) a _) (fun k hk => by rw [← Option.some.inj hk]; exact HG.down.hi 1))).trans (Fr.of_grown (grown_drew (grown_set _ (d 2) a _)) (fun k hk => by rw [← Option.some.inj hk]; exact HG.down.hi 2))
    go_region
    as_aux_lemma =>
    generalize hW3 : ((W2.setCell ⟨d 1, a, none⟩ (.int .i64 (wrap64 (y + 1)))).setCell ⟨d 2, a, none⟩ (.int .i64 (wrap64 (y + 1)))).drew = W3 at HX3 hat3 hfr3 ⊢
    clear k5 k6 k9 kt ki kl fi fl n12 n21 n16 n19 n1t hat hfr
    have hx3 := HX3.down
    obtain ⟨i0, hi0, hz0, hz1, hz2⟩ := info_parts info_int0
    have HI0 := PLift.up (And.intro hi0 (And.intro hz0 (And.intro hz1 hz2)))
    have k12 : W3.cell? ⟨d 12, 0, none⟩ = some sv := (Lib.cell_of_heap (hx3.fix 12) 0).trans rfl
    have kt : W3.cell? ⟨w.heap.size, 0, none⟩ = some (.int .i64 a) := (Lib.cell_of_heap hat3 0).trans rfl
    have HOWN := PLift.up (World.ownsRow.alloc hx3.sown (.cells #[.int .i64 a] 3))
    have HBS : PLift (base ≤ (W3.alloc (.cells #[.int .i64 a] 3)).heap.size) := ⟨(hx3.alloc _).bsz⟩
    have HNW : PLift ((W3.alloc (.cells #[.int .i64 a] 3)).cell? ⟨W3.heap.size, 0, none⟩ = some (.int .i64 a)) := ⟨(Lib.cell_of_heap (heap_alloc_new W3 _) 0).trans rfl⟩
    have HAT3 := PLift.up hat3
    have HFR3 := PLift.up hfr3
    have HSL : PLift (s.stack.length ≤ 4096) := by
      refine ⟨?_⟩
      have h1 := HG.down.bd
      have h2 := HG.down.cnt
      show s.stack.length ≤ 4096
      omega
    clear hi0 hz0 hz1 hz2 hx3 hat3 hfr3
    go_wp2_with (refine wpList_append_new _ rfl _ _ 23 rfl base 3 i0 (.int .i64 0) 1 8 Tryz.underlying23 HI0.down.1 HI0.down.2.1 HI0.down.2.2.1 HI0.down.2.2.2 rfl (by decide) sv s.stack.length (s.stack.map (Value.int .i64)) rfl HOWN.down ⟨W3.heap.size, 0, none⟩ 1 1 [.int .i64 a] rfl rfl (by intro j u hj; match j, hj with | 0, hj => simp only [List.getElem?_cons_zero, Option.some.injEq] at hj; subst hj; exact HNW.down | j + 1, hj => simp at hj) (by simp [Value.oneCell']) (by decide) (by have := HSL.down; unfold maxLen; omega) (by have := HSL.down; omega) HBS.down ?_)
    as_aux_lemma =>
    intro v' w4 hown4 hg4 hpl40
    obtain ⟨A4, c4, hv4⟩ := own_shape hown4
    subst hv4
    have hpl4 : ∀ k, (Value.slice A4 (s.stack.length + 1) c4).ownBlock = some k → sv.ownBlock = some k ∨ (W3.alloc (.cells #[.int .i64 a] 3)).heap.size ≤ k := fun k hk => by rw [size_new]; exact hpl40 k hk
    have hX4 := (HX3.down.alloc (.cells #[.int .i64 a] 3)).setStack (s.stack ++ [(a : Int)]) (.slice A4 (s.stack.length + 1) c4) w4 hg4 (by simpa using hown4) hpl4 (by
      intro x hx
      rcases List.mem_append.1 hx with hx | hx
      · exact HG.down.stk x hx
      · rw [List.mem_singleton.1 hx]; exact ⟨by omega, hai⟩)
    have hX5 := hX4.setOn a true
    have hlt4 : (W3.alloc (.cells #[.int .i64 a] 3)).heap.size = W3.heap.size + 1 := size_new _ _
    have hsv : ∀ k, sv.ownBlock = some k → base ≤ k := fun k hk => (HG.down.sown.lt k hk).1
    have hszW : w.heap.size < W3.heap.size := block_lt HAT3.down
    have j12 : w4.heap[d 12]? = some (.cells #[sv] 23) := by
      rw [hg4.block _ (block_lt ((HX3.down.alloc (.cells #[.int .i64 a] 3)).fix 12)) (fun e => by have := hsv _ e.symm; have := HG.down.hi 12; omega)]
      exact (HX3.down.alloc (.cells #[.int .i64 a] 3)).fix 12
    have k12 : w4.cell? ⟨d 12, 0, none⟩ = some sv := (Lib.cell_of_heap j12 0).trans rfl
    have f12 : ∀ o, w4.frozen? ⟨d 12, o, none⟩ = false := fun o => Lib.frozen_of_heap j12 o
    have hat4 : w4.heap[w.heap.size]? = some (.cells #[.int .i64 a] 3) := by
      rw [hg4.block _ (by rw [hlt4]; omega) (fun e => by have := (HG.down.sown.lt _ e.symm).2; omega), Lib.alloc_old _ _ _ hszW]
      exact HAT3.down
    have hat5 : (w4.setCell ⟨d 12, 0, none⟩ (.slice A4 (s.stack.length + 1) c4)).heap[w.heap.size]? = some (.cells #[.int .i64 a] 3) := by
      rw [set_far _ (by have := HG.down.hi 12; have := HG.down.bsz; omega)]; exact hat4
    have hat6 : ((w4.setCell ⟨d 12, 0, none⟩ (.slice A4 (s.stack.length + 1) c4)).setCell ⟨d 4, a, none⟩ (.bool true)).heap[w.heap.size]? = some (.cells #[.int .i64 a] 3) := by
      rw [set_far _ (by have := HG.down.hi 4; have := HG.down.bsz; omega)]; exact hat5
    have hfr4 : Fr base sv zv (.slice A4 (s.stack.length + 1) c4) zv w w4 := by
      have h1 := HFR3.down.trans (Fr.of_grown (World.grownBy_alloc W3 (.cells #[.int .i64 a] 3) none) (fun k hk => by cases hk))
      refine h1.trans ⟨hg4.size, fun k hb hk hs hz => hg4.block k hk (fun e => hs e.symm), fun k hk => hpl4 k hk, fun k hk => .inl hk⟩
    have hfr6 : Fr base sv zv (.slice A4 (s.stack.length + 1) c4) zv w ((w4.setCell ⟨d 12, 0, none⟩ (.slice A4 (s.stack.length + 1) c4)).setCell ⟨d 4, a, none⟩ (.bool true)) :=
      (hfr4.trans (Fr.of_grown (grown_set _ (d 12) 0 _) (fun k hk => by rw [← Option.some.inj hk]; exact HG.down.hi 12))).trans (Fr.of_grown (grown_set _ (d 4) a _) (fun k hk => by rw [← Option.some.inj hk]; exact HG.down.hi 4))
    have HX6 : PLift (GX w0 (.slice (some ⟨b, o, none⟩) N.length vc) root N d base (enterT a s) (.slice A4 (s.stack.length + 1) c4) zv ((w4.setCell ⟨d 12, 0, none⟩ (.slice A4 (s.stack.length + 1) c4)).setCell ⟨d 4, a, none⟩ (.bool true))) := by
      have he : enterT a s = { s with next := wrap64 (y + 1), index := s.index.set a (wrap64 (y + 1)), low := s.low.set a (wrap64 (y + 1)), stack := s.stack ++ [(a : Int)], on := s.on.set a true } := by
        unfold enterT; rw [HY.down]
      rw [he]; exact ⟨hX5⟩
    have HAO : PLift ((Value.slice A4 (s.stack.length + 1) c4).ownBlock ≠ some w.heap.size ∧ zv.ownBlock ≠ some w.heap.size) := by
      refine ⟨⟨fun e => ?_, fun e => ?_⟩⟩
      · rcases hpl4 _ e with e | e
        · have := (HG.down.sown.lt _ e).2; omega
        · rw [hlt4] at e; omega
      · have := (HG.down.zown.lt _ e).2; omega
    clear hX5 hlt4 hsv hszW j12 hat4 hfr4 hown4 hg4 hpl4 hpl40
    go_upto_region 4 with fail
    as_aux_lemma =>
    generalize hW5 : w4.setCell ⟨d 12, 0, none⟩ (.slice A4 (s.stack.length + 1) c4) = W5 at hX4 hat5 hat6 hfr6 HX6 ⊢
    clear k12 f12
    have k8 : W5.cell? ⟨d 8, 0, none⟩ = some (.slice (some ⟨d 4, 0, none⟩) N.length N.length) := (Lib.cell_of_heap (hX4.fix 8) 0).trans rfl
    have kt5 : W5.cell? ⟨w.heap.size, 0, none⟩ = some (.int .i64 a) := (Lib.cell_of_heap hat5 0).trans rfl
    have ko5 : W5.cell? ⟨d 4, a, none⟩ = some (.bool (s.on.getD a false)) := bool_row (hX4.fix 4) (by rw [HG.down.lo2]; exact ha)
    have fo5 : ∀ o, W5.frozen? ⟨d 4, o, none⟩ = false := fun o => Lib.frozen_of_heap (hX4.fix 4) o
    clear hX4
    go_upto_region 6 with fail
    as_aux_lemma =>
    generalize hW6 : W5.setCell ⟨d 4, a, none⟩ (.bool true) = W6 at hat6 hfr6 HX6 ⊢
    clear k8 kt5 ko5 fo5 hat5
    have HAT6 := PLift.up hat6
    have HAB : PLift (AtBox w.heap.size a (.slice A4 (s.stack.length + 1) c4) zv W6) := ⟨⟨hat6, HAO.down.1, HAO.down.2⟩⟩
    have HGW := PLift.up (enter_gw HG.down ha HI.down hn HX6.down)
    have HBW : PLift (base ≤ w.heap.size) := ⟨HG.down.bsz⟩
    have HFR6 := PLift.up hfr6
    clear hat6 hfr6
    have q0 : W6.cell? ⟨d 0, 0, none⟩ = some (.slice (some ⟨b, o, none⟩) N.length vc) := (Lib.cell_of_heap (HX6.down.fix 0) 0).trans rfl
    have qt : W6.cell? ⟨w.heap.size, 0, none⟩ = some (.int .i64 a) := (Lib.cell_of_heap HAT6.down 0).trans rfl
    have q3 := cell_keep HX6.down.below M3.down
    go_wp2
    as_aux_lemma =>
    go_loopw [43] (fun jv wr => ∃ (j : Nat) (sj : TS) (svj zvj : Value), jv = .int .i64 j ∧ j ≤ n.keys.length ∧ edgesT (visitT N f) a (n.keys.drop j) sj = some s2 ∧ GW w0 (.slice (some ⟨b, o, none⟩) N.length vc) root N d base sj svj zvj wr ∧ Fr base sv zv svj zvj w wr ∧ AtBox w.heap.size a svj zvj wr) (fun jv _ => n.keys.length - (intOf jv).toNat)
    case atStart => exact ⟨0, enterT a s, _, zv, rfl, Nat.zero_le _, HE1.down, HGW.down, HFR6.down, HAB.down⟩
    case round =>
      as_aux_lemma =>
      obtain ⟨j, sj, svj, zvj, rfl, hj, hEj, hGj, hFj, hAj⟩ := hrel
      have HEj := PLift.up hEj
      have HGj := PLift.up hGj
      have HFj := PLift.up hFj
      have HAj := PLift.up hAj
      have m4 := cell_keep hGj.below M4.down
      have m0 : wr.cell? ⟨d 0, 0, none⟩ = some (.slice (some ⟨b, o, none⟩) N.length vc) := (Lib.cell_of_heap (hGj.fix 0) 0).trans rfl
      have mt : wr.cell? ⟨w.heap.size, 0, none⟩ = some (.int .i64 a) := (Lib.cell_of_heap hAj.box 0).trans rfl
      clear hEj hGj hFj hAj
      by_cases hjl : j < n.keys.length
      · have hjl2 : (j : Int) < (n.keys.length : Int) := by omega
        have hx := HRN.down.1 n.keys[j] (List.getElem_mem hjl)
        rcases HKC.down with hnil | ⟨lb, lo, rfl, hcells⟩
        · exfalso; rw [hnil] at hjl; exact Nat.not_lt_zero _ hjl
        have hc1 := cell_keep HGj.down.below (hcells j n.keys[j] (List.getElem?_eq_getElem hjl))
        obtain ⟨s1, hs1, he⟩ := edgesT_drop hjl HEj.down
        generalize n.keys[j] = x at hx hc1 hs1
        obtain ⟨k, rfl⟩ := Int.eq_ofNat_of_zero_le hx.1
        have hk : k < N.length := by have := hx.2; omega
        have HC1 := PLift.up (step_any w0 _ root N d base (visitT N f) HIH.down a k sj s1 svj zvj wr w.heap.size ha hk hs1 HGj.down HBW.down mt HAj.down.far HAj.down.zfar)
        have HE := PLift.up he
        have HCELLS := PLift.up hcells
        clear hcells hx hs1 he
        go_wp2_with (go_at_call 166; refine (HC1.down).mono ?_; rintro e w3 ⟨rfl, sv1, zv1, hg1, hf1⟩; have HG1 := PLift.up hg1; have HF1 := PLift.up hf1; clear hg1 hf1)
        as_aux_lemma =>
        go_roundw
        case rel => exact ⟨j + 1, s1, sv1, zv1, by go_num, by omega, HE.down, HG1.down, HFj.down.trans HF1.down, HAj.down.step HBW.down HF1.down⟩
        case measure => simp [intOf]; omega
      · obtain rfl : j = n.keys.length := by omega
        obtain rfl := edgesT_end HEj.down
        go_wp2
        as_aux_lemma =>
        go_loopw [58] (fun jv wr => ∃ (j : Nat) (sj : TS) (svj zvj : Value), jv = .int .i64 j ∧ j ≤ n.items.length ∧ edgesT (visitT N f) a (n.items.drop j) sj = some s3 ∧ GW w0 (.slice (some ⟨b, o, none⟩) N.length vc) root N d base sj svj zvj wr ∧ Fr base sv zv svj zvj w wr ∧ AtBox w.heap.size a svj zvj wr) (fun jv _ => n.items.length - (intOf jv).toNat)
        case atStart => exact ⟨0, sj, svj, zvj, rfl, Nat.zero_le _, HE2.down, HGj.down, HFj.down, HAj.down⟩
        case round =>
          as_aux_lemma =>
          obtain ⟨j, sj, svj, zvj, rfl, hj, hEj, hGj, hFj, hAj⟩ := hrel
          have HEj := PLift.up hEj
          have HGj := PLift.up hGj
          have HFj := PLift.up hFj
          have HAj := PLift.up hAj
          have m4 := cell_keep hGj.below M4.down
          have m0 : wr.cell? ⟨d 0, 0, none⟩ = some (.slice (some ⟨b, o, none⟩) N.length vc) := (Lib.cell_of_heap (hGj.fix 0) 0).trans rfl
          have mt : wr.cell? ⟨w.heap.size, 0, none⟩ = some (.int .i64 a) := (Lib.cell_of_heap hAj.box 0).trans rfl
          clear hEj hGj hFj hAj
          by_cases hjl : j < n.items.length
          · have hjl2 : (j : Int) < (n.items.length : Int) := by omega
            have hx := HRN.down.2 n.items[j] (List.getElem_mem hjl)
            rcases HIC.down with hnil | ⟨lb, lo, rfl, hcells⟩
            · exfalso; rw [hnil] at hjl; exact Nat.not_lt_zero _ hjl
            have hc1 := cell_keep HGj.down.below (hcells j n.items[j] (List.getElem?_eq_getElem hjl))
            obtain ⟨s1, hs1, he⟩ := edgesT_drop hjl HEj.down
            generalize n.items[j] = x at hx hc1 hs1
            obtain ⟨k, rfl⟩ := Int.eq_ofNat_of_zero_le hx.1
            have hk : k < N.length := by have := hx.2; omega
            have HC1 := PLift.up (step_any w0 _ root N d base (visitT N f) HIH.down a k sj s1 svj zvj wr w.heap.size ha hk hs1 HGj.down HBW.down mt HAj.down.far HAj.down.zfar)
            have HE := PLift.up he
            have HCELLS := PLift.up hcells
            clear hcells hx hs1 he
            go_wp2_with (go_at_call 166; refine (HC1.down).mono ?_; rintro e w3 ⟨rfl, sv1, zv1, hg1, hf1⟩; have HG1 := PLift.up hg1; have HF1 := PLift.up hf1; clear hg1 hf1)
            as_aux_lemma =>
            go_roundw
            case rel => exact ⟨j + 1, s1, sv1, zv1, by go_num, by omega, HE.down, HG1.down, HFj.down.trans HF1.down, HAj.down.step HBW.down HF1.down⟩
            case measure => simp [intOf]; omega
          · obtain rfl : j = n.items.length := by omega
            obtain rfl := edgesT_end HEj.down
            as_aux_lemma =>
            have k6 : wr.cell? ⟨d 6, 0, none⟩ = some (.slice (some ⟨d 2, 0, none⟩) N.length N.length) := (Lib.cell_of_heap (HGj.down.fix 6) 0).trans rfl
            have k5 : wr.cell? ⟨d 5, 0, none⟩ = some (.slice (some ⟨d 1, 0, none⟩) N.length N.length) := (Lib.cell_of_heap (HGj.down.fix 5) 0).trans rfl
            have kl : wr.cell? ⟨d 2, a, none⟩ = some (.int .i64 (sj.low.getD a 0)) := int_row (HGj.down.fix 2) (by rw [HGj.down.ll]; exact ha)
            have ki : wr.cell? ⟨d 1, a, none⟩ = some (.int .i64 (sj.index.getD a 0)) := int_row (HGj.down.fix 1) (by rw [HGj.down.li]; exact ha)
            rcases leaveT_cases HL.down with ⟨hne, hss⟩ | ⟨heq, r, hr, hss⟩
            · subst hss
              generalize sj.low.getD a 0 = y1 at kl hne
              generalize sj.index.getD a 0 = y2 at ki hne
              have hne2 : (y1 == y2) = false := by simp only [beq_eq_false_iff_ne, ne_eq]; exact hne
              as_aux_lemma =>
              go_wp2
              go_quiet (fail)
              go_wp2
              refine bodyPost_ret (results_none rfl _ _ _) rfl ?_
              exact ⟨rfl, svj, zvj, HGj.down.drewN _, HFj.down.drewN _⟩
            · rw [heq] at kl
              generalize sj.index.getD a 0 = y2 at ki kl
              have HSS := PLift.up hss
              have HRR := PLift.up hr
              clear hss hr heq
              as_aux_lemma =>
              go_wp2
              go_quiet (fail)
              obtain ⟨W7, hW7⟩ : ∃ W7, wr.drewN nq = W7 := ⟨_, rfl⟩
              have HG7 := PLift.up (HGj.down.drewN nq)
              have HF7 := PLift.up (HFj.down.drewN nq)
              have HA7 := PLift.up (HAj.down.drewN nq)
              rw [hW7] at HG7 HF7 HA7 ⊢
              clear hW7 k5 k6 kl ki
              as_aux_lemma =>
              go_wp2
              go_loopg [16] (sj.stack.length + 1) (fun k zv16 wr => ∃ (t : TS) (svt : Value) (z : Int), zv16 = .int .i64 z ∧ popT a k t z = some r ∧ GX w0 (.slice (some ⟨b, o, none⟩) N.length vc) root N d base t svt zvj wr ∧ Fr base sv zv svt zvj w wr ∧ AtBox w.heap.size a svt zvj wr ∧ t.sizes = sj.sizes)
              case atStart => exact ⟨sj, svj, 0, rfl, HRR.down, HG7.down.toGX, HF7.down, HA7.down, rfl⟩
              case round =>
                as_aux_lemma =>
                obtain ⟨t, svt, z, rfl, hp, hx, hf, hab, hts⟩ := hrel
                cases gk with
                | zero => cases hp
                | succ k =>
                obtain ⟨x, hlast, hcase⟩ := popT_cases hp
                obtain ⟨Az, cz, hz⟩ := own_shape hx.zown
                have HZ := PLift.up hz
                have HTS := PLift.up hts
                rw [hz] at hx hf hab
                clear hz hts
                have hst : 0 < t.stack.length := by
                  cases hs : t.stack with
                  | nil => rw [hs] at hlast; cases hlast
                  | cons y l => simp
                obtain ⟨g, c, rfl, hnc, hcm⟩ := own_full hx.sown hst
                have hxr := hx.stk x (List.mem_of_getLast? hlast)
                obtain ⟨q, rfl⟩ := Int.eq_ofNat_of_zero_le hxr.1
                have hq : q < N.length := by have := hxr.2; omega
                have hqi : (q : Int) < (N.length : Int) := hxr.2
                have c12 : wr.cell? ⟨d 12, 0, none⟩ = some (.slice (some ⟨g, 0, none⟩) t.stack.length c) := (Lib.cell_of_heap (hx.fix 12) 0).trans rfl
                have cx : wr.cell? ⟨g, t.stack.length - 1, none⟩ = some (.int .i64 q) := own_cell hx.sown (getLast_cell hlast)
                have f12 : ∀ o, wr.frozen? ⟨d 12, o, none⟩ = false := fun o => Lib.frozen_of_heap (hx.fix 12) o
                have HX1 := PLift.up (hx.pop rfl)
                have HF1 := PLift.up (hf.trans (pop_fr (m := t.stack.length - 1) (i := 0) (x := .slice (some ⟨g, 0, none⟩) (t.stack.length - 1) c) (hx.hi 12)))
                have HA1 := PLift.up (hab.step HBW.down (pop_fr (m := t.stack.length - 1) (i := 0) (x := .slice (some ⟨g, 0, none⟩) (t.stack.length - 1) c) (hx.hi 12)))
                have HCS := PLift.up hcase
                have hml : (t.stack.length : Int) ≤ 9223372036854775807 := by unfold maxLen at hcm; omega
                clear hp hx hf hab hcase hlast hxr hcm
                obtain ⟨m, hm⟩ : ∃ m, t.stack.length = m + 1 := ⟨t.stack.length - 1, by omega⟩
                rw [hm] at c12 cx HX1 HF1 HA1 hnc hml
                have hmt : (m : Int) + 1 ≤ 9223372036854775807 := by omega
                simp only [Nat.add_sub_cancel] at cx HX1 HF1 HA1
                clear hm hst hml
                as_aux_lemma =>
                go_upto_region 20 with fail
                obtain ⟨V1, hV1⟩ : ∃ V1, wr.setCell ⟨d 12, 0, none⟩ (.slice (some ⟨g, 0, none⟩) m c) = V1 := ⟨_, rfl⟩
                rw [hV1] at HX1 HF1 HA1 ⊢
                clear hV1 c12 cx f12
                have k8 : V1.cell? ⟨d 8, 0, none⟩ = some (.slice (some ⟨d 4, 0, none⟩) N.length N.length) := (Lib.cell_of_heap (HX1.down.fix 8) 0).trans rfl
                have ko : V1.cell? ⟨d 4, q, none⟩ = some (.bool (t.on.getD q false)) := bool_row (HX1.down.fix 4) (by rw [HX1.down.lo2]; exact hq)
                have fo : ∀ o, V1.frozen? ⟨d 4, o, none⟩ = false := fun o => Lib.frozen_of_heap (HX1.down.fix 4) o
                have HX2 := PLift.up (HX1.down.setOn q false)
                have HF2 := PLift.up (HF1.down.trans (set_fr (i := q) (x := .bool false) (HX1.down.hi 4)))
                have HA2 := PLift.up (HA1.down.step HBW.down (set_fr (i := q) (x := .bool false) (HX1.down.hi 4)))
                clear HX1 HF1 HA1
                as_aux_lemma =>
                go_upto_region 21 with fail
                obtain ⟨V2, hV2⟩ : ∃ V2, V1.setCell ⟨d 4, q, none⟩ (.bool false) = V2 := ⟨_, rfl⟩
                rw [hV2] at HX2 HF2 HA2 ⊢
                clear hV2 k8 ko fo
                have k7 : V2.cell? ⟨d 7, 0, none⟩ = some (.slice (some ⟨d 3, 0, none⟩) N.length N.length) := (Lib.cell_of_heap (HX2.down.fix 7) 0).trans rfl
                have kz : V2.cell? ⟨d 11, 0, none⟩ = some (.slice Az t.sizes.length cz) := (Lib.cell_of_heap (HX2.down.fix 11) 0).trans rfl
                have kn : V2.cell? ⟨d 3, q, none⟩ = some (.int .i64 (t.inn.getD q 0)) := int_row (HX2.down.fix 3) (by rw [HX2.down.ln]; exact hq)
                have fn : ∀ o, V2.frozen? ⟨d 3, o, none⟩ = false := fun o => Lib.frozen_of_heap (HX2.down.fix 3) o
                have HX3 := PLift.up (HX2.down.setInn q t.sizes.length)
                have HF3 := PLift.up (HF2.down.trans (set_fr (i := q) (x := .int .i64 t.sizes.length) (HX2.down.hi 3)))
                have HA3 := PLift.up (HA2.down.step HBW.down (set_fr (i := q) (x := .int .i64 t.sizes.length) (HX2.down.hi 3)))
                clear HX2 HF2 HA2
                as_aux_lemma =>
                go_upto_region 22 with fail
                obtain ⟨V3, hV3⟩ : ∃ V3, V2.setCell ⟨d 3, q, none⟩ (.int .i64 t.sizes.length) = V3 := ⟨_, rfl⟩
                rw [hV3] at HX3 HF3 HA3 ⊢
                clear hV3 k7 kz kn fn
                have kt : V3.cell? ⟨w.heap.size, 0, none⟩ = some (.int .i64 a) := (Lib.cell_of_heap HA3.down.box 0).trans rfl
                rcases HCS.down with ⟨hqa, hre⟩ | ⟨hqa, hre⟩
                · have hqa2 : a = q := by omega
                  have HRE := PLift.up hre
                  clear hre hqa
                  subst hqa2
                  have kz3 : V3.cell? ⟨d 11, 0, none⟩ = some (.slice Az t.sizes.length cz) := (Lib.cell_of_heap (HX3.down.fix 11) 0).trans rfl
                  have HOWZ := PLift.up (World.ownsRow.alloc HX3.down.zown (.cells #[.int .i64 (wrap64 (z + 1))] 3))
                  have HBZ : PLift (base ≤ (V3.alloc (.cells #[.int .i64 (wrap64 (z + 1))] 3)).heap.size) := ⟨(HX3.down.alloc _).bsz⟩
                  have HNZ : PLift ((V3.alloc (.cells #[.int .i64 (wrap64 (z + 1))] 3)).cell? ⟨V3.heap.size, 0, none⟩ = some (.int .i64 (wrap64 (z + 1)))) := ⟨(Lib.cell_of_heap (heap_alloc_new V3 _) 0).trans rfl⟩
                  have HZL : PLift (t.sizes.length ≤ 4096) := by
                    refine ⟨?_⟩
                    have h1 := HG7.down.bd
                    have h2 := HG7.down.cnt
                    rw [HTS.down]; omega
                  as_aux_lemma =>
                  go_wp2_with (refine wpList_append_new _ rfl _ _ 23 rfl base 3 i0 (.int .i64 0) 1 8 Tryz.underlying23 HI0.down.1 HI0.down.2.1 HI0.down.2.2.1 HI0.down.2.2.2 rfl (by decide) (.slice Az t.sizes.length cz) t.sizes.length (t.sizes.map (Value.int .i64)) rfl HOWZ.down ⟨V3.heap.size, 0, none⟩ 1 1 [.int .i64 (wrap64 (z + 1))] rfl rfl (by intro j u hj; match j, hj with | 0, hj => simp only [List.getElem?_cons_zero, Option.some.injEq] at hj; subst hj; exact HNZ.down | j + 1, hj => simp at hj) (by simp [Value.oneCell']) (by decide) (by have := HZL.down; unfold maxLen; omega) (by have := HZL.down; omega) HBZ.down ?_)
                  intro v' w5 hown5 hg5 hpl50
                  have hpl5 : ∀ k, v'.ownBlock = some k → (Value.slice Az t.sizes.length cz).ownBlock = some k ∨ (V3.alloc (.cells #[.int .i64 (wrap64 (z + 1))] 3)).heap.size ≤ k := fun k hk => by rw [size_new]; exact hpl50 k hk
                  have HX6 := PLift.up ((HX3.down.alloc (.cells #[.int .i64 (wrap64 (z + 1))] 3)).setSizes (t.sizes ++ [wrap64 (z + 1)]) v' w5 hg5 (by simpa using hown5) hpl5)
                  have hsz : ∀ k, (Value.slice Az t.sizes.length cz).ownBlock = some k → base ≤ k := fun k hk => (HX3.down.zown.lt k hk).1
                  have j11 : w5.heap[d 11]? = some (.cells #[.slice Az t.sizes.length cz] 23) := by
                    rw [hg5.block _ (block_lt ((HX3.down.alloc (.cells #[.int .i64 (wrap64 (z + 1))] 3)).fix 11)) (fun e => by have := hsz _ e.symm; have := HX3.down.hi 11; omega)]
                    exact (HX3.down.alloc (.cells #[.int .i64 (wrap64 (z + 1))] 3)).fix 11
                  have k11 : w5.cell? ⟨d 11, 0, none⟩ = some (.slice Az t.sizes.length cz) := (Lib.cell_of_heap j11 0).trans rfl
                  have f11 : ∀ o, w5.frozen? ⟨d 11, o, none⟩ = false := fun o => Lib.frozen_of_heap j11 o
                  have HF5 : PLift (Fr base sv zv (.slice (some ⟨g, 0, none⟩) m c) v' w w5) := by
                    refine ⟨?_⟩
                    have h1 := HF3.down.trans (Fr.of_grown (World.grownBy_alloc V3 (.cells #[.int .i64 (wrap64 (z + 1))] 3) none) (fun k hk => by cases hk))
                    exact h1.trans ⟨hg5.size, fun k hb hk hs hz => hg5.block k hk (fun e => hz e.symm), fun k hk => .inl hk, fun k hk => hpl5 k hk⟩
                  have HF6 := PLift.up (HF5.down.trans (set_fr (i := 0) (x := v') (HX3.down.hi 11)))
                  obtain ⟨A5, c5, hv5⟩ := own_shape hown5
                  subst hv5
                  clear hown5 hg5 hpl50 hpl5 hsz j11
                  as_aux_lemma =>
                  go_wp2
                  go_end0
                  have hk := popT_keeps _ _ _ _ HRR.down
                  rw [HRE.down] at hk
                  obtain ⟨e1, e2, e3, e4⟩ := hk
                  have hs := HSS.down
                  rw [HRE.down] at hs
                  have g1 := HG7.down.cnt
                  have g2 := HG7.down.bd
                  refine ⟨rfl, _, _, { toGX := ?_, cnt := ?_, bd := ?_ }, HF6.down⟩
                  · rw [hs]; exact HX6.down
                  · rw [hs, ← g1]
                    show (pop1 t a).next + (pop1 t a).index.count 0 = _
                    rw [← e1, ← e2]
                  · rw [hs]
                    show (((pop1 t a).stack.length + ((pop1 t a).sizes ++ [wrap64 (z + 1)]).length : Nat) : Int) ≤ (pop1 t a).next
                    have e1 : (pop1 t a).next = sj.next := e1
                    have e3 : (pop1 t a).sizes = sj.sizes := e3
                    have e4 : (pop1 t a).stack.length < sj.stack.length := e4
                    rw [e1, e3]
                    simp only [List.length_append, List.length_cons, List.length_nil]
                    omega
                · have hne : ((q : Int) == (a : Int)) = false := by simp only [beq_eq_false_iff_ne, ne_eq]; exact hqa
                  have HRE := PLift.up hre
                  clear hre
                  as_aux_lemma =>
                  go_wp2
                  go_roundg k
                  case measure => omega
                  case rel => exact ⟨_, _, _, rfl, HRE.down, by rw [HZ.down]; exact HX3.down, by rw [HZ.down]; exact HF3.down, by rw [HZ.down]; exact HA3.down, HTS.down⟩
end Go.Proofs.YtcipjifpigpfdaaGreatDoor
/- graph.components: the whole. -/
namespace Go.Proofs.YtcipjifpigpfdaaGreatDoor
open Go.RowKit
open Go.Lib hiding intOf
theorem inj_of (d : Fin 13 → Nat) (h : (List.ofFn d).Nodup) : ∀ i j, d i = d j → i = j := by
  intro i j e
  have hp := List.pairwise_iff_getElem.1 h
  rcases Nat.lt_trichotomy i.1 j.1 with hl | hl | hl
  · have := hp i.1 j.1 (by simp) (by simp) hl
    simp only [List.getElem_ofFn] at this
    exact absurd e this
  · exact Fin.ext hl
  · have := hp j.1 i.1 (by simp) (by simp) hl
    simp only [List.getElem_ofFn] at this
    exact absurd e.symm this
def dOf (b0 b1 b2 b3 b4 b5 b6 b7 b8 b9 b10 b11 b12 : Nat) : Fin 13 → Nat
  | 0 => b0 | 1 => b1 | 2 => b2 | 3 => b3 | 4 => b4 | 5 => b5 | 6 => b6 | 7 => b7 | 8 => b8 | 9 => b9 | 10 => b10 | 11 => b11 | 12 => b12
theorem dOf_inj {b0 b1 b2 b3 b4 b5 b6 b7 b8 b9 b10 b11 b12 : Nat} (h : [b0, b1, b2, b3, b4, b5, b6, b7, b8, b9, b10, b11, b12].Nodup) : ∀ i j, dOf b0 b1 b2 b3 b4 b5 b6 b7 b8 b9 b10 b11 b12 i = dOf b0 b1 b2 b3 b4 b5 b6 b7 b8 b9 b10 b11 b12 j → i = j := inj_of _ h
theorem row_ne_var {w : World} {b c n : Nat} {v : Value} (h : w.heap[b]? = some (.cells (Array.replicate n (.int .i64 0)) 3)) (h2 : w.heap[c]? = some (.cells #[v] 23)) : b ≠ c := by
  rintro rfl
  rw [h] at h2
  have := Option.some.inj h2
  injection this with _ h3
  exact absurd h3 (by decide)
/-- the six blocks of the region -/
structure C6 (w0 : World) (n b0 b1 b3 b5 b6 b7 b8 : Nat) (v : Value) (root : Int) (J : List Int) (w : World) : Prop where
  below : Below w0.heap.size w0 w
  box : w.heap[b0]? = some (.cells #[v, .int .i64 root] 28)
  e1 : w.heap[b1]? = some (.cells (Array.replicate n (.int .i64 0)) 3)
  e3 : w.heap[b3]? = some (.cells (Array.replicate n (.int .i64 0)) 3)
  e5 : w.heap[b5]? = some (.cells (J.map (Value.int .i64)).toArray 3)
  e6 : w.heap[b6]? = some (.cells #[.slice (some ⟨b1, 0, none⟩) n n] 23)
  e7 : w.heap[b7]? = some (.cells #[.slice (some ⟨b3, 0, none⟩) n n] 23)
  e8 : w.heap[b8]? = some (.cells #[.slice (some ⟨b5, 0, none⟩) n n] 23)
  lo : w0.heap.size = b0
  l1 : b0 < b1
  l3 : b0 < b3
  l5 : b0 < b5
  l6 : b0 < b6
  l7 : b0 < b7
  l8 : b0 < b8
  nd : [b1, b3, b5, b6, b7, b8].Nodup
theorem C6.set {w0 : World} {n b0 b1 b3 b5 b6 b7 b8 : Nat} {v : Value} {root : Int} {J : List Int} {w : World} (h : C6 w0 n b0 b1 b3 b5 b6 b7 b8 v root J w) (j : Nat) (x : Int) : C6 w0 n b0 b1 b3 b5 b6 b7 b8 v root (J.set j x) (w.setCell ⟨b5, j, none⟩ (.int .i64 x)) := by
  have hn := h.nd
  simp only [List.nodup_cons, List.mem_cons, List.not_mem_nil, or_false, not_or, List.nodup_nil, and_true, not_false_eq_true] at hn
  obtain ⟨⟨n13, n15, n16, n17, n18⟩, ⟨n35, n36, n37, n38⟩, ⟨n56, n57, n58⟩, ⟨n67, n68⟩, n78⟩ := hn
  have l5 := h.l5
  exact { h with
    below := h.below.setCell (p := ⟨b5, j, none⟩) (by have := h.lo; show w0.heap.size ≤ b5; omega) _
    box := by rw [set_far _ (by omega)]; exact h.box
    e1 := by rw [set_far _ (by omega)]; exact h.e1
    e3 := by rw [set_far _ (by omega)]; exact h.e3
    e5 := by simp [World.setCell, Array.getElem?_modify, h.e5, List.map_set]
    e6 := by rw [set_far _ (by omega)]; exact h.e6
    e7 := by rw [set_far _ (by omega)]; exact h.e7
    e8 := by rw [set_far _ (by omega)]; exact h.e8 }
theorem rep_set {n j : Nat} (hj : j < n) : (List.replicate j (-1 : Int) ++ List.replicate (n - j) 0).set j (-1) = List.replicate (j + 1) (-1) ++ List.replicate (n - (j + 1)) 0 := by
  obtain ⟨m, hm⟩ : ∃ m, n - j = m + 1 := ⟨n - j - 1, by omega⟩
  have hm2 : n - (j + 1) = m := by omega
  rw [hm, hm2, List.replicate_succ, List.set_append, List.replicate_succ' (n := j)]
  simp
theorem grown_set_new {w W : World} {b i : Nat} {x : Value} (h : w.grownBy W none) (hb : w.heap.size ≤ b) : w.grownBy (W.setCell ⟨b, i, none⟩ x) none :=
  ⟨h.os, h.tape, h.output, by simpa [World.setCell] using h.size, fun k hk _ => by rw [set_far _ (by omega)]; exact h.block k hk (by simp)⟩
theorem grown_alloc_new {w W : World} (h : w.grownBy W none) (o : Obj) : w.grownBy (W.alloc o) none := h.trans (World.grownBy_alloc W o none)
theorem push6 (A : Array Obj) (o1 o2 o3 o4 o5 o6 : Obj) : ((((((A.push o1).push o2).push o3).push o4).push o5).push o6)[A.size]? = some o1 ∧ ((((((A.push o1).push o2).push o3).push o4).push o5).push o6)[A.size + 1]? = some o2 ∧ ((((((A.push o1).push o2).push o3).push o4).push o5).push o6)[A.size + 1 + 1]? = some o3 ∧ ((((((A.push o1).push o2).push o3).push o4).push o5).push o6)[A.size + 1 + 1 + 1]? = some o4 ∧ ((((((A.push o1).push o2).push o3).push o4).push o5).push o6)[A.size + 1 + 1 + 1 + 1]? = some o5 ∧ ((((((A.push o1).push o2).push o3).push o4).push o5).push o6)[A.size + 1 + 1 + 1 + 1 + 1]? = some o6 := by
  have lt : ∀ (B : Array Obj) (o : Obj) (i : Nat), i < B.size → (B.push o)[i]? = B[i]? := fun B o i h => by rw [Array.getElem?_push, if_neg (by omega)]
  have eq : ∀ (B : Array Obj) (o : Obj) (i : Nat), i = B.size → (B.push o)[i]? = some o := fun B o i h => by rw [Array.getElem?_push, if_pos h]
  exact ⟨by rw [lt _ _ _ (by simp only [Array.size_push]; omega), lt _ _ _ (by simp only [Array.size_push]; omega), lt _ _ _ (by simp only [Array.size_push]; omega), lt _ _ _ (by simp only [Array.size_push]; omega), lt _ _ _ (by simp only [Array.size_push]; omega), eq _ _ _ rfl], by rw [lt _ _ _ (by simp only [Array.size_push]; omega), lt _ _ _ (by simp only [Array.size_push]; omega), lt _ _ _ (by simp only [Array.size_push]; omega), lt _ _ _ (by simp only [Array.size_push]; omega), eq _ _ _ (by simp only [Array.size_push])], by rw [lt _ _ _ (by simp only [Array.size_push]; omega), lt _ _ _ (by simp only [Array.size_push]; omega), lt _ _ _ (by simp only [Array.size_push]; omega), eq _ _ _ (by simp only [Array.size_push])], by rw [lt _ _ _ (by simp only [Array.size_push]; omega), lt _ _ _ (by simp only [Array.size_push]; omega), eq _ _ _ (by simp only [Array.size_push])], by rw [lt _ _ _ (by simp only [Array.size_push]; omega), eq _ _ _ (by simp only [Array.size_push])], by rw [eq _ _ _ (by simp only [Array.size_push])]⟩
def startW (wr : World) (b0 b6 b7 b8 n : Nat) : World :=
  (((((wr.alloc (.cells #[.slice none 0 0] 23)).alloc (.cells #[.slice none 0 0] 23)).alloc (.cells (Array.replicate n (.bool false)) 4)).alloc (.cells #[.slice (some ⟨wr.heap.size + 1 + 1, 0, none⟩) n n] 90)).alloc (.cells #[.int .i64 0] 3)).alloc
    (.cells #[.func (.func 165) #[] #[.pointer (some ⟨wr.heap.size + 1 + 1 + 1 + 1, 0, none⟩), .pointer (some ⟨b6, 0, none⟩), .pointer (some ⟨b7, 0, none⟩), .pointer (some ⟨wr.heap.size + 1, 0, none⟩), .pointer (some ⟨wr.heap.size + 1 + 1 + 1, 0, none⟩), .pointer (some ⟨wr.heap.size + 1 + 1 + 1 + 1 + 1, 0, none⟩), .pointer (some ⟨b0, 0, none⟩), .pointer (some ⟨wr.heap.size, 0, none⟩), .pointer (some ⟨b8, 0, none⟩)]] 98)
theorem startW_grown (wr : World) (b0 b6 b7 b8 n : Nat) : wr.grownBy (startW wr b0 b6 b7 b8 n) none :=
  grown_alloc_new (grown_alloc_new (grown_alloc_new (grown_alloc_new (grown_alloc_new (World.grownBy_alloc wr _ none) _) _) _) _) _
def dS (H b0 b1 b3 b5 b6 b7 b8 : Nat) : Fin 13 → Nat := dOf b0 b1 b3 b5 (H + 1 + 1) b6 b7 b8 (H + 1 + 1 + 1) (H + 1 + 1 + 1 + 1) (H + 1 + 1 + 1 + 1 + 1) H (H + 1)
theorem comp_start {w0 : World} {N : List Nd} {b1 b3 b5 b6 b7 b8 : Nat} {v : Value} {root : Int} {wr : World} (h : C6 w0 N.length w0.heap.size b1 b3 b5 b6 b7 b8 v root (List.replicate N.length (-1)) wr) :
    GW w0 v root N (dS wr.heap.size w0.heap.size b1 b3 b5 b6 b7 b8) (wr.heap.size + 6) ⟨0, List.replicate N.length 0, List.replicate N.length 0, List.replicate N.length (-1), List.replicate N.length false, [], []⟩ (.slice none 0 0) (.slice none 0 0) (startW wr w0.heap.size b6 b7 b8 N.length) := by
  have hg := startW_grown wr w0.heap.size b6 b7 b8 N.length
  have hn := h.nd
  simp only [List.nodup_cons, List.mem_cons, List.not_mem_nil, or_false, not_or, List.nodup_nil, and_true, not_false_eq_true] at hn
  obtain ⟨⟨n13, n15, n16, n17, n18⟩, ⟨n35, n36, n37, n38⟩, ⟨n56, n57, n58⟩, ⟨n67, n68⟩, n78⟩ := hn
  have l0 := block_lt h.box
  have l1 := block_lt h.e1
  have l3 := block_lt h.e3
  have l5 := block_lt h.e5
  have l6 := block_lt h.e6
  have l7 := block_lt h.e7
  have l8 := block_lt h.e8
  have g1 := h.l1
  have g3 := h.l3
  have g5 := h.l5
  have g6 := h.l6
  have g7 := h.l7
  have g8 := h.l8
  have old : ∀ k, k < wr.heap.size → (startW wr w0.heap.size b6 b7 b8 N.length).heap[k]? = wr.heap[k]? := fun k hk => hg.block k hk (by simp)
  have hz : (startW wr w0.heap.size b6 b7 b8 N.length).heap.size = wr.heap.size + 6 := by simp [startW]
  refine { below := h.below.grown hg h.below.size (fun k hk => by cases hk), lo := ?_, hi := ?_, inj := ?_, fix := ?_, bsz := by omega, sown := World.ownsRow_nil _ _ _ _, zown := World.ownsRow_nil _ _ _ _, ne := .inl rfl, li := by simp, ll := by simp, ln := by simp, lo2 := by simp, stk := by simp, cnt := by simp, bd := by simp }
  · intro k
    match k with
    | 0 | 1 | 2 | 3 | 4 | 5 | 6 | 7 | 8 | 9 | 10 | 11 | 12 => simp only [dS, dOf]; omega
  · intro k
    match k with
    | 0 | 1 | 2 | 3 | 4 | 5 | 6 | 7 | 8 | 9 | 10 | 11 | 12 => simp only [dS, dOf]; omega
  · refine dOf_inj ?_
    simp only [List.nodup_cons, List.mem_cons, List.not_mem_nil, or_false, not_or, List.nodup_nil, and_true, not_false_eq_true]
    omega
  · intro k
    match k with
    | 0 => exact (old _ l0).trans h.box
    | 1 => exact (old _ l1).trans (by simpa [tobj] using h.e1)
    | 2 => exact (old _ l3).trans (by simpa [tobj] using h.e3)
    | 3 => exact (old _ l5).trans h.e5
    | 4 => exact (push6 wr.heap _ _ _ _ _ _).2.2.1.trans (by simp [tobj])
    | 5 => exact (old _ l6).trans h.e6
    | 6 => exact (old _ l7).trans h.e7
    | 7 => exact (old _ l8).trans h.e8
    | 8 => exact (push6 wr.heap _ _ _ _ _ _).2.2.2.1
    | 9 => exact (push6 wr.heap _ _ _ _ _ _).2.2.2.2.1
    | 10 => exact (push6 wr.heap _ _ _ _ _ _).2.2.2.2.2
    | 11 => exact (push6 wr.heap _ _ _ _ _ _).1
    | 12 => exact (push6 wr.heap _ _ _ _ _ _).2.1
theorem compT_some {N : List Nd} {root : Nat} {inn sizes : List Int} (h : compT N root = some (inn, sizes)) : ∃ s', visitT N (N.length + 1) root ⟨0, List.replicate N.length 0, List.replicate N.length 0, List.replicate N.length (-1), List.replicate N.length false, [], []⟩ = some s' ∧ s'.inn = inn ∧ s'.sizes = sizes := by
  unfold compT at h
  obtain ⟨s', h1, h2⟩ := Option.map_eq_some_iff.1 h
  injection h2 with h3 h4
  exact ⟨s', h1, h3, h4⟩
set_option maxHeartbeats 4000000 in
set_option maxRecDepth 100000 in
theorem components_any (w : World) (v : Value) (root : Nat) (N : List Nd) (inn sizes : List Int) (hN : NodesAt w v N) (hR : InRange N) (hn : N.length ≤ 4096) (hroot : root < N.length) (hc : compT N root = some (inn, sizes)) :
    Calls Tryz.prog 120 #[.agg #[v, .int .i64 root]] w fun e w' => ∃ (b5 base : Nat) (zv : Value), e = .returned (.tuple #[.slice (some ⟨b5, 0, none⟩) N.length N.length, zv]) ∧ Below w.heap.size w w' ∧ w.heap.size ≤ b5 ∧ b5 < base ∧ inn.length = N.length ∧
      w'.heap[b5]? = some (.cells (inn.map (Value.int .i64)).toArray 3) ∧ w'.ownsRow base 3 1 zv sizes.length (sizes.map (Value.int .i64)) := by
  have HN := PLift.up hN
  have HR := PLift.up hR
  have HC0 := PLift.up hc
  obtain ⟨va, vc, rfl, hvl, hvn⟩ := hN
  clear hvn hR hc
  have HW0 : PLift ((w.alloc (.cells #[.slice va N.length vc, .int .i64 root] 28)).heap[w.heap.size]? = some (.cells #[.slice va N.length vc, .int .i64 root] 28)) := ⟨heap_alloc_new w _⟩
  have HB0 : PLift (Below w.heap.size w (w.alloc (.cells #[.slice va N.length vc, .int .i64 root] 28))) := ⟨below_new w _⟩
  have hs0 : (w.alloc (.cells #[.slice va N.length vc, .int .i64 root] 28)).heap.size = w.heap.size + 1 := size_new _ _
  have HS0 := PLift.up hs0
  clear hs0
  as_aux_lemma =>
  go_enter Tryz.func120, Tryz.ntmps120
  as_aux_lemma =>
  go_upto_region 2 with fail
  have hmk : ∀ wx : World, (Instr.makeSlice 23 (.int .i64 (N.length : Int)) (.int .i64 (N.length : Int))).run Tryz.prog wx = .ok (.slice (some ⟨wx.heap.size, 0, none⟩) N.length N.length) (wx.alloc (.cells (Array.replicate N.length (.int .i64 0)) 3)) := fun wx => by
    rw [run_make_row' 23 3 (.int .i64 0) 8 Tryz.underlying23 info_int0 rfl .i64 .i64 N.length (by omega) (by omega) wx, made_rep]
  refine wp_three N.length (by kernel_rfl) (by kernel_rfl) (by kernel_rfl) (by simp only [act9, Act.put, List.setIfInBounds_toArray, List.set_cons_succ, List.set_cons_zero]) ?_ ?_
  · intro i o L hC x5 x6 x7 x17 x18 x19 x20 x21 x22 w' K ho hU hA hR hK
    replace hC := PLift.up hC
    replace hU := PLift.up hU
    replace hA := PLift.up hA
    replace hR := PLift.up hR
    replace hK := PLift.up hK
    match i, ho, hU, hK with
    | 0, ho, hU, hK =>
      obtain rfl := Option.some.inj ho
      have h0 := hK.down x5 x6 x7 (.int .i64 N.length) x18 x19 x20 x21 x22 _ (R3.move0 hR.down)
      replace h0 := PLift.up h0
      as_aux_lemma =>
      simp only [act9, Act.put, List.setIfInBounds_toArray, List.set_cons_succ, List.set_cons_zero]
      refine wpOp_step ho ?_
      intro K1 hK1
      go_simp
      replace h0 := h0.down
      simp only [act9, Act.put, List.setIfInBounds_toArray, List.set_cons_succ, List.set_cons_zero] at h0
      exact hK1 _ _ h0
    | 1, ho, hU, hK =>
      obtain rfl := Option.some.inj ho
      obtain rfl := hR.down.m0 (hA.down ⟨0, .data⟩ (by simp) rfl)
      have h0 := hK.down x5 x6 x7 (.int .i64 N.length) (.slice (some ⟨w'.heap.size, 0, none⟩) N.length N.length) x19 x20 x21 x22 _ (R3.row1 hR.down hU.down (fun h => hC.down 9 _ rfl h ⟨1, .data⟩ (by simp) rfl))
      replace h0 := PLift.up h0
      as_aux_lemma =>
      simp only [act9, Act.put, List.setIfInBounds_toArray, List.set_cons_succ, List.set_cons_zero]
      refine wpOp_step ho ?_
      intro K1 hK1
      go_simp
      replace h0 := h0.down
      simp only [act9, Act.put, List.setIfInBounds_toArray, List.set_cons_succ, List.set_cons_zero] at h0
      exact hK1 _ _ h0
    | 2, ho, hU, hK =>
      obtain rfl := Option.some.inj ho
      have h0 := hK.down x5 x6 x7 x17 x18 (.int .i64 N.length) x20 x21 x22 _ (R3.move2 hR.down)
      replace h0 := PLift.up h0
      as_aux_lemma =>
      simp only [act9, Act.put, List.setIfInBounds_toArray, List.set_cons_succ, List.set_cons_zero]
      refine wpOp_step ho ?_
      intro K1 hK1
      go_simp
      replace h0 := h0.down
      simp only [act9, Act.put, List.setIfInBounds_toArray, List.set_cons_succ, List.set_cons_zero] at h0
      exact hK1 _ _ h0
    | 3, ho, hU, hK =>
      obtain rfl := Option.some.inj ho
      obtain rfl := hR.down.m2 (hA.down ⟨2, .data⟩ (by simp) rfl)
      have h0 := hK.down x5 x6 x7 x17 x18 (.int .i64 N.length) (.slice (some ⟨w'.heap.size, 0, none⟩) N.length N.length) x21 x22 _ (R3.row3 hR.down hU.down (fun h => hC.down 10 _ rfl h ⟨3, .data⟩ (by simp) rfl))
      replace h0 := PLift.up h0
      as_aux_lemma =>
      simp only [act9, Act.put, List.setIfInBounds_toArray, List.set_cons_succ, List.set_cons_zero]
      refine wpOp_step ho ?_
      intro K1 hK1
      go_simp
      replace h0 := h0.down
      simp only [act9, Act.put, List.setIfInBounds_toArray, List.set_cons_succ, List.set_cons_zero] at h0
      exact hK1 _ _ h0
    | 4, ho, hU, hK =>
      obtain rfl := Option.some.inj ho
      have h0 := hK.down x5 x6 x7 x17 x18 x19 x20 (.int .i64 N.length) x22 _ (R3.move4 hR.down)
      replace h0 := PLift.up h0
      as_aux_lemma =>
      simp only [act9, Act.put, List.setIfInBounds_toArray, List.set_cons_succ, List.set_cons_zero]
      refine wpOp_step ho ?_
      intro K1 hK1
      go_simp
      replace h0 := h0.down
      simp only [act9, Act.put, List.setIfInBounds_toArray, List.set_cons_succ, List.set_cons_zero] at h0
      exact hK1 _ _ h0
    | 5, ho, hU, hK =>
      obtain rfl := Option.some.inj ho
      obtain rfl := hR.down.m4 (hA.down ⟨4, .data⟩ (by simp) rfl)
      have h0 := hK.down x5 x6 x7 x17 x18 x19 x20 (.int .i64 N.length) (.slice (some ⟨w'.heap.size, 0, none⟩) N.length N.length) _ (R3.row5 hR.down hU.down (fun h => hC.down 11 _ rfl h ⟨5, .data⟩ (by simp) rfl))
      replace h0 := PLift.up h0
      as_aux_lemma =>
      simp only [act9, Act.put, List.setIfInBounds_toArray, List.set_cons_succ, List.set_cons_zero]
      refine wpOp_step ho ?_
      intro K1 hK1
      go_simp
      replace h0 := h0.down
      simp only [act9, Act.put, List.setIfInBounds_toArray, List.set_cons_succ, List.set_cons_zero] at h0
      exact hK1 _ _ h0
    | 6, ho, hU, hK =>
      obtain rfl := Option.some.inj ho
      have h0 := hK.down (.pointer (some ⟨w'.heap.size, 0, none⟩)) x6 x7 x17 x18 x19 x20 x21 x22 _ (R3.var6 hR.down hU.down)
      replace h0 := PLift.up h0
      as_aux_lemma =>
      simp only [act9, Act.put, List.setIfInBounds_toArray, List.set_cons_succ, List.set_cons_zero]
      refine wpOp_step ho ?_
      intro K1 hK1
      go_simp
      replace h0 := h0.down
      simp only [act9, Act.put, List.setIfInBounds_toArray, List.set_cons_succ, List.set_cons_zero] at h0
      exact hK1 _ _ h0
    | 7, ho, hU, hK =>
      obtain rfl := Option.some.inj ho
      have h0 := hK.down x5 (.pointer (some ⟨w'.heap.size, 0, none⟩)) x7 x17 x18 x19 x20 x21 x22 _ (R3.var7 hR.down hU.down)
      replace h0 := PLift.up h0
      as_aux_lemma =>
      simp only [act9, Act.put, List.setIfInBounds_toArray, List.set_cons_succ, List.set_cons_zero]
      refine wpOp_step ho ?_
      intro K1 hK1
      go_simp
      replace h0 := h0.down
      simp only [act9, Act.put, List.setIfInBounds_toArray, List.set_cons_succ, List.set_cons_zero] at h0
      exact hK1 _ _ h0
    | 8, ho, hU, hK =>
      obtain rfl := Option.some.inj ho
      have h0 := hK.down x5 x6 (.pointer (some ⟨w'.heap.size, 0, none⟩)) x17 x18 x19 x20 x21 x22 _ (R3.var8 hR.down hU.down)
      replace h0 := PLift.up h0
      as_aux_lemma =>
      simp only [act9, Act.put, List.setIfInBounds_toArray, List.set_cons_succ, List.set_cons_zero]
      refine wpOp_step ho ?_
      intro K1 hK1
      go_simp
      replace h0 := h0.down
      simp only [act9, Act.put, List.setIfInBounds_toArray, List.set_cons_succ, List.set_cons_zero] at h0
      exact hK1 _ _ h0
    | 9, ho, hU, hK =>
      obtain rfl := Option.some.inj ho
      obtain ⟨bb, hbb, -, -⟩ := hR.down.r1 (hA.down ⟨1, .data⟩ (by simp) rfl)
      subst hbb
      have hj := hA.down ⟨6, .data⟩ (by simp) rfl
      obtain ⟨b, rfl, hb1, hb2⟩ := hR.down.v6 hj
      have cb := Lib.cell_of_heap hb2 0
      have fb := Lib.frozen_of_heap hb2 0
      generalize (if L.getD 9 false = true then Value.slice (some ⟨bb, 0, none⟩) N.length N.length else Value.slice none 0 0) = c0 at hb2 cb
      have h0 := hK.down (.pointer (some ⟨b, 0, none⟩)) x6 x7 x17 _ x19 x20 x21 x22 _ (R3.store9 hR.down hj hb1 hb2)
      replace h0 := PLift.up h0
      as_aux_lemma =>
      simp only [act9, Act.put, List.setIfInBounds_toArray, List.set_cons_succ, List.set_cons_zero]
      refine wpOp_step ho ?_
      intro K1 hK1
      go_simp
      replace h0 := h0.down
      simp only [act9, Act.put, List.setIfInBounds_toArray, List.set_cons_succ, List.set_cons_zero] at h0
      exact hK1 _ _ h0
    | 10, ho, hU, hK =>
      obtain rfl := Option.some.inj ho
      obtain ⟨bb, hbb, -, -⟩ := hR.down.r3 (hA.down ⟨3, .data⟩ (by simp) rfl)
      subst hbb
      have hj := hA.down ⟨7, .data⟩ (by simp) rfl
      obtain ⟨b, rfl, hb1, hb2⟩ := hR.down.v7 hj
      have cb := Lib.cell_of_heap hb2 0
      have fb := Lib.frozen_of_heap hb2 0
      generalize (if L.getD 10 false = true then Value.slice (some ⟨bb, 0, none⟩) N.length N.length else Value.slice none 0 0) = c0 at hb2 cb
      have h0 := hK.down x5 (.pointer (some ⟨b, 0, none⟩)) x7 x17 x18 x19 _ x21 x22 _ (R3.store10 hR.down hj hb1 hb2)
      replace h0 := PLift.up h0
      as_aux_lemma =>
      simp only [act9, Act.put, List.setIfInBounds_toArray, List.set_cons_succ, List.set_cons_zero]
      refine wpOp_step ho ?_
      intro K1 hK1
      go_simp
      replace h0 := h0.down
      simp only [act9, Act.put, List.setIfInBounds_toArray, List.set_cons_succ, List.set_cons_zero] at h0
      exact hK1 _ _ h0
    | 11, ho, hU, hK =>
      obtain rfl := Option.some.inj ho
      obtain ⟨bb, hbb, -, -⟩ := hR.down.r5 (hA.down ⟨5, .data⟩ (by simp) rfl)
      subst hbb
      have hj := hA.down ⟨8, .data⟩ (by simp) rfl
      obtain ⟨b, rfl, hb1, hb2⟩ := hR.down.v8 hj
      have cb := Lib.cell_of_heap hb2 0
      have fb := Lib.frozen_of_heap hb2 0
      generalize (if L.getD 11 false = true then Value.slice (some ⟨bb, 0, none⟩) N.length N.length else Value.slice none 0 0) = c0 at hb2 cb
      have h0 := hK.down x5 x6 (.pointer (some ⟨b, 0, none⟩)) x17 x18 x19 x20 x21 _ _ (R3.store11 hR.down hj hb1 hb2)
      replace h0 := PLift.up h0
      as_aux_lemma =>
      simp only [act9, Act.put, List.setIfInBounds_toArray, List.set_cons_succ, List.set_cons_zero]
      refine wpOp_step ho ?_
      intro K1 hK1
      go_simp
      replace h0 := h0.down
      simp only [act9, Act.put, List.setIfInBounds_toArray, List.set_cons_succ, List.set_cons_zero] at h0
      exact hK1 _ _ h0
    | i + 12, ho, hU, hK => exact absurd ho (by simp)
  · intro b1 b3 b5 b6 b7 b8 w' hbw l1 l3 l5 l6 l7 l8 n13 n15 n35 n67 n68 n78 e1 e3 e5 e6 e7 e8
    have hs0 := HS0.down
    rw [hs0] at hbw l1 l3 l5 l6 l7 l8
    have HC6 : PLift (C6 w N.length w.heap.size b1 b3 b5 b6 b7 b8 (.slice va N.length vc) root (List.replicate N.length 0) w') := by
      refine ⟨⟨HB0.down.trans (hbw.mono (by omega)), by rw [hbw.block _ (by omega)]; exact HW0.down, e1, e3, by simpa using e5, e6, e7, e8, rfl, by omega, by omega, by omega, by omega, by omega, by omega, ?_⟩⟩
      have m16 := row_ne_var e1 e6
      have m17 := row_ne_var e1 e7
      have m18 := row_ne_var e1 e8
      have m36 := row_ne_var e3 e6
      have m37 := row_ne_var e3 e7
      have m38 := row_ne_var e3 e8
      have m56 := row_ne_var e5 e6
      have m57 := row_ne_var e5 e7
      have m58 := row_ne_var e5 e8
      simp only [List.nodup_cons, List.mem_cons, List.not_mem_nil, or_false, not_or, List.nodup_nil, and_true, not_false_eq_true]
      exact ⟨⟨n13, n15, m16, m17, m18⟩, ⟨n35, m36, m37, m38⟩, ⟨m56, m57, m58⟩, ⟨n67, n68⟩, n78⟩
    clear hbw l1 l3 l5 l6 l7 l8 n13 n15 n35 n67 n68 n78 e1 e3 e5 e6 e7 e8 hs0 hmk
    simp only [act9, Act.put, List.setIfInBounds_toArray, List.set_cons_succ, List.set_cons_zero]
    as_aux_lemma =>
    have k8 : w'.cell? ⟨b8, 0, none⟩ = some (.slice (some ⟨b5, 0, none⟩) N.length N.length) := (Lib.cell_of_heap HC6.down.e8 0).trans rfl
    go_wp2
    go_loopw [25] (fun iv wr => ∃ j : Nat, iv = .int .i64 j ∧ j ≤ N.length ∧ C6 w N.length w.heap.size b1 b3 b5 b6 b7 b8 (.slice va N.length vc) root (List.replicate j (-1) ++ List.replicate (N.length - j) 0) wr) (fun iv _ => N.length - (intOf iv).toNat)
    case atStart => exact ⟨0, rfl, Nat.zero_le _, by simpa using HC6.down⟩
    case round =>
      as_aux_lemma =>
      obtain ⟨j, rfl, hj, hc6⟩ := hrel
      have HC := PLift.up hc6
      have k8 : wr.cell? ⟨b8, 0, none⟩ = some (.slice (some ⟨b5, 0, none⟩) N.length N.length) := (Lib.cell_of_heap hc6.e8 0).trans rfl
      by_cases hjl : j < N.length
      · have hjl2 : (j : Int) < (N.length : Int) := by omega
        have k5 : wr.cell? ⟨b5, j, none⟩ = some (.int .i64 ((List.replicate j (-1 : Int) ++ List.replicate (N.length - j) 0).getD j 0)) := int_row hc6.e5 (by simp; omega)
        have f5 : ∀ o, wr.frozen? ⟨b5, o, none⟩ = false := fun o => Lib.frozen_of_heap hc6.e5 o
        generalize (List.replicate j (-1 : Int) ++ List.replicate (N.length - j) 0).getD j 0 = y at k5
        clear hc6
        as_aux_lemma =>
        go_wp2
        go_roundw
        case rel => exact ⟨j + 1, by go_num, by omega, by rw [← rep_set hjl]; exact HC.down.set j (-1)⟩
        case measure => simp [intOf]; omega
      · obtain rfl : j = N.length := by omega
        clear hc6
        have hmk2 : ∀ wx : World, (Instr.makeSlice 90 (.int .i64 (N.length : Int)) (.int .i64 (N.length : Int))).run Tryz.prog wx = .ok (.slice (some ⟨wx.heap.size, 0, none⟩) N.length N.length) (wx.alloc (.cells (Array.replicate N.length (.bool false)) 4)) := fun wx => by
          rw [run_make_row' 90 4 (.bool false) 1 Tryz.underlying90 info_bool0 rfl .i64 .i64 N.length (by omega) (by omega) wx, made_rep]
        as_aux_lemma =>
        go_upto_region 13 with fail
        change Code.wp _ _ _ _ (startW wr w.heap.size b6 b7 b8 N.length)
        obtain ⟨s', hv, rfl, rfl⟩ := compT_some HC0.down
        simp only [Nat.sub_self, List.replicate_zero, List.append_nil] at HC
        have HG9 := PLift.up (comp_start HC.down)
        have hcall := visit_all w (.slice va N.length vc) root N (dS wr.heap.size w.heap.size b1 b3 b5 b6 b7 b8) (wr.heap.size + 6) HN.down HR.down hn (N.length + 1) root _ s' _ _ _ hv hroot (by simp [hroot]) HG9.down
        simp only [capsV, dS, dOf] at hcall
        have HV := PLift.up hcall
        have k13 : (startW wr w.heap.size b6 b7 b8 N.length).cell? ⟨wr.heap.size + 1 + 1 + 1 + 1 + 1, 0, none⟩ = some (.func (.func 165) #[] #[.pointer (some ⟨wr.heap.size + 1 + 1 + 1 + 1, 0, none⟩), .pointer (some ⟨b6, 0, none⟩), .pointer (some ⟨b7, 0, none⟩), .pointer (some ⟨wr.heap.size + 1, 0, none⟩), .pointer (some ⟨wr.heap.size + 1 + 1 + 1, 0, none⟩), .pointer (some ⟨wr.heap.size + 1 + 1 + 1 + 1 + 1, 0, none⟩), .pointer (some ⟨w.heap.size, 0, none⟩), .pointer (some ⟨wr.heap.size, 0, none⟩), .pointer (some ⟨b8, 0, none⟩)]) := (Lib.cell_of_heap (HG9.down.fix 10) 0).trans rfl
        have k1 : (startW wr w.heap.size b6 b7 b8 N.length).cell? ⟨w.heap.size, 1, none⟩ = some (.int .i64 root) := (Lib.cell_of_heap (HG9.down.fix 0) 1).trans rfl
        clear hv hcall hmk2
        generalize startW wr w.heap.size b6 b7 b8 N.length = W9 at HG9 HV k13 k1 ⊢
        as_aux_lemma =>
        go_wp2_with (go_at_call 165; refine (HV.down).mono ?_; rintro e w3 ⟨rfl, sv3, zv3, hg3, hf3⟩; have HG3 := PLift.up hg3; clear hg3 hf3)
        have k7 : w3.cell? ⟨b8, 0, none⟩ = some (.slice (some ⟨b5, 0, none⟩) N.length N.length) := (Lib.cell_of_heap (HG3.down.fix 7) 0).trans rfl
        have k11 : w3.cell? ⟨wr.heap.size, 0, none⟩ = some zv3 := (Lib.cell_of_heap (HG3.down.fix 11) 0).trans rfl
        as_aux_lemma =>
        go_region
        go_wp2
        refine bodyPost_ret (v := .tuple #[.slice (some ⟨b5, 0, none⟩) N.length N.length, zv3]) (by simp only [results, Tryz.results120]; go_simp) rfl ?_
        exact ⟨b5, wr.heap.size + 6, zv3, rfl, HG3.down.below.drew, by have := HC.down.l5; omega, by have := block_lt HC.down.e5; omega, HG3.down.ln, HG3.down.fix 3, HG3.down.zown.drew⟩
end Go.Proofs.YtcipjifpigpfdaaGreatDoor
/- graph.depth: what it computes, and the world that it works in. -/
namespace Go.Proofs.YtcipjifpigpfdaaGreatDoor
open Go.RowKit
open Go.Lib hiding intOf
def memAdd (inn : List Int) (M : List (List Int)) (i : Nat) : List (List Int) := M.set (inn.getD i 0).toNat (M.getD (inn.getD i 0).toNat [] ++ [(i : Int)])
/-- the members of each component -/
def memF (inn : List Int) (C : Nat) : List (List Int) := (List.range inn.length).foldl (memAdd inn) (List.replicate C [])
def edgeB (inn : List Int) (c : Nat) (st : List Int × Bool) (x : Int) : List Int × Bool :=
  if inn.getD x.toNat 0 = (c : Int) then (st.1, false) else (st.1.set c (max (st.1.getD c 0) (st.1.getD (inn.getD x.toNat 0).toNat 0)), st.2)
def nodeB (N : List Nd) (inn : List Int) (c : Nat) (st : List Int × Bool) (i : Int) : List Int × Bool :=
  (N.getD i.toNat nd0).items.foldl (edgeB inn c) ((N.getD i.toNat nd0).keys.foldl (edgeB inn c) st)
def compB (N : List Nd) (inn : List Int) (M : List (List Int)) (sizes : List Int) (st : List Int × Bool) (c : Nat) : List Int × Bool :=
  let st1 := (M.getD c []).foldl (nodeB N inn c) st
  (st1.1.set c (wrap64 (st1.1.getD c 0 + sizes.getD c 0)), st1.2)
def depthF (N : List Nd) (root : Nat) (inn sizes : List Int) : Int × Bool :=
  let st := (List.range sizes.length).foldl (compB N inn (memF inn sizes.length) sizes) (List.replicate sizes.length 0, true)
  (wrap64 (st.1.getD (inn.getD root 0).toNat 0 - 1), st.2)
example : depthF [⟨10, ⟨#[]⟩, false, [1], [2]⟩, ⟨5, ⟨#[97]⟩, false, [], []⟩, ⟨9, ⟨#[]⟩, false, [], [3]⟩, ⟨2, ⟨#[49]⟩, false, [], []⟩] 0 [3, 0, 2, 1] [1, 1, 1, 1] = (2, true) := by decide +kernel
def nilS : Value := .slice none 0 0
/-- the world of depth: the row of depths at hb, the members' row at hb + 1, each member row of the call's own -/
structure DW (w1 : World) (hb C : Nat) (M : List (List Int)) (vals : List Value) (B : List Int) (wr : World) : Prop where
  below : Below hb w1 wr
  brow : wr.heap[hb]? = some (.cells (B.map (Value.int .i64)).toArray 3)
  mrow : wr.heap[hb + 1]? = some (.cells vals.toArray 23)
  ml : M.length = C
  vl : vals.length = C
  bl : B.length = C
  rows : ∀ c, c < C → wr.ownsRow (hb + 2) 3 1 (vals.getD c nilS) (M.getD c []).length ((M.getD c []).map (Value.int .i64))
  sep : ∀ c c', c < C → c' < C → c ≠ c' → (vals.getD c nilS).ownBlock = none ∨ (vals.getD c nilS).ownBlock ≠ (vals.getD c' nilS).ownBlock
theorem getD_rep {α : Type} (n c : Nat) (x : α) : (List.replicate n x).getD c x = x := by
  rw [List.getD_eq_getElem?_getD, List.getElem?_replicate]; split <;> rfl
theorem getD_set_list {α : Type} (L : List α) (i j : Nat) (x y : α) : (L.set i x).getD j y = if i = j ∧ i < L.length then x else L.getD j y := by
  rw [List.getD_eq_getElem?_getD, List.getElem?_set, List.getD_eq_getElem?_getD]
  by_cases h : i = j
  · subst h
    by_cases h2 : i < L.length
    · simp [h2]
    · simp [h2]
  · simp [h]
section
variable {w1 wr : World} {hb C : Nat} {M : List (List Int)} {vals : List Value} {B : List Int}
theorem dw_start (w1 : World) (C : Nat) : DW w1 w1.heap.size C (List.replicate C []) (List.replicate C nilS) (List.replicate C 0) ((w1.alloc (.cells (Array.replicate C (.int .i64 0)) 3)).alloc (.cells (Array.replicate C (.slice none 0 0)) 23)) where
  below := ((Below.refl _ w1).alloc (Nat.le_refl _) _).alloc (by rw [size_new]; omega) _
  brow := by rw [Lib.alloc_old _ _ _ (by rw [size_new]; omega), heap_alloc_new]; simp
  mrow := by
    have h := heap_alloc_new (w1.alloc (.cells (Array.replicate C (.int .i64 0)) 3)) (.cells (Array.replicate C (.slice none 0 0)) 23)
    rw [size_new] at h
    rw [h]; simp [nilS]
  ml := by simp
  vl := by simp
  bl := by simp
  rows := fun c _ => by rw [getD_rep, getD_rep]; exact World.ownsRow_nil _ _ _ _
  sep := fun c c' _ _ _ => .inl (by rw [getD_rep]; rfl)
theorem DW.drew (h : DW w1 hb C M vals B wr) : DW w1 hb C M vals B wr.drew := { h with below := h.below.drew, rows := fun c hc => (h.rows c hc).drew }
theorem DW.alloc (h : DW w1 hb C M vals B wr) (o : Obj) : DW w1 hb C M vals B (wr.alloc o) :=
  { h with
    below := h.below.alloc (by have := block_lt h.brow; omega) o
    brow := by rw [Lib.alloc_old _ _ _ (block_lt h.brow)]; exact h.brow
    mrow := by rw [Lib.alloc_old _ _ _ (block_lt h.mrow)]; exact h.mrow
    rows := fun c hc => (h.rows c hc).alloc o }
theorem DW.setB (h : DW w1 hb C M vals B wr) (c : Nat) (x : Int) : DW w1 hb C M vals (B.set c x) (wr.setCell ⟨hb, c, none⟩ (.int .i64 x)) :=
  { h with
    below := h.below.setCell (p := ⟨hb, c, none⟩) (Nat.le_refl _) _
    brow := by simp [World.setCell, Array.getElem?_modify, h.brow, List.map_set]
    mrow := by rw [set_far _ (by omega)]; exact h.mrow
    bl := by simpa using h.bl
    rows := fun c' hc => row_far (h.rows c' hc) (by omega) (grown_set wr hb c _) }
/-- a member is added: the row has turned, and its cell -/
theorem DW.push (h : DW w1 hb C M vals B wr) {c : Nat} (hc : c < C) (L : List Int) (v' : Value) (w' : World) (hg : wr.grownBy w' (vals.getD c nilS).ownBlock) (hown : w'.ownsRow (hb + 2) 3 1 v' L.length (L.map (Value.int .i64)))
    (hpl : ∀ k, v'.ownBlock = some k → (vals.getD c nilS).ownBlock = some k ∨ wr.heap.size ≤ k) :
    DW w1 hb C (M.set c L) (vals.set c v') B (w'.setCell ⟨hb + 1, c, none⟩ v') := by
  have hlt := h.rows
  have hn : ∀ k, (vals.getD c nilS).ownBlock = some k → hb + 2 ≤ k := fun k hk => ((h.rows c hc).lt k hk).1
  have hml := h.ml
  have hvl := h.vl
  refine ⟨?_, ?_, ?_, by simpa using h.ml, by simpa using h.vl, h.bl, ?_, ?_⟩
  · exact (h.below.grown hg (by have := block_lt h.brow; omega) (fun k hk => by have := hn k hk; omega)).setCell (p := ⟨hb + 1, c, none⟩) (by show hb ≤ hb + 1; omega) _
  · rw [set_far _ (by omega), hg.block _ (block_lt h.brow) (fun e => by have := hn _ e.symm; omega)]; exact h.brow
  · have hm := h.mrow
    rw [← hg.block _ (block_lt h.mrow) (fun e => by have := hn _ e.symm; omega)] at hm
    simp [World.setCell, Array.getElem?_modify, hm]
  · intro k hk
    refine row_far (b := hb + 1) ?_ (by omega) (grown_set w' (hb + 1) c v')
    rw [getD_set_list, getD_set_list]
    by_cases hck : c = k
    · subst hck
      rw [if_pos ⟨rfl, by omega⟩, if_pos ⟨rfl, by omega⟩]; exact hown
    · rw [if_neg (fun e => hck e.1), if_neg (fun e => hck e.1)]
      exact (h.rows k hk).kept hg (h.sep k c hk hc (fun e => hck e.symm))
  · intro k k' hk hk' hne
    rw [getD_set_list, getD_set_list]
    by_cases hck : c = k
    · subst hck
      rw [if_pos ⟨rfl, by omega⟩, if_neg (fun e => hne e.1)]
      cases hq : v'.ownBlock with
      | none => exact .inl rfl
      | some b =>
        refine .inr fun e => ?_
        rcases hpl b hq with e2 | e2
        · rcases h.sep c k' hc hk' hne with e3 | e3
          · rw [e3] at e2; cases e2
          · exact e3 (e2.trans e)
        · have := ((h.rows k' hk').lt b e.symm).2
          omega
    · rw [if_neg (fun e => hck e.1)]
      by_cases hck' : c = k'
      · subst hck'
        rw [if_pos ⟨rfl, by omega⟩]
        cases hq : (vals.getD k nilS).ownBlock with
        | none => exact .inl rfl
        | some b =>
          refine .inr fun e => ?_
          rcases hpl b e.symm with e2 | e2
          · rcases h.sep k c hk hc hne with e3 | e3
            · rw [e3] at hq; cases hq
            · exact e3 (hq.trans e2.symm)
          · have := ((h.rows k hk).lt b hq).2
            omega
      · rw [if_neg (fun e => hck' e.1)]
        exact h.sep k k' hk hk' hne
end
theorem memAdd_len (inn : List Int) (M : List (List Int)) (i : Nat) : (memAdd inn M i).length = M.length := by simp [memAdd]
/-- the members are nodes -/
def MemOk (n : Nat) (M : List (List Int)) : Prop := ∀ L ∈ M, L.length ≤ n ∧ ∀ x ∈ L, 0 ≤ x ∧ x < (n : Int)
theorem memAdd_ok {inn : List Int} {M : List (List Int)} {i : Nat} (h : MemOk i M) : MemOk (i + 1) (memAdd inn M i) := by
  intro L hL
  unfold memAdd at hL
  rcases List.mem_or_eq_of_mem_set hL with hL | rfl
  · obtain ⟨h1, h2⟩ := h L hL
    exact ⟨by omega, fun x hx => by have := h2 x hx; omega⟩
  · have hM : (M.getD (inn.getD i 0).toNat []) ∈ M ∨ M.getD (inn.getD i 0).toNat [] = [] := by
      rw [List.getD_eq_getElem?_getD]
      cases hq : M[(inn.getD i 0).toNat]? with
      | none => exact .inr rfl
      | some y => exact .inl (List.mem_of_getElem? hq)
    rcases hM with hM | hM
    · obtain ⟨h1, h2⟩ := h _ hM
      refine ⟨by simp only [List.length_append, List.length_cons, List.length_nil]; omega, fun x hx => ?_⟩
      rcases List.mem_append.1 hx with hx | hx
      · have := h2 x hx; omega
      · rw [List.mem_singleton.1 hx]; omega
    · rw [hM]
      refine ⟨by simp, fun x hx => ?_⟩
      rw [List.nil_append] at hx
      rw [List.mem_singleton.1 hx]; omega
end Go.Proofs.YtcipjifpigpfdaaGreatDoor
/- graph.depth: the walk. -/
namespace Go.Proofs.YtcipjifpigpfdaaGreatDoor
open Go.RowKit
open Go.Lib hiding intOf
theorem info_slice0 : (Tryz.prog.info? 23).map (fun i => (i.zero, i.size, i.bytes)) = some (some (.slice none 0 0), 1, 24) := by kernel_rfl
set_option maxHeartbeats 4000000 in
set_option maxRecDepth 100000 in
theorem depth_any (w : World) (v : Value) (root : Nat) (N : List Nd) (inn sizes : List Int) (hN : NodesAt w v N) (hR : InRange N) (hn : N.length ≤ 4096) (hroot : root < N.length) (hc : compT N root = some (inn, sizes)) (hin : ∀ x ∈ inn, 0 ≤ x ∧ x < (sizes.length : Int)) (hC : sizes.length ≤ 4096) :
    Calls Tryz.prog 74 #[.agg #[v, .int .i64 root]] w fun e w' => e = .returned (.tuple #[.int .i64 (depthF N root inn sizes).1, .bool (depthF N root inn sizes).2]) ∧ Below w.heap.size w w' := by
  have HN := PLift.up hN
  have HR := PLift.up hR
  have HIN := PLift.up hin
  have HCC := PLift.up (fun (w' : World) (h' : NodesAt w' v N) => components_any w' v root N inn sizes h' hR hn hroot hc)
  obtain ⟨va, vc, rfl, hvl, hvn⟩ := hN
  have hb0 : NodesAt (w.alloc (.cells #[.slice va N.length vc, .int .i64 root] 28)) (.slice va N.length vc) N := HN.down.below (below_new w _)
  have HW0 : PLift ((w.alloc (.cells #[.slice va N.length vc, .int .i64 root] 28)).heap[w.heap.size]? = some (.cells #[.slice va N.length vc, .int .i64 root] 28)) := ⟨heap_alloc_new w _⟩
  have HC1 := PLift.up (HCC.down _ hb0)
  clear hvn hR hc hin hb0 HCC
  as_aux_lemma =>
  go_enter Tryz.func74, Tryz.ntmps74
  as_aux_lemma =>
  go_wp2_with (go_at_call 120; refine (HC1.down).mono ?_; rintro e w1 ⟨b5, base, zv, rfl, hbw, hb5, hbb, hil, hirow, hzown⟩; obtain ⟨Az, cz, rfl⟩ := own_shape hzown; have HBW := PLift.up hbw; have HIR := PLift.up hirow; have HZO := PLift.up hzown; have HIL := PLift.up hil; clear hbw hirow hzown hb5 hbb hil)
  have hs0 : (w.alloc (.cells #[.slice va N.length vc, .int .i64 root] 28)).heap.size = w.heap.size + 1 := size_new _ _
  have HB1 : PLift (Below w.heap.size w w1) := ⟨(below_new w _).trans (HBW.down.mono (by omega))⟩
  have HBX : PLift (w1.heap[w.heap.size]? = some (.cells #[.slice va N.length vc, .int .i64 root] 28)) := ⟨by rw [HBW.down.block _ (by omega)]; exact HW0.down⟩
  have HN1 := PLift.up (HN.down.below HB1.down)
  have hmk : ∀ wx : World, (Instr.makeSlice 23 (.int .i64 (sizes.length : Int)) (.int .i64 (sizes.length : Int))).run Tryz.prog wx = .ok (.slice (some ⟨wx.heap.size, 0, none⟩) sizes.length sizes.length) (wx.alloc (.cells (Array.replicate sizes.length (.int .i64 0)) 3)) := fun wx => by
    rw [run_make_row' 23 3 (.int .i64 0) 8 Tryz.underlying23 info_int0 rfl .i64 .i64 sizes.length (by omega) (by omega) wx, made_rep]
  have hmk2 : ∀ wx : World, (Instr.makeSlice 155 (.int .i64 (sizes.length : Int)) (.int .i64 (sizes.length : Int))).run Tryz.prog wx = .ok (.slice (some ⟨wx.heap.size, 0, none⟩) sizes.length sizes.length) (wx.alloc (.cells (Array.replicate sizes.length (.slice none 0 0)) 23)) := fun wx => by
    rw [run_make_row' 155 23 (.slice none 0 0) 24 Tryz.underlying155 info_slice0 rfl .i64 .i64 sizes.length (by omega) (by omega) wx, made_rep]
  clear hs0
  as_aux_lemma =>
  go_wp2
  go_simp
  go_wp2
  go_simp
  go_wp2
  go_loopw [31] (fun iv wr => ∃ (j : Nat) (M : List (List Int)) (vals : List Value), iv = .int .i64 j ∧ j ≤ N.length ∧ M = (List.range j).foldl (memAdd inn) (List.replicate sizes.length []) ∧ MemOk j M ∧ DW w1 w1.heap.size sizes.length M vals (List.replicate sizes.length 0) wr) (fun iv _ => N.length - (intOf iv).toNat)
  case atStart => exact ⟨0, _, _, rfl, Nat.zero_le _, rfl, (fun L hL => by rw [(List.mem_replicate.1 hL).2]; exact ⟨Nat.le_refl _, fun x hx => by cases hx⟩), dw_start w1 sizes.length⟩
  case round =>
    as_aux_lemma =>
    obtain ⟨j, M, vals, rfl, hj, hM, hok, hdw⟩ := hrel
    have HM := PLift.up hM
    have HOK := PLift.up hok
    have HDW := PLift.up hdw
    clear hM hok hdw
    by_cases hjl : j < N.length
    · have hjl2 : (j : Int) < (N.length : Int) := by omega
      have hji : j < inn.length := by rw [HIL.down]; exact hjl
      have ci : wr.cell? ⟨b5, j, none⟩ = some (.int .i64 (inn.getD j 0)) := cell_keep HDW.down.below (int_row HIR.down hji)
      have hrng := HIN.down (inn.getD j 0) (by rw [List.getD_eq_getElem?_getD, List.getElem?_eq_getElem hji]; exact List.getElem_mem hji)
      have HMA : PLift (memAdd inn M j = M.set (inn.getD j 0).toNat (M.getD (inn.getD j 0).toNat [] ++ [(j : Int)])) := ⟨rfl⟩
      generalize inn.getD j 0 = x at ci hrng HMA
      obtain ⟨c, rfl⟩ := Int.eq_ofNat_of_zero_le hrng.1
      have hcl : c < sizes.length := by have := hrng.2; omega
      have hcl2 : (c : Int) < (sizes.length : Int) := hrng.2
      simp only [Int.toNat_natCast] at HMA
      have hown := HDW.down.rows c hcl
      obtain ⟨A, cc, hv⟩ := own_shape hown
      rw [hv] at hown
      have HV := PLift.up hv
      have cm : wr.cell? ⟨w1.heap.size + 1, c, none⟩ = some (.slice A (M.getD c []).length cc) := by
        rw [Lib.cell_of_heap HDW.down.mrow, ← hv, List.getD_eq_getElem?_getD, List.getElem?_eq_getElem (by rw [HDW.down.vl]; exact hcl)]
        simp [HDW.down.vl, hcl]
      have HLN : PLift ((M.getD c []).length ≤ 4096) := by
        refine ⟨?_⟩
        rw [List.getD_eq_getElem?_getD, List.getElem?_eq_getElem (by rw [HDW.down.ml]; exact hcl)]
        have := (HOK.down _ (List.getElem_mem (by rw [HDW.down.ml]; exact hcl))).1
        exact Nat.le_trans this (by omega)
      obtain ⟨L, hL⟩ : ∃ L, M.getD c [] = L := ⟨_, rfl⟩
      rw [hL] at hown cm HMA HLN HV
      have HOWN := PLift.up (World.ownsRow.alloc hown (.cells #[.int .i64 j] 3))
      have HBS : PLift (w1.heap.size + 2 ≤ (wr.alloc (.cells #[.int .i64 j] 3)).heap.size) := ⟨by rw [size_new]; have := block_lt HDW.down.mrow; omega⟩
      have HNW : PLift ((wr.alloc (.cells #[.int .i64 j] 3)).cell? ⟨wr.heap.size, 0, none⟩ = some (.int .i64 j)) := ⟨(Lib.cell_of_heap (heap_alloc_new wr _) 0).trans rfl⟩
      obtain ⟨i0, hi0, hz0, hz1, hz2⟩ := info_parts info_int0
      have HI0 := PLift.up (And.intro hi0 (And.intro hz0 (And.intro hz1 hz2)))
      clear hown hv hL hrng hi0 hz0 hz1 hz2
      as_aux_lemma =>
      go_wp2_with (refine wpList_append_new _ rfl _ _ 23 rfl (w1.heap.size + 2) 3 i0 (.int .i64 0) 1 8 Tryz.underlying23 HI0.down.1 HI0.down.2.1 HI0.down.2.2.1 HI0.down.2.2.2 rfl (by decide) (.slice A L.length cc) L.length (L.map (Value.int .i64)) rfl HOWN.down ⟨wr.heap.size, 0, none⟩ 1 1 [.int .i64 j] rfl rfl (by intro j2 u hj2; match j2, hj2 with | 0, hj2 => simp only [List.getElem?_cons_zero, Option.some.injEq] at hj2; subst hj2; exact HNW.down | j2 + 1, hj2 => simp at hj2) (by simp [Value.oneCell']) (by decide) (by have := HLN.down; unfold maxLen; omega) (by have := HLN.down; omega) HBS.down ?_)
      intro v' w4 hown4 hg4 hpl40
      have hpl4 : ∀ k, v'.ownBlock = some k → (vals.getD c nilS).ownBlock = some k ∨ (wr.alloc (.cells #[.int .i64 j] 3)).heap.size ≤ k := fun k hk => by rw [size_new, HV.down]; exact hpl40 k hk
      have HD4 := PLift.up ((HDW.down.alloc (.cells #[.int .i64 j] 3)).push hcl (L ++ [(j : Int)]) v' w4 (by rw [HV.down]; exact hg4) (by simpa using hown4) hpl4)
      have hm4 : w4.heap[w1.heap.size + 1]? = some (.cells vals.toArray 23) := by
        rw [hg4.block _ (block_lt (HDW.down.alloc (.cells #[.int .i64 j] 3)).mrow) (fun e => by have := (HOWN.down.lt _ e.symm).1; omega)]
        exact (HDW.down.alloc (.cells #[.int .i64 j] 3)).mrow
      have c4 : w4.cell? ⟨w1.heap.size + 1, c, none⟩ = some (.slice A L.length cc) := by
        rw [Lib.cell_of_heap hm4, ← HV.down, List.getD_eq_getElem?_getD, List.getElem?_eq_getElem (by rw [HDW.down.vl]; exact hcl)]
        simp [HDW.down.vl, hcl]
      have f4 : ∀ o, w4.frozen? ⟨w1.heap.size + 1, o, none⟩ = false := fun o => Lib.frozen_of_heap hm4 o
      obtain ⟨A4, cc4, hv4⟩ := own_shape hown4
      subst hv4
      clear hown4 hg4 hpl40 hpl4 hm4
      as_aux_lemma =>
      go_wp2
      go_roundw
      case rel => exact ⟨j + 1, _, _, by go_num, by omega, by rw [List.range_succ, List.foldl_append, ← HM.down]; rfl, memAdd_ok HOK.down, by rw [HMA.down]; exact HD4.down⟩
      case measure => simp [intOf]; omega
    · obtain rfl : j = N.length := by omega
      as_aux_lemma =>
      have HM2 : PLift (M = memF inn sizes.length) := ⟨by rw [HM.down]; unfold memF; rw [HIL.down]⟩
      as_aux_lemma =>
      go_wp2
      go_loopw [6, 49] (fun ov cv wr => ∃ (c : Nat) (st : List Int × Bool), cv = .int .i64 c ∧ c ≤ sizes.length ∧ ov = .bool st.2 ∧ st = (List.range c).foldl (compB N inn M sizes) (List.replicate sizes.length 0, true) ∧ DW w1 w1.heap.size sizes.length M vals st.1 wr) (fun _ cv _ => sizes.length - (intOf cv).toNat)
      case atStart => exact ⟨0, (List.replicate sizes.length 0, true), rfl, Nat.zero_le _, rfl, rfl, HDW.down⟩
      case round =>
        as_aux_lemma =>
        obtain ⟨c, st2, rfl, hc, rfl, hst2, hdw2⟩ := hrel
        have HS2 := PLift.up hst2
        have HD2 := PLift.up hdw2
        clear hst2 hdw2
        by_cases hcl : c < sizes.length
        · have hcl2 : (c : Int) < (sizes.length : Int) := by omega
          obtain ⟨A, cc, hv⟩ := own_shape (HD2.down.rows c hcl)
          have HV := PLift.up hv
          have cm : wr.cell? ⟨w1.heap.size + 1, c, none⟩ = some (.slice A (M.getD c []).length cc) := by
            rw [Lib.cell_of_heap HD2.down.mrow, ← hv, List.getD_eq_getElem?_getD, List.getElem?_eq_getElem (by rw [HD2.down.vl]; exact hcl)]
            simp [HD2.down.vl, hcl]
          have HOL : PLift (∀ x ∈ M.getD c [], 0 ≤ x ∧ x < (N.length : Int)) := by
            refine ⟨?_⟩
            rw [List.getD_eq_getElem?_getD, List.getElem?_eq_getElem (by rw [HD2.down.ml]; exact hcl)]
            exact (HOK.down _ (List.getElem_mem (by rw [HD2.down.ml]; exact hcl))).2
          have hll : (M.getD c []).length ≤ 4096 := by
            rw [List.getD_eq_getElem?_getD, List.getElem?_eq_getElem (by rw [HD2.down.ml]; exact hcl)]
            have := (HOK.down _ (List.getElem_mem (by rw [HD2.down.ml]; exact hcl))).1
            exact Nat.le_trans this (by omega)
          obtain ⟨L, hL⟩ : ∃ L, M.getD c [] = L := ⟨_, rfl⟩
          have HL := PLift.up hL
          rw [hL] at cm HOL HV hll
          clear hv hL
          as_aux_lemma =>
          go_wp2
          go_loopw [6, 57] (fun ov kv wr => ∃ (k : Nat) (st : List Int × Bool), kv = .int .i64 k ∧ k ≤ L.length ∧ ov = .bool st.2 ∧ st = (L.take k).foldl (nodeB N inn c) st2 ∧ DW w1 w1.heap.size sizes.length M vals st.1 wr) (fun _ kv _ => L.length - (intOf kv).toNat)
          case atStart => exact ⟨0, st2, rfl, Nat.zero_le _, rfl, rfl, HD2.down⟩
          case round =>
            as_aux_lemma =>
            obtain ⟨k, st3, rfl, hk, rfl, hst3, hdw3⟩ := hrel
            have HS3 := PLift.up hst3
            have HD3 := PLift.up hdw3
            clear hst3 hdw3
            by_cases hkl : k < L.length
            · have hkl2 : (k : Int) < (L.length : Int) := by omega
              have hown := HD3.down.rows c hcl
              rw [HV.down, HL.down] at hown
              obtain ⟨g, c', hg', -⟩ := own_full hown (by omega)
              injection hg' with hA _ hcc
              subst hA hcc
              have ck : wr.cell? ⟨g, k, none⟩ = some (.int .i64 L[k]) := own_cell hown (by rw [List.getElem?_map, List.getElem?_eq_getElem hkl]; rfl)
              have hx := HOL.down L[k] (List.getElem_mem hkl)
              have HT30 : PLift ((L.take (k + 1)).foldl (nodeB N inn c) st2 = nodeB N inn c st3 L[k]) := ⟨by rw [List.take_succ_eq_append_getElem hkl, List.foldl_append, ← HS3.down]; rfl⟩
              generalize L[k] = x at ck hx HT30
              obtain ⟨a, rfl⟩ := Int.eq_ofNat_of_zero_le hx.1
              have ha : a < N.length := by have := hx.2; omega
              have hai : (a : Int) < (N.length : Int) := hx.2
              have hN3 := HN.down
              obtain ⟨va', vc', hva', hvl', hvn'⟩ := hN3
              injection hva' with e1 _ e3
              subst e1 e3
              rcases hvn' with hnil | ⟨b, o, rfl, hall⟩
              · exfalso; rw [hnil] at ha; exact Nat.not_lt_zero _ ha
              have hn0 := hall a N[a] (List.getElem?_eq_getElem ha)
              have hrng := HR.down N[a] (List.getElem_mem ha)
              have HT3 : PLift ((L.take (k + 1)).foldl (nodeB N inn c) st2 = N[a].items.foldl (edgeB inn c) (N[a].keys.foldl (edgeB inn c) st3)) := by
                refine ⟨?_⟩
                rw [HT30.down]
                unfold nodeB
                simp only [Int.toNat_natCast]
                rw [show N.getD a nd0 = N[a] from by rw [List.getD_eq_getElem?_getD, List.getElem?_eq_getElem ha]; rfl]
              generalize N[a] = n at hn0 hrng HT3
              have HRN := PLift.up hrng
              have hbel := HB1.down.trans (HD3.down.below.mono HB1.down.size)
              obtain ⟨kv, iv, m0, m1, m2, m3, m4, hkc, hic⟩ := hn0
              obtain ⟨ka, kc, rfl, hkl', hkc⟩ := hkc
              obtain ⟨ia, ic, rfl, hil', hic⟩ := hic
              have HKC := PLift.up hkc
              have HIC := PLift.up hic
              have q3 := cell_keep hbel m3
              have q4 := cell_keep hbel m4
              have q0 : wr.cell? ⟨w.heap.size, 0, none⟩ = some (.slice (some ⟨b, o, none⟩) N.length vc) := by
                rw [World.cell?_of_block (HD3.down.below.block _ (block_lt HBX.down)), Lib.cell_of_heap HBX.down]; rfl
              clear hall hrng hbel m0 m1 m2 m3 m4 hkc hic hx hown hvl'
              as_aux_lemma =>
              go_upto_region 16 with fail
              go_region
              obtain ⟨Hn, hHn⟩ : ∃ Hn, wr.heap.size = Hn := ⟨_, rfl⟩
              have HHN : PLift (w1.heap.size < Hn) := ⟨by rw [← hHn]; exact block_lt HD3.down.brow⟩
              have HD30 := PLift.up ((HD3.down.drew).alloc (.cells #[.slice ka n.keys.length kc, .slice ia n.items.length ic] 23))
              have HL30 : PLift ((wr.drew.alloc (.cells #[.slice ka n.keys.length kc, .slice ia n.items.length ic] 23)).heap[Hn]? = some (.cells #[.slice ka n.keys.length kc, .slice ia n.items.length ic] 23)) := ⟨by rw [← hHn]; exact heap_alloc_new wr.drew _⟩
              as_aux_lemma =>
              go_wp2
              go_loopw [6, 75] (fun ov mv wr => ∃ st : List Int × Bool, ov = .bool st.2 ∧ ((mv = .int .i64 0 ∧ st = st3) ∨ (mv = .int .i64 1 ∧ st = n.keys.foldl (edgeB inn c) st3) ∨ (mv = .int .i64 2 ∧ st = n.items.foldl (edgeB inn c) (n.keys.foldl (edgeB inn c) st3))) ∧ DW w1 w1.heap.size sizes.length M vals st.1 wr ∧ wr.heap[Hn]? = some (.cells #[.slice ka n.keys.length kc, .slice ia n.items.length ic] 23)) (fun _ mv _ => 2 - (intOf mv).toNat)
              case atStart => exact ⟨_, rfl, .inl ⟨rfl, rfl⟩, HD30.down, HL30.down⟩
              case round =>
                as_aux_lemma =>
                obtain ⟨st4, rfl, hcase, hd4, hl4⟩ := hrel
                have l0 : wr.cell? ⟨Hn, 0, none⟩ = some (.slice ka n.keys.length kc) := (Lib.cell_of_heap hl4 0).trans rfl
                have l1 : wr.cell? ⟨Hn, 1, none⟩ = some (.slice ia n.items.length ic) := (Lib.cell_of_heap hl4 1).trans rfl
                have HD4 := PLift.up hd4
                have HL4 := PLift.up hl4
                clear hd4 hl4
                rcases hcase with ⟨rfl, hst⟩ | ⟨rfl, rfl⟩ | ⟨rfl, rfl⟩
                · have hst := hst.symm
                  subst hst
                  as_aux_lemma =>
                  go_wp2
                  go_loopw [6, 81] (fun ov iv wr => ∃ (i : Nat) (st : List Int × Bool), iv = .int .i64 i ∧ i ≤ n.keys.length ∧ ov = .bool st.2 ∧ st = (n.keys.take i).foldl (edgeB inn c) st3 ∧ DW w1 w1.heap.size sizes.length M vals st.1 wr ∧ wr.heap[Hn]? = some (.cells #[.slice ka n.keys.length kc, .slice ia n.items.length ic] 23)) (fun _ iv _ => n.keys.length - (intOf iv).toNat)
                  case atStart => exact ⟨0, _, rfl, Nat.zero_le _, rfl, rfl, HD4.down, HL4.down⟩
                  case round =>
                    as_aux_lemma =>
                    obtain ⟨i, st5, rfl, hi, rfl, hst5, hdw5, hlit5⟩ := hrel
                    have HS5 := PLift.up hst5
                    have HD5 := PLift.up hdw5
                    have HL5 := PLift.up hlit5
                    clear hst5 hdw5 hlit5
                    by_cases hil : i < n.keys.length
                    · have hil2 : (i : Int) < (n.keys.length : Int) := by omega
                      have hx := HRN.down.1 n.keys[i] (List.getElem_mem hil)
                      rcases HKC.down with hnil | ⟨lb, lo, rfl, hcells⟩
                      · exfalso; rw [hnil] at hil; exact Nat.not_lt_zero _ hil
                      have hc1 := cell_keep (HB1.down.trans (HD5.down.below.mono HB1.down.size)) (hcells i n.keys[i] (List.getElem?_eq_getElem hil))
                      have HTK : PLift ((n.keys.take (i + 1)).foldl (edgeB inn c) st3 = edgeB inn c st5 n.keys[i]) := ⟨by rw [List.take_succ_eq_append_getElem hil, List.foldl_append, ← HS5.down]; rfl⟩
                      generalize n.keys[i] = x at hx hc1 HTK
                      obtain ⟨q, rfl⟩ := Int.eq_ofNat_of_zero_le hx.1
                      have hq : q < N.length := by have := hx.2; omega
                      have hq2 : (q : Int) < (N.length : Int) := hx.2
                      have hqi : q < inn.length := by rw [HIL.down]; exact hq
                      have ci : wr.cell? ⟨b5, q, none⟩ = some (.int .i64 (inn.getD q 0)) := cell_keep HD5.down.below (int_row HIR.down hqi)
                      have hy := HIN.down (inn.getD q 0) (by rw [List.getD_eq_getElem?_getD, List.getElem?_eq_getElem hqi]; exact List.getElem_mem hqi)
                      have HED : PLift (edgeB inn c st5 (q : Int) = if inn.getD q 0 = (c : Int) then (st5.1, false) else (st5.1.set c (max (st5.1.getD c 0) (st5.1.getD (inn.getD q 0).toNat 0)), st5.2)) := ⟨rfl⟩
                      generalize inn.getD q 0 = yy at ci hy HED
                      obtain ⟨y, rfl⟩ := Int.eq_ofNat_of_zero_le hy.1
                      have hyl : y < sizes.length := by have := hy.2; omega
                      have hyl2 : (y : Int) < (sizes.length : Int) := hy.2
                      simp only [Int.toNat_natCast] at HED
                      have HCELLS := PLift.up hcells
                      clear hcells hx hy
                      by_cases hyc : (y : Int) = (c : Int)
                      · have hyc2 : ((y : Int) == (c : Int)) = true := by simpa using hyc
                        rw [if_pos hyc] at HED
                        clear hyc
                        as_aux_lemma =>
                        go_wp2
                        go_roundw
                        case rel => exact ⟨i + 1, (st5.1, false), by go_num, by omega, rfl, by rw [HTK.down, HED.down], HD5.down, HL5.down⟩
                        case measure => simp [intOf]; omega
                      · have hyc2 : ((y : Int) == (c : Int)) = false := by simpa using hyc
                        rw [if_neg hyc] at HED
                        have d1 : wr.cell? ⟨w1.heap.size, c, none⟩ = some (.int .i64 (st5.1.getD c 0)) := int_row HD5.down.brow (by rw [HD5.down.bl]; exact hcl)
                        have d2 : wr.cell? ⟨w1.heap.size, y, none⟩ = some (.int .i64 (st5.1.getD y 0)) := int_row HD5.down.brow (by rw [HD5.down.bl]; exact hyl)
                        have df : ∀ o, wr.frozen? ⟨w1.heap.size, o, none⟩ = false := fun o => Lib.frozen_of_heap HD5.down.brow o
                        have HD6 := PLift.up ((HD5.down.setB c (max (st5.1.getD c 0) (st5.1.getD y 0))).drew)
                        generalize st5.1.getD c 0 = z1 at d1 HD6 HED
                        generalize st5.1.getD y 0 = z2 at d2 HD6 HED
                        clear hyc
                        as_aux_lemma =>
                        go_upto_region 24 with fail
                        go_region
                        go_wp2
                        go_roundw
                        case rel => exact ⟨i + 1, (st5.1.set c (max z1 z2), st5.2), by go_num, by omega, rfl, by rw [HTK.down, HED.down], HD6.down, by show (wr.setCell _ _).heap[Hn]? = _; rw [set_far _ (by have := HHN.down; omega)]; exact HL5.down⟩
                        case measure => simp [intOf]; omega
                    · obtain rfl : i = n.keys.length := by omega
                      have HE5 : PLift (st5 = n.keys.foldl (edgeB inn c) st3) := ⟨by rw [HS5.down, List.take_length]⟩
                      as_aux_lemma =>
                      go_wp2
                      go_roundw
                      case rel => exact ⟨st5, rfl, .inr (.inl ⟨rfl, HE5.down⟩), HD5.down, HL5.down⟩
                      case measure => decide
                · as_aux_lemma =>
                  go_wp2
                  go_loopw [6, 81] (fun ov iv wr => ∃ (i : Nat) (st : List Int × Bool), iv = .int .i64 i ∧ i ≤ n.items.length ∧ ov = .bool st.2 ∧ st = (n.items.take i).foldl (edgeB inn c) (n.keys.foldl (edgeB inn c) st3) ∧ DW w1 w1.heap.size sizes.length M vals st.1 wr ∧ wr.heap[Hn]? = some (.cells #[.slice ka n.keys.length kc, .slice ia n.items.length ic] 23)) (fun _ iv _ => n.items.length - (intOf iv).toNat)
                  case atStart => exact ⟨0, _, rfl, Nat.zero_le _, rfl, rfl, HD4.down, HL4.down⟩
                  case round =>
                    as_aux_lemma =>
                    obtain ⟨i, st5, rfl, hi, rfl, hst5, hdw5, hlit5⟩ := hrel
                    have HS5 := PLift.up hst5
                    have HD5 := PLift.up hdw5
                    have HL5 := PLift.up hlit5
                    clear hst5 hdw5 hlit5
                    by_cases hil : i < n.items.length
                    · have hil2 : (i : Int) < (n.items.length : Int) := by omega
                      have hx := HRN.down.2 n.items[i] (List.getElem_mem hil)
                      rcases HIC.down with hnil | ⟨lb, lo, rfl, hcells⟩
                      · exfalso; rw [hnil] at hil; exact Nat.not_lt_zero _ hil
                      have hc1 := cell_keep (HB1.down.trans (HD5.down.below.mono HB1.down.size)) (hcells i n.items[i] (List.getElem?_eq_getElem hil))
                      have HTK : PLift ((n.items.take (i + 1)).foldl (edgeB inn c) (n.keys.foldl (edgeB inn c) st3) = edgeB inn c st5 n.items[i]) := ⟨by rw [List.take_succ_eq_append_getElem hil, List.foldl_append, ← HS5.down]; rfl⟩
                      generalize n.items[i] = x at hx hc1 HTK
                      obtain ⟨q, rfl⟩ := Int.eq_ofNat_of_zero_le hx.1
                      have hq : q < N.length := by have := hx.2; omega
                      have hq2 : (q : Int) < (N.length : Int) := hx.2
                      have hqi : q < inn.length := by rw [HIL.down]; exact hq
                      have ci : wr.cell? ⟨b5, q, none⟩ = some (.int .i64 (inn.getD q 0)) := cell_keep HD5.down.below (int_row HIR.down hqi)
                      have hy := HIN.down (inn.getD q 0) (by rw [List.getD_eq_getElem?_getD, List.getElem?_eq_getElem hqi]; exact List.getElem_mem hqi)
                      have HED : PLift (edgeB inn c st5 (q : Int) = if inn.getD q 0 = (c : Int) then (st5.1, false) else (st5.1.set c (max (st5.1.getD c 0) (st5.1.getD (inn.getD q 0).toNat 0)), st5.2)) := ⟨rfl⟩
                      generalize inn.getD q 0 = yy at ci hy HED
                      obtain ⟨y, rfl⟩ := Int.eq_ofNat_of_zero_le hy.1
                      have hyl : y < sizes.length := by have := hy.2; omega
                      have hyl2 : (y : Int) < (sizes.length : Int) := hy.2
                      simp only [Int.toNat_natCast] at HED
                      have HCELLS := PLift.up hcells
                      clear hcells hx hy
                      by_cases hyc : (y : Int) = (c : Int)
                      · have hyc2 : ((y : Int) == (c : Int)) = true := by simpa using hyc
                        rw [if_pos hyc] at HED
                        clear hyc
                        as_aux_lemma =>
                        go_wp2
                        go_roundw
                        case rel => exact ⟨i + 1, (st5.1, false), by go_num, by omega, rfl, by rw [HTK.down, HED.down], HD5.down, HL5.down⟩
                        case measure => simp [intOf]; omega
                      · have hyc2 : ((y : Int) == (c : Int)) = false := by simpa using hyc
                        rw [if_neg hyc] at HED
                        have d1 : wr.cell? ⟨w1.heap.size, c, none⟩ = some (.int .i64 (st5.1.getD c 0)) := int_row HD5.down.brow (by rw [HD5.down.bl]; exact hcl)
                        have d2 : wr.cell? ⟨w1.heap.size, y, none⟩ = some (.int .i64 (st5.1.getD y 0)) := int_row HD5.down.brow (by rw [HD5.down.bl]; exact hyl)
                        have df : ∀ o, wr.frozen? ⟨w1.heap.size, o, none⟩ = false := fun o => Lib.frozen_of_heap HD5.down.brow o
                        have HD6 := PLift.up ((HD5.down.setB c (max (st5.1.getD c 0) (st5.1.getD y 0))).drew)
                        generalize st5.1.getD c 0 = z1 at d1 HD6 HED
                        generalize st5.1.getD y 0 = z2 at d2 HD6 HED
                        clear hyc
                        as_aux_lemma =>
                        go_upto_region 24 with fail
                        go_region
                        go_wp2
                        go_roundw
                        case rel => exact ⟨i + 1, (st5.1.set c (max z1 z2), st5.2), by go_num, by omega, rfl, by rw [HTK.down, HED.down], HD6.down, by show (wr.setCell _ _).heap[Hn]? = _; rw [set_far _ (by have := HHN.down; omega)]; exact HL5.down⟩
                        case measure => simp [intOf]; omega
                    · obtain rfl : i = n.items.length := by omega
                      have HE5 : PLift (st5 = n.items.foldl (edgeB inn c) (n.keys.foldl (edgeB inn c) st3)) := ⟨by rw [HS5.down, List.take_length]⟩
                      as_aux_lemma =>
                      go_wp2
                      go_roundw
                      case rel => exact ⟨st5, rfl, .inr (.inr ⟨rfl, HE5.down⟩), HD5.down, HL5.down⟩
                      case measure => decide
                · as_aux_lemma =>
                  go_wp2
                  go_roundw
                  case rel => exact ⟨k + 1, _, by go_num, by omega, rfl, HT3.down.symm, HD4.down⟩
                  case measure => simp [intOf]; omega
            · obtain rfl : k = L.length := by omega
              have HE3 : PLift (st3 = L.foldl (nodeB N inn c) st2) := ⟨by rw [HS3.down, List.take_length]⟩
              have hsr := HZO.down
              obtain ⟨gz, czz, hgz, -⟩ := own_full hsr (by omega)
              injection hgz with hA _ hcc
              subst hA hcc
              have cz1 : w1.cell? ⟨gz, c, none⟩ = some (.int .i64 (sizes.getD c 0)) := own_cell hsr (by rw [List.getElem?_map, List.getElem?_eq_getElem hcl, List.getD_eq_getElem?_getD, List.getElem?_eq_getElem hcl]; rfl)
              have cz2 := cell_keep HD3.down.below cz1
              have d1 : wr.cell? ⟨w1.heap.size, c, none⟩ = some (.int .i64 (st3.1.getD c 0)) := int_row HD3.down.brow (by rw [HD3.down.bl]; exact hcl)
              have df : ∀ o, wr.frozen? ⟨w1.heap.size, o, none⟩ = false := fun o => Lib.frozen_of_heap HD3.down.brow o
              have HD6 := PLift.up ((HD3.down.setB c (wrap64 (st3.1.getD c 0 + sizes.getD c 0))).drew)
              have HC2 : PLift ((List.range (c + 1)).foldl (compB N inn M sizes) (List.replicate sizes.length 0, true) = (st3.1.set c (wrap64 (st3.1.getD c 0 + sizes.getD c 0)), st3.2)) := by
                refine ⟨?_⟩
                rw [List.range_succ, List.foldl_append, ← HS2.down]
                show compB N inn M sizes st2 c = _
                unfold compB
                rw [HL.down, ← HE3.down]
              generalize st3.1.getD c 0 = z1 at d1 HD6 HC2
              generalize sizes.getD c 0 = z2 at cz1 cz2 HD6 HC2
              clear cz1 hsr
              as_aux_lemma =>
              go_upto_region 28 with fail
              go_region
              go_wp2
              go_roundw
              case rel => exact ⟨c + 1, (st3.1.set c (wrap64 (z1 + z2)), st3.2), by go_num, by omega, rfl, HC2.down.symm, HD6.down⟩
              case measure => simp [intOf]; omega
        · obtain rfl : c = sizes.length := by omega
          have hri : root < inn.length := by rw [HIL.down]; exact hroot
          have ci : wr.cell? ⟨b5, root, none⟩ = some (.int .i64 (inn.getD root 0)) := cell_keep HD2.down.below (int_row HIR.down hri)
          have hy := HIN.down (inn.getD root 0) (by rw [List.getD_eq_getElem?_getD, List.getElem?_eq_getElem hri]; exact List.getElem_mem hri)
          have HF : PLift (depthF N root inn sizes = (wrap64 (st2.1.getD (inn.getD root 0).toNat 0 - 1), st2.2)) := ⟨by unfold depthF; rw [← HM2.down, ← HS2.down]⟩
          generalize inn.getD root 0 = yy at ci hy HF
          obtain ⟨y, rfl⟩ := Int.eq_ofNat_of_zero_le hy.1
          have hyl : y < sizes.length := by have := hy.2; omega
          have hyl2 : (y : Int) < (sizes.length : Int) := hy.2
          simp only [Int.toNat_natCast] at HF
          have d2 : wr.cell? ⟨w1.heap.size, y, none⟩ = some (.int .i64 (st2.1.getD y 0)) := int_row HD2.down.brow (by rw [HD2.down.bl]; exact hyl)
          have q1 : wr.cell? ⟨w.heap.size, 1, none⟩ = some (.int .i64 root) := by
            rw [World.cell?_of_block (HD2.down.below.block _ (block_lt HBX.down)), Lib.cell_of_heap HBX.down]; rfl
          generalize st2.1.getD y 0 = z2 at d2 HF
          clear hy
          as_aux_lemma =>
          go_wp2
          refine bodyPost_ret (v := .tuple #[.int .i64 (wrap64 (z2 - 1)), .bool st2.2]) (by simp only [results, Tryz.results74]; go_simp) rfl ?_
          exact ⟨by rw [HF.down], HB1.down.trans (HD2.down.below.mono HB1.down.size)⟩
end Go.Proofs.YtcipjifpigpfdaaGreatDoor
/- graph.Check: a graph that fits is accepted (where the keys of each map differ in kind or text). -/
namespace Go.Proofs.YtcipjifpigpfdaaGreatDoor
open Go.RowKit
open Go.Lib hiding intOf
theorem cntN_len (n : Nd) (C : List Int) : (cntN C n).length = C.length := by unfold cntN; rw [incrs_len, incrs_len]
theorem cntF_len (N : List Nd) (root : Int) : (cntF N root).length = N.length := by
  unfold cntF
  have h : ∀ (l : List Nd) (C : List Int), (l.foldl cntN C).length = C.length := by
    intro l
    induction l with
    | nil => intro C; rfl
    | cons n l ih => intro C; rw [List.foldl_cons, ih, cntN_len]
  rw [h, incr_len, List.length_replicate]
/-- a graph that graph.Check accepts -/
structure Good (sc : Int → ByteArray → Bool) (N : List Nd) (root : Nat) (inn sizes : List Int) : Prop where
  few : N.length ≤ 4096
  rt : root < N.length
  rng : InRange N
  all : ∀ i, i < N.length → (visitF N (N.length + 1) root (List.replicate N.length false)).getD i false = true
  scal : ∀ n ∈ N, ScalarAt sc n.kind n.text
  form : ∀ n ∈ N, formF sc n = true
  fit : NdFit N
  once : ∀ i, i < N.length → (inkF N).getD i false = true → (cntF N root).getD i 0 = 1
  clash : NoClash N
  comp : compT N root = some (inn, sizes)
  ir : ∀ x ∈ inn, 0 ≤ x ∧ x < (sizes.length : Int)
  fewc : sizes.length ≤ 4096
  deep : (depthF N root inn sizes).1 ≤ 32
theorem Good.idx {sc : Int → ByteArray → Bool} {N : List Nd} {root : Nat} {inn sizes : List Int} (h : Good sc N root inn sizes) : idxOk N root = true := by
  have hr := h.rt
  unfold idxOk refsOk
  simp only [Bool.and_eq_true, decide_eq_true_eq, List.all_eq_true]
  exact ⟨⟨by omega, by omega⟩, fun n hn => ⟨(h.rng n hn).1, (h.rng n hn).2⟩⟩
theorem inkN_len (N : List Nd) (n : Nd) (M : List Bool) : (inkN N M n).length = M.length := by
  unfold inkN
  have h : ∀ (l : List Int) (M : List Bool), (l.foldl (fun M x => visitF N (N.length + 1) x.toNat M) M).length = M.length := by
    intro l
    induction l with
    | nil => intro M; rfl
    | cons x l ih => intro M; rw [List.foldl_cons, ih, (visit_len N _ _ _).1]
  exact h _ _
theorem inkF_len (N : List Nd) : (inkF N).length = N.length := by
  unfold inkF
  have h : ∀ (l : List Nd) (M : List Bool), (l.foldl (inkN N) M).length = M.length := by
    intro l
    induction l with
    | nil => intro M; rfl
    | cons n l ih => intro M; rw [List.foldl_cons, ih, inkN_len]
  rw [h, List.length_replicate]
set_option maxHeartbeats 4000000 in
set_option maxRecDepth 100000 in
theorem check_ok (sc : Int → ByteArray → Bool) (w : World) (v : Value) (root : Nat) (N : List Nd) (inn sizes : List Int) (hN : NodesAt w v N) (hG : Good sc N root inn sizes) (hE : Tabs w) :
    Calls Tryz.prog 37 #[.agg #[v, .int .i64 root]] w fun e w' => e = .returned (.int .i64 0) ∧ Below w.heap.size w w' := by
  have HG := PLift.up hG
  have HE := PLift.up hE
  have hn := hG.few
  have hpos : 0 < N.length := Nat.lt_of_le_of_lt (Nat.zero_le _) hG.rt
  have hN0 : NodesAt (w.alloc (.cells #[v, .int .i64 root] 28)) v N := hN.below (below_new w _)
  have HI := PLift.up (indices_any _ v N root hN0)
  have HN0 := PLift.up hN0
  obtain ⟨va, vc, rfl, hvl, hvn⟩ := hN
  rcases hvn with hnil | ⟨b, o, rfl, hall⟩
  · exfalso; rw [hnil] at hpos; exact Nat.not_lt_zero _ hpos
  have HALL := PLift.up hall
  have HW0 : PLift ((w.alloc (.cells #[.slice (some ⟨b, o, none⟩) N.length vc, .int .i64 root] 28)).heap[w.heap.size]? = some (.cells #[.slice (some ⟨b, o, none⟩) N.length vc, .int .i64 root] 28)) := ⟨heap_alloc_new w _⟩
  have HB0 : PLift (Below w.heap.size w (w.alloc (.cells #[.slice (some ⟨b, o, none⟩) N.length vc, .int .i64 root] 28))) := ⟨below_new w _⟩
  have HS0 : PLift ((w.alloc (.cells #[.slice (some ⟨b, o, none⟩) N.length vc, .int .i64 root] 28)).heap.size = w.heap.size + 1) := ⟨size_new _ _⟩
  have h1 : ((N.length : Int) == 0) = false := by simp only [beq_eq_false_iff_ne, ne_eq]; omega
  have hix := hG.idx
  rw [hix] at HI
  have hmk : ∀ wx : World, (Instr.makeSlice 90 (.int .i64 (N.length : Int)) (.int .i64 (N.length : Int))).run Tryz.prog wx = .ok (.slice (some ⟨wx.heap.size, 0, none⟩) N.length N.length) (wx.alloc (.cells (Array.replicate N.length (.bool false)) 4)) := fun wx => by
    rw [run_make_row' 90 4 (.bool false) 1 Tryz.underlying90 info_bool0 rfl .i64 .i64 N.length (by omega) (by omega) wx, made_rep]
  clear hG hN0 hall hix hE
  as_aux_lemma =>
  go_enter Tryz.func37, Tryz.ntmps37
  as_aux_lemma =>
  go_upto_region 5 with (go_at_call 68; refine (HI.down).mono ?_; rintro e w1 ⟨rfl, hb1⟩; have HB1 := PLift.up hb1; have hx1 : w1.heap[w.heap.size]? = some (.cells #[.slice (some ⟨b, o, none⟩) N.length vc, .int .i64 root] 28) := by { rw [hb1.block _ (by have := HS0.down; omega)]; exact HW0.down }; have HX1 := PLift.up hx1; have k1 : w1.cell? ⟨w.heap.size, 0, none⟩ = some (.slice (some ⟨b, o, none⟩) N.length vc) := (Lib.cell_of_heap hx1 0).trans rfl; clear hb1 hx1)
  as_aux_lemma =>
  go_upto_region 6 with fail
  have HN1 := PLift.up (HN0.down.below HB1.down)
  have hsz2 : (w1.alloc (.cells (Array.replicate N.length (.bool false)) 4)).heap.size = w1.heap.size + 1 := size_new _ _
  have hrow2 : (w1.alloc (.cells (Array.replicate N.length (.bool false)) 4)).heap[w1.heap.size]? = some (.cells ((List.replicate N.length false).map Value.bool).toArray 4) := by
    rw [heap_alloc_new]; simp
  have hb2 : Below w1.heap.size w1 (w1.alloc (.cells (Array.replicate N.length (.bool false)) 4)) := below_new _ _
  have HX2 : PLift ((w1.alloc (.cells (Array.replicate N.length (.bool false)) 4)).heap[w.heap.size]? = some (.cells #[.slice (some ⟨b, o, none⟩) N.length vc, .int .i64 root] 28)) := ⟨by rw [Lib.alloc_old _ _ _ (block_lt HX1.down)]; exact HX1.down⟩
  have HRE := PLift.up (reached_any w1 (w1.alloc (.cells (Array.replicate N.length (.bool false)) 4)) (.slice (some ⟨b, o, none⟩) N.length vc) N root root w1.heap.size (List.replicate N.length false) HN1.down HG.down.rng hb2 (Nat.le_refl _) (by simp) hrow2 HG.down.rt)
  have HS2 := PLift.up hsz2
  have HB2 := PLift.up hb2
  clear hsz2 hrow2 hb2 k1 hmk
  generalize w1.alloc (.cells (Array.replicate N.length (.bool false)) 4) = W2 at HX2 HRE HS2 HB2 ⊢
  have k0 : W2.cell? ⟨w.heap.size, 0, none⟩ = some (.slice (some ⟨b, o, none⟩) N.length vc) := (Lib.cell_of_heap HX2.down 0).trans rfl
  have k1 : W2.cell? ⟨w.heap.size, 1, none⟩ = some (.int .i64 root) := (Lib.cell_of_heap HX2.down 1).trans rfl
  as_aux_lemma =>
  go_upto_region 7 with (go_at_call 69; refine (HRE.down).mono ?_; rintro e w3 ⟨rfl, hg3, hm3⟩; have HG3 := PLift.up hg3; have HM3 := PLift.up hm3; clear hg3 hm3)
  clear k0 k1
  have hws : w.heap.size < w1.heap.size := block_lt HX1.down
  have HX3 : PLift (w3.heap[w.heap.size]? = some (.cells #[.slice (some ⟨b, o, none⟩) N.length vc, .int .i64 root] 28)) := ⟨by rw [HG3.down.block _ (by have := HS2.down; omega) (by intro e; injection e with e; omega)]; exact HX2.down⟩
  have HB3 : PLift (Below w1.heap.size w1 w3) := ⟨HB2.down.grown HG3.down (by have := HS2.down; omega) (fun k hk => by injection hk with hk; omega)⟩
  have HN3 := PLift.up (HN1.down.below HB3.down)
  have k0 : w3.cell? ⟨w.heap.size, 0, none⟩ = some (.slice (some ⟨b, o, none⟩) N.length vc) := (Lib.cell_of_heap HX3.down 0).trans rfl
  clear hws
  as_aux_lemma =>
  go_wp2
  have HBW3 : PLift (Below w.heap.size w w3) := ⟨(HB0.down.trans (HB1.down.mono (by have := HS0.down; omega))).trans (HB3.down.mono (Nat.le_trans (Nat.le_trans (by have := HS0.down; omega) HB1.down.size) (Nat.le_refl _)))⟩
  have HMR : PLift (∀ i, i < N.length → w3.cell? ⟨w1.heap.size, i, none⟩ = some (.bool true)) := ⟨fun i hi => by rw [bool_row HM3.down (by rw [(visit_len N _ _ _).1]; simpa using hi), HG.down.all i hi]⟩
  clear k0
  go_loopw [36] (fun iv wr => ∃ i : Nat, iv = .int .i64 i ∧ i ≤ N.length ∧ Below w3.heap.size w3 wr) (fun iv _ => N.length - (intOf iv).toNat)
  case atStart => exact ⟨0, rfl, Nat.zero_le _, Below.refl _ _⟩
  case round =>
    as_aux_lemma =>
    obtain ⟨i, rfl, hi, hbr⟩ := hrel
    have HBR := PLift.up hbr
    clear hbr
    by_cases hil : i < N.length
    · have hil2 : (i : Int) < (N.length : Int) := by omega
      have km := cell_keep HBR.down (HMR.down i hil)
      have km' := fun ob => cell_keep (below_new wr ob) km
      have hn0 := HALL.down i N[i] (List.getElem?_eq_getElem hil)
      have hfi := (HG.down.fit N[i] (List.getElem_mem hil)).2
      have hsc := HG.down.scal N[i] (List.getElem_mem hil)
      have hfo := HG.down.form N[i] (List.getElem_mem hil)
      generalize N[i] = n at hn0 hfi hsc hfo
      have hbel := HBW3.down.trans (HBR.down.mono HBW3.down.size)
      obtain ⟨kv, iv, m0, m1, m2, m3, m4, hkc, hic⟩ := hn0
      have c0 := cell_keep hbel m0
      have c1 := cell_keep hbel m1
      have c2 := cell_keep hbel m2
      have c3 := cell_keep hbel m3
      have c4 := cell_keep hbel m4
      have hbn := hbel.trans ((below_new wr (.cells #[.int .i64 n.kind, .string n.text, .bool n.ord, kv, iv] 25)).mono hbel.size)
      have HFO := PLift.up (form_any sc (wr.alloc (.cells #[.int .i64 n.kind, .string n.text, .bool n.ord, kv, iv] 25)) (.agg #[.int .i64 n.kind, .string n.text, .bool n.ord, kv, iv]) n ⟨kv, iv, rfl, hkc.below hbn, hic.below hbn⟩ hfi hsc (HE.down.below hbn))
      rw [hfo] at HFO
      obtain ⟨ka, kc, rfl, -, -⟩ := hkc
      obtain ⟨ia, ic, rfl, -, -⟩ := hic
      clear hbel m0 m1 m2 m3 m4 hbn hfi hsc hfo
      as_aux_lemma =>
      go_wp2_with (go_at_call 70; refine (HFO.down).mono ?_; rintro e w4 ⟨rfl, hb4⟩; have HB4 := PLift.up hb4; clear hb4)
      go_roundw
      case rel => exact ⟨i + 1, by go_num, by omega, (HBR.down.alloc HBR.down.size _).trans (HB4.down.mono (by rw [size_new]; have := HBR.down.size; omega))⟩
      case measure => simp [intOf]; omega
    · obtain rfl : i = N.length := by omega
      have HBB := PLift.up (HBW3.down.trans (HBR.down.mono HBW3.down.size))
      have HX4 : PLift (wr.heap[w.heap.size]? = some (.cells #[.slice (some ⟨b, o, none⟩) N.length vc, .int .i64 root] 28)) := ⟨by rw [HBR.down.block _ (block_lt HX3.down)]; exact HX3.down⟩
      have HN4 := PLift.up (HN3.down.below HBR.down)
      have HCO := PLift.up (counts_any wr (.slice (some ⟨b, o, none⟩) N.length vc) N root HN4.down HG.down.rng HG.down.rt hn)
      have k0 : wr.cell? ⟨w.heap.size, 0, none⟩ = some (.slice (some ⟨b, o, none⟩) N.length vc) := (Lib.cell_of_heap HX4.down 0).trans rfl
      have k1 : wr.cell? ⟨w.heap.size, 1, none⟩ = some (.int .i64 root) := (Lib.cell_of_heap HX4.down 1).trans rfl
      as_aux_lemma =>
      go_upto_region 14 with (go_at_call 71; refine (HCO.down).mono ?_; rintro e w5 ⟨rfl, hb5, hr5⟩; have HB5 := PLift.up hb5; have HR5 := PLift.up hr5; clear hb5 hr5)
      clear k0 k1
      have HX5 : PLift (w5.heap[w.heap.size]? = some (.cells #[.slice (some ⟨b, o, none⟩) N.length vc, .int .i64 root] 28)) := ⟨by rw [HB5.down.block _ (block_lt HX4.down)]; exact HX4.down⟩
      have HN5 := PLift.up (HN4.down.below HB5.down)
      have HIK := PLift.up (inKeys_any w5 (.slice (some ⟨b, o, none⟩) N.length vc) N root HN5.down HG.down.rng hn)
      have k0 : w5.cell? ⟨w.heap.size, 0, none⟩ = some (.slice (some ⟨b, o, none⟩) N.length vc) := (Lib.cell_of_heap HX5.down 0).trans rfl
      have k1 : w5.cell? ⟨w.heap.size, 1, none⟩ = some (.int .i64 root) := (Lib.cell_of_heap HX5.down 1).trans rfl
      as_aux_lemma =>
      go_wp2_with (go_at_call 72; refine (HIK.down).mono ?_; rintro e w6 ⟨rfl, hb6, hr6⟩; have HB6 := PLift.up hb6; have HR6 := PLift.up hr6; clear hb6 hr6)
      have HX6 : PLift (w6.heap[w.heap.size]? = some (.cells #[.slice (some ⟨b, o, none⟩) N.length vc, .int .i64 root] 28)) := ⟨by rw [HB6.down.block _ (block_lt HX5.down)]; exact HX5.down⟩
      have HN6 := PLift.up (HN5.down.below HB6.down)
      have HCR : PLift (∀ i, i < N.length → w6.cell? ⟨wr.heap.size + 1, i, none⟩ = some (.int .i64 ((cntF N root).getD i 0))) := ⟨fun i hi => cell_keep HB6.down (int_row HR5.down (by rw [cntF_len]; exact hi))⟩
      have HIR : PLift (∀ i, i < N.length → w6.cell? ⟨w5.heap.size + 1, i, none⟩ = some (.bool ((inkF N).getD i false))) := ⟨fun i hi => bool_row HR6.down (by rw [inkF_len]; exact hi)⟩
      have HB56 : PLift (Below w.heap.size w w6) := ⟨(HBB.down.trans (HB5.down.mono HBB.down.size)).trans (HB6.down.mono (Nat.le_trans HBB.down.size HB5.down.size))⟩
      clear k0 k1
      go_loopw [57] (fun iv wr => ∃ i : Nat, iv = .int .i64 i ∧ i ≤ N.length ∧ wr = w6) (fun iv _ => N.length - (intOf iv).toNat)
      case atStart => exact ⟨0, rfl, Nat.zero_le _, rfl⟩
      case round =>
        as_aux_lemma =>
        obtain ⟨i, rfl, hi, rfl⟩ := hrel
        by_cases hil : i < N.length
        · have hil2 : (i : Int) < (N.length : Int) := by omega
          have kc := HCR.down i hil
          have ki := HIR.down i hil
          have hon := HG.down.once i hil
          cases hk : (inkF N).getD i false with
          | false =>
            rw [hk] at ki
            clear hon hk
            as_aux_lemma =>
            go_wp2
            go_roundw
            case rel => exact ⟨i + 1, by go_num, by omega, trivial⟩
            case measure => simp [intOf]; omega
          | true =>
            rw [hk] at ki
            rw [hon hk] at kc
            clear hon hk
            as_aux_lemma =>
            go_wp2
            go_roundw
            case rel => exact ⟨i + 1, by go_num, by omega, trivial⟩
            case measure => simp [intOf]; omega
        · obtain rfl : i = N.length := by omega
          have HTW := PLift.up (twice_none _ (.slice (some ⟨b, o, none⟩) N.length vc) N root HN6.down HG.down.rng HG.down.fit HG.down.clash)
          have k0 := (Lib.cell_of_heap HX6.down 0).trans rfl
          have k1 := (Lib.cell_of_heap HX6.down 1).trans rfl
          as_aux_lemma =>
          go_upto_region 22 with (go_at_call 73; refine (HTW.down).mono ?_; rintro e w7 ⟨rfl, hb7⟩; have HB7 := PLift.up hb7; clear hb7)
          clear k0 k1
          have HX7 : PLift (w7.heap[w.heap.size]? = some (.cells #[.slice (some ⟨b, o, none⟩) N.length vc, .int .i64 root] 28)) := ⟨by rw [HB7.down.block _ (block_lt HX6.down)]; exact HX6.down⟩
          have HN7 := PLift.up (HN6.down.below HB7.down)
          have HDE := PLift.up (depth_any w7 (.slice (some ⟨b, o, none⟩) N.length vc) root N inn sizes HN7.down HG.down.rng hn HG.down.rt HG.down.comp HG.down.ir HG.down.fewc)
          have hdp := HG.down.deep
          generalize (depthF N root inn sizes).1 = dd at HDE hdp
          generalize (depthF N root inn sizes).2 = aa at HDE
          have k0 : w7.cell? ⟨w.heap.size, 0, none⟩ = some (.slice (some ⟨b, o, none⟩) N.length vc) := (Lib.cell_of_heap HX7.down 0).trans rfl
          have k1 : w7.cell? ⟨w.heap.size, 1, none⟩ = some (.int .i64 root) := (Lib.cell_of_heap HX7.down 1).trans rfl
          as_aux_lemma =>
          go_wp2_with (go_at_call 74; refine (HDE.down).mono ?_; rintro e w8 ⟨rfl, hb8⟩; have HB8 := PLift.up hb8; clear hb8)
          refine bodyPost_ret (v := .int .i64 0) (by simp only [results, Tryz.results37]; go_simp) rfl ?_
          exact ⟨rfl, (HB56.down.trans (HB7.down.mono HB56.down.size)).trans (HB8.down.mono (Nat.le_trans HB56.down.size HB7.down.size))⟩
end Go.Proofs.YtcipjifpigpfdaaGreatDoor
/- graph.Depth and canon.acyclic, of a graph that fits. -/
namespace Go.Proofs.YtcipjifpigpfdaaGreatDoor
open Go.RowKit
open Go.Lib hiding intOf
set_option maxHeartbeats 4000000 in
set_option maxRecDepth 100000 in
theorem gdepth_ok (sc : Int → ByteArray → Bool) (w : World) (v : Value) (root : Nat) (N : List Nd) (inn sizes : List Int) (hN : NodesAt w v N) (hG : Good sc N root inn sizes) (hE : Tabs w) :
    Calls Tryz.prog 38 #[.agg #[v, .int .i64 root]] w fun e w' => e = .returned (.tuple #[.int .i64 (depthF N root inn sizes).1, .bool (depthF N root inn sizes).2]) ∧ Below w.heap.size w w' := by
  have HG := PLift.up hG
  have hN0 : NodesAt (w.alloc (.cells #[v, .int .i64 root] 28)) v N := hN.below (below_new w _)
  have HC := PLift.up (check_ok sc _ v root N inn sizes hN0 hG (hE.below (below_new w _)))
  have HN0 := PLift.up hN0
  obtain ⟨va, vc, rfl, hvl, hvn⟩ := hN
  have HW0 : PLift ((w.alloc (.cells #[.slice va N.length vc, .int .i64 root] 28)).heap[w.heap.size]? = some (.cells #[.slice va N.length vc, .int .i64 root] 28)) := ⟨heap_alloc_new w _⟩
  have HB0 : PLift (Below w.heap.size w (w.alloc (.cells #[.slice va N.length vc, .int .i64 root] 28))) := ⟨below_new w _⟩
  clear hG hN0 hvn hE
  as_aux_lemma =>
  go_enter Tryz.func38, Tryz.ntmps38
  as_aux_lemma =>
  go_upto_region 3 with (go_at_call 37; refine (HC.down).mono ?_; rintro e w1 ⟨rfl, hb1⟩; have HB1 := PLift.up hb1; clear hb1)
  have HX1 : PLift (w1.heap[w.heap.size]? = some (.cells #[.slice va N.length vc, .int .i64 root] 28)) := ⟨by rw [HB1.down.block _ (block_lt HW0.down)]; exact HW0.down⟩
  have HN1 := PLift.up (HN0.down.below HB1.down)
  have HDE := PLift.up (depth_any w1 (.slice va N.length vc) root N inn sizes HN1.down HG.down.rng HG.down.few HG.down.rt HG.down.comp HG.down.ir HG.down.fewc)
  obtain ⟨dd, hdd⟩ : ∃ dd, (depthF N root inn sizes).1 = dd := ⟨_, rfl⟩
  obtain ⟨aa, haa⟩ : ∃ aa, (depthF N root inn sizes).2 = aa := ⟨_, rfl⟩
  rw [hdd, haa] at HDE
  have HDD := PLift.up hdd
  have HAA := PLift.up haa
  clear hdd haa
  have k0 : w1.cell? ⟨w.heap.size, 0, none⟩ = some (.slice va N.length vc) := (Lib.cell_of_heap HX1.down 0).trans rfl
  have k1 : w1.cell? ⟨w.heap.size, 1, none⟩ = some (.int .i64 root) := (Lib.cell_of_heap HX1.down 1).trans rfl
  as_aux_lemma =>
  go_wp2_with (go_at_call 74; refine (HDE.down).mono ?_; rintro e w8 ⟨rfl, hb8⟩; have HB8 := PLift.up hb8; clear hb8)
  refine bodyPost_ret (v := .tuple #[.int .i64 dd, .bool aa]) (by simp only [results, Tryz.results38]; go_simp) rfl ?_
  exact ⟨by rw [HDD.down, HAA.down], (HB0.down.trans (HB1.down.mono HB0.down.size)).trans (HB8.down.mono (Nat.le_trans HB0.down.size HB1.down.size))⟩
end Go.Proofs.YtcipjifpigpfdaaGreatDoor
/- share.Labels and share.Tree of a tree; tableout.valid. -/
namespace Go.Proofs.YtcipjifpigpfdaaGreatDoor
open Go.RowKit
open Go.Lib hiding intOf
/-- a graph that Check accepts, without cycles, whose nodes have at most one reference by items -/
structure TreeN (sc : Int → ByteArray → Bool) (N : List Nd) (root : Nat) (inn sizes : List Int) (rank : Nat → Nat) : Prop where
  good : Good sc N root inn sizes
  flat : (depthF N root inn sizes).2 = true
  rank : Ranked N rank
  one : ∀ i, i < N.length → (cntSF N root).getD i 0 ≤ 1
theorem incr_len' (N : List Nd) (root : Int) : (cntSF N root).length = N.length := by
  unfold cntSF
  have h : ∀ (l : List Nd) (C : List Int), (l.foldl cntS C).length = C.length := by
    intro l
    induction l with
    | nil => intro C; rfl
    | cons n l ih => intro C; rw [List.foldl_cons, ih]; unfold cntS; exact incrs_len _ _
  rw [h, incr_len]; simp
set_option maxHeartbeats 4000000 in
set_option maxRecDepth 100000 in
theorem labels_tree (sc : Int → ByteArray → Bool) (w : World) (v : Value) (root : Nat) (N : List Nd) (inn sizes : List Int) (rank : Nat → Nat) (hN : NodesAt w v N) (hT : TreeN sc N root inn sizes rank) (hE : Tabs w) :
    Calls Tryz.prog 75 #[.agg #[v, .int .i64 root]] w fun e w' => e = .returned (.slice none 0 0) ∧ Below w.heap.size w w' := by
  have hN0 : NodesAt (w.alloc (.cells #[v, .int .i64 root] 28)) v N := hN.below (below_new w _)
  have HCK := PLift.up (check_ok sc (w.alloc (.cells #[v, .int .i64 root] 28)) v root N inn sizes hN0 hT.good (hE.below (below_new w _)))
  have HN := PLift.up hN
  have HT := PLift.up hT
  have HBX := PLift.up (heap_alloc_new w (.cells #[v, .int .i64 root] 28))
  have HB0 := PLift.up (below_new w (.cells #[v, .int .i64 root] 28))
  obtain ⟨va, vc, rfl, hvl, hvn⟩ := hN
  clear hN0 hT hvl hvn hE
  go_enter Tryz.func75, Tryz.ntmps75
  go_upto_region 3 with (first
    | (go_at_call 37; refine HCK.down.mono ?_; rintro e w1 ⟨rfl, hb1⟩; have HB1 := PLift.up hb1; clear hb1))
  have HBW1 := PLift.up (HB0.down.trans (HB1.down.mono HB0.down.size))
  have bx1 : w1.heap[w.heap.size]? = some (.cells #[.slice va N.length vc, .int .i64 root] 28) := by rw [HB1.down.block _ (block_lt HBX.down)]; exact HBX.down
  have HBX1 := PLift.up bx1
  have c0 : w1.cell? ⟨w.heap.size, 0, none⟩ = some (.slice va N.length vc) := (Lib.cell_of_heap bx1 0).trans rfl
  have c1 : w1.cell? ⟨w.heap.size, 1, none⟩ = some (.int .i64 root) := (Lib.cell_of_heap bx1 1).trans rfl
  have HO := PLift.up (order_ranked w1 _ root N rank (HN.down.below HBW1.down) HT.down.rank HT.down.good.rt)
  clear bx1 HCK HB1
  go_upto_region 4 with (first
    | (go_at_call 121; refine HO.down.mono ?_; rintro e w2 ⟨ov, ev, L, rfl, hb2, hown2, hrg2, hll2⟩; have HB2 := PLift.up hb2; have HOW2 := PLift.up hown2; have HRG2 := PLift.up hrg2; have HLL := PLift.up hll2; clear hb2 hown2 hrg2 hll2))
  obtain ⟨oa, oc, rfl⟩ := own_shape HOW2.down
  have HBW2 := PLift.up (HBW1.down.trans (HB2.down.mono HBW1.down.size))
  have bx2 : w2.heap[w.heap.size]? = some (.cells #[.slice va N.length vc, .int .i64 root] 28) := by rw [HB2.down.block _ (block_lt HBX1.down)]; exact HBX1.down
  have c0 : w2.cell? ⟨w.heap.size, 0, none⟩ = some (.slice va N.length vc) := (Lib.cell_of_heap bx2 0).trans rfl
  have c1 : w2.cell? ⟨w.heap.size, 1, none⟩ = some (.int .i64 root) := (Lib.cell_of_heap bx2 1).trans rfl
  have HCS := PLift.up (scounts_any w2 _ N root (HN.down.below HBW2.down) HT.down.good.rng HT.down.good.rt HT.down.good.few)
  clear bx2 HO
  go_upto_region 6 with (first
    | (go_at_call 122; refine HCS.down.mono ?_; rintro e w3 ⟨rfl, hb3, hrow3⟩; have HB3 := PLift.up hb3; have HROW3 := PLift.up hrow3; clear hb3 hrow3))
  have HBW3 := PLift.up (HBW2.down.trans (HB3.down.mono HBW2.down.size))
  have hll := HLL.down
  clear c0 c1 HCS
  go_wp2
  go_loop [6, 21] (fun ov iv => ∃ i : Nat, i ≤ L.length ∧ iv = .int .i64 i ∧ ov = .slice none 0 0) (fun _ iv => L.length - (intOf iv).toNat)
  case atStart => exact ⟨0, Nat.zero_le _, rfl, rfl⟩
  case round =>
    obtain ⟨i, hi, rfl, rfl⟩ := hrel
    by_cases hil : i < L.length
    · have hil2 : (i : Int) < (L.length : Int) := by omega
      obtain ⟨g, c, hv, -, -⟩ := own_full HOW2.down (by omega)
      injection hv with hv1 hv2 hv3
      subst hv1
      have hx := own_cell HOW2.down (k := i) (u := .int .i64 L[i]) (by simp [hil])
      have hx := cell_keep HB3.down hx
      obtain ⟨h0, h1⟩ := HRG2.down L[i] (List.getElem_mem hil)
      obtain ⟨k, hk⟩ := Int.eq_ofNat_of_zero_le h0
      rw [hk] at hx h1
      have hkN : k < N.length := by omega
      have hck : w3.cell? ⟨w2.heap.size + 1, k, none⟩ = some (.int .i64 ((cntSF N root).getD k 0)) := int_row HROW3.down (by rw [incr_len']; exact hkN)
      have h1c := HT.down.one k hkN
      generalize (cntSF N root).getD k 0 = y at hck h1c
      have h1d : ¬ 1 < y := by omega
      clear hk hv2 hv3 h0 h1c
      go_wp2
      go_round
      case rel => exact ⟨i + 1, by omega, by go_num, rfl⟩
      case measure => simp [intOf]; omega
    · obtain rfl : i = L.length := by omega
      go_wp2
      go_ret
      exact ⟨rfl, HBW3.down⟩
set_option maxHeartbeats 4000000 in
set_option maxRecDepth 100000 in
theorem tree_tree (sc : Int → ByteArray → Bool) (w : World) (v : Value) (root : Nat) (N : List Nd) (inn sizes : List Int) (rank : Nat → Nat) (hN : NodesAt w v N) (hT : TreeN sc N root inn sizes rank) (hE : Tabs w) :
    Calls Tryz.prog 39 #[.agg #[v, .int .i64 root]] w fun e w' => e = .returned (.bool true) ∧ Below w.heap.size w w' := by
  have HC := PLift.up (fun (W : World) (hb : Below w.heap.size w W) => check_ok sc W v root N inn sizes (hN.below hb) hT.good (hE.below hb))
  have HL := PLift.up (fun (W : World) (hb : Below w.heap.size w W) => labels_tree sc W v root N inn sizes rank (hN.below hb) hT (hE.below hb))
  have HBX := PLift.up (heap_alloc_new w (.cells #[v, .int .i64 root] 28))
  have HB0 := PLift.up (below_new w (.cells #[v, .int .i64 root] 28))
  obtain ⟨va, vc, rfl, -, -⟩ := hN
  clear hT hE
  go_enter Tryz.func39, Tryz.ntmps39
  go_wp2_with (first
    | (go_at_call 37; refine (HC.down _ HB0.down).mono ?_; rintro e w1 ⟨rfl, hb1⟩; have HB1 := PLift.up (HB0.down.trans (hb1.mono HB0.down.size)); have bx1 := (hb1.block _ (block_lt HBX.down)).trans HBX.down; have c0 : w1.cell? ⟨w.heap.size, 0, none⟩ = some (.slice va N.length vc) := (Lib.cell_of_heap bx1 0).trans rfl; have c1 : w1.cell? ⟨w.heap.size, 1, none⟩ = some (.int .i64 root) := (Lib.cell_of_heap bx1 1).trans rfl; clear hb1 bx1)
    | (go_at_call 75; refine (HL.down _ HB1.down).mono ?_; rintro e w2 ⟨rfl, hb2⟩; have HB2 := PLift.up (HB1.down.trans (hb2.mono HB1.down.size)); clear hb2))
  go_ret
  exact ⟨rfl, HB2.down⟩
set_option maxHeartbeats 4000000 in
set_option maxRecDepth 100000 in
theorem valid_tree (sc : Int → ByteArray → Bool) (w : World) (v : Value) (root : Nat) (N : List Nd) (inn sizes : List Int) (rank : Nat → Nat) (hN : NodesAt w v N) (hT : TreeN sc N root inn sizes rank) (hE : Tabs w) :
    Calls Tryz.prog 13 #[.agg #[v, .int .i64 root]] w fun e w' => e = .returned (.int .i64 0) ∧ Below w.heap.size w w' := by
  have HC := PLift.up (fun (W : World) (hb : Below w.heap.size w W) => check_ok sc W v root N inn sizes (hN.below hb) hT.good (hE.below hb))
  have HD : PLift (∀ W, Below w.heap.size w W → Calls Tryz.prog 38 #[.agg #[v, .int .i64 root]] W fun e w' => e = .returned (.tuple #[.int .i64 (depthF N root inn sizes).1, .bool true]) ∧ Below W.heap.size W w') := ⟨fun W hb => by
    have h := gdepth_ok sc W v root N inn sizes (hN.below hb) hT.good (hE.below hb)
    rw [hT.flat] at h; exact h⟩
  have HL := PLift.up (fun (W : World) (hb : Below w.heap.size w W) => tree_tree sc W v root N inn sizes rank (hN.below hb) hT (hE.below hb))
  have HBX := PLift.up (heap_alloc_new w (.cells #[v, .int .i64 root] 28))
  have HB0 := PLift.up (below_new w (.cells #[v, .int .i64 root] 28))
  obtain ⟨va, vc, rfl, -, -⟩ := hN
  clear hT hE
  go_enter Tryz.func13, Tryz.ntmps13
  go_wp2_with (first
    | (go_at_call 37; refine (HC.down _ HB0.down).mono ?_; rintro e w1 ⟨rfl, hb1⟩; have HB1 := PLift.up (HB0.down.trans (hb1.mono HB0.down.size)); have HBX1 := PLift.up ((hb1.block _ (block_lt HBX.down)).trans HBX.down); have c0 : w1.cell? ⟨w.heap.size, 0, none⟩ = some (.slice va N.length vc) := (Lib.cell_of_heap HBX1.down 0).trans rfl; have c1 : w1.cell? ⟨w.heap.size, 1, none⟩ = some (.int .i64 root) := (Lib.cell_of_heap HBX1.down 1).trans rfl; clear hb1)
    | (go_at_call 38; refine (HD.down _ HB1.down).mono ?_; rintro e w2 ⟨rfl, hb2⟩; have HB2 := PLift.up (HB1.down.trans (hb2.mono HB1.down.size)); have HBX2 := PLift.up ((hb2.block _ (block_lt HBX1.down)).trans HBX1.down); have d0 : w2.cell? ⟨w.heap.size, 0, none⟩ = some (.slice va N.length vc) := (Lib.cell_of_heap HBX2.down 0).trans rfl; have d1 : w2.cell? ⟨w.heap.size, 1, none⟩ = some (.int .i64 root) := (Lib.cell_of_heap HBX2.down 1).trans rfl; clear hb2)
    | (go_at_call 39; refine (HL.down _ HB2.down).mono ?_; rintro e w3 ⟨rfl, hb3⟩; have HB3 := PLift.up (HB2.down.trans (hb3.mono HB2.down.size)); clear hb3))
  go_ret
  exact ⟨rfl, HB3.down⟩
end Go.Proofs.YtcipjifpigpfdaaGreatDoor
/- graph.Check: a graph with a node without form is refused. graph.scalar of any text. -/
namespace Go.Proofs.YtcipjifpigpfdaaGreatDoor
open Go.RowKit
open Go.Lib hiding intOf
/-- a graph that graph.Check refuses for a node's form -/
structure Bad (sc : Int → ByteArray → Bool) (N : List Nd) (root : Nat) : Prop where
  few : N.length ≤ 4096
  rt : root < N.length
  rng : InRange N
  all : ∀ i, i < N.length → (visitF N (N.length + 1) root (List.replicate N.length false)).getD i false = true
  scal : ∀ n ∈ N, ScalarAt sc n.kind n.text
  fit : NdFit N
  bad : ∃ n ∈ N, formF sc n = false
theorem Bad.idx {sc : Int → ByteArray → Bool} {N : List Nd} {root : Nat} (h : Bad sc N root) : idxOk N root = true := by
  have hr := h.rt
  unfold idxOk refsOk
  simp only [Bool.and_eq_true, decide_eq_true_eq, List.all_eq_true]
  exact ⟨⟨by omega, by omega⟩, fun n hn => ⟨(h.rng n hn).1, (h.rng n hn).2⟩⟩
set_option maxHeartbeats 4000000 in
set_option maxRecDepth 100000 in
theorem check_bad (sc : Int → ByteArray → Bool) (w : World) (v : Value) (root : Nat) (N : List Nd) (hN : NodesAt w v N) (hG : Bad sc N root) (hE : Tabs w) :
    Calls Tryz.prog 37 #[.agg #[v, .int .i64 root]] w fun e w' => e = .returned (.int .i64 3) ∧ Below w.heap.size w w' := by
  have HG := PLift.up hG
  have HE := PLift.up hE
  have hn := hG.few
  have hpos : 0 < N.length := Nat.lt_of_le_of_lt (Nat.zero_le _) hG.rt
  have hN0 : NodesAt (w.alloc (.cells #[v, .int .i64 root] 28)) v N := hN.below (below_new w _)
  have HI := PLift.up (indices_any _ v N root hN0)
  have HN0 := PLift.up hN0
  obtain ⟨va, vc, rfl, hvl, hvn⟩ := hN
  rcases hvn with hnil | ⟨b, o, rfl, hall⟩
  · exfalso; rw [hnil] at hpos; exact Nat.not_lt_zero _ hpos
  have HALL := PLift.up hall
  have HW0 : PLift ((w.alloc (.cells #[.slice (some ⟨b, o, none⟩) N.length vc, .int .i64 root] 28)).heap[w.heap.size]? = some (.cells #[.slice (some ⟨b, o, none⟩) N.length vc, .int .i64 root] 28)) := ⟨heap_alloc_new w _⟩
  have HB0 : PLift (Below w.heap.size w (w.alloc (.cells #[.slice (some ⟨b, o, none⟩) N.length vc, .int .i64 root] 28))) := ⟨below_new w _⟩
  have HS0 : PLift ((w.alloc (.cells #[.slice (some ⟨b, o, none⟩) N.length vc, .int .i64 root] 28)).heap.size = w.heap.size + 1) := ⟨size_new _ _⟩
  have h1 : ((N.length : Int) == 0) = false := by simp only [beq_eq_false_iff_ne, ne_eq]; omega
  have hix := hG.idx
  rw [hix] at HI
  have hmk : ∀ wx : World, (Instr.makeSlice 90 (.int .i64 (N.length : Int)) (.int .i64 (N.length : Int))).run Tryz.prog wx = .ok (.slice (some ⟨wx.heap.size, 0, none⟩) N.length N.length) (wx.alloc (.cells (Array.replicate N.length (.bool false)) 4)) := fun wx => by
    rw [run_make_row' 90 4 (.bool false) 1 Tryz.underlying90 info_bool0 rfl .i64 .i64 N.length (by omega) (by omega) wx, made_rep]
  clear hG hN0 hall hix hE
  as_aux_lemma =>
  go_enter Tryz.func37, Tryz.ntmps37
  as_aux_lemma =>
  go_upto_region 5 with (go_at_call 68; refine (HI.down).mono ?_; rintro e w1 ⟨rfl, hb1⟩; have HB1 := PLift.up hb1; have hx1 : w1.heap[w.heap.size]? = some (.cells #[.slice (some ⟨b, o, none⟩) N.length vc, .int .i64 root] 28) := by { rw [hb1.block _ (by have := HS0.down; omega)]; exact HW0.down }; have HX1 := PLift.up hx1; have k1 : w1.cell? ⟨w.heap.size, 0, none⟩ = some (.slice (some ⟨b, o, none⟩) N.length vc) := (Lib.cell_of_heap hx1 0).trans rfl; clear hb1 hx1)
  as_aux_lemma =>
  go_upto_region 6 with fail
  have HN1 := PLift.up (HN0.down.below HB1.down)
  have hsz2 : (w1.alloc (.cells (Array.replicate N.length (.bool false)) 4)).heap.size = w1.heap.size + 1 := size_new _ _
  have hrow2 : (w1.alloc (.cells (Array.replicate N.length (.bool false)) 4)).heap[w1.heap.size]? = some (.cells ((List.replicate N.length false).map Value.bool).toArray 4) := by
    rw [heap_alloc_new]; simp
  have hb2 : Below w1.heap.size w1 (w1.alloc (.cells (Array.replicate N.length (.bool false)) 4)) := below_new _ _
  have HX2 : PLift ((w1.alloc (.cells (Array.replicate N.length (.bool false)) 4)).heap[w.heap.size]? = some (.cells #[.slice (some ⟨b, o, none⟩) N.length vc, .int .i64 root] 28)) := ⟨by rw [Lib.alloc_old _ _ _ (block_lt HX1.down)]; exact HX1.down⟩
  have HRE := PLift.up (reached_any w1 (w1.alloc (.cells (Array.replicate N.length (.bool false)) 4)) (.slice (some ⟨b, o, none⟩) N.length vc) N root root w1.heap.size (List.replicate N.length false) HN1.down HG.down.rng hb2 (Nat.le_refl _) (by simp) hrow2 HG.down.rt)
  have HS2 := PLift.up hsz2
  have HB2 := PLift.up hb2
  clear hsz2 hrow2 hb2 k1 hmk
  generalize w1.alloc (.cells (Array.replicate N.length (.bool false)) 4) = W2 at HX2 HRE HS2 HB2 ⊢
  have k0 : W2.cell? ⟨w.heap.size, 0, none⟩ = some (.slice (some ⟨b, o, none⟩) N.length vc) := (Lib.cell_of_heap HX2.down 0).trans rfl
  have k1 : W2.cell? ⟨w.heap.size, 1, none⟩ = some (.int .i64 root) := (Lib.cell_of_heap HX2.down 1).trans rfl
  as_aux_lemma =>
  go_upto_region 7 with (go_at_call 69; refine (HRE.down).mono ?_; rintro e w3 ⟨rfl, hg3, hm3⟩; have HG3 := PLift.up hg3; have HM3 := PLift.up hm3; clear hg3 hm3)
  clear k0 k1
  have hws : w.heap.size < w1.heap.size := block_lt HX1.down
  have HX3 : PLift (w3.heap[w.heap.size]? = some (.cells #[.slice (some ⟨b, o, none⟩) N.length vc, .int .i64 root] 28)) := ⟨by rw [HG3.down.block _ (by have := HS2.down; omega) (by intro e; injection e with e; omega)]; exact HX2.down⟩
  have HB3 : PLift (Below w1.heap.size w1 w3) := ⟨HB2.down.grown HG3.down (by have := HS2.down; omega) (fun k hk => by injection hk with hk; omega)⟩
  have HN3 := PLift.up (HN1.down.below HB3.down)
  have k0 : w3.cell? ⟨w.heap.size, 0, none⟩ = some (.slice (some ⟨b, o, none⟩) N.length vc) := (Lib.cell_of_heap HX3.down 0).trans rfl
  clear hws
  as_aux_lemma =>
  go_wp2
  have HBW3 : PLift (Below w.heap.size w w3) := ⟨(HB0.down.trans (HB1.down.mono (by have := HS0.down; omega))).trans (HB3.down.mono (Nat.le_trans (Nat.le_trans (by have := HS0.down; omega) HB1.down.size) (Nat.le_refl _)))⟩
  have HMR : PLift (∀ i, i < N.length → w3.cell? ⟨w1.heap.size, i, none⟩ = some (.bool true)) := ⟨fun i hi => by rw [bool_row HM3.down (by rw [(visit_len N _ _ _).1]; simpa using hi), HG.down.all i hi]⟩
  clear k0
  go_loopw [36] (fun iv wr => ∃ i : Nat, iv = .int .i64 i ∧ i ≤ N.length ∧ (∀ n ∈ N.take i, formF sc n = true) ∧ Below w3.heap.size w3 wr) (fun iv _ => N.length - (intOf iv).toNat)
  case atStart => exact ⟨0, rfl, Nat.zero_le _, by simp, Below.refl _ _⟩
  case round =>
    as_aux_lemma =>
    obtain ⟨i, rfl, hi, hpre, hbr⟩ := hrel
    have HBR := PLift.up hbr
    have HPR := PLift.up hpre
    clear hbr hpre
    by_cases hil : i < N.length
    · have hil2 : (i : Int) < (N.length : Int) := by omega
      have km := cell_keep HBR.down (HMR.down i hil)
      have km' := fun ob => cell_keep (below_new wr ob) km
      have hn0 := HALL.down i N[i] (List.getElem?_eq_getElem hil)
      have hfi := (HG.down.fit N[i] (List.getElem_mem hil)).2
      have hsc := HG.down.scal N[i] (List.getElem_mem hil)
      have HTK : PLift (N.take i ++ [N[i]] = N.take (i + 1)) := ⟨by simp⟩
      generalize N[i] = n at hn0 hfi hsc HTK
      have hbel := HBW3.down.trans (HBR.down.mono HBW3.down.size)
      obtain ⟨kv, iv, m0, m1, m2, m3, m4, hkc, hic⟩ := hn0
      have c0 := cell_keep hbel m0
      have c1 := cell_keep hbel m1
      have c2 := cell_keep hbel m2
      have c3 := cell_keep hbel m3
      have c4 := cell_keep hbel m4
      have hbn := hbel.trans ((below_new wr (.cells #[.int .i64 n.kind, .string n.text, .bool n.ord, kv, iv] 25)).mono hbel.size)
      have HFO := PLift.up (form_any sc (wr.alloc (.cells #[.int .i64 n.kind, .string n.text, .bool n.ord, kv, iv] 25)) (.agg #[.int .i64 n.kind, .string n.text, .bool n.ord, kv, iv]) n ⟨kv, iv, rfl, hkc.below hbn, hic.below hbn⟩ hfi hsc (HE.down.below hbn))
      obtain ⟨ka, kc, rfl, -, -⟩ := hkc
      obtain ⟨ia, ic, rfl, -, -⟩ := hic
      clear hbel m0 m1 m2 m3 m4 hbn hfi hsc
      obtain ⟨fo, hfo⟩ : ∃ fo, formF sc n = fo := ⟨_, rfl⟩
      rw [hfo] at HFO
      have HFN := PLift.up hfo
      clear hfo
      cases fo
      · as_aux_lemma =>
        go_wp2_with (go_at_call 70; refine (HFO.down).mono ?_; rintro e w4 ⟨rfl, hb4⟩; have HB4 := PLift.up hb4; clear hb4)
        go_ret
        exact ⟨rfl, ((HBW3.down.trans (HBR.down.mono HBW3.down.size)).trans ((below_new _ _).mono (Nat.le_trans HBW3.down.size HBR.down.size))).trans (HB4.down.mono (by rw [size_new]; have h1 := HBW3.down.size; have h2 := HBR.down.size; omega))⟩
      · as_aux_lemma =>
        go_wp2_with (go_at_call 70; refine (HFO.down).mono ?_; rintro e w4 ⟨rfl, hb4⟩; have HB4 := PLift.up hb4; clear hb4)
        go_roundw
        case rel => exact ⟨i + 1, by go_num, by omega, by rw [← HTK.down]; intro q hq; exact (List.mem_append.1 hq).elim (fun h => HPR.down q h) (fun h => by rw [List.mem_singleton.1 h]; exact HFN.down), (HBR.down.alloc HBR.down.size _).trans (HB4.down.mono (by rw [size_new]; have := HBR.down.size; omega))⟩
        case measure => simp [intOf]; omega
    · obtain rfl : i = N.length := by omega
      exfalso
      obtain ⟨n, h1, h2⟩ := HG.down.bad
      rw [HPR.down n (by rw [List.take_length]; exact h1)] at h2
      cases h2
set_option maxHeartbeats 1000000 in
set_option maxRecDepth 100000 in
theorem scalar_any (s : ByteArray) (w : World) (hT : Tabs w) :
    Calls Tryz.prog 118 #[.int .i64 5, .string s] w fun e w' => e = .returned (.bool (cp s.data.toList).isNone) ∧ Below w.heap.size w w' := by
  have HC := PLift.up (check_any s w hT)
  obtain ⟨x, hx⟩ : ∃ x, cp s.data.toList = x := ⟨_, rfl⟩
  rw [hx] at HC ⊢
  clear hT hx
  cases x with
  | none =>
    simp only [cpV, Option.isNone] at HC ⊢
    as_aux_lemma =>
    go_enter Tryz.func118, Tryz.ntmps118
    go_wp2_with (go_at_call 24; refine (HC.down).mono ?_; rintro e w1 ⟨rfl, hb1⟩; have HB1 := PLift.up hb1; clear hb1)
    go_ret
    exact ⟨rfl, HB1.down⟩
  | some n =>
    simp only [cpV, Option.isNone] at HC ⊢
    as_aux_lemma =>
    go_enter Tryz.func118, Tryz.ntmps118
    go_wp2_with (go_at_call 24; refine (HC.down).mono ?_; rintro e w1 ⟨rfl, hb1⟩; have HB1 := PLift.up hb1; clear hb1)
    go_ret
    exact ⟨rfl, HB1.down⟩
theorem cp_bad_iff (l : List UInt8) : (cp l).isNone = chk l := by
  induction hn : l.length using Nat.strongRecOn generalizing l with
  | _ n ih =>
    cases l with
    | nil => unfold cp chk; rfl
    | cons c r =>
      unfold cp chk
      by_cases hd : dec (c :: r) = (65533, 1)
      · rw [if_pos hd, if_pos hd]; rfl
      · rw [if_neg hd, if_neg hd, ← ih _ (by subst hn; simp; omega) _ rfl]
        cases cp (r.drop ((dec (c :: r)).2 - 1)) <;> rfl
end Go.Proofs.YtcipjifpigpfdaaGreatDoor
