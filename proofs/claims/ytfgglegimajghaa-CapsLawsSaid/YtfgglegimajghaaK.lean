/- The capabilities of the formats, as the reference has them. -/
import Derived.Test.YtfgglegimajghaaJ
import Derived.Deep.DeepCutAuto
namespace Go.Proofs.Ytfgglegimajghaa
open Go.RowKit
theorem rset_any (ks : List Int) (m : Int) (n b cap : Nat) (w : World) (hm : maskOf ks = m) (hn : ks.length = n) (hl : ks.length ≤ 16) (hk : ∀ k ∈ ks, 0 ≤ k ∧ k < 16)
    (hc : ∀ i, i < n → w.cell? ⟨b, i, none⟩ = some (.int .i64 (ks.getD i 0))) :
    Calls Try.prog 21 #[.slice (some ⟨b, 0, none⟩) n cap] w fun e w' => e = .returned (.int .u16 m) ∧ w = w' := by
  subst hm hn
  go_enter Try.func21, Try.ntmps21
  go_wp2
  go_loop [3, 4] (fun m i => ∃ k : Nat, k ≤ ks.length ∧ i = .int .i64 k ∧ m = .int .u16 (maskOf (ks.take k))) (fun _ i => ks.length - (intOf i).toNat)
  case atStart => exact ⟨0, Nat.zero_le _, rfl, rfl⟩
  case round =>
    obtain ⟨k, hk', rfl, rfl⟩ := hrel
    by_cases hlt : k < ks.length
    · have hcell := hc k hlt
      have hkk := hk ks[k] (List.getElem_mem _)
      obtain ⟨hk0, hk1⟩ := hkk
      have hs := Lib.hid (maskOf_snoc ks k hlt)
      clear hc hk
      go_wp2
      go_round
      case rel => exact ⟨k + 1, by omega, by go_num, by rw [hs.out]; rfl⟩
      case measure => simp [intOf]; omega
    · go_wp2
      go_ret
      exact ⟨ret_int (by rw [List.take_of_length_le (by omega)]), rfl⟩
theorem alloc_get (W : World) (X : Obj) (k : Nat) : (W.alloc X).heap[k]? = if k = W.heap.size then some X else W.heap[k]? := by
  show (W.heap.push X)[k]? = _
  rw [Array.getElem?_push]
theorem cells_at (ks : List Int) (W : World) (b n : Nat) (T : TypeId) (vs : Array Value) (hn : ks.length = n) (hv : (ks.map fun k => Value.int .i64 k).toArray = vs) (h : W.heap[b]? = some (.cells vs T)) :
    ∀ i, i < n → W.cell? ⟨b, i, none⟩ = some (.int .i64 (ks.getD i 0)) := by
  subst hn hv
  intro i hi
  unfold World.cell?
  simp [h, hi]
theorem cell_at {W : World} {b : Nat} {vs : Array Value} {T : TypeId} (h : W.heap[b]? = some (.cells vs T)) (o : Nat) : W.cell? ⟨b, o, none⟩ = vs[o]? := by
  unfold World.cell?
  simp [h]
theorem free_at {W : World} {b : Nat} {vs : Array Value} {T : TypeId} (h : W.heap[b]? = some (.cells vs T)) (o : Nat) : W.frozen? ⟨b, o, none⟩ = false := by
  unfold World.frozen?
  simp [h]
theorem set_newR (ks : List Int) (m : Int) (n b cap : Nat) (W : World) (vs : Array Value) (T : TypeId) (hm : maskOf ks = m) (hn : ks.length = n) (hb : W.heap.size = b) (hv : (ks.map fun k => Value.int .i64 k).toArray = vs) (hl : ks.length ≤ 16) (hk : ∀ k ∈ ks, 0 ≤ k ∧ k < 16) :
    Calls Try.prog 21 #[.slice (some ⟨b, 0, none⟩) n cap] (W.alloc (.cells vs T)) fun e w' => e = .returned (.int .u16 m) ∧ W.alloc (.cells vs T) = w' := by
  subst hv hn hb hm
  refine rset_any ks _ _ _ _ _ rfl rfl hl hk ?_
  intro i hi
  simp [World.cell?_alloc_new, hi]
set_option maxRecDepth 100000 in
set_option maxHeartbeats 8000000 in
theorem rof_any (f : Int) (hf : f = 0 ∨ f = 1 ∨ f = 2 ∨ f = 3 ∨ f = 4 ∨ f = 5 ∨ f = 6 ∨ f = 7 ∨ f = 8) (w : World) : Calls Try.prog 11 #[.int .i64 f] w fun e w' => e = .returned (ofC f.toNat).v ∧ Below w.heap.size w w' := by
  have e127 : bits .and .u16 3711 511 = 127 := by kernel_rfl
  have e255 : bits .and .u16 3839 511 = 255 := by kernel_rfl
  have HF := Lib.hid hf
  clear hf
  go_enter Try.func11, Try.ntmps11
  go_upto_region 1 with (fail)
  go_cut [2, 3] (fun s2 s wx => s2 = .pointer (some ⟨w.heap.size, 0, none⟩) ∧ s = .slice (some ⟨w.heap.size + 10, 0, none⟩) 9 9 ∧ Below w.heap.size w wx ∧ (w.heap.size + 11 ≤ wx.heap.size)
      ∧ wx.heap[w.heap.size + 10]? = some (.cells #[.slice (some ⟨w.heap.size + 1, 0, none⟩) 7 7, .slice (some ⟨w.heap.size + 2, 0, none⟩) 10 10, .slice (some ⟨w.heap.size + 3, 0, none⟩) 8 8, .slice (some ⟨w.heap.size + 4, 0, none⟩) 2 2, .slice (some ⟨w.heap.size + 5, 0, none⟩) 12 12, .slice (some ⟨w.heap.size + 6, 0, none⟩) 5 5, .slice (some ⟨w.heap.size + 7, 0, none⟩) 11 11, .slice (some ⟨w.heap.size + 8, 0, none⟩) 8 8, .slice (some ⟨w.heap.size + 9, 0, none⟩) 11 11] 39) ∧ wx.heap[w.heap.size]? = some (.cells #[.int .u16 0, .int .u16 0, .int .u16 0, .int .i64 0, .int .i64 0, .int .i64 0, .bool false, .bool false, .bool false, .bool false] 25)
      ∧ wx.heap[w.heap.size + 1]? = some (.cells #[.int .i64 0, .int .i64 1, .int .i64 2, .int .i64 3, .int .i64 5, .int .i64 9, .int .i64 10] 3)
      ∧ wx.heap[w.heap.size + 2]? = some (.cells #[.int .i64 0, .int .i64 1, .int .i64 2, .int .i64 3, .int .i64 4, .int .i64 5, .int .i64 6, .int .i64 9, .int .i64 10, .int .i64 11] 3)
      ∧ wx.heap[w.heap.size + 3]? = some (.cells #[.int .i64 1, .int .i64 2, .int .i64 3, .int .i64 5, .int .i64 7, .int .i64 8, .int .i64 9, .int .i64 10] 3)
      ∧ wx.heap[w.heap.size + 4]? = some (.cells #[.int .i64 5, .int .i64 10] 3)
      ∧ wx.heap[w.heap.size + 5]? = some (.cells #[.int .i64 0, .int .i64 1, .int .i64 2, .int .i64 3, .int .i64 4, .int .i64 5, .int .i64 6, .int .i64 7, .int .i64 8, .int .i64 9, .int .i64 10, .int .i64 11] 3)
      ∧ wx.heap[w.heap.size + 6]? = some (.cells #[.int .i64 2, .int .i64 5, .int .i64 6, .int .i64 9, .int .i64 10] 3)
      ∧ wx.heap[w.heap.size + 7]? = some (.cells #[.int .i64 0, .int .i64 1, .int .i64 2, .int .i64 3, .int .i64 4, .int .i64 5, .int .i64 6, .int .i64 7, .int .i64 9, .int .i64 10, .int .i64 11] 3)
      ∧ wx.heap[w.heap.size + 8]? = some (.cells #[.int .i64 1, .int .i64 2, .int .i64 3, .int .i64 5, .int .i64 6, .int .i64 7, .int .i64 9, .int .i64 10] 3)
      ∧ wx.heap[w.heap.size + 9]? = some (.cells #[.int .i64 0, .int .i64 1, .int .i64 2, .int .i64 3, .int .i64 4, .int .i64 5, .int .i64 6, .int .i64 7, .int .i64 8, .int .i64 9, .int .i64 10] 3))
  case first =>
    go_wp2
    go_meet
    case rel =>
      refine ⟨rfl, rfl, ?_, ?_, ?_, ?_, ?_, ?_, ?_, ?_, ?_, ?_, ?_, ?_, ?_⟩
      · repeat (first | with_reducible exact Below.refl _ _ | with_reducible refine Below.alloc ?_ (by simp; try omega) _)
      · simp
      all_goals repeat (first | (rw [alloc_get, if_pos (by simp)]; done) | rw [alloc_get, if_neg (by simp; try omega)])
  case rest =>
    obtain ⟨rfl, rfl, hB, HS, htab, hz, k0, k1, k2, k3, k4, k5, k6, k7, k8⟩ := hcut
    have hlt : w.heap.size < wc.heap.size := by omega
    have hle : w.heap.size ≤ wc.heap.size := by omega
    have hlt1 : w.heap.size < wc.heap.size + 1 := by omega
    have hlt2 : w.heap.size < wc.heap.size + 1 + 1 := by omega
    have z0 := cell_at hz 0
    have z1 := cell_at hz 1
    have z2 := cell_at hz 2
    have z3 := cell_at hz 3
    have z4 := cell_at hz 4
    have z5 := cell_at hz 5
    have z6 := cell_at hz 6
    have z7 := cell_at hz 7
    have z8 := cell_at hz 8
    have z9 := cell_at hz 9
    have t0 := cell_at htab 0
    have t1 := cell_at htab 1
    have t2 := cell_at htab 2
    have t3 := cell_at htab 3
    have t4 := cell_at htab 4
    have t5 := cell_at htab 5
    have t6 := cell_at htab 6
    have t7 := cell_at htab 7
    have t8 := cell_at htab 8
    simp only [List.getElem?_toArray, List.getElem?_cons_zero, List.getElem?_cons_succ] at z0 z1 z2 z3 z4 z5 z6 z7 z8 z9 t0 t1 t2 t3 t4 t5 t6 t7 t8
    have hzf := free_at hz
    have c0 := Lib.hid (cells_at [0, 1, 2, 3, 5, 9, 10] wc (w.heap.size + 1) 7 3 #[.int .i64 0, .int .i64 1, .int .i64 2, .int .i64 3, .int .i64 5, .int .i64 9, .int .i64 10] rfl rfl k0)
    have c1 := Lib.hid (cells_at [0, 1, 2, 3, 4, 5, 6, 9, 10, 11] wc (w.heap.size + 2) 10 3 #[.int .i64 0, .int .i64 1, .int .i64 2, .int .i64 3, .int .i64 4, .int .i64 5, .int .i64 6, .int .i64 9, .int .i64 10, .int .i64 11] rfl rfl k1)
    have c2 := Lib.hid (cells_at [1, 2, 3, 5, 7, 8, 9, 10] wc (w.heap.size + 3) 8 3 #[.int .i64 1, .int .i64 2, .int .i64 3, .int .i64 5, .int .i64 7, .int .i64 8, .int .i64 9, .int .i64 10] rfl rfl k2)
    have c3 := Lib.hid (cells_at [5, 10] wc (w.heap.size + 4) 2 3 #[.int .i64 5, .int .i64 10] rfl rfl k3)
    have c4 := Lib.hid (cells_at [0, 1, 2, 3, 4, 5, 6, 7, 8, 9, 10, 11] wc (w.heap.size + 5) 12 3 #[.int .i64 0, .int .i64 1, .int .i64 2, .int .i64 3, .int .i64 4, .int .i64 5, .int .i64 6, .int .i64 7, .int .i64 8, .int .i64 9, .int .i64 10, .int .i64 11] rfl rfl k4)
    have c5 := Lib.hid (cells_at [2, 5, 6, 9, 10] wc (w.heap.size + 6) 5 3 #[.int .i64 2, .int .i64 5, .int .i64 6, .int .i64 9, .int .i64 10] rfl rfl k5)
    have c6 := Lib.hid (cells_at [0, 1, 2, 3, 4, 5, 6, 7, 9, 10, 11] wc (w.heap.size + 7) 11 3 #[.int .i64 0, .int .i64 1, .int .i64 2, .int .i64 3, .int .i64 4, .int .i64 5, .int .i64 6, .int .i64 7, .int .i64 9, .int .i64 10, .int .i64 11] rfl rfl k6)
    have c7 := Lib.hid (cells_at [1, 2, 3, 5, 6, 7, 9, 10] wc (w.heap.size + 8) 8 3 #[.int .i64 1, .int .i64 2, .int .i64 3, .int .i64 5, .int .i64 6, .int .i64 7, .int .i64 9, .int .i64 10] rfl rfl k7)
    have c8 := Lib.hid (cells_at [0, 1, 2, 3, 4, 5, 6, 7, 8, 9, 10] wc (w.heap.size + 9) 11 3 #[.int .i64 0, .int .i64 1, .int .i64 2, .int .i64 3, .int .i64 4, .int .i64 5, .int .i64 6, .int .i64 7, .int .i64 8, .int .i64 9, .int .i64 10] rfl rfl k8)
    clear k0 k1 k2 k3 k4 k5 k6 k7 k8 htab hz HS
    rcases HF.out with rfl | rfl | rfl | rfl | rfl | rfl | rfl | rfl | rfl
    · go_wp2_with fail
      refine (rset_any [0, 1, 2, 3, 5, 9, 10] 1583 7 _ _ _ (by kernel_rfl) rfl (by decide) (by decide) c0.out).mono ?_
      rintro e w' ⟨rfl, rfl⟩
      go_wp2_with fail
      refine (set_newR [5] 32 _ _ _ _ _ _ (by kernel_rfl) rfl (by simp) rfl (by decide) (by decide)).mono ?_
      rintro e w' ⟨rfl, rfl⟩
      go_wp2_with fail
      refine bodyPost_ret (v := (ofC 0).v) (by simp only [results, Try.results11, ofC, Cp.v]; go_simp) rfl ⟨rfl, ?_⟩
      repeat (first | with_reducible exact hB | with_reducible refine Below.alloc ?_ (by simp; try omega) _ | with_reducible refine Below.setCell ?_ (by simp) _)
    · go_wp2_with fail
      refine (rset_any [0, 1, 2, 3, 4, 5, 6, 9, 10, 11] 3711 10 _ _ _ (by kernel_rfl) rfl (by decide) (by decide) c1.out).mono ?_
      rintro e w' ⟨rfl, rfl⟩
      go_wp2_with fail
      refine (set_newR [5] 32 _ _ _ _ _ _ (by kernel_rfl) rfl (by simp) rfl (by decide) (by decide)).mono ?_
      rintro e w' ⟨rfl, rfl⟩
      go_wp2_with fail
      refine bodyPost_ret (v := (ofC 1).v) (by simp only [results, Try.results11, ofC, Cp.v]; go_simp) rfl ⟨rfl, ?_⟩
      repeat (first | with_reducible exact hB | with_reducible refine Below.alloc ?_ (by simp; try omega) _ | with_reducible refine Below.setCell ?_ (by simp) _)
    · go_wp2_with fail
      refine (rset_any [1, 2, 3, 5, 7, 8, 9, 10] 1966 8 _ _ _ (by kernel_rfl) rfl (by decide) (by decide) c2.out).mono ?_
      rintro e w' ⟨rfl, rfl⟩
      go_wp2_with fail
      refine (set_newR [5] 32 _ _ _ _ _ _ (by kernel_rfl) rfl (by simp) rfl (by decide) (by decide)).mono ?_
      rintro e w' ⟨rfl, rfl⟩
      go_wp2_with fail
      refine (set_newR [10] 1024 _ _ _ _ _ _ (by kernel_rfl) rfl (by simp) rfl (by decide) (by decide)).mono ?_
      rintro e w' ⟨rfl, rfl⟩
      go_wp2_with fail
      refine bodyPost_ret (v := (ofC 2).v) (by simp only [results, Try.results11, ofC, Cp.v]; go_simp) rfl ⟨rfl, ?_⟩
      repeat (first | with_reducible exact hB | with_reducible refine Below.alloc ?_ (by simp; try omega) _ | with_reducible refine Below.setCell ?_ (by simp) _)
    · go_wp2_with fail
      refine (rset_any [5, 10] 1056 2 _ _ _ (by kernel_rfl) rfl (by decide) (by decide) c3.out).mono ?_
      rintro e w' ⟨rfl, rfl⟩
      go_wp2_with fail
      refine (set_newR [5] 32 _ _ _ _ _ _ (by kernel_rfl) rfl (by simp) rfl (by decide) (by decide)).mono ?_
      rintro e w' ⟨rfl, rfl⟩
      go_wp2_with fail
      refine (set_newR [10] 1024 _ _ _ _ _ _ (by kernel_rfl) rfl (by simp) rfl (by decide) (by decide)).mono ?_
      rintro e w' ⟨rfl, rfl⟩
      go_wp2_with fail
      refine bodyPost_ret (v := (ofC 3).v) (by simp only [results, Try.results11, ofC, Cp.v]; go_simp) rfl ⟨rfl, ?_⟩
      repeat (first | with_reducible exact hB | with_reducible refine Below.alloc ?_ (by simp; try omega) _ | with_reducible refine Below.setCell ?_ (by simp) _)
    · go_wp2_with fail
      refine (rset_any [0, 1, 2, 3, 4, 5, 6, 7, 8, 9, 10, 11] 4095 12 _ _ _ (by kernel_rfl) rfl (by decide) (by decide) c4.out).mono ?_
      rintro e w' ⟨rfl, rfl⟩
      go_wp2_with fail
      refine (set_newR [5] 32 _ _ _ _ _ _ (by kernel_rfl) rfl (by simp) rfl (by decide) (by decide)).mono ?_
      rintro e w' ⟨rfl, rfl⟩
      go_wp2_with fail
      refine bodyPost_ret (v := (ofC 4).v) (by simp only [results, Try.results11, ofC, Cp.v]; go_simp) rfl ⟨rfl, ?_⟩
      repeat (first | with_reducible exact hB | with_reducible refine Below.alloc ?_ (by simp; try omega) _ | with_reducible refine Below.setCell ?_ (by simp) _)
    · go_wp2_with fail
      refine (rset_any [2, 5, 6, 9, 10] 1636 5 _ _ _ (by kernel_rfl) rfl (by decide) (by decide) c5.out).mono ?_
      rintro e w' ⟨rfl, rfl⟩
      go_wp2_with fail
      refine (set_newR [5] 32 _ _ _ _ _ _ (by kernel_rfl) rfl (by simp) rfl (by decide) (by decide)).mono ?_
      rintro e w' ⟨rfl, rfl⟩
      go_wp2_with fail
      refine bodyPost_ret (v := (ofC 5).v) (by simp only [results, Try.results11, ofC, Cp.v]; go_simp) rfl ⟨rfl, ?_⟩
      repeat (first | with_reducible exact hB | with_reducible refine Below.alloc ?_ (by simp; try omega) _ | with_reducible refine Below.setCell ?_ (by simp) _)
    · go_wp2_with fail
      refine (rset_any [0, 1, 2, 3, 4, 5, 6, 7, 9, 10, 11] 3839 11 _ _ _ (by kernel_rfl) rfl (by decide) (by decide) c6.out).mono ?_
      rintro e w' ⟨rfl, rfl⟩
      go_wp2_with fail
      refine (set_newR [5] 32 _ _ _ _ _ _ (by kernel_rfl) rfl (by simp) rfl (by decide) (by decide)).mono ?_
      rintro e w' ⟨rfl, rfl⟩
      go_wp2_with fail
      refine bodyPost_ret (v := (ofC 6).v) (by simp only [results, Try.results11, ofC, Cp.v]; go_simp) rfl ⟨rfl, ?_⟩
      repeat (first | with_reducible exact hB | with_reducible refine Below.alloc ?_ (by simp; try omega) _ | with_reducible refine Below.setCell ?_ (by simp) _)
    · go_wp2_with fail
      refine (rset_any [1, 2, 3, 5, 6, 7, 9, 10] 1774 8 _ _ _ (by kernel_rfl) rfl (by decide) (by decide) c7.out).mono ?_
      rintro e w' ⟨rfl, rfl⟩
      go_wp2_with fail
      refine (set_newR [5] 32 _ _ _ _ _ _ (by kernel_rfl) rfl (by simp) rfl (by decide) (by decide)).mono ?_
      rintro e w' ⟨rfl, rfl⟩
      go_wp2_with fail
      refine bodyPost_ret (v := (ofC 7).v) (by simp only [results, Try.results11, ofC, Cp.v]; go_simp) rfl ⟨rfl, ?_⟩
      repeat (first | with_reducible exact hB | with_reducible refine Below.alloc ?_ (by simp; try omega) _ | with_reducible refine Below.setCell ?_ (by simp) _)
    · go_wp2_with fail
      refine (rset_any [0, 1, 2, 3, 4, 5, 6, 7, 8, 9, 10] 2047 11 _ _ _ (by kernel_rfl) rfl (by decide) (by decide) c8.out).mono ?_
      rintro e w' ⟨rfl, rfl⟩
      go_wp2_with fail
      refine (set_newR [5] 32 _ _ _ _ _ _ (by kernel_rfl) rfl (by simp) rfl (by decide) (by decide)).mono ?_
      rintro e w' ⟨rfl, rfl⟩
      go_wp2_with fail
      refine (set_newR [9] 512 _ _ _ _ _ _ (by kernel_rfl) rfl (by simp) rfl (by decide) (by decide)).mono ?_
      rintro e w' ⟨rfl, rfl⟩
      go_wp2_with fail
      refine bodyPost_ret (v := (ofC 8).v) (by simp only [results, Try.results11, ofC, Cp.v]; go_simp) rfl ⟨rfl, ?_⟩
      repeat (first | with_reducible exact hB | with_reducible refine Below.alloc ?_ (by simp; try omega) _ | with_reducible refine Below.setCell ?_ (by simp) _)
end Go.Proofs.Ytfgglegimajghaa
