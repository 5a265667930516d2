/- The capabilities of the formats, as the package has them. -/
import Derived.Test.YtfgglegimajghaaDa
import Derived.Deep.RegionWith
namespace Go.Proofs.Ytfgglegimajghaa
open Go.RowKit
theorem set_new (ks : List Int) (m : Int) (n b cap : Nat) (W : World) (vs : Array Value) (T : TypeId) (hm : maskOf ks = m) (hn : ks.length = n) (hb : W.heap.size = b) (hv : (ks.map fun k => Value.int .i64 k).toArray = vs) (hl : ks.length ≤ 16) (hk : ∀ k ∈ ks, 0 ≤ k ∧ k < 16) :
    Calls Try.prog 20 #[.slice (some ⟨b, 0, none⟩) n cap] (W.alloc (.cells vs T)) fun e w' => e = .returned (.int .u16 m) ∧ W.alloc (.cells vs T) = w' := by
  subst hv hn hb hm
  refine set_any ks W.heap.size 0 cap _ hl hk ?_
  intro i hi
  simp [World.cell?_alloc_new, hi]
theorem set_newd (ks : List Int) (m : Int) (n b cap : Nat) (W : World) (vs : Array Value) (T : TypeId) (hm : maskOf ks = m) (hn : ks.length = n) (hb : W.heap.size = b) (hv : (ks.map fun k => Value.int .i64 k).toArray = vs) (hl : ks.length ≤ 16) (hk : ∀ k ∈ ks, 0 ≤ k ∧ k < 16) :
    Calls Try.prog 20 #[.slice (some ⟨b, 0, none⟩) n cap] (W.alloc (.cells vs T)).drew fun e w' => e = .returned (.int .u16 m) ∧ (W.alloc (.cells vs T)).drew = w' := by
  subst hv hn hb hm
  refine set_any ks W.heap.size 0 cap _ hl hk ?_
  intro i hi
  simp [World.cell?_alloc_new, hi]
/-- the table of the formats -/
def ofC : Nat → Cp
  | 0 => ⟨1583, 32, 1583, 0, 32, 0, false, false, false, true⟩
  | 1 => ⟨3711, 127, 3711, 0, 32, 0, false, true, true, true⟩
  | 2 => ⟨1966, 32, 1024, 64, 32, 0, false, false, false, true⟩
  | 3 => ⟨1056, 32, 1024, 0, 2, 1, false, false, false, true⟩
  | 4 => ⟨4095, 4095, 4095, 0, 32, 0, true, true, true, true⟩
  | 5 => ⟨1636, 32, 1636, 0, 32, 0, false, false, false, false⟩
  | 6 => ⟨3839, 255, 3839, 0, 32, 0, false, true, true, true⟩
  | 7 => ⟨1774, 32, 1774, 0, 32, 0, false, false, false, true⟩
  | 8 => ⟨2047, 32, 512, 0, 2, 2, false, false, false, true⟩
  | _ => Cp.zero
set_option maxHeartbeats 1000000 in
theorem of0 (w : World) : Calls Try.prog 10 #[.int .i64 0] w fun e w' => e = .returned (.tuple #[(ofC 0).v, .int .i64 0]) ∧ Below w.heap.size w w' := by
  go_enter Try.func10, Try.ntmps10
  go_wp2_with fail
  refine (set_new [5] 32 _ _ _ _ _ _ (by kernel_rfl) rfl (by simp) rfl (by decide) (by decide)).mono ?_
  rintro e w' ⟨rfl, rfl⟩
  go_wp2_with fail
  refine (set_new [0, 1, 2, 3, 5, 9, 10] 1583 _ _ _ _ _ _ (by kernel_rfl) rfl (by simp) rfl (by decide) (by decide)).mono ?_
  rintro e w' ⟨rfl, rfl⟩
  go_wp2_with fail
  all_goals refine bodyPost_ret (v := .tuple #[(ofC 0).v, .int .i64 0]) (by simp only [results, Try.results10, ofC, Cp.v]; go_simp) rfl ⟨rfl, ?_⟩
  all_goals repeat (first | exact Below.refl _ _ | refine Below.alloc ?_ (by simp; try omega) _ | refine Below.drew ?_)
set_option maxHeartbeats 1000000 in
theorem of1 (w : World) : Calls Try.prog 10 #[.int .i64 1] w fun e w' => e = .returned (.tuple #[(ofC 1).v, .int .i64 0]) ∧ Below w.heap.size w w' := by
  have e3839 : bits .andNot .u16 4095 256 = 3839 := by kernel_rfl
  have e3711 : bits .andNot .u16 3839 128 = 3711 := by kernel_rfl
  have e127 : bits .and .u16 3711 511 = 127 := by kernel_rfl
  go_enter Try.func10, Try.ntmps10
  go_wp2_with fail
  refine (set_new [5] 32 _ _ _ _ _ _ (by kernel_rfl) rfl (by simp) rfl (by decide) (by decide)).mono ?_
  rintro e w' ⟨rfl, rfl⟩
  go_wp2_with fail
  refine (set_new [8] 256 _ _ _ _ _ _ (by kernel_rfl) rfl (by simp) rfl (by decide) (by decide)).mono ?_
  rintro e w' ⟨rfl, rfl⟩
  go_wp2_with fail
  go_region_with (go_at_call 20; refine (set_newd [7] 128 _ _ _ _ _ _ (by kernel_rfl) rfl (by simp) rfl (by decide) (by decide)).mono ?_; rintro e w' ⟨rfl, rfl⟩)
  all_goals go_wp2_with fail
  all_goals refine bodyPost_ret (v := .tuple #[(ofC 1).v, .int .i64 0]) (by simp only [results, Try.results10, ofC, Cp.v]; go_simp) rfl ⟨rfl, ?_⟩
  all_goals repeat (first | exact Below.refl _ _ | refine Below.alloc ?_ (by simp; try omega) _ | refine Below.drew ?_)
set_option maxHeartbeats 1000000 in
theorem of2 (w : World) : Calls Try.prog 10 #[.int .i64 2] w fun e w' => e = .returned (.tuple #[(ofC 2).v, .int .i64 0]) ∧ Below w.heap.size w w' := by
  go_enter Try.func10, Try.ntmps10
  go_wp2_with fail
  refine (set_new [5] 32 _ _ _ _ _ _ (by kernel_rfl) rfl (by simp) rfl (by decide) (by decide)).mono ?_
  rintro e w' ⟨rfl, rfl⟩
  go_wp2_with fail
  refine (set_new [1, 2, 3, 5, 7, 8, 9, 10] 1966 _ _ _ _ _ _ (by kernel_rfl) rfl (by simp) rfl (by decide) (by decide)).mono ?_
  rintro e w' ⟨rfl, rfl⟩
  go_wp2_with fail
  refine (set_new [10] 1024 _ _ _ _ _ _ (by kernel_rfl) rfl (by simp) rfl (by decide) (by decide)).mono ?_
  rintro e w' ⟨rfl, rfl⟩
  go_wp2_with fail
  all_goals refine bodyPost_ret (v := .tuple #[(ofC 2).v, .int .i64 0]) (by simp only [results, Try.results10, ofC, Cp.v]; go_simp) rfl ⟨rfl, ?_⟩
  all_goals repeat (first | exact Below.refl _ _ | refine Below.alloc ?_ (by simp; try omega) _ | refine Below.drew ?_)
set_option maxHeartbeats 1000000 in
theorem of3 (w : World) : Calls Try.prog 10 #[.int .i64 3] w fun e w' => e = .returned (.tuple #[(ofC 3).v, .int .i64 0]) ∧ Below w.heap.size w w' := by
  go_enter Try.func10, Try.ntmps10
  go_wp2_with fail
  refine (set_new [5] 32 _ _ _ _ _ _ (by kernel_rfl) rfl (by simp) rfl (by decide) (by decide)).mono ?_
  rintro e w' ⟨rfl, rfl⟩
  go_wp2_with fail
  refine (set_new [5, 10] 1056 _ _ _ _ _ _ (by kernel_rfl) rfl (by simp) rfl (by decide) (by decide)).mono ?_
  rintro e w' ⟨rfl, rfl⟩
  go_wp2_with fail
  refine (set_new [10] 1024 _ _ _ _ _ _ (by kernel_rfl) rfl (by simp) rfl (by decide) (by decide)).mono ?_
  rintro e w' ⟨rfl, rfl⟩
  go_wp2_with fail
  all_goals refine bodyPost_ret (v := .tuple #[(ofC 3).v, .int .i64 0]) (by simp only [results, Try.results10, ofC, Cp.v]; go_simp) rfl ⟨rfl, ?_⟩
  all_goals repeat (first | exact Below.refl _ _ | refine Below.alloc ?_ (by simp; try omega) _ | refine Below.drew ?_)
set_option maxHeartbeats 1000000 in
theorem of4 (w : World) : Calls Try.prog 10 #[.int .i64 4] w fun e w' => e = .returned (.tuple #[(ofC 4).v, .int .i64 0]) ∧ Below w.heap.size w w' := by
  go_enter Try.func10, Try.ntmps10
  go_wp2_with fail
  refine (set_new [5] 32 _ _ _ _ _ _ (by kernel_rfl) rfl (by simp) rfl (by decide) (by decide)).mono ?_
  rintro e w' ⟨rfl, rfl⟩
  go_wp2_with fail
  all_goals refine bodyPost_ret (v := .tuple #[(ofC 4).v, .int .i64 0]) (by simp only [results, Try.results10, ofC, Cp.v]; go_simp) rfl ⟨rfl, ?_⟩
  all_goals repeat (first | exact Below.refl _ _ | refine Below.alloc ?_ (by simp; try omega) _ | refine Below.drew ?_)
set_option maxHeartbeats 1000000 in
theorem of5 (w : World) : Calls Try.prog 10 #[.int .i64 5] w fun e w' => e = .returned (.tuple #[(ofC 5).v, .int .i64 0]) ∧ Below w.heap.size w w' := by
  go_enter Try.func10, Try.ntmps10
  go_wp2_with fail
  refine (set_new [5] 32 _ _ _ _ _ _ (by kernel_rfl) rfl (by simp) rfl (by decide) (by decide)).mono ?_
  rintro e w' ⟨rfl, rfl⟩
  go_wp2_with fail
  refine (set_new [2, 5, 6, 9, 10] 1636 _ _ _ _ _ _ (by kernel_rfl) rfl (by simp) rfl (by decide) (by decide)).mono ?_
  rintro e w' ⟨rfl, rfl⟩
  go_wp2_with fail
  all_goals refine bodyPost_ret (v := .tuple #[(ofC 5).v, .int .i64 0]) (by simp only [results, Try.results10, ofC, Cp.v]; go_simp) rfl ⟨rfl, ?_⟩
  all_goals repeat (first | exact Below.refl _ _ | refine Below.alloc ?_ (by simp; try omega) _ | refine Below.drew ?_)
set_option maxHeartbeats 1000000 in
theorem of6 (w : World) : Calls Try.prog 10 #[.int .i64 6] w fun e w' => e = .returned (.tuple #[(ofC 6).v, .int .i64 0]) ∧ Below w.heap.size w w' := by
  have e3839 : bits .andNot .u16 4095 256 = 3839 := by kernel_rfl
  have e255 : bits .and .u16 3839 511 = 255 := by kernel_rfl
  go_enter Try.func10, Try.ntmps10
  go_wp2_with fail
  refine (set_new [5] 32 _ _ _ _ _ _ (by kernel_rfl) rfl (by simp) rfl (by decide) (by decide)).mono ?_
  rintro e w' ⟨rfl, rfl⟩
  go_wp2_with fail
  refine (set_new [8] 256 _ _ _ _ _ _ (by kernel_rfl) rfl (by simp) rfl (by decide) (by decide)).mono ?_
  rintro e w' ⟨rfl, rfl⟩
  go_wp2_with fail
  all_goals refine bodyPost_ret (v := .tuple #[(ofC 6).v, .int .i64 0]) (by simp only [results, Try.results10, ofC, Cp.v]; go_simp) rfl ⟨rfl, ?_⟩
  all_goals repeat (first | exact Below.refl _ _ | refine Below.alloc ?_ (by simp; try omega) _ | refine Below.drew ?_)
set_option maxHeartbeats 1000000 in
theorem of7 (w : World) : Calls Try.prog 10 #[.int .i64 7] w fun e w' => e = .returned (.tuple #[(ofC 7).v, .int .i64 0]) ∧ Below w.heap.size w w' := by
  go_enter Try.func10, Try.ntmps10
  go_wp2_with fail
  refine (set_new [5] 32 _ _ _ _ _ _ (by kernel_rfl) rfl (by simp) rfl (by decide) (by decide)).mono ?_
  rintro e w' ⟨rfl, rfl⟩
  go_wp2_with fail
  refine (set_new [1, 2, 3, 5, 6, 7, 9, 10] 1774 _ _ _ _ _ _ (by kernel_rfl) rfl (by simp) rfl (by decide) (by decide)).mono ?_
  rintro e w' ⟨rfl, rfl⟩
  go_wp2_with fail
  all_goals refine bodyPost_ret (v := .tuple #[(ofC 7).v, .int .i64 0]) (by simp only [results, Try.results10, ofC, Cp.v]; go_simp) rfl ⟨rfl, ?_⟩
  all_goals repeat (first | exact Below.refl _ _ | refine Below.alloc ?_ (by simp; try omega) _ | refine Below.drew ?_)
set_option maxHeartbeats 1000000 in
theorem of8 (w : World) : Calls Try.prog 10 #[.int .i64 8] w fun e w' => e = .returned (.tuple #[(ofC 8).v, .int .i64 0]) ∧ Below w.heap.size w w' := by
  have e2047 : bits .andNot .u16 4095 2048 = 2047 := by kernel_rfl
  go_enter Try.func10, Try.ntmps10
  go_wp2_with fail
  refine (set_new [5] 32 _ _ _ _ _ _ (by kernel_rfl) rfl (by simp) rfl (by decide) (by decide)).mono ?_
  rintro e w' ⟨rfl, rfl⟩
  go_wp2_with fail
  refine (set_new [11] 2048 _ _ _ _ _ _ (by kernel_rfl) rfl (by simp) rfl (by decide) (by decide)).mono ?_
  rintro e w' ⟨rfl, rfl⟩
  go_wp2_with fail
  refine (set_new [9] 512 _ _ _ _ _ _ (by kernel_rfl) rfl (by simp) rfl (by decide) (by decide)).mono ?_
  rintro e w' ⟨rfl, rfl⟩
  go_wp2_with fail
  all_goals refine bodyPost_ret (v := .tuple #[(ofC 8).v, .int .i64 0]) (by simp only [results, Try.results10, ofC, Cp.v]; go_simp) rfl ⟨rfl, ?_⟩
  all_goals repeat (first | exact Below.refl _ _ | refine Below.alloc ?_ (by simp; try omega) _ | refine Below.drew ?_)
set_option maxHeartbeats 1000000 in
theorem ofBad (f : Int) (w : World) (h0 : (f == 0) = false) (h1 : (f == 1) = false) (h2 : (f == 2) = false) (h3 : (f == 3) = false) (h4 : (f == 4) = false) (h5 : (f == 5) = false) (h6 : (f == 6) = false) (h7 : (f == 7) = false) (h8 : (f == 8) = false) :
    Calls Try.prog 10 #[.int .i64 f] w fun e w' => e = .returned (.tuple #[Cp.zero.v, .int .i64 1]) ∧ Below w.heap.size w w' := by
  go_enter Try.func10, Try.ntmps10
  go_wp2_with fail
  refine (set_new [5] 32 _ _ _ _ _ _ (by kernel_rfl) rfl (by simp) rfl (by decide) (by decide)).mono ?_
  rintro e w' ⟨rfl, rfl⟩
  go_wp2_with fail
  all_goals refine bodyPost_ret (v := .tuple #[Cp.zero.v, .int .i64 1]) (by simp only [results, Try.results10, Cp.zero, Cp.v]; go_simp) rfl ⟨rfl, ?_⟩
  all_goals repeat (first | exact Below.refl _ _ | refine Below.alloc ?_ (by simp; try omega) _ | refine Below.drew ?_)
end Go.Proofs.Ytfgglegimajghaa
