/- CanonLong: Key of a small graph that unfolds to a text of more than MaxSource bytes answers ErrLong, else a text of the counted size; ParseKey of a longer string answers ErrLong; and the chapter's examples hold. No condition: every input; the tables that the row lists are tied to the program's text by the card. -/
import Derived.SevenTiedAt
import Derived.LaidMore
import Derived.LaidHandle
import Derived.MakeChecks
import Derived.Lib.LaidU8T
import Derived.PinnedBridge
import Derived.ProofKit
import Derived.OpenShut
import Derived.Stop.Joined
import Derived.Test.YtgnclgbmfmibiaaGreatDoorEvM1m
import Derived.Test.YtgnclgbmfmibiaaGreatDoorEvM2m
import Derived.Test.YtgnclgbmfmibiaaGreatDoorEvM3m
import Derived.Test.YtgnclgbmfmibiaaGreatDoorEvM4m
import Derived.Test.YtgnclgbmfmibiaaGreatDoorEvM5m
import Derived.Test.YtgnclgbmfmibiaaGreatDoorEvM6m
import Derived.Test.YtgnclgbmfmibiaaGreatDoorEvM7m
import Derived.Test.YtgnclgbmfmibiaaGreatDoorEvM8m
import Derived.Test.YtgnclgbmfmibiaaGreatDoorP04
import Derived.Test.YtgnclgbmfmibiaaGreatDoorTie
import Derived.Test.YtgnclgbmfmibiaaGreatDoorCards
/- The examples, by the calls written down. -/
namespace Go.Proofs.YtgnclgbmfmibiaaGreatDoor
open Go.Ev
theorem in_0 (m : Memo) (hm : m ∈ [m1, m3, m4, m5]) : m.f = 5 ∧ MemoSound Tryz.prog m := by
  cases hm with
  | head => exact ⟨rfl, m1_sound⟩
  | tail _ hm =>
  cases hm with
  | head => exact ⟨rfl, m3_sound⟩
  | tail _ hm =>
  cases hm with
  | head => exact ⟨rfl, m4_sound⟩
  | tail _ hm =>
  cases hm with
  | head => exact ⟨rfl, m5_sound⟩
  | tail _ hm =>
  cases hm
theorem in_1 (m : Memo) (hm : m ∈ [m2]) : m.f = 4 ∧ MemoSound Tryz.prog m := by
  cases hm with
  | head => exact ⟨rfl, m2_sound⟩
  | tail _ hm =>
  cases hm
theorem in_2 (m : Memo) (hm : m ∈ [m6]) : m.f = 13 ∧ MemoSound Tryz.prog m := by
  cases hm with
  | head => exact ⟨rfl, m6_sound⟩
  | tail _ hm =>
  cases hm
theorem in_3 (m : Memo) (hm : m ∈ [m7, m8]) : m.f = 14 ∧ MemoSound Tryz.prog m := by
  cases hm with
  | head => exact ⟨rfl, m7_sound⟩
  | tail _ hm =>
  cases hm with
  | head => exact ⟨rfl, m8_sound⟩
  | tail _ hm =>
  cases hm
def sumsA : FuncId → Option (Array Value → St → Option Er) := (withM (withM (withM (withM sums0 5 [m1, m3, m4, m5]) 4 [m2]) 13 [m6]) 14 [m7, m8])
theorem sumsA_sound : ∀ g s, sumsA g = some s → ∀ args σ r, s args σ = some r → CallSound Tryz.prog g args σ r := (withM_sound (withM_sound (withM_sound (withM_sound sums0_sound (l := [m1, m3, m4, m5]) (f0 := 5) in_0) (l := [m2]) (f0 := 4) in_1) (l := [m6]) (f0 := 13) in_2) (l := [m7, m8]) (f0 := 14) in_3)
theorem awake_ok : isTrue (evRun Tryz.prog sumsA 400 100 6 #[] (startS 100)) = true := by kernel_rfl
open Go.RowKit in
theorem awake_true (w : World) : Calls Tryz.prog 6 #[] w fun e w' => e = .returned (.bool true) ∧ Below w.heap.size w w' := true_of awake_ok (fun _ h => evM sumsA_sound 100 h) w
end Go.Proofs.YtgnclgbmfmibiaaGreatDoor
/- The law CanonLong: its walk. -/
namespace Go.Proofs.YtgnclgbmfmibiaaGreatDoor
open Go.RowKit
open Go.Lib hiding intOf
theorem sizeK_bd (e : Nat) (he : e ≤ 255) : ∀ n, 0 ≤ sizeK e n ∧ sizeK e n ≤ 1048576 := by
  intro n
  induction n with
  | zero => simp only [sizeK]; omega
  | succ n ih => simp only [sizeK]; omega
set_option maxHeartbeats 4000000 in
set_option maxRecDepth 100000 in
theorem long_any (x0 x1 : Int) (h0 : (Lit.int .u8 x0).wf = true) (h1 : (Lit.int .u8 x1).wf = true) (w : World) :
    Calls Tryz.prog 3 #[.int .u8 x0, .int .u8 x1] w fun e w' => e = .returned (.bool true) ∧ Below w.heap.size w w' := by
  have b0 : 0 ≤ x0 ∧ x0 ≤ 255 := by simp [Lit.wf, IntKind.min, IntKind.max, IntKind.signed, IntKind.bits] at h0; omega
  have b1 : 0 ≤ x1 ∧ x1 ≤ 255 := by simp [Lit.wf, IntKind.min, IntKind.max, IntKind.signed, IntKind.bits] at h1; omega
  obtain ⟨a, rfl⟩ : ∃ a : Nat, x0 = a := ⟨x0.toNat, by omega⟩
  obtain ⟨b, rfl⟩ : ∃ b : Nat, x1 = b := ⟨x1.toNat, by omega⟩
  obtain ⟨n, hn⟩ : ∃ n : Nat, a % 31 = n := ⟨_, rfl⟩
  have hn31 : n < 31 := by omega
  have hmod : (a : Int) % 31 = (n : Int) := by omega
  have htmod : Int.tmod (a : Int) 31 = (n : Int) := by rw [Int.tmod_eq_emod_of_nonneg (by omega)]; exact hmod
  have ha2 : a ≤ 255 := by omega
  have hb2 : b ≤ 255 := by omega
  have hmk := zero_make b (by omega)
  have hcv := zero_str b
  have HST := PLift.up (LI.start w b)
  clear hn h0 h1 b0 b1
  unfold zrow at hmk hcv
  go_enter Tryz.func3, Tryz.ntmps3
  go_wp2
  clear hmod htmod hmk hcv
  go_loopw [7, 27] (fun sz iv wr => ∃ i : Nat, iv = .int .i64 i ∧ i ≤ n ∧ sz = .int .i64 (sizeK b i) ∧ ∃ v, LI w b i v wr) (fun _ iv _ => n - (intOf iv).toNat)
  case atStart => exact ⟨0, rfl, Nat.zero_le _, rfl, _, HST.down⟩
  case round =>
    obtain ⟨i, rfl, hi, rfl, v, hI⟩ := hrel
    obtain ⟨y, hy⟩ : ∃ y, sizeK b i = y := ⟨_, rfl⟩
    have hyb := sizeK_bd b hb2 i
    have hys : sizeK b (i + 1) = min (2 * sizeK b i + 3) 1048576 := rfl
    rw [hy] at hyb hys ⊢
    have HY := PLift.up hy
    have HYS := PLift.up hys
    have HI := PLift.up hI
    obtain ⟨xs, ho, hf⟩ := hI.row
    have HO := PLift.up ho
    have HF := PLift.up hf
    have c0 : wr.cell? ⟨w.heap.size + 1 + 1, 0, none⟩ = some v := (Lib.cell_of_heap hI.box 0).trans rfl
    have c1 : wr.cell? ⟨w.heap.size + 1 + 1, 1, none⟩ = some (.int .i64 0) := (Lib.cell_of_heap hI.box 1).trans rfl
    have f0 : ∀ o, wr.frozen? ⟨w.heap.size + 1 + 1, o, none⟩ = false := fun o => Lib.frozen_of_heap hI.box o
    clear hy hys hI ho hf
    by_cases hil : i < n
    · have hil2 : (i : Int) < (n : Int) := by omega
      obtain ⟨i0, hi0, hz0, hz1, hz2⟩ := info_parts info_node
      have HI0 := PLift.up (And.intro hi0 (And.intro hz0 (And.intro hz1 hz2)))
      clear hi0 hz0 hz1 hz2
      have HNW := PLift.up (Lib.cell_of_heap (heap_alloc_new (wr.alloc (.cells #[.int .i64 i, .int .i64 i] 3)) (.cells #[.int .i64 9, .string ⟨#[]⟩, .bool false, .slice none 0 0, .slice (some ⟨wr.heap.size, 0, none⟩) 2 2] 25)))
      have HOWN := PLift.up (World.ownsRow.alloc (World.ownsRow.alloc HO.down (.cells #[.int .i64 i, .int .i64 i] 3)) (.cells #[.int .i64 9, .string ⟨#[]⟩, .bool false, .slice none 0 0, .slice (some ⟨wr.heap.size, 0, none⟩) 2 2] 25))
      have HBS : PLift (w.heap.size ≤ ((wr.alloc (.cells #[.int .i64 i, .int .i64 i] 3)).alloc (.cells #[.int .i64 9, .string ⟨#[]⟩, .bool false, .slice none 0 0, .slice (some ⟨wr.heap.size, 0, none⟩) 2 2] 25)).heap.size) := ⟨by have := HI.down.below.size; rw [size_new, size_new]; omega⟩
      have HS1 := PLift.up (size_new wr (.cells #[.int .i64 i, .int .i64 i] 3))
      go_upto_region 7 with fail
      go_wp2_with (at_builtin; refine wpList_append_new _ rfl _ _ 26 rfl w.heap.size 25 i0 (.agg #[.int .i64 0, .string ⟨#[]⟩, .bool false, .slice none 0 0, .slice none 0 0]) 5 80 Tryz.underlying26 HI0.down.1 HI0.down.2.1 HI0.down.2.2.1 HI0.down.2.2.2 node_cells (by decide) v (i + 1) xs rfl HOWN.down ⟨wr.heap.size + 1, 0, none⟩ 1 1 [.int .i64 9, .string ⟨#[]⟩, .bool false, .slice none 0 0, .slice (some ⟨wr.heap.size, 0, none⟩) 2 2] rfl rfl (by
        intro j u hj
        have h2 : (⟨wr.heap.size + 1, 0, none⟩ : Addr).add j = ⟨wr.heap.size + 1, j, none⟩ := by unfold Addr.add; split <;> simp_all
        rw [h2, ← HS1.down, HNW.down j, ← hj]; simp) (by simp [Value.oneCell']) (by decide) (by unfold maxLen; omega) (by omega) HBS.down ?_)
      rintro v' w4 hown4 hg4 -
      obtain ⟨A4, c4, hv4⟩ := own_shape hown4
      subst hv4
      have hst := HI.down.step HF.down HO.down hown4 hg4
      have HST2 := PLift.up hst.1
      have c0 : w4.cell? ⟨w.heap.size + 1 + 1, 0, none⟩ = some v := (Lib.cell_of_heap hst.2 0).trans rfl
      have f0 : ∀ o, w4.frozen? ⟨w.heap.size + 1 + 1, o, none⟩ = false := fun o => Lib.frozen_of_heap hst.2 o
      clear hst hown4 hg4
      go_wp2
      go_roundw
      case rel => exact ⟨i + 1, by go_num, by omega, by rw [HYS.down], _, HST2.down⟩
      case measure => simp [intOf]; omega
    · obtain rfl : i = n := by omega
      have HRT := PLift.up (HI.down.rooted hn31)
      rw [show w.heap.size + 2 = w.heap.size + 1 + 1 from rfl] at HRT
      go_upto_region 11 with fail
      obtain ⟨W1, hW1⟩ : ∃ W1, wr.setCell ⟨w.heap.size + 1 + 1, 1, none⟩ (.int .i64 i) = W1 := ⟨_, rfl⟩
      rw [hW1] at HRT ⊢
      have c0 : W1.cell? ⟨w.heap.size + 1 + 1, 0, none⟩ = some v := (Lib.cell_of_heap HRT.down.2.2 0).trans rfl
      have c1 : W1.cell? ⟨w.heap.size + 1 + 1, 1, none⟩ = some (.int .i64 i) := (Lib.cell_of_heap HRT.down.2.2 1).trans rfl
      by_cases hbig : 65536 < y
      · have HKY := PLift.up (key_big W1 _ b i hb2 hn31 HRT.down.1 (by rw [HY.down]; exact hbig))
        obtain ⟨s, hs, hpk⟩ := pk_big
        have hmk := fun wx => (hs wx).1
        have hcv := fun wx => (hs wx).2
        have HPK := PLift.up hpk
        clear hs hpk
        go_wp2_with (first
          | (go_at_call 4; refine HKY.down.mono ?_; rintro e w2 ⟨hb2, rfl⟩; have HB2 := PLift.up (HRT.down.2.1.trans (hb2.mono HRT.down.2.1.size)); clear hb2)
          | (go_at_call 5; refine (HPK.down _).mono ?_; rintro e w3 ⟨rfl, hb3⟩; have HB3 := PLift.up hb3; clear hb3)
          | (go_at_call 6; refine (awake_true _).mono ?_; rintro e w4 ⟨rfl, hb4⟩; have HB4 := PLift.up hb4; clear hb4))
        go_ret
        have h2 := HB2.down.alloc HB2.down.size (zrow 65537)
        have h3 := h2.trans (HB3.down.mono h2.size)
        have h4 := h3.alloc h3.size (.cells #[.slice none 0 0, .int .i64 0] 28)
        exact ⟨rfl, h4.trans (HB4.down.mono h4.size)⟩
      · obtain ⟨s, hs, hk⟩ := key_small W1 _ b i hb2 hn31 HRT.down.1 (by rw [HY.down]; exact hbig)
        rw [HY.down] at hs
        have HKY := PLift.up hk
        clear hk
        go_wp2_with (first
          | (go_at_call 4; refine HKY.down.mono ?_; rintro e w2 ⟨hb2, rfl⟩; have HB2 := PLift.up (HRT.down.2.1.trans (hb2.mono HRT.down.2.1.size)); clear hb2)
          | (go_at_call 6; refine (awake_true _).mono ?_; rintro e w4 ⟨rfl, hb4⟩; have HB4 := PLift.up hb4; clear hb4))
        go_ret
        exact ⟨rfl, HB2.down.trans (HB4.down.mono HB2.down.size)⟩
end Go.Proofs.YtgnclgbmfmibiaaGreatDoor
namespace Go.Proofs.YtgnclgbmfmibiaaGreatDoor
open Go.ChangeShapes Go.WideShapes Go.ChangeAt Go.RowKit Go.Shelf
theorem own : ownKnob Tryz.prog.godebug = none := by kernel_rfl
/-- the witness: the heap that the program's own start leaves, and the pinned table -/
noncomputable def ww (os : Os) : World :=
  let w0 := World.doorLaid Tryz.prog 77 os
  { w0 with heap := w0.heap.modify 2 fun
    | .cells _ t fr => .cells (Lib.firstTab.map fun z => Value.int .u8 z).toArray t fr
    | o => o }
set_option maxRecDepth 1000000 in
theorem ww_met (os : Os) (args : Array Value) : laidMetH Tryz.prog Rows.canonLongRow.laid ((ww os).forCall (fun _ _ => 0) ⟨#[], args, []⟩).memory :=
  laidMetH_of_parts3 (fuel := 8) (laidMet_of_run' 8 (by kernel_rfl) (by kernel_rfl)) (by kernel_rfl) (by kernel_rfl)
set_option maxRecDepth 1000000 in
theorem long_lifted (os : Os) (started : os.Started) (H : Type) (enc : TypeId × Value → H) :
    ReturnsInHanded {} Tryz.checked os 3 .any (fun w args => (Rows.canonLongSpec.pre enc Tryz.prog Tryz.f3 [] false w args ∧ laidMetH Tryz.prog Rows.canonLongRow.laid w) ∧ sizedMet enc Tryz.prog Tryz.f3 (OpenSpec.ofChange Rows.canonLongSpec) false w args)
      (Rows.canonLongSpec.post enc Tryz.prog Tryz.f3 false true false false) := by
  refine returnsInHanded_of_change_and (C := Tryz.checked) (X := fun w _ => laidMetH Tryz.prog Rows.canonLongRow.laid w) (fun _ _ _ hh h => h.of_heap hh) own started (by kernel_rfl) Tryz.func3
    (ChangeSpec.witness_shaped (enc := enc) (C := Tryz.checked) (os := os) (X := fun w _ => laidMetH Tryz.prog Rows.canonLongRow.laid w) false (ww os) #[.int .u8 0, .int .u8 0] 8 rfl (World.shaped_of_RefB (by kernel_rfl) (by kernel_rfl)) (by kernel_rfl) (by kernel_rfl) (by kernel_rfl) (ww_met os _)) ?_
  intro W base args ds gs before hval0 hW _ _ _ _
  have hval : ∀ (j : Nat) t v, Tryz.f3.params[j]? = some t → args[j]? = some v → Value.okWide Tryz.prog W .any base t v := hval0
  have hW' := hW
  have hlt : ∀ p ∈ before, p.block < W.heap.size := fun p hp => hW'.lt p hp
  obtain ⟨p, q, hA0, hV, rfl, hfz, hnd⟩ := hW
  have hA : DataW.TrodAll enc Tryz.prog W 0 (fun _ => true) true Tryz.f3.params.toList args.toList ds p := hA0
  rw [Tryz.params3] at hA hval
  obtain ⟨v0, vs0, d0, ds0, p0, q0, hargs, rfl, rfl, h0, r0⟩ := trodAll_cons hA
  obtain ⟨v1, vs1, d1, ds1, p1, q1, rfl, rfl, rfl, h1, r1⟩ := trodAll_cons r0
  obtain ⟨rfl, rfl, rfl⟩ := trodAll_nil r1
  obtain rfl : args = #[v0, v1] := by cases args; simp_all
  obtain ⟨rfl, rfl⟩ := trodVars_none hV
  have k0 : ∀ W', Below W.heap.size W W' → DataW.Trod enc Tryz.prog W' 0 (fun b => decide (b < W.heap.size)) true 5 v0 d0 p0 := fun W' hb => Below.trod (by kernel_rfl) (by kernel_rfl) (of_decide_eq_true (by kernel_rfl)) h0 hb (fun x hx => hlt x (by simp [hx]))
  have k1 : ∀ W', Below W.heap.size W W' → DataW.Trod enc Tryz.prog W' 0 (fun b => decide (b < W.heap.size)) true 5 v1 d1 p1 := fun W' hb => Below.trod (by kernel_rfl) (by kernel_rfl) (of_decide_eq_true (by kernel_rfl)) h1 hb (fun x hx => hlt x (by simp [hx]))
  obtain ⟨x0, e0, _, _, w0⟩ := open_int Tryz.underlying5 (hval 0 5 v0 rfl rfl) h0
  obtain ⟨x1, e1, _, _, w1⟩ := open_int Tryz.underlying5 (hval 1 5 v1 rfl rfl) h1
  clear hA0 hval0 h0 h1
  subst e0 e1
  refine (long_any x0 x1 w0 w1 W).mono fun e W' ⟨he, hb⟩ => ?_
  subst he
  exact ⟨_, rfl, _, _, _, [], _, [], hW', (trodAll_cons_mk (shut_bool Tryz.underlying4 _) trodAll_mk0), (trodAll_cons_mk (k0 W' hb) (trodAll_cons_mk (k1 W' hb) trodAll_mk0)), rfl, hb.frame _, fun h => by cases h⟩
theorem long_holds : Rows.CanonLongSaid :=
  OpenClaim.holds_of_wide 3 Tryz.f3 rfl rfl rfl rfl rfl rfl rfl ⟨rfl, rfl, rfl, rfl, rfl⟩ rfl rfl rfl rfl rfl (by kernel_rfl) Tryz.func3 (by kernel_rfl)
    (of_decide_eq_true (by kernel_rfl)) (by unfold Func.isWrapper; first | (rw [if_pos (by decide +kernel)]; kernel_rfl) | (rw [if_neg (by decide +kernel)]; exact ⟨rfl, rfl⟩))
    (fun os started H enc _ => long_lifted os started H enc)
theorem long_card_holds : Rows.CanonLongCardSaid :=
  Claim7.holds_tied_plain_at .later [] [.data, .data, .data, .data, .sentinel, .sentinel, .pinned] true (true, "8f5f3f4d23b26d07565b7594f2e0cfddc50e62d8732b7f99ba8e33500218854b") true
    long_holds (fun _ h => by cases h) (by kernel_rfl) (fun _ h => by cases h) canonLong_row_tie rfl ⟨rfl, rfl⟩ (by kernel_rfl) rfl
    (fun f fn hf hfn => by
      obtain rfl : f = 3 := Option.some.inj ((show Tryz.prog.funcNamed "rosetta/rosettalaw11.CanonLong" = some 3 by kernel_rfl).symm.trans hf) |>.symm
      obtain rfl : fn = Tryz.f3 := (Option.some.inj (Tryz.func3.symm.trans hfn)).symm
      exact ⟨by kernel_rfl, fun j t ht => by
        rw [Tryz.params3] at ht
        have h3 : t = 5 := by
          rcases j with _ | _ | j
          · simpa using ht.symm
          · simpa using ht.symm
          · simp at ht
        subst h3
        exact (show Tryz.prog.wantsStandIn 5 = false by kernel_rfl)⟩)
    (by kernel_rfl)
#print axioms long_card_holds
end Go.Proofs.YtgnclgbmfmibiaaGreatDoor
