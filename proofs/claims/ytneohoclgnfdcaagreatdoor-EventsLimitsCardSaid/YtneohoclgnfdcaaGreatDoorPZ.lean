/- EventsLimits: Check of lists nested to a depth answers ErrDeep just where the depth is greater than MaxDepth + 1, at that event; Check of a list of nulls answers ErrMany just where it has more than MaxNodes nodes, at that event; and the chapter's examples hold. No condition: every input; the tables that the row lists are tied to the program's text by the card. -/
import Derived.SevenTiedAt
import Derived.LaidMore
import Derived.LaidHandle
import Derived.MakeChecks
import Derived.Lib.LaidU8T
import Derived.PinnedBridge
import Derived.ProofKit
import Derived.OpenShut
import Derived.Stop.Joined
import Derived.Test.YtneohoclgnfdcaaGreatDoorEvM1m
import Derived.Test.YtneohoclgnfdcaaGreatDoorEvM2m
import Derived.Test.YtneohoclgnfdcaaGreatDoorEvM3m
import Derived.Test.YtneohoclgnfdcaaGreatDoorEvM4m
import Derived.Test.YtneohoclgnfdcaaGreatDoorEvM5m
import Derived.Test.YtneohoclgnfdcaaGreatDoorP02
import Derived.Test.YtneohoclgnfdcaaGreatDoorTie
import Derived.Test.YtneohoclgnfdcaaGreatDoorCards
/- The examples, by the calls written down. -/
namespace Go.Proofs.YtneohoclgnfdcaaGreatDoor
open Go.Ev
theorem in_0 (m : Memo) (hm : m ∈ [m1]) : m.f = 10 ∧ MemoSound Tryz.prog m := by
  cases hm with
  | head => exact ⟨rfl, m1_sound⟩
  | tail _ hm =>
  cases hm
theorem in_1 (m : Memo) (hm : m ∈ [m2]) : m.f = 31 ∧ MemoSound Tryz.prog m := by
  cases hm with
  | head => exact ⟨rfl, m2_sound⟩
  | tail _ hm =>
  cases hm
theorem in_2 (m : Memo) (hm : m ∈ [m3]) : m.f = 32 ∧ MemoSound Tryz.prog m := by
  cases hm with
  | head => exact ⟨rfl, m3_sound⟩
  | tail _ hm =>
  cases hm
theorem in_3 (m : Memo) (hm : m ∈ [m4, m5]) : m.f = 5 ∧ MemoSound Tryz.prog m := by
  cases hm with
  | head => exact ⟨rfl, m4_sound⟩
  | tail _ hm =>
  cases hm with
  | head => exact ⟨rfl, m5_sound⟩
  | tail _ hm =>
  cases hm
def sumsA : FuncId → Option (Array Value → St → Option Er) := (withM (withM (withM (withM sums0 10 [m1]) 31 [m2]) 32 [m3]) 5 [m4, m5])
theorem sumsA_sound : ∀ g s, sumsA g = some s → ∀ args σ r, s args σ = some r → CallSound Tryz.prog g args σ r := (withM_sound (withM_sound (withM_sound (withM_sound sums0_sound (l := [m1]) (f0 := 10) in_0) (l := [m2]) (f0 := 31) in_1) (l := [m3]) (f0 := 32) in_2) (l := [m4, m5]) (f0 := 5) in_3)
theorem awake_ok : isTrue (evRun Tryz.prog sumsA 400 100 6 #[] (startS 100)) = true := by kernel_rfl
open Go.RowKit in
theorem awake_true (w : World) : Calls Tryz.prog 6 #[] w fun e w' => e = .returned (.bool true) ∧ Below w.heap.size w w' := true_of awake_ok (fun _ h => evM sumsA_sound 100 h) w
end Go.Proofs.YtneohoclgnfdcaaGreatDoor
namespace Go.Proofs.YtneohoclgnfdcaaGreatDoor
open Go.ChangeShapes Go.WideShapes Go.ChangeAt Go.RowKit Go.Shelf
theorem own : ownKnob Tryz.prog.godebug = none := by kernel_rfl
/-- the witness: the heap that the program's own start leaves, and the pinned table -/
noncomputable def ww (os : Os) : World :=
  let w0 := World.doorLaid Tryz.prog 77 os
  { w0 with heap := w0.heap.modify 2 fun
    | .cells _ t fr => .cells (Lib.firstTab.map fun z => Value.int .u8 z).toArray t fr
    | o => o }
set_option maxRecDepth 1000000 in
theorem ww_met (os : Os) (args : Array Value) : laidMetH Tryz.prog Rows.eventsLimitsRow.laid ((ww os).forCall (fun _ _ => 0) ⟨#[], args, []⟩).memory :=
  laidMetH_of_parts3 (fuel := 8) (laidMet_of_run' 8 (by kernel_rfl) (by kernel_rfl)) (by kernel_rfl) (by kernel_rfl)
set_option maxRecDepth 1000000 in
theorem limits_lifted (os : Os) (started : os.Started) (H : Type) (enc : TypeId × Value → H) :
    ReturnsInHanded {} Tryz.checked os 3 .any (fun w args => (Rows.eventsLimitsSpec.pre enc Tryz.prog Tryz.f3 [] false w args ∧ laidMetH Tryz.prog Rows.eventsLimitsRow.laid w) ∧ sizedMet enc Tryz.prog Tryz.f3 (OpenSpec.ofChange Rows.eventsLimitsSpec) false w args)
      (Rows.eventsLimitsSpec.post enc Tryz.prog Tryz.f3 false true false false) := by
  refine returnsInHanded_of_change_and (C := Tryz.checked) (X := fun w _ => laidMetH Tryz.prog Rows.eventsLimitsRow.laid w) (fun _ _ _ hh h => h.of_heap hh) own started (by kernel_rfl) Tryz.func3
    (ChangeSpec.witness_shaped (enc := enc) (C := Tryz.checked) (os := os) (X := fun w _ => laidMetH Tryz.prog Rows.eventsLimitsRow.laid w) false (ww os) #[.int .u8 0, .int .u16 0] 8 rfl (World.shaped_of_RefB (by kernel_rfl) (by kernel_rfl)) (by kernel_rfl) (by kernel_rfl) (by kernel_rfl) (ww_met os _)) ?_
  intro W base args ds gs before hval0 hW _ _ _ _
  have hval : ∀ (j : Nat) t v, Tryz.f3.params[j]? = some t → args[j]? = some v → Value.okWide Tryz.prog W .any base t v := hval0
  have hW' := hW
  have hlt : ∀ p ∈ before, p.block < W.heap.size := fun p hp => hW'.lt p hp
  obtain ⟨p, q, hA0, hV, rfl, hfz, hnd⟩ := hW
  have hA : DataW.TrodAll enc Tryz.prog W 0 (fun _ => true) true Tryz.f3.params.toList args.toList ds p := hA0
  rw [Tryz.params3] at hA hval
  obtain ⟨v0, vs0, d0, ds0, p0, q0, hargs, rfl, rfl, h0, r0⟩ := trodAll_cons hA
  obtain ⟨v1, vs1, d1, ds1, p1, q1, rfl, rfl, rfl, h1, r1⟩ := trodAll_cons r0
  obtain ⟨rfl, rfl, rfl⟩ := trodAll_nil r1
  obtain rfl : args = #[v0, v1] := by cases args; simp_all
  obtain ⟨rfl, rfl⟩ := trodVars_none hV
  have k0 : ∀ W', Below W.heap.size W W' → DataW.Trod enc Tryz.prog W' 0 (fun b => decide (b < W.heap.size)) true 5 v0 d0 p0 := fun W' hb => Below.trod (by kernel_rfl) (by kernel_rfl) (of_decide_eq_true (by kernel_rfl)) h0 hb (fun x hx => hlt x (by simp [hx]))
  have k1 : ∀ W', Below W.heap.size W W' → DataW.Trod enc Tryz.prog W' 0 (fun b => decide (b < W.heap.size)) true 22 v1 d1 p1 := fun W' hb => Below.trod (by kernel_rfl) (by kernel_rfl) (of_decide_eq_true (by kernel_rfl)) h1 hb (fun x hx => hlt x (by simp [hx]))
  obtain ⟨x0, e0, _, _, w0⟩ := open_int Tryz.underlying5 (hval 0 5 v0 rfl rfl) h0
  obtain ⟨x1, e1, _, _, w1⟩ := open_int Tryz.underlying22 (hval 1 22 v1 rfl rfl) h1
  clear hA0 hval0 h0 h1
  subst e0 e1
  refine (limits_any ⟨awake_true⟩ x0 x1 w0 w1 W).mono fun e W' ⟨he, hb⟩ => ?_
  subst he
  exact ⟨_, rfl, _, _, _, [], _, [], hW', (trodAll_cons_mk (shut_bool Tryz.underlying4 _) trodAll_mk0), (trodAll_cons_mk (k0 W' hb) (trodAll_cons_mk (k1 W' hb) trodAll_mk0)), rfl, hb.frame _, fun h => by cases h⟩
theorem limits_holds : Rows.EventsLimitsSaid :=
  OpenClaim.holds_of_wide 3 Tryz.f3 rfl rfl rfl rfl rfl rfl rfl ⟨rfl, rfl, rfl, rfl, rfl⟩ rfl rfl rfl rfl rfl (by kernel_rfl) Tryz.func3 (by kernel_rfl)
    (of_decide_eq_true (by kernel_rfl)) (by unfold Func.isWrapper; first | (rw [if_pos (by decide +kernel)]; kernel_rfl) | (rw [if_neg (by decide +kernel)]; exact ⟨rfl, rfl⟩))
    (fun os started H enc _ => limits_lifted os started H enc)
theorem limits_card_holds : Rows.EventsLimitsCardSaid :=
  Claim7.holds_tied_plain_at .later [] [.data, .data, .data, .data, .sentinel, .sentinel, .pinned] true (true, "2372128566cf153ab83dc531837648af322433bbac4111f1bdf3e7af7f705ac6") true
    limits_holds (fun _ h => by cases h) (by kernel_rfl) (fun _ h => by cases h) eventsLimits_row_tie rfl ⟨rfl, rfl⟩ (by kernel_rfl) rfl
    (fun f fn hf hfn => by
      obtain rfl : f = 3 := Option.some.inj ((show Tryz.prog.funcNamed "rosetta/rosettalaw52.EventsLimits" = some 3 by kernel_rfl).symm.trans hf) |>.symm
      obtain rfl : fn = Tryz.f3 := (Option.some.inj (Tryz.func3.symm.trans hfn)).symm
      exact ⟨by kernel_rfl, fun j t ht => by
        rw [Tryz.params3] at ht
        have h3 : t = 5 ∨ t = 22 := by
          rcases j with _ | _ | j
          · exact .inl (by simpa using ht.symm)
          · exact .inr (by simpa using ht.symm)
          · simp at ht
        rcases h3 with rfl | rfl
        · exact (show Tryz.prog.wantsStandIn 5 = false by kernel_rfl)
        · exact (show Tryz.prog.wantsStandIn 22 = false by kernel_rfl)⟩)
    (by kernel_rfl)
#print axioms limits_card_holds
end Go.Proofs.YtneohoclgnfdcaaGreatDoor
