import Derived.Test.YtcipjifpigpfdaaGreatDoorEvM1m
import Derived.Test.YtcipjifpigpfdaaGreatDoorEvM2m
import Derived.Test.YtcipjifpigpfdaaGreatDoorEvM3m
import Derived.Test.YtcipjifpigpfdaaGreatDoorEvM4m
import Derived.Test.YtcipjifpigpfdaaGreatDoorEvM5m
import Derived.Test.YtcipjifpigpfdaaGreatDoorEvM6m
/- The examples, by the calls written down. -/
namespace Go.Proofs.YtcipjifpigpfdaaGreatDoor
open Go.Ev
theorem in_0 (m : Memo) (hm : m ∈ [m1, m3, m5]) : m.f = 9 ∧ MemoSound ⟨fun _ => none, Tryz.prog⟩ Tryz.prog m := by
  cases hm with
  | head => exact ⟨rfl, m1_sound⟩
  | tail _ hm =>
  cases hm with
  | head => exact ⟨rfl, m3_sound⟩
  | tail _ hm =>
  cases hm with
  | head => exact ⟨rfl, m5_sound⟩
  | tail _ hm =>
  cases hm
theorem in_1 (m : Memo) (hm : m ∈ [m2, m4, m6]) : m.f = 6 ∧ MemoSound ⟨fun _ => none, Tryz.prog⟩ Tryz.prog m := by
  cases hm with
  | head => exact ⟨rfl, m2_sound⟩
  | tail _ hm =>
  cases hm with
  | head => exact ⟨rfl, m4_sound⟩
  | tail _ hm =>
  cases hm with
  | head => exact ⟨rfl, m6_sound⟩
  | tail _ hm =>
  cases hm
def sumsA : FuncId → Option (Array Value → St → Option Er) := (withM (withM sums1 9 [m1, m3, m5]) 6 [m2, m4, m6])
theorem sumsA_sound : ∀ g s, sumsA g = some s → ∀ args σ r, s args σ = some r → CallSound ⟨fun _ => none, Tryz.prog⟩ Tryz.prog g args σ r := (withM_sound (withM_sound sums1_sound (l := [m1, m3, m5]) (f0 := 9) in_0) (l := [m2, m4, m6]) (f0 := 6) in_1)
theorem awake_ok : isTrue (evRun Tryz.prog sumsA 400 100 4 #[] startG) = true := by kernel_rfl
open Go.RowKit in
theorem awake_true (w : World) (hn : NamesAt w) : Calls Tryz.prog 4 #[] w fun e w' => e = .returned (.bool true) ∧ Below w.heap.size w w' := true_ofG awake_ok (fun _ h => evM rfl sumsA_sound 100 h) w (namesG_at hn)
end Go.Proofs.YtcipjifpigpfdaaGreatDoor
