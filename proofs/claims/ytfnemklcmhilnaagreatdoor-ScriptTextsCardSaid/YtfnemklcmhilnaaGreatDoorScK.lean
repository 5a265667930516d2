/- path.Parse at the two texts of the examples. -/
import Derived.Test.YtfnemklcmhilnaaGreatDoorScJ
import Derived.Test.YtfnemklcmhilnaaGreatDoorScV
namespace Go.Proofs.YtfnemklcmhilnaaGreatDoor
open Go.RowKit
open Go.Lib hiding intOf
theorem pathAt_of {R : List UInt8 → El × List UInt8 × Bool} {D : List UInt8 → Prop} (hR : ReadAt false R D) {l : List UInt8} (hD : D l) (hl : l.length ≤ 9223372036854775807) {L : List El} {c : Int} (h : elsV R l = (L, c)) {ok : Bool} (hok : (c != 0) = !ok) : PathAt l ok := by
  intro w hT
  refine (pparse_any R D hR l hD w hT hl).mono ?_
  rintro e w' ⟨hb, v, rfl, hr⟩
  rw [h]
  exact ⟨v, c, rfl, hok, hb⟩
def rA : List UInt8 → El × List UInt8 × Bool := fun _ => (⟨0, 0, ⟨#[34, 120, 34]⟩⟩, [], true)
def rB : List UInt8 → El × List UInt8 × Bool := fun _ => (⟨0, 0, ⟨#[]⟩⟩, [120], false)
theorem run_x : runL true [120] = 1 := by decide
theorem readA : ReadAt false rA (fun l => l = [46, 120] ∨ l = []) := by
  intro l hl hne
  rcases hl with rfl | rfl
  · refine ⟨fun w _ => ?_, fun _ => ⟨by decide, .inr rfl⟩⟩
    refine read_plain ⟨#[46, 120]⟩ w 46 [120] rfl (by decide) ⟨#[34, 120, 34]⟩ ⟨#[]⟩ true (fun w => ?_) (by decide)
    have := key_dot ⟨#[46, 120]⟩ [120] w rfl (by decide)
    rw [run_x] at this
    exact this
  · exact absurd rfl hne
theorem readB : ReadAt false rB (fun l => l = [120]) := by
  intro l hl hne
  subst hl
  refine ⟨fun w _ => ?_, fun h => by cases h⟩
  exact read_plain ⟨#[120]⟩ w 120 [] rfl (by decide) ⟨#[]⟩ ⟨#[120]⟩ false (fun w => key_other ⟨#[120]⟩ 120 [] w rfl (by decide) (by decide) (by decide)) (by decide)
theorem pathA : PathAt [46, 120] true := by
  refine pathAt_of readA (.inl rfl) (by decide) (L := [⟨0, 0, ⟨#[34, 120, 34]⟩⟩]) (c := 0) ?_ rfl
  unfold elsV
  rw [if_neg (by decide), els_ok (by decide) rfl (by decide)]
  have e : els rA (rA [46, 120]).2.1 = some [] := els_nil rA
  rw [e]
  rfl
theorem pathB : PathAt [120] false := by
  refine pathAt_of readB rfl (by decide) (L := []) (c := 4) ?_ rfl
  unfold elsV
  rw [if_neg (by decide), els_bad (by decide) rfl]
theorem ok_A : parseOk ppA scA.length scA := by
  refine fun _ => ⟨fun _ => ?_, fun _ => ⟨fun _ => ?_, ?_⟩⟩
  · refine ⟨by decide, ?_⟩
    show lineOk ppA _ [.n, .f, .t] 4
    refine fun _ _ _ => ⟨(fun h => by cases h), fun _ => ?_⟩
    refine fun _ _ _ => ⟨(fun h => by cases h), fun _ => ?_⟩
    exact fun _ _ _ => ⟨(fun h => by cases h), fun _ => trivial⟩
  · refine ⟨by decide, ?_⟩
    show lineOk ppA _ [.n, .p, .t] 3
    refine fun _ _ _ => ⟨(fun h => by cases h), fun _ => ?_⟩
    refine fun _ _ _ => ⟨fun _ => pathA, fun _ => ?_⟩
    exact fun _ _ _ => ⟨(fun h => by cases h), fun _ => trivial⟩
  · intro h; cases h
theorem ok_B : parseOk ppA scB.length scB := by
  refine fun _ => ⟨fun _ => ?_, fun h => by cases h⟩
  refine ⟨by decide, ?_⟩
  show lineOk ppA _ [.n, .f, .t] 4
  refine fun _ _ _ => ⟨(fun h => by cases h), fun _ => ?_⟩
  refine fun _ _ _ => ⟨(fun h => by cases h), fun _ => ?_⟩
  exact fun _ _ _ => ⟨(fun h => by cases h), fun _ => trivial⟩
theorem ok_C : parseOk ppA scC.length scC := by
  refine fun _ => ⟨fun _ => ?_, fun h => by cases h⟩
  refine ⟨by decide, ?_⟩
  show lineOk ppA _ [.n, .p] 3
  refine fun _ _ _ => ⟨(fun h => by cases h), fun _ => ?_⟩
  exact fun _ _ _ => ⟨fun _ => pathB, fun _ => trivial⟩
theorem ok_D : parseOk ppA scD.length scD := by
  refine fun _ => ⟨fun _ => ?_, fun h => by cases h⟩
  refine ⟨by decide, ?_⟩
  show lineOk ppA _ [.n] 5
  exact fun _ _ _ => ⟨(fun h => by cases h), fun _ => trivial⟩
theorem ok_E : parseOk ppA scE.length scE := by
  refine fun _ => ⟨fun _ => ?_, fun h => by cases h⟩
  refine ⟨by decide, ?_⟩
  show lineOk ppA _ [.n] 5
  exact fun _ _ _ => ⟨(fun h => by cases h), fun _ => trivial⟩
end Go.Proofs.YtfnemklcmhilnaaGreatDoor
