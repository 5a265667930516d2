import Derived.SevenTiedAt
import Derived.LaidMore
import Derived.LaidHandle
import Derived.MakeChecks
import Derived.Lib.LaidU8T
import Derived.PinnedBridge
import Derived.ProofKit
import Derived.OpenShut
import Derived.Stop.Joined
import Derived.Test.YtcipjifpigpfdaaGreatDoorP12
import Derived.Test.YtcipjifpigpfdaaGreatDoorTie
import Derived.Test.YtcipjifpigpfdaaGreatDoorCards
/- TableoutCells: the law lifted over the arguments' readings. -/
namespace Go.Proofs.YtcipjifpigpfdaaGreatDoor
open Go.ChangeShapes Go.WideShapes Go.ChangeAt Go.RowKit Go.Shelf
open Go.ChangeMaps (open_string shut_string)
section
variable {H : Type} {enc : TypeId × Value → H} {P : Program} {w : World} {base : Nat} {sp : Nat → Bool} {held : Bool}
/-- an array of strings that reads as these texts holds them, cell for cell -/
theorem strs_of_arr {n : Nat} {t e : TypeId} {fuel : Nat} {cs : List Value} {ds : List (List UInt8)} {p : List MemPlace} (ht : P.underlying t = some (.array n e)) (he : P.underlying e = some .string) (hce : P.cellsOf e = 1)
    (h : DataW.trod enc P w base sp held fuel t cs = some (.agg (ds.map fun l => .lit (.string l)), p)) : ∀ i l, i < n → ds[i]? = some l → cs[i]? = some (.string ⟨l.toArray⟩) := by
  obtain ⟨xs, m, rfl, hx, hlen, hxl, hall⟩ := DataW.trod_array ht h
  have hxs : xs.map (·.1) = ds.map fun l => (DataW.lit (.string l) : DataW H) := by
    have := congrArg Prod.fst hx
    simpa using this.symm
  intro i l hi hl
  have h1 := hall i hi
  obtain ⟨b, hb⟩ : ∃ b, xs[i]? = some b := ⟨xs[i]'(by omega), List.getElem?_eq_getElem (by omega)⟩
  rw [hb, hce, Nat.mul_one] at h1
  obtain ⟨s, hcz, rfl, _⟩ := DataW.trod_string he h1
  have h2 : cs[i]? = some (.string s) := by
    have := congrArg (·[0]?) hcz
    simpa [List.getElem?_take, List.getElem?_drop] using this
  have h3 : (xs.map (·.1))[i]? = some (DataW.lit (.string s.data.toList) : DataW H) := by simp [hb]
  rw [hxs] at h3
  simp only [List.getElem?_map, hl, Option.map_some, Option.some.injEq, DataW.lit.injEq, Lit.string.injEq] at h3
  rw [h2, h3]
end
theorem own : ownKnob Tryz.prog.godebug = none := by kernel_rfl
/-- the witness: the heap that the program's own start leaves, and the pinned table -/
noncomputable def ww (os : Os) : World :=
  let w0 := World.doorLaid Tryz.prog 77 os
  { w0 with heap := w0.heap.modify 1 fun
    | .cells _ t fr => .cells (Lib.firstTab.map fun z => Value.int .u8 z).toArray t fr
    | o => o }
set_option maxRecDepth 1000000 in
theorem ww_met (os : Os) (args : Array Value) : laidMetH Tryz.prog Rows.tableoutCellsRow.laid ((ww os).forCall (fun _ _ => 0) ⟨#[], args, []⟩).memory :=
  laidMetH_of_parts3 (fuel := 8) (laidMet_of_run' 8 (by kernel_rfl) (by kernel_rfl)) (by kernel_rfl) (by kernel_rfl)
theorem tabs_of_laid {W : World} (h : laidMet Tryz.prog Rows.tableoutCellsRow.laid W) : Tabs W := by
  have hU : Lib.Utf8Tabs (Tryz.lays197_ren.g 3) (Tryz.lays197_ren.g 4) W :=
    utf8Tabs_of_readsT (ρ := Tryz.lays197_ren) { Tryz.lays197 with } ⟨by kernel_rfl, by kernel_rfl, by kernel_rfl, by kernel_rfl, by kernel_rfl, by kernel_rfl, by kernel_rfl⟩
      (by rw [← Pinned.utf8First_eq]; exact Lib.laidMet.reads h (.tail _ (.tail _ (.tail _ (.tail _ (.tail _ (.tail _ (.tail _ (.head _))))))))) (by
        have e : Lib.acceptData = Rows.laid_unicode_utf8_acceptRanges := by kernel_rfl
        rw [e]; exact Lib.laidMet.reads h (.tail _ (.tail _ (.tail _ (.head _)))))
  exact hU
theorem names_datum : (Rows.laid_rosetta_tableout_names : DataW Unit) = .agg (nameL.map fun l => .lit (.string l)) := rfl
theorem names_of_laid {W : World} (h : laidMet Tryz.prog Rows.tableoutCellsRow.laid W) : NamesAt W := by
  obtain ⟨g, t, cs, fuel, p, hg, ht, hv, hd⟩ := Lib.laidMet.reads h (n := "rosetta/tableout.names") (d := Rows.laid_rosetta_tableout_names) (.tail _ (.tail _ (.tail _ (.tail _ (.tail _ (.tail _ (.head _)))))))
  obtain rfl := Option.some.inj ((show Tryz.prog.globalNamed "rosetta/tableout.names" = some 0 by kernel_rfl).symm.trans hg)
  obtain rfl := Option.some.inj ((show (Tryz.prog.globals[0]?).map (·.type) = some 62 by kernel_rfl).symm.trans ht)
  rw [names_datum] at hd
  obtain ⟨-, -, -, -, hlen, -⟩ := DataW.trod_array Tryz.underlying62 hd
  have hl9 : cs.toList.length = 9 := hlen.trans (by kernel_rfl)
  have hall : ∀ i l, i < 9 → nameL[i]? = some l → cs.toList[i]? = some (.string ⟨l.toArray⟩) := strs_of_arr Tryz.underlying62 Tryz.underlying9 (by kernel_rfl) hd
  have he : cs.toList = nameL.map fun b => Value.string ⟨b.toArray⟩ := by
    apply List.ext_getElem?
    intro i
    by_cases hi : i < 9
    · obtain ⟨l, hnl⟩ : ∃ l, nameL[i]? = some l := ⟨nameL[i]'hi, List.getElem?_eq_getElem hi⟩
      rw [hall i l hi hnl, List.getElem?_map, hnl]; rfl
    · rw [List.getElem?_eq_none (by omega), List.getElem?_eq_none (by simpa [nameL] using hi)]
  have hc : cs = (nameL.map fun b => Value.string ⟨b.toArray⟩).toArray := by rw [← he]
  subst hc
  simp only [World.var?, hg, Option.bind_some] at hv
  split at hv
  · rename_i c0 ty fr hh
    cases Option.some.inj hv
    exact ⟨ty, fr, hh⟩
  · cases hv
set_option maxRecDepth 1000000 in
theorem cells_lifted (os : Os) (started : os.Started) (H : Type) (enc : TypeId × Value → H) :
    ReturnsInHanded {} Tryz.checked os 3 .any (fun w args => (Rows.tableoutCellsSpec.pre enc Tryz.prog Tryz.f3 [] false w args ∧ laidMetH Tryz.prog Rows.tableoutCellsRow.laid w) ∧ sizedMet enc Tryz.prog Tryz.f3 (OpenSpec.ofChange Rows.tableoutCellsSpec) false w args)
      (Rows.tableoutCellsSpec.post enc Tryz.prog Tryz.f3 false true false false) := by
  refine returnsInHanded_of_change_and (C := Tryz.checked) (X := fun w _ => laidMetH Tryz.prog Rows.tableoutCellsRow.laid w) (fun _ _ _ hh h => h.of_heap hh) own started (by kernel_rfl) Tryz.func3
    (ChangeSpec.witness_shaped (enc := enc) (C := Tryz.checked) (os := os) (X := fun w _ => laidMetH Tryz.prog Rows.tableoutCellsRow.laid w) false (ww os) #[.string ⟨#[]⟩, .string ⟨#[]⟩] 8 rfl (World.shaped_of_RefB (by kernel_rfl) (by kernel_rfl)) (by kernel_rfl) (by kernel_rfl) (by kernel_rfl) (ww_met os _)) ?_
  intro W base args ds gs before hval0 hW _ _ hL _
  have hval : ∀ (j : Nat) t v, Tryz.f3.params[j]? = some t → args[j]? = some v → Value.okWide Tryz.prog W .any base t v := hval0
  have hW' := hW
  obtain ⟨p, q, hA0, hV, rfl, hfz, hnd⟩ := hW
  have hA : DataW.TrodAll enc Tryz.prog W 0 (fun _ => true) true Tryz.f3.params.toList args.toList ds p := hA0
  rw [Tryz.params3] at hA hval
  obtain ⟨v0, vs0, d0, ds0, p0, q0, hargs, rfl, rfl, h0, r0⟩ := trodAll_cons hA
  obtain ⟨v1, vs1, d1, ds1, p1, q1, rfl, rfl, rfl, h1, r1⟩ := trodAll_cons r0
  obtain ⟨rfl, rfl, rfl⟩ := trodAll_nil r1
  obtain rfl : args = #[v0, v1] := by cases args; simp_all
  obtain ⟨rfl, rfl⟩ := trodVars_none hV
  obtain ⟨s0, rfl, rfl, rfl, ws0⟩ := open_string Tryz.underlying9 (hval 0 9 v0 rfl rfl) h0
  obtain ⟨s1, rfl, rfl, rfl, ws1⟩ := open_string Tryz.underlying9 (hval 1 9 v1 rfl rfl) h1
  rw [MakeChecks.laidMetH_plain _ _ _ (by kernel_rfl)] at hL
  have hE := names_of_laid hL
  have hT := tabs_of_laid hL
  clear hA0 hval0 hL
  refine (cells_true s0 s1 W hT hE).mono fun e W' ⟨he, hb⟩ => ?_
  subst he
  exact ⟨_, rfl, _, _, _, [], _, [], hW', (trodAll_cons_mk (shut_bool Tryz.underlying4 _) trodAll_mk0), (trodAll_cons_mk (shut_string Tryz.underlying9 ws0) (trodAll_cons_mk (shut_string Tryz.underlying9 ws1) trodAll_mk0)), rfl, hb.frame _, fun h => by cases h⟩
end Go.Proofs.YtcipjifpigpfdaaGreatDoor
