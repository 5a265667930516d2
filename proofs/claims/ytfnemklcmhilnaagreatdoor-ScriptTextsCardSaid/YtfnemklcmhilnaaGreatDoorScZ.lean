/- ScriptTexts: every byte string can be the text of a command: printed, it is one line without control characters, and read back it is the same text; and the chapter's examples hold. No condition: every string; the tables of the package (unicode/utf8's, script.formats) as the program's text lays them, tied on the card. -/
import Derived.Test.YtfnemklcmhilnaaGreatDoorScY
import Derived.Test.YtfnemklcmhilnaaGreatDoorTie
import Derived.Test.YtfnemklcmhilnaaGreatDoorCards
import Derived.SevenTiedAt
import Derived.LaidMore
import Derived.LaidHandle
import Derived.MakeChecks
import Derived.Lib.LaidU8T
import Derived.PinnedBridge
import Derived.ProofKit
import Derived.OpenShut
import Derived.Stop.Joined
namespace Go.Proofs.YtfnemklcmhilnaaGreatDoor
open Go.ChangeShapes Go.WideShapes Go.ChangeAt Go.RowKit Go.Shelf
open Go.ChangeMaps (open_string shut_string)
section
variable {H : Type} {enc : TypeId × Value → H} {P : Program} {w : World} {base : Nat} {sp : Nat → Bool} {held : Bool}
/-- an array of strings that reads as these texts holds them, cell for cell -/
theorem strs_of_arr {n : Nat} {t e : TypeId} {fuel : Nat} {cs : List Value} {ds : List (List UInt8)} {p : List MemPlace} (ht : P.underlying t = some (.array n e)) (he : P.underlying e = some .string) (hce : P.cellsOf e = 1)
    (h : DataW.trod enc P w base sp held fuel t cs = some (.agg (ds.map fun l => .lit (.string l)), p)) : ∀ i l, i < n → ds[i]? = some l → cs[i]? = some (.string ⟨l.toArray⟩) := by
  obtain ⟨xs, m, rfl, hx, hlen, hxl, hall⟩ := DataW.trod_array ht h
  have hxs : xs.map (·.1) = ds.map fun l => (DataW.lit (.string l) : DataW H) := by
    have := congrArg Prod.fst hx
    simpa using this.symm
  intro i l hi hl
  have h1 := hall i hi
  obtain ⟨b, hb⟩ : ∃ b, xs[i]? = some b := ⟨xs[i]'(by omega), List.getElem?_eq_getElem (by omega)⟩
  rw [hb, hce, Nat.mul_one] at h1
  obtain ⟨s, hcz, rfl, _⟩ := DataW.trod_string he h1
  have h2 : cs[i]? = some (.string s) := by
    have := congrArg (·[0]?) hcz
    simpa [List.getElem?_take, List.getElem?_drop] using this
  have h3 : (xs.map (·.1))[i]? = some (DataW.lit (.string s.data.toList) : DataW H) := by simp [hb]
  rw [hxs] at h3
  simp only [List.getElem?_map, hl, Option.map_some, Option.some.injEq, DataW.lit.injEq, Lit.string.injEq] at h3
  rw [h2, h3]
end
theorem own : ownKnob Tryz.prog.godebug = none := by kernel_rfl
theorem fmt_datum : (Rows.laid_rosetta_script_formats : DataW Unit) = .agg (((List.range 9).map fmtS).map fun l => .lit (.string l)) := rfl
theorem env_of_laid {W : World} (h : laidMet Tryz.prog Rows.scriptTextsRow.laid W) : Env W := by
  refine ⟨?_, ?_⟩
  · have hU : Lib.Utf8Tabs (Tryz.lays197_ren.g 3) (Tryz.lays197_ren.g 4) W :=
      utf8Tabs_of_readsT (ρ := Tryz.lays197_ren) { Tryz.lays197 with } ⟨by kernel_rfl, by kernel_rfl, by kernel_rfl, by kernel_rfl, by kernel_rfl, by kernel_rfl, by kernel_rfl⟩
        (by rw [← Pinned.utf8First_eq]; exact Lib.laidMet.reads h (.tail _ (.tail _ (.tail _ (.tail _ (.tail _ (.tail _ (.tail _ (.head _))))))))) (by
          have e : Lib.acceptData = Rows.laid_unicode_utf8_acceptRanges := by kernel_rfl
          rw [e]; exact Lib.laidMet.reads h (.tail _ (.tail _ (.tail _ (.head _)))))
    exact hU
  · obtain ⟨g, t, cs, fuel, p, hg, ht, hv, hd⟩ := Lib.laidMet.reads h (n := "rosetta/script.formats") (d := Rows.laid_rosetta_script_formats) (.tail _ (.tail _ (.tail _ (.tail _ (.tail _ (.tail _ (.head _)))))))
    obtain rfl := Option.some.inj ((show Tryz.prog.globalNamed "rosetta/script.formats" = some 0 by kernel_rfl).symm.trans hg)
    obtain rfl := Option.some.inj ((show (Tryz.prog.globals[0]?).map (·.type) = some 72 by kernel_rfl).symm.trans ht)
    rw [fmt_datum] at hd
    intro i hi
    rw [World.var?_cell hg hv i, ← Array.getElem?_toList]
    exact strs_of_arr Tryz.underlying72 Tryz.underlying9 (by kernel_rfl) hd i (fmtS i) hi (by simp [hi])
/-- the witness: the heap that the program's own start leaves, and the pinned table -/
noncomputable def ww (os : Os) : World :=
  let w0 := World.doorLaid Tryz.prog 77 os
  { w0 with heap := w0.heap.modify 1 fun
    | .cells _ t fr => .cells (Lib.firstTab.map fun z => Value.int .u8 z).toArray t fr
    | o => o }
set_option maxRecDepth 1000000 in
theorem ww_met (os : Os) (args : Array Value) : laidMetH Tryz.prog Rows.scriptTextsRow.laid ((ww os).forCall (fun _ _ => 0) ⟨#[], args, []⟩).memory :=
  laidMetH_of_parts3 (fuel := 8) (laidMet_of_run' 8 (by kernel_rfl) (by kernel_rfl)) (by kernel_rfl) (by kernel_rfl)
set_option maxRecDepth 1000000 in
theorem texts_lifted (os : Os) (started : os.Started) (H : Type) (enc : TypeId × Value → H) :
    ReturnsInHanded {} Tryz.checked os 3 .any (fun w args => (Rows.scriptTextsSpec.pre enc Tryz.prog Tryz.f3 [] false w args ∧ laidMetH Tryz.prog Rows.scriptTextsRow.laid w) ∧ sizedMet enc Tryz.prog Tryz.f3 (OpenSpec.ofChange Rows.scriptTextsSpec) false w args)
      (Rows.scriptTextsSpec.post enc Tryz.prog Tryz.f3 false true false false) := by
  refine returnsInHanded_of_change_and (C := Tryz.checked) (X := fun w _ => laidMetH Tryz.prog Rows.scriptTextsRow.laid w) (fun _ _ _ hh h => h.of_heap hh) own started (by kernel_rfl) Tryz.func3
    (ChangeSpec.witness_shaped (enc := enc) (C := Tryz.checked) (os := os) (X := fun w _ => laidMetH Tryz.prog Rows.scriptTextsRow.laid w) false (ww os) #[.string ⟨#[]⟩] 8 rfl (World.shaped_of_RefB (by kernel_rfl) (by kernel_rfl)) (by kernel_rfl) (by kernel_rfl) (by kernel_rfl) (ww_met os _)) ?_
  intro W base args ds gs before hval0 hW _ _ hL _
  have hval : ∀ (j : Nat) t v, Tryz.f3.params[j]? = some t → args[j]? = some v → Value.okWide Tryz.prog W .any base t v := hval0
  have hW' := hW
  obtain ⟨p, q, hA0, hV, rfl, hfz, hnd⟩ := hW
  have hA : DataW.TrodAll enc Tryz.prog W 0 (fun _ => true) true Tryz.f3.params.toList args.toList ds p := hA0
  rw [Tryz.params3] at hA hval
  obtain ⟨v0, d0, rfl, rfl, h0⟩ := trodAll_one hA
  obtain ⟨rfl, rfl⟩ := trodVars_none hV
  obtain ⟨s, rfl, rfl, rfl, ws⟩ := open_string Tryz.underlying9 (hval 0 9 v0 rfl rfl) h0
  rw [MakeChecks.laidMetH_plain _ _ _ (by kernel_rfl)] at hL
  have hE := env_of_laid hL
  clear hA0 hval0 hL
  refine (texts_any s W hE ws).mono fun e W' ⟨he, hb⟩ => ?_
  subst he
  exact ⟨_, rfl, _, _, _, [], [], [], hW', (trodAll_mk1 (shut_bool Tryz.underlying4 _)), (trodAll_mk1 (shut_string Tryz.underlying9 ws)), rfl, hb.frame _, fun h => by cases h⟩
theorem texts_holds : Rows.ScriptTextsSaid :=
  OpenClaim.holds_of_wide 3 Tryz.f3 rfl rfl rfl rfl rfl rfl rfl ⟨rfl, rfl, rfl, rfl, rfl⟩ rfl rfl rfl rfl rfl (by kernel_rfl) Tryz.func3 (by kernel_rfl)
    (of_decide_eq_true (by kernel_rfl)) (by unfold Func.isWrapper; first | (rw [if_pos (by decide +kernel)]; kernel_rfl) | (rw [if_neg (by decide +kernel)]; exact ⟨rfl, rfl⟩))
    (fun os started H enc _ => texts_lifted os started H enc)
theorem texts_card_holds : Rows.ScriptTextsCardSaid :=
  Claim7.holds_tied_plain_at .later [] [.data, .data, .data, .data, .sentinel, .sentinel, .data, .pinned] true (true, "b7c67dc180ddb160b097735cd3e7b7e031225c0f7c42453a0fe25f82b6d91e71") true
    texts_holds (fun _ h => by cases h) (by kernel_rfl) (fun _ h => by cases h) scriptTexts_row_tie rfl ⟨rfl, rfl⟩ (by kernel_rfl) rfl
    (fun f fn hf hfn => by
      obtain rfl : f = 3 := Option.some.inj ((show Tryz.prog.funcNamed "rosetta/rosettalaw59.ScriptTexts" = some 3 by kernel_rfl).symm.trans hf) |>.symm
      obtain rfl : fn = Tryz.f3 := (Option.some.inj (Tryz.func3.symm.trans hfn)).symm
      exact ⟨by kernel_rfl, fun j t ht => by
        rw [Tryz.params3] at ht
        have h3 : t = 9 := by
          rcases j with _ | j
          · simpa using ht.symm
          · simp at ht
        subst h3
        exact (show Tryz.prog.wantsStandIn 9 = false by kernel_rfl)⟩)
    (by kernel_rfl)
#print axioms texts_card_holds
end Go.Proofs.YtfnemklcmhilnaaGreatDoor
