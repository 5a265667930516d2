/- TableoutLong: a table of n equal rows of one cell of w zero bytes, 1 to 40 rows and fewer than 4000 bytes, is printed whole where its text has at most MaxSource bytes, and else answers ErrLong; and the chapter's examples hold. No condition: every input; the tables that the row lists are tied to the program's text by the card. -/
import Derived.SevenTiedAt
import Derived.LaidMore
import Derived.LaidHandle
import Derived.MakeChecks
import Derived.Lib.LaidU8T
import Derived.PinnedBridge
import Derived.ProofKit
import Derived.OpenShut
import Derived.Stop.Joined
import Derived.Test.YtneohoclgnfdcaaGreatDoorP10
import Derived.Test.YtneohoclgnfdcaaGreatDoorP11
import Derived.Test.YtneohoclgnfdcaaGreatDoorTie
import Derived.Test.YtneohoclgnfdcaaGreatDoorCards
namespace Go.Proofs.YtneohoclgnfdcaaGreatDoor
open Go.ChangeShapes Go.WideShapes Go.ChangeAt Go.RowKit Go.Shelf
section
variable {H : Type} {enc : TypeId × Value → H} {P : Program} {w : World} {base : Nat} {sp : Nat → Bool} {held : Bool}
/-- an array of strings that reads as these texts holds them, cell for cell -/
theorem strs_of_arr {n : Nat} {t e : TypeId} {fuel : Nat} {cs : List Value} {ds : List (List UInt8)} {p : List MemPlace} (ht : P.underlying t = some (.array n e)) (he : P.underlying e = some .string) (hce : P.cellsOf e = 1)
    (h : DataW.trod enc P w base sp held fuel t cs = some (.agg (ds.map fun l => .lit (.string l)), p)) : ∀ i l, i < n → ds[i]? = some l → cs[i]? = some (.string ⟨l.toArray⟩) := by
  obtain ⟨xs, m, rfl, hx, hlen, hxl, hall⟩ := DataW.trod_array ht h
  have hxs : xs.map (·.1) = ds.map fun l => (DataW.lit (.string l) : DataW H) := by
    have := congrArg Prod.fst hx
    simpa using this.symm
  intro i l hi hl
  have h1 := hall i hi
  obtain ⟨b, hb⟩ : ∃ b, xs[i]? = some b := ⟨xs[i]'(by omega), List.getElem?_eq_getElem (by omega)⟩
  rw [hb, hce, Nat.mul_one] at h1
  obtain ⟨s, hcz, rfl, _⟩ := DataW.trod_string he h1
  have h2 : cs[i]? = some (.string s) := by
    have := congrArg (·[0]?) hcz
    simpa [List.getElem?_take, List.getElem?_drop] using this
  have h3 : (xs.map (·.1))[i]? = some (DataW.lit (.string s.data.toList) : DataW H) := by simp [hb]
  rw [hxs] at h3
  simp only [List.getElem?_map, hl, Option.map_some, Option.some.injEq, DataW.lit.injEq, Lit.string.injEq] at h3
  rw [h2, h3]
end
theorem own : ownKnob Tryz.prog.godebug = none := by kernel_rfl
/-- the witness: the heap that the program's own start leaves, and the pinned table -/
noncomputable def ww (os : Os) : World :=
  let w0 := World.doorLaid Tryz.prog 77 os
  { w0 with heap := w0.heap.modify 2 fun
    | .cells _ t fr => .cells (Lib.firstTab.map fun z => Value.int .u8 z).toArray t fr
    | o => o }
set_option maxRecDepth 1000000 in
theorem ww_met (os : Os) (args : Array Value) : laidMetH Tryz.prog Rows.tableoutLongRow.laid ((ww os).forCall (fun _ _ => 0) ⟨#[], args, []⟩).memory :=
  laidMetH_of_parts3 (fuel := 8) (laidMet_of_run' 8 (by kernel_rfl) (by kernel_rfl)) (by kernel_rfl) (by kernel_rfl)
theorem names_datum : (Rows.laid_rosetta_tableout_names : DataW Unit) = .agg (nameL.map fun l => .lit (.string l)) := rfl
theorem names_of_laid {W : World} (h : laidMet Tryz.prog Rows.tableoutLongRow.laid W) : NamesAt W := by
  obtain ⟨g, t, cs, fuel, p, hg, ht, hv, hd⟩ := Lib.laidMet.reads h (n := "rosetta/tableout.names") (d := Rows.laid_rosetta_tableout_names) (.tail _ (.tail _ (.tail _ (.tail _ (.tail _ (.tail _ (.head _)))))))
  obtain rfl := Option.some.inj ((show Tryz.prog.globalNamed "rosetta/tableout.names" = some 0 by kernel_rfl).symm.trans hg)
  obtain rfl := Option.some.inj ((show (Tryz.prog.globals[0]?).map (·.type) = some 67 by kernel_rfl).symm.trans ht)
  rw [names_datum] at hd
  obtain ⟨-, -, -, -, hlen, -⟩ := DataW.trod_array Tryz.underlying67 hd
  have hl9 : cs.toList.length = 9 := hlen.trans (by kernel_rfl)
  have hall : ∀ i l, i < 9 → nameL[i]? = some l → cs.toList[i]? = some (.string ⟨l.toArray⟩) := strs_of_arr Tryz.underlying67 Tryz.underlying9 (by kernel_rfl) hd
  have he : cs.toList = nameL.map fun b => Value.string ⟨b.toArray⟩ := by
    apply List.ext_getElem?
    intro i
    by_cases hi : i < 9
    · obtain ⟨l, hnl⟩ : ∃ l, nameL[i]? = some l := ⟨nameL[i]'hi, List.getElem?_eq_getElem hi⟩
      rw [hall i l hi hnl, List.getElem?_map, hnl]; rfl
    · rw [List.getElem?_eq_none (by omega), List.getElem?_eq_none (by simpa [nameL] using hi)]
  have hc : cs = (nameL.map fun b => Value.string ⟨b.toArray⟩).toArray := by rw [← he]
  subst hc
  simp only [World.var?, hg, Option.bind_some] at hv
  split at hv
  · rename_i c0 ty fr hh
    cases Option.some.inj hv
    exact ⟨ty, fr, hh⟩
  · cases hv
set_option maxRecDepth 1000000 in
theorem tablong_lifted (os : Os) (started : os.Started) (H : Type) (enc : TypeId × Value → H) :
    ReturnsInHanded {} Tryz.checked os 4 .any (fun w args => (Rows.tableoutLongSpec.pre enc Tryz.prog Tryz.f4 [] false w args ∧ laidMetH Tryz.prog Rows.tableoutLongRow.laid w) ∧ sizedMet enc Tryz.prog Tryz.f4 (OpenSpec.ofChange Rows.tableoutLongSpec) false w args)
      (Rows.tableoutLongSpec.post enc Tryz.prog Tryz.f4 false true false false) := by
  refine returnsInHanded_of_change_and (C := Tryz.checked) (X := fun w _ => laidMetH Tryz.prog Rows.tableoutLongRow.laid w) (fun _ _ _ hh h => h.of_heap hh) own started (by kernel_rfl) Tryz.func4
    (ChangeSpec.witness_shaped (enc := enc) (C := Tryz.checked) (os := os) (X := fun w _ => laidMetH Tryz.prog Rows.tableoutLongRow.laid w) false (ww os) #[.int .u16 0, .int .u16 0] 8 rfl (World.shaped_of_RefB (by kernel_rfl) (by kernel_rfl)) (by kernel_rfl) (by kernel_rfl) (by kernel_rfl) (ww_met os _)) ?_
  intro W base args ds gs before hval0 hW _ _ hL _
  have hval : ∀ (j : Nat) t v, Tryz.f4.params[j]? = some t → args[j]? = some v → Value.okWide Tryz.prog W .any base t v := hval0
  have hW' := hW
  have hlt : ∀ p ∈ before, p.block < W.heap.size := fun p hp => hW'.lt p hp
  obtain ⟨p, q, hA0, hV, rfl, hfz, hnd⟩ := hW
  have hA : DataW.TrodAll enc Tryz.prog W 0 (fun _ => true) true Tryz.f4.params.toList args.toList ds p := hA0
  rw [Tryz.params4] at hA hval
  obtain ⟨v0, vs0, d0, ds0, p0, q0, hargs, rfl, rfl, h0, r0⟩ := trodAll_cons hA
  obtain ⟨v1, vs1, d1, ds1, p1, q1, rfl, rfl, rfl, h1, r1⟩ := trodAll_cons r0
  obtain ⟨rfl, rfl, rfl⟩ := trodAll_nil r1
  obtain rfl : args = #[v0, v1] := by cases args; simp_all
  obtain ⟨rfl, rfl⟩ := trodVars_none hV
  have k0 : ∀ W', Below W.heap.size W W' → DataW.Trod enc Tryz.prog W' 0 (fun b => decide (b < W.heap.size)) true 22 v0 d0 p0 := fun W' hb => Below.trod (by kernel_rfl) (by kernel_rfl) (of_decide_eq_true (by kernel_rfl)) h0 hb (fun x hx => hlt x (by simp [hx]))
  have k1 : ∀ W', Below W.heap.size W W' → DataW.Trod enc Tryz.prog W' 0 (fun b => decide (b < W.heap.size)) true 22 v1 d1 p1 := fun W' hb => Below.trod (by kernel_rfl) (by kernel_rfl) (of_decide_eq_true (by kernel_rfl)) h1 hb (fun x hx => hlt x (by simp [hx]))
  obtain ⟨x0, e0, _, _, w0⟩ := open_int Tryz.underlying22 (hval 0 22 v0 rfl rfl) h0
  obtain ⟨x1, e1, _, _, w1⟩ := open_int Tryz.underlying22 (hval 1 22 v1 rfl rfl) h1
  rw [MakeChecks.laidMetH_plain _ _ _ (by kernel_rfl)] at hL
  have hE := names_of_laid hL
  clear hA0 hval0 h0 h1 hL
  subst e0 e1
  refine (long_tab ⟨awake_true⟩ x0 x1 w0 w1 W hE).mono fun e W' ⟨he, hb⟩ => ?_
  subst he
  exact ⟨_, rfl, _, _, _, [], _, [], hW', (trodAll_cons_mk (shut_bool Tryz.underlying4 _) trodAll_mk0), (trodAll_cons_mk (k0 W' hb) (trodAll_cons_mk (k1 W' hb) trodAll_mk0)), rfl, hb.frame _, fun h => by cases h⟩
theorem tablong_holds : Rows.TableoutLongSaid :=
  OpenClaim.holds_of_wide 4 Tryz.f4 rfl rfl rfl rfl rfl rfl rfl ⟨rfl, rfl, rfl, rfl, rfl⟩ rfl rfl rfl rfl rfl (by kernel_rfl) Tryz.func4 (by kernel_rfl)
    (of_decide_eq_true (by kernel_rfl)) (by unfold Func.isWrapper; first | (rw [if_pos (by decide +kernel)]; kernel_rfl) | (rw [if_neg (by decide +kernel)]; exact ⟨rfl, rfl⟩))
    (fun os started H enc _ => tablong_lifted os started H enc)
theorem tablong_card_holds : Rows.TableoutLongCardSaid :=
  Claim7.holds_tied_plain_at .later [] [.data, .data, .data, .data, .sentinel, .sentinel, .data, .pinned] true (true, "2372128566cf153ab83dc531837648af322433bbac4111f1bdf3e7af7f705ac6") true
    tablong_holds (fun _ h => by cases h) (by kernel_rfl) (fun _ h => by cases h) tableoutLong_row_tie rfl ⟨rfl, rfl⟩ (by kernel_rfl) rfl
    (fun f fn hf hfn => by
      obtain rfl : f = 4 := Option.some.inj ((show Tryz.prog.funcNamed "rosetta/rosettalaw41.TableoutLong" = some 4 by kernel_rfl).symm.trans hf) |>.symm
      obtain rfl : fn = Tryz.f4 := (Option.some.inj (Tryz.func4.symm.trans hfn)).symm
      exact ⟨by kernel_rfl, fun j t ht => by
        rw [Tryz.params4] at ht
        have h3 : t = 22 := by
          rcases j with _ | _ | j
          · simpa using ht.symm
          · simpa using ht.symm
          · simp at ht
        subst h3
        exact (show Tryz.prog.wantsStandIn 22 = false by kernel_rfl)⟩)
    (by kernel_rfl)
#print axioms tablong_card_holds
end Go.Proofs.YtneohoclgnfdcaaGreatDoor
