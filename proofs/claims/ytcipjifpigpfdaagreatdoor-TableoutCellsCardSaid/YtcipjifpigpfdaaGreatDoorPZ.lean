/- TableoutCells: a table of one row with a text and a name is printed, and read back as the same texts, whatever bytes they hold; where a text is not well-formed, Print answers ErrForm; and the chapter's examples hold. No condition: every two strings; the tables that the row lists (unicode/utf8's, the names of the kinds of columns) as the program's text lays them, tied on the card. -/
import Derived.Test.YtcipjifpigpfdaaGreatDoorLcWm
namespace Go.Proofs.YtcipjifpigpfdaaGreatDoor
open Go.ChangeShapes Go.WideShapes Go.ChangeAt Go.RowKit Go.Shelf
open Go.ChangeMaps (open_string shut_string)
theorem cells_card_holds : Rows.TableoutCellsCardSaid :=
  Claim7.holds_tied_plain_at .later [] [.data, .data, .data, .data, .sentinel, .sentinel, .data, .pinned] true (true, "4c20424f7114afd64c4303fc96d265e6dfbdb473e0f1fd895127fac554f019e3") true
    cells_holds (fun _ h => by cases h) (by kernel_rfl) (fun _ h => by cases h) tableoutCells_row_tie rfl ⟨rfl, rfl⟩ (by kernel_rfl) rfl
    (fun f fn hf hfn => by
      obtain rfl : f = 3 := Option.some.inj ((show Tryz.prog.funcNamed "rosetta/rosettalaw41.TableoutCells" = some 3 by kernel_rfl).symm.trans hf) |>.symm
      obtain rfl : fn = Tryz.f3 := (Option.some.inj (Tryz.func3.symm.trans hfn)).symm
      exact ⟨by kernel_rfl, fun j t ht => by
        rw [Tryz.params3] at ht
        have h3 : t = 9 := by
          rcases j with _ | _ | j
          · simpa using ht.symm
          · simpa using ht.symm
          · simp at ht
        subst h3
        exact (show Tryz.prog.wantsStandIn 9 = false by kernel_rfl)⟩)
    (by kernel_rfl)
#print axioms cells_card_holds
end Go.Proofs.YtcipjifpigpfdaaGreatDoor
