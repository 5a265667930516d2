/- strings.Builder at this dump: the check of copies, and WriteString. -/
import Derived.Test.YtfnemklcmhilnaaGreatDoorScL
import Derived.Lib.Builder
import Derived.Laws.Externs
namespace Go.Proofs.YtfnemklcmhilnaaGreatDoor
open Go.RowKit
open Go.Lib hiding intOf
theorem bld_info : (Tryz.prog.info? 39).map (·.size) = some 2 := by kernel_rfl
set_option maxHeartbeats 1000000 in
set_option maxRecDepth 100000 in
theorem bcheck_used (b : Nat) (w : World) (h0 : w.cell? ⟨b, 0, none⟩ = some (.pointer (some ⟨b, 0, none⟩))) :
    Calls Tryz.prog 23 #[.pointer (some ⟨b, 0, none⟩)] w fun e w' => e = .returned (.tuple #[]) ∧ w' = w := by
  obtain ⟨j, hj, _⟩ := Option.map_eq_some_iff.1 bld_info
  go_enter Tryz.func23, Tryz.ntmps23
  go_wp2
  rw [Lib.run_neq_ptr_same w _ Tryz.underlying36 hj]
  go_wp2
  go_end0
  exact ⟨rfl, rfl⟩
set_option maxHeartbeats 1000000 in
set_option maxRecDepth 100000 in
theorem bcheck_fresh (b : Nat) (w : World) (h0 : w.cell? ⟨b, 0, none⟩ = some (.pointer none)) (hsh : w.shape? b = some (39, 2)) (hfz : w.frozen? ⟨b, 0, none⟩ = false) :
    Calls Tryz.prog 23 #[.pointer (some ⟨b, 0, none⟩)] w fun e w' => e = .returned (.tuple #[]) ∧ w' = w.setCell ⟨b, 0, none⟩ (.pointer (some ⟨b, 0, none⟩)) := by
  obtain ⟨j, hj, hjs⟩ := Option.map_eq_some_iff.1 bld_info
  go_enter Tryz.func23, Tryz.ntmps23
  go_wp2
  rw [Lib.run_to_unsafe w ⟨b, 0, none⟩ Tryz.underlying36 Tryz.underlying79 hj (by rw [hjs]; decide) hsh (Nat.zero_lt_succ 1)]
  simp only [Result.andThen]
  rw [Oper.upon_value]
  go_wp2
  rw [run_callFunc_extern Tryz.func32 (by kernel_rfl) (by kernel_rfl) (by kernel_rfl) (e := Extern.AbiNoEscape.same) (by kernel_rfl)]
  rw [Lib.run_noEscape]
  simp only [Result.andThen]
  rw [Oper.upon_value]
  go_wp2
  rw [Lib.run_from_unsafe w ⟨b, 0, none⟩ Tryz.underlying79 Tryz.underlying36 hj hsh (by kernel_rfl)]
  simp only [Result.andThen]
  rw [Oper.upon_value]
  go_wp2
  go_end0
  exact ⟨rfl, rfl⟩
theorem bcheck_any (B b : Nat) (bs : List Value) (w : World) (h : Lib.IsBuilder 39 5 B b bs w) :
    Calls Tryz.prog 23 #[.pointer (some ⟨b, 0, none⟩)] w fun e w' => e = .returned (.tuple #[]) ∧ (Lib.BuilderAt 39 5 B b (.pointer (some ⟨b, 0, none⟩)) bs w' ∧ Below B w w') := by
  rcases h with h | h
  · refine (bcheck_fresh b w h.cell0 h.shape h.frozen0).mono ?_
    rintro e w' ⟨rfl, rfl⟩
    exact ⟨rfl, h.used _, (Below.refl B w).setCell (p := ⟨b, 0, none⟩) h.1 _⟩
  · refine (bcheck_used b w h.cell0).mono ?_
    rintro e w' ⟨rfl, rfl⟩
    exact ⟨rfl, h, Below.refl B _⟩
set_option maxHeartbeats 1000000 in
set_option maxRecDepth 100000 in
theorem bwrite_any (B b : Nat) (l : List UInt8) (s : ByteArray) (w : World) (h : Lib.IsBuilder 39 5 B b (byteCells l) w) (hlen : l.length + s.size ≤ 140737488355328) (hBw : B ≤ w.heap.size) :
    Calls Tryz.prog 9 #[.pointer (some ⟨b, 0, none⟩), .string s] w fun e w' => e = .returned (.tuple #[.int .i64 s.size, .nilIface]) ∧ (Lib.IsBuilder 39 5 B b (byteCells (l ++ s.data.toList)) w' ∧ Below B w w') := by
  go_enter Tryz.func9, Tryz.ntmps9
  go_wp2_with (go_at_call 23; refine (bcheck_any B b _ _ h).mono ?_)
  rintro e w1 ⟨rfl, h1, hb1⟩
  obtain ⟨hB, v, hbk, hown, hne⟩ := h1
  rw [byteCells_length] at hown
  have c0 : w1.cell? ⟨b, 0, none⟩ = some (.pointer (some ⟨b, 0, none⟩)) := by rw [Lib.cell_of_heap hbk]; rfl
  have c1 : w1.cell? ⟨b, 1, none⟩ = some v := by rw [Lib.cell_of_heap hbk]; rfl
  go_wp2_with (at_builtin; refine app_str _ rfl _ _ rfl rfl (B := B) hown s rfl hlen (Nat.le_trans hBw hb1.size) ?_)
  intro v' w2 hown' hb2 hg
  have hlt : b < w1.heap.size := (Array.getElem?_eq_some_iff.1 hbk).1
  have hb3 : w2.heap[b]? = some (.cells #[.pointer (some ⟨b, 0, none⟩), v] 39 (0, 0)) := by
    rw [hg.block b hlt (fun e => hne e.symm)]
    exact hbk
  have d0 : w2.cell? ⟨b, 0, none⟩ = some (.pointer (some ⟨b, 0, none⟩)) := by rw [Lib.cell_of_heap hb3]; rfl
  have d1 : w2.cell? ⟨b, 1, none⟩ = some v := by rw [Lib.cell_of_heap hb3]; rfl
  have f1 : w2.frozen? ⟨b, 1, none⟩ = false := Lib.frozen_of_heap hb3 1
  obtain ⟨ao, cap, rfl⟩ := hown'.slice
  go_wp2
  go_ret2
  refine ⟨rfl, .inr ?_, ?_⟩
  · exact Lib.BuilderAt.put (T := 39) (e := 5) hB hb3 (bs' := byteCells (l ++ s.data.toList)) (by rw [byteCells_length, show l.length + s.size = (l ++ s.data.toList).length from by simp]; exact hown') (by decide)
  · exact (hb1.trans hb2).setCell (p := ⟨b, 1, none⟩) hB _
end Go.Proofs.YtfnemklcmhilnaaGreatDoor
