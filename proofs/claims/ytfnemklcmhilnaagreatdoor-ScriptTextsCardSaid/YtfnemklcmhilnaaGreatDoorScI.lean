/- path.Parse: read, elements, Parse, where each step's key is known. -/
import Derived.Test.YtfnemklcmhilnaaGreatDoorScE
import Derived.Test.YtfnemklcmhilnaaGreatDoorScS
namespace Go.Proofs.YtfnemklcmhilnaaGreatDoor
open Go.RowKit
open Go.Lib hiding intOf
set_option maxHeartbeats 1000000 in
theorem key_other (s : ByteArray) (c : UInt8) (r : List UInt8) (w : World) (hs : s.data.toList = c :: r) (hl : s.size ≤ 100000000) (h1 : c ≠ 46) (h2 : c ≠ 123) :
    Calls Tryz.prog 47 #[.string s] w fun e w' => e = .returned (.tuple #[.string ⟨#[]⟩, .string s, .bool false]) ∧ Below w.heap.size w w' := by
  have hsz : s.size = r.length + 1 := by
    have := congrArg List.length hs
    simpa using this
  have hpos : 0 < s.size := by omega
  have h0 : s[0]'hpos = c := by
    have : s.data.toList.getD 0 0 = s[0]'hpos := getD_of s 0 hpos
    rw [← this, hs]; rfl
  have e1 : (((s[0]'hpos).toNat : Int) == 46) = false := by
    rw [h0]; simp only [beq_eq_false_iff_ne, ne_eq]
    exact fun e => h1 (UInt8.toNat_inj.1 (by have e : (46 : UInt8).toNat = 46 := rfl; omega))
  have e2 : (((s[0]'hpos).toNat : Int) != 123) = true := by
    rw [h0]; simp only [bne_iff_ne, ne_eq]
    exact fun e => h2 (UInt8.toNat_inj.1 (by have e : (123 : UInt8).toNat = 123 := rfl; omega))
  have HL := Lib.hid hl
  clear h0 hs hl hsz
  go_enter Tryz.func47, Tryz.ntmps47
  go_wp2_with (go_at_call 51; refine (closing_any _ _ HL.out).mono ?_; rintro e w1 ⟨rfl, rfl⟩)
  go_ret3
  exact ⟨rfl, Below.refl _ _⟩
def elAgg (k i : Int) (key : ByteArray) : Value := .agg #[.int .i64 k, .int .i64 i, .string key]
theorem res_kept {w w1 : World} {v0 v1 v2 : Value} {T : TypeId} (h : Below (w.alloc (.cells #[v0, v1, v2] T)).heap.size (w.alloc (.cells #[v0, v1, v2] T)) w1) :
    w1.cell? ⟨w.heap.size, 0, none⟩ = some v0 ∧ w1.cell? ⟨w.heap.size, 1, none⟩ = some v1 ∧ w1.cell? ⟨w.heap.size, 2, none⟩ = some v2 ∧ w1.frozen? ⟨w.heap.size, 0, none⟩ = false ∧ w1.frozen? ⟨w.heap.size, 1, none⟩ = false ∧ w1.frozen? ⟨w.heap.size, 2, none⟩ = false ∧ w.heap.size < w1.heap.size := by
  have hb : w1.heap[w.heap.size]? = some (.cells #[v0, v1, v2] T) := by rw [h.block w.heap.size (by simp)]; exact heap_alloc_new w _
  exact ⟨Lib.cell_of_heap hb 0, Lib.cell_of_heap hb 1, Lib.cell_of_heap hb 2, Lib.frozen_of_heap hb 0, Lib.frozen_of_heap hb 1, Lib.frozen_of_heap hb 2, (Array.getElem?_eq_some_iff.1 hb).1⟩
set_option maxHeartbeats 2000000 in
set_option maxRecDepth 100000 in
theorem read_plain (s : ByteArray) (w : World) (c : UInt8) (r : List UInt8) (hs : s.data.toList = c :: r) (hc : c ≠ 91) (k rest : ByteArray) (ok : Bool)
    (hk : ∀ w, Calls Tryz.prog 47 #[.string s] w fun e w' => e = .returned (.tuple #[.string k, .string rest, .bool ok]) ∧ Below w.heap.size w w')
    (hat : (ok && Lib.hasPrefix rest.data.toList [64]) = false) :
    Calls Tryz.prog 42 #[.string s, .bool false] w fun e w' => e = .returned (.tuple #[elAgg 0 0 k, .string rest, .bool ok]) ∧ Below w.heap.size w w' := by
  have hsz : s.size = r.length + 1 := by
    have := congrArg List.length hs
    simpa using this
  have hpos : 0 < s.size := by omega
  have h0 : s[0]'hpos = c := by
    have : s.data.toList.getD 0 0 = s[0]'hpos := getD_of s 0 hpos
    rw [← this, hs]; rfl
  have e1 : (((s[0]'hpos).toNat : Int) == 91) = false := by
    rw [h0]; simp only [beq_eq_false_iff_ne, ne_eq]
    exact fun e => hc (UInt8.toNat_inj.1 (by have e : (91 : UInt8).toNat = 91 := rfl; omega))
  have HK := Lib.hid hk
  have hcs : (ok = false ∧ ∃ b, Lib.hasPrefix rest.data.toList [64] = b) ∨ (ok = true ∧ Lib.hasPrefix rest.data.toList [64] = false) := by
    cases ok
    · exact .inl ⟨rfl, _, rfl⟩
    · exact .inr ⟨rfl, by simpa using hat⟩
  clear h0 hs hsz hk hat hc
  rcases hcs with ⟨rfl, b, hb⟩ | ⟨rfl, hb⟩
  all_goals
    go_enter Tryz.func42, Tryz.ntmps42
    go_wp2_with (first
      | (go_at_call 47; refine (HK.out _).mono ?_; rintro e w1 ⟨rfl, hb1⟩; obtain ⟨c0, c1, c2, f0, f1, f2, hz1⟩ := res_kept hb1; have HB := Lib.hid hb1; clear hb1)
      | (go_at_call 45; refine (Tryz.strings_CutPrefix _ _ _).mono ?_; rintro e w2 ⟨rfl, rfl⟩))
    refine bodyPost_ret (v := .tuple #[elAgg 0 0 k, .string rest, .bool _]) (by simp only [results, Tryz.results42, elAgg]; go_simp) rfl ⟨rfl, ?_⟩
    have hw := ((Below.refl w.heap.size w).alloc (Nat.le_refl _) (.cells #[.int .i64 0, .int .i64 0, .string ⟨#[]⟩] 89)).trans (HB.out.mono (by simp))
    have hs3 := (((hw.setCell (p := ⟨w.heap.size, 0, none⟩) (Nat.le_refl _) (.int .i64 0)).setCell (p := ⟨w.heap.size, 1, none⟩) (Nat.le_refl _) (.int .i64 0)).setCell (p := ⟨w.heap.size, 2, none⟩) (Nat.le_refl _) (.string k))
    exact hs3.alloc hs3.size _
end Go.Proofs.YtfnemklcmhilnaaGreatDoor
