/- The law: a load command printed and read back; the chapter's examples. -/
import Derived.Test.YtfnemklcmhilnaaGreatDoorScT
import Derived.Test.YtfnemklcmhilnaaGreatDoorScK
namespace Go.Proofs.YtfnemklcmhilnaaGreatDoor
open Go.RowKit
open Go.Lib hiding intOf
theorem bld_below {T e : TypeId} {B b : Nat} {bs : List Value} {w w' : World} (h : Lib.IsBuilder T e B b bs w) (hb : Below w.heap.size w w') : Lib.IsBuilder T e B b bs w' := by
  have at_ : ∀ p, Lib.BuilderAt T e B b p bs w → Lib.BuilderAt T e B b p bs w' := fun p hp => by
    obtain ⟨h1, v, h2, h3, h4⟩ := hp
    exact ⟨h1, v, by rw [hb.block b (Array.getElem?_eq_some_iff.1 h2).1]; exact h2, row_below h3 hb, h4⟩
  rcases h with h | h
  · exact .inl (at_ _ h)
  · exact .inr (at_ _ h)
theorem below_alloc {w w' : World} {o : Obj} (h : Below (w.alloc o).heap.size (w.alloc o) w') : Below w.heap.size w w' := ((Below.refl _ w).alloc (Nat.le_refl _) o).trans (h.mono (by simp))
theorem nl_size {l : List UInt8} (h : l.length ≤ 4100) : ([] : List UInt8).length + (⟨l.toArray⟩ ++ ⟨#[10]⟩ : ByteArray).size ≤ 140737488355328 := by
  simp [ByteArray.size]; omega
theorem nl_list (l : List UInt8) : [] ++ (⟨l.toArray⟩ ++ ⟨#[10]⟩ : ByteArray).data.toList = l ++ [10] := by simp [ByteArray.data_append]
/-- the world while Print writes its one command -/
structure PrI (w1 : World) (l : List UInt8) (wr : World) : Prop where
  below : Below w1.heap.size w1 wr
  bld : Lib.IsBuilder 39 5 w1.heap.size w1.heap.size (byteCells l) wr
def PrK (w1 : World) (t : List UInt8) (iv : Value) (wr : World) : Prop := (iv = .int .i64 0 ∧ PrI w1 [] wr) ∨ (iv = .int .i64 1 ∧ PrI w1 (loadL t ++ [10]) wr)
theorem pri_start (w1 : World) : PrI w1 [] (w1.alloc (.cells #[.pointer none, .slice none 0 0] 39)) := ⟨(Below.refl _ w1).alloc (Nat.le_refl _) _, Lib.fresh_isBuilder _ _ w1⟩
set_option maxHeartbeats 4000000 in
set_option maxRecDepth 100000 in
theorem print_load (w : World) (cb nb fb : Nat) (tx : ByteArray) (hE : Env w) (hc : w.heap[cb]? = some (cmd 1 (.slice (some ⟨nb, 0, none⟩) 1 1) (.slice (some ⟨fb, 0, none⟩) 1 1) tx)) (hn : w.cell? ⟨nb, 0, none⟩ = some (.string ⟨#[120]⟩)) (hf : w.cell? ⟨fb, 0, none⟩ = some (.int .i64 6)) (htx : tx.size ≤ 1000) :
    Calls Tryz.prog 5 #[.slice (some ⟨cb, 0, none⟩) 1 1] w fun e w' => e = .returned (.tuple #[.string ⟨(loadL tx.data.toList ++ [10]).toArray⟩, .int .i64 0]) ∧ Below w.heap.size w w' := by
  have HE := Lib.hid hE
  have HC := Lib.hid hc
  have HN := Lib.hid hn
  have HFm := Lib.hid hf
  clear hE hc hn hf
  have HQ : Hid ((loadL tx.data.toList).length ≤ 4100) := by
    show (loadL tx.data.toList).length ≤ 4100
    have := qb_len tx.data.toList
    rw [show tx.data.toList.length = tx.size from by simp] at this
    have := loadL_len tx.data.toList
    omega
  go_enter Tryz.func5, Tryz.ntmps5
  go_wp2_with (go_at_call 7; refine (forms_any _).mono ?_; rintro e w1 ⟨rfl, hf⟩; have HF := Lib.hid hf; clear hf)
  go_loopw [16] (fun iv wr => PrK w1 tx.data.toList iv wr) (fun iv _ => 1 - (intOf iv).toNat)
  case atStart => exact .inl ⟨rfl, pri_start w1⟩
  case round =>
    rcases hrel with ⟨rfl, hp⟩ | ⟨rfl, hp⟩
    · have HP := Lib.hid hp
      have hcl : cb < w.heap.size := (Array.getElem?_eq_some_iff.1 HC.out).1
      have hbw : Below w.heap.size w wr := HF.out.below.trans (hp.below.mono HF.out.below.size)
      have hblk : wr.heap[cb]? = some (cmd 1 (.slice (some ⟨nb, 0, none⟩) 1 1) (.slice (some ⟨fb, 0, none⟩) 1 1) tx) := by rw [hbw.block cb hcl]; exact HC.out
      have c0 : wr.cell? ⟨cb, 0, none⟩ = some (.int .i64 1) := (Lib.cell_of_heap hblk 0).trans rfl
      have c1 : wr.cell? ⟨cb, 1, none⟩ = some (.slice (some ⟨nb, 0, none⟩) 1 1) := (Lib.cell_of_heap hblk 1).trans rfl
      have c2 : wr.cell? ⟨cb, 2, none⟩ = some (.slice (some ⟨fb, 0, none⟩) 1 1) := (Lib.cell_of_heap hblk 2).trans rfl
      have c3 : wr.cell? ⟨cb, 3, none⟩ = some (.string tx) := (Lib.cell_of_heap hblk 3).trans rfl
      have HBW := Lib.hid hbw
      have HT : ∀ o, Hid (Calls Tryz.prog 8 #[.agg #[.int .i64 1, .slice (some ⟨nb, 0, none⟩) 1 1, .slice (some ⟨fb, 0, none⟩) 1 1, .string tx], .map (some (w.heap.size + 4))] (wr.alloc o) fun e w' => e = .returned (.tuple #[.string ⟨(loadL tx.data.toList).toArray⟩, .bool true]) ∧ Below (wr.alloc o).heap.size (wr.alloc o) w') := fun o => by
        have hb2 := hbw.alloc hbw.size o
        have hnl : nb < w.heap.size := World.block_lt_of_cell? w _ HN.out
        have hfl : fb < w.heap.size := World.block_lt_of_cell? w _ HFm.out
        have hsz := HF.out.size
        have hpb := hp.below.alloc hp.below.size o
        exact text_load (wr.alloc o) w.heap.size nb fb tx (HF.out.forms.below hpb (by omega)) (HE.out.below hb2) (by rw [hb2.cell (p := ⟨nb, 0, none⟩) hnl]; exact HN.out) (by rw [hb2.cell (p := ⟨fb, 0, none⟩) hfl]; exact HFm.out) htx
      have hq := HQ.out
      clear hp hcl hbw hblk
      go_wp2_with (first
        | (go_at_call 8; refine (HT _).out.mono ?_; rintro e w3 ⟨rfl, hb3⟩; have HB3 := Lib.hid (below_alloc hb3); clear hb3)
        | (go_at_call 9; refine (bwrite_any w1.heap.size w1.heap.size [] _ _ (bld_below HP.out.bld HB3.out) (nl_size HQ.out) (Nat.le_trans HP.out.below.size HB3.out.size)).mono ?_; rw [nl_list]; rintro e w4 ⟨rfl, hb4, hb5⟩; have HB4 := Lib.hid (And.intro hb4 hb5); clear hb4 hb5))
      go_roundw
      case rel => exact .inr ⟨rfl, (HP.out.below.trans (HB3.out.mono HP.out.below.size)).trans HB4.out.2, HB4.out.1⟩
      case measure => decide
    · have HP := Lib.hid hp
      have hlen : (byteCells (loadL tx.data.toList ++ [10])).length ≤ 4101 := by rw [byteCells_length]; have := HQ.out; simp; omega
      obtain ⟨n, hn⟩ : ∃ n : Nat, (byteCells (loadL tx.data.toList ++ [10])).length = n := ⟨_, rfl⟩
      rw [hn] at hlen
      have hlen2 : (n : Int) ≤ 4101 := by omega
      have hlen3 : (0 : Int) ≤ n := by omega
      have HNN := Lib.hid hn
      clear hp hn hlen
      go_wp2_with (first
        | (go_at_call 10; refine (Tryz.Builder_Len _ _ _ _ HP.out.bld).mono ?_; rw [HNN.out]; rintro e w3 ⟨rfl, rfl⟩)
        | (go_at_call 11; refine (Tryz.Builder_String_any _ _ _ _ HP.out.bld HP.out.below.size).mono ?_; rintro e w4 ⟨rfl, hb4⟩; have HB4 := Lib.hid hb4; clear hb4))
      go_ret2
      have hb := HF.out.below
      have hp := HP.out.below.trans HB4.out
      exact ⟨rfl, hb.trans (hp.mono hb.size)⟩
end Go.Proofs.YtfnemklcmhilnaaGreatDoor
