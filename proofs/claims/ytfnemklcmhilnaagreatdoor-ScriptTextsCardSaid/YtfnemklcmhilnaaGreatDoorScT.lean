/- A load command printed: writeFormat, text, Print. -/
import Derived.Test.YtfnemklcmhilnaaGreatDoorScO
import Derived.Test.YtfnemklcmhilnaaGreatDoorScB
import Derived.Test.YtfnemklcmhilnaaGreatDoorScV
import Derived.Maps.RangeWalk
namespace Go.Proofs.YtfnemklcmhilnaaGreatDoor
open Go.RowKit
open Go.Lib hiding intOf
set_option maxHeartbeats 1000000 in
theorem wfmt_yes (w : World) (b : Nat) (op : Int) (nv : Value) (fb fo fl fc : Nat) (tx : ByteArray) (i j t f : Nat) (hb : w.heap[b]? = some (wrt op nv (.slice (some ⟨fb, fo, none⟩) fl fc) tx i j t)) (hj : j < fl) (hfl : fl ≤ maxLen) (hf9 : f < 9)
    (hs : w.cell? ⟨fb, fo + j, none⟩ = some (.int .i64 f)) (hF : FmtTab w) (hne : 0 ≠ b) :
    Calls Tryz.prog 18 #[.pointer (some ⟨b, 0, none⟩)] w fun e w' => e = .returned (.tuple #[.string ⟨(fmtS f).toArray⟩, .bool true]) ∧ ∃ n, w' = (w.setCell ⟨b, 5, none⟩ (.int .i64 ((j : Int) + 1))).drewN n := by
  unfold maxLen at hfl
  have c2 : w.cell? ⟨b, 2, none⟩ = some (.slice (some ⟨fb, fo, none⟩) fl fc) := by rw [Lib.cell_of_heap hb]; rfl
  have c5 : w.cell? ⟨b, 5, none⟩ = some (.int .i64 j) := by rw [Lib.cell_of_heap hb]; rfl
  have f5 : w.frozen? ⟨b, 5, none⟩ = false := Lib.frozen_of_heap hb 5
  have ne : ((j : Int) == (fl : Int)) = false := by simp; omega
  have b1 : IntKind.i64.wrap ((j : Int) + 1) = (j : Int) + 1 := IntWalk.i64_in _ (by omega)
  have ds : w.cell? ⟨0, f, none⟩ = some (.string ⟨(fmtS f).toArray⟩) := hF f hf9
  have b4 : (0 : Int) ≤ j := by omega
  have b5 : (j : Int) < fl := by omega
  have b6 : (0 : Int) ≤ f := by omega
  have b7 : (f : Int) < 9 := by omega
  clear hb hj hfl hF
  go_enter Tryz.func18, Tryz.ntmps18
  go_wp2
  go_quiet (fail)
  go_wp2
  go_quiet (fail)
  go_wp2
  go_ret2
  exact ⟨rfl, _, rfl⟩
theorem key_inv {key : Value} {kl : Lit} (h : keyOf Tryz.prog 9 key = some kl) : ∃ s : ByteArray, key = .string s ∧ kl = .string s.data.toList := by
  rw [keyOf_string Tryz.underlying9] at h
  unfold mapKey at h
  rw [Tryz.underlying9] at h
  cases key with
  | string s =>
    simp at h
    exact ⟨s, rfl, h.2.symm⟩
  | _ => simp at h
theorem key_shape : ∀ key kl, keyOf Tryz.prog 9 key = some kl → ∃ x, key = Value.string x := fun key kl h => by
  obtain ⟨s, hs, _⟩ := key_inv h
  exact ⟨s, hs⟩
theorem op_of {j : Nat} (hj : j < 15) (h : j ≠ 0) : (opOf j != 1) = true := by
  rcases j with _ | _ | _ | _ | _ | _ | _ | _ | _ | _ | _ | _ | _ | _ | _ | j
  case succ => omega
  all_goals first | rfl | exact absurd rfl h
theorem keyB_ne {j : Nat} (hj : j < 15) (h : j ≠ 0) : (keyB 0 == keyB j) = false := by
  rcases j with _ | _ | _ | _ | _ | _ | _ | _ | _ | _ | _ | _ | _ | _ | _ | j
  case succ => omega
  all_goals first | rfl | exact absurd rfl h
theorem entry_of {FB : Nat} {x : ByteArray} {c : Value} {y : DataW Unit × List MemPlace} (hv : formR c = some y) (hat : ∀ zd, (formD (H := Unit) FB 15).atKey (.string x.data.toList) zd = y.1) :
    ∃ j, j < 15 ∧ x.data.toList = keyB j ∧ c = .agg #[.int .i64 (opOf j), .slice (some ⟨FB + 5 + j, 0, none⟩) (argsOf j).length (argsOf j).length, .bool (moreOf j)] := by
  cases h : formTo x.data.toList 15 with
  | none =>
    exfalso
    have h1 := hat .nil
    have h2 := hat (.agg [])
    rw [(formD_at FB x.data.toList _ 15).1, h] at h1 h2
    rw [← h2] at h1
    cases h1
  | some j =>
    obtain ⟨hj, hk⟩ := formTo_lt h
    have h1 := hat .nil
    rw [(formD_at FB x.data.toList _ 15).1, h] at h1
    obtain ⟨y1, y2⟩ := y
    simp only at h1
    subst h1
    exact ⟨j, hj, hk.symm, elD_inv hj hv⟩
/-- the world in the range over the forms -/
structure TxI (w : World) (FB nb fb : Nat) (tx : ByteArray) (wr : World) (left : Lit → Bool) (cnt : Nat) : Prop where
  rg : wr.ranges (H := Unit) Tryz.prog 9 formR (FB + 4) (w.heap.size + 1) 15 (formD FB 15) left cnt
  lf : left (.string (keyB 0)) = true
  below : Below w.heap.size w wr
  cmd : wr.heap[w.heap.size]? = some (cmd 1 (.slice (some ⟨nb, 0, none⟩) 1 1) (.slice (some ⟨fb, 0, none⟩) 1 1) tx)
theorem tx_start {w w0 : World} {FB nb fb : Nat} {tx : ByteArray} (hrg0 : w0.ranges (H := Unit) Tryz.prog 9 formR (FB + 4) (w.alloc (cmd 1 (.slice (some ⟨nb, 0, none⟩) 1 1) (.slice (some ⟨fb, 0, none⟩) 1 1) tx)).heap.size 15 (formD FB 15) (Maps.has (formD (H := Unit) FB 15)) (Maps.size (formD (H := Unit) FB 15)))
    (hg0 : (w.alloc (cmd 1 (.slice (some ⟨nb, 0, none⟩) 1 1) (.slice (some ⟨fb, 0, none⟩) 1 1) tx)).grownBy w0 none) : TxI w FB nb fb tx w0 (Maps.has (formD (H := Unit) FB 15)) (Maps.size (formD (H := Unit) FB 15)) := by
  rw [World.size_alloc'] at hrg0
  refine ⟨hrg0, (formD_at FB (keyB 0) .nil 15).2, ((Below.refl _ w).alloc (Nat.le_refl _) _).grown hg0 (by simp) (fun k hk => by cases hk), ?_⟩
  rw [hg0.block w.heap.size (by simp) (by simp)]
  exact heap_alloc_new w _
/-- behind the step of the range -/
theorem tx_next {w wr w1 : World} {FB nb fb : Nat} {tx : ByteArray} {left : Lit → Bool} {cnt cnt1 : Nat} {j : Nat} {x : ByteArray} (h : TxI w FB nb fb tx wr left cnt) (hrg1 : w1.ranges (H := Unit) Tryz.prog 9 formR (FB + 4) (w.heap.size + 1) 15 (formD FB 15) (fun z => left z && !z.sameKey (.string x.data.toList)) cnt1)
    (hg1 : wr.grownBy w1 (some (w.heap.size + 1))) (hj : j < 15) (hx : x.data.toList = keyB j) (h0 : j ≠ 0) : TxI w FB nb fb tx w1 (fun z => left z && !z.sameKey (.string x.data.toList)) cnt1 := by
  refine ⟨hrg1, ?_, h.below.grown hg1 h.below.size (fun k hk => by have e := Option.some.inj hk; omega), ?_⟩
  · simp only [h.lf, Bool.true_and, Lit.sameKey, hx, keyB_ne hj h0]
    rfl
  · rw [hg1.block w.heap.size (Array.getElem?_eq_some_iff.1 h.cmd).1 (by simp)]
    exact h.cmd
theorem TxI.alloc {w wr : World} {FB nb fb : Nat} {tx : ByteArray} {left : Lit → Bool} {cnt : Nat} (h : TxI w FB nb fb tx wr left cnt) (o : Obj) : TxI w FB nb fb tx (wr.alloc o) left cnt :=
  ⟨h.rg.alloc o, h.lf, h.below.alloc h.below.size o, by rw [Lib.alloc_old _ _ _ (Array.getElem?_eq_some_iff.1 h.cmd).1]; exact h.cmd⟩
/-- the world while the load command's parts are written -/
structure TxJ (w : World) (FB nb fb : Nat) (tx : ByteArray) (H2 i j t : Nat) (wr : World) : Prop where
  below : Below w.heap.size w wr
  cmd : wr.heap[w.heap.size]? = some (cmd 1 (.slice (some ⟨nb, 0, none⟩) 1 1) (.slice (some ⟨fb, 0, none⟩) 1 1) tx)
  frm : wr.heap[H2]? = some (.cells #[.int .i64 1, .slice (some ⟨FB + 5, 0, none⟩) 3 3, .bool false] 60)
  wri : wr.heap[H2 + 1]? = some (wrt 1 (.slice (some ⟨nb, 0, none⟩) 1 1) (.slice (some ⟨fb, 0, none⟩) 1 1) tx i j t)
  lt : w.heap.size < H2
theorem TxJ.same {w : World} {FB nb fb : Nat} {tx : ByteArray} {H2 i j t : Nat} {wr w' : World} (h : TxJ w FB nb fb tx H2 i j t wr) (hb : Below wr.heap.size wr w') : TxJ w FB nb fb tx H2 i j t w' := by
  have lt : ∀ b o, wr.heap[b]? = some o → w'.heap[b]? = some o := fun b o hb2 => by rw [hb.block b (Array.getElem?_eq_some_iff.1 hb2).1]; exact hb2
  exact ⟨h.below.trans (hb.mono h.below.size), lt _ _ h.cmd, lt _ _ h.frm, lt _ _ h.wri, h.lt⟩
theorem TxJ.set {w : World} {FB nb fb : Nat} {tx : ByteArray} {H2 i j t i' j' t' : Nat} {wr : World} (h : TxJ w FB nb fb tx H2 i j t wr) (k : Nat) (v : Value)
    (hv : (#[.int .i64 1, .slice (some ⟨nb, 0, none⟩) 1 1, .slice (some ⟨fb, 0, none⟩) 1 1, .string tx, .int .i64 i, .int .i64 j, .int .i64 t] : Array Value).setIfInBounds k v = #[.int .i64 1, .slice (some ⟨nb, 0, none⟩) 1 1, .slice (some ⟨fb, 0, none⟩) 1 1, .string tx, .int .i64 i', .int .i64 j', .int .i64 t']) :
    TxJ w FB nb fb tx H2 i' j' t' (wr.setCell ⟨H2 + 1, k, none⟩ v) := by
  have hlt := h.lt
  refine ⟨h.below.setCell (p := ⟨H2 + 1, k, none⟩) (by show w.heap.size ≤ H2 + 1; omega) _, ?_, ?_, ?_, h.lt⟩
  · rw [set_other _ (by omega)]; exact h.cmd
  · rw [set_other _ (by omega)]; exact h.frm
  · rw [set_block h.wri v, hv]; rfl
theorem tx_name {w : World} {FB nb fb : Nat} {tx : ByteArray} {H2 : Nat} {wr : World} (h : TxJ w FB nb fb tx H2 0 0 0 wr) (hn : w.cell? ⟨nb, 0, none⟩ = some (.string ⟨#[120]⟩)) :
    Calls Tryz.prog 16 #[.pointer (some ⟨H2 + 1, 0, none⟩)] wr fun e w' => e = .returned (.tuple #[.string ⟨#[120]⟩, .bool true]) ∧ TxJ w FB nb fb tx H2 1 0 0 w' := by
  have hnl : nb < w.heap.size := World.block_lt_of_cell? w _ hn
  have hlt := h.lt
  refine (wname_yes wr (H2 + 1) 1 nb 0 1 1 _ tx ⟨#[120]⟩ 0 0 0 h.wri (by decide) (by unfold maxLen; decide) (by rw [h.below.cell (p := ⟨nb, 0 + 0, none⟩) hnl]; exact hn) (by omega) (by decide)).mono ?_
  rintro e w' ⟨rfl, n, rfl⟩
  refine ⟨rfl, ?_⟩
  exact (h.set 4 _ rfl).same (below_drewN _ _ _)
theorem tx_fmt {w : World} {FB nb fb : Nat} {tx : ByteArray} {H2 : Nat} {wr : World} (h : TxJ w FB nb fb tx H2 1 0 0 wr) (hE : Env w) (hf : w.cell? ⟨fb, 0, none⟩ = some (.int .i64 6)) :
    Calls Tryz.prog 18 #[.pointer (some ⟨H2 + 1, 0, none⟩)] wr fun e w' => e = .returned (.tuple #[.string ⟨#[99, 98, 111, 114]⟩, .bool true]) ∧ TxJ w FB nb fb tx H2 1 1 0 w' := by
  have hfl : fb < w.heap.size := World.block_lt_of_cell? w _ hf
  have hlt := h.lt
  have hlow := hE.lows
  refine (wfmt_yes wr (H2 + 1) 1 _ fb 0 1 1 tx 1 0 0 6 h.wri (by decide) (by unfold maxLen; decide) (by decide) (by rw [h.below.cell (p := ⟨fb, 0 + 0, none⟩) hfl]; exact hf) (fun i hi => by rw [h.below.cell (p := ⟨0, i, none⟩) hlow.1]; exact hE.fmt i hi) (by omega)).mono ?_
  rintro e w' ⟨rfl, n, rfl⟩
  refine ⟨rfl, ?_⟩
  exact (h.set 5 _ rfl).same (below_drewN _ _ _)
theorem tx_text {w : World} {FB nb fb : Nat} {tx : ByteArray} {H2 : Nat} {wr : World} (h : TxJ w FB nb fb tx H2 1 1 0 wr) (hE : Env w) (htx : tx.size ≤ 1000) :
    Calls Tryz.prog 22 #[.pointer (some ⟨H2 + 1, 0, none⟩)] wr fun e w' => e = .returned (.tuple #[.string ⟨(34 :: qb tx.data.toList ++ [34]).toArray⟩, .bool true]) ∧ TxJ w FB nb fb tx H2 1 1 1 w' := by
  have hlt := h.lt
  have hlow := hE.lows
  refine (wtext_any wr (H2 + 1) 1 _ _ tx 1 1 0 h.wri (by decide) (by omega) (tabs_below hE.tabs h.below hlow.2.1 hlow.2.2) (by omega) (by omega)).mono ?_
  rintro e w' ⟨rfl, hb⟩
  refine ⟨rfl, ?_⟩
  exact (h.set 6 _ rfl).same hb
def outK (t : List UInt8) : Nat → List UInt8
  | 0 => [108, 111, 97, 100]
  | 1 => [108, 111, 97, 100, 32, 120]
  | 2 => [108, 111, 97, 100, 32, 120, 32, 99, 98, 111, 114]
  | _ => loadL t
theorem out_step (t : List UInt8) : (⟨(outK t 0).toArray⟩ ++ (⟨#[32]⟩ ++ ⟨#[120]⟩) : ByteArray) = ⟨(outK t 1).toArray⟩ ∧ (⟨(outK t 1).toArray⟩ ++ (⟨#[32]⟩ ++ ⟨#[99, 98, 111, 114]⟩) : ByteArray) = ⟨(outK t 2).toArray⟩ ∧ (⟨(outK t 2).toArray⟩ ++ (⟨#[32]⟩ ++ ⟨(34 :: qb t ++ [34]).toArray⟩) : ByteArray) = ⟨(outK t 3).toArray⟩ :=
  ⟨ext_list (by simp [ByteArray.data_append, outK]), ext_list (by simp [ByteArray.data_append, outK]), ext_list (by simp [ByteArray.data_append, outK, loadL])⟩
def TxK (w : World) (FB nb fb : Nat) (tx : ByteArray) (H2 : Nat) (ov iv : Value) (wr : World) : Prop :=
  (iv = .int .i64 0 ∧ ov = .string ⟨(outK tx.data.toList 0).toArray⟩ ∧ TxJ w FB nb fb tx H2 0 0 0 wr) ∨ (iv = .int .i64 1 ∧ ov = .string ⟨(outK tx.data.toList 1).toArray⟩ ∧ TxJ w FB nb fb tx H2 1 0 0 wr)
  ∨ (iv = .int .i64 2 ∧ ov = .string ⟨(outK tx.data.toList 2).toArray⟩ ∧ TxJ w FB nb fb tx H2 1 1 0 wr) ∨ (iv = .int .i64 3 ∧ ov = .string ⟨(outK tx.data.toList 3).toArray⟩ ∧ TxJ w FB nb fb tx H2 1 1 1 wr)
theorem tx_cells {w : World} {FB nb fb : Nat} {tx : ByteArray} {H2 i j t : Nat} {wr : World} (h : TxJ w FB nb fb tx H2 i j t wr) (hF : Forms FB w) :
    wr.cell? ⟨FB + 5, 1, none⟩ = some (.func (.func 16) #[] #[]) ∧ wr.cell? ⟨FB + 5, 3, none⟩ = some (.func (.func 18) #[] #[]) ∧ wr.cell? ⟨FB + 5, 5, none⟩ = some (.func (.func 22) #[] #[])
    ∧ wr.cell? ⟨H2, 1, none⟩ = some (.slice (some ⟨FB + 5, 0, none⟩) 3 3) ∧ wr.cell? ⟨H2, 2, none⟩ = some (.bool false) := by
  have hfl := hF.lt
  have hrow : wr.heap[FB + 5 + 0]? = some (.cells (rowV 0) 57) := by rw [h.below.block (FB + 5 + 0) (by omega)]; exact hF.rows 0 (by decide)
  exact ⟨(Lib.cell_of_heap hrow 1).trans rfl, (Lib.cell_of_heap hrow 3).trans rfl, (Lib.cell_of_heap hrow 5).trans rfl, (Lib.cell_of_heap h.frm 1).trans rfl, (Lib.cell_of_heap h.frm 2).trans rfl⟩
set_option maxHeartbeats 4000000 in
set_option maxRecDepth 100000 in
theorem text_load (w : World) (FB nb fb : Nat) (tx : ByteArray) (hF : Forms FB w) (hE : Env w) (hn : w.cell? ⟨nb, 0, none⟩ = some (.string ⟨#[120]⟩)) (hf : w.cell? ⟨fb, 0, none⟩ = some (.int .i64 6)) (htx : tx.size ≤ 1000) :
    Calls Tryz.prog 8 #[.agg #[.int .i64 1, .slice (some ⟨nb, 0, none⟩) 1 1, .slice (some ⟨fb, 0, none⟩) 1 1, .string tx], .map (some (FB + 4))] w fun e w' => e = .returned (.tuple #[.string ⟨(loadL tx.data.toList).toArray⟩, .bool true]) ∧ Below w.heap.size w w' := by
  have HF := Lib.hid hF
  have HE := Lib.hid hE
  have HN := Lib.hid hn
  have HFm := Lib.hid hf
  clear hF hE hn hf
  go_enter Tryz.func8, Tryz.ntmps8
  go_wp2_with (at_range; refine wpList_range_own _ rfl _ 34 rfl 9 60 (Maps.string_keyed Tryz.underlying9) Tryz.underlying34 formR (FB + 4) 15 (formD FB 15) rfl (HF.out.own.alloc _) ?_; intro w0 hrg0 hg0 hs0)
  go_frame
  rw [World.size_alloc']
  go_loopw [] (fun wr => ∃ (left : Lit → Bool) (cnt : Nat), TxI w FB nb fb tx wr left cnt) (fun wr => wr.rangeLeft (FB + 4) (w.heap.size + 1))
  case atStart =>
    exact ⟨_, _, tx_start hrg0 hg0⟩
  case round =>
    obtain ⟨left, cnt, hI⟩ := hrel
    have HI := Lib.hid hI
    clear hI
    go_wp2_with (at_next; go_loud (refine wpList_next_ranges _ rfl _ rfl 9 (Maps.string_keyed Tryz.underlying9) (formR (H := Unit)) Value.string (fun v => v) key_shape (fun v y _ => ⟨v, rfl⟩) (FB + 4) (w.heap.size + 1) 15 _ left cnt rfl HI.out.rg ?_ ?_))
    · intro _ h
      exact absurd HI.out.lf (by rw [h]; decide)
    · intro x c kl y1 y2 w1 cnt1 hkey _ hv hat hrg1 hlt hg1 hs1 hen
      obtain ⟨x', hx', hkl⟩ := key_inv hkey
      obtain rfl : x' = x := by injection hx' with h; exact h.symm
      subst hkl
      obtain ⟨j, hj, hxj, rfl⟩ := entry_of hv hat
      by_cases h0 : j = 0
      · subst h0
        obtain rfl : x' = ⟨#[108, 111, 97, 100]⟩ := ext_list hxj
        have HB1 : Hid (Below w.heap.size w w1) := HI.out.below.grown hg1 HI.out.below.size (fun k hk => by have e := Option.some.inj hk; omega)
        have HC1 : Hid (w1.heap[w.heap.size]? = some (cmd 1 (.slice (some ⟨nb, 0, none⟩) 1 1) (.slice (some ⟨fb, 0, none⟩) 1 1) tx)) := by
          show _ = _
          rw [hg1.block w.heap.size (Array.getElem?_eq_some_iff.1 HI.out.cmd).1 (by simp)]
          exact HI.out.cmd
        have hlw : w.heap.size < w1.heap.size := (Array.getElem?_eq_some_iff.1 HC1.out).1
        have c0 : w1.cell? ⟨w.heap.size, 0, none⟩ = some (.int .i64 1) := (Lib.cell_of_heap HC1.out 0).trans rfl
        have c1 : w1.cell? ⟨w.heap.size, 1, none⟩ = some (.slice (some ⟨nb, 0, none⟩) 1 1) := (Lib.cell_of_heap HC1.out 1).trans rfl
        have c2 : w1.cell? ⟨w.heap.size, 2, none⟩ = some (.slice (some ⟨fb, 0, none⟩) 1 1) := (Lib.cell_of_heap HC1.out 2).trans rfl
        have c3 : w1.cell? ⟨w.heap.size, 3, none⟩ = some (.string tx) := (Lib.cell_of_heap HC1.out 3).trans rfl
        have hcv : (Value.agg #[.int .i64 (opOf 0), .slice (some ⟨FB + 5 + 0, 0, none⟩) (argsOf 0).length (argsOf 0).length, .bool (moreOf 0)]) = .agg #[.int .i64 1, .slice (some ⟨FB + 5, 0, none⟩) 3 3, .bool false] := rfl
        rw [hcv] at hen ⊢
        clear hkey hv hat hrg1 hg1 hs1 hlt hxj hcv
        have HJ0 : Hid (TxJ w FB nb fb tx w1.heap.size 0 0 0 ((w1.alloc (.cells #[.int .i64 1, .slice (some ⟨FB + 5, 0, none⟩) 3 3, .bool false] 60)).alloc (wrt 1 (.slice (some ⟨nb, 0, none⟩) 1 1) (.slice (some ⟨fb, 0, none⟩) 1 1) tx 0 0 0))) := by
          have hb2 := HB1.out.alloc HB1.out.size (.cells #[.int .i64 1, .slice (some ⟨FB + 5, 0, none⟩) 3 3, .bool false] 60)
          refine ⟨hb2.alloc hb2.size _, ?_, ?_, ?_, hlw⟩
          · rw [Lib.alloc_old _ _ _ (by simp; omega), Lib.alloc_old _ _ _ hlw]; exact HC1.out
          · rw [Lib.alloc_old _ _ _ (by simp)]; exact heap_alloc_new w1 _
          · rw [← World.size_alloc' w1 (.cells #[.int .i64 1, .slice (some ⟨FB + 5, 0, none⟩) 3 3, .bool false] 60)]; exact heap_alloc_new _ _
        go_wp2
        go_loopw [9, 42] (fun ov iv wr2 => TxK w FB nb fb tx w1.heap.size ov iv wr2) (fun _ iv _ => 3 - (intOf iv).toNat)
        case atStart => exact .inl ⟨rfl, rfl, HJ0.out⟩
        case round =>
          have HOUT := Lib.hid (out_step tx.data.toList)
          have hm0 : min (0 : Int) 2 = 0 := rfl
          have hm1 : min (1 : Int) 2 = 1 := rfl
          have hm2 : min (2 : Int) 2 = 2 := rfl
          have hq1 : (qb tx.data.toList).length ≤ 4000 := by
            have := qb_len tx.data.toList
            rw [show tx.data.toList.length = tx.size from by simp] at this
            omega
          have hq2 : (outK tx.data.toList 2).length ≤ 11 := Nat.le_refl _
          rcases hrel with ⟨rfl, rfl, hj⟩ | ⟨rfl, rfl, hj⟩ | ⟨rfl, rfl, hj⟩ | ⟨rfl, rfl, hj⟩
          all_goals
            have HJ := Lib.hid hj
            obtain ⟨g1, g3, g5, d1, d2⟩ := tx_cells hj HF.out
            clear hj
          · go_wp2_with (go_at_call 16; refine (tx_name HJ.out HN.out).mono ?_; rintro e w3 ⟨rfl, hj3⟩)
            go_roundw
            case rel => exact .inr (.inl ⟨rfl, congrArg _ HOUT.out.1, hj3⟩)
            case measure => decide
          · go_wp2_with (go_at_call 18; refine (tx_fmt HJ.out HE.out HFm.out).mono ?_; rintro e w3 ⟨rfl, hj3⟩)
            go_roundw
            case rel => exact .inr (.inr (.inl ⟨rfl, congrArg _ HOUT.out.2.1, hj3⟩))
            case measure => decide
          · go_wp2_with (go_at_call 22; refine (tx_text HJ.out HE.out htx).mono ?_; rintro e w3 ⟨rfl, hj3⟩)
            go_roundw
            case rel => exact .inr (.inr (.inr ⟨rfl, congrArg _ HOUT.out.2.2, hj3⟩))
            case measure => decide
          · have k1 : wr.cell? ⟨w.heap.size, 1, none⟩ = some (.slice (some ⟨nb, 0, none⟩) 1 1) := (Lib.cell_of_heap HJ.out.cmd 1).trans rfl
            have k2 : wr.cell? ⟨w.heap.size, 2, none⟩ = some (.slice (some ⟨fb, 0, none⟩) 1 1) := (Lib.cell_of_heap HJ.out.cmd 2).trans rfl
            have k3 : wr.cell? ⟨w.heap.size, 3, none⟩ = some (.string tx) := (Lib.cell_of_heap HJ.out.cmd 3).trans rfl
            have k4 : wr.cell? ⟨w1.heap.size + 1, 4, none⟩ = some (.int .i64 1) := (Lib.cell_of_heap HJ.out.wri 4).trans rfl
            have k5 : wr.cell? ⟨w1.heap.size + 1, 5, none⟩ = some (.int .i64 1) := (Lib.cell_of_heap HJ.out.wri 5).trans rfl
            have k6 : wr.cell? ⟨w1.heap.size + 1, 6, none⟩ = some (.int .i64 1) := (Lib.cell_of_heap HJ.out.wri 6).trans rfl
            go_wp2
            go_quiet (fail)
            go_wp2
            go_ret2
            exact ⟨rfl, HJ.out.below.trans (below_drewN _ _ _)⟩
      · have hop := op_of hj h0
        have HN1 := Lib.hid (tx_next HI.out hrg1 hg1 hj hxj h0)
        have c0 : w1.cell? ⟨w.heap.size, 0, none⟩ = some (.int .i64 1) := (Lib.cell_of_heap HN1.out.cmd 0).trans rfl
        have hlw : w.heap.size < w1.heap.size := (Array.getElem?_eq_some_iff.1 HN1.out.cmd).1
        have HLT := Lib.hid hlt
        clear hkey hv hat hrg1 hg1 hs1 hlt hxj h0
        go_wp2
        go_roundw
        case rel => exact ⟨_, cnt1, HN1.out.alloc _⟩
        case measure => rw [(HN1.out.alloc _).rg.left_eq, HI.out.rg.left_eq]; exact HLT.out
end Go.Proofs.YtfnemklcmhilnaaGreatDoor
