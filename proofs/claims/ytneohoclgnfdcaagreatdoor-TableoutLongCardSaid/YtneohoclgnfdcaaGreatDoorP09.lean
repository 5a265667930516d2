import Derived.Lib.OthersKept
import Derived.RangeFuncBox
import Derived.Lib.AtoiErrMem
import Derived.LoopIn
import Derived.Test.YtneohoclgnfdcaaGreatDoorP02
import Derived.Test.YtneohoclgnfdcaaGreatDoorFwBm
import Derived.Test.YtneohoclgnfdcaaGreatDoorFwCm
import Derived.Test.YtneohoclgnfdcaaGreatDoorFwDm
import Derived.Test.YtneohoclgnfdcaaGreatDoorFwEm
import Derived.Test.YtneohoclgnfdcaaGreatDoorP06
import Derived.Test.YtneohoclgnfdcaaGreatDoorP08
import Derived.Test.YtneohoclgnfdcaaGreatDoorP01
import Derived.Test.YtneohoclgnfdcaaGreatDoorP07
/- codepoint.Check of bytes below 128; graph.scalar of such a text, and of a list. -/
namespace Go.Proofs.YtneohoclgnfdcaaGreatDoor
open Go.RowKit
open Go.Lib hiding intOf
set_option maxHeartbeats 1000000 in
set_option maxRecDepth 100000 in
theorem check_ascii (s : ByteArray) (w : World) (hs : ∀ pos, pos < s.size → (s.data.toList.getD pos 0).toNat < 128) :
    Calls Tryz.prog 116 #[.string s] w fun e w' => e = .returned (.tuple #[.int .i64 (-1), .int .i64 0]) ∧ Below w.heap.size w w' := by
  go_enter Tryz.func116, Tryz.ntmps116
  go_wp2
  go_loopw [] (fun wr => ∃ pos : Nat, wr.heap[w.heap.size]? = some (.stringIter s pos) ∧ Below w.heap.size w wr) (fun wr => s.size - wr.iterPos w.heap.size)
  case atStart => exact ⟨0, by have := World.iter_heap w s 0; simpa using this, (Below.refl _ w).alloc (Nat.le_refl _) _⟩
  case round =>
    obtain ⟨pos, hit, hbw⟩ := hrel
    by_cases hp : pos < s.size
    · have hlt := hs pos hp
      have hg : s.data.toList.getD pos 0 = s[pos]'hp := by rw [List.getD_eq_getElem?_getD, List.getElem?_eq_getElem (by simpa using hp)]; rfl
      rw [hg] at hlt
      obtain ⟨r, hr⟩ : ∃ r : Nat, (s[pos]'hp).toNat = r := ⟨_, rfl⟩
      have hnx : ∀ ty, (Instr.next (.pointer (some ⟨w.heap.size, 0, none⟩)) true ty).run Tryz.prog wr = .ok (.tuple #[.bool true, .int .i64 pos, .int .i32 r]) (wr.iterAt w.heap.size s (pos + 1)) := fun ty => by
        rw [Lib.run_next_ascii_at wr w.heap.size s pos ty hit hp hlt, hr]
      rw [hr] at hlt
      have HIT2 := PLift.up (Lib.iterAt_heap wr w.heap.size s pos (pos + 1) hit)
      have HB2 := PLift.up (Lib.below_iterAt hbw (k := w.heap.size) (Nat.le_refl _) s (pos + 1))
      have HM := PLift.up hit
      have er : ((r : Int) == 65533) = false := by simp; omega
      clear hit hg hr
      go_wp2
      go_roundw
      case rel => exact ⟨pos + 1, HIT2.down, HB2.down⟩
      case measure =>
        simp only [World.iterPos, HIT2.down, HM.down]
        omega
    · have hnx : ∀ ty, (Instr.next (.pointer (some ⟨w.heap.size, 0, none⟩)) true ty).run Tryz.prog wr = _ := fun ty => Lib.run_next_end_at wr w.heap.size s pos ty hit hp
      clear hit
      go_wp2
      go_ret2
      exact ⟨rfl, hbw⟩
set_option maxHeartbeats 1000000 in
set_option maxRecDepth 100000 in
theorem scalar_text (s : ByteArray) (hs : ∀ pos, pos < s.size → (s.data.toList.getD pos 0).toNat < 128) (w : World) :
    Calls Tryz.prog 75 #[.int .i64 5, .string s] w fun e w' => e = .returned (.bool true) ∧ Below w.heap.size w w' := by
  have HC := PLift.up (check_ascii s w hs)
  as_aux_lemma =>
  go_enter Tryz.func75, Tryz.ntmps75
  go_wp2_with (go_at_call 116; refine (HC.down).mono ?_; rintro e w1 ⟨rfl, hb1⟩; have HB1 := PLift.up hb1; clear hb1)
  go_ret
  exact ⟨rfl, HB1.down⟩
set_option maxHeartbeats 1000000 in
set_option maxRecDepth 100000 in
theorem scalar_list (s : ByteArray) (w : World) :
    Calls Tryz.prog 75 #[.int .i64 9, .string s] w fun e w' => e = .returned (.bool false) ∧ Below w.heap.size w w' := by
  go_enter Tryz.func75, Tryz.ntmps75
  go_wp2
  go_ret
  exact ⟨rfl, Below.refl _ _⟩
end Go.Proofs.YtneohoclgnfdcaaGreatDoor
/- The family of tables: at most forty rows. -/
namespace Go.Proofs.YtneohoclgnfdcaaGreatDoor
open Go.RowKit
open Go.Lib hiding intOf
theorem shapeW (z : ByteArray) (n : Nat) (h1 : 0 < n) (hn : n ≤ 40) : ShapeW z n := by
  match n, h1, hn with
  | 1, _, _ => exact shapeW_1 z
  | 2, _, _ => exact shapeW_2 z
  | 3, _, _ => exact shapeW_3 z
  | 4, _, _ => exact shapeW_4 z
  | 5, _, _ => exact shapeW_5 z
  | 6, _, _ => exact shapeW_6 z
  | 7, _, _ => exact shapeW_7 z
  | 8, _, _ => exact shapeW_8 z
  | 9, _, _ => exact shapeW_9 z
  | 10, _, _ => exact shapeW_10 z
  | 11, _, _ => exact shapeW_11 z
  | 12, _, _ => exact shapeW_12 z
  | 13, _, _ => exact shapeW_13 z
  | 14, _, _ => exact shapeW_14 z
  | 15, _, _ => exact shapeW_15 z
  | 16, _, _ => exact shapeW_16 z
  | 17, _, _ => exact shapeW_17 z
  | 18, _, _ => exact shapeW_18 z
  | 19, _, _ => exact shapeW_19 z
  | 20, _, _ => exact shapeW_20 z
  | 21, _, _ => exact shapeW_21 z
  | 22, _, _ => exact shapeW_22 z
  | 23, _, _ => exact shapeW_23 z
  | 24, _, _ => exact shapeW_24 z
  | 25, _, _ => exact shapeW_25 z
  | 26, _, _ => exact shapeW_26 z
  | 27, _, _ => exact shapeW_27 z
  | 28, _, _ => exact shapeW_28 z
  | 29, _, _ => exact shapeW_29 z
  | 30, _, _ => exact shapeW_30 z
  | 31, _, _ => exact shapeW_31 z
  | 32, _, _ => exact shapeW_32 z
  | 33, _, _ => exact shapeW_33 z
  | 34, _, _ => exact shapeW_34 z
  | 35, _, _ => exact shapeW_35 z
  | 36, _, _ => exact shapeW_36 z
  | 37, _, _ => exact shapeW_37 z
  | 38, _, _ => exact shapeW_38 z
  | 39, _, _ => exact shapeW_39 z
  | 40, _, _ => exact shapeW_40 z
  | n + 41, _, h => omega
theorem rowsW_len (z : ByteArray) : ∀ n, (rowsW z n).length = 3 * n := by
  intro n
  induction n with
  | zero => rfl
  | succ n ih => simp [rowsW, rowW, ih]; omega
theorem famW_len (z : ByteArray) (n : Nat) : (famW z n).length = 3 * n + 1 := by simp [famW, rowsW_len]
theorem rowsW_get (z : ByteArray) : ∀ n (k : Nat) (m : Nd), (rowsW z n)[k]? = some m → ∃ i, i < n ∧ ((k = 3 * i ∧ m = ⟨10, ⟨#[]⟩, false, [((3 * i + 2 : Nat) : Int)], [((3 * i + 3 : Nat) : Int)]⟩) ∨ (k = 3 * i + 1 ∧ m = ⟨5, ⟨#[97]⟩, false, [], []⟩) ∨ (k = 3 * i + 2 ∧ m = ⟨6, z, false, [], []⟩)) := by
  intro n
  induction n with
  | zero => intro k m h; simp [rowsW] at h
  | succ n ih =>
    intro k m h
    have hl := rowsW_len z n
    by_cases hk : k < 3 * n
    · rw [rowsW, List.getElem?_append_left (by omega)] at h
      obtain ⟨i, h1, h2⟩ := ih k m h
      exact ⟨i, by omega, h2⟩
    · rw [rowsW, List.getElem?_append_right (by omega), hl, rowW] at h
      obtain ⟨j, rfl⟩ : ∃ j, k = 3 * n + j := ⟨k - 3 * n, by omega⟩
      rw [Nat.add_sub_cancel_left] at h
      refine ⟨n, by omega, ?_⟩
      match j, h with
      | 0, h => exact .inl ⟨rfl, (Option.some.inj h).symm⟩
      | 1, h => exact .inr (.inl ⟨rfl, (Option.some.inj h).symm⟩)
      | 2, h => exact .inr (.inr ⟨rfl, (Option.some.inj h).symm⟩)
      | j + 3, h => simp at h
theorem rowsW_at (z : ByteArray) : ∀ n i, i < n → (rowsW z n)[3 * i]? = some ⟨10, ⟨#[]⟩, false, [((3 * i + 2 : Nat) : Int)], [((3 * i + 3 : Nat) : Int)]⟩ ∧ (rowsW z n)[3 * i + 1]? = some ⟨5, ⟨#[97]⟩, false, [], []⟩ ∧ (rowsW z n)[3 * i + 2]? = some ⟨6, z, false, [], []⟩ := by
  intro n
  induction n with
  | zero => intro i h; omega
  | succ n ih =>
    intro i h
    have hl := rowsW_len z n
    by_cases hi : i < n
    · obtain ⟨h1, h2, h3⟩ := ih i hi
      refine ⟨?_, ?_, ?_⟩ <;> rw [rowsW, List.getElem?_append_left (by omega)] <;> assumption
    · obtain rfl : i = n := by omega
      refine ⟨?_, ?_, ?_⟩ <;> rw [rowsW, List.getElem?_append_right (by omega), hl, rowW]
      · rw [Nat.sub_self]; rfl
      · rw [Nat.add_sub_cancel_left]; rfl
      · rw [Nat.add_sub_cancel_left]; rfl
theorem famW_get (z : ByteArray) (n k : Nat) (m : Nd) (h : (famW z n)[k]? = some m) : (k = 0 ∧ m = ⟨9, ⟨#[]⟩, false, [], itemsW n⟩) ∨ ∃ i, i < n ∧ ((k = 3 * i + 1 ∧ m = ⟨10, ⟨#[]⟩, false, [((3 * i + 2 : Nat) : Int)], [((3 * i + 3 : Nat) : Int)]⟩) ∨ (k = 3 * i + 2 ∧ m = ⟨5, ⟨#[97]⟩, false, [], []⟩) ∨ (k = 3 * i + 3 ∧ m = ⟨6, z, false, [], []⟩)) := by
  cases k with
  | zero => exact .inl ⟨rfl, (Option.some.inj h).symm⟩
  | succ k =>
    obtain ⟨i, h1, h2⟩ := rowsW_get z n k m (by simpa [famW] using h)
    refine .inr ⟨i, h1, ?_⟩
    rcases h2 with ⟨h3, h4⟩ | ⟨h3, h4⟩ | ⟨h3, h4⟩
    · exact .inl ⟨by omega, h4⟩
    · exact .inr (.inl ⟨by omega, h4⟩)
    · exact .inr (.inr ⟨by omega, h4⟩)
theorem famW_at (z : ByteArray) (n i : Nat) (h : i < n) : (famW z n)[3 * i + 1]? = some ⟨10, ⟨#[]⟩, false, [((3 * i + 2 : Nat) : Int)], [((3 * i + 3 : Nat) : Int)]⟩ ∧ (famW z n)[3 * i + 2]? = some ⟨5, ⟨#[97]⟩, false, [], []⟩ ∧ (famW z n)[3 * i + 3]? = some ⟨6, z, false, [], []⟩ := by
  obtain ⟨h1, h2, h3⟩ := rowsW_at z n i h
  refine ⟨?_, ?_, ?_⟩ <;> simp only [famW, List.getElem?_cons_succ] <;> assumption
theorem itemsW_get : ∀ n (k : Nat) (x : Int), (itemsW n)[k]? = some x → k < n ∧ x = ((3 * k + 1 : Nat) : Int) := by
  intro n
  induction n with
  | zero => intro k x h; simp [itemsW] at h
  | succ n ih =>
    intro k x h
    have hl : ∀ n, (itemsW n).length = n := by intro n; induction n with | zero => rfl | succ n ih => simp [itemsW, ih]
    by_cases hk : k < n
    · rw [itemsW, List.getElem?_append_left (by rw [hl]; exact hk)] at h
      obtain ⟨h1, h2⟩ := ih k x h
      exact ⟨by omega, h2⟩
    · rw [itemsW, List.getElem?_append_right (by rw [hl]; omega), hl] at h
      obtain ⟨j, rfl⟩ : ∃ j, k = n + j := ⟨k - n, by omega⟩
      rw [Nat.add_sub_cancel_left] at h
      match j, h with
      | 0, h => exact ⟨by omega, (Option.some.inj h).symm⟩
      | j + 1, h => simp at h
theorem itemsW_len : ∀ n, (itemsW n).length = n := by intro n; induction n with | zero => rfl | succ n ih => simp [itemsW, ih]
theorem itemsW_mem (n : Nat) (x : Int) (h : x ∈ itemsW n) : ∃ k, k < n ∧ x = ((3 * k + 1 : Nat) : Int) := by
  obtain ⟨k, hk⟩ := List.getElem?_of_mem h
  exact ⟨k, itemsW_get n k x hk⟩
theorem innW_mem (n : Nat) (x : Int) (h : x ∈ innW n) : 0 ≤ x ∧ x < ((3 * n + 1 : Nat) : Int) := by
  have hr : ∀ n, ∀ x ∈ innR n, 0 ≤ x ∧ x < ((3 * n : Nat) : Int) := by
    intro n
    induction n with
    | zero => intro x h; simp [innR] at h
    | succ n ih =>
      intro x h
      simp only [innR, List.mem_append, List.mem_cons, List.not_mem_nil, or_false] at h
      rcases h with h | rfl | rfl | rfl
      · have := ih x h; omega
      all_goals omega
  simp only [innW, List.mem_cons] at h
  rcases h with rfl | h
  · omega
  · have := hr n x h; omega
def scW (k : Int) (_ : ByteArray) : Bool := k == 5 || k == 6
set_option maxHeartbeats 1000000 in
set_option maxRecDepth 100000 in
theorem scalar_bytes (s : ByteArray) (w : World) :
    Calls Tryz.prog 75 #[.int .i64 6, .string s] w fun e w' => e = .returned (.bool true) ∧ Below w.heap.size w w' := by
  go_enter Tryz.func75, Tryz.ntmps75
  go_wp2
  go_ret
  exact ⟨rfl, Below.refl _ _⟩
set_option maxHeartbeats 1000000 in
set_option maxRecDepth 100000 in
theorem scalar_map (s : ByteArray) (w : World) :
    Calls Tryz.prog 75 #[.int .i64 10, .string s] w fun e w' => e = .returned (.bool false) ∧ Below w.heap.size w w' := by
  go_enter Tryz.func75, Tryz.ntmps75
  go_wp2
  go_ret
  exact ⟨rfl, Below.refl _ _⟩
theorem famW_cases (z : ByteArray) (n : Nat) (m : Nd) (h : m ∈ famW z n) : m = ⟨9, ⟨#[]⟩, false, [], itemsW n⟩ ∨ (∃ i, i < n ∧ m = ⟨10, ⟨#[]⟩, false, [((3 * i + 2 : Nat) : Int)], [((3 * i + 3 : Nat) : Int)]⟩) ∨ m = ⟨5, ⟨#[97]⟩, false, [], []⟩ ∨ m = ⟨6, z, false, [], []⟩ := by
  obtain ⟨k, hk⟩ := List.getElem?_of_mem h
  rcases famW_get z n k m hk with ⟨-, h⟩ | ⟨i, hi, ⟨-, h⟩ | ⟨-, h⟩ | ⟨-, h⟩⟩
  · exact .inl h
  · exact .inr (.inl ⟨i, hi, h⟩)
  · exact .inr (.inr (.inl h))
  · exact .inr (.inr (.inr h))
theorem famW_good (z : ByteArray) (hz : z.size ≤ maxLen) (n : Nat) (h0 : 0 < n) (hn : n ≤ 40) : Good scW (famW z n) 0 (innW n) (List.replicate (3 * n + 1) 1) := by
  have hS := shapeW z n h0 hn
  have hl := famW_len z n
  refine ⟨by omega, by omega, ?_, ?_, ?_, ?_, ?_, ?_, ?_, hS.comp, ?_, by simp; omega, by rw [hS.deep]; decide⟩
  · intro m hm
    rcases famW_cases z n m hm with rfl | ⟨i, hi, rfl⟩ | rfl | rfl
    · refine ⟨fun x hx => by simp at hx, fun x hx => ?_⟩
      obtain ⟨k, hk, rfl⟩ := itemsW_mem n x hx
      rw [hl]; omega
    · refine ⟨fun x hx => ?_, fun x hx => ?_⟩
      · simp only [List.mem_cons, List.not_mem_nil, or_false] at hx; subst hx; rw [hl]; omega
      · simp only [List.mem_cons, List.not_mem_nil, or_false] at hx; subst hx; rw [hl]; omega
    · exact ⟨fun x hx => by simp at hx, fun x hx => by simp at hx⟩
    · exact ⟨fun x hx => by simp at hx, fun x hx => by simp at hx⟩
  · intro i hi
    rw [hl] at hi ⊢
    rw [hS.all, List.getD_eq_getElem?_getD, List.getElem?_replicate, if_pos (by omega)]; rfl
  · intro m hm
    rcases famW_cases z n m hm with rfl | ⟨i, hi, rfl⟩ | rfl | rfl
    · exact fun w => scalar_list _ w
    · exact fun w => scalar_map _ w
    · exact fun w => scalar_text _ (by intro pos hp; match pos, hp with | 0, _ => decide | k + 1, h => exact absurd h (by simp [ByteArray.size])) w
    · exact fun w => scalar_bytes _ w
  · intro m hm
    rcases famW_cases z n m hm with rfl | ⟨i, hi, rfl⟩ | rfl | rfl <;> rfl
  · intro m hm
    rcases famW_cases z n m hm with rfl | ⟨i, hi, rfl⟩ | rfl | rfl
    · exact ⟨rfl, Nat.zero_le _⟩
    · exact ⟨rfl, Nat.zero_le _⟩
    · exact ⟨rfl, by decide⟩
    · exact ⟨rfl, hz⟩
  · intro i hi _
    rw [hl] at hi
    have ho : cntF (famW z n) ((0 : Nat) : Int) = List.replicate (3 * n + 1) 1 := hS.once
    rw [ho, List.getD_eq_getElem?_getD, List.getElem?_replicate, if_pos hi]; rfl
  · intro m hm
    rcases famW_cases z n m hm with rfl | ⟨i, hi, rfl⟩ | rfl | rfl
    · exact List.nodup_nil
    · exact List.nodup_cons.2 ⟨by simp, List.nodup_nil⟩
    · exact List.nodup_nil
    · exact List.nodup_nil
  · intro x hx
    have := innW_mem n x hx
    simp only [List.length_replicate]; exact this
def rankW (a : Nat) : Nat := if a = 0 then 2 else if a % 3 = 1 then 1 else 0
theorem famW_ranked (z : ByteArray) (n : Nat) (hn : n ≤ 40) : Ranked (famW z n) rankW := by
  have hl := famW_len z n
  refine ⟨by omega, ?_, ?_⟩
  · intro a m h
    rcases famW_get z n a m h with ⟨rfl, rfl⟩ | ⟨i, hi, ⟨rfl, rfl⟩ | ⟨rfl, rfl⟩ | ⟨rfl, rfl⟩⟩
    · refine ⟨by show (itemsW n).length ≤ _; rw [itemsW_len]; omega, fun x hx => ?_⟩
      obtain ⟨k, hk, rfl⟩ := itemsW_mem n x hx
      refine ⟨_, rfl, by omega, ?_⟩
      unfold rankW
      rw [if_neg (by omega), if_pos (by omega), if_pos rfl]; omega
    · refine ⟨by show (1 : Nat) ≤ _; omega, fun x hx => ?_⟩
      simp only [List.mem_cons, List.not_mem_nil, or_false] at hx
      subst hx
      refine ⟨_, rfl, by omega, ?_⟩
      unfold rankW
      rw [if_neg (by omega), if_neg (by omega), if_neg (by omega), if_pos (by omega)]; omega
    · exact ⟨by show (0 : Nat) ≤ _; omega, fun x hx => by simp at hx⟩
    · exact ⟨by show (0 : Nat) ≤ _; omega, fun x hx => by simp at hx⟩
  · intro a m h
    rcases famW_get z n a m h with ⟨rfl, rfl⟩ | ⟨i, hi, ⟨rfl, rfl⟩ | ⟨rfl, rfl⟩ | ⟨rfl, rfl⟩⟩
    · exact .inl (show (9 : Int) ≠ 10 by decide)
    · exact .inr ⟨rfl, rfl, by show (1 : Nat) < 2; omega, 3 * i + 2, _, rfl, (famW_at z n i hi).2.1, rfl, rfl⟩
    · exact .inl (show (5 : Int) ≠ 10 by decide)
    · exact .inl (show (6 : Int) ≠ 10 by decide)
theorem famW_tree (z : ByteArray) (hz : z.size ≤ maxLen) (n : Nat) (h0 : 0 < n) (hn : n ≤ 40) : TreeN scW (famW z n) 0 (innW n) (List.replicate (3 * n + 1) 1) rankW := by
  have hS := shapeW z n h0 hn
  refine ⟨famW_good z hz n h0 hn, by rw [hS.deep], famW_ranked z n hn, fun i hi => ?_⟩
  have h1 := hS.share
  rw [List.all_eq_true] at h1
  rw [List.getD_eq_getElem?_getD]
  show (((cntSF (famW z n) 0)[i]?).getD 0) ≤ 1
  cases hg : (cntSF (famW z n) 0)[i]? with
  | none => decide
  | some x => simpa using h1 x (List.mem_of_getElem? hg)
end Go.Proofs.YtneohoclgnfdcaaGreatDoor
/- tableout.row of a row with one entry. -/
namespace Go.Proofs.YtneohoclgnfdcaaGreatDoor
open Go.RowKit Go.Shelf Go.Ev
open Go.Lib hiding intOf
attribute [local go_sem] Oper.semAt_some Oper.semAt_none wideR_round wideR_depth wideR_fn
set_option maxHeartbeats 4000000 in
set_option maxRecDepth 100000 in
theorem row_one (w : World) (gv nv : Value) (key : ByteArray) (kd : Int) (tx : ByteArray) (od : Bool) (kv iv : Value) (fb fc mb m : Nat) (c0 : Int) (h : RowC w gv nv key kd tx od kv iv) (hf : w.cell? ⟨fb, 0, none⟩ = some (.string key)) (hm : KM w mb c0 m key) (hk : key.size ≤ maxLen) (hm2 : m < 1000)
    (hkd : 1 ≤ kd ∧ kd ≤ 8) (hc0 : c0 = 0 ∨ c0 = kd) (hkv : ∃ a n c, kv = .slice a n c) (hiv : ∃ a n c, iv = .slice a n c) :
    Calls Tryz.prog 16 #[gv, nv, .slice (some ⟨fb, 0, none⟩) 1 fc, .map (some mb)] w fun e w' => e = .returned (.int .i64 0) ∧ KM w' mb kd (m + 1) key ∧ w.grownBy w' (some mb) := by
  obtain ⟨kva, kvn, kvc, rfl⟩ := hkv
  obtain ⟨iva, ivn, ivc, rfl⟩ := hiv
  have HR := PLift.up h
  have HF := PLift.up hf
  have HM := PLift.up hm
  have HML := PLift.up hm.lt
  obtain ⟨b, o, N, vc, root, rt, lb, lo, kc, ib, io, ic, k, y, rfl, rfl, h5, hk0, -, hkN, -⟩ := h
  have HK5 := PLift.up h5
  have HK0 := PLift.up hk0
  have hkN2 : (k : Int) < (N : Int) := by omega
  clear h5 hk0 hf hm
  refine (callsIn_wide (n := 1)).1 ?_
  change CallsIn (wideR none) 1 _ _ _ _ _
  refine callsIn_of_wp_marks Tryz.func16 rfl trivial ?_ rfl
  simp only [Tryz.ntmps16, List.size_toArray, List.length_cons, List.length_nil, Nat.reduceAdd, Nat.reduceSub, Array.replicate_succ, Array.replicate_zero, List.push_toArray, List.append_toArray, List.nil_append, List.cons_append]
  gi_upto_region 1 with fail
  have HA := allocs_at [.cells #[.slice (some ⟨b, o, none⟩) N vc, .int .i64 root] 36, .cells #[.int .i64 10, .string rt, .bool false, .slice (some ⟨lb, lo, none⟩) 1 kc, .slice (some ⟨ib, io, none⟩) 1 ic] 33, .cells #[.map (some mb)] 55, .cells #[.int .i64 0] 26] w
  unfold allocs allocs allocs allocs allocs at HA
  generalize World.alloc _ _ = W0 at HA ⊢
  obtain ⟨hb0, hs0, hat⟩ := HA
  have b0 := hat 0 _ rfl
  have b1 := hat 1 _ rfl
  have b2 := hat 2 _ rfl
  have b3 := hat 3 _ rfl
  have HB0 := PLift.up hb0
  have HX := PLift.up (And.intro b0 (And.intro b1 (And.intro b2 b3)))
  have g0 : W0.cell? ⟨w.heap.size, 0, none⟩ = some (.slice (some ⟨b, o, none⟩) N vc) := (Lib.cell_of_heap b0 0).trans rfl
  have g1 : W0.cell? ⟨w.heap.size, 1, none⟩ = some (.int .i64 root) := (Lib.cell_of_heap b0 1).trans rfl
  have n0 : W0.cell? ⟨w.heap.size + 1, 0, none⟩ = some (.int .i64 10) := (Lib.cell_of_heap b1 0).trans rfl
  have n1 : W0.cell? ⟨w.heap.size + 1, 1, none⟩ = some (.string rt) := (Lib.cell_of_heap b1 1).trans rfl
  have n2 : W0.cell? ⟨w.heap.size + 1, 2, none⟩ = some (.bool false) := (Lib.cell_of_heap b1 2).trans rfl
  have n3 : W0.cell? ⟨w.heap.size + 1, 3, none⟩ = some (.slice (some ⟨lb, lo, none⟩) 1 kc) := (Lib.cell_of_heap b1 3).trans rfl
  have n4 : W0.cell? ⟨w.heap.size + 1, 4, none⟩ = some (.slice (some ⟨ib, io, none⟩) 1 ic) := (Lib.cell_of_heap b1 4).trans rfl
  have k0 := cell_keep hb0 HK0.down
  have k5 := cell_keep hb0 HK5.down
  have HC := PLift.up (columns_one W0 _ _ key kd tx od _ _ (HR.down.below hb0))
  have HS0 : PLift (W0.heap.size = w.heap.size + 4) := ⟨hs0⟩
  clear hb0 hs0 hat b0 b1 b2 b3
  gi_wp2
  refine wpIn_loop_rounds 2 ?_
  rw [roundsIn_succ]
  gi_wp2
  rw [roundsIn_succ]
  gi_upto_region 9 with fail
  gi_wp2_with (first
    | (gi_at_call 15; refine (calls_at HC.down none _).mono ?_; rintro e w1 ⟨v1, rfl, hown1, hb1⟩; obtain ⟨a1, cp1, cur1, rfl, -, hg1, hcur1⟩ := own_at hown1 (by decide); have HB1 := PLift.up hb1; have HV1 := PLift.up ((Lib.cell_of_heap hg1 0).trans (hcur1 0 _ rfl)); have HF1 := PLift.up (cell_keep hb1 (cell_keep HB0.down HF.down)); have j0 := cell_keep hb1 g0; have j1 := cell_keep hb1 g1; have i0 := cell_keep hb1 n0; have i1 := cell_keep hb1 n1; have i2 := cell_keep hb1 n2; have i3 := cell_keep hb1 n3; have i4 := cell_keep hb1 n4; clear hown1 hb1 hg1 hcur1)
    | (gi_at_call 36; refine (calls_at (equal_one _ _ _ _ _ key HV1.down HF1.down) none _).mono ?_; rintro e w2 ⟨rfl, jd, rfl⟩)
    | (gi_at_call 21; refine (calls_at (entries_one _ _ _ _ _ _ _ _ _ _ _ _ _ _) none _).mono ?_; rintro e w' ⟨rfl, rfl⟩))
  have hbj : Below w.heap.size w (w1.drewN jd) := by
    have h := HB0.down.trans (HB1.down.mono HB0.down.size)
    exact ⟨h.os, h.tape, h.output, h.size, h.block⟩
  have HAb := allocs_at [.cells #[.slice (some ⟨b, o, none⟩) N vc, .int .i64 root] 36, .cells #[.int .i64 10, .string rt, .bool false, .slice (some ⟨lb, lo, none⟩) 1 kc, .slice (some ⟨ib, io, none⟩) 1 ic] 33] (w1.drewN jd)
  unfold allocs allocs allocs at HAb
  have x2 : (w1.drewN jd).heap[w.heap.size + 2]? = some (.cells #[.map (some mb)] 55) := (HB1.down.block _ (by have := HS0.down; omega)).trans HX.down.2.2.1
  have x3 : (w1.drewN jd).heap[w.heap.size + 3]? = some (.cells #[.int .i64 0] 26) := (HB1.down.block _ (by have := HS0.down; omega)).trans HX.down.2.2.2
  have HSZ : PLift ((w1.drewN jd).heap.size = w1.heap.size) := ⟨rfl⟩
  obtain ⟨hbl, hsl, hatl⟩ := HAb
  have y2 := (hbl.block _ (block_lt x2)).trans x2
  have y3 := (hbl.block _ (block_lt x3)).trans x3
  have hbw := hbj.trans (hbl.mono hbj.size)
  have hkml := HM.down.kept (grown_of_below hbw) (by simp)
  have HE := entries1 _ 0 _ _ key kd tx od _ _ (fun _ _ => True) ((HR.down.below hbw).at (hatl 0 _ rfl) (hatl 1 _ rfl))
  have HLT : PLift (w.heap.size + 4 ≤ (w1.drewN jd).heap.size) := ⟨by have := HS0.down; have := HB1.down.size; show w.heap.size + 4 ≤ w1.heap.size; omega⟩
  generalize hWl : World.alloc _ _ = Wl at hbl hsl hatl y2 y3 hbw hkml HE ⊢
  have HWL : PLift (w.heap.size + 4 ≤ Wl.heap.size) := ⟨by have := HLT.down; have := hbl.size; omega⟩
  have HKD := PLift.up hkd
  have HC0 := PLift.up hc0
  have HKS := PLift.up hk
  clear hWl hbl hsl hatl hbj x2 x3 j0 j1 i0 i1 i2 i3 i4 k0 k5 g0 g1 n0 n1 n2 n3 n4
  refine rangeFunc_boxed (Nat.le_refl 1) (gf := 41) (lb := #[.pointer (some ⟨(w1.drewN jd).heap.size, 0, none⟩), .pointer (some ⟨(w1.drewN jd).heap.size + 1, 0, none⟩)]) rfl (enters_of Tryz.func41 (by kernel_rfl) rfl) HE (fun _ => rfl)
    (fun pre W => w.grownBy W (some mb) ∧ KM W mb (if pre.length = 0 then c0 else kd) (m + pre.length) key ∧ W.heap[w.heap.size + 2]? = some (.cells #[.map (some mb)] 55) ∧ W.heap[w.heap.size + 3]? = some (.cells #[.int .i64 0] 26) ∧ Wl.heap.size ≤ W.heap.size)
    ?hI (fun _ _ h => h.2.2.2.2) ⟨⟨hbw.os, hbw.tape, hbw.output, hbw.size, fun k hk _ => hbw.block k hk⟩, hkml, y2, y3, Nat.le_refl _⟩
    (fun _ => #[.int .i64 kd, .string tx, .bool od, .slice kva kvn kvc, .slice iva ivn ivc]) 33 (fun A _ Bx => ((((A.setIfInBounds 50 (.string key)).setIfInBounds 51 (.agg #[.int .i64 kd, .string tx, .bool od, .slice kva kvn kvc, .slice iva ivn ivc])).setIfInBounds 11 (.string key)).setIfInBounds 12 (.pointer (some ⟨Bx, 0, none⟩)))) ?assign ?body ?done
  case hI =>
    intro pre W W' row hs hg hr
    obtain ⟨q1, q2, q3, q4, q5⟩ := hs
    have hne : ∀ k, k < Wl.heap.size → some k ≠ row := fun k hk e => by have := (hr k e.symm).1; omega
    refine ⟨⟨hg.os.trans q1.os, hg.tape.trans q1.tape, hg.output.trans q1.output, Nat.le_trans q1.size hg.size, fun k hk hkm => ?_⟩, q2.kept hg (hne _ (by have := HML.down; have := HWL.down; omega)), ?_, ?_, Nat.le_trans q5 hg.size⟩
    · rw [hg.block k (Nat.lt_of_lt_of_le hk q1.size) (hne _ (by have := HWL.down; omega))]; exact q1.block k hk hkm
    · rw [hg.block _ (block_lt q3) (hne _ (by have := HWL.down; omega))]; exact q3
    · rw [hg.block _ (block_lt q4) (hne _ (by have := HWL.down; omega))]; exact q4
  case assign =>
    intro l x W K hK
    simp only [entV]
    gi_wp2
    simpa only [List.setIfInBounds_toArray, List.set_cons_succ, List.set_cons_zero] using hK
  case body =>
    rintro l pre x Bx W hl hloop ⟨q1, q2, q3, q4, q5⟩ hBx hbx hlt
    obtain rfl : pre = [] := List.length_eq_zero_iff.1 (by omega)
    simp only [List.length_nil, if_true, Nat.add_zero] at q2
    have hlook := q2.look HKS.down
    have hwf : (Lit.int .i64 kd).wf = true := by
      have := HKD.down
      simp [Lit.wf, IntKind.min, IntKind.max, IntKind.signed, IntKind.bits]; omega
    obtain ⟨w', hup, hkm', hg'⟩ := q2.update HKS.down (by unfold maxLen; omega) kd hwf
    have d0 : W.cell? ⟨Bx, 0, none⟩ = some (.int .i64 kd) := (Lib.cell_of_heap hbx 0).trans rfl
    have d7 : W.cell? ⟨w.heap.size + 2, 0, none⟩ = some (.map (some mb)) := (Lib.cell_of_heap q3 0).trans rfl
    have h8 : ¬ 8 < kd := by have := HKD.down; omega
    have hz : ¬ kd = 0 := by have := HKD.down; omega
    simp only [List.setIfInBounds_toArray, List.set_cons_succ, List.set_cons_zero]
    have HQ := PLift.up (And.intro q1 (And.intro q3 (And.intro q4 q5)))
    have HU := PLift.up (And.intro hkm' hg')
    clear q1 q3 q4 q5 hkm' hg' hbx hloop hwf
    have hmbl : mb < Wl.heap.size := by have := HML.down; have := HWL.down; omega
    have hfin : KeepsFrom Wl.heap.size W w' ∧ True ∧ (w.grownBy w' (some mb) ∧ KM w' mb kd (m + 1) key ∧ w'.heap[w.heap.size + 2]? = some (.cells #[.map (some mb)] 55) ∧ w'.heap[w.heap.size + 3]? = some (.cells #[.int .i64 0] 26) ∧ Wl.heap.size ≤ w'.heap.size) := by
      obtain ⟨q1, q3, q4, q5⟩ := HQ.down
      obtain ⟨u1, u2⟩ := HU.down
      have hml := HML.down
      refine ⟨KeepsFrom.of_grownBy u2 (fun j e => by cases e; exact hmbl), trivial, ⟨u2.os.trans q1.os, u2.tape.trans q1.tape, u2.output.trans q1.output, Nat.le_trans q1.size u2.size, fun k hk hkm => ?_⟩, u1, ?_, ?_, Nat.le_trans q5 u2.size⟩
      · rw [u2.block k (Nat.lt_of_lt_of_le hk q1.size) hkm]; exact q1.block k hk hkm
      · rw [u2.block _ (block_lt q3) (fun e => by have := Option.some.inj e; omega)]; exact q3
      · rw [u2.block _ (block_lt q4) (fun e => by have := Option.some.inj e; omega)]; exact q4
    have HFIN := PLift.up hfin
    clear hfin HQ HU
    rcases HC0.down with h0 | h0
    · rw [h0] at hlook
      gi_wp2
      obtain ⟨f1, -, f2, f3, f4⟩ := HFIN.down
      exact ⟨f1, trivial, f2, by simpa using f3, f4⟩
    · rw [h0] at hlook
      gi_wp2
      obtain ⟨f1, -, f2, f3, f4⟩ := HFIN.down
      exact ⟨f1, trivial, f2, by simpa using f3, f4⟩
  case done =>
    rintro D ys W hD rfl ⟨q1, q2, q3, q4, q5⟩ hK
    have c8 : W.cell? ⟨w.heap.size + 1 + 1 + 1, 0, none⟩ = some (.int .i64 0) := (Lib.cell_of_heap q4 0).trans rfl
    have f8 : W.frozen? ⟨w.heap.size + 1 + 1 + 1, 0, none⟩ = false := Lib.frozen_of_heap q4 0
    have HQ := PLift.up (And.intro q1 (And.intro q2 (And.intro q4 (And.intro q5 hK))))
    clear q1 q2 q3 q4 q5 hK
    gi_wp2
    have hK2 : (W.setCell ⟨w.heap.size + 1 + 1 + 1, 0, none⟩ (.int .i64 0)).heap[D]? = some (.deferred (some [])) := (KeepsOthers.setCell _ _ _).same D _ HQ.down.2.2.2.2 rfl
    refine ⟨by simp, .inl ⟨_, _, rfl, run_takeDeferred hK2, ?_⟩⟩
    obtain ⟨q1, q2, q4, q5, hK⟩ := HQ.down
    have hwl := HWL.down
    have hml := HML.down
    have hg1 : W.grownBy (W.setCell ⟨w.heap.size + 1 + 1 + 1, 0, none⟩ (.int .i64 0)) (some (w.heap.size + 3)) := grown_set W _ 0 _
    have hg2 := grownBy_putObj' (W.setCell ⟨w.heap.size + 1 + 1 + 1, 0, none⟩ (.int .i64 0)) D (.deferred none)
    have r4 : ((W.setCell ⟨w.heap.size + 1 + 1 + 1, 0, none⟩ (.int .i64 0)).putObj D (.deferred none)).heap[w.heap.size + 3]? = some (.cells #[.int .i64 0] 26) := by
      rw [hg2.block _ (by have := block_lt q4; simpa [World.setCell] using this) (fun e => by have := Option.some.inj e; omega)]
      simp [World.setCell, Array.getElem?_modify, q4]
    have rc : ((W.setCell ⟨w.heap.size + 1 + 1 + 1, 0, none⟩ (.int .i64 0)).putObj D (.deferred none)).cell? ⟨w.heap.size + 1 + 1 + 1, 0, none⟩ = some (.int .i64 0) := (Lib.cell_of_heap r4 0).trans rfl
    refine ⟨.int .i64 0, (by simp only [results, Tryz.results16]; go_simp), rfl, ?_, ?_⟩
    · have := (q2.kept hg1 (fun e => by have := Option.some.inj e; omega)).kept hg2 (fun e => by have := Option.some.inj e; omega)
      simpa using this
    · refine ⟨(hg2.os.trans hg1.os).trans q1.os, (hg2.tape.trans hg1.tape).trans q1.tape, (hg2.output.trans hg1.output).trans q1.output, Nat.le_trans q1.size (Nat.le_trans hg1.size hg2.size), fun k hk hkm => ?_⟩
      rw [hg2.block k (Nat.lt_of_lt_of_le hk (Nat.le_trans q1.size hg1.size)) (fun e => by have := Option.some.inj e; omega), hg1.block k (Nat.lt_of_lt_of_le hk q1.size) (fun e => by have := Option.some.inj e; omega)]
      exact q1.block k hk hkm
end Go.Proofs.YtneohoclgnfdcaaGreatDoor
/- The family of tables in memory: its root, its rows. -/
namespace Go.Proofs.YtneohoclgnfdcaaGreatDoor
open Go.RowKit
open Go.Lib hiding intOf
/-- a row of the family: the node's cells, its entry -/
def RowF (w : World) (v : Value) (b o k : Nat) (z : ByteArray) : Prop :=
  ∃ (rt : ByteArray) (lb lo kc ib io ic : Nat) (a1 : Option Addr) (n1 c1 : Nat) (a2 : Option Addr) (n2 c2 : Nat), w.cell? ⟨b, o + k * 5, none⟩ = some (.int .i64 10) ∧ w.cell? ⟨b, o + k * 5 + 1, none⟩ = some (.string rt) ∧ w.cell? ⟨b, o + k * 5 + 2, none⟩ = some (.bool false) ∧
    w.cell? ⟨b, o + k * 5 + 3, none⟩ = some (.slice (some ⟨lb, lo, none⟩) 1 kc) ∧ w.cell? ⟨b, o + k * 5 + 4, none⟩ = some (.slice (some ⟨ib, io, none⟩) 1 ic) ∧
    RowC w (.agg #[v, .int .i64 0]) (.agg #[.int .i64 10, .string rt, .bool false, .slice (some ⟨lb, lo, none⟩) 1 kc, .slice (some ⟨ib, io, none⟩) 1 ic]) ⟨#[97]⟩ 6 z false (.slice a1 n1 c1) (.slice a2 n2 c2)
theorem RowF.below {w w' : World} {v : Value} {b o k : Nat} {z : ByteArray} (h : RowF w v b o k z) (hb : Below w.heap.size w w') : RowF w' v b o k z := by
  obtain ⟨rt, lb, lo, kc, ib, io, ic, a1, n1, c1, a2, n2, c2, h0, h1, h2, h3, h4, h5⟩ := h
  exact ⟨rt, lb, lo, kc, ib, io, ic, a1, n1, c1, a2, n2, c2, cell_keep hb h0, cell_keep hb h1, cell_keep hb h2, cell_keep hb h3, cell_keep hb h4, h5.below hb⟩
theorem one_sl {w : World} {v : Value} {x : Int} (h : SlI w v [x]) : ∃ b o c, v = .slice (some ⟨b, o, none⟩) 1 c ∧ w.cell? ⟨b, o, none⟩ = some (.int .i64 x) := by
  obtain ⟨a, c, rfl, -, h | ⟨b, o, rfl, h⟩⟩ := h
  · cases h
  · exact ⟨b, o, c, rfl, h 0 x rfl⟩
theorem any_sl {w : World} {v : Value} {l : List Int} (h : SlI w v l) : ∃ a n c, v = .slice a n c := by
  obtain ⟨a, c, rfl, -⟩ := h
  exact ⟨_, _, _, rfl⟩
/-- the root of the family, and its rows -/
def FamAt (w : World) (v : Value) (z : ByteArray) (n : Nat) : Prop :=
  ∃ (b o N c : Nat) (rt : ByteArray) (ka : Option Addr) (kn kc ib io ic : Nat), v = .slice (some ⟨b, o, none⟩) N c ∧ 0 < N ∧ w.cell? ⟨b, o, none⟩ = some (.int .i64 9) ∧ w.cell? ⟨b, o + 1, none⟩ = some (.string rt) ∧ w.cell? ⟨b, o + 2, none⟩ = some (.bool false) ∧
    w.cell? ⟨b, o + 3, none⟩ = some (.slice ka kn kc) ∧ w.cell? ⟨b, o + 4, none⟩ = some (.slice (some ⟨ib, io, none⟩) n ic) ∧
    ∀ i, i < n → ∃ k : Nat, k < N ∧ w.cell? ⟨ib, io + i, none⟩ = some (.int .i64 k) ∧ RowF w v b o k z
theorem fam_at {w : World} {v : Value} {z : ByteArray} {n : Nat} (h : NodesAt w v (famW z n)) (h0 : 0 < n) : FamAt w v z n := by
  obtain ⟨a, c, rfl, -, h⟩ := h
  rw [famW_len] at *
  rcases h with h | ⟨b, o, rfl, h⟩
  · cases h
  obtain ⟨kv, iv, q0, q1, q2, q3, q4, q5, q6⟩ := h 0 _ rfl
  simp only [Nat.zero_mul, Nat.add_zero] at q0 q1 q2 q3 q4
  obtain ⟨ka, kn, kc, rfl⟩ := any_sl q5
  obtain ⟨ia, ic, rfl, -, h6 | ⟨ib, io, rfl, h6⟩⟩ := q6
  · have := congrArg List.length h6
    simp only [itemsW_len, List.length_nil] at this
    omega
  rw [itemsW_len] at q4
  refine ⟨b, o, 3 * n + 1, c, _, ka, kn, kc, ib, io, ic, rfl, by omega, q0, q1, q2, q3, q4, fun i hi => ?_⟩
  have hit : (itemsW n)[i]? = some ((3 * i + 1 : Nat) : Int) := by
    have hl : i < (itemsW n).length := by rw [itemsW_len]; exact hi
    obtain ⟨-, e⟩ := itemsW_get n i _ (List.getElem?_eq_getElem hl)
    rw [List.getElem?_eq_getElem hl, e]
  refine ⟨3 * i + 1, by omega, h6 i _ hit, ?_⟩
  obtain ⟨g1, g2, g3⟩ := famW_at z n i hi
  obtain ⟨kv1, iv1, a0, a1, a2, a3, a4, a5, a6⟩ := h _ _ g1
  obtain ⟨kv2, iv2, b0, b1, b2, b3, b4, b5, b6⟩ := h _ _ g2
  obtain ⟨kv3, iv3, c0, c1, c2, c3, c4, c5, c6⟩ := h _ _ g3
  obtain ⟨lb, lo, kc1, rfl, l1⟩ := one_sl a5
  obtain ⟨mb, mo, mc1, rfl, m1⟩ := one_sl a6
  obtain ⟨x1, x2, x3, rfl⟩ := any_sl c5
  obtain ⟨y1, y2, y3, rfl⟩ := any_sl c6
  exact ⟨_, lb, lo, kc1, mb, mo, mc1, x1, x2, x3, y1, y2, y3, a0, a1, a2, a3, a4, b, o, 3 * n + 1, c, 0, _, lb, lo, kc1, mb, mo, mc1, 3 * i + 2, 3 * i + 3, rfl, rfl, b0, l1, m1, by omega, by omega, b1, c0, c1, c2, c3, c4⟩
/-- the text of the family's table -/
def lineW (z : ByteArray) : List UInt8 := (cellB z).data.toList ++ [10]
def headW : List UInt8 := [97, 58, 98, 121, 116, 101, 115, 10]
def textW (z : ByteArray) : Nat → List UInt8
  | 0 => headW
  | n + 1 => textW z n ++ lineW z
theorem lineW_len (z : ByteArray) : (lineW z).length = 2 * max z.size 1 + 1 := by
  unfold lineW cellB
  split
  · rename_i h; rw [h]; rfl
  · rename_i h
    rw [List.length_append, hexL_len]
    simp only [Array.length_toList, List.length_cons, List.length_nil]
    have : z.data.size = z.size := rfl
    omega
theorem textW_len (z : ByteArray) : ∀ n, (textW z n).length = 8 + n * (2 * max z.size 1 + 1) := by
  intro n
  induction n with
  | zero => rw [Nat.zero_mul]; rfl
  | succ n ih => rw [textW, List.length_append, ih, lineW_len]; generalize 2 * max z.size 1 + 1 = L; rw [Nat.add_one_mul, Nat.add_assoc]
end Go.Proofs.YtneohoclgnfdcaaGreatDoor
/- What a call above leaves of rows, boxes and builders; an append behind it. -/
namespace Go.Proofs.YtneohoclgnfdcaaGreatDoor
open Go.RowKit Go.Shelf Go.Ev
open Go.Lib hiding intOf
theorem row_below {w w' : World} {B e size n : Nat} {v : Value} {xs : List Value} (h : w.ownsRow B e size v n xs) (hb : Below w.heap.size w w') : w'.ownsRow B e size v n xs := by
  refine ⟨h.1, ?_⟩
  rcases h.2 with hn | ⟨g, cap, cur, hv, h1, h2, h3⟩
  · exact .inl hn
  · exact .inr ⟨g, cap, cur, hv, h1, by rw [hb.block g (Array.getElem?_eq_some_iff.1 h2).1]; exact h2, h3⟩
theorem bld_below {T e : TypeId} {B b : Nat} {bs : List Value} {w w' : World} (h : Lib.IsBuilder T e B b bs w) (hb : Below w.heap.size w w') : Lib.IsBuilder T e B b bs w' := by
  have at_ : ∀ p, Lib.BuilderAt T e B b p bs w → Lib.BuilderAt T e B b p bs w' := fun p hp => by
    obtain ⟨h1, v, h2, h3, h4⟩ := hp
    exact ⟨h1, v, by rw [hb.block b (Array.getElem?_eq_some_iff.1 h2).1]; exact h2, row_below h3 hb, h4⟩
  rcases h with h | h
  · exact .inl (at_ _ h)
  · exact .inr (at_ _ h)
theorem boxed_append {W W6 w1 : World} {n₀ B : Nat} {t e : TypeId} {size : Nat} {v v' : Value} {k m : Nat} {xs ys : List Value}
    (hv : Boxed W B t v) (hte : t ≠ e) (hrow : W.ownsRow n₀ e size v k xs) (hn₀ : n₀ ≤ W.heap.size) (hB : n₀ ≤ B) (hb : Below W.heap.size W W6)
    (hown' : w1.ownsRow n₀ e size v' m ys) (hgrow : W6.grownBy w1 v.ownBlock) :
    Boxed w1 B t v ∧ Boxed (w1.setCell ⟨B, 0, none⟩ v') B t v' ∧ (w1.setCell ⟨B, 0, none⟩ v').ownsRow n₀ e size v' m ys ∧ KeepsOthers W (w1.setCell ⟨B, 0, none⟩ v') ∧ Below n₀ W (w1.setCell ⟨B, 0, none⟩ v') := by
  have hg6 := grown_of_below hb
  have hv6 : Boxed W6 B t v := hv.kept hg6 (by simp)
  have hr6 := row_below hrow hb
  have hv1 : Boxed w1 B t v := hv6.kept hgrow (hv.not_row hte hrow)
  refine ⟨hv1, hv1.set v', hown'.kept (grownBy_setCell' w1 B v') (.inr (hv1.not_row hte hown').symm), ?_, ?_⟩
  · refine ((KeepsOthers.of_grownBy hg6 fun j o ej hj => by cases ej).trans (KeepsOthers.of_grownBy hgrow fun j o ej hj => ?_)).trans (KeepsOthers.setCell _ _ _)
    rcases hr6.2 with ⟨rfl, _⟩ | ⟨g, cap, cur, rfl, _, hgb, _⟩
    · simp [Value.ownBlock] at ej
    · obtain rfl : g = j := by simpa [Value.ownBlock] using ej
      rw [hgb] at hj; cases hj; rfl
  · refine ((hb.mono hn₀).grown hgrow (Nat.le_trans hn₀ hb.size) fun j ej => ?_).setCell (p := ⟨B, 0, none⟩) hB v'
    rcases hrow.2 with ⟨rfl, _⟩ | ⟨g, cap, cur, rfl, hb, _, _⟩
    · simp [Value.ownBlock] at ej
    · obtain rfl : g = j := by simpa [Value.ownBlock] using ej
      exact hb
theorem text_room (z : ByteArray) (hz : z.size ≤ 4000) (i : Nat) (hi : i ≤ 40) : (textW z i).length + (cellB z).size + 1 ≤ 1000000 := by
  have h1 := textW_len z i
  have h2 := lineW_len z
  have h3 : (lineW z).length = (cellB z).size + 1 := by
    unfold lineW
    rw [List.length_append]
    simp only [Array.length_toList, List.length_cons, List.length_nil]
    rfl
  have h4 : i * (2 * max z.size 1 + 1) ≤ 40 * (2 * max z.size 1 + 1) := Nat.mul_le_mul_right _ hi
  have h5 : max z.size 1 ≤ 4000 := by omega
  omega
theorem bstr_kept (B b : Nat) (l : List UInt8) (w : World) (h : Lib.IsBuilder 59 5 B b (Lib.byteCells l) w) (hne : l ≠ []) (hl : l.length ≤ 1000000) :
    Calls Tryz.prog 24 #[.pointer (some ⟨b, 0, none⟩)] w fun e w' => e = .returned (.string ⟨l.toArray⟩) ∧ Below B w w' ∧ OthersKept 5 (some b) w w' := by
  obtain ⟨p, hB, v, hb, hown, hneq⟩ : ∃ p, Lib.BuilderAt 59 5 B b p (Lib.byteCells l) w := by rcases h with h | h <;> exact ⟨_, h⟩
  have hlen : (Lib.byteCells l).length = l.length := by simp [Lib.byteCells]
  rw [hlen] at hown
  have hpos : 0 < l.length := List.length_pos_iff.2 hne
  rcases hown.2 with ⟨-, h0⟩ | ⟨g, cap, cur, rfl, hbg, hg, hc, hm, hs, ht⟩
  · omega
  · refine (bstring_rowE b g cap cur.size l w hne (by omega) ((Lib.cell_of_heap hb 1).trans rfl) (by simp [World.shape?, hg]) (by omega) (by omega) ?_).mono ?_
    · intro j x hj
      have e1 : (⟨g, 0, none⟩ : Addr).add j = ⟨g, j, none⟩ := by unfold Addr.add; split <;> simp_all
      rw [e1, Lib.cell_of_heap hg]
      have h1 : (Lib.byteCells l)[j]? = some (.int .u8 x.toNat) := by simp [Lib.byteCells, hj]
      rw [← ht] at h1
      have hjl : j < l.length := (List.getElem?_eq_some_iff.1 hj).1
      rw [List.getElem?_take_of_lt (by omega)] at h1
      simpa using h1
    · rintro e w' ⟨rfl, u, ⟨u1, u2, u3, u4⟩, rfl⟩
      have hok : OthersKept 5 (some b) w u := fun k o hk _ _ => by rw [u1]; exact hk
      have hug : u.heap[g]? = some (.cells cur 5) := by rw [u1]; exact hg
      exact ⟨rfl, Lib.below_freeze ⟨u2, u3, u4, by rw [u1]; exact Nat.le_refl _, fun k _ => by rw [u1]⟩ hbg _, hok.freeze _ _ ⟨_, _, hug⟩⟩
end Go.Proofs.YtneohoclgnfdcaaGreatDoor
/- The family of tables as the law builds it. -/
namespace Go.Proofs.YtneohoclgnfdcaaGreatDoor
open Go.RowKit Go.Shelf Go.Ev
open Go.Lib hiding intOf
def nilV2 : Value := .slice none 0 0
/-- the fifteen cells of a row's three nodes -/
def row15 (z : ByteArray) (q1 q2 : Nat) : List Value := [.int .i64 10, .string ⟨#[]⟩, .bool false, .slice (some ⟨q1, 0, none⟩) 1 1, .slice (some ⟨q2, 0, none⟩) 1 1, .int .i64 5, .string ⟨#[97]⟩, .bool false, .slice none 0 0, .slice none 0 0, .int .i64 6, .string z, .bool false, .slice none 0 0, .slice none 0 0]
/-- the cells of the rows, but for the root; p: the block of the root's items -/
def RowsF (wr : World) (z : ByteArray) (p : Option Nat) : Nat → List Value → Prop
  | 0, xs => xs = []
  | i + 1, xs => ∃ ys q1 q2, RowsF wr z p i ys ∧ xs = ys ++ row15 z q1 q2 ∧ wr.heap[q1]? = some (.cells #[.int .i64 ((3 * i + 2 : Nat) : Int)] 3) ∧ wr.heap[q2]? = some (.cells #[.int .i64 ((3 * i + 3 : Nat) : Int)] 3) ∧ some q1 ≠ p ∧ some q2 ≠ p
theorem RowsF.len {wr : World} {z : ByteArray} {p : Option Nat} : ∀ {i : Nat} {xs : List Value}, RowsF wr z p i xs → xs.length = 15 * i := by
  intro i
  induction i with
  | zero => intro xs h; rw [show xs = _ from h]; rfl
  | succ i ih =>
    intro xs h
    obtain ⟨ys, q1, q2, h1, rfl, -⟩ := h
    rw [List.length_append, ih h1]
    simp only [row15, List.length_cons, List.length_nil]
    omega
theorem RowsF.keep {wr wr' : World} {z : ByteArray} {p p' : Option Nat} (hk : ∀ (k : Nat) cs, wr.heap[k]? = some (.cells cs 3) → some k ≠ p → wr'.heap[k]? = some (.cells cs 3) ∧ some k ≠ p') : ∀ {i : Nat} {xs : List Value}, RowsF wr z p i xs → RowsF wr' z p' i xs := by
  intro i
  induction i with
  | zero => intro xs h; exact h
  | succ i ih =>
    intro xs h
    obtain ⟨ys, q1, q2, h1, h2, h3, h4, h5, h6⟩ := h
    exact ⟨ys, q1, q2, ih h1, h2, (hk _ _ h3 h5).1, (hk _ _ h4 h6).1, (hk _ _ h3 h5).2, (hk _ _ h4 h6).2⟩
theorem sl_nil2 (wr : World) : SlI wr (.slice none 0 0) [] := ⟨none, 0, rfl, by decide, .inl rfl⟩
theorem sl_one2 {wr : World} {q : Nat} {x : Int} (h : wr.heap[q]? = some (.cells #[.int .i64 x] 3)) : SlI wr (.slice (some ⟨q, 0, none⟩) 1 1) [x] := by
  refine ⟨some ⟨q, 0, none⟩, 1, rfl, show 1 ≤ 140737488355328 by decide, .inr ⟨q, 0, rfl, ?_⟩⟩
  intro k y hy
  rw [Lib.cell_of_heap h]
  match k, hy with
  | 0, hy => simp at hy; subst hy; rfl
  | k + 1, hy => simp at hy
theorem RowsF.at {wr : World} {z : ByteArray} {p : Option Nat} : ∀ {i : Nat} {xs : List Value}, RowsF wr z p i xs → ∀ (j : Nat) (n : Nd), (rowsW z i)[j]? = some n →
    ∃ kv iv, xs[j * 5]? = some (.int .i64 n.kind) ∧ xs[j * 5 + 1]? = some (.string n.text) ∧ xs[j * 5 + 2]? = some (.bool n.ord) ∧ xs[j * 5 + 3]? = some kv ∧ xs[j * 5 + 4]? = some iv ∧ SlI wr kv n.keys ∧ SlI wr iv n.items := by
  intro i
  induction i with
  | zero => intro xs h j n hj; simp [rowsW] at hj
  | succ i ih =>
    intro xs h j n hj
    obtain ⟨ys, q1, q2, h1, rfl, h3, h4, -⟩ := h
    have hl := h1.len
    have hrl := rowsW_len z i
    by_cases hji : j < 3 * i
    · rw [rowsW, List.getElem?_append_left (by omega)] at hj
      obtain ⟨kv, iv, a0, a1, a2, a3, a4, a5, a6⟩ := ih h1 j n hj
      refine ⟨kv, iv, ?_, ?_, ?_, ?_, ?_, a5, a6⟩ <;> rw [List.getElem?_append_left (by omega)] <;> assumption
    · obtain ⟨t, rfl⟩ : ∃ t, j = 3 * i + t := ⟨j - 3 * i, by omega⟩
      rw [rowsW, List.getElem?_append_right (by omega), hrl, Nat.add_sub_cancel_left, rowW] at hj
      have ge : ∀ c, (ys ++ row15 z q1 q2)[(3 * i + t) * 5 + c]? = (row15 z q1 q2)[t * 5 + c]? := fun c => by
        rw [List.getElem?_append_right (by omega), hl]; congr 1; omega
      have ge0 : (ys ++ row15 z q1 q2)[(3 * i + t) * 5]? = (row15 z q1 q2)[t * 5]? := ge 0
      rw [ge0, ge, ge, ge, ge]
      match t, hj with
      | 0, hj => cases Option.some.inj hj; exact ⟨_, _, rfl, rfl, rfl, rfl, rfl, sl_one2 h3, sl_one2 h4⟩
      | 1, hj => cases Option.some.inj hj; exact ⟨_, _, rfl, rfl, rfl, rfl, rfl, sl_nil2 wr, sl_nil2 wr⟩
      | 2, hj => cases Option.some.inj hj; exact ⟨_, _, rfl, rfl, rfl, rfl, rfl, sl_nil2 wr, sl_nil2 wr⟩
      | t + 3, hj => simp at hj
/-- the law's world: i rows, j items of the root; the graph's box at B, the nodes at g, the items iv -/
structure BW (w : World) (B : Nat) (z : ByteArray) (i j g c : Nat) (iv : Value) (wr : World) : Prop where
  below : Below w.heap.size w wr
  hB : w.heap.size ≤ B
  box : wr.heap[B]? = some (.cells #[.slice (some ⟨g, 0, none⟩) (3 * i + 1) c, .int .i64 0] 36)
  its : wr.ownsRow w.heap.size 3 1 iv j ((itemsW j).map (Value.int .i64))
  own : ∃ xs, RowsF wr z iv.ownBlock i xs ∧ wr.ownsRow w.heap.size 33 5 (.slice (some ⟨g, 0, none⟩) (3 * i + 1) c) (3 * i + 1) ([.int .i64 9, .string ⟨#[]⟩, .bool false, .slice none 0 0, iv] ++ xs)
theorem BW.start (w : World) (z : ByteArray) : BW w (w.heap.size + 1) z 0 0 w.heap.size 1 (.slice none 0 0) ((w.alloc (.cells #[.int .i64 9, .string ⟨#[]⟩, .bool false, .slice none 0 0, .slice none 0 0] 33)).alloc (.cells #[.slice (some ⟨w.heap.size, 0, none⟩) 1 1, .int .i64 0] 36)) := by
  have h1 := heap_alloc_new w (.cells #[.int .i64 9, .string ⟨#[]⟩, .bool false, .slice none 0 0, .slice none 0 0] 33)
  have h2 := heap_alloc_new (w.alloc (.cells #[.int .i64 9, .string ⟨#[]⟩, .bool false, .slice none 0 0, .slice none 0 0] 33)) (.cells #[.slice (some ⟨w.heap.size, 0, none⟩) 1 1, .int .i64 0] 36)
  rw [size_new] at h2
  have h3 := ((below_new (w.alloc (.cells #[.int .i64 9, .string ⟨#[]⟩, .bool false, .slice none 0 0, .slice none 0 0] 33)) (.cells #[.slice (some ⟨w.heap.size, 0, none⟩) 1 1, .int .i64 0] 36)).block _ (block_lt h1)).trans h1
  refine ⟨(below_new w _).trans ((below_new _ _).mono (by simp)), by omega, h2, World.ownsRow_nil _ _ _ _, [], rfl, ?_⟩
  exact ⟨rfl, .inr ⟨w.heap.size, 1, _, rfl, Nat.le_refl _, h3, Nat.le_refl _, by unfold maxLen; omega, rfl, rfl⟩⟩
theorem BW.gheap {w : World} {B i j g c : Nat} {z : ByteArray} {iv : Value} {wr : World} (h : BW w B z i j g c iv wr) : w.heap.size ≤ g ∧ ∃ cur : Array Value, wr.heap[g]? = some (.cells cur 33) := by
  obtain ⟨xs, -, h1⟩ := h.own
  rcases h1.2 with ⟨e, -⟩ | ⟨g', cap, cur, e, h2, h3, -⟩
  · cases e
  · cases e; exact ⟨h2, cur, h3⟩
theorem BW.iheap {w : World} {B i j g c : Nat} {z : ByteArray} {iv : Value} {wr : World} (h : BW w B z i j g c iv wr) : ∀ k, iv.ownBlock = some k → w.heap.size ≤ k ∧ ∃ cur : Array Value, wr.heap[k]? = some (.cells cur 3) := by
  intro k hk
  rcases h.its.2 with ⟨e, -⟩ | ⟨g', cap, cur, e, h2, h3, -⟩
  · rw [e] at hk; cases hk
  · rw [e] at hk; cases hk; exact ⟨h2, cur, h3⟩
theorem BW.c4 {w : World} {B i j g c : Nat} {z : ByteArray} {iv : Value} {wr : World} (h : BW w B z i j g c iv wr) : wr.cell? ⟨g, 4, none⟩ = some iv := by
  obtain ⟨xs, -, h1⟩ := h.own
  have h2 := World.ownsRow.cells (w := wr) h1 rfl 4 iv rfl
  have h3 : (⟨g, 0, none⟩ : Addr).add 4 = ⟨g, 4, none⟩ := by unfold Addr.add; split <;> simp_all
  rw [h3] at h2; exact h2
theorem BW.f4 {w : World} {B i j g c : Nat} {z : ByteArray} {iv : Value} {wr : World} (h : BW w B z i j g c iv wr) : wr.frozen? ⟨g, 4, none⟩ = false := by
  obtain ⟨-, cur, h1⟩ := h.gheap
  exact Lib.frozen_of_heap h1 4
theorem itemsW_succ (j : Nat) : (itemsW (j + 1)).map (Value.int .i64) = (itemsW j).map (Value.int .i64) ++ [.int .i64 ((3 * j + 1 : Nat) : Int)] := by simp [itemsW]
/-- an item of the root is appended, and stored -/
theorem BW.item {w : World} {B i j g c : Nat} {z : ByteArray} {iv v' : Value} {wr X8 w9 : World} (h : BW w B z i j g c iv wr) (hb : Below wr.heap.size wr X8) (hown : w9.ownsRow w.heap.size 3 1 v' (j + 1) ((itemsW (j + 1)).map (Value.int .i64))) (hg : X8.grownBy w9 iv.ownBlock) (hblk : v'.ownBlock = iv.ownBlock ∨ v'.ownBlock = some X8.heap.size) :
    BW w B z i (j + 1) g c v' (w9.setCell ⟨g, 4, none⟩ v') ∧ w9.frozen? ⟨g, 4, none⟩ = false := by
  obtain ⟨hgl, cur, hgc⟩ := h.gheap
  have hne : ∀ (k : Nat) cs t fz, wr.heap[k]? = some (.cells cs t fz) → t ≠ 3 → some k ≠ iv.ownBlock := fun k cs t fz hk ht e => by
    obtain ⟨-, cu, h1⟩ := h.iheap k e.symm
    rw [hk] at h1
    cases h1
    exact ht rfl
  have hk9 : ∀ (k : Nat) cs t fz, wr.heap[k]? = some (.cells cs t fz) → some k ≠ iv.ownBlock → w9.heap[k]? = some (.cells cs t fz) := fun k cs t fz hk hn => by
    have hlt := block_lt hk
    rw [hg.block k (Nat.lt_of_lt_of_le hlt hb.size) hn, hb.block k hlt]; exact hk
  have hg9 := hk9 g _ _ _ hgc (hne g _ _ _ hgc (by decide))
  have hgs := grown_set w9 g 4 v'
  have hnv : ∀ k, v'.ownBlock = some k → ∃ cur : Array Value, w9.heap[k]? = some (.cells cur 3) := fun k hk => by
    rcases hown.2 with ⟨e, -⟩ | ⟨g', cap, cu, e, h2, h3, -⟩
    · rw [e] at hk; cases hk
    · rw [e] at hk; cases hk; exact ⟨cu, h3⟩
  refine ⟨⟨?_, h.hB, ?_, hown.kept hgs ?_, ?_⟩, Lib.frozen_of_heap hg9 4⟩
  · have hb9 : Below w.heap.size w w9 := (h.below.trans (hb.mono h.below.size)).grown hg (Nat.le_trans h.below.size hb.size) (fun k hk => (h.iheap k hk).1)
    exact hb9.setCell (p := ⟨g, 4, none⟩) hgl v'
  · have h1 := hk9 B _ _ _ h.box (hne B _ _ _ h.box (by decide))
    rw [hgs.block B (block_lt h1) (fun e => by
      have := Option.some.inj e
      subst this
      rw [h.box] at hgc
      cases hgc)]
    exact h1
  · right
    intro e
    obtain ⟨cu, h1⟩ := hnv g e
    rw [hg9] at h1
    cases h1
  · obtain ⟨xs, h1, h2⟩ := h.own
    refine ⟨xs, h1.keep fun k cs hk hn => ?_, ?_⟩
    · have h3 := hk9 k _ _ _ hk hn
      have hkg : some k ≠ some g := fun e => by
        have := Option.some.inj e
        subst this
        rw [hk] at hgc
        cases hgc
      refine ⟨by rw [hgs.block k (block_lt h3) hkg]; exact h3, ?_⟩
      rcases hblk with e | e
      · rw [e]; exact hn
      · rw [e]
        intro e2
        have := Option.some.inj e2
        have := block_lt hk
        have := hb.size
        omega
    · have h3 : w9.ownsRow w.heap.size 33 5 (.slice (some ⟨g, 0, none⟩) (3 * i + 1) c) (3 * i + 1) ([.int .i64 9, .string ⟨#[]⟩, .bool false, .slice none 0 0, iv] ++ xs) := by
        refine (row_below h2 hb).kept hg ?_
        right
        intro e
        exact hne g _ _ _ hgc (by decide) e
      exact (h3.stored 4 v').1
/-- three nodes are appended, and the row stored -/
theorem BW.row {w : World} {B i g c : Nat} {z : ByteArray} {iv v' : Value} {wr X w9 : World} {q1 q2 : Nat} (h : BW w B z i (i + 1) g c iv wr) (hb : Below wr.heap.size wr X) (h1 : X.heap[q1]? = some (.cells #[.int .i64 ((3 * i + 2 : Nat) : Int)] 3)) (h2 : X.heap[q2]? = some (.cells #[.int .i64 ((3 * i + 3 : Nat) : Int)] 3)) (l1 : wr.heap.size ≤ q1) (l2 : wr.heap.size ≤ q2)
    (xs : List Value) (hx : RowsF wr z iv.ownBlock i xs) (hown : w9.ownsRow w.heap.size 33 5 v' (3 * i + 1 + 3) (([.int .i64 9, .string ⟨#[]⟩, .bool false, .slice none 0 0, iv] ++ xs) ++ row15 z q1 q2)) (hg : X.grownBy w9 (some g)) :
    (∃ g' c', v' = .slice (some ⟨g', 0, none⟩) (3 * i + 4) c' ∧ BW w B z (i + 1) (i + 1) g' c' iv (w9.setCell ⟨B, 0, none⟩ v')) ∧ w9.heap[B]? = some (.cells #[.slice (some ⟨g, 0, none⟩) (3 * i + 1) c, .int .i64 0] 36) := by
  obtain ⟨hgl, cur, hgc⟩ := h.gheap
  have hgX : X.heap[g]? = some (.cells cur 33) := (hb.block g (block_lt hgc)).trans hgc
  have hkX : ∀ (k : Nat) cs t fz, X.heap[k]? = some (.cells cs t fz) → t ≠ 33 → w9.heap[k]? = some (.cells cs t fz) := fun k cs t fz hk ht => by
    rw [hg.block k (block_lt hk) (fun e => by have := Option.some.inj e; subst this; rw [hk] at hgX; cases hgX; exact ht rfl)]; exact hk
  have hk9 : ∀ (k : Nat) cs t fz, wr.heap[k]? = some (.cells cs t fz) → t ≠ 33 → w9.heap[k]? = some (.cells cs t fz) := fun k cs t fz hk ht => hkX k cs t fz ((hb.block k (block_lt hk)).trans hk) ht
  have hB9 := hk9 B _ _ _ h.box (by decide)
  have hgs := grown_set w9 B 0 v'
  have hne : ∀ (k : Nat) cs t fz, w9.heap[k]? = some (.cells cs t fz) → t ≠ 36 → some k ≠ some B := fun k cs t fz hk ht e => by
    have := Option.some.inj e
    subst this
    rw [hB9] at hk
    cases hk
    exact ht rfl
  rcases hown.2 with ⟨-, e0⟩ | ⟨g', c', cu, e, w1, w2, w3, w4, w5, w6⟩
  · omega
  subst e
  have hgB : some g' ≠ some B := hne g' _ _ _ w2 (by decide)
  refine ⟨⟨g', c', rfl, ⟨?_, h.hB, ?_, ?_, ?_⟩⟩, hB9⟩
  · have hb9 : Below w.heap.size w w9 := (h.below.trans (hb.mono h.below.size)).grown hg (Nat.le_trans h.below.size hb.size) (fun k hk => by cases hk; exact hgl)
    exact hb9.setCell (p := ⟨B, 0, none⟩) h.hB _
  · simp only [World.setCell, Array.getElem?_modify, if_pos, hB9]
    rfl
  · refine ((row_below h.its hb).kept hg ?_).kept hgs ?_
    · right
      intro e
      obtain ⟨-, cu2, h3⟩ := h.iheap g e
      rw [hgc] at h3
      cases h3
    · right
      intro e
      obtain ⟨-, cu2, h3⟩ := h.iheap B e
      rw [h.box] at h3
      cases h3
  · refine ⟨xs ++ row15 z q1 q2, ⟨xs, q1, q2, hx.keep fun k cs hk hn => ?_, rfl, ?_, ?_, ?_, ?_⟩, ?_⟩
    · have h3 := hk9 k _ _ _ hk (by decide)
      exact ⟨by rw [hgs.block k (block_lt h3) (hne k _ _ _ h3 (by decide))]; exact h3, hn⟩
    · have h3 := hkX q1 _ _ _ h1 (by decide)
      rw [hgs.block q1 (block_lt h3) (hne q1 _ _ _ h3 (by decide))]; exact h3
    · have h3 := hkX q2 _ _ _ h2 (by decide)
      rw [hgs.block q2 (block_lt h3) (hne q2 _ _ _ h3 (by decide))]; exact h3
    · intro e
      obtain ⟨-, cu2, h3⟩ := h.iheap q1 e.symm
      have := block_lt h3
      omega
    · intro e
      obtain ⟨-, cu2, h3⟩ := h.iheap q2 e.symm
      have := block_lt h3
      omega
    · rw [← List.append_assoc]
      exact hown.kept hgs (.inr fun e => hgB e)
theorem BW.nodes {w : World} {B n g c : Nat} {z : ByteArray} {iv : Value} {wr : World} (h : BW w B z n n g c iv wr) (hn : n ≤ 40) : NodesAt wr (.slice (some ⟨g, 0, none⟩) (3 * n + 1) c) (famW z n) := by
  obtain ⟨xs, h1, h2⟩ := h.own
  have hfl := famW_len z n
  refine ⟨some ⟨g, 0, none⟩, c, by rw [hfl], by omega, .inr ⟨g, 0, rfl, ?_⟩⟩
  have hc : ∀ (k : Nat) (u : Value), ([.int .i64 9, .string ⟨#[]⟩, .bool false, .slice none 0 0, iv] ++ xs : List Value)[k]? = some u → wr.cell? ⟨g, k, none⟩ = some u := fun k u hu => by
    have h3 := World.ownsRow.cells (w := wr) h2 rfl k u hu
    have h4 : (⟨g, 0, none⟩ : Addr).add k = ⟨g, k, none⟩ := by unfold Addr.add; split <;> simp_all
    rw [h4] at h3; exact h3
  intro k nd hk
  cases k with
  | zero =>
    cases Option.some.inj hk
    refine ⟨.slice none 0 0, iv, hc 0 _ rfl, hc 1 _ rfl, hc 2 _ rfl, hc 3 _ rfl, hc 4 _ rfl, sl_nil2 wr, ?_⟩
    show SlI wr iv (itemsW n)
    have hil := itemsW_len n
    rcases h.its.2 with ⟨rfl, rfl⟩ | ⟨p, cap, cur, rfl, -⟩
    · exact sl_nil2 wr
    · refine ⟨some ⟨p, 0, none⟩, cap, by rw [hil], by omega, .inr ⟨p, 0, rfl, fun q x hq => ?_⟩⟩
      have h3 := World.ownsRow.cells (w := wr) h.its rfl q (.int .i64 x) (by rw [List.getElem?_map, hq]; rfl)
      have h4 : (⟨p, 0, none⟩ : Addr).add q = ⟨p, q, none⟩ := by unfold Addr.add; split <;> simp_all
      rw [h4] at h3
      rw [Nat.zero_add]; exact h3
  | succ k =>
    obtain ⟨kv, iv2, a0, a1, a2, a3, a4, a5, a6⟩ := h1.at k nd (by simpa [famW] using hk)
    have sh : ∀ (t : Nat) (u : Value), xs[t]? = some u → wr.cell? ⟨g, t + 5, none⟩ = some u := fun t u hu => hc (t + 5) u (by simpa using hu)
    refine ⟨kv, iv2, ?_, ?_, ?_, ?_, ?_, a5, a6⟩
    · have := sh _ _ a0; rw [show 0 + (k + 1) * 5 = k * 5 + 5 by omega]; exact this
    · have := sh _ _ a1; rw [show 0 + (k + 1) * 5 + 1 = k * 5 + 1 + 5 by omega]; exact this
    · have := sh _ _ a2; rw [show 0 + (k + 1) * 5 + 2 = k * 5 + 2 + 5 by omega]; exact this
    · have := sh _ _ a3; rw [show 0 + (k + 1) * 5 + 3 = k * 5 + 3 + 5 by omega]; exact this
    · have := sh _ _ a4; rw [show 0 + (k + 1) * 5 + 4 = k * 5 + 4 + 5 by omega]; exact this
end Go.Proofs.YtneohoclgnfdcaaGreatDoor
/- The law of a region that draws, inside a fence: a prefix of operations of one value each, operations in the middle that may come between them, and a tail that is walked plainly. -/
namespace Go.MixIn
open Go.Mix Go.Ev Go.RowKit
section
variable {ro : Option Nat} {m : Nat} {P : Program} {ops : Array Oper} {md : Region.Mode} {Q : Exit → Act → World → Prop} {T : World → World → Prop} {D : World → Prop}
/-- worlds that have grown -/
structure Grow (ρ : World) where
  w : World
  h : Below ρ.heap.size ρ w
instance (ρ : World) : Nonempty (Grow ρ) := ⟨⟨ρ, Below.refl _ _⟩⟩
theorem Grow.calls {P : Program} {f : FuncId} {args : Array Value} {ρ : World} {x : Grow ρ} {v : Value}
    (h : Calls P f args x.w fun e w' => e = .returned v ∧ Below x.w.heap.size x.w w') : Calls P f args x.w fun e w'' => e = .returned v ∧ ∃ y : Grow ρ, w'' = y.w :=
  h.mono fun _ w' ⟨he, hb⟩ => ⟨he, ⟨w', x.h.trans (hb.mono x.h.size)⟩, rfl⟩
theorem wpV_one {n f fuel : Nat} {listed : Array Bool} {a : Act} {C : World → Prop} {i : Nat} {o : Oper} (hr : Region.ready md ops listed = [i]) (ho : ops[i]? = some o) (hw : Region.wanted o (yielded ops a.tmps) = true)
    (R : Value → World → Prop) (hR : ∀ v w w', R v w → T w w' → R v w') (hD : ∀ v w, R v w → D w) (hrun : ∀ w, C w → uponU ro m P R ((execOp a.eval o).run P w))
    (hK : ∀ v w, R v w → wpV ro m P md ops Q T D n f fuel (listed.setIfInBounds i true) (a.put o.dst v) (R v)) : wpV ro m P md ops Q T D n f (fuel + 1) listed a C := by
  refine ⟨(fun h => by rw [hr] at h; cases h), fun j hj => ?_⟩
  rw [hr] at hj
  obtain rfl : j = i := by simpa using hj
  unfold opU
  simp only [ho, hw, if_true]
  exact ⟨R, hR, hD, hrun, hK⟩
theorem wpV_end {n f : Nat} {listed : Array Bool} {a : Act} {C : World → Prop} (hr : Region.ready md ops listed = [n]) (h : ∀ w, C w → wpAnyIn (wideR ro) m P md ops Q f listed a w) : wpV ro m P md ops Q T D n f 0 listed a C := ⟨hr, h⟩
theorem wpV_lexg {n f g : Nat} (hsc : succB md ops n = true) (hs : Region.noSelect ops = true) (hT : ∀ w, T w w) {C : World → Prop} (hC1 : ∀ w w', C w → T w w' → C w') (hC2 : ∀ w, C w → D w) (hne : ∃ ρ, D ρ) {aF : Act} {listed' : Array Bool} :
    ∀ (l : List Oper) (k : Nat) (listed : Array Bool) (a : Act) (seen : List Tmp), k + l.length ≤ n → Closed md ops listed → (∀ j, j < l.length → l[j]? = ops[k + j]?) →
    lexTo md ops l.length k listed = some listed' → dstsB a.tmps.size l seen = true → WalkTo P ops T D aF l a → wpV ro m P md ops Q T D n f g listed' aF C → wpV ro m P md ops Q T D n f (l.length + g) listed a C
  | [], _, listed, a, _, _, _, _, hB, _, h, hK => by
    obtain ⟨ρ, hρ⟩ := hne
    have e : a = aF := h ρ hρ
    have e2 : listed = listed' := by simpa [lexTo] using hB
    subst e e2
    simpa using hK
  | o :: l, k, listed, a, seen, hkn, hcl, hl, hB, hd, h, hK => by
    have h0 : ops[k]? = some o := by simpa using (hl 0 (by simp)).symm
    simp only [List.length_cons, lexTo] at hB
    split at hB
    case isFalse => cases hB
    rename_i hc
    simp only [Bool.and_eq_true] at hc
    obtain ⟨v, seen', h1, h2, h3⟩ := step_of_walk hT hd h
    have hr : k ∈ Region.ready md ops listed := by simpa using hc.1
    have := wpV_lexg hsc hs hT hC1 hC2 hne l (k + 1) _ (a.put o.dst v) seen' (by simp at hkn; omega) (hcl.set hr) (fun j hj => by have := hl (j + 1) (by simp; omega); simpa [Nat.add_assoc, Nat.add_comm 1 j] using this) hB (by rw [put_size]; exact h2) h3 hK
    rw [List.length_cons, Nat.add_right_comm]
    exact wpV_first hsc (by simp at hkn; omega) h0 (Region.noSelect_spec hs) (l.length + g) listed a C hcl hC1 hC2 (Region.free_spec h0 hc.2) hr h1 this
/-- THE REGION: the first k operations have one value each; the next g are walked by classes of worlds; the last f are walked plainly. -/
theorem wpIn_region_mid {id : Nat} {a : Act} {w : World} {l : List Oper} (k g f : Nat) (C D : World → Prop) (T : World → World → Prop) {aF : Act} (hm : P.follows .mixedOrders = true) (hnd : ∀ (j : Nat) (o : Oper) c, l.toArray[j]? = some o → o.op ≠ .defer c)
    (hn : k + g + f = l.length) (hsc : succB .any l.toArray (k + g) = true) (hs : Region.noSelect l.toArray = true) (hB : lexTo .any l.toArray k 0 (Array.replicate l.length false) = some (List.replicate k true ++ List.replicate (g + f) false).toArray) (hd : dstsB a.tmps.size (l.take k) [] = true)
    (hT : ∀ w, T w w) (hC1 : ∀ w w', C w → T w w' → C w') (hC2 : ∀ w, C w → D w) (h0 : C { w with drawn := w.drawn + 1 }) (hA : WalkTo P l.toArray T D aF (l.take k) a)
    (hN : wpV ro m P .any l.toArray Q T D (k + g) f g (List.replicate k true ++ List.replicate (g + f) false).toArray aF C) : (Code.region id l.toArray true).wpIn (wideR ro) m P Q a w := by
  have hlen : (l.take k).length = k := by simp; omega
  have hz : Closed .any l.toArray (Array.replicate l.length false) := by
    intro j o _ hl
    rw [Array.getD_eq_getD_getElem?, Array.getElem?_replicate] at hl
    split at hl <;> cases hl
  have h1 := wpV_lexg (ro := ro) (m := m) (P := P) (md := .any) (ops := l.toArray) (Q := Q) (T := T) (D := D) (n := k + g) (f := f) (g := g) hsc hs hT hC1 hC2 ⟨_, hC2 _ h0⟩ (l.take k) 0 (Array.replicate l.length false) a [] (by rw [hlen]; omega) hz (fun j hj => by rw [hlen] at hj; simp [hj]) (by rw [hlen]; exact hB) hd hA hN
  rw [hlen] at h1
  have h2 := wpAny_of_V hnd (k + g) _ _ _ _ h0 h1
  refine wpIn_region_any hm ?_
  rw [hn] at h2
  simpa using h2
theorem wpIn_append {F : Fence} {n : Nat} {P : Program} {Q : Exit → Act → World → Prop} {o : Oper} {a : Act} {w w' : World} {K : Act → World → Prop} {v u v' : Value} (s x : Operand) (t : TypeId) (hop : o.op = Op.call { callee := Callee.builtin Builtin.append, args := #[s, x], argTypes := #[t, t] })
    (hs : a.eval s = v) (hx : a.eval x = u) (hr : (Builtin.append_ #[t, t] o.type #[v, u]).run P w = .ok v' w') (hk : K (a.put o.dst v') w') : o.wpIn F n P a w K Q := by
  unfold Oper.wpIn
  refine ⟨?_, ?_⟩
  · simp [Oper.about, hop, resolve, Target.leads, Sem.run_pure]
  · rw [Oper.semAt_plain F _ _ (by rw [hop]; intro c hc'; cases hc')]
    simp [execOp, hop, resolve, invoke, builtin, hs, hx, hr, Result.andThen]
    exact hk
end
end Go.MixIn
/- A region that draws its order, inside a fence, by facts: each of the first n operations has a fact, which later ones leave alone; the tail is walked plainly. -/
namespace Go.MixIn
open Go.Mix Go.Ev Go.RowKit Go.Proofs.YtneohoclgnfdcaaGreatDoor
def upd (x : Nat → Value) (i : Nat) (v : Value) : Nat → Value := fun k => if k = i then v else x k
theorem upd_same (x : Nat → Value) (i : Nat) (v : Value) : upd x i v i = v := by simp [upd]
theorem upd_ne {x : Nat → Value} {i k : Nat} (v : Value) (h : k ≠ i) : upd x i v k = x k := by simp [upd, h]
/-- the operations of a prefix: a slot of their own, no guard, no defer -/
def headB (l : List Oper) (n : Nat) (d : Nat → Nat) : Bool := (List.range n).all fun i => ((l[i]?).map fun o => decide (o.dst = some (d i)) && o.guard.isNone && (match o.op with | .defer _ => false | _ => true)).getD false
def depB (l : List Oper) (n : Nat) (dep : Nat → List Nat) : Bool := (List.range n).all fun i => (dep i).all fun k => ((l[i]?).map fun o => o.after.any fun e => Region.binds .any e && decide (e.on < i) && (Nat.beq e.on k || (dep e.on).any (Nat.beq k))).getD false
def tailB (l : List Oper) (n : Nat) : Bool := (List.range l.length).all fun i => decide (i ≤ n) || ((l[i]?).map fun o => o.after.any fun e => Region.binds .any e && decide (n ≤ e.on)).getD false
section
variable {ro : Option Nat} {m : Nat} {P : Program} {Q : Exit → Act → World → Prop}
theorem head_of {l : List Oper} {n : Nat} {d : Nat → Nat} (h : headB l n d = true) {i : Nat} (hi : i < n) {o : Oper} (ho : l[i]? = some o) : o.dst = some (d i) ∧ o.guard = none ∧ ∀ c, o.op ≠ .defer c := by
  have h1 := List.all_eq_true.1 h i (List.mem_range.2 hi)
  rw [ho] at h1
  simp only [Option.map_some, Option.getD_some, Bool.and_eq_true, decide_eq_true_eq, Option.isNone_iff_eq_none] at h1
  refine ⟨h1.1.1, h1.1.2, fun c e => ?_⟩
  have h2 := h1.2
  rw [e] at h2
  cases h2
theorem dep_listed {l : List Oper} {n : Nat} {dep : Nat → List Nat} (h : depB l n dep = true) {L : Array Bool} (hc : Closed .any l.toArray L) :
    ∀ i, i < n → (∀ o, l[i]? = some o → ∀ e ∈ o.after, Region.binds .any e = true → L.getD e.on false = true) → ∀ k ∈ dep i, L.getD k false = true := by
  intro i
  induction i using Nat.strongRecOn with
  | ind i ih =>
    intro hi he k hk
    have h1 := List.all_eq_true.1 (List.all_eq_true.1 h i (List.mem_range.2 hi)) k hk
    cases ho : l[i]? with
    | none => rw [ho] at h1; cases h1
    | some o =>
      rw [ho] at h1
      simp only [Option.map_some, Option.getD_some, Array.any_eq_true', Bool.and_eq_true, decide_eq_true_eq, Bool.or_eq_true, Nat.beq_eq] at h1
      obtain ⟨e, hm, ⟨hb, hlt⟩, h2⟩ := h1
      have hl := he o ho e hm hb
      rcases h2 with rfl | h2
      · exact hl
      · obtain ⟨k', hk', e2⟩ := List.any_eq_true.1 h2
        have e3 : k = k' := Nat.eq_of_beq_eq_true e2
        subst e3
        exact ih e.on hlt (by omega) (fun o' ho' e' he' hb' => hc e.on o' (by simpa using ho') hl e' he' hb') k hk'
theorem wpOpIn_value {o : Oper} {ops : Array Oper} {i : Nat} {a : Act} {w w' : World} {v : Value} {K : Act → World → Prop} (hi : ops[i]? = some o) (hg : o.guard = none) (hnd : ∀ c, o.op ≠ .defer c) (hr : (execOp a.eval o).run P w = .ok (.value v) w') (hk : K (a.put o.dst v) w') :
    wpOpIn (wideR ro) m P ops Q i K a w := by
  refine wpOpIn_of hi hg ?_
  unfold Oper.wpIn
  rw [Oper.semAt_plain _ _ _ hnd, hr]
  exact ⟨fun _ _ => trivial, hk⟩
theorem facts_ind {l : List Oper} {n f : Nat} {d : Nat → Nat} {dep : Nat → List Nat} {w : World} {T : World → World → Prop} {F : Nat → (Nat → Value) → World → Prop} {A : (Nat → Value) → Act} (hlen : n + f = l.length) (hh : headB l n d = true) (hdp : depB l n dep = true) (hsc : succB .any l.toArray n = true) (htl : tailB l n = true) (hE : edgesB l.toArray = true)
    (hT : ∀ w w' w'', T w w' → T w' w'' → T w w'') (hA : ∀ x i v, i < n → (A x).put (some (d i)) v = A (upd x i v))
    (hF : ∀ i x x' X X', i < n → (∀ k, k = i ∨ k ∈ dep i → x' k = x k) → T X X' → F i x X → F i x' X')
    (hstep : ∀ i o x X, i < n → l[i]? = some o → T w X → (∀ k ∈ dep i, F k x X) → ∃ v X', (execOp (A x).eval o).run P X = .ok (.value v) X' ∧ T X X' ∧ F i (upd x i v) X')
    (hN : ∀ x X, T w X → (∀ k, k < n → F k x X) → wpAnyIn (wideR ro) m P .any l.toArray Q f (List.replicate n true ++ List.replicate f false).toArray (A x) X) :
    ∀ (fuel : Nat) (L : List Bool) (x : Nat → Value) (X : World), L.length = n → L.count false = fuel → Closed .any l.toArray (L ++ List.replicate f false).toArray → T w X → (∀ k, k < n → L.getD k false = true → F k x X) →
      wpAnyIn (wideR ro) m P .any l.toArray Q (fuel + f) (L ++ List.replicate f false).toArray (A x) X
  | 0, L, x, X, hl, hc, _, hw, hf => by
    have hL : L = List.replicate n true := by
      refine List.eq_replicate_iff.2 ⟨hl, fun b hb => ?_⟩
      cases b with
      | true => rfl
      | false => exact absurd hb (List.count_eq_zero.1 hc)
    subst hL
    rw [Nat.zero_add]
    exact hN x X hw fun k hk => hf k hk (by rw [List.getD_eq_getElem?_getD, List.getElem?_replicate, if_pos hk]; rfl)
  | fuel + 1, L, x, X, hl, hc, hcl, hw, hf => by
    have gl : ∀ k, k < n → (L ++ List.replicate f false).toArray.getD k false = L.getD k false := fun k hk => by
      rw [Array.getD_eq_getD_getElem?, List.getElem?_toArray, List.getElem?_append_left (by omega), List.getD_eq_getElem?_getD]
    have gh : ∀ k, n ≤ k → (L ++ List.replicate f false).toArray.getD k false = false := fun k hk => by
      rw [Array.getD_eq_getD_getElem?, List.getElem?_toArray, List.getElem?_append_right (by omega), List.getElem?_replicate]
      split <;> rfl
    have hun : ∃ k, k < n ∧ L.getD k false = false := by
      have : false ∈ L := List.count_pos_iff.1 (by omega)
      obtain ⟨k, hk⟩ := List.getElem?_of_mem this
      exact ⟨k, by rw [← hl]; exact (List.getElem?_eq_some_iff.1 hk).1, by rw [List.getD_eq_getElem?_getD, hk]; rfl⟩
    have hns : (L ++ List.replicate f false).toArray.size = l.toArray.size := by simp [hl]; omega
    rw [Nat.add_right_comm]
    refine ⟨fun hr => ?_, fun i hi => ?_⟩
    · obtain ⟨k, hk, h1⟩ := hun
      have h2 := all_listed hE hr k (by simp; omega)
      have h3 : (L ++ List.replicate f false).toArray.getD k false = true := by
        rw [Array.getD_eq_getD_getElem?] at h2 ⊢
        have hlt : k < (L ++ List.replicate f false).toArray.size := by simp [hl]; omega
        rw [Array.getElem?_eq_getElem hlt] at h2 ⊢
        exact h2
      rw [gl k hk, h1] at h3
      cases h3
    · obtain ⟨h1, o, ho, h2⟩ := mem_ready.1 hi
      have hlt : i < l.length := by simpa using (Array.getElem?_eq_some_iff.1 ho).1
      have hin : i < n := by
        rcases Nat.lt_trichotomy i n with h | h | h
        · exact h
        · subst h
          obtain ⟨k, hk, h3⟩ := hun
          have h4 := all_before hsc hcl hi _ k rfl hk
          rw [gl k hk, h3] at h4
          cases h4
        · have h3 := List.all_eq_true.1 htl i (List.mem_range.2 hlt)
          have ho' : l[i]? = some o := by simpa using ho
          rw [ho'] at h3
          simp only [Option.map_some, Option.getD_some, Array.any_eq_true', Bool.and_eq_true, decide_eq_true_eq, Bool.or_eq_true] at h3
          rcases h3 with h3 | ⟨e, he, hb, hge⟩
          · omega
          · have h4 := h2 e he hb
            rw [gh e.on hge] at h4
            cases h4
      have ho' : l[i]? = some o := by simpa using ho
      obtain ⟨e1, e2, e3⟩ := head_of hh hin ho'
      have hdl := dep_listed hdp hcl i hin (fun o' hoo e he hb => by rw [ho'] at hoo; cases Option.some.inj hoo; exact h2 e he hb)
      have hdn : ∀ k ∈ dep i, k < n := fun k hk => by
        rcases Nat.lt_or_ge k n with h | h
        · exact h
        · have := hdl k hk
          rw [gh k h] at this
          cases this
      obtain ⟨v, X', hr, hT1, hF1⟩ := hstep i o x X hin ho' hw (fun k hk => hf k (hdn k hk) (by rw [← gl k (hdn k hk)]; exact hdl k hk))
      refine wpOpIn_value ho e2 e3 hr ?_
      rw [e1, hA x i v hin]
      have hset : (L ++ List.replicate f false).toArray.setIfInBounds i true = (L.set i true ++ List.replicate f false).toArray := by
        rw [List.setIfInBounds_toArray, List.set_append_left _ _ (by omega)]
      have hLi : L.getD i false = false := by
        have h5 := h1
        rw [Array.getD_eq_getD_getElem?] at h5
        have hlt2 : i < (L ++ List.replicate f false).toArray.size := by simp [hl]; omega
        rw [← gl i hin, Array.getD_eq_getD_getElem?]
        rw [Array.getElem?_eq_getElem hlt2] at h5 ⊢
        exact h5
      have hcl2 := hcl.set hi
      rw [hset] at hcl2 ⊢
      have hLl : L[i]? = some false := by
        rw [List.getD_eq_getElem?_getD, List.getElem?_eq_getElem (by omega)] at hLi
        rw [List.getElem?_eq_getElem (by omega)]
        exact congrArg some hLi
      refine facts_ind hlen hh hdp hsc htl hE hT hA hF hstep hN fuel (L.set i true) (upd x i v) X' (by simpa using hl) ?_ hcl2 (hT _ _ _ hw hT1) fun k hk hk2 => ?_
      · have hlt3 : i < L.length := by omega
        rw [List.count_set hlt3]
        have h6 : L[i] = false := (List.getElem?_eq_some_iff.1 hLl).2
        rw [h6]
        have hp : 0 < L.count false := by omega
        simp only [beq_self_eq_true, if_true]
        have : ((true == false) = true) = False := by simp
        simp only [this, if_false]
        omega
      · by_cases hki : k = i
        · subst hki; exact hF1
        · have hk3 : L.getD k false = true := by
            rw [List.getD_eq_getElem?_getD, List.getElem?_set_ne (fun e => hki e.symm), ← List.getD_eq_getElem?_getD] at hk2
            exact hk2
          refine hF k x _ X X' hk (fun q hq => ?_) hT1 (hf k hk hk3)
          refine upd_ne v fun e => ?_
          subst e
          rcases hq with hq | hq
          · exact hki hq.symm
          · have hkl : (L ++ List.replicate f false).toArray.getD k false = true := by rw [gl k hk]; exact hk3
            have h7 := dep_listed hdp hcl k hk (fun o' hoo e he hb => hcl k o' (by simpa using hoo) hkl e he hb) q hq
            rw [gl q hin, hLi] at h7
            cases h7
theorem wpIn_region_facts {id : Nat} {a : Act} {w : World} {l : List Oper} (n f : Nat) (d : Nat → Nat) (dep : Nat → List Nat) (T : World → World → Prop) (F : Nat → (Nat → Value) → World → Prop) (A : (Nat → Value) → Act) (x0 : Nat → Value)
    (hm : P.follows .mixedOrders = true) (hlen : n + f = l.length) (hh : headB l n d = true) (hdp : depB l n dep = true) (hsc : succB .any l.toArray n = true) (htl : tailB l n = true) (hE : edgesB l.toArray = true) (h0 : A x0 = a) (hw : T w { w with drawn := w.drawn + 1 })
    (hT : ∀ w w' w'', T w w' → T w' w'' → T w w'') (hA : ∀ x i v, i < n → (A x).put (some (d i)) v = A (upd x i v))
    (hF : ∀ i x x' X X', i < n → (∀ k, k = i ∨ k ∈ dep i → x' k = x k) → T X X' → F i x X → F i x' X')
    (hstep : ∀ i o x X, i < n → l[i]? = some o → T w X → (∀ k ∈ dep i, F k x X) → ∃ v X', (execOp (A x).eval o).run P X = .ok (.value v) X' ∧ T X X' ∧ F i (upd x i v) X')
    (hN : ∀ x X, T w X → (∀ k, k < n → F k x X) → wpAnyIn (wideR ro) m P .any l.toArray Q f (List.replicate n true ++ List.replicate f false).toArray (A x) X) : (Code.region id l.toArray true).wpIn (wideR ro) m P Q a w := by
  refine wpIn_region_any hm ?_
  have h := facts_ind (ro := ro) (m := m) (P := P) (Q := Q) hlen hh hdp hsc htl hE hT hA hF hstep hN n (List.replicate n false) x0 _ (by simp) (by simp) (by
    intro j o _ hl
    rw [Array.getD_eq_getD_getElem?, List.getElem?_toArray, List.replicate_append_replicate, List.getElem?_replicate] at hl
    split at hl <;> cases hl) hw (fun k hk hl => by
    rw [List.getD_eq_getElem?_getD, List.getElem?_replicate, if_pos hk] at hl
    cases hl)
  rw [List.replicate_append_replicate, hlen, h0] at h
  simpa using h
/-- a run of slots -/
def setX (A : Array Value) (d0 : Nat) (x : Nat → Value) : Nat → Array Value
  | 0 => A
  | n + 1 => (setX A d0 x n).setIfInBounds (d0 + n) (x n)
theorem setX_get (A : Array Value) (d0 : Nat) (x : Nat → Value) : ∀ n k, (setX A d0 x n)[k]? = if d0 ≤ k ∧ k < d0 + n ∧ k < A.size then some (x (k - d0)) else A[k]? := by
  have hsz : ∀ n, (setX A d0 x n).size = A.size := by
    intro n
    induction n with
    | zero => rfl
    | succ n ih => simp [setX, ih]
  intro n
  induction n with
  | zero => intro k; rw [if_neg (by omega)]; rfl
  | succ n ih =>
    intro k
    rw [setX, Array.getElem?_setIfInBounds, hsz, ih]
    by_cases h1 : d0 + n = k
    · subst h1
      rw [if_pos rfl]
      by_cases h2 : d0 + n < A.size
      · rw [if_pos h2, if_pos ⟨by omega, by omega, h2⟩, Nat.add_sub_cancel_left]
      · rw [if_neg h2, if_neg (by omega), Array.getElem?_eq_none (by omega)]
    · rw [if_neg h1]
      by_cases h2 : d0 ≤ k ∧ k < d0 + n ∧ k < A.size
      · rw [if_pos h2, if_pos ⟨h2.1, by omega, h2.2.2⟩]
      · rw [if_neg h2, if_neg (by omega)]
theorem setX_upd (A : Array Value) (d0 : Nat) (x : Nat → Value) (n i : Nat) (v : Value) (hi : i < n) : (setX A d0 x n).setIfInBounds (d0 + i) v = setX A d0 (upd x i v) n := by
  have hsz : (setX A d0 x n).size = A.size := by
    have : ∀ n, (setX A d0 x n).size = A.size := by
      intro n
      induction n with
      | zero => rfl
      | succ n ih => simp [setX, ih]
    exact this n
  apply Array.ext_getElem?
  intro k
  rw [Array.getElem?_setIfInBounds, setX_get, setX_get, hsz]
  by_cases h1 : d0 + i = k
  · subst h1
    rw [if_pos rfl]
    by_cases h2 : d0 + i < A.size
    · rw [if_pos h2, if_pos ⟨by omega, by omega, h2⟩, Nat.add_sub_cancel_left, upd_same]
    · rw [if_neg h2, if_neg (by omega), Array.getElem?_eq_none (by omega)]
  · rw [if_neg h1]
    by_cases h2 : d0 ≤ k ∧ k < d0 + n ∧ k < A.size
    · rw [if_pos h2, if_pos h2, upd_ne v (by omega)]
    · rw [if_neg h2, if_neg h2]
theorem setX_self (A : Array Value) (d0 n : Nat) : setX A d0 (fun i => A.getD (d0 + i) undef) n = A := by
  apply Array.ext_getElem?
  intro k
  rw [setX_get]
  split
  · rename_i h
    rw [show d0 + (k - d0) = k by omega, Array.getD_eq_getD_getElem?, Array.getElem?_eq_getElem h.2.2]; rfl
  · rfl
theorem wpIn_region_run {id : Nat} {A : Array Value} {ds : List Deferred} {w : World} {l : List Oper} (d0 n f : Nat) (dep : Nat → List Nat) (T : World → World → Prop) (F : Nat → (Nat → Value) → World → Prop)
    (hm : P.follows .mixedOrders = true) (hlen : n + f = l.length) (hh : headB l n (fun i => d0 + i) = true) (hdp : depB l n dep = true) (hsc : succB .any l.toArray n = true) (htl : tailB l n = true) (hE : edgesB l.toArray = true) (hw : T w { w with drawn := w.drawn + 1 })
    (hT : ∀ w w' w'', T w w' → T w' w'' → T w w'')
    (hF : ∀ i x x' X X', i < n → (∀ k, k = i ∨ k ∈ dep i → x' k = x k) → T X X' → F i x X → F i x' X')
    (hstep : ∀ i o x X, i < n → l[i]? = some o → T w X → (∀ k ∈ dep i, F k x X) → ∃ v X', (execOp (Act.eval { tmps := setX A d0 x n, defers := ds }) o).run P X = .ok (.value v) X' ∧ T X X' ∧ F i (upd x i v) X')
    (hN : ∀ x X, T w X → (∀ k, k < n → F k x X) → wpAnyIn (wideR ro) m P .any l.toArray Q f (List.replicate n true ++ List.replicate f false).toArray { tmps := setX A d0 x n, defers := ds } X) : (Code.region id l.toArray true).wpIn (wideR ro) m P Q { tmps := A, defers := ds } w :=
  wpIn_region_facts n f (fun i => d0 + i) dep T F (fun x => { tmps := setX A d0 x n, defers := ds }) (fun i => A.getD (d0 + i) undef) hm hlen hh hdp hsc htl hE (by rw [setX_self]) hw hT
    (fun x i v hi => by simp only [Act.put, setX_upd _ _ _ _ _ _ hi]) hF hstep hN
theorem exec_append {P : Program} {o : Oper} {a : Act} {w w' : World} {v u v' : Value} (s x : Operand) (t : TypeId) (hop : o.op = Op.call { callee := Callee.builtin Builtin.append, args := #[s, x], argTypes := #[t, t] })
    (hs : a.eval s = v) (hx : a.eval x = u) (hr : (Builtin.append_ #[t, t] o.type #[v, u]).run P w = .ok v' w') : (execOp a.eval o).run P w = .ok (.value v') w' := by
  simp [execOp, hop, resolve, invoke, builtin, hs, hx, hr, Result.andThen]
end
end Go.MixIn
/- Closed calls by evaluation: what a call does in a part of the abstract memory it does in the whole. -/
namespace Go.Ev
section
variable {P : Program}
theorem Rel.part {ρ : Ren} {σ0 σ : St} {w : World} (h : Rel ρ σ w) (hn : σ0.next = σ.next) (hg : σ0.glob = σ.glob) (hsub : ∀ id o, σ0.heap.get id = some o → σ.heap.get id = some o) : Rel ρ σ0 w where
  live := fun id o h1 => h.live id o (hsub id o h1)
  inj := fun i j oi oj hi hj => h.inj i j oi oj (hsub i oi hi) (hsub j oj hj)
  fresh := fun id h1 => h.fresh id (by rw [← hn]; exact h1)
  glob := fun g h1 => h.glob g (by rw [← hg]; exact h1)
  gn := by rw [hn, hg]; exact h.gn
/-- the whole memory behind the call: what the part holds then, and what the rest of the whole held before -/
structure Over (σ0 σ σ1 σ' : St) : Prop where
  next : σ'.next = σ1.next
  glob : σ'.glob = σ1.glob
  get : ∀ id o, σ'.heap.get id = some o → σ1.heap.get id = some o ∨ (σ.heap.get id = some o ∧ σ0.heap.get id = none)
theorem since_over {ρ ρ' : Ren} {σ0 σ σ1 σ' : St} {w w' : World} (h : Rel ρ σ w) (hn : σ0.next = σ.next) (hg : σ0.glob = σ.glob) (hsub : ∀ id o, σ0.heap.get id = some o → σ.heap.get id = some o)
    (ho : Over σ0 σ σ1 σ') (hr : Rel ρ' σ1 w') (hs : Since ρ σ0 w ρ' σ1 w') : Rel ρ' σ' w' ∧ Since ρ σ w ρ' σ' w' := by
  have hlt : ∀ id o, σ.heap.get id = some o → id < σ.next := by
    intro id o h1
    obtain ⟨k, x, h2, -⟩ := h.live id o h1
    rcases Nat.lt_or_ge id σ.next with h3 | h3
    · exact h3
    · rw [(h.fresh id h3).1] at h2; cases h2
  have hk : ∀ id o k, σ.heap.get id = some o → ρ.φ id = some k → k < w.heap.size := by
    intro id o k h1 h2
    obtain ⟨k', x, h3, h4, -⟩ := h.live id o h1
    rw [h2] at h3
    cases Option.some.inj h3
    exact (Array.getElem?_eq_some_iff.1 h4).1
  have hdom : ∀ id o, σ.heap.get id = some o → ρ'.φ id = ρ.φ id := fun id o h1 => (hs.keep.dom id (by rw [hn]; exact hlt id o h1)).1
  -- a block of the rest, and one of the part's
  have cross : ∀ i j oi oj k, σ.heap.get i = some oi → σ0.heap.get i = none → σ1.heap.get j = some oj → ρ.φ i = some k → ρ'.φ j = some k → (oi.own = true ∨ oj.own = true) → i = j := by
    intro i j oi oj k h1 h2 h3 h4 h5 h6
    rcases hs.keep.new j oj k h3 h5 with ⟨o0, q1, q2, q3⟩ | ⟨q0, q1 | ⟨id0, o0, q1, q2, q3⟩⟩
    · rcases h6 with h6 | h6
      · exact h.inj i j oi o0 h1 (hsub j o0 q1) h6 (by rw [h4, q3])
      · exact (h.inj j i o0 oi (hsub j o0 q1) h1 (q2.trans h6) (by rw [h4, q3])).symm
    · have := hk i oi k h1 h4; omega
    · have := h.inj id0 i o0 oi (hsub id0 o0 q1) h1 q2 (by rw [h4, q3])
      rw [this, h2] at q1; cases q1
  refine ⟨?_, hs.le, ?_⟩
  · refine ⟨?_, ?_, fun id h1 => hr.fresh id (by rw [← ho.next]; exact h1), fun g h1 => hr.glob g (by rw [← ho.glob]; exact h1), by rw [ho.next, ho.glob]; exact hr.gn⟩
    · intro id o h1
      rcases ho.get id o h1 with h2 | ⟨h2, h3⟩
      · exact hr.live id o h2
      · obtain ⟨k, x, q1, q2, q3⟩ := h.live id o h2
        refine ⟨k, x, hs.le.φ _ _ q1, ?_, q3.mono hs.le⟩
        rw [hs.keep.old k (hk id o k h2 q1) ?_]
        · exact q2
        · intro id0 o0 p1 p2 p3
          have := h.inj id0 id o0 o (hsub id0 o0 p1) h2 p2 (by rw [p3, q1])
          rw [this, h3] at p1; cases p1
    · intro i j oi oj hi hj hown hφ
      rcases ho.get i oi hi with h1 | ⟨h1, h1'⟩
      · rcases ho.get j oj hj with h2 | ⟨h2, h2'⟩
        · exact hr.inj i j oi oj h1 h2 hown hφ
        · obtain ⟨k, x, q1, -⟩ := h.live j oj h2
          exact (cross j i oj oi k h2 h2' h1 q1 (by rw [hφ, hdom j oj h2, q1]) (.inr hown)).symm
      · obtain ⟨k, x, q1, -⟩ := h.live i oi h1
        rcases ho.get j oj hj with h2 | ⟨h2, h2'⟩
        · exact cross i j oi oj k h1 h1' h2 q1 (by rw [← hφ, hdom i oi h1, q1]) (.inl hown)
        · exact h.inj i j oi oj h1 h2 hown (by rw [← hdom i oi h1, ← hdom j oj h2]; exact hφ)
  · refine ⟨hs.keep.size, hs.keep.os, hs.keep.tape, hs.keep.output, by rw [ho.glob, hs.keep.glob, hg], by rw [ho.next, ← hn]; exact hs.keep.next, fun id h1 => hs.keep.dom id (by rw [hn]; exact h1), fun k h1 h2 => hs.keep.old k h1 fun id o p1 => h2 id o (hsub id o p1), ?_⟩
    intro id o k h1 h2
    rcases ho.get id o h1 with h3 | ⟨h3, -⟩
    · rcases hs.keep.new id o k h3 h2 with ⟨o0, q1, q2⟩ | ⟨q0, q1 | ⟨id0, o0, q1, q2⟩⟩
      · exact .inl ⟨o0, hsub id o0 q1, q2⟩
      · exact .inr ⟨q0, .inl q1⟩
      · exact .inr ⟨q0, .inr ⟨id0, o0, hsub id0 o0 q1, q2⟩⟩
    · exact .inl ⟨o, h3, rfl, by rw [← hdom id o h3]; exact h2⟩
theorem call_over {f : FuncId} {args : Array Value} {σ0 σ σ1 σ' : St} {v : Value} (h : CallSound P f args σ0 (.ret v σ1)) (hn : σ0.next = σ.next) (hg : σ0.glob = σ.glob) (hsub : ∀ id o, σ0.heap.get id = some o → σ.heap.get id = some o) (ho : Over σ0 σ σ1 σ') :
    CallSound P f args σ (.ret v σ') := by
  intro ρ args' w ha hr
  refine (h ρ args' w ha (hr.part hn hg hsub)).mono ?_
  rintro e w' ⟨ρ', v', rfl, hv, hr', hs⟩
  obtain ⟨h1, h2⟩ := since_over hr hn hg hsub ho hr' hs
  exact ⟨ρ', v', rfl, hv, h1, h2⟩
end
end Go.Ev
/- Closed calls by evaluation: calls whose outcome is written down. -/
namespace Go.Ev
def sameO : AObj → AObj → Bool
  | .row a, .row b => all2 (sameV 6) a.cells b.cells && (Nat.beq a.ty b.ty && (Nat.beq a.sz b.sz && (match a.own, b.own with
    | true, true => true
    | false, false => true
    | _, _ => false)))
  | _, _ => false
theorem sameO_eq {a b : AObj} (h : sameO a b = true) : a = b := by
  cases a with
  | obj o => cases b <;> cases h
  | row a =>
    cases b with
    | obj o => cases h
    | row b =>
      obtain ⟨c, t, s, o⟩ := a
      obtain ⟨c', t', s', o'⟩ := b
      simp only [sameO, Bool.and_eq_true, Nat.beq_eq] at h
      obtain ⟨h1, rfl, rfl, h4⟩ := h
      rw [all2_eq (sameV_eq 6) _ _ h1]
      cases o <;> cases o' <;> first | rfl | cases h4
def isO (x : Option AObj) (o : AObj) : Bool := match x with
  | some y => sameO y o
  | none => false
theorem isO_eq {x : Option AObj} {o : AObj} (h : isO x o = true) : x = some o := by
  cases x with
  | none => cases h
  | some y => rw [sameO_eq h]
def mkT : List (Nat × AObj) → T AObj → T AObj
  | [], t => t
  | (i, o) :: l, t => mkT l (t.set i (some o))
theorem mkT_get : ∀ (l : List (Nat × AObj)) (t : T AObj) (id : Nat) (o : AObj), (mkT l t).get id = some o → (id, o) ∈ l ∨ t.get id = some o := by
  intro l
  induction l with
  | nil => intro t id o h; exact .inr h
  | cons p l ih =>
    obtain ⟨i, x⟩ := p
    intro t id o h
    rcases ih _ id o h with h | h
    · exact .inl (List.mem_cons_of_mem _ h)
    · rw [T.get_set] at h
      by_cases e : id = i
      · rw [if_pos e] at h; cases Option.some.inj h; subst e; exact .inl List.mem_cons_self
      · rw [if_neg e] at h; exact .inr h
def clearT : List (Nat × AObj) → T AObj → T AObj
  | [], t => t
  | (i, _) :: l, t => clearT l (t.set i none)
theorem clearT_get : ∀ (l : List (Nat × AObj)) (t : T AObj) (id : Nat) (o : AObj), (clearT l t).get id = some o → t.get id = some o ∧ ∀ x, (id, x) ∉ l := by
  intro l
  induction l with
  | nil => intro t id o h; exact ⟨h, fun x hx => by cases hx⟩
  | cons p l ih =>
    obtain ⟨i, y⟩ := p
    intro t id o h
    obtain ⟨h1, h2⟩ := ih _ id o h
    rw [T.get_set] at h1
    by_cases e : id = i
    · rw [if_pos e] at h1; cases h1
    · rw [if_neg e] at h1
      refine ⟨h1, fun x hx => ?_⟩
      cases hx with
      | head => exact e rfl
      | tail _ hx => exact h2 x hx
structure Memo where
  f : FuncId
  args : List Value
  next : Nat
  glob : Nat
  pre : List (Nat × AObj)
  v : Value
  post : List (Nat × AObj)
  next' : Nat
def Memo.start (m : Memo) : St := ⟨mkT m.pre .leaf, m.next, m.glob⟩
def sumMemo (m : Memo) (args : Array Value) (σ : St) : Option Er :=
  match all2 (sameV 6) args.toList m.args && (Nat.beq σ.next m.next && (Nat.beq σ.glob m.glob && m.pre.all fun p => isO (σ.heap.get p.1) p.2)) with
  | true => some (.ret m.v ⟨mkT m.post (clearT m.pre σ.heap), m.next', m.glob⟩)
  | false => none
def memoB (m : Memo) (r : Option Er) : Bool :=
  match r with
  | some (.ret v σ) => sameV 6 v m.v && (Nat.beq σ.next m.next' && (Nat.beq σ.glob m.glob && m.post.all fun p => isO (σ.heap.get p.1) p.2))
  | _ => false
def MemoSound (P : Program) (m : Memo) : Prop := ∀ args σ r, sumMemo m args σ = some r → CallSound P m.f args σ r
theorem memo_sound {P : Program} {m : Memo} {r : Option Er} (h : memoB m r = true) (hr : ∀ q, r = some q → CallSound P m.f m.args.toArray m.start q) : MemoSound P m := by
  intro args σ q hq
  unfold sumMemo at hq
  split at hq
  · rename_i hc
    cases Option.some.inj hq
    simp only [Bool.and_eq_true, Nat.beq_eq, List.all_eq_true] at hc
    obtain ⟨h1, h2, h3, h4⟩ := hc
    have ha : args = m.args.toArray := by
      have := all2_eq (sameV_eq 6) _ _ h1
      rw [← this]
    subst ha
    unfold memoB at h
    split at h
    · rename_i v σ1
      simp only [Bool.and_eq_true, Nat.beq_eq, List.all_eq_true] at h
      obtain ⟨q1, q2, q3, q4⟩ := h
      have hv := sameV_eq 6 _ _ q1
      subst hv
      have hpre : ∀ id o, m.start.heap.get id = some o → (id, o) ∈ m.pre := by
        intro id o h
        rcases mkT_get m.pre .leaf id o h with h | h
        · exact h
        · cases h
      refine call_over (hr _ rfl) h2.symm h3.symm (fun id o h => isO_eq (h4 (id, o) (hpre id o h))) ⟨q2.symm, q3.symm, fun id o h => ?_⟩
      rcases mkT_get _ _ id o h with h | h
      · exact .inl (isO_eq (q4 (id, o) h))
      · obtain ⟨k1, k2⟩ := clearT_get _ _ id o h
        refine .inr ⟨k1, ?_⟩
        cases hg : m.start.heap.get id with
        | none => rfl
        | some x => exact absurd (hpre id x hg) (k2 x)
    · cases h
  · cases hq
def findM : List Memo → Array Value → St → Option Er
  | [], _, _ => none
  | m :: l, args, σ => match sumMemo m args σ with
    | some r => some r
    | none => findM l args σ
def withM (base : FuncId → Option (Array Value → St → Option Er)) (f0 : FuncId) (l : List Memo) (f : FuncId) : Option (Array Value → St → Option Er) :=
  match Nat.beq f f0 with
  | true => some (findM l)
  | false => base f
theorem findM_sound {P : Program} {f : FuncId} : ∀ (l : List Memo), (∀ m ∈ l, m.f = f ∧ MemoSound P m) → ∀ args σ r, findM l args σ = some r → CallSound P f args σ r := by
  intro l
  induction l with
  | nil => intro _ args σ r h; cases h
  | cons m l ih =>
    intro hl args σ r h
    unfold findM at h
    split at h
    · rename_i r0 hm
      cases Option.some.inj h
      obtain ⟨h1, h2⟩ := hl m List.mem_cons_self
      subst h1
      exact h2 args σ _ hm
    · exact ih (fun m hm => hl m (List.mem_cons_of_mem _ hm)) args σ r h
theorem withM_sound {P : Program} {base : FuncId → Option (Array Value → St → Option Er)} (hb : ∀ g s, base g = some s → ∀ args σ r, s args σ = some r → CallSound P g args σ r) {f0 : FuncId} {l : List Memo} (hl : ∀ m ∈ l, m.f = f0 ∧ MemoSound P m) :
    ∀ g s, withM base f0 l g = some s → ∀ args σ r, s args σ = some r → CallSound P g args σ r := by
  intro g s h args σ r hs
  unfold withM at h
  split at h
  · rename_i hg
    have := Nat.eq_of_beq_eq_true hg
    subst this
    cases Option.some.inj h
    exact findM_sound l hl args σ r hs
  · exact hb g s h args σ r hs
end Go.Ev
/- strconv.Atoi at a numeral, as a summary; the evaluator's summaries with it. -/
namespace Go.Ev
open Go.RowKit
theorem rel_below {ρ : Ren} {σ : St} {w w' : World} (h : Rel ρ σ w) (hb : Below w.heap.size w w') : Rel ρ σ w' ∧ Since ρ σ w ρ σ w' := by
  obtain ⟨b1, b2, b3, b4, b5⟩ := hb
  refine ⟨⟨?_, h.inj, h.fresh, h.glob, h.gn⟩, .refl ρ, ⟨b4, b1, b2, b3, rfl, Nat.le_refl _, fun _ _ => ⟨rfl, rfl⟩, fun k hk _ => b5 k hk, fun id o k h1 h2 => .inl ⟨o, h1, rfl, h2⟩⟩⟩
  intro id o ho
  obtain ⟨k, x, h1, h2, h3⟩ := h.live id o ho
  exact ⟨k, x, h1, by rw [b5 k (Array.getElem?_eq_some_iff.1 h2).1]; exact h2, h3⟩
def sumAtoi (args : Array Value) (σ : St) : Option Er :=
  match args.toList with
  | [.string s] => match Nat.ble s.data.toList.length 18, Lib.atoi s.data.toList with
    | true, some n => some (.ret (.tuple #[.int .i64 n, .nilIface]) σ)
    | _, _ => none
  | _ => none
theorem sumAtoi_sound {P : Program} {f : FuncId} {e : TypeId} (h1 : ∀ (s : ByteArray) (n : Int), s.size ≤ 18 → Lib.atoi s.data.toList = some n → ∀ w : World, Calls P f #[.string s] w fun e' w' => e' = .returned (.tuple #[.int .i64 n, .nilIface]) ∧ ∃ t, w' = Lib.bytesWorld w e t)
    (args : Array Value) (σ : St) (r : Er) (h : sumAtoi args σ = some r) : CallSound P f args σ r := by
  intro ρ args' w ha hr
  unfold sumAtoi at h
  split at h
  · rename_i s hl
    split at h
    · rename_i n hb hn
      cases Option.some.inj h
      have hargs : args = #[.string s] := by
        obtain ⟨l⟩ := args
        simp only at hl
        rw [hl]
      have he : args' = #[.string s] := by
        subst hargs
        obtain ⟨l'⟩ := args'
        obtain ⟨q1, q2⟩ := ha
        simp at q1
        match l', q1 with
        | [v'], _ =>
          have := q2 0 (.string s) v' (by simp) (by simp)
          cases this
          rfl
      subst he
      refine (h1 s n (by simpa using Nat.le_of_ble_eq_true hb) hn w).mono ?_
      rintro e' w' ⟨rfl, t, rfl⟩
      obtain ⟨k1, k2⟩ := rel_below hr (Lib.bytesWorld_below w e t)
      refine ⟨ρ, _, rfl, .tuple rfl ?_, k1, k2⟩
      intro i v v' q1 q2
      rw [q1] at q2
      cases Option.some.inj q2
      match i with
      | 0 => simp at q1; subst q1; exact .int _ _
      | 1 => simp at q1; subst q1; exact .nilIface
      | i + 2 => simp at q1
    · cases h
  · cases h
end Go.Ev
namespace Go.Proofs.YtneohoclgnfdcaaGreatDoor
open Go.Ev
def sums0 (f : FuncId) : Option (Array Value → St → Option Er) :=
  match Nat.beq f 104 with
  | true => some sumAtoi
  | false => sums f
theorem sums0_sound (g : FuncId) (s : Array Value → St → Option Er) (hs : sums0 g = some s) (args : Array Value) (σ : St) (r : Er) (h : s args σ = some r) : CallSound Tryz.prog g args σ r := by
  unfold sums0 at hs
  split at hs
  · rename_i h1
    cases Option.some.inj hs
    have := Nat.eq_of_beq_eq_true h1
    subst this
    exact sumAtoi_sound Tryz.strconv_Atoi args σ r h
  · exact sums_sound g s hs args σ r h
theorem evM {su : FuncId → Option (Array Value → St → Option Er)} (hs : ∀ g s, su g = some s → ∀ args σ r, s args σ = some r → CallSound Tryz.prog g args σ r) {f : FuncId} {args : Array Value} {σ : St} {r : Er} (n : Nat) (h : evRun Tryz.prog su 400 n f args σ = some r) : CallSound Tryz.prog f args σ r :=
  run_sound zerosE namesE mixedE hs 400 n f args σ r h
end Go.Proofs.YtneohoclgnfdcaaGreatDoor
/- A closed call that evaluates to true answers true in every world where some package variables hold what they are written to hold. -/
namespace Go.Ev
theorem startRelG (n : Nat) (l : List (Nat × AObj)) (w : World) (h : ∀ id o, (id, o) ∈ l → id < n ∧ o.own = false ∧ ∃ x, w.heap[id]? = some x ∧ AtR (startR n) id o x) : Rel (startR n) ⟨mkT l .leaf, n, n⟩ w where
  live := fun id o ho => by
    rcases mkT_get l .leaf id o ho with h1 | h1
    · obtain ⟨h2, -, x, h3, h4⟩ := h id o h1
      exact ⟨id, x, by simp [startR]; exact h2, h3, h4⟩
    · cases h1
  inj := fun i j oi oj hi _ hown => by
    rcases mkT_get l .leaf i oi hi with h1 | h1
    · rw [(h i oi h1).2.1] at hown; cases hown
    · cases h1
  fresh := fun id h => ⟨by simp [startR]; exact h, rfl⟩
  glob := fun g h => by simp [startR]; exact h
  gn := Nat.le_refl _
theorem true_ofG {P : Program} {f : FuncId} {n : Nat} {l : List (Nat × AObj)} {r : Option Er} (h : isTrue r = true) (hs : ∀ q, r = some q → CallSound P f #[] ⟨mkT l .leaf, n, n⟩ q) (w : World) (hl : ∀ id o, (id, o) ∈ l → id < n ∧ o.own = false ∧ ∃ x, w.heap[id]? = some x ∧ AtR (startR n) id o x) : Calls P f #[] w fun e w' => e = .returned (.bool true) ∧ Go.RowKit.Below w.heap.size w w' := by
  unfold isTrue at h
  split at h
  · rename_i σ'
    refine (hs _ rfl (startR n) #[] w ⟨rfl, fun i v v' h => by simp at h⟩ (startRelG n l w hl)).mono ?_
    rintro e w' ⟨ρ', v', rfl, hv, hr, hs⟩
    cases hv
    refine ⟨rfl, hs.keep.os, hs.keep.tape, hs.keep.output, hs.keep.size, fun k hk => hs.keep.old k hk fun id o h ho => ?_⟩
    rcases mkT_get l .leaf id o h with h1 | h1
    · rw [(hl id o h1).2.1] at ho; cases ho
    · cases h1
  · cases h
/-- a row of strings that the call only reads -/
theorem strRow {ρ : Ren} {id : Nat} {cs : Array Value} {ty : TypeId} {fr : Nat × Nat} {l : List (List UInt8)} (h : cs = (l.map fun b => Value.string ⟨b.toArray⟩).toArray) : AtR ρ id (.row ⟨l.map fun b => Value.string ⟨b.toArray⟩, 0, 0, false⟩) (.cells cs ty fr) := by
  subst h
  refine ⟨_, ty, fr, rfl, { ty := (fun h => nomatch h), fr := (fun h => nomatch h), le := by simp, eq := fun _ => by simp, get := fun i v hv => ⟨v, by simpa using hv, ?_⟩, room := fun h => absurd rfl h }⟩
  obtain ⟨b, -, rfl⟩ := List.mem_map.1 (List.mem_of_getElem? hv)
  exact .string _
/-- bits.Len, as a summary -/
def sumLen (args : Array Value) (σ : St) : Option Er :=
  match args.toList with
  | [.int .u64 x] => match Int.decLe 0 x, Int.decLe x 18446744073709551615 with
    | .isTrue _, .isTrue _ => some (.ret (.int .i64 (Lib.bitLen x.toNat)) σ)
    | _, _ => none
  | _ => none
theorem sumLen_sound {P : Program} {f : FuncId} (h1 : ∀ (x : Int) (w : World), 0 ≤ x → x ≤ 18446744073709551615 → Calls P f #[.int .u64 x] w fun e w' => e = .returned (.int .i64 (Lib.bitLen x.toNat)) ∧ w' = w)
    (args : Array Value) (σ : St) (r : Er) (h : sumLen args σ = some r) : CallSound P f args σ r := by
  intro ρ args' w ha hr
  unfold sumLen at h
  split at h
  · rename_i x hl
    split at h
    · rename_i q1 q2 _ _
      cases Option.some.inj h
      have hargs : args = #[.int .u64 x] := by
        obtain ⟨l⟩ := args
        simp only at hl
        rw [hl]
      have he : args' = #[.int .u64 x] := by
        subst hargs
        obtain ⟨l'⟩ := args'
        obtain ⟨r1, r2⟩ := ha
        simp at r1
        match l', r1 with
        | [v'], _ =>
          have := r2 0 (.int .u64 x) v' (by simp) (by simp)
          cases this
          rfl
      subst he
      refine (h1 x w q1 q2).mono ?_
      rintro e' w' ⟨rfl, rfl⟩
      exact ⟨ρ, _, rfl, .int _ _, hr, .refl ρ, .refl _⟩
    · cases h
  · cases h
/-- strings.Join, as a summary -/
def strsOf : List Value → Option (List ByteArray)
  | [] => some []
  | .string s :: l => match strsOf l with
    | some xs => some (s :: xs)
    | none => none
  | _ => none
theorem strsOf_get : ∀ {l : List Value} {xs : List ByteArray}, strsOf l = some xs → xs.length = l.length ∧ ∀ (j : Nat) (x : ByteArray), xs[j]? = some x → l[j]? = some (.string x)
  | [], xs, h => by cases Option.some.inj (show some [] = some xs from h); exact ⟨rfl, fun j x h => by simp at h⟩
  | v :: l, xs, h => by
    cases v with
    | string s =>
      simp only [strsOf] at h
      cases hl : strsOf l with
      | none => rw [hl] at h; cases h
      | some ys =>
        rw [hl] at h
        cases Option.some.inj h
        obtain ⟨h1, h2⟩ := strsOf_get hl
        refine ⟨by simp [h1], fun j x hj => ?_⟩
        cases j with
        | zero => simp at hj ⊢; rw [hj]
        | succ j => simp at hj ⊢; exact h2 j x hj
    | _ => simp [strsOf] at h
def joinL (xs : List ByteArray) (sep : ByteArray) : List UInt8 := Lib.join (xs.map (·.data.toList)) sep.data.toList
def sumJoin (args : Array Value) (σ : St) : Option Er :=
  match args.toList with
  | [.slice (some a) n c, .string sep] => match a.spot, rowOf σ a.block with
    | none, some r => match (Nat.ble (a.off + n) r.cells.length && Nat.ble n lim) && ((Nat.blt c big && Nat.ble n c) || (Nat.beq c big && Nat.beq r.sz 1)), strsOf ((r.cells.drop a.off).take n) with
      | true, some xs => match Nat.ble (joinL xs sep).length lim with
        | true => some (.ret (.string ⟨(joinL xs sep).toArray⟩) σ)
        | false => none
      | _, _ => none
    | _, _ => none
  | _ => none
theorem sumJoin_sound {P : Program} {f : FuncId} (h1 : ∀ (bk o c : Nat) (xs : List ByteArray) (sep : ByteArray) (w : World), (∀ (j : Nat) x, xs[j]? = some x → w.cell? ⟨bk, o + j, none⟩ = some (.string x)) → bk < w.heap.size → xs.length ≤ 140737488355328 → xs.length ≤ c → (joinL xs sep).length ≤ 140737488355328 →
      Calls P f #[.slice (some ⟨bk, o, none⟩) xs.length c, .string sep] w fun e w' => e = .returned (.string ⟨(joinL xs sep).toArray⟩) ∧ Go.RowKit.Below w.heap.size w w')
    (args : Array Value) (σ : St) (r : Er) (h : sumJoin args σ = some r) : CallSound P f args σ r := by
  intro ρ args' w ha hr
  unfold sumJoin at h
  split at h
  · rename_i a n c sep hl
    split at h
    · rename_i x1 x2 rr hs hrow
      split at h
      · rename_i y1 y2 xs hb hx
        split at h
        · rename_i hlen
          cases Option.some.inj h
          obtain ⟨ab, ao, asp⟩ := a
          simp only at hs hrow hb hx
          subst hs
          have hargs : args = #[.slice (some ⟨ab, ao, none⟩) n c, .string sep] := by
            obtain ⟨l⟩ := args
            simp only at hl
            rw [hl]
          obtain ⟨k, c', hk, hc, he⟩ : ∃ k c', ρ.φ ab = some k ∧ CapR ρ ab ao c c' ∧ args' = #[.slice (some ⟨k, ao, none⟩) n c', .string sep] := by
            subst hargs
            obtain ⟨l'⟩ := args'
            obtain ⟨r1, r2⟩ := ha
            simp at r1
            match l', r1 with
            | [u', v'], _ =>
              have e1 := r2 0 (.slice (some ⟨ab, ao, none⟩) n c) u' (by simp) (by simp)
              have e2 := r2 1 (.string sep) v' (by simp) (by simp)
              cases e2
              cases e1 with
              | slice hk hc => exact ⟨_, _, hk, hc, rfl⟩
          subst he
          have hg := rowOf_some hrow
          obtain ⟨k', y, e1, e2, cs, ty, fr, rfl, hR⟩ := hr.live _ _ hg
          have : k' = k := by rw [hk] at e1; exact (Option.some.inj e1).symm
          subst this
          obtain ⟨hxl, hxg⟩ := strsOf_get hx
          simp only [Bool.and_eq_true, Bool.or_eq_true, Nat.ble_eq, Nat.blt_eq, Nat.beq_eq] at hb
          obtain ⟨⟨hb1, hb2⟩, hb3⟩ := hb
          have hxn : xs.length = n := by rw [hxl]; simp; omega
          have hnc : n ≤ c' := by
            rcases hb3 with ⟨q1, q2⟩ | ⟨q1, q2⟩
            · unfold CapR at hc
              rw [if_neg (by omega)] at hc
              omega
            · unfold CapR at hc
              rw [if_pos q1] at hc
              obtain ⟨R, hR1, hR2⟩ := hR.room (by omega)
              obtain ⟨R', z', hRR, hc'⟩ := hc
              rw [hR1] at hRR
              cases Option.some.inj hRR
              have hle := hR.le
              rw [q2] at hR2 hc'
              rw [Nat.div_one] at hc'
              omega
          subst hxn
          refine (h1 k' ao c' xs sep w (fun j x hj => ?_) (Array.getElem?_eq_some_iff.1 e2).1 hb2 hnc (Nat.le_of_ble_eq_true hlen)).mono ?_
          · have h3 := hxg j x hj
            rw [List.getElem?_take] at h3
            split at h3
            · rw [List.getElem?_drop] at h3
              obtain ⟨v', p1, p2⟩ := hR.get _ _ h3
              cases p2
              simp [World.cell?, e2, p1]
            · cases h3
          · rintro e' w' ⟨rfl, hbw⟩
            obtain ⟨k1, k2⟩ := rel_below hr hbw
            exact ⟨ρ, _, rfl, .string _, k1, k2⟩
        · cases h
      · cases h
    · cases h
  · cases h
end Go.Ev
namespace Go.Proofs.YtneohoclgnfdcaaGreatDoor
open Go.Ev
/-- the names of the kinds of columns, as the package lays them -/
def nameL : List (List UInt8) := [[110, 117, 108, 108], [98, 111, 111, 108], [105, 110, 116], [100, 101, 99], [102, 108, 111, 97, 116], [116, 101, 120, 116], [98, 121, 116, 101, 115], [105, 110, 115, 116, 97, 110, 116], [108, 111, 99, 97, 108]]
def namesO : AObj := .row ⟨nameL.map fun b => Value.string ⟨b.toArray⟩, 0, 0, false⟩
def namesG : List (Nat × AObj) := [(0, namesO)]
def startG : St := ⟨mkT namesG .leaf, 100, 100⟩
def NamesAt (w : World) : Prop := ∃ ty fr, w.heap[0]? = some (.cells (nameL.map fun b => Value.string ⟨b.toArray⟩).toArray ty fr)
theorem namesG_at {w : World} (h : NamesAt w) : ∀ id o, (id, o) ∈ namesG → id < 100 ∧ o.own = false ∧ ∃ x, w.heap[id]? = some x ∧ AtR (startR 100) id o x := by
  intro id o hm
  obtain ⟨ty, fr, hw⟩ := h
  cases hm with
  | head => exact ⟨by decide, rfl, _, hw, strRow rfl⟩
  | tail _ hm => cases hm
def sums1 (f : FuncId) : Option (Array Value → St → Option Er) :=
  match Nat.beq f 100 with
  | true => some sumLen
  | false => match Nat.beq f 19 with
    | true => some sumJoin
    | false => sums0 f
theorem sums1_sound (g : FuncId) (s : Array Value → St → Option Er) (hs : sums1 g = some s) (args : Array Value) (σ : St) (r : Er) (h : s args σ = some r) : CallSound Tryz.prog g args σ r := by
  unfold sums1 at hs
  split at hs
  · rename_i h1
    cases Option.some.inj hs
    have := Nat.eq_of_beq_eq_true h1
    subst this
    exact sumLen_sound Tryz.bits_Len args σ r h
  · split at hs
    · rename_i h1
      cases Option.some.inj hs
      have := Nat.eq_of_beq_eq_true h1
      subst this
      exact sumJoin_sound Tryz.strings_Join args σ r h
    · exact sums0_sound g s hs args σ r h
end Go.Proofs.YtneohoclgnfdcaaGreatDoor
/- tableout.Print of the family. -/
namespace Go.Proofs.YtneohoclgnfdcaaGreatDoor
open Go.RowKit Go.Shelf Go.Ev
open Go.Lib hiding intOf
attribute [local go_sem] Oper.semAt_some Oper.semAt_none wideR_round wideR_depth wideR_fn
set_option maxHeartbeats 8000000 in
set_option maxRecDepth 100000 in
theorem print_fam (w : World) (v : Value) (z : ByteArray) (n : Nat) (hN : NodesAt w v (famW z n)) (hz : z.size ≤ 4000) (h0 : 0 < n) (hn : n ≤ 40) (hnm : NamesAt w) :
    Calls Tryz.prog 7 #[.agg #[v, .int .i64 0]] w fun e w' => e = .returned (if 65536 < (textW z n).length then .tuple #[.string ⟨#[]⟩, .int .i64 6] else .tuple #[.string ⟨(textW z n).toArray⟩, .int .i64 0]) ∧ Below w.heap.size w w' := by
  have hbx := below_new w (.cells #[v, .int .i64 0] 36)
  have HB0 := PLift.up hbx
  have HV := PLift.up (valid_tree scW (w.alloc (.cells #[v, .int .i64 0] 36)) v 0 (famW z n) (innW n) (List.replicate (3 * n + 1) 1) rankW (hN.below hbx) (famW_tree z (by unfold maxLen; omega) n h0 hn))
  have HBX := PLift.up (heap_alloc_new w (.cells #[v, .int .i64 0] 36))
  have HNM := PLift.up hnm
  obtain ⟨b, o, N, c, rt, ka, kn, kc, ib, io, ic, rfl, hN0, q0, q1, q2, q3, q4, hR⟩ := fam_at hN h0
  have HC : PLift (∀ W', Below w.heap.size w W' → W'.cell? ⟨b, o, none⟩ = some (.int .i64 9) ∧ W'.cell? ⟨b, o + 1, none⟩ = some (.string rt) ∧ W'.cell? ⟨b, o + 2, none⟩ = some (.bool false) ∧ W'.cell? ⟨b, o + 3, none⟩ = some (.slice ka kn kc) ∧ W'.cell? ⟨b, o + 4, none⟩ = some (.slice (some ⟨ib, io, none⟩) n ic)) :=
    ⟨fun W' hb => ⟨cell_keep hb q0, cell_keep hb q1, cell_keep hb q2, cell_keep hb q3, cell_keep hb q4⟩⟩
  have HR : PLift (∀ W', Below w.heap.size w W' → ∀ i, i < n → ∃ k : Nat, k < N ∧ W'.cell? ⟨ib, io + i, none⟩ = some (.int .i64 k) ∧ RowF W' (.slice (some ⟨b, o, none⟩) N c) b o k z) :=
    ⟨fun W' hb i hi => by obtain ⟨k, h1, h2, h3⟩ := hR i hi; exact ⟨k, h1, cell_keep hb h2, h3.below hb⟩⟩
  have HN0 := PLift.up (And.intro hN0 (And.intro h0 hn))
  have hNz : (0 : Int) < (N : Int) := by omega
  have hnz : ¬ ((n : Int) = 0) := by omega
  have hn0 : (0 : Int) < (n : Int) := by omega
  clear hbx hN hnm q0 q1 q2 q3 q4 hR hN0
  refine (callsIn_wide (n := 1)).1 ?_
  change CallsIn (wideR none) 1 _ _ _ _ _
  refine callsIn_of_wp_marks Tryz.func7 rfl trivial ?_ rfl
  simp only [Tryz.ntmps7, List.size_toArray, List.length_cons, List.length_nil, Nat.reduceAdd, Nat.reduceSub, Array.replicate_succ, Array.replicate_zero, List.push_toArray, List.append_toArray, List.nil_append, List.cons_append]
  gi_upto_region 1 with fail
  obtain ⟨W0, hW0⟩ : ∃ W0, w.alloc (.cells #[.slice (some ⟨b, o, none⟩) N c, .int .i64 0] 36) = W0 := ⟨_, rfl⟩
  rw [hW0] at HV HB0 HBX ⊢
  have hs0 : W0.heap.size = w.heap.size + 1 := by rw [← hW0]; exact size_new _ _
  have HS0 := PLift.up hs0
  clear hW0 hs0
  have g0 : W0.cell? ⟨w.heap.size, 0, none⟩ = some (.slice (some ⟨b, o, none⟩) N c) := (Lib.cell_of_heap HBX.down 0).trans rfl
  have g1 : W0.cell? ⟨w.heap.size, 1, none⟩ = some (.int .i64 0) := (Lib.cell_of_heap HBX.down 1).trans rfl
  gi_upto_region 4 with (gi_at_call 14; refine (calls_at HV.down none _).mono ?_; rintro e w1 ⟨rfl, hb1⟩; have HB1 := PLift.up (HB0.down.trans (hb1.mono HB0.down.size)); have HX1 := PLift.up ((hb1.block _ (block_lt HBX.down)).trans HBX.down); clear hb1)
  have f0 : w1.cell? ⟨w.heap.size, 0, none⟩ = some (.slice (some ⟨b, o, none⟩) N c) := (Lib.cell_of_heap HX1.down 0).trans rfl
  have f1 : w1.cell? ⟨w.heap.size, 1, none⟩ = some (.int .i64 0) := (Lib.cell_of_heap HX1.down 1).trans rfl
  obtain ⟨r0, r1, r2, r3, r4⟩ := HC.down w1 HB1.down
  clear g0 g1 HV HB0 HBX
  gi_upto_region 9 with fail
  obtain ⟨W2, hW2⟩ : ∃ W2, w1.alloc (.cells #[.int .i64 9, .string rt, .bool false, .slice ka kn kc, .slice (some ⟨ib, io, none⟩) n ic] 33) = W2 := ⟨_, rfl⟩
  have HB2 : PLift (Below w.heap.size w W2) := ⟨by rw [← hW2]; exact HB1.down.trans ((below_new w1 _).mono HB1.down.size)⟩
  have HX2 : PLift (W2.heap[w.heap.size]? = some (.cells #[.slice (some ⟨b, o, none⟩) N c, .int .i64 0] 36)) := ⟨by rw [← hW2, (below_new w1 _).block _ (block_lt HX1.down)]; exact HX1.down⟩
  have HY2 : PLift (W2.heap[w1.heap.size]? = some (.cells #[.int .i64 9, .string rt, .bool false, .slice ka kn kc, .slice (some ⟨ib, io, none⟩) n ic] 33)) := ⟨by rw [← hW2]; exact heap_alloc_new _ _⟩
  rw [hW2]
  clear f0 f1 r0 r1 r2 r3 r4 hW2 HX1
  obtain ⟨k, hkN, hk0, rt1, lb, lo, kc1, mb, mo, mc, a1, n1, c1, a2, n2, c2, s0, s1, s2, s3, s4, hrc⟩ := HR.down W2 HB2.down 0 HN0.down.2.1
  have HRC := PLift.up hrc
  have hkN2 : (k : Int) < (N : Int) := by omega
  have f0 : W2.cell? ⟨w.heap.size, 0, none⟩ = some (.slice (some ⟨b, o, none⟩) N c) := (Lib.cell_of_heap HX2.down 0).trans rfl
  have f1 : W2.cell? ⟨w.heap.size, 1, none⟩ = some (.int .i64 0) := (Lib.cell_of_heap HX2.down 1).trans rfl
  have e4 : W2.cell? ⟨w1.heap.size, 4, none⟩ = some (.slice (some ⟨ib, io, none⟩) n ic) := (Lib.cell_of_heap HY2.down 4).trans rfl
  rw [Nat.add_zero] at hk0
  clear hrc
  refine MixIn.wpIn_region_tail (aF := ?_) 9 2 (fun W' => ∃ j, W' = W2.drewN j) (fun W' => ∃ j, W' = W2.drewN j) (fun w' w'' => ∃ j, w'' = w'.drewN j) (by kernel_rfl) (noDefer_of (by kernel_rfl)) rfl (by kernel_rfl) (by kernel_rfl) (by kernel_rfl) (by kernel_rfl) (by kernel_rfl) (fun w' => ⟨0, rfl⟩) (fun _ _ h k => drewN_two h k) (fun _ h => h) ⟨1, rfl⟩ ?_ ?_
  rotate_left 1
  · rintro ρ ⟨j, rfl⟩
    simp only [List.take_succ_cons, List.take_zero]
    repeat (go_big_quiet_step (fail))
    apply wpQuiet_nil
    exact rfl
  rintro W' ⟨j, rfl⟩
  have hbj : Below W2.heap.size W2 (W2.drewN j) := ⟨rfl, rfl, rfl, Nat.le_refl _, fun _ _ => rfl⟩
  have HCO := PLift.up (columns_one (W2.drewN j) _ _ ⟨#[97]⟩ 6 z false _ _ (HRC.down.below hbj))
  refine MixIn.wpAnyIn_one (i := 9) (by kernel_rfl) ?_
  refine wpOpIn_of rfl rfl ?_
  unfold Oper.wpIn
  refine ⟨fun _ _ => trivial, ?_⟩
  go_simp
  refine (calls_at HCO.down none _).mono ?_
  rintro e w3 ⟨v1, rfl, hown1, hb3⟩
  obtain ⟨ac, cc, cur1, rfl, -, hg1, hcur1⟩ := own_at hown1 (by decide)
  have HB3 : PLift (Below w.heap.size w w3) := ⟨HB2.down.trans ((hbj.trans (hb3.mono hbj.size)).mono HB2.down.size)⟩
  have HK3 : PLift (w3.cell? ⟨ac, 0, none⟩ = some (.string ⟨#[97]⟩)) := ⟨(Lib.cell_of_heap hg1 0).trans (hcur1 0 _ rfl)⟩
  have HX3 : PLift (w3.heap[w.heap.size]? = some (.cells #[.slice (some ⟨b, o, none⟩) N c, .int .i64 0] 36)) := ⟨(hb3.block _ (block_lt HX2.down)).trans HX2.down⟩
  have HY3 : PLift (w3.heap[w1.heap.size]? = some (.cells #[.int .i64 9, .string rt, .bool false, .slice ka kn kc, .slice (some ⟨ib, io, none⟩) n ic] 33)) := ⟨(hb3.block _ (block_lt HY2.down)).trans HY2.down⟩
  clear hown1 hb3 hg1 hcur1 HCO hbj f0 f1 e4 s0 s1 s2 s3 s4 hk0 hkN hkN2 HRC HX2 HY2
  refine MixIn.wpAnyIn_one (i := 10) (by kernel_rfl) ?_
  refine wpOpIn_of rfl rfl ?_
  unfold Oper.wpIn
  refine ⟨fun _ _ => trivial, ?_⟩
  go_simp
  refine MixIn.wpAnyIn_last (by kernel_rfl) ?_
  have y4 : w3.cell? ⟨w1.heap.size, 4, none⟩ = some (.slice (some ⟨ib, io, none⟩) n ic) := (Lib.cell_of_heap HY3.down 4).trans rfl
  have hmm := @run_makeMap Tryz.prog
  obtain ⟨W4, hW4⟩ : ∃ W4, w3.alloc (.map #[] 0) = W4 := ⟨_, rfl⟩
  have HB4 : PLift (Below w.heap.size w W4) := ⟨by rw [← hW4]; exact HB3.down.trans ((below_new w3 _).mono HB3.down.size)⟩
  have HX4 : PLift (W4.heap[w.heap.size]? = some (.cells #[.slice (some ⟨b, o, none⟩) N c, .int .i64 0] 36)) := ⟨by rw [← hW4, (below_new w3 _).block _ (block_lt HX3.down)]; exact HX3.down⟩
  have HY4 : PLift (W4.heap[w1.heap.size]? = some (.cells #[.int .i64 9, .string rt, .bool false, .slice ka kn kc, .slice (some ⟨ib, io, none⟩) n ic] 33)) := ⟨by rw [← hW4, (below_new w3 _).block _ (block_lt HY3.down)]; exact HY3.down⟩
  have HK4 : PLift (W4.cell? ⟨ac, 0, none⟩ = some (.string ⟨#[97]⟩)) := ⟨by rw [← hW4]; exact cell_keep (below_new w3 _) HK3.down⟩
  have HKM : PLift (KM W4 w3.heap.size 0 0 ⟨#[97]⟩) := ⟨by rw [← hW4]; exact KM.made w3 _⟩
  have HML := PLift.up HKM.down.lt
  have z4 : W4.cell? ⟨w1.heap.size, 4, none⟩ = some (.slice (some ⟨ib, io, none⟩) n ic) := (Lib.cell_of_heap HY4.down 4).trans rfl
  have HLT : PLift (w.heap.size < w3.heap.size ∧ w1.heap.size < w3.heap.size ∧ ac < w3.heap.size) := ⟨block_lt HX3.down, block_lt HY3.down, World.block_lt_of_cell? w3 _ HK3.down⟩
  clear HX3 HY3 HK3
  gi_upto_region 11 with fail
  clear hW4 y4
  gi_wp2
  gi_loopw [53] (fun iv wr => ∃ i : Nat, iv = .int .i64 i ∧ i ≤ n ∧ W4.grownBy wr (some w3.heap.size) ∧ KM wr w3.heap.size (if i = 0 then 0 else 6) i ⟨#[97]⟩) (fun iv _ => n - (intOf iv).toNat)
  case atStart => exact ⟨0, rfl, Nat.zero_le _, ⟨rfl, rfl, rfl, Nat.le_refl _, fun _ _ _ => rfl⟩, HKM.down⟩
  case round =>
    obtain ⟨i, rfl, hi, hg, hkm⟩ := hrel
    have hne : ∀ q, q < w3.heap.size → some q ≠ some w3.heap.size := fun q hq e => by have := Option.some.inj e; omega
    have hbr : Below w.heap.size w wr := ⟨hg.os.trans HB4.down.os, hg.tape.trans HB4.down.tape, hg.output.trans HB4.down.output, Nat.le_trans HB4.down.size hg.size, fun q hq => by
      rw [hg.block q (Nat.lt_of_lt_of_le hq HB4.down.size) (hne q (by have := HLT.down; omega))]; exact HB4.down.block q hq⟩
    have hXr : wr.heap[w.heap.size]? = some (.cells #[.slice (some ⟨b, o, none⟩) N c, .int .i64 0] 36) := by rw [hg.block _ (block_lt HX4.down) (hne _ HLT.down.1)]; exact HX4.down
    have hYr : wr.heap[w1.heap.size]? = some (.cells #[.int .i64 9, .string rt, .bool false, .slice ka kn kc, .slice (some ⟨ib, io, none⟩) n ic] 33) := by rw [hg.block _ (block_lt HY4.down) (hne _ HLT.down.2.1)]; exact HY4.down
    have hKr : wr.cell? ⟨ac, 0, none⟩ = some (.string ⟨#[97]⟩) := by
      have h1 := HK4.down
      unfold World.cell? at h1 ⊢
      rw [hg.block ac (World.block_lt_of_cell? W4 _ HK4.down) (hne _ HLT.down.2.2)]; exact h1
    have HBR := PLift.up hbr
    have HXR := PLift.up hXr
    have HYR := PLift.up hYr
    have HKR := PLift.up hKr
    have HKMR := PLift.up hkm
    have HG := PLift.up hg
    clear hbr hXr hYr hKr hkm hg z4
    by_cases hin : i < n
    · obtain ⟨k2, hk2N, hk2, rt2, lb2, lo2, kc2, mb2, mo2, mc2, x1, x2, x3, y1, y2, y3, s0, s1, s2, s3, s4, hrc⟩ := HR.down wr HBR.down i hin
      have HRC := PLift.up hrc
      have hkN2 : (k2 : Int) < (N : Int) := by omega
      have hin2 : (i : Int) < (n : Int) := by omega
      have f0 : wr.cell? ⟨w.heap.size, 0, none⟩ = some (.slice (some ⟨b, o, none⟩) N c) := (Lib.cell_of_heap HXR.down 0).trans rfl
      have f1 : wr.cell? ⟨w.heap.size, 1, none⟩ = some (.int .i64 0) := (Lib.cell_of_heap HXR.down 1).trans rfl
      clear hrc
      gi_upto_region 14 with fail
      refine MixIn.wpIn_region_tail (aF := ?_) 8 2 (fun W' => ∃ j, W' = wr.drewN j) (fun W' => ∃ j, W' = wr.drewN j) (fun w' w'' => ∃ j, w'' = w'.drewN j) (by kernel_rfl) (noDefer_of (by kernel_rfl)) rfl (by kernel_rfl) (by kernel_rfl) (by kernel_rfl) (by kernel_rfl) (by kernel_rfl) (fun w' => ⟨0, rfl⟩) (fun _ _ h k => drewN_two h k) (fun _ h => h) ⟨1, rfl⟩ ?_ ?_
      rotate_left 1
      · rintro ρ ⟨j, rfl⟩
        simp only [List.take_succ_cons, List.take_zero]
        repeat (go_big_quiet_step (fail))
        apply wpQuiet_nil
        exact rfl
      rintro W' ⟨j, rfl⟩
      have hbj : Below wr.heap.size wr (wr.drewN j) := ⟨rfl, rfl, rfl, Nat.le_refl _, fun _ _ => rfl⟩
      have hgj : wr.grownBy (wr.drewN j) none := grown_of_below hbj
      have HRO := PLift.up (row_one (wr.drewN j) _ _ ⟨#[97]⟩ 6 z false _ _ ac cc w3.heap.size i (if i = 0 then 0 else 6) (HRC.down.below hbj) (cell_keep hbj HKR.down) (HKMR.down.kept hgj (by simp)) (by unfold maxLen; decide) (by omega) (by omega) (by by_cases h : i = 0 <;> simp [h]) ⟨_, _, _, rfl⟩ ⟨_, _, _, rfl⟩)
      clear hbj hgj f0 f1 s0 s1 s2 s3 s4 hk2
      refine MixIn.wpAnyIn_one (i := 8) (by kernel_rfl) ?_
      refine wpOpIn_of rfl rfl ?_
      unfold Oper.wpIn
      refine ⟨fun _ _ => trivial, ?_⟩
      go_simp
      refine (calls_at HRO.down none _).mono ?_
      rintro e w5 ⟨rfl, hkm5, hg5⟩
      have HK5 := PLift.up hkm5
      have HG5 := PLift.up hg5
      clear hkm5 hg5 HRO
      refine MixIn.wpAnyIn_one (i := 9) (by kernel_rfl) ?_
      refine wpOpIn_of rfl rfl ?_
      unfold Oper.wpIn
      refine ⟨fun _ _ => trivial, ?_⟩
      go_simp
      refine MixIn.wpAnyIn_last (by kernel_rfl) ?_
      gi_wp2
      go_roundw
      case rel =>
        refine ⟨i + 1, ?_, by omega, ?_, ?_⟩
        · simp
        · have h1 := HG.down
          have h5 := HG5.down
          exact ⟨h5.os.trans h1.os, h5.tape.trans h1.tape, h5.output.trans h1.output, Nat.le_trans h1.size h5.size, fun q hq hn => by rw [h5.block q (Nat.lt_of_lt_of_le hq h1.size) hn]; exact h1.block q hq hn⟩
        · rw [if_neg (by omega)]; exact HK5.down
      case measure => simp [intOf]; omega
    obtain rfl : n = i := by omega
    have hin2 : ¬ ((n : Int) < (n : Int)) := by omega
    gi_upto_region 18 with fail
    clear HC
    have HKM6 : PLift (KM wr w3.heap.size 6 n ⟨#[97]⟩) := ⟨by have h := HKMR.down; rwa [if_neg (by omega)] at h⟩
    obtain ⟨W5, hW5⟩ : ∃ W5, wr.alloc (.cells #[.pointer none, .slice none 0 0] 59) = W5 := ⟨_, rfl⟩
    have HB5 : PLift (Below wr.heap.size wr W5) := ⟨by rw [← hW5]; exact below_new wr _⟩
    have HIB : PLift (Lib.IsBuilder 59 5 wr.heap.size wr.heap.size (Lib.byteCells []) W5) := ⟨by rw [← hW5]; exact Lib.fresh_isBuilder _ _ wr⟩
    have HS5 : PLift (W5.heap.size = wr.heap.size + 1) := ⟨by rw [← hW5]; exact size_new _ _⟩
    have c6 := cell_keep HB5.down HKR.down
    gi_upto_region 21 with fail
    clear hW5
    gi_wp2
    refine wpIn_loop_rounds 2 ?_
    rw [roundsIn_succ]
    gi_upto_region 24 with fail
    have HW5 : PLift (w.heap.size < W5.heap.size ∧ w3.heap.size < W5.heap.size) := ⟨by have h1 := HLT.down; have h2 := HKMR.down.lt; have h3 := HS5.down; omega⟩
    have HQ : PLift (∀ ρ, Below W5.heap.size W5 ρ → (Instr.lookup 55 (.map (some w3.heap.size)) (.string ⟨#[97]⟩) false).run Tryz.prog ρ = .ok (.int .i64 6) ρ ∧ ρ.cell? ⟨0, 6, none⟩ = some (.string ⟨#[98, 121, 116, 101, 115]⟩)) := ⟨fun ρ hρ => by
      have hb := HB5.down.trans (hρ.mono HB5.down.size)
      have hbw := HBR.down.trans (hb.mono HBR.down.size)
      refine ⟨(HKM6.down.kept (grown_of_below hb) (by simp)).look (by unfold maxLen; decide), ?_⟩
      obtain ⟨ty, fr, hnm⟩ := HNM.down
      have hlt := block_lt hnm
      have h1 := (hbw.block _ hlt).trans hnm
      exact (Lib.cell_of_heap h1 6).trans rfl⟩
    have HNA := PLift.up name_a
    refine MixIn.wpIn_region_mid (aF := ?_) 10 1 2 (fun W' => Below W5.heap.size W5 W') (fun W' => Below W5.heap.size W5 W') (fun w' w'' => ∃ x : MixIn.Grow w', w'' = x.w) (by kernel_rfl) (noDefer_of (by kernel_rfl)) rfl (by kernel_rfl) (by kernel_rfl) (by kernel_rfl) (by kernel_rfl) (fun w' => ⟨⟨w', Below.refl _ _⟩, rfl⟩) (fun _ _ h ⟨x, k⟩ => k ▸ h.trans (x.h.mono h.size)) (fun _ h => h) ⟨rfl, rfl, rfl, Nat.le_refl _, fun _ _ => rfl⟩ ?_ ?_
    rotate_left 1
    · intro ρ hρ
      have hlk := fun x : MixIn.Grow ρ => (HQ.down x.w (hρ.trans (x.h.mono hρ.size))).1
      have hnmc := fun x : MixIn.Grow ρ => (HQ.down x.w (hρ.trans (x.h.mono hρ.size))).2
      simp only [List.take_succ_cons, List.take_zero]
      repeat (go_big_quiet_step ((go_at_call 20; exact MixIn.Grow.calls (HNA.down _))))
      apply wpQuiet_nil
      exact rfl
    refine MixIn.wpV_one (i := 10) (by kernel_rfl) rfl (by kernel_rfl) (fun u W' => ∃ g, u = .slice (some ⟨g, 0, none⟩) 1 1 ∧ W5.heap.size ≤ g ∧ W'.cell? ⟨g, 0, none⟩ = some (.string ⟨#[97, 58, 98, 121, 116, 101, 115]⟩) ∧ Below W5.heap.size W5 W') ?_ (fun _ _ h => by obtain ⟨_, _, _, _, h⟩ := h; exact h) ?_ ?_
    · rintro _ X X' ⟨g, rfl, h1, h2, h3⟩ ⟨x, rfl⟩
      exact ⟨g, rfl, h1, cell_keep x.h h2, h3.trans (x.h.mono h3.size)⟩
    · intro X hX
      go_simp
      refine ⟨X.heap.size, rfl, hX.size, ?_, hX.trans ((below_new X _).mono hX.size)⟩
      refine (Lib.cell_of_heap (heap_alloc_new X _) 0).trans ?_
      exact congrArg some (congrArg Value.string (by kernel_rfl))
    rintro _ X ⟨g, rfl, -⟩
    refine MixIn.wpV_end (by kernel_rfl) ?_
    rintro W6 ⟨g', e', hgl, hgc, hb6⟩
    cases e'
    obtain ⟨i0, hi0, hz0, hz1, hz2⟩ := info_parts info_str0
    obtain ⟨v7, w7, hr7, hown7, hg7, -⟩ := run_append_own (P := Tryz.prog) W6 W5.heap.size 53 53 9 i0 (.string ⟨#[]⟩) 1 16 Tryz.underlying53 hi0 hz0 hz1 hz2 rfl (by decide) (.slice none 0 0) 0 [] (World.ownsRow_nil _ _ _ _) ⟨g, 0, none⟩ 1 1 [.string ⟨#[97, 58, 98, 121, 116, 101, 115]⟩] rfl
      (by intro j u hj; match j, hj with | 0, hj => simp only [List.getElem?_cons_zero, Option.some.injEq] at hj; subst hj; exact hgc | j + 1, hj => simp at hj) (by simp [Value.oneCell']) (by decide) (by decide) hb6.size
    have hown7 : w7.ownsRow W5.heap.size 9 1 v7 1 [.string ⟨#[97, 58, 98, 121, 116, 101, 115]⟩] := hown7
    obtain ⟨ah, ch, cur7, rfl, -, hgh, hcur7⟩ := own_at hown7 (by decide)
    have HB7 : PLift (Below W5.heap.size W5 w7) := ⟨hb6.grown hg7 hb6.size (fun k hk => by cases hk)⟩
    have HH7 : PLift (w7.cell? ⟨ah, 0, none⟩ = some (.string ⟨#[97, 58, 98, 121, 116, 101, 115]⟩)) := ⟨(Lib.cell_of_heap hgh 0).trans (hcur7 0 _ rfl)⟩
    clear hown7 hgh hcur7 hg7 hgc hgl hb6 hi0 hz0 hz1 hz2
    refine MixIn.wpAnyIn_one (i := 11) (by kernel_rfl) ?_
    refine wpOpIn_of rfl rfl ?_
    refine MixIn.wpIn_append _ _ _ rfl rfl rfl hr7 ?_
    simp only [Act.put, List.setIfInBounds_toArray]
    refine MixIn.wpAnyIn_one (i := 12) (by kernel_rfl) ?_
    refine wpOpIn_of rfl rfl ?_
    unfold Oper.wpIn
    refine ⟨fun _ _ => trivial, ?_⟩
    go_simp
    refine MixIn.wpAnyIn_last (by kernel_rfl) ?_
    gi_wp2
    rw [roundsIn_succ]
    gi_upto_region 26 with fail
    have HIB7 := PLift.up (bld_below HIB.down HB7.down)
    have HLN := PLift.up (line_any wr.heap.size [] ⟨#[97, 58, 98, 121, 116, 101, 115]⟩ ah ch w7 HIB7.down HH7.down (by decide) (by have h1 := HS5.down; have h2 := HB7.down.size; omega))
    gi_upto_region 27 with (gi_at_call 17; refine (calls_at HLN.down none _).mono ?_; rintro e w8 ⟨rfl, hib8, hb8, -⟩; have HIB8 : PLift (Lib.IsBuilder 59 5 wr.heap.size wr.heap.size (Lib.byteCells (textW z 0)) w8) := ⟨hib8⟩; have HB8 : PLift (Below wr.heap.size wr w8) := ⟨HB5.down.trans ((HB7.down.mono HB5.down.size).trans hb8)⟩; clear hib8 hb8)
    have HY8 : PLift (w8.heap[w1.heap.size]? = some (.cells #[.int .i64 9, .string rt, .bool false, .slice ka kn kc, .slice (some ⟨ib, io, none⟩) n ic] 33)) := ⟨(HB8.down.block _ (block_lt HYR.down)).trans HYR.down⟩
    have HX8 : PLift (w8.heap[w.heap.size]? = some (.cells #[.slice (some ⟨b, o, none⟩) N c, .int .i64 0] 36)) := ⟨(HB8.down.block _ (block_lt HXR.down)).trans HXR.down⟩
    have HW8 : PLift (Below w.heap.size w w8) := ⟨HBR.down.trans (HB8.down.mono HBR.down.size)⟩
    have HLW : PLift (w.heap.size < wr.heap.size) := ⟨block_lt HXR.down⟩
    have x8 : w8.cell? ⟨w1.heap.size, 4, none⟩ = some (.slice (some ⟨ib, io, none⟩) n ic) := (Lib.cell_of_heap HY8.down 4).trans rfl
    clear HLN HIB7 HH7 HB7 HQ HNA HIB HB5 c6 HKM6 HKMR HG HKR HYR HXR HS5 HW5 HLT HKM HK4 HX4 HY4 HNM hmm
    gi_wp2
    refine wpIn_loop_at (fun A a' W => ∃ (i : Nat) (ds : List Deferred) (u17 u18 u97 u98 u99 u100 u101 u102 u103 u104 u105 u106 u114 u115 u116 u117 : Value), a' = { tmps := (((((((((((((((((A.setIfInBounds 17 u17).setIfInBounds 18 u18).setIfInBounds 96 (.int .i64 (i : Int))).setIfInBounds 97 u97).setIfInBounds 98 u98).setIfInBounds 99 u99).setIfInBounds 100 u100).setIfInBounds 101 u101).setIfInBounds 102 u102).setIfInBounds 103 u103).setIfInBounds 104 u104).setIfInBounds 105 u105).setIfInBounds 106 u106).setIfInBounds 114 u114).setIfInBounds 115 u115).setIfInBounds 116 u116).setIfInBounds 117 u117), defers := ds } ∧ i ≤ n ∧ Lib.IsBuilder 59 5 wr.heap.size wr.heap.size (Lib.byteCells (textW z i)) W ∧ Below wr.heap.size w8 W ∧ Marks (wr.heap.size + 1) W.heap.size ds W)
      (fun a' _ => n - (intOf (a'.tmps.getD 96 undef)).toNat) ⟨0, [], undef, undef, undef, undef, undef, undef, undef, undef, undef, undef, undef, undef, undef, undef, undef, undef, ?st, Nat.zero_le _, HIB8.down, Below.refl _ _, trivial⟩ ?rd
    case st =>
      simp only [List.setIfInBounds_toArray, List.set_cons_succ, List.set_cons_zero]
      rfl
    rintro _ W ⟨i, ds, u17, u18, u97, u98, u99, u100, u101, u102, u103, u104, u105, u106, u114, u115, u116, u117, rfl, hi, hib, hbb, hmk⟩
    simp only [List.setIfInBounds_toArray, List.set_cons_succ, List.set_cons_zero]
    have HIBW := PLift.up hib
    have HBB := PLift.up hbb
    have HMK := PLift.up hmk
    have HBW : PLift (Below w.heap.size w W) := ⟨HW8.down.trans (hbb.mono (Nat.le_of_lt HLW.down))⟩
    have HWRW : PLift (wr.heap.size < W.heap.size) := ⟨by rcases hib with h | h <;> exact h.lt⟩
    clear hib hbb hmk x8
    by_cases hin : i < n
    · obtain ⟨k2, hk2N, hk2, hrf⟩ := HR.down W HBW.down i hin
      have hk2N2 : (k2 : Int) < (N : Int) := by omega
      have hin2 : (i : Int) < (n : Int) := by omega
      have HXW : PLift (W.heap[w.heap.size]? = some (.cells #[.slice (some ⟨b, o, none⟩) N c, .int .i64 0] 36)) := ⟨(HBB.down.block _ HLW.down).trans HX8.down⟩
      obtain ⟨V1, hV1⟩ : ∃ V1, W.alloc (.cells #[.slice none 0 0] 53) = V1 := ⟨_, rfl⟩
      have HV1 : PLift (Below W.heap.size W V1) := ⟨by rw [← hV1]; exact below_new W _⟩
      have HBX1 : PLift (Boxed V1 W.heap.size 53 (.slice none 0 0)) := ⟨by rw [← hV1]; exact Boxed.new _ _ _⟩
      obtain ⟨rt2, lb2, lo2, kc2, mb2, mo2, mc2, x1, x2, x3, y1, y2, y3, s0, s1, s2, s3, s4, hrc⟩ := hrf.below HV1.down
      have HRC := PLift.up hrc
      have hX1 : V1.heap[w.heap.size]? = some (.cells #[.slice (some ⟨b, o, none⟩) N c, .int .i64 0] 36) := (HV1.down.block _ (block_lt HXW.down)).trans HXW.down
      have f0 : V1.cell? ⟨w.heap.size, 0, none⟩ = some (.slice (some ⟨b, o, none⟩) N c) := (Lib.cell_of_heap hX1 0).trans rfl
      have f1 : V1.cell? ⟨w.heap.size, 1, none⟩ = some (.int .i64 0) := (Lib.cell_of_heap hX1 1).trans rfl
      clear hrc hrf hX1
      gi_upto_region 31 with fail
      clear hV1
      refine MixIn.wpIn_region_tail (aF := ?_) 6 1 (fun W' => ∃ j, W' = V1.drewN j) (fun W' => ∃ j, W' = V1.drewN j) (fun w' w'' => ∃ j, w'' = w'.drewN j) (by kernel_rfl) (noDefer_of (by kernel_rfl)) rfl (by kernel_rfl) (by kernel_rfl) (by kernel_rfl) (by kernel_rfl) (by kernel_rfl) (fun w' => ⟨0, rfl⟩) (fun _ _ h k => drewN_two h k) (fun _ h => h) ⟨1, rfl⟩ ?_ ?_
      rotate_left 1
      · rintro ρ ⟨j, rfl⟩
        simp only [List.take_succ_cons, List.take_zero]
        repeat (go_big_quiet_step (fail))
        apply wpQuiet_nil
        exact rfl
      rintro W' ⟨j, rfl⟩
      clear f0 f1 s0 s1 s2 s3 s4 hk2
      refine MixIn.wpAnyIn_one (i := 6) (by kernel_rfl) ?_
      refine wpOpIn_of rfl rfl ?_
      unfold Oper.wpIn
      refine ⟨fun _ _ => trivial, ?_⟩
      go_simp
      refine (calls_at (entries_one _ _ _ _ _ _ _ _ _ _ _ _ _ _) none _).mono ?_
      rintro e X3 ⟨rfl, rfl⟩
      refine MixIn.wpAnyIn_last (by kernel_rfl) ?_
      have hbj : Below V1.heap.size V1 (V1.drewN j) := ⟨rfl, rfl, rfl, Nat.le_refl _, fun _ _ => rfl⟩
      have HA := allocs_at [.cells #[.slice (some ⟨b, o, none⟩) N c, .int .i64 0] 36, .cells #[.int .i64 10, .string rt2, .bool false, .slice (some ⟨lb2, lo2, none⟩) 1 kc2, .slice (some ⟨mb2, mo2, none⟩) 1 mc2] 33] (V1.drewN j)
      unfold allocs allocs allocs at HA
      obtain ⟨hbl, hsl, hatl⟩ := HA
      have hV4 := hbj.trans (hbl.mono hbj.size)
      have HE := entries1 _ 0 _ _ ⟨#[97]⟩ 6 z false _ _ (fun _ _ => True) ((HRC.down.below hV4).at (hatl 0 _ rfl) (hatl 1 _ rfl))
      have HIBR := PLift.up (bld_below HIBW.down HV1.down)
      have HTR := PLift.up (text_room z hz i (by omega))
      have hbx1 := HBX1.down.kept (grown_of_below hV4) (by simp)
      generalize hWl : World.alloc _ _ = Wl at hV4 HE hbx1 ⊢
      have HWV : PLift (Below W.heap.size W Wl) := ⟨HV1.down.trans (hV4.mono HV1.down.size)⟩
      have HLW4 : PLift (W.heap.size < Wl.heap.size) := ⟨hbx1.lt⟩
      clear hWl hbl hsl hatl hbj
      gi_wp2
      refine rangeFunc_boxed (Nat.le_refl 1) (gf := 41) (lb := #[.pointer (some ⟨(V1.drewN j).heap.size, 0, none⟩), .pointer (some ⟨(V1.drewN j).heap.size + 1, 0, none⟩)]) rfl (enters_of Tryz.func41 (by kernel_rfl) rfl) HE (fun _ => rfl)
        (fun pre X => ((∃ v, Boxed X W.heap.size 53 v ∧ X.ownsRow W.heap.size 9 1 v pre.length (pre.map fun (_ : Unit) => Value.string (cellB z)) ∧ True) ∧ Below W.heap.size W X) ∧ Wl.heap.size ≤ X.heap.size)
        (OwnFrom.and (OwnFrom.and (Own.from (holdsRow_own W.heap.size W.heap.size 53 9 1 (fun (pre : List Unit) => pre.length) (fun pre => pre.map fun (_ : Unit) => Value.string (cellB z)) (fun _ _ => True)) _) (ownFrom_below (Nat.le_refl _) (Nat.le_of_lt HLW4.down))) (fun pre X X' row hs hg hr => Nat.le_trans hs hg.size))
        (fun _ _ h => h.2) ⟨⟨⟨_, hbx1, World.ownsRow_nil _ _ _ _, trivial⟩, HWV.down⟩, Nat.le_refl _⟩
        (fun _ => #[.int .i64 6, .string z, .bool false, .slice x1 x2 x3, .slice y1 y2 y3]) 33 (fun A _ Bx => (((A.setIfInBounds 107 (.string ⟨#[97]⟩)).setIfInBounds 108 (.agg #[.int .i64 6, .string z, .bool false, .slice x1 x2 x3, .slice y1 y2 y3])).setIfInBounds 20 (.pointer (some ⟨Bx, 0, none⟩)))) ?assign ?body ?done
      case assign =>
        intro l x X K hK
        simp only [entV]
        gi_wp2
        simpa only [List.setIfInBounds_toArray, List.set_cons_succ, List.set_cons_zero] using hK
      case body =>
        rintro l pre x Bx X hl hloop ⟨⟨⟨v, hv, hrow, -⟩, hB⟩, hsz⟩ hBx hbx hlt
        obtain rfl : pre = [] := List.length_eq_zero_iff.1 (by omega)
        simp only [List.setIfInBounds_toArray, List.set_cons_succ, List.set_cons_zero]
        gi_upto_region 33 with fail
        have HQ : PLift (∀ ρ, Below X.heap.size X ρ → ρ.cell? ⟨W.heap.size, 0, none⟩ = some v ∧ ρ.cell? ⟨Bx, 0, none⟩ = some (.int .i64 6) ∧ ρ.cell? ⟨Bx, 1, none⟩ = some (.string z) ∧ ρ.cell? ⟨Bx, 2, none⟩ = some (.bool false) ∧ ρ.cell? ⟨Bx, 3, none⟩ = some (.slice x1 x2 x3) ∧ ρ.cell? ⟨Bx, 4, none⟩ = some (.slice y1 y2 y3)) := ⟨fun ρ hρ =>
          have h1 := (hρ.block _ (block_lt hbx)).trans hbx
          ⟨cell_keep hρ hv.cell, (Lib.cell_of_heap h1 0).trans rfl, (Lib.cell_of_heap h1 1).trans rfl, (Lib.cell_of_heap h1 2).trans rfl, (Lib.cell_of_heap h1 3).trans rfl, (Lib.cell_of_heap h1 4).trans rfl⟩⟩
        have HCB := PLift.up (fun (Y : World) => cell_bytes z Y false x1 x2 x3 y1 y2 y3 (by omega))
        have HVX := PLift.up hv
        have HRX := PLift.up hrow
        have HBX := PLift.up (And.intro hB hsz)
        clear hv hrow hB hsz hbx hloop hl hBx
        refine MixIn.wpIn_region_mid (ro := some l) (aF := ?_) 3 1 2 (fun X' => Below X.heap.size X X') (fun X' => Below X.heap.size X X') (fun w' w'' => ∃ x : MixIn.Grow w', w'' = x.w) (by kernel_rfl) (noDefer_of (by kernel_rfl)) rfl (by kernel_rfl) (by kernel_rfl) (by kernel_rfl) (by kernel_rfl) (fun w' => ⟨⟨w', Below.refl _ _⟩, rfl⟩) (fun _ _ h ⟨x, k⟩ => k ▸ h.trans (x.h.mono h.size)) (fun _ h => h) ⟨rfl, rfl, rfl, Nat.le_refl _, fun _ _ => rfl⟩ ?_ ?_
        rotate_left 1
        · intro ρ hρ
          have hq0 := fun x : MixIn.Grow ρ => (HQ.down x.w (hρ.trans (x.h.mono hρ.size))).1
          have hq1 := fun x : MixIn.Grow ρ => (HQ.down x.w (hρ.trans (x.h.mono hρ.size))).2.1
          have hq2 := fun x : MixIn.Grow ρ => (HQ.down x.w (hρ.trans (x.h.mono hρ.size))).2.2.1
          have hq3 := fun x : MixIn.Grow ρ => (HQ.down x.w (hρ.trans (x.h.mono hρ.size))).2.2.2.1
          have hq4 := fun x : MixIn.Grow ρ => (HQ.down x.w (hρ.trans (x.h.mono hρ.size))).2.2.2.2.1
          have hq5 := fun x : MixIn.Grow ρ => (HQ.down x.w (hρ.trans (x.h.mono hρ.size))).2.2.2.2.2
          simp only [List.take_succ_cons, List.take_zero]
          repeat (go_big_quiet_step ((go_at_call 22; exact MixIn.Grow.calls (HCB.down _))))
          apply wpQuiet_nil
          exact rfl
        refine MixIn.wpV_one (i := 3) (by kernel_rfl) rfl (by kernel_rfl) (fun u X' => ∃ g, u = .slice (some ⟨g, 0, none⟩) 1 1 ∧ X.heap.size ≤ g ∧ X'.cell? ⟨g, 0, none⟩ = some (.string (cellB z)) ∧ Below X.heap.size X X') ?_ (fun _ _ h => by obtain ⟨_, _, _, _, h⟩ := h; exact h) ?_ ?_
        · rintro _ Y Y' ⟨g, rfl, h1, h2, h3⟩ ⟨x, rfl⟩
          exact ⟨g, rfl, h1, cell_keep x.h h2, h3.trans (x.h.mono h3.size)⟩
        · intro Y hY
          go_simp
          exact ⟨Y.heap.size, rfl, hY.size, (Lib.cell_of_heap (heap_alloc_new Y _) 0).trans rfl, hY.trans ((below_new Y _).mono hY.size)⟩
        rintro _ Y0 ⟨g, rfl, -⟩
        refine MixIn.wpV_end (by kernel_rfl) ?_
        rintro Y6 ⟨g', e', hgl, hgc, hb6⟩
        cases e'
        obtain ⟨i0, hi0, hz0, hz1, hz2⟩ := info_parts info_str0
        obtain ⟨v7, Y7, hr7, hown7, hg7, -⟩ := run_append_own (P := Tryz.prog) Y6 W.heap.size 53 53 9 i0 (.string ⟨#[]⟩) 1 16 Tryz.underlying53 hi0 hz0 hz1 hz2 rfl (by decide) v 0 [] (row_below HRX.down hb6) ⟨g, 0, none⟩ 1 1 [.string (cellB z)] rfl
          (by intro j u hj; match j, hj with | 0, hj => simp only [List.getElem?_cons_zero, Option.some.injEq] at hj; subst hj; exact hgc | j + 1, hj => simp at hj) (by simp [Value.oneCell']) (by decide) (by decide) (Nat.le_trans HBX.down.1.size hb6.size)
        have hown7 : Y7.ownsRow W.heap.size 9 1 v7 1 [.string (cellB z)] := hown7
        obtain ⟨hv1, hv2, hrr2, hkk2, hbb2⟩ := boxed_append HVX.down (by decide) HRX.down HBX.down.1.size (Nat.le_refl _) hb6 hown7 hg7
        obtain ⟨ae, ce, cur7, rfl, -⟩ := own_at hown7 (by decide)
        have HF := PLift.up (And.intro hv2 (And.intro hrr2 (And.intro hkk2 hbb2)))
        have hc1 := hv1.cell
        have hf1 := hv1.frozen
        have HSZ : PLift (Wl.heap.size ≤ Y7.heap.size) := ⟨Nat.le_trans HBX.down.2 (Nat.le_trans hb6.size hg7.size)⟩
        clear hown7 hg7 hgc hgl hb6 hi0 hz0 hz1 hz2 hv1 hv2 hrr2 hkk2 hbb2
        refine MixIn.wpAnyIn_one (i := 4) (by kernel_rfl) ?_
        refine wpOpIn_of rfl rfl ?_
        refine MixIn.wpIn_append _ _ _ rfl rfl rfl hr7 ?_
        simp only [Act.put, List.setIfInBounds_toArray]
        refine MixIn.wpAnyIn_one (i := 5) (by kernel_rfl) ?_
        refine wpOpIn_of rfl rfl ?_
        unfold Oper.wpIn
        refine ⟨fun _ _ => trivial, ?_⟩
        go_simp
        refine MixIn.wpAnyIn_last (by kernel_rfl) ?_
        gi_wp2
        obtain ⟨q1, q2, q3, q4⟩ := HF.down
        exact ⟨q3.from _, trivial, ⟨⟨⟨_, q1, by simpa using q2, trivial⟩, HBX.down.1.trans q4⟩, by simpa [World.setCell] using HSZ.down⟩⟩
      case done =>
        rintro D ys X hD rfl ⟨⟨⟨v, hv, hrow, -⟩, hB⟩, hsz⟩ hK
        have hrow : X.ownsRow W.heap.size 9 1 v 1 [.string (cellB z)] := hrow
        obtain ⟨ar, cr, cur, rfl, -, hgr, hcr⟩ := own_at hrow (by decide)
        have HLN := PLift.up (line_any wr.heap.size (textW z i) (cellB z) ar cr X (bld_below HIBW.down hB) ((Lib.cell_of_heap hgr 0).trans (hcr 0 _ rfl)) (by have := HTR.down; omega) (by have h1 := HWRW.down; have h2 := hB.size; omega))
        have HD := PLift.up (And.intro hD hK)
        have HBX := PLift.up hB
        have c18 := hv.cell
        clear hD hK hB hsz hv hrow hgr hcr
        gi_wp2_with (gi_at_call 17; refine (calls_at HLN.down none _).mono ?_; rintro e X9 ⟨rfl, hib9, hb9, hok9⟩; have H9 := PLift.up (And.intro hib9 (And.intro hb9 hok9)); clear hib9 hb9 hok9)
        obtain ⟨hib9, hb9, hok9⟩ := H9.down
        have hD := HD.down.1
        have hl4 := HLW4.down
        have hwr := HWRW.down
        have hkD := hok9 D _ HD.down.2 (fun e => by have := Option.some.inj e; omega) (fun c fz e => by cases e)
        refine ⟨⟨i + 1, { target := .collected D, args := #[] } :: ds, _, _, _, _, _, _, _, _, _, _, _, _, _, _, _, _, rfl, by omega, hib9, HBB.down.trans ((HBX.down.mono (Nat.le_of_lt hwr)).trans hb9), ⟨D, rfl, by omega, block_lt hkD, hkD, (HMK.down.keep fun q r1 r2 r3 => hok9 q _ ((HBX.down.block q r2).trans r3) (fun e => by have := Option.some.inj e; omega) (fun c fz e => by cases e)).mono (by omega)⟩⟩, ?_⟩
        simp [intOf]
        omega
    obtain rfl : n = i := by omega
    have hin2 : ¬ ((n : Int) < (n : Int)) := by omega
    have HST := PLift.up (bstr_kept wr.heap.size wr.heap.size (textW z n) W HIBW.down (by intro e; have h1 := textW_len z n; rw [e, List.length_nil] at h1; generalize n * _ = q at h1; omega) (by have h1 := text_room z hz n hn; omega))
    have HLI : PLift (∀ Y, Calls Tryz.prog 23 #[.string ⟨(textW z n).toArray⟩] Y fun e w' => e = .returned (if 65536 < (textW z n).length then .tuple #[.string ⟨#[]⟩, .int .i64 6] else .tuple #[.string ⟨(textW z n).toArray⟩, .int .i64 0]) ∧ w' = Y) := ⟨fun Y => by
      have h := limited_any ⟨(textW z n).toArray⟩ Y (by have h1 := text_room z hz n hn; simp only [ByteArray.size, List.size_toArray]; omega)
      simpa only [ByteArray.size, List.size_toArray] using h⟩
    have HFB := PLift.up (HBW.down)
    by_cases hlong : 65536 < (textW z n).length
    · simp only [if_pos hlong] at HLI ⊢
      gi_wp2_with (first
        | (gi_at_call 24; refine (calls_at HST.down none _).mono ?_; rintro e X6 ⟨rfl, h6⟩; have H6 := PLift.up h6; clear h6)
        | (gi_at_call 23; refine (calls_at (HLI.down _) none _).mono ?_; rintro e X7 ⟨rfl, rfl⟩))
      refine leaves_marks (lo := wr.heap.size + 1) ds W.heap.size _ (HMK.down.keep fun q r1 r2 r3 => H6.down.2 q _ r3 (fun e => by have := Option.some.inj e; omega) (fun c fz e => by cases e)) fun Y hY => ?_
      refine ⟨.tuple #[.string ⟨#[]⟩, .int .i64 6], (by simp only [results, Tryz.results7]; go_simp), rfl, ?_⟩
      have hlw := HLW.down
      exact (HFB.down.trans (H6.down.1.mono (Nat.le_of_lt hlw))).trans (hY.mono (by omega))
    · simp only [if_neg hlong] at HLI ⊢
      gi_wp2_with (first
        | (gi_at_call 24; refine (calls_at HST.down none _).mono ?_; rintro e X6 ⟨rfl, h6⟩; have H6 := PLift.up h6; clear h6)
        | (gi_at_call 23; refine (calls_at (HLI.down _) none _).mono ?_; rintro e X7 ⟨rfl, rfl⟩))
      refine leaves_marks (lo := wr.heap.size + 1) ds W.heap.size _ (HMK.down.keep fun q r1 r2 r3 => H6.down.2 q _ r3 (fun e => by have := Option.some.inj e; omega) (fun c fz e => by cases e)) fun Y hY => ?_
      refine ⟨.tuple #[.string ⟨(textW z n).toArray⟩, .int .i64 0], (by simp only [results, Tryz.results7]; go_simp), rfl, ?_⟩
      have hlw := HLW.down
      exact (HFB.down.trans (H6.down.1.mono (Nat.le_of_lt hlw))).trans (hY.mono (by omega))
end Go.Proofs.YtneohoclgnfdcaaGreatDoor
