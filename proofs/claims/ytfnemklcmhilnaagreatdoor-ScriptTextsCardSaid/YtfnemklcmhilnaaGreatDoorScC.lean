/- The check of a text: what codepoint.Check hands back. -/
import Derived.Test.YtfnemklcmhilnaaGreatDoorScL
import Derived.Test.YtfnemklcmhilnaaGreatDoorScA
import Derived.Test.YtfnemklcmhilnaaGreatDoorScP
import Derived.Lib.OthersKept
import Derived.Lib.TrimUEq
namespace Go.Proofs.YtfnemklcmhilnaaGreatDoor
open Go.RowKit
open Go.Lib hiding intOf
theorem dec_is (s : ByteArray) (i : Nat) : Utf8.decode s i = dec (s.data.toList.drop i) := by
  rw [decode_N]
  unfold dec
  simp [List.getD_eq_getElem?_getD, List.getElem?_drop]
theorem decGo_is (s : ByteArray) (i : Nat) (h : i < s.size) : Lib.decodeGo (s.extract i s.size) = dec (s.data.toList.drop i) := by
  unfold Lib.decodeGo
  rw [if_neg (by simp [ByteArray.size_extract]; omega), dec_is]
  congr 1
  simp [ByteArray.data_extract]
  rw [List.take_of_length_le (by simp)]
/-- the first place where no well-formed sequence begins -/
def cp : List UInt8 → Option Nat
  | [] => none
  | c :: r => if dec (c :: r) = (65533, 1) then some 0 else (cp (r.drop ((dec (c :: r)).2 - 1))).map (· + (dec (c :: r)).2)
termination_by l => l.length
decreasing_by simp; omega
def cpV : Option Nat → Value
  | none => .tuple #[.int .i64 (-1), .int .i64 0]
  | some n => .tuple #[.int .i64 n, .int .i64 11]
theorem cp_chk (l : List UInt8) : chk l = true → cp l = none := by
  induction hn : l.length using Nat.strongRecOn generalizing l with
  | _ n ih =>
    cases l with
    | nil => intro _; unfold cp; rfl
    | cons c r =>
      intro h
      unfold chk at h
      unfold cp
      by_cases hd : dec (c :: r) = (65533, 1)
      · rw [if_pos hd] at h; cases h
      · rw [if_neg hd] at h ⊢
        rw [ih _ (by subst hn; simp; omega) _ rfl h]
        rfl
def CpRel (l : List UInt8) (pos : Nat) : Prop := pos ≤ l.length ∧ cp l = (cp (l.drop pos)).map (· + pos)
theorem cp_start (l : List UInt8) : CpRel l 0 := ⟨Nat.zero_le _, by simp⟩
theorem drop_cons {l : List UInt8} {pos : Nat} (h : pos < l.length) : l.drop pos = l[pos] :: l.drop (pos + 1) := List.drop_eq_getElem_cons h
theorem cp_bad {l : List UInt8} {pos : Nat} (h : CpRel l pos) (hp : pos < l.length) (hd : dec (l.drop pos) = (65533, 1)) : cp l = some pos := by
  rw [h.2, drop_cons hp]
  rw [drop_cons hp] at hd
  unfold cp
  rw [if_pos hd]; simp
theorem cp_step {l : List UInt8} {pos r n : Nat} (h : CpRel l pos) (hp : pos < l.length) (hd : dec (l.drop pos) = (r, n)) (hb : ¬ (r = 65533 ∧ n = 1)) : CpRel l (pos + n) := by
  have hw := dec_width l[pos] (l.drop (pos + 1))
  have hl := dec_le l[pos] (l.drop (pos + 1))
  rw [← drop_cons hp, hd] at hw hl
  simp only [List.length_drop] at hl
  refine ⟨by omega, ?_⟩
  rw [h.2, drop_cons hp]
  conv => lhs; unfold cp
  rw [← drop_cons hp, hd, if_neg (by intro e; exact hb (by simpa using e))]
  simp only [List.drop_drop, Option.map_map]
  rw [show pos + 1 + (n - 1) = pos + n by omega]
  congr 1
  funext x
  simp; omega
theorem cp_done {l : List UInt8} {pos : Nat} (h : CpRel l pos) (hp : ¬ pos < l.length) : cp l = none := by
  rw [h.2, List.drop_eq_nil_of_le (by omega)]
  unfold cp; rfl
def Tabs (w : World) : Prop := Lib.Utf8Tabs 1 2 w
theorem Tabs.lt {w : World} (h : Tabs w) : 1 < w.heap.size ∧ 2 < w.heap.size :=
  ⟨World.block_lt_of_cell? w _ (h.1 0 (by decide)), World.block_lt_of_cell? w _ (h.2 0 (by decide)).1⟩
theorem Tabs.below {w w' : World} (h : Tabs w) (hb : Below w.heap.size w w') : Tabs w' := tabs_below h hb h.lt.1 h.lt.2
set_option maxHeartbeats 1000000 in
theorem check_any (s : ByteArray) (w : World) (hT : Tabs w) :
    Calls Tryz.prog 12 #[.string s] w fun e w' => e = .returned (cpV (cp s.data.toList)) ∧ Below w.heap.size w w' := by
  have HT := Lib.hid hT
  clear hT
  go_enter Tryz.func12, Tryz.ntmps12
  go_wp2
  go_loopw [] (fun wr => ∃ pos : Nat, wr.heap[w.heap.size]? = some (.stringIter s pos) ∧ Below w.heap.size w wr ∧ CpRel s.data.toList pos) (fun wr => s.size - wr.iterPos w.heap.size)
  case atStart => exact ⟨0, by have := World.iter_heap w s 0; simpa using this, (Below.refl _ w).alloc (Nat.le_refl _) _, cp_start _⟩
  case round =>
    obtain ⟨pos, hit, hbw, hcp⟩ := hrel
    have hl : s.data.toList.length = s.size := by simp
    by_cases hp : pos < s.size
    · obtain ⟨r, n, hd⟩ : ∃ r n : Nat, Utf8.decode s pos = (r, n) := ⟨_, _, rfl⟩
      have hnx : ∀ ty, (Instr.next (.pointer (some ⟨w.heap.size, 0, none⟩)) true ty).run Tryz.prog wr = .ok (.tuple #[.bool true, .int .i64 pos, .int .i32 r]) (wr.iterAt w.heap.size s (pos + n)) := fun ty => by
        rw [Lib.run_next_any_at wr w.heap.size s pos ty hit hp, hd]
      have hit2 := Lib.iterAt_heap wr w.heap.size s pos (pos + n) hit
      have hbw2 := Lib.below_iterAt hbw (k := w.heap.size) (Nat.le_refl _) s (pos + n)
      have hT2 := Lib.hid (HT.out.below hbw2)
      have hgo : Lib.decodeGo (s.extract pos s.size) = (r, n) := by rw [decGo_is _ _ hp, ← dec_is, hd]
      rw [dec_is] at hd
      have hbad : r = 65533 → n = 1 → Hid (cp s.data.toList = some pos) := fun h1 h2 => by subst h1 h2; exact cp_bad hcp (by omega) hd
      have hstep : ¬ (r = 65533 ∧ n = 1) → Hid (CpRel s.data.toList (pos + n)) := fun h => cp_step hcp (by omega) hd h
      have hwid : 1 ≤ n := by
        have := dec_width s.data.toList[pos] (s.data.toList.drop (pos + 1))
        rw [← drop_cons (by omega), hd] at this; exact this
      have hmeas := Lib.hid hit
      clear hd hcp hit
      have HGO := Lib.hid hgo
      have HIT2 := Lib.hid hit2
      clear hgo hit2
      have hle : (pos : Int) ≤ s.size := by omega
      by_cases hr : r = 65533
      · have er : ((r : Int) == 65533) = true := by simp; omega
        have hsz := hbw2.size
        have hlt : w.heap.size < (wr.iterAt w.heap.size s (pos + n)).heap.size := (Array.getElem?_eq_some_iff.1 HIT2.out).1
        by_cases hn : n = 1
        · have en : ((n : Int) == 1) = true := by simp; omega
          have HB := hbad hr hn
          clear hbad hstep hr hn
          go_wp2_with (go_at_call 24; refine (Tryz.utf8_DecodeRuneInString _ _ hT2.out).mono ?_; rw [HGO.out]; rintro e w1 ⟨rfl, hb1⟩)
          go_ret2
          exact ⟨by rw [HB.out]; rfl, hbw2.trans (hb1.mono hsz)⟩
        · have en : ((n : Int) == 1) = false := by simp; omega
          have HS := hstep (fun h => hn h.2)
          clear hbad hstep hr hn
          go_wp2_with (go_at_call 24; refine (Tryz.utf8_DecodeRuneInString _ _ hT2.out).mono ?_; rw [HGO.out]; rintro e w1 ⟨rfl, hb1⟩)
          go_roundw
          case rel => exact ⟨pos + n, by rw [hb1.block _ hlt]; exact HIT2.out, hbw2.trans (hb1.mono hsz), HS.out⟩
          case measure =>
            simp only [World.iterPos, hb1.block _ hlt, HIT2.out, hmeas.out]
            omega
      · have er : ((r : Int) == 65533) = false := by simp; omega
        have HS := hstep (fun h => hr h.1)
        clear hbad hstep
        go_wp2
        go_roundw
        case rel => exact ⟨pos + n, HIT2.out, hbw2, HS.out⟩
        case measure =>
          simp only [World.iterPos, HIT2.out, hmeas.out]
          omega
    · have hnx : ∀ ty, (Instr.next (.pointer (some ⟨w.heap.size, 0, none⟩)) true ty).run Tryz.prog wr = _ := fun ty => Lib.run_next_end_at wr w.heap.size s pos ty hit hp
      have HE := Lib.hid (cp_done hcp (by omega))
      clear hit hcp
      go_wp2
      go_ret2
      exact ⟨by rw [HE.out]; rfl, hbw⟩
end Go.Proofs.YtfnemklcmhilnaaGreatDoor
