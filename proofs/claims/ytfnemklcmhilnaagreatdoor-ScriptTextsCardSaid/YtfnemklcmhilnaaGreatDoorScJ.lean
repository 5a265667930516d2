/- path.Parse: elements, Parse, where what read hands back is known. -/
import Derived.Test.YtfnemklcmhilnaaGreatDoorScI
namespace Go.Proofs.YtfnemklcmhilnaaGreatDoor
open Go.RowKit
open Go.Lib hiding intOf
structure El where
  k : Int
  i : Int
  key : ByteArray
def El.cells (x : El) : List Value := [.int .i64 x.k, .int .i64 x.i, .string x.key]
def El.stp (x : El) : List Value := [.int .i64 x.i, .string x.key]
def RowE (B : Nat) (v : Value) (l : List El) (w : World) : Prop := w.ownsRow B 89 3 v l.length (l.flatMap El.cells)
def RowP (B : Nat) (v : Value) (l : List El) (w : World) : Prop := w.ownsRow B 87 2 v l.length (l.flatMap El.stp)
theorem info_el : (Tryz.prog.info? 89).map (fun i => (i.zero, i.size, i.bytes)) = some (some (.agg #[.int .i64 0, .int .i64 0, .string ⟨#[]⟩]), 3, 32) := by kernel_rfl
theorem info_step : (Tryz.prog.info? 87).map (fun i => (i.zero, i.size, i.bytes)) = some (some (.agg #[.int .i64 0, .string ⟨#[]⟩]), 2, 24) := by kernel_rfl
theorem el_one (a b : Int) (s : ByteArray) : ∀ u ∈ (#[.int .i64 a, .int .i64 b, .string s] : Array Value).toList, u.oneCell' = true := by
  intro u hu
  simp at hu
  rcases hu with rfl | rfl | rfl <;> rfl
theorem st_one (b : Int) (s : ByteArray) : ∀ u ∈ (#[.int .i64 b, .string s] : Array Value).toList, u.oneCell' = true := by
  intro u hu
  simp at hu
  rcases hu with rfl | rfl <;> rfl
/-- the elements of a text; R: what read hands back -/
def els (R : List UInt8 → El × List UInt8 × Bool) (l : List UInt8) : Option (List El) :=
  if l = [] then some [] else if _h : (R l).2.2 = true ∧ (R l).2.1.length < l.length then (els R (R l).2.1).map ((R l).1 :: ·) else none
termination_by l.length
decreasing_by exact _h.2
def elsV (R : List UInt8 → El × List UInt8 × Bool) (l : List UInt8) : List El × Int :=
  if l.length > 65536 then ([], 6) else match els R l with | none => ([], 4) | some L => if L.length > 256 then ([], 7) else (L, 0)
/-- read hands back R at the texts of D -/
def ReadAt (pat : Bool) (R : List UInt8 → El × List UInt8 × Bool) (D : List UInt8 → Prop) : Prop := ∀ l, D l → l ≠ [] →
  (∀ w, Tabs w → Calls Tryz.prog 42 #[.string ⟨l.toArray⟩, .bool pat] w fun e w' => e = .returned (.tuple #[.agg #[.int .i64 (R l).1.k, .int .i64 (R l).1.i, .string (R l).1.key], .string ⟨(R l).2.1.toArray⟩, .bool (R l).2.2]) ∧ Below w.heap.size w w') ∧
  ((R l).2.2 = true → (R l).2.1.length < l.length ∧ D (R l).2.1)
theorem els_nil (R : List UInt8 → El × List UInt8 × Bool) : els R [] = some [] := by unfold els; rw [if_pos rfl]
theorem els_ok {R : List UInt8 → El × List UInt8 × Bool} {l : List UInt8} (h : l ≠ []) (h1 : (R l).2.2 = true) (h2 : (R l).2.1.length < l.length) : els R l = (els R (R l).2.1).map ((R l).1 :: ·) := by
  conv => lhs; unfold els
  rw [if_neg h, dif_pos ⟨h1, h2⟩]
theorem els_bad {R : List UInt8 → El × List UInt8 × Bool} {l : List UInt8} (h : l ≠ []) (h1 : (R l).2.2 = false) : els R l = none := by
  conv => lhs; unfold els
  rw [if_neg h, dif_neg (by rw [h1]; simp)]
def EInv (R : List UInt8 → El × List UInt8 × Bool) (D : List UInt8 → Prop) (l0 : List UInt8) (w wr : World) (l : List UInt8) (L : List El) (ov : Value) : Prop :=
  D l ∧ RowE w.heap.size ov L wr ∧ Below w.heap.size w wr ∧ els R l0 = (els R l).map (L ++ ·) ∧ L.length + l.length ≤ l0.length
def strLen : Value → Nat
  | .string s => s.size
  | _ => 0
def ElsP (B : Nat) (r : List El × Int) (e : Ending) (w' : World) : Prop := ∃ v, e = .returned (.tuple #[v, .int .i64 r.2]) ∧ RowE B v r.1 w'
theorem rowE_slice {B : Nat} {v : Value} {L : List El} {w : World} (h : RowE B v L w) : ∃ oa oc, v = .slice oa L.length oc := by
  rcases h.2 with ⟨rfl, h0⟩ | ⟨g, cap, cur, rfl, _⟩
  · rw [h0]; exact ⟨_, _, rfl⟩
  · exact ⟨_, _, rfl⟩
theorem rowE_nil (B : Nat) (w : World) : RowE B (.slice none 0 0) [] w := ⟨rfl, .inl ⟨rfl, rfl⟩⟩
theorem rowP_slice {B : Nat} {v : Value} {L : List El} {w : World} (h : RowP B v L w) : ∃ oa oc, v = .slice oa L.length oc := by
  rcases h.2 with ⟨rfl, h0⟩ | ⟨g, cap, cur, rfl, _⟩
  · rw [h0]; exact ⟨_, _, rfl⟩
  · exact ⟨_, _, rfl⟩
theorem rowP_nil (B : Nat) (w : World) : RowP B (.slice none 0 0) [] w := ⟨rfl, .inl ⟨rfl, rfl⟩⟩
theorem bytes_list (l : List UInt8) : (⟨l.toArray⟩ : ByteArray).data.toList = l := rfl
theorem bytes_size (l : List UInt8) : (⟨l.toArray⟩ : ByteArray).size = l.length := by simp [ByteArray.size]
set_option maxHeartbeats 4000000 in
set_option maxRecDepth 100000 in
theorem elements_any (pat : Bool) (R : List UInt8 → El × List UInt8 × Bool) (D : List UInt8 → Prop) (hR : ReadAt pat R D) (l0 : List UInt8) (hD : D l0) (w : World) (hT : Tabs w) (hmax : l0.length ≤ 9223372036854775807) :
    Calls Tryz.prog 36 #[.string ⟨l0.toArray⟩, .bool pat] w fun e w' => Below w.heap.size w w' ∧ ElsP w.heap.size (elsV R l0) e w' := by
  obtain ⟨s, hs⟩ : ∃ s : ByteArray, s = ⟨l0.toArray⟩ := ⟨_, rfl⟩
  have hsl : s.data.toList = l0 := by rw [hs]
  have hsz : s.size = l0.length := by rw [hs, bytes_size]
  rw [← hs]
  rw [← hsz] at hmax
  have HSL := Lib.hid hsl
  have HSZ := Lib.hid hsz
  have HR := Lib.hid hR
  have HD := Lib.hid hD
  have HT := Lib.hid hT
  clear hR hD hT hs hsl
  by_cases hlen : s.size ≤ 65536
  · have HV : Hid (elsV R l0 = match els R l0 with | none => ([], 4) | some L => if L.length > 256 then ([], 7) else (L, 0)) := by
      show _ = _; unfold elsV; rw [if_neg (by omega)]
    have hlen2 : (s.size : Int) ≤ 65536 := by omega
    clear hsz
    go_enter Tryz.func36, Tryz.ntmps36
    go_wp2
    go_loopw [0, 6] (fun sv ov wr => ∃ (S : ByteArray) (L : List El) (oa : Option Addr) (oc : Nat), sv = .string S ∧ ov = .slice oa L.length oc ∧ EInv R D l0 w wr S.data.toList L (.slice oa L.length oc)) (fun sv _ _ => strLen sv)
    case atStart =>
      exact ⟨s, [], none, 0, rfl, rfl, by rw [HSL.out]; exact HD.out, rowE_nil _ _, Below.refl _ _, by rw [HSL.out]; simp, by rw [HSL.out]; simp⟩
    case round =>
      obtain ⟨S, L, oa, oc, rfl, rfl, hI⟩ := hrel
      obtain ⟨hDl, hrow, hbw, heq, hcnt⟩ := hI
      have hSz : S.data.toList.length = S.size := by simp
      by_cases hS : S.size = 0
      · obtain rfl : S = ⟨#[]⟩ := by
          have : S.data.size = 0 := hS
          exact ext_list (by simp [Array.eq_empty_of_size_eq_zero this])
        have HE : Hid (els R l0 = some L) := by
          show _ = _
          rw [heq, els_nil]; simp
        have HRow := Lib.hid hrow
        by_cases hL : L.length > 256
        · have hL2 : ((256 : Int) < (L.length : Int)) := by omega
          clear heq hrow hS hSz hL
          go_wp2
          go_ret2
          refine ⟨hbw, ?_⟩
          rw [HV.out, HE.out]
          simp only []
          rw [if_pos (by omega)]
          exact ⟨_, rfl, rowE_nil _ _⟩
        · have hL2 : ¬ ((256 : Int) < (L.length : Int)) := by omega
          have hL3 : (L.length : Int) ≤ 256 := by omega
          clear heq hrow hS hSz hL
          go_wp2
          go_ret2
          refine ⟨hbw, ?_⟩
          rw [HV.out, HE.out]
          simp only []
          rw [if_neg (by omega)]
          exact ⟨_, rfl, HRow.out⟩
      · have hne : S.data.toList ≠ [] := fun h => hS (by rw [← hSz, h]; rfl)
        have e2 : ¬ S.toList = [] := fun e => by
          have := (toList_nil_iff_emptyBytes S).1 e
          subst this
          exact hS rfl
        have e4 : (!S.toList.isEmpty) = true := by
          cases h : S.toList with
          | nil => exact absurd h e2
          | cons x r => rfl
        obtain ⟨hcall, hnx⟩ := HR.out S.data.toList hDl hne
        have hSS : (⟨S.data.toList.toArray⟩ : ByteArray) = S := ext_list rfl
        rw [hSS] at hcall
        have HC := Lib.hid (hcall wr (HT.out.below hbw))
        have HRow := Lib.hid hrow
        have HB := Lib.hid hbw
        have HDl := Lib.hid hDl
        cases hok : (R S.data.toList).2.2 with
        | false =>
          have HE : Hid (els R l0 = none) := by
            show _ = _
            rw [heq, els_bad hne hok]; rfl
          have HOK := Lib.hid hok
          clear heq hrow hbw hS hSz hcall hSS hnx hne hok hDl
          go_wp2_with (go_at_call 42; refine HC.out.mono ?_; rw [HOK.out]; rintro e w1 ⟨rfl, hb1⟩)
          go_ret2
          refine ⟨?_, ?_⟩
          · have hb := HB.out.trans (hb1.mono HB.out.size)
            exact hb.alloc hb.size _
          · rw [HV.out, HE.out]
            exact ⟨_, rfl, rowE_nil _ _⟩
        | true =>
          obtain ⟨hlt, hD2⟩ := hnx hok
          have HE : Hid (els R l0 = (els R (R S.data.toList).2.1).map ((L ++ [(R S.data.toList).1]) ++ ·)) := by
            show _ = _
            rw [heq, els_ok hne hok hlt]
            simp [Option.map_map, Function.comp_def]
          have HOK := Lib.hid hok
          generalize hX : R S.data.toList = X at HC HE HOK hlt hD2
          obtain ⟨x, rest, ok⟩ := X
          obtain ⟨xk, xi, xs⟩ := x
          have hLb : L.length ≤ 65536 := by have := HSZ.out; omega
          have HLT := Lib.hid hlt
          have HCN := Lib.hid hcnt
          have hwb : w.heap.size ≤ wr.heap.size := hbw.size
          clear heq hrow hbw hS hcall hSS hnx hne hok hDl hX hlt hcnt
          go_wp2_with (first
            | (go_at_call 42; refine HC.out.mono ?_; rw [HOK.out]; rintro e w1 ⟨rfl, hb1⟩; have HB1 := Lib.hid hb1; clear hb1)
            | (at_builtin; (refine app_gen (B := w.heap.size) (xs := L.flatMap El.cells) (n := L.length) Tryz.underlying83 info_el rfl (by decide) (by decide) _ rfl _ _ rfl rfl (World.ownsRow.alloc (row_below HRow.out HB1.out) _) _ rfl (el_one _ _ _) (w1.heap.size + 1) _ (World.size_alloc' _ _) rfl ?c1 ?c2 ?_)))
          case c1 => omega
          case c2 =>
            have := HB1.out.size
            simp; omega
          intro v' w5 hr hb5 hg
          have hfin : RowE w.heap.size v' (L ++ [⟨xk, xi, xs⟩]) w5 := by
            unfold RowE
            rw [List.length_append, List.flatMap_append]
            exact hr
          obtain ⟨oa2, oc2, rfl⟩ := rowE_slice hfin
          have hb6 := HB.out.trans (HB1.out.mono HB.out.size)
          have HB6 := Lib.hid ((hb6.alloc hb6.size (.cells #[.int .i64 xk, .int .i64 xi, .string xs] 89)).trans hb5)
          have HFIN := Lib.hid hfin
          clear hr hb5 hg hfin hb6
          go_wp2
          go_roundw
          case rel =>
            refine ⟨⟨rest.toArray⟩, L ++ [⟨xk, xi, xs⟩], oa2, oc2, rfl, rfl, ?_⟩
            refine ⟨hD2, HFIN.out, HB6.out, HE.out, ?_⟩
            have h1 := HLT.out
            have h2 := HCN.out
            simp only [List.length_append, List.length_cons, List.length_nil] at h1 ⊢
            omega
          case measure =>
            have h1 := HLT.out
            simp only [strLen, bytes_size] at h1 ⊢
            omega
  · have HV : Hid (elsV R l0 = ([], 6)) := by
      show _ = _; unfold elsV; rw [if_pos (by omega)]
    have hlen2 : 65536 < (s.size : Int) := by omega
    clear hsz
    go_enter Tryz.func36, Tryz.ntmps36
    go_wp2
    go_ret2
    exact ⟨Below.refl _ _, by rw [HV.out]; exact ⟨_, rfl, rowE_nil _ _⟩⟩
def stepsP (B : Nat) (r : List El × Int) (e : Ending) (w' : World) : Prop := ∃ v, e = .returned (.tuple #[v, .int .i64 r.2]) ∧ RowP B v r.1 w'
theorem el_cells {L : List El} {k : Nat} (h : k < L.length) : ∀ j x, L[k].cells[j]? = some x → (L.flatMap El.cells)[k * 3 + j]? = some x := by
  intro j x hx
  have hj : j < 3 := (List.getElem?_eq_some_iff.1 hx).1
  induction L generalizing k with
  | nil => simp at h
  | cons y L ih =>
    cases k with
    | zero =>
      simp only [List.getElem_cons_zero] at hx
      simp only [List.flatMap_cons, Nat.zero_mul, Nat.zero_add]
      rw [List.getElem?_append_left (show j < y.cells.length from hj)]
      exact hx
    | succ k =>
      simp only [List.getElem_cons_succ] at hx
      have hk : k < L.length := by simpa using h
      simp only [List.flatMap_cons]
      rw [List.getElem?_append_right (show y.cells.length ≤ (k + 1) * 3 + j by show 3 ≤ _; omega)]
      have e : (k + 1) * 3 + j - y.cells.length = k * 3 + j := by show (k + 1) * 3 + j - 3 = _; omega
      rw [e]
      exact ih hk hx
set_option maxHeartbeats 4000000 in
set_option maxRecDepth 100000 in
theorem pparse_any (R : List UInt8 → El × List UInt8 × Bool) (D : List UInt8 → Prop) (hR : ReadAt false R D) (l0 : List UInt8) (hD : D l0) (w : World) (hT : Tabs w) (hmax : l0.length ≤ 9223372036854775807) :
    Calls Tryz.prog 30 #[.string ⟨l0.toArray⟩] w fun e w' => Below w.heap.size w w' ∧ stepsP w.heap.size (elsV R l0) e w' := by
  have HC := Lib.hid (elements_any false R D hR l0 hD w hT hmax)
  have hlen : (elsV R l0).1.length ≤ 256 := by
    unfold elsV
    split
    · simp
    · split
      · simp
      · split
        · simp
        · simp only; omega
  generalize elsV R l0 = V at HC hlen
  obtain ⟨L, c⟩ := V
  simp only at hlen
  clear hR hD hT hmax
  generalize (⟨l0.toArray⟩ : ByteArray) = s at HC
  go_enter Tryz.func30, Tryz.ntmps30
  go_wp2_with (go_at_call 36; refine HC.out.mono ?_; rintro e w1 ⟨hb1, lv, rfl, hrow⟩; obtain ⟨la, lc, rfl⟩ := rowE_slice hrow; have HROW := Lib.hid hrow; have HB1 := Lib.hid hb1; clear hrow hb1)
  go_loopw [6, 16] (fun ov iv wr => ∃ (k : Nat) (oa : Option Addr) (oc : Nat), k ≤ L.length ∧ iv = .int .i64 k ∧ ov = .slice oa k oc ∧ RowP w1.heap.size (.slice oa k oc) (L.take k) wr ∧ Below w1.heap.size w1 wr) (fun _ iv _ => L.length - (intOf iv).toNat)
  case atStart => exact ⟨0, none, 0, Nat.zero_le _, rfl, rfl, rowP_nil _ _, Below.refl _ _⟩
  case round =>
    obtain ⟨k, oa, oc, hk, rfl, rfl, hp, hbw⟩ := hrel
    by_cases hlt : k < L.length
    · have hrow := HROW.out
      rcases hrow.2 with ⟨h0, h1⟩ | ⟨g, cap, cur, hv, h1, h2, h3, h4, h5, h6⟩
      · exfalso
        have : L.length = 0 := h1
        omega
      · have hla : la = some ⟨g, 0, none⟩ := by injection hv
        subst hla
        have hgl : g < w1.heap.size := (Array.getElem?_eq_some_iff.1 h2).1
        have hblk : wr.heap[g]? = some (.cells cur 89) := by rw [hbw.block g hgl]; exact h2
        have hcell : ∀ j x, L[k].cells[j]? = some x → wr.cell? ⟨g, k * 3 + j, none⟩ = some x := fun j x hx => by
          rw [Lib.cell_of_heap hblk]
          have hj : j < 3 := (List.getElem?_eq_some_iff.1 hx).1
          have := el_cells hlt j x hx
          rw [← h6, List.getElem?_take_of_lt (by omega)] at this
          simpa using this
        have c0 := hcell 0 _ rfl
        have c1 := hcell 1 _ rfl
        have c2 := hcell 2 _ rfl
        rw [Nat.add_zero] at c0
        have htk : L.take (k + 1) = L.take k ++ [L[k]] := List.take_succ_eq_append_getElem hlt
        have hkl : (k : Int) < (L.length : Int) := by omega
        have hlk : (L.take k).length = k := by simp; omega
        have HOWN : Hid (wr.ownsRow w1.heap.size 87 2 (.slice oa k oc) k ((L.take k).flatMap El.stp)) := by
          have h := hp
          unfold RowP at h
          rw [hlk] at h
          exact h
        have HBW := Lib.hid hbw
        have HTK := Lib.hid htk
        have HLK := Lib.hid hlk
        generalize L[k] = x at c0 c1 c2 HTK
        obtain ⟨xk, xi, xs⟩ := x
        have hk256 : k ≤ 256 := by omega
        clear hrow hv h1 h2 h3 h4 h5 h6 hcell hblk hp hbw htk hlk
        go_wp2_with (at_builtin; (refine app_gen (B := w1.heap.size) (xs := (L.take k).flatMap El.stp) (n := k) Tryz.underlying76 info_step rfl (by decide) (by decide) _ rfl _ _ rfl rfl (World.ownsRow.alloc HOWN.out _) _ rfl (st_one _ _) (wr.heap.size + 1) _ (World.size_alloc' _ _) rfl ?c1 ?c2 ?_))
        case c1 => omega
        case c2 =>
          have := HBW.out.size
          simp; omega
        intro v' w5 hr hb5 hg
        have hfin : RowP w1.heap.size v' (L.take (k + 1)) w5 := by
          unfold RowP
          rw [HTK.out, List.length_append, List.flatMap_append, HLK.out]
          exact hr
        obtain ⟨oa2, oc2, rfl⟩ := rowP_slice hfin
        have hlk1 : (L.take (k + 1)).length = k + 1 := by simp; omega
        rw [hlk1] at hfin
        have hb6 := HBW.out
        have HB6 := Lib.hid ((hb6.alloc hb6.size (.cells #[.int .i64 xk, .int .i64 xi, .string xs] 89)).trans hb5)
        have HFIN := Lib.hid hfin
        rw [hlk1]
        clear hr hb5 hg hfin hb6 hlk1
        go_wp2
        go_roundw
        case rel => exact ⟨k + 1, oa2, oc2, hlt, by go_num, rfl, HFIN.out, HB6.out⟩
        case measure => simp [intOf]; omega
    · obtain rfl : k = L.length := by omega
      have HP := Lib.hid hp
      clear hp
      go_wp2
      go_ret2
      have hb := HB1.out
      refine ⟨hb.trans (hbw.mono hb.size), _, rfl, ?_⟩
      have h := HP.out
      rw [List.take_length] at h
      exact row_base h hb.size
end Go.Proofs.YtfnemklcmhilnaaGreatDoor
