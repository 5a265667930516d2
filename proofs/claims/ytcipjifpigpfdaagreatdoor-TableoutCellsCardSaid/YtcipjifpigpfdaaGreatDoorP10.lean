import Derived.WalkMore
import Derived.KernelRfl
import Derived.Test.YtcipjifpigpfdaaGreatDoorP09
import Derived.Test.YtcipjifpigpfdaaGreatDoorP08
import Derived.Test.YtcipjifpigpfdaaGreatDoorP04
/- table.read of a cell without tab and carriage return. -/
namespace Go.Proofs.YtcipjifpigpfdaaGreatDoor
open Go.RowKit
open Go.Lib hiding intOf
/-- the colon and the name of a cell, as the function holds them -/
def coI (from_ : Nat) : Option (Nat × List UInt8) → Int
  | none => -1
  | some (k, _) => ((from_ + k : Nat) : Int)
def coS : Option (Nat × List UInt8) → ByteArray
  | none => ⟨#[]⟩
  | some (_, n) => ⟨n.toArray⟩
theorem rs_nil (k : Nat) (acc : List UInt8) (co : Option (Nat × List UInt8)) : rs [] k acc co = some (acc, co) := by rw [rs]
theorem rs_step {c : UInt8} {l : List UInt8} {k : Nat} {acc : List UInt8} {co : Option (Nat × List UInt8)} {y : List UInt8 × Option (Nat × List UInt8)} (h : rs (c :: l) k acc co = some y) :
    (c = 92 ∧ ∃ d l2 t, l = d :: l2 ∧ unesc d = some t ∧ rs l2 (k + 2) (acc ++ t) co = some y) ∨ (c ≠ 92 ∧ c ≠ 9 ∧ c ≠ 13 ∧ rs l (k + 1) (acc ++ [c]) (if c = 58 ∧ co = none then some (k, acc) else co) = some y) := by
  rw [rs.eq_def] at h
  simp only at h
  split at h
  · rename_i h1
    refine .inl ⟨h1, ?_⟩
    split at h
    · cases h
    · rename_i d l2
      split at h
      · rename_i t ht
        exact ⟨d, l2, t, rfl, ht, h⟩
      · cases h
  · rename_i h1
    split at h
    · cases h
    · rename_i h2
      exact .inr ⟨h1, fun e => h2 (.inl e), fun e => h2 (.inr e), h⟩
theorem unesc_len {d : UInt8} {t : List UInt8} (h : unesc d = some t) : t.length ≤ 1 := by
  unfold unesc at h
  repeat' split at h
  all_goals first | (cases Option.some.inj h; decide) | (cases Option.some.inj h; simp) | cases h
/-- the line that is read: its bytes behind k -/
theorem line_drop {s : ByteArray} {f e k : Nat} (hes : e ≤ s.size) (hk : f + k < e) : (((s.data.toList.drop f).take (e - f)).drop k) = s[f + k]'(by omega) :: (((s.data.toList.drop f).take (e - f)).drop (k + 1)) := by
  have hl : s.data.toList.length = s.size := by simp
  have h1 : k < ((s.data.toList.drop f).take (e - f)).length := by rw [List.length_take, List.length_drop]; omega
  rw [List.drop_eq_getElem_cons h1]
  congr 1
  simp [List.getElem_take, List.getElem_drop]
  rfl
theorem line_end {s : ByteArray} {f e k : Nat} (hk : ¬ f + k < e) : (((s.data.toList.drop f).take (e - f)).drop k) = [] :=
  List.drop_eq_nil_of_le (by rw [List.length_take]; omega)
/-- the world of the walk: the cell, the builder -/
structure RdW (s : ByteArray) (f e : Nat) (B : Nat) (y : List UInt8 × Option (Nat × List UInt8)) (w : World) (k : Nat) (acc : List UInt8) (co : Option (Nat × List UInt8)) (wr : World) : Prop where
  le : f + k ≤ e
  len : acc.length ≤ k
  run : rs (((s.data.toList.drop f).take (e - f)).drop k) k acc co = some y
  bld : Lib.IsBuilderF 54 5 (B + 2) (B + 2) (Lib.byteCells acc) wr
  c : wr.heap[B + 1]? = some (.cells #[.int .i64 f, .int .i64 e, .int .i64 (coI f co), .string (coS co), .string ⟨#[]⟩] 110)
  r : wr.heap[B]? = some (.cells #[.int .i64 0, .int .i64 0, .int .i64 0, .string ⟨#[]⟩, .string ⟨#[]⟩] 110)
  below : Below B w wr
theorem bldF_keep {T e : TypeId} {B b : Nat} {bs : List Value} {w w' : World} (h : Lib.IsBuilderF T e B b bs w) (hk : ∀ k, B ≤ k → k < w.heap.size → w'.heap[k]? = w.heap[k]?) : Lib.IsBuilderF T e B b bs w' := by
  have one : ∀ p, Lib.BuilderAtF T e B b p bs w → Lib.BuilderAtF T e B b p bs w' := by
    rintro p ⟨h1, v, h2, ⟨h3, h4⟩, h5⟩
    refine ⟨h1, v, by rw [hk b h1 (Array.getElem?_eq_some_iff.1 h2).1]; exact h2, ⟨h3, ?_⟩, h5⟩
    rcases h4 with h4 | ⟨g, cap, cur, fz, q1, q2, q3, q4⟩
    · exact .inl h4
    · exact .inr ⟨g, cap, cur, fz, q1, q2, by rw [hk g q2 (Array.getElem?_eq_some_iff.1 q3).1]; exact q3, q4⟩
  rcases h with h | h
  · exact .inl (one _ h)
  · exact .inr (one _ h)
theorem bldF_lt {T e : TypeId} {B b : Nat} {bs : List Value} {w : World} (h : Lib.IsBuilderF T e B b bs w) : b < w.heap.size := by
  rcases h with h | h
  · exact h.lt
  · exact h.lt
theorem set_cells {w : World} {b i : Nat} {cs : Array Value} {T : TypeId} {fr : Nat × Nat} (hb : w.heap[b]? = some (.cells cs T fr)) (v : Value) : (w.setCell ⟨b, i, none⟩ v).heap[b]? = some (.cells (cs.setIfInBounds i v) T fr) := by
  simp [World.setCell, Array.getElem?_modify, hb]
def rdB (s : ByteArray) (f e : Nat) : List UInt8 := (s.data.toList.drop f).take (e - f)
/-- behind a call that leaves alone what lies below the builder -/
theorem RdW.step {s : ByteArray} {f e B : Nat} {y : List UInt8 × Option (Nat × List UInt8)} {w wr w' : World} {k k' : Nat} {acc acc' : List UInt8} {co : Option (Nat × List UInt8)} (h : RdW s f e B y w k acc co wr) (hb : Below (B + 2) wr w')
    (hbl : Lib.IsBuilderF 54 5 (B + 2) (B + 2) (Lib.byteCells acc') w') (h1 : f + k' ≤ e) (h2 : acc'.length ≤ k') (h3 : rs (((s.data.toList.drop f).take (e - f)).drop k') k' acc' co = some y) : RdW s f e B y w k' acc' co w' :=
  ⟨h1, h2, h3, hbl, by rw [hb.block _ (by omega)]; exact h.c, by rw [hb.block _ (by omega)]; exact h.r, h.below.trans (hb.mono (by omega))⟩
/-- the colon and the name, stored -/
theorem RdW.colon {s : ByteArray} {f e B : Nat} {y : List UInt8 × Option (Nat × List UInt8)} {w wr : World} {k : Nat} {acc : List UInt8} (h : RdW s f e B y w k acc none wr) :
    Lib.IsBuilderF 54 5 (B + 2) (B + 2) (Lib.byteCells acc) ((wr.setCell ⟨B + 1, 2, none⟩ (.int .i64 ((f + k : Nat) : Int))).setCell ⟨B + 1, 3, none⟩ (.string ⟨acc.toArray⟩)) ∧
    ((wr.setCell ⟨B + 1, 2, none⟩ (.int .i64 ((f + k : Nat) : Int))).setCell ⟨B + 1, 3, none⟩ (.string ⟨acc.toArray⟩)).heap[B + 1]? = some (.cells #[.int .i64 f, .int .i64 e, .int .i64 (coI f (some (k, acc))), .string (coS (some (k, acc))), .string ⟨#[]⟩] 110) ∧
    ((wr.setCell ⟨B + 1, 2, none⟩ (.int .i64 ((f + k : Nat) : Int))).setCell ⟨B + 1, 3, none⟩ (.string ⟨acc.toArray⟩)).heap[B]? = some (.cells #[.int .i64 0, .int .i64 0, .int .i64 0, .string ⟨#[]⟩, .string ⟨#[]⟩] 110) ∧
    Below B w ((wr.setCell ⟨B + 1, 2, none⟩ (.int .i64 ((f + k : Nat) : Int))).setCell ⟨B + 1, 3, none⟩ (.string ⟨acc.toArray⟩)) := by
  refine ⟨bldF_keep h.bld (fun j hj _ => ?_), ?_, ?_, (h.below.setCell (p := ⟨B + 1, 2, none⟩) (Nat.le_succ _) _).setCell (p := ⟨B + 1, 3, none⟩) (Nat.le_succ _) _⟩
  · rw [Below.heap_setCell _ _ _ _ (by show j ≠ B + 1; omega), Below.heap_setCell _ _ _ _ (by show j ≠ B + 1; omega)]
  · rw [set_cells (set_cells h.c _) _]; rfl
  · rw [Below.heap_setCell _ _ _ _ (by show B ≠ B + 1; omega), Below.heap_setCell _ _ _ _ (by show B ≠ B + 1; omega)]
    exact h.r
theorem rd_start (s : ByteArray) (f e : Nat) (w : World) (y : List UInt8 × Option (Nat × List UInt8)) (hfe : f ≤ e) (h : rs ((s.data.toList.drop f).take (e - f)) 0 [] none = some y) :
    RdW s f e w.heap.size y w 0 [] none (((w.alloc (.cells #[.int .i64 0, .int .i64 0, .int .i64 0, .string ⟨#[]⟩, .string ⟨#[]⟩] 110)).alloc (.cells #[.int .i64 f, .int .i64 e, .int .i64 (-1), .string ⟨#[]⟩, .string ⟨#[]⟩] 110)).alloc (.cells #[.pointer none, .slice none 0 0] 54)) := by
  refine ⟨by omega, Nat.le_refl _, h, ?_, ?_, ?_, ((below_new _ _).alloc (by rw [size_new]; omega) _).alloc (by rw [size_new, size_new]; omega) _⟩
  · have h1 := Lib.fresh_isBuilder 54 5 ((w.alloc (.cells #[.int .i64 0, .int .i64 0, .int .i64 0, .string ⟨#[]⟩, .string ⟨#[]⟩] 110)).alloc (.cells #[.int .i64 f, .int .i64 e, .int .i64 (-1), .string ⟨#[]⟩, .string ⟨#[]⟩] 110))
    rw [size_new, size_new] at h1
    exact Lib.IsBuilderF.of h1
  · rw [Lib.alloc_old _ _ _ (by rw [size_new, size_new]; omega)]
    have h1 := heap_alloc_new (w.alloc (.cells #[.int .i64 0, .int .i64 0, .int .i64 0, .string ⟨#[]⟩, .string ⟨#[]⟩] 110)) (.cells #[.int .i64 f, .int .i64 e, .int .i64 (-1), .string ⟨#[]⟩, .string ⟨#[]⟩] 110)
    rw [size_new] at h1
    exact h1
  · rw [Lib.alloc_old _ _ _ (by rw [size_new, size_new]; omega), Lib.alloc_old _ _ _ (by rw [size_new]; omega)]
    exact heap_alloc_new w _
set_option maxHeartbeats 8000000 in
set_option maxRecDepth 100000 in
theorem read_any (s : ByteArray) (f e : Nat) (w : World) (t : List UInt8) (co : Option (Nat × List UInt8)) (hs : s.size ≤ 1000000) (hfe : f ≤ e) (hes : e ≤ s.size)
    (h : rs ((s.data.toList.drop f).take (e - f)) 0 [] none = some (t, co)) :
    Calls Tryz.prog 53 #[.string s, .int .i64 f, .int .i64 e] w fun r w' => r = .returned (.tuple #[.agg #[.int .i64 f, .int .i64 e, .int .i64 (coI f co), .string (coS co), .string ⟨t.toArray⟩], .int .i64 (-1)]) ∧ Below w.heap.size w w' := by
  have hfi : (f : Int) ≤ (e : Int) := by omega
  have hei : (e : Int) ≤ (s.size : Int) := by omega
  have hsi : (s.size : Int) ≤ 1000000 := by omega
  have H := PLift.up (And.intro hs (And.intro hfe (And.intro hes h)))
  have HST := PLift.up (rd_start s f e w (t, co) hfe h)
  clear hs hfe hes h
  go_enter Tryz.func53, Tryz.ntmps53
  go_wp2
  go_step3
  go_wp2
  go_step3
  go_wp2
  go_loopw [10] (fun iv wr => ∃ (k : Nat) (acc : List UInt8) (co' : Option (Nat × List UInt8)), iv = .int .i64 ((f + k : Nat) : Int) ∧ RdW s f e w.heap.size (t, co) w k acc co' wr) (fun iv _ => e - (intOf iv).toNat)
  case atStart => exact ⟨0, [], none, rfl, HST.down⟩
  case round =>
    obtain ⟨k, acc, co', rfl, hw⟩ := hrel
    obtain ⟨q, hq⟩ : ∃ q, f + k = q := ⟨_, rfl⟩
    rw [hq]
    have HW := PLift.up hw
    have HQ := PLift.up hq
    have cb0 : wr.cell? ⟨w.heap.size + 1, 2, none⟩ = some (.int .i64 (coI f co')) := (Lib.cell_of_heap hw.c 2).trans rfl
    have hzz := bldF_lt hw.bld
    have hlt1 : w.heap.size + 1 < wr.heap.size := by omega
    clear hw hq
    by_cases hqe : q < e
    · have hqz : q < s.size := by have := H.down; omega
      have hqi : (q : Int) < (e : Int) := by omega
      have hqs : (q : Int) < (s.size : Int) := by omega
      have hq0 : (0 : Int) ≤ (q : Int) := by omega
      have hld := line_drop (s := s) (f := f) (e := e) (k := k) H.down.2.2.1 (by rw [HQ.down]; exact hqe)
      have hrun := HW.down.run
      rw [hld] at hrun
      have HRS := PLift.up (rs_step hrun)
      clear hld hrun
      have hsq : s[f + k]'(by have := H.down; have := HQ.down; omega) = s[q]'hqz := by congr 1; exact HQ.down
      rw [hsq] at HRS
      have HZ := PLift.up hzz
      rcases HRS.down with ⟨h92, d, l2, tt, hl2, hun, hrs⟩ | ⟨n92, n9, n13, hrs⟩
      · have hq1 : q + 1 < e := by
          refine Nat.lt_of_not_le fun hle => ?_
          rw [line_end (k := k + 1) (by have := HQ.down; omega)] at hl2
          cases hl2
        have hld1 := line_drop (s := s) (f := f) (e := e) (k := k + 1) H.down.2.2.1 (by have := HQ.down; omega)
        have hd1 := hl2.symm.trans hld1
        have hdd := (List.cons.inj hd1).1
        have hll := (List.cons.inj hd1).2
        obtain ⟨p1, hp1⟩ : ∃ p1, q + 1 = p1 := ⟨_, rfl⟩
        have hpz : p1 < s.size := by have := H.down; omega
        have hdp : d = s[p1]'hpz := by rw [hdd]; congr 1; have := HQ.down; omega
        have HE := PLift.up (escape_any d tt hun wr)
        have htl := unesc_len hun
        have hx : (s[q]'hqz).toNat = 92 := by rw [h92]; rfl
        obtain ⟨y, hy⟩ : ∃ y, (s[p1]'hpz).toNat = y := ⟨_, rfl⟩
        rw [hdp, hy] at HE
        rw [hll] at hrs
        have HK := PLift.up (And.intro hrs (And.intro htl (And.intro hp1 hq1)))
        have hpi : (q : Int) + 1 = (p1 : Int) := by omega
        have hps : (p1 : Int) < (s.size : Int) := by have := H.down; omega
        have hpe : ((p1 : Int) == (e : Int)) = false := by simp; omega
        have hp0 : (0 : Int) ≤ (p1 : Int) := by omega
        clear h92 hl2 hun hrs hq1 hld1 hd1 hdd hll hdp htl hp1 hqe HRS hsq hlt1 hzz
        go_wp2_with (first
          | (go_at_call 93; refine HE.down.mono ?_; rintro r w1 ⟨rfl, hb1⟩; have HBL := PLift.up (bldF_keep HW.down.bld (fun j _ hj => hb1.block j hj)); have HB1 := PLift.up (hb1.mono (show w.heap.size + 2 ≤ wr.heap.size from Nat.le_of_lt HZ.down)); have HWS := PLift.up (bwriteF (w.heap.size + 2) (w.heap.size + 2) acc ⟨tt.toArray⟩ w1 HBL.down (by have h1 := HW.down.len; have h2 := HW.down.le; have h3 := H.down; have h4 : (⟨tt.toArray⟩ : ByteArray).size = tt.length := rfl; have h5 := HK.down.2.1; omega) (Nat.le_trans (Nat.le_of_lt HZ.down) hb1.size)); clear hb1)
          | (go_at_call 17; refine HWS.down.mono ?_; rintro r w2 ⟨rfl, hbl2, hb2⟩; have HBL2 := PLift.up hbl2; have HB2 := PLift.up (HB1.down.trans hb2); clear hbl2 hb2))
        go_roundw
        case rel => exact ⟨k + 2, acc ++ tt, co', by have h1 := HQ.down; have h2 := HK.down; go_num, HW.down.step HB2.down HBL2.down (by have h1 := HQ.down; have h2 := HK.down; omega) (by rw [List.length_append]; have := HW.down.len; have := HK.down.2.1; omega) HK.down.1⟩
        case measure => simp [intOf]; have h2 := HK.down; omega
      · obtain ⟨x, hx⟩ : ∃ x, (s[q]'hqz).toNat = x := ⟨_, rfl⟩
        have hx256 := UInt8.toNat_lt (s[q]'hqz)
        rw [hx] at hx256
        have hcx : ∀ n : Nat, n < 256 → ¬ s[q]'hqz = UInt8.ofNat n → ¬ (x : Int) = (n : Int) := fun n hn hne e0 => hne (by
          have e1 : x = n := by omega
          rw [← e1, ← hx]; simp)
        have x92 := hcx 92 (by decide) n92
        have x9 := hcx 9 (by decide) n9
        have x13 := hcx 13 (by decide) n13
        have HWB := PLift.up (fun W (hb : Lib.IsBuilderF 54 5 (w.heap.size + 2) (w.heap.size + 2) (Lib.byteCells acc) W) (hs : w.heap.size + 2 ≤ W.heap.size) => bbyteF (w.heap.size + 2) (w.heap.size + 2) acc (s[q]'hqz) W hb (by have h1 := HW.down.len; have h2 := HW.down.le; have h3 := H.down; omega) hs)
        rw [hx] at HWB
        have HK := PLift.up (And.intro hrs (And.intro hx hqe))
        have HBY := PLift.up hx256
        clear hrs hqe hx256 n92 n9 n13 hcx HRS hsq hzz
        by_cases h58 : x = 58
        · have hc58 : s[q]'hqz = 58 := by
            have h1 : UInt8.ofNat (s[q]'hqz).toNat = s[q]'hqz := by simp
            rw [← h1, hx, h58]; rfl
          subst h58
          cases co' with
          | none =>
            have cb1 : wr.cell? ⟨w.heap.size + 1, 2, none⟩ = some (.int .i64 (-1)) := cb0
            have hrun2 := HK.down.1
            rw [if_pos ⟨hc58, rfl⟩] at hrun2
            have HR2 := PLift.up hrun2
            have HSTR := PLift.up (bstringF (w.heap.size + 2) (w.heap.size + 2) acc wr HW.down.bld (Nat.le_of_lt HZ.down))
            clear cb0 hrun2 hc58 x92 x9 x13
            go_wp2_with (first
              | (go_at_call 23; refine HSTR.down.mono ?_; rintro r w1 ⟨rfl, hbl1, hb1⟩; have HW1 := PLift.up (HW.down.step hb1 hbl1 HW.down.le HW.down.len HW.down.run); have f12 : w1.frozen? ⟨w.heap.size + 1, 2, none⟩ = false := Lib.frozen_of_heap HW1.down.c 2; have f13 : w1.frozen? ⟨w.heap.size + 1, 3, none⟩ = false := Lib.frozen_of_heap HW1.down.c 3; have c12 : w1.cell? ⟨w.heap.size + 1, 2, none⟩ = some (.int .i64 (-1)) := (Lib.cell_of_heap HW1.down.c 2).trans rfl; have c13 : w1.cell? ⟨w.heap.size + 1, 3, none⟩ = some (.string ⟨#[]⟩) := (Lib.cell_of_heap HW1.down.c 3).trans rfl; have HC := PLift.up HW1.down.colon; have HSZ := PLift.up hb1.size; rw [HQ.down] at HC; have HWB2 := PLift.up (HWB.down _ HC.down.1 (by simp only [World.size_setCell]; have h1 := HZ.down; have h2 := HSZ.down; omega)); clear hb1 hbl1)
              | (go_at_call 79; refine HWB2.down.mono ?_; rintro r w2 ⟨rfl, hbl2, hb2⟩; have HBL2 := PLift.up hbl2; have HB2 := PLift.up hb2; clear hbl2 hb2))
            go_roundw
            case rel => exact ⟨k + 1, acc ++ [s[q]'hqz], some (k, acc), by have h1 := HQ.down; go_num, ⟨by have h1 := HQ.down; have h2 := HK.down.2.2; omega, by rw [List.length_append, List.length_singleton]; have := HW.down.len; omega, HR2.down, HBL2.down, by rw [HB2.down.block _ (by omega)]; exact HC.down.2.1, by rw [HB2.down.block _ (by omega)]; exact HC.down.2.2.1, HC.down.2.2.2.trans (HB2.down.mono (by omega))⟩⟩
            case measure => simp [intOf]; have h2 := HK.down.2.2; omega
          | some m =>
            obtain ⟨m1, m2⟩ := m
            have cb1 : wr.cell? ⟨w.heap.size + 1, 2, none⟩ = some (.int .i64 ((f + m1 : Nat) : Int)) := cb0
            have hm0 : ¬ ((f + m1 : Nat) : Int) < 0 := by omega
            obtain ⟨m3, hm3⟩ : ∃ m3, f + m1 = m3 := ⟨_, rfl⟩
            rw [hm3] at cb1 hm0
            have hrun2 := HK.down.1
            rw [if_neg (by rintro ⟨-, e0⟩; cases e0)] at hrun2
            have HR2 := PLift.up hrun2
            have HWB2 := PLift.up (HWB.down wr HW.down.bld (Nat.le_of_lt HZ.down))
            clear cb0 hrun2 hc58 hm3 x92 x9 x13
            go_wp2_with (go_at_call 79; refine HWB2.down.mono ?_; rintro r w2 ⟨rfl, hbl2, hb2⟩; have HBL2 := PLift.up hbl2; have HB2 := PLift.up hb2; clear hbl2 hb2)
            go_roundw
            case rel => exact ⟨k + 1, acc ++ [s[q]'hqz], some (m1, m2), by have h1 := HQ.down; go_num, HW.down.step HB2.down HBL2.down (by have h1 := HQ.down; have h2 := HK.down.2.2; omega) (by rw [List.length_append, List.length_singleton]; have := HW.down.len; omega) HR2.down⟩
            case measure => simp [intOf]; have h2 := HK.down.2.2; omega
        · have x58 : ¬ (x : Int) = 58 := by omega
          have hc58 : ¬ s[q]'hqz = 58 := fun e0 => h58 (by rw [← hx, e0]; rfl)
          have hrun2 := HK.down.1
          rw [if_neg (fun e0 => hc58 e0.1)] at hrun2
          have HR2 := PLift.up hrun2
          have HWB2 := PLift.up (HWB.down wr HW.down.bld (Nat.le_of_lt HZ.down))
          clear cb0 hrun2 hc58 h58
          go_wp2_with (go_at_call 79; refine HWB2.down.mono ?_; rintro r w2 ⟨rfl, hbl2, hb2⟩; have HBL2 := PLift.up hbl2; have HB2 := PLift.up hb2; clear hbl2 hb2)
          go_roundw
          case rel => exact ⟨k + 1, acc ++ [s[q]'hqz], co', by have h1 := HQ.down; go_num, HW.down.step HB2.down HBL2.down (by have h1 := HQ.down; have h2 := HK.down.2.2; omega) (by rw [List.length_append, List.length_singleton]; have := HW.down.len; omega) HR2.down⟩
          case measure => simp [intOf]; have h2 := HK.down.2.2; omega
    · have hqe2 : q = e := by have := HW.down.le; have := HQ.down; omega
      subst hqe2
      have hrun := HW.down.run
      rw [line_end (by rw [HQ.down]; exact hqe), rs_nil] at hrun
      have e1 := congrArg Prod.fst (Option.some.inj hrun)
      have e2 := congrArg Prod.snd (Option.some.inj hrun)
      simp only at e1 e2
      subst e1 e2
      have HSTR := PLift.up (bstringF (w.heap.size + 2) (w.heap.size + 2) acc wr HW.down.bld (Nat.le_of_lt hzz))
      have hqq : ¬ (q : Int) < (q : Int) := by omega
      clear cb0 hrun hqe hzz hlt1
      go_wp2_with (go_at_call 23; refine HSTR.down.mono ?_; rintro r w1 ⟨rfl, hbl1, hb1⟩; have HW1 := PLift.up (HW.down.step hb1 hbl1 HW.down.le HW.down.len HW.down.run); have f14 : w1.frozen? ⟨w.heap.size + 1, 4, none⟩ = false := Lib.frozen_of_heap HW1.down.c 4; have c10 : w1.cell? ⟨w.heap.size + 1, 0, none⟩ = some (.int .i64 f) := (Lib.cell_of_heap HW1.down.c 0).trans rfl; have c11 : w1.cell? ⟨w.heap.size + 1, 1, none⟩ = some (.int .i64 q) := (Lib.cell_of_heap HW1.down.c 1).trans rfl; have c12 : w1.cell? ⟨w.heap.size + 1, 2, none⟩ = some (.int .i64 (coI f co')) := (Lib.cell_of_heap HW1.down.c 2).trans rfl; have c13 : w1.cell? ⟨w.heap.size + 1, 3, none⟩ = some (.string (coS co')) := (Lib.cell_of_heap HW1.down.c 3).trans rfl; have c14 : w1.cell? ⟨w.heap.size + 1, 4, none⟩ = some (.string ⟨#[]⟩) := (Lib.cell_of_heap HW1.down.c 4).trans rfl; have d0 : w1.cell? ⟨w.heap.size, 0, none⟩ = some (.int .i64 0) := (Lib.cell_of_heap HW1.down.r 0).trans rfl; have g0 : w1.frozen? ⟨w.heap.size, 0, none⟩ = false := Lib.frozen_of_heap HW1.down.r 0; have d1 : w1.cell? ⟨w.heap.size, 1, none⟩ = some (.int .i64 0) := (Lib.cell_of_heap HW1.down.r 1).trans rfl; have g1 : w1.frozen? ⟨w.heap.size, 1, none⟩ = false := Lib.frozen_of_heap HW1.down.r 1; have d2 : w1.cell? ⟨w.heap.size, 2, none⟩ = some (.int .i64 0) := (Lib.cell_of_heap HW1.down.r 2).trans rfl; have g2 : w1.frozen? ⟨w.heap.size, 2, none⟩ = false := Lib.frozen_of_heap HW1.down.r 2; have d3 : w1.cell? ⟨w.heap.size, 3, none⟩ = some (.string ⟨#[]⟩) := (Lib.cell_of_heap HW1.down.r 3).trans rfl; have g3 : w1.frozen? ⟨w.heap.size, 3, none⟩ = false := Lib.frozen_of_heap HW1.down.r 3; have d4 : w1.cell? ⟨w.heap.size, 4, none⟩ = some (.string ⟨#[]⟩) := (Lib.cell_of_heap HW1.down.r 4).trans rfl; have g4 : w1.frozen? ⟨w.heap.size, 4, none⟩ = false := Lib.frozen_of_heap HW1.down.r 4; have hl1 : w.heap.size + 1 < w1.heap.size := (Array.getElem?_eq_some_iff.1 HW1.down.c).1; have hl0 : w.heap.size < w1.heap.size := (Array.getElem?_eq_some_iff.1 HW1.down.r).1; have HSZ := PLift.up hb1; clear hb1 hbl1)
      rw [Exit.noGoto_ret]
      refine bodyPost_ret (v := .tuple #[.agg #[.int .i64 f, .int .i64 q, .int .i64 (coI f co'), .string (coS co'), .string ⟨acc.toArray⟩], .int .i64 (-1)]) (by simp only [results, Tryz.results53]; go_simp) rfl ?_
      exact ⟨rfl, (((((((HW1.down.below.setCell (p := ⟨w.heap.size + 1, 4, none⟩) (Nat.le_succ _) _).setCell (p := ⟨w.heap.size, 0, none⟩) (Nat.le_refl _) _).setCell (p := ⟨w.heap.size, 1, none⟩) (Nat.le_refl _) _).setCell (p := ⟨w.heap.size, 2, none⟩) (Nat.le_refl _) _).setCell (p := ⟨w.heap.size, 3, none⟩) (Nat.le_refl _) _).setCell (p := ⟨w.heap.size, 4, none⟩) (Nat.le_refl _) _))⟩
end Go.Proofs.YtcipjifpigpfdaaGreatDoor
/- rosettaref10.size of small numbers, by evaluation. -/
namespace Go.Proofs.YtcipjifpigpfdaaGreatDoor
open Go.Ev
open Go.RowKit
theorem str_run {P : Program} {Ψ : SymEnv} {f : FuncId} {args args' : Array Value} {σ σ' : St} {t : ByteArray} (hs : CallSound Ψ P f args σ (.ret (.string t) σ')) {ρ : Ren Ψ} {w : World} (ha : VRs ρ args args') (hr : Rel ρ σ w) (hro : ∀ id o, σ.heap.get id = some o → o.own = false) :
    Calls P f args' w fun e w' => e = .returned (.string t) ∧ Below w.heap.size w w' := by
  refine (hs ρ args' w ha hr).mono ?_
  rintro e w' ⟨ρ', v', rfl, hv, hr', hsi⟩
  refine ⟨?_, hsi.keep.os, hsi.keep.tape, hsi.keep.output, hsi.keep.size, fun k hk => hsi.keep.old k hk fun id o h ho => by rw [hro id o h] at ho; cases ho⟩
  cases hv
  rfl
def sizeOk (P : Program) (n : Nat) : Bool := match evRun P sums 400 100 67 #[.int .i64 n] (startS 100) with
  | some (.ret (.string t) _) => Nat.ble t.data.toList.length 10
  | _ => false
set_option maxRecDepth 100000 in
theorem size_all : (List.range 101).all (sizeOk Tryz.prog) = true := by kernel_rfl
theorem size_ref (n : Nat) (hn : n ≤ 100) : ∃ t : ByteArray, t.size ≤ 10 ∧ ∀ w, Calls Tryz.prog 67 #[.int .i64 n] w fun e w' => e = .returned (.string t) ∧ Below w.heap.size w w' := by
  have h := List.all_eq_true.1 size_all n (by simp; omega)
  unfold sizeOk at h
  split at h
  · rename_i t σ' hr
    refine ⟨t, by have := Nat.le_of_ble_eq_true h; simpa using this, fun w => ?_⟩
    refine str_run (Ψ := ⟨fun _ => none, Tryz.prog⟩) (evE rfl 100 hr) (ρ := startR 100) (VRs.refl_of fun v hv => ?_) (startRel 100 w) (fun id o ho => by cases ho)
    simp only [List.mem_cons, List.not_mem_nil, or_false] at hv
    subst hv
    exact .int _ _
  · cases h
end Go.Proofs.YtcipjifpigpfdaaGreatDoor
/- The text of the table of one row, as bytes: its two lines, and what stands in them. No program in sight. -/
namespace Go.Proofs.YtcipjifpigpfdaaGreatDoor
open Go.RowKit
open Go.Lib hiding intOf
theorem index_at : ∀ (l r : List UInt8) (c : UInt8), (∀ b ∈ l, b ≠ c) → Lib.indexByte (l ++ c :: r) c = l.length
  | [], r, c, _ => by simp [Lib.indexByte]
  | b :: l, r, c, h => by
    rw [List.cons_append]
    unfold Lib.indexByte
    rw [if_neg (by simpa using h b (List.mem_cons_self ..)), index_at l r c (fun d hd => h d (List.mem_cons_of_mem _ hd)), if_neg (by simp)]
    simp
theorem count_none (l : List UInt8) (c : UInt8) (h : ∀ b ∈ l, b ≠ c) : Lib.countByte l c = 0 := by
  unfold Lib.countByte
  rw [List.count_eq_zero]
  intro hm
  exact h c hm rfl
/-- the two lines -/
def headL (ky : ByteArray) : List UInt8 := nameV ky.data.toList ++ [58, 116, 101, 120, 116]
def srcB (ky z : ByteArray) : ByteArray := ⟨(textT (nmB ky) (czB z) 1).toArray⟩
theorem headT_list (ky : ByteArray) : (headT (nmB ky)).data.toList = headL ky := by
  unfold headT nmB headL
  simp [ByteArray.data_append]
theorem src_list (ky z : ByteArray) : (srcB ky z).data.toList = headL ky ++ 10 :: (cellV z.data.toList ++ [10]) := by
  unfold srcB
  simp only [textT, headT_list]
  unfold czB
  simp
theorem headL_ctl (ky : ByteArray) : ∀ b ∈ headL ky, b ≠ 9 ∧ b ≠ 10 ∧ b ≠ 13 := by
  intro b hb
  unfold headL at hb
  rcases List.mem_append.1 hb with h | h
  · exact nameV_ctl _ b h
  · clear hb
    revert b
    decide
theorem nameV_pos (s : List UInt8) : 0 < (nameV s).length := by
  obtain ⟨d, r, h, -⟩ := nameV_head s
  rw [h]; simp
theorem cellV_pos (s : List UInt8) : 0 < (cellV s).length := by
  obtain ⟨d, r, h, -⟩ := cellV_head s
  rw [h]; simp
theorem headL_len (ky : ByteArray) : (headL ky).length = (nameV ky.data.toList).length + 5 := by unfold headL; simp
theorem src_size (ky z : ByteArray) : (srcB ky z).size = (headL ky).length + 1 + (cellV z.data.toList).length + 1 := by
  have h := congrArg List.length (src_list ky z)
  have h2 : (srcB ky z).data.toList.length = (srcB ky z).size := by simp
  rw [h2] at h
  simp only [List.length_append, List.length_cons, List.length_nil] at h
  omega
theorem src_small (ky z : ByteArray) (h1 : ky.size ≤ 100) (h2 : z.size ≤ 100) : (srcB ky z).size ≤ 1000 := by
  have a1 := nameV_len ky.data.toList
  have a2 := cellV_len z.data.toList
  have b1 : ky.data.toList.length = ky.size := by simp
  have b2 : z.data.toList.length = z.size := by simp
  rw [src_size, headL_len]
  omega
theorem src_index0 (ky z : ByteArray) : Lib.indexByte (srcB ky z).data.toList 10 = (headL ky).length := by
  rw [src_list]
  exact index_at _ _ _ fun b hb => (headL_ctl ky b hb).2.1
theorem src_drop (ky z : ByteArray) : (srcB ky z).data.toList.drop ((headL ky).length + 1) = cellV z.data.toList ++ [10] := by
  rw [src_list]
  rw [show (headL ky).length + 1 = (headL ky ++ [10]).length by simp, show headL ky ++ 10 :: (cellV z.data.toList ++ [10]) = (headL ky ++ [10]) ++ (cellV z.data.toList ++ [10]) by simp]
  exact List.drop_left
theorem src_index1 (ky z : ByteArray) : Lib.indexByte ((srcB ky z).data.toList.drop ((headL ky).length + 1)) 10 = (cellV z.data.toList).length := by
  rw [src_drop]
  exact index_at _ [] _ fun b hb => (cellV_ctl _ b hb).2.1
theorem src_take0 (ky z : ByteArray) : (srcB ky z).data.toList.take (headL ky).length = headL ky := by
  rw [src_list]
  exact List.take_left
theorem src_take1 (ky z : ByteArray) : ((srcB ky z).data.toList.drop ((headL ky).length + 1)).take (cellV z.data.toList).length = cellV z.data.toList := by
  rw [src_drop]
  exact List.take_left
theorem ext_drop_take (s : ByteArray) (a b : Nat) : (s.extract a b).data.toList = (s.data.toList.drop a).take (b - a) := by
  simp [ByteArray.data_extract, List.extract_eq_take_drop]
theorem src_line0 (ky z : ByteArray) : ((srcB ky z).extract 0 (headL ky).length).data.toList = headL ky := by
  rw [ext_drop_take, List.drop_zero, Nat.sub_zero, src_take0]
theorem src_line1 (ky z : ByteArray) : ((srcB ky z).extract ((headL ky).length + 1) ((headL ky).length + 1 + (cellV z.data.toList).length)).data.toList = cellV z.data.toList := by
  rw [ext_drop_take, Nat.add_sub_cancel_left, src_take1]
theorem src_kind (ky z : ByteArray) : (srcB ky z).extract ((nameV ky.data.toList).length + 1) (headL ky).length = ⟨#[116, 101, 120, 116]⟩ := by
  apply ext_list
  rw [ext_drop_take, src_list, headL_len]
  unfold headL
  rw [show (nameV ky.data.toList).length + 1 = (nameV ky.data.toList ++ [58]).length by simp, show (nameV ky.data.toList ++ [58, 116, 101, 120, 116]) ++ 10 :: (cellV z.data.toList ++ [10]) = (nameV ky.data.toList ++ [58]) ++ ([116, 101, 120, 116] ++ 10 :: (cellV z.data.toList ++ [10])) by simp, List.drop_left]
  simp
theorem src_chk (ky z : ByteArray) (c1 : chk ky.data.toList = true) (c2 : chk z.data.toList = true) : cp (srcB ky z).data.toList = none := by
  apply cp_chk
  rw [src_list]
  unfold headL
  rw [List.append_assoc, chk_name _ _ c1]
  have h1 : ([58, 116, 101, 120, 116] : List UInt8) ++ 10 :: (cellV z.data.toList ++ [10]) = [58, 116, 101, 120, 116, 10] ++ (cellV z.data.toList ++ [10]) := rfl
  rw [h1, chk_ascii _ _ (by decide), chk_cell _ _ c2, chk_low (by decide)]
  unfold chk
  rfl
theorem rs_line0 (ky : ByteArray) : rs (headL ky) 0 [] none = some (ky.data.toList ++ [58, 116, 101, 120, 116], some ((nameV ky.data.toList).length, ky.data.toList)) := rs_head _
theorem head_first (ky : ByteArray) : ∃ d r, headL ky = d :: r ∧ d ≠ 35 := by
  obtain ⟨d, r, h, hd⟩ := nameV_head ky.data.toList
  exact ⟨d, r ++ [58, 116, 101, 120, 116], by unfold headL; rw [h]; rfl, hd⟩
theorem head_brackets (ky : ByteArray) : headL ky ≠ [91, 93] := by
  intro h
  have := congrArg List.length h
  rw [headL_len] at this
  simp at this
end Go.Proofs.YtcipjifpigpfdaaGreatDoor
