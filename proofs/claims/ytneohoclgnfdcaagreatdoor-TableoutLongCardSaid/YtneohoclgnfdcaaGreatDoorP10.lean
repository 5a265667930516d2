import Derived.Test.YtneohoclgnfdcaaGreatDoorP09
/- TableoutLong: its walk, up to its loop's regions. -/
namespace Go.Proofs.YtneohoclgnfdcaaGreatDoor
open Go.RowKit Go.Shelf Go.Ev
open Go.Lib hiding intOf
attribute [local go_sem] Oper.semAt_some Oper.semAt_none wideR_round wideR_depth wideR_fn
def zerosW (m : Nat) : ByteArray := ⟨(List.replicate m (0 : UInt8)).toArray⟩
theorem zerosW_size (m : Nat) : (zerosW m).size = m := by simp [zerosW, ByteArray.size]
def zrowW (m : Nat) : Obj := .cells (Array.replicate m (.int .u8 0)) 5
theorem info_u8W : (Tryz.prog.info? 5).map (fun i => (i.zero, i.size, i.bytes)) = some (some (.int .u8 0), 1, 1) := by kernel_rfl
theorem zero_makeW (m : Nat) (hm : m ≤ 1000000) (wx : World) : (Instr.makeSlice 37 (.int .i64 (m : Int)) (.int .i64 (m : Int))).run Tryz.prog wx = .ok (.slice (some ⟨wx.heap.size, 0, none⟩) m m) (wx.alloc (zrowW m)) := by
  rw [run_make_row' 37 5 (.int .u8 0) 1 Tryz.underlying37 info_u8W rfl .i64 .i64 m (by omega) (by omega) wx, made_rep]; rfl
theorem zero_strW (m q : Nat) (wx : World) (hq : wx.heap[q]? = some (zrowW m)) : (convert 37 9 (.slice (some ⟨q, 0, none⟩) m m)).run Tryz.prog wx = .ok (.string (zerosW m)) wx := by
  have h := run_convert_bytes_back (P := Tryz.prog) wx 37 9 5 ⟨q, 0, none⟩ m (List.replicate m 0) Tryz.underlying37 Tryz.underlying5 Tryz.underlying9 (by
    intro j hj
    have : (⟨q, 0, none⟩ : Addr).add j = ⟨q, j, none⟩ := by unfold Addr.add; split <;> simp_all
    rw [this, Lib.cell_of_heap hq]
    simp at hj
    simp [hj])
  simpa [zerosW] using h
theorem info_nodeW : (Tryz.prog.info? 33).map (fun i => (i.zero, i.size, i.bytes)) = some (some (.agg #[.int .i64 0, .string ⟨#[]⟩, .bool false, .slice none 0 0, .slice none 0 0]), 5, 80) := by kernel_rfl
theorem info_intW : (Tryz.prog.info? 3).map (fun i => (i.zero, i.size, i.bytes)) = some (some (.int .i64 0), 1, 8) := by kernel_rfl
theorem wrap_small {x : Int} (h0 : -1000000000 ≤ x) (h1 : x ≤ 1000000000) : IntKind.i64.wrap x = x := by
  simp only [IntKind.wrap, IntKind.signed, IntKind.bits]
  simp
  omega
theorem size_wrap (n m L : Nat) (hn : n ≤ 40) (hm : m < 4000) (hL : L = 8 + n * (2 * max m 1 + 1)) : wrap64 (8 + wrap64 ((n : Int) * (2 * max (m : Int) 1 + 1))) = (L : Int) ∧ L ≤ 400000 := by
  have hM : max (m : Int) 1 = ((max m 1 : Nat) : Int) := by omega
  have hPr : (n : Int) * (2 * ((max m 1 : Nat) : Int) + 1) = ((n * (2 * max m 1 + 1) : Nat) : Int) := by simp [Int.natCast_mul, Int.natCast_add]
  have hPb : n * (2 * max m 1 + 1) ≤ 40 * 8001 := Nat.mul_le_mul hn (by omega)
  rw [hM, hPr]
  generalize n * (2 * max m 1 + 1) = q at hL hPb
  rw [IntWalk.wrap64_in _ (by rw [IntWalk.wrap64_in _ (by omega)]; omega), IntWalk.wrap64_in _ (by omega)]
  omega
/-- what the operations of the law's second region leave -/
def FactW (B g c K m base : Nat) : Nat → (Nat → Value) → World → Prop
  | 0, x, _ => x 0 = .pointer (some ⟨B, 0, none⟩)
  | 1, x, _ => x 1 = .slice (some ⟨g, 0, none⟩) K c
  | 2, x, _ => x 2 = .int .i64 (K : Int)
  | 3, x, _ => x 3 = .int .i64 ((K + 1 : Nat) : Int)
  | 4, x, X => ∃ q, x 4 = .slice (some ⟨q, 0, none⟩) 1 1 ∧ base ≤ q ∧ X.heap[q]? = some (.cells #[.int .i64 ((K + 1 : Nat) : Int)] 3)
  | 5, x, _ => x 5 = .int .i64 (K : Int)
  | 6, x, _ => x 6 = .int .i64 ((K + 2 : Nat) : Int)
  | 7, x, X => ∃ q, x 7 = .slice (some ⟨q, 0, none⟩) 1 1 ∧ base ≤ q ∧ X.heap[q]? = some (.cells #[.int .i64 ((K + 2 : Nat) : Int)] 3)
  | 8, x, _ => x 8 = .agg #[.int .i64 10, .string ⟨#[]⟩, .bool false, x 4, x 7]
  | 9, x, _ => x 9 = .agg #[.int .i64 5, .string ⟨#[97]⟩, .bool false, .slice none 0 0, .slice none 0 0]
  | 10, x, _ => x 10 = .int .i64 (m : Int)
  | 11, x, X => ∃ q, x 11 = .slice (some ⟨q, 0, none⟩) m m ∧ X.heap[q]? = some (zrowW m)
  | 12, x, _ => x 12 = .string (zerosW m)
  | 13, x, _ => x 13 = .agg #[.int .i64 6, .string (zerosW m), .bool false, .slice none 0 0, .slice none 0 0]
  | 14, x, X => ∃ q q1 q2, x 4 = .slice (some ⟨q1, 0, none⟩) 1 1 ∧ x 7 = .slice (some ⟨q2, 0, none⟩) 1 1 ∧ x 14 = .slice (some ⟨q, 0, none⟩) 3 3 ∧ X.heap[q]? = some (.cells (row15 (zerosW m) q1 q2).toArray 33)
  | _, _, _ => True
def depW : Nat → List Nat
  | 1 => [0]
  | 3 => [2]
  | 4 => [3]
  | 6 => [5]
  | 7 => [6]
  | 8 => [4, 7]
  | 11 => [10]
  | 12 => [11]
  | 13 => [12]
  | 14 => [8, 9, 13, 4, 7]
  | _ => []
theorem FactW.mono {B g c K m base : Nat} (i : Nat) (x x' : Nat → Value) (X X' : World) (hi : i < 15) (hx : ∀ k, k = i ∨ k ∈ depW i → x' k = x k) (hT : Below X.heap.size X X') (h : FactW B g c K m base i x X) : FactW B g c K m base i x' X' := by
  have hs := hx i (.inl rfl)
  have hb : ∀ (q : Nat) (o : Obj), X.heap[q]? = some o → X'.heap[q]? = some o := fun q o hq => (hT.block q (block_lt hq)).trans hq
  match i, hi with
  | 0, _ => exact hs.trans h
  | 1, _ => exact hs.trans h
  | 2, _ => exact hs.trans h
  | 3, _ => exact hs.trans h
  | 4, _ => obtain ⟨q, h1, h2, h3⟩ := h; exact ⟨q, hs.trans h1, h2, hb _ _ h3⟩
  | 5, _ => exact hs.trans h
  | 6, _ => exact hs.trans h
  | 7, _ => obtain ⟨q, h1, h2, h3⟩ := h; exact ⟨q, hs.trans h1, h2, hb _ _ h3⟩
  | 8, _ =>
    have h4 := hx 4 (.inr (by simp [depW]))
    have h7 := hx 7 (.inr (by simp [depW]))
    show x' 8 = .agg #[.int .i64 10, .string ⟨#[]⟩, .bool false, x' 4, x' 7]
    rw [h4, h7]
    exact hs.trans h
  | 9, _ => exact hs.trans h
  | 10, _ => exact hs.trans h
  | 11, _ => obtain ⟨q, h1, h2⟩ := h; exact ⟨q, hs.trans h1, hb _ _ h2⟩
  | 12, _ => exact hs.trans h
  | 13, _ => exact hs.trans h
  | 14, _ =>
    have h4 := hx 4 (.inr (by simp [depW]))
    have h7 := hx 7 (.inr (by simp [depW]))
    obtain ⟨q, q1, q2, e1, e2, e3, e4⟩ := h
    exact ⟨q, q1, q2, h4.trans e1, h7.trans e2, hs.trans e3, hb _ _ e4⟩
theorem BW.at9 {w : World} {B i j g c : Nat} {z : ByteArray} {iv : Value} {wr X8 w9 : World} (h : BW w B z i j g c iv wr) (hb : Below wr.heap.size wr X8) (hg : X8.grownBy w9 iv.ownBlock) :
    w9.cell? ⟨B, 0, none⟩ = some (.slice (some ⟨g, 0, none⟩) (3 * i + 1) c) ∧ w9.cell? ⟨g, 4, none⟩ = some iv := by
  obtain ⟨hgl, cur, hgc⟩ := h.gheap
  have hne : ∀ (k : Nat) cs t fz, wr.heap[k]? = some (.cells cs t fz) → t ≠ 3 → some k ≠ iv.ownBlock := fun k cs t fz hk ht e => by
    obtain ⟨-, cu, h1⟩ := h.iheap k e.symm
    rw [hk] at h1
    cases h1
    exact ht rfl
  have hk9 : ∀ (k : Nat) cs t fz, wr.heap[k]? = some (.cells cs t fz) → some k ≠ iv.ownBlock → w9.heap[k]? = wr.heap[k]? := fun k cs t fz hk hn => by
    have hlt := block_lt hk
    rw [hg.block k (Nat.lt_of_lt_of_le hlt hb.size) hn, hb.block k hlt]
  have e1 := hk9 B _ _ _ h.box (hne B _ _ _ h.box (by decide))
  have e2 := hk9 g _ _ _ hgc (hne g _ _ _ hgc (by decide))
  have h4 := h.c4
  refine ⟨(Lib.cell_of_heap (e1.trans h.box) 0).trans rfl, ?_⟩
  unfold World.cell? at h4 ⊢
  rw [e2]; exact h4
end Go.Proofs.YtneohoclgnfdcaaGreatDoor
/- TableoutLong: its walk. -/
namespace Go.Proofs.YtneohoclgnfdcaaGreatDoor
open Go.RowKit Go.Shelf Go.Ev
open Go.Lib hiding intOf
attribute [local go_sem] Oper.semAt_some Oper.semAt_none wideR_round wideR_depth wideR_fn
set_option maxHeartbeats 8000000 in
set_option maxRecDepth 100000 in
theorem long_tab (haw : PLift (∀ w, NamesAt w → Calls Tryz.prog 8 #[] w fun e w' => e = .returned (.bool true) ∧ Below w.heap.size w w')) (x0 x1 : Int) (h0 : (Lit.int .u16 x0).wf = true) (h1 : (Lit.int .u16 x1).wf = true) (w : World) (hnm : NamesAt w) :
    Calls Tryz.prog 4 #[.int .u16 x0, .int .u16 x1] w fun e w' => e = .returned (.bool true) ∧ Below w.heap.size w w' := by
  have b0 : 0 ≤ x0 ∧ x0 ≤ 65535 := by simp [Lit.wf, IntKind.min, IntKind.max, IntKind.signed, IntKind.bits] at h0; omega
  have b1 : 0 ≤ x1 ∧ x1 ≤ 65535 := by simp [Lit.wf, IntKind.min, IntKind.max, IntKind.signed, IntKind.bits] at h1; omega
  obtain ⟨a, rfl⟩ : ∃ a : Nat, x0 = a := ⟨x0.toNat, by omega⟩
  obtain ⟨b, rfl⟩ : ∃ b : Nat, x1 = b := ⟨x1.toNat, by omega⟩
  obtain ⟨r, hr⟩ : ∃ r : Nat, a % 40 = r := ⟨_, rfl⟩
  obtain ⟨m, hm⟩ : ∃ m : Nat, b % 4000 = m := ⟨_, rfl⟩
  have hr40 : r < 40 := by omega
  have hm4 : m < 4000 := by omega
  have hmodr : (a : Int) % 40 = (r : Int) := by omega
  have htmodr : Int.tmod (a : Int) 40 = (r : Int) := by rw [Int.tmod_eq_emod_of_nonneg (by omega)]; exact hmodr
  have hmodm : (b : Int) % 4000 = (m : Int) := by omega
  have htmodm : Int.tmod (b : Int) 4000 = (m : Int) := by rw [Int.tmod_eq_emod_of_nonneg (by omega)]; exact hmodm
  obtain ⟨n, hn⟩ : ∃ n : Nat, n = r + 1 := ⟨_, rfl⟩
  have hnr : (1 : Int) + (r : Int) = (n : Int) := by omega
  have hn0 : 0 < n := by omega
  have hn40 : n ≤ 40 := by omega
  have HNM := PLift.up hnm
  have HST := PLift.up (BW.start w (zerosW m))
  clear hr hm h0 h1 b0 b1 hnm hn
  refine (callsIn_wide (n := 1)).1 ?_
  change CallsIn (wideR none) 1 _ _ _ _ _
  refine callsIn_of_wp Tryz.func4 rfl trivial ?_ rfl
  simp only [Tryz.ntmps4, List.size_toArray, List.length_cons, List.length_nil, Nat.reduceAdd, Nat.reduceSub, Array.replicate_succ, Array.replicate_zero, List.push_toArray, List.append_toArray, List.nil_append, List.cons_append]
  gi_upto_region 3 with fail
  clear hmodr htmodr hmodm htmodm hnr
  obtain ⟨W0, hW0⟩ : ∃ W0, (w.alloc (.cells #[.int .i64 9, .string ⟨#[]⟩, .bool false, .slice none 0 0, .slice none 0 0] 33)).alloc (.cells #[.slice (some ⟨w.heap.size, 0, none⟩) 1 1, .int .i64 0] 36) = W0 := ⟨_, rfl⟩
  rw [hW0] at HST ⊢
  clear hW0
  gi_wp2
  gi_loopw [23] (fun iv wr => ∃ (i g c : Nat) (nv : Value), iv = .int .i64 i ∧ i ≤ n ∧ BW w (w.heap.size + 1) (zerosW m) i i g c nv wr) (fun iv _ => n - (intOf iv).toNat)
  case atStart => exact ⟨0, w.heap.size, 1, .slice none 0 0, rfl, Nat.zero_le _, HST.down⟩
  case round =>
    obtain ⟨i, g, c, nv, rfl, hi, hI⟩ := hrel
    have HI := PLift.up hI
    obtain ⟨K, hK⟩ : ∃ K, 3 * i + 1 = K := ⟨_, rfl⟩
    have HKE := PLift.up hK
    have hbox := hI.box
    rw [hK] at hbox
    have c0 : wr.cell? ⟨w.heap.size + 1, 0, none⟩ = some (.slice (some ⟨g, 0, none⟩) K c) := (Lib.cell_of_heap hbox 0).trans rfl
    have c1 : wr.cell? ⟨w.heap.size + 1, 1, none⟩ = some (.int .i64 0) := (Lib.cell_of_heap hbox 1).trans rfl
    have c4 := hI.c4
    have hK0 : (0 : Int) < (K : Int) := by omega
    have HKB : PLift (K ≤ 200) := ⟨by omega⟩
    clear hI hK hbox
    by_cases hin : i < n
    · have hin2 : (i : Int) < (n : Int) := by omega
      gi_upto_region 6 with fail
      obtain ⟨X8, hX8⟩ : ∃ X8, wr.drew.alloc (.cells #[.int .i64 (K : Int)] 3) = X8 := ⟨_, rfl⟩
      have hb8 : Below wr.heap.size wr X8 := by rw [← hX8]; exact ((Below.refl _ wr).drew).alloc (Nat.le_refl _) _
      have hq8 : X8.cell? ⟨wr.heap.size, 0, none⟩ = some (.int .i64 (K : Int)) := by rw [← hX8]; exact (Lib.cell_of_heap (heap_alloc_new wr.drew _) 0).trans rfl
      obtain ⟨i0, hi0, hz0, hz1, hz2⟩ := info_parts info_intW
      obtain ⟨v', w9, hr9, hown9, hg9, -, hblk⟩ := run_append_own_at (P := Tryz.prog) X8 w.heap.size 31 31 3 i0 (.int .i64 0) 1 8 Tryz.underlying31 hi0 hz0 hz1 hz2 rfl (by decide) nv i ((itemsW i).map (Value.int .i64)) (row_below HI.down.its hb8) ⟨wr.heap.size, 0, none⟩ 1 1 [.int .i64 (K : Int)] rfl
        (by intro j u hj; match j, hj with | 0, hj => simp only [List.getElem?_cons_zero, Option.some.injEq] at hj; subst hj; exact hq8 | j + 1, hj => simp at hj) (by simp [Value.oneCell']) (by unfold maxLen; omega) (by omega) (Nat.le_trans HI.down.below.size hb8.size)
      rw [← HKE.down, ← itemsW_succ] at hown9
      have hown9 : w9.ownsRow w.heap.size 3 1 v' (i + 1) ((itemsW (i + 1)).map (Value.int .i64)) := hown9
      obtain ⟨HI6, hf4⟩ := HI.down.item hb8 hown9 hg9 hblk
      obtain ⟨d0, d4⟩ := HI.down.at9 hb8 hg9
      rw [HKE.down] at d0
      obtain ⟨pv, pc, hpv⟩ := own_shape hown9
      subst hpv
      have HF6 := PLift.up HI6
      have e0 := cell_keep hb8 c0
      have e4 := cell_keep hb8 c4
      clear hown9 hg9 hblk hi0 hz0 hz1 hz2 HI6 hb8 hq8
      refine MixIn.wpIn_region_mid (aF := ?_) 8 2 3 (fun X => X = wr.drew) (fun X => X.cell? ⟨w.heap.size + 1, 0, none⟩ = some (.slice (some ⟨g, 0, none⟩) K c) ∧ X.cell? ⟨g, 4, none⟩ = some nv) (fun w' w'' => w'' = w') (by kernel_rfl) (noDefer_of (by kernel_rfl)) rfl (by kernel_rfl) (by kernel_rfl) (by kernel_rfl) (by kernel_rfl) (fun _ => rfl) (fun _ _ h k => k.trans h) (by rintro _ rfl; exact ⟨c0, c4⟩) rfl ?_ ?_
      rotate_left 1
      · rintro ρ ⟨p0, p4⟩
        simp only [List.take_succ_cons, List.take_zero]
        repeat (go_big_quiet_step (fail))
        apply wpQuiet_nil
        exact rfl
      refine MixIn.wpV_one (i := 8) (by kernel_rfl) rfl (by kernel_rfl) (fun u X => u = .slice (some ⟨wr.heap.size, 0, none⟩) 1 1 ∧ X = X8) (by rintro _ _ _ h rfl; exact h) (by rintro _ _ ⟨-, rfl⟩; exact ⟨e0, e4⟩) ?_ ?_
      · rintro X rfl
        go_simp
        exact ⟨rfl, rfl⟩
      rintro _ X ⟨rfl, -⟩
      refine MixIn.wpV_one (i := 9) (by kernel_rfl) rfl (by kernel_rfl) (fun u X => u = .slice pv (i + 1) pc ∧ X = w9) (by rintro _ _ _ h rfl; exact h) (by rintro _ _ ⟨-, rfl⟩; exact ⟨d0, d4⟩) ?_ ?_
      · rintro Y ⟨-, hY⟩
        rw [hY, MixIn.exec_append _ _ _ rfl rfl rfl hr9]
        exact ⟨rfl, rfl⟩
      rintro _ Y ⟨rfl, -⟩
      refine MixIn.wpV_end (by kernel_rfl) ?_
      rintro Y9 ⟨-, e9⟩
      rw [e9]
      clear e9
      simp only [Act.put, List.setIfInBounds_toArray]
      refine MixIn.wpAnyIn_one (i := 10) (by kernel_rfl) ?_
      refine wpOpIn_of rfl rfl ?_
      unfold Oper.wpIn
      refine ⟨fun _ _ => trivial, ?_⟩
      have hKn : 0 < K := by omega
      go_simp
      refine MixIn.wpAnyIn_one (i := 11) (by kernel_rfl) ?_
      refine wpOpIn_of rfl rfl ?_
      unfold Oper.wpIn
      refine ⟨fun _ _ => trivial, ?_⟩
      go_simp
      refine MixIn.wpAnyIn_one (i := 12) (by kernel_rfl) ?_
      refine wpOpIn_of rfl rfl ?_
      unfold Oper.wpIn
      refine ⟨fun _ _ => trivial, ?_⟩
      go_simp
      refine MixIn.wpAnyIn_last (by kernel_rfl) ?_
      obtain ⟨W6, hW6⟩ : ∃ W6, w9.setCell ⟨g, 4, none⟩ (.slice pv (i + 1) pc) = W6 := ⟨_, rfl⟩
      rw [hW6] at HF6 ⊢
      have hbox6 := HF6.down.box
      rw [HKE.down] at hbox6
      have z0 : W6.cell? ⟨w.heap.size + 1, 0, none⟩ = some (.slice (some ⟨g, 0, none⟩) K c) := (Lib.cell_of_heap hbox6 0).trans rfl
      clear hW6 d0 d4 e0 e4 c0 c1 c4 hf4 hr9 hX8
      gi_upto_region 7 with fail
      refine MixIn.wpIn_region_run 40 15 3 depW (fun X X' => Below X.heap.size X X') (FactW (w.heap.size + 1) g c K m W6.heap.size) (by kernel_rfl) rfl (by kernel_rfl) (by kernel_rfl) (by kernel_rfl) (by kernel_rfl) (by kernel_rfl) ⟨rfl, rfl, rfl, Nat.le_refl _, fun _ _ => rfl⟩ (fun _ _ _ h k => h.trans (k.mono h.size)) (fun i x x' X X' hi hx hT h => FactW.mono i x x' X X' hi hx hT h) ?hstep ?hN
      case hstep =>
        intro i o x X hi ho hX hd
        have hKb := HKB.down
        have cX := cell_keep hX z0
        match i, hi with
        | 0, _ =>
          injection ho with ho
          subst ho
          refine ⟨(.pointer (some ⟨w.heap.size + 1, 0, none⟩)), X, ?_, Below.refl _ _, MixIn.upd_same _ _ _⟩
          simp only [MixIn.setX, Nat.reduceAdd, List.setIfInBounds_toArray, List.set_cons_succ, List.set_cons_zero]
          go_simp
        | 1, _ =>
          injection ho with ho
          subst ho
          have h0 := hd 0 (by simp [depW])
          simp only [FactW] at h0
          refine ⟨(.slice (some ⟨g, 0, none⟩) K c), X, ?_, Below.refl _ _, MixIn.upd_same _ _ _⟩
          simp only [MixIn.setX, Nat.reduceAdd, List.setIfInBounds_toArray, List.set_cons_succ, List.set_cons_zero]
          go_simp
        | 2, _ =>
          injection ho with ho
          subst ho
          refine ⟨(.int .i64 (K : Int)), X, ?_, Below.refl _ _, MixIn.upd_same _ _ _⟩
          simp only [MixIn.setX, Nat.reduceAdd, List.setIfInBounds_toArray, List.set_cons_succ, List.set_cons_zero]
          go_simp
        | 3, _ =>
          injection ho with ho
          subst ho
          have hwr : IntKind.i64.wrap ((K : Int) + 1) = (K : Int) + 1 := wrap_small (by omega) (by omega)
          have h2 := hd 2 (by simp [depW])
          simp only [FactW] at h2
          refine ⟨(.int .i64 ((K + 1 : Nat) : Int)), X, ?_, Below.refl _ _, MixIn.upd_same _ _ _⟩
          simp only [MixIn.setX, Nat.reduceAdd, List.setIfInBounds_toArray, List.set_cons_succ, List.set_cons_zero]
          go_simp
        | 4, _ =>
          injection ho with ho
          subst ho
          have h3 := hd 3 (by simp [depW])
          simp only [FactW] at h3
          refine ⟨(.slice (some ⟨X.heap.size, 0, none⟩) 1 1), (X.alloc (.cells #[.int .i64 ((K + 1 : Nat) : Int)] 3)), ?_, below_new X _, ⟨X.heap.size, MixIn.upd_same _ _ _, hX.size, heap_alloc_new X _⟩⟩
          simp only [MixIn.setX, Nat.reduceAdd, List.setIfInBounds_toArray, List.set_cons_succ, List.set_cons_zero]
          go_simp
        | 5, _ =>
          injection ho with ho
          subst ho
          refine ⟨(.int .i64 (K : Int)), X, ?_, Below.refl _ _, MixIn.upd_same _ _ _⟩
          simp only [MixIn.setX, Nat.reduceAdd, List.setIfInBounds_toArray, List.set_cons_succ, List.set_cons_zero]
          go_simp
        | 6, _ =>
          injection ho with ho
          subst ho
          have hwr : IntKind.i64.wrap ((K : Int) + 2) = (K : Int) + 2 := wrap_small (by omega) (by omega)
          have h5 := hd 5 (by simp [depW])
          simp only [FactW] at h5
          refine ⟨(.int .i64 ((K + 2 : Nat) : Int)), X, ?_, Below.refl _ _, MixIn.upd_same _ _ _⟩
          simp only [MixIn.setX, Nat.reduceAdd, List.setIfInBounds_toArray, List.set_cons_succ, List.set_cons_zero]
          go_simp
        | 7, _ =>
          injection ho with ho
          subst ho
          have h6 := hd 6 (by simp [depW])
          simp only [FactW] at h6
          refine ⟨(.slice (some ⟨X.heap.size, 0, none⟩) 1 1), (X.alloc (.cells #[.int .i64 ((K + 2 : Nat) : Int)] 3)), ?_, below_new X _, ⟨X.heap.size, MixIn.upd_same _ _ _, hX.size, heap_alloc_new X _⟩⟩
          simp only [MixIn.setX, Nat.reduceAdd, List.setIfInBounds_toArray, List.set_cons_succ, List.set_cons_zero]
          go_simp
        | 8, _ =>
          injection ho with ho
          subst ho
          obtain ⟨q4, h4, -, -⟩ := hd 4 (by simp [depW])
          obtain ⟨q7, h7, -, -⟩ := hd 7 (by simp [depW])
          refine ⟨(.agg #[.int .i64 10, .string ⟨#[]⟩, .bool false, .slice (some ⟨q4, 0, none⟩) 1 1, .slice (some ⟨q7, 0, none⟩) 1 1]), X, ?_, Below.refl _ _, (by show MixIn.upd x 8 _ 8 = .agg #[.int .i64 10, .string ⟨#[]⟩, .bool false, MixIn.upd x 8 _ 4, MixIn.upd x 8 _ 7]; rw [MixIn.upd_same, MixIn.upd_ne _ (by decide), MixIn.upd_ne _ (by decide), h4, h7])⟩
          simp only [MixIn.setX, Nat.reduceAdd, List.setIfInBounds_toArray, List.set_cons_succ, List.set_cons_zero]
          go_simp
        | 9, _ =>
          injection ho with ho
          subst ho
          refine ⟨(.agg #[.int .i64 5, .string ⟨#[97]⟩, .bool false, .slice none 0 0, .slice none 0 0]), X, ?_, Below.refl _ _, MixIn.upd_same _ _ _⟩
          simp only [MixIn.setX, Nat.reduceAdd, List.setIfInBounds_toArray, List.set_cons_succ, List.set_cons_zero]
          go_simp
        | 10, _ =>
          injection ho with ho
          subst ho
          refine ⟨(.int .i64 (m : Int)), X, ?_, Below.refl _ _, MixIn.upd_same _ _ _⟩
          simp only [MixIn.setX, Nat.reduceAdd, List.setIfInBounds_toArray, List.set_cons_succ, List.set_cons_zero]
          go_simp
        | 11, _ =>
          injection ho with ho
          subst ho
          have h10 := hd 10 (by simp [depW])
          simp only [FactW] at h10
          have hmk := zero_makeW m (by omega) X
          refine ⟨(.slice (some ⟨X.heap.size, 0, none⟩) m m), (X.alloc (zrowW m)), ?_, below_new X _, ⟨X.heap.size, MixIn.upd_same _ _ _, heap_alloc_new X _⟩⟩
          simp only [MixIn.setX, Nat.reduceAdd, List.setIfInBounds_toArray, List.set_cons_succ, List.set_cons_zero]
          go_simp
        | 12, _ =>
          injection ho with ho
          subst ho
          obtain ⟨q11, h11, g11⟩ := hd 11 (by simp [depW])
          have hcv := zero_strW m q11 X g11
          refine ⟨(.string (zerosW m)), X, ?_, Below.refl _ _, MixIn.upd_same _ _ _⟩
          simp only [MixIn.setX, Nat.reduceAdd, List.setIfInBounds_toArray, List.set_cons_succ, List.set_cons_zero]
          go_simp
        | 13, _ =>
          injection ho with ho
          subst ho
          have h12 := hd 12 (by simp [depW])
          simp only [FactW] at h12
          refine ⟨(.agg #[.int .i64 6, .string (zerosW m), .bool false, .slice none 0 0, .slice none 0 0]), X, ?_, Below.refl _ _, MixIn.upd_same _ _ _⟩
          simp only [MixIn.setX, Nat.reduceAdd, List.setIfInBounds_toArray, List.set_cons_succ, List.set_cons_zero]
          go_simp
        | 14, _ =>
          injection ho with ho
          subst ho
          obtain ⟨q4, h4, -, -⟩ := hd 4 (by simp [depW])
          obtain ⟨q7, h7, -, -⟩ := hd 7 (by simp [depW])
          have h9 := hd 9 (by simp [depW])
          simp only [FactW] at h9
          have h13 := hd 13 (by simp [depW])
          simp only [FactW] at h13
          have h8 : x 8 = .agg #[.int .i64 10, .string ⟨#[]⟩, .bool false, x 4, x 7] := hd 8 (by simp [depW])
          rw [h4, h7] at h8
          refine ⟨(.slice (some ⟨X.heap.size, 0, none⟩) 3 3), (X.alloc (.cells (row15 (zerosW m) q4 q7).toArray 33)), ?_, below_new X _, ⟨X.heap.size, q4, q7, (MixIn.upd_ne _ (by decide)).trans h4, (MixIn.upd_ne _ (by decide)).trans h7, MixIn.upd_same _ _ _, heap_alloc_new X _⟩⟩
          simp only [MixIn.setX, Nat.reduceAdd, List.setIfInBounds_toArray, List.set_cons_succ, List.set_cons_zero]
          go_simp
          rfl
      case hN =>
        intro x X hX hf
        obtain ⟨q, q1, q2, t4, t7, t14, t15⟩ := hf 14 (by decide)
        have t1 : x 1 = .slice (some ⟨g, 0, none⟩) K c := hf 1 (by decide)
        obtain ⟨q4, e4, l4, g4⟩ := hf 4 (by decide)
        obtain ⟨q7, e7, l7, g7⟩ := hf 7 (by decide)
        cases e4.symm.trans t4
        cases e7.symm.trans t7
        obtain ⟨xs, hxs, hown⟩ := HF6.down.own
        have hkE := HKE.down
        subst hkE
        obtain ⟨i0, hi0, hz0, hz1, hz2⟩ := info_parts info_nodeW
        obtain ⟨v9, Y9, hr9, hown9, hg9, -⟩ := run_append_own (P := Tryz.prog) X w.heap.size 34 34 33 i0 (.agg #[.int .i64 0, .string ⟨#[]⟩, .bool false, .slice none 0 0, .slice none 0 0]) 5 80 Tryz.underlying34 hi0 hz0 hz1 hz2 node_cellsS (by decide) (.slice (some ⟨g, 0, none⟩) (3 * i + 1) c) (3 * i + 1) _ (row_below hown hX) ⟨q, 0, none⟩ 3 3 (row15 (zerosW m) q1 q2) rfl
          (by
            intro j u hj
            have e1 : (⟨q, 0, none⟩ : Addr).add j = ⟨q, j, none⟩ := by unfold Addr.add; split <;> simp_all
            rw [e1, Lib.cell_of_heap t15]
            simpa using hj) (by simp [row15, Value.oneCell']) (by unfold maxLen; omega) (by omega) (Nat.le_trans HF6.down.below.size hX.size)
        obtain ⟨⟨g', c', hv9, hI9⟩, hbx9⟩ := HF6.down.row hX g4 g7 l4 l7 xs hxs hown9 hg9
        subst hv9
        have HI9 := PLift.up hI9
        have b9 : Y9.cell? ⟨w.heap.size + 1, 0, none⟩ = some (.slice (some ⟨g, 0, none⟩) (3 * i + 1) c) := (Lib.cell_of_heap hbx9 0).trans rfl
        have b9f : Y9.frozen? ⟨w.heap.size + 1, 0, none⟩ = false := Lib.frozen_of_heap hbx9 0
        clear hI9 hbx9 hown9 hg9 hown hxs t15 g4 g7 e4 e7 t4 t7 hf hi0 hz0 hz1 hz2
        simp only [MixIn.setX, Nat.reduceAdd, List.setIfInBounds_toArray, List.set_cons_succ, List.set_cons_zero]
        refine MixIn.wpAnyIn_one (i := 15) (by kernel_rfl) ?_
        refine wpOpIn_of rfl rfl ?_
        refine MixIn.wpIn_append _ _ _ rfl t1 t14 hr9 ?_
        simp only [Act.put, List.setIfInBounds_toArray]
        refine MixIn.wpAnyIn_one (i := 16) (by kernel_rfl) ?_
        refine wpOpIn_of rfl rfl ?_
        unfold Oper.wpIn
        refine ⟨fun _ _ => trivial, ?_⟩
        go_simp
        refine MixIn.wpAnyIn_one (i := 17) (by kernel_rfl) ?_
        refine wpOpIn_of rfl rfl ?_
        unfold Oper.wpIn
        refine ⟨fun _ _ => trivial, ?_⟩
        go_simp
        refine MixIn.wpAnyIn_last (by kernel_rfl) ?_
        gi_wp2
        go_roundw
        case rel => exact ⟨i + 1, g', c', .slice pv (i + 1) pc, by simp, by omega, HI9.down⟩
        case measure => simp [intOf]; omega
    obtain rfl : n = i := by omega
    have hin2 : ¬ ((n : Int) < (n : Int)) := by omega
    have HND := PLift.up (HI.down.nodes hn40)
    rw [HKE.down] at HND
    have HNW : PLift (NamesAt wr) := ⟨by obtain ⟨ty, fr, h⟩ := HNM.down; exact ⟨ty, fr, (HI.down.below.block _ (block_lt h)).trans h⟩⟩
    have HP := PLift.up (print_fam wr _ (zerosW m) n HND.down (by rw [zerosW_size]; omega) hn0 hn40 HNW.down)
    have HTL := PLift.up (textW_len (zerosW m) n)
    rw [zerosW_size] at HTL
    gi_upto_region 10 with fail
    obtain ⟨L, hL⟩ : ∃ L, (textW (zerosW m) n).length = L := ⟨_, rfl⟩
    obtain ⟨tx, htx⟩ : ∃ tx : ByteArray, (⟨(textW (zerosW m) n).toArray⟩ : ByteArray) = tx := ⟨_, rfl⟩
    have hts : tx.size = L := by rw [← htx, ← hL]; simp [ByteArray.size]
    rw [hL] at HTL
    rw [hL, htx] at HP
    obtain ⟨hsz, hLb0⟩ := size_wrap n m L hn40 hm4 HTL.down
    have HLB := PLift.up hLb0
    have hbx := HI.down.box
    rw [HKE.down] at hbx
    rw [hsz]
    have HB := PLift.up HI.down.below
    have HAW := haw
    have hLb := HLB.down
    clear hsz hLb0 hL htx hbx c4 HTL HND HKE HKB HST HI
    by_cases hbig : 65536 < L
    · rw [if_pos hbig] at HP
      have hbig2 : (65536 : Int) < (L : Int) := by omega
      gi_wp2_with (first
        | (gi_at_call 7; refine (calls_at HP.down none _).mono ?_; rintro e W2 ⟨rfl, hb2⟩; have HB2 := PLift.up hb2; have HN2 : PLift (NamesAt W2) := ⟨by obtain ⟨ty, fr, h⟩ := HNW.down; exact ⟨ty, fr, (hb2.block _ (block_lt h)).trans h⟩⟩; clear hb2)
        | (gi_at_call 8; refine (calls_at (HAW.down _ HN2.down) none _).mono ?_; rintro e W3 ⟨rfl, hb3⟩; have HB3 := PLift.up hb3; clear hb3))
      go_ret
      have h2 := HB.down.trans (HB2.down.mono HB.down.size)
      exact ⟨rfl, h2.trans (HB3.down.mono h2.size)⟩
    · rw [if_neg hbig] at HP
      have hbig2 : ¬ (65536 : Int) < (L : Int) := by omega
      gi_wp2_with (first
        | (gi_at_call 7; refine (calls_at HP.down none _).mono ?_; rintro e W2 ⟨rfl, hb2⟩; have HB2 := PLift.up hb2; have HN2 : PLift (NamesAt W2) := ⟨by obtain ⟨ty, fr, h⟩ := HNW.down; exact ⟨ty, fr, (hb2.block _ (block_lt h)).trans h⟩⟩; clear hb2)
        | (gi_at_call 8; refine (calls_at (HAW.down _ HN2.down) none _).mono ?_; rintro e W3 ⟨rfl, hb3⟩; have HB3 := PLift.up hb3; clear hb3))
      go_ret
      have h2 := HB.down.trans (HB2.down.mono HB.down.size)
      exact ⟨rfl, h2.trans (HB3.down.mono h2.size)⟩
end Go.Proofs.YtneohoclgnfdcaaGreatDoor
