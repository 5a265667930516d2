import Derived.RangeFuncBox
import Derived.LoopIn
import Derived.WalkKit
import Derived.KernelRfl
import Derived.Lib.ConvBytes
import Derived.Lib.AtoiErrMem
import Derived.Deep.Cut
import Derived.Lib.FrozenHead2
import Derived.Shelf.Strings.BuilderF
import Derived.Test.YtcipjifpigpfdaaGreatDoorP08
import Derived.Test.YtcipjifpigpfdaaGreatDoorP04
import Derived.Test.YtcipjifpigpfdaaGreatDoorP05
/- What a call above leaves of rows, boxes and builders; an append behind it. -/
namespace Go.Proofs.YtcipjifpigpfdaaGreatDoor
open Go.RowKit Go.Shelf Go.Ev
open Go.Lib hiding intOf
theorem row_below {w w' : World} {B e size n : Nat} {v : Value} {xs : List Value} (h : w.ownsRow B e size v n xs) (hb : Below w.heap.size w w') : w'.ownsRow B e size v n xs := by
  refine ⟨h.1, ?_⟩
  rcases h.2 with hn | ⟨g, cap, cur, hv, h1, h2, h3⟩
  · exact .inl hn
  · exact .inr ⟨g, cap, cur, hv, h1, by rw [hb.block g (Array.getElem?_eq_some_iff.1 h2).1]; exact h2, h3⟩
theorem bld_below {T e : TypeId} {B b : Nat} {bs : List Value} {w w' : World} (h : Lib.IsBuilder T e B b bs w) (hb : Below w.heap.size w w') : Lib.IsBuilder T e B b bs w' := by
  have at_ : ∀ p, Lib.BuilderAt T e B b p bs w → Lib.BuilderAt T e B b p bs w' := fun p hp => by
    obtain ⟨h1, v, h2, h3, h4⟩ := hp
    exact ⟨h1, v, by rw [hb.block b (Array.getElem?_eq_some_iff.1 h2).1]; exact h2, row_below h3 hb, h4⟩
  rcases h with h | h
  · exact .inl (at_ _ h)
  · exact .inr (at_ _ h)
theorem boxed_append {W W6 w1 : World} {n₀ B : Nat} {t e : TypeId} {size : Nat} {v v' : Value} {k m : Nat} {xs ys : List Value}
    (hv : Boxed W B t v) (hte : t ≠ e) (hrow : W.ownsRow n₀ e size v k xs) (hn₀ : n₀ ≤ W.heap.size) (hB : n₀ ≤ B) (hb : Below W.heap.size W W6)
    (hown' : w1.ownsRow n₀ e size v' m ys) (hgrow : W6.grownBy w1 v.ownBlock) :
    Boxed w1 B t v ∧ Boxed (w1.setCell ⟨B, 0, none⟩ v') B t v' ∧ (w1.setCell ⟨B, 0, none⟩ v').ownsRow n₀ e size v' m ys ∧ KeepsOthers W (w1.setCell ⟨B, 0, none⟩ v') ∧ Below n₀ W (w1.setCell ⟨B, 0, none⟩ v') := by
  have hg6 := grown_of_below hb
  have hv6 : Boxed W6 B t v := hv.kept hg6 (by simp)
  have hr6 := row_below hrow hb
  have hv1 : Boxed w1 B t v := hv6.kept hgrow (hv.not_row hte hrow)
  refine ⟨hv1, hv1.set v', hown'.kept (grownBy_setCell' w1 B v') (.inr (hv1.not_row hte hown').symm), ?_, ?_⟩
  · refine ((KeepsOthers.of_grownBy hg6 fun j o ej hj => by cases ej).trans (KeepsOthers.of_grownBy hgrow fun j o ej hj => ?_)).trans (KeepsOthers.setCell _ _ _)
    rcases hr6.2 with ⟨rfl, _⟩ | ⟨g, cap, cur, rfl, _, hgb, _⟩
    · simp [Value.ownBlock] at ej
    · obtain rfl : g = j := by simpa [Value.ownBlock] using ej
      rw [hgb] at hj; cases hj; rfl
  · refine ((hb.mono hn₀).grown hgrow (Nat.le_trans hn₀ hb.size) fun j ej => ?_).setCell (p := ⟨B, 0, none⟩) hB v'
    rcases hrow.2 with ⟨rfl, _⟩ | ⟨g, cap, cur, rfl, hb, _, _⟩
    · simp [Value.ownBlock] at ej
    · obtain rfl : g = j := by simpa [Value.ownBlock] using ej
      exact hb
theorem bstr_kept (B b : Nat) (l : List UInt8) (w : World) (h : Lib.IsBuilder 54 5 B b (Lib.byteCells l) w) (hne : l ≠ []) (hl : l.length ≤ 1000000) :
    Calls Tryz.prog 23 #[.pointer (some ⟨b, 0, none⟩)] w fun e w' => e = .returned (.string ⟨l.toArray⟩) ∧ Below B w w' ∧ OthersKept 5 (some b) w w' := by
  obtain ⟨p, hB, v, hb, hown, hneq⟩ : ∃ p, Lib.BuilderAt 54 5 B b p (Lib.byteCells l) w := by rcases h with h | h <;> exact ⟨_, h⟩
  have hlen : (Lib.byteCells l).length = l.length := by simp [Lib.byteCells]
  rw [hlen] at hown
  have hpos : 0 < l.length := List.length_pos_iff.2 hne
  rcases hown.2 with ⟨-, h0⟩ | ⟨g, cap, cur, rfl, hbg, hg, hc, hm, hs, ht⟩
  · omega
  · refine (bstring_rowE b g cap cur.size l w hne (by omega) ((Lib.cell_of_heap hb 1).trans rfl) (by simp [World.shape?, hg]) (by omega) (by omega) ?_).mono ?_
    · intro j x hj
      have e1 : (⟨g, 0, none⟩ : Addr).add j = ⟨g, j, none⟩ := by unfold Addr.add; split <;> simp_all
      rw [e1, Lib.cell_of_heap hg]
      have h1 : (Lib.byteCells l)[j]? = some (.int .u8 x.toNat) := by simp [Lib.byteCells, hj]
      rw [← ht] at h1
      have hjl : j < l.length := (List.getElem?_eq_some_iff.1 hj).1
      rw [List.getElem?_take_of_lt (by omega)] at h1
      simpa using h1
    · rintro e w' ⟨rfl, u, ⟨u1, u2, u3, u4⟩, rfl⟩
      have hok : OthersKept 5 (some b) w u := fun k o hk _ _ => by rw [u1]; exact hk
      have hug : u.heap[g]? = some (.cells cur 5) := by rw [u1]; exact hg
      exact ⟨rfl, Lib.below_freeze ⟨u2, u3, u4, by rw [u1]; exact Nat.le_refl _, fun k _ => by rw [u1]⟩ hbg _, hok.freeze _ _ ⟨_, _, hug⟩⟩
end Go.Proofs.YtcipjifpigpfdaaGreatDoor
/- The law of a region that draws, inside a fence: a prefix of operations of one value each, operations in the middle that may come between them, and a tail that is walked plainly. -/
namespace Go.MixIn
open Go.Mix Go.Ev Go.RowKit
section
variable {ro : Option Nat} {m : Nat} {P : Program} {ops : Array Oper} {md : Region.Mode} {Q : Exit → Act → World → Prop} {T : World → World → Prop} {D : World → Prop}
/-- worlds that have grown -/
structure Grow (ρ : World) where
  w : World
  h : Below ρ.heap.size ρ w
instance (ρ : World) : Nonempty (Grow ρ) := ⟨⟨ρ, Below.refl _ _⟩⟩
theorem Grow.calls {P : Program} {f : FuncId} {args : Array Value} {ρ : World} {x : Grow ρ} {v : Value}
    (h : Calls P f args x.w fun e w' => e = .returned v ∧ Below x.w.heap.size x.w w') : Calls P f args x.w fun e w'' => e = .returned v ∧ ∃ y : Grow ρ, w'' = y.w :=
  h.mono fun _ w' ⟨he, hb⟩ => ⟨he, ⟨w', x.h.trans (hb.mono x.h.size)⟩, rfl⟩
theorem wpV_one {n f fuel : Nat} {listed : Array Bool} {a : Act} {C : World → Prop} {i : Nat} {o : Oper} (hr : Region.ready md ops listed = [i]) (ho : ops[i]? = some o) (hw : Region.wanted o (yielded ops a.tmps) = true)
    (R : Value → World → Prop) (hR : ∀ v w w', R v w → T w w' → R v w') (hD : ∀ v w, R v w → D w) (hrun : ∀ w, C w → uponU ro m P R ((execOp a.eval o).run P w))
    (hK : ∀ v w, R v w → wpV ro m P md ops Q T D n f fuel (listed.setIfInBounds i true) (a.put o.dst v) (R v)) : wpV ro m P md ops Q T D n f (fuel + 1) listed a C := by
  refine ⟨(fun h => by rw [hr] at h; cases h), fun j hj => ?_⟩
  rw [hr] at hj
  obtain rfl : j = i := by simpa using hj
  unfold opU
  simp only [ho, hw, if_true]
  exact ⟨R, hR, hD, hrun, hK⟩
theorem wpV_end {n f : Nat} {listed : Array Bool} {a : Act} {C : World → Prop} (hr : Region.ready md ops listed = [n]) (h : ∀ w, C w → wpAnyIn (wideR ro) m P md ops Q f listed a w) : wpV ro m P md ops Q T D n f 0 listed a C := ⟨hr, h⟩
theorem wpV_lexg {n f g : Nat} (hsc : succB md ops n = true) (hs : Region.noSelect ops = true) (hT : ∀ w, T w w) {C : World → Prop} (hC1 : ∀ w w', C w → T w w' → C w') (hC2 : ∀ w, C w → D w) (hne : ∃ ρ, D ρ) {aF : Act} {listed' : Array Bool} :
    ∀ (l : List Oper) (k : Nat) (listed : Array Bool) (a : Act) (seen : List Tmp), k + l.length ≤ n → Closed md ops listed → (∀ j, j < l.length → l[j]? = ops[k + j]?) →
    lexTo md ops l.length k listed = some listed' → dstsB a.tmps.size l seen = true → WalkTo P ops T D aF l a → wpV ro m P md ops Q T D n f g listed' aF C → wpV ro m P md ops Q T D n f (l.length + g) listed a C
  | [], _, listed, a, _, _, _, _, hB, _, h, hK => by
    obtain ⟨ρ, hρ⟩ := hne
    have e : a = aF := h ρ hρ
    have e2 : listed = listed' := by simpa [lexTo] using hB
    subst e e2
    simpa using hK
  | o :: l, k, listed, a, seen, hkn, hcl, hl, hB, hd, h, hK => by
    have h0 : ops[k]? = some o := by simpa using (hl 0 (by simp)).symm
    simp only [List.length_cons, lexTo] at hB
    split at hB
    case isFalse => cases hB
    rename_i hc
    simp only [Bool.and_eq_true] at hc
    obtain ⟨v, seen', h1, h2, h3⟩ := step_of_walk hT hd h
    have hr : k ∈ Region.ready md ops listed := by simpa using hc.1
    have := wpV_lexg hsc hs hT hC1 hC2 hne l (k + 1) _ (a.put o.dst v) seen' (by simp at hkn; omega) (hcl.set hr) (fun j hj => by have := hl (j + 1) (by simp; omega); simpa [Nat.add_assoc, Nat.add_comm 1 j] using this) hB (by rw [put_size]; exact h2) h3 hK
    rw [List.length_cons, Nat.add_right_comm]
    exact wpV_first hsc (by simp at hkn; omega) h0 (Region.noSelect_spec hs) (l.length + g) listed a C hcl hC1 hC2 (Region.free_spec h0 hc.2) hr h1 this
/-- THE REGION: the first k operations have one value each; the next g are walked by classes of worlds; the last f are walked plainly. -/
theorem wpIn_region_mid {id : Nat} {a : Act} {w : World} {l : List Oper} (k g f : Nat) (C D : World → Prop) (T : World → World → Prop) {aF : Act} (hm : P.follows .mixedOrders = true) (hnd : ∀ (j : Nat) (o : Oper) c, l.toArray[j]? = some o → o.op ≠ .defer c)
    (hn : k + g + f = l.length) (hsc : succB .any l.toArray (k + g) = true) (hs : Region.noSelect l.toArray = true) (hB : lexTo .any l.toArray k 0 (Array.replicate l.length false) = some (List.replicate k true ++ List.replicate (g + f) false).toArray) (hd : dstsB a.tmps.size (l.take k) [] = true)
    (hT : ∀ w, T w w) (hC1 : ∀ w w', C w → T w w' → C w') (hC2 : ∀ w, C w → D w) (h0 : C { w with drawn := w.drawn + 1 }) (hA : WalkTo P l.toArray T D aF (l.take k) a)
    (hN : wpV ro m P .any l.toArray Q T D (k + g) f g (List.replicate k true ++ List.replicate (g + f) false).toArray aF C) : (Code.region id l.toArray true).wpIn (wideR ro) m P Q a w := by
  have hlen : (l.take k).length = k := by simp; omega
  have hz : Closed .any l.toArray (Array.replicate l.length false) := by
    intro j o _ hl
    rw [Array.getD_eq_getD_getElem?, Array.getElem?_replicate] at hl
    split at hl <;> cases hl
  have h1 := wpV_lexg (ro := ro) (m := m) (P := P) (md := .any) (ops := l.toArray) (Q := Q) (T := T) (D := D) (n := k + g) (f := f) (g := g) hsc hs hT hC1 hC2 ⟨_, hC2 _ h0⟩ (l.take k) 0 (Array.replicate l.length false) a [] (by rw [hlen]; omega) hz (fun j hj => by rw [hlen] at hj; simp [hj]) (by rw [hlen]; exact hB) hd hA hN
  rw [hlen] at h1
  have h2 := wpAny_of_V hnd (k + g) _ _ _ _ h0 h1
  refine wpIn_region_any hm ?_
  rw [hn] at h2
  simpa using h2
theorem wpIn_append {F : Fence} {n : Nat} {P : Program} {Q : Exit → Act → World → Prop} {o : Oper} {a : Act} {w w' : World} {K : Act → World → Prop} {v u v' : Value} (s x : Operand) (t : TypeId) (hop : o.op = Op.call { callee := Callee.builtin Builtin.append, args := #[s, x], argTypes := #[t, t] })
    (hs : a.eval s = v) (hx : a.eval x = u) (hr : (Builtin.append_ #[t, t] o.type #[v, u]).run P w = .ok v' w') (hk : K (a.put o.dst v') w') : o.wpIn F n P a w K Q := by
  unfold Oper.wpIn
  refine ⟨?_, ?_⟩
  · simp [Oper.about, hop, resolve, Target.leads, Sem.run_pure]
  · rw [Oper.semAt_plain F _ _ (by rw [hop]; intro c hc'; cases hc')]
    simp [execOp, hop, resolve, invoke, builtin, hs, hx, hr, Result.andThen]
    exact hk
end
end Go.MixIn
/- tableout.Print of the table of one row. -/
namespace Go.Proofs.YtcipjifpigpfdaaGreatDoor
open Go.RowKit Go.Shelf Go.Ev
open Go.Lib hiding intOf
attribute [local go_sem] Oper.semAt_some Oper.semAt_none wideR_round wideR_depth wideR_fn
set_option maxHeartbeats 8000000 in
set_option maxRecDepth 100000 in
theorem print_one (w : World) (v : Value) (ky z : ByteArray) (hN : NodesAt w v (oneG ky z)) (hk : ky.size ≤ 100) (hz : z.size ≤ 100) (c1 : chk ky.data.toList = true) (c2 : chk z.data.toList = true) (hE : Tabs w) (hnm : NamesAt w) :
    Calls Tryz.prog 6 #[.agg #[v, .int .i64 0]] w fun e w' => e = .returned (.tuple #[.string ⟨(textT (nmB ky) (czB z) 1).toArray⟩, .int .i64 0]) ∧ Below w.heap.size w w' := by
  have hbx := below_new w (.cells #[v, .int .i64 0] 28)
  have HB0 := PLift.up hbx
  have HV := PLift.up (valid_tree scO (w.alloc (.cells #[v, .int .i64 0] 28)) v 0 (oneG ky z) innO szO rankO (hN.below hbx) (oneG_tree (by unfold maxLen; omega) (by unfold maxLen; omega) c1 c2) (hE.below hbx))
  have HBX := PLift.up (heap_alloc_new w (.cells #[v, .int .i64 0] 28))
  have HNM := PLift.up hnm
  obtain ⟨n, hn1⟩ : ∃ n : Nat, 1 = n := ⟨1, rfl⟩
  have h0 : 0 < n := by omega
  have hn : n ≤ 1 := by omega
  have hFA := fam_at hN
  have HTX := PLift.up (And.intro (nmB_size ky hk) (czB_size z hz))
  rw [hn1] at hFA ⊢
  clear hn1
  obtain ⟨b, o, N, c, rt, ka, kn, kc, ib, io, ic, rfl, hN0, q0, q1, q2, q3, q4, hR⟩ := hFA
  have HC : PLift (∀ W', Below w.heap.size w W' → W'.cell? ⟨b, o, none⟩ = some (.int .i64 9) ∧ W'.cell? ⟨b, o + 1, none⟩ = some (.string rt) ∧ W'.cell? ⟨b, o + 2, none⟩ = some (.bool false) ∧ W'.cell? ⟨b, o + 3, none⟩ = some (.slice ka kn kc) ∧ W'.cell? ⟨b, o + 4, none⟩ = some (.slice (some ⟨ib, io, none⟩) n ic)) :=
    ⟨fun W' hb => ⟨cell_keep hb q0, cell_keep hb q1, cell_keep hb q2, cell_keep hb q3, cell_keep hb q4⟩⟩
  have HR : PLift (∀ W', Below w.heap.size w W' → ∀ i, i < n → ∃ k : Nat, k < N ∧ W'.cell? ⟨ib, io + i, none⟩ = some (.int .i64 k) ∧ RowF W' (.slice (some ⟨b, o, none⟩) N c) b o k ky z) :=
    ⟨fun W' hb i hi => by obtain ⟨k, h1, h2, h3⟩ := hR i hi; exact ⟨k, h1, cell_keep hb h2, h3.below hb⟩⟩
  have HN0 := PLift.up (And.intro hN0 (And.intro h0 hn))
  have hNz : (0 : Int) < (N : Int) := by omega
  have hnz : ¬ ((n : Int) = 0) := by omega
  have hn0 : (0 : Int) < (n : Int) := by omega
  clear hbx hN hnm q0 q1 q2 q3 q4 hR hN0 hE c1 c2
  refine (callsIn_wide (n := 1)).1 ?_
  change CallsIn (wideR none) 1 _ _ _ _ _
  refine callsIn_of_wp_marks Tryz.func6 rfl trivial ?_ rfl
  simp only [Tryz.ntmps6, List.size_toArray, List.length_cons, List.length_nil, Nat.reduceAdd, Nat.reduceSub, Array.replicate_succ, Array.replicate_zero, List.push_toArray, List.append_toArray, List.nil_append, List.cons_append]
  gi_upto_region 1 with fail
  obtain ⟨W0, hW0⟩ : ∃ W0, w.alloc (.cells #[.slice (some ⟨b, o, none⟩) N c, .int .i64 0] 28) = W0 := ⟨_, rfl⟩
  rw [hW0] at HV HB0 HBX ⊢
  have hs0 : W0.heap.size = w.heap.size + 1 := by rw [← hW0]; exact size_new _ _
  have HS0 := PLift.up hs0
  clear hW0 hs0
  have g0 : W0.cell? ⟨w.heap.size, 0, none⟩ = some (.slice (some ⟨b, o, none⟩) N c) := (Lib.cell_of_heap HBX.down 0).trans rfl
  have g1 : W0.cell? ⟨w.heap.size, 1, none⟩ = some (.int .i64 0) := (Lib.cell_of_heap HBX.down 1).trans rfl
  gi_upto_region 4 with (gi_at_call 13; refine (calls_at HV.down none _).mono ?_; rintro e w1 ⟨rfl, hb1⟩; have HB1 := PLift.up (HB0.down.trans (hb1.mono HB0.down.size)); have HX1 := PLift.up ((hb1.block _ (block_lt HBX.down)).trans HBX.down); clear hb1)
  have f0 : w1.cell? ⟨w.heap.size, 0, none⟩ = some (.slice (some ⟨b, o, none⟩) N c) := (Lib.cell_of_heap HX1.down 0).trans rfl
  have f1 : w1.cell? ⟨w.heap.size, 1, none⟩ = some (.int .i64 0) := (Lib.cell_of_heap HX1.down 1).trans rfl
  obtain ⟨r0, r1, r2, r3, r4⟩ := HC.down w1 HB1.down
  clear g0 g1 HV HB0 HBX
  gi_upto_region 9 with fail
  obtain ⟨W2, hW2⟩ : ∃ W2, w1.alloc (.cells #[.int .i64 9, .string rt, .bool false, .slice ka kn kc, .slice (some ⟨ib, io, none⟩) n ic] 25) = W2 := ⟨_, rfl⟩
  have HB2 : PLift (Below w.heap.size w W2) := ⟨by rw [← hW2]; exact HB1.down.trans ((below_new w1 _).mono HB1.down.size)⟩
  have HX2 : PLift (W2.heap[w.heap.size]? = some (.cells #[.slice (some ⟨b, o, none⟩) N c, .int .i64 0] 28)) := ⟨by rw [← hW2, (below_new w1 _).block _ (block_lt HX1.down)]; exact HX1.down⟩
  have HY2 : PLift (W2.heap[w1.heap.size]? = some (.cells #[.int .i64 9, .string rt, .bool false, .slice ka kn kc, .slice (some ⟨ib, io, none⟩) n ic] 25)) := ⟨by rw [← hW2]; exact heap_alloc_new _ _⟩
  rw [hW2]
  clear f0 f1 r0 r1 r2 r3 r4 hW2 HX1
  obtain ⟨k, hkN, hk0, rt1, lb, lo, kc1, mb, mo, mc, a1, n1, c1, a2, n2, c2, s0, s1, s2, s3, s4, hrc⟩ := HR.down W2 HB2.down 0 HN0.down.2.1
  have HRC := PLift.up hrc
  have hkN2 : (k : Int) < (N : Int) := by omega
  have f0 : W2.cell? ⟨w.heap.size, 0, none⟩ = some (.slice (some ⟨b, o, none⟩) N c) := (Lib.cell_of_heap HX2.down 0).trans rfl
  have f1 : W2.cell? ⟨w.heap.size, 1, none⟩ = some (.int .i64 0) := (Lib.cell_of_heap HX2.down 1).trans rfl
  have e4 : W2.cell? ⟨w1.heap.size, 4, none⟩ = some (.slice (some ⟨ib, io, none⟩) n ic) := (Lib.cell_of_heap HY2.down 4).trans rfl
  rw [Nat.add_zero] at hk0
  clear hrc
  refine MixIn.wpIn_region_tail (aF := ?_) 9 2 (fun W' => ∃ j, W' = W2.drewN j) (fun W' => ∃ j, W' = W2.drewN j) (fun w' w'' => ∃ j, w'' = w'.drewN j) (by kernel_rfl) (noDefer_of (by kernel_rfl)) rfl (by kernel_rfl) (by kernel_rfl) (by kernel_rfl) (by kernel_rfl) (by kernel_rfl) (fun w' => ⟨0, rfl⟩) (fun _ _ h k => drewN_two h k) (fun _ h => h) ⟨1, rfl⟩ ?_ ?_
  rotate_left 1
  · rintro ρ ⟨j, rfl⟩
    simp only [List.take_succ_cons, List.take_zero]
    repeat (go_big_quiet_step (fail))
    apply wpQuiet_nil
    exact rfl
  rintro W' ⟨j, rfl⟩
  have hbj : Below W2.heap.size W2 (W2.drewN j) := ⟨rfl, rfl, rfl, Nat.le_refl _, fun _ _ => rfl⟩
  have HCO := PLift.up (columns_one (W2.drewN j) _ _ ky 5 z false _ _ (HRC.down.below hbj))
  refine MixIn.wpAnyIn_one (i := 9) (by kernel_rfl) ?_
  refine wpOpIn_of rfl rfl ?_
  unfold Oper.wpIn
  refine ⟨fun _ _ => trivial, ?_⟩
  go_simp
  refine (calls_at HCO.down none _).mono ?_
  rintro e w3 ⟨v1, rfl, hown1, hb3⟩
  obtain ⟨ac, cc, cur1, rfl, -, hg1, hcur1⟩ := own_at hown1 (by decide)
  have HB3 : PLift (Below w.heap.size w w3) := ⟨HB2.down.trans ((hbj.trans (hb3.mono hbj.size)).mono HB2.down.size)⟩
  have HK3 : PLift (w3.cell? ⟨ac, 0, none⟩ = some (.string ky)) := ⟨(Lib.cell_of_heap hg1 0).trans (hcur1 0 _ rfl)⟩
  have HX3 : PLift (w3.heap[w.heap.size]? = some (.cells #[.slice (some ⟨b, o, none⟩) N c, .int .i64 0] 28)) := ⟨(hb3.block _ (block_lt HX2.down)).trans HX2.down⟩
  have HY3 : PLift (w3.heap[w1.heap.size]? = some (.cells #[.int .i64 9, .string rt, .bool false, .slice ka kn kc, .slice (some ⟨ib, io, none⟩) n ic] 25)) := ⟨(hb3.block _ (block_lt HY2.down)).trans HY2.down⟩
  clear hown1 hb3 hg1 hcur1 HCO hbj f0 f1 e4 s0 s1 s2 s3 s4 hk0 hkN hkN2 HRC HX2 HY2
  refine MixIn.wpAnyIn_one (i := 10) (by kernel_rfl) ?_
  refine wpOpIn_of rfl rfl ?_
  unfold Oper.wpIn
  refine ⟨fun _ _ => trivial, ?_⟩
  go_simp
  refine MixIn.wpAnyIn_last (by kernel_rfl) ?_
  have y4 : w3.cell? ⟨w1.heap.size, 4, none⟩ = some (.slice (some ⟨ib, io, none⟩) n ic) := (Lib.cell_of_heap HY3.down 4).trans rfl
  have hmm := @run_makeMap Tryz.prog
  obtain ⟨W4, hW4⟩ : ∃ W4, w3.alloc (.map #[] 0) = W4 := ⟨_, rfl⟩
  have HB4 : PLift (Below w.heap.size w W4) := ⟨by rw [← hW4]; exact HB3.down.trans ((below_new w3 _).mono HB3.down.size)⟩
  have HX4 : PLift (W4.heap[w.heap.size]? = some (.cells #[.slice (some ⟨b, o, none⟩) N c, .int .i64 0] 28)) := ⟨by rw [← hW4, (below_new w3 _).block _ (block_lt HX3.down)]; exact HX3.down⟩
  have HY4 : PLift (W4.heap[w1.heap.size]? = some (.cells #[.int .i64 9, .string rt, .bool false, .slice ka kn kc, .slice (some ⟨ib, io, none⟩) n ic] 25)) := ⟨by rw [← hW4, (below_new w3 _).block _ (block_lt HY3.down)]; exact HY3.down⟩
  have HK4 : PLift (W4.cell? ⟨ac, 0, none⟩ = some (.string ky)) := ⟨by rw [← hW4]; exact cell_keep (below_new w3 _) HK3.down⟩
  have HKM : PLift (KM W4 w3.heap.size 0 0 ky) := ⟨by rw [← hW4]; exact KM.made w3 _⟩
  have HML := PLift.up HKM.down.lt
  have z4 : W4.cell? ⟨w1.heap.size, 4, none⟩ = some (.slice (some ⟨ib, io, none⟩) n ic) := (Lib.cell_of_heap HY4.down 4).trans rfl
  have HLT : PLift (w.heap.size < w3.heap.size ∧ w1.heap.size < w3.heap.size ∧ ac < w3.heap.size) := ⟨block_lt HX3.down, block_lt HY3.down, World.block_lt_of_cell? w3 _ HK3.down⟩
  clear HX3 HY3 HK3
  gi_upto_region 11 with fail
  clear hW4 y4
  gi_wp2
  gi_loopw [53] (fun iv wr => ∃ i : Nat, iv = .int .i64 i ∧ i ≤ n ∧ W4.grownBy wr (some w3.heap.size) ∧ KM wr w3.heap.size (if i = 0 then 0 else 5) i ky) (fun iv _ => n - (intOf iv).toNat)
  case atStart => exact ⟨0, rfl, Nat.zero_le _, ⟨rfl, rfl, rfl, Nat.le_refl _, fun _ _ _ => rfl⟩, HKM.down⟩
  case round =>
    obtain ⟨i, rfl, hi, hg, hkm⟩ := hrel
    have hne : ∀ q, q < w3.heap.size → some q ≠ some w3.heap.size := fun q hq e => by have := Option.some.inj e; omega
    have hbr : Below w.heap.size w wr := ⟨hg.os.trans HB4.down.os, hg.tape.trans HB4.down.tape, hg.output.trans HB4.down.output, Nat.le_trans HB4.down.size hg.size, fun q hq => by
      rw [hg.block q (Nat.lt_of_lt_of_le hq HB4.down.size) (hne q (by have := HLT.down; omega))]; exact HB4.down.block q hq⟩
    have hXr : wr.heap[w.heap.size]? = some (.cells #[.slice (some ⟨b, o, none⟩) N c, .int .i64 0] 28) := by rw [hg.block _ (block_lt HX4.down) (hne _ HLT.down.1)]; exact HX4.down
    have hYr : wr.heap[w1.heap.size]? = some (.cells #[.int .i64 9, .string rt, .bool false, .slice ka kn kc, .slice (some ⟨ib, io, none⟩) n ic] 25) := by rw [hg.block _ (block_lt HY4.down) (hne _ HLT.down.2.1)]; exact HY4.down
    have hKr : wr.cell? ⟨ac, 0, none⟩ = some (.string ky) := by
      have h1 := HK4.down
      unfold World.cell? at h1 ⊢
      rw [hg.block ac (World.block_lt_of_cell? W4 _ HK4.down) (hne _ HLT.down.2.2)]; exact h1
    have HBR := PLift.up hbr
    have HXR := PLift.up hXr
    have HYR := PLift.up hYr
    have HKR := PLift.up hKr
    have HKMR := PLift.up hkm
    have HG := PLift.up hg
    clear hbr hXr hYr hKr hkm hg z4
    by_cases hin : i < n
    · obtain ⟨k2, hk2N, hk2, rt2, lb2, lo2, kc2, mb2, mo2, mc2, x1, x2, x3, y1, y2, y3, s0, s1, s2, s3, s4, hrc⟩ := HR.down wr HBR.down i hin
      have HRC := PLift.up hrc
      have hkN2 : (k2 : Int) < (N : Int) := by omega
      have hin2 : (i : Int) < (n : Int) := by omega
      have f0 : wr.cell? ⟨w.heap.size, 0, none⟩ = some (.slice (some ⟨b, o, none⟩) N c) := (Lib.cell_of_heap HXR.down 0).trans rfl
      have f1 : wr.cell? ⟨w.heap.size, 1, none⟩ = some (.int .i64 0) := (Lib.cell_of_heap HXR.down 1).trans rfl
      clear hrc
      gi_upto_region 14 with fail
      refine MixIn.wpIn_region_tail (aF := ?_) 8 2 (fun W' => ∃ j, W' = wr.drewN j) (fun W' => ∃ j, W' = wr.drewN j) (fun w' w'' => ∃ j, w'' = w'.drewN j) (by kernel_rfl) (noDefer_of (by kernel_rfl)) rfl (by kernel_rfl) (by kernel_rfl) (by kernel_rfl) (by kernel_rfl) (by kernel_rfl) (fun w' => ⟨0, rfl⟩) (fun _ _ h k => drewN_two h k) (fun _ h => h) ⟨1, rfl⟩ ?_ ?_
      rotate_left 1
      · rintro ρ ⟨j, rfl⟩
        simp only [List.take_succ_cons, List.take_zero]
        repeat (go_big_quiet_step (fail))
        apply wpQuiet_nil
        exact rfl
      rintro W' ⟨j, rfl⟩
      have hbj : Below wr.heap.size wr (wr.drewN j) := ⟨rfl, rfl, rfl, Nat.le_refl _, fun _ _ => rfl⟩
      have hgj : wr.grownBy (wr.drewN j) none := grown_of_below hbj
      have HRO := PLift.up (row_one (wr.drewN j) _ _ ky 5 z false _ _ ac cc w3.heap.size i (if i = 0 then 0 else 5) (HRC.down.below hbj) (cell_keep hbj HKR.down) (HKMR.down.kept hgj (by simp)) (by unfold maxLen; omega) (by omega) (by omega) (by by_cases h : i = 0 <;> simp [h]) ⟨_, _, _, rfl⟩ ⟨_, _, _, rfl⟩)
      clear hbj hgj f0 f1 s0 s1 s2 s3 s4 hk2
      refine MixIn.wpAnyIn_one (i := 8) (by kernel_rfl) ?_
      refine wpOpIn_of rfl rfl ?_
      unfold Oper.wpIn
      refine ⟨fun _ _ => trivial, ?_⟩
      go_simp
      refine (calls_at HRO.down none _).mono ?_
      rintro e w5 ⟨rfl, hkm5, hg5⟩
      have HK5 := PLift.up hkm5
      have HG5 := PLift.up hg5
      clear hkm5 hg5 HRO
      refine MixIn.wpAnyIn_one (i := 9) (by kernel_rfl) ?_
      refine wpOpIn_of rfl rfl ?_
      unfold Oper.wpIn
      refine ⟨fun _ _ => trivial, ?_⟩
      go_simp
      refine MixIn.wpAnyIn_last (by kernel_rfl) ?_
      gi_wp2
      go_roundw
      case rel =>
        refine ⟨i + 1, ?_, by omega, ?_, ?_⟩
        · simp
        · have h1 := HG.down
          have h5 := HG5.down
          exact ⟨h5.os.trans h1.os, h5.tape.trans h1.tape, h5.output.trans h1.output, Nat.le_trans h1.size h5.size, fun q hq hn => by rw [h5.block q (Nat.lt_of_lt_of_le hq h1.size) hn]; exact h1.block q hq hn⟩
        · rw [if_neg (by omega)]; exact HK5.down
      case measure => simp [intOf]; omega
    obtain rfl : n = i := by omega
    have hin2 : ¬ ((n : Int) < (n : Int)) := by omega
    gi_upto_region 18 with fail
    clear HC
    have HKM6 : PLift (KM wr w3.heap.size 5 n ky) := ⟨by have h := HKMR.down; rwa [if_neg (by omega)] at h⟩
    obtain ⟨W5, hW5⟩ : ∃ W5, wr.alloc (.cells #[.pointer none, .slice none 0 0] 54) = W5 := ⟨_, rfl⟩
    have HB5 : PLift (Below wr.heap.size wr W5) := ⟨by rw [← hW5]; exact below_new wr _⟩
    have HIB : PLift (Lib.IsBuilder 54 5 wr.heap.size wr.heap.size (Lib.byteCells []) W5) := ⟨by rw [← hW5]; exact Lib.fresh_isBuilder _ _ wr⟩
    have HS5 : PLift (W5.heap.size = wr.heap.size + 1) := ⟨by rw [← hW5]; exact size_new _ _⟩
    have c6 := cell_keep HB5.down HKR.down
    gi_upto_region 21 with fail
    clear hW5
    gi_wp2
    refine wpIn_loop_rounds 2 ?_
    rw [roundsIn_succ]
    gi_upto_region 24 with fail
    have HW5 : PLift (w.heap.size < W5.heap.size ∧ w3.heap.size < W5.heap.size) := ⟨by have h1 := HLT.down; have h2 := HKMR.down.lt; have h3 := HS5.down; omega⟩
    have HQ : PLift (∀ ρ, Below W5.heap.size W5 ρ → (Instr.lookup 49 (.map (some w3.heap.size)) (.string ky) false).run Tryz.prog ρ = .ok (.int .i64 5) ρ ∧ ρ.cell? ⟨0, 5, none⟩ = some (.string ⟨#[116, 101, 120, 116]⟩)) := ⟨fun ρ hρ => by
      have hb := HB5.down.trans (hρ.mono HB5.down.size)
      have hbw := HBR.down.trans (hb.mono HBR.down.size)
      refine ⟨(HKM6.down.kept (grown_of_below hb) (by simp)).look (by unfold maxLen; omega), ?_⟩
      obtain ⟨ty, fr, hnm⟩ := HNM.down
      have hlt := block_lt hnm
      have h1 := (hbw.block _ hlt).trans hnm
      exact (Lib.cell_of_heap h1 5).trans rfl⟩
    have HNA := PLift.up (fun W => name_any ky W (by omega))
    refine MixIn.wpIn_region_mid (aF := ?_) 10 1 2 (fun W' => Below W5.heap.size W5 W') (fun W' => Below W5.heap.size W5 W') (fun w' w'' => ∃ x : MixIn.Grow w', w'' = x.w) (by kernel_rfl) (noDefer_of (by kernel_rfl)) rfl (by kernel_rfl) (by kernel_rfl) (by kernel_rfl) (by kernel_rfl) (fun w' => ⟨⟨w', Below.refl _ _⟩, rfl⟩) (fun _ _ h ⟨x, k⟩ => k ▸ h.trans (x.h.mono h.size)) (fun _ h => h) ⟨rfl, rfl, rfl, Nat.le_refl _, fun _ _ => rfl⟩ ?_ ?_
    rotate_left 1
    · intro ρ hρ
      have hlk := fun x : MixIn.Grow ρ => (HQ.down x.w (hρ.trans (x.h.mono hρ.size))).1
      have hnmc := fun x : MixIn.Grow ρ => (HQ.down x.w (hρ.trans (x.h.mono hρ.size))).2
      have hs1 := HTX.down.1
      have hs2 : (nmB ky ++ (⟨#[58]⟩ : ByteArray)).size ≤ 1001 := by rw [ByteArray.size_append]; show _ + 1 ≤ _; omega
      simp only [List.take_succ_cons, List.take_zero]
      repeat (go_big_quiet_step ((go_at_call 19; exact MixIn.Grow.calls (HNA.down _))))
      apply wpQuiet_nil
      exact rfl
    refine MixIn.wpV_one (i := 10) (by kernel_rfl) rfl (by kernel_rfl) (fun u W' => ∃ g, u = .slice (some ⟨g, 0, none⟩) 1 1 ∧ W5.heap.size ≤ g ∧ W'.cell? ⟨g, 0, none⟩ = some (.string (headT (nmB ky))) ∧ Below W5.heap.size W5 W') ?_ (fun _ _ h => by obtain ⟨_, _, _, _, h⟩ := h; exact h) ?_ ?_
    · rintro _ X X' ⟨g, rfl, h1, h2, h3⟩ ⟨x, rfl⟩
      exact ⟨g, rfl, h1, cell_keep x.h h2, h3.trans (x.h.mono h3.size)⟩
    · intro X hX
      go_simp
      refine ⟨X.heap.size, rfl, hX.size, ?_, hX.trans ((below_new X _).mono hX.size)⟩
      refine (Lib.cell_of_heap (heap_alloc_new X _) 0).trans ?_
      exact congrArg some (congrArg Value.string (by kernel_rfl))
    rintro _ X ⟨g, rfl, -⟩
    refine MixIn.wpV_end (by kernel_rfl) ?_
    rintro W6 ⟨g', e', hgl, hgc, hb6⟩
    cases e'
    obtain ⟨i0, hi0, hz0, hz1, hz2⟩ := info_parts info_str0
    obtain ⟨v7, w7, hr7, hown7, hg7, -⟩ := run_append_own (P := Tryz.prog) W6 W5.heap.size 47 47 9 i0 (.string ⟨#[]⟩) 1 16 Tryz.underlying47 hi0 hz0 hz1 hz2 rfl (by decide) (.slice none 0 0) 0 [] (World.ownsRow_nil _ _ _ _) ⟨g, 0, none⟩ 1 1 [.string (headT (nmB ky))] rfl
      (by intro j u hj; match j, hj with | 0, hj => simp only [List.getElem?_cons_zero, Option.some.injEq] at hj; subst hj; exact hgc | j + 1, hj => simp at hj) (by simp [Value.oneCell']) (by decide) (by decide) hb6.size
    have hown7 : w7.ownsRow W5.heap.size 9 1 v7 1 [.string (headT (nmB ky))] := hown7
    obtain ⟨ah, ch, cur7, rfl, -, hgh, hcur7⟩ := own_at hown7 (by decide)
    have HB7 : PLift (Below W5.heap.size W5 w7) := ⟨hb6.grown hg7 hb6.size (fun k hk => by cases hk)⟩
    have HH7 : PLift (w7.cell? ⟨ah, 0, none⟩ = some (.string (headT (nmB ky)))) := ⟨(Lib.cell_of_heap hgh 0).trans (hcur7 0 _ rfl)⟩
    clear hown7 hgh hcur7 hg7 hgc hgl hb6 hi0 hz0 hz1 hz2
    refine MixIn.wpAnyIn_one (i := 11) (by kernel_rfl) ?_
    refine wpOpIn_of rfl rfl ?_
    refine MixIn.wpIn_append _ _ _ rfl rfl rfl hr7 ?_
    simp only [Act.put, List.setIfInBounds_toArray]
    refine MixIn.wpAnyIn_one (i := 12) (by kernel_rfl) ?_
    refine wpOpIn_of rfl rfl ?_
    unfold Oper.wpIn
    refine ⟨fun _ _ => trivial, ?_⟩
    go_simp
    refine MixIn.wpAnyIn_last (by kernel_rfl) ?_
    gi_wp2
    rw [roundsIn_succ]
    gi_upto_region 26 with fail
    have HIB7 := PLift.up (bld_below HIB.down HB7.down)
    have HLN := PLift.up (line_any wr.heap.size [] (headT (nmB ky)) ah ch w7 HIB7.down HH7.down (by rw [headT_size]; have h1 := HTX.down.1; show 0 + _ + 1 ≤ _; omega) (by have h1 := HS5.down; have h2 := HB7.down.size; omega))
    gi_upto_region 27 with (gi_at_call 16; refine (calls_at HLN.down none _).mono ?_; rintro e w8 ⟨rfl, hib8, hb8, -⟩; have HIB8 : PLift (Lib.IsBuilder 54 5 wr.heap.size wr.heap.size (Lib.byteCells (textT (nmB ky) (czB z) 0)) w8) := ⟨hib8⟩; have HB8 : PLift (Below wr.heap.size wr w8) := ⟨HB5.down.trans ((HB7.down.mono HB5.down.size).trans hb8)⟩; clear hib8 hb8)
    have HY8 : PLift (w8.heap[w1.heap.size]? = some (.cells #[.int .i64 9, .string rt, .bool false, .slice ka kn kc, .slice (some ⟨ib, io, none⟩) n ic] 25)) := ⟨(HB8.down.block _ (block_lt HYR.down)).trans HYR.down⟩
    have HX8 : PLift (w8.heap[w.heap.size]? = some (.cells #[.slice (some ⟨b, o, none⟩) N c, .int .i64 0] 28)) := ⟨(HB8.down.block _ (block_lt HXR.down)).trans HXR.down⟩
    have HW8 : PLift (Below w.heap.size w w8) := ⟨HBR.down.trans (HB8.down.mono HBR.down.size)⟩
    have HLW : PLift (w.heap.size < wr.heap.size) := ⟨block_lt HXR.down⟩
    have x8 : w8.cell? ⟨w1.heap.size, 4, none⟩ = some (.slice (some ⟨ib, io, none⟩) n ic) := (Lib.cell_of_heap HY8.down 4).trans rfl
    clear HLN HIB7 HH7 HB7 HQ HNA HIB HB5 c6 HKM6 HKMR HG HKR HYR HXR HS5 HW5 HLT HKM HK4 HX4 HY4 HNM hmm
    gi_wp2
    refine wpIn_loop_at (fun A a' W => ∃ (i : Nat) (ds : List Deferred) (u17 u18 u97 u98 u99 u100 u101 u102 u103 u104 u105 u106 u114 u115 u116 u117 : Value), a' = { tmps := (((((((((((((((((A.setIfInBounds 17 u17).setIfInBounds 18 u18).setIfInBounds 96 (.int .i64 (i : Int))).setIfInBounds 97 u97).setIfInBounds 98 u98).setIfInBounds 99 u99).setIfInBounds 100 u100).setIfInBounds 101 u101).setIfInBounds 102 u102).setIfInBounds 103 u103).setIfInBounds 104 u104).setIfInBounds 105 u105).setIfInBounds 106 u106).setIfInBounds 114 u114).setIfInBounds 115 u115).setIfInBounds 116 u116).setIfInBounds 117 u117), defers := ds } ∧ i ≤ n ∧ Lib.IsBuilder 54 5 wr.heap.size wr.heap.size (Lib.byteCells (textT (nmB ky) (czB z) i)) W ∧ Below wr.heap.size w8 W ∧ Marks (wr.heap.size + 1) W.heap.size ds W)
      (fun a' _ => n - (intOf (a'.tmps.getD 96 undef)).toNat) ⟨0, [], undef, undef, undef, undef, undef, undef, undef, undef, undef, undef, undef, undef, undef, undef, undef, undef, ?st, Nat.zero_le _, HIB8.down, Below.refl _ _, trivial⟩ ?rd
    case st =>
      simp only [List.setIfInBounds_toArray, List.set_cons_succ, List.set_cons_zero]
      rfl
    rintro _ W ⟨i, ds, u17, u18, u97, u98, u99, u100, u101, u102, u103, u104, u105, u106, u114, u115, u116, u117, rfl, hi, hib, hbb, hmk⟩
    simp only [List.setIfInBounds_toArray, List.set_cons_succ, List.set_cons_zero]
    have HIBW := PLift.up hib
    have HBB := PLift.up hbb
    have HMK := PLift.up hmk
    have HBW : PLift (Below w.heap.size w W) := ⟨HW8.down.trans (hbb.mono (Nat.le_of_lt HLW.down))⟩
    have HWRW : PLift (wr.heap.size < W.heap.size) := ⟨by rcases hib with h | h <;> exact h.lt⟩
    clear hib hbb hmk x8
    by_cases hin : i < n
    · obtain ⟨k2, hk2N, hk2, hrf⟩ := HR.down W HBW.down i hin
      have hk2N2 : (k2 : Int) < (N : Int) := by omega
      have hin2 : (i : Int) < (n : Int) := by omega
      have HXW : PLift (W.heap[w.heap.size]? = some (.cells #[.slice (some ⟨b, o, none⟩) N c, .int .i64 0] 28)) := ⟨(HBB.down.block _ HLW.down).trans HX8.down⟩
      obtain ⟨V1, hV1⟩ : ∃ V1, W.alloc (.cells #[.slice none 0 0] 47) = V1 := ⟨_, rfl⟩
      have HV1 : PLift (Below W.heap.size W V1) := ⟨by rw [← hV1]; exact below_new W _⟩
      have HBX1 : PLift (Boxed V1 W.heap.size 47 (.slice none 0 0)) := ⟨by rw [← hV1]; exact Boxed.new _ _ _⟩
      obtain ⟨rt2, lb2, lo2, kc2, mb2, mo2, mc2, x1, x2, x3, y1, y2, y3, s0, s1, s2, s3, s4, hrc⟩ := hrf.below HV1.down
      have HRC := PLift.up hrc
      have hX1 : V1.heap[w.heap.size]? = some (.cells #[.slice (some ⟨b, o, none⟩) N c, .int .i64 0] 28) := (HV1.down.block _ (block_lt HXW.down)).trans HXW.down
      have f0 : V1.cell? ⟨w.heap.size, 0, none⟩ = some (.slice (some ⟨b, o, none⟩) N c) := (Lib.cell_of_heap hX1 0).trans rfl
      have f1 : V1.cell? ⟨w.heap.size, 1, none⟩ = some (.int .i64 0) := (Lib.cell_of_heap hX1 1).trans rfl
      clear hrc hrf hX1
      gi_upto_region 31 with fail
      clear hV1
      refine MixIn.wpIn_region_tail (aF := ?_) 6 1 (fun W' => ∃ j, W' = V1.drewN j) (fun W' => ∃ j, W' = V1.drewN j) (fun w' w'' => ∃ j, w'' = w'.drewN j) (by kernel_rfl) (noDefer_of (by kernel_rfl)) rfl (by kernel_rfl) (by kernel_rfl) (by kernel_rfl) (by kernel_rfl) (by kernel_rfl) (fun w' => ⟨0, rfl⟩) (fun _ _ h k => drewN_two h k) (fun _ h => h) ⟨1, rfl⟩ ?_ ?_
      rotate_left 1
      · rintro ρ ⟨j, rfl⟩
        simp only [List.take_succ_cons, List.take_zero]
        repeat (go_big_quiet_step (fail))
        apply wpQuiet_nil
        exact rfl
      rintro W' ⟨j, rfl⟩
      clear f0 f1 s0 s1 s2 s3 s4 hk2
      refine MixIn.wpAnyIn_one (i := 6) (by kernel_rfl) ?_
      refine wpOpIn_of rfl rfl ?_
      unfold Oper.wpIn
      refine ⟨fun _ _ => trivial, ?_⟩
      go_simp
      refine (calls_at (entries_one _ _ _ _ _ _ _ _ _ _ _ _ _ _) none _).mono ?_
      rintro e X3 ⟨rfl, rfl⟩
      refine MixIn.wpAnyIn_last (by kernel_rfl) ?_
      have hbj : Below V1.heap.size V1 (V1.drewN j) := ⟨rfl, rfl, rfl, Nat.le_refl _, fun _ _ => rfl⟩
      have HA := allocs_at [.cells #[.slice (some ⟨b, o, none⟩) N c, .int .i64 0] 28, .cells #[.int .i64 10, .string rt2, .bool false, .slice (some ⟨lb2, lo2, none⟩) 1 kc2, .slice (some ⟨mb2, mo2, none⟩) 1 mc2] 25] (V1.drewN j)
      unfold allocs allocs allocs at HA
      obtain ⟨hbl, hsl, hatl⟩ := HA
      have hV4 := hbj.trans (hbl.mono hbj.size)
      have HE := entries1 _ 0 _ _ ky 5 z false _ _ (fun _ _ => True) ((HRC.down.below hV4).at (hatl 0 _ rfl) (hatl 1 _ rfl))
      have HIBR := PLift.up (bld_below HIBW.down HV1.down)
      have HTR := PLift.up (text_room (nmB ky) (czB z) HTX.down.1 HTX.down.2 i (by omega))
      have hbx1 := HBX1.down.kept (grown_of_below hV4) (by simp)
      generalize hWl : World.alloc _ _ = Wl at hV4 HE hbx1 ⊢
      have HWV : PLift (Below W.heap.size W Wl) := ⟨HV1.down.trans (hV4.mono HV1.down.size)⟩
      have HLW4 : PLift (W.heap.size < Wl.heap.size) := ⟨hbx1.lt⟩
      clear hWl hbl hsl hatl hbj
      gi_wp2
      refine rangeFunc_boxed (Nat.le_refl 1) (gf := 45) (lb := #[.pointer (some ⟨(V1.drewN j).heap.size, 0, none⟩), .pointer (some ⟨(V1.drewN j).heap.size + 1, 0, none⟩)]) rfl (enters_of Tryz.func45 (by kernel_rfl) rfl) HE (fun _ => rfl)
        (fun pre X => ((∃ v, Boxed X W.heap.size 47 v ∧ X.ownsRow W.heap.size 9 1 v pre.length (pre.map fun (_ : Unit) => Value.string (czB z)) ∧ True) ∧ Below W.heap.size W X) ∧ Wl.heap.size ≤ X.heap.size)
        (OwnFrom.and (OwnFrom.and (Own.from (holdsRow_own W.heap.size W.heap.size 47 9 1 (fun (pre : List Unit) => pre.length) (fun pre => pre.map fun (_ : Unit) => Value.string (czB z)) (fun _ _ => True)) _) (ownFrom_below (Nat.le_refl _) (Nat.le_of_lt HLW4.down))) (fun pre X X' row hs hg hr => Nat.le_trans hs hg.size))
        (fun _ _ h => h.2) ⟨⟨⟨_, hbx1, World.ownsRow_nil _ _ _ _, trivial⟩, HWV.down⟩, Nat.le_refl _⟩
        (fun _ => #[.int .i64 5, .string z, .bool false, .slice x1 x2 x3, .slice y1 y2 y3]) 25 (fun A _ Bx => (((A.setIfInBounds 107 (.string ky)).setIfInBounds 108 (.agg #[.int .i64 5, .string z, .bool false, .slice x1 x2 x3, .slice y1 y2 y3])).setIfInBounds 20 (.pointer (some ⟨Bx, 0, none⟩)))) ?assign ?body ?done
      case assign =>
        intro l x X K hK
        simp only [entV]
        gi_wp2
        simpa only [List.setIfInBounds_toArray, List.set_cons_succ, List.set_cons_zero] using hK
      case body =>
        rintro l pre x Bx X hl hloop ⟨⟨⟨v, hv, hrow, -⟩, hB⟩, hsz⟩ hBx hbx hlt
        obtain rfl : pre = [] := List.length_eq_zero_iff.1 (by omega)
        simp only [List.setIfInBounds_toArray, List.set_cons_succ, List.set_cons_zero]
        gi_upto_region 33 with fail
        have HQ : PLift (∀ ρ, Below X.heap.size X ρ → ρ.cell? ⟨W.heap.size, 0, none⟩ = some v ∧ ρ.cell? ⟨Bx, 0, none⟩ = some (.int .i64 5) ∧ ρ.cell? ⟨Bx, 1, none⟩ = some (.string z) ∧ ρ.cell? ⟨Bx, 2, none⟩ = some (.bool false) ∧ ρ.cell? ⟨Bx, 3, none⟩ = some (.slice x1 x2 x3) ∧ ρ.cell? ⟨Bx, 4, none⟩ = some (.slice y1 y2 y3)) := ⟨fun ρ hρ =>
          have h1 := (hρ.block _ (block_lt hbx)).trans hbx
          ⟨cell_keep hρ hv.cell, (Lib.cell_of_heap h1 0).trans rfl, (Lib.cell_of_heap h1 1).trans rfl, (Lib.cell_of_heap h1 2).trans rfl, (Lib.cell_of_heap h1 3).trans rfl, (Lib.cell_of_heap h1 4).trans rfl⟩⟩
        have HCB := PLift.up (fun (Y : World) => cell_text z Y false x1 x2 x3 y1 y2 y3 (by omega))
        have HVX := PLift.up hv
        have HRX := PLift.up hrow
        have HBX := PLift.up (And.intro hB hsz)
        clear hv hrow hB hsz hbx hloop hl hBx
        refine MixIn.wpIn_region_mid (ro := some l) (aF := ?_) 3 1 2 (fun X' => Below X.heap.size X X') (fun X' => Below X.heap.size X X') (fun w' w'' => ∃ x : MixIn.Grow w', w'' = x.w) (by kernel_rfl) (noDefer_of (by kernel_rfl)) rfl (by kernel_rfl) (by kernel_rfl) (by kernel_rfl) (by kernel_rfl) (fun w' => ⟨⟨w', Below.refl _ _⟩, rfl⟩) (fun _ _ h ⟨x, k⟩ => k ▸ h.trans (x.h.mono h.size)) (fun _ h => h) ⟨rfl, rfl, rfl, Nat.le_refl _, fun _ _ => rfl⟩ ?_ ?_
        rotate_left 1
        · intro ρ hρ
          have hq0 := fun x : MixIn.Grow ρ => (HQ.down x.w (hρ.trans (x.h.mono hρ.size))).1
          have hq1 := fun x : MixIn.Grow ρ => (HQ.down x.w (hρ.trans (x.h.mono hρ.size))).2.1
          have hq2 := fun x : MixIn.Grow ρ => (HQ.down x.w (hρ.trans (x.h.mono hρ.size))).2.2.1
          have hq3 := fun x : MixIn.Grow ρ => (HQ.down x.w (hρ.trans (x.h.mono hρ.size))).2.2.2.1
          have hq4 := fun x : MixIn.Grow ρ => (HQ.down x.w (hρ.trans (x.h.mono hρ.size))).2.2.2.2.1
          have hq5 := fun x : MixIn.Grow ρ => (HQ.down x.w (hρ.trans (x.h.mono hρ.size))).2.2.2.2.2
          simp only [List.take_succ_cons, List.take_zero]
          repeat (go_big_quiet_step ((go_at_call 21; exact MixIn.Grow.calls (HCB.down _))))
          apply wpQuiet_nil
          exact rfl
        refine MixIn.wpV_one (i := 3) (by kernel_rfl) rfl (by kernel_rfl) (fun u X' => ∃ g, u = .slice (some ⟨g, 0, none⟩) 1 1 ∧ X.heap.size ≤ g ∧ X'.cell? ⟨g, 0, none⟩ = some (.string (czB z)) ∧ Below X.heap.size X X') ?_ (fun _ _ h => by obtain ⟨_, _, _, _, h⟩ := h; exact h) ?_ ?_
        · rintro _ Y Y' ⟨g, rfl, h1, h2, h3⟩ ⟨x, rfl⟩
          exact ⟨g, rfl, h1, cell_keep x.h h2, h3.trans (x.h.mono h3.size)⟩
        · intro Y hY
          go_simp
          exact ⟨Y.heap.size, rfl, hY.size, (Lib.cell_of_heap (heap_alloc_new Y _) 0).trans rfl, hY.trans ((below_new Y _).mono hY.size)⟩
        rintro _ Y0 ⟨g, rfl, -⟩
        refine MixIn.wpV_end (by kernel_rfl) ?_
        rintro Y6 ⟨g', e', hgl, hgc, hb6⟩
        cases e'
        obtain ⟨i0, hi0, hz0, hz1, hz2⟩ := info_parts info_str0
        obtain ⟨v7, Y7, hr7, hown7, hg7, -⟩ := run_append_own (P := Tryz.prog) Y6 W.heap.size 47 47 9 i0 (.string ⟨#[]⟩) 1 16 Tryz.underlying47 hi0 hz0 hz1 hz2 rfl (by decide) v 0 [] (row_below HRX.down hb6) ⟨g, 0, none⟩ 1 1 [.string (czB z)] rfl
          (by intro j u hj; match j, hj with | 0, hj => simp only [List.getElem?_cons_zero, Option.some.injEq] at hj; subst hj; exact hgc | j + 1, hj => simp at hj) (by simp [Value.oneCell']) (by decide) (by decide) (Nat.le_trans HBX.down.1.size hb6.size)
        have hown7 : Y7.ownsRow W.heap.size 9 1 v7 1 [.string (czB z)] := hown7
        obtain ⟨hv1, hv2, hrr2, hkk2, hbb2⟩ := boxed_append HVX.down (by decide) HRX.down HBX.down.1.size (Nat.le_refl _) hb6 hown7 hg7
        obtain ⟨ae, ce, cur7, rfl, -⟩ := own_at hown7 (by decide)
        have HF := PLift.up (And.intro hv2 (And.intro hrr2 (And.intro hkk2 hbb2)))
        have hc1 := hv1.cell
        have hf1 := hv1.frozen
        have HSZ : PLift (Wl.heap.size ≤ Y7.heap.size) := ⟨Nat.le_trans HBX.down.2 (Nat.le_trans hb6.size hg7.size)⟩
        clear hown7 hg7 hgc hgl hb6 hi0 hz0 hz1 hz2 hv1 hv2 hrr2 hkk2 hbb2
        refine MixIn.wpAnyIn_one (i := 4) (by kernel_rfl) ?_
        refine wpOpIn_of rfl rfl ?_
        refine MixIn.wpIn_append _ _ _ rfl rfl rfl hr7 ?_
        simp only [Act.put, List.setIfInBounds_toArray]
        refine MixIn.wpAnyIn_one (i := 5) (by kernel_rfl) ?_
        refine wpOpIn_of rfl rfl ?_
        unfold Oper.wpIn
        refine ⟨fun _ _ => trivial, ?_⟩
        go_simp
        refine MixIn.wpAnyIn_last (by kernel_rfl) ?_
        gi_wp2
        obtain ⟨q1, q2, q3, q4⟩ := HF.down
        exact ⟨q3.from _, trivial, ⟨⟨⟨_, q1, by simpa using q2, trivial⟩, HBX.down.1.trans q4⟩, by simpa [World.setCell] using HSZ.down⟩⟩
      case done =>
        rintro D ys X hD rfl ⟨⟨⟨v, hv, hrow, -⟩, hB⟩, hsz⟩ hK
        have hrow : X.ownsRow W.heap.size 9 1 v 1 [.string (czB z)] := hrow
        obtain ⟨ar, cr, cur, rfl, -, hgr, hcr⟩ := own_at hrow (by decide)
        have HLN := PLift.up (line_any wr.heap.size (textT (nmB ky) (czB z) i) (czB z) ar cr X (bld_below HIBW.down hB) ((Lib.cell_of_heap hgr 0).trans (hcr 0 _ rfl)) (by have := HTR.down; omega) (by have h1 := HWRW.down; have h2 := hB.size; omega))
        have HD := PLift.up (And.intro hD hK)
        have HBX := PLift.up hB
        have c18 := hv.cell
        clear hD hK hB hsz hv hrow hgr hcr
        gi_wp2_with (gi_at_call 16; refine (calls_at HLN.down none _).mono ?_; rintro e X9 ⟨rfl, hib9, hb9, hok9⟩; have H9 := PLift.up (And.intro hib9 (And.intro hb9 hok9)); clear hib9 hb9 hok9)
        obtain ⟨hib9, hb9, hok9⟩ := H9.down
        have hD := HD.down.1
        have hl4 := HLW4.down
        have hwr := HWRW.down
        have hkD := hok9 D _ HD.down.2 (fun e => by have := Option.some.inj e; omega) (fun c fz e => by cases e)
        refine ⟨⟨i + 1, { target := .collected D, args := #[] } :: ds, _, _, _, _, _, _, _, _, _, _, _, _, _, _, _, _, rfl, by omega, hib9, HBB.down.trans ((HBX.down.mono (Nat.le_of_lt hwr)).trans hb9), ⟨D, rfl, by omega, block_lt hkD, hkD, (HMK.down.keep fun q r1 r2 r3 => hok9 q _ ((HBX.down.block q r2).trans r3) (fun e => by have := Option.some.inj e; omega) (fun c fz e => by cases e)).mono (by omega)⟩⟩, ?_⟩
        simp [intOf]
        omega
    obtain rfl : n = i := by omega
    have hin2 : ¬ ((n : Int) < (n : Int)) := by omega
    have HST := PLift.up (bstr_kept wr.heap.size wr.heap.size (textT (nmB ky) (czB z) n) W HIBW.down (by intro e; have h1 := textT_len (nmB ky) (czB z) n; rw [e, List.length_nil] at h1; omega) (by have h1 := text_room (nmB ky) (czB z) HTX.down.1 HTX.down.2 n hn; omega))
    have HLI : PLift (∀ Y, Calls Tryz.prog 22 #[.string ⟨(textT (nmB ky) (czB z) n).toArray⟩] Y fun e w' => e = .returned (if 65536 < (textT (nmB ky) (czB z) n).length then .tuple #[.string ⟨#[]⟩, .int .i64 6] else .tuple #[.string ⟨(textT (nmB ky) (czB z) n).toArray⟩, .int .i64 0]) ∧ w' = Y) := ⟨fun Y => by
      have h := limited_any ⟨(textT (nmB ky) (czB z) n).toArray⟩ Y (by have h1 := text_room (nmB ky) (czB z) HTX.down.1 HTX.down.2 n hn; simp only [ByteArray.size, List.size_toArray]; omega)
      simpa only [ByteArray.size, List.size_toArray] using h⟩
    have HFB := PLift.up (HBW.down)
    have hlong : ¬ 65536 < (textT (nmB ky) (czB z) n).length := by
      have h1 := textT_len (nmB ky) (czB z) n
      have h2 := HTX.down
      have h3 : n * ((czB z).size + 1) ≤ 1 * ((czB z).size + 1) := Nat.mul_le_mul_right _ hn
      omega
    simp only [if_neg hlong] at HLI
    gi_wp2_with (first
      | (gi_at_call 23; refine (calls_at HST.down none _).mono ?_; rintro e X6 ⟨rfl, h6⟩; have H6 := PLift.up h6; clear h6)
      | (gi_at_call 22; refine (calls_at (HLI.down _) none _).mono ?_; rintro e X7 ⟨rfl, rfl⟩))
    refine leaves_marks (lo := wr.heap.size + 1) ds W.heap.size _ (HMK.down.keep fun q r1 r2 r3 => H6.down.2 q _ r3 (fun e => by have := Option.some.inj e; omega) (fun c fz e => by cases e)) fun Y hY => ?_
    refine ⟨.tuple #[.string ⟨(textT (nmB ky) (czB z) n).toArray⟩, .int .i64 0], (by simp only [results, Tryz.results6]; go_simp), rfl, ?_⟩
    have hlw := HLW.down
    exact (HFB.down.trans (H6.down.1.mono (Nat.le_of_lt hlw))).trans (hY.mono (by omega))
end Go.Proofs.YtcipjifpigpfdaaGreatDoor
/- tableout.Print of a table of one row whose texts are not well-formed. -/
namespace Go.Proofs.YtcipjifpigpfdaaGreatDoor
open Go.RowKit Go.Shelf Go.Ev
open Go.Lib hiding intOf
attribute [local go_sem] Oper.semAt_some Oper.semAt_none wideR_round wideR_depth wideR_fn
set_option maxHeartbeats 4000000 in
set_option maxRecDepth 100000 in
theorem valid_bad (sc : Int → ByteArray → Bool) (w : World) (v : Value) (root : Nat) (N : List Nd) (hN : NodesAt w v N) (hT : Bad sc N root) (hE : Tabs w) :
    Calls Tryz.prog 13 #[.agg #[v, .int .i64 root]] w fun e w' => e = .returned (.int .i64 3) ∧ Below w.heap.size w w' := by
  have HC := PLift.up (fun (W : World) (hb : Below w.heap.size w W) => check_bad sc W v root N (hN.below hb) hT (hE.below hb))
  have HBX := PLift.up (heap_alloc_new w (.cells #[v, .int .i64 root] 28))
  have HB0 := PLift.up (below_new w (.cells #[v, .int .i64 root] 28))
  obtain ⟨va, vc, rfl, -, -⟩ := hN
  clear hT hE
  go_enter Tryz.func13, Tryz.ntmps13
  go_wp2_with (go_at_call 37; refine (HC.down _ HB0.down).mono ?_; rintro e w1 ⟨rfl, hb1⟩; have HB1 := PLift.up (HB0.down.trans (hb1.mono HB0.down.size)); clear hb1)
  go_ret
  exact ⟨rfl, HB1.down⟩
set_option maxHeartbeats 8000000 in
set_option maxRecDepth 100000 in
theorem print_bad (w : World) (v : Value) (ky z : ByteArray) (hN : NodesAt w v (oneG ky z)) (hk : ky.size ≤ 100) (hz : z.size ≤ 100) (c : ¬ (chk ky.data.toList = true ∧ chk z.data.toList = true)) (hE : Tabs w) :
    Calls Tryz.prog 6 #[.agg #[v, .int .i64 0]] w fun e w' => e = .returned (.tuple #[.string ⟨#[]⟩, .int .i64 3]) ∧ Below w.heap.size w w' := by
  have hbx := below_new w (.cells #[v, .int .i64 0] 28)
  have HB0 := PLift.up hbx
  have HV := PLift.up (valid_bad scO (w.alloc (.cells #[v, .int .i64 0] 28)) v 0 (oneG ky z) (hN.below hbx) (oneG_bad (by unfold maxLen; omega) (by unfold maxLen; omega) c) (hE.below hbx))
  have HBX := PLift.up (heap_alloc_new w (.cells #[v, .int .i64 0] 28))
  obtain ⟨va, vc, rfl, -, -⟩ := hN
  clear hbx hE c
  refine (callsIn_wide (n := 1)).1 ?_
  change CallsIn (wideR none) 1 _ _ _ _ _
  refine callsIn_of_wp_marks Tryz.func6 rfl trivial ?_ rfl
  simp only [Tryz.ntmps6, List.size_toArray, List.length_cons, List.length_nil, Nat.reduceAdd, Nat.reduceSub, Array.replicate_succ, Array.replicate_zero, List.push_toArray, List.append_toArray, List.nil_append, List.cons_append]
  gi_upto_region 1 with fail
  obtain ⟨W0, hW0⟩ : ∃ W0, w.alloc (.cells #[.slice va (oneG ky z).length vc, .int .i64 0] 28) = W0 := ⟨_, rfl⟩
  rw [hW0] at HV HB0 HBX ⊢
  clear hW0
  have g0 : W0.cell? ⟨w.heap.size, 0, none⟩ = some (.slice va (oneG ky z).length vc) := (Lib.cell_of_heap HBX.down 0).trans rfl
  have g1 : W0.cell? ⟨w.heap.size, 1, none⟩ = some (.int .i64 0) := (Lib.cell_of_heap HBX.down 1).trans rfl
  gi_wp2_with (gi_at_call 13; refine (calls_at HV.down none _).mono ?_; rintro e w1 ⟨rfl, hb1⟩; have HB1 := PLift.up (HB0.down.trans (hb1.mono HB0.down.size)); clear hb1)
  refine ⟨.tuple #[.string ⟨#[]⟩, .int .i64 3], (by simp only [results, Tryz.results6]; go_simp), rfl, ?_⟩
  exact HB1.down
end Go.Proofs.YtcipjifpigpfdaaGreatDoor
/- The abstract memory of the law's table: package variables as rows, the graph's rows; tableout.Print as a summary of the evaluator with symbols. -/
namespace Go.Ev
variable {Ψ : SymEnv}
open Go.RowKit
def firstL : List Value := (List.range 256).map fun c => .int .u8 (Lib.firstT c)
def accL : List Value := (List.range 32).map fun i => match Nat.mod i 2 with
  | 0 => .int .u8 (Lib.accLo (i / 2))
  | _ => .int .u8 (Lib.accHi (i / 2))
/-- a row begins with plain values -/
def preB (σ : St) (b : Nat) (l : List Value) : Bool :=
  match rowOf σ b with
  | some r => atsB l r.cells
  | none => false
theorem pre_cells {σ : St} {b : Nat} {l : List Value} (h : preB σ b l = true) {ρ : Ren Ψ} {w : World} (hr : Rel ρ σ w) (hb : b < σ.glob) (i : Nat) (v : Value) (hi : l[i]? = some v) : ∃ v', w.cell? ⟨b, i, none⟩ = some v' ∧ VR ρ v v' := by
  unfold preB at h
  split at h
  · rename_i r hrow
    have e := atsB_eq h
    subst e
    obtain ⟨k, x, h1, h2, cs, ty, fr, rfl, hR⟩ := hr.live _ _ (rowOf_some hrow)
    rw [hr.glob b hb] at h1
    cases Option.some.inj h1
    obtain ⟨v', p1, p2⟩ := hR.get i v hi
    exact ⟨v', by simp [World.cell?, h2, p1], p2⟩
  · cases h
theorem sym_int {ρ : Ren Ψ} {k : IntKind} {n : Int} {v : Value} (h : VR ρ (.int k n) v) : v = .int k n := by cases h; rfl
theorem tabs_pre {σ : St} {g3 g4 : Nat} (h3 : preB σ g3 firstL = true) (h4 : preB σ g4 accL = true) {ρ : Ren Ψ} {w : World} (hr : Rel ρ σ w) (b3 : g3 < σ.glob) (b4 : g4 < σ.glob) : Lib.Utf8Tabs g3 g4 w := by
  refine ⟨fun c hc => ?_, fun i hi => ⟨?_, ?_⟩⟩
  · obtain ⟨v', p1, p2⟩ := pre_cells h3 hr b3 c (.int .u8 (Lib.firstT c)) (by simp [firstL, hc])
    rw [p1, sym_int p2]
  · obtain ⟨v', p1, p2⟩ := pre_cells h4 hr b4 (2 * i) (.int .u8 (Lib.accLo i)) (by
      have h0 : Nat.mod (2 * i) 2 = 0 := by show 2 * i % 2 = 0; omega
      have h1 : 2 * i / 2 = i := by omega
      have h2 : 2 * i < 32 := by omega
      simp [accL, h2, h0, h1])
    rw [p1, sym_int p2]
  · obtain ⟨v', p1, p2⟩ := pre_cells h4 hr b4 (2 * i + 1) (.int .u8 (Lib.accHi i)) (by
      have h0 : Nat.mod (2 * i + 1) 2 = 1 := by show (2 * i + 1) % 2 = 1; omega
      have h1 : (2 * i + 1) / 2 = i := by omega
      have h2 : 2 * i + 1 < 32 := by omega
      simp [accL, h2, h0, h1])
    rw [p1, sym_int p2]
/-- a row of texts -/
def rowB (σ : St) (g : Nat) (l : List (List UInt8)) : Bool :=
  match rowOf σ g with
  | some r => Nat.beq r.sz 0 && atsB (l.map fun b => Value.string ⟨b.toArray⟩) r.cells
  | none => false
theorem names_pre {σ : St} {g : Nat} {l : List (List UInt8)} (h : rowB σ g l = true) {ρ : Ren Ψ} {w : World} (hr : Rel ρ σ w) (hb : g < σ.glob) : ∃ ty fr, w.heap[g]? = some (.cells (l.map fun b => Value.string ⟨b.toArray⟩).toArray ty fr) := by
  unfold rowB at h
  split at h
  · rename_i r hrow
    rw [Bool.and_eq_true, Nat.beq_eq] at h
    have e := atsB_eq h.2
    obtain ⟨k, x, h1, h2, cs, ty, fr, rfl, hR⟩ := hr.live _ _ (rowOf_some hrow)
    rw [hr.glob g hb] at h1
    cases Option.some.inj h1
    refine ⟨ty, fr, ?_⟩
    rw [h2]
    congr 2
    have hsz := hR.eq h.1
    rw [← e] at hsz
    apply Array.ext_getElem?
    intro i
    cases hi : l[i]? with
    | none =>
      have q1 := List.getElem?_eq_none_iff.1 hi
      rw [List.length_map] at hsz
      rw [Array.getElem?_eq_none (by omega), Array.getElem?_eq_none (by simp; omega)]
    | some b =>
      obtain ⟨v', p1, p2⟩ := hR.get i (.string ⟨b.toArray⟩) (by rw [← e]; simp [hi])
      cases p2
      rw [p1]
      simp [hi]
  · cases h
/-- a slice of integers, of the abstract memory -/
def slB (σ : St) (v : Value) (l : List Int) : Bool :=
  match v with
  | .slice none n _ => Nat.beq n 0 && l.isEmpty
  | .slice (some a) n _ => match a.spot, rowOf σ a.block with
    | none, some r => Nat.beq n l.length && eqAs (l.map fun x => .int .i64 x) (r.cells.drop a.off)
    | _, _ => false
  | _ => false
end Go.Ev
namespace Go.Proofs.YtcipjifpigpfdaaGreatDoor
open Go.Ev
open Go.RowKit
variable {Ψ : SymEnv}
theorem slB_at {σ : St} {v v' : Value} {l : List Int} (h : slB σ v l = true) {ρ : Ren Ψ} {w : World} (hr : Rel ρ σ w) (hv : VR ρ v v') (hl : l.length ≤ 1000) : SlI w v' l := by
  unfold slB at h
  split at h
  · rw [Bool.and_eq_true, Nat.beq_eq] at h
    obtain ⟨h1, h2⟩ := h
    subst h1
    have : l = [] := by simpa using h2
    subst this
    cases hv <;> exact ⟨_, _, rfl, by simp, .inl rfl⟩
  · rename_i a n c
    split at h
    · rename_i r hs hrow
      rw [Bool.and_eq_true, Nat.beq_eq] at h
      obtain ⟨h1, h2⟩ := h
      subst h1
      obtain ⟨ab, ao, asp⟩ := a
      simp only at hs hrow h2
      subst hs
      obtain ⟨k', x, e1, e2, cs, ty, fr, rfl, hR⟩ := hr.live _ _ (rowOf_some hrow)
      cases hv with
      | slice hk hc =>
        rw [hk] at e1
        cases Option.some.inj e1
        refine ⟨_, _, rfl, by omega, .inr ⟨_, _, rfl, fun j y hj => ?_⟩⟩
        obtain ⟨u, hu, he⟩ := eqAs_get h2 j (.int .i64 y) (by simp [hj])
        rw [List.getElem?_drop] at hu
        obtain ⟨v', p1, p2⟩ := hR.get _ _ hu
        rw [(eqA_eq (Ψ := Ψ) he).2 _ _ p2] at p1
        simp [World.cell?, e2, p1]
    · cases h
  · cases h
/-- a node, of the abstract memory -/
def ndB (σ : St) (c : List Value) (k : Int) (t : Value) (keys items : List Int) : Bool :=
  match c with
  | .int .i64 k' :: t' :: .bool false :: kv :: iv :: _ => (decide (k' = k) && atB t' t) && (slB σ kv keys && slB σ iv items)
  | _ => false
theorem ndB_at {σ : St} {c : List Value} {k : Int} {t : Value} {keys items : List Int} (h : ndB σ c k t keys items = true) {ρ : Ren Ψ} {w : World} (hr : Rel ρ σ w) {b o : Nat} (hc : ∀ (i : Nat) (v : Value), c[i]? = some v → ∃ v', w.cell? ⟨b, o + i, none⟩ = some v' ∧ VR ρ v v')
    {s : ByteArray} (hs : symV Ψ t = some (.string s)) (h1 : keys.length ≤ 1000) (h2 : items.length ≤ 1000) : NdAt w b o ⟨k, s, false, keys, items⟩ := by
  unfold ndB at h
  split at h
  · rename_i k' t' kv iv tl
    simp only [Bool.and_eq_true, decide_eq_true_eq] at h
    obtain ⟨⟨rfl, ht⟩, hk, hi⟩ := h
    have ht2 := atB_eq ht
    subst ht2
    obtain ⟨v0, p0, q0⟩ := hc 0 _ rfl
    obtain ⟨v1, p1, q1⟩ := hc 1 _ rfl
    obtain ⟨v2, p2, q2⟩ := hc 2 _ rfl
    obtain ⟨v3, p3, q3⟩ := hc 3 _ rfl
    obtain ⟨v4, p4, q4⟩ := hc 4 _ rfl
    cases q0
    cases q2
    have e1 := symV_R q1 hs
    subst e1
    exact ⟨_, _, p0, p1, p2, p3, p4, slB_at hk hr q3 h1, slB_at hi hr q4 h2⟩
  · cases h
/-- the graph of the table of one row: the symbols 0 and 1 are its texts -/
def oneB (σ : St) (v : Value) : Bool :=
  match v with
  | .slice (some a) n _ => match a.spot, rowOf σ a.block with
    | none, some r => Nat.beq n 4 && ((ndB σ (r.cells.drop a.off) 9 (.string ⟨#[]⟩) [] [1] && ndB σ (r.cells.drop (a.off + 5)) 10 (.string ⟨#[]⟩) [2] [3]) && (ndB σ (r.cells.drop (a.off + 10)) 5 (.chan (some 0)) [] [] && ndB σ (r.cells.drop (a.off + 15)) 5 (.chan (some 1)) [] []))
    | _, _ => false
  | _ => false
theorem oneB_at {σ : St} {v v' : Value} (h : oneB σ v = true) {ρ : Ren Ψ} {w : World} (hr : Rel ρ σ w) (hv : VR ρ v v') {ky z : ByteArray} (h0 : Ψ.env 0 = some (.string ky)) (h1 : Ψ.env 1 = some (.string z)) : NodesAt w v' (oneG ky z) := by
  unfold oneB at h
  split at h
  · rename_i a n c
    split at h
    · rename_i r hs hrow
      simp only [Bool.and_eq_true, Nat.beq_eq] at h
      obtain ⟨rfl, ⟨n0, n1⟩, n2, n3⟩ := h
      obtain ⟨ab, ao, asp⟩ := a
      simp only at hs hrow n0 n1 n2 n3
      subst hs
      obtain ⟨k', x, e1, e2, cs, ty, fr, rfl, hR⟩ := hr.live _ _ (rowOf_some hrow)
      cases hv with
      | slice hk hc =>
        rw [hk] at e1
        cases Option.some.inj e1
        have hcell : ∀ (q : Nat) (i : Nat) (v : Value), (r.cells.drop q)[i]? = some v → ∃ v', w.cell? ⟨k', q + i, none⟩ = some v' ∧ VR ρ v v' := by
          intro q i v hi
          rw [List.getElem?_drop] at hi
          obtain ⟨v', p1, p2⟩ := hR.get _ _ hi
          exact ⟨v', by simp [World.cell?, e2, p1], p2⟩
        have s0 : symV Ψ (.chan (some 0)) = some (.string ky) := by simp [symV, h0, atomV]
        have s1 : symV Ψ (.chan (some 1)) = some (.string z) := by simp [symV, h1, atomV]
        refine ⟨_, _, rfl, by simp [oneG], .inr ⟨_, _, rfl, fun i m hi => ?_⟩⟩
        match i, hi with
        | 0, hi => cases hi; exact ndB_at n0 hr (hcell _) rfl (by decide) (by decide)
        | 1, hi => cases hi; exact ndB_at n1 hr (hcell _) rfl (by decide) (by decide)
        | 2, hi => cases hi; exact ndB_at n2 hr (hcell _) s0 (by decide) (by decide)
        | 3, hi => cases hi; exact ndB_at n3 hr (hcell _) s1 (by decide) (by decide)
    · cases h
  · cases h
/-- the package variables stand in the abstract memory -/
def tabsB (σ : St) : Bool := Nat.blt 20 σ.glob && (preB σ 1 firstL && preB σ 2 accL)
theorem tabsB_at (σ : St) (ρ : Ren Ψ) (w : World) (h : tabsB σ = true) (hr : Rel ρ σ w) : Tabs w := by
  unfold tabsB at h
  simp only [Bool.and_eq_true, Nat.blt_eq] at h
  exact tabs_pre h.2.1 h.2.2 hr (Nat.lt_trans (by decide) h.1) (Nat.lt_trans (by decide) h.1)
def varsB (σ : St) : Bool := tabsB σ && rowB σ 0 nameL
theorem varsB_at (σ : St) (ρ : Ren Ψ) (w : World) (h : varsB σ = true) (hr : Rel ρ σ w) : Tabs w ∧ NamesAt w := by
  unfold varsB at h
  rw [Bool.and_eq_true] at h
  have h1 := h.1
  unfold tabsB at h1
  simp only [Bool.and_eq_true, Nat.blt_eq] at h1
  exact ⟨tabsB_at σ ρ w h.1 hr, names_pre h.2 hr (Nat.lt_trans (by decide) h1.1)⟩
/-- tableout.Print of the graph; the symbol 4 is its text -/
def sumPrint (ans : Value) (args : Array Value) (σ : St) : Option Er :=
  match args.toList with
  | [.agg c] => match c.toList with
    | [v, .int .i64 r] => match oneB σ v && varsB σ, decide (r = 0) with
      | true, true => some (.ret ans σ)
      | _, _ => none
    | _ => none
  | _ => none
theorem sumPrint_sound {ky z : ByteArray} (_hp : Ψ.prog = Tryz.prog) (h0 : Ψ.env 0 = some (.string ky)) (h1 : Ψ.env 1 = some (.string z)) {ans r0 : Value} (ha : ∀ ρ : Ren Ψ, VR ρ ans r0)
    (hc : ∀ (w : World) (v : Value), NodesAt w v (oneG ky z) → Tabs w → NamesAt w → Calls Tryz.prog 6 #[.agg #[v, .int .i64 0]] w fun e w' => e = .returned r0 ∧ Below w.heap.size w w')
    (args : Array Value) (σ : St) (r : Er) (h : sumPrint ans args σ = some r) : CallSound Ψ Tryz.prog 6 args σ r := by
  intro ρ args' w hargs hr
  unfold sumPrint at h
  split at h
  · rename_i c hl
    split at h
    · rename_i v q hcl
      split at h
      · rename_i b1 b2
        cases Option.some.inj h
        rw [Bool.and_eq_true] at b1
        have hq := of_decide_eq_true b2
        subst hq
        obtain ⟨v', hv, he⟩ : ∃ v', VR ρ v v' ∧ args' = #[.agg #[v', .int .i64 0]] := by
          have ea : args = #[.agg #[v, .int .i64 0]] := by
            have ec : c = #[v, .int .i64 0] := by rw [← Array.toArray_toList (xs := c), hcl]
            rw [← Array.toArray_toList (xs := args), hl, ec]
          subst ea
          obtain ⟨l'⟩ := args'
          obtain ⟨r1, r2⟩ := hargs
          simp at r1
          match l', r1 with
          | [x'], _ =>
            have e1 := r2 0 (.agg #[v, .int .i64 0]) x' (by simp) (by simp)
            obtain ⟨c', rfl, g1, g2⟩ : ∃ c', x' = .agg c' ∧ (#[v, .int .i64 0] : Array Value).size = c'.size ∧ ∀ (i : Nat) (u u' : Value), (#[v, .int .i64 0] : Array Value)[i]? = some u → c'[i]? = some u' → VR ρ u u' := by
              cases e1 with
              | agg g1 g2 => exact ⟨_, rfl, g1, g2⟩
            match c', g1, g2 with
            | ⟨[a', b']⟩, _, g2 =>
              have k1 := g2 0 v a' (by simp) (by simp)
              have k2 := g2 1 (.int .i64 0) b' (by simp) (by simp)
              cases k2
              exact ⟨a', k1, rfl⟩
        subst he
        obtain ⟨t1, t2⟩ := varsB_at σ ρ w b1.2 hr
        refine (hc w v' (oneB_at b1.1 hr hv h0 h1) t1 t2).mono ?_
        rintro o w' ⟨rfl, hb⟩
        obtain ⟨k1, k2⟩ := rel_below hr hb
        exact ⟨ρ, _, rfl, ha ρ, k1, k2⟩
      · cases h
    · cases h
  · cases h
end Go.Proofs.YtcipjifpigpfdaaGreatDoor
/- What operations on strings and numbers answer, for the entries of a law's run on symbols. -/
namespace Go.Proofs.YtcipjifpigpfdaaGreatDoor
open Go.Ev
theorem k_gtr (P : Program) (t : TypeId) (k : IntKind) (a b : Int) (c : Bool) (h : decide (b < a) = c) (w : World) : (binOp .gtr t (.int k a) (.int k b)).run P w = .ok (.bool c) w := by subst h; simp [go_sem]
theorem k_geq (P : Program) (t : TypeId) (k : IntKind) (a b : Int) (c : Bool) (h : decide (b ≤ a) = c) (w : World) : (binOp .geq t (.int k a) (.int k b)).run P w = .ok (.bool c) w := by subst h; simp [go_sem]
theorem k_lss (P : Program) (t : TypeId) (k : IntKind) (a b : Int) (c : Bool) (h : decide (a < b) = c) (w : World) : (binOp .lss t (.int k a) (.int k b)).run P w = .ok (.bool c) w := by subst h; simp [go_sem]
theorem k_leq (P : Program) (t : TypeId) (k : IntKind) (a b : Int) (c : Bool) (h : decide (a ≤ b) = c) (w : World) : (binOp .leq t (.int k a) (.int k b)).run P w = .ok (.bool c) w := by subst h; simp [go_sem]
theorem k_eqi (a b : Int) (k : IntKind) (t : TypeId) (c : Bool) (hc : decide (a = b) = c) (w : World) : (binOp .eql t (.int k a) (.int k b)).run Tryz.prog w = .ok (.bool c) w := by subst hc; simp [go_sem]; rfl
theorem k_add (P : Program) (t : TypeId) (a b c : Int) (h : a + b = c) (h1 : -1000000000 ≤ c) (h2 : c ≤ 1000000000) (w : World) : (binOp .add t (.int .i64 a) (.int .i64 b)).run P w = .ok (.int .i64 c) w := by subst h; simp only [go_sem, IntKind.wrap_i64]; simp; omega
theorem k_cat (P : Program) (t : TypeId) (a b c : ByteArray) (h : a ++ b = c) (hs : a.size + b.size ≤ 1000000) (w : World) : (binOp .add t (.string a) (.string b)).run P w = .ok (.string c) w := by subst h; simp [go_sem]; omega
theorem k_eqs (a b : ByteArray) (c : Bool) (h : (a.data.toList == b.data.toList) = c) (w : World) : (binOp .eql 9 (.string a) (.string b)).run Tryz.prog w = .ok (.bool c) w := by rw [← Lib.toList_data, ← Lib.toList_data] at h; subst h; simp [go_sem]
theorem k_nes (a b : ByteArray) (c : Bool) (h : (!(a.data.toList == b.data.toList)) = c) (w : World) : (binOp .neq 9 (.string a) (.string b)).run Tryz.prog w = .ok (.bool c) w := by rw [← Lib.toList_data, ← Lib.toList_data] at h; subst h; simp [go_sem]
theorem k_idx (s : ByteArray) (i : Nat) (b : UInt8) (h : s.data.toList[i]? = some b) (w : World) : (Instr.index 9 (.string s) (.int .i64 i)).run Tryz.prog w = .ok (.int .u8 b.toNat) w := by
  obtain ⟨h1, h2⟩ := List.getElem?_eq_some_iff.1 h
  have h3 : i < s.size := by simpa using h1
  have h4 : s[i] = b := h2
  simp [go_sem, h3, h4]
theorem k_slh (s : ByteArray) (a b : Nat) (r : ByteArray) (h1 : a ≤ b) (h2 : b ≤ s.size) (hr : s.extract a b = r) (w : World) : (Instr.sliceAt 9 (.string s) (some (.int .i64 a)) (some (.int .i64 b)) none).run Tryz.prog w = .ok (.string r) w := by subst hr; simp [go_sem, h1, h2]
theorem k_sl (s : ByteArray) (a : Nat) (r : ByteArray) (h1 : a ≤ s.size) (hr : s.extract a s.size = r) (w : World) : (Instr.sliceAt 9 (.string s) (some (.int .i64 a)) none none).run Tryz.prog w = .ok (.string r) w := by subst hr; simp [go_sem, Nat.not_lt.2 h1]
end Go.Proofs.YtcipjifpigpfdaaGreatDoor
/- The law's run on symbols: where it starts, and what it gives. -/
namespace Go.Ev
variable {Ψ : SymEnv}
def roomR (n : Nat) (rm : Nat → Option (Nat × Nat)) : Ren Ψ := ⟨fun g => if g < n then some g else none, fun g => if g < n then rm g else none⟩
theorem startRelR (n : Nat) (rm : Nat → Option (Nat × Nat)) (l : List (Nat × AObj)) (orc : List Ent) (w : World) (ho : ∀ e ∈ orc, EntOk Ψ e) (h : ∀ id o, (id, o) ∈ l → id < n ∧ o.own = false ∧ ∃ x, w.heap[id]? = some x ∧ AtR (roomR (Ψ := Ψ) n rm) id o x) : Rel (roomR (Ψ := Ψ) n rm) ⟨mkT l .leaf, n, n, orc⟩ w where
  live := fun id o ho => by
    rcases mkT_get l .leaf id o ho with h1 | h1
    · obtain ⟨h2, -, x, h3, h4⟩ := h id o h1
      exact ⟨id, x, by simp [roomR]; exact h2, h3, h4⟩
    · cases h1
  inj := fun i j oi oj hi _ hown => by
    rcases mkT_get l .leaf i oi hi with h1 | h1
    · rw [(h i oi h1).2.1] at hown; cases hown
    · cases h1
  fresh := fun id h => by
    have h1 : ¬ id < n := by have : n ≤ id := h; omega
    exact ⟨by simp [roomR, h1], by simp [roomR, h1]⟩
  glob := fun g h => by simp [roomR]; exact h
  gn := Nat.le_refl _
  orc := ho
theorem true_ofR {P : Program} {f : FuncId} {args args' : Array Value} {n : Nat} {rm : Nat → Option (Nat × Nat)} {l : List (Nat × AObj)} {orc : List Ent} {r : Option Er} (h : isTrue r = true) (hs : ∀ q, r = some q → CallSound Ψ P f args ⟨mkT l .leaf, n, n, orc⟩ q) (ha : ∀ ρ : Ren Ψ, VRs ρ args args') (w : World) (ho : ∀ e ∈ orc, EntOk Ψ e)
    (hl : ∀ id o, (id, o) ∈ l → id < n ∧ o.own = false ∧ ∃ x, w.heap[id]? = some x ∧ AtR (roomR (Ψ := Ψ) n rm) id o x) : Calls P f args' w fun e w' => e = .returned (.bool true) ∧ Go.RowKit.Below w.heap.size w w' := by
  unfold isTrue at h
  split at h
  · rename_i σ'
    refine (hs _ rfl (roomR (Ψ := Ψ) n rm) args' w (ha _) (startRelR n rm l orc w ho hl)).mono ?_
    rintro e w' ⟨ρ', v', rfl, hv, hr, hs⟩
    cases hv
    refine ⟨rfl, hs.keep.os, hs.keep.tape, hs.keep.output, hs.keep.size, fun k hk => hs.keep.old k hk fun id o h ho => ?_⟩
    rcases mkT_get l .leaf id o h with h1 | h1
    · rw [(hl id o h1).2.1] at ho; cases ho
    · cases h1
  · cases h
/-- a row of the program's own, of which the beginning is known -/
theorem preRow {ρ : Ren Ψ} {id : Nat} {cs : Array Value} {ty : TypeId} {fr : Nat × Nat} {l : List Value} (h : ∀ (i : Nat) (v : Value), l[i]? = some v → cs[i]? = some v) (ha : ∀ v ∈ l, VR ρ v v) (hle : l.length ≤ cs.size) (hrm : ρ.room id = some (cs.size, 1)) : AtR ρ id (.row ⟨l, 0, 1, false⟩) (.cells cs ty fr) :=
  ⟨cs, ty, fr, rfl, { ty := (fun h => nomatch h), fr := (fun h => nomatch h), le := hle, eq := fun h => absurd (show (1 : Nat) = 0 from h) (by decide), get := fun i v hv => ⟨v, h i v hv, ha v (List.mem_of_getElem? hv)⟩, room := fun _ => ⟨cs.size, hrm, by simp⟩ }⟩
theorem all_cons {α : Type} {p : α → Prop} {a : α} {l : List α} (h : p a) (t : ∀ x ∈ l, p x) : ∀ x ∈ a :: l, p x := fun x hx => by
  cases hx with
  | head => exact h
  | tail _ hx => exact t x hx
theorem all_nil {α : Type} {p : α → Prop} : ∀ x ∈ ([] : List α), p x := fun _ hx => nomatch hx
end Go.Ev
namespace Go.Proofs.YtcipjifpigpfdaaGreatDoor
open Go.Ev
open Go.RowKit
variable {Ψ : SymEnv}
def rowsL : List (Nat × AObj) := [(0, namesO), (1, .row ⟨firstL, 0, 1, false⟩), (2, .row ⟨accL, 0, 1, false⟩)]
theorem cell_block {w : World} {b i : Nat} {v : Value} (h : w.cell? ⟨b, i, none⟩ = some v) : ∃ cs ty fr, w.heap[b]? = some (.cells cs ty fr) ∧ cs[i]? = some v := by
  unfold World.cell? at h
  cases hb : w.heap[b]? with
  | none => simp [hb] at h
  | some o =>
    cases o with
    | cells cs ty fr => simp [hb] at h; exact ⟨cs, ty, fr, rfl, h⟩
    | _ => simp [hb] at h
theorem rowsL_at {w : World} (hT : Tabs w) (hn : NamesAt w) : ∃ rm, ∀ id o, (id, o) ∈ rowsL → id < 100 ∧ o.own = false ∧ ∃ x, w.heap[id]? = some x ∧ AtR (roomR (Ψ := Ψ) 100 rm) id o x := by
  obtain ⟨ty, fr, hw⟩ := hn
  obtain ⟨cs1, ty1, fr1, h1, -⟩ := cell_block (hT.1 0 (by decide))
  obtain ⟨cs2, ty2, fr2, h2, -⟩ := cell_block (hT.2 0 (by decide)).1
  have g1 : ∀ (i : Nat) (v : Value), firstL[i]? = some v → cs1[i]? = some v := by
    intro i v hi
    have hl : i < 256 := by have := (List.getElem?_eq_some_iff.1 hi).1; simpa [firstL] using this
    have hc := hT.1 i hl
    have e : v = .int .u8 (Lib.firstT i) := by simp [firstL, hl] at hi; exact hi.symm
    subst e
    simpa [World.cell?, h1] using hc
  have g2 : ∀ (i : Nat) (v : Value), accL[i]? = some v → cs2[i]? = some v := by
    intro i v hi
    have hl : i < 32 := by have := (List.getElem?_eq_some_iff.1 hi).1; simpa [accL] using this
    obtain ⟨ca, cb⟩ := hT.2 (i / 2) (by omega)
    rcases Nat.mod_two_eq_zero_or_one i with h0 | h0
    · have h3 : Nat.mod i 2 = 0 := h0
      have e : v = .int .u8 (Lib.accLo (i / 2)) := by simp [accL, hl, h3] at hi; exact hi.symm
      subst e
      rw [show 2 * (i / 2) = i by omega] at ca
      simpa [World.cell?, h2] using ca
    · have h3 : Nat.mod i 2 = 1 := h0
      have e : v = .int .u8 (Lib.accHi (i / 2)) := by simp [accL, hl, h3] at hi; exact hi.symm
      subst e
      rw [show 2 * (i / 2) + 1 = i by omega] at cb
      simpa [World.cell?, h2] using cb
  have le1 : firstL.length ≤ cs1.size := by
    have h3 := g1 255 (.int .u8 (Lib.firstT 255)) (by simp [firstL])
    have := (Array.getElem?_eq_some_iff.1 h3).1
    simp [firstL]; omega
  have le2 : accL.length ≤ cs2.size := by
    have h3 := g2 31 (.int .u8 (Lib.accHi 15)) (by simp [accL])
    have := (Array.getElem?_eq_some_iff.1 h3).1
    simp [accL]; omega
  refine ⟨fun g => if g = 1 then some (cs1.size, 1) else some (cs2.size, 1), ?_⟩
  intro id o hm
  cases hm with
  | head => exact ⟨by decide, rfl, _, hw, strRow rfl⟩
  | tail _ hm =>
  cases hm with
  | head => exact ⟨by decide, rfl, _, h1, preRow g1 (fun v hv => by obtain ⟨c, -, rfl⟩ := List.mem_map.1 hv; exact .int _ _) le1 rfl⟩
  | tail _ hm =>
  cases hm with
  | head => exact ⟨by decide, rfl, _, h2, preRow g2 (fun v hv => by obtain ⟨c, -, rfl⟩ := List.mem_map.1 hv; split <;> exact .int _ _) le2 rfl⟩
  | tail _ hm => cases hm
def fsL : List FuncId := [113, 67, 24, 51, 53, 52, 4]
def sumsL (ans : Value) (tab : List CallE) (f : FuncId) : Option (Array Value → St → Option Er) :=
  match Nat.beq f 6 with
  | true => some (sumPrint ans)
  | false => withT sums fsL varsB tab f
theorem sumsL_sound {ky z : ByteArray} (hp : Ψ.prog = Tryz.prog) (h0 : Ψ.env 0 = some (.string ky)) (h1 : Ψ.env 1 = some (.string z)) {ans r0 : Value} (ha : ∀ ρ : Ren Ψ, VR ρ ans r0)
    (hc : ∀ (w : World) (v : Value), NodesAt w v (oneG ky z) → Tabs w → NamesAt w → Calls Tryz.prog 6 #[.agg #[v, .int .i64 0]] w fun e w' => e = .returned r0 ∧ Below w.heap.size w w')
    {tab : List CallE} (ht : ∀ e ∈ tab, CallOk Ψ (fun w => Tabs w ∧ NamesAt w) e) : ∀ g s, sumsL ans tab g = some s → ∀ args σ r, s args σ = some r → CallSound Ψ Tryz.prog g args σ r := by
  intro g s hs args σ r hr
  unfold sumsL at hs
  split at hs
  · rename_i h2
    cases Option.some.inj hs
    have := Nat.eq_of_beq_eq_true h2
    subst this
    exact sumPrint_sound hp h0 h1 ha hc args σ r hr
  · exact withT_sound hp sums_sound (W := fun w => Tabs w ∧ NamesAt w) varsB_at ht g s hs args σ r hr
theorem args_two {ky z : ByteArray} (h0 : Ψ.env 0 = some (.string ky)) (h1 : Ψ.env 1 = some (.string z)) (ρ : Ren Ψ) : VRs ρ #[.chan (some 0), .chan (some 1)] #[.string ky, .string z] := ⟨rfl, fun i v v' q1 q2 => by
  match i, q1, q2 with
  | 0, q1, q2 =>
    cases Option.some.inj (show some (Value.chan (some 0)) = some v from q1)
    cases Option.some.inj (show some (Value.string ky) = some v' from q2)
    exact .sym h0 rfl
  | 1, q1, q2 =>
    cases Option.some.inj (show some (Value.chan (some 1)) = some v from q1)
    cases Option.some.inj (show some (Value.string z) = some v' from q2)
    exact .sym h1 rfl⟩
theorem law_run {P : Program} (hp : Ψ.prog = Tryz.prog) {su : FuncId → Option (Array Value → St → Option Er)} (hs : ∀ g s, su g = some s → ∀ args σ r, s args σ = some r → CallSound Ψ Tryz.prog g args σ r) {f : FuncId} {args args' : Array Value} {l : List (Nat × AObj)} {orc : List Ent} {r : Option Er}
    (hP : P = Tryz.prog) (hr : evRun P su 400 100 f args ⟨mkT l .leaf, 100, 100, orc⟩ = r) (h : isTrue r = true) (ha : ∀ ρ : Ren Ψ, VRs ρ args args') (w : World) (ho : ∀ e ∈ orc, EntOk Ψ e)
    (hl : ∃ rm, ∀ id o, (id, o) ∈ l → id < 100 ∧ o.own = false ∧ ∃ x, w.heap[id]? = some x ∧ AtR (roomR (Ψ := Ψ) 100 rm) id o x) : Calls Tryz.prog f args' w fun e w' => e = .returned (.bool true) ∧ Below w.heap.size w w' := by
  subst hP
  obtain ⟨rm, hl⟩ := hl
  exact true_ofR h (fun q hq => evM hp hs 100 (hr.trans hq)) ha w ho hl
end Go.Proofs.YtcipjifpigpfdaaGreatDoor
/- The reference's well-formedness of texts, as a plain function: it is that of the decoder. No program in sight. -/
namespace Go.Proofs.YtcipjifpigpfdaaGreatDoor
open Go.Lib
/-- the class of a first byte: length, its bits, the least and the greatest value -/
def clsN (c : Nat) : Nat := if 192 ≤ c ∧ c < 224 then 2 else if 224 ≤ c ∧ c < 240 then 3 else if 240 ≤ c ∧ c < 248 then 4 else 0
def clsV (c : Nat) : Nat := if 192 ≤ c ∧ c < 224 then c - 192 else if 224 ≤ c ∧ c < 240 then c - 224 else if 240 ≤ c ∧ c < 248 then c - 240 else 0
def clsL (c : Nat) : Nat := if 192 ≤ c ∧ c < 224 then 128 else if 224 ≤ c ∧ c < 240 then 2048 else if 240 ≤ c ∧ c < 248 then 65536 else 0
def clsM (c : Nat) : Nat := if 192 ≤ c ∧ c < 224 then 2047 else if 224 ≤ c ∧ c < 240 then 65535 else if 240 ≤ c ∧ c < 248 then 1114111 else 0
def contV : Nat → List UInt8 → Option Nat
  | v, [] => some v
  | v, b :: l => if b.toNat < 128 ∨ 191 < b.toNat then none else contV (64 * v + b.toNat - 128) l
def wideV : Nat → Nat → Nat → Nat × Nat
  | 0, lo, hi => (lo, hi)
  | m + 1, lo, hi => wideV m (64 * lo) (64 * hi + 63)
theorem wide0 (lo hi : Nat) : wideV 0 lo hi = (lo, hi) := rfl
/-- begins -/
def begF (c : Nat) (r : List UInt8) : Nat × Nat :=
  if c < 128 ∧ r.length = 0 then (c, 1)
  else if clsN c < r.length + 1 then (0, 0)
  else match contV (clsV c) r with
    | none => (0, 0)
    | some v => if (wideV (clsN c - (r.length + 1)) v v).2 < clsL c ∨ clsM c < (wideV (clsN c - (r.length + 1)) v v).1 ∨ (55296 ≤ (wideV (clsN c - (r.length + 1)) v v).1 ∧ (wideV (clsN c - (r.length + 1)) v v).2 ≤ 57343) then (0, 0) else ((wideV (clsN c - (r.length + 1)) v v).1, clsN c)
/-- At: k, k + 1 .. -/
def atF (c : Nat) (r : List UInt8) : Nat → Nat → Nat × Nat
  | 0, _ => (0, 0)
  | f + 1, k => if r.length + 1 < k then (0, 0) else if (begF c (r.take (k - 1))).2 = k then begF c (r.take (k - 1)) else atF c r f (k + 1)
theorem begF_over {c : Nat} {r : List UInt8} (h : clsN c < r.length + 1) (h1 : 128 ≤ c) : begF c r = (0, 0) := by
  unfold begF
  rw [if_neg (by omega), if_pos h]
theorem begF_snd (c : Nat) (r : List UInt8) (h1 : 128 ≤ c) : (begF c r).2 = 0 ∨ (begF c r).2 = clsN c := by
  unfold begF
  rw [if_neg (by omega)]
  split
  · exact .inl rfl
  · split
    · exact .inl rfl
    · split
      · exact .inl rfl
      · exact .inr rfl
theorem atF_low {c : Nat} (h : c < 128) (r : List UInt8) : (atF c r 4 1) = (c, 1) := by
  have h1 : begF c [] = (c, 1) := by unfold begF; rw [if_pos ⟨h, rfl⟩]
  simp [atF, h1]
theorem atF_high {c : Nat} (h : 128 ≤ c) (r : List UInt8) : (atF c r 4 1).2 = if 2 ≤ clsN c ∧ clsN c ≤ r.length + 1 then (begF c (r.take (clsN c - 1))).2 else 0 := by
  have hs : ∀ k, 1 ≤ k → k ≠ clsN c → (begF c (r.take (k - 1))).2 ≠ k := fun k hk hn e => by
    rcases begF_snd c (r.take (k - 1)) h with h1 | h1 <;> omega
  have hc : clsN c = 0 ∨ clsN c = 2 ∨ clsN c = 3 ∨ clsN c = 4 := by
    unfold clsN
    repeat' split
    all_goals simp
  rcases hc with hc | hc | hc | hc <;> rw [hc] at hs ⊢
  · simp only [atF, if_neg (hs 1 (by omega) (by omega)), if_neg (hs 2 (by omega) (by omega)), if_neg (hs 3 (by omega) (by omega)), if_neg (hs 4 (by omega) (by omega))]
    repeat' split
    all_goals first | rfl | omega
  · simp only [atF, if_neg (hs 1 (by omega) (by omega)), if_neg (hs 3 (by omega) (by omega)), if_neg (hs 4 (by omega) (by omega)), Nat.reduceAdd, Nat.reduceSub]
    have h0 := begF_snd c (r.take 1) h
    rw [hc] at h0
    repeat' split
    all_goals first | rfl | omega
  · simp only [atF, if_neg (hs 1 (by omega) (by omega)), if_neg (hs 2 (by omega) (by omega)), if_neg (hs 4 (by omega) (by omega)), Nat.reduceAdd, Nat.reduceSub]
    have h0 := begF_snd c (r.take 2) h
    rw [hc] at h0
    repeat' split
    all_goals first | rfl | omega
  · simp only [atF, if_neg (hs 1 (by omega) (by omega)), if_neg (hs 2 (by omega) (by omega)), if_neg (hs 3 (by omega) (by omega)), Nat.reduceAdd, Nat.reduceSub]
    have h0 := begF_snd c (r.take 3) h
    rw [hc] at h0
    repeat' split
    all_goals first | rfl | omega
theorem fin2 (v n : Nat) (hn : n ≠ 1) (p q : Prop) [Decidable p] [Decidable q] (h : p ↔ ¬ q) : (if p then ((0 : Nat), (0 : Nat)) else (v, n)).2 = if (if q then (v, n) else (65533, 1)) = (65533, 1) then 0 else (if q then (v, n) else (65533, 1)).2 := by
  by_cases hq : q
  · have hp : ¬ p := fun x => h.1 x hq
    rw [if_neg hp, if_pos hq, if_neg (fun e => hn (congrArg Prod.snd e))]
  · rw [if_pos (h.2 hq), if_neg hq, if_pos rfl]
theorem b_lt (b : UInt8) : b.toNat < 256 := UInt8.toNat_lt b
theorem at_dec (c : UInt8) (r : List UInt8) : (atF c.toNat r 4 1).2 = if dec (c :: r) = (65533, 1) then 0 else (dec (c :: r)).2 := by
  have hc := b_lt c
  by_cases h : c.toNat < 128
  · rw [atF_low h, dec_low h, if_neg (by intro e; have := congrArg Prod.fst e; simp at this; omega)]
  · rw [atF_high (by omega)]
    generalize hx : c.toNat = x at *
    have hd : dec (c :: r) = decodeN (r.length + 1) x (r.getD 0 0).toNat (r.getD 1 0).toNat (r.getD 2 0).toNat := by
      unfold dec
      rw [← hx]
      rfl
    rw [hd]
    clear hd hx
    have e2 : ∀ y : Nat, y < 256 → (y / 64 = 2 ↔ ¬ (y < 128 ∨ 191 < y)) := fun y hy => by omega
    have f0 : ¬ x < 128 := h
    by_cases c2 : 192 ≤ x ∧ x < 224
    · have hn : clsN x = 2 := by unfold clsN; rw [if_pos c2]
      have hv : clsV x = x - 192 := by unfold clsV; rw [if_pos c2]
      have hl : clsL x = 128 := by unfold clsL; rw [if_pos c2]
      have hm : clsM x = 2047 := by unfold clsM; rw [if_pos c2]
      have g2 : x / 32 = 6 := by omega
      have g3 : ¬ x / 16 = 14 := by omega
      have g4 : ¬ x / 8 = 30 := by omega
      rw [hn]
      match r with
      | [] => simp [decodeN, f0, g3, g4]
      | b :: r =>
        have hb := b_lt b
        rw [if_pos (by simp)]
        unfold begF decodeN
        simp only [hn, hv, hl, hm, List.take_succ_cons, List.take_zero, List.length_cons, List.length_nil, contV, List.getD_cons_zero, Nat.reduceAdd, Nat.reduceSub, f0, g2, g3, g4, false_and, if_false, true_and, Nat.lt_irrefl]
        generalize b.toNat = y at *
        by_cases hy : y < 128 ∨ 191 < y
        · have hy2 : ¬ y / 64 = 2 := by omega
          simp [hy, hy2]
        · have hy2 : y / 64 = 2 := by omega
          have hle : 1 < r.length + 1 + 1 := by omega
          have hc1 : 1 < r.length + 1 + 1 ∧ y / 64 = 2 := ⟨hle, hy2⟩
          rw [if_neg hy, if_pos hc1]
          have ev : x % 32 * 64 + y % 64 = 64 * (x - 192) + y - 128 := by omega
          rw [ev]
          have hub : 64 * (x - 192) + y - 128 ≤ 2047 := by omega
          generalize 64 * (x - 192) + y - 128 = v0 at hub ⊢
          clear ev hc1 hle hn hv hl hm
          simp only [wide0]
          exact fin2 _ _ (by decide) _ _ (by omega)
    · by_cases c3 : 224 ≤ x ∧ x < 240
      · have hn : clsN x = 3 := by unfold clsN; rw [if_neg c2, if_pos c3]
        have hv : clsV x = x - 224 := by unfold clsV; rw [if_neg c2, if_pos c3]
        have hl : clsL x = 2048 := by unfold clsL; rw [if_neg c2, if_pos c3]
        have hm : clsM x = 65535 := by unfold clsM; rw [if_neg c2, if_pos c3]
        have g2 : ¬ x / 32 = 6 := by omega
        have g3 : x / 16 = 14 := by omega
        have g4 : ¬ x / 8 = 30 := by omega
        rw [hn]
        match r with
        | [] => simp [decodeN, f0, g2, g4]
        | [b] => simp [decodeN, f0, g2, g4]
        | b :: b2 :: r =>
          have hb := b_lt b
          have hb2 := b_lt b2
          rw [if_pos (by simp)]
          unfold begF decodeN
          simp only [hn, hv, hl, hm, List.take_succ_cons, List.take_zero, List.length_cons, List.length_nil, contV, List.getD_cons_zero, List.getD_cons_succ, Nat.reduceAdd, Nat.reduceSub, f0, g2, g3, g4, false_and, if_false, true_and, Nat.lt_irrefl]
          generalize b.toNat = y at *
          generalize b2.toNat = z at *
          by_cases hy : y < 128 ∨ 191 < y
          · have hy2 : ¬ y / 64 = 2 := by omega
            simp [hy, hy2]
          · have hy2 : y / 64 = 2 := by omega
            by_cases hz : z < 128 ∨ 191 < z
            · have hz2 : ¬ z / 64 = 2 := by omega
              simp only [if_neg hy]
              simp [hz, hz2]
            · have hz2 : z / 64 = 2 := by omega
              have hle : 1 < r.length + 1 + 1 + 1 := by omega
              have hle2 : 2 < r.length + 1 + 1 + 1 := by omega
              have hc1 : (1 < r.length + 1 + 1 + 1 ∧ y / 64 = 2) ∧ 2 < r.length + 1 + 1 + 1 ∧ z / 64 = 2 := ⟨⟨hle, hy2⟩, hle2, hz2⟩
              rw [if_neg hy, if_neg hz, if_pos hc1]
              have ev : x % 16 * 4096 + y % 64 * 64 + z % 64 = 64 * (64 * (x - 224) + y - 128) + z - 128 := by omega
              rw [ev]
              have hub : 64 * (64 * (x - 224) + y - 128) + z - 128 ≤ 65535 := by omega
              generalize 64 * (64 * (x - 224) + y - 128) + z - 128 = v0 at hub ⊢
              clear ev hc1 hle hle2 hn hv hl hm
              simp only [wide0]
              exact fin2 _ _ (by decide) _ _ (by omega)
      · by_cases c4 : 240 ≤ x ∧ x < 248
        · have hn : clsN x = 4 := by unfold clsN; rw [if_neg c2, if_neg c3, if_pos c4]
          have hv : clsV x = x - 240 := by unfold clsV; rw [if_neg c2, if_neg c3, if_pos c4]
          have hl : clsL x = 65536 := by unfold clsL; rw [if_neg c2, if_neg c3, if_pos c4]
          have hm : clsM x = 1114111 := by unfold clsM; rw [if_neg c2, if_neg c3, if_pos c4]
          have g2 : ¬ x / 32 = 6 := by omega
          have g3 : ¬ x / 16 = 14 := by omega
          have g4 : x / 8 = 30 := by omega
          rw [hn]
          match r with
          | [] => simp [decodeN, f0, g2, g3]
          | [b] => simp [decodeN, f0, g2, g3]
          | [b, b2] => simp [decodeN, f0, g2, g3]
          | b :: b2 :: b3 :: r =>
            have hb := b_lt b
            have hb2 := b_lt b2
            have hb3 := b_lt b3
            rw [if_pos (by simp)]
            unfold begF decodeN
            simp only [hn, hv, hl, hm, List.take_succ_cons, List.take_zero, List.length_cons, List.length_nil, contV, List.getD_cons_zero, List.getD_cons_succ, Nat.reduceAdd, Nat.reduceSub, f0, g2, g3, g4, false_and, if_false, true_and, Nat.lt_irrefl]
            generalize b.toNat = y at *
            generalize b2.toNat = z at *
            generalize b3.toNat = t at *
            by_cases hy : y < 128 ∨ 191 < y
            · have hy2 : ¬ y / 64 = 2 := by omega
              simp [hy, hy2]
            · have hy2 : y / 64 = 2 := by omega
              by_cases hz : z < 128 ∨ 191 < z
              · have hz2 : ¬ z / 64 = 2 := by omega
                simp only [if_neg hy]
                simp [hz, hz2]
              · have hz2 : z / 64 = 2 := by omega
                by_cases ht : t < 128 ∨ 191 < t
                · have ht2 : ¬ t / 64 = 2 := by omega
                  simp only [if_neg hy, if_neg hz]
                  simp [ht, ht2]
                · have ht2 : t / 64 = 2 := by omega
                  have hle : 1 < r.length + 1 + 1 + 1 + 1 := by omega
                  have hle2 : 2 < r.length + 1 + 1 + 1 + 1 := by omega
                  have hle3 : 3 < r.length + 1 + 1 + 1 + 1 := by omega
                  have hc1 : (1 < r.length + 1 + 1 + 1 + 1 ∧ y / 64 = 2) ∧ (2 < r.length + 1 + 1 + 1 + 1 ∧ z / 64 = 2) ∧ 3 < r.length + 1 + 1 + 1 + 1 ∧ t / 64 = 2 := ⟨⟨hle, hy2⟩, ⟨hle2, hz2⟩, hle3, ht2⟩
                  rw [if_neg hy, if_neg hz, if_neg ht, if_pos hc1]
                  have ev : x % 8 * 262144 + y % 64 * 4096 + z % 64 * 64 + t % 64 = 64 * (64 * (64 * (x - 240) + y - 128) + z - 128) + t - 128 := by omega
                  rw [ev]
                  generalize 64 * (64 * (64 * (x - 240) + y - 128) + z - 128) + t - 128 = v0
                  clear ev hc1 hle hle2 hle3 hn hv hl hm
                  simp only [wide0]
                  exact fin2 _ _ (by decide) _ _ (by omega)
        · have hn : clsN x = 0 := by unfold clsN; rw [if_neg c2, if_neg c3, if_neg c4]
          have g2 : ¬ x / 32 = 6 := by omega
          have g3 : ¬ x / 16 = 14 := by omega
          have g4 : ¬ x / 8 = 30 := by omega
          rw [hn]
          simp [decodeN, f0, g2, g3, g4]
end Go.Proofs.YtcipjifpigpfdaaGreatDoor
/- The reference's decoder, walked: rosettaref01's begins. -/
namespace Go.Proofs.YtcipjifpigpfdaaGreatDoor
open Go.RowKit
open Go.Lib hiding intOf
theorem begF_low {c : Nat} (h : c < 128) : begF c [] = (c, 1) := by unfold begF; rw [if_pos ⟨h, rfl⟩]
theorem begF_len {c : Nat} {r : List UInt8} (h : clsN c < r.length + 1) (h1 : ¬ (c < 128 ∧ r.length = 0)) : begF c r = (0, 0) := by
  unfold begF
  rw [if_neg h1, if_pos h]
theorem begF_bad {c : Nat} {r : List UInt8} (h1 : 128 ≤ c) (h : contV (clsV c) r = none) : begF c r = (0, 0) := by
  unfold begF
  rw [if_neg (by omega), h]
  split <;> rfl
theorem begF_val {c : Nat} {r : List UInt8} {v l h : Nat} (h1 : 128 ≤ c) (h2 : ¬ clsN c < r.length + 1) (h3 : contV (clsV c) r = some v) (h4 : wideV (clsN c - (r.length + 1)) v v = (l, h)) :
    begF c r = if h < clsL c ∨ clsM c < l ∨ (55296 ≤ l ∧ h ≤ 57343) then (0, 0) else (l, clsN c) := by
  unfold begF
  rw [if_neg (by omega), if_neg h2, h3]
  simp only [h4]
theorem contV_step {j v : Nat} {b : UInt8} {r : List UInt8} (h : r[j]? = some b) : contV v (r.drop j) = if b.toNat < 128 ∨ 191 < b.toNat then none else contV (64 * v + b.toNat - 128) (r.drop (j + 1)) := by
  obtain ⟨hj, rfl⟩ := List.getElem?_eq_some_iff.1 h
  rw [List.drop_eq_getElem_cons hj, contV]
theorem ret_two {a b : Int} {p : Nat × Nat} {x y : Nat} (h : p = (x, y)) (h1 : a = x) (h2 : b = y) : (Ending.returned (.tuple #[.int .i64 a, .int .i64 b])) = .returned (.tuple #[.int .i64 (p.1 : Nat), .int .i64 (p.2 : Nat)]) := by
  rw [h, h1, h2]
set_option maxHeartbeats 8000000 in
set_option maxRecDepth 100000 in
theorem begins_any (w : World) (g o n cap : Nat) (c : UInt8) (r : List UInt8) (hn : n = r.length + 1) (hr : r.length ≤ 3) (hcell : ∀ (j : Nat) (b : UInt8), (c :: r)[j]? = some b → w.cell? ⟨g, o + j, none⟩ = some (.int .u8 b.toNat)) :
    Calls Tryz.prog 262 #[.slice (some ⟨g, o, none⟩) n cap] w fun e w' => e = .returned (.tuple #[.int .i64 ((begF c.toNat r).1 : Nat), .int .i64 ((begF c.toNat r).2 : Nat)]) ∧ Below w.heap.size w w' := by
  have hx256 := b_lt c
  have HC := PLift.up (show ∀ W', Below w.heap.size w W' → ∀ (j : Nat) (b : UInt8), (c :: r)[j]? = some b → W'.cell? ⟨g, o + j, none⟩ = some (.int .u8 b.toNat) from fun W' hb j b h => cell_keep hb (hcell j b h))
  have c0 : w.cell? ⟨g, o, none⟩ = some (.int .u8 c.toNat) := hcell 0 c rfl
  have hge : g < w.heap.size := World.block_lt_of_cell? w _ c0
  have hn1 : (1 : Int) ≤ (n : Int) := by omega
  have hn0 : (0 : Int) < (n : Int) := by omega
  clear hcell
  obtain ⟨x, hx⟩ : ∃ x, c.toNat = x := ⟨_, rfl⟩
  rw [hx] at hx256 c0 ⊢
  by_cases hlow : x < 128
  · have i0 : (x : Int) < 128 := by omega
    have i2 : ¬ (192 : Int) ≤ (x : Int) := by omega
    have i3 : ¬ (224 : Int) ≤ (x : Int) := by omega
    have i4 : ¬ (240 : Int) ≤ (x : Int) := by omega
    by_cases h1 : n = 1
    · obtain rfl : r = [] := List.length_eq_zero_iff.1 (by omega)
      have HB := PLift.up (show begF x [] = (x, 1) from begF_low hlow)
      subst h1
      clear hlow hr hn hx
      go_enter Tryz.func262, Tryz.ntmps262
      go_wp2
      go_ret2
      exact ⟨ret_two HB.down rfl rfl, Below.refl _ _⟩
    · have e1 : ¬ (n : Int) = 1 := by omega
      have HB := PLift.up (show begF x r = (0, 0) from begF_len (by have : clsN x = 0 := by { unfold clsN; rw [if_neg (by omega), if_neg (by omega), if_neg (by omega)] }; omega) (by omega))
      clear hlow hr hn hx h1
      go_enter Tryz.func262, Tryz.ntmps262
      go_wp2
      go_ret2
      exact ⟨ret_two HB.down rfl rfl, Below.refl _ _⟩
  by_cases hc2 : 192 ≤ x ∧ x < 224
  · have i0 : ¬ (x : Int) < 128 := by omega
    have j2 : (192 : Int) ≤ (x : Int) := by omega
    have j3 : ¬ (224 : Int) ≤ (x : Int) := by omega
    have j4 : ¬ (240 : Int) ≤ (x : Int) := by omega
    have k2 : (x : Int) < 224 := by omega
    have k3 : (x : Int) < 240 := by omega
    have k4 : (x : Int) < 248 := by omega
    have hcn : clsN x = 2 := by unfold clsN; rw [if_pos hc2]
    have hcv : clsV x = x - 192 := by unfold clsV; rw [if_pos hc2]
    have hcl : clsL x = 128 := by unfold clsL; rw [if_pos hc2]
    have hcm : clsM x = 2047 := by unfold clsM; rw [if_pos hc2]
    have HCL := PLift.up (And.intro hcn (And.intro hcv (And.intro hcl hcm)))
    have hsub : (x : Int) - 192 = ((x - 192 : Nat) : Int) := by omega
    have HSUB := PLift.up hsub
    clear hcn hcv hcl hcm hsub
    by_cases hov : 2 < n
    · have hovi : (2 : Int) < (n : Int) := by omega
      have HB := PLift.up (show begF x r = (0, 0) from begF_len (by rw [HCL.down.1]; omega) (by omega))
      clear hlow hr hn hx hov hc2
      go_enter Tryz.func262, Tryz.ntmps262
      go_wp2
      go_ret2
      exact ⟨ret_two HB.down rfl rfl, Below.refl _ _⟩
    have hovi : ¬ (2 : Int) < (n : Int) := by omega
    have HN := PLift.up (And.intro hn (And.intro hr (And.intro hlow hov)))
    have HX := PLift.up (And.intro hx hc2)
    clear hr hn hlow hov hx hc2
    go_enter Tryz.func262, Tryz.ntmps262
    go_wp2
    go_loopw [6, 9] (fun vv iv wr => ∃ j v : Nat, iv = .int .i64 j ∧ vv = .int .i64 v ∧ 1 ≤ j ∧ j ≤ n ∧ contV (x - 192) r = contV v (r.drop (j - 1)) ∧ ((j = 1 ∧ v < 32) ∨ (j = 2 ∧ v < 2048) ∨ (j = 3 ∧ v < 131072) ∨ (j = 4 ∧ v < 8388608)) ∧ Below w.heap.size w wr) (fun _ iv _ => n - (intOf iv).toNat)
    case atStart => exact ⟨1, x - 192, rfl, by rw [HSUB.down], Nat.le_refl _, by omega, rfl, .inl ⟨rfl, by have := HX.down.2; omega⟩, Below.refl _ _⟩
    case round =>
      obtain ⟨j, v, rfl, rfl, hj1, hjn, hcont, hvb, hbw⟩ := hrel
      have HBW := PLift.up hbw
      have hge2 : g < wr.heap.size := Nat.lt_of_lt_of_le hge hbw.size
      have hvi : (v : Int) < 8388608 := by omega
      have hvi0 : (0 : Int) ≤ (v : Int) := by omega
      by_cases hlt : j < n
      · have hlti : (j : Int) < (n : Int) := by omega
        obtain ⟨b, hb⟩ : ∃ b, r[j - 1]? = some b := ⟨_, List.getElem?_eq_getElem (by have := HN.down.1; omega)⟩
        have hcb := HC.down wr hbw j b (by rw [show j = (j - 1) + 1 by omega]; simpa using hb)
        have hst := contV_step (v := v) hb
        rw [show j - 1 + 1 = j by omega] at hst
        have hb256 := b_lt b
        obtain ⟨y, hy⟩ : ∃ y, b.toNat = y := ⟨_, rfl⟩
        rw [hy] at hcb hst hb256
        have HST := PLift.up (hcont.trans hst)
        have HV := PLift.up (And.intro hvb (And.intro hj1 hjn))
        clear hbw hcont hvb hst hb hy hj1 hjn
        by_cases hy1 : y < 128
        · have y1 : (y : Int) < 128 := by omega
          have HB := PLift.up (show begF x r = (0, 0) from begF_bad (by have := HN.down.2.2.1; omega) (by rw [HCL.down.2.1, HST.down, if_pos (.inl hy1)]))
          go_wp2
          go_ret2
          exact ⟨ret_two HB.down rfl rfl, HBW.down⟩
        · by_cases hy2 : 191 < y
          · have y1 : ¬ (y : Int) < 128 := by omega
            have y2 : (191 : Int) < (y : Int) := by omega
            have HB := PLift.up (show begF x r = (0, 0) from begF_bad (by have := HN.down.2.2.1; omega) (by rw [HCL.down.2.1, HST.down, if_pos (.inr hy2)]))
            go_wp2
            go_ret2
            exact ⟨ret_two HB.down rfl rfl, HBW.down⟩
          · have y1 : ¬ (y : Int) < 128 := by omega
            have y2 : ¬ (191 : Int) < (y : Int) := by omega
            have HS2 := PLift.up (HST.down.trans (if_neg (by omega)))
            have HY := PLift.up (And.intro hy1 hy2)
            clear hy1 hy2
            go_wp2
            go_roundw
            case rel => exact ⟨j + 1, 64 * v + y - 128, by go_num, by go_num, by omega, by omega, HS2.down, by have := HV.down; have := HY.down; omega, HBW.down⟩
            case measure => simp [intOf]; omega
      · obtain rfl : j = n := by omega
        have hdn : r.drop (j - 1) = [] := List.drop_eq_nil_of_le (by have := HN.down.1; omega)
        rw [hdn] at hcont
        have hnlt : ¬ (j : Int) < (j : Int) := by omega
        have HV := PLift.up (And.intro (hcont.trans rfl : contV (x - 192) r = some v) (And.intro hvb (And.intro hj1 hvi)))
        clear hcont hvb hdn hbw hj1 hjn hvi
        go_wp2
        go_loopw [10, 11, 12] (fun lv hv iv wr => ∃ i l h : Nat, iv = .int .i64 i ∧ lv = .int .i64 l ∧ hv = .int .i64 h ∧ j ≤ i ∧ i ≤ 2 ∧ wideV (2 - j) v v = wideV (2 - i) l h ∧ l ≤ h ∧ ((i = j ∧ h < 8388608) ∨ (i = j + 1 ∧ h < 536870912) ∨ (i = j + 2 ∧ h < 34359738368) ∨ (i = j + 3 ∧ h < 2199023255552)) ∧ Below w.heap.size w wr) (fun _ _ iv _ => 2 - (intOf iv).toNat)
        case atStart => exact ⟨j, v, v, rfl, rfl, rfl, Nat.le_refl _, by have := HN.down.2.2.2; omega, rfl, Nat.le_refl _, .inl ⟨rfl, by have := HV.down.2.2.2; omega⟩, HBW.down⟩
        case round =>
          obtain ⟨i, l, h, rfl, rfl, rfl, hi1, hi2, hw, hlh, hhb, hbw2⟩ := hrel
          have HBW2 := PLift.up hbw2
          have hhi : (h : Int) < 2199023255552 := by omega
          have hli : (l : Int) < 2199023255552 := by omega
          have hl0 : (0 : Int) ≤ (l : Int) := by omega
          have hh0 : (0 : Int) ≤ (h : Int) := by omega
          by_cases hik : i < 2
          · have hiki : (i : Int) < 2 := by omega
            have hw2 : wideV (2 - i) l h = wideV (2 - (i + 1)) (64 * l) (64 * h + 63) := by
              rw [show 2 - i = (2 - (i + 1)) + 1 by omega]; rfl
            have HW := PLift.up (And.intro (hw.trans hw2) (And.intro hhb (And.intro hlh (And.intro hi1 (And.intro hik HV.down.2.2.1)))))
            clear hw hw2 hhb hlh hbw2 hi1 hi2 hik
            go_wp2
            go_roundw
            case rel => exact ⟨i + 1, 64 * l, 64 * h + 63, by go_num, by go_num, by go_num, by have := HW.down; omega, by have := HW.down; omega, HW.down.1, by have := HW.down; omega, by have := HW.down; omega, HBW2.down⟩
            case measure => simp [intOf]; have := HW.down; omega
          · obtain rfl : i = 2 := by omega
            have hend : wideV (2 - j) v v = (l, h) := by rw [hw]; rfl
            have hval := begF_val (c := x) (r := r) (v := v) (l := l) (h := h) (by have := HN.down.2.2.1; omega) (by rw [HCL.down.1]; have := HN.down.1; have := HN.down.2.2.2; omega) (by rw [HCL.down.2.1]; exact HV.down.1) (by rw [HCL.down.1, ← HN.down.1]; exact hend)
            rw [HCL.down.1, HCL.down.2.2.1, HCL.down.2.2.2] at hval
            have HVAL := PLift.up hval
            have nlt : ¬ (2 : Int) < 2 := by omega
            clear hend hval hw hhb hbw2 hi1 hi2 hik
            by_cases q1 : h < 128
            · have q1i : (h : Int) < 128 := by omega
              have HB := PLift.up (HVAL.down.trans (if_pos (.inl q1)))
              clear q1
              go_wp2
              go_ret2
              exact ⟨ret_two HB.down rfl rfl, HBW2.down⟩
            · have q1i : ¬ (h : Int) < 128 := by omega
              by_cases q2 : 2047 < l
              · have q2i : (2047 : Int) < (l : Int) := by omega
                have HB := PLift.up (HVAL.down.trans (if_pos (.inr (.inl q2))))
                clear q1 q2
                go_wp2
                go_ret2
                exact ⟨ret_two HB.down rfl rfl, HBW2.down⟩
              · have q2i : ¬ (2047 : Int) < (l : Int) := by omega
                by_cases q3 : 55296 ≤ l
                · have q3i : (55296 : Int) ≤ (l : Int) := by omega
                  by_cases q4 : h ≤ 57343
                  · have q4i : (h : Int) ≤ 57343 := by omega
                    have HB := PLift.up (HVAL.down.trans (if_pos (.inr (.inr ⟨q3, q4⟩))))
                    clear q1 q2 q3 q4
                    go_wp2
                    go_ret2
                    exact ⟨ret_two HB.down rfl rfl, HBW2.down⟩
                  · have q4i : ¬ (h : Int) ≤ 57343 := by omega
                    have HB := PLift.up (HVAL.down.trans (if_neg (by omega)))
                    clear q1 q2 q3 q4
                    go_wp2
                    go_ret2
                    exact ⟨ret_two HB.down rfl rfl, HBW2.down⟩
                · have q3i : ¬ (55296 : Int) ≤ (l : Int) := by omega
                  have HB := PLift.up (HVAL.down.trans (if_neg (by omega)))
                  clear q1 q2 q3
                  go_wp2
                  go_ret2
                  exact ⟨ret_two HB.down rfl rfl, HBW2.down⟩
  by_cases hc3 : 224 ≤ x ∧ x < 240
  · have i0 : ¬ (x : Int) < 128 := by omega
    have j2 : (192 : Int) ≤ (x : Int) := by omega
    have j3 : (224 : Int) ≤ (x : Int) := by omega
    have j4 : ¬ (240 : Int) ≤ (x : Int) := by omega
    have k2 : ¬ (x : Int) < 224 := by omega
    have k3 : (x : Int) < 240 := by omega
    have k4 : (x : Int) < 248 := by omega
    have hcn : clsN x = 3 := by unfold clsN; rw [if_neg (by omega), if_pos hc3]
    have hcv : clsV x = x - 224 := by unfold clsV; rw [if_neg (by omega), if_pos hc3]
    have hcl : clsL x = 2048 := by unfold clsL; rw [if_neg (by omega), if_pos hc3]
    have hcm : clsM x = 65535 := by unfold clsM; rw [if_neg (by omega), if_pos hc3]
    have HCL := PLift.up (And.intro hcn (And.intro hcv (And.intro hcl hcm)))
    have hsub : (x : Int) - 224 = ((x - 224 : Nat) : Int) := by omega
    have HSUB := PLift.up hsub
    clear hcn hcv hcl hcm hsub
    by_cases hov : 3 < n
    · have hovi : (3 : Int) < (n : Int) := by omega
      have HB := PLift.up (show begF x r = (0, 0) from begF_len (by rw [HCL.down.1]; omega) (by omega))
      clear hlow hr hn hx hov hc3
      go_enter Tryz.func262, Tryz.ntmps262
      go_wp2
      go_ret2
      exact ⟨ret_two HB.down rfl rfl, Below.refl _ _⟩
    have hovi : ¬ (3 : Int) < (n : Int) := by omega
    have HN := PLift.up (And.intro hn (And.intro hr (And.intro hlow hov)))
    have HX := PLift.up (And.intro hx hc3)
    clear hr hn hlow hov hx hc3
    go_enter Tryz.func262, Tryz.ntmps262
    go_wp2
    go_loopw [6, 9] (fun vv iv wr => ∃ j v : Nat, iv = .int .i64 j ∧ vv = .int .i64 v ∧ 1 ≤ j ∧ j ≤ n ∧ contV (x - 224) r = contV v (r.drop (j - 1)) ∧ ((j = 1 ∧ v < 32) ∨ (j = 2 ∧ v < 2048) ∨ (j = 3 ∧ v < 131072) ∨ (j = 4 ∧ v < 8388608)) ∧ Below w.heap.size w wr) (fun _ iv _ => n - (intOf iv).toNat)
    case atStart => exact ⟨1, x - 224, rfl, by rw [HSUB.down], Nat.le_refl _, by omega, rfl, .inl ⟨rfl, by have := HX.down.2; omega⟩, Below.refl _ _⟩
    case round =>
      obtain ⟨j, v, rfl, rfl, hj1, hjn, hcont, hvb, hbw⟩ := hrel
      have HBW := PLift.up hbw
      have hge2 : g < wr.heap.size := Nat.lt_of_lt_of_le hge hbw.size
      have hvi : (v : Int) < 8388608 := by omega
      have hvi0 : (0 : Int) ≤ (v : Int) := by omega
      by_cases hlt : j < n
      · have hlti : (j : Int) < (n : Int) := by omega
        obtain ⟨b, hb⟩ : ∃ b, r[j - 1]? = some b := ⟨_, List.getElem?_eq_getElem (by have := HN.down.1; omega)⟩
        have hcb := HC.down wr hbw j b (by rw [show j = (j - 1) + 1 by omega]; simpa using hb)
        have hst := contV_step (v := v) hb
        rw [show j - 1 + 1 = j by omega] at hst
        have hb256 := b_lt b
        obtain ⟨y, hy⟩ : ∃ y, b.toNat = y := ⟨_, rfl⟩
        rw [hy] at hcb hst hb256
        have HST := PLift.up (hcont.trans hst)
        have HV := PLift.up (And.intro hvb (And.intro hj1 hjn))
        clear hbw hcont hvb hst hb hy hj1 hjn
        by_cases hy1 : y < 128
        · have y1 : (y : Int) < 128 := by omega
          have HB := PLift.up (show begF x r = (0, 0) from begF_bad (by have := HN.down.2.2.1; omega) (by rw [HCL.down.2.1, HST.down, if_pos (.inl hy1)]))
          go_wp2
          go_ret2
          exact ⟨ret_two HB.down rfl rfl, HBW.down⟩
        · by_cases hy2 : 191 < y
          · have y1 : ¬ (y : Int) < 128 := by omega
            have y2 : (191 : Int) < (y : Int) := by omega
            have HB := PLift.up (show begF x r = (0, 0) from begF_bad (by have := HN.down.2.2.1; omega) (by rw [HCL.down.2.1, HST.down, if_pos (.inr hy2)]))
            go_wp2
            go_ret2
            exact ⟨ret_two HB.down rfl rfl, HBW.down⟩
          · have y1 : ¬ (y : Int) < 128 := by omega
            have y2 : ¬ (191 : Int) < (y : Int) := by omega
            have HS2 := PLift.up (HST.down.trans (if_neg (by omega)))
            have HY := PLift.up (And.intro hy1 hy2)
            clear hy1 hy2
            go_wp2
            go_roundw
            case rel => exact ⟨j + 1, 64 * v + y - 128, by go_num, by go_num, by omega, by omega, HS2.down, by have := HV.down; have := HY.down; omega, HBW.down⟩
            case measure => simp [intOf]; omega
      · obtain rfl : j = n := by omega
        have hdn : r.drop (j - 1) = [] := List.drop_eq_nil_of_le (by have := HN.down.1; omega)
        rw [hdn] at hcont
        have hnlt : ¬ (j : Int) < (j : Int) := by omega
        have HV := PLift.up (And.intro (hcont.trans rfl : contV (x - 224) r = some v) (And.intro hvb (And.intro hj1 hvi)))
        clear hcont hvb hdn hbw hj1 hjn hvi
        go_wp2
        go_loopw [10, 11, 12] (fun lv hv iv wr => ∃ i l h : Nat, iv = .int .i64 i ∧ lv = .int .i64 l ∧ hv = .int .i64 h ∧ j ≤ i ∧ i ≤ 3 ∧ wideV (3 - j) v v = wideV (3 - i) l h ∧ l ≤ h ∧ ((i = j ∧ h < 8388608) ∨ (i = j + 1 ∧ h < 536870912) ∨ (i = j + 2 ∧ h < 34359738368) ∨ (i = j + 3 ∧ h < 2199023255552)) ∧ Below w.heap.size w wr) (fun _ _ iv _ => 3 - (intOf iv).toNat)
        case atStart => exact ⟨j, v, v, rfl, rfl, rfl, Nat.le_refl _, by have := HN.down.2.2.2; omega, rfl, Nat.le_refl _, .inl ⟨rfl, by have := HV.down.2.2.2; omega⟩, HBW.down⟩
        case round =>
          obtain ⟨i, l, h, rfl, rfl, rfl, hi1, hi2, hw, hlh, hhb, hbw2⟩ := hrel
          have HBW2 := PLift.up hbw2
          have hhi : (h : Int) < 2199023255552 := by omega
          have hli : (l : Int) < 2199023255552 := by omega
          have hl0 : (0 : Int) ≤ (l : Int) := by omega
          have hh0 : (0 : Int) ≤ (h : Int) := by omega
          by_cases hik : i < 3
          · have hiki : (i : Int) < 3 := by omega
            have hw2 : wideV (3 - i) l h = wideV (3 - (i + 1)) (64 * l) (64 * h + 63) := by
              rw [show 3 - i = (3 - (i + 1)) + 1 by omega]; rfl
            have HW := PLift.up (And.intro (hw.trans hw2) (And.intro hhb (And.intro hlh (And.intro hi1 (And.intro hik HV.down.2.2.1)))))
            clear hw hw2 hhb hlh hbw2 hi1 hi2 hik
            go_wp2
            go_roundw
            case rel => exact ⟨i + 1, 64 * l, 64 * h + 63, by go_num, by go_num, by go_num, by have := HW.down; omega, by have := HW.down; omega, HW.down.1, by have := HW.down; omega, by have := HW.down; omega, HBW2.down⟩
            case measure => simp [intOf]; have := HW.down; omega
          · obtain rfl : i = 3 := by omega
            have hend : wideV (3 - j) v v = (l, h) := by rw [hw]; rfl
            have hval := begF_val (c := x) (r := r) (v := v) (l := l) (h := h) (by have := HN.down.2.2.1; omega) (by rw [HCL.down.1]; have := HN.down.1; have := HN.down.2.2.2; omega) (by rw [HCL.down.2.1]; exact HV.down.1) (by rw [HCL.down.1, ← HN.down.1]; exact hend)
            rw [HCL.down.1, HCL.down.2.2.1, HCL.down.2.2.2] at hval
            have HVAL := PLift.up hval
            have nlt : ¬ (3 : Int) < 3 := by omega
            clear hend hval hw hhb hbw2 hi1 hi2 hik
            by_cases q1 : h < 2048
            · have q1i : (h : Int) < 2048 := by omega
              have HB := PLift.up (HVAL.down.trans (if_pos (.inl q1)))
              clear q1
              go_wp2
              go_ret2
              exact ⟨ret_two HB.down rfl rfl, HBW2.down⟩
            · have q1i : ¬ (h : Int) < 2048 := by omega
              by_cases q2 : 65535 < l
              · have q2i : (65535 : Int) < (l : Int) := by omega
                have HB := PLift.up (HVAL.down.trans (if_pos (.inr (.inl q2))))
                clear q1 q2
                go_wp2
                go_ret2
                exact ⟨ret_two HB.down rfl rfl, HBW2.down⟩
              · have q2i : ¬ (65535 : Int) < (l : Int) := by omega
                by_cases q3 : 55296 ≤ l
                · have q3i : (55296 : Int) ≤ (l : Int) := by omega
                  by_cases q4 : h ≤ 57343
                  · have q4i : (h : Int) ≤ 57343 := by omega
                    have HB := PLift.up (HVAL.down.trans (if_pos (.inr (.inr ⟨q3, q4⟩))))
                    clear q1 q2 q3 q4
                    go_wp2
                    go_ret2
                    exact ⟨ret_two HB.down rfl rfl, HBW2.down⟩
                  · have q4i : ¬ (h : Int) ≤ 57343 := by omega
                    have HB := PLift.up (HVAL.down.trans (if_neg (by omega)))
                    clear q1 q2 q3 q4
                    go_wp2
                    go_ret2
                    exact ⟨ret_two HB.down rfl rfl, HBW2.down⟩
                · have q3i : ¬ (55296 : Int) ≤ (l : Int) := by omega
                  have HB := PLift.up (HVAL.down.trans (if_neg (by omega)))
                  clear q1 q2 q3
                  go_wp2
                  go_ret2
                  exact ⟨ret_two HB.down rfl rfl, HBW2.down⟩
  by_cases hc4 : 240 ≤ x ∧ x < 248
  · have i0 : ¬ (x : Int) < 128 := by omega
    have j2 : (192 : Int) ≤ (x : Int) := by omega
    have j3 : (224 : Int) ≤ (x : Int) := by omega
    have j4 : (240 : Int) ≤ (x : Int) := by omega
    have k2 : ¬ (x : Int) < 224 := by omega
    have k3 : ¬ (x : Int) < 240 := by omega
    have k4 : (x : Int) < 248 := by omega
    have hcn : clsN x = 4 := by unfold clsN; rw [if_neg (by omega), if_neg (by omega), if_pos hc4]
    have hcv : clsV x = x - 240 := by unfold clsV; rw [if_neg (by omega), if_neg (by omega), if_pos hc4]
    have hcl : clsL x = 65536 := by unfold clsL; rw [if_neg (by omega), if_neg (by omega), if_pos hc4]
    have hcm : clsM x = 1114111 := by unfold clsM; rw [if_neg (by omega), if_neg (by omega), if_pos hc4]
    have HCL := PLift.up (And.intro hcn (And.intro hcv (And.intro hcl hcm)))
    have hsub : (x : Int) - 240 = ((x - 240 : Nat) : Int) := by omega
    have HSUB := PLift.up hsub
    clear hcn hcv hcl hcm hsub
    by_cases hov : 4 < n
    · have hovi : (4 : Int) < (n : Int) := by omega
      have HB := PLift.up (show begF x r = (0, 0) from begF_len (by rw [HCL.down.1]; omega) (by omega))
      clear hlow hr hn hx hov hc4
      go_enter Tryz.func262, Tryz.ntmps262
      go_wp2
      go_ret2
      exact ⟨ret_two HB.down rfl rfl, Below.refl _ _⟩
    have hovi : ¬ (4 : Int) < (n : Int) := by omega
    have HN := PLift.up (And.intro hn (And.intro hr (And.intro hlow hov)))
    have HX := PLift.up (And.intro hx hc4)
    clear hr hn hlow hov hx hc4
    go_enter Tryz.func262, Tryz.ntmps262
    go_wp2
    go_loopw [6, 9] (fun vv iv wr => ∃ j v : Nat, iv = .int .i64 j ∧ vv = .int .i64 v ∧ 1 ≤ j ∧ j ≤ n ∧ contV (x - 240) r = contV v (r.drop (j - 1)) ∧ ((j = 1 ∧ v < 32) ∨ (j = 2 ∧ v < 2048) ∨ (j = 3 ∧ v < 131072) ∨ (j = 4 ∧ v < 8388608)) ∧ Below w.heap.size w wr) (fun _ iv _ => n - (intOf iv).toNat)
    case atStart => exact ⟨1, x - 240, rfl, by rw [HSUB.down], Nat.le_refl _, by omega, rfl, .inl ⟨rfl, by have := HX.down.2; omega⟩, Below.refl _ _⟩
    case round =>
      obtain ⟨j, v, rfl, rfl, hj1, hjn, hcont, hvb, hbw⟩ := hrel
      have HBW := PLift.up hbw
      have hge2 : g < wr.heap.size := Nat.lt_of_lt_of_le hge hbw.size
      have hvi : (v : Int) < 8388608 := by omega
      have hvi0 : (0 : Int) ≤ (v : Int) := by omega
      by_cases hlt : j < n
      · have hlti : (j : Int) < (n : Int) := by omega
        obtain ⟨b, hb⟩ : ∃ b, r[j - 1]? = some b := ⟨_, List.getElem?_eq_getElem (by have := HN.down.1; omega)⟩
        have hcb := HC.down wr hbw j b (by rw [show j = (j - 1) + 1 by omega]; simpa using hb)
        have hst := contV_step (v := v) hb
        rw [show j - 1 + 1 = j by omega] at hst
        have hb256 := b_lt b
        obtain ⟨y, hy⟩ : ∃ y, b.toNat = y := ⟨_, rfl⟩
        rw [hy] at hcb hst hb256
        have HST := PLift.up (hcont.trans hst)
        have HV := PLift.up (And.intro hvb (And.intro hj1 hjn))
        clear hbw hcont hvb hst hb hy hj1 hjn
        by_cases hy1 : y < 128
        · have y1 : (y : Int) < 128 := by omega
          have HB := PLift.up (show begF x r = (0, 0) from begF_bad (by have := HN.down.2.2.1; omega) (by rw [HCL.down.2.1, HST.down, if_pos (.inl hy1)]))
          go_wp2
          go_ret2
          exact ⟨ret_two HB.down rfl rfl, HBW.down⟩
        · by_cases hy2 : 191 < y
          · have y1 : ¬ (y : Int) < 128 := by omega
            have y2 : (191 : Int) < (y : Int) := by omega
            have HB := PLift.up (show begF x r = (0, 0) from begF_bad (by have := HN.down.2.2.1; omega) (by rw [HCL.down.2.1, HST.down, if_pos (.inr hy2)]))
            go_wp2
            go_ret2
            exact ⟨ret_two HB.down rfl rfl, HBW.down⟩
          · have y1 : ¬ (y : Int) < 128 := by omega
            have y2 : ¬ (191 : Int) < (y : Int) := by omega
            have HS2 := PLift.up (HST.down.trans (if_neg (by omega)))
            have HY := PLift.up (And.intro hy1 hy2)
            clear hy1 hy2
            go_wp2
            go_roundw
            case rel => exact ⟨j + 1, 64 * v + y - 128, by go_num, by go_num, by omega, by omega, HS2.down, by have := HV.down; have := HY.down; omega, HBW.down⟩
            case measure => simp [intOf]; omega
      · obtain rfl : j = n := by omega
        have hdn : r.drop (j - 1) = [] := List.drop_eq_nil_of_le (by have := HN.down.1; omega)
        rw [hdn] at hcont
        have hnlt : ¬ (j : Int) < (j : Int) := by omega
        have HV := PLift.up (And.intro (hcont.trans rfl : contV (x - 240) r = some v) (And.intro hvb (And.intro hj1 hvi)))
        clear hcont hvb hdn hbw hj1 hjn hvi
        go_wp2
        go_loopw [10, 11, 12] (fun lv hv iv wr => ∃ i l h : Nat, iv = .int .i64 i ∧ lv = .int .i64 l ∧ hv = .int .i64 h ∧ j ≤ i ∧ i ≤ 4 ∧ wideV (4 - j) v v = wideV (4 - i) l h ∧ l ≤ h ∧ ((i = j ∧ h < 8388608) ∨ (i = j + 1 ∧ h < 536870912) ∨ (i = j + 2 ∧ h < 34359738368) ∨ (i = j + 3 ∧ h < 2199023255552)) ∧ Below w.heap.size w wr) (fun _ _ iv _ => 4 - (intOf iv).toNat)
        case atStart => exact ⟨j, v, v, rfl, rfl, rfl, Nat.le_refl _, by have := HN.down.2.2.2; omega, rfl, Nat.le_refl _, .inl ⟨rfl, by have := HV.down.2.2.2; omega⟩, HBW.down⟩
        case round =>
          obtain ⟨i, l, h, rfl, rfl, rfl, hi1, hi2, hw, hlh, hhb, hbw2⟩ := hrel
          have HBW2 := PLift.up hbw2
          have hhi : (h : Int) < 2199023255552 := by omega
          have hli : (l : Int) < 2199023255552 := by omega
          have hl0 : (0 : Int) ≤ (l : Int) := by omega
          have hh0 : (0 : Int) ≤ (h : Int) := by omega
          by_cases hik : i < 4
          · have hiki : (i : Int) < 4 := by omega
            have hw2 : wideV (4 - i) l h = wideV (4 - (i + 1)) (64 * l) (64 * h + 63) := by
              rw [show 4 - i = (4 - (i + 1)) + 1 by omega]; rfl
            have HW := PLift.up (And.intro (hw.trans hw2) (And.intro hhb (And.intro hlh (And.intro hi1 (And.intro hik HV.down.2.2.1)))))
            clear hw hw2 hhb hlh hbw2 hi1 hi2 hik
            go_wp2
            go_roundw
            case rel => exact ⟨i + 1, 64 * l, 64 * h + 63, by go_num, by go_num, by go_num, by have := HW.down; omega, by have := HW.down; omega, HW.down.1, by have := HW.down; omega, by have := HW.down; omega, HBW2.down⟩
            case measure => simp [intOf]; have := HW.down; omega
          · obtain rfl : i = 4 := by omega
            have hend : wideV (4 - j) v v = (l, h) := by rw [hw]; rfl
            have hval := begF_val (c := x) (r := r) (v := v) (l := l) (h := h) (by have := HN.down.2.2.1; omega) (by rw [HCL.down.1]; have := HN.down.1; have := HN.down.2.2.2; omega) (by rw [HCL.down.2.1]; exact HV.down.1) (by rw [HCL.down.1, ← HN.down.1]; exact hend)
            rw [HCL.down.1, HCL.down.2.2.1, HCL.down.2.2.2] at hval
            have HVAL := PLift.up hval
            have nlt : ¬ (4 : Int) < 4 := by omega
            clear hend hval hw hhb hbw2 hi1 hi2 hik
            by_cases q1 : h < 65536
            · have q1i : (h : Int) < 65536 := by omega
              have HB := PLift.up (HVAL.down.trans (if_pos (.inl q1)))
              clear q1
              go_wp2
              go_ret2
              exact ⟨ret_two HB.down rfl rfl, HBW2.down⟩
            · have q1i : ¬ (h : Int) < 65536 := by omega
              by_cases q2 : 1114111 < l
              · have q2i : (1114111 : Int) < (l : Int) := by omega
                have HB := PLift.up (HVAL.down.trans (if_pos (.inr (.inl q2))))
                clear q1 q2
                go_wp2
                go_ret2
                exact ⟨ret_two HB.down rfl rfl, HBW2.down⟩
              · have q2i : ¬ (1114111 : Int) < (l : Int) := by omega
                by_cases q3 : 55296 ≤ l
                · have q3i : (55296 : Int) ≤ (l : Int) := by omega
                  by_cases q4 : h ≤ 57343
                  · have q4i : (h : Int) ≤ 57343 := by omega
                    have HB := PLift.up (HVAL.down.trans (if_pos (.inr (.inr ⟨q3, q4⟩))))
                    clear q1 q2 q3 q4
                    go_wp2
                    go_ret2
                    exact ⟨ret_two HB.down rfl rfl, HBW2.down⟩
                  · have q4i : ¬ (h : Int) ≤ 57343 := by omega
                    have HB := PLift.up (HVAL.down.trans (if_neg (by omega)))
                    clear q1 q2 q3 q4
                    go_wp2
                    go_ret2
                    exact ⟨ret_two HB.down rfl rfl, HBW2.down⟩
                · have q3i : ¬ (55296 : Int) ≤ (l : Int) := by omega
                  have HB := PLift.up (HVAL.down.trans (if_neg (by omega)))
                  clear q1 q2 q3
                  go_wp2
                  go_ret2
                  exact ⟨ret_two HB.down rfl rfl, HBW2.down⟩
  have i0 : ¬ (x : Int) < 128 := by omega
  have HB := PLift.up (show begF x r = (0, 0) from begF_len (by have : clsN x = 0 := by { unfold clsN; rw [if_neg hc2, if_neg hc3, if_neg hc4] }; omega) (by omega))
  by_cases h5 : x < 192
  · have i2 : ¬ (192 : Int) ≤ (x : Int) := by omega
    have i3 : ¬ (224 : Int) ≤ (x : Int) := by omega
    have i4 : ¬ (240 : Int) ≤ (x : Int) := by omega
    clear hlow hr hn hx hc2 hc3 hc4 h5
    go_enter Tryz.func262, Tryz.ntmps262
    go_wp2
    go_ret2
    exact ⟨ret_two HB.down rfl rfl, Below.refl _ _⟩
  · have i2 : (192 : Int) ≤ (x : Int) := by omega
    have i3 : (224 : Int) ≤ (x : Int) := by omega
    have i4 : (240 : Int) ≤ (x : Int) := by omega
    have j2 : ¬ (x : Int) < 224 := by omega
    have j3 : ¬ (x : Int) < 240 := by omega
    have j4 : ¬ (x : Int) < 248 := by omega
    clear hlow hr hn hx hc2 hc3 hc4 h5
    go_enter Tryz.func262, Tryz.ntmps262
    go_wp2
    go_ret2
    exact ⟨ret_two HB.down rfl rfl, Below.refl _ _⟩
end Go.Proofs.YtcipjifpigpfdaaGreatDoor
/- The reference's decoder, walked: rosettaref01's At, Decode and Valid. -/
namespace Go.Proofs.YtcipjifpigpfdaaGreatDoor
open Go.RowKit
open Go.Lib hiding intOf
theorem atF_stop {c : Nat} {r : List UInt8} {f k : Nat} (h : r.length + 1 < k) : atF c r f k = (0, 0) := by
  cases f with
  | zero => rfl
  | succ f => rw [atF, if_pos h]
theorem atF_hit {c : Nat} {r : List UInt8} {f k : Nat} (h : ¬ r.length + 1 < k) (h2 : (begF c (r.take (k - 1))).2 = k) : atF c r (f + 1) k = begF c (r.take (k - 1)) := by
  rw [atF, if_neg h, if_pos h2]
theorem atF_next {c : Nat} {r : List UInt8} {f k : Nat} (h : ¬ r.length + 1 < k) (h2 : ¬ (begF c (r.take (k - 1))).2 = k) : atF c r (f + 1) k = atF c r f (k + 1) := by
  rw [atF, if_neg h, if_neg h2]
theorem take_get {c : UInt8} {r : List UInt8} {k j : Nat} {b : UInt8} (h : (c :: r.take (k - 1))[j]? = some b) : (c :: r)[j]? = some b ∧ j < k ∨ k = 0 := by
  cases j with
  | zero =>
    by_cases hk : k = 0
    · exact .inr hk
    · exact .inl ⟨by simpa using h, by omega⟩
  | succ j =>
    simp only [List.getElem?_cons_succ, List.getElem?_take] at h ⊢
    split at h
    · exact .inl ⟨h, by omega⟩
    · cases h
set_option maxHeartbeats 4000000 in
set_option maxRecDepth 100000 in
theorem at_any (s : ByteArray) (p : Nat) (c : UInt8) (r : List UInt8) (w : World) (hd : s.data.toList.drop p = c :: r) (hs : s.size ≤ 1000000) :
    Calls Tryz.prog 218 #[.string s, .int .i64 p] w fun e w' => e = .returned (.tuple #[.int .i64 ((atF c.toNat r 4 1).1 : Nat), .int .i64 ((atF c.toNat r 4 1).2 : Nat)]) ∧ Below w.heap.size w w' := by
  have hl : s.data.toList.length = s.size := by simp
  have hpr : p + r.length + 1 = s.size := by
    have := congrArg List.length hd
    rw [List.length_drop, List.length_cons] at this
    omega
  have hcv := Lib.run_convert_string_bytes (P := Tryz.prog) w 9 52 5 s Tryz.underlying9 Tryz.underlying52 Tryz.underlying5
  have hcell : ∀ (j : Nat) (b : UInt8), (c :: r)[j]? = some b → (Lib.bytesWorld w 5 s).cell? ⟨w.heap.size, p + j, none⟩ = some (.int .u8 b.toNat) := fun j b hb => by
    rw [← hd, List.getElem?_drop] at hb
    have hlt := (List.getElem?_eq_some_iff.1 hb).1
    rw [Lib.bytesWorld_cell w 5 s (p + j) (by omega), List.getD_eq_getElem?_getD, hb]
    rfl
  have hb0 := Lib.bytesWorld_below w 5 s
  have hsz := Lib.bytesWorld_size w 5 s
  obtain ⟨C, hC⟩ : ∃ C, grownCap w s.size 0 5 = C := ⟨_, rfl⟩
  have hcap : s.size ≤ C := by rw [← hC]; exact grownCap_ge _ _ _ _
  rw [hC] at hcv
  obtain ⟨W1, hW1⟩ : ∃ W1, Lib.bytesWorld w 5 s = W1 := ⟨_, rfl⟩
  rw [hW1] at hcv hcell hb0 hsz
  have HC := PLift.up hcell
  have HB := PLift.up hb0
  have HP := PLift.up (And.intro hpr hs)
  have HZ := PLift.up hsz
  have hci : (s.size : Int) ≤ (C : Int) := by omega
  have hCp : ¬ C = p := by omega
  have hp0 : (0 : Int) ≤ (p : Int) := by omega
  have hp1 : (p : Int) < 1000000 := by omega
  have hs1 : (s.size : Int) ≤ 1000000 := by omega
  clear hd hcell hb0 hC hW1 hl hpr hs hcap hsz
  go_enter Tryz.func218, Tryz.ntmps218
  go_wp2
  go_loopw [7] (fun kv wr => ∃ k : Nat, kv = .int .i64 k ∧ 1 ≤ k ∧ k ≤ 5 ∧ atF c.toNat r 4 1 = atF c.toNat r (5 - k) k ∧ Below W1.heap.size W1 wr) (fun kv _ => 5 - (intOf kv).toNat)
  case atStart => exact ⟨1, rfl, Nat.le_refl _, by omega, rfl, Below.refl _ _⟩
  case round =>
    obtain ⟨k, rfl, hk1, hk5, hat, hbw⟩ := hrel
    have HBW := PLift.up hbw
    by_cases h4 : k ≤ 4
    · have h4i : (k : Int) ≤ 4 := by omega
      by_cases hps : p + k ≤ s.size
      · have hpsi : (p : Int) + (k : Int) ≤ (s.size : Int) := by omega
        have hpc : (p : Int) + (k : Int) ≤ (C : Int) := by omega
        have hpk : (p : Int) ≤ (p : Int) + (k : Int) := by omega
        have hnl : ¬ r.length + 1 < k := by have := HP.down.1; omega
        have HBG := PLift.up (begins_any wr w.heap.size p k (C - p) c (r.take (k - 1)) (by rw [List.length_take]; have := HP.down.1; omega) (by rw [List.length_take]; omega) (fun j b hb => by
          rcases take_get hb with ⟨h1, h2⟩ | h1
          · exact cell_keep hbw (HC.down j b h1)
          · omega))
        obtain ⟨v, n, hvn⟩ : ∃ v n, begF c.toNat (r.take (k - 1)) = (v, n) := ⟨_, _, rfl⟩
        have HHIT := PLift.up (show n = k → atF c.toNat r 4 1 = (v, n) from fun e => by rw [hat, show 5 - k = (4 - k) + 1 by omega, atF_hit hnl (by rw [hvn]; exact e), hvn])
        have HNEX := PLift.up (show ¬ n = k → atF c.toNat r 4 1 = atF c.toNat r (5 - (k + 1)) (k + 1) from fun e => by rw [hat, show 5 - k = (5 - (k + 1)) + 1 by omega, atF_next hnl (by rw [hvn]; exact e)])
        rw [hvn] at HBG
        dsimp only at HBG
        have HK := PLift.up (And.intro hk1 h4)
        clear hat hbw hk1 hk5 h4 hps hnl hvn
        by_cases hnk : n = k
        · have hnki : (n : Int) = (k : Int) := by omega
          have HH := PLift.up (HHIT.down hnk)
          clear hnk
          go_wp2_with (go_at_call 262; refine HBG.down.mono ?_; rintro e w1 ⟨rfl, hb1⟩; have HB1 := PLift.up hb1; clear hb1)
          go_ret2
          exact ⟨ret_two HH.down rfl (by omega), HB.down.trans ((HBW.down.trans (HB1.down.mono HBW.down.size)).mono HB.down.size)⟩
        · have HH := PLift.up (HNEX.down hnk)
          have en : ((n : Int) == (k : Int)) = false := by simp; omega
          clear hnk
          go_wp2_with (go_at_call 262; refine HBG.down.mono ?_; rintro e w1 ⟨rfl, hb1⟩; have HB1 := PLift.up hb1; clear hb1)
          go_roundw
          case rel => exact ⟨k + 1, by go_num, by omega, by have := HK.down; omega, HH.down, HBW.down.trans (HB1.down.mono HBW.down.size)⟩
          case measure => simp [intOf]; omega
      · have hpsi : ¬ (p : Int) + (k : Int) ≤ (s.size : Int) := by omega
        have HH := PLift.up (hat.trans (atF_stop (by have := HP.down.1; omega)))
        clear hat hps hbw
        go_wp2
        go_ret2
        exact ⟨ret_two HH.down rfl rfl, HB.down.trans (HBW.down.mono HB.down.size)⟩
    · have h4i : ¬ (k : Int) ≤ 4 := by omega
      have HH := PLift.up (show atF c.toNat r 4 1 = (0, 0) by rw [hat, show 5 - k = 0 by omega]; rfl)
      clear hat hbw
      go_wp2
      go_ret2
      exact ⟨ret_two HH.down rfl rfl, HB.down.trans (HBW.down.mono HB.down.size)⟩
theorem add_zeroR (b o : Nat) : (⟨b, 0, none⟩ : Addr).add o = ⟨b, o, none⟩ := by unfold Addr.add; split <;> simp_all
/-- 'append(l, x)', x of any size, l a row of the call's own -/
theorem app_row {T E size bytes : Nat} {z : Value} (hT : Tryz.prog.underlying T = some (.slice E)) (hinfo : (Tryz.prog.info? E).map (fun i => (i.zero, i.size, i.bytes)) = some (some z, size, bytes)) (hz : z.cells.size = size) (hsz : 0 < size) (hby : bytes ≤ 1000)
    {ops : Array Oper} {rest : List Oper} {o : Oper} {a : Act} {Q : Exit → Act → World → Prop} (w : World) (hgd : o.guard = none) (s x : Operand)
    (ho : o.op = .call { callee := .builtin .append, args := #[s, x], argTypes := #[T, T] }) {B n : Nat} {v : Value} {xs : List Value} (hs : a.eval s = v) (hown : w.ownsRow B E size v n xs) (cs : Array Value) (hcs : cs.size = size) (hone : ∀ u ∈ cs.toList, u.oneCell' = true)
    (H c : Nat) (hH : w.heap.size = H) (hx : a.eval x = .slice (some ⟨H, 0, none⟩) 1 c) (hlen : n ≤ 100000000) (hB : B ≤ w.heap.size)
    (h : ∀ v' w', w'.ownsRow B E size v' (n + 1) (xs ++ cs.toList) → Below B w w' → wpList Tryz.prog ops Q rest (a.put o.dst v') w') : wpList Tryz.prog ops Q (o :: rest) a (w.alloc (.cells cs E)) := by
  obtain ⟨i0, hi, hz0, hz1, hz2⟩ := info_parts hinfo
  subst hH
  have hb : (n + 1) * bytes ≤ 140737488355328 := Nat.le_trans (Nat.mul_le_mul (show n + 1 ≤ 100000001 by omega) hby) (by decide)
  refine wpList_append_own _ hgd s x T ho B E i0 z size bytes hT hi hz0 hz1 hz2 hz hsz v n xs hs (World.ownsRow.alloc hown _) ⟨w.heap.size, 0, none⟩ 1 c cs.toList hx (by simp [hcs]) ?_ hone (by unfold maxLen; omega) hb (by simp; omega) ?_
  · intro j u hj
    rw [add_zeroR, Lib.cell_of_heap (heap_alloc_new w _)]
    simpa using hj
  · intro v' w' hown' hg _
    exact h v' w' hown' (((Below.refl B w).alloc hB _).grown hg (by simp; omega) (fun k hk => (World.ownsRow.lt hown k hk).1))
/-- a row of the call's own stands below what a callee leaves alone -/
theorem row_keep {w w' : World} {B e size n : Nat} {v : Value} {xs : List Value} (h : w.ownsRow B e size v n xs) (hb : Below w.heap.size w w') : w'.ownsRow B e size v n xs := by
  refine ⟨h.1, ?_⟩
  rcases h.2 with hn | ⟨g, cap, cur, hv, p1, p2, p3⟩
  · exact .inl hn
  · exact .inr ⟨g, cap, cur, hv, p1, by rw [hb.block _ (Array.getElem?_eq_some_iff.1 p2).1]; exact p2, p3⟩
theorem chk_cons (c : UInt8) (r : List UInt8) : chk (c :: r) = if dec (c :: r) = (65533, 1) then false else chk (r.drop ((dec (c :: r)).2 - 1)) := by rw [chk]
theorem info_i32 : (Tryz.prog.info? 21).map (fun i => (i.zero, i.size, i.bytes)) = some (some (.int .i32 0), 1, 4) := by kernel_rfl
set_option maxHeartbeats 4000000 in
set_option maxRecDepth 100000 in
theorem decode_any (s : ByteArray) (w : World) (hs : s.size ≤ 1000000) :
    Calls Tryz.prog 160 #[.string s] w fun e w' => (∃ v k, e = .returned (.tuple #[v, .int .i64 k]) ∧ (chk s.data.toList = true ↔ k < 0)) ∧ Below w.heap.size w w' := by
  have hl : s.data.toList.length = s.size := by simp
  have hs1 : (s.size : Int) ≤ 1000000 := by omega
  have HL := PLift.up (And.intro hl hs)
  clear hl hs
  go_enter Tryz.func160, Tryz.ntmps160
  go_wp2
  go_loopw [4, 5] (fun ov pv wr => ∃ (p n : Nat) (xs : List Value), pv = .int .i64 p ∧ p ≤ s.size ∧ n ≤ p ∧ chk s.data.toList = chk (s.data.toList.drop p) ∧ wr.ownsRow w.heap.size 21 1 ov n xs ∧ Below w.heap.size w wr) (fun _ pv _ => s.size - (intOf pv).toNat)
  case atStart => exact ⟨0, 0, [], rfl, Nat.zero_le _, Nat.le_refl _, rfl, ⟨rfl, .inl ⟨rfl, rfl⟩⟩, Below.refl _ _⟩
  case round =>
    obtain ⟨p, n, xs, rfl, hp, hnp, hck, hown, hbw⟩ := hrel
    have HBW := PLift.up hbw
    have HOWN := PLift.up hown
    have hp0 : (0 : Int) ≤ (p : Int) := by omega
    by_cases hlt : p < s.size
    · have hlti : (p : Int) < (s.size : Int) := by omega
      obtain ⟨c, r, hd⟩ : ∃ c r, s.data.toList.drop p = c :: r := by
        rw [List.drop_eq_getElem_cons (by have := HL.down.1; omega)]
        exact ⟨_, _, rfl⟩
      have hrl : p + r.length + 1 = s.size := by
        have := congrArg List.length hd
        rw [List.length_drop, List.length_cons, HL.down.1] at this
        omega
      have HAT := PLift.up (at_any s p c r wr hd HL.down.2)
      have hatd := at_dec c r
      rw [hd, chk_cons] at hck
      have hw := dec_width c r
      have hdr : ∀ m, s.data.toList.drop (p + 1 + m) = r.drop m := fun m => by rw [show p + 1 + m = p + (1 + m) by omega, ← List.drop_drop, hd, Nat.add_comm 1 m]; rfl
      obtain ⟨v, m, hvm⟩ : ∃ v m, atF c.toNat r 4 1 = (v, m) := ⟨_, _, rfl⟩
      rw [hvm] at HAT hatd
      dsimp only at HAT hatd
      by_cases hbad : dec (c :: r) = (65533, 1)
      · rw [if_pos hbad] at hatd hck
        subst hatd
        have HCK := PLift.up hck
        clear hck hbad hd hown hbw hw hdr hvm
        go_wp2_with (go_at_call 218; refine HAT.down.mono ?_; rintro e w1 ⟨rfl, hb1⟩; have HB1 := PLift.up hb1; clear hb1)
        go_ret2
        exact ⟨⟨_, _, rfl, by rw [HCK.down]; constructor <;> intro h <;> first | cases h | omega⟩, HBW.down.trans (HB1.down.mono HBW.down.size)⟩
      · rw [if_neg hbad] at hatd hck
        subst hatd
        have hdn : s.data.toList.drop (p + (dec (c :: r)).2) = r.drop ((dec (c :: r)).2 - 1) := by rw [← hdr]; congr 1; omega
        rw [← hdn] at hck
        have hm : (dec (c :: r)).2 ≤ r.length + 1 := dec_le c r
        generalize (dec (c :: r)).2 = m at *
        have HCK := PLift.up (And.intro hck (And.intro hw (And.intro hm hrl)))
        have mz : ¬ (m : Int) = 0 := by omega
        have mi : (m : Int) ≤ 1000000 := by omega
        have HX := PLift.up (And.intro hnp (And.intro hlt HL.down))
        clear hck hbad hd hown hbw hw hdr hvm hdn hm hrl hnp hlt hp
        go_upto_region 7 with (go_at_call 218; refine HAT.down.mono ?_; rintro e w1 ⟨rfl, hb1⟩; have HB1 := PLift.up hb1; clear hb1)
        have hB : w.heap.size ≤ w1.heap.size := Nat.le_trans HBW.down.size HB1.down.size
        have HOW1 := PLift.up (row_keep HOWN.down HB1.down)
        go_wp2_with (at_builtin; refine app_row Tryz.underlying213 info_i32 rfl (by decide) (by decide) w1 rfl _ _ rfl (B := w.heap.size) (by rfl) HOW1.down #[.int .i32 _] rfl (by intro u hu; simp at hu; subst hu; rfl) _ _ rfl rfl (by have := HX.down; omega) hB ?_)
        intro v2 w2 hown2 hb2
        have HOW2 := PLift.up hown2
        have HB2 := PLift.up hb2
        clear hown2 hb2
        go_wp2
        go_roundw
        case rel => exact ⟨p + m, n + 1, _, by go_num, by have := HCK.down; omega, by have := HCK.down; have := HX.down; omega, HCK.down.1, HOW2.down, HBW.down.trans ((HB1.down.mono HBW.down.size).trans HB2.down)⟩
        case measure => simp [intOf]; have := HCK.down; omega
    · obtain rfl : p = s.size := by omega
      have hdn : s.data.toList.drop s.size = [] := List.drop_eq_nil_of_le (by rw [HL.down.1]; exact Nat.le_refl _)
      rw [hdn] at hck
      have HCK := PLift.up (show chk s.data.toList = true by rw [hck]; unfold chk; rfl)
      clear hck hdn hown hbw
      go_wp2
      go_ret2
      exact ⟨⟨_, _, rfl, by rw [HCK.down]; decide⟩, HBW.down⟩
theorem decode_bad (s : ByteArray) (w : World) (hs : s.size ≤ 1000000) (hc : chk s.data.toList = false) :
    Calls Tryz.prog 160 #[.string s] w fun e w' => (∃ v k, e = .returned (.tuple #[v, .int .i64 k]) ∧ ¬ k < 0) ∧ Below w.heap.size w w' :=
  (decode_any s w hs).mono fun _ _ ⟨⟨v, k, h1, h2⟩, h3⟩ => ⟨⟨v, k, h1, fun h => by rw [h2.2 h] at hc; cases hc⟩, h3⟩
theorem decode_good (s : ByteArray) (w : World) (hs : s.size ≤ 1000000) (hc : chk s.data.toList = true) :
    Calls Tryz.prog 160 #[.string s] w fun e w' => (∃ v k, e = .returned (.tuple #[v, .int .i64 k]) ∧ k < 0) ∧ Below w.heap.size w w' :=
  (decode_any s w hs).mono fun _ _ ⟨⟨v, k, h1, h2⟩, h3⟩ => ⟨⟨v, k, h1, h2.1 hc⟩, h3⟩
set_option maxHeartbeats 1000000 in
theorem valid_ref (s : ByteArray) (w : World) (hs : s.size ≤ 1000000) :
    Calls Tryz.prog 113 #[.string s] w fun e w' => e = .returned (.bool (chk s.data.toList)) ∧ Below w.heap.size w w' := by
  cases hc : chk s.data.toList with
  | false =>
    have HD := PLift.up (decode_bad s w hs hc)
    clear hc hs
    go_enter Tryz.func113, Tryz.ntmps113
    go_wp2_with (go_at_call 160; refine HD.down.mono ?_; rintro e w1 ⟨⟨v, k, rfl, hk⟩, hb1⟩; have HB1 := PLift.up hb1; clear hb1)
    go_ret
    have hkk : decide (k < 0) = false := by simp only [decide_eq_false_iff_not]; omega
    exact ⟨by simp [hkk], HB1.down⟩
  | true =>
    have HD := PLift.up (decode_good s w hs hc)
    clear hc hs
    go_enter Tryz.func113, Tryz.ntmps113
    go_wp2_with (go_at_call 160; refine HD.down.mono ?_; rintro e w1 ⟨⟨v, k, rfl, hk⟩, hb1⟩; have HB1 := PLift.up hb1; clear hb1)
    go_ret
    exact ⟨rfl, HB1.down⟩
end Go.Proofs.YtcipjifpigpfdaaGreatDoor
/- table.escape; table.value of a text. -/
namespace Go.Proofs.YtcipjifpigpfdaaGreatDoor
open Go.RowKit
open Go.Lib hiding intOf
open Go.Ev
theorem byte_run {f : FuncId} {x : Nat} {xs : List Value} {r : Option Er} (hr : r = evRun Tryz.prog sums 400 100 f #[.int .u8 x] (startS 100)) (h : isTup xs r = true) (w : World) :
    Calls Tryz.prog f #[.int .u8 x] w fun e w' => e = .returned (.tuple xs.toArray) ∧ Below w.heap.size w w' := by
  subst hr
  refine tup_of (Ψ := ⟨fun _ => none, Tryz.prog⟩) h (fun q hq => evE rfl 100 hq) (ρ := startR 100) (VRs.refl_of fun v hv => ?_) (startRel 100 w) (fun id o ho => by cases ho)
  simp only [List.mem_cons, List.not_mem_nil, or_false] at hv
  subst hv
  exact .int _ _
set_option maxRecDepth 100000 in
theorem escape_any (c : UInt8) (t : List UInt8) (h : unesc c = some t) (w : World) :
    Calls Tryz.prog 93 #[.int .u8 c.toNat] w fun e w' => e = .returned (.tuple #[.string ⟨t.toArray⟩, .bool true]) ∧ Below w.heap.size w w' := by
  have k1 := byte_run (f := 93) (x := 116) (xs := [.string ⟨#[9]⟩, .bool true]) rfl (by kernel_rfl) w
  have k2 := byte_run (f := 93) (x := 110) (xs := [.string ⟨#[10]⟩, .bool true]) rfl (by kernel_rfl) w
  have k3 := byte_run (f := 93) (x := 114) (xs := [.string ⟨#[13]⟩, .bool true]) rfl (by kernel_rfl) w
  have k4 := byte_run (f := 93) (x := 104) (xs := [.string ⟨#[35]⟩, .bool true]) rfl (by kernel_rfl) w
  have k5 := byte_run (f := 93) (x := 101) (xs := [.string ⟨#[]⟩, .bool true]) rfl (by kernel_rfl) w
  have k6 := byte_run (f := 93) (x := 92) (xs := [.string ⟨#[92]⟩, .bool true]) rfl (by kernel_rfl) w
  have k7 := byte_run (f := 93) (x := 58) (xs := [.string ⟨#[58]⟩, .bool true]) rfl (by kernel_rfl) w
  have k8 := byte_run (f := 93) (x := 126) (xs := [.string ⟨#[126]⟩, .bool true]) rfl (by kernel_rfl) w
  unfold unesc at h
  repeat' split at h
  · rename_i hc; subst hc; cases Option.some.inj h; exact k1
  · rename_i hc; subst hc; cases Option.some.inj h; exact k2
  · rename_i hc; subst hc; cases Option.some.inj h; exact k3
  · rename_i hc; subst hc; cases Option.some.inj h; exact k4
  · rename_i hc; subst hc; cases Option.some.inj h; exact k5
  · rename_i hc
    cases Option.some.inj h
    rcases hc with rfl | rfl | rfl
    · exact k6
    · exact k7
    · exact k8
  · cases h
end Go.Proofs.YtcipjifpigpfdaaGreatDoor
/- strings.Builder written, read by String, and written on. -/
namespace Go.Proofs.YtcipjifpigpfdaaGreatDoor
open Go.RowKit
open Go.Lib hiding intOf
theorem bcheckF (B b : Nat) (bs : List Value) (w : World) (h : Lib.IsBuilderF 54 5 B b bs w) :
    Calls Tryz.prog 41 #[.pointer (some ⟨b, 0, none⟩)] w fun e w' => e = .returned (.tuple #[]) ∧ (Lib.BuilderAtF 54 5 B b (.pointer (some ⟨b, 0, none⟩)) bs w' ∧ Below B w w') := by
  rcases h with h | h
  · refine (bcheck_fresh b w h.cell0 h.shape h.frozen0).mono ?_
    rintro e w' ⟨rfl, rfl⟩
    exact ⟨rfl, h.used _, (Below.refl B w).setCell (p := ⟨b, 0, none⟩) h.1 _⟩
  · refine (bcheck_used b w h.cell0).mono ?_
    rintro e w' ⟨rfl, rfl⟩
    exact ⟨rfl, h, Below.refl B _⟩
set_option maxHeartbeats 1000000 in
set_option maxRecDepth 100000 in
theorem bwriteF (B b : Nat) (l : List UInt8) (s : ByteArray) (w : World) (h : Lib.IsBuilderF 54 5 B b (Lib.byteCells l) w) (hlen : l.length + s.size ≤ 140737488355328) (hBw : B ≤ w.heap.size) :
    Calls Tryz.prog 17 #[.pointer (some ⟨b, 0, none⟩), .string s] w fun e w' => e = .returned (.tuple #[.int .i64 s.size, .nilIface]) ∧ (Lib.IsBuilderF 54 5 B b (Lib.byteCells (l ++ s.data.toList)) w' ∧ Below B w w') := by
  obtain ⟨i0, hi, hz0, hz1, hz2⟩ := info_parts info_u8
  go_enter Tryz.func17, Tryz.ntmps17
  go_wp2_with (go_at_call 41; refine (bcheckF B b _ _ h).mono ?_)
  rintro e w1 ⟨rfl, h1, hb1⟩
  obtain ⟨hB, v, hbk, hown, hne⟩ := h1
  rw [Lib.byteCells_length] at hown
  have c0 : w1.cell? ⟨b, 0, none⟩ = some (.pointer (some ⟨b, 0, none⟩)) := by rw [Lib.cell_of_heap hbk]; rfl
  have c1 : w1.cell? ⟨b, 1, none⟩ = some v := by rw [Lib.cell_of_heap hbk]; rfl
  have hBw1 : B ≤ w1.heap.size := Nat.le_trans hBw hb1.size
  go_wp2_with (at_builtin; refine Lib.wpList_append_own_stringF _ rfl _ _ 52 9 rfl B 5 i0 Tryz.underlying52 Tryz.underlying9 hi hz0 hz1 hz2 v l.length (byteCells l) rfl hown s rfl (by unfold maxLen; omega) hlen hBw1 ?_)
  intro v' w2 hown' hg _
  have hlt : b < w1.heap.size := (Array.getElem?_eq_some_iff.1 hbk).1
  have hb3 : w2.heap[b]? = some (.cells #[.pointer (some ⟨b, 0, none⟩), v] 54 (0, 0)) := by
    rw [hg.block b hlt (fun e => hne e.symm)]
    exact hbk
  have d0 : w2.cell? ⟨b, 0, none⟩ = some (.pointer (some ⟨b, 0, none⟩)) := by rw [Lib.cell_of_heap hb3]; rfl
  have d1 : w2.cell? ⟨b, 1, none⟩ = some v := by rw [Lib.cell_of_heap hb3]; rfl
  have f1 : w2.frozen? ⟨b, 1, none⟩ = false := Lib.frozen_of_heap hb3 1
  have hb2 : Below B w1 w2 := (Below.refl B w1).grown hg hBw1 (fun k hk => (hown.lt k hk).1)
  have hcells : Lib.byteCells l ++ Lib.strCells s = Lib.byteCells (l ++ s.data.toList) := by rw [Lib.byteCells_append, Lib.strCells_eq]
  rw [hcells] at hown'
  obtain ⟨ao, cap, rfl⟩ : ∃ ao cap, v' = .slice ao (l.length + s.size) cap := by
    rcases hown'.2 with ⟨hv, h0⟩ | ⟨g, cap, cur, fz, hv, _⟩
    · exact ⟨none, 0, by rw [hv, h0]⟩
    · exact ⟨_, _, hv⟩
  go_wp2
  go_ret2
  refine ⟨rfl, .inr ?_, ?_⟩
  · exact Lib.BuilderAtF.put (T := 54) (e := 5) hB hb3 (bs' := Lib.byteCells (l ++ s.data.toList)) (by rw [Lib.byteCells_length, show (l ++ s.data.toList).length = l.length + s.size from by simp]; exact hown') (by decide)
  · exact (hb1.trans hb2).setCell (p := ⟨b, 1, none⟩) hB _
set_option maxHeartbeats 1000000 in
set_option maxRecDepth 100000 in
theorem bbyteF (B b : Nat) (l : List UInt8) (c : UInt8) (w : World) (h : Lib.IsBuilderF 54 5 B b (Lib.byteCells l) w) (hlen : l.length + 1 ≤ 140737488355328) (hBw : B ≤ w.heap.size) :
    Calls Tryz.prog 79 #[.pointer (some ⟨b, 0, none⟩), .int .u8 c.toNat] w fun e w' => e = .returned .nilIface ∧ (Lib.IsBuilderF 54 5 B b (Lib.byteCells (l ++ [c])) w' ∧ Below B w w') := by
  obtain ⟨i0, hi0, hz0, hz1, hz2⟩ := info_parts info_u8
  have HI0 := PLift.up (And.intro hi0 (And.intro hz0 (And.intro hz1 hz2)))
  have HBC := PLift.up (bcheckF B b _ _ h)
  clear hi0 hz0 hz1 hz2 h
  as_aux_lemma =>
  go_enter Tryz.func79, Tryz.ntmps79
  as_aux_lemma =>
  go_upto_region 2 with (go_at_call 41; refine (HBC.down).mono ?_; rintro e w1 ⟨rfl, h1, hb1⟩; have H1 := PLift.up h1; have HB1 := PLift.up hb1; clear h1 hb1)
  obtain ⟨hB, v, hbk, hown, hne⟩ := H1.down
  rw [Lib.byteCells_length] at hown
  have c0 : w1.cell? ⟨b, 0, none⟩ = some (.pointer (some ⟨b, 0, none⟩)) := by rw [Lib.cell_of_heap hbk]; rfl
  have c1 : w1.cell? ⟨b, 1, none⟩ = some v := by rw [Lib.cell_of_heap hbk]; rfl
  have HOWN := PLift.up (World.ownsRowF.alloc hown (.cells #[.int .u8 c.toNat] 5))
  have HB := PLift.up hB
  have HBK := PLift.up hbk
  have HNE := PLift.up hne
  have HBS : PLift (B ≤ (w1.alloc (.cells #[.int .u8 c.toNat] 5)).heap.size) := ⟨by rw [size_new]; have := HB1.down.size; omega⟩
  have HNW : PLift ((w1.alloc (.cells #[.int .u8 c.toNat] 5)).cell? ⟨w1.heap.size, 0, none⟩ = some (.int .u8 c.toNat)) := ⟨(Lib.cell_of_heap (heap_alloc_new w1 _) 0).trans rfl⟩
  have HL := PLift.up hlen
  clear hown hB hbk hne hlen
  as_aux_lemma =>
  go_wp2_with (refine wpList_append_ownF _ rfl _ _ 52 rfl B 5 i0 (.int .u8 0) 1 1 Tryz.underlying52 HI0.down.1 HI0.down.2.1 HI0.down.2.2.1 HI0.down.2.2.2 rfl (by decide) v l.length (Lib.byteCells l) rfl HOWN.down ⟨w1.heap.size, 0, none⟩ 1 1 [.int .u8 c.toNat] rfl rfl (by intro j2 u hj2; match j2, hj2 with | 0, hj2 => simp only [List.getElem?_cons_zero, Option.some.injEq] at hj2; subst hj2; exact HNW.down | j2 + 1, hj2 => simp at hj2) (by simp [Value.oneCell']) (by have := HL.down; unfold maxLen; omega) (by have := HL.down; omega) HBS.down ?_)
  intro v' w2 hown' hg hpl
  have hlt : b < w1.heap.size := block_lt HBK.down
  have hb3 : w2.heap[b]? = some (.cells #[.pointer (some ⟨b, 0, none⟩), v] 54 (0, 0)) := by
    rw [hg.block b (by rw [size_new]; omega) (fun e => HNE.down e.symm), Lib.alloc_old _ _ _ hlt]
    exact HBK.down
  have d1 : w2.cell? ⟨b, 1, none⟩ = some v := by rw [Lib.cell_of_heap hb3]; rfl
  have f1 : w2.frozen? ⟨b, 1, none⟩ = false := Lib.frozen_of_heap hb3 1
  have HG : PLift (Below B w1 w2) := ⟨((Below.refl B w1).alloc (by have := HB1.down.size; omega) _).grown hg HBS.down (fun k hk => (HOWN.down.lt k hk).1)⟩
  have HPUT := PLift.up (Lib.BuilderAtF.put (T := 54) (e := 5) HB.down hb3 (bs' := Lib.byteCells (l ++ [c])) (v' := v') (by rw [Lib.byteCells_length, Lib.byteCells_append, show (l ++ [c]).length = l.length + 1 from by simp]; exact hown') (by decide))
  obtain ⟨A4, cc4, hv4⟩ : ∃ ao cap, v' = .slice ao (l.length + 1) cap := by
    rcases hown'.2 with ⟨hv, h0⟩ | ⟨g, cap, cur, fz, hv, _⟩
    · exact ⟨none, 0, by rw [hv, h0]⟩
    · exact ⟨_, _, hv⟩
  subst hv4
  clear hown' hg hpl hb3
  as_aux_lemma =>
  go_wp2
  refine bodyPost_ret (v := .nilIface) (by simp only [results, Tryz.results79]; go_simp) rfl ?_
  exact ⟨rfl, .inr HPUT.down, (HB1.down.trans HG.down).setCell (p := ⟨b, 1, none⟩) HB.down _⟩
theorem bstringF (B b : Nat) (l : List UInt8) (w : World) (h : Lib.IsBuilderF 54 5 B b (Lib.byteCells l) w) (hBw : B ≤ w.heap.size) :
    Calls Tryz.prog 23 #[.pointer (some ⟨b, 0, none⟩)] w fun e w' => e = .returned (.string ⟨l.toArray⟩) ∧ (Lib.IsBuilderF 54 5 B b (Lib.byteCells l) w' ∧ Below B w w') :=
  Any.Builder_String_any_f Tryz.lays169 Tryz.Builder_Extra_169 B b l w h hBw
end Go.Proofs.YtcipjifpigpfdaaGreatDoor
