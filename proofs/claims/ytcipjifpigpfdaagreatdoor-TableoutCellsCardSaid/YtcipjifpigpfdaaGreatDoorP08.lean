import Derived.Lib.OthersKept
import Derived.OrdersIn
import Derived.OwnWalkIn
import Derived.RangeFuncNested
import Derived.RangeFuncBound
import Derived.RangeFuncCalls
import Derived.RangeFuncLeaves
import Derived.Shelf.Abstract
import Derived.Shelf.RegionOpen
import Derived.WalkKit
import Derived.TacticsInMore
import Derived.LoopNIn
import Derived.LoopIn
import Derived.BigQuiet
import Derived.RangeFuncBox
import Derived.RangeFuncWrites
import Derived.Maps.AppendAt
import Derived.Maps.OwnIn
import Derived.Maps.Views
import Derived.StringKeys
import Derived.Sort.CutIn
import Derived.Lib.Builder
import Derived.Laws.Externs
import Derived.KernelRfl
import Derived.Test.YtcipjifpigpfdaaGreatDoorP05
import Derived.Test.YtcipjifpigpfdaaGreatDoorP07
import Derived.Test.YtcipjifpigpfdaaGreatDoorP04
import Derived.Test.YtcipjifpigpfdaaGreatDoorP02
/- codepoint.Check of bytes below 128; graph.scalar of such a text, and of a list. -/
namespace Go.Proofs.YtcipjifpigpfdaaGreatDoor
open Go.RowKit
open Go.Lib hiding intOf
set_option maxHeartbeats 1000000 in
set_option maxRecDepth 100000 in
theorem check_ascii (s : ByteArray) (w : World) (hs : ∀ pos, pos < s.size → (s.data.toList.getD pos 0).toNat < 128) :
    Calls Tryz.prog 24 #[.string s] w fun e w' => e = .returned (.tuple #[.int .i64 (-1), .int .i64 0]) ∧ Below w.heap.size w w' := by
  go_enter Tryz.func24, Tryz.ntmps24
  go_wp2
  go_loopw [] (fun wr => ∃ pos : Nat, wr.heap[w.heap.size]? = some (.stringIter s pos) ∧ Below w.heap.size w wr) (fun wr => s.size - wr.iterPos w.heap.size)
  case atStart => exact ⟨0, by have := World.iter_heap w s 0; simpa using this, (Below.refl _ w).alloc (Nat.le_refl _) _⟩
  case round =>
    obtain ⟨pos, hit, hbw⟩ := hrel
    by_cases hp : pos < s.size
    · have hlt := hs pos hp
      have hg : s.data.toList.getD pos 0 = s[pos]'hp := by rw [List.getD_eq_getElem?_getD, List.getElem?_eq_getElem (by simpa using hp)]; rfl
      rw [hg] at hlt
      obtain ⟨r, hr⟩ : ∃ r : Nat, (s[pos]'hp).toNat = r := ⟨_, rfl⟩
      have hnx : ∀ ty, (Instr.next (.pointer (some ⟨w.heap.size, 0, none⟩)) true ty).run Tryz.prog wr = .ok (.tuple #[.bool true, .int .i64 pos, .int .i32 r]) (wr.iterAt w.heap.size s (pos + 1)) := fun ty => by
        rw [Lib.run_next_ascii_at wr w.heap.size s pos ty hit hp hlt, hr]
      rw [hr] at hlt
      have HIT2 := PLift.up (Lib.iterAt_heap wr w.heap.size s pos (pos + 1) hit)
      have HB2 := PLift.up (Lib.below_iterAt hbw (k := w.heap.size) (Nat.le_refl _) s (pos + 1))
      have HM := PLift.up hit
      have er : ((r : Int) == 65533) = false := by simp; omega
      clear hit hg hr
      go_wp2
      go_roundw
      case rel => exact ⟨pos + 1, HIT2.down, HB2.down⟩
      case measure =>
        simp only [World.iterPos, HIT2.down, HM.down]
        omega
    · have hnx : ∀ ty, (Instr.next (.pointer (some ⟨w.heap.size, 0, none⟩)) true ty).run Tryz.prog wr = _ := fun ty => Lib.run_next_end_at wr w.heap.size s pos ty hit hp
      clear hit
      go_wp2
      go_ret2
      exact ⟨rfl, hbw⟩
set_option maxHeartbeats 1000000 in
set_option maxRecDepth 100000 in
theorem scalar_text (s : ByteArray) (hs : ∀ pos, pos < s.size → (s.data.toList.getD pos 0).toNat < 128) (w : World) :
    Calls Tryz.prog 118 #[.int .i64 5, .string s] w fun e w' => e = .returned (.bool true) ∧ Below w.heap.size w w' := by
  have HC := PLift.up (check_ascii s w hs)
  as_aux_lemma =>
  go_enter Tryz.func118, Tryz.ntmps118
  go_wp2_with (go_at_call 24; refine (HC.down).mono ?_; rintro e w1 ⟨rfl, hb1⟩; have HB1 := PLift.up hb1; clear hb1)
  go_ret
  exact ⟨rfl, HB1.down⟩
set_option maxHeartbeats 1000000 in
set_option maxRecDepth 100000 in
theorem scalar_list (s : ByteArray) (w : World) :
    Calls Tryz.prog 118 #[.int .i64 9, .string s] w fun e w' => e = .returned (.bool false) ∧ Below w.heap.size w w' := by
  go_enter Tryz.func118, Tryz.ntmps118
  go_wp2
  go_ret
  exact ⟨rfl, Below.refl _ _⟩
end Go.Proofs.YtcipjifpigpfdaaGreatDoor
/- tableout.sorted of a row with one entry. -/
namespace Go.Proofs.YtcipjifpigpfdaaGreatDoor
open Go.RowKit
open Go.Lib hiding intOf
set_option maxHeartbeats 4000000 in
set_option maxRecDepth 100000 in
theorem insert_one (w : World) (a : Option Addr) (c : Nat) (f : Value) :
    Calls Tryz.prog 169 #[.slice a 1 c, .int .i64 0, .int .i64 1, f] w fun e w' => e = .returned (.tuple #[]) ∧ w' = w := by
  go_enter Tryz.func169, Tryz.ntmps169
  go_wp2
  refine wp_loop_rounds 1 ?_
  rw [rounds_succ]
  go_wp2
  go_end0
  exact ⟨rfl, rfl⟩
set_option maxHeartbeats 4000000 in
set_option maxRecDepth 100000 in
theorem pdq_one (w : World) (a : Option Addr) (c : Nat) (l : Int) (f : Value) :
    Calls Tryz.prog 124 #[.slice a 1 c, .int .i64 0, .int .i64 1, .int .i64 l, f] w fun e w' => e = .returned (.tuple #[]) ∧ w' = w := by
  go_enter Tryz.func124, Tryz.ntmps124
  go_wp2
  refine wp_loop_rounds 1 ?_
  rw [rounds_succ]
  go_wp2_with (go_at_call 169; refine (insert_one _ _ _ _).mono ?_; rintro e w2 ⟨rfl, rfl⟩)
  refine bodyPost_ret (results_none rfl _ _ _) rfl ?_
  exact ⟨rfl, rfl⟩
set_option maxHeartbeats 4000000 in
set_option maxRecDepth 100000 in
theorem sort_one (w : World) (a : Option Addr) (c : Nat) (f : Value) :
    Calls Tryz.prog 80 #[.slice a 1 c, f] w fun e w' => e = .returned (.tuple #[]) ∧ w' = w := by
  have HB := PLift.up (fun w => Tryz.bits_Len 1 w (by decide) (by decide))
  go_enter Tryz.func80, Tryz.ntmps80
  go_wp2_with (first
    | (go_at_call 125; refine (HB.down _).mono ?_; rintro e w2 ⟨rfl, rfl⟩)
    | (go_at_call 124; refine (pdq_one _ _ _ _ _).mono ?_; rintro e w2 ⟨rfl, rfl⟩))
  go_end0
  exact ⟨rfl, rfl⟩
set_option maxHeartbeats 4000000 in
set_option maxRecDepth 100000 in
theorem tsorted_one (w : World) (va : Option Addr) (vn vc : Nat) (root kd : Int) (tx : ByteArray) (od : Bool) (ka : Option Addr) (kc : Nat) (ia : Option Addr) (im ic : Nat) :
    Calls Tryz.prog 46 #[.agg #[.slice va vn vc, .int .i64 root], .agg #[.int .i64 kd, .string tx, .bool od, .slice ka 1 kc, .slice ia im ic]] w fun e w' => ∃ g c, e = .returned (.slice (some ⟨g, 0, none⟩) 1 c) ∧ Below w.heap.size w w' ∧ w'.cell? ⟨g, 0, none⟩ = some (.int .i64 0) := by
  go_enter Tryz.func46, Tryz.ntmps46
  go_upto_region 2 with fail
  have HA := allocs_at [.cells #[.slice va vn vc, .int .i64 root] 28, .cells #[.int .i64 kd, .string tx, .bool od, .slice ka 1 kc, .slice ia im ic] 25] w
  unfold allocs allocs allocs at HA
  generalize (w.alloc (.cells #[.slice va vn vc, .int .i64 root] 28)).alloc (.cells #[.int .i64 kd, .string tx, .bool od, .slice ka 1 kc, .slice ia im ic] 25) = W1 at HA ⊢
  obtain ⟨hb1, hs1, hat⟩ := HA
  have HB1 := PLift.up hb1
  have c3 : W1.cell? ⟨w.heap.size + 1, 3, none⟩ = some (.slice ka 1 kc) := (Lib.cell_of_heap (hat 1 _ rfl) 3).trans rfl
  have HSZ : PLift (w.heap.size ≤ W1.heap.size) := ⟨hb1.size⟩
  clear hb1 hs1 hat
  obtain ⟨i0, hi0, hz0, hz1, hz2⟩ := info_parts info_int0
  have HI0 := PLift.up (And.intro hi0 (And.intro hz0 (And.intro hz1 hz2)))
  have HNW : PLift ((W1.alloc (.cells #[.int .i64 0] 3)).cell? ⟨W1.heap.size, 0, none⟩ = some (.int .i64 0)) := ⟨(Lib.cell_of_heap (heap_alloc_new W1 _) 0).trans rfl⟩
  clear hi0 hz0 hz1 hz2
  go_wp2
  refine wp_loop_rounds 2 ?_
  rw [rounds_succ]
  go_wp2_with (at_builtin; refine wpList_append_new _ rfl _ _ 23 rfl W1.heap.size 3 i0 (.int .i64 0) 1 8 Tryz.underlying23 HI0.down.1 HI0.down.2.1 HI0.down.2.2.1 HI0.down.2.2.2 rfl (by decide) (.slice none 0 0) 0 [] rfl (World.ownsRow_nil _ _ _ _) ⟨W1.heap.size, 0, none⟩ 1 1 [.int .i64 0] rfl rfl (by intro j u hj; match j, hj with | 0, hj => simp only [List.getElem?_cons_zero, Option.some.injEq] at hj; subst hj; exact HNW.down | j + 1, hj => simp at hj) (by simp [Value.oneCell']) (by decide) (by unfold maxLen; omega) (by omega) (by rw [size_new]; omega) ?_)
  rintro v' w4 hown4 hg4 -
  have hown4 : w4.ownsRow W1.heap.size 3 1 v' 1 [.int .i64 0] := hown4
  obtain ⟨g, cap, cur, rfl, hgb, hgh, hcur⟩ := own_at hown4 (by decide)
  have hb4 : Below W1.heap.size W1 w4 := (below_new W1 _).grown hg4 (by rw [size_new]; omega) (fun k hk => by cases hk)
  have HB4 := PLift.up (HB1.down.trans (hb4.mono HSZ.down))
  have HG := PLift.up ((Lib.cell_of_heap hgh 0).trans (hcur 0 _ rfl))
  clear hown4 hg4 hgh hcur hb4 HNW HI0 c3
  go_wp2
  rw [rounds_succ]
  go_wp2_with (go_at_call 80; refine (sort_one _ _ _ _).mono ?_; rintro e w5 ⟨rfl, rfl⟩)
  go_ret
  exact ⟨g, cap, rfl, HB4.down, HG.down⟩
end Go.Proofs.YtcipjifpigpfdaaGreatDoor
/- The law of a region that draws, inside a fence: a prefix of operations of one value each, and a tail that may call, or hand a round what it yields. -/
namespace Go.MixIn
open Go.Mix Go.Ev Go.RowKit
section
variable {ro : Option Nat} {m : Nat} {P : Program} {ops : Array Oper} {md : Region.Mode} {Q : Exit → Act → World → Prop} {T : World → World → Prop} {D : World → Prop}
/-- What an operation may leave behind: a value and a world, by R. -/
def uponU (ro : Option Nat) (m : Nat) (P : Program) (R : Value → World → Prop) : Result Next → Prop
  | .ok (.value u) w' => R u w'
  | .ok .skip w' => R undef w'
  | .ok (.enter f args) w' => Calls P f args w' (fun e w'' => ∃ v, e = .returned v ∧ R v w'')
  | .ok (.round l f tmps assign body) w' => RoundIn (wideR ro) (m - 1) P l f tmps assign body w' (fun e w'' => ∃ v, e = .returned v ∧ R v w'')
  | _ => False
def opU (ro : Option Nat) (m : Nat) (P : Program) (ops : Array Oper) (T : World → World → Prop) (D : World → Prop) (i : Nat) (K : Act → (World → Prop) → Prop) (a : Act) (C : World → Prop) : Prop :=
  match ops[i]? with
  | none => K a C
  | some o => if Region.wanted o (yielded ops a.tmps) then
      ∃ R : Value → World → Prop, (∀ v w w', R v w → T w w' → R v w') ∧ (∀ v w, R v w → D w) ∧ (∀ w, C w → uponU ro m P R ((execOp a.eval o).run P w)) ∧ ∀ v w, R v w → K (a.put o.dst v) (R v)
    else K (a.put o.dst undef) C
def wpU (ro : Option Nat) (m : Nat) (P : Program) (md : Region.Mode) (ops : Array Oper) (Q : Exit → Act → World → Prop) (T : World → World → Prop) (D : World → Prop) : Nat → Array Bool → Act → (World → Prop) → Prop
  | 0, listed, a, C => Region.ready md ops listed = [] ∧ ∀ w, C w → Q .normal a w
  | fuel + 1, listed, a, C =>
    (Region.ready md ops listed = [] → ∀ w, C w → Q .normal a w) ∧
    ∀ i ∈ Region.ready md ops listed, opU ro m P ops T D i (fun a' C' => wpU ro m P md ops Q T D fuel (listed.setIfInBounds i true) a' C') a C
theorem wpOp_of_opU (hnd : ∀ (j : Nat) (o : Oper) c, ops[j]? = some o → o.op ≠ .defer c) {i : Nat} {a : Act} {K : Act → (World → Prop) → Prop} {K' : Act → World → Prop} {C : World → Prop} {w : World} (hC : C w)
    (h : ∀ a' C' w', C' w' → K a' C' → K' a' w') (hh : opU ro m P ops T D i K a C) : wpOpIn (wideR ro) m P ops Q i K' a w := by
  unfold opU at hh
  unfold wpOpIn
  split
  · rename_i ho; simp only [ho] at hh; exact h _ _ _ hC hh
  · rename_i o ho
    simp only [ho] at hh
    split
    · rename_i hw
      simp only [hw, if_true] at hh
      obtain ⟨R, -, -, h1, h2⟩ := hh
      have h3 := h1 w hC
      unfold Oper.wpIn
      rw [Oper.semAt_plain _ _ _ (fun c => hnd i o c ho)]
      refine ⟨fun _ _ => trivial, ?_⟩
      generalize (execOp a.eval o).run P w = r at *
      cases r with
      | ok n w' =>
        cases n <;> simp only [uponU] at h3 <;> simp only [Oper.uponIn]
        case value u => exact h _ _ _ h3 (h2 _ _ h3)
        case skip => exact h _ _ _ h3 (h2 _ _ h3)
        case enter f args =>
          exact ⟨fun hd => (by cases hd), (calls_at h3 ro _).mono fun e w'' ⟨v, he, hr⟩ => by subst he; exact h _ _ _ hr (h2 _ _ hr)⟩
        case round l f t x y =>
          exact ⟨fun hd => (by cases hd), h3.mono fun e w'' ⟨v, he, hr⟩ => by subst he; exact h _ _ _ hr (h2 _ _ hr)⟩
      | halt x w' => simp only [uponU] at h3
    · rename_i hw; simp only [hw] at hh; exact ⟨fun _ _ => trivial, h _ _ _ hC hh⟩
theorem wpAny_of_U (hnd : ∀ (j : Nat) (o : Oper) c, ops[j]? = some o → o.op ≠ .defer c) : ∀ (fuel : Nat) (listed : Array Bool) (a : Act) (C : World → Prop) (w : World), C w → wpU ro m P md ops Q T D fuel listed a C → wpAnyIn (wideR ro) m P md ops Q fuel listed a w
  | 0, _, _, _, _, hw, h => ⟨h.1, h.2 _ hw⟩
  | fuel + 1, _, _, _, _, hw, h => ⟨fun h0 => h.1 h0 _ hw, fun i hi => wpOp_of_opU hnd hw (fun a' C' w' hw' hk => wpAny_of_U hnd fuel _ a' C' w' hw' hk) (h.2 i hi)⟩
theorem opU_mono {i : Nat} {a : Act} {C : World → Prop} {K K' : Act → (World → Prop) → Prop} (hC : (∀ w w', C w → T w w' → C w') ∧ (∀ w, C w → D w))
    (h : ∀ a' C', (∀ w w', C' w → T w w' → C' w') → (∀ w, C' w → D w) → K a' C' → K' a' C') (hh : opU ro m P ops T D i K a C) : opU ro m P ops T D i K' a C := by
  unfold opU at *
  split
  · rename_i ho; simp only [ho] at hh; exact h _ _ hC.1 hC.2 hh
  · rename_i o ho
    simp only [ho] at hh
    split
    · rename_i hw
      simp only [hw, if_true] at hh
      obtain ⟨R, r1, r2, r3, r4⟩ := hh
      exact ⟨R, r1, r2, r3, fun v w hv => h _ _ (r1 v) (r2 v) (r4 v w hv)⟩
    · rename_i hw; simp only [hw] at hh; exact h _ _ hC.1 hC.2 hh

/-- An operation of one value comes up. -/
theorem one_opU {i : Nat} {o : Oper} {v : Value} {a : Act} {C : World → Prop} (hi : ops[i]? = some o) (hC1 : ∀ w w', C w → T w w' → C w') (hC2 : ∀ w, C w → D w)
    (hy : One P ops T D o v a) {K : Act → (World → Prop) → Prop} (h : K (a.put o.dst v) C) : MixIn.opU ro m P ops T D i K a C := by
  unfold MixIn.opU
  simp only [hi]
  rcases hy with ⟨hw, hv⟩ | ⟨hw, rfl⟩
  · simp only [hw, if_true]
    refine ⟨fun u w => u = v ∧ C w, fun _ _ _ hr ht => ⟨hr.1, hC1 _ _ hr.2 ht⟩, fun _ _ hr => hC2 _ hr.2, fun w hw => ?_, fun u w hr => ?_⟩
    · have h3 := hv w (hC2 w hw)
      unfold Oper.quietAt at h3
      generalize (execOp a.eval o).run P w = r at *
      cases r with
      | ok n w' =>
        cases n <;> simp only [Oper.quietUpon] at h3 <;> simp only [uponU]
        case value u => exact ⟨h3.2, h3.1 ▸ hw⟩
        case skip => exact ⟨h3.2.symm, h3.1 ▸ hw⟩
        case enter f args =>
          obtain ⟨e1, hc⟩ := h3
          rw [e1]
          exact hc.mono fun e w'' ⟨he, ht⟩ => ⟨v, he, rfl, hC1 _ _ hw ht⟩
      | halt x w' => simp only [Oper.quietUpon] at h3
    · obtain ⟨rfl, hr⟩ := hr
      have : (fun w => u = u ∧ C w) = C := by funext w; simp
      show K (a.put o.dst u) (fun w => u = u ∧ C w)
      rw [this]
      exact h
  · simp only [hw, Bool.false_eq_true, if_false]; exact h

theorem opU_put {j : Nat} {oi oj : Oper} {v : Value} {C : World → Prop} (hj : ops[j]? = some oj) (hap : oi.apart ops oj = true)
    (hsi : ∀ cs b, oi.op ≠ .select cs b) (hsj : ∀ cs b, oj.op ≠ .select cs b) {K : Act → (World → Prop) → Prop} {a : Act}
    (hy : One P ops T D oi v a) (h : opU ro m P ops T D j K (a.put oi.dst v) C) :
    opU ro m P ops T D j (fun a' C' => One P ops T D oi v a' ∧ K (a'.put oi.dst v) C') a C := by
  obtain ⟨h1, h2, h3⟩ := Oper.apart_spec hap
  have keep : ∀ (a : Act), One P ops T D oi v a → ∀ u, One P ops T D oi v (a.put oj.dst u) := fun a hy u =>
    hy.of_same (execOp_put oi hsi a oj.dst u h3) (wanted_put oi a oj.dst u h3)
  unfold opU at *
  simp only [hj] at *
  rw [wanted_put oj a oi.dst v h1] at h
  split
  · rename_i hw
    simp only [hw, if_true] at h
    obtain ⟨R, r1, r2, r3, r4⟩ := h
    refine ⟨R, r1, r2, fun w hw' => ?_, fun u w hr => ⟨keep a hy u, by rw [← Act.put_comm a v u h2]; exact r4 u w hr⟩⟩
    have := r3 w hw'
    rwa [execOp_put oj hsj a oi.dst v h1] at this
  · rename_i hw
    simp only [hw] at h
    exact ⟨keep a hy _, by rw [← Act.put_comm a v undef h2]; exact h⟩

theorem wpU_first {i : Nat} {oi : Oper} {v : Value} (hi : ops[i]? = some oi) (hsel : ∀ (j : Nat) (o : Oper) cs b, ops[j]? = some o → o.op ≠ .select cs b) :
    ∀ (fuel : Nat) (listed : Array Bool) (a : Act) (C : World → Prop), (∀ w w', C w → T w w' → C w') → (∀ w, C w → D w) →
      (∀ j oj, ops[j]? = some oj → j ≠ i → listed.getD j true = false → (∀ e ∈ oj.after, Region.binds md e = true → e.on ≠ i) → oi.apart ops oj = true) →
      i ∈ Region.ready md ops listed → One P ops T D oi v a →
      wpU ro m P md ops Q T D fuel (listed.setIfInBounds i true) (a.put oi.dst v) C → wpU ro m P md ops Q T D (fuel + 1) listed a C := by
  intro fuel
  induction fuel with
  | zero =>
    intro listed a C hC1 hC2 _ hr hy H
    refine ⟨fun h => (by rw [h] at hr; cases hr), fun j hj => ?_⟩
    by_cases hji : j = i
    · subst hji; exact one_opU hi hC1 hC2 hy H
    · have := ready_mono hj hji
      rw [H.1] at this
      cases this
  | succ fuel ih =>
    intro listed a C hC1 hC2 hfree hr hy H
    refine ⟨fun h => (by rw [h] at hr; cases hr), fun j hj => ?_⟩
    by_cases hji : j = i
    · subst hji; exact one_opU hi hC1 hC2 hy H
    · have h1 := H.2 j (ready_mono hj hji)
      obtain ⟨hjun, oj, hoj, hall⟩ := mem_ready.1 hj
      have hnot : ∀ e ∈ oj.after, Region.binds md e = true → e.on ≠ i := fun e he hb heq => by
        have h1 := hall e he hb
        have h0 := (mem_ready.1 hr).1
        rw [heq] at h1
        rcases Nat.lt_or_ge i listed.size with h' | h'
        · simp [h'] at h0 h1; rw [h0] at h1; cases h1
        · simp [Array.getElem?_eq_none h'] at h1
      have h2 := opU_put hoj (hfree j oj hoj hji hjun hnot) (fun cs b => hsel i oi cs b hi) (fun cs b => hsel j oj cs b hoj) hy h1
      have hfree' : ∀ k ok, ops[k]? = some ok → k ≠ i → (listed.setIfInBounds j true).getD k true = false →
          (∀ e ∈ ok.after, Region.binds md e = true → e.on ≠ i) → oi.apart ops ok = true := fun k ok hk hki hun hno => by
        refine hfree k ok hk hki ?_ hno
        by_cases hjk : j = k
        · subst hjk; exact hjun
        · rw [getD_set_ne true hjk] at hun; exact hun
      refine opU_mono ⟨hC1, hC2⟩ (fun a' C' c1 c2 h3 => ih (listed.setIfInBounds j true) a' C' c1 c2 hfree' (ready_mono hr (Ne.symm hji)) h3.1 ?_) h2
      rw [Array.setIfInBounds_comm _ _ hji]
      exact h3.2

theorem wpU_lex (hs : Region.noSelect ops = true) (hT : ∀ w, T w w) {C : World → Prop} (hC1 : ∀ w w', C w → T w w' → C w') (hC2 : ∀ w, C w → D w) (hne : ∃ ρ, D ρ) {aF : Act} {f : Nat} {listed' : Array Bool} :
    ∀ (l : List Oper) (k : Nat) (listed : Array Bool) (a : Act) (seen : List Tmp), (∀ j, j < l.length → l[j]? = ops[k + j]?) →
    lexTo md ops l.length k listed = some listed' → dstsB a.tmps.size l seen = true → WalkTo P ops T D aF l a → wpU ro m P md ops Q T D f listed' aF C → wpU ro m P md ops Q T D (l.length + f) listed a C
  | [], _, listed, a, _, _, hB, _, h, hK => by
    obtain ⟨ρ, hρ⟩ := hne
    have e : a = aF := h ρ hρ
    have e2 : listed = listed' := by simpa [lexTo] using hB
    subst e e2
    simpa using hK
  | o :: l, k, listed, a, seen, hl, hB, hd, h, hK => by
    have h0 : ops[k]? = some o := by simpa using (hl 0 (by simp)).symm
    simp only [List.length_cons, lexTo] at hB
    split at hB
    case isFalse => cases hB
    rename_i hc
    simp only [Bool.and_eq_true] at hc
    obtain ⟨v, seen', h1, h2, h3⟩ := step_of_walk hT hd h
    have := wpU_lex hs hT hC1 hC2 hne l (k + 1) _ (a.put o.dst v) seen' (fun j hj => by have := hl (j + 1) (by simp; omega); simpa [Nat.add_assoc, Nat.add_comm 1 j] using this) hB (by rw [put_size]; exact h2) h3 hK
    rw [List.length_cons, Nat.add_right_comm]
    exact wpU_first h0 (Region.noSelect_spec hs) (l.length + f) listed a C hC1 hC2 (Region.free_spec h0 hc.2) (by simpa using hc.1) h1 this

theorem wpIn_region_mix {id : Nat} {a : Act} {w : World} {l : List Oper} (n : Nat) (C D : World → Prop) (T : World → World → Prop) {aF : Act} (hm : P.follows .mixedOrders = true) (hnd : ∀ (j : Nat) (o : Oper) c, l.toArray[j]? = some o → o.op ≠ .defer c)
    (hn : n ≤ l.length) (hs : Region.noSelect l.toArray = true) (hB : lexTo .any l.toArray n 0 (Array.replicate l.length false) = some (List.replicate n true ++ List.replicate (l.length - n) false).toArray) (hd : dstsB a.tmps.size (l.take n) [] = true)
    (hT : ∀ w, T w w) (hC1 : ∀ w w', C w → T w w' → C w') (hC2 : ∀ w, C w → D w) (h0 : C { w with drawn := w.drawn + 1 }) (hA : WalkTo P l.toArray T D aF (l.take n) a)
    (hN : wpU ro m P .any l.toArray Q T D (l.length - n) (List.replicate n true ++ List.replicate (l.length - n) false).toArray aF C) : (Code.region id l.toArray true).wpIn (wideR ro) m P Q a w := by
  refine wpIn_region_any hm (wpAny_of_U hnd (T := T) (D := D) _ _ _ C _ h0 ?_)
  have hlen : (l.take n).length = n := by simp [hn]
  have := wpU_lex (P := P) (md := .any) (Q := Q) hs hT hC1 hC2 ⟨_, hC2 _ h0⟩ (l.take n) 0 (Array.replicate l.length false) a [] (fun j hj => by rw [hlen] at hj; simp [hj]) (by rw [hlen]; exact hB) hd hA hN
  rw [hlen] at this
  simpa [show n + (l.length - n) = l.length from by omega] using this

/-- One operation of the tail, where it alone may come up. -/
theorem wpU_one {fuel : Nat} {listed : Array Bool} {a : Act} {C : World → Prop} {i : Nat} {o : Oper} (hr : Region.ready md ops listed = [i]) (ho : ops[i]? = some o) (hw : Region.wanted o (yielded ops a.tmps) = true)
    (R : Value → World → Prop) (hR : ∀ v w w', R v w → T w w' → R v w') (hD : ∀ v w, R v w → D w) (hrun : ∀ w, C w → uponU ro m P R ((execOp a.eval o).run P w))
    (hK : ∀ v w, R v w → wpU ro m P md ops Q T D fuel (listed.setIfInBounds i true) (a.put o.dst v) (R v)) : wpU ro m P md ops Q T D (fuel + 1) listed a C := by
  refine ⟨(fun h => by rw [hr] at h; cases h), fun j hj => ?_⟩
  rw [hr] at hj
  obtain rfl : j = i := by simpa using hj
  unfold opU
  simp only [ho, hw, if_true]
  exact ⟨R, hR, hD, hrun, hK⟩
theorem wpU_end {listed : Array Bool} {a : Act} {C : World → Prop} (hr : Region.ready md ops listed = []) (h : ∀ w, C w → Q .normal a w) : wpU ro m P md ops Q T D 0 listed a C := ⟨hr, h⟩
/-! ### A tail that is walked plainly -/
/-- what stands is closed under what must come before -/
def Closed (md : Region.Mode) (ops : Array Oper) (L : Array Bool) : Prop :=
  ∀ (j : Nat) (o : Oper), ops[j]? = some o → L.getD j false = true → ∀ e ∈ o.after, Region.binds md e = true → L.getD e.on false = true
theorem Closed.set {L : Array Bool} (h : Closed md ops L) {i : Nat} (hi : i ∈ Region.ready md ops L) : Closed md ops (L.setIfInBounds i true) := by
  intro j o hj hl e he hb
  have mono : ∀ k, L.getD k false = true → (L.setIfInBounds i true).getD k false = true := by
    intro k hk
    by_cases e : i = k
    · subst e
      rw [Array.getD_eq_getD_getElem?] at hk ⊢
      by_cases hs : i < L.size
      · simp [hs]
      · rw [Array.getElem?_eq_none (by omega)] at hk; cases hk
    · rw [Array.getD_eq_getD_getElem?, Array.getElem?_setIfInBounds_ne e, ← Array.getD_eq_getD_getElem?]; exact hk
  by_cases hij : i = j
  · subst hij
    obtain ⟨-, o', ho', h2⟩ := mem_ready.1 hi
    rw [hj] at ho'
    cases Option.some.inj ho'
    exact mono _ (h2 e he hb)
  · rw [Array.getD_eq_getD_getElem?, Array.getElem?_setIfInBounds_ne hij, ← Array.getD_eq_getD_getElem?] at hl
    exact mono _ (h j o hj hl e he hb)
/-- each of the first n operations has a later one, at most n, that must come behind it -/
def succB (md : Region.Mode) (ops : Array Oper) (n : Nat) : Bool :=
  (List.range n).all fun i => (List.range (n + 1)).any fun j => decide (i < j) && ((ops[j]?).map fun o => o.after.any fun e => Region.binds md e && Nat.beq e.on i).getD false
theorem all_before {n : Nat} (hs : succB md ops n = true) {L : Array Bool} (hc : Closed md ops L) (hn : n ∈ Region.ready md ops L) : ∀ k i, n - i = k → i < n → L.getD i false = true := by
  intro k
  induction k using Nat.strongRecOn with
  | ind k ih =>
    intro i hk hi
    have h1 := List.all_eq_true.1 hs i (List.mem_range.2 hi)
    obtain ⟨j, hj, h2⟩ := List.any_eq_true.1 h1
    have hjn := List.mem_range.1 hj
    simp only [Bool.and_eq_true, decide_eq_true_eq] at h2
    obtain ⟨hij, h3⟩ := h2
    cases ho : ops[j]? with
    | none => rw [ho] at h3; cases h3
    | some o =>
      rw [ho] at h3
      simp only [Option.map_some, Option.getD_some, Array.any_eq_true'] at h3
      obtain ⟨e, he, h4⟩ := h3
      simp only [Bool.and_eq_true, Nat.beq_eq] at h4
      obtain ⟨hb, rfl⟩ := h4
      by_cases hjn2 : j = n
      · subst hjn2
        obtain ⟨-, o', ho', h5⟩ := mem_ready.1 hn
        rw [ho] at ho'
        cases Option.some.inj ho'
        exact h5 e he hb
      · exact hc j o ho (ih (n - j) (by omega) j rfl (by omega)) e he hb
def wpV (ro : Option Nat) (m : Nat) (P : Program) (md : Region.Mode) (ops : Array Oper) (Q : Exit → Act → World → Prop) (T : World → World → Prop) (D : World → Prop) (n f : Nat) : Nat → Array Bool → Act → (World → Prop) → Prop
  | 0, listed, a, C => Region.ready md ops listed = [n] ∧ ∀ w, C w → wpAnyIn (wideR ro) m P md ops Q f listed a w
  | fuel + 1, listed, a, C => Region.ready md ops listed ≠ [] ∧
    ∀ i ∈ Region.ready md ops listed, opU ro m P ops T D i (fun a' C' => wpV ro m P md ops Q T D n f fuel (listed.setIfInBounds i true) a' C') a C
theorem wpAny_of_V (hnd : ∀ (j : Nat) (o : Oper) c, ops[j]? = some o → o.op ≠ .defer c) {n f : Nat} : ∀ (fuel : Nat) (listed : Array Bool) (a : Act) (C : World → Prop) (w : World), C w → wpV ro m P md ops Q T D n f fuel listed a C → wpAnyIn (wideR ro) m P md ops Q (fuel + f) listed a w
  | 0, _, _, _, _, hw, h => by rw [Nat.zero_add]; exact h.2 _ hw
  | fuel + 1, _, _, _, _, hw, h => by
    rw [Nat.add_right_comm]
    exact ⟨fun h0 => absurd h0 h.1, fun i hi => wpOp_of_opU hnd hw (fun a' C' w' hw' hk => wpAny_of_V hnd fuel _ a' C' w' hw' hk) (h.2 i hi)⟩
theorem wpV_first {n f : Nat} (hs : succB md ops n = true) {i : Nat} (hin : i < n) {oi : Oper} {v : Value} (hi : ops[i]? = some oi) (hsel : ∀ (j : Nat) (o : Oper) cs b, ops[j]? = some o → o.op ≠ .select cs b) :
    ∀ (fuel : Nat) (listed : Array Bool) (a : Act) (C : World → Prop), Closed md ops listed → (∀ w w', C w → T w w' → C w') → (∀ w, C w → D w) →
      (∀ j oj, ops[j]? = some oj → j ≠ i → listed.getD j true = false → (∀ e ∈ oj.after, Region.binds md e = true → e.on ≠ i) → oi.apart ops oj = true) →
      i ∈ Region.ready md ops listed → One P ops T D oi v a →
      wpV ro m P md ops Q T D n f fuel (listed.setIfInBounds i true) (a.put oi.dst v) C → wpV ro m P md ops Q T D n f (fuel + 1) listed a C := by
  intro fuel
  induction fuel with
  | zero =>
    intro listed a C hcl hC1 hC2 _ hr hy H
    refine ⟨fun h => (by rw [h] at hr; cases hr), fun j hj => ?_⟩
    by_cases hji : j = i
    · subst hji; exact one_opU hi hC1 hC2 hy H
    · have := ready_mono hj hji
      rw [H.1] at this
      obtain rfl : j = n := by simpa using this
      have h1 := all_before hs hcl hj _ i rfl hin
      have h2 := (mem_ready.1 hr).1
      rw [Array.getD_eq_getD_getElem?] at h1 h2
      cases hq : listed[i]? with
      | none => rw [hq] at h1; cases h1
      | some b => rw [hq] at h1 h2; simp only [Option.getD_some] at h1 h2; rw [h1] at h2; cases h2
  | succ fuel ih =>
    intro listed a C hcl hC1 hC2 hfree hr hy H
    refine ⟨fun h => (by rw [h] at hr; cases hr), fun j hj => ?_⟩
    by_cases hji : j = i
    · subst hji; exact one_opU hi hC1 hC2 hy H
    · have h1 := H.2 j (ready_mono hj hji)
      have hcl2 := hcl.set hj
      obtain ⟨hjun, oj, hoj, hall⟩ := mem_ready.1 hj
      have hnot : ∀ e ∈ oj.after, Region.binds md e = true → e.on ≠ i := fun e he hb heq => by
        have h1 := hall e he hb
        have h0 := (mem_ready.1 hr).1
        rw [heq] at h1
        rcases Nat.lt_or_ge i listed.size with h' | h'
        · simp [h'] at h0 h1; rw [h0] at h1; cases h1
        · simp [Array.getElem?_eq_none h'] at h1
      have h2 := opU_put hoj (hfree j oj hoj hji hjun hnot) (fun cs b => hsel i oi cs b hi) (fun cs b => hsel j oj cs b hoj) hy h1
      have hfree' : ∀ k ok, ops[k]? = some ok → k ≠ i → (listed.setIfInBounds j true).getD k true = false →
          (∀ e ∈ ok.after, Region.binds md e = true → e.on ≠ i) → oi.apart ops ok = true := fun k ok hk hki hun hno => by
        refine hfree k ok hk hki ?_ hno
        by_cases hjk : j = k
        · subst hjk; exact hjun
        · rw [getD_set_ne true hjk] at hun; exact hun
      refine opU_mono ⟨hC1, hC2⟩ (fun a' C' c1 c2 h3 => ih (listed.setIfInBounds j true) a' C' hcl2 c1 c2 hfree' (ready_mono hr (Ne.symm hji)) h3.1 ?_) h2
      rw [Array.setIfInBounds_comm _ _ hji]
      exact h3.2

theorem wpV_lex {n f : Nat} (hsc : succB md ops n = true) (hs : Region.noSelect ops = true) (hT : ∀ w, T w w) {C : World → Prop} (hC1 : ∀ w w', C w → T w w' → C w') (hC2 : ∀ w, C w → D w) (hne : ∃ ρ, D ρ) {aF : Act} {listed' : Array Bool} :
    ∀ (l : List Oper) (k : Nat) (listed : Array Bool) (a : Act) (seen : List Tmp), k + l.length = n → Closed md ops listed → (∀ j, j < l.length → l[j]? = ops[k + j]?) →
    lexTo md ops l.length k listed = some listed' → dstsB a.tmps.size l seen = true → WalkTo P ops T D aF l a → wpV ro m P md ops Q T D n f 0 listed' aF C → wpV ro m P md ops Q T D n f l.length listed a C
  | [], _, listed, a, _, _, _, _, hB, _, h, hK => by
    obtain ⟨ρ, hρ⟩ := hne
    have e : a = aF := h ρ hρ
    have e2 : listed = listed' := by simpa [lexTo] using hB
    subst e e2
    simpa using hK
  | o :: l, k, listed, a, seen, hkn, hcl, hl, hB, hd, h, hK => by
    have h0 : ops[k]? = some o := by simpa using (hl 0 (by simp)).symm
    simp only [List.length_cons, lexTo] at hB
    split at hB
    case isFalse => cases hB
    rename_i hc
    simp only [Bool.and_eq_true] at hc
    obtain ⟨v, seen', h1, h2, h3⟩ := step_of_walk hT hd h
    have hr : k ∈ Region.ready md ops listed := by simpa using hc.1
    have := wpV_lex hsc hs hT hC1 hC2 hne l (k + 1) _ (a.put o.dst v) seen' (by simp at hkn; omega) (hcl.set hr) (fun j hj => by have := hl (j + 1) (by simp; omega); simpa [Nat.add_assoc, Nat.add_comm 1 j] using this) hB (by rw [put_size]; exact h2) h3 hK
    rw [List.length_cons]
    exact wpV_first hsc (by simp at hkn; omega) h0 (Region.noSelect_spec hs) l.length listed a C hcl hC1 hC2 (Region.free_spec h0 hc.2) hr h1 this
/-- THE REGION: a prefix of operations of one value each, and a tail that one operation begins, which comes behind all of the prefix: the tail is walked as it stands. -/
theorem wpIn_region_tail {id : Nat} {a : Act} {w : World} {l : List Oper} (n f : Nat) (C D : World → Prop) (T : World → World → Prop) {aF : Act} (hm : P.follows .mixedOrders = true) (hnd : ∀ (j : Nat) (o : Oper) c, l.toArray[j]? = some o → o.op ≠ .defer c)
    (hn : n + f = l.length) (hsc : succB .any l.toArray n = true) (hs : Region.noSelect l.toArray = true) (hB : lexTo .any l.toArray n 0 (Array.replicate l.length false) = some (List.replicate n true ++ List.replicate f false).toArray) (hd : dstsB a.tmps.size (l.take n) [] = true)
    (hr : Region.ready .any l.toArray (List.replicate n true ++ List.replicate f false).toArray = [n])
    (hT : ∀ w, T w w) (hC1 : ∀ w w', C w → T w w' → C w') (hC2 : ∀ w, C w → D w) (h0 : C { w with drawn := w.drawn + 1 }) (hA : WalkTo P l.toArray T D aF (l.take n) a)
    (hN : ∀ w, C w → wpAnyIn (wideR ro) m P .any l.toArray Q f (List.replicate n true ++ List.replicate f false).toArray aF w) : (Code.region id l.toArray true).wpIn (wideR ro) m P Q a w := by
  have hlen : (l.take n).length = n := by simp; omega
  have hz : Closed .any l.toArray (Array.replicate l.length false) := by
    intro j o _ hl
    rw [Array.getD_eq_getD_getElem?, Array.getElem?_replicate] at hl
    split at hl <;> cases hl
  have h1 := wpV_lex (ro := ro) (m := m) (P := P) (md := .any) (ops := l.toArray) (Q := Q) (T := T) (D := D) (n := n) (f := f) hsc hs hT hC1 hC2 ⟨_, hC2 _ h0⟩ (l.take n) 0 (Array.replicate l.length false) a [] (by rw [hlen]; omega) hz (fun j hj => by rw [hlen] at hj; simp [hj]) (by rw [hlen]; exact hB) hd hA ⟨hr, hN⟩
  rw [hlen] at h1
  have h2 := wpAny_of_V hnd n _ _ _ _ h0 h1
  refine wpIn_region_any hm ?_
  rw [hn] at h2
  simpa using h2
/-- the next operation of the tail, where it alone may come up -/
theorem wpAnyIn_one {f : Nat} {listed : Array Bool} {a : Act} {w : World} {i : Nat} (hr : Region.ready md ops listed = [i]) (h : wpOpIn (wideR ro) m P ops Q i (wpAnyIn (wideR ro) m P md ops Q f (listed.setIfInBounds i true)) a w) : wpAnyIn (wideR ro) m P md ops Q (f + 1) listed a w := by
  refine ⟨fun h0 => ?_, fun j hj => ?_⟩
  · rw [hr] at h0; cases h0
  · rw [hr] at hj
    obtain rfl : j = i := by simpa using hj
    exact h
theorem wpAnyIn_last {listed : Array Bool} {a : Act} {w : World} (hr : Region.ready md ops listed = []) (h : Q .normal a w) : wpAnyIn (wideR ro) m P md ops Q 0 listed a w := ⟨hr, h⟩
end
end Go.MixIn
/- tableout.entries of a row with one entry: its iterator. -/
namespace Go.Proofs.YtcipjifpigpfdaaGreatDoor
open Go.RowKit Go.Shelf Go.Ev
open Go.Lib hiding intOf
theorem wideR_round (ro : Option Nat) : (wideR ro).round = ro := rfl
theorem wideR_depth (ro : Option Nat) : (wideR ro).depth = none := rfl
theorem wideR_fn (ro : Option Nat) (f : FuncId) : (wideR ro).fn f = True := rfl
attribute [local go_sem] Oper.semAt_some Oper.semAt_none wideR_round wideR_depth wideR_fn
theorem grown_of_below {w w' : World} (h : Below w.heap.size w w') : w.grownBy w' none := ⟨h.os, h.tape, h.output, h.size, fun k hk _ => h.block k hk⟩
/-- a row of a table with one entry: its key's text, its value's cells -/
structure RowAt (w : World) (Bg Bn : Nat) (key : ByteArray) (kd : Int) (tx : ByteArray) (od : Bool) (kv iv : Value) : Prop where
  ex : ∃ (b o N vc : Nat) (root : Int) (rk : Int) (rt : ByteArray) (ro : Bool) (lb lo kc ib io ic k y : Nat), w.heap[Bg]? = some (.cells #[.slice (some ⟨b, o, none⟩) N vc, .int .i64 root] 28) ∧
    w.heap[Bn]? = some (.cells #[.int .i64 rk, .string rt, .bool ro, .slice (some ⟨lb, lo, none⟩) 1 kc, .slice (some ⟨ib, io, none⟩) 1 ic] 25) ∧
    w.cell? ⟨lb, lo, none⟩ = some (.int .i64 k) ∧ w.cell? ⟨ib, io, none⟩ = some (.int .i64 y) ∧ k < N ∧ y < N ∧ w.cell? ⟨b, o + k * 5 + 1, none⟩ = some (.string key) ∧
    w.cell? ⟨b, o + y * 5, none⟩ = some (.int .i64 kd) ∧ w.cell? ⟨b, o + y * 5 + 1, none⟩ = some (.string tx) ∧ w.cell? ⟨b, o + y * 5 + 2, none⟩ = some (.bool od) ∧ w.cell? ⟨b, o + y * 5 + 3, none⟩ = some kv ∧ w.cell? ⟨b, o + y * 5 + 4, none⟩ = some iv
  keep : Bg < w.heap.size ∧ Bn < w.heap.size
theorem wpOpIn_of {F : Fence} {n : Nat} {P : Program} {ops : Array Oper} {Q : Exit → Act → World → Prop} {i : Nat} {o : Oper} {K : Act → World → Prop} {a : Act} {w : World} (hi : ops[i]? = some o) (hg : o.guard = none) (h : o.wpIn F n P a w K Q) : wpOpIn F n P ops Q i K a w := by
  unfold wpOpIn
  simp only [hi]
  rw [if_pos (by unfold Region.wanted; rw [hg])]
  exact h
def noDefer (l : List Oper) : Bool := l.all fun o => match o.op with
  | .defer _ => false
  | _ => true
theorem noDefer_of {l : List Oper} (h : noDefer l = true) : ∀ (j : Nat) (o : Oper) c, l.toArray[j]? = some o → o.op ≠ .defer c := by
  intro j o c hj e
  have h1 := List.all_eq_true.1 h o (List.mem_of_getElem? (by simpa using hj))
  rw [e] at h1
  cases h1
theorem drewN_two {w w' w'' : World} (h : ∃ j, w' = w.drewN j) (k : ∃ j, w'' = w'.drewN j) : ∃ j, w'' = w.drewN j := by
  obtain ⟨j, rfl⟩ := h
  obtain ⟨i, rfl⟩ := k
  exact ⟨j + i, by simp [World.drewN, Nat.add_assoc]⟩
def entV (key : ByteArray) (kd : Int) (tx : ByteArray) (od : Bool) (kv iv : Value) : Unit → Array Value := fun _ => #[.string key, .agg #[.int .i64 kd, .string tx, .bool od, kv, iv]]
set_option maxHeartbeats 4000000 in
set_option maxRecDepth 100000 in
theorem entries1 (w : World) (n Bg Bn : Nat) (key : ByteArray) (kd : Int) (tx : ByteArray) (od : Bool) (kv iv : Value) (Kp : World → World → Prop) (h : RowAt w Bg Bn key kd tx od kv iv) :
    SeqStopsK (wideR none) n Tryz.prog 45 #[.pointer (some ⟨Bg, 0, none⟩), .pointer (some ⟨Bn, 0, none⟩)] (entV key kd tx od kv iv) Kp (fun xs => xs = [()]) (fun pre => pre = [()]) 1 w := by
  intro l J Jx W hW hJ hJx hY h0
  obtain ⟨b, o, N, vc, root, rk, rt, ro, lb, lo, kc, ib, io, ic, k, y, hg, hn, hk, hy, hkN, hyN, t1, v0, v1, v2, v3, v4⟩ := h.ex
  have hg := (hW.block _ h.keep.1).trans hg
  have hn := (hW.block _ h.keep.2).trans hn
  have HC : PLift (∀ W', Below W.heap.size W W' → W'.cell? ⟨lb, lo, none⟩ = some (.int .i64 k) ∧ W'.cell? ⟨ib, io, none⟩ = some (.int .i64 y) ∧ W'.cell? ⟨b, o + k * 5 + 1, none⟩ = some (.string key) ∧
    W'.cell? ⟨b, o + y * 5, none⟩ = some (.int .i64 kd) ∧ W'.cell? ⟨b, o + y * 5 + 1, none⟩ = some (.string tx) ∧ W'.cell? ⟨b, o + y * 5 + 2, none⟩ = some (.bool od) ∧ W'.cell? ⟨b, o + y * 5 + 3, none⟩ = some kv ∧ W'.cell? ⟨b, o + y * 5 + 4, none⟩ = some iv ∧
    W'.cell? ⟨Bg, 0, none⟩ = some (.slice (some ⟨b, o, none⟩) N vc) ∧ W'.cell? ⟨Bn, 3, none⟩ = some (.slice (some ⟨lb, lo, none⟩) 1 kc) ∧ W'.cell? ⟨Bn, 4, none⟩ = some (.slice (some ⟨ib, io, none⟩) 1 ic)) := ⟨fun W' hb => by
      have hb2 := hW.trans (hb.mono hW.size)
      exact ⟨cell_keep hb2 hk, cell_keep hb2 hy, cell_keep hb2 t1, cell_keep hb2 v0, cell_keep hb2 v1, cell_keep hb2 v2, cell_keep hb2 v3, cell_keep hb2 v4, cell_keep hb ((Lib.cell_of_heap hg 0).trans rfl), cell_keep hb ((Lib.cell_of_heap hn 3).trans rfl), cell_keep hb ((Lib.cell_of_heap hn 4).trans rfl)⟩⟩
  have c0 : W.cell? ⟨Bg, 0, none⟩ = some (.slice (some ⟨b, o, none⟩) N vc) := (Lib.cell_of_heap hg 0).trans rfl
  have c1 : W.cell? ⟨Bg, 1, none⟩ = some (.int .i64 root) := (Lib.cell_of_heap hg 1).trans rfl
  have d0 : W.cell? ⟨Bn, 0, none⟩ = some (.int .i64 rk) := (Lib.cell_of_heap hn 0).trans rfl
  have d1 : W.cell? ⟨Bn, 1, none⟩ = some (.string rt) := (Lib.cell_of_heap hn 1).trans rfl
  have d2 : W.cell? ⟨Bn, 2, none⟩ = some (.bool ro) := (Lib.cell_of_heap hn 2).trans rfl
  have d3 : W.cell? ⟨Bn, 3, none⟩ = some (.slice (some ⟨lb, lo, none⟩) 1 kc) := (Lib.cell_of_heap hn 3).trans rfl
  have d4 : W.cell? ⟨Bn, 4, none⟩ = some (.slice (some ⟨ib, io, none⟩) 1 ic) := (Lib.cell_of_heap hn 4).trans rfl
  have HS := PLift.up (fun (W : World) => tsorted_one W (some ⟨b, o, none⟩) N vc root rk rt ro (some ⟨lb, lo, none⟩) kc (some ⟨ib, io, none⟩) 1 ic)
  have HY := PLift.up hY
  have H0 := PLift.up h0
  have HJ := PLift.up (And.intro hJ hJx)
  have hkN2 : (k : Int) < (N : Int) := by omega
  have hyN2 : (y : Int) < (N : Int) := by omega
  clear hY h0 hJ hJx hg hn hk hy t1 v0 v1 v2 v3 v4 h hkN hyN hW
  refine callsIn_of_wp Tryz.func45 rfl trivial ?_ rfl
  simp only [Tryz.ntmps45, List.size_toArray, List.length_cons, List.length_nil, Nat.reduceAdd, Nat.reduceSub, Array.replicate_succ, Array.replicate_zero, List.push_toArray, List.append_toArray, List.nil_append, List.cons_append]
  gi_wp2_with (gi_at_call 46; refine (calls_at (HS.down _) none _).mono ?_; rintro e w2 ⟨g, c, rfl, hb2, h02⟩; have HB2 := PLift.up hb2; have H02 := PLift.up h02; clear hb2 h02)
  have h02 := H02.down
  refine wpIn_loop_rounds 2 ?_
  rw [roundsIn_succ]
  gi_wp2
  refine MixIn.wpIn_region_tail (aF := ?_) 20 2 (fun W' => ∃ j, W' = w2.drewN j) (fun W' => ∃ j, W' = w2.drewN j) (fun w' w'' => ∃ j, w'' = w'.drewN j) (by kernel_rfl) (noDefer_of (by kernel_rfl)) rfl (by kernel_rfl) (by kernel_rfl) (by kernel_rfl) (by kernel_rfl) (by kernel_rfl) (fun w' => ⟨0, rfl⟩) (fun _ _ h k => drewN_two h k) (fun _ h => h) ⟨1, rfl⟩ ?_ ?_
  rotate_left 1
  · rintro ρ ⟨j, rfl⟩
    obtain ⟨q1, q2, q3, q4, q5, q6, q7, q8, q9, q10, q11⟩ := HC.down w2 HB2.down
    simp only [List.take_succ_cons, List.take_zero]
    repeat (go_big_quiet_step (fail))
    apply wpQuiet_nil
    exact rfl
  · rintro W' ⟨j, rfl⟩
    have hJ0 : J [] (w2.drewN j) := HJ.down.1 [] W _ none H0.down (grown_of_below ⟨HB2.down.os, HB2.down.tape, HB2.down.output, HB2.down.size, HB2.down.block⟩) (fun r e => by cases e)
    obtain ⟨fn, tmps, assign, body, hyy, hR⟩ := HY.down [] () (w2.drewN j) hJ0 (by decide)
    simp only [entV] at hyy
    refine MixIn.wpAnyIn_one (i := 20) (by kernel_rfl) ?_
    refine wpOpIn_of rfl rfl ?_
    unfold Oper.wpIn
    refine ⟨fun _ _ => trivial, ?_⟩
    go_simp
    refine hR.mono ?_
    clear hR hyy hJ0
    rintro e W3 (⟨rfl, hJ3, -⟩ | ⟨rfl, hJx3⟩)
    · have HJ3 := PLift.up hJ3
      clear hJ3
      refine MixIn.wpAnyIn_one (i := 21) (by kernel_rfl) ?_
      refine wpOpIn_of rfl rfl ?_
      unfold Oper.wpIn
      refine ⟨fun _ _ => trivial, ?_⟩
      go_simp
      refine MixIn.wpAnyIn_last (by kernel_rfl) ?_
      gi_wp2
      rw [roundsIn_succ]
      gi_wp2
      go_end0
      exact ⟨⟨_, rfl⟩, .inl ⟨_, rfl, HJ3.down⟩⟩
    · have HJ3 := PLift.up hJx3
      clear hJx3
      refine MixIn.wpAnyIn_one (i := 21) (by kernel_rfl) ?_
      refine wpOpIn_of rfl rfl ?_
      unfold Oper.wpIn
      refine ⟨fun _ _ => trivial, ?_⟩
      go_simp
      refine MixIn.wpAnyIn_last (by kernel_rfl) ?_
      gi_wp2
      refine bodyPost_ret (results_none rfl _ _ _) rfl ?_
      exact ⟨⟨_, rfl⟩, .inr ⟨_, rfl, HJ3.down⟩⟩
end Go.Proofs.YtcipjifpigpfdaaGreatDoor
/- tableout.entries and tableout.columns of a row with one entry. -/
namespace Go.Proofs.YtcipjifpigpfdaaGreatDoor
open Go.RowKit Go.Shelf Go.Ev
open Go.Lib hiding intOf
attribute [local go_sem] Oper.semAt_some Oper.semAt_none wideR_round wideR_depth wideR_fn
theorem info_str0 : (Tryz.prog.info? 9).map (fun i => (i.zero, i.size, i.bytes)) = some (some (.string ⟨#[]⟩), 1, 16) := by kernel_rfl
/-- a graph and one of its nodes, a map with one entry: the key's text, the value's cells -/
def RowC (w : World) (gv nv : Value) (key : ByteArray) (kd : Int) (tx : ByteArray) (od : Bool) (kv iv : Value) : Prop :=
  ∃ (b o N vc : Nat) (root : Int) (rt : ByteArray) (lb lo kc ib io ic k y : Nat), gv = .agg #[.slice (some ⟨b, o, none⟩) N vc, .int .i64 root] ∧
    nv = .agg #[.int .i64 10, .string rt, .bool false, .slice (some ⟨lb, lo, none⟩) 1 kc, .slice (some ⟨ib, io, none⟩) 1 ic] ∧ w.cell? ⟨b, o + k * 5, none⟩ = some (.int .i64 5) ∧
    w.cell? ⟨lb, lo, none⟩ = some (.int .i64 k) ∧ w.cell? ⟨ib, io, none⟩ = some (.int .i64 y) ∧ k < N ∧ y < N ∧ w.cell? ⟨b, o + k * 5 + 1, none⟩ = some (.string key) ∧
    w.cell? ⟨b, o + y * 5, none⟩ = some (.int .i64 kd) ∧ w.cell? ⟨b, o + y * 5 + 1, none⟩ = some (.string tx) ∧ w.cell? ⟨b, o + y * 5 + 2, none⟩ = some (.bool od) ∧ w.cell? ⟨b, o + y * 5 + 3, none⟩ = some kv ∧ w.cell? ⟨b, o + y * 5 + 4, none⟩ = some iv
theorem RowC.below {w w' : World} {gv nv : Value} {key : ByteArray} {kd : Int} {tx : ByteArray} {od : Bool} {kv iv : Value} (h : RowC w gv nv key kd tx od kv iv) (hb : Below w.heap.size w w') : RowC w' gv nv key kd tx od kv iv := by
  obtain ⟨b, o, N, vc, root, rt, lb, lo, kc, ib, io, ic, k, y, h1, h2, h5, hk, hy, hkN, hyN, t1, v0, v1, v2, v3, v4⟩ := h
  exact ⟨b, o, N, vc, root, rt, lb, lo, kc, ib, io, ic, k, y, h1, h2, cell_keep hb h5, cell_keep hb hk, cell_keep hb hy, hkN, hyN, cell_keep hb t1, cell_keep hb v0, cell_keep hb v1, cell_keep hb v2, cell_keep hb v3, cell_keep hb v4⟩
theorem RowC.at {w : World} {gv nv : Value} {key : ByteArray} {kd : Int} {tx : ByteArray} {od : Bool} {kv iv : Value} (h : RowC w gv nv key kd tx od kv iv) {Bg Bn : Nat} (hg : w.heap[Bg]? = some (.cells gv.cells 28)) (hn : w.heap[Bn]? = some (.cells nv.cells 25)) : RowAt w Bg Bn key kd tx od kv iv := by
  obtain ⟨b, o, N, vc, root, rt, lb, lo, kc, ib, io, ic, k, y, rfl, rfl, -, h⟩ := h
  exact ⟨⟨b, o, N, vc, root, 10, rt, false, lb, lo, kc, ib, io, ic, k, y, hg, hn, h⟩, block_lt hg, block_lt hn⟩
set_option maxHeartbeats 4000000 in
set_option maxRecDepth 100000 in
theorem entries_one (w : World) (ga : Option Addr) (gn gc : Nat) (root rk : Int) (rt : ByteArray) (ro : Bool) (ka : Option Addr) (kn kc : Nat) (ia : Option Addr) (im ic : Nat) :
    Calls Tryz.prog 20 #[.agg #[.slice ga gn gc, .int .i64 root], .agg #[.int .i64 rk, .string rt, .bool ro, .slice ka kn kc, .slice ia im ic]] w fun e w' =>
      e = .returned (.func (.func 45) #[] #[.pointer (some ⟨w.heap.size, 0, none⟩), .pointer (some ⟨w.heap.size + 1, 0, none⟩)]) ∧ w' = (w.alloc (.cells #[.slice ga gn gc, .int .i64 root] 28)).alloc (.cells #[.int .i64 rk, .string rt, .bool ro, .slice ka kn kc, .slice ia im ic] 25) := by
  go_enter Tryz.func20, Tryz.ntmps20
  go_wp2
  go_ret
  exact ⟨rfl, rfl⟩
set_option maxHeartbeats 4000000 in
set_option maxRecDepth 100000 in
theorem columns_one (w : World) (gv nv : Value) (key : ByteArray) (kd : Int) (tx : ByteArray) (od : Bool) (kv iv : Value) (h : RowC w gv nv key kd tx od kv iv) :
    Calls Tryz.prog 14 #[gv, nv] w fun e w' => ∃ v, e = .returned v ∧ w'.ownsRow w.heap.size 9 1 v 1 [.string key] ∧ Below w.heap.size w w' := by
  have HR := PLift.up h
  obtain ⟨b, o, N, vc, root, rt, lb, lo, kc, ib, io, ic, k, y, rfl, rfl, -⟩ := h
  obtain ⟨i0, hi, hz0, hz1, hz2⟩ := info_parts info_str0
  refine (callsIn_wide (n := 1)).1 ?_
  change CallsIn (wideR none) 1 _ _ _ _ _
  refine callsIn_of_wp_marks Tryz.func14 rfl trivial ?_ rfl
  simp only [Tryz.ntmps14, List.size_toArray, List.length_cons, List.length_nil, Nat.reduceAdd, Nat.reduceSub, Array.replicate_succ, Array.replicate_zero, List.push_toArray, List.append_toArray, List.nil_append, List.cons_append]
  gi_wp2_with (gi_at_call 20; refine (calls_at (entries_one _ _ _ _ _ _ _ _ _ _ _ _ _ _) none _).mono ?_; rintro e w' ⟨rfl, rfl⟩)
  have HA := allocs_at [.cells #[.slice (some ⟨b, o, none⟩) N vc, .int .i64 root] 28, .cells #[.int .i64 10, .string rt, .bool false, .slice (some ⟨lb, lo, none⟩) 1 kc, .slice (some ⟨ib, io, none⟩) 1 ic] 25, .cells #[.slice none 0 0] 47,
    .cells #[.slice (some ⟨b, o, none⟩) N vc, .int .i64 root] 28, .cells #[.int .i64 10, .string rt, .bool false, .slice (some ⟨lb, lo, none⟩) 1 kc, .slice (some ⟨ib, io, none⟩) 1 ic] 25] w
  unfold allocs allocs allocs allocs allocs allocs at HA
  generalize World.alloc _ _ = W0 at HA ⊢
  obtain ⟨hb0, hs0, hat⟩ := HA
  simp only [List.length_cons, List.length_nil] at hs0
  have hbx : Boxed W0 (w.heap.size + 2) 47 (.slice none 0 0) := hat 2 _ rfl
  have HE := entries1 W0 0 (w.heap.size + 3) (w.heap.size + 4) key kd tx od kv iv (fun _ _ => True) ((HR.down.below hb0).at (hat 3 _ rfl) (hat 4 _ rfl))
  refine wpIn_rangeFunc_ownG rfl (Nat.le_refl 1) (gf := 45) (lb := #[.pointer (some ⟨w.heap.size + 3, 0, none⟩), .pointer (some ⟨w.heap.size + 4, 0, none⟩)]) rfl trivial (enters_of Tryz.func45 (by kernel_rfl) rfl)
    HE (fun _ _ => trivial) (fun _ _ _ _ _ _ _ _ => trivial) (Below.refl _ _) (fun _ => rfl)
    (fun pre W => (∃ v, Boxed W (w.heap.size + 2) 47 v ∧ W.ownsRow w.heap.size 9 1 v pre.length (pre.map fun (_ : Unit) => Value.string key) ∧ True) ∧ Below w.heap.size w W)
    (fun _ _ _ => False)
    (OwnFrom.and (Own.from (holdsRow_own w.heap.size (w.heap.size + 2) 47 9 1 (fun (pre : List Unit) => pre.length) (fun pre => pre.map fun (_ : Unit) => Value.string key) (fun _ _ => True)) _) (ownFrom_below (Nat.le_refl _) (by omega)))
    (fun _ _ _ _ _ hs _ _ => hs)
    ⟨⟨_, hbx, World.ownsRow_nil _ _ _ _, trivial⟩, hb0⟩
    (fun _ => { tmps := #[.agg #[.slice (some ⟨b, o, none⟩) N vc, .int .i64 root], .agg #[.int .i64 10, .string rt, .bool false, .slice (some ⟨lb, lo, none⟩) 1 kc, .slice (some ⟨ib, io, none⟩) 1 ic], .pointer (some ⟨w.heap.size, 0, none⟩), .pointer (some ⟨w.heap.size + 1, 0, none⟩), .slice none 0 0, .pointer (some ⟨w.heap.size + 1 + 1, 0, none⟩), .string key,
      .agg #[.slice (some ⟨b, o, none⟩) N vc, .int .i64 root], .agg #[.int .i64 10, .string rt, .bool false, .slice (some ⟨lb, lo, none⟩) 1 kc, .slice (some ⟨ib, io, none⟩) 1 ic],
      .func (.func 45) #[] #[.pointer (some ⟨w.heap.size + 1 + 1 + 1, 0, none⟩), .pointer (some ⟨w.heap.size + 1 + 1 + 1 + 1, 0, none⟩)], .string key, .agg #[.int .i64 kd, .string tx, .bool od, kv, iv], undef, undef, undef, undef, undef], defers := [] }) ?assign ?body ?done ?stop
  case assign =>
    intro l x W K hK
    simp only [entV]
    gi_wp2
    exact hK
  case body =>
    rintro l pre x W ⟨⟨v, hv, hrow, -⟩, hB⟩ hlt
    obtain rfl : pre = [] := List.length_eq_zero_iff.1 (by omega)
    have hc := hv.cell
    gi_wp2_with (gi_at_builtin; refine wpListIn_append_own _ rfl _ _ 47 rfl w.heap.size 9 i0 (.string ⟨#[]⟩) 1 16 Tryz.underlying47 hi hz0 hz1 hz2 rfl (by decide) _ _ _ rfl (hrow.alloc _) ⟨W.heap.size, 0, none⟩ 1 1 [.string key] rfl rfl (cell_one_new _ _ _) (by simp [Value.oneCell']) (by decide) (by decide) (by have := hB.size; simp; omega) ?_; intro v' w1 hown' hgrow _; obtain ⟨g', cap', rfl⟩ := ownsRow_succ hown'; obtain ⟨hv1, hv2, hr2, hk2, hb2⟩ := hv.appended (by decide) hrow hB.size (by omega) hown' hgrow; have hc1 := hv1.cell; have hf1 := hv1.frozen)
    exact ⟨hk2.from _, trivial, ⟨_, hv2, by simpa using hr2⟩, hB.trans hb2⟩
  case done =>
    rintro D ys W hD rfl ⟨⟨v, hv, hrow, -⟩, hB⟩ hK
    have hc := hv.cell
    gi_wp2
    refine ⟨by simp, .inl ⟨_, _, rfl, run_takeDeferred hK, ?_⟩⟩
    exact ⟨_, results_tmp rfl _ _ _, v, rfl, ownsRow_putObj hrow _ hK rfl, hB.trans (belowK_b (w := w) (Nat.le_refl _) W D _ _ (by omega) hK rfl rfl)⟩
  case stop =>
    rintro D c pre W _ _ h _
    exact h.elim
end Go.Proofs.YtcipjifpigpfdaaGreatDoor
/- tableout.row of a row with one entry: the map of kinds, and slices.Equal of one text each. -/
namespace Go.Proofs.YtcipjifpigpfdaaGreatDoor
open Go.RowKit Go.Shelf Go.Ev
open Go.Lib hiding intOf
attribute [local go_sem] Oper.semAt_some Oper.semAt_none wideR_round wideR_depth wideR_fn
/-- a map of the kinds of columns -/
def KM (w : World) (b : Nat) (c : Int) (m : Nat) (key : ByteArray) : Prop :=
  ∃ D : DataW Unit, w.ownsMap Tryz.prog 9 (plainElem Tryz.prog 3) b m D ∧ Maps.IsMap D ∧ D.atKey (.string key.data.toList) (.lit (.int .i64 0)) = .lit (.int .i64 c)
theorem KM.lt {w : World} {b m : Nat} {c : Int} {key : ByteArray} (h : KM w b c m key) : b < w.heap.size := by
  obtain ⟨D, h1, -⟩ := h
  exact h1.lt
theorem KM.kept {w w' : World} {b m : Nat} {c : Int} {key : ByteArray} {row : Option Nat} (h : KM w b c m key) (hg : w.grownBy w' row) (hne : some b ≠ row) : KM w' b c m key := by
  obtain ⟨D, h1, h2⟩ := h
  exact ⟨D, h1.kept hg hne, h2⟩
theorem zero_int (w : World) : (zeroValue 3).run Tryz.prog w = .ok (.int .i64 0) w := by
  have h := Tryz.zeroValue3
  first | exact h w | exact h _ | exact Tryz.zeroValue3
theorem KM.look {w : World} {b m : Nat} {c : Int} {key : ByteArray} (h : KM w b c m key) (hk : key.size ≤ maxLen) : (Instr.lookup 49 (.map (some b)) (.string key) false).run Tryz.prog w = .ok (.int .i64 c) w := by
  obtain ⟨D, h1, -, h2⟩ := h
  obtain ⟨c', hr, hat, -⟩ := h1.lookup_int (t := 49) (Maps.string_keyed Tryz.underlying9) Tryz.underlying49 Tryz.underlying3 (zero_int w) (WideMaps.keyOf_string_mk Tryz.underlying9 hk)
  rw [h2] at hat
  cases hat
  exact hr
theorem KM.update {w : World} {b m : Nat} {c : Int} {key : ByteArray} (h : KM w b c m key) (hk : key.size ≤ maxLen) (hm : m < maxLen) (c' : Int) (hc : (Lit.int .i64 c').wf = true) : ∃ w', (Instr.mapUpdate 49 (.map (some b)) (.string key) (.int .i64 c')).run Tryz.prog w = .ok () w' ∧ KM w' b c' (m + 1) key ∧ w.grownBy w' (some b) := by
  obtain ⟨D, h1, h2, h3⟩ := h
  obtain ⟨w', q1, q2, q3⟩ := h1.update (t := 49) (Maps.string_keyed Tryz.underlying9) Tryz.underlying49 hm (WideMaps.keyOf_string_mk Tryz.underlying9 hk) (plainElem_int Tryz.underlying3 hc)
  exact ⟨w', q1, ⟨_, q2, h2.put _ _, Maps.atKey_put_same h2 (show WideAt.IsKeyLit (.string _) from trivial) _ _⟩, q3⟩
theorem KM.made (w : World) (key : ByteArray) : KM (w.alloc (.map #[] 0)) w.heap.size 0 0 key := ⟨_, World.ownsMap_made w _ _ _, Maps.isMap_empty, rfl⟩
set_option maxHeartbeats 4000000 in
set_option maxRecDepth 100000 in
theorem equal_one (w : World) (a1 a2 : Nat) (c1 c2 : Nat) (key : ByteArray) (h1 : w.cell? ⟨a1, 0, none⟩ = some (.string key)) (h2 : w.cell? ⟨a2, 0, none⟩ = some (.string key)) :
    Calls Tryz.prog 40 #[.slice (some ⟨a1, 0, none⟩) 1 c1, .slice (some ⟨a2, 0, none⟩) 1 c2] w fun e w' => e = .returned (.bool true) ∧ ∃ j, w' = w.drewN j := by
  go_enter Tryz.func40, Tryz.ntmps40
  go_wp2
  refine wp_loop_rounds 2 ?_
  rw [rounds_succ]
  go_wp2
  go_quiet (fail)
  go_wp2
  rw [rounds_succ]
  go_wp2
  go_ret
  exact ⟨rfl, _, rfl⟩
end Go.Proofs.YtcipjifpigpfdaaGreatDoor
/- The law of a range over a function whose loop variable lies in a box of its own. -/
namespace Go.Proofs.YtcipjifpigpfdaaGreatDoor
open Go.RowKit Go.Shelf Go.Ev
open Go.Lib hiding intOf
theorem rangeFunc_boxed {α : Type} {P : Program} {n : Nat} {g : Operand} {ps : Array Tmp} {assign body : Code} {Q : Exit → Act → World → Prop} {a : Act} {w : World}
    (h1 : 1 ≤ n) {gf : Nat} {lb : Array Value} (hg : a.eval g = .func (.func gf) #[] lb) (eg : ∀ args w, (callFunc gf args).run P w = .ok (.enter gf args) w)
    {encs : α → Array Value} {S Sp : List α → Prop} {N : Nat} (hseq : SeqStopsK (wideR none) (n - 1) P gf lb encs (fun _ _ => True) S Sp N w) (hps : ∀ x, (encs x).size = ps.size)
    (I : List α → World → Prop) (hI : OwnFrom w.heap.size I) (hIs : ∀ pre W, I pre W → w.heap.size ≤ W.heap.size) (h0 : I [] w) (cs : α → Array Value) (t : TypeId) (f : Array Value → α → Nat → Array Value)
    (hassign : ∀ (l : Nat) (x : α) (W : World) (K : Act → World → Prop), K { tmps := f a.tmps x W.heap.size, defers := [] } (W.alloc (.cells (cs x) t)) →
      assign.wpIn ((wideR none).inRound l) (n - 1 - 1) P (Exit.then K (fun _ _ _ => False)) { tmps := (ps.zip (encs x)).foldl (fun t (p, v) => t.setIfInBounds p v) a.tmps, defers := [] } W)
    (hbody : ∀ (l : Nat) (pre : List α) (x : α) (Bx : Nat) (W : World), w.heap.size ≤ l → (∃ r, W.heap[l]? = some (.loop r)) → I pre W → w.heap.size ≤ Bx → W.heap[Bx]? = some (.cells (cs x) t) → pre.length < N →
      body.wpIn ((wideR none).inRound l) (n - 1 - 1) P (ownPostG w.heap.size (fun _ _ => True) I (fun _ _ _ => False) (pre ++ [x]) W) { tmps := f a.tmps x Bx, defers := [] } W)
    (hdone : ∀ (D : Nat) (xs : List α) (W : World), w.heap.size ≤ D → S xs → I xs W → W.heap[D]? = some (.deferred (some [])) → Q .normal { a with defers := { target := .collected D, args := #[] } :: a.defers } W) :
    (Code.rangeFunc g ps assign body).wpIn (wideR none) n P Q a w := by
  refine wpIn_rangeFunc_ownH rfl h1 hg trivial eg hseq (fun _ _ => trivial) (fun _ _ _ _ _ _ _ _ => trivial) (Below.refl _ _) hps I (fun _ _ _ => False) hI (fun _ _ _ _ _ hs _ _ => hs) h0
    (fun x a' W => ∃ Bx, w.heap.size ≤ Bx ∧ W.heap[Bx]? = some (.cells (cs x) t) ∧ w.heap.size ≤ W.heap.size ∧ a' = { tmps := f a.tmps x Bx, defers := [] }) ?_ ?_ ?_ hdone (fun _ _ _ _ _ _ h _ => h.elim)
  · intro x a' _ W W' row hs hg hr
    obtain ⟨Bx, q1, q2, q3, q4⟩ := hs
    refine ⟨Bx, q1, ?_, Nat.le_trans q3 hg.size, q4⟩
    rw [hg.block Bx (block_lt q2) (fun e => ?_)]
    · exact q2
    · obtain ⟨-, o, ho, hc⟩ := hr Bx e.symm
      rw [q2] at ho
      cases ho
      cases hc
  · intro l pre x W K hi hK
    have hs := hIs _ _ hi
    exact hassign l x W K (hK _ _ ((KeepsOthers.alloc W _).from _) trivial (hI.alloc _ hi) ⟨W.heap.size, hs, heap_alloc_new W _, by rw [size_new]; omega, rfl⟩)
  · rintro l pre x a' W hl hloop hi ⟨Bx, q1, q2, -, rfl⟩ hlt
    exact hbody l pre x Bx W hl hloop hi q1 q2 hlt
end Go.Proofs.YtcipjifpigpfdaaGreatDoor
/- tableout.row of a row with one entry. -/
namespace Go.Proofs.YtcipjifpigpfdaaGreatDoor
open Go.RowKit Go.Shelf Go.Ev
open Go.Lib hiding intOf
attribute [local go_sem] Oper.semAt_some Oper.semAt_none wideR_round wideR_depth wideR_fn
set_option maxHeartbeats 4000000 in
set_option maxRecDepth 100000 in
theorem row_one (w : World) (gv nv : Value) (key : ByteArray) (kd : Int) (tx : ByteArray) (od : Bool) (kv iv : Value) (fb fc mb m : Nat) (c0 : Int) (h : RowC w gv nv key kd tx od kv iv) (hf : w.cell? ⟨fb, 0, none⟩ = some (.string key)) (hm : KM w mb c0 m key) (hk : key.size ≤ maxLen) (hm2 : m < 1000)
    (hkd : 1 ≤ kd ∧ kd ≤ 8) (hc0 : c0 = 0 ∨ c0 = kd) (hkv : ∃ a n c, kv = .slice a n c) (hiv : ∃ a n c, iv = .slice a n c) :
    Calls Tryz.prog 15 #[gv, nv, .slice (some ⟨fb, 0, none⟩) 1 fc, .map (some mb)] w fun e w' => e = .returned (.int .i64 0) ∧ KM w' mb kd (m + 1) key ∧ w.grownBy w' (some mb) := by
  obtain ⟨kva, kvn, kvc, rfl⟩ := hkv
  obtain ⟨iva, ivn, ivc, rfl⟩ := hiv
  have HR := PLift.up h
  have HF := PLift.up hf
  have HM := PLift.up hm
  have HML := PLift.up hm.lt
  obtain ⟨b, o, N, vc, root, rt, lb, lo, kc, ib, io, ic, k, y, rfl, rfl, h5, hk0, -, hkN, -⟩ := h
  have HK5 := PLift.up h5
  have HK0 := PLift.up hk0
  have hkN2 : (k : Int) < (N : Int) := by omega
  clear h5 hk0 hf hm
  refine (callsIn_wide (n := 1)).1 ?_
  change CallsIn (wideR none) 1 _ _ _ _ _
  refine callsIn_of_wp_marks Tryz.func15 rfl trivial ?_ rfl
  simp only [Tryz.ntmps15, List.size_toArray, List.length_cons, List.length_nil, Nat.reduceAdd, Nat.reduceSub, Array.replicate_succ, Array.replicate_zero, List.push_toArray, List.append_toArray, List.nil_append, List.cons_append]
  gi_upto_region 1 with fail
  have HA := allocs_at [.cells #[.slice (some ⟨b, o, none⟩) N vc, .int .i64 root] 28, .cells #[.int .i64 10, .string rt, .bool false, .slice (some ⟨lb, lo, none⟩) 1 kc, .slice (some ⟨ib, io, none⟩) 1 ic] 25, .cells #[.map (some mb)] 49, .cells #[.int .i64 0] 30] w
  unfold allocs allocs allocs allocs allocs at HA
  generalize World.alloc _ _ = W0 at HA ⊢
  obtain ⟨hb0, hs0, hat⟩ := HA
  have b0 := hat 0 _ rfl
  have b1 := hat 1 _ rfl
  have b2 := hat 2 _ rfl
  have b3 := hat 3 _ rfl
  have HB0 := PLift.up hb0
  have HX := PLift.up (And.intro b0 (And.intro b1 (And.intro b2 b3)))
  have g0 : W0.cell? ⟨w.heap.size, 0, none⟩ = some (.slice (some ⟨b, o, none⟩) N vc) := (Lib.cell_of_heap b0 0).trans rfl
  have g1 : W0.cell? ⟨w.heap.size, 1, none⟩ = some (.int .i64 root) := (Lib.cell_of_heap b0 1).trans rfl
  have n0 : W0.cell? ⟨w.heap.size + 1, 0, none⟩ = some (.int .i64 10) := (Lib.cell_of_heap b1 0).trans rfl
  have n1 : W0.cell? ⟨w.heap.size + 1, 1, none⟩ = some (.string rt) := (Lib.cell_of_heap b1 1).trans rfl
  have n2 : W0.cell? ⟨w.heap.size + 1, 2, none⟩ = some (.bool false) := (Lib.cell_of_heap b1 2).trans rfl
  have n3 : W0.cell? ⟨w.heap.size + 1, 3, none⟩ = some (.slice (some ⟨lb, lo, none⟩) 1 kc) := (Lib.cell_of_heap b1 3).trans rfl
  have n4 : W0.cell? ⟨w.heap.size + 1, 4, none⟩ = some (.slice (some ⟨ib, io, none⟩) 1 ic) := (Lib.cell_of_heap b1 4).trans rfl
  have k0 := cell_keep hb0 HK0.down
  have k5 := cell_keep hb0 HK5.down
  have HC := PLift.up (columns_one W0 _ _ key kd tx od _ _ (HR.down.below hb0))
  have HS0 : PLift (W0.heap.size = w.heap.size + 4) := ⟨hs0⟩
  clear hb0 hs0 hat b0 b1 b2 b3
  gi_wp2
  refine wpIn_loop_rounds 2 ?_
  rw [roundsIn_succ]
  gi_wp2
  rw [roundsIn_succ]
  gi_upto_region 9 with fail
  gi_wp2_with (first
    | (gi_at_call 14; refine (calls_at HC.down none _).mono ?_; rintro e w1 ⟨v1, rfl, hown1, hb1⟩; obtain ⟨a1, cp1, cur1, rfl, -, hg1, hcur1⟩ := own_at hown1 (by decide); have HB1 := PLift.up hb1; have HV1 := PLift.up ((Lib.cell_of_heap hg1 0).trans (hcur1 0 _ rfl)); have HF1 := PLift.up (cell_keep hb1 (cell_keep HB0.down HF.down)); have j0 := cell_keep hb1 g0; have j1 := cell_keep hb1 g1; have i0 := cell_keep hb1 n0; have i1 := cell_keep hb1 n1; have i2 := cell_keep hb1 n2; have i3 := cell_keep hb1 n3; have i4 := cell_keep hb1 n4; clear hown1 hb1 hg1 hcur1)
    | (gi_at_call 40; refine (calls_at (equal_one _ _ _ _ _ key HV1.down HF1.down) none _).mono ?_; rintro e w2 ⟨rfl, jd, rfl⟩)
    | (gi_at_call 20; refine (calls_at (entries_one _ _ _ _ _ _ _ _ _ _ _ _ _ _) none _).mono ?_; rintro e w' ⟨rfl, rfl⟩))
  have hbj : Below w.heap.size w (w1.drewN jd) := by
    have h := HB0.down.trans (HB1.down.mono HB0.down.size)
    exact ⟨h.os, h.tape, h.output, h.size, h.block⟩
  have HAb := allocs_at [.cells #[.slice (some ⟨b, o, none⟩) N vc, .int .i64 root] 28, .cells #[.int .i64 10, .string rt, .bool false, .slice (some ⟨lb, lo, none⟩) 1 kc, .slice (some ⟨ib, io, none⟩) 1 ic] 25] (w1.drewN jd)
  unfold allocs allocs allocs at HAb
  have x2 : (w1.drewN jd).heap[w.heap.size + 2]? = some (.cells #[.map (some mb)] 49) := (HB1.down.block _ (by have := HS0.down; omega)).trans HX.down.2.2.1
  have x3 : (w1.drewN jd).heap[w.heap.size + 3]? = some (.cells #[.int .i64 0] 30) := (HB1.down.block _ (by have := HS0.down; omega)).trans HX.down.2.2.2
  have HSZ : PLift ((w1.drewN jd).heap.size = w1.heap.size) := ⟨rfl⟩
  obtain ⟨hbl, hsl, hatl⟩ := HAb
  have y2 := (hbl.block _ (block_lt x2)).trans x2
  have y3 := (hbl.block _ (block_lt x3)).trans x3
  have hbw := hbj.trans (hbl.mono hbj.size)
  have hkml := HM.down.kept (grown_of_below hbw) (by simp)
  have HE := entries1 _ 0 _ _ key kd tx od _ _ (fun _ _ => True) ((HR.down.below hbw).at (hatl 0 _ rfl) (hatl 1 _ rfl))
  have HLT : PLift (w.heap.size + 4 ≤ (w1.drewN jd).heap.size) := ⟨by have := HS0.down; have := HB1.down.size; show w.heap.size + 4 ≤ w1.heap.size; omega⟩
  generalize hWl : World.alloc _ _ = Wl at hbl hsl hatl y2 y3 hbw hkml HE ⊢
  have HWL : PLift (w.heap.size + 4 ≤ Wl.heap.size) := ⟨by have := HLT.down; have := hbl.size; omega⟩
  have HKD := PLift.up hkd
  have HC0 := PLift.up hc0
  have HKS := PLift.up hk
  clear hWl hbl hsl hatl hbj x2 x3 j0 j1 i0 i1 i2 i3 i4 k0 k5 g0 g1 n0 n1 n2 n3 n4
  refine rangeFunc_boxed (Nat.le_refl 1) (gf := 45) (lb := #[.pointer (some ⟨(w1.drewN jd).heap.size, 0, none⟩), .pointer (some ⟨(w1.drewN jd).heap.size + 1, 0, none⟩)]) rfl (enters_of Tryz.func45 (by kernel_rfl) rfl) HE (fun _ => rfl)
    (fun pre W => w.grownBy W (some mb) ∧ KM W mb (if pre.length = 0 then c0 else kd) (m + pre.length) key ∧ W.heap[w.heap.size + 2]? = some (.cells #[.map (some mb)] 49) ∧ W.heap[w.heap.size + 3]? = some (.cells #[.int .i64 0] 30) ∧ Wl.heap.size ≤ W.heap.size)
    ?hI (fun _ _ h => h.2.2.2.2) ⟨⟨hbw.os, hbw.tape, hbw.output, hbw.size, fun k hk _ => hbw.block k hk⟩, hkml, y2, y3, Nat.le_refl _⟩
    (fun _ => #[.int .i64 kd, .string tx, .bool od, .slice kva kvn kvc, .slice iva ivn ivc]) 25 (fun A _ Bx => ((((A.setIfInBounds 50 (.string key)).setIfInBounds 51 (.agg #[.int .i64 kd, .string tx, .bool od, .slice kva kvn kvc, .slice iva ivn ivc])).setIfInBounds 11 (.string key)).setIfInBounds 12 (.pointer (some ⟨Bx, 0, none⟩)))) ?assign ?body ?done
  case hI =>
    intro pre W W' row hs hg hr
    obtain ⟨q1, q2, q3, q4, q5⟩ := hs
    have hne : ∀ k, k < Wl.heap.size → some k ≠ row := fun k hk e => by have := (hr k e.symm).1; omega
    refine ⟨⟨hg.os.trans q1.os, hg.tape.trans q1.tape, hg.output.trans q1.output, Nat.le_trans q1.size hg.size, fun k hk hkm => ?_⟩, q2.kept hg (hne _ (by have := HML.down; have := HWL.down; omega)), ?_, ?_, Nat.le_trans q5 hg.size⟩
    · rw [hg.block k (Nat.lt_of_lt_of_le hk q1.size) (hne _ (by have := HWL.down; omega))]; exact q1.block k hk hkm
    · rw [hg.block _ (block_lt q3) (hne _ (by have := HWL.down; omega))]; exact q3
    · rw [hg.block _ (block_lt q4) (hne _ (by have := HWL.down; omega))]; exact q4
  case assign =>
    intro l x W K hK
    simp only [entV]
    gi_wp2
    simpa only [List.setIfInBounds_toArray, List.set_cons_succ, List.set_cons_zero] using hK
  case body =>
    rintro l pre x Bx W hl hloop ⟨q1, q2, q3, q4, q5⟩ hBx hbx hlt
    obtain rfl : pre = [] := List.length_eq_zero_iff.1 (by omega)
    simp only [List.length_nil, if_true, Nat.add_zero] at q2
    have hlook := q2.look HKS.down
    have hwf : (Lit.int .i64 kd).wf = true := by
      have := HKD.down
      simp [Lit.wf, IntKind.min, IntKind.max, IntKind.signed, IntKind.bits]; omega
    obtain ⟨w', hup, hkm', hg'⟩ := q2.update HKS.down (by unfold maxLen; omega) kd hwf
    have d0 : W.cell? ⟨Bx, 0, none⟩ = some (.int .i64 kd) := (Lib.cell_of_heap hbx 0).trans rfl
    have d7 : W.cell? ⟨w.heap.size + 2, 0, none⟩ = some (.map (some mb)) := (Lib.cell_of_heap q3 0).trans rfl
    have h8 : ¬ 8 < kd := by have := HKD.down; omega
    have hz : ¬ kd = 0 := by have := HKD.down; omega
    simp only [List.setIfInBounds_toArray, List.set_cons_succ, List.set_cons_zero]
    have HQ := PLift.up (And.intro q1 (And.intro q3 (And.intro q4 q5)))
    have HU := PLift.up (And.intro hkm' hg')
    clear q1 q3 q4 q5 hkm' hg' hbx hloop hwf
    have hmbl : mb < Wl.heap.size := by have := HML.down; have := HWL.down; omega
    have hfin : KeepsFrom Wl.heap.size W w' ∧ True ∧ (w.grownBy w' (some mb) ∧ KM w' mb kd (m + 1) key ∧ w'.heap[w.heap.size + 2]? = some (.cells #[.map (some mb)] 49) ∧ w'.heap[w.heap.size + 3]? = some (.cells #[.int .i64 0] 30) ∧ Wl.heap.size ≤ w'.heap.size) := by
      obtain ⟨q1, q3, q4, q5⟩ := HQ.down
      obtain ⟨u1, u2⟩ := HU.down
      have hml := HML.down
      refine ⟨KeepsFrom.of_grownBy u2 (fun j e => by cases e; exact hmbl), trivial, ⟨u2.os.trans q1.os, u2.tape.trans q1.tape, u2.output.trans q1.output, Nat.le_trans q1.size u2.size, fun k hk hkm => ?_⟩, u1, ?_, ?_, Nat.le_trans q5 u2.size⟩
      · rw [u2.block k (Nat.lt_of_lt_of_le hk q1.size) hkm]; exact q1.block k hk hkm
      · rw [u2.block _ (block_lt q3) (fun e => by have := Option.some.inj e; omega)]; exact q3
      · rw [u2.block _ (block_lt q4) (fun e => by have := Option.some.inj e; omega)]; exact q4
    have HFIN := PLift.up hfin
    clear hfin HQ HU
    rcases HC0.down with h0 | h0
    · rw [h0] at hlook
      gi_wp2
      obtain ⟨f1, -, f2, f3, f4⟩ := HFIN.down
      exact ⟨f1, trivial, f2, by simpa using f3, f4⟩
    · rw [h0] at hlook
      gi_wp2
      obtain ⟨f1, -, f2, f3, f4⟩ := HFIN.down
      exact ⟨f1, trivial, f2, by simpa using f3, f4⟩
  case done =>
    rintro D ys W hD rfl ⟨q1, q2, q3, q4, q5⟩ hK
    have c8 : W.cell? ⟨w.heap.size + 1 + 1 + 1, 0, none⟩ = some (.int .i64 0) := (Lib.cell_of_heap q4 0).trans rfl
    have f8 : W.frozen? ⟨w.heap.size + 1 + 1 + 1, 0, none⟩ = false := Lib.frozen_of_heap q4 0
    have HQ := PLift.up (And.intro q1 (And.intro q2 (And.intro q4 (And.intro q5 hK))))
    clear q1 q2 q3 q4 q5 hK
    gi_wp2
    have hK2 : (W.setCell ⟨w.heap.size + 1 + 1 + 1, 0, none⟩ (.int .i64 0)).heap[D]? = some (.deferred (some [])) := (KeepsOthers.setCell _ _ _).same D _ HQ.down.2.2.2.2 rfl
    refine ⟨by simp, .inl ⟨_, _, rfl, run_takeDeferred hK2, ?_⟩⟩
    obtain ⟨q1, q2, q4, q5, hK⟩ := HQ.down
    have hwl := HWL.down
    have hml := HML.down
    have hg1 : W.grownBy (W.setCell ⟨w.heap.size + 1 + 1 + 1, 0, none⟩ (.int .i64 0)) (some (w.heap.size + 3)) := grown_set W _ 0 _
    have hg2 := grownBy_putObj' (W.setCell ⟨w.heap.size + 1 + 1 + 1, 0, none⟩ (.int .i64 0)) D (.deferred none)
    have r4 : ((W.setCell ⟨w.heap.size + 1 + 1 + 1, 0, none⟩ (.int .i64 0)).putObj D (.deferred none)).heap[w.heap.size + 3]? = some (.cells #[.int .i64 0] 30) := by
      rw [hg2.block _ (by have := block_lt q4; simpa [World.setCell] using this) (fun e => by have := Option.some.inj e; omega)]
      simp [World.setCell, Array.getElem?_modify, q4]
    have rc : ((W.setCell ⟨w.heap.size + 1 + 1 + 1, 0, none⟩ (.int .i64 0)).putObj D (.deferred none)).cell? ⟨w.heap.size + 1 + 1 + 1, 0, none⟩ = some (.int .i64 0) := (Lib.cell_of_heap r4 0).trans rfl
    refine ⟨.int .i64 0, (by simp only [results, Tryz.results15]; go_simp), rfl, ?_, ?_⟩
    · have := (q2.kept hg1 (fun e => by have := Option.some.inj e; omega)).kept hg2 (fun e => by have := Option.some.inj e; omega)
      simpa using this
    · refine ⟨(hg2.os.trans hg1.os).trans q1.os, (hg2.tape.trans hg1.tape).trans q1.tape, (hg2.output.trans hg1.output).trans q1.output, Nat.le_trans q1.size (Nat.le_trans hg1.size hg2.size), fun k hk hkm => ?_⟩
      rw [hg2.block k (Nat.lt_of_lt_of_le hk (Nat.le_trans q1.size hg1.size)) (fun e => by have := Option.some.inj e; omega), hg1.block k (Nat.lt_of_lt_of_le hk q1.size) (fun e => by have := Option.some.inj e; omega)]
      exact q1.block k hk hkm
end Go.Proofs.YtcipjifpigpfdaaGreatDoor
/- Cells and names of tables: what is printed for a text is read back as the text, and is well-formed where the text is. No program in sight. -/
namespace Go.Proofs.YtcipjifpigpfdaaGreatDoor
open Go.Lib
/-- what is written for a byte; f: it is the first -/
def escB (f : Bool) (c : UInt8) : List UInt8 :=
  if c = 92 then [92, 92] else if c = 9 then [92, 116] else if c = 10 then [92, 110] else if c = 13 then [92, 114] else if c = 35 ∧ f = true then [92, 104] else [c]
def escR : Bool → List UInt8 → List UInt8
  | _, [] => []
  | f, c :: l => escB f c ++ escR false l
/-- tableout.escaped -/
def escV (l : List UInt8) : List UInt8 := if l = [] then [92, 101] else escR true l
/-- a colon is written with a backslash -/
def colB (c : UInt8) : List UInt8 := if c = 58 then [92, 58] else [c]
/-- tableout.name -/
def nameV (l : List UInt8) : List UInt8 := (escV l).flatMap colB
/-- tableout.cell of a text -/
def cellV (l : List UInt8) : List UInt8 := if l = [126] then [92, 126] else escV l
/-- table.escape -/
def unesc (c : UInt8) : Option (List UInt8) :=
  if c = 116 then some [9] else if c = 110 then some [10] else if c = 114 then some [13] else if c = 104 then some [35] else if c = 101 then some [] else if c = 92 ∨ c = 58 ∨ c = 126 then some [c] else none
/-- table.read, where no tab and no carriage return comes -/
def rs : List UInt8 → Nat → List UInt8 → Option (Nat × List UInt8) → Option (List UInt8 × Option (Nat × List UInt8))
  | [], _, acc, co => some (acc, co)
  | c :: l, k, acc, co =>
    if c = 92 then match l with
      | [] => none
      | d :: l2 => match unesc d with
        | some t => rs l2 (k + 2) (acc ++ t) co
        | none => none
    else if c = 9 ∨ c = 13 then none
    else rs l (k + 1) (acc ++ [c]) (if c = 58 ∧ co = none then some (k, acc) else co)
theorem rs_esc {d : UInt8} {t : List UInt8} (h : unesc d = some t) (l : List UInt8) (k : Nat) (acc : List UInt8) (co : Option (Nat × List UInt8)) : rs (92 :: d :: l) k acc co = rs l (k + 2) (acc ++ t) co := by
  rw [rs, if_pos rfl]
  simp only [h]
theorem rs_plain {c : UInt8} (h1 : c ≠ 92) (h2 : c ≠ 9) (h3 : c ≠ 13) (l : List UInt8) (k : Nat) (acc : List UInt8) (co : Option (Nat × List UInt8)) : rs (c :: l) k acc co = rs l (k + 1) (acc ++ [c]) (if c = 58 ∧ co = none then some (k, acc) else co) := by
  conv => lhs; unfold rs
  rw [if_neg h1, if_neg (by simp [h2, h3])]
/-- one byte, as a cell writes it -/
theorem rs_escB (f : Bool) (c : UInt8) (l : List UInt8) (k : Nat) (acc : List UInt8) (co : Option (Nat × List UInt8)) : ∃ co', rs (escB f c ++ l) k acc co = rs l (k + (escB f c).length) (acc ++ [c]) co' := by
  unfold escB
  split
  · rename_i h; subst h; exact ⟨co, rs_esc (d := 92) rfl l k acc co⟩
  · split
    · rename_i h; subst h; exact ⟨co, rs_esc (d := 116) rfl l k acc co⟩
    · split
      · rename_i h; subst h; exact ⟨co, rs_esc (d := 110) rfl l k acc co⟩
      · split
        · rename_i h; subst h; exact ⟨co, rs_esc (d := 114) rfl l k acc co⟩
        · split
          · rename_i h; obtain ⟨rfl, -⟩ := h; exact ⟨co, rs_esc (d := 104) rfl l k acc co⟩
          · rename_i h1 h2 h3 h4 h5
            exact ⟨_, rs_plain h1 h2 h4 l k acc co⟩
theorem rs_escR : ∀ (s : List UInt8) (f : Bool) (l : List UInt8) (k : Nat) (acc : List UInt8) (co : Option (Nat × List UInt8)), ∃ co', rs (escR f s ++ l) k acc co = rs l (k + (escR f s).length) (acc ++ s) co'
  | [], f, l, k, acc, co => ⟨co, by simp [escR]⟩
  | c :: s, f, l, k, acc, co => by
    obtain ⟨co1, h1⟩ := rs_escB f c (escR false s ++ l) k acc co
    obtain ⟨co2, h2⟩ := rs_escR s false l (k + (escB f c).length) (acc ++ [c]) co1
    refine ⟨co2, ?_⟩
    rw [escR, List.append_assoc, h1, h2, List.length_append, List.append_assoc, Nat.add_assoc]
    rfl
/-- a cell is read back -/
theorem rs_cell (s : List UInt8) : ∃ co, rs (cellV s) 0 [] none = some (s, co) := by
  unfold cellV
  split
  · rename_i h; subst h; exact ⟨none, rfl⟩
  · unfold escV
    split
    · rename_i h; subst h; exact ⟨none, rfl⟩
    · obtain ⟨co, h⟩ := rs_escR s true [] 0 [] none
      rw [List.append_nil] at h
      exact ⟨co, by rw [h]; rfl⟩
/-- one byte, as a name writes it: no colon is left -/
theorem rs_nameB (f : Bool) (c : UInt8) (l : List UInt8) (k : Nat) (acc : List UInt8) : rs ((escB f c).flatMap colB ++ l) k acc none = rs l (k + ((escB f c).flatMap colB).length) (acc ++ [c]) none := by
  unfold escB
  split
  · rename_i h; subst h; exact rs_esc (d := 92) rfl l k acc none
  · split
    · rename_i h; subst h; exact rs_esc (d := 116) rfl l k acc none
    · split
      · rename_i h; subst h; exact rs_esc (d := 110) rfl l k acc none
      · split
        · rename_i h; subst h; exact rs_esc (d := 114) rfl l k acc none
        · split
          · rename_i h; obtain ⟨rfl, -⟩ := h; exact rs_esc (d := 104) rfl l k acc none
          · rename_i h1 h2 h3 h4 h5
            by_cases h6 : c = 58
            · subst h6; exact rs_esc (d := 58) rfl l k acc none
            · have hc : ([c] : List UInt8).flatMap colB = [c] := by simp [colB, h6]
              rw [hc]
              rw [List.cons_append, List.nil_append, rs_plain h1 h2 h4, if_neg (by simp [h6])]
              rfl
theorem rs_nameR : ∀ (s : List UInt8) (f : Bool) (l : List UInt8) (k : Nat) (acc : List UInt8), rs ((escR f s).flatMap colB ++ l) k acc none = rs l (k + ((escR f s).flatMap colB).length) (acc ++ s) none
  | [], f, l, k, acc => by simp [escR]
  | c :: s, f, l, k, acc => by
    rw [escR, List.flatMap_append, List.append_assoc, rs_nameB, rs_nameR, List.length_append, List.append_assoc, Nat.add_assoc]
    rfl
/-- a name is read back, up to the colon behind it -/
theorem rs_name (s l : List UInt8) : rs (nameV s ++ l) 0 [] none = rs l (nameV s).length s none := by
  unfold nameV escV
  split
  · rename_i h; subst h
    exact rs_esc (d := 101) rfl l 0 [] none
  · rw [rs_nameR, Nat.zero_add, List.nil_append]
theorem rs_head (s : List UInt8) : rs (nameV s ++ [58, 116, 101, 120, 116]) 0 [] none = some (s ++ [58, 116, 101, 120, 116], some ((nameV s).length, s)) := by
  rw [rs_name]
  simp [rs]
/-- no tab, line feed or carriage return is written -/
theorem escB_ctl (f : Bool) (c : UInt8) : ∀ b ∈ escB f c, b ≠ 9 ∧ b ≠ 10 ∧ b ≠ 13 := by
  unfold escB
  intro b hb
  repeat' split at hb
  all_goals (first
    | (simp only [List.mem_cons, List.not_mem_nil, or_false] at hb; rcases hb with rfl | rfl <;> decide)
    | skip)
  simp only [List.mem_cons, List.not_mem_nil, or_false] at hb
  subst hb
  exact ⟨by assumption, by assumption, by assumption⟩
theorem escR_ctl : ∀ (s : List UInt8) (f : Bool), ∀ b ∈ escR f s, b ≠ 9 ∧ b ≠ 10 ∧ b ≠ 13
  | [], f, b, hb => by simp [escR] at hb
  | c :: s, f, b, hb => by
    rw [escR, List.mem_append] at hb
    rcases hb with hb | hb
    · exact escB_ctl f c b hb
    · exact escR_ctl s false b hb
theorem escV_ctl (s : List UInt8) : ∀ b ∈ escV s, b ≠ 9 ∧ b ≠ 10 ∧ b ≠ 13 := by
  unfold escV
  split
  · intro b hb
    simp only [List.mem_cons, List.not_mem_nil, or_false] at hb
    rcases hb with rfl | rfl <;> decide
  · exact escR_ctl s true
theorem nameV_ctl (s : List UInt8) : ∀ b ∈ nameV s, b ≠ 9 ∧ b ≠ 10 ∧ b ≠ 13 := by
  intro b hb
  unfold nameV at hb
  obtain ⟨c, hc, h⟩ := List.mem_flatMap.1 hb
  unfold colB at h
  split at h
  · simp only [List.mem_cons, List.not_mem_nil, or_false] at h
    rcases h with rfl | rfl <;> decide
  · simp only [List.mem_cons, List.not_mem_nil, or_false] at h
    subst h
    exact escV_ctl s b hc
theorem cellV_ctl (s : List UInt8) : ∀ b ∈ cellV s, b ≠ 9 ∧ b ≠ 10 ∧ b ≠ 13 := by
  unfold cellV
  split
  · intro b hb
    simp only [List.mem_cons, List.not_mem_nil, or_false] at hb
    rcases hb with rfl | rfl <;> decide
  · exact escV_ctl s
/-- the first byte is no number sign -/
theorem escB_head (c : UInt8) (l : List UInt8) : ∃ d r, escB true c ++ l = d :: r ∧ d ≠ 35 := by
  unfold escB
  repeat' split
  all_goals (first
    | exact ⟨92, _, rfl, by decide⟩
    | skip)
  rename_i h
  exact ⟨c, l, rfl, fun e => h ⟨e, rfl⟩⟩
theorem escV_head (s : List UInt8) : ∃ d r, escV s = d :: r ∧ d ≠ 35 := by
  unfold escV
  cases s with
  | nil => exact ⟨92, [101], rfl, by decide⟩
  | cons c s =>
    rw [if_neg (by simp), escR]
    exact escB_head c _
theorem cellV_head (s : List UInt8) : ∃ d r, cellV s = d :: r ∧ d ≠ 35 := by
  unfold cellV
  split
  · exact ⟨92, [126], rfl, by decide⟩
  · exact escV_head s
theorem nameV_head (s : List UInt8) : ∃ d r, nameV s = d :: r ∧ d ≠ 35 := by
  obtain ⟨d, r, h, hd⟩ := escV_head s
  unfold nameV
  rw [h, List.flatMap_cons]
  unfold colB
  split
  · exact ⟨92, _, rfl, by decide⟩
  · exact ⟨d, _, rfl, hd⟩
/-- a cell is never a lone tilde -/
theorem cellV_tilde (s : List UInt8) : cellV s ≠ [126] := by
  unfold cellV
  split
  · decide
  · rename_i h
    unfold escV
    cases s with
    | nil => decide
    | cons c s =>
      rw [if_neg (by simp), escR]
      intro e
      apply h
      unfold escB at e
      repeat' split at e
      all_goals (first
        | (simp at e; done)
        | skip)
      · simp only [List.cons_append, List.nil_append, List.cons.injEq] at e
        obtain ⟨rfl, e⟩ := e
        cases s with
        | nil => rfl
        | cons d s =>
          exfalso
          rw [escR] at e
          have h2 := congrArg List.length e
          unfold escB at h2
          repeat' split at h2
          all_goals simp at h2
/-- lengths -/
theorem escB_len (f : Bool) (c : UInt8) : 1 ≤ (escB f c).length ∧ (escB f c).length ≤ 2 := by
  unfold escB
  repeat' split
  all_goals (constructor <;> simp)
theorem escR_len : ∀ (s : List UInt8) (f : Bool), (escR f s).length ≤ 2 * s.length
  | [], f => by simp [escR]
  | c :: s, f => by
    have h1 := escR_len s false
    have h2 := (escB_len f c).2
    rw [escR, List.length_append, List.length_cons]
    omega
theorem colB_len (c : UInt8) : (colB c).length ≤ 2 := by
  unfold colB
  split <;> simp
theorem colR_len : ∀ (s : List UInt8), (s.flatMap colB).length ≤ 2 * s.length
  | [] => by simp
  | c :: s => by
    have h1 := colR_len s
    have h2 := colB_len c
    rw [List.flatMap_cons, List.length_append, List.length_cons]
    omega
theorem escV_len (s : List UInt8) : (escV s).length ≤ 2 * s.length + 2 := by
  unfold escV
  split
  · simp
  · have := escR_len s true; omega
theorem nameV_len (s : List UInt8) : (nameV s).length ≤ 4 * s.length + 4 := by
  unfold nameV
  have h1 := colR_len (escV s)
  have h2 := escV_len s
  omega
theorem cellV_len (s : List UInt8) : (cellV s).length ≤ 2 * s.length + 2 := by
  unfold cellV
  split
  · simp
  · exact escV_len s
/-- what is printed is well-formed where the text is -/
theorem escB_high {f : Bool} {c : UInt8} (h : 128 ≤ c.toNat) : escB f c = [c] := by
  unfold escB
  repeat' split
  all_goals (first
    | rfl
    | (rename_i h1; subst h1; exact absurd h (by decide))
    | (rename_i h1; obtain ⟨rfl, -⟩ := h1; exact absurd h (by decide)))
theorem colB_high {c : UInt8} (h : 128 ≤ c.toNat) : colB c = [c] := by
  unfold colB
  split
  · rename_i h1; subst h1; exact absurd h (by decide)
  · rfl
theorem escR_high : ∀ (s : List UInt8) (l : List UInt8) (f : Bool), (∀ b ∈ s, 128 ≤ b.toNat) → escR f (s ++ l) = s ++ escR (f && s.isEmpty) l
  | [], l, f, _ => by simp
  | c :: s, l, f, h => by
    rw [List.cons_append, escR, escB_high (h c (List.mem_cons_self ..)), escR_high s l false (fun b hb => h b (List.mem_cons_of_mem _ hb))]
    simp
theorem flat_high : ∀ (s : List UInt8), (∀ b ∈ s, 128 ≤ b.toNat) → s.flatMap colB = s
  | [], _ => rfl
  | c :: s, h => by
    rw [List.flatMap_cons, colB_high (h c (List.mem_cons_self ..)), flat_high s (fun b hb => h b (List.mem_cons_of_mem _ hb))]
    rfl
theorem chk_ascii : ∀ (s l : List UInt8), (∀ b ∈ s, b.toNat < 128) → chk (s ++ l) = chk l
  | [], _, _ => rfl
  | c :: s, l, h => by
    rw [List.cons_append, chk_low (h c (List.mem_cons_self ..)), chk_ascii s l (fun b hb => h b (List.mem_cons_of_mem _ hb))]
theorem escB_low {f : Bool} {c : UInt8} (h : c.toNat < 128) : ∀ b ∈ escB f c, b.toNat < 128 := by
  unfold escB
  intro b hb
  repeat' split at hb
  all_goals (first
    | (simp only [List.mem_cons, List.not_mem_nil, or_false] at hb; rcases hb with rfl | rfl <;> decide)
    | (simp only [List.mem_cons, List.not_mem_nil, or_false] at hb; subst hb; exact h))
theorem colB_low {c : UInt8} (h : c.toNat < 128) : ∀ b ∈ colB c, b.toNat < 128 := by
  unfold colB
  intro b hb
  split at hb
  · simp only [List.mem_cons, List.not_mem_nil, or_false] at hb
    rcases hb with rfl | rfl <;> decide
  · simp only [List.mem_cons, List.not_mem_nil, or_false] at hb
    subst hb; exact h
/-- a well-formed sequence of more than one byte, at the head -/
theorem chk_multi {c : UInt8} {r : List UInt8} (hc : 128 ≤ c.toNat) (h : chk (c :: r) = true) : ∃ s t, s ≠ [] ∧ c :: r = s ++ t ∧ (∀ b ∈ s, 128 ≤ b.toNat) ∧ chk t = true ∧ ∀ l, chk (s ++ l) = chk l := by
  unfold chk at h
  split at h
  · cases h
  · rename_i hne
    rcases dec_high (c := c) hc r with k | ⟨k1, k2, k3, k4⟩
    · exact absurd k hne
    · refine ⟨(c :: r).take (dec (c :: r)).2, r.drop ((dec (c :: r)).2 - 1), ?_, (take_drop_head c r).symm, k3, h, fun l => ?_⟩
      · intro e
        have := congrArg List.length e
        simp at this
        omega
      · obtain ⟨n, hn⟩ : ∃ n, (dec (c :: r)).2 = n + 1 := ⟨(dec (c :: r)).2 - 1, by omega⟩
        have e := k4 l
        rw [hn] at e k2 ⊢
        simp only [List.take_succ_cons, List.cons_append] at e ⊢
        conv => lhs; unfold chk
        rw [e, if_neg hne, hn]
        simp only [List.length_cons, Nat.add_le_add_iff_right] at k2
        simp [List.length_take, Nat.min_eq_left k2]
theorem chk_escR (s : List UInt8) : ∀ (f : Bool) (l : List UInt8), chk s = true → chk (escR f s ++ l) = chk l ∧ chk ((escR f s).flatMap colB ++ l) = chk l := by
  induction hn : s.length using Nat.strongRecOn generalizing s with
  | _ n ih =>
    intro f l h
    cases s with
    | nil => exact ⟨rfl, rfl⟩
    | cons c r =>
      by_cases hc : c.toNat < 128
      · rw [chk_low hc] at h
        obtain ⟨i1, i2⟩ := ih r.length (by subst hn; simp) r rfl false l h
        rw [escR, List.append_assoc, chk_ascii _ _ (escB_low hc), List.flatMap_append, List.append_assoc]
        refine ⟨i1, ?_⟩
        rw [chk_ascii _ _ (fun b hb => by
          obtain ⟨d, hd, h2⟩ := List.mem_flatMap.1 hb
          exact colB_low (escB_low hc d hd) b h2)]
        exact i2
      · obtain ⟨s1, t, h1, h2, h3, h4, h5⟩ := chk_multi (by omega) h
        have hl : t.length < n := by
          have h6 := congrArg List.length h2
          have h7 : 0 < s1.length := List.length_pos_iff.2 h1
          rw [List.length_append] at h6
          omega
        obtain ⟨i1, i2⟩ := ih t.length hl t rfl (f && s1.isEmpty) l h4
        rw [h2, escR_high s1 t f h3, List.append_assoc, h5, List.flatMap_append, flat_high s1 h3, List.append_assoc, h5]
        exact ⟨i1, i2⟩
theorem chk_cell (s l : List UInt8) (h : chk s = true) : chk (cellV s ++ l) = chk l := by
  unfold cellV
  split
  · exact chk_ascii _ _ (by decide)
  · unfold escV
    split
    · exact chk_ascii _ _ (by decide)
    · exact (chk_escR s true l h).1
theorem chk_name (s l : List UInt8) (h : chk s = true) : chk (nameV s ++ l) = chk l := by
  unfold nameV escV
  split
  · exact chk_ascii _ _ (by decide)
  · exact (chk_escR s true l h).2
end Go.Proofs.YtcipjifpigpfdaaGreatDoor
/- strings.Builder at this dump: the check of copies, and WriteString. -/
namespace Go.Proofs.YtcipjifpigpfdaaGreatDoor
open Go.RowKit
open Go.Lib hiding intOf
theorem bld_info : (Tryz.prog.info? 54).map (·.size) = some 2 := by kernel_rfl
set_option maxHeartbeats 1000000 in
set_option maxRecDepth 100000 in
theorem bcheck_used (b : Nat) (w : World) (h0 : w.cell? ⟨b, 0, none⟩ = some (.pointer (some ⟨b, 0, none⟩))) :
    Calls Tryz.prog 41 #[.pointer (some ⟨b, 0, none⟩)] w fun e w' => e = .returned (.tuple #[]) ∧ w' = w := by
  obtain ⟨j, hj, _⟩ := Option.map_eq_some_iff.1 bld_info
  go_enter Tryz.func41, Tryz.ntmps41
  go_wp2
  rw [Lib.run_neq_ptr_same w _ Tryz.underlying51 hj]
  go_wp2
  go_end0
  exact ⟨rfl, rfl⟩
set_option maxHeartbeats 1000000 in
set_option maxRecDepth 100000 in
theorem bcheck_fresh (b : Nat) (w : World) (h0 : w.cell? ⟨b, 0, none⟩ = some (.pointer none)) (hsh : w.shape? b = some (54, 2)) (hfz : w.frozen? ⟨b, 0, none⟩ = false) :
    Calls Tryz.prog 41 #[.pointer (some ⟨b, 0, none⟩)] w fun e w' => e = .returned (.tuple #[]) ∧ w' = w.setCell ⟨b, 0, none⟩ (.pointer (some ⟨b, 0, none⟩)) := by
  obtain ⟨j, hj, hjs⟩ := Option.map_eq_some_iff.1 bld_info
  go_enter Tryz.func41, Tryz.ntmps41
  go_wp2
  rw [Lib.run_to_unsafe w ⟨b, 0, none⟩ Tryz.underlying51 Tryz.underlying134 hj (by rw [hjs]; decide) hsh (Nat.zero_lt_succ 1)]
  simp only [Result.andThen]
  rw [Oper.upon_value]
  go_wp2
  rw [run_callFunc_extern Tryz.func76 (by kernel_rfl) (by kernel_rfl) (by kernel_rfl) (e := Extern.AbiNoEscape.same) (by kernel_rfl)]
  rw [Lib.run_noEscape]
  simp only [Result.andThen]
  rw [Oper.upon_value]
  go_wp2
  rw [Lib.run_from_unsafe w ⟨b, 0, none⟩ Tryz.underlying134 Tryz.underlying51 hj hsh (by kernel_rfl)]
  simp only [Result.andThen]
  rw [Oper.upon_value]
  go_wp2
  go_end0
  exact ⟨rfl, rfl⟩
theorem bcheck_any (B b : Nat) (bs : List Value) (w : World) (h : Lib.IsBuilder 54 5 B b bs w) :
    Calls Tryz.prog 41 #[.pointer (some ⟨b, 0, none⟩)] w fun e w' => e = .returned (.tuple #[]) ∧ (Lib.BuilderAt 54 5 B b (.pointer (some ⟨b, 0, none⟩)) bs w' ∧ Below B w w') := by
  rcases h with h | h
  · refine (bcheck_fresh b w h.cell0 h.shape h.frozen0).mono ?_
    rintro e w' ⟨rfl, rfl⟩
    exact ⟨rfl, h.used _, (Below.refl B w).setCell (p := ⟨b, 0, none⟩) h.1 _⟩
  · refine (bcheck_used b w h.cell0).mono ?_
    rintro e w' ⟨rfl, rfl⟩
    exact ⟨rfl, h, Below.refl B _⟩
set_option maxHeartbeats 1000000 in
set_option maxRecDepth 100000 in
theorem bwrite_any (B b : Nat) (l : List UInt8) (s : ByteArray) (w : World) (h : Lib.IsBuilder 54 5 B b (Lib.byteCells l) w) (hlen : l.length + s.size ≤ 140737488355328) (hBw : B ≤ w.heap.size) :
    Calls Tryz.prog 17 #[.pointer (some ⟨b, 0, none⟩), .string s] w fun e w' => e = .returned (.tuple #[.int .i64 s.size, .nilIface]) ∧ (Lib.IsBuilder 54 5 B b (Lib.byteCells (l ++ s.data.toList)) w' ∧ Below B w w') := by
  go_enter Tryz.func17, Tryz.ntmps17
  go_wp2_with (go_at_call 41; refine (bcheck_any B b _ _ h).mono ?_)
  rintro e w1 ⟨rfl, h1, hb1⟩
  obtain ⟨hB, v, hbk, hown, hne⟩ := h1
  rw [Lib.byteCells_length] at hown
  have c0 : w1.cell? ⟨b, 0, none⟩ = some (.pointer (some ⟨b, 0, none⟩)) := by rw [Lib.cell_of_heap hbk]; rfl
  have c1 : w1.cell? ⟨b, 1, none⟩ = some v := by rw [Lib.cell_of_heap hbk]; rfl
  go_wp2_with (at_builtin; refine app_str _ rfl _ _ rfl rfl (B := B) hown s rfl hlen (Nat.le_trans hBw hb1.size) ?_)
  intro v' w2 hown' hb2 hg
  have hlt : b < w1.heap.size := (Array.getElem?_eq_some_iff.1 hbk).1
  have hb3 : w2.heap[b]? = some (.cells #[.pointer (some ⟨b, 0, none⟩), v] 54 (0, 0)) := by
    rw [hg.block b hlt (fun e => hne e.symm)]
    exact hbk
  have d0 : w2.cell? ⟨b, 0, none⟩ = some (.pointer (some ⟨b, 0, none⟩)) := by rw [Lib.cell_of_heap hb3]; rfl
  have d1 : w2.cell? ⟨b, 1, none⟩ = some v := by rw [Lib.cell_of_heap hb3]; rfl
  have f1 : w2.frozen? ⟨b, 1, none⟩ = false := Lib.frozen_of_heap hb3 1
  obtain ⟨ao, cap, rfl⟩ := hown'.slice
  go_wp2
  go_ret2
  refine ⟨rfl, .inr ?_, ?_⟩
  · exact Lib.BuilderAt.put (T := 54) (e := 5) hB hb3 (bs' := Lib.byteCells (l ++ s.data.toList)) (by rw [Lib.byteCells_length, show l.length + s.size = (l ++ s.data.toList).length from by simp]; exact hown') (by decide)
  · exact (hb1.trans hb2).setCell (p := ⟨b, 1, none⟩) hB _
end Go.Proofs.YtcipjifpigpfdaaGreatDoor
/- canon.of: the table of a graph. -/
namespace Go.Proofs.YtcipjifpigpfdaaGreatDoor
open Go.RowKit
open Go.Lib hiding intOf
/-- a table: the graph, and a row of n slices of which none is known yet or each is the entries of its node -/
structure TabAt (w : World) (b r : Nat) (v : Value) (root : Int) (n : Nat) (E : List Value) : Prop where
  box : w.heap[b]? = some (.cells #[v, .int .i64 root, .slice (some ⟨r, 0, none⟩) n n] 157)
  row : w.heap[r]? = some (.cells E.toArray 23)
  len : E.length = n
  ne : b ≠ r
set_option maxHeartbeats 4000000 in
set_option maxRecDepth 100000 in
theorem of_any (w : World) (v : Value) (root : Int) (N : List Nd) (hN : NodesAt w v N) (hn : N.length ≤ 4096) :
    Calls Tryz.prog 62 #[.agg #[v, .int .i64 root]] w fun e w' => e = .returned (.pointer (some ⟨w.heap.size + 1 + 1, 0, none⟩)) ∧ Below w.heap.size w w' ∧ TabAt w' (w.heap.size + 1 + 1) (w.heap.size + 1) v root N.length (List.replicate N.length (.slice none 0 0)) := by
  obtain ⟨va, vc, rfl, hvl, hvn⟩ := hN
  clear hvn
  have hmk2 : ∀ wx : World, (Instr.makeSlice 155 (.int .i64 (N.length : Int)) (.int .i64 (N.length : Int))).run Tryz.prog wx = .ok (.slice (some ⟨wx.heap.size, 0, none⟩) N.length N.length) (wx.alloc (.cells (Array.replicate N.length (.slice none 0 0)) 23)) := fun wx => by
    rw [run_make_row' 155 23 (.slice none 0 0) 24 Tryz.underlying155 info_slice0 rfl .i64 .i64 N.length (by omega) (by omega) wx, made_rep]
  as_aux_lemma =>
  go_enter Tryz.func62, Tryz.ntmps62
  as_aux_lemma =>
  go_upto_region 1 with fail
  have hs0 : (w.alloc (.cells #[.slice va N.length vc, .int .i64 root] 28)).heap.size = w.heap.size + 1 := size_new _ _
  have hx0 : (w.alloc (.cells #[.slice va N.length vc, .int .i64 root] 28)).heap[w.heap.size]? = some (.cells #[.slice va N.length vc, .int .i64 root] 28) := heap_alloc_new w _
  have HB0 : PLift (Below w.heap.size w (w.alloc (.cells #[.slice va N.length vc, .int .i64 root] 28))) := ⟨below_new w _⟩
  obtain ⟨W0, hW0⟩ : ∃ W0, w.alloc (.cells #[.slice va N.length vc, .int .i64 root] 28) = W0 := ⟨_, rfl⟩
  rw [hW0] at hs0 hx0 HB0 ⊢
  have c0 : W0.cell? ⟨w.heap.size, 0, none⟩ = some (.slice va N.length vc) := (Lib.cell_of_heap hx0 0).trans rfl
  have c1 : W0.cell? ⟨w.heap.size, 1, none⟩ = some (.int .i64 root) := (Lib.cell_of_heap hx0 1).trans rfl
  have c0' := fun ob => cell_keep (below_new W0 ob) c0
  have c1' := fun ob => cell_keep (below_new W0 ob) c1
  have HS0 := PLift.up hs0
  clear hx0 hs0 hW0
  as_aux_lemma =>
  go_region
  all_goals
    as_aux_lemma =>
    go_wp2
    refine bodyPost_ret (v := .pointer (some ⟨W0.heap.size + 1, 0, none⟩)) (by simp only [results, Tryz.results62]; go_simp) rfl ?_
    have hz : w.heap.size ≤ W0.drew.heap.size := by have h1 := HS0.down; have h2 : W0.drew.heap.size = W0.heap.size := rfl; omega
    have hb := ((Below.refl w.heap.size W0).drew.alloc hz (.cells (Array.replicate N.length (.slice none 0 0)) 23))
    refine ⟨by rw [HS0.down], HB0.down.trans (hb.alloc (Nat.le_trans hz (by rw [size_new]; omega)) _), ?_⟩
    rw [← HS0.down]
    refine ⟨?_, ?_, by simp, by omega⟩
    · have h := heap_alloc_new (W0.alloc (.cells (Array.replicate N.length (.slice none 0 0)) 23)) (.cells #[.slice va N.length vc, .int .i64 root, .slice (some ⟨W0.heap.size, 0, none⟩) N.length N.length] 157)
      rw [size_new] at h
      exact h
    · have h := heap_alloc_new W0 (.cells (Array.replicate N.length (.slice none 0 0)) 23)
      rw [← Lib.alloc_old (W0.alloc (.cells (Array.replicate N.length (.slice none 0 0)) 23)) (.cells #[.slice va N.length vc, .int .i64 root, .slice (some ⟨W0.heap.size, 0, none⟩) N.length N.length] 157) _ (by rw [size_new]; omega)] at h
      refine h.trans ?_
      simp
end Go.Proofs.YtcipjifpigpfdaaGreatDoor
/- strings.Builder: WriteByte. -/
namespace Go.Proofs.YtcipjifpigpfdaaGreatDoor
open Go.RowKit
open Go.Lib hiding intOf
set_option maxHeartbeats 1000000 in
set_option maxRecDepth 100000 in
theorem bbyte_any (B b : Nat) (l : List UInt8) (c : UInt8) (w : World) (h : Lib.IsBuilder 54 5 B b (Lib.byteCells l) w) (hlen : l.length + 1 ≤ 140737488355328) (hBw : B ≤ w.heap.size) :
    Calls Tryz.prog 79 #[.pointer (some ⟨b, 0, none⟩), .int .u8 c.toNat] w fun e w' => e = .returned .nilIface ∧ (Lib.IsBuilder 54 5 B b (Lib.byteCells (l ++ [c])) w' ∧ Below B w w') := by
  obtain ⟨i0, hi0, hz0, hz1, hz2⟩ := info_parts info_u8
  have HI0 := PLift.up (And.intro hi0 (And.intro hz0 (And.intro hz1 hz2)))
  have HBC := PLift.up (bcheck_any B b _ _ h)
  clear hi0 hz0 hz1 hz2 h
  as_aux_lemma =>
  go_enter Tryz.func79, Tryz.ntmps79
  as_aux_lemma =>
  go_upto_region 2 with (go_at_call 41; refine (HBC.down).mono ?_; rintro e w1 ⟨rfl, h1, hb1⟩; have H1 := PLift.up h1; have HB1 := PLift.up hb1; clear h1 hb1)
  obtain ⟨hB, v, hbk, hown, hne⟩ := H1.down
  rw [Lib.byteCells_length] at hown
  have c0 : w1.cell? ⟨b, 0, none⟩ = some (.pointer (some ⟨b, 0, none⟩)) := by rw [Lib.cell_of_heap hbk]; rfl
  have c1 : w1.cell? ⟨b, 1, none⟩ = some v := by rw [Lib.cell_of_heap hbk]; rfl
  have HOWN := PLift.up (World.ownsRow.alloc hown (.cells #[.int .u8 c.toNat] 5))
  have HB := PLift.up hB
  have HBK := PLift.up hbk
  have HNE := PLift.up hne
  have HBS : PLift (B ≤ (w1.alloc (.cells #[.int .u8 c.toNat] 5)).heap.size) := ⟨by rw [size_new]; have := HB1.down.size; omega⟩
  have HNW : PLift ((w1.alloc (.cells #[.int .u8 c.toNat] 5)).cell? ⟨w1.heap.size, 0, none⟩ = some (.int .u8 c.toNat)) := ⟨(Lib.cell_of_heap (heap_alloc_new w1 _) 0).trans rfl⟩
  have HL := PLift.up hlen
  clear hown hB hbk hne hlen
  as_aux_lemma =>
  go_wp2_with (refine wpList_append_new _ rfl _ _ 52 rfl B 5 i0 (.int .u8 0) 1 1 Tryz.underlying52 HI0.down.1 HI0.down.2.1 HI0.down.2.2.1 HI0.down.2.2.2 rfl (by decide) v l.length (Lib.byteCells l) rfl HOWN.down ⟨w1.heap.size, 0, none⟩ 1 1 [.int .u8 c.toNat] rfl rfl (by intro j2 u hj2; match j2, hj2 with | 0, hj2 => simp only [List.getElem?_cons_zero, Option.some.injEq] at hj2; subst hj2; exact HNW.down | j2 + 1, hj2 => simp at hj2) (by simp [Value.oneCell']) (by decide) (by have := HL.down; unfold maxLen; omega) (by have := HL.down; omega) HBS.down ?_)
  intro v' w2 hown' hg hpl
  have hlt : b < w1.heap.size := block_lt HBK.down
  have hb3 : w2.heap[b]? = some (.cells #[.pointer (some ⟨b, 0, none⟩), v] 54 (0, 0)) := by
    rw [hg.block b (by rw [size_new]; omega) (fun e => HNE.down e.symm), Lib.alloc_old _ _ _ hlt]
    exact HBK.down
  have d1 : w2.cell? ⟨b, 1, none⟩ = some v := by rw [Lib.cell_of_heap hb3]; rfl
  have f1 : w2.frozen? ⟨b, 1, none⟩ = false := Lib.frozen_of_heap hb3 1
  have HG : PLift (Below B w1 w2) := ⟨((Below.refl B w1).alloc (by have := HB1.down.size; omega) _).grown hg HBS.down (fun k hk => (HOWN.down.lt k hk).1)⟩
  have HPUT := PLift.up (Lib.BuilderAt.put (T := 54) (e := 5) HB.down hb3 (bs' := Lib.byteCells (l ++ [c])) (v' := v') (by rw [Lib.byteCells_length, Lib.byteCells_append, show (l ++ [c]).length = l.length + 1 from by simp]; exact hown') (by decide))
  obtain ⟨A4, cc4, hv4⟩ := own_shape hown'
  subst hv4
  clear hown' hg hpl hb3
  as_aux_lemma =>
  go_wp2
  refine bodyPost_ret (v := .nilIface) (by simp only [results, Tryz.results79]; go_simp) rfl ?_
  exact ⟨rfl, .inr HPUT.down, (HB1.down.trans HG.down).setCell (p := ⟨b, 1, none⟩) HB.down _⟩
end Go.Proofs.YtcipjifpigpfdaaGreatDoor
/- tableout.escaped: what it writes for a text. -/
namespace Go.Proofs.YtcipjifpigpfdaaGreatDoor
open Go.RowKit
open Go.Lib hiding intOf
theorem escR_snoc : ∀ (l : List UInt8) (f : Bool) (c : UInt8), escR f (l ++ [c]) = escR f l ++ escB (f && l.isEmpty) c
  | [], f, c => by simp [escR]
  | d :: l, f, c => by
    rw [List.cons_append, escR, escR, escR_snoc l false c, List.append_assoc]
    simp
theorem escR_take {l : List UInt8} {k : Nat} (h : k < l.length) : escR true (l.take (k + 1)) = escR true (l.take k) ++ escB (decide (k = 0)) l[k] := by
  have hs : l.take (k + 1) = l.take k ++ [l[k]] := by simp
  rw [hs, escR_snoc]
  congr 1
  congr 1
  cases k with
  | zero => simp
  | succ k =>
    cases l with
    | nil => simp at h
    | cons d l => simp
set_option maxHeartbeats 4000000 in
set_option maxRecDepth 100000 in
theorem escaped_any (s : ByteArray) (w : World) (hs : s.size ≤ 1000000) :
    Calls Tryz.prog 44 #[.string s] w fun e w' => e = .returned (.string ⟨(escV s.data.toList).toArray⟩) ∧ Below w.heap.size w w' := by
  have hl : s.data.toList.length = s.size := by simp
  have HIB : PLift (Lib.IsBuilder 54 5 w.heap.size w.heap.size (Lib.byteCells []) (w.alloc (.cells #[.pointer none, .slice none 0 0] 54))) := ⟨Lib.fresh_isBuilder _ _ w⟩
  have HB0 := PLift.up (below_new w (.cells #[.pointer none, .slice none 0 0] 54))
  go_enter Tryz.func44, Tryz.ntmps44
  go_wp2
  go_loopw [8] (fun iv wr => ∃ k : Nat, iv = .int .i64 k ∧ k ≤ s.size ∧ Lib.IsBuilder 54 5 w.heap.size w.heap.size (Lib.byteCells (escR true (s.data.toList.take k))) wr ∧ Below w.heap.size w wr) (fun iv _ => s.size - (intOf iv).toNat)
  case atStart => exact ⟨0, rfl, Nat.zero_le _, HIB.down, HB0.down⟩
  case round =>
    obtain ⟨k, rfl, hk, hib, hbw⟩ := hrel
    have HBW := PLift.up hbw
    have hel : (escR true (s.data.toList.take k)).length ≤ 2000000 := by
      have h1 := escR_len (s.data.toList.take k) true
      rw [List.length_take] at h1
      omega
    by_cases hp : k < s.size
    · have hp2 : (k : Int) < (s.size : Int) := by omega
      have htk := escR_take (l := s.data.toList) (k := k) (by omega)
      have hsk : (s.data.toList)[k]'(by omega) = s[k] := rfl
      rw [hsk] at htk
      have HTK := PLift.up htk
      have HWS := PLift.up (fun (t : ByteArray) (ht : t.size ≤ 2) => bwrite_any w.heap.size w.heap.size (escR true (s.data.toList.take k)) t wr hib (by omega) hbw.size)
      have HWB := PLift.up (bbyte_any w.heap.size w.heap.size (escR true (s.data.toList.take k)) s[k] wr hib (by omega) hbw.size)
      have hcx : ∀ n : Nat, n < 256 → s[k].toNat = n → s[k] = UInt8.ofNat n := fun n hn e => by rw [← e]; simp
      obtain ⟨x, hx⟩ : ∃ x, s[k].toNat = x := ⟨_, rfl⟩
      have HCX := PLift.up hcx
      clear hib hbw htk hsk hcx hel hl
      rw [hx] at HWB HCX
      by_cases h92 : x = 92
      · subst h92
        have HE := PLift.up (show escB (decide (k = 0)) s[k] = [92, 92] by rw [HCX.down 92 (by decide) rfl]; rfl)
        go_wp2_with (go_at_call 17; refine (HWS.down _ (by decide)).mono ?_; rintro e w1 ⟨rfl, h1, hb1⟩; have H1 := PLift.up (And.intro h1 hb1); clear h1 hb1)
        go_roundw
        case rel => exact ⟨k + 1, by go_num, by omega, by rw [HTK.down, HE.down]; exact H1.down.1, HBW.down.trans H1.down.2⟩
        case measure => simp [intOf]; omega
      · by_cases h9 : x = 9
        · subst h9
          have HE := PLift.up (show escB (decide (k = 0)) s[k] = [92, 116] by rw [HCX.down 9 (by decide) rfl]; rfl)
          go_wp2_with (go_at_call 17; refine (HWS.down _ (by decide)).mono ?_; rintro e w1 ⟨rfl, h1, hb1⟩; have H1 := PLift.up (And.intro h1 hb1); clear h1 hb1)
          go_roundw
          case rel => exact ⟨k + 1, by go_num, by omega, by rw [HTK.down, HE.down]; exact H1.down.1, HBW.down.trans H1.down.2⟩
          case measure => simp [intOf]; omega
        · by_cases h10 : x = 10
          · subst h10
            have HE := PLift.up (show escB (decide (k = 0)) s[k] = [92, 110] by rw [HCX.down 10 (by decide) rfl]; rfl)
            go_wp2_with (go_at_call 17; refine (HWS.down _ (by decide)).mono ?_; rintro e w1 ⟨rfl, h1, hb1⟩; have H1 := PLift.up (And.intro h1 hb1); clear h1 hb1)
            go_roundw
            case rel => exact ⟨k + 1, by go_num, by omega, by rw [HTK.down, HE.down]; exact H1.down.1, HBW.down.trans H1.down.2⟩
            case measure => simp [intOf]; omega
          · by_cases h13 : x = 13
            · subst h13
              have HE := PLift.up (show escB (decide (k = 0)) s[k] = [92, 114] by rw [HCX.down 13 (by decide) rfl]; rfl)
              go_wp2_with (go_at_call 17; refine (HWS.down _ (by decide)).mono ?_; rintro e w1 ⟨rfl, h1, hb1⟩; have H1 := PLift.up (And.intro h1 hb1); clear h1 hb1)
              go_roundw
              case rel => exact ⟨k + 1, by go_num, by omega, by rw [HTK.down, HE.down]; exact H1.down.1, HBW.down.trans H1.down.2⟩
              case measure => simp [intOf]; omega
            · by_cases h35 : x = 35
              · subst h35
                by_cases hk0 : k = 0
                · have HE := PLift.up (show escB (decide (k = 0)) s[k] = [92, 104] by rw [HCX.down 35 (by decide) rfl, hk0]; rfl)
                  subst hk0
                  go_wp2_with (go_at_call 17; refine (HWS.down _ (by decide)).mono ?_; rintro e w1 ⟨rfl, h1, hb1⟩; have H1 := PLift.up (And.intro h1 hb1); clear h1 hb1)
                  go_roundw
                  case rel => exact ⟨1, by go_num, by omega, by rw [HTK.down, HE.down]; exact H1.down.1, HBW.down.trans H1.down.2⟩
                  case measure => simp [intOf]; omega
                · have hk0i : ¬ (k : Int) = 0 := by omega
                  have HE := PLift.up (show escB (decide (k = 0)) s[k] = [s[k]] by rw [HCX.down 35 (by decide) rfl]; simp [escB, hk0])
                  go_wp2_with (go_at_call 79; refine HWB.down.mono ?_; rintro e w1 ⟨rfl, h1, hb1⟩; have H1 := PLift.up (And.intro h1 hb1); clear h1 hb1)
                  go_roundw
                  case rel => exact ⟨k + 1, by go_num, by omega, by rw [HTK.down, HE.down]; exact H1.down.1, HBW.down.trans H1.down.2⟩
                  case measure => simp [intOf]; omega
              · have HE : PLift (escB (decide (k = 0)) s[k] = [s[k]]) := ⟨by
                  have n92 : s[k] ≠ 92 := fun e => h92 (by rw [← hx, e]; rfl)
                  have n9 : s[k] ≠ 9 := fun e => h9 (by rw [← hx, e]; rfl)
                  have n10 : s[k] ≠ 10 := fun e => h10 (by rw [← hx, e]; rfl)
                  have n13 : s[k] ≠ 13 := fun e => h13 (by rw [← hx, e]; rfl)
                  have n35 : s[k] ≠ 35 := fun e => h35 (by rw [← hx, e]; rfl)
                  simp [escB, n92, n9, n10, n13, n35]⟩
                have i92 : ¬ (x : Int) = 92 := by omega
                have i9 : ¬ (x : Int) = 9 := by omega
                have i10 : ¬ (x : Int) = 10 := by omega
                have i13 : ¬ (x : Int) = 13 := by omega
                have i35 : ¬ (x : Int) = 35 := by omega
                go_wp2_with (go_at_call 79; refine HWB.down.mono ?_; rintro e w1 ⟨rfl, h1, hb1⟩; have H1 := PLift.up (And.intro h1 hb1); clear h1 hb1)
                go_roundw
                case rel => exact ⟨k + 1, by go_num, by omega, by rw [HTK.down, HE.down]; exact H1.down.1, HBW.down.trans H1.down.2⟩
                case measure => simp [intOf]; omega
    · obtain rfl : k = s.size := by omega
      have hall : s.data.toList.take s.size = s.data.toList := by rw [← hl, List.take_length]
      rw [hall] at hib
      have hempty := str_eq_empty s
      by_cases h0 : s.size = 0
      · have e0 : s = ⟨#[]⟩ := by
          obtain ⟨a⟩ := s
          have : a.size = 0 := h0
          rw [Array.eq_empty_of_size_eq_zero this]
        have hv : escV s.data.toList = [92, 101] := by rw [e0]; rfl
        have HV := PLift.up hv
        have he : s.toList.isEmpty = true := by rw [hempty]; simp [h0]
        clear hib hbw hall hempty hl hv
        go_wp2
        go_ret
        exact ⟨ret_str (congrArg (fun l : List UInt8 => (⟨l.toArray⟩ : ByteArray)) HV.down.symm), HBW.down⟩
      · have hv : escV s.data.toList = escR true s.data.toList := by
          unfold escV
          rw [if_neg (fun e => by rw [e] at hl; exact h0 (by simpa using hl.symm))]
        have HV := PLift.up hv
        have he : s.toList.isEmpty = false := by rw [hempty]; simp [h0]
        have HST := PLift.up (Tryz.Builder_String_any w.heap.size w.heap.size (escR true s.data.toList) wr hib hbw.size)
        clear hib hbw hall hempty hl hv
        go_wp2_with (go_at_call 23; refine HST.down.mono ?_; rintro e w1 ⟨rfl, hb1⟩; have HB1 := PLift.up hb1; clear hb1)
        go_ret
        exact ⟨ret_str (congrArg (fun l : List UInt8 => (⟨l.toArray⟩ : ByteArray)) HV.down.symm), HBW.down.trans HB1.down⟩
end Go.Proofs.YtcipjifpigpfdaaGreatDoor
/- tableout.name and tableout.cell of a text: what they write. -/
namespace Go.Proofs.YtcipjifpigpfdaaGreatDoor
open Go.RowKit
open Go.Lib hiding intOf
theorem flat_none : ∀ (l : List UInt8), (∀ b ∈ l, b ≠ 58) → l.flatMap colB = l
  | [], _ => rfl
  | c :: l, h => by
    have h1 : colB c = [c] := by unfold colB; rw [if_neg (h c (List.mem_cons_self ..))]
    rw [List.flatMap_cons, h1, flat_none l (fun b hb => h b (List.mem_cons_of_mem _ hb))]
    rfl
theorem flat_count (l : List UInt8) (h : Lib.countByte l 58 = 0) : l.flatMap colB = l := by
  apply flat_none
  intro b hb e
  subst e
  have := List.count_pos_iff.2 hb
  unfold Lib.countByte at h
  omega
/-- up to the next colon -/
theorem next_colon : ∀ (d : List UInt8), 0 < Lib.countByte d 58 → ∃ o : Nat, Lib.indexByte d 58 = o ∧ o < d.length ∧ (d.take (o + 1)).flatMap colB = d.take o ++ [92, 58] ∧ Lib.countByte (d.drop (o + 1)) 58 + 1 = Lib.countByte d 58
  | [], h => by simp [Lib.countByte] at h
  | c :: d, h => by
    by_cases hc : c = 58
    · subst hc
      exact ⟨0, by simp [Lib.indexByte], by simp, by simp [colB], by simp [Lib.countByte]⟩
    · have h1 : Lib.countByte (c :: d) 58 = Lib.countByte d 58 := by unfold Lib.countByte; rw [List.count_cons_of_ne (by simpa using hc)]
      rw [h1] at h ⊢
      obtain ⟨o, i1, i2, i3, i4⟩ := next_colon d h
      have hcb : colB c = [c] := by unfold colB; rw [if_neg hc]
      refine ⟨o + 1, ?_, by simpa using i2, ?_, by simpa using i4⟩
      · unfold Lib.indexByte
        rw [if_neg (by simpa using hc), i1, if_neg (by simp)]
        simp
      · rw [List.take_succ_cons, List.flatMap_cons, i3, hcb]
        rfl
theorem flat_step {l : List UInt8} {k o : Nat} (h : ((l.drop k).take (o + 1)).flatMap colB = (l.drop k).take o ++ [92, 58]) : (l.take (k + o + 1)).flatMap colB = (l.take k).flatMap colB ++ (l.drop k).take o ++ [92, 58] := by
  rw [show k + o + 1 = k + (o + 1) from rfl, List.take_add, List.flatMap_append, h, List.append_assoc]
set_option maxHeartbeats 4000000 in
set_option maxRecDepth 100000 in
theorem index_colon (s : ByteArray) (w : World) : Calls Tryz.prog 92 #[.string s, .string ⟨#[58]⟩] w fun e w' => e = .returned (.int .i64 (Lib.indexByte s.data.toList 58)) ∧ w' = w := by
  go_enter Tryz.func92, Tryz.ntmps92
  go_wp2_with (go_at_call 138; refine (Tryz.stringslite_Index_one s 58 w).mono ?_; rintro e w1 ⟨rfl, rfl⟩)
  go_ret
  exact ⟨rfl, rfl⟩
set_option maxHeartbeats 8000000 in
set_option maxRecDepth 100000 in
theorem replace_colon (s : ByteArray) (w : World) (hs : s.size ≤ 1000000) :
    Calls Tryz.prog 78 #[.string s, .string ⟨#[58]⟩, .string ⟨#[92, 58]⟩, .int .i64 (-1)] w fun e w' => e = .returned (.string ⟨(s.data.toList.flatMap colB).toArray⟩) ∧ Below w.heap.size w w' := by
  have hl : s.data.toList.length = s.size := by simp
  obtain ⟨m, hm⟩ : ∃ m, Lib.countByte s.data.toList 58 = m := ⟨_, rfl⟩
  have hml : m ≤ s.size := by rw [← hm, ← hl]; exact List.count_le_length
  have HCO : PLift (∀ W, Calls Tryz.prog 52 #[.string s, .string ⟨#[58]⟩] W fun e w' => e = .returned (.int .i64 m) ∧ w' = W) := ⟨fun W => by
    have h := Tryz.strings_Count_one s 58 W
    rw [hm] at h
    exact h⟩
  by_cases h0 : m = 0
  · subst h0
    rw [flat_count _ hm]
    have hid : (⟨s.data.toList.toArray⟩ : ByteArray) = s := by simp
    rw [hid]
    clear hm hml hid
    go_enter Tryz.func78, Tryz.ntmps78
    go_wp2_with (go_at_call 52; refine (HCO.down _).mono ?_; rintro e w1 ⟨rfl, rfl⟩)
    go_ret
    exact ⟨rfl, Below.refl _ _⟩
  · have hmi : ¬ (m : Int) = 0 := by omega
    have HM := PLift.up (And.intro hm (And.intro hml hl))
    have HG := PLift.up (heap_alloc_new w (.cells #[.pointer none, .slice none 0 0] 54))
    have HB0 := PLift.up (below_new w (.cells #[.pointer none, .slice none 0 0] 54))
    clear hm hl
    have HLEN : PLift (∀ k, ((s.data.toList.take k).flatMap colB).length + s.size ≤ 100000000) := ⟨fun k => by
      have h1 := colR_len (s.data.toList.take k)
      rw [List.length_take] at h1
      have h2 := HM.down.2.2
      omega⟩
    have hnm : ((s.size : Int) + (m : Int)) = ((s.size + m : Nat) : Int) := by omega
    have HGR := PLift.up (Tryz.Builder_Grow_fresh w.heap.size w.heap.size (s.size + m) (w.alloc (.cells #[.pointer none, .slice none 0 0] 54)) (Nat.le_refl _) HG.down (by rw [size_new]; omega) (by omega))
    rw [← hnm] at HGR
    clear hnm
    go_enter Tryz.func78, Tryz.ntmps78
    go_upto_region 10 with (first
      | (go_at_call 52; refine (HCO.down _).mono ?_; rintro e w1 ⟨rfl, rfl⟩)
      | (go_at_call 42; refine HGR.down.mono ?_; rintro e w2 ⟨rfl, hib, hb2⟩; have HIB := PLift.up (Or.inr hib : Lib.IsBuilder 54 5 w1.heap.size w1.heap.size [] w2); have HB2 := PLift.up (HB0.down.trans (hb2.mono (Nat.le_refl _))); clear hib hb2))
    go_wp2
    go_loopw [11, 53] (fun sv iv wr => ∃ (i k : Nat), iv = .int .i64 i ∧ sv = .int .i64 k ∧ i ≤ m ∧ k ≤ s.size ∧ Lib.countByte (s.data.toList.drop k) 58 + i = m ∧ Lib.IsBuilder 54 5 w1.heap.size w1.heap.size (Lib.byteCells ((s.data.toList.take k).flatMap colB)) wr ∧ Below w1.heap.size w1 wr) (fun _ iv _ => m - (intOf iv).toNat)
    case atStart => exact ⟨0, 0, rfl, rfl, Nat.zero_le _, Nat.zero_le _, by rw [List.drop_zero]; have := HM.down.1; omega, HIB.down, HB2.down⟩
    case round =>
      obtain ⟨i, k, rfl, rfl, hi, hk, hcn, hib, hbw⟩ := hrel
      have HBW := PLift.up hbw
      by_cases him : i < m
      · have him2 : (i : Int) < (m : Int) := by omega
        obtain ⟨o, ho1, ho2, ho3, ho4⟩ := next_colon (s.data.toList.drop k) (by omega)
        rw [List.length_drop] at ho2
        have hls := HM.down.2.2
        obtain ⟨jj, hjj⟩ : ∃ jj : Nat, k + o = jj := ⟨_, rfl⟩
        have hfs := flat_step ho3
        have HX : PLift ((s.extract k s.size).data.toList = s.data.toList.drop k) := ⟨by simp only [ByteArray.data_extract, Array.toList_extract, List.extract_eq_take_drop]; exact List.take_of_length_le (by rw [List.length_drop]; omega)⟩
        have HIX := PLift.up (fun W => index_colon (s.extract k s.size) W)
        rw [HX.down, ho1] at HIX
        obtain ⟨q1, hq1e⟩ : ∃ q1, s.extract k s.size = q1 := ⟨_, rfl⟩
        rw [hq1e] at HIX
        clear HX
        have HW1 := PLift.up (bwrite_any w1.heap.size w1.heap.size ((s.data.toList.take k).flatMap colB) (s.extract k jj) wr hib (by have h1 := HLEN.down k; simp only [ByteArray.size_extract]; omega) hbw.size)
        have hxe : (s.extract k jj).data.toList = (s.data.toList.drop k).take o := by rw [← hjj]; simp [ByteArray.data_extract, List.extract_eq_take_drop]
        rw [hxe] at HW1
        obtain ⟨q2, hq2e⟩ : ∃ q2, s.extract k jj = q2 := ⟨_, rfl⟩
        rw [hq2e] at HW1
        have HST := PLift.up (And.intro hfs (And.intro ho4 hcn))
        have hko : IntKind.i64.wrap ((k : Int) + (o : Int)) = (jj : Int) := by rw [IntKind.wrap_i64]; omega
        have hkj : (k : Int) ≤ (jj : Int) := by omega
        have hjs : (jj : Int) < (s.size : Int) := by omega
        have hks : (k : Int) ≤ (s.size : Int) := by omega
        rw [hjj] at HST
        have HJJ := PLift.up (And.intro hjj ho2)
        have HLN : PLift (((s.data.toList.take k).flatMap colB ++ (s.data.toList.drop k).take o).length + 2 ≤ 140737488355328) := ⟨by have h1 := HLEN.down k; rw [List.length_append, List.length_take, List.length_drop]; omega⟩
        clear hib hbw ho1 ho3 ho4 hfs hxe hcn hls hjj ho2
        go_wp2_with (first
          | (go_at_call 92; refine (HIX.down _).mono ?_; rintro e W3 ⟨rfl, rfl⟩)
          | (go_at_call 17; refine HW2.down.mono ?_; rintro e W5 ⟨rfl, hq1, hq2⟩; have HQ2 := PLift.up (And.intro hq1 (HQ.down.2.trans hq2)); clear hq1 hq2)
          | (go_at_call 17; refine HW1.down.mono ?_; rintro e W4 ⟨rfl, hq1, hq2⟩; have HQ := PLift.up (And.intro hq1 (HBW.down.trans hq2)); have HW2 := PLift.up (bwrite_any w1.heap.size w1.heap.size ((s.data.toList.take k).flatMap colB ++ (s.data.toList.drop k).take o) ⟨#[92, 58]⟩ W4 hq1 HLN.down (HBW.down.trans hq2).size); clear hq1 hq2))
        go_roundw
        case rel => exact ⟨i + 1, jj + 1, by go_num, by go_num, by omega, by omega, by rw [← HST.down.2.2, ← HST.down.2.1, List.drop_drop, ← HJJ.down.1, show k + o + 1 = k + (o + 1) from rfl]; omega, by rw [HST.down.1]; exact HQ2.down.1, HQ2.down.2⟩
        case measure => simp [intOf]; omega
      · obtain rfl : m = i := by omega
        have hcz : Lib.countByte (s.data.toList.drop k) 58 = 0 := by omega
        have him2 : ¬ ((m : Int) < (m : Int)) := by omega
        have hxe : (s.extract k s.size).data.toList = s.data.toList.drop k := by simp only [ByteArray.data_extract, Array.toList_extract, List.extract_eq_take_drop]; exact List.take_of_length_le (by rw [List.length_drop]; have := HM.down.2.2; omega)
        have HW1 := PLift.up (bwrite_any w1.heap.size w1.heap.size ((s.data.toList.take k).flatMap colB) (s.extract k s.size) wr hib (by have h1 := HLEN.down k; simp only [ByteArray.size_extract]; omega) hbw.size)
        rw [hxe] at HW1
        have hall : (s.data.toList.take k).flatMap colB ++ s.data.toList.drop k = s.data.toList.flatMap colB := by
          conv => rhs; rw [← List.take_append_drop k s.data.toList, List.flatMap_append, flat_count _ hcz]
        rw [hall] at HW1
        have HAL : PLift ((s.data.toList.flatMap colB).length ≤ 10000000) := ⟨by have h1 := colR_len s.data.toList; have h2 := HM.down.2.2; omega⟩
        have hks : (k : Int) ≤ (s.size : Int) := by omega
        clear hib hbw hcz hxe hall hcn
        go_wp2_with (first
          | (go_at_call 17; refine HW1.down.mono ?_; rintro e W4 ⟨rfl, hq1, hq2⟩; have HQ := PLift.up (HBW.down.trans hq2); have HST := PLift.up (Tryz.Builder_String_any w1.heap.size w1.heap.size (s.data.toList.flatMap colB) W4 hq1 (HBW.down.trans hq2).size); clear hq1 hq2)
          | (go_at_call 23; refine HST.down.mono ?_; rintro e W5 ⟨rfl, hb1⟩; have HB1 := PLift.up hb1; clear hb1))
        go_ret
        exact ⟨rfl, HQ.down.trans HB1.down⟩
def nmB (s : ByteArray) : ByteArray := ⟨(nameV s.data.toList).toArray⟩
def czB (s : ByteArray) : ByteArray := ⟨(cellV s.data.toList).toArray⟩
theorem nmB_size (s : ByteArray) (h : s.size ≤ 100) : (nmB s).size ≤ 1000 := by
  have h1 := nameV_len s.data.toList
  have h2 : s.data.toList.length = s.size := by simp
  unfold nmB
  simp only [ByteArray.size, List.size_toArray]
  omega
theorem czB_size (s : ByteArray) (h : s.size ≤ 100) : (czB s).size ≤ 1000 := by
  have h1 := cellV_len s.data.toList
  have h2 : s.data.toList.length = s.size := by simp
  unfold czB
  simp only [ByteArray.size, List.size_toArray]
  omega
set_option maxHeartbeats 4000000 in
set_option maxRecDepth 100000 in
theorem name_any (s : ByteArray) (w : World) (hs : s.size ≤ 1000) :
    Calls Tryz.prog 19 #[.string s] w fun e w' => e = .returned (.string (nmB s)) ∧ Below w.heap.size w w' := by
  have HE := PLift.up (escaped_any s w (by omega))
  have hsz : (⟨(escV s.data.toList).toArray⟩ : ByteArray).size ≤ 1000000 := by
    have h1 := escV_len s.data.toList
    have h2 : s.data.toList.length = s.size := by simp
    simp only [ByteArray.size, List.size_toArray]
    omega
  have HR := PLift.up (fun W => replace_colon ⟨(escV s.data.toList).toArray⟩ W hsz)
  have hnb : nmB s = ⟨((⟨(escV s.data.toList).toArray⟩ : ByteArray).data.toList.flatMap colB).toArray⟩ := rfl
  rw [hnb]
  generalize (⟨(escV s.data.toList).toArray⟩ : ByteArray) = q at HE HR
  clear hsz hnb
  have HRA : PLift (∀ W, Calls Tryz.prog 43 #[.string q, .string ⟨#[58]⟩, .string ⟨#[92, 58]⟩] W fun e w' => e = .returned (.string ⟨(q.data.toList.flatMap colB).toArray⟩) ∧ Below W.heap.size W w') := ⟨fun W => by
    as_aux_lemma =>
    go_enter Tryz.func43, Tryz.ntmps43
    go_wp2_with (go_at_call 78; refine (HR.down _).mono ?_; rintro e w1 ⟨rfl, hb1⟩; have HB1 := PLift.up hb1; clear hb1)
    go_ret
    exact ⟨rfl, HB1.down⟩⟩
  go_enter Tryz.func19, Tryz.ntmps19
  go_wp2_with (first
    | (go_at_call 44; refine HE.down.mono ?_; rintro e w1 ⟨rfl, hb1⟩; have HB1 := PLift.up hb1; clear hb1)
    | (go_at_call 43; refine (HRA.down _).mono ?_; rintro e w2 ⟨rfl, hb2⟩; have HB2 := PLift.up hb2; clear hb2))
  go_ret
  exact ⟨rfl, HB1.down.trans (HB2.down.mono HB1.down.size)⟩
set_option maxHeartbeats 4000000 in
set_option maxRecDepth 100000 in
theorem cell_text (s : ByteArray) (w : World) (od : Bool) (ka : Option Addr) (kn kc : Nat) (ia : Option Addr) (im ic : Nat) (hs : s.size ≤ 1000) :
    Calls Tryz.prog 21 #[.agg #[.int .i64 5, .string s, .bool od, .slice ka kn kc, .slice ia im ic]] w fun e w' => e = .returned (.string (czB s)) ∧ Below w.heap.size w w' := by
  have HX := PLift.up (fun (W : World) => escaped_any s W (by omega))
  by_cases h0 : s = ⟨#[126]⟩
  · subst h0
    have hc : czB ⟨#[126]⟩ = ⟨#[92, 126]⟩ := rfl
    rw [hc]
    clear hc HX
    go_enter Tryz.func21, Tryz.ntmps21
    go_wp2
    go_ret
    exact ⟨rfl, below_new w _⟩
  · have hc : czB s = ⟨(escV s.data.toList).toArray⟩ := by
      unfold czB cellV
      rw [if_neg]
      intro e
      exact h0 (ext_list e)
    rw [hc]
    have he : (s.toList == [126]) = false := by rw [beq_eq_false_iff_ne]; intro e; exact h0 (by rw [Lib.toList_data] at e; exact ext_list e)
    clear hc
    go_enter Tryz.func21, Tryz.ntmps21
    go_wp2_with (go_at_call 44; refine (HX.down _).mono ?_; rintro e w1 ⟨rfl, hb1⟩; have HB1 := PLift.up hb1; clear hb1)
    go_ret
    exact ⟨rfl, (below_new w _).trans (HB1.down.mono (below_new w _).size)⟩
end Go.Proofs.YtcipjifpigpfdaaGreatDoor
/- The table of one row: its graph, facts of it by the kernel, its place in memory. -/
namespace Go.Proofs.YtcipjifpigpfdaaGreatDoor
open Go.RowKit
open Go.Lib hiding intOf
/-- the graph -/
def oneG (ky z : ByteArray) : List Nd := [⟨9, ⟨#[]⟩, false, [], [1]⟩, ⟨10, ⟨#[]⟩, false, [2], [3]⟩, ⟨5, ky, false, [], []⟩, ⟨5, z, false, [], []⟩]
def innO : List Int := [3, 2, 0, 1]
def szO : List Int := [1, 1, 1, 1]
structure ShapeO (ky z : ByteArray) : Prop where
  all : visitF (oneG ky z) 5 0 (List.replicate 4 false) = List.replicate 4 true
  once : cntF (oneG ky z) 0 = List.replicate 4 1
  comp : compT (oneG ky z) 0 = some (innO, szO)
  deep : depthF (oneG ky z) 0 innO szO = (2, true)
  share : (cntSF (oneG ky z) 0).all (fun x => decide (x ≤ 1)) = true
set_option maxRecDepth 100000 in
theorem shapeO (ky z : ByteArray) : ShapeO ky z := ⟨by kernel_rfl, by kernel_rfl, by kernel_rfl, by kernel_rfl, by kernel_rfl⟩
def scO (k : Int) (t : ByteArray) : Bool := k == 5 && chk t.data.toList
set_option maxHeartbeats 1000000 in
set_option maxRecDepth 100000 in
theorem scalar_map (s : ByteArray) (w : World) :
    Calls Tryz.prog 118 #[.int .i64 10, .string s] w fun e w' => e = .returned (.bool false) ∧ Below w.heap.size w w' := by
  go_enter Tryz.func118, Tryz.ntmps118
  go_wp2
  go_ret
  exact ⟨rfl, Below.refl _ _⟩
theorem scalar_five (s : ByteArray) : ScalarAt scO 5 s := fun w hT => by
  have h := scalar_any s w hT
  rw [cp_bad_iff] at h
  exact h
theorem oneG_mem {ky z : ByteArray} {m : Nd} (h : m ∈ oneG ky z) : m = ⟨9, ⟨#[]⟩, false, [], [1]⟩ ∨ m = ⟨10, ⟨#[]⟩, false, [2], [3]⟩ ∨ m = ⟨5, ky, false, [], []⟩ ∨ m = ⟨5, z, false, [], []⟩ := by
  simpa only [oneG, List.mem_cons, List.not_mem_nil, or_false] using h
theorem oneG_range (ky z : ByteArray) : InRange (oneG ky z) := by
  intro m hm
  rcases oneG_mem hm with rfl | rfl | rfl | rfl
  · exact ⟨fun x hx => (List.not_mem_nil hx).elim, by show ∀ x ∈ [(1 : Int)], 0 ≤ x ∧ x < 4; decide⟩
  · exact ⟨by show ∀ x ∈ [(2 : Int)], 0 ≤ x ∧ x < 4; decide, by show ∀ x ∈ [(3 : Int)], 0 ≤ x ∧ x < 4; decide⟩
  · exact ⟨fun x hx => (List.not_mem_nil hx).elim, fun x hx => (List.not_mem_nil hx).elim⟩
  · exact ⟨fun x hx => (List.not_mem_nil hx).elim, fun x hx => (List.not_mem_nil hx).elim⟩
theorem oneG_scal (ky z : ByteArray) : ∀ m ∈ oneG ky z, ScalarAt scO m.kind m.text := by
  intro m hm
  rcases oneG_mem hm with rfl | rfl | rfl | rfl
  · exact fun w _ => scalar_list _ w
  · exact fun w _ => scalar_map _ w
  · exact scalar_five ky
  · exact scalar_five z
theorem oneG_fit {ky z : ByteArray} (h1 : ky.size ≤ maxLen) (h2 : z.size ≤ maxLen) : NdFit (oneG ky z) := by
  intro m hm
  rcases oneG_mem hm with rfl | rfl | rfl | rfl
  · exact ⟨rfl, Nat.zero_le _⟩
  · exact ⟨rfl, Nat.zero_le _⟩
  · exact ⟨rfl, h1⟩
  · exact ⟨rfl, h2⟩
theorem oneG_all (ky z : ByteArray) (i : Nat) (hi : i < (oneG ky z).length) : (visitF (oneG ky z) ((oneG ky z).length + 1) 0 (List.replicate (oneG ky z).length false)).getD i false = true := by
  have h := (shapeO ky z).all
  have hi4 : i < 4 := hi
  show (visitF (oneG ky z) 5 0 (List.replicate 4 false)).getD i false = true
  rw [h, List.getD_eq_getElem?_getD, List.getElem?_replicate, if_pos hi4]; rfl
theorem oneG_good {ky z : ByteArray} (h1 : ky.size ≤ maxLen) (h2 : z.size ≤ maxLen) (c1 : chk ky.data.toList = true) (c2 : chk z.data.toList = true) : Good scO (oneG ky z) 0 innO szO := by
  have hS := shapeO ky z
  refine ⟨by show (4 : Nat) ≤ 4096; decide, by show (0 : Nat) < 4; decide, oneG_range ky z, oneG_all ky z, oneG_scal ky z, ?_, oneG_fit h1 h2, ?_, ?_, hS.comp, by decide, by decide, by rw [hS.deep]; decide⟩
  · intro m hm
    rcases oneG_mem hm with rfl | rfl | rfl | rfl
    · rfl
    · rfl
    · simp [formF, scO, c1]
    · simp [formF, scO, c2]
  · intro i hi _
    have hi4 : i < 4 := hi
    have ho : cntF (oneG ky z) ((0 : Nat) : Int) = List.replicate 4 1 := hS.once
    rw [ho, List.getD_eq_getElem?_getD, List.getElem?_replicate, if_pos hi4]; rfl
  · intro m hm
    rcases oneG_mem hm with rfl | rfl | rfl | rfl
    · exact List.nodup_nil
    · exact List.nodup_cons.2 ⟨by simp, List.nodup_nil⟩
    · exact List.nodup_nil
    · exact List.nodup_nil
theorem oneG_bad {ky z : ByteArray} (h1 : ky.size ≤ maxLen) (h2 : z.size ≤ maxLen) (c : ¬ (chk ky.data.toList = true ∧ chk z.data.toList = true)) : Bad scO (oneG ky z) 0 := by
  refine ⟨by show (4 : Nat) ≤ 4096; decide, by show (0 : Nat) < 4; decide, oneG_range ky z, oneG_all ky z, oneG_scal ky z, oneG_fit h1 h2, ?_⟩
  by_cases c1 : chk ky.data.toList = true
  · have c2 : chk z.data.toList = false := by
      cases h : chk z.data.toList
      · rfl
      · exact absurd ⟨c1, h⟩ c
    exact ⟨⟨5, z, false, [], []⟩, by simp [oneG], by simp [formF, scO, c2]⟩
  · exact ⟨⟨5, ky, false, [], []⟩, by simp [oneG], by simp [formF, scO, c1]⟩
def rankO (a : Nat) : Nat := if a = 0 then 2 else if a = 1 then 1 else 0
theorem oneG_ranked (ky z : ByteArray) : Ranked (oneG ky z) rankO := by
  have hl : (oneG ky z).length = 4 := rfl
  refine ⟨by omega, ?_, ?_⟩
  · intro a m h
    match a, h with
    | 0, h =>
      obtain rfl := (Option.some.inj h).symm
      refine ⟨by show (1 : Nat) ≤ _; omega, fun x hx => ?_⟩
      simp only [List.mem_cons, List.not_mem_nil, or_false] at hx
      subst hx
      exact ⟨1, rfl, by rw [hl]; omega, by decide⟩
    | 1, h =>
      obtain rfl := (Option.some.inj h).symm
      refine ⟨by show (1 : Nat) ≤ _; omega, fun x hx => ?_⟩
      simp only [List.mem_cons, List.not_mem_nil, or_false] at hx
      subst hx
      exact ⟨3, rfl, by rw [hl]; omega, by decide⟩
    | 2, h =>
      obtain rfl := (Option.some.inj h).symm
      exact ⟨by show (0 : Nat) ≤ _; omega, fun x hx => by simp at hx⟩
    | 3, h =>
      obtain rfl := (Option.some.inj h).symm
      exact ⟨by show (0 : Nat) ≤ _; omega, fun x hx => by simp at hx⟩
    | a + 4, h => simp [oneG] at h
  · intro a m h
    match a, h with
    | 0, h => obtain rfl := (Option.some.inj h).symm; exact .inl (show (9 : Int) ≠ 10 by decide)
    | 1, h => obtain rfl := (Option.some.inj h).symm; exact .inr ⟨rfl, rfl, by show (1 : Nat) < 2; omega, 2, _, rfl, rfl, rfl, rfl⟩
    | 2, h => obtain rfl := (Option.some.inj h).symm; exact .inl (show (5 : Int) ≠ 10 by decide)
    | 3, h => obtain rfl := (Option.some.inj h).symm; exact .inl (show (5 : Int) ≠ 10 by decide)
    | a + 4, h => simp [oneG] at h
theorem oneG_tree {ky z : ByteArray} (h1 : ky.size ≤ maxLen) (h2 : z.size ≤ maxLen) (c1 : chk ky.data.toList = true) (c2 : chk z.data.toList = true) : TreeN scO (oneG ky z) 0 innO szO rankO := by
  have hS := shapeO ky z
  refine ⟨oneG_good h1 h2 c1 c2, by rw [hS.deep], oneG_ranked ky z, fun i hi => ?_⟩
  have h1 := hS.share
  rw [List.all_eq_true] at h1
  rw [List.getD_eq_getElem?_getD]
  show (((cntSF (oneG ky z) 0)[i]?).getD 0) ≤ 1
  cases hg : (cntSF (oneG ky z) 0)[i]? with
  | none => decide
  | some x => simpa using h1 x (List.mem_of_getElem? hg)
/-- a row of the family: the node's cells, its entry -/
def RowF (w : World) (v : Value) (b o k : Nat) (ky z : ByteArray) : Prop :=
  ∃ (rt : ByteArray) (lb lo kc ib io ic : Nat) (a1 : Option Addr) (n1 c1 : Nat) (a2 : Option Addr) (n2 c2 : Nat), w.cell? ⟨b, o + k * 5, none⟩ = some (.int .i64 10) ∧ w.cell? ⟨b, o + k * 5 + 1, none⟩ = some (.string rt) ∧ w.cell? ⟨b, o + k * 5 + 2, none⟩ = some (.bool false) ∧
    w.cell? ⟨b, o + k * 5 + 3, none⟩ = some (.slice (some ⟨lb, lo, none⟩) 1 kc) ∧ w.cell? ⟨b, o + k * 5 + 4, none⟩ = some (.slice (some ⟨ib, io, none⟩) 1 ic) ∧
    RowC w (.agg #[v, .int .i64 0]) (.agg #[.int .i64 10, .string rt, .bool false, .slice (some ⟨lb, lo, none⟩) 1 kc, .slice (some ⟨ib, io, none⟩) 1 ic]) ky 5 z false (.slice a1 n1 c1) (.slice a2 n2 c2)
theorem RowF.below {w w' : World} {v : Value} {b o k : Nat} {ky z : ByteArray} (h : RowF w v b o k ky z) (hb : Below w.heap.size w w') : RowF w' v b o k ky z := by
  obtain ⟨rt, lb, lo, kc, ib, io, ic, a1, n1, c1, a2, n2, c2, h0, h1, h2, h3, h4, h5⟩ := h
  exact ⟨rt, lb, lo, kc, ib, io, ic, a1, n1, c1, a2, n2, c2, cell_keep hb h0, cell_keep hb h1, cell_keep hb h2, cell_keep hb h3, cell_keep hb h4, h5.below hb⟩
theorem one_sl {w : World} {v : Value} {x : Int} (h : SlI w v [x]) : ∃ b o c, v = .slice (some ⟨b, o, none⟩) 1 c ∧ w.cell? ⟨b, o, none⟩ = some (.int .i64 x) := by
  obtain ⟨a, c, rfl, -, h | ⟨b, o, rfl, h⟩⟩ := h
  · cases h
  · exact ⟨b, o, c, rfl, h 0 x rfl⟩
theorem any_sl {w : World} {v : Value} {l : List Int} (h : SlI w v l) : ∃ a n c, v = .slice a n c := by
  obtain ⟨a, c, rfl, -⟩ := h
  exact ⟨_, _, _, rfl⟩
/-- the root of the family, and its rows -/
def FamAt (w : World) (v : Value) (ky z : ByteArray) (n : Nat) : Prop :=
  ∃ (b o N c : Nat) (rt : ByteArray) (ka : Option Addr) (kn kc ib io ic : Nat), v = .slice (some ⟨b, o, none⟩) N c ∧ 0 < N ∧ w.cell? ⟨b, o, none⟩ = some (.int .i64 9) ∧ w.cell? ⟨b, o + 1, none⟩ = some (.string rt) ∧ w.cell? ⟨b, o + 2, none⟩ = some (.bool false) ∧
    w.cell? ⟨b, o + 3, none⟩ = some (.slice ka kn kc) ∧ w.cell? ⟨b, o + 4, none⟩ = some (.slice (some ⟨ib, io, none⟩) n ic) ∧
    ∀ i, i < n → ∃ k : Nat, k < N ∧ w.cell? ⟨ib, io + i, none⟩ = some (.int .i64 k) ∧ RowF w v b o k ky z
theorem fam_at {w : World} {v : Value} {ky z : ByteArray} (h : NodesAt w v (oneG ky z)) : FamAt w v ky z 1 := by
  obtain ⟨a, c, rfl, -, h⟩ := h
  rcases h with h | ⟨b, o, rfl, h⟩
  · cases h
  obtain ⟨kv, iv, q0, q1, q2, q3, q4, q5, q6⟩ := h 0 _ rfl
  simp only [Nat.zero_mul, Nat.add_zero] at q0 q1 q2 q3 q4
  obtain ⟨ka, kn, kc, rfl⟩ := any_sl q5
  obtain ⟨ib, io, ic, rfl, i1⟩ := one_sl q6
  refine ⟨b, o, 4, c, _, ka, kn, kc, ib, io, ic, rfl, by omega, q0, q1, q2, q3, q4, fun i hi => ?_⟩
  obtain rfl : i = 0 := by omega
  refine ⟨1, by omega, i1, ?_⟩
  obtain ⟨kv1, iv1, a0, a1, a2, a3, a4, a5, a6⟩ := h 1 _ rfl
  obtain ⟨kv2, iv2, b0, b1, b2, b3, b4, b5, b6⟩ := h 2 _ rfl
  obtain ⟨kv3, iv3, c0, c1, c2, c3, c4, c5, c6⟩ := h 3 _ rfl
  obtain ⟨lb, lo, kc1, rfl, l1⟩ := one_sl a5
  obtain ⟨mb, mo, mc1, rfl, m1⟩ := one_sl a6
  obtain ⟨x1, x2, x3, rfl⟩ := any_sl c5
  obtain ⟨y1, y2, y3, rfl⟩ := any_sl c6
  exact ⟨_, lb, lo, kc1, mb, mo, mc1, x1, x2, x3, y1, y2, y3, a0, a1, a2, a3, a4, b, o, 4, c, 0, _, lb, lo, kc1, mb, mo, mc1, 2, 3, rfl, rfl, b0, l1, m1, by omega, by omega, b1, c0, c1, c2, c3, c4⟩
/-- the text of the table -/
def headT (nm : ByteArray) : ByteArray := nm ++ ⟨#[58]⟩ ++ ⟨#[116, 101, 120, 116]⟩
def textT (nm cz : ByteArray) : Nat → List UInt8
  | 0 => (headT nm).data.toList ++ [10]
  | n + 1 => textT nm cz n ++ (cz.data.toList ++ [10])
theorem headT_size (nm : ByteArray) : (headT nm).size = nm.size + 5 := by unfold headT; rw [ByteArray.size_append, ByteArray.size_append]; rfl
theorem textT_len (nm cz : ByteArray) : ∀ n, (textT nm cz n).length = nm.size + 6 + n * (cz.size + 1) := by
  intro n
  have h1 : (headT nm).data.toList.length = (headT nm).size := by simp
  have h2 : cz.data.toList.length = cz.size := by simp
  have h3 := headT_size nm
  induction n with
  | zero => rw [textT, List.length_append, h1, h3, Nat.zero_mul]; rfl
  | succ n ih => rw [textT, List.length_append, List.length_append, ih, Nat.add_one_mul, h2]; show _ + (_ + 1) = _; omega
theorem text_room (nm cz : ByteArray) (h1 : nm.size ≤ 1000) (h2 : cz.size ≤ 1000) (i : Nat) (hi : i ≤ 1) : (textT nm cz i).length + cz.size + 1 ≤ 1000000 := by
  have h3 := textT_len nm cz i
  have h4 : i * (cz.size + 1) ≤ 1 * (cz.size + 1) := Nat.mul_le_mul_right _ hi
  omega
end Go.Proofs.YtcipjifpigpfdaaGreatDoor
/- Marks of ranges over functions that a loop leaves behind: they are taken one by one at the end. -/
namespace Go.Proofs.YtcipjifpigpfdaaGreatDoor
open Go.RowKit Go.Shelf Go.Ev
open Go.Lib hiding intOf
/-- marks, the newest first, from lo on and below hi -/
def Marks (lo : Nat) : Nat → List Deferred → World → Prop
  | _, [], _ => True
  | hi, d :: ds, W => ∃ D, d = { target := .collected D, args := #[] } ∧ lo ≤ D ∧ D < hi ∧ W.heap[D]? = some (.deferred (some [])) ∧ Marks lo D ds W
theorem Marks.mono {lo : Nat} {hi hi' : Nat} {ds : List Deferred} {W : World} (h : Marks lo hi ds W) (hh : hi ≤ hi') : Marks lo hi' ds W := by
  cases ds with
  | nil => trivial
  | cons d ds =>
    obtain ⟨D, h1, h2, h3, h4⟩ := h
    exact ⟨D, h1, h2, Nat.lt_of_lt_of_le h3 hh, h4⟩
theorem Marks.keep {lo : Nat} : ∀ {hi : Nat} {ds : List Deferred} {W W' : World}, Marks lo hi ds W → (∀ k, lo ≤ k → k < hi → W.heap[k]? = some (.deferred (some [])) → W'.heap[k]? = some (.deferred (some []))) → Marks lo hi ds W'
  | _, [], _, _, _, _ => trivial
  | _, _ :: _, _, _, ⟨D, h1, h2, h3, h4, h5⟩, hk => ⟨D, h1, h2, h3, hk D h2 h3 h4, h5.keep fun k q1 q2 q3 => hk k q1 (Nat.lt_trans q2 h3) q3⟩
theorem put_below {lo : Nat} (W : World) (D : Nat) (o : Obj) (h : lo ≤ D) : Below lo W (W.putObj D o) := by
  have hg := grownBy_putObj' W D o
  exact ⟨hg.os, hg.tape, hg.output, hg.size, fun k hk => by
    by_cases hs : k < W.heap.size
    · exact hg.block k hs (fun e => by have := Option.some.inj e; omega)
    · rw [Array.getElem?_eq_none (by simp [World.putObj]; omega), Array.getElem?_eq_none (by omega)]⟩
theorem leaves_marks {F : Fence} {n : Nat} {P : Program} {fn : Func} {tmps : Array Value} {R : Ending → World → Prop} {lo : Nat} : ∀ (ds : List Deferred) (hi : Nat) (W : World), Marks lo hi ds W → (∀ W', Below lo W W' → LeavesIn F n P fn tmps R [] .returning W') → LeavesInM F n P fn tmps R ds .returning W
  | [], _, W, _, h => h W (Below.refl _ _)
  | _ :: ds, _, W, ⟨D, h1, h2, h3, h4, h5⟩, h => by
    subst h1
    refine ⟨by simp, .inl ⟨D, _, rfl, run_takeDeferred h4, leaves_marks ds D _ (h5.keep fun k q1 q2 q3 => ?_) fun W' hb => h W' ((put_below W D _ h2).trans hb)⟩⟩
    have hg := grownBy_putObj' W D (.deferred none)
    rw [hg.block k (block_lt q3) (fun e => by have := Option.some.inj e; omega)]
    exact q3
theorem wpIn_loop_at {F : Fence} {n : Nat} {P : Program} {Q : Exit → Act → World → Prop} {c : Code} {A : Array Value} {ds : List Deferred} {W : World} (I : Array Value → Act → World → Prop) (μ : Act → World → Nat) (h0 : I A { tmps := A, defers := ds } W)
    (round : ∀ a w, I A a w → c.wpIn F n P (Exit.then (fun a' w' => I A a' w' ∧ μ a' w' < μ a w) Q) a w) : (Code.loop c).wpIn F n P Q { tmps := A, defers := ds } W :=
  wpIn_loop (I A) μ h0 round
end Go.Proofs.YtcipjifpigpfdaaGreatDoor
/- tableout.limited, and strings.Join of one text. -/
namespace Go.Proofs.YtcipjifpigpfdaaGreatDoor
open Go.RowKit
open Go.Lib hiding intOf
set_option maxHeartbeats 4000000 in
set_option maxRecDepth 100000 in
theorem limited_any (s : ByteArray) (w : World) (hs : s.size ≤ 4000000) :
    Calls Tryz.prog 22 #[.string s] w fun e w' => e = .returned (if 65536 < s.size then .tuple #[.string ⟨#[]⟩, .int .i64 6] else .tuple #[.string s, .int .i64 0]) ∧ w' = w := by
  by_cases h : 65536 < s.size
  · rw [if_pos h]
    have h2 : (65536 : Int) < (s.size : Int) := by omega
    go_enter Tryz.func22, Tryz.ntmps22
    go_wp2
    go_ret2
    exact ⟨rfl, rfl⟩
  · rw [if_neg h]
    have h2 : ¬ (65536 : Int) < (s.size : Int) := by omega
    go_enter Tryz.func22, Tryz.ntmps22
    go_wp2
    go_ret2
    exact ⟨rfl, rfl⟩
set_option maxHeartbeats 4000000 in
set_option maxRecDepth 100000 in
theorem join_one (w : World) (g c : Nat) (t sep : ByteArray) (h : w.cell? ⟨g, 0, none⟩ = some (.string t)) :
    Calls Tryz.prog 18 #[.slice (some ⟨g, 0, none⟩) 1 c, .string sep] w fun e w' => e = .returned (.string t) ∧ w' = w := by
  go_enter Tryz.func18, Tryz.ntmps18
  go_wp2
  go_ret
  exact ⟨rfl, rfl⟩
end Go.Proofs.YtcipjifpigpfdaaGreatDoor
/- strings.Builder's writers, with word of what else of the caller's stands: every block but the builder's and the rows of bytes. -/
namespace Go.Proofs.YtcipjifpigpfdaaGreatDoor
open Go.RowKit
open Go.Lib hiding intOf
theorem own_typed {B : Nat} {e size n : Nat} {v : Value} {xs : List Value} {w : World} (h : w.ownsRow B e size v n xs) (g : Nat) (hv : v.ownBlock = some g) : ∃ c fz, w.heap[g]? = some (.cells c e fz) := by
  rcases h.2 with ⟨rfl, -⟩ | ⟨g', cap, cur, rfl, -, h2, -⟩
  · cases hv
  · cases Option.some.inj hv
    exact ⟨cur, _, h2⟩
theorem bcheck_kept (B b : Nat) (bs : List Value) (w : World) (h : Lib.IsBuilder 54 5 B b bs w) :
    Calls Tryz.prog 41 #[.pointer (some ⟨b, 0, none⟩)] w fun e w' => e = .returned (.tuple #[]) ∧ (Lib.BuilderAt 54 5 B b (.pointer (some ⟨b, 0, none⟩)) bs w' ∧ Below B w w' ∧ OthersKept 5 (some b) w w') := by
  rcases h with h | h
  · refine (bcheck_fresh b w h.cell0 h.shape h.frozen0).mono ?_
    rintro e w' ⟨rfl, rfl⟩
    exact ⟨rfl, h.used _, (Below.refl B w).setCell (p := ⟨b, 0, none⟩) h.1 _, (OthersKept.refl _ _ w).setCell ⟨b, 0, none⟩ rfl _⟩
  · refine (bcheck_used b w h.cell0).mono ?_
    rintro e w' ⟨rfl, rfl⟩
    exact ⟨rfl, h, Below.refl B _, OthersKept.refl _ _ _⟩
set_option maxHeartbeats 1000000 in
set_option maxRecDepth 100000 in
theorem bwrite_kept (B b : Nat) (l : List UInt8) (s : ByteArray) (w : World) (h : Lib.IsBuilder 54 5 B b (Lib.byteCells l) w) (hlen : l.length + s.size ≤ 140737488355328) (hBw : B ≤ w.heap.size) :
    Calls Tryz.prog 17 #[.pointer (some ⟨b, 0, none⟩), .string s] w fun e w' => e = .returned (.tuple #[.int .i64 s.size, .nilIface]) ∧ (Lib.IsBuilder 54 5 B b (Lib.byteCells (l ++ s.data.toList)) w' ∧ Below B w w' ∧ OthersKept 5 (some b) w w') := by
  go_enter Tryz.func17, Tryz.ntmps17
  go_wp2_with (go_at_call 41; refine (bcheck_kept B b _ _ h).mono ?_)
  rintro e w1 ⟨rfl, h1, hb1, ho1⟩
  obtain ⟨hB, v, hbk, hown, hne⟩ := h1
  rw [Lib.byteCells_length] at hown
  have c0 : w1.cell? ⟨b, 0, none⟩ = some (.pointer (some ⟨b, 0, none⟩)) := by rw [Lib.cell_of_heap hbk]; rfl
  have c1 : w1.cell? ⟨b, 1, none⟩ = some v := by rw [Lib.cell_of_heap hbk]; rfl
  have HO1 := PLift.up ho1
  have HOW := PLift.up hown
  clear ho1
  go_wp2_with (at_builtin; refine app_str _ rfl _ _ rfl rfl (B := B) hown s rfl hlen (Nat.le_trans hBw hb1.size) ?_)
  intro v' w2 hown' hb2 hg
  have HO2 : PLift (OthersKept 5 (some b) w w2) := ⟨HO1.down.grown hg fun g hv => own_typed HOW.down g hv⟩
  have hlt : b < w1.heap.size := (Array.getElem?_eq_some_iff.1 hbk).1
  have hb3 : w2.heap[b]? = some (.cells #[.pointer (some ⟨b, 0, none⟩), v] 54 (0, 0)) := by
    rw [hg.block b hlt (fun e => hne e.symm)]
    exact hbk
  have d0 : w2.cell? ⟨b, 0, none⟩ = some (.pointer (some ⟨b, 0, none⟩)) := by rw [Lib.cell_of_heap hb3]; rfl
  have d1 : w2.cell? ⟨b, 1, none⟩ = some v := by rw [Lib.cell_of_heap hb3]; rfl
  have f1 : w2.frozen? ⟨b, 1, none⟩ = false := Lib.frozen_of_heap hb3 1
  obtain ⟨ao, cap, rfl⟩ := hown'.slice
  go_wp2
  go_ret2
  refine ⟨rfl, .inr ?_, ?_, ?_⟩
  · exact Lib.BuilderAt.put (T := 54) (e := 5) hB hb3 (bs' := Lib.byteCells (l ++ s.data.toList)) (by rw [Lib.byteCells_length, show l.length + s.size = (l ++ s.data.toList).length from by simp]; exact hown') (by decide)
  · exact (hb1.trans hb2).setCell (p := ⟨b, 1, none⟩) hB _
  · exact HO2.down.setCell ⟨b, 1, none⟩ rfl _
set_option maxHeartbeats 1000000 in
set_option maxRecDepth 100000 in
theorem bbyte_kept (B b : Nat) (l : List UInt8) (c : UInt8) (w : World) (h : Lib.IsBuilder 54 5 B b (Lib.byteCells l) w) (hlen : l.length + 1 ≤ 140737488355328) (hBw : B ≤ w.heap.size) :
    Calls Tryz.prog 79 #[.pointer (some ⟨b, 0, none⟩), .int .u8 c.toNat] w fun e w' => e = .returned .nilIface ∧ (Lib.IsBuilder 54 5 B b (Lib.byteCells (l ++ [c])) w' ∧ Below B w w' ∧ OthersKept 5 (some b) w w') := by
  obtain ⟨i0, hi0, hz0, hz1, hz2⟩ := info_parts info_u8
  have HI0 := PLift.up (And.intro hi0 (And.intro hz0 (And.intro hz1 hz2)))
  have HBC := PLift.up (bcheck_kept B b _ _ h)
  clear hi0 hz0 hz1 hz2 h
  as_aux_lemma =>
  go_enter Tryz.func79, Tryz.ntmps79
  as_aux_lemma =>
  go_upto_region 2 with (go_at_call 41; refine (HBC.down).mono ?_; rintro e w1 ⟨rfl, h1, hb1, ho1⟩; have H1 := PLift.up h1; have HB1 := PLift.up hb1; have HO1 := PLift.up ho1; clear h1 hb1 ho1)
  obtain ⟨hB, v, hbk, hown, hne⟩ := H1.down
  rw [Lib.byteCells_length] at hown
  have c0 : w1.cell? ⟨b, 0, none⟩ = some (.pointer (some ⟨b, 0, none⟩)) := by rw [Lib.cell_of_heap hbk]; rfl
  have c1 : w1.cell? ⟨b, 1, none⟩ = some v := by rw [Lib.cell_of_heap hbk]; rfl
  have HOWN := PLift.up (World.ownsRow.alloc hown (.cells #[.int .u8 c.toNat] 5))
  have HB := PLift.up hB
  have HBK := PLift.up hbk
  have HNE := PLift.up hne
  have HBS : PLift (B ≤ (w1.alloc (.cells #[.int .u8 c.toNat] 5)).heap.size) := ⟨by rw [size_new]; have := HB1.down.size; omega⟩
  have HNW : PLift ((w1.alloc (.cells #[.int .u8 c.toNat] 5)).cell? ⟨w1.heap.size, 0, none⟩ = some (.int .u8 c.toNat)) := ⟨(Lib.cell_of_heap (heap_alloc_new w1 _) 0).trans rfl⟩
  have HL := PLift.up hlen
  clear hown hB hbk hne hlen
  as_aux_lemma =>
  go_wp2_with (refine wpList_append_new _ rfl _ _ 52 rfl B 5 i0 (.int .u8 0) 1 1 Tryz.underlying52 HI0.down.1 HI0.down.2.1 HI0.down.2.2.1 HI0.down.2.2.2 rfl (by decide) v l.length (Lib.byteCells l) rfl HOWN.down ⟨w1.heap.size, 0, none⟩ 1 1 [.int .u8 c.toNat] rfl rfl (by intro j2 u hj2; match j2, hj2 with | 0, hj2 => simp only [List.getElem?_cons_zero, Option.some.injEq] at hj2; subst hj2; exact HNW.down | j2 + 1, hj2 => simp at hj2) (by simp [Value.oneCell']) (by decide) (by have := HL.down; unfold maxLen; omega) (by have := HL.down; omega) HBS.down ?_)
  intro v' w2 hown' hg hpl
  have hlt : b < w1.heap.size := block_lt HBK.down
  have hb3 : w2.heap[b]? = some (.cells #[.pointer (some ⟨b, 0, none⟩), v] 54 (0, 0)) := by
    rw [hg.block b (by rw [size_new]; omega) (fun e => HNE.down e.symm), Lib.alloc_old _ _ _ hlt]
    exact HBK.down
  have d1 : w2.cell? ⟨b, 1, none⟩ = some v := by rw [Lib.cell_of_heap hb3]; rfl
  have f1 : w2.frozen? ⟨b, 1, none⟩ = false := Lib.frozen_of_heap hb3 1
  have HG : PLift (Below B w1 w2) := ⟨((Below.refl B w1).alloc (by have := HB1.down.size; omega) _).grown hg HBS.down (fun k hk => (HOWN.down.lt k hk).1)⟩
  have HPUT := PLift.up (Lib.BuilderAt.put (T := 54) (e := 5) HB.down hb3 (bs' := Lib.byteCells (l ++ [c])) (v' := v') (by rw [Lib.byteCells_length, Lib.byteCells_append, show (l ++ [c]).length = l.length + 1 from by simp]; exact hown') (by decide))
  have HO2 : PLift (OthersKept 5 (some b) w w2) := ⟨(HO1.down.alloc _).grown hg fun g hv => own_typed HOWN.down g hv⟩
  obtain ⟨A4, cc4, hv4⟩ := own_shape hown'
  subst hv4
  clear hown' hg hpl hb3
  as_aux_lemma =>
  go_wp2
  refine bodyPost_ret (v := .nilIface) (by simp only [results, Tryz.results79]; go_simp) rfl ?_
  exact ⟨rfl, .inr HPUT.down, (HB1.down.trans HG.down).setCell (p := ⟨b, 1, none⟩) HB.down _, HO2.down.setCell ⟨b, 1, none⟩ rfl _⟩
end Go.Proofs.YtcipjifpigpfdaaGreatDoor
/- tableout.Print's closure. -/
namespace Go.Proofs.YtcipjifpigpfdaaGreatDoor
open Go.RowKit
open Go.Lib hiding intOf
set_option maxHeartbeats 4000000 in
set_option maxRecDepth 100000 in
theorem line_any (b : Nat) (l : List UInt8) (t : ByteArray) (g c : Nat) (w : World) (h : Lib.IsBuilder 54 5 b b (Lib.byteCells l) w) (hc : w.cell? ⟨g, 0, none⟩ = some (.string t)) (hl : l.length + t.size + 1 ≤ 1000000000) (hb : b ≤ w.heap.size) :
    Calls Tryz.prog 16 #[.slice (some ⟨g, 0, none⟩) 1 c, .pointer (some ⟨b, 0, none⟩)] w fun e w' => e = .returned (.tuple #[]) ∧ Lib.IsBuilder 54 5 b b (Lib.byteCells (l ++ (t.data.toList ++ [10]))) w' ∧ Below b w w' ∧ OthersKept 5 (some b) w w' := by
  have HB := PLift.up (bwrite_kept b b l (t ++ (⟨#[10]⟩ : ByteArray)) w h (by rw [ByteArray.size_append]; show l.length + (t.size + 1) ≤ _; omega) hb)
  have HJ := PLift.up (fun sep => join_one w g c t sep hc)
  have hd : (t ++ (⟨#[10]⟩ : ByteArray)).data.toList = t.data.toList ++ [10] := by simp
  rw [hd] at HB
  clear h hd
  go_enter Tryz.func16, Tryz.ntmps16
  go_wp2_with (first
    | (go_at_call 18; refine (HJ.down _).mono ?_; rintro e w1 ⟨rfl, rfl⟩)
    | (go_at_call 17; refine HB.down.mono ?_; rintro e w1 ⟨rfl, h1⟩; have H1 := PLift.up h1; clear h1))
  go_end0
  exact ⟨rfl, H1.down⟩
end Go.Proofs.YtcipjifpigpfdaaGreatDoor
