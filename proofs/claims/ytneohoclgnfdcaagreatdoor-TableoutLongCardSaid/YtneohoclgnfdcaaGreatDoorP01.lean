import Derived.Deep.Quiet
import Derived.Below
import Derived.Laws.AppendOwn
import Derived.Lib.UnsafeStr
import Derived.WalkKit
import Derived.RegionTactic
import Derived.Shelf.Small.Wraps
import Derived.Shelf.Strconv.Atoi
import Derived.Shelf.Strings.BuilderK
import Derived.Shelf.Strings.Search1
import Derived.Shelf.Small.Strs
import Derived.Shelf.Strings.Count
import Derived.Shelf.Small.Bits
import Derived.Shelf.Strings.OnBuilder
import Derived.WalkSpells
import Derived.Lib.Hide
import Derived.Shelf.Unicode.DecodeSlow
import Derived.Lib.AppendStr
import Derived.Laws.IdiomStrings
import Derived.WalkLawsBesides
import Derived.BigQuiet
import Derived.Deep.QuietTactic
import Derived.IntWalk
import Derived.Laws.Closers25b
import Derived.Laws.EntriesVeiled
import Derived.Outline
import Derived.Deep.OwnRows
import Derived.Test.YtneohoclgnfdcaaGreatDoorProg
import Derived.Test.YtneohoclgnfdcaaGreatDoorRows
/- A region that draws its order, whose operations yield each ONE value in every world of a class, but for a tail (an allocation, a store): the order of the text serves every order. -/
namespace Go.Mix
section
variable {P : Program} {ops : Array Oper} {md : Region.Mode} {Q : Exit → Act → World → Prop} {T : World → World → Prop} {D : World → Prop}

/-- One value, in every world of the class D; a call leaves a world that T reaches. -/
def One (P : Program) (ops : Array Oper) (T : World → World → Prop) (D : World → Prop) (o : Oper) (v : Value) (a : Act) : Prop :=
  (Region.wanted o (yielded ops a.tmps) = true ∧ ∀ w, D w → o.quietAt P a (T w) w v) ∨ (Region.wanted o (yielded ops a.tmps) = false ∧ v = undef)
theorem One.of_same {o : Oper} {v : Value} {a a' : Act} (hy : One P ops T D o v a) (he : execOp a'.eval o = execOp a.eval o)
    (hw : Region.wanted o (yielded ops a'.tmps) = Region.wanted o (yielded ops a.tmps)) : One P ops T D o v a' := by
  unfold One Oper.quietAt at *
  rw [he, hw]
  exact hy

/-- What an operation may leave behind: a value and a world, by R. -/
def uponU (P : Program) (R : Value → World → Prop) : Result Next → Prop
  | .ok (.value u) w' => R u w'
  | .ok .skip w' => R undef w'
  | .ok (.enter f args) w' => Calls P f args w' (fun e w'' => ∃ v, e = .returned v ∧ R v w'')
  | _ => False
/-- Operation i from every world of the class C; behind it the class R v. -/
def opU (P : Program) (ops : Array Oper) (T : World → World → Prop) (D : World → Prop) (i : Nat) (K : Act → (World → Prop) → Prop) (a : Act) (C : World → Prop) : Prop :=
  match ops[i]? with
  | none => K a C
  | some o => if Region.wanted o (yielded ops a.tmps) then
      ∃ R : Value → World → Prop, (∀ v w w', R v w → T w w' → R v w') ∧ (∀ v w, R v w → D w) ∧ (∀ w, C w → uponU P R ((execOp a.eval o).run P w)) ∧ ∀ v w, R v w → K (a.put o.dst v) (R v)
    else K (a.put o.dst undef) C
def wpU (P : Program) (md : Region.Mode) (ops : Array Oper) (Q : Exit → Act → World → Prop) (T : World → World → Prop) (D : World → Prop) : Nat → Array Bool → Act → (World → Prop) → Prop
  | 0, listed, a, C => Region.ready md ops listed = [] ∧ ∀ w, C w → Q .normal a w
  | fuel + 1, listed, a, C =>
    (Region.ready md ops listed = [] → ∀ w, C w → Q .normal a w) ∧
    ∀ i ∈ Region.ready md ops listed, opU P ops T D i (fun a' C' => wpU P md ops Q T D fuel (listed.setIfInBounds i true) a' C') a C

theorem wpOp_of_opU {i : Nat} {a : Act} {K : Act → (World → Prop) → Prop} {K' : Act → World → Prop} {C : World → Prop} {w : World} (hC : C w)
    (h : ∀ a' C' w', C' w' → K a' C' → K' a' w') (hh : opU P ops T D i K a C) : wpOp P ops Q i K' a w := by
  unfold opU at hh
  unfold wpOp
  split
  · rename_i ho; simp only [ho] at hh; exact h _ _ _ hC hh
  · rename_i o ho
    simp only [ho] at hh
    split
    · rename_i hw
      simp only [hw, if_true] at hh
      obtain ⟨R, -, -, h1, h2⟩ := hh
      refine .inl ?_
      have h3 := h1 w hC
      unfold Oper.wp
      generalize (execOp a.eval o).run P w = r at *
      cases r with
      | ok n w' =>
        cases n <;> simp only [uponU] at h3 <;> simp only [Oper.upon]
        case value u => exact h _ _ _ h3 (h2 _ _ h3)
        case skip => exact h _ _ _ h3 (h2 _ _ h3)
        case enter f args =>
          exact h3.mono fun e w'' ⟨v, he, hr⟩ => by subst he; exact h _ _ _ hr (h2 _ _ hr)
      | halt x w' => simp only [uponU] at h3
    · rename_i hw; simp only [hw] at hh; exact h _ _ _ hC hh
theorem wpAny_of_U : ∀ (fuel : Nat) (listed : Array Bool) (a : Act) (C : World → Prop) (w : World), C w → wpU P md ops Q T D fuel listed a C → wpAny P md ops Q fuel listed a w
  | 0, _, _, _, _, hw, h => ⟨h.1, h.2 _ hw⟩
  | fuel + 1, _, _, _, _, hw, h => ⟨fun h0 => h.1 h0 _ hw, fun i hi => wpOp_of_opU hw (fun a' C' w' hw' hk => wpAny_of_U fuel _ a' C' w' hw' hk) (h.2 i hi)⟩

theorem opU_mono {i : Nat} {a : Act} {C : World → Prop} {K K' : Act → (World → Prop) → Prop} (hC : (∀ w w', C w → T w w' → C w') ∧ (∀ w, C w → D w))
    (h : ∀ a' C', (∀ w w', C' w → T w w' → C' w') → (∀ w, C' w → D w) → K a' C' → K' a' C') (hh : opU P ops T D i K a C) : opU P ops T D i K' a C := by
  unfold opU at *
  split
  · rename_i ho; simp only [ho] at hh; exact h _ _ hC.1 hC.2 hh
  · rename_i o ho
    simp only [ho] at hh
    split
    · rename_i hw
      simp only [hw, if_true] at hh
      obtain ⟨R, r1, r2, r3, r4⟩ := hh
      exact ⟨R, r1, r2, r3, fun v w hv => h _ _ (r1 v) (r2 v) (r4 v w hv)⟩
    · rename_i hw; simp only [hw] at hh; exact h _ _ hC.1 hC.2 hh

/-- An operation of one value comes up. -/
theorem One.opU {i : Nat} {o : Oper} {v : Value} {a : Act} {C : World → Prop} (hi : ops[i]? = some o) (hC1 : ∀ w w', C w → T w w' → C w') (hC2 : ∀ w, C w → D w)
    (hy : One P ops T D o v a) {K : Act → (World → Prop) → Prop} (h : K (a.put o.dst v) C) : Mix.opU P ops T D i K a C := by
  unfold Mix.opU
  simp only [hi]
  rcases hy with ⟨hw, hv⟩ | ⟨hw, rfl⟩
  · simp only [hw, if_true]
    refine ⟨fun u w => u = v ∧ C w, fun _ _ _ hr ht => ⟨hr.1, hC1 _ _ hr.2 ht⟩, fun _ _ hr => hC2 _ hr.2, fun w hw => ?_, fun u w hr => ?_⟩
    · have h3 := hv w (hC2 w hw)
      unfold Oper.quietAt at h3
      generalize (execOp a.eval o).run P w = r at *
      cases r with
      | ok n w' =>
        cases n <;> simp only [Oper.quietUpon] at h3 <;> simp only [uponU]
        case value u => exact ⟨h3.2, h3.1 ▸ hw⟩
        case skip => exact ⟨h3.2.symm, h3.1 ▸ hw⟩
        case enter f args =>
          obtain ⟨e1, hc⟩ := h3
          rw [e1]
          exact hc.mono fun e w'' ⟨he, ht⟩ => ⟨v, he, rfl, hC1 _ _ hw ht⟩
      | halt x w' => simp only [Oper.quietUpon] at h3
    · obtain ⟨rfl, hr⟩ := hr
      have : (fun w => u = u ∧ C w) = C := by funext w; simp
      show K (a.put o.dst u) (fun w => u = u ∧ C w)
      rw [this]
      exact h
  · simp only [hw, Bool.false_eq_true, if_false]; exact h

theorem opU_put {j : Nat} {oi oj : Oper} {v : Value} {C : World → Prop} (hj : ops[j]? = some oj) (hap : oi.apart ops oj = true)
    (hsi : ∀ cs b, oi.op ≠ .select cs b) (hsj : ∀ cs b, oj.op ≠ .select cs b) {K : Act → (World → Prop) → Prop} {a : Act}
    (hy : One P ops T D oi v a) (h : opU P ops T D j K (a.put oi.dst v) C) :
    opU P ops T D j (fun a' C' => One P ops T D oi v a' ∧ K (a'.put oi.dst v) C') a C := by
  obtain ⟨h1, h2, h3⟩ := Oper.apart_spec hap
  have keep : ∀ (a : Act), One P ops T D oi v a → ∀ u, One P ops T D oi v (a.put oj.dst u) := fun a hy u =>
    hy.of_same (execOp_put oi hsi a oj.dst u h3) (wanted_put oi a oj.dst u h3)
  unfold opU at *
  simp only [hj] at *
  rw [wanted_put oj a oi.dst v h1] at h
  split
  · rename_i hw
    simp only [hw, if_true] at h
    obtain ⟨R, r1, r2, r3, r4⟩ := h
    refine ⟨R, r1, r2, fun w hw' => ?_, fun u w hr => ⟨keep a hy u, by rw [← Act.put_comm a v u h2]; exact r4 u w hr⟩⟩
    have := r3 w hw'
    rwa [execOp_put oj hsj a oi.dst v h1] at this
  · rename_i hw
    simp only [hw] at h
    exact ⟨keep a hy _, by rw [← Act.put_comm a v undef h2]; exact h⟩

theorem wpU_first {i : Nat} {oi : Oper} {v : Value} (hi : ops[i]? = some oi) (hsel : ∀ (j : Nat) (o : Oper) cs b, ops[j]? = some o → o.op ≠ .select cs b) :
    ∀ (fuel : Nat) (listed : Array Bool) (a : Act) (C : World → Prop), (∀ w w', C w → T w w' → C w') → (∀ w, C w → D w) →
      (∀ j oj, ops[j]? = some oj → j ≠ i → listed.getD j true = false → (∀ e ∈ oj.after, Region.binds md e = true → e.on ≠ i) → oi.apart ops oj = true) →
      i ∈ Region.ready md ops listed → One P ops T D oi v a →
      wpU P md ops Q T D fuel (listed.setIfInBounds i true) (a.put oi.dst v) C → wpU P md ops Q T D (fuel + 1) listed a C := by
  intro fuel
  induction fuel with
  | zero =>
    intro listed a C hC1 hC2 _ hr hy H
    refine ⟨fun h => (by rw [h] at hr; cases hr), fun j hj => ?_⟩
    by_cases hji : j = i
    · subst hji; exact hy.opU hi hC1 hC2 H
    · have := ready_mono hj hji
      rw [H.1] at this
      cases this
  | succ fuel ih =>
    intro listed a C hC1 hC2 hfree hr hy H
    refine ⟨fun h => (by rw [h] at hr; cases hr), fun j hj => ?_⟩
    by_cases hji : j = i
    · subst hji; exact hy.opU hi hC1 hC2 H
    · have h1 := H.2 j (ready_mono hj hji)
      obtain ⟨hjun, oj, hoj, hall⟩ := mem_ready.1 hj
      have hnot : ∀ e ∈ oj.after, Region.binds md e = true → e.on ≠ i := fun e he hb heq => by
        have h1 := hall e he hb
        have h0 := (mem_ready.1 hr).1
        rw [heq] at h1
        rcases Nat.lt_or_ge i listed.size with h' | h'
        · simp [h'] at h0 h1; rw [h0] at h1; cases h1
        · simp [Array.getElem?_eq_none h'] at h1
      have h2 := opU_put hoj (hfree j oj hoj hji hjun hnot) (fun cs b => hsel i oi cs b hi) (fun cs b => hsel j oj cs b hoj) hy h1
      have hfree' : ∀ k ok, ops[k]? = some ok → k ≠ i → (listed.setIfInBounds j true).getD k true = false →
          (∀ e ∈ ok.after, Region.binds md e = true → e.on ≠ i) → oi.apart ops ok = true := fun k ok hk hki hun hno => by
        refine hfree k ok hk hki ?_ hno
        by_cases hjk : j = k
        · subst hjk; exact hjun
        · rw [getD_set_ne true hjk] at hun; exact hun
      refine opU_mono ⟨hC1, hC2⟩ (fun a' C' c1 c2 h3 => ih (listed.setIfInBounds j true) a' C' c1 c2 hfree' (ready_mono hr (Ne.symm hji)) h3.1 ?_) h2
      rw [Array.setIfInBounds_comm _ _ hji]
      exact h3.2

/-- The first n operations, in the order of the text, may each be taken first; what is listed behind them. -/
def lexTo (md : Region.Mode) (ops : Array Oper) : Nat → Nat → Array Bool → Option (Array Bool)
  | 0, _, listed => some listed
  | n + 1, k, listed => if (Region.ready md ops listed).contains k && Region.free md ops listed k then lexTo md ops n (k + 1) (listed.setIfInBounds k true) else none
/-- No two of the operations write one slot; every slot is in the frame. -/
def dstsB (n : Nat) : List Oper → List Tmp → Bool
  | [], _ => true
  | o :: r, seen => match o.dst with
    | none => false
    | some d => decide (d < n) && !seen.contains d && dstsB n r (d :: seen)

/-- The lexical walk, from every world of the class, to ONE frame. -/
def WalkTo (P : Program) (ops : Array Oper) (T : World → World → Prop) (D : World → Prop) (aF : Act) (l : List Oper) (a : Act) : Prop :=
  ∀ ρ, D ρ → wpQuiet P ops (T ρ) (fun a' => a' = aF) l a

theorem put_size (a : Act) (d : Option Tmp) (v : Value) : (a.put d v).tmps.size = a.tmps.size := by cases d <;> simp [Act.put]
theorem put_get_ne (a : Act) (d : Option Tmp) (v : Value) (t : Tmp) (h : d ≠ some t) : (a.put d v).tmps[t]? = a.tmps[t]? := by
  cases d with
  | none => rfl
  | some e =>
    have hne : e ≠ t := fun he => h (by rw [he])
    simp [Act.put, Array.getElem?_setIfInBounds_ne hne]
theorem put_get_self (a : Act) (t : Tmp) (v : Value) (h : t < a.tmps.size) : (a.put (some t) v).tmps[t]? = some v := by
  simp [Act.put, h]
/-- Slots that the rest of the walk does not write stand at the end as they stand now. -/
theorem keeps {C : World → Prop} {aF : Act} (t : Tmp) : ∀ (l : List Oper) (a : Act), (∀ o ∈ l, o.dst ≠ some t) → wpQuiet P ops C (fun a' => a' = aF) l a → aF.tmps[t]? = a.tmps[t]?
  | [], a, _, h => by rw [show a = aF from h]
  | o :: l, a, hl, h => by
    unfold wpQuiet at h
    have hne : o.dst ≠ some t := hl o (by simp)
    split at h
    · obtain ⟨v, _, h2⟩ := h
      rw [keeps t l _ (fun o' ho' => hl o' (by simp [ho'])) h2, put_get_ne _ _ _ _ hne]
    · rw [keeps t l _ (fun o' ho' => hl o' (by simp [ho'])) h, put_get_ne _ _ _ _ hne]
theorem dstsB_mem : ∀ (l : List Oper) (n : Nat) (seen : List Tmp), dstsB n l seen = true → ∀ d ∈ seen, ∀ o ∈ l, o.dst ≠ some d
  | [], _, _, _, _, _, _, ho => by cases ho
  | o :: r, n, seen, h, d, hd, o', ho' => by
    unfold dstsB at h
    cases hdst : o.dst with
    | none => simp [hdst] at h
    | some e =>
      simp only [hdst, Bool.and_eq_true, decide_eq_true_eq, Bool.not_eq_true'] at h
      obtain ⟨⟨h1, h2⟩, h3⟩ := h
      rcases List.mem_cons.1 ho' with rfl | ho'
      · rw [hdst]
        intro he
        have : e = d := by simpa using he
        subst this
        simp [hd] at h2
      · exact dstsB_mem r n (e :: seen) h3 d (List.mem_cons_of_mem _ hd) o' ho'

/-- The value that the first operation yields is read off the frame at the end. -/
theorem step_of_walk (hT : ∀ w, T w w) {aF a : Act} {o : Oper} {l : List Oper} {seen : List Tmp} (hd : dstsB a.tmps.size (o :: l) seen = true) (h : WalkTo P ops T D aF (o :: l) a) :
    ∃ v seen', One P ops T D o v a ∧ dstsB a.tmps.size l seen' = true ∧ WalkTo P ops T D aF l (a.put o.dst v) := by
  have hd0 := hd
  unfold dstsB at hd
  cases hdst : o.dst with
  | none => simp [hdst] at hd
  | some d =>
    simp only [hdst, Bool.and_eq_true, decide_eq_true_eq, Bool.not_eq_true'] at hd
    obtain ⟨⟨h1, _⟩, h3⟩ := hd
    have hnot := dstsB_mem l _ _ h3 d (by simp)
    by_cases hw : Region.wanted o (yielded ops a.tmps) = true
    · have key : ∀ ρ, D ρ → (∀ w, T ρ w → o.quietAt P a (T ρ) w (aF.tmps.getD d undef)) ∧ wpQuiet P ops (T ρ) (fun a' => a' = aF) l (a.put (some d) (aF.tmps.getD d undef)) := by
        intro ρ hρ
        have := h ρ hρ
        unfold wpQuiet at this
        simp only [hw, if_true] at this
        obtain ⟨v, h4, h5⟩ := this
        rw [hdst] at h5
        have e1 := keeps d l _ hnot h5
        rw [put_get_self _ _ _ h1] at e1
        have e2 : aF.tmps.getD d undef = v := by simp [e1]
        rw [e2]
        exact ⟨h4, h5⟩
      exact ⟨_, _, .inl ⟨hw, fun w hD => (key w hD).1 w (hT w)⟩, h3, fun ρ hρ => (key ρ hρ).2⟩
    · refine ⟨undef, _, .inr ⟨by simpa using hw, rfl⟩, h3, fun ρ hρ => ?_⟩
      have := h ρ hρ
      unfold wpQuiet at this
      simp only [hw] at this
      rw [← hdst]
      exact this

theorem wpU_lex (hs : Region.noSelect ops = true) (hT : ∀ w, T w w) {C : World → Prop} (hC1 : ∀ w w', C w → T w w' → C w') (hC2 : ∀ w, C w → D w) (hne : ∃ ρ, D ρ) {aF : Act} {f : Nat} {listed' : Array Bool} :
    ∀ (l : List Oper) (k : Nat) (listed : Array Bool) (a : Act) (seen : List Tmp), (∀ j, j < l.length → l[j]? = ops[k + j]?) →
    lexTo md ops l.length k listed = some listed' → dstsB a.tmps.size l seen = true → WalkTo P ops T D aF l a → wpU P md ops Q T D f listed' aF C → wpU P md ops Q T D (l.length + f) listed a C
  | [], _, listed, a, _, _, hB, _, h, hK => by
    obtain ⟨ρ, hρ⟩ := hne
    have e : a = aF := h ρ hρ
    have e2 : listed = listed' := by simpa [lexTo] using hB
    subst e e2
    simpa using hK
  | o :: l, k, listed, a, seen, hl, hB, hd, h, hK => by
    have h0 : ops[k]? = some o := by simpa using (hl 0 (by simp)).symm
    simp only [List.length_cons, lexTo] at hB
    split at hB
    case isFalse => cases hB
    rename_i hc
    simp only [Bool.and_eq_true] at hc
    obtain ⟨v, seen', h1, h2, h3⟩ := step_of_walk hT hd h
    have := wpU_lex hs hT hC1 hC2 hne l (k + 1) _ (a.put o.dst v) seen' (fun j hj => by have := hl (j + 1) (by simp; omega); simpa [Nat.add_assoc, Nat.add_comm 1 j] using this) hB (by rw [put_size]; exact h2) h3 hK
    rw [List.length_cons, Nat.add_right_comm]
    exact wpU_first h0 (Region.noSelect_spec hs) (l.length + f) listed a C hC1 hC2 (Region.free_spec h0 hc.2) (by simpa using hc.1) h1 this

/-- THE REGION: a prefix of operations of one value each, and a tail. -/
theorem wp_region_mix {id : Nat} {a : Act} {w : World} {l : List Oper} (n : Nat) (C D : World → Prop) (T : World → World → Prop) {aF : Act} (hm : P.follows .mixedOrders = true)
    (hn : n ≤ l.length) (hs : Region.noSelect l.toArray = true) (hB : lexTo .any l.toArray n 0 (Array.replicate l.length false) = some (List.replicate n true ++ List.replicate (l.length - n) false).toArray) (hd : dstsB a.tmps.size (l.take n) [] = true)
    (hT : ∀ w, T w w) (hC1 : ∀ w w', C w → T w w' → C w') (hC2 : ∀ w, C w → D w) (h0 : C { w with drawn := w.drawn + 1 }) (hA : WalkTo P l.toArray T D aF (l.take n) a)
    (hN : wpU P .any l.toArray Q T D (l.length - n) (List.replicate n true ++ List.replicate (l.length - n) false).toArray aF C) : (Code.region id l.toArray true).wp P Q a w := by
  refine wp_region_any hm (wpAny_of_U (T := T) (D := D) _ _ _ C _ h0 ?_)
  have hlen : (l.take n).length = n := by simp [hn]
  have := wpU_lex (P := P) (md := .any) (Q := Q) hs hT hC1 hC2 ⟨_, hC2 _ h0⟩ (l.take n) 0 (Array.replicate l.length false) a [] (fun j hj => by rw [hlen] at hj; simp [hj]) (by rw [hlen]; exact hB) hd hA hN
  rw [hlen] at this
  simpa [show n + (l.length - n) = l.length from by omega] using this

/-- One operation of the tail, where it alone may come up. -/
theorem wpU_one {fuel : Nat} {listed : Array Bool} {a : Act} {C : World → Prop} {i : Nat} {o : Oper} (hr : Region.ready md ops listed = [i]) (ho : ops[i]? = some o) (hw : Region.wanted o (yielded ops a.tmps) = true)
    (R : Value → World → Prop) (hR : ∀ v w w', R v w → T w w' → R v w') (hD : ∀ v w, R v w → D w) (hrun : ∀ w, C w → uponU P R ((execOp a.eval o).run P w))
    (hK : ∀ v w, R v w → wpU P md ops Q T D fuel (listed.setIfInBounds i true) (a.put o.dst v) (R v)) : wpU P md ops Q T D (fuel + 1) listed a C := by
  refine ⟨(fun h => by rw [hr] at h; cases h), fun j hj => ?_⟩
  rw [hr] at hj
  obtain rfl : j = i := by simpa using hj
  unfold opU
  simp only [ho, hw, if_true]
  exact ⟨R, hR, hD, hrun, hK⟩
theorem wpU_end {listed : Array Bool} {a : Act} {C : World → Prop} (hr : Region.ready md ops listed = []) (h : ∀ w, C w → Q .normal a w) : wpU P md ops Q T D 0 listed a C := ⟨hr, h⟩
/-- A region that reads and calls quietly, then makes one variable and stores into it. -/
theorem wp_region_mix_alloc {id : Nat} {a : Act} {w : World} {l : List Oper} (n : Nat) (t : Tmp) (oa os : Oper) (X X' : Obj) {aF : Act} (hm : P.follows .mixedOrders = true)
    (hlen : l.length = n + 2) (hs : Region.noSelect l.toArray = true) (hB : lexTo .any l.toArray n 0 (Array.replicate l.length false) = some (List.replicate n true ++ List.replicate (l.length - n) false).toArray)
    (hd : dstsB a.tmps.size (l.take n) [] = true) (hoa : l[n]? = some oa) (hos : l[n + 1]? = some os) (hga : oa.guard = none) (hgs : os.guard = none) (hda : oa.dst = some t) (hds : os.dst = none)
    (hr1 : Region.ready .any l.toArray (List.replicate n true ++ List.replicate (l.length - n) false).toArray = [n])
    (hr2 : Region.ready .any l.toArray ((List.replicate n true ++ List.replicate (l.length - n) false).toArray.setIfInBounds n true) = [n + 1])
    (hr3 : Region.ready .any l.toArray (((List.replicate n true ++ List.replicate (l.length - n) false).toArray.setIfInBounds n true).setIfInBounds (n + 1) true) = [])
    (hA : ∀ ρ, ((∃ k, ρ = w.drewN k) ∨ ∃ k Y, ρ = (w.alloc Y).drewN k) → wpQuiet P l.toArray (fun w' => ∃ k, w' = ρ.drewN k) (fun a' => a' = aF) (l.take n) a)
    (ha : ∀ W : World, (execOp aF.eval oa).run P W = .ok (.value (.pointer (some ⟨W.heap.size, 0, none⟩))) (W.alloc X))
    (hst : ∀ W : World, (execOp (aF.put (some t) (.pointer (some ⟨W.heap.size, 0, none⟩))).eval os).run P (W.alloc X) = .ok .skip (W.alloc X'))
    (hK : ∀ k, Q .normal (aF.put (some t) (.pointer (some ⟨w.heap.size, 0, none⟩))) ((w.alloc X').drewN k)) : (Code.region id l.toArray true).wp P Q a w := by
  have hl2 : l.length - n = 2 := by omega
  refine wp_region_mix (aF := aF) n (fun w' => ∃ k, w' = w.drewN k) (fun w' => (∃ k, w' = w.drewN k) ∨ ∃ k Y, w' = (w.alloc Y).drewN k) (fun w w' => ∃ k, w' = w.drewN k) hm (by omega) hs hB hd (fun w => ⟨0, rfl⟩) ?_ (fun _ h => .inl h) ⟨1, rfl⟩ hA ?_
  · rintro w1 w2 ⟨k, rfl⟩ ⟨m, rfl⟩
    exact ⟨k + m, World.drewN_drewN _ _ _⟩
  · rw [hl2] at hr1 hr2 hr3 ⊢
    refine wpU_one (i := n) hr1 (by simpa using hoa) (by unfold Region.wanted; rw [hga]) (fun v w' => v = .pointer (some ⟨w.heap.size, 0, none⟩) ∧ ∃ k, w' = (w.drewN k).alloc X) ?_ ?_ ?_ ?_
    · rintro v w1 w2 ⟨rfl, k, rfl⟩ ⟨m, rfl⟩
      exact ⟨rfl, k + m, by rw [← World.drewN_drewN]; rfl⟩
    · rintro v w1 ⟨rfl, k, rfl⟩
      exact .inr ⟨k, X, rfl⟩
    · rintro w1 ⟨k, rfl⟩
      rw [ha (w.drewN k)]
      exact ⟨rfl, k, rfl⟩
    · rintro v w1 ⟨rfl, _⟩
      rw [hda]
      refine wpU_one (i := n + 1) hr2 (by simpa using hos) (by unfold Region.wanted; rw [hgs]) (fun v w' => ∃ k, w' = (w.drewN k).alloc X') ?_ ?_ ?_ ?_
      · rintro v w1 w2 ⟨k, rfl⟩ ⟨m, rfl⟩
        exact ⟨k + m, by rw [← World.drewN_drewN]; rfl⟩
      · rintro v w1 ⟨k, rfl⟩
        exact .inr ⟨k, X', rfl⟩
      · rintro w1 ⟨_, k, rfl⟩
        have := hst (w.drewN k)
        rw [show (w.drewN k).heap.size = w.heap.size from rfl] at this
        rw [this]
        exact ⟨k, rfl⟩
      · intro v w1 _
        rw [hds]
        exact wpU_end hr3 (fun w2 ⟨k, hk⟩ => by rw [hk]; exact hK k)
theorem wanted_of {o : Oper} {i : Nat} {b g : Bool} {a : Act} (hg : o.guard = some (i, b)) (hy : yielded ops a.tmps i = some g) : Region.wanted o (yielded ops a.tmps) = (g == b) := by
  unfold Region.wanted
  rw [hg]
  show (yielded ops a.tmps i == some b) = _
  rw [hy]
  cases g <;> cases b <;> rfl
/-- 'g && b' in a lexical walk, g not decided: two guarded operations and the pick. -/
theorem quiet_and {C : World → Prop} {K : Act → Prop} {o1 o2 : Oper} {rest : List Oper} {a : Act} {i : Nat} {t1 t2 t3 c : Tmp} {g bb : Bool} {x1 : Value} {ty : TypeId} {pos : String} {af : Array Edge}
    (hg1 : o1.guard = some (i, true)) (hg2 : o2.guard = some (i, true)) (d1 : o1.dst = some t1) (d2 : o2.dst = some t2) (hi : (ops[i]?).bind (·.dst) = some c) (hc : a.tmps[c]? = some (.bool g))
    (n1 : t1 ≠ c) (n2 : t2 ≠ c) (hs : t2 < a.tmps.size) (h1 : ∀ w, C w → (execOp a.eval o1).run P w = .ok (.value x1) w)
    (h2 : ∀ w, C w → (execOp (a.put (some t1) x1).eval o2).run P w = .ok (.value (.bool bb)) w)
    (hK : wpQuiet P ops C K rest (((a.put (some t1) (if g then x1 else undef)).put (some t2) (if g then .bool bb else undef)).put (some t3) (.bool (g && bb)))) :
    wpQuiet P ops C K (o1 :: o2 :: ⟨some t3, .pick (.tmp c) (.tmp t2) (.const (.bool false)), ty, pos, af, none⟩ :: rest) a := by
  obtain ⟨dd1, op1, ty1, ps1, af1, gd1⟩ := o1
  obtain ⟨dd2, op2, ty2, ps2, af2, gd2⟩ := o2
  obtain rfl : dd1 = some t1 := d1
  obtain rfl : dd2 = some t2 := d2
  have y0 : yielded ops a.tmps i = some g := by unfold yielded; simp [hi, hc]
  have y1 : ∀ v, yielded ops (a.put (some t1) v).tmps i = some g := fun v => by
    unfold yielded
    rw [hi, Option.bind_some, put_get_ne _ _ _ _ (by simpa using n1), hc]
  have e1 : ∀ u v, ((a.put (some t1) u).put (some t2) v).eval (.tmp c) = .bool g := fun u v => by
    simp only [Act.eval, Array.getD_eq_getD_getElem?]
    rw [put_get_ne _ _ _ _ (by simpa using n2), put_get_ne _ _ _ _ (by simpa using n1), hc]
    rfl
  have e2 : ∀ u v, ((a.put (some t1) u).put (some t2) v).eval (.tmp t2) = v := fun u v => by
    simp only [Act.eval, Array.getD_eq_getD_getElem?]
    rw [put_get_self _ _ _ (by rw [put_size]; exact hs)]
    rfl
  cases g
  · refine wpQuiet_step fun K1 hK1 => ?_
    rw [if_neg (by rw [wanted_of hg1 y0]; decide)]
    refine hK1 _ (wpQuiet_step fun K2 hK2 => ?_)
    rw [if_neg (by rw [wanted_of hg2 (y1 _)]; decide)]
    refine hK2 _ (wpQuiet_step fun K3 hK3 => ?_)
    rw [if_pos (by rfl)]
    refine ⟨.bool false, fun w _ => ?_, hK3 _ hK⟩
    unfold Oper.quietAt
    simp only [execOp, e1]
    exact ⟨rfl, rfl⟩
  · refine wpQuiet_step fun K1 hK1 => ?_
    rw [if_pos (by rw [wanted_of hg1 y0]; decide)]
    refine ⟨x1, fun w hw => by unfold Oper.quietAt; rw [h1 w hw]; exact ⟨rfl, rfl⟩, hK1 _ (wpQuiet_step fun K2 hK2 => ?_)⟩
    rw [if_pos (by rw [wanted_of hg2 (y1 _)]; decide)]
    refine ⟨.bool bb, fun w hw => by unfold Oper.quietAt; rw [h2 w hw]; exact ⟨rfl, rfl⟩, hK2 _ (wpQuiet_step fun K3 hK3 => ?_)⟩
    rw [if_pos (by rfl)]
    refine ⟨.bool bb, fun w _ => ?_, hK3 _ (by simpa using hK)⟩
    unfold Oper.quietAt
    simp only [execOp, e1, e2]
    exact ⟨rfl, rfl⟩
/-- 'g || b' in a lexical walk, g not decided. -/
theorem quiet_or {C : World → Prop} {K : Act → Prop} {o1 o2 : Oper} {rest : List Oper} {a : Act} {i : Nat} {t1 t2 t3 c : Tmp} {g bb : Bool} {x1 : Value} {ty : TypeId} {pos : String} {af : Array Edge}
    (hg1 : o1.guard = some (i, false)) (hg2 : o2.guard = some (i, false)) (d1 : o1.dst = some t1) (d2 : o2.dst = some t2) (hi : (ops[i]?).bind (·.dst) = some c) (hc : a.tmps[c]? = some (.bool g))
    (n1 : t1 ≠ c) (n2 : t2 ≠ c) (hs : t2 < a.tmps.size) (h1 : ∀ w, C w → (execOp a.eval o1).run P w = .ok (.value x1) w)
    (h2 : ∀ w, C w → (execOp (a.put (some t1) x1).eval o2).run P w = .ok (.value (.bool bb)) w)
    (hK : wpQuiet P ops C K rest (((a.put (some t1) (if g then undef else x1)).put (some t2) (if g then undef else .bool bb)).put (some t3) (.bool (g || bb)))) :
    wpQuiet P ops C K (o1 :: o2 :: ⟨some t3, .pick (.tmp c) (.const (.bool true)) (.tmp t2), ty, pos, af, none⟩ :: rest) a := by
  obtain ⟨dd1, op1, ty1, ps1, af1, gd1⟩ := o1
  obtain ⟨dd2, op2, ty2, ps2, af2, gd2⟩ := o2
  obtain rfl : dd1 = some t1 := d1
  obtain rfl : dd2 = some t2 := d2
  have y0 : yielded ops a.tmps i = some g := by unfold yielded; simp [hi, hc]
  have y1 : ∀ v, yielded ops (a.put (some t1) v).tmps i = some g := fun v => by
    unfold yielded
    rw [hi, Option.bind_some, put_get_ne _ _ _ _ (by simpa using n1), hc]
  have e1 : ∀ u v, ((a.put (some t1) u).put (some t2) v).eval (.tmp c) = .bool g := fun u v => by
    simp only [Act.eval, Array.getD_eq_getD_getElem?]
    rw [put_get_ne _ _ _ _ (by simpa using n2), put_get_ne _ _ _ _ (by simpa using n1), hc]
    rfl
  have e2 : ∀ u v, ((a.put (some t1) u).put (some t2) v).eval (.tmp t2) = v := fun u v => by
    simp only [Act.eval, Array.getD_eq_getD_getElem?]
    rw [put_get_self _ _ _ (by rw [put_size]; exact hs)]
    rfl
  cases g
  · refine wpQuiet_step fun K1 hK1 => ?_
    rw [if_pos (by rw [wanted_of hg1 y0]; decide)]
    refine ⟨x1, fun w hw => by unfold Oper.quietAt; rw [h1 w hw]; exact ⟨rfl, rfl⟩, hK1 _ (wpQuiet_step fun K2 hK2 => ?_)⟩
    rw [if_pos (by rw [wanted_of hg2 (y1 _)]; decide)]
    refine ⟨.bool bb, fun w hw => by unfold Oper.quietAt; rw [h2 w hw]; exact ⟨rfl, rfl⟩, hK2 _ (wpQuiet_step fun K3 hK3 => ?_)⟩
    rw [if_pos (by rfl)]
    refine ⟨.bool bb, fun w _ => ?_, hK3 _ (by simpa using hK)⟩
    unfold Oper.quietAt
    simp only [execOp, e1, e2]
    exact ⟨rfl, rfl⟩
  · refine wpQuiet_step fun K1 hK1 => ?_
    rw [if_neg (by rw [wanted_of hg1 y0]; decide)]
    refine hK1 _ (wpQuiet_step fun K2 hK2 => ?_)
    rw [if_neg (by rw [wanted_of hg2 (y1 _)]; decide)]
    refine hK2 _ (wpQuiet_step fun K3 hK3 => ?_)
    rw [if_pos (by rfl)]
    refine ⟨.bool true, fun w _ => ?_, hK3 _ hK⟩
    unfold Oper.quietAt
    simp only [execOp, e1]
    exact ⟨rfl, rfl⟩
open Go.RowKit in
theorem below_drewN (B : Nat) (w : World) (k : Nat) : Below B w (w.drewN k) := ⟨rfl, rfl, rfl, Nat.le_refl _, fun _ _ => rfl⟩
end
end Go.Mix
/- A region that draws its order: quiet operations and calls, then an append of new elements to a row of the call's own, and an assignment. -/
namespace Go.Mix
open Go.RowKit
theorem wp_region_app {P : Program} {Q : Exit → Act → World → Prop} {id : Nat} {a : Act} {w : World} {l : List Oper} (n : Nat) (ob oa os : Oper) {aF : Act} (hm : P.follows .mixedOrders = true)
    (hlen : l.length = n + 3) (hs : Region.noSelect l.toArray = true) (hB : lexTo .any l.toArray n 0 (Array.replicate l.length false) = some (List.replicate n true ++ List.replicate (l.length - n) false).toArray)
    (hd : dstsB a.tmps.size (l.take n) [] = true) (h1 : l[n]? = some ob) (h2 : l[n + 1]? = some oa) (h3 : l[n + 2]? = some os) (g1 : ob.guard = none) (g2 : oa.guard = none) (g3 : os.guard = none)
    (hr0 : Region.ready .any l.toArray (List.replicate n true ++ List.replicate 3 false).toArray = [n])
    (hr1 : Region.ready .any l.toArray ((List.replicate n true ++ List.replicate 3 false).toArray.setIfInBounds n true) = [n + 1])
    (hr2 : Region.ready .any l.toArray (((List.replicate n true ++ List.replicate 3 false).toArray.setIfInBounds n true).setIfInBounds (n + 1) true) = [n + 2])
    (hr3 : Region.ready .any l.toArray ((((List.replicate n true ++ List.replicate 3 false).toArray.setIfInBounds n true).setIfInBounds (n + 1) true).setIfInBounds (n + 2) true) = [])
    (hA : ∀ ρ : World, wpQuiet P l.toArray (fun w' => ∃ n, w' = ρ.drewN n) (fun a' => a' = aF) (l.take n) a)
    (cs : Array Value) (e : TypeId) (m c : Nat)
    (hb : ∀ W : World, (execOp aF.eval ob).run P W = .ok (.value (.slice (some ⟨W.heap.size, 0, none⟩) m c)) (W.alloc (.cells cs e)))
    (s x : Operand) (t : TypeId) (ho : oa.op = .call { callee := .builtin .append, args := #[s, x], argTypes := #[t, t] }) (base : Nat) (i : TypeInfo) (z : Value) (size bytes : Nat) (ht : P.underlying t = some (.slice e)) (hi : P.info? e = some i) (hz : i.zero = some z)
    (hsize : i.size = size) (hby : i.bytes = bytes) (hzs : z.cells.size = size) (hsz : 0 < size) (v : Value) (k : Nat) (xs : List Value) (hown : w.ownsRow base e size v k xs)
    (hsv : ∀ bv, (aF.put ob.dst bv).eval s = v) (hx : ∀ bv, (aF.put ob.dst bv).eval x = bv) (hl : cs.size = m * size) (hone : ∀ u ∈ cs.toList, u.oneCell' = true) (h63 : k + m ≤ maxLen) (hbytes : (k + m) * bytes ≤ 140737488355328) (hbase : base ≤ w.heap.size)
    (hos : ∀ bv v' W, (execOp ((aF.put ob.dst bv).put oa.dst v').eval os).run P W = .ok (.value v') W)
    (hK : ∀ v' W, W.ownsRow base e size v' (k + m) (xs ++ cs.toList) → Below base w W → Q .normal (((aF.put ob.dst (.slice (some ⟨w.heap.size, 0, none⟩) m c)).put oa.dst v').put os.dst v') W) : (Code.region id l.toArray true).wp P Q a w := by
  have kl : ∀ (W W' : World), (∃ n, W' = W.drewN n) → W'.heap = W.heap ∧ (Below base w W → Below base w W') := by
    rintro W _ ⟨n, rfl⟩
    exact ⟨rfl, fun h => ⟨h.os, h.tape, h.output, h.size, h.block⟩⟩
  have ko : ∀ (W W' : World) (v : Value) (k : Nat) (xs : List Value), W'.heap = W.heap → W.ownsRow base e size v k xs → W'.ownsRow base e size v k xs := by
    intro W W' v k xs h1 h2
    unfold World.ownsRow at *
    rw [h1]; exact h2
  refine wp_region_mix (aF := aF) n (fun W => W.heap = w.heap ∧ Below base w W) (fun _ => True) (fun w w' => ∃ n, w' = w.drewN n) hm (by omega) hs hB hd (fun w => ⟨0, rfl⟩) (fun W W' h h' => ⟨(kl W W' h').1.trans h.1, (kl W W' h').2 h.2⟩) (fun _ _ => trivial) ⟨rfl, (Below.refl base w).drew⟩ (fun ρ _ => hA ρ) ?_
  rw [show l.length - n = 3 by omega]
  refine wpU_one hr0 (by simpa using h1) (by unfold Region.wanted; rw [g1]) (fun bv W => bv = .slice (some ⟨w.heap.size, 0, none⟩) m c ∧ W.heap = w.heap.push (.cells cs e) ∧ Below base w W) (fun _ W W' h h' => ⟨h.1, (kl W W' h').1.trans h.2.1, (kl W W' h').2 h.2.2⟩) (fun _ _ _ => trivial) ?_ ?_
  · rintro W ⟨hh, hbw⟩
    rw [hb]
    exact ⟨by rw [hh], by show W.heap.push _ = _; rw [hh], hbw.alloc (by rw [hh]; exact hbase) _⟩
  rintro bv W ⟨rfl, -, -⟩
  refine wpU_one hr1 (by simpa using h2) (by unfold Region.wanted; rw [g2]) (fun v' W => W.ownsRow base e size v' (k + m) (xs ++ cs.toList) ∧ Below base w W) (fun _ W W' h h' => ⟨ko W W' _ _ _ (kl W W' h').1 h.1, (kl W W' h').2 h.2⟩) (fun _ _ _ => trivial) ?_ ?_
  · rintro W ⟨-, hh, hbw⟩
    have hsz2 : W.heap.size = w.heap.size + 1 := by rw [hh]; simp
    have hown2 : W.ownsRow base e size v k xs := ko (w.alloc (.cells cs e)) W _ _ _ hh (World.ownsRow.alloc (w := w) hown _)
    obtain ⟨v', w', hr, q2, q3, -⟩ := run_append_own (P := P) W base t oa.type e i z size bytes ht hi hz hsize hby hzs hsz v k xs hown2 ⟨w.heap.size, 0, none⟩ m c cs.toList (by simpa using hl) (by
      intro j u hj
      have e1 : (⟨w.heap.size, 0, none⟩ : Addr).add j = ⟨w.heap.size, j, none⟩ := by unfold Addr.add; split <;> simp_all
      have e2 : W.heap[w.heap.size]? = some (.cells cs e) := by rw [hh]; simp
      rw [e1]
      simp only [World.cell?, e2]
      simpa using hj) hone h63 hbytes (by omega)
    have e1 := hsv (.slice (some ⟨w.heap.size, 0, none⟩) m c)
    have e2 := hx (.slice (some ⟨w.heap.size, 0, none⟩) m c)
    unfold execOp
    simp only [ho, resolve, invoke, builtin, Sem.run_bind, Sem.run_pure, Result.andThen_ok, List.map_toArray, List.map_cons, List.map_nil, e1, e2, hr]
    exact ⟨q2, hbw.grown q3 (by omega) (fun b hb => (World.ownsRow.lt hown b hb).1)⟩
  · rintro v' W ⟨q1, q2⟩
    refine wpU_one hr2 (by simpa using h3) (by unfold Region.wanted; rw [g3]) (fun u W => u = v' ∧ W.ownsRow base e size v' (k + m) (xs ++ cs.toList) ∧ Below base w W) (fun _ W W' h h' => ⟨h.1, ko W W' _ _ _ (kl W W' h').1 h.2.1, (kl W W' h').2 h.2.2⟩) (fun _ _ _ => trivial) ?_ ?_
    · rintro W ⟨p1, p2⟩
      rw [hos]
      exact ⟨rfl, p1, p2⟩
    · rintro u W ⟨rfl, p1, p2⟩
      exact wpU_end hr3 (fun W ⟨_, p1, p2⟩ => hK _ W p1 p2)
end Go.Mix
/- A region that draws its order: operations that read, then ONE call, then operations on slots alone. -/
namespace Go.Mix
open Go.RowKit
theorem wp_region_call {P : Program} {Q : Exit → Act → World → Prop} {id : Nat} {a : Act} {w : World} {l : List Oper} (n m : Nat) (oc : Oper) {aF aG : Act} (D R : World → Prop) (v0 : Value) (f : FuncId) (args : Array Value) (hm : P.follows .mixedOrders = true)
    (hlen : l.length = n + 1 + m) (hs : Region.noSelect l.toArray = true) (hB : lexTo .any l.toArray n 0 (Array.replicate l.length false) = some (List.replicate n true ++ List.replicate (l.length - n) false).toArray)
    (hd : dstsB a.tmps.size (l.take n) [] = true) (h1 : l[n]? = some oc) (g1 : oc.guard = none)
    (hr0 : Region.ready .any l.toArray (List.replicate n true ++ List.replicate (l.length - n) false).toArray = [n])
    (hB2 : lexTo .any l.toArray m (n + 1) ((List.replicate n true ++ List.replicate (l.length - n) false).toArray.setIfInBounds n true) = some (Array.replicate l.length true))
    (hr2 : Region.ready .any l.toArray (Array.replicate l.length true) = []) (hd2 : dstsB a.tmps.size (l.drop (n + 1)) [] = true)
    (hDw : ∀ k, D (w.drewN k)) (hRT : ∀ W k, R W → R (W.drewN k)) (hRD : ∀ W, R W → D W)
    (hA : ∀ ρ : World, D ρ → wpQuiet P l.toArray (fun w' => ∃ n, w' = ρ.drewN n) (fun a' => a' = aF) (l.take n) a) (hsize : (aF.put oc.dst v0).tmps.size = a.tmps.size)
    (hc : ∀ W : World, (execOp aF.eval oc).run P W = .ok (.enter f args) W)
    (hC : ∀ k, Calls P f args (w.drewN k) fun e W => e = .returned v0 ∧ R W)
    (hA2 : ∀ ρ : World, wpQuiet P l.toArray (fun w' => ∃ n, w' = ρ.drewN n) (fun a' => a' = aG) (l.drop (n + 1)) (aF.put oc.dst v0))
    (hK : ∀ W, R W → Q .normal aG W) : (Code.region id l.toArray true).wp P Q a w := by
  refine wp_region_mix (aF := aF) n (fun W => ∃ k, W = w.drewN k) D (fun w w' => ∃ n, w' = w.drewN n) hm (by omega) hs hB hd (fun w => ⟨0, rfl⟩) ?_ ?_ ⟨1, rfl⟩ (fun ρ hρ => hA ρ hρ) ?_
  · rintro _ _ ⟨k, rfl⟩ ⟨j, rfl⟩
    exact ⟨k + j, by simp [World.drewN, Nat.add_assoc]⟩
  · rintro _ ⟨k, rfl⟩; exact hDw k
  rw [show l.length - n = m + 1 by omega]
  rw [show l.length - n = m + 1 by omega] at hr0 hB2
  refine wpU_one hr0 (by simpa using h1) (by unfold Region.wanted; rw [g1]) (fun v W => v = v0 ∧ R W) ?_ (fun _ W h => hRD W h.2) ?_ ?_
  · rintro v W _ hr ⟨k, rfl⟩; exact ⟨hr.1, hRT W k hr.2⟩
  · rintro _ ⟨k, rfl⟩
    rw [hc]
    exact (hC k).mono fun e W ⟨h1, h2⟩ => ⟨v0, h1, rfl, h2⟩
  · rintro v W ⟨rfl, hr⟩
    have := wpU_lex (P := P) (md := .any) (ops := l.toArray) (Q := Q) (T := fun w w' => ∃ n, w' = w.drewN n) (D := D) hs (fun w => ⟨0, rfl⟩) (C := fun W => v = v ∧ R W) (by rintro W _ hr ⟨k, rfl⟩; exact ⟨rfl, hRT W k hr.2⟩) (fun W h => hRD W h.2) ⟨_, hRD W hr⟩ (aF := aG) (f := 0) (listed' := Array.replicate l.length true)
      (l.drop (n + 1)) (n + 1) _ (aF.put oc.dst v) [] (fun j hj => by simp) (by rw [show (l.drop (n + 1)).length = m by simp; omega]; exact hB2) (by rw [hsize]; exact hd2) (fun ρ _ => hA2 ρ) (wpU_end hr2 (fun W hW => hK W hW.2))
    rw [show (l.drop (n + 1)).length = m by simp; omega] at this
    simpa using this
end Go.Mix
/- A region that draws its order, by an invariant over what has been listed: one step for each operation, whatever has come before it. -/
namespace Go.Proofs.YtneohoclgnfdcaaGreatDoor
open Go
section
variable {P : Program} {ops : Array Oper} {Q : Exit → Act → World → Prop} {md : Region.Mode}
/-- each operation comes after earlier ones alone -/
def edgesB (ops : Array Oper) : Bool := (List.range ops.size).all fun j => ((ops[j]?).map fun o => o.after.all fun e => decide (e.on < j)).getD true
theorem edges_of {ops : Array Oper} (h : edgesB ops = true) {j : Nat} {o : Oper} (ho : ops[j]? = some o) : ∀ e ∈ o.after, e.on < j := by
  unfold edgesB at h
  have h1 := List.all_eq_true.1 h j (List.mem_range.2 (Array.getElem?_eq_some_iff.1 ho).1)
  rw [ho] at h1
  simp only [Option.map_some, Option.getD_some, Array.all_eq_true_iff_forall_mem] at h1
  exact fun e he => of_decide_eq_true (h1 e he)
theorem all_listed {L : Array Bool} (hE : edgesB ops = true) (hr : Region.ready md ops L = []) : ∀ i, i < ops.size → L.getD i true = true := by
  intro i
  induction i using Nat.strongRecOn with
  | ind i ih =>
    intro hi
    cases hL : L.getD i true with
    | true => rfl
    | false =>
      exfalso
      have : i ∈ Region.ready md ops L := mem_ready.2 ⟨hL, ops[i], Array.getElem?_eq_getElem hi, fun e he _ => by
        have hlt := edges_of hE (Array.getElem?_eq_getElem hi) e he
        have h1 := ih e.on hlt (Nat.lt_trans hlt hi)
        have hsz : e.on < L.size := by
          rcases Nat.lt_or_ge e.on L.size with h | h
          · exact h
          · have h2 : i ≥ L.size := by omega
            rw [Array.getD_eq_getD_getElem?, Array.getElem?_eq_none h2] at hL
            cases hL
        rw [Array.getD_eq_getD_getElem?, Array.getElem?_eq_getElem hsz] at h1 ⊢
        exact h1⟩
      rw [hr] at this
      cases this
theorem wpAny_inv {I : Array Bool → Act → World → Prop} (hE : edgesB ops = true)
    (hstep : ∀ (i : Nat) (o : Oper) (L : Array Bool) (a : Act) (w : World) (K : Act → World → Prop), ops[i]? = some o → L.size = ops.size → L.getD i true = false → (∀ e ∈ o.after, Region.binds md e = true → L.getD e.on false = true) → I L a w →
      (∀ a' w', I (L.setIfInBounds i true) a' w' → K a' w') → wpOp P ops Q i K a w)
    (hend : ∀ (L : Array Bool) (a : Act) (w : World), (∀ i, i < ops.size → L.getD i true = true) → I L a w → Q .normal a w) :
    ∀ (fuel : Nat) (L : Array Bool) (a : Act) (w : World), L.size = ops.size → L.toList.count false ≤ fuel → I L a w → wpAny P md ops Q fuel L a w
  | 0, L, a, w, hs, hc, hI => by
    have hall : ∀ i, i < ops.size → L.getD i true = true := by
      intro i hi
      cases hL : L.getD i true with
      | true => rfl
      | false =>
        exfalso
        have h0 : L.toList.count false = 0 := Nat.le_zero.1 hc
        have hlt : i < L.size := by rw [hs]; exact hi
        refine List.count_eq_zero.1 h0 ?_
        rw [Array.getD_eq_getD_getElem?, Array.getElem?_eq_getElem hlt] at hL
        have hL : L[i] = false := hL
        rw [← hL]
        exact Array.getElem_mem_toList hlt
    refine ⟨?_, hend L a w hall hI⟩
    cases hr : Region.ready md ops L with
    | nil => rfl
    | cons i r =>
      have hm : i ∈ Region.ready md ops L := by rw [hr]; exact List.mem_cons_self ..
      obtain ⟨h1, o, ho, -⟩ := mem_ready.1 hm
      rw [hall i (Array.getElem?_eq_some_iff.1 ho).1] at h1
      cases h1
  | fuel + 1, L, a, w, hs, hc, hI => by
    refine ⟨fun hr => hend L a w (all_listed hE hr) hI, fun i hi => ?_⟩
    obtain ⟨h1, o, ho, h2⟩ := mem_ready.1 hi
    refine hstep i o L a w _ ho hs h1 h2 hI fun a' w' hI' => ?_
    refine wpAny_inv hE hstep hend fuel _ a' w' (by simpa using hs) ?_ hI'
    have hlt : i < L.toList.length := by rw [Array.length_toList, hs]; exact (Array.getElem?_eq_some_iff.1 ho).1
    have hLi : L.toList[i] = false := by
      rw [Array.getD_eq_getD_getElem?, Array.getElem?_eq_getElem (by simpa using hlt)] at h1
      simpa using h1
    rw [Array.toList_setIfInBounds, List.count_set hlt, hLi]
    have hp : 0 < L.toList.count false := List.count_pos_iff.2 (by rw [← hLi]; exact List.getElem_mem hlt)
    simp only [beq_self_eq_true, if_true]
    have : ((true == false) = true) = False := by simp
    simp only [this, if_false]
    omega
theorem wp_region_inv {id : Nat} {a : Act} {w : World} (hm : P.follows .mixedOrders = true) (I : Array Bool → Act → World → Prop) (hE : edgesB ops = true)
    (h0 : I (Array.replicate ops.size false) a w.drew)
    (hstep : ∀ (i : Nat) (o : Oper) (L : Array Bool) (a : Act) (w : World) (K : Act → World → Prop), ops[i]? = some o → L.size = ops.size → L.getD i true = false → (∀ e ∈ o.after, Region.binds .any e = true → L.getD e.on false = true) → I L a w →
      (∀ a' w', I (L.setIfInBounds i true) a' w' → K a' w') → wpOp P ops Q i K a w)
    (hend : ∀ (L : Array Bool) (a : Act) (w : World), (∀ i, i < ops.size → L.getD i true = true) → I L a w → Q .normal a w) : (Code.region id ops true).wp P Q a w :=
  wp_region_any hm (wpAny_inv hE hstep hend _ _ _ _ (by simp) (by simp) h0)
end
end Go.Proofs.YtneohoclgnfdcaaGreatDoor
/-
  DERIVED: THE SHELF's CONTRACTS AT THIS DUMP, IN PLAIN WORDS (tools/lay-plain.mjs out of 'TryzShelf.lean', which tools/lay-shelf.mjs wrote): THE SAME DECLARATIONS UNDER THE SAME NAMES: 'import', 'namespace', 'open', 'def', 'theorem' AND NOTHING ELSE: no command of the shelf's: FOR A HAND-IN. Each laying: the table of numbers ('.._ren') and one theorem, a field a fact of the dump's own or the kernel's comparison; each contract: ONE APPLICATION.
-/
namespace Go.Proofs
open Go.Shelf
def Tryz.lays170_ren : Go.Shelf.Ren := ⟨fun | 170 => 112 | n => n, fun | 70 => 57 | 3 => 3 | 0 => 0 | 72 => 59 | 37 => 37 | 5 => 5 | n => n, fun | n => n⟩
theorem Tryz.lays170 : Go.Proofs.Lays.n170 Tryz.prog Tryz.lays170_ren := {
  mixed := by kernel_rfl
  f170 := Tryz.func112.trans (congrArg some (by kernel_rfl))
  t0 := Tryz.underlying0
  a0 := Tryz.isAgg0
  z0 := Tryz.sizeOf0
  v0 := Tryz.zeroValue0
  t3 := Tryz.underlying3
  a3 := Tryz.isAgg3
  z3 := Tryz.sizeOf3
  v3 := Tryz.zeroValue3
  t37 := Tryz.underlying37
  a37 := Tryz.isAgg37
  z37 := Tryz.sizeOf37
  v37 := Tryz.zeroValue37
  t70 := Tryz.underlying57
  a70 := Tryz.isAgg57
  z70 := Tryz.sizeOf57
  v70 := Tryz.zeroValue57
  t72 := Tryz.underlying59
  a72 := Tryz.isAgg59
  z72 := Tryz.sizeOf59
  v72 := Tryz.zeroValue59 }
open Go.RowKit in
/-- (*strings.Builder).Len: "Len returns the number of accumulated bytes; b.Len() == len(b.String()).": the world is as it was. (LAID: no walk: one application.) -/
theorem Tryz.Builder_Len (B b : Nat) (bs : List Value) (w : World) (h : Lib.IsBuilder 59 5 B b bs w) :
    Calls Tryz.prog 112 #[.pointer (some ⟨b, 0, none⟩)] w fun e w' => e = .returned (.int .i64 bs.length) ∧ w' = w := Any.Builder_Len Tryz.lays170 B b bs w h
def Tryz.lays169_ren : Go.Shelf.Ren := ⟨fun | 169 => 24 | n => n, fun | 70 => 57 | 9 => 9 | 0 => 0 | 72 => 59 | 37 => 37 | 127 => 90 | 3 => 3 | 5 => 5 | n => n, fun | n => n⟩
theorem Tryz.lays169 : Go.Proofs.Lays.n169 Tryz.prog Tryz.lays169_ren := {
  mixed := by kernel_rfl
  f169 := Tryz.func24.trans (congrArg some (by kernel_rfl))
  t0 := Tryz.underlying0
  a0 := Tryz.isAgg0
  z0 := Tryz.sizeOf0
  v0 := Tryz.zeroValue0
  t3 := Tryz.underlying3
  a3 := Tryz.isAgg3
  z3 := Tryz.sizeOf3
  v3 := Tryz.zeroValue3
  t9 := Tryz.underlying9
  a9 := Tryz.isAgg9
  z9 := Tryz.sizeOf9
  v9 := Tryz.zeroValue9
  t37 := Tryz.underlying37
  a37 := Tryz.isAgg37
  z37 := Tryz.sizeOf37
  v37 := Tryz.zeroValue37
  t70 := Tryz.underlying57
  a70 := Tryz.isAgg57
  z70 := Tryz.sizeOf57
  v70 := Tryz.zeroValue57
  t72 := Tryz.underlying59
  a72 := Tryz.isAgg59
  z72 := Tryz.sizeOf59
  v72 := Tryz.zeroValue59
  t127 := Tryz.underlying90
  a127 := Tryz.isAgg90
  z127 := Tryz.sizeOf90
  v127 := Tryz.zeroValue90 }
theorem Tryz.Builder_Extra_169 : Builder.Extra Tryz.prog Tryz.lays169_ren := {
  sizeBuilder := by kernel_rfl
  liesBuilder := by kernel_rfl
  t5 := Tryz.underlying5
  a5 := Tryz.isAgg5
  z5 := Tryz.sizeOf5
  v5 := Tryz.zeroValue5
  infoByte := by kernel_rfl
  cellsByte := by kernel_rfl
  sizeByte := by kernel_rfl
  neB5 := by decide }
open Go.RowKit in
/-- (*strings.Builder).String: "String returns the accumulated string.": WHATEVER THE BUILDER HOLDS. (LAID: no walk: one application.) -/
theorem Tryz.Builder_String_any (B b : Nat) (l : List UInt8) (w : World) (h : Lib.IsBuilder 59 5 B b (Lib.byteCells l) w) (hBw : B ≤ w.heap.size) :
    Calls Tryz.prog 24 #[.pointer (some ⟨b, 0, none⟩)] w fun e w' => e = .returned (.string ⟨l.toArray⟩) ∧ Below B w w' := Any.Builder_String_any Tryz.lays169 Tryz.Builder_Extra_169 B b l w h hBw
def Tryz.lays156_ren : Go.Shelf.Ren := ⟨fun | 156 => 19 | 165 => 38 | 166 => 18 | 169 => 24 | 240 => 37 | 241 => 64 | 276 => 63 | 277 => 95 | n => n, fun | 31 => 53 | 9 => 9 | 3 => 3 | 4 => 4 | 0 => 0 | 20 => 20 | 72 => 59 | 76 => 62 | 70 => 57 | 37 => 37 | 75 => 61 | 127 => 90 | 164 => 111 | 5 => 5 | 80 => 73 | n => n, fun | n => n⟩
theorem Tryz.lays156 : Go.Proofs.Lays.n156 Tryz.prog Tryz.lays156_ren := {
  mixed := by kernel_rfl
  f156 := Tryz.func19.trans (congrArg some (by kernel_rfl))
  f165 := Tryz.func38.trans (congrArg some (by kernel_rfl))
  f166 := Tryz.func18.trans (congrArg some (by kernel_rfl))
  f169 := Tryz.func24.trans (congrArg some (by kernel_rfl))
  f240 := Tryz.func37.trans (congrArg some (by kernel_rfl))
  f241 := Tryz.func64.trans (congrArg some (by kernel_rfl))
  f276 := Tryz.func63.trans (congrArg some (by kernel_rfl))
  f277 := Tryz.func95.trans (congrArg some (by kernel_rfl))
  t0 := Tryz.underlying0
  a0 := Tryz.isAgg0
  z0 := Tryz.sizeOf0
  v0 := Tryz.zeroValue0
  t3 := Tryz.underlying3
  a3 := Tryz.isAgg3
  z3 := Tryz.sizeOf3
  v3 := Tryz.zeroValue3
  t4 := Tryz.underlying4
  a4 := Tryz.isAgg4
  z4 := Tryz.sizeOf4
  v4 := Tryz.zeroValue4
  t9 := Tryz.underlying9
  a9 := Tryz.isAgg9
  z9 := Tryz.sizeOf9
  v9 := Tryz.zeroValue9
  t20 := Tryz.underlying20
  a20 := Tryz.isAgg20
  z20 := Tryz.sizeOf20
  v20 := Tryz.zeroValue20
  t31 := Tryz.underlying53
  a31 := Tryz.isAgg53
  z31 := Tryz.sizeOf53
  v31 := Tryz.zeroValue53
  t37 := Tryz.underlying37
  a37 := Tryz.isAgg37
  z37 := Tryz.sizeOf37
  v37 := Tryz.zeroValue37
  t70 := Tryz.underlying57
  a70 := Tryz.isAgg57
  z70 := Tryz.sizeOf57
  v70 := Tryz.zeroValue57
  t72 := Tryz.underlying59
  a72 := Tryz.isAgg59
  z72 := Tryz.sizeOf59
  v72 := Tryz.zeroValue59
  t75 := Tryz.underlying61
  a75 := Tryz.isAgg61
  z75 := Tryz.sizeOf61
  v75 := Tryz.zeroValue61
  t76 := Tryz.underlying62
  a76 := Tryz.isAgg62
  z76 := Tryz.sizeOf62
  v76 := Tryz.zeroValue62
  t127 := Tryz.underlying90
  a127 := Tryz.isAgg90
  z127 := Tryz.sizeOf90
  v127 := Tryz.zeroValue90
  t164 := Tryz.underlying111
  a164 := Tryz.isAgg111
  z164 := Tryz.sizeOf111
  v164 := Tryz.zeroValue111 }
theorem Tryz.Builder_Extra_156 : Builder.Extra Tryz.prog Tryz.lays156_ren := {
  sizeBuilder := by kernel_rfl
  liesBuilder := by kernel_rfl
  t5 := Tryz.underlying5
  a5 := Tryz.isAgg5
  z5 := Tryz.sizeOf5
  v5 := Tryz.zeroValue5
  infoByte := by kernel_rfl
  cellsByte := by kernel_rfl
  sizeByte := by kernel_rfl
  neB5 := by decide }
open Go.RowKit in
/-- strings.Join: "Join concatenates the elements of its first argument to create a single string. The separator string sep is placed between elements in the resulting string.": HOWEVER MANY ELEMENTS. Below the heap's end the world is as it was. (LAID: no walk: one application.) -/
theorem Tryz.strings_Join (bk o c : Nat) (xs : List ByteArray) (sep : ByteArray) (w : World) (hcells : ∀ (j : Nat) x, xs[j]? = some x → w.cell? ⟨bk, o + j, none⟩ = some (.string x)) (hbk : bk < w.heap.size) (hN : xs.length ≤ 140737488355328) (hcap : xs.length ≤ c) (hlen : (Lib.join (xs.map (·.data.toList)) sep.data.toList).length ≤ 140737488355328) :
    Calls Tryz.prog 19 #[.slice (some ⟨bk, o, none⟩) xs.length c, .string sep] w fun e w' => e = .returned (.string ⟨(Lib.join (xs.map (·.data.toList)) sep.data.toList).toArray⟩) ∧ Below w.heap.size w w' := Any.strings_Join Tryz.lays156 Tryz.Builder_Extra_156 bk o c xs sep w hcells hbk hN hcap hlen
def Tryz.lays125_ren : Go.Shelf.Ren := ⟨fun | 125 => 100 | 128 => 142 | 129 => 143 | n => n, fun | 46 => 123 | 3 => 3 | 51 => 171 | 53 => 173 | 4 => 4 | 5 => 5 | 9 => 9 | n => n, fun | n => n⟩
theorem Tryz.lays125 : Go.Proofs.Lays.n125 Tryz.prog Tryz.lays125_ren := {
  mixed := by kernel_rfl
  f125 := Tryz.func100.trans (congrArg some (by kernel_rfl))
  f128 := Tryz.func142.trans (congrArg some (by kernel_rfl))
  f129 := Tryz.func143.trans (congrArg some (by kernel_rfl))
  t3 := Tryz.underlying3
  a3 := Tryz.isAgg3
  z3 := Tryz.sizeOf3
  v3 := Tryz.zeroValue3
  t4 := Tryz.underlying4
  a4 := Tryz.isAgg4
  z4 := Tryz.sizeOf4
  v4 := Tryz.zeroValue4
  t5 := Tryz.underlying5
  a5 := Tryz.isAgg5
  z5 := Tryz.sizeOf5
  v5 := Tryz.zeroValue5
  t9 := Tryz.underlying9
  a9 := Tryz.isAgg9
  z9 := Tryz.sizeOf9
  v9 := Tryz.zeroValue9
  t46 := Tryz.underlying123
  a46 := Tryz.isAgg123
  z46 := Tryz.sizeOf123
  v46 := Tryz.zeroValue123
  t51 := Tryz.underlying171
  a51 := Tryz.isAgg171
  z51 := Tryz.sizeOf171
  v51 := Tryz.zeroValue171
  t53 := Tryz.underlying173
  a53 := Tryz.isAgg173
  z53 := Tryz.sizeOf173
  v53 := Tryz.zeroValue173 }
/-- bits.Len: "Len returns the minimum number of bits required to represent x; the result is 0 for x == 0.": IT RETURNS 'Lib.bitLen x'; the world is as it was. (A uint has 64 bits in the model.) ITS CALLEE bits.Len64 IS MET BY ITS OWN CONTRACT OFF THE SHELF (lay that first). (LAID: no walk: one application.) -/
theorem Tryz.bits_Len (x : Int) (w : World) (h0 : 0 ≤ x) (h1 : x ≤ 18446744073709551615) :
    Calls Tryz.prog 100 #[.int .u64 x] w fun e w' => e = .returned (.int .i64 (Lib.bitLen x.toNat)) ∧ w' = w := Any.bits_Len Tryz.lays125 x w h0 h1
def Tryz.lays106_ren : Go.Shelf.Ren := ⟨fun | 106 => 69 | 213 => 101 | 265 => 144 | n => n, fun | 9 => 9 | 3 => 3 | n => n, fun | n => n⟩
theorem Tryz.lays106 : Go.Proofs.Lays.n106 Tryz.prog Tryz.lays106_ren := {
  mixed := by kernel_rfl
  f106 := Tryz.func69.trans (congrArg some (by kernel_rfl))
  f213 := Tryz.func101.trans (congrArg some (by kernel_rfl))
  f265 := Tryz.func144.trans (congrArg some (by kernel_rfl))
  t3 := Tryz.underlying3
  a3 := Tryz.isAgg3
  z3 := Tryz.sizeOf3
  v3 := Tryz.zeroValue3
  t9 := Tryz.underlying9
  a9 := Tryz.isAgg9
  z9 := Tryz.sizeOf9
  v9 := Tryz.zeroValue9 }
open Go.RowKit in
/-- strings.Compare: "Compare returns an integer comparing two strings lexicographically. The result will be 0 if a == b, -1 if a < b, and +1 if a > b.": IT RETURNS 'Lib.compareBytes a b'; the world is as it was. (LAID: no walk: one application.) -/
theorem Tryz.strings_Compare (a b : ByteArray) (w : World) :
    Calls Tryz.prog 69 #[.string a, .string b] w fun e w' => e = .returned (.int .i64 (Lib.compareBytes a.data.toList b.data.toList)) ∧ w' = w := Any.strings_Compare Tryz.lays106 a b w
def Tryz.lays137_ren : Go.Shelf.Ren := ⟨fun | 137 => 102 | 217 => 145 | 266 => 178 | n => n, fun | 9 => 9 | 5 => 5 | 3 => 3 | n => n, fun | n => n⟩
theorem Tryz.lays137 : Go.Proofs.Lays.n137 Tryz.prog Tryz.lays137_ren := {
  mixed := by kernel_rfl
  f137 := Tryz.func102.trans (congrArg some (by kernel_rfl))
  f217 := Tryz.func145.trans (congrArg some (by kernel_rfl))
  f266 := Tryz.func178.trans (congrArg some (by kernel_rfl))
  t3 := Tryz.underlying3
  a3 := Tryz.isAgg3
  z3 := Tryz.sizeOf3
  v3 := Tryz.zeroValue3
  t5 := Tryz.underlying5
  a5 := Tryz.isAgg5
  z5 := Tryz.sizeOf5
  v5 := Tryz.zeroValue5
  t9 := Tryz.underlying9
  a9 := Tryz.isAgg9
  z9 := Tryz.sizeOf9
  v9 := Tryz.zeroValue9 }
open Go.RowKit in
/-- strings.IndexByte: "IndexByte returns the index of the first instance of c in s, or -1 if c is not present in s.": IT RETURNS 'Lib.indexByte s c'; the world is as it was. (LAID: no walk: one application.) -/
theorem Tryz.strings_IndexByte (s : ByteArray) (c : Int) (w : World) :
    Calls Tryz.prog 102 #[.string s, .int .u8 c] w fun e w' => e = .returned (.int .i64 (Lib.indexByte s.data.toList c.toNat.toUInt8)) ∧ w' = w := Any.strings_IndexByte Tryz.lays137 s c w
def Tryz.lays172_ren : Go.Shelf.Ren := ⟨fun | 172 => 104 | 244 => 147 | 245 => 148 | 247 => 180 | 279 => 181 | 280 => 182 | 281 => 183 | 282 => 184 | 287 => 208 | 316 => 209 | 171 => 74 | 205 => 210 | 321 => 232 | 322 => 233 | 243 => 113 | 246 => 154 | 283 => 185 | 284 => 186 | 285 => 187 | 286 => 188 | 129 => 143 | 317 => 211 | 318 => 212 | 319 => 213 | 320 => 214 | 337 => 234 | 338 => 235 | n => n, fun | 9 => 9 | 3 => 3 | 75 => 61 | 76 => 62 | 4 => 4 | 5 => 5 | 167 => 218 | 37 => 37 | 0 => 0 | 85 => 219 | 2 => 2 | 168 => 221 | 53 => 173 | 175 => 234 | 46 => 123 | 210 => 254 | 127 => 90 | 145 => 271 | 143 => 269 | 21 => 21 | 171 => 224 | 173 => 226 | 212 => 257 | 51 => 171 | 20 => 20 | 213 => 258 | 232 => 280 | 233 => 281 | 80 => 73 | n => n, fun | 15 => 4 | 16 => 5 | 17 => 6 | 18 => 8 | 19 => 9 | n => n⟩
theorem Tryz.lays172 : Go.Proofs.Lays.n172 Tryz.prog Tryz.lays172_ren := {
  mixed := by kernel_rfl
  f129 := Tryz.func143.trans (congrArg some (by kernel_rfl))
  f171 := Tryz.func74.trans (congrArg some (by kernel_rfl))
  f172 := Tryz.func104.trans (congrArg some (by kernel_rfl))
  f205 := Tryz.func210.trans (congrArg some (by kernel_rfl))
  f243 := Tryz.func113.trans (congrArg some (by kernel_rfl))
  f244 := Tryz.func147.trans (congrArg some (by kernel_rfl))
  f245 := Tryz.func148.trans (congrArg some (by kernel_rfl))
  f246 := Tryz.func154.trans (congrArg some (by kernel_rfl))
  f247 := Tryz.func180.trans (congrArg some (by kernel_rfl))
  f279 := Tryz.func181.trans (congrArg some (by kernel_rfl))
  f280 := Tryz.func182.trans (congrArg some (by kernel_rfl))
  f281 := Tryz.func183.trans (congrArg some (by kernel_rfl))
  f282 := Tryz.func184.trans (congrArg some (by kernel_rfl))
  f283 := Tryz.func185.trans (congrArg some (by kernel_rfl))
  f284 := Tryz.func186.trans (congrArg some (by kernel_rfl))
  f285 := Tryz.func187.trans (congrArg some (by kernel_rfl))
  f286 := Tryz.func188.trans (congrArg some (by kernel_rfl))
  f287 := Tryz.func208.trans (congrArg some (by kernel_rfl))
  f316 := Tryz.func209.trans (congrArg some (by kernel_rfl))
  f317 := Tryz.func211.trans (congrArg some (by kernel_rfl))
  f318 := Tryz.func212.trans (congrArg some (by kernel_rfl))
  f319 := Tryz.func213.trans (congrArg some (by kernel_rfl))
  f320 := Tryz.func214.trans (congrArg some (by kernel_rfl))
  f321 := Tryz.func232.trans (congrArg some (by kernel_rfl))
  f322 := Tryz.func233.trans (congrArg some (by kernel_rfl))
  f337 := Tryz.func234.trans (congrArg some (by kernel_rfl))
  f338 := Tryz.func235.trans (congrArg some (by kernel_rfl))
  t0 := Tryz.underlying0
  a0 := Tryz.isAgg0
  z0 := Tryz.sizeOf0
  v0 := Tryz.zeroValue0
  t2 := Tryz.underlying2
  a2 := Tryz.isAgg2
  z2 := Tryz.sizeOf2
  v2 := Tryz.zeroValue2
  t3 := Tryz.underlying3
  a3 := Tryz.isAgg3
  z3 := Tryz.sizeOf3
  v3 := Tryz.zeroValue3
  t4 := Tryz.underlying4
  a4 := Tryz.isAgg4
  z4 := Tryz.sizeOf4
  v4 := Tryz.zeroValue4
  t5 := Tryz.underlying5
  a5 := Tryz.isAgg5
  z5 := Tryz.sizeOf5
  v5 := Tryz.zeroValue5
  t9 := Tryz.underlying9
  a9 := Tryz.isAgg9
  z9 := Tryz.sizeOf9
  v9 := Tryz.zeroValue9
  t20 := Tryz.underlying20
  a20 := Tryz.isAgg20
  z20 := Tryz.sizeOf20
  v20 := Tryz.zeroValue20
  t21 := Tryz.underlying21
  a21 := Tryz.isAgg21
  z21 := Tryz.sizeOf21
  v21 := Tryz.zeroValue21
  t37 := Tryz.underlying37
  a37 := Tryz.isAgg37
  z37 := Tryz.sizeOf37
  v37 := Tryz.zeroValue37
  t46 := Tryz.underlying123
  a46 := Tryz.isAgg123
  z46 := Tryz.sizeOf123
  v46 := Tryz.zeroValue123
  t51 := Tryz.underlying171
  a51 := Tryz.isAgg171
  z51 := Tryz.sizeOf171
  v51 := Tryz.zeroValue171
  t53 := Tryz.underlying173
  a53 := Tryz.isAgg173
  z53 := Tryz.sizeOf173
  v53 := Tryz.zeroValue173
  t75 := Tryz.underlying61
  a75 := Tryz.isAgg61
  z75 := Tryz.sizeOf61
  v75 := Tryz.zeroValue61
  t76 := Tryz.underlying62
  a76 := Tryz.isAgg62
  z76 := Tryz.sizeOf62
  v76 := Tryz.zeroValue62
  t85 := Tryz.underlying219
  a85 := Tryz.isAgg219
  z85 := Tryz.sizeOf219
  v85 := Tryz.zeroValue219
  t127 := Tryz.underlying90
  a127 := Tryz.isAgg90
  z127 := Tryz.sizeOf90
  v127 := Tryz.zeroValue90
  t143 := Tryz.underlying269
  a143 := Tryz.isAgg269
  z143 := Tryz.sizeOf269
  v143 := Tryz.zeroValue269
  t145 := Tryz.underlying271
  a145 := Tryz.isAgg271
  z145 := Tryz.sizeOf271
  v145 := Tryz.zeroValue271
  t167 := Tryz.underlying218
  a167 := Tryz.isAgg218
  z167 := Tryz.sizeOf218
  v167 := Tryz.zeroValue218
  t168 := Tryz.underlying221
  a168 := Tryz.isAgg221
  z168 := Tryz.sizeOf221
  v168 := Tryz.zeroValue221
  t171 := Tryz.underlying224
  a171 := Tryz.isAgg224
  z171 := Tryz.sizeOf224
  v171 := Tryz.zeroValue224
  t173 := Tryz.underlying226
  a173 := Tryz.isAgg226
  z173 := Tryz.sizeOf226
  v173 := Tryz.zeroValue226
  t175 := Tryz.underlying234
  a175 := Tryz.isAgg234
  z175 := Tryz.sizeOf234
  v175 := Tryz.zeroValue234
  t210 := Tryz.underlying254
  a210 := Tryz.isAgg254
  z210 := Tryz.sizeOf254
  v210 := Tryz.zeroValue254
  t212 := Tryz.underlying257
  a212 := Tryz.isAgg257
  z212 := Tryz.sizeOf257
  v212 := Tryz.zeroValue257
  t213 := Tryz.underlying258
  a213 := Tryz.isAgg258
  z213 := Tryz.sizeOf258
  t232 := Tryz.underlying280
  a232 := Tryz.isAgg280
  z232 := Tryz.sizeOf280
  v232 := Tryz.zeroValue280
  t233 := Tryz.underlying281
  a233 := Tryz.isAgg281
  z233 := Tryz.sizeOf281
  v233 := Tryz.zeroValue281
  g15 := by kernel_rfl
  g16 := by kernel_rfl
  g17 := by kernel_rfl
  g18 := by kernel_rfl
  g19 := by kernel_rfl }
open Go.RowKit in
/-- strconv.Atoi: "Atoi is equivalent to ParseInt(s, 10, 0), converted to type int.": AT A DECIMAL NUMERAL OF AT MOST 18 BYTES: its value, and a nil error. The world behind the call: the one new row that the library's '[]byte(s)' lays. (LAID: no walk: one application.) -/
theorem Tryz.strconv_Atoi (s : ByteArray) (n : Int) (hl : s.size ≤ 18) (h : Lib.atoi s.data.toList = some n) (w : World) :
    Calls Tryz.prog 104 #[.string s] w fun e w' => e = .returned (.tuple #[.int .i64 n, .nilIface]) ∧ ∃ t, w' = Lib.bytesWorld w 5 t := Any.strconv_Atoi Tryz.lays172 s n hl h w
def Tryz.lays138_ren : Go.Shelf.Ren := ⟨fun | 138 => 96 | 195 => 130 | 218 => 131 | 143 => 97 | 219 => 132 | 217 => 145 | 225 => 170 | 224 => 171 | 267 => 172 | 266 => 178 | 314 => 206 | n => n, fun | 9 => 9 | 3 => 3 | 4 => 4 | 5 => 5 | 0 => 0 | 46 => 123 | 146 => 179 | 51 => 171 | n => n, fun | 1 => 1 | n => n⟩
theorem Tryz.lays138 : Go.Proofs.Lays.n138 Tryz.prog Tryz.lays138_ren := {
  mixed := by kernel_rfl
  f138 := Tryz.func96.trans (congrArg some (by kernel_rfl))
  f143 := Tryz.func97.trans (congrArg some (by kernel_rfl))
  f195 := Tryz.func130.trans (congrArg some (by kernel_rfl))
  f217 := Tryz.func145.trans (congrArg some (by kernel_rfl))
  f218 := Tryz.func131.trans (congrArg some (by kernel_rfl))
  f219 := Tryz.func132.trans (congrArg some (by kernel_rfl))
  f224 := Tryz.func171.trans (congrArg some (by kernel_rfl))
  f225 := Tryz.func170.trans (congrArg some (by kernel_rfl))
  f266 := Tryz.func178.trans (congrArg some (by kernel_rfl))
  f267 := Tryz.func172.trans (congrArg some (by kernel_rfl))
  f314 := Tryz.func206.trans (congrArg some (by kernel_rfl))
  t0 := Tryz.underlying0
  a0 := Tryz.isAgg0
  z0 := Tryz.sizeOf0
  v0 := Tryz.zeroValue0
  t3 := Tryz.underlying3
  a3 := Tryz.isAgg3
  z3 := Tryz.sizeOf3
  v3 := Tryz.zeroValue3
  t4 := Tryz.underlying4
  a4 := Tryz.isAgg4
  z4 := Tryz.sizeOf4
  v4 := Tryz.zeroValue4
  t5 := Tryz.underlying5
  a5 := Tryz.isAgg5
  z5 := Tryz.sizeOf5
  v5 := Tryz.zeroValue5
  t9 := Tryz.underlying9
  a9 := Tryz.isAgg9
  z9 := Tryz.sizeOf9
  v9 := Tryz.zeroValue9
  t46 := Tryz.underlying123
  a46 := Tryz.isAgg123
  z46 := Tryz.sizeOf123
  v46 := Tryz.zeroValue123
  t51 := Tryz.underlying171
  a51 := Tryz.isAgg171
  z51 := Tryz.sizeOf171
  v51 := Tryz.zeroValue171
  t146 := Tryz.underlying179
  a146 := Tryz.isAgg179
  z146 := Tryz.sizeOf179
  v146 := Tryz.zeroValue179
  g1 := by kernel_rfl }
open Go.RowKit Go.Lib in
/-- strings.Count AT A substr OF ONE BYTE ('hp'): "Count counts the number of non-overlapping instances of substr in s.": IT RETURNS 'Lib.countByte s (that byte)'; the world is as it was. ✋ NO CONTRACT HERE YET at an empty substr (utf8.RuneCountInString) or at a longer one (a loop over strings.Index). (LAID: no walk: one application.) -/
theorem Tryz.strings_Count_one (s : ByteArray) (c : UInt8) (w : World) :
    Calls Tryz.prog 96 #[.string s, .string ⟨#[c]⟩] w fun e w' => e = .returned (.int .i64 (Lib.countByte s.data.toList c)) ∧ w' = w := Any.strings_Count_one Tryz.lays138 s c w
end Go.Proofs
/- Laws for rows of bytes that a call makes: an append of given bytes, of a string; the string of a row; rows under a world that has grown. -/
namespace Go.Proofs.YtneohoclgnfdcaaGreatDoor
open Go.RowKit
open Go.Lib hiding intOf
/-- v is the bytes l, in a row of its own from block B on -/
def OwnB (B : Nat) (v : Value) (l : List UInt8) (w : World) : Prop := w.ownsRow B 5 1 v l.length (byteCells l)
theorem OwnB.nil (B : Nat) (w : World) : OwnB B (.slice none 0 0) [] w := ⟨rfl, .inl ⟨rfl, rfl⟩⟩
theorem rows_below {w w' : World} {B e size n : Nat} {v : Value} {xs : List Value} (h : w.ownsRow B e size v n xs) (hb : Below w.heap.size w w') : w'.ownsRow B e size v n xs := by
  refine ⟨h.1, ?_⟩
  rcases h.2 with hn | ⟨g, cap, cur, hv, h1, h2, h3⟩
  · exact .inl hn
  · refine .inr ⟨g, cap, cur, hv, h1, ?_, h3⟩
    have hlt : g < w.heap.size := (Array.getElem?_eq_some_iff.1 h2).1
    rw [hb.block g hlt]; exact h2
theorem OwnB.below {B : Nat} {v : Value} {l : List UInt8} {w w' : World} (h : OwnB B v l w) (hb : Below w.heap.size w w') : OwnB B v l w' := rows_below h hb
theorem OwnB.alloc {B : Nat} {v : Value} {l : List UInt8} {w : World} (h : OwnB B v l w) (o : Obj) : OwnB B v l (w.alloc o) := World.ownsRow.alloc h o
theorem tabs_below {a b : Nat} {w w' : World} {B : Nat} (h : Lib.Utf8Tabs a b w) (hb : Below B w w') (ha : a < B) (hb2 : b < B) : Lib.Utf8Tabs a b w' := by
  unfold Lib.Utf8Tabs at *
  exact ⟨fun i hi => by rw [hb.cell (p := ⟨a, i, none⟩) ha]; exact h.1 i hi, fun i hi => by rw [hb.cell (p := ⟨b, _, none⟩) hb2, hb.cell (p := ⟨b, _, none⟩) hb2]; exact h.2 i hi⟩
theorem info_u8 : (Tryz.prog.info? 5).map (fun i => (i.zero, i.size, i.bytes)) = some (some (.int .u8 0), 1, 1) := by kernel_rfl
theorem byteCells_one' (l : List UInt8) : ∀ v ∈ byteCells l, v.oneCell' = true := by
  intro v hv
  simp only [byteCells, List.mem_map] at hv
  obtain ⟨b, _, rfl⟩ := hv
  rfl
/-- 'append(b, c1, .., cm)' -/
theorem app_bytes {ops : Array Oper} {rest : List Oper} {o : Oper} {a : Act} {Q : Exit → Act → World → Prop} (w : World) (hgd : o.guard = none) (s x : Operand)
    (ho : o.op = .call { callee := .builtin .append, args := #[s, x], argTypes := #[37, 37] }) {B : Nat} {v : Value} {l : List UInt8} (ns : List UInt8) (hs : a.eval s = v) (hown : OwnB B v l w)
    (c : Nat) (hx : a.eval x = .slice (some ⟨w.heap.size, 0, none⟩) ns.length c) (cs : Array Value) (hcs : cs = (byteCells ns).toArray) (hlen : l.length + ns.length ≤ 140737488355328) (hB : B ≤ w.heap.size)
    (h : ∀ v' w', OwnB B v' (l ++ ns) w' → Below B w w' → wpList Tryz.prog ops Q rest (a.put o.dst v') w') : wpList Tryz.prog ops Q (o :: rest) a (w.alloc (.cells cs 5)) := by
  obtain ⟨i0, hi, hz0, hz1, hz2⟩ := info_parts info_u8
  refine wpList_append_own _ hgd s x 37 ho B 5 i0 (.int .u8 0) 1 1 Tryz.underlying37 hi hz0 hz1 hz2 rfl (by decide) v l.length (byteCells l) hs (World.ownsRow.alloc hown _) ⟨w.heap.size, 0, none⟩ ns.length c (byteCells ns) hx (by simp [byteCells]) ?_ (byteCells_one' ns) (by unfold maxLen; omega) (by omega) (by simp; omega) ?_
  · intro j u hj
    subst hcs
    have : (⟨w.heap.size, 0, none⟩ : Addr).add j = ⟨w.heap.size, j, none⟩ := by unfold Addr.add; split <;> simp_all
    rw [this, Lib.cell_of_heap (heap_alloc_new w _)]
    simpa using hj
  · intro v' w' hown' hg _
    refine h v' w' (by unfold OwnB; rw [byteCells_append, List.length_append]; exact hown') ?_
    exact ((Below.refl B w).alloc hB _).grown hg (by simp; omega) (fun k hk => (World.ownsRow.lt hown k hk).1)
/-- 'append(b, s...)' -/
theorem app_str {ops : Array Oper} {rest : List Oper} {o : Oper} {a : Act} {Q : Exit → Act → World → Prop} (w : World) (hgd : o.guard = none) (sl x : Operand)
    (ho : o.op = .call { callee := .builtin .append, args := #[sl, x], argTypes := #[37, 9] }) {B : Nat} {v : Value} {l : List UInt8} (hs : a.eval sl = v) (hown : OwnB B v l w) (s : ByteArray) (hx : a.eval x = .string s)
    (hlen : l.length + s.size ≤ 140737488355328) (hB : B ≤ w.heap.size)
    (h : ∀ v' w', OwnB B v' (l ++ s.data.toList) w' → Below B w w' → w.grownBy w' v.ownBlock → wpList Tryz.prog ops Q rest (a.put o.dst v') w') : wpList Tryz.prog ops Q (o :: rest) a w := by
  obtain ⟨i0, hi, hz0, hz1, hz2⟩ := info_parts info_u8
  refine Lib.wpList_append_own_string _ hgd sl x 37 9 ho B 5 i0 Tryz.underlying37 Tryz.underlying9 hi hz0 hz1 hz2 v l.length (byteCells l) hs hown s hx (by unfold maxLen; omega) hlen hB ?_
  intro v' w' hown' hg _
  refine h v' w' (by unfold OwnB; rw [byteCells_append, List.length_append, ← strCells_eq]; simpa using hown') ?_ ?_
  · exact (Below.refl B w).grown hg hB (fun k hk => (World.ownsRow.lt hown k hk).1)
  · exact hg
/-- 'string(b)' -/
theorem str_of {B : Nat} {v : Value} {l : List UInt8} {w : World} (h : OwnB B v l w) : (convert 37 9 v).run Tryz.prog w = .ok (.string ⟨l.toArray⟩) w := by
  rcases h.2 with ⟨rfl, h0⟩ | ⟨g, cap, cur, rfl, h1, h2, h3, h4, h5, h6⟩
  · have : l = [] := List.length_eq_zero_iff.1 h0
    subst this
    exact run_convert_bytes_nil w 37 5 Tryz.underlying37 Tryz.underlying5 0 0 9 Tryz.underlying9
  · refine run_convert_bytes_back w 37 9 5 ⟨g, 0, none⟩ cap l Tryz.underlying37 Tryz.underlying5 Tryz.underlying9 ?_
    intro j hj
    have := World.ownsRow.cells (w := w) h rfl j (.int .u8 (l[j].toNat)) (by simp [byteCells, List.getElem?_eq_getElem hj])
    simpa using this
theorem OwnB.slice {B : Nat} {v : Value} {l : List UInt8} {w : World} (h : OwnB B v l w) : ∃ ao c, v = .slice ao l.length c := by
  rcases h.2 with ⟨rfl, h0⟩ | ⟨g, cap, cur, rfl, _⟩
  · rw [h0]; exact ⟨_, _, rfl⟩
  · exact ⟨_, _, rfl⟩
end Go.Proofs.YtneohoclgnfdcaaGreatDoor
/- The small functions of a script: a word, a name, a digit; the cut at one byte. -/
namespace Go.Proofs.YtneohoclgnfdcaaGreatDoor
open Go.RowKit
open Go.Lib hiding intOf
theorem ret_int {k : IntKind} {a b : Int} (h : a = b) : Ending.returned (.int k a) = .returned (.int k b) := by rw [h]
theorem ret_bool {a b : Bool} (h : a = b) : Ending.returned (.bool a) = .returned (.bool b) := by rw [h]
theorem ret_str {a b : ByteArray} (h : a = b) : Ending.returned (.string a) = .returned (.string b) := by rw [h]
theorem ext_list {a b : ByteArray} (h : a.data.toList = b.data.toList) : a = b := by
  cases a; cases b; simp at h; subst h; rfl
theorem bcell {W w1 : World} (hb : Below W.heap.size W w1) : (∀ b o, b < W.heap.size → w1.cell? ⟨b, o, none⟩ = W.cell? ⟨b, o, none⟩) ∧ (∀ b o, b < W.heap.size → w1.frozen? ⟨b, o, none⟩ = W.frozen? ⟨b, o, none⟩) :=
  ⟨fun b o h => hb.cell (p := ⟨b, o, none⟩) h, fun b o h => hb.frozen (p := ⟨b, o, none⟩) h⟩


theorem getD_of (s : ByteArray) (k : Nat) (h : k < s.size) : s.data.toList.getD k 0 = s[k] := by
  rw [List.getD_eq_getElem?_getD, List.getElem?_eq_getElem (by simpa using h)]; rfl
theorem cls (x : Int) :
    (¬ 97 ≤ x ∧ ¬ 65 ≤ x ∧ (x != 95) = true ∧ ¬ 48 ≤ x ∧ True) ∨ (¬ 97 ≤ x ∧ ¬ 65 ≤ x ∧ (x != 95) = true ∧ 48 ≤ x ∧ x ≤ 57) ∨ (¬ 97 ≤ x ∧ ¬ 65 ≤ x ∧ (x != 95) = true ∧ 48 ≤ x ∧ ¬ x ≤ 57)
    ∨ (¬ 97 ≤ x ∧ 65 ≤ x ∧ x ≤ 90 ∧ True ∧ True) ∨ (¬ 97 ≤ x ∧ (65 ≤ x ∧ ¬ x ≤ 90) ∧ (x != 95) = true ∧ 48 ≤ x ∧ ¬ x ≤ 57) ∨ (¬ 97 ≤ x ∧ 65 ≤ x ∧ ¬ x ≤ 90 ∧ (x != 95) = false ∧ True)
    ∨ (97 ≤ x ∧ x ≤ 122 ∧ True ∧ True ∧ True) ∨ ((97 ≤ x ∧ ¬ x ≤ 122) ∧ (65 ≤ x ∧ ¬ x ≤ 90) ∧ (x != 95) = true ∧ 48 ≤ x ∧ ¬ x ≤ 57) := by
  simp only [and_true, bne_iff_ne, ne_eq, bne_eq_false_iff_eq]; omega
end Go.Proofs.YtneohoclgnfdcaaGreatDoor
/- Graphs in memory: what a slice of nodes reads as; the indices of a graph. -/
namespace Go.Proofs.YtneohoclgnfdcaaGreatDoor
open Go.RowKit
open Go.Lib hiding intOf
/-- a slice of integers -/
def SlI (w : World) (v : Value) (l : List Int) : Prop :=
  ∃ a c, v = .slice a l.length c ∧ l.length ≤ 140737488355328 ∧ (l = [] ∨ ∃ b o, a = some ⟨b, o, none⟩ ∧ ∀ (j : Nat) (x : Int), l[j]? = some x → w.cell? ⟨b, o + j, none⟩ = some (.int .i64 x))
/-- a node of a graph -/
structure Nd where
  kind : Int
  text : ByteArray
  ord : Bool
  keys : List Int
  items : List Int
def NdAt (w : World) (b o : Nat) (n : Nd) : Prop :=
  ∃ kv iv, w.cell? ⟨b, o, none⟩ = some (.int .i64 n.kind) ∧ w.cell? ⟨b, o + 1, none⟩ = some (.string n.text) ∧ w.cell? ⟨b, o + 2, none⟩ = some (.bool n.ord) ∧ w.cell? ⟨b, o + 3, none⟩ = some kv ∧ w.cell? ⟨b, o + 4, none⟩ = some iv ∧ SlI w kv n.keys ∧ SlI w iv n.items
def NodesAt (w : World) (v : Value) (N : List Nd) : Prop :=
  ∃ a c, v = .slice a N.length c ∧ N.length ≤ 140737488355328 ∧ (N = [] ∨ ∃ b o, a = some ⟨b, o, none⟩ ∧ ∀ (i : Nat) (n : Nd), N[i]? = some n → NdAt w b (o + i * 5) n)
theorem cell_keep {w w' : World} (hb : Below w.heap.size w w') {b o : Nat} {v : Value} (h : w.cell? ⟨b, o, none⟩ = some v) : w'.cell? ⟨b, o, none⟩ = some v := by
  rw [hb.cell (p := ⟨b, o, none⟩) (World.block_lt_of_cell? w _ h)]; exact h
theorem SlI.below {w w' : World} {v : Value} {l : List Int} (h : SlI w v l) (hb : Below w.heap.size w w') : SlI w' v l := by
  obtain ⟨a, c, h1, h2, h3⟩ := h
  refine ⟨a, c, h1, h2, ?_⟩
  rcases h3 with h3 | ⟨b, o, h3, h4⟩
  · exact .inl h3
  · exact .inr ⟨b, o, h3, fun j x hj => cell_keep hb (h4 j x hj)⟩
theorem NdAt.below {w w' : World} {b o : Nat} {n : Nd} (h : NdAt w b o n) (hb : Below w.heap.size w w') : NdAt w' b o n := by
  obtain ⟨kv, iv, h0, h1, h2, h3, h4, h5, h6⟩ := h
  exact ⟨kv, iv, cell_keep hb h0, cell_keep hb h1, cell_keep hb h2, cell_keep hb h3, cell_keep hb h4, h5.below hb, h6.below hb⟩
theorem NodesAt.below {w w' : World} {v : Value} {N : List Nd} (h : NodesAt w v N) (hb : Below w.heap.size w w') : NodesAt w' v N := by
  obtain ⟨a, c, h1, h2, h3⟩ := h
  refine ⟨a, c, h1, h2, ?_⟩
  rcases h3 with h3 | ⟨b, o, h3, h4⟩
  · exact .inl h3
  · exact .inr ⟨b, o, h3, fun i n hi => (h4 i n hi).below hb⟩
theorem size_new (w : World) (o : Obj) : (w.alloc o).heap.size = w.heap.size + 1 := by simp
theorem below_new (w : World) (o : Obj) : Below w.heap.size w (w.alloc o) := (Below.refl _ w).alloc (Nat.le_refl _) o
def refsOk (n : Nat) (l : List Int) : Bool := l.all fun x => decide (0 ≤ x) && decide (x < n)
def idxOk (N : List Nd) (root : Int) : Bool := (decide (0 ≤ root) && decide (root < N.length)) && N.all fun n => refsOk N.length n.keys && refsOk N.length n.items
theorem refs_take {n k : Nat} {l : List Int} (h : k < l.length) : refsOk n (l.take (k + 1)) = (refsOk n (l.take k) && (decide (0 ≤ l[k]) && decide (l[k] < n))) := by
  unfold refsOk
  rw [List.take_succ_eq_append_getElem h, List.all_append]
  simp
theorem nodes_take {n k : Nat} {N : List Nd} (h : k < N.length) : ((N.take (k + 1)).all fun x => refsOk n x.keys && refsOk n x.items) = (((N.take k).all fun x => refsOk n x.keys && refsOk n x.items) && (refsOk n N[k].keys && refsOk n N[k].items)) := by
  rw [List.take_succ_eq_append_getElem h, List.all_append]
  simp
theorem below_two {B : Nat} {w wr : World} (h : Below B w wr) (hB : B ≤ wr.heap.size) (o1 o2 : Obj) : Below B w ((wr.alloc o1).alloc o2) := (h.alloc hB o1).alloc (by simp; omega) o2
theorem kept_two {wr : World} {b : Nat} {x : Obj} (h : wr.heap[b]? = some x) (o1 o2 : Obj) : ((wr.alloc o1).alloc o2).heap[b]? = some x := by
  have hl := (Array.getElem?_eq_some_iff.1 h).1
  rw [Lib.alloc_old _ _ _ (by simp; omega), Lib.alloc_old _ _ _ hl]; exact h
set_option maxHeartbeats 4000000 in
set_option maxRecDepth 100000 in
theorem indices_any (w : World) (v : Value) (N : List Nd) (root : Int) (h : NodesAt w v N) :
    Calls Tryz.prog 56 #[.agg #[v, .int .i64 root]] w fun e w' => e = .returned (.bool (idxOk N root)) ∧ Below w.heap.size w w' := by
  have HN := Lib.hid h
  obtain ⟨a, c, rfl, hlen, hN⟩ := h
  have HNN := Lib.hid hN
  obtain ⟨r0, hr0⟩ : ∃ r0, (decide (0 ≤ root) && decide (root < (N.length : Int))) = r0 := ⟨_, rfl⟩
  have HR0 := Lib.hid hr0
  have hcs : (r0 = false ∧ ¬ 0 ≤ root) ∨ (r0 = false ∧ 0 ≤ root ∧ ¬ root < (N.length : Int)) ∨ (r0 = true ∧ 0 ≤ root ∧ root < (N.length : Int)) := by
    by_cases h1 : 0 ≤ root
    · by_cases h2 : root < (N.length : Int)
      · exact .inr (.inr ⟨by rw [← hr0]; simp [h1, h2], h1, h2⟩)
      · exact .inr (.inl ⟨by rw [← hr0]; simp [h2], h1, h2⟩)
    · exact .inl ⟨by rw [← hr0]; simp [h1], h1⟩
  clear hN hr0
  rcases hcs with ⟨rfl, h1⟩ | ⟨rfl, h1, h2⟩ | ⟨rfl, h1, h2⟩
  all_goals
    go_enter Tryz.func56, Tryz.ntmps56
    go_wp2
    go_loopw [3, 24] (fun ov iv wr => ∃ i : Nat, i ≤ N.length ∧ iv = .int .i64 i ∧ ov = .bool ((decide (0 ≤ root) && decide (root < (N.length : Int))) && (N.take i).all fun x => refsOk N.length x.keys && refsOk N.length x.items) ∧ Below w.heap.size w wr ∧ wr.heap[w.heap.size]? = some (.cells #[.slice a N.length c, .int .i64 root] 36)) (fun _ iv _ => N.length - (intOf iv).toNat)
    case atStart => exact ⟨0, Nat.zero_le _, rfl, by rw [HR0.out]; rfl, below_new _ _, heap_alloc_new w _⟩
  all_goals
    case round =>
      obtain ⟨i, hi, rfl, rfl, hbw, hbox⟩ := hrel
      have HBW := Lib.hid hbw
      have HBOX := Lib.hid hbox
      have cb0 : wr.cell? ⟨w.heap.size, 0, none⟩ = some (.slice a N.length c) := (Lib.cell_of_heap hbox 0).trans rfl
      have hz : w.heap.size < wr.heap.size := (Array.getElem?_eq_some_iff.1 hbox).1
      by_cases hlt : i < N.length
      · have hlt2 : (i : Int) < (N.length : Int) := by omega
        have htk := nodes_take (n := N.length) hlt
        rcases HNN.out with hnil | ⟨b, o, ha, hall⟩
        · exfalso; rw [hnil] at hlt; exact Nat.not_lt_zero _ hlt
        subst ha
        obtain ⟨kv, iv, c0, c1, c2, c3, c4, hkc, hic⟩ := (hall i N[i] (List.getElem?_eq_getElem hlt)).below HBW.out
        generalize N[i] = n at c0 c1 c2 hkc hic htk
        obtain ⟨acc, hacc⟩ : ∃ acc, ((decide (0 ≤ root) && decide (root < (N.length : Int))) && (N.take i).all fun x => refsOk N.length x.keys && refsOk N.length x.items) = acc := ⟨_, rfl⟩
        have HTK : Hid (((decide (0 ≤ root) && decide (root < (N.length : Int))) && (N.take (i + 1)).all fun x => refsOk N.length x.keys && refsOk N.length x.items) = ((acc && refsOk N.length n.keys) && refsOk N.length n.items)) := by
          show _ = _
          rw [htk, ← Bool.and_assoc, hacc, Bool.and_assoc]
        rw [hacc]
        obtain ⟨ka, kc, rfl, hkl, hkc⟩ := hkc
        obtain ⟨ia, ic, rfl, hil, hic⟩ := hic
        clear hacc htk hall hbw hbox
        go_wp2
        go_loop [3, 34] (fun ov mv => (mv = .int .i64 0 ∧ ov = .bool acc) ∨ (mv = .int .i64 1 ∧ ov = .bool (acc && refsOk N.length n.keys)) ∨ (mv = .int .i64 2 ∧ ov = .bool ((acc && refsOk N.length n.keys) && refsOk N.length n.items))) (fun _ mv => 2 - (intOf mv).toNat)
        case atStart => exact .inl ⟨rfl, rfl⟩
        case round =>
          rcases hrel with ⟨rfl, rfl⟩ | ⟨rfl, rfl⟩ | ⟨rfl, rfl⟩
          · have hlc := hkc
            obtain ⟨A, hA⟩ : ∃ A, acc = A := ⟨_, rfl⟩
            have HA := Lib.hid hA
            rw [hA]
            clear hA
            go_wp2
            go_loop [3, 40] (fun ov jv => ∃ j : Nat, j ≤ n.keys.length ∧ jv = .int .i64 j ∧ ov = .bool (A && refsOk N.length (n.keys.take j))) (fun _ jv => n.keys.length - (intOf jv).toNat)
            case atStart => exact ⟨0, Nat.zero_le _, rfl, by simp [refsOk]⟩
            case round =>
              obtain ⟨j, hj, rfl, rfl⟩ := hrel
              by_cases hjl : j < n.keys.length
              · have hjl2 : (j : Int) < (n.keys.length : Int) := by omega
                rcases hlc with hnil | ⟨lb, lo, hla, hcells⟩
                · exfalso; rw [hnil] at hjl; exact Nat.not_lt_zero _ hjl
                · subst hla
                  have hx := hcells j n.keys[j] (List.getElem?_eq_getElem hjl)
                  have hlb : lb < wr.heap.size := World.block_lt_of_cell? wr _ hx
                  have HT := refs_take (n := N.length) hjl
                  have HCELLS := Lib.hid hcells
                  generalize n.keys[j] = x at hx HT
                  obtain ⟨T, hT⟩ : ∃ T, (A && refsOk N.length (n.keys.take j)) = T := ⟨_, rfl⟩
                  have HT2 : Hid ((A && refsOk N.length (n.keys.take (j + 1))) = (T && (decide (0 ≤ x) && decide (x < (N.length : Int))))) := by
                    show _ = _
                    rw [HT, ← Bool.and_assoc, hT]
                  rw [hT]
                  clear HT hT hcells
                  have fin : ∀ R, (T && (decide (0 ≤ x) && decide (x < (N.length : Int)))) = R → Hid (Value.bool R = .bool (A && refsOk N.length (n.keys.take (j + 1)))) := fun R hR => by
                    show _ = _
                    rw [HT2.out, hR]
                  cases T
                  · have HF := fin false rfl
                    clear fin
                    go_wp2
                    go_round
                    case rel => exact ⟨j + 1, by omega, by go_num, HF.out⟩
                    case measure => simp [intOf]; omega
                  · by_cases hx0 : 0 ≤ x
                    · by_cases hx1 : x < (N.length : Int)
                      · have HF := fin true (by simp [hx0, hx1])
                        clear fin
                        go_wp2
                        go_round
                        case rel => exact ⟨j + 1, by omega, by go_num, HF.out⟩
                        case measure => simp [intOf]; omega
                      · have HF := fin false (by simp [hx1])
                        clear fin
                        go_wp2
                        go_round
                        case rel => exact ⟨j + 1, by omega, by go_num, HF.out⟩
                        case measure => simp [intOf]; omega
                    · have HF := fin false (by simp [hx0])
                      clear fin
                      go_wp2
                      go_round
                      case rel => exact ⟨j + 1, by omega, by go_num, HF.out⟩
                      case measure => simp [intOf]; omega
              · obtain rfl : j = n.keys.length := by omega
                have HF : Hid (Value.bool (A && refsOk N.length (n.keys.take n.keys.length)) = Value.bool (A && refsOk N.length n.keys)) := by
                  show _ = _
                  rw [List.take_length]
                go_wp2
                go_round
                case rel => exact .inr (.inl ⟨rfl, HF.out⟩)
                case measure => decide
          · have hlc := hic
            obtain ⟨A, hA⟩ : ∃ A, (acc && refsOk N.length n.keys) = A := ⟨_, rfl⟩
            have HA := Lib.hid hA
            rw [hA]
            clear hA
            go_wp2
            go_loop [3, 40] (fun ov jv => ∃ j : Nat, j ≤ n.items.length ∧ jv = .int .i64 j ∧ ov = .bool (A && refsOk N.length (n.items.take j))) (fun _ jv => n.items.length - (intOf jv).toNat)
            case atStart => exact ⟨0, Nat.zero_le _, rfl, by simp [refsOk]⟩
            case round =>
              obtain ⟨j, hj, rfl, rfl⟩ := hrel
              by_cases hjl : j < n.items.length
              · have hjl2 : (j : Int) < (n.items.length : Int) := by omega
                rcases hlc with hnil | ⟨lb, lo, hla, hcells⟩
                · exfalso; rw [hnil] at hjl; exact Nat.not_lt_zero _ hjl
                · subst hla
                  have hx := hcells j n.items[j] (List.getElem?_eq_getElem hjl)
                  have hlb : lb < wr.heap.size := World.block_lt_of_cell? wr _ hx
                  have HT := refs_take (n := N.length) hjl
                  have HCELLS := Lib.hid hcells
                  generalize n.items[j] = x at hx HT
                  obtain ⟨T, hT⟩ : ∃ T, (A && refsOk N.length (n.items.take j)) = T := ⟨_, rfl⟩
                  have HT2 : Hid ((A && refsOk N.length (n.items.take (j + 1))) = (T && (decide (0 ≤ x) && decide (x < (N.length : Int))))) := by
                    show _ = _
                    rw [HT, ← Bool.and_assoc, hT]
                  rw [hT]
                  clear HT hT hcells
                  have fin : ∀ R, (T && (decide (0 ≤ x) && decide (x < (N.length : Int)))) = R → Hid (Value.bool R = .bool (A && refsOk N.length (n.items.take (j + 1)))) := fun R hR => by
                    show _ = _
                    rw [HT2.out, hR]
                  cases T
                  · have HF := fin false rfl
                    clear fin
                    go_wp2
                    go_round
                    case rel => exact ⟨j + 1, by omega, by go_num, HF.out⟩
                    case measure => simp [intOf]; omega
                  · by_cases hx0 : 0 ≤ x
                    · by_cases hx1 : x < (N.length : Int)
                      · have HF := fin true (by simp [hx0, hx1])
                        clear fin
                        go_wp2
                        go_round
                        case rel => exact ⟨j + 1, by omega, by go_num, HF.out⟩
                        case measure => simp [intOf]; omega
                      · have HF := fin false (by simp [hx1])
                        clear fin
                        go_wp2
                        go_round
                        case rel => exact ⟨j + 1, by omega, by go_num, HF.out⟩
                        case measure => simp [intOf]; omega
                    · have HF := fin false (by simp [hx0])
                      clear fin
                      go_wp2
                      go_round
                      case rel => exact ⟨j + 1, by omega, by go_num, HF.out⟩
                      case measure => simp [intOf]; omega
              · obtain rfl : j = n.items.length := by omega
                have HF : Hid (Value.bool (A && refsOk N.length (n.items.take n.items.length)) = Value.bool (A && refsOk N.length n.items)) := by
                  show _ = _
                  rw [List.take_length]
                go_wp2
                go_round
                case rel => exact .inr (.inr ⟨rfl, HF.out⟩)
                case measure => decide
          · go_wp2
            go_roundw
            case rel => exact ⟨i + 1, by omega, by go_num, by rw [HTK.out], below_two HBW.out HBW.out.size _ _, kept_two HBOX.out _ _⟩
            case measure => simp [intOf]; omega
      · obtain rfl : i = N.length := by omega
        have HF : Hid (idxOk N root = ((decide (0 ≤ root) && decide (root < (N.length : Int))) && (N.take N.length).all fun x => refsOk N.length x.keys && refsOk N.length x.items)) := by
          show _ = _
          rw [List.take_length]; rfl
        clear hbw hbox
        go_wp2
        go_ret
        exact ⟨ret_bool HF.out.symm, HBW.out⟩
end Go.Proofs.YtneohoclgnfdcaaGreatDoor
/- graph.reached: the marks of the nodes that a node reaches. -/
namespace Go.Proofs.YtneohoclgnfdcaaGreatDoor
open Go.RowKit
open Go.Lib hiding intOf
def nd0 : Nd := ⟨0, ⟨#[]⟩, false, [], []⟩
/-- the marks after a visit; the first number is fuel -/
def visitF (N : List Nd) : Nat → Nat → List Bool → List Bool
  | 0, _, M => M
  | f + 1, a, M => if M.getD a false then M else
    (N.getD a nd0).items.foldl (fun M x => visitF N f x.toNat M) ((N.getD a nd0).keys.foldl (fun M x => visitF N f x.toNat M) (M.set a true))
theorem fold_len {l : List Int} {F : Nat → List Bool → List Bool} (h : ∀ a M, (F a M).length = M.length ∧ (F a M).count false ≤ M.count false) : ∀ M, (l.foldl (fun M x => F x.toNat M) M).length = M.length ∧ (l.foldl (fun M x => F x.toNat M) M).count false ≤ M.count false := by
  induction l with
  | nil => intro M; exact ⟨rfl, Nat.le_refl _⟩
  | cons x l ih =>
    intro M
    simp only [List.foldl_cons]
    have h1 := ih (F x.toNat M)
    have h2 := h x.toNat M
    exact ⟨h1.1.trans h2.1, Nat.le_trans h1.2 h2.2⟩
theorem set_count {M : List Bool} {a : Nat} (h : a < M.length) (hf : M.getD a false = false) : (M.set a true).count false + 1 = M.count false := by
  have e : M[a] = false := by
    rw [List.getD_eq_getElem?_getD, List.getElem?_eq_getElem h] at hf; exact hf
  have hc := List.count_set (l := M) (a := true) (b := false) h
  have hp : 0 < M.count false := List.count_pos_iff.2 (by rw [← e]; exact List.getElem_mem h)
  rw [e] at hc
  simp at hc
  omega
theorem visit_len (N : List Nd) : ∀ f a M, (visitF N f a M).length = M.length ∧ (visitF N f a M).count false ≤ M.count false
  | 0, a, M => ⟨rfl, Nat.le_refl _⟩
  | f + 1, a, M => by
    unfold visitF
    split
    · exact ⟨rfl, Nat.le_refl _⟩
    · rename_i h
      have ih := visit_len N f
      have h1 := fold_len (l := (N.getD a nd0).keys) ih (M.set a true)
      have h2 := fold_len (l := (N.getD a nd0).items) ih ((N.getD a nd0).keys.foldl (fun M x => visitF N f x.toNat M) (M.set a true))
      refine ⟨h2.1.trans (h1.1.trans (by simp)), Nat.le_trans h2.2 (Nat.le_trans h1.2 ?_)⟩
      by_cases hl : a < M.length
      · have := set_count hl (by simpa using h); omega
      · rw [List.set_eq_of_length_le (by omega)]; exact Nat.le_refl _
/-- the world of a visit: w0 holds the graph; the marks lie in block mb -/
structure VW (w0 : World) (v : Value) (N : List Nd) (mb bm bg bv : Nat) (M : List Bool) (w : World) : Prop where
  nodes : NodesAt w0 v N
  below : Below w0.heap.size w0 w
  lo : w0.heap.size ≤ mb
  len : M.length = N.length
  marks : w.heap[mb]? = some (.cells (M.map Value.bool).toArray 4)
  box : w.cell? ⟨bm, 0, none⟩ = some (.slice (some ⟨mb, 0, none⟩) N.length N.length)
  gbox : w.cell? ⟨bg, 0, none⟩ = some v
  vbox : w.cell? ⟨bv, 0, none⟩ = some (.func (.func 92) #[] #[.pointer (some ⟨bm, 0, none⟩), .pointer (some ⟨bg, 0, none⟩), .pointer (some ⟨bv, 0, none⟩)])
  ne : bm ≠ mb ∧ bg ≠ mb ∧ bv ≠ mb
theorem VW.mark {w0 : World} {v : Value} {N : List Nd} {mb bm bg bv : Nat} {M : List Bool} {w : World} (h : VW w0 v N mb bm bg bv M w) (a : Nat) : VW w0 v N mb bm bg bv (M.set a true) (w.setCell ⟨mb, a, none⟩ (.bool true)) := by
  have hs : ∀ b o, b ≠ mb → (w.setCell ⟨mb, a, none⟩ (.bool true)).cell? ⟨b, o, none⟩ = w.cell? ⟨b, o, none⟩ := fun b o hne => by
    unfold World.cell?; simp [World.setCell, Array.getElem?_modify, Ne.symm hne]
  refine ⟨h.nodes, h.below.setCell (p := ⟨mb, a, none⟩) h.lo _, h.lo, by simp [h.len], ?_, ?_, ?_, ?_, h.ne⟩
  · simp [World.setCell, Array.getElem?_modify, h.marks, List.map_set]
  · rw [hs _ _ h.ne.1]; exact h.box
  · rw [hs _ _ h.ne.2.1]; exact h.gbox
  · rw [hs _ _ h.ne.2.2]; exact h.vbox
/-- every reference of every node is a node -/
def InRange (N : List Nd) : Prop := ∀ n ∈ N, (∀ x ∈ n.keys, 0 ≤ x ∧ x < (N.length : Int)) ∧ (∀ x ∈ n.items, 0 ≤ x ∧ x < (N.length : Int))
theorem grown_refl (w : World) (r : Option Nat) : w.grownBy w r := ⟨rfl, rfl, rfl, Nat.le_refl _, fun _ _ _ => rfl⟩
theorem grown_set (w : World) (mb a : Nat) (v : Value) : w.grownBy (w.setCell ⟨mb, a, none⟩ v) (some mb) := ⟨rfl, rfl, rfl, by simp [World.setCell], fun k _ hk => Below.heap_setCell _ _ _ _ (fun e => hk (by simp [e]))⟩
set_option maxHeartbeats 4000000 in
set_option maxRecDepth 100000 in
theorem visit_any (w0 : World) (v : Value) (N : List Nd) (mb bm bg bv : Nat) (hR : InRange N) : ∀ (f a : Nat) (M : List Bool) (w : World), M.count false < f → a < N.length → VW w0 v N mb bm bg bv M w →
    Calls Tryz.prog 92 #[.int .i64 a, .pointer (some ⟨bm, 0, none⟩), .pointer (some ⟨bg, 0, none⟩), .pointer (some ⟨bv, 0, none⟩)] w fun e w' => e = .returned (.tuple #[]) ∧ VW w0 v N mb bm bg bv (visitF N f a M) w' ∧ w.grownBy w' (some mb) ∧ w'.heap.size = w.heap.size := by
  intro f
  induction f with
  | zero => intro a M w h; exact absurd h (Nat.not_lt_zero _)
  | succ f ih =>
    intro a M w hc ha hV
    have HV := Lib.hid hV
    have HIH := Lib.hid ih
    have HR := Lib.hid hR
    have cb := hV.box
    obtain ⟨n1, n2, n3⟩ := hV.ne
    obtain ⟨va, vc, hva, hvl, hvn⟩ := hV.nodes
    have HVN := Lib.hid hvn
    clear hvn
    subst hva
    have cg := hV.gbox
    have cv := hV.vbox
    have hal : a < M.length := by rw [hV.len]; exact ha
    have cm : w.cell? ⟨mb, a, none⟩ = some (.bool M[a]) := by
      rw [Lib.cell_of_heap hV.marks]; simp [hal]
    have fm : w.frozen? ⟨mb, a, none⟩ = false := Lib.frozen_of_heap hV.marks a
    have hai : (a : Int) < (N.length : Int) := by omega
    clear hV ih hR
    rcases HVN.out with hnil | ⟨b, o, rfl, hall⟩
    · exfalso; rw [hnil] at ha; exact Nat.not_lt_zero _ ha
    have hNa : N[a]? = some N[a] := List.getElem?_eq_getElem ha
    have hn0 := hall a N[a] hNa
    have hD : N.getD a nd0 = N[a] := by rw [List.getD_eq_getElem?_getD, hNa]; rfl
    have hrng := HR.out N[a] (List.getElem_mem ha)
    generalize N[a] = n at hn0 hD hrng
    have HD := Lib.hid hD
    have HRN := Lib.hid hrng
    obtain ⟨kv, iv, c0, c1, c2, c3, c4, hkc, hic⟩ := hn0
    obtain ⟨ka, kc, rfl, hkl, hkc⟩ := hkc
    obtain ⟨ia, ic, rfl, hil, hic⟩ := hic
    have HKC := Lib.hid hkc
    have HIC := Lib.hid hic
    have C4 := Lib.hid c4
    have hblt : b < w0.heap.size := World.block_lt_of_cell? w0 _ c0
    have hbne : b ≠ mb := by have := HV.out.lo; omega
    have e3 := cell_keep HV.out.below c3
    have e4 := cell_keep HV.out.below c4
    clear hall hNa hD hrng hblt c0 c1 c2 c3 c4 hkc hic
    by_cases hm : M[a] = true
    · have HF : Hid (visitF N (f + 1) a M = M) := by
        show _ = _
        unfold visitF
        rw [if_pos (by rw [List.getD_eq_getElem?_getD, List.getElem?_eq_getElem hal]; simpa using hm)]
      rw [hm] at cm
      clear hm
      go_enter Tryz.func92, Tryz.ntmps92
      go_wp2
      refine bodyPost_ret (results_none rfl _ _ _) rfl ?_
      exact ⟨rfl, by rw [HF.out]; exact HV.out, grown_refl _ _, rfl⟩
    · have hm2 : M[a] = false := by simpa using hm
      have hmD : M.getD a false = false := by rw [List.getD_eq_getElem?_getD, List.getElem?_eq_getElem hal]; exact hm2
      have HF : Hid (visitF N (f + 1) a M = n.items.foldl (fun M x => visitF N f x.toNat M) (n.keys.foldl (fun M x => visitF N f x.toNat M) (M.set a true))) := by
        show _ = _
        conv => lhs; unfold visitF
        rw [if_neg (by rw [hmD]; decide), HD.out]
      have hct := set_count hal hmD
      have HCT : Hid ((M.set a true).count false < f) := by show (M.set a true).count false < f; omega
      rw [hm2] at cm
      have HM1 := Lib.hid (HV.out.mark a)
      clear hm hm2 hmD hct hc
      go_enter Tryz.func92, Tryz.ntmps92
      go_wp2
      go_loopw [23] (fun jv wr => ∃ (j : Nat) (M' : List Bool), jv = .int .i64 j ∧ j ≤ n.keys.length ∧ M' = (n.keys.take j).foldl (fun M x => visitF N f x.toNat M) (M.set a true) ∧ VW w0 (.slice (some ⟨b, o, none⟩) N.length vc) N mb bm bg bv M' wr ∧ w.grownBy wr (some mb) ∧ wr.heap.size = w.heap.size) (fun jv _ => n.keys.length - (intOf jv).toNat)
      case atStart => exact ⟨0, _, rfl, Nat.zero_le _, rfl, HM1.out, grown_set _ _ _ _, by simp [World.setCell]⟩
      case round =>
        obtain ⟨j, M', rfl, hj, hM', hV', hg', hz'⟩ := hrel
        have hcnt : M'.count false ≤ (M.set a true).count false := by rw [hM']; exact (fold_len (visit_len N f) _).2
        have hcf : M'.count false < f := by have := HCT.out; omega
        have HV' := Lib.hid hV'
        have HM' := Lib.hid hM'
        have HG' := Lib.hid (And.intro hg' hz')
        have HCF := Lib.hid hcf
        have cv' := hV'.vbox
        have cg' := hV'.gbox
        have d4 := cell_keep hV'.below C4.out
        clear hM' hV' hg' hz' hcnt hcf
        by_cases hjl : j < n.keys.length
        · have hjl2 : (j : Int) < (n.keys.length : Int) := by omega
          have hx := HRN.out.1 n.keys[j] (List.getElem_mem hjl)
          rcases HKC.out with hnil | ⟨lb, lo, rfl, hcells⟩
          · exfalso; rw [hnil] at hjl; exact Nat.not_lt_zero _ hjl
          have hc1 := cell_keep HV'.out.below (hcells j n.keys[j] (List.getElem?_eq_getElem hjl))
          have HTK : Hid ((n.keys.take (j + 1)).foldl (fun M x => visitF N f x.toNat M) (M.set a true) = visitF N f n.keys[j].toNat M') := by
            show _ = _
            rw [List.take_succ_eq_append_getElem hjl, List.foldl_append, ← HM'.out]; rfl
          generalize n.keys[j] = x at hx hc1 HTK
          obtain ⟨k, rfl⟩ := Int.eq_ofNat_of_zero_le hx.1
          have hk : k < N.length := by have := hx.2; omega
          have HCELLS := Lib.hid hcells
          clear hcells hx
          go_wp2_with (go_at_call 92; refine (HIH.out k M' wr HCF.out hk HV'.out).mono ?_; rintro e w3 ⟨rfl, hV3, hg3, hz3⟩; have H3 := Lib.hid (And.intro hV3 (And.intro hg3 hz3)); clear hV3 hg3 hz3)
          go_roundw
          case rel =>
            refine ⟨j + 1, _, by go_num, by omega, HTK.out.symm, ?_, HG'.out.1.trans H3.out.2.1, H3.out.2.2.trans HG'.out.2⟩
            exact H3.out.1
          case measure => simp [intOf]; omega
        · obtain rfl : j = n.keys.length := by omega
          have HE : Hid (M' = n.keys.foldl (fun M x => visitF N f x.toNat M) (M.set a true)) := by
            show _ = _
            rw [HM'.out, List.take_length]
          go_wp2
          go_loopw [38] (fun jv wr => ∃ (j : Nat) (M' : List Bool), jv = .int .i64 j ∧ j ≤ n.items.length ∧ M' = (n.items.take j).foldl (fun M x => visitF N f x.toNat M) (n.keys.foldl (fun M x => visitF N f x.toNat M) (M.set a true)) ∧ VW w0 (.slice (some ⟨b, o, none⟩) N.length vc) N mb bm bg bv M' wr ∧ w.grownBy wr (some mb) ∧ wr.heap.size = w.heap.size) (fun jv _ => n.items.length - (intOf jv).toNat)
          case atStart => exact ⟨0, M', rfl, Nat.zero_le _, HE.out, HV'.out, HG'.out.1, HG'.out.2⟩
          case round =>
            obtain ⟨j, M', rfl, hj, hM', hV', hg', hz'⟩ := hrel
            have hcnt : M'.count false ≤ (M.set a true).count false := by rw [hM']; exact Nat.le_trans (fold_len (visit_len N f) _).2 (fold_len (visit_len N f) _).2
            have hcf : M'.count false < f := by have := HCT.out; omega
            have HV' := Lib.hid hV'
            have HM' := Lib.hid hM'
            have HG' := Lib.hid (And.intro hg' hz')
            have HCF := Lib.hid hcf
            have cv' := hV'.vbox
            have cg' := hV'.gbox
            have d4 := cell_keep hV'.below C4.out
            clear hM' hV' hg' hz' hcnt hcf
            by_cases hjl : j < n.items.length
            · have hjl2 : (j : Int) < (n.items.length : Int) := by omega
              have hx := HRN.out.2 n.items[j] (List.getElem_mem hjl)
              rcases HIC.out with hnil | ⟨lb, lo, rfl, hcells⟩
              · exfalso; rw [hnil] at hjl; exact Nat.not_lt_zero _ hjl
              have hc1 := cell_keep HV'.out.below (hcells j n.items[j] (List.getElem?_eq_getElem hjl))
              have HTK : Hid ((n.items.take (j + 1)).foldl (fun M x => visitF N f x.toNat M) (n.keys.foldl (fun M x => visitF N f x.toNat M) (M.set a true)) = visitF N f n.items[j].toNat M') := by
                show _ = _
                rw [List.take_succ_eq_append_getElem hjl, List.foldl_append, ← HM'.out]; rfl
              generalize n.items[j] = x at hx hc1 HTK
              obtain ⟨k, rfl⟩ := Int.eq_ofNat_of_zero_le hx.1
              have hk : k < N.length := by have := hx.2; omega
              have HCELLS := Lib.hid hcells
              clear hcells hx
              go_wp2_with (go_at_call 92; refine (HIH.out k M' wr HCF.out hk HV'.out).mono ?_; rintro e w3 ⟨rfl, hV3, hg3, hz3⟩; have H3 := Lib.hid (And.intro hV3 (And.intro hg3 hz3)); clear hV3 hg3 hz3)
              go_roundw
              case rel =>
                refine ⟨j + 1, _, by go_num, by omega, HTK.out.symm, ?_, HG'.out.1.trans H3.out.2.1, H3.out.2.2.trans HG'.out.2⟩
                exact H3.out.1
              case measure => simp [intOf]; omega
            · obtain rfl : j = n.items.length := by omega
              have HE : Hid (M' = n.items.foldl (fun M x => visitF N f x.toNat M) (n.keys.foldl (fun M x => visitF N f x.toNat M) (M.set a true))) := by
                show _ = _
                rw [HM'.out, List.take_length]
              go_wp2
              go_end0
              exact ⟨rfl, by rw [HF.out, ← HE.out]; exact HV'.out, HG'.out.1, HG'.out.2⟩
end Go.Proofs.YtneohoclgnfdcaaGreatDoor
/- graph.reached, graph.counts, graph.inKeys. -/
namespace Go.Proofs.YtneohoclgnfdcaaGreatDoor
open Go.RowKit
open Go.Lib hiding intOf
theorem count_le (M : List Bool) : M.count false ≤ M.length := List.count_le_length
set_option maxHeartbeats 4000000 in
set_option maxRecDepth 100000 in
theorem reached_any (w0 w : World) (v : Value) (N : List Nd) (root : Int) (a mb : Nat) (M : List Bool) (hN : NodesAt w0 v N) (hR : InRange N) (hb : Below w0.heap.size w0 w) (hlo : w0.heap.size ≤ mb) (hM : M.length = N.length) (hm : w.heap[mb]? = some (.cells (M.map Value.bool).toArray 4)) (ha : a < N.length) :
    Calls Tryz.prog 57 #[.agg #[v, .int .i64 root], .int .i64 a, .slice (some ⟨mb, 0, none⟩) N.length N.length] w fun e w' => e = .returned (.tuple #[]) ∧ w.grownBy w' (some mb) ∧ w'.heap[mb]? = some (.cells ((visitF N (N.length + 1) a M).map Value.bool).toArray 4) := by
  have hml : mb < w.heap.size := (Array.getElem?_eq_some_iff.1 hm).1
  have hcl : M.count false < N.length + 1 := by have := count_le M; omega
  have HV := visit_any w0 v N mb (w.heap.size + 1) w.heap.size (w.heap.size + 1 + 1) hR (N.length + 1) a M
  have H := Lib.hid (And.intro hN (And.intro hb (And.intro hlo (And.intro hM (And.intro hm (And.intro ha (And.intro hml (And.intro hcl HV))))))))
  obtain ⟨va, vc, rfl, hvl, _⟩ := hN
  clear hb hlo hM hm ha hml hcl HV hR
  go_enter Tryz.func57, Tryz.ntmps57
  go_wp2_with (go_at_call 92; refine (H.out.2.2.2.2.2.2.2.2 _ H.out.2.2.2.2.2.2.2.1 H.out.2.2.2.2.2.1 ?_).mono ?_)
  · obtain ⟨hN, hb, hlo, hM, hm, ha, hml, hcl, _⟩ := H.out
    have hb3 := ((hb.alloc hb.size (.cells #[.slice va N.length vc, .int .i64 root] 36)).alloc (by simp; have := hb.size; omega) (.cells #[.slice (some ⟨mb, 0, none⟩) N.length N.length] 107)).alloc (by simp; have := hb.size; omega) (.cells #[.func (.func 92) #[] #[.pointer (some ⟨w.heap.size + 1, 0, none⟩), .pointer (some ⟨w.heap.size, 0, none⟩), .pointer (some ⟨w.heap.size + 1 + 1, 0, none⟩)]] 86)
    refine ⟨hN, hb3, hlo, hM, ?_, ?_, ?_, ?_, by omega, by omega, by omega⟩
    · rw [Lib.alloc_old _ _ _ (by simp; omega), Lib.alloc_old _ _ _ (by simp; omega), Lib.alloc_old _ _ _ hml]; exact hm
    · go_simp
    · go_simp
    · go_simp
  · rintro e w' ⟨rfl, hV, hg, hz⟩
    go_wp2
    go_end0
    obtain ⟨hN, hb, hlo, hM, hm, ha, hml, hcl, _⟩ := H.out
    refine ⟨rfl, ?_, hV.marks⟩
    exact (((World.grownBy_alloc _ _ _).trans (World.grownBy_alloc _ _ _)).trans (World.grownBy_alloc _ _ _)).trans hg
end Go.Proofs.YtneohoclgnfdcaaGreatDoor
/- graph.counts and graph.inKeys. -/
namespace Go.Proofs.YtneohoclgnfdcaaGreatDoor
open Go.RowKit
open Go.Lib hiding intOf
def incr (C : List Int) (x : Int) : List Int := C.set x.toNat (wrap64 (C.getD x.toNat 0 + 1))
def cntN (C : List Int) (n : Nd) : List Int := n.items.foldl incr (n.keys.foldl incr C)
def cntF (N : List Nd) (root : Int) : List Int := N.foldl cntN (incr (List.replicate N.length 0) root)
theorem incr_len (C : List Int) (x : Int) : (incr C x).length = C.length := by simp [incr]
theorem incrs_len (l : List Int) : ∀ C : List Int, (l.foldl incr C).length = C.length := by
  induction l with
  | nil => intro C; rfl
  | cons x l ih => intro C; simp only [List.foldl_cons]; rw [ih, incr_len]
/-- the world of counts: the box at B, the numbers at B + 1 -/
structure CW (w : World) (N : List Nd) (bx : Array Value) (C : List Int) (wr : World) : Prop where
  below : Below w.heap.size w wr
  box : wr.heap[w.heap.size]? = some (.cells bx 36)
  row : wr.heap[w.heap.size + 1]? = some (.cells (C.map (Value.int .i64)).toArray 3)
  len : C.length = N.length
theorem CW.alloc {w : World} {N : List Nd} {bx : Array Value} {C : List Int} {wr : World} (h : CW w N bx C wr) (o : Obj) : CW w N bx C (wr.alloc o) :=
  ⟨h.below.alloc h.below.size o, by rw [Lib.alloc_old _ _ _ (Array.getElem?_eq_some_iff.1 h.box).1]; exact h.box, by rw [Lib.alloc_old _ _ _ (Array.getElem?_eq_some_iff.1 h.row).1]; exact h.row, h.len⟩
theorem CW.set {w : World} {N : List Nd} {bx : Array Value} {C : List Int} {wr : World} (h : CW w N bx C wr) (k : Nat) (x : Int) : CW w N bx (C.set k x) (wr.setCell ⟨w.heap.size + 1, k, none⟩ (.int .i64 x)) := by
  refine ⟨h.below.setCell (p := ⟨w.heap.size + 1, k, none⟩) (by show w.heap.size ≤ w.heap.size + 1; omega) _, ?_, ?_, by simp [h.len]⟩
  · simp [World.setCell, Array.getElem?_modify, h.box]
  · simp [World.setCell, Array.getElem?_modify, h.row, List.map_set]
theorem set_far {w : World} {b k c : Nat} (v : Value) (h : c ≠ b) : (w.setCell ⟨b, k, none⟩ v).heap[c]? = w.heap[c]? := by
  simp [World.setCell, Array.getElem?_modify, Ne.symm h]
theorem cw_start (w : World) (N : List Nd) (bx : Array Value) : CW w N bx (List.replicate N.length 0) ((w.alloc (.cells bx 36)).alloc (.cells (Array.replicate N.length (.int .i64 0)) 3)) := by
  have s1 : (w.alloc (.cells bx 36)).heap.size = w.heap.size + 1 := by simp
  refine ⟨((Below.refl _ w).alloc (Nat.le_refl _) _).alloc (by simp) _, ?_, ?_, by simp⟩
  · rw [Lib.alloc_old _ _ _ (by simp)]; exact heap_alloc_new w _
  · rw [← s1, heap_alloc_new]; simp
theorem info_int0 : (Tryz.prog.info? 3).map (fun i => (i.zero, i.size, i.bytes)) = some (some (.int .i64 0), 1, 8) := by kernel_rfl
theorem info_bool0 : (Tryz.prog.info? 4).map (fun i => (i.zero, i.size, i.bytes)) = some (some (.bool false), 1, 1) := by kernel_rfl
theorem made_rep (z : Value) (n : Nat) : madeCells #[z] n = Array.replicate n z := by
  apply Array.ext
  · simp [madeCells]
  · intro i h1 h2
    simp [madeCells, Nat.mod_one]
/-- 'make([]T, n)': the world behind it is a letter -/
theorem make_letter {T E bytes : Nat} {z : Value} (hT : Tryz.prog.underlying T = some (.slice E)) (hinfo : (Tryz.prog.info? E).map (fun i => (i.zero, i.size, i.bytes)) = some (some z, 1, bytes)) (hz1 : z.cells = #[z]) (w : World) {ops : Array Oper} {rest : List Oper} {o : Oper} {a : Act} {Q : Exit → Act → World → Prop}
    (hg : o.guard = none) (l c : Operand) (hop : o.op = Op.makeSlice T l c) (n H : Nat) (hl : a.eval l = .int .i64 (n : Int)) (hc : a.eval c = .int .i64 (n : Int)) (hbytes : bytes * n ≤ 281474976710656) (h63 : n ≤ 9223372036854775807) (hH : w.heap.size = H)
    (hK : ∀ W, Hid (W = w.alloc (.cells (Array.replicate n z) E)) → wpList Tryz.prog ops Q rest (a.put o.dst (.slice (some ⟨H, 0, none⟩) n n)) W) : wpList Tryz.prog ops Q (o :: rest) a w := by
  obtain ⟨i, hi, hz, hs, hb⟩ := info_parts hinfo
  subst hH
  refine wpList_make_row w hg l c T hop E i z hT hi hz hs hz1 .i64 .i64 n hl hc (by rw [hb]; exact hbytes) h63 ?_
  rw [made_rep]
  exact hK _ rfl
set_option maxHeartbeats 4000000 in
set_option maxRecDepth 100000 in
theorem counts_any (w : World) (v : Value) (N : List Nd) (root : Nat) (hN : NodesAt w v N) (hR : InRange N) (hroot : root < N.length) (hn : N.length ≤ 4096) :
    Calls Tryz.prog 59 #[.agg #[v, .int .i64 root]] w fun e w' => e = .returned (.slice (some ⟨w.heap.size + 1, 0, none⟩) N.length N.length) ∧ Below w.heap.size w w' ∧ w'.heap[w.heap.size + 1]? = some (.cells ((cntF N root).map (Value.int .i64)).toArray 3) := by
  have HN := Lib.hid hN
  have HR := Lib.hid hR
  obtain ⟨va, vc, rfl, hvl, hvn⟩ := hN
  have HVN := Lib.hid hvn
  have hroot2 : (root : Int) < (N.length : Int) := by omega
  have hroot3 : (0 : Int) ≤ root := by omega
  clear hR hvn
  go_enter Tryz.func59, Tryz.ntmps59
  go_wp2_with (refine make_letter Tryz.underlying31 info_int0 rfl _ rfl _ _ rfl N.length (w.heap.size + 1) rfl rfl (by omega) (by omega) (size_new _ _) ?_)
  intro W hW
  have HC0 : Hid (CW w N #[.slice va N.length vc, .int .i64 root] (List.replicate N.length 0) W) := by
    show CW w N #[.slice va N.length vc, .int .i64 root] (List.replicate N.length 0) W
    rw [hW.out]; exact cw_start w N _
  have c1 : W.cell? ⟨w.heap.size, 1, none⟩ = some (.int .i64 root) := (Lib.cell_of_heap HC0.out.box 1).trans rfl
  have c0 : W.cell? ⟨w.heap.size, 0, none⟩ = some (.slice va N.length vc) := (Lib.cell_of_heap HC0.out.box 0).trans rfl
  have cr : W.cell? ⟨w.heap.size + 1, root, none⟩ = some (.int .i64 0) := by rw [Lib.cell_of_heap HC0.out.row]; simp [hroot]
  have fr : W.frozen? ⟨w.heap.size + 1, root, none⟩ = false := Lib.frozen_of_heap HC0.out.row root
  have HC1 : Hid (CW w N #[.slice va N.length vc, .int .i64 root] (incr (List.replicate N.length 0) root) (W.setCell ⟨w.heap.size + 1, root, none⟩ (.int .i64 1))) := by
    have h := HC0.out.set root 1
    have e : incr (List.replicate N.length 0) root = (List.replicate N.length 0).set root 1 := by
      unfold incr
      simp only [Int.toNat_natCast]
      rw [List.getD_eq_getElem?_getD, List.getElem?_replicate, if_pos hroot]
      have h1 : wrap64 ((some (0 : Int)).getD 0 + 1) = 1 := by simp [wrap64]
      rw [h1]
    show CW w N #[.slice va N.length vc, .int .i64 root] (incr (List.replicate N.length 0) root) _
    rw [e]; exact h
  have hz1 : w.heap.size < W.heap.size := (Array.getElem?_eq_some_iff.1 HC0.out.box).1
  go_wp2
  go_loopw [24] (fun iv wr => ∃ (i : Nat) (C : List Int), iv = .int .i64 i ∧ i ≤ N.length ∧ C = (N.take i).foldl cntN (incr (List.replicate N.length 0) root) ∧ CW w N #[.slice va N.length vc, .int .i64 root] C wr) (fun iv _ => N.length - (intOf iv).toNat)
  case atStart => exact ⟨0, _, rfl, Nat.zero_le _, rfl, HC1.out⟩
  case round =>
    obtain ⟨i, C, rfl, hi, hC, hcw⟩ := hrel
    have HCW := Lib.hid hcw
    have HC := Lib.hid hC
    by_cases hlt : i < N.length
    · have hlt2 : (i : Int) < (N.length : Int) := by omega
      rcases HVN.out with hnil | ⟨b, o, rfl, hall⟩
      · exfalso; rw [hnil] at hlt; exact Nat.not_lt_zero _ hlt
      have hn0 := hall i N[i] (List.getElem?_eq_getElem hlt)
      have hrng := HR.out N[i] (List.getElem_mem hlt)
      have HTKN : Hid ((N.take (i + 1)).foldl cntN (incr (List.replicate N.length 0) root) = cntN C N[i]) := by
        show _ = _
        rw [List.take_succ_eq_append_getElem hlt, List.foldl_append, ← HC.out]; rfl
      generalize N[i] = n at hn0 hrng HTKN
      have HRN := Lib.hid hrng
      obtain ⟨kv, iv, c0, c1, c2, c3, c4, hkc, hic⟩ := hn0
      obtain ⟨ka, kc, rfl, hkl, hkc⟩ := hkc
      obtain ⟨ia, ic, rfl, hil, hic⟩ := hic
      have HKC := Lib.hid hkc
      have HIC := Lib.hid hic
      have d0 := cell_keep hcw.below c0
      have d1 := cell_keep hcw.below c1
      have d2 := cell_keep hcw.below c2
      have d3 := cell_keep hcw.below c3
      have d4 := cell_keep hcw.below c4
      obtain ⟨Hn, hHn⟩ : ∃ Hn, wr.heap.size = Hn := ⟨_, rfl⟩
      have HHN : Hid (Hn ≠ w.heap.size + 1) := by
        have := (Array.getElem?_eq_some_iff.1 hcw.row).1
        show Hn ≠ w.heap.size + 1; omega
      have HNEW : Hid ((wr.alloc (.cells #[.int .i64 n.kind, .string n.text, .bool n.ord, .slice ka n.keys.length kc, .slice ia n.items.length ic] 33)).heap[Hn]? = some (.cells #[.int .i64 n.kind, .string n.text, .bool n.ord, .slice ka n.keys.length kc, .slice ia n.items.length ic] 33)) := by
        show _ = _
        rw [← hHn]; exact heap_alloc_new wr _
      clear hall hC hcw hrng hkc hic c0 c1 c2 c3 c4
      go_wp2
      go_loopw [31] (fun jv wr => ∃ (j : Nat) (D : List Int), jv = .int .i64 j ∧ j ≤ n.keys.length ∧ D = (n.keys.take j).foldl incr C ∧ CW w N #[.slice (some ⟨b, o, none⟩) N.length vc, .int .i64 root] D wr ∧ wr.heap[Hn]? = some (.cells #[.int .i64 n.kind, .string n.text, .bool n.ord, .slice ka n.keys.length kc, .slice ia n.items.length ic] 33)) (fun jv _ => n.keys.length - (intOf jv).toNat)
      case atStart => exact ⟨0, _, rfl, Nat.zero_le _, rfl, HCW.out.alloc _, HNEW.out⟩
      case round =>
        obtain ⟨j, D, rfl, hj, hD, hcw, hnb⟩ := hrel
        have HCW := Lib.hid hcw
        have HD := Lib.hid hD
        have HNB := Lib.hid hnb
        by_cases hjl : j < n.keys.length
        · have hjl2 : (j : Int) < (n.keys.length : Int) := by omega
          have hx := HRN.out.1 n.keys[j] (List.getElem_mem hjl)
          rcases HKC.out with hnil | ⟨lb, lo, rfl, hcells⟩
          · exfalso; rw [hnil] at hjl; exact Nat.not_lt_zero _ hjl
          have hc1 := cell_keep hcw.below (hcells j n.keys[j] (List.getElem?_eq_getElem hjl))
          have HTK : Hid ((n.keys.take (j + 1)).foldl incr C = incr D n.keys[j]) := by
            show _ = _
            rw [List.take_succ_eq_append_getElem hjl, List.foldl_append, ← HD.out]; rfl
          generalize n.keys[j] = x at hx hc1 HTK
          obtain ⟨k, rfl⟩ := Int.eq_ofNat_of_zero_le hx.1
          have hk : k < D.length := by rw [hcw.len]; have := hx.2; omega
          have hk2 : (k : Int) < (N.length : Int) := hx.2
          have hck : wr.cell? ⟨w.heap.size + 1, k, none⟩ = some (.int .i64 D[k]) := by rw [Lib.cell_of_heap hcw.row]; simp [hk]
          have hfk : wr.frozen? ⟨w.heap.size + 1, k, none⟩ = false := Lib.frozen_of_heap hcw.row k
          have HIN : Hid (incr D (k : Int) = D.set k (wrap64 (D[k] + 1))) := by
            show _ = _
            unfold incr
            simp only [Int.toNat_natCast]
            rw [List.getD_eq_getElem?_getD, List.getElem?_eq_getElem hk]; rfl
          have HCELLS := Lib.hid hcells
          generalize D[k] = y at hck HIN
          clear hcells hx hD hcw hnb hk
          go_wp2
          go_roundw
          case rel =>
            refine ⟨j + 1, _, by go_num, by omega, HTK.out.symm, ?_, ?_⟩
            · rw [HIN.out]; exact HCW.out.set k _
            · rw [set_far _ HHN.out]; exact HNB.out
          case measure => simp [intOf]; omega
        · obtain rfl : j = n.keys.length := by omega
          have HE : Hid (D = n.keys.foldl incr C) := by
            show _ = _
            rw [HD.out, List.take_length]
          have b4 : wr.cell? ⟨Hn, 4, none⟩ = some (.slice ia n.items.length ic) := (Lib.cell_of_heap hnb 4).trans rfl
          clear hD hcw hnb
          go_wp2
          go_loopw [45] (fun jv wr => ∃ (j : Nat) (D : List Int), jv = .int .i64 j ∧ j ≤ n.items.length ∧ D = (n.items.take j).foldl incr (n.keys.foldl incr C) ∧ CW w N #[.slice (some ⟨b, o, none⟩) N.length vc, .int .i64 root] D wr ∧ wr.heap[Hn]? = some (.cells #[.int .i64 n.kind, .string n.text, .bool n.ord, .slice ka n.keys.length kc, .slice ia n.items.length ic] 33)) (fun jv _ => n.items.length - (intOf jv).toNat)
          case atStart => exact ⟨0, D, rfl, Nat.zero_le _, HE.out, HCW.out, HNB.out⟩
          case round =>
            obtain ⟨j, D, rfl, hj, hD, hcw, hnb⟩ := hrel
            have HCW := Lib.hid hcw
            have HD := Lib.hid hD
            have HNB := Lib.hid hnb
            by_cases hjl : j < n.items.length
            · have hjl2 : (j : Int) < (n.items.length : Int) := by omega
              have hx := HRN.out.2 n.items[j] (List.getElem_mem hjl)
              rcases HIC.out with hnil | ⟨lb, lo, rfl, hcells⟩
              · exfalso; rw [hnil] at hjl; exact Nat.not_lt_zero _ hjl
              have hc1 := cell_keep hcw.below (hcells j n.items[j] (List.getElem?_eq_getElem hjl))
              have HTK : Hid ((n.items.take (j + 1)).foldl incr (n.keys.foldl incr C) = incr D n.items[j]) := by
                show _ = _
                rw [List.take_succ_eq_append_getElem hjl, List.foldl_append, ← HD.out]; rfl
              generalize n.items[j] = x at hx hc1 HTK
              obtain ⟨k, rfl⟩ := Int.eq_ofNat_of_zero_le hx.1
              have hk : k < D.length := by rw [hcw.len]; have := hx.2; omega
              have hk2 : (k : Int) < (N.length : Int) := hx.2
              have hck : wr.cell? ⟨w.heap.size + 1, k, none⟩ = some (.int .i64 D[k]) := by rw [Lib.cell_of_heap hcw.row]; simp [hk]
              have hfk : wr.frozen? ⟨w.heap.size + 1, k, none⟩ = false := Lib.frozen_of_heap hcw.row k
              have HIN : Hid (incr D (k : Int) = D.set k (wrap64 (D[k] + 1))) := by
                show _ = _
                unfold incr
                simp only [Int.toNat_natCast]
                rw [List.getD_eq_getElem?_getD, List.getElem?_eq_getElem hk]; rfl
              have HCELLS := Lib.hid hcells
              generalize D[k] = y at hck HIN
              clear hcells hx hD hcw hnb hk
              go_wp2
              go_roundw
              case rel =>
                refine ⟨j + 1, _, by go_num, by omega, HTK.out.symm, ?_, ?_⟩
                · rw [HIN.out]; exact HCW.out.set k _
                · rw [set_far _ HHN.out]; exact HNB.out
              case measure => simp [intOf]; omega
            · obtain rfl : j = n.items.length := by omega
              have HE : Hid (D = n.items.foldl incr (n.keys.foldl incr C)) := by
                show _ = _
                rw [HD.out, List.take_length]
              have b4 : wr.cell? ⟨Hn, 4, none⟩ = some (.slice ia n.items.length ic) := (Lib.cell_of_heap hnb 4).trans rfl
              clear hD hcw hnb
              go_wp2
              go_roundw
              case rel => exact ⟨i + 1, _, by go_num, by omega, rfl, by rw [HTKN.out]; unfold cntN; rw [← HE.out]; exact HCW.out⟩
              case measure => simp [intOf]; omega
    · obtain rfl : i = N.length := by omega
      have HE : Hid (C = cntF N root) := by
        show _ = _
        rw [HC.out, List.take_length]; rfl
      clear hC hcw
      go_wp2
      go_ret
      exact ⟨rfl, HCW.out.below, by rw [← HE.out]; exact HCW.out.row⟩
end Go.Proofs.YtneohoclgnfdcaaGreatDoor
/- graph.inKeys: the marks of the nodes of keys. -/
namespace Go.Proofs.YtneohoclgnfdcaaGreatDoor
open Go.RowKit
open Go.Lib hiding intOf
def inkN (N : List Nd) (M : List Bool) (n : Nd) : List Bool := n.keys.foldl (fun M x => visitF N (N.length + 1) x.toNat M) M
def inkF (N : List Nd) : List Bool := N.foldl (inkN N) (List.replicate N.length false)
/-- the world of inKeys: the box at B, the marks at B + 1 -/
structure IW (w : World) (N : List Nd) (bx : Array Value) (M : List Bool) (wr : World) : Prop where
  below : Below w.heap.size w wr
  box : wr.heap[w.heap.size]? = some (.cells bx 36)
  row : wr.heap[w.heap.size + 1]? = some (.cells (M.map Value.bool).toArray 4)
  len : M.length = N.length
theorem IW.alloc {w : World} {N : List Nd} {bx : Array Value} {M : List Bool} {wr : World} (h : IW w N bx M wr) (o : Obj) : IW w N bx M (wr.alloc o) :=
  ⟨h.below.alloc h.below.size o, by rw [Lib.alloc_old _ _ _ (Array.getElem?_eq_some_iff.1 h.box).1]; exact h.box, by rw [Lib.alloc_old _ _ _ (Array.getElem?_eq_some_iff.1 h.row).1]; exact h.row, h.len⟩
theorem iw_start (w : World) (N : List Nd) (bx : Array Value) : IW w N bx (List.replicate N.length false) ((w.alloc (.cells bx 36)).alloc (.cells (Array.replicate N.length (.bool false)) 4)) := by
  have s1 : (w.alloc (.cells bx 36)).heap.size = w.heap.size + 1 := by simp
  refine ⟨((Below.refl _ w).alloc (Nat.le_refl _) _).alloc (by simp) _, ?_, ?_, by simp⟩
  · rw [Lib.alloc_old _ _ _ (by simp)]; exact heap_alloc_new w _
  · rw [← s1, heap_alloc_new]; simp
theorem IW.step {w : World} {N : List Nd} {bx : Array Value} {M M' : List Bool} {wr w' : World} (h : IW w N bx M wr) (hg : wr.grownBy w' (some (w.heap.size + 1))) (hm : w'.heap[w.heap.size + 1]? = some (.cells (M'.map Value.bool).toArray 4)) (hl : M'.length = M.length) : IW w N bx M' w' :=
  ⟨h.below.grown hg h.below.size (fun k hk => by have e := Option.some.inj hk; omega), by rw [hg.block _ (Array.getElem?_eq_some_iff.1 h.box).1 (by simp)]; exact h.box, hm, hl.trans h.len⟩
set_option maxHeartbeats 4000000 in
set_option maxRecDepth 100000 in
theorem inKeys_any (w : World) (v : Value) (N : List Nd) (root : Int) (hN : NodesAt w v N) (hR : InRange N) (hn : N.length ≤ 4096) :
    Calls Tryz.prog 60 #[.agg #[v, .int .i64 root]] w fun e w' => e = .returned (.slice (some ⟨w.heap.size + 1, 0, none⟩) N.length N.length) ∧ Below w.heap.size w w' ∧ w'.heap[w.heap.size + 1]? = some (.cells ((inkF N).map Value.bool).toArray 4) := by
  have HN := Lib.hid hN
  have HR := Lib.hid hR
  obtain ⟨va, vc, rfl, hvl, hvn⟩ := hN
  have HVN := Lib.hid hvn
  clear hR hvn
  go_enter Tryz.func60, Tryz.ntmps60
  go_wp2_with (refine make_letter Tryz.underlying107 info_bool0 rfl _ rfl _ _ rfl N.length (w.heap.size + 1) rfl rfl (by omega) (by omega) (size_new _ _) ?_)
  intro W hW
  have HC0 : Hid (IW w N #[.slice va N.length vc, .int .i64 root] (List.replicate N.length false) W) := by
    show IW w N #[.slice va N.length vc, .int .i64 root] (List.replicate N.length false) W
    rw [hW.out]; exact iw_start w N _
  have c0 : W.cell? ⟨w.heap.size, 0, none⟩ = some (.slice va N.length vc) := (Lib.cell_of_heap HC0.out.box 0).trans rfl
  go_wp2
  go_loopw [15] (fun iv wr => ∃ (i : Nat) (M : List Bool), iv = .int .i64 i ∧ i ≤ N.length ∧ M = (N.take i).foldl (inkN N) (List.replicate N.length false) ∧ IW w N #[.slice va N.length vc, .int .i64 root] M wr) (fun iv _ => N.length - (intOf iv).toNat)
  case atStart => exact ⟨0, _, rfl, Nat.zero_le _, rfl, HC0.out⟩
  case round =>
    obtain ⟨i, C, rfl, hi, hC, hcw⟩ := hrel
    have HCW := Lib.hid hcw
    have HC := Lib.hid hC
    by_cases hlt : i < N.length
    · have hlt2 : (i : Int) < (N.length : Int) := by omega
      rcases HVN.out with hnil | ⟨b, o, rfl, hall⟩
      · exfalso; rw [hnil] at hlt; exact Nat.not_lt_zero _ hlt
      have hn0 := hall i N[i] (List.getElem?_eq_getElem hlt)
      have hrng := HR.out N[i] (List.getElem_mem hlt)
      have HTKN : Hid ((N.take (i + 1)).foldl (inkN N) (List.replicate N.length false) = inkN N C N[i]) := by
        show _ = _
        rw [List.take_succ_eq_append_getElem hlt, List.foldl_append, ← HC.out]; rfl
      generalize N[i] = n at hn0 hrng HTKN
      have HRN := Lib.hid hrng
      obtain ⟨kv, iv, c0, c1, c2, c3, c4, hkc, hic⟩ := hn0
      obtain ⟨ka, kc, rfl, hkl, hkc⟩ := hkc
      obtain ⟨ia, ic, rfl, hil, hic⟩ := hic
      have HKC := Lib.hid hkc
      have d0 := cell_keep hcw.below c0
      have d1 := cell_keep hcw.below c1
      have d2 := cell_keep hcw.below c2
      have d3 := cell_keep hcw.below c3
      have d4 := cell_keep hcw.below c4
      clear hall hC hcw hrng hkc hic c0 c1 c2 c3 c4
      go_wp2
      go_loopw [22] (fun jv wr => ∃ (j : Nat) (D : List Bool), jv = .int .i64 j ∧ j ≤ n.keys.length ∧ D = (n.keys.take j).foldl (fun M x => visitF N (N.length + 1) x.toNat M) C ∧ IW w N #[.slice (some ⟨b, o, none⟩) N.length vc, .int .i64 root] D wr) (fun jv _ => n.keys.length - (intOf jv).toNat)
      case atStart => exact ⟨0, _, rfl, Nat.zero_le _, rfl, HCW.out.alloc _⟩
      case round =>
        obtain ⟨j, D, rfl, hj, hD, hcw⟩ := hrel
        have HCW := Lib.hid hcw
        have HD := Lib.hid hD
        have b0 : wr.cell? ⟨w.heap.size, 0, none⟩ = some (.slice (some ⟨b, o, none⟩) N.length vc) := (Lib.cell_of_heap hcw.box 0).trans rfl
        have b1 : wr.cell? ⟨w.heap.size, 1, none⟩ = some (.int .i64 root) := (Lib.cell_of_heap hcw.box 1).trans rfl
        by_cases hjl : j < n.keys.length
        · have hjl2 : (j : Int) < (n.keys.length : Int) := by omega
          have hx := HRN.out.1 n.keys[j] (List.getElem_mem hjl)
          rcases HKC.out with hnil | ⟨lb, lo, rfl, hcells⟩
          · exfalso; rw [hnil] at hjl; exact Nat.not_lt_zero _ hjl
          have hc1 := cell_keep hcw.below (hcells j n.keys[j] (List.getElem?_eq_getElem hjl))
          have HTK : Hid ((n.keys.take (j + 1)).foldl (fun M x => visitF N (N.length + 1) x.toNat M) C = visitF N (N.length + 1) n.keys[j].toNat D) := by
            show _ = _
            rw [List.take_succ_eq_append_getElem hjl, List.foldl_append, ← HD.out]; rfl
          generalize n.keys[j] = x at hx hc1 HTK
          obtain ⟨k, rfl⟩ := Int.eq_ofNat_of_zero_le hx.1
          have hk : k < N.length := by have := hx.2; omega
          have HCELLS := Lib.hid hcells
          have HLO : Hid (w.heap.size ≤ w.heap.size + 1) := Nat.le_succ _
          clear hcells hx hD hcw
          go_wp2_with (go_at_call 57; refine (reached_any w wr _ N root k (w.heap.size + 1) D HN.out HR.out HCW.out.below HLO.out HCW.out.len HCW.out.row hk).mono ?_; rintro e w3 ⟨rfl, hg3, hm3⟩; have H3 := Lib.hid (And.intro hg3 hm3); clear hg3 hm3)
          go_roundw
          case rel => exact ⟨j + 1, _, by go_num, by omega, HTK.out.symm, HCW.out.step H3.out.1 H3.out.2 (visit_len N _ _ _).1⟩
          case measure => simp [intOf]; omega
        · obtain rfl : j = n.keys.length := by omega
          have HE : Hid (D = inkN N C n) := by
            show _ = _
            rw [HD.out, List.take_length]; rfl
          clear hD hcw
          go_wp2
          go_roundw
          case rel => exact ⟨i + 1, _, by go_num, by omega, rfl, by rw [HTKN.out, ← HE.out]; exact HCW.out⟩
          case measure => simp [intOf]; omega
    · obtain rfl : i = N.length := by omega
      have HE : Hid (C = inkF N) := by
        show _ = _
        rw [HC.out, List.take_length]; rfl
      clear hC hcw
      go_wp2
      go_ret
      exact ⟨rfl, HCW.out.below, by rw [← HE.out]; exact HCW.out.row⟩
end Go.Proofs.YtneohoclgnfdcaaGreatDoor
