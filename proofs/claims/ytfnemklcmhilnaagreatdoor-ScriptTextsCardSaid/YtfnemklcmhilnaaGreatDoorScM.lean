/- A region that draws its order, whose operations yield each ONE value in every world of a class, but for a tail (an allocation, a store): the order of the text serves every order. -/
import Derived.Deep.Quiet
import Derived.Below
namespace Go.Mix
section
variable {P : Program} {ops : Array Oper} {md : Region.Mode} {Q : Exit → Act → World → Prop} {T : World → World → Prop} {D : World → Prop}

/-- One value, in every world of the class D; a call leaves a world that T reaches. -/
def One (P : Program) (ops : Array Oper) (T : World → World → Prop) (D : World → Prop) (o : Oper) (v : Value) (a : Act) : Prop :=
  (Region.wanted o (yielded ops a.tmps) = true ∧ ∀ w, D w → o.quietAt P a (T w) w v) ∨ (Region.wanted o (yielded ops a.tmps) = false ∧ v = undef)
theorem One.of_same {o : Oper} {v : Value} {a a' : Act} (hy : One P ops T D o v a) (he : execOp a'.eval o = execOp a.eval o)
    (hw : Region.wanted o (yielded ops a'.tmps) = Region.wanted o (yielded ops a.tmps)) : One P ops T D o v a' := by
  unfold One Oper.quietAt at *
  rw [he, hw]
  exact hy

/-- What an operation may leave behind: a value and a world, by R. -/
def uponU (P : Program) (R : Value → World → Prop) : Result Next → Prop
  | .ok (.value u) w' => R u w'
  | .ok .skip w' => R undef w'
  | .ok (.enter f args) w' => Calls P f args w' (fun e w'' => ∃ v, e = .returned v ∧ R v w'')
  | _ => False
/-- Operation i from every world of the class C; behind it the class R v. -/
def opU (P : Program) (ops : Array Oper) (T : World → World → Prop) (D : World → Prop) (i : Nat) (K : Act → (World → Prop) → Prop) (a : Act) (C : World → Prop) : Prop :=
  match ops[i]? with
  | none => K a C
  | some o => if Region.wanted o (yielded ops a.tmps) then
      ∃ R : Value → World → Prop, (∀ v w w', R v w → T w w' → R v w') ∧ (∀ v w, R v w → D w) ∧ (∀ w, C w → uponU P R ((execOp a.eval o).run P w)) ∧ ∀ v w, R v w → K (a.put o.dst v) (R v)
    else K (a.put o.dst undef) C
def wpU (P : Program) (md : Region.Mode) (ops : Array Oper) (Q : Exit → Act → World → Prop) (T : World → World → Prop) (D : World → Prop) : Nat → Array Bool → Act → (World → Prop) → Prop
  | 0, listed, a, C => Region.ready md ops listed = [] ∧ ∀ w, C w → Q .normal a w
  | fuel + 1, listed, a, C =>
    (Region.ready md ops listed = [] → ∀ w, C w → Q .normal a w) ∧
    ∀ i ∈ Region.ready md ops listed, opU P ops T D i (fun a' C' => wpU P md ops Q T D fuel (listed.setIfInBounds i true) a' C') a C

theorem wpOp_of_opU {i : Nat} {a : Act} {K : Act → (World → Prop) → Prop} {K' : Act → World → Prop} {C : World → Prop} {w : World} (hC : C w)
    (h : ∀ a' C' w', C' w' → K a' C' → K' a' w') (hh : opU P ops T D i K a C) : wpOp P ops Q i K' a w := by
  unfold opU at hh
  unfold wpOp
  split
  · rename_i ho; simp only [ho] at hh; exact h _ _ _ hC hh
  · rename_i o ho
    simp only [ho] at hh
    split
    · rename_i hw
      simp only [hw, if_true] at hh
      obtain ⟨R, -, -, h1, h2⟩ := hh
      refine .inl ?_
      have h3 := h1 w hC
      unfold Oper.wp
      generalize (execOp a.eval o).run P w = r at *
      cases r with
      | ok n w' =>
        cases n <;> simp only [uponU] at h3 <;> simp only [Oper.upon]
        case value u => exact h _ _ _ h3 (h2 _ _ h3)
        case skip => exact h _ _ _ h3 (h2 _ _ h3)
        case enter f args =>
          exact h3.mono fun e w'' ⟨v, he, hr⟩ => by subst he; exact h _ _ _ hr (h2 _ _ hr)
      | halt x w' => simp only [uponU] at h3
    · rename_i hw; simp only [hw] at hh; exact h _ _ _ hC hh
theorem wpAny_of_U : ∀ (fuel : Nat) (listed : Array Bool) (a : Act) (C : World → Prop) (w : World), C w → wpU P md ops Q T D fuel listed a C → wpAny P md ops Q fuel listed a w
  | 0, _, _, _, _, hw, h => ⟨h.1, h.2 _ hw⟩
  | fuel + 1, _, _, _, _, hw, h => ⟨fun h0 => h.1 h0 _ hw, fun i hi => wpOp_of_opU hw (fun a' C' w' hw' hk => wpAny_of_U fuel _ a' C' w' hw' hk) (h.2 i hi)⟩

theorem opU_mono {i : Nat} {a : Act} {C : World → Prop} {K K' : Act → (World → Prop) → Prop} (hC : (∀ w w', C w → T w w' → C w') ∧ (∀ w, C w → D w))
    (h : ∀ a' C', (∀ w w', C' w → T w w' → C' w') → (∀ w, C' w → D w) → K a' C' → K' a' C') (hh : opU P ops T D i K a C) : opU P ops T D i K' a C := by
  unfold opU at *
  split
  · rename_i ho; simp only [ho] at hh; exact h _ _ hC.1 hC.2 hh
  · rename_i o ho
    simp only [ho] at hh
    split
    · rename_i hw
      simp only [hw, if_true] at hh
      obtain ⟨R, r1, r2, r3, r4⟩ := hh
      exact ⟨R, r1, r2, r3, fun v w hv => h _ _ (r1 v) (r2 v) (r4 v w hv)⟩
    · rename_i hw; simp only [hw] at hh; exact h _ _ hC.1 hC.2 hh

/-- An operation of one value comes up. -/
theorem One.opU {i : Nat} {o : Oper} {v : Value} {a : Act} {C : World → Prop} (hi : ops[i]? = some o) (hC1 : ∀ w w', C w → T w w' → C w') (hC2 : ∀ w, C w → D w)
    (hy : One P ops T D o v a) {K : Act → (World → Prop) → Prop} (h : K (a.put o.dst v) C) : Mix.opU P ops T D i K a C := by
  unfold Mix.opU
  simp only [hi]
  rcases hy with ⟨hw, hv⟩ | ⟨hw, rfl⟩
  · simp only [hw, if_true]
    refine ⟨fun u w => u = v ∧ C w, fun _ _ _ hr ht => ⟨hr.1, hC1 _ _ hr.2 ht⟩, fun _ _ hr => hC2 _ hr.2, fun w hw => ?_, fun u w hr => ?_⟩
    · have h3 := hv w (hC2 w hw)
      unfold Oper.quietAt at h3
      generalize (execOp a.eval o).run P w = r at *
      cases r with
      | ok n w' =>
        cases n <;> simp only [Oper.quietUpon] at h3 <;> simp only [uponU]
        case value u => exact ⟨h3.2, h3.1 ▸ hw⟩
        case skip => exact ⟨h3.2.symm, h3.1 ▸ hw⟩
        case enter f args =>
          obtain ⟨e1, hc⟩ := h3
          rw [e1]
          exact hc.mono fun e w'' ⟨he, ht⟩ => ⟨v, he, rfl, hC1 _ _ hw ht⟩
      | halt x w' => simp only [Oper.quietUpon] at h3
    · obtain ⟨rfl, hr⟩ := hr
      have : (fun w => u = u ∧ C w) = C := by funext w; simp
      show K (a.put o.dst u) (fun w => u = u ∧ C w)
      rw [this]
      exact h
  · simp only [hw, Bool.false_eq_true, if_false]; exact h

theorem opU_put {j : Nat} {oi oj : Oper} {v : Value} {C : World → Prop} (hj : ops[j]? = some oj) (hap : oi.apart ops oj = true)
    (hsi : ∀ cs b, oi.op ≠ .select cs b) (hsj : ∀ cs b, oj.op ≠ .select cs b) {K : Act → (World → Prop) → Prop} {a : Act}
    (hy : One P ops T D oi v a) (h : opU P ops T D j K (a.put oi.dst v) C) :
    opU P ops T D j (fun a' C' => One P ops T D oi v a' ∧ K (a'.put oi.dst v) C') a C := by
  obtain ⟨h1, h2, h3⟩ := Oper.apart_spec hap
  have keep : ∀ (a : Act), One P ops T D oi v a → ∀ u, One P ops T D oi v (a.put oj.dst u) := fun a hy u =>
    hy.of_same (execOp_put oi hsi a oj.dst u h3) (wanted_put oi a oj.dst u h3)
  unfold opU at *
  simp only [hj] at *
  rw [wanted_put oj a oi.dst v h1] at h
  split
  · rename_i hw
    simp only [hw, if_true] at h
    obtain ⟨R, r1, r2, r3, r4⟩ := h
    refine ⟨R, r1, r2, fun w hw' => ?_, fun u w hr => ⟨keep a hy u, by rw [← Act.put_comm a v u h2]; exact r4 u w hr⟩⟩
    have := r3 w hw'
    rwa [execOp_put oj hsj a oi.dst v h1] at this
  · rename_i hw
    simp only [hw] at h
    exact ⟨keep a hy _, by rw [← Act.put_comm a v undef h2]; exact h⟩

theorem wpU_first {i : Nat} {oi : Oper} {v : Value} (hi : ops[i]? = some oi) (hsel : ∀ (j : Nat) (o : Oper) cs b, ops[j]? = some o → o.op ≠ .select cs b) :
    ∀ (fuel : Nat) (listed : Array Bool) (a : Act) (C : World → Prop), (∀ w w', C w → T w w' → C w') → (∀ w, C w → D w) →
      (∀ j oj, ops[j]? = some oj → j ≠ i → listed.getD j true = false → (∀ e ∈ oj.after, Region.binds md e = true → e.on ≠ i) → oi.apart ops oj = true) →
      i ∈ Region.ready md ops listed → One P ops T D oi v a →
      wpU P md ops Q T D fuel (listed.setIfInBounds i true) (a.put oi.dst v) C → wpU P md ops Q T D (fuel + 1) listed a C := by
  intro fuel
  induction fuel with
  | zero =>
    intro listed a C hC1 hC2 _ hr hy H
    refine ⟨fun h => (by rw [h] at hr; cases hr), fun j hj => ?_⟩
    by_cases hji : j = i
    · subst hji; exact hy.opU hi hC1 hC2 H
    · have := ready_mono hj hji
      rw [H.1] at this
      cases this
  | succ fuel ih =>
    intro listed a C hC1 hC2 hfree hr hy H
    refine ⟨fun h => (by rw [h] at hr; cases hr), fun j hj => ?_⟩
    by_cases hji : j = i
    · subst hji; exact hy.opU hi hC1 hC2 H
    · have h1 := H.2 j (ready_mono hj hji)
      obtain ⟨hjun, oj, hoj, hall⟩ := mem_ready.1 hj
      have hnot : ∀ e ∈ oj.after, Region.binds md e = true → e.on ≠ i := fun e he hb heq => by
        have h1 := hall e he hb
        have h0 := (mem_ready.1 hr).1
        rw [heq] at h1
        rcases Nat.lt_or_ge i listed.size with h' | h'
        · simp [h'] at h0 h1; rw [h0] at h1; cases h1
        · simp [Array.getElem?_eq_none h'] at h1
      have h2 := opU_put hoj (hfree j oj hoj hji hjun hnot) (fun cs b => hsel i oi cs b hi) (fun cs b => hsel j oj cs b hoj) hy h1
      have hfree' : ∀ k ok, ops[k]? = some ok → k ≠ i → (listed.setIfInBounds j true).getD k true = false →
          (∀ e ∈ ok.after, Region.binds md e = true → e.on ≠ i) → oi.apart ops ok = true := fun k ok hk hki hun hno => by
        refine hfree k ok hk hki ?_ hno
        by_cases hjk : j = k
        · subst hjk; exact hjun
        · rw [getD_set_ne true hjk] at hun; exact hun
      refine opU_mono ⟨hC1, hC2⟩ (fun a' C' c1 c2 h3 => ih (listed.setIfInBounds j true) a' C' c1 c2 hfree' (ready_mono hr (Ne.symm hji)) h3.1 ?_) h2
      rw [Array.setIfInBounds_comm _ _ hji]
      exact h3.2

/-- The first n operations, in the order of the text, may each be taken first; what is listed behind them. -/
def lexTo (md : Region.Mode) (ops : Array Oper) : Nat → Nat → Array Bool → Option (Array Bool)
  | 0, _, listed => some listed
  | n + 1, k, listed => if (Region.ready md ops listed).contains k && Region.free md ops listed k then lexTo md ops n (k + 1) (listed.setIfInBounds k true) else none
/-- No two of the operations write one slot; every slot is in the frame. -/
def dstsB (n : Nat) : List Oper → List Tmp → Bool
  | [], _ => true
  | o :: r, seen => match o.dst with
    | none => false
    | some d => decide (d < n) && !seen.contains d && dstsB n r (d :: seen)

/-- The lexical walk, from every world of the class, to ONE frame. -/
def WalkTo (P : Program) (ops : Array Oper) (T : World → World → Prop) (D : World → Prop) (aF : Act) (l : List Oper) (a : Act) : Prop :=
  ∀ ρ, D ρ → wpQuiet P ops (T ρ) (fun a' => a' = aF) l a

theorem put_size (a : Act) (d : Option Tmp) (v : Value) : (a.put d v).tmps.size = a.tmps.size := by cases d <;> simp [Act.put]
theorem put_get_ne (a : Act) (d : Option Tmp) (v : Value) (t : Tmp) (h : d ≠ some t) : (a.put d v).tmps[t]? = a.tmps[t]? := by
  cases d with
  | none => rfl
  | some e =>
    have hne : e ≠ t := fun he => h (by rw [he])
    simp [Act.put, Array.getElem?_setIfInBounds_ne hne]
theorem put_get_self (a : Act) (t : Tmp) (v : Value) (h : t < a.tmps.size) : (a.put (some t) v).tmps[t]? = some v := by
  simp [Act.put, h]
/-- Slots that the rest of the walk does not write stand at the end as they stand now. -/
theorem keeps {C : World → Prop} {aF : Act} (t : Tmp) : ∀ (l : List Oper) (a : Act), (∀ o ∈ l, o.dst ≠ some t) → wpQuiet P ops C (fun a' => a' = aF) l a → aF.tmps[t]? = a.tmps[t]?
  | [], a, _, h => by rw [show a = aF from h]
  | o :: l, a, hl, h => by
    unfold wpQuiet at h
    have hne : o.dst ≠ some t := hl o (by simp)
    split at h
    · obtain ⟨v, _, h2⟩ := h
      rw [keeps t l _ (fun o' ho' => hl o' (by simp [ho'])) h2, put_get_ne _ _ _ _ hne]
    · rw [keeps t l _ (fun o' ho' => hl o' (by simp [ho'])) h, put_get_ne _ _ _ _ hne]
theorem dstsB_mem : ∀ (l : List Oper) (n : Nat) (seen : List Tmp), dstsB n l seen = true → ∀ d ∈ seen, ∀ o ∈ l, o.dst ≠ some d
  | [], _, _, _, _, _, _, ho => by cases ho
  | o :: r, n, seen, h, d, hd, o', ho' => by
    unfold dstsB at h
    cases hdst : o.dst with
    | none => simp [hdst] at h
    | some e =>
      simp only [hdst, Bool.and_eq_true, decide_eq_true_eq, Bool.not_eq_true'] at h
      obtain ⟨⟨h1, h2⟩, h3⟩ := h
      rcases List.mem_cons.1 ho' with rfl | ho'
      · rw [hdst]
        intro he
        have : e = d := by simpa using he
        subst this
        simp [hd] at h2
      · exact dstsB_mem r n (e :: seen) h3 d (List.mem_cons_of_mem _ hd) o' ho'

/-- The value that the first operation yields is read off the frame at the end. -/
theorem step_of_walk (hT : ∀ w, T w w) {aF a : Act} {o : Oper} {l : List Oper} {seen : List Tmp} (hd : dstsB a.tmps.size (o :: l) seen = true) (h : WalkTo P ops T D aF (o :: l) a) :
    ∃ v seen', One P ops T D o v a ∧ dstsB a.tmps.size l seen' = true ∧ WalkTo P ops T D aF l (a.put o.dst v) := by
  have hd0 := hd
  unfold dstsB at hd
  cases hdst : o.dst with
  | none => simp [hdst] at hd
  | some d =>
    simp only [hdst, Bool.and_eq_true, decide_eq_true_eq, Bool.not_eq_true'] at hd
    obtain ⟨⟨h1, _⟩, h3⟩ := hd
    have hnot := dstsB_mem l _ _ h3 d (by simp)
    by_cases hw : Region.wanted o (yielded ops a.tmps) = true
    · have key : ∀ ρ, D ρ → (∀ w, T ρ w → o.quietAt P a (T ρ) w (aF.tmps.getD d undef)) ∧ wpQuiet P ops (T ρ) (fun a' => a' = aF) l (a.put (some d) (aF.tmps.getD d undef)) := by
        intro ρ hρ
        have := h ρ hρ
        unfold wpQuiet at this
        simp only [hw, if_true] at this
        obtain ⟨v, h4, h5⟩ := this
        rw [hdst] at h5
        have e1 := keeps d l _ hnot h5
        rw [put_get_self _ _ _ h1] at e1
        have e2 : aF.tmps.getD d undef = v := by simp [e1]
        rw [e2]
        exact ⟨h4, h5⟩
      exact ⟨_, _, .inl ⟨hw, fun w hD => (key w hD).1 w (hT w)⟩, h3, fun ρ hρ => (key ρ hρ).2⟩
    · refine ⟨undef, _, .inr ⟨by simpa using hw, rfl⟩, h3, fun ρ hρ => ?_⟩
      have := h ρ hρ
      unfold wpQuiet at this
      simp only [hw] at this
      rw [← hdst]
      exact this

theorem wpU_lex (hs : Region.noSelect ops = true) (hT : ∀ w, T w w) {C : World → Prop} (hC1 : ∀ w w', C w → T w w' → C w') (hC2 : ∀ w, C w → D w) (hne : ∃ ρ, D ρ) {aF : Act} {f : Nat} {listed' : Array Bool} :
    ∀ (l : List Oper) (k : Nat) (listed : Array Bool) (a : Act) (seen : List Tmp), (∀ j, j < l.length → l[j]? = ops[k + j]?) →
    lexTo md ops l.length k listed = some listed' → dstsB a.tmps.size l seen = true → WalkTo P ops T D aF l a → wpU P md ops Q T D f listed' aF C → wpU P md ops Q T D (l.length + f) listed a C
  | [], _, listed, a, _, _, hB, _, h, hK => by
    obtain ⟨ρ, hρ⟩ := hne
    have e : a = aF := h ρ hρ
    have e2 : listed = listed' := by simpa [lexTo] using hB
    subst e e2
    simpa using hK
  | o :: l, k, listed, a, seen, hl, hB, hd, h, hK => by
    have h0 : ops[k]? = some o := by simpa using (hl 0 (by simp)).symm
    simp only [List.length_cons, lexTo] at hB
    split at hB
    case isFalse => cases hB
    rename_i hc
    simp only [Bool.and_eq_true] at hc
    obtain ⟨v, seen', h1, h2, h3⟩ := step_of_walk hT hd h
    have := wpU_lex hs hT hC1 hC2 hne l (k + 1) _ (a.put o.dst v) seen' (fun j hj => by have := hl (j + 1) (by simp; omega); simpa [Nat.add_assoc, Nat.add_comm 1 j] using this) hB (by rw [put_size]; exact h2) h3 hK
    rw [List.length_cons, Nat.add_right_comm]
    exact wpU_first h0 (Region.noSelect_spec hs) (l.length + f) listed a C hC1 hC2 (Region.free_spec h0 hc.2) (by simpa using hc.1) h1 this

/-- THE REGION: a prefix of operations of one value each, and a tail. -/
theorem wp_region_mix {id : Nat} {a : Act} {w : World} {l : List Oper} (n : Nat) (C D : World → Prop) (T : World → World → Prop) {aF : Act} (hm : P.follows .mixedOrders = true)
    (hn : n ≤ l.length) (hs : Region.noSelect l.toArray = true) (hB : lexTo .any l.toArray n 0 (Array.replicate l.length false) = some (List.replicate n true ++ List.replicate (l.length - n) false).toArray) (hd : dstsB a.tmps.size (l.take n) [] = true)
    (hT : ∀ w, T w w) (hC1 : ∀ w w', C w → T w w' → C w') (hC2 : ∀ w, C w → D w) (h0 : C { w with drawn := w.drawn + 1 }) (hA : WalkTo P l.toArray T D aF (l.take n) a)
    (hN : wpU P .any l.toArray Q T D (l.length - n) (List.replicate n true ++ List.replicate (l.length - n) false).toArray aF C) : (Code.region id l.toArray true).wp P Q a w := by
  refine wp_region_any hm (wpAny_of_U (T := T) (D := D) _ _ _ C _ h0 ?_)
  have hlen : (l.take n).length = n := by simp [hn]
  have := wpU_lex (P := P) (md := .any) (Q := Q) hs hT hC1 hC2 ⟨_, hC2 _ h0⟩ (l.take n) 0 (Array.replicate l.length false) a [] (fun j hj => by rw [hlen] at hj; simp [hj]) (by rw [hlen]; exact hB) hd hA hN
  rw [hlen] at this
  simpa [show n + (l.length - n) = l.length from by omega] using this

/-- One operation of the tail, where it alone may come up. -/
theorem wpU_one {fuel : Nat} {listed : Array Bool} {a : Act} {C : World → Prop} {i : Nat} {o : Oper} (hr : Region.ready md ops listed = [i]) (ho : ops[i]? = some o) (hw : Region.wanted o (yielded ops a.tmps) = true)
    (R : Value → World → Prop) (hR : ∀ v w w', R v w → T w w' → R v w') (hD : ∀ v w, R v w → D w) (hrun : ∀ w, C w → uponU P R ((execOp a.eval o).run P w))
    (hK : ∀ v w, R v w → wpU P md ops Q T D fuel (listed.setIfInBounds i true) (a.put o.dst v) (R v)) : wpU P md ops Q T D (fuel + 1) listed a C := by
  refine ⟨(fun h => by rw [hr] at h; cases h), fun j hj => ?_⟩
  rw [hr] at hj
  obtain rfl : j = i := by simpa using hj
  unfold opU
  simp only [ho, hw, if_true]
  exact ⟨R, hR, hD, hrun, hK⟩
theorem wpU_end {listed : Array Bool} {a : Act} {C : World → Prop} (hr : Region.ready md ops listed = []) (h : ∀ w, C w → Q .normal a w) : wpU P md ops Q T D 0 listed a C := ⟨hr, h⟩
/-- A region that reads and calls quietly, then makes one variable and stores into it. -/
theorem wp_region_mix_alloc {id : Nat} {a : Act} {w : World} {l : List Oper} (n : Nat) (t : Tmp) (oa os : Oper) (X X' : Obj) {aF : Act} (hm : P.follows .mixedOrders = true)
    (hlen : l.length = n + 2) (hs : Region.noSelect l.toArray = true) (hB : lexTo .any l.toArray n 0 (Array.replicate l.length false) = some (List.replicate n true ++ List.replicate (l.length - n) false).toArray)
    (hd : dstsB a.tmps.size (l.take n) [] = true) (hoa : l[n]? = some oa) (hos : l[n + 1]? = some os) (hga : oa.guard = none) (hgs : os.guard = none) (hda : oa.dst = some t) (hds : os.dst = none)
    (hr1 : Region.ready .any l.toArray (List.replicate n true ++ List.replicate (l.length - n) false).toArray = [n])
    (hr2 : Region.ready .any l.toArray ((List.replicate n true ++ List.replicate (l.length - n) false).toArray.setIfInBounds n true) = [n + 1])
    (hr3 : Region.ready .any l.toArray (((List.replicate n true ++ List.replicate (l.length - n) false).toArray.setIfInBounds n true).setIfInBounds (n + 1) true) = [])
    (hA : ∀ ρ, ((∃ k, ρ = w.drewN k) ∨ ∃ k Y, ρ = (w.alloc Y).drewN k) → wpQuiet P l.toArray (fun w' => ∃ k, w' = ρ.drewN k) (fun a' => a' = aF) (l.take n) a)
    (ha : ∀ W : World, (execOp aF.eval oa).run P W = .ok (.value (.pointer (some ⟨W.heap.size, 0, none⟩))) (W.alloc X))
    (hst : ∀ W : World, (execOp (aF.put (some t) (.pointer (some ⟨W.heap.size, 0, none⟩))).eval os).run P (W.alloc X) = .ok .skip (W.alloc X'))
    (hK : ∀ k, Q .normal (aF.put (some t) (.pointer (some ⟨w.heap.size, 0, none⟩))) ((w.alloc X').drewN k)) : (Code.region id l.toArray true).wp P Q a w := by
  have hl2 : l.length - n = 2 := by omega
  refine wp_region_mix (aF := aF) n (fun w' => ∃ k, w' = w.drewN k) (fun w' => (∃ k, w' = w.drewN k) ∨ ∃ k Y, w' = (w.alloc Y).drewN k) (fun w w' => ∃ k, w' = w.drewN k) hm (by omega) hs hB hd (fun w => ⟨0, rfl⟩) ?_ (fun _ h => .inl h) ⟨1, rfl⟩ hA ?_
  · rintro w1 w2 ⟨k, rfl⟩ ⟨m, rfl⟩
    exact ⟨k + m, World.drewN_drewN _ _ _⟩
  · rw [hl2] at hr1 hr2 hr3 ⊢
    refine wpU_one (i := n) hr1 (by simpa using hoa) (by unfold Region.wanted; rw [hga]) (fun v w' => v = .pointer (some ⟨w.heap.size, 0, none⟩) ∧ ∃ k, w' = (w.drewN k).alloc X) ?_ ?_ ?_ ?_
    · rintro v w1 w2 ⟨rfl, k, rfl⟩ ⟨m, rfl⟩
      exact ⟨rfl, k + m, by rw [← World.drewN_drewN]; rfl⟩
    · rintro v w1 ⟨rfl, k, rfl⟩
      exact .inr ⟨k, X, rfl⟩
    · rintro w1 ⟨k, rfl⟩
      rw [ha (w.drewN k)]
      exact ⟨rfl, k, rfl⟩
    · rintro v w1 ⟨rfl, _⟩
      rw [hda]
      refine wpU_one (i := n + 1) hr2 (by simpa using hos) (by unfold Region.wanted; rw [hgs]) (fun v w' => ∃ k, w' = (w.drewN k).alloc X') ?_ ?_ ?_ ?_
      · rintro v w1 w2 ⟨k, rfl⟩ ⟨m, rfl⟩
        exact ⟨k + m, by rw [← World.drewN_drewN]; rfl⟩
      · rintro v w1 ⟨k, rfl⟩
        exact .inr ⟨k, X', rfl⟩
      · rintro w1 ⟨_, k, rfl⟩
        have := hst (w.drewN k)
        rw [show (w.drewN k).heap.size = w.heap.size from rfl] at this
        rw [this]
        exact ⟨k, rfl⟩
      · intro v w1 _
        rw [hds]
        exact wpU_end hr3 (fun w2 ⟨k, hk⟩ => by rw [hk]; exact hK k)
theorem wanted_of {o : Oper} {i : Nat} {b g : Bool} {a : Act} (hg : o.guard = some (i, b)) (hy : yielded ops a.tmps i = some g) : Region.wanted o (yielded ops a.tmps) = (g == b) := by
  unfold Region.wanted
  rw [hg]
  show (yielded ops a.tmps i == some b) = _
  rw [hy]
  cases g <;> cases b <;> rfl
/-- 'g && b' in a lexical walk, g not decided: two guarded operations and the pick. -/
theorem quiet_and {C : World → Prop} {K : Act → Prop} {o1 o2 : Oper} {rest : List Oper} {a : Act} {i : Nat} {t1 t2 t3 c : Tmp} {g bb : Bool} {x1 : Value} {ty : TypeId} {pos : String} {af : Array Edge}
    (hg1 : o1.guard = some (i, true)) (hg2 : o2.guard = some (i, true)) (d1 : o1.dst = some t1) (d2 : o2.dst = some t2) (hi : (ops[i]?).bind (·.dst) = some c) (hc : a.tmps[c]? = some (.bool g))
    (n1 : t1 ≠ c) (n2 : t2 ≠ c) (hs : t2 < a.tmps.size) (h1 : ∀ w, C w → (execOp a.eval o1).run P w = .ok (.value x1) w)
    (h2 : ∀ w, C w → (execOp (a.put (some t1) x1).eval o2).run P w = .ok (.value (.bool bb)) w)
    (hK : wpQuiet P ops C K rest (((a.put (some t1) (if g then x1 else undef)).put (some t2) (if g then .bool bb else undef)).put (some t3) (.bool (g && bb)))) :
    wpQuiet P ops C K (o1 :: o2 :: ⟨some t3, .pick (.tmp c) (.tmp t2) (.const (.bool false)), ty, pos, af, none⟩ :: rest) a := by
  obtain ⟨dd1, op1, ty1, ps1, af1, gd1⟩ := o1
  obtain ⟨dd2, op2, ty2, ps2, af2, gd2⟩ := o2
  obtain rfl : dd1 = some t1 := d1
  obtain rfl : dd2 = some t2 := d2
  have y0 : yielded ops a.tmps i = some g := by unfold yielded; simp [hi, hc]
  have y1 : ∀ v, yielded ops (a.put (some t1) v).tmps i = some g := fun v => by
    unfold yielded
    rw [hi, Option.bind_some, put_get_ne _ _ _ _ (by simpa using n1), hc]
  have e1 : ∀ u v, ((a.put (some t1) u).put (some t2) v).eval (.tmp c) = .bool g := fun u v => by
    simp only [Act.eval, Array.getD_eq_getD_getElem?]
    rw [put_get_ne _ _ _ _ (by simpa using n2), put_get_ne _ _ _ _ (by simpa using n1), hc]
    rfl
  have e2 : ∀ u v, ((a.put (some t1) u).put (some t2) v).eval (.tmp t2) = v := fun u v => by
    simp only [Act.eval, Array.getD_eq_getD_getElem?]
    rw [put_get_self _ _ _ (by rw [put_size]; exact hs)]
    rfl
  cases g
  · refine wpQuiet_step fun K1 hK1 => ?_
    rw [if_neg (by rw [wanted_of hg1 y0]; decide)]
    refine hK1 _ (wpQuiet_step fun K2 hK2 => ?_)
    rw [if_neg (by rw [wanted_of hg2 (y1 _)]; decide)]
    refine hK2 _ (wpQuiet_step fun K3 hK3 => ?_)
    rw [if_pos (by rfl)]
    refine ⟨.bool false, fun w _ => ?_, hK3 _ hK⟩
    unfold Oper.quietAt
    simp only [execOp, e1]
    exact ⟨rfl, rfl⟩
  · refine wpQuiet_step fun K1 hK1 => ?_
    rw [if_pos (by rw [wanted_of hg1 y0]; decide)]
    refine ⟨x1, fun w hw => by unfold Oper.quietAt; rw [h1 w hw]; exact ⟨rfl, rfl⟩, hK1 _ (wpQuiet_step fun K2 hK2 => ?_)⟩
    rw [if_pos (by rw [wanted_of hg2 (y1 _)]; decide)]
    refine ⟨.bool bb, fun w hw => by unfold Oper.quietAt; rw [h2 w hw]; exact ⟨rfl, rfl⟩, hK2 _ (wpQuiet_step fun K3 hK3 => ?_)⟩
    rw [if_pos (by rfl)]
    refine ⟨.bool bb, fun w _ => ?_, hK3 _ (by simpa using hK)⟩
    unfold Oper.quietAt
    simp only [execOp, e1, e2]
    exact ⟨rfl, rfl⟩
/-- 'g || b' in a lexical walk, g not decided. -/
theorem quiet_or {C : World → Prop} {K : Act → Prop} {o1 o2 : Oper} {rest : List Oper} {a : Act} {i : Nat} {t1 t2 t3 c : Tmp} {g bb : Bool} {x1 : Value} {ty : TypeId} {pos : String} {af : Array Edge}
    (hg1 : o1.guard = some (i, false)) (hg2 : o2.guard = some (i, false)) (d1 : o1.dst = some t1) (d2 : o2.dst = some t2) (hi : (ops[i]?).bind (·.dst) = some c) (hc : a.tmps[c]? = some (.bool g))
    (n1 : t1 ≠ c) (n2 : t2 ≠ c) (hs : t2 < a.tmps.size) (h1 : ∀ w, C w → (execOp a.eval o1).run P w = .ok (.value x1) w)
    (h2 : ∀ w, C w → (execOp (a.put (some t1) x1).eval o2).run P w = .ok (.value (.bool bb)) w)
    (hK : wpQuiet P ops C K rest (((a.put (some t1) (if g then undef else x1)).put (some t2) (if g then undef else .bool bb)).put (some t3) (.bool (g || bb)))) :
    wpQuiet P ops C K (o1 :: o2 :: ⟨some t3, .pick (.tmp c) (.const (.bool true)) (.tmp t2), ty, pos, af, none⟩ :: rest) a := by
  obtain ⟨dd1, op1, ty1, ps1, af1, gd1⟩ := o1
  obtain ⟨dd2, op2, ty2, ps2, af2, gd2⟩ := o2
  obtain rfl : dd1 = some t1 := d1
  obtain rfl : dd2 = some t2 := d2
  have y0 : yielded ops a.tmps i = some g := by unfold yielded; simp [hi, hc]
  have y1 : ∀ v, yielded ops (a.put (some t1) v).tmps i = some g := fun v => by
    unfold yielded
    rw [hi, Option.bind_some, put_get_ne _ _ _ _ (by simpa using n1), hc]
  have e1 : ∀ u v, ((a.put (some t1) u).put (some t2) v).eval (.tmp c) = .bool g := fun u v => by
    simp only [Act.eval, Array.getD_eq_getD_getElem?]
    rw [put_get_ne _ _ _ _ (by simpa using n2), put_get_ne _ _ _ _ (by simpa using n1), hc]
    rfl
  have e2 : ∀ u v, ((a.put (some t1) u).put (some t2) v).eval (.tmp t2) = v := fun u v => by
    simp only [Act.eval, Array.getD_eq_getD_getElem?]
    rw [put_get_self _ _ _ (by rw [put_size]; exact hs)]
    rfl
  cases g
  · refine wpQuiet_step fun K1 hK1 => ?_
    rw [if_pos (by rw [wanted_of hg1 y0]; decide)]
    refine ⟨x1, fun w hw => by unfold Oper.quietAt; rw [h1 w hw]; exact ⟨rfl, rfl⟩, hK1 _ (wpQuiet_step fun K2 hK2 => ?_)⟩
    rw [if_pos (by rw [wanted_of hg2 (y1 _)]; decide)]
    refine ⟨.bool bb, fun w hw => by unfold Oper.quietAt; rw [h2 w hw]; exact ⟨rfl, rfl⟩, hK2 _ (wpQuiet_step fun K3 hK3 => ?_)⟩
    rw [if_pos (by rfl)]
    refine ⟨.bool bb, fun w _ => ?_, hK3 _ (by simpa using hK)⟩
    unfold Oper.quietAt
    simp only [execOp, e1, e2]
    exact ⟨rfl, rfl⟩
  · refine wpQuiet_step fun K1 hK1 => ?_
    rw [if_neg (by rw [wanted_of hg1 y0]; decide)]
    refine hK1 _ (wpQuiet_step fun K2 hK2 => ?_)
    rw [if_neg (by rw [wanted_of hg2 (y1 _)]; decide)]
    refine hK2 _ (wpQuiet_step fun K3 hK3 => ?_)
    rw [if_pos (by rfl)]
    refine ⟨.bool true, fun w _ => ?_, hK3 _ hK⟩
    unfold Oper.quietAt
    simp only [execOp, e1]
    exact ⟨rfl, rfl⟩
open Go.RowKit in
theorem below_drewN (B : Nat) (w : World) (k : Nat) : Below B w (w.drewN k) := ⟨rfl, rfl, rfl, Nat.le_refl _, fun _ _ => rfl⟩
end
end Go.Mix
