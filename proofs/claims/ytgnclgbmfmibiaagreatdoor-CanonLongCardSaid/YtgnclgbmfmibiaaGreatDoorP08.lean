import Derived.Lib.AtoiErrMem
import Derived.Test.YtgnclgbmfmibiaaGreatDoorP07
import Derived.Test.YtgnclgbmfmibiaaGreatDoorP01
/- Closed calls by evaluation: calls whose outcome is written down. -/
namespace Go.Ev
def sameO : AObj → AObj → Bool
  | .row a, .row b => all2 (sameV 6) a.cells b.cells && (Nat.beq a.ty b.ty && (Nat.beq a.sz b.sz && (match a.own, b.own with
    | true, true => true
    | false, false => true
    | _, _ => false)))
  | _, _ => false
theorem sameO_eq {a b : AObj} (h : sameO a b = true) : a = b := by
  cases a with
  | obj o => cases b <;> cases h
  | row a =>
    cases b with
    | obj o => cases h
    | row b =>
      obtain ⟨c, t, s, o⟩ := a
      obtain ⟨c', t', s', o'⟩ := b
      simp only [sameO, Bool.and_eq_true, Nat.beq_eq] at h
      obtain ⟨h1, rfl, rfl, h4⟩ := h
      rw [all2_eq (sameV_eq 6) _ _ h1]
      cases o <;> cases o' <;> first | rfl | cases h4
def isO (x : Option AObj) (o : AObj) : Bool := match x with
  | some y => sameO y o
  | none => false
theorem isO_eq {x : Option AObj} {o : AObj} (h : isO x o = true) : x = some o := by
  cases x with
  | none => cases h
  | some y => rw [sameO_eq h]
def mkT : List (Nat × AObj) → T AObj → T AObj
  | [], t => t
  | (i, o) :: l, t => mkT l (t.set i (some o))
theorem mkT_get : ∀ (l : List (Nat × AObj)) (t : T AObj) (id : Nat) (o : AObj), (mkT l t).get id = some o → (id, o) ∈ l ∨ t.get id = some o := by
  intro l
  induction l with
  | nil => intro t id o h; exact .inr h
  | cons p l ih =>
    obtain ⟨i, x⟩ := p
    intro t id o h
    rcases ih _ id o h with h | h
    · exact .inl (List.mem_cons_of_mem _ h)
    · rw [T.get_set] at h
      by_cases e : id = i
      · rw [if_pos e] at h; cases Option.some.inj h; subst e; exact .inl List.mem_cons_self
      · rw [if_neg e] at h; exact .inr h
def clearT : List (Nat × AObj) → T AObj → T AObj
  | [], t => t
  | (i, _) :: l, t => clearT l (t.set i none)
theorem clearT_get : ∀ (l : List (Nat × AObj)) (t : T AObj) (id : Nat) (o : AObj), (clearT l t).get id = some o → t.get id = some o ∧ ∀ x, (id, x) ∉ l := by
  intro l
  induction l with
  | nil => intro t id o h; exact ⟨h, fun x hx => by cases hx⟩
  | cons p l ih =>
    obtain ⟨i, y⟩ := p
    intro t id o h
    obtain ⟨h1, h2⟩ := ih _ id o h
    rw [T.get_set] at h1
    by_cases e : id = i
    · rw [if_pos e] at h1; cases h1
    · rw [if_neg e] at h1
      refine ⟨h1, fun x hx => ?_⟩
      cases hx with
      | head => exact e rfl
      | tail _ hx => exact h2 x hx
structure Memo where
  f : FuncId
  args : List Value
  next : Nat
  glob : Nat
  pre : List (Nat × AObj)
  v : Value
  post : List (Nat × AObj)
  next' : Nat
def Memo.start (m : Memo) : St := ⟨mkT m.pre .leaf, m.next, m.glob⟩
def sumMemo (m : Memo) (args : Array Value) (σ : St) : Option Er :=
  match all2 (sameV 6) args.toList m.args && (Nat.beq σ.next m.next && (Nat.beq σ.glob m.glob && m.pre.all fun p => isO (σ.heap.get p.1) p.2)) with
  | true => some (.ret m.v ⟨mkT m.post (clearT m.pre σ.heap), m.next', m.glob⟩)
  | false => none
def memoB (m : Memo) (r : Option Er) : Bool :=
  match r with
  | some (.ret v σ) => sameV 6 v m.v && (Nat.beq σ.next m.next' && (Nat.beq σ.glob m.glob && m.post.all fun p => isO (σ.heap.get p.1) p.2))
  | _ => false
def MemoSound (P : Program) (m : Memo) : Prop := ∀ args σ r, sumMemo m args σ = some r → CallSound P m.f args σ r
theorem memo_sound {P : Program} {m : Memo} {r : Option Er} (h : memoB m r = true) (hr : ∀ q, r = some q → CallSound P m.f m.args.toArray m.start q) : MemoSound P m := by
  intro args σ q hq
  unfold sumMemo at hq
  split at hq
  · rename_i hc
    cases Option.some.inj hq
    simp only [Bool.and_eq_true, Nat.beq_eq, List.all_eq_true] at hc
    obtain ⟨h1, h2, h3, h4⟩ := hc
    have ha : args = m.args.toArray := by
      have := all2_eq (sameV_eq 6) _ _ h1
      rw [← this]
    subst ha
    unfold memoB at h
    split at h
    · rename_i v σ1
      simp only [Bool.and_eq_true, Nat.beq_eq, List.all_eq_true] at h
      obtain ⟨q1, q2, q3, q4⟩ := h
      have hv := sameV_eq 6 _ _ q1
      subst hv
      have hpre : ∀ id o, m.start.heap.get id = some o → (id, o) ∈ m.pre := by
        intro id o h
        rcases mkT_get m.pre .leaf id o h with h | h
        · exact h
        · cases h
      refine call_over (hr _ rfl) h2.symm h3.symm (fun id o h => isO_eq (h4 (id, o) (hpre id o h))) ⟨q2.symm, q3.symm, fun id o h => ?_⟩
      rcases mkT_get _ _ id o h with h | h
      · exact .inl (isO_eq (q4 (id, o) h))
      · obtain ⟨k1, k2⟩ := clearT_get _ _ id o h
        refine .inr ⟨k1, ?_⟩
        cases hg : m.start.heap.get id with
        | none => rfl
        | some x => exact absurd (hpre id x hg) (k2 x)
    · cases h
  · cases hq
def findM : List Memo → Array Value → St → Option Er
  | [], _, _ => none
  | m :: l, args, σ => match sumMemo m args σ with
    | some r => some r
    | none => findM l args σ
def withM (base : FuncId → Option (Array Value → St → Option Er)) (f0 : FuncId) (l : List Memo) (f : FuncId) : Option (Array Value → St → Option Er) :=
  match Nat.beq f f0 with
  | true => some (findM l)
  | false => base f
theorem findM_sound {P : Program} {f : FuncId} : ∀ (l : List Memo), (∀ m ∈ l, m.f = f ∧ MemoSound P m) → ∀ args σ r, findM l args σ = some r → CallSound P f args σ r := by
  intro l
  induction l with
  | nil => intro _ args σ r h; cases h
  | cons m l ih =>
    intro hl args σ r h
    unfold findM at h
    split at h
    · rename_i r0 hm
      cases Option.some.inj h
      obtain ⟨h1, h2⟩ := hl m List.mem_cons_self
      subst h1
      exact h2 args σ _ hm
    · exact ih (fun m hm => hl m (List.mem_cons_of_mem _ hm)) args σ r h
theorem withM_sound {P : Program} {base : FuncId → Option (Array Value → St → Option Er)} (hb : ∀ g s, base g = some s → ∀ args σ r, s args σ = some r → CallSound P g args σ r) {f0 : FuncId} {l : List Memo} (hl : ∀ m ∈ l, m.f = f0 ∧ MemoSound P m) :
    ∀ g s, withM base f0 l g = some s → ∀ args σ r, s args σ = some r → CallSound P g args σ r := by
  intro g s h args σ r hs
  unfold withM at h
  split at h
  · rename_i hg
    have := Nat.eq_of_beq_eq_true hg
    subst this
    cases Option.some.inj h
    exact findM_sound l hl args σ r hs
  · exact hb g s h args σ r hs
end Go.Ev
/- strconv.Atoi at a numeral, as a summary; the evaluator's summaries with it. -/
namespace Go.Ev
open Go.RowKit
theorem rel_below {ρ : Ren} {σ : St} {w w' : World} (h : Rel ρ σ w) (hb : Below w.heap.size w w') : Rel ρ σ w' ∧ Since ρ σ w ρ σ w' := by
  obtain ⟨b1, b2, b3, b4, b5⟩ := hb
  refine ⟨⟨?_, h.inj, h.fresh, h.glob, h.gn⟩, .refl ρ, ⟨b4, b1, b2, b3, rfl, Nat.le_refl _, fun _ _ => ⟨rfl, rfl⟩, fun k hk _ => b5 k hk, fun id o k h1 h2 => .inl ⟨o, h1, rfl, h2⟩⟩⟩
  intro id o ho
  obtain ⟨k, x, h1, h2, h3⟩ := h.live id o ho
  exact ⟨k, x, h1, by rw [b5 k (Array.getElem?_eq_some_iff.1 h2).1]; exact h2, h3⟩
def sumAtoi (args : Array Value) (σ : St) : Option Er :=
  match args.toList with
  | [.string s] => match Nat.ble s.data.toList.length 18, Lib.atoi s.data.toList with
    | true, some n => some (.ret (.tuple #[.int .i64 n, .nilIface]) σ)
    | _, _ => none
  | _ => none
theorem sumAtoi_sound {P : Program} {f : FuncId} {e : TypeId} (h1 : ∀ (s : ByteArray) (n : Int), s.size ≤ 18 → Lib.atoi s.data.toList = some n → ∀ w : World, Calls P f #[.string s] w fun e' w' => e' = .returned (.tuple #[.int .i64 n, .nilIface]) ∧ ∃ t, w' = Lib.bytesWorld w e t)
    (args : Array Value) (σ : St) (r : Er) (h : sumAtoi args σ = some r) : CallSound P f args σ r := by
  intro ρ args' w ha hr
  unfold sumAtoi at h
  split at h
  · rename_i s hl
    split at h
    · rename_i n hb hn
      cases Option.some.inj h
      have hargs : args = #[.string s] := by
        obtain ⟨l⟩ := args
        simp only at hl
        rw [hl]
      have he : args' = #[.string s] := by
        subst hargs
        obtain ⟨l'⟩ := args'
        obtain ⟨q1, q2⟩ := ha
        simp at q1
        match l', q1 with
        | [v'], _ =>
          have := q2 0 (.string s) v' (by simp) (by simp)
          cases this
          rfl
      subst he
      refine (h1 s n (by simpa using Nat.le_of_ble_eq_true hb) hn w).mono ?_
      rintro e' w' ⟨rfl, t, rfl⟩
      obtain ⟨k1, k2⟩ := rel_below hr (Lib.bytesWorld_below w e t)
      refine ⟨ρ, _, rfl, .tuple rfl ?_, k1, k2⟩
      intro i v v' q1 q2
      rw [q1] at q2
      cases Option.some.inj q2
      match i with
      | 0 => simp at q1; subst q1; exact .int _ _
      | 1 => simp at q1; subst q1; exact .nilIface
      | i + 2 => simp at q1
    · cases h
  · cases h
end Go.Ev
namespace Go.Proofs.YtgnclgbmfmibiaaGreatDoor
open Go.Ev
def sums0 (f : FuncId) : Option (Array Value → St → Option Er) :=
  match Nat.beq f 112 with
  | true => some sumAtoi
  | false => sums f
theorem sums0_sound (g : FuncId) (s : Array Value → St → Option Er) (hs : sums0 g = some s) (args : Array Value) (σ : St) (r : Er) (h : s args σ = some r) : CallSound Tryz.prog g args σ r := by
  unfold sums0 at hs
  split at hs
  · rename_i h1
    cases Option.some.inj hs
    have := Nat.eq_of_beq_eq_true h1
    subst this
    exact sumAtoi_sound Tryz.strconv_Atoi args σ r h
  · exact sums_sound g s hs args σ r h
theorem evM {su : FuncId → Option (Array Value → St → Option Er)} (hs : ∀ g s, su g = some s → ∀ args σ r, s args σ = some r → CallSound Tryz.prog g args σ r) {f : FuncId} {args : Array Value} {σ : St} {r : Er} (n : Nat) (h : evRun Tryz.prog su 400 n f args σ = some r) : CallSound Tryz.prog f args σ r :=
  run_sound zerosE namesE mixedE hs 400 n f args σ r h
end Go.Proofs.YtgnclgbmfmibiaaGreatDoor
