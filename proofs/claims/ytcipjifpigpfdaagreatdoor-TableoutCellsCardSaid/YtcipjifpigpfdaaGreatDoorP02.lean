import Derived.RangeFuncIn
import Derived.OrdersIn
import Derived.Test.YtcipjifpigpfdaaGreatDoorP01
/- Closed calls by evaluation, part I: one operation. -/
namespace Go.Ev
variable {Ψ : SymEnv}
section
variable {P : Program} {ρ : Ren Ψ}
theorem sim_copy {ts : Array TypeId} {ty : TypeId} {d d' s s' : Value} (hd : VR ρ d d') (hs : VR ρ s s') : Sim P (Builtin.copy_ ts ty #[d, s]) (Builtin.copy_ ts ty #[d', s']) ρ VR := by
  have hlen : ∀ ρ1 : Ren Ψ, Sim P (Builtin.lenOf s) (Builtin.lenOf s') ρ1 fun _ x x' => x' = x ∧ Builtin.lenOf s = pure x := fun ρ1 => by
    cases hs <;> first | exact sim_pure ⟨rfl, rfl⟩ | exact sim_stuck
  unfold Builtin.copy_
  cases ts[0]? with
  | none => exact sim_none fun _ => rfl
  | some dt =>
  dsimp only
  refine sim_bind sim_underlying fun ρ1 u u' hle1 hu => ?_
  obtain ⟨rfl, -⟩ := hu
  have hd := hd.mono hle1
  cases u' with
  | slice elem =>
    have hz0 : ∀ (n x : Nat), s = .slice none 0 big → Builtin.lenOf s = pure x → Nat.min x n = 0 := by
      rintro n x rfl e
      have : (0 : Nat) = x := by
        have e2 : (Sem.pure 0 : Sem Nat) = Sem.pure x := e
        injection e2
      subst this
      exact Nat.zero_min n
    have body : ∀ (b b' : Option Addr) (n : Nat), ((b = none ∧ b' = none) ∨ ∃ a a', b = some a ∧ b' = some a' ∧ AdR ρ1 a a') →
        Sim P (do
          let m := Nat.min (← Builtin.lenOf s) n
          let cells ← Builtin.firstCells (← sizeOf elem) m s
          if let some a := b then storeCells a cells.toList
          pure (goInt m)) (do
          let m := Nat.min (← Builtin.lenOf s') n
          let cells ← Builtin.firstCells (← sizeOf elem) m s'
          if let some a := b' then storeCells a cells.toList
          pure (goInt m)) ρ1 VR := by
      intro b b' n hb
      refine sim_bind (hlen _) fun ρ2 x x' hle2 e => ?_
      obtain ⟨rfl, hx0⟩ := e
      refine sim_bind sim_sizeOf fun ρ3 z z' hle3 e => ?_
      subst e
      refine sim_bind (sim_firstCells (((hs.mono hle1).mono hle2).mono hle3) fun e => hz0 n _ e hx0) fun ρ4 c c' hle4 hc => ?_
      rcases hb with ⟨rfl, rfl⟩ | ⟨a, a', rfl, rfl, ha⟩
      · exact sim_pure (.int _ _)
      · exact sim_bind (sim_storeCells _ _ 0 _ (((ha.mono hle2).mono hle3).mono hle4) (by simp [hc.size]) fun j v v' h1 h2 => hc.get j v v' (by simpa using h1) (by simpa using h2)) fun _ _ _ _ _ => sim_pure (.int _ _)
    cases hd with
    | nilSlice n c => exact body none none n (.inl ⟨rfl, rfl⟩)
    | empty a c' =>
      refine sim_bind (hlen _) fun ρ2 x x' hle2 e => ?_
      obtain ⟨rfl, hx0⟩ := e
      refine sim_bind sim_sizeOf fun ρ3 z z' hle3 e => ?_
      subst e
      have hm0 : Nat.min x' 0 = 0 := Nat.min_zero x'
      rw [hm0]
      have f1 : ∀ (b : Option Addr) (n c : Nat), Builtin.firstCells z' 0 (.slice b n c) = pure #[] := by
        intro b n c
        cases b with
        | none => rfl
        | some a => simp only [Builtin.firstCells, Nat.zero_mul]; rfl
      have f2 : ∀ s : ByteArray, Builtin.firstCells z' 0 (.string s) = pure #[] := by
        intro s
        have : (s.extract 0 0).data = #[] := by
          apply Array.eq_empty_of_size_eq_zero
          show (s.extract 0 0).size = 0
          simp
        simp only [Builtin.firstCells, this, Array.map_empty]
      have eg : ∀ x y : Value, (#[x, y] : Array Value)[1] = y := fun _ _ => rfl
      cases hs with
      | slice h1 h2 => simp only [eg, f1]; cases a <;> exact sim_pure (.int _ _)
      | nilSlice n c => simp only [eg, f1]; cases a <;> exact sim_pure (.int _ _)
      | empty a2 c2 => simp only [eg, f1]; cases a <;> exact sim_pure (.int _ _)
      | string s => simp only [eg, f2]; cases a <;> exact sim_pure (.int _ _)
      | _ => exact sim_never fun _ => sim_stuck
    | @slice b k o n c c' h1 h2 => exact body (some ⟨b, o, none⟩) (some ⟨k, o, none⟩) n (.inr ⟨_, _, rfl, rfl, rfl, rfl, rfl, h1⟩)
    | _ => exact sim_stuck
  | _ => exact sim_stuck
theorem sim_range {t : TypeId} {v v' : Value} (h : VR ρ v v') : Sim P (Instr.range t v) (Instr.range t v') ρ VR := by
  unfold Instr.range
  refine sim_bind sim_underlying fun ρ1 u u' hle1 hu => ?_
  obtain ⟨rfl, -⟩ := hu
  have h := h.mono hle1
  have mk : ∀ (ρ2 : Ren Ψ) (o o' : Obj) (x : AObj), newA o = some x → (∀ ρ' : Ren Ψ, ρ2.le ρ' → ∀ id, AtR ρ' id x o') → Sim P (do pure (Value.pointer (some ⟨← newObj o, 0, none⟩))) (do pure (Value.pointer (some ⟨← newObj o', 0, none⟩))) ρ2 VR :=
    fun ρ2 o o' x h1 h2 => sim_bind (sim_new_with h1 h2) fun _ _ _ _ hk => sim_pure (.ptr hk)
  cases u' with
  | string =>
    cases h with
    | string s =>
      exact sim_bind (Q := fun _ x x' => x = .stringIter s 0 ∧ x' = .stringIter s 0) (sim_pure ⟨rfl, rfl⟩) fun ρ2 x x' _ e => by
        obtain ⟨rfl, rfl⟩ := e
        exact mk ρ2 _ _ _ rfl fun _ _ _ => .stringIter s 0
    | sym h1 h2 => exact sim_none fun _ => rfl
    | _ => exact sim_never fun _ => sim_stuck
  | map k e =>
    cases h with
    | nilMap =>
      exact sim_bind (Q := fun _ x x' => x = .mapIter none 0 #[] 0 ∧ x' = .mapIter none 0 #[] 0) (sim_pure ⟨rfl, rfl⟩) fun ρ2 x x' _ e => by
        obtain ⟨rfl, rfl⟩ := e
        exact mk ρ2 _ _ _ rfl fun _ _ _ => .nilIter 0 #[] 0
    | @map r k2 h1 =>
      refine sim_bind (sim_getObj h1) fun ρ2 o o' hle2 ho => ?_
      cases ho with
      | map c q1 q2 =>
        exact sim_bind (Q := fun _ x x' => x = .mapIter (some r) c #[] c ∧ x' = .mapIter (some k2) c #[] c) (sim_pure ⟨rfl, rfl⟩) fun ρ3 x x' hle3 e => by
          obtain ⟨rfl, rfl⟩ := e
          exact mk ρ3 _ _ _ rfl fun ρ' hle' _ => .iter c #[] c (hle'.φ _ _ (hle3.φ _ _ (hle2.φ _ _ h1)))
      | _ => exact sim_never fun _ => sim_stuck
    | sym h1 h2 => exact sim_none fun _ => rfl
    | _ => exact sim_never fun _ => sim_stuck
  | _ => cases h <;> first | exact sim_none fun _ => rfl | exact sim_never fun _ => sim_stuck
/-- the next of a string's range -/
theorem sim_next {ty : TypeId} {v v' : Value} (h : VR ρ v v') : Sim P (Instr.next v true ty) (Instr.next v' true ty) ρ VR := by
  unfold Instr.next
  have over : ∀ ρ2 : Ren Ψ, Sim P (pure (.tuple #[.bool false]) : Sem Value) (pure (.tuple #[.bool false])) ρ2 VR := fun ρ2 => sim_pure ((VRs.empty ρ2).push (.bool false)).tuple
  cases h with
  | @ptr b k o h1 =>
    cases o with
    | succ o => exact sim_stuck
    | zero =>
    dsimp only
    refine sim_bind (sim_getObj h1) fun ρ2 x x' hle2 hx => ?_
    cases hx with
    | stringIter s n =>
      dsimp only
      refine sim_ite (fun _ => ?_) fun _ => over _
      refine sim_bind (sim_setObj (hle2.φ _ _ h1) (.stringIter s _)) fun ρ3 _ _ _ _ => ?_
      exact sim_pure ((((VRs.empty ρ3).push (.bool true)).push (.int _ _)).push (.int _ _)).tuple
    | _ => exact sim_stuck
  | _ => exact sim_stuck
theorem sim_typeAssert (hz : ZeroOk Ψ P) {x asd : TypeId} {v v' : Value} (h : VR ρ v v') : Sim P (Instr.typeAssert v x asd true) (Instr.typeAssert v' x asd true) ρ VR := by
  unfold Instr.typeAssert
  have fails : ∀ ρ2 : Ren Ψ, Sim P (do pure (Value.tuple #[← zeroValue asd, .bool false])) (do pure (Value.tuple #[← zeroValue asd, .bool false])) ρ2 VR := fun ρ2 =>
    sim_bind (sim_zeroValue hz) fun ρ3 _ _ _ hv => sim_pure (((VRs.empty ρ3).push hv).push (.bool false)).tuple
  have holds : ∀ (ρ2 : Ren Ψ) (u u' : Value), VR ρ2 u u' → Sim P (pure (Value.tuple #[u, .bool true]) : Sem Value) (pure (Value.tuple #[u', .bool true])) ρ2 VR := fun ρ2 u u' hu => sim_pure (((VRs.empty ρ2).push hu).push (.bool true)).tuple
  dsimp only
  refine sim_bind sim_underlying fun ρ1 d d' hle1 hd => ?_
  obtain ⟨rfl, -⟩ := hd
  have h := h.mono hle1
  cases h with
  | nilIface => cases d' <;> exact fails _
  | @iface t u u' h1 =>
    cases d' with
    | interface want =>
      refine sim_bind sim_typeInfo fun ρ2 i i' hle2 hi => ?_
      obtain ⟨rfl, -⟩ := hi
      cases Instr.missingMethod want i'.methods with
      | none => exact holds _ _ _ (.iface (h1.mono hle2))
      | some m => exact fails _
    | _ => exact sim_ite (fun _ => holds _ _ _ h1) fun _ => fails _
  | _ => cases d' <;> exact sim_stuck
/-- a pointer, slice, map, function or interface value that is not nil -/
def someV : Value → Bool
  | .pointer (some _) | .slice (some _) _ _ | .map (some _) | .func .. | .iface _ _ => true
  | _ => false
def nilV : Value → Bool
  | .pointer none | .map none | .nilFunc | .nilIface => true
  | .slice none _ c => Nat.blt c big
  | _ => false
theorem someV_eq {v v' : Value} (h : VR ρ v v') (hs : someV v = true) : someV v' = true := by cases h <;> first | rfl | (cases hs)
theorem nilV_eq {v v' : Value} (h : VR ρ v v') (hn : nilV v = true) : v' = v := by
  cases h <;> first | rfl | (cases hn; done) | exact absurd (show Nat.blt big big = true from hn) (by decide)
theorem nilV_cases {b : Value} (h : nilV b = true) : b = .pointer none ∨ (∃ n c, b = .slice none n c) ∨ b = .map none ∨ b = .nilFunc ∨ b = .nilIface := by
  cases b with
  | pointer a => cases a with
    | none => exact .inl rfl
    | some a => cases h
  | slice a n c => cases a with
    | none => exact .inr (.inl ⟨n, c, rfl⟩)
    | some a => cases h
  | map a => cases a with
    | none => exact .inr (.inr (.inl rfl))
    | some a => cases h
  | nilFunc => exact .inr (.inr (.inr (.inl rfl)))
  | nilIface => exact .inr (.inr (.inr (.inr rfl)))
  | _ => cases h
theorem pureQ_bind {α β : Type} (s : Sem α) (f : α → Sem β) : pureQ P (s >>= f) = (pureQ P s).bind fun a => pureQ P (f a) := by
  show pureQ P (s.bind f) = _
  induction s with
  | pure a => rfl
  | program k ih => exact ih P
  | mark m k ih => exact ih
  | choose q k ih =>
    simp only [Sem.bind, pureQ]
    split
    · exact ih 0
    · rfl
  | _ => rfl
theorem pureQ_underlying {t : TypeId} : pureQ P (underlying t) = P.underlying t := by
  unfold underlying
  rw [pureQ_bind]
  show pureQ P (match P.underlying t with | some d => (pure d : Sem TypeDesc) | none => stuck "no such type") = _
  cases P.underlying t <;> rfl
/-- a value that is not nil against nil: false, whatever the address -/
theorem equal_nil {t : TypeId} {a a' b : Value} (ha : VR ρ a a') (h1 : someV a = true) (h2 : nilV b = true) {r : Bool} (h : pureQ P (Op.equal t a b) = some r) (w : World) : (Op.equal t a' b).run P w = .ok r w := by
  have e1 : ∀ u v, Op.equal t u v = Op.equalIn (9999 + 1) t u v := fun _ _ => rfl
  rw [e1] at h ⊢
  rw [Op.equalIn] at h ⊢
  rw [pureQ_bind, pureQ_underlying] at h
  rw [Sem.run_bind]
  cases ht : P.underlying t with
  | none => rw [ht] at h; cases h
  | some d =>
  rw [ht] at h
  rw [run_underlying ht]
  simp only [Option.bind_some, Result.andThen_ok] at h ⊢
  rcases nilV_cases h2 with rfl | ⟨n, c, rfl⟩ | rfl | rfl | rfl <;> cases ha <;> (first | (cases h1; done) | skip) <;> cases d <;>
    (first | (cases h; done) | (cases Option.some.inj h; rfl))
theorem equal_nil' {t : TypeId} {a a' b : Value} (ha : VR ρ a a') (h1 : someV a = true) (h2 : nilV b = true) {r : Bool} (h : pureQ P (Op.equal t b a) = some r) (w : World) : (Op.equal t b a').run P w = .ok r w := by
  have e1 : ∀ u v, Op.equal t u v = Op.equalIn (9999 + 1) t u v := fun _ _ => rfl
  rw [e1] at h ⊢
  rw [Op.equalIn] at h ⊢
  rw [pureQ_bind, pureQ_underlying] at h
  rw [Sem.run_bind]
  cases ht : P.underlying t with
  | none => rw [ht] at h; cases h
  | some d =>
  rw [ht] at h
  rw [run_underlying ht]
  simp only [Option.bind_some, Result.andThen_ok] at h ⊢
  rcases nilV_cases h2 with rfl | ⟨n, c, rfl⟩ | rfl | rfl | rfl <;> cases ha <;> (first | (cases h1; done) | skip) <;> cases d <;>
    (first | (cases h; done) | (cases Option.some.inj h; rfl))
theorem guard_nil {op : BinOp} {t : TypeId} {x y : Operand} {a b : Value} (h : (someV a = true ∧ nilV b = true) ∨ (nilV a = true ∧ someV b = true)) (w : World) : (eqGuard op t x y a b).run P w = .ok () w := by
  unfold eqGuard
  rcases h with ⟨h1, h2⟩ | ⟨h1, h2⟩
  · rcases nilV_cases h2 with rfl | ⟨n, c, rfl⟩ | rfl | rfl | rfl <;> cases a <;> first | (cases h1; done) | (cases op <;> rfl)
  · rcases nilV_cases h1 with rfl | ⟨n, c, rfl⟩ | rfl | rfl | rfl <;> cases b <;> first | (cases h2; done) | (cases op <;> rfl)
theorem binOp_nil {t : TypeId} {a b : Value} (h : (someV a = true ∧ nilV b = true) ∨ (nilV a = true ∧ someV b = true)) : binOp .eql t a b = (do pure (.bool (← Op.equal t a b))) ∧ binOp .neq t a b = (do pure (.bool (!(← Op.equal t a b)))) := by
  rcases h with ⟨h1, h2⟩ | ⟨h1, h2⟩
  · rcases nilV_cases h2 with rfl | ⟨n, c, rfl⟩ | rfl | rfl | rfl <;> cases a <;> first | (cases h1; done) | exact ⟨rfl, rfl⟩
  · rcases nilV_cases h1 with rfl | ⟨n, c, rfl⟩ | rfl | rfl | rfl <;> cases b <;> first | (cases h2; done) | exact ⟨rfl, rfl⟩
end
end Go.Ev
/- Closed calls by evaluation, part Im: maps whose keys hold no address. -/
namespace Go.Ev
variable {Ψ : SymEnv}
inductive ERs (ρ : Ren Ψ) : List MapEntry → List MapEntry → Prop where
  | nil : ERs ρ [] []
  | cons {e e' : MapEntry} {l l' : List MapEntry} (hb : e'.born = e.born) (hk : e'.key = e.key) (hv : VR ρ e.val e'.val) (h : ERs ρ l l') : ERs ρ (e :: l) (e' :: l')
def keysOk (es : Array MapEntry) : Bool := es.toList.all fun e => plainV 4 e.key
def FindR (ρ : Ren Ψ) (r r' : Option (Nat × Value)) : Prop := (r = none ∧ r' = none) ∨ ∃ i v v', r = some (i, v) ∧ r' = some (i, v') ∧ VR ρ v v'
section
variable {P : Program} {ρ : Ren Ψ}
theorem ERs.of : ∀ (l l' : List MapEntry), l.length = l'.length → (∀ (i : Nat) (e e' : MapEntry), l[i]? = some e → l'[i]? = some e' → e'.born = e.born ∧ VR ρ e.key e'.key ∧ VR ρ e.val e'.val) → l.all (fun e => plainV 4 e.key) = true → ERs ρ l l' := by
  intro l
  induction l with
  | nil => intro l' hl _ _; cases l' with
    | nil => exact .nil
    | cons x l' => simp at hl
  | cons e l ih => intro l' hl h hk; cases l' with
    | nil => simp at hl
    | cons e' l' =>
      simp only [List.all_cons, Bool.and_eq_true] at hk
      obtain ⟨h1, h2, h3⟩ := h 0 e e' rfl rfl
      exact .cons h1 (plain_eq 4 _ _ hk.1 h2) h3 (ih l' (by simpa using hl) (fun i x x' q1 q2 => h (i + 1) x x' (by simpa using q1) (by simpa using q2)) hk.2)
theorem findNow_R {kind : TypeDesc} {k : Value} {l l' : List MapEntry} (h : ERs ρ l l') : ∀ i, (Instr.findNow kind k l i = none ∧ Instr.findNow kind k l' i = none) ∨ ∃ r r', Instr.findNow kind k l i = some r ∧ Instr.findNow kind k l' i = some r' ∧ FindR ρ r r' := by
  induction h with
  | nil => intro i; exact .inr ⟨none, none, rfl, rfl, .inl ⟨rfl, rfl⟩⟩
  | @cons e e' l l' hb hk hv h ih =>
    intro i
    unfold Instr.findNow
    rw [hk]
    cases Instr.sameNow kind k e.key with
    | none => exact .inl ⟨rfl, rfl⟩
    | some b =>
      cases b with
      | true => exact .inr ⟨_, _, rfl, rfl, .inr ⟨i, _, _, rfl, rfl, hv⟩⟩
      | false => exact ih (i + 1)
theorem findAsking_R {kt : TypeId} {k : Value} {l l' : List MapEntry} (h : ERs ρ l l') : ∀ (i : Nat) (r : Option (Nat × Value)), pureQ P (Instr.findAsking kt k l i) = some r → ∃ r', pureQ P (Instr.findAsking kt k l' i) = some r' ∧ FindR ρ r r' := by
  induction h with
  | nil => intro i r hr; cases Option.some.inj (show some none = some r from hr); exact ⟨none, rfl, .inl ⟨rfl, rfl⟩⟩
  | @cons e e' l l' hb hk hv h ih =>
    intro i r hr
    unfold Instr.findAsking at hr ⊢
    rw [pureQ_bind] at hr ⊢
    rw [hk]
    cases hq : pureQ P (Op.equal kt k e.key) with
    | none => rw [hq] at hr; cases hr
    | some b =>
      rw [hq] at hr
      simp only [Option.bind_some] at hr ⊢
      cases b with
      | true =>
        cases Option.some.inj (show some (some (i, e.val)) = some r from hr)
        exact ⟨_, rfl, .inr ⟨i, _, _, rfl, rfl, hv⟩⟩
      | false => exact ih (i + 1) r hr
theorem findKey_R {kt : TypeId} {k : Value} {l l' : List MapEntry} (h : ERs ρ l l') {r : Option (Nat × Value)} (hr : pureQ P (Instr.findKey kt k l) = some r) : ∃ r', pureQ P (Instr.findKey kt k l') = some r' ∧ FindR ρ r r' := by
  unfold Instr.findKey at hr ⊢
  rw [pureQ_bind, pureQ_underlying] at hr ⊢
  cases ht : P.underlying kt with
  | none => rw [ht] at hr; cases hr
  | some d =>
  rw [ht] at hr
  simp only [Option.bind_some] at hr ⊢
  rcases findNow_R (kind := d) (k := k) h 0 with ⟨h1, h2⟩ | ⟨q, q', h1, h2, h3⟩
  · rw [h1] at hr; rw [h2]
    exact findAsking_R h 0 r hr
  · rw [h1] at hr; rw [h2]
    cases Option.some.inj (show some q = some r from hr)
    exact ⟨q', rfl, h3⟩
end
/-- the map and its entries -/
def mapOf (σ : St) : Value → Option (Array MapEntry × Nat)
  | .map (some r) => match σ.heap.get r with
    | some (.obj (.map es c)) => some (es, c)
    | _ => none
  | _ => none
def esOf (σ : St) : Value → Option (Array MapEntry)
  | .map none => some #[]
  | x => match mapOf σ x with
    | some (es, _) => some es
    | none => none
def evLookup (P : Program) (σ : St) (xt : TypeId) (x k : Value) (ok : Bool) : Option Value :=
  match P.underlying xt with
  | some (.map kt et) =>
    match esOf σ x with
    | some es => match plainV 4 k && keysOk es with
      | true => match pureQ P (Instr.checkKey es.isEmpty 10000 kt k), pureQ P (Instr.findKey kt k es.toList), pureQ P (zeroValue et) with
        | some _, some r, some z => match ok with
          | true => some (.tuple #[(match r with | some (_, v) => v | none => z), .bool r.isSome])
          | false => some (match r with | some (_, v) => v | none => z)
        | _, _, _ => none
      | false => none
    | none => none
  | _ => none
section
variable {P : Program} {ρ : Ren Ψ}
theorem mapOf_R {σ : St} {w : World} (hr : Rel ρ σ w) {x x' : Value} (hx : VR ρ x x') {es : Array MapEntry} {c : Nat} (h : mapOf σ x = some (es, c)) (hk : keysOk es = true) :
    ∃ r r' es', x = .map (some r) ∧ x' = .map (some r') ∧ ρ.φ r = some r' ∧ σ.heap.get r = some (.obj (.map es c)) ∧ w.heap[r']? = some (.map es' c) ∧ ERs ρ es.toList es'.toList ∧ es'.size = es.size := by
  unfold mapOf at h
  cases hx with
  | @map r k h1 =>
    simp only at h
    cases hg : σ.heap.get r with
    | none => rw [hg] at h; cases h
    | some y =>
    rw [hg] at h
    cases y with
    | row b => cases h
    | obj o =>
      cases o with
      | map es1 c1 =>
        cases Option.some.inj h
        obtain ⟨k1, y, q1, q2, q3⟩ := hr.live r _ hg
        have : k1 = k := by rw [h1] at q1; exact (Option.some.inj q1).symm
        subst this
        cases (show ObjR ρ (.map es c) y from q3) with
        | @map _ es' _ s1 s2 =>
          exact ⟨r, k1, es', rfl, rfl, h1, hg, q2, ERs.of _ _ (by simp [s1]) (fun i e e' t1 t2 => s2 i e e' (by simpa using t1) (by simpa using t2)) hk, s1.symm⟩
      | _ => cases h
  | _ => cases h
theorem zero_R (hz : ZeroOk Ψ P) {et : TypeId} {z : Value} (h : pureQ P (zeroValue et) = some z) : VR ρ z z := by
  unfold zeroValue typeInfo at h
  rw [pureQ_bind, pureQ_bind] at h
  change (Option.bind (pureQ P (match P.info? et with | some i => (pure i : Sem TypeInfo) | none => stuck "no such type")) fun a => pureQ P (match a.zero with | some v => (pure v : Sem Value) | none => unsupported (.resourceLimit "a value of more than 2^22 cells"))) = some z at h
  cases hi : P.info? et with
  | none => rw [hi] at h; cases h
  | some i =>
    rw [hi] at h
    change pureQ P (match i.zero with | some v => (pure v : Sem Value) | none => unsupported (.resourceLimit "a value of more than 2^22 cells")) = some z at h
    cases hiz : i.zero with
    | none => rw [hiz] at h; cases h
    | some v0 =>
      rw [hiz] at h
      cases Option.some.inj h
      exact hz.2 et i _ hi hiz ρ
theorem lookup_sound (hz : ZeroOk Ψ P) {σ : St} {w : World} (hr : Rel ρ σ w) {xt : TypeId} {x x' k k' : Value} {ok : Bool} (hx : VR ρ x x') (hk : VR ρ k k') {v : Value} (h : evLookup P σ xt x k ok = some v) : ∃ v', (Instr.lookup xt x' k' ok).run P w = .ok v' w ∧ VR ρ v v' := by
  unfold evLookup at h
  cases ht : P.underlying xt with
  | none => rw [ht] at h; cases h
  | some d =>
  rw [ht] at h
  cases d with
  | map kt et =>
    simp only at h
    cases hes : esOf σ x with
    | none => rw [hes] at h; cases h
    | some es =>
    rw [hes] at h
    simp only at h
    cases hp : (plainV 4 k && keysOk es) with
    | false => rw [hp] at h; cases h
    | true =>
    rw [hp] at h
    simp only at h
    rw [Bool.and_eq_true] at hp
    have hkk := plain_eq 4 _ _ hp.1 hk
    subst hkk
    cases h1 : pureQ P (Instr.checkKey es.isEmpty 10000 kt k') with
    | none => rw [h1] at h; cases h
    | some u =>
    cases h2 : pureQ P (Instr.findKey kt k' es.toList) with
    | none => rw [h1, h2] at h; cases h
    | some r =>
    cases h3 : pureQ P (zeroValue et) with
    | none => rw [h1, h2, h3] at h; cases h
    | some z =>
    rw [h1, h2, h3] at h
    simp only at h
    have hzz : VR ρ z z := zero_R hz h3
    have hc := pureQ_run _ h1 w
    have hzr := pureQ_run _ h3 w
    -- the run over the real entries
    have fin : ∀ es' : Array MapEntry, ERs ρ es.toList es'.toList → es'.size = es.size → ((x' = .map none ∧ es' = #[]) ∨ ∃ r' c, x' = .map (some r') ∧ w.heap[r']? = some (.map es' c)) → ∃ v', (Instr.lookup xt x' k' ok).run P w = .ok v' w ∧ VR ρ v v' := by
      intro es' hE hsz hcase
      have hemp : es'.isEmpty = es.isEmpty := by simp only [Array.isEmpty, hsz]
      obtain ⟨r', q1, q2⟩ := findKey_R hE h2
      have hf := pureQ_run _ q1 w
      rw [← hemp] at hc
      rcases hcase with ⟨rfl, rfl⟩ | ⟨rr, c, rfl, hw⟩
      · rcases q2 with ⟨rfl, rfl⟩ | ⟨i, u1, u1', rfl, rfl, hu⟩
        · cases ok with
          | true =>
            cases Option.some.inj h
            refine ⟨.tuple #[z, .bool false], ?_, (((VRs.empty ρ).push hzz).push (.bool _)).tuple⟩
            simp [Instr.lookup, run_underlying ht] at hc hf ⊢
            simp [hc, hf, hzr]
          | false =>
            cases Option.some.inj h
            refine ⟨z, ?_, hzz⟩
            simp [Instr.lookup, run_underlying ht] at hc hf ⊢
            simp [hc, hf, hzr]
        · cases ok with
          | true =>
            cases Option.some.inj h
            refine ⟨.tuple #[u1', .bool true], ?_, (((VRs.empty ρ).push hu).push (.bool _)).tuple⟩
            simp [Instr.lookup, run_underlying ht] at hc hf ⊢
            simp [hc, hf]
          | false =>
            cases Option.some.inj h
            refine ⟨u1', ?_, hu⟩
            simp [Instr.lookup, run_underlying ht] at hc hf ⊢
            simp [hc, hf]
      · have hg : (getObj rr).run P w = .ok (.map es' c) w := by simp [getObj, Sem.run, hw]
        rcases q2 with ⟨rfl, rfl⟩ | ⟨i, u1, u1', rfl, rfl, hu⟩
        · cases ok with
          | true =>
            cases Option.some.inj h
            refine ⟨.tuple #[z, .bool false], ?_, (((VRs.empty ρ).push hzz).push (.bool _)).tuple⟩
            simp [Instr.lookup, run_underlying ht, hg, hc, hf, hzr]
          | false =>
            cases Option.some.inj h
            refine ⟨z, ?_, hzz⟩
            simp [Instr.lookup, run_underlying ht, hg, hc, hf, hzr]
        · cases ok with
          | true =>
            cases Option.some.inj h
            refine ⟨.tuple #[u1', .bool true], ?_, (((VRs.empty ρ).push hu).push (.bool _)).tuple⟩
            simp [Instr.lookup, run_underlying ht, hg, hc, hf]
          | false =>
            cases Option.some.inj h
            refine ⟨u1', ?_, hu⟩
            simp [Instr.lookup, run_underlying ht, hg, hc, hf]
    cases hx with
    | nilMap =>
      cases Option.some.inj hes
      exact fin #[] .nil rfl (.inl ⟨rfl, rfl⟩)
    | @map r k1 hφ =>
      obtain ⟨c, hp1⟩ : ∃ c, mapOf σ (.map (some r)) = some (es, c) := by
        change (match mapOf σ (.map (some r)) with | some (es, _) => some es | none => none) = some es at hes
        cases hq : mapOf σ (.map (some r)) with
        | none => rw [hq] at hes; cases hes
        | some p => rw [hq] at hes; obtain ⟨e1, c1⟩ := p; cases Option.some.inj hes; exact ⟨c1, rfl⟩
      obtain ⟨r2, r', es', e1, e2, e3, e4, e5, e6, e7⟩ := mapOf_R hr (.map hφ) hp1 hp.2
      exact fin es' e6 e7 (.inr ⟨r', c, e2, e5⟩)
    | _ => cases hes
  | _ => cases h
end
end Go.Ev
/- Closed calls by evaluation, part In: maps that are written. -/
namespace Go.Ev
variable {Ψ : SymEnv}
def setMap (P : Program) (σ : St) (m : Value) (es : Array MapEntry) (c : Nat) : Option St :=
  match m with
  | .map (some r) => match runA P (setObj r (.map es c)) σ with
    | some (.ok _ σ) => some σ
    | _ => none
  | _ => none
def findIn (P : Program) (σ : St) (mt : TypeId) (m k : Value) : Option (Array MapEntry × Nat × Option (Nat × Value)) :=
  match P.underlying mt, mapOf σ m with
  | some (.map kt _), some (es, c) => match plainV 4 k && keysOk es with
    | true => match pureQ P (Instr.checkKey false 10000 kt k), pureQ P (Instr.findKey kt k es.toList) with
      | some _, some r => some (es, c, r)
      | _, _ => none
    | false => none
  | _, _ => none
def keyIn (P : Program) (es : Array MapEntry) (i : Nat) (k : Value) : Option Value :=
  match pureQ P (Instr.keyThatStays (((es[i]?).map (·.key)).getD k) k) with
  | some key => match plainV 4 key with
    | true => some key
    | false => none
  | none => none
def evUpdate (P : Program) (σ : St) (mt : TypeId) (m k v : Value) : Option St :=
  match findIn P σ mt m k with
  | some (es, _, some (i, _)) => match keyIn P es i k, mapOf σ m with
    | some key, some (_, c) => setMap P σ m (es.modify i fun e => { e with key := key, val := v }) c
    | _, _ => none
  | some (es, c, none) => setMap P σ m (es.push { key := k, val := v, born := c }) (c + 1)
  | none => none
def evEntry (P : Program) (σ : St) (mt : TypeId) (m k : Value) : Option (Value × St) :=
  match findIn P σ mt m k with
  | some (es, c, some (i, v)) => match keyIn P es i k with
    | some key => match setMap P σ m (es.modify i fun e => { e with key := key }) c with
      | some σ => some (.tuple #[v, goInt (((es[i]?).map (·.born)).getD 0)], σ)
      | none => none
    | none => none
  | some (es, c, none) => match P.underlying mt with
    | some (.map _ et) => match pureQ P (zeroValue et) with
      | some z => match setMap P σ m (es.push { key := k, val := z, born := c }) (c + 1) with
        | some σ => some (.tuple #[z, goInt c], σ)
        | none => none
      | none => none
    | _ => none
  | none => none
def evEntryStore (P : Program) (σ : St) (m stamp v : Value) : Option St :=
  match mapOf σ m, stamp with
  | some (es, c), .int _ b => match keysOk es with
    | true => match es.findIdx? (fun e => (e.born : Int) == b) with
      | some i => setMap P σ m (es.modify i fun e => { e with val := v }) c
      | none => none
    | false => none
  | _, _ => none
section
variable {P : Program} {ρ : Ren Ψ}
theorem ERs.len {l l' : List MapEntry} (h : ERs ρ l l') : l'.length = l.length := by
  induction h with
  | nil => rfl
  | cons _ _ _ _ ih => simp [ih]
theorem ERs.get {l l' : List MapEntry} (h : ERs ρ l l') : ∀ (i : Nat) (e e' : MapEntry), l[i]? = some e → l'[i]? = some e' → e'.born = e.born ∧ e'.key = e.key ∧ VR ρ e.val e'.val := by
  induction h with
  | nil => intro i e e' h; simp at h
  | cons hb hk hv _ ih =>
    intro i e e' h1 h2
    cases i with
    | zero => simp at h1 h2; rw [← h1, ← h2]; exact ⟨hb, hk, hv⟩
    | succ i => exact ih i e e' (by simpa using h1) (by simpa using h2)
/-- entries of both sides, as an object asks for them -/
def EP (ρ : Ren Ψ) (es es' : Array MapEntry) : Prop := es.size = es'.size ∧ ∀ (i : Nat) (e e' : MapEntry), es[i]? = some e → es'[i]? = some e' → e'.born = e.born ∧ VR ρ e.key e'.key ∧ VR ρ e.val e'.val
theorem EP.of {es es' : Array MapEntry} (h : ERs ρ es.toList es'.toList) (hk : keysOk es = true) : EP ρ es es' := by
  refine ⟨by have := h.len; simpa using this.symm, fun i e e' h1 h2 => ?_⟩
  obtain ⟨q1, q2, q3⟩ := h.get i e e' (by simpa using h1) (by simpa using h2)
  unfold keysOk at hk
  rw [List.all_eq_true] at hk
  refine ⟨q1, ?_, q3⟩
  rw [q2]
  exact plain_refl 4 _ (hk e (Array.mem_toList_iff.2 (Array.mem_of_getElem? h1)))
theorem EP.push {es es' : Array MapEntry} (h : EP ρ es es') {e e' : MapEntry} (he : e'.born = e.born ∧ VR ρ e.key e'.key ∧ VR ρ e.val e'.val) : EP ρ (es.push e) (es'.push e') := by
  refine ⟨by simp [h.1], fun i x x' h1 h2 => ?_⟩
  rw [Array.getElem?_push] at h1 h2
  rw [← h.1] at h2
  split at h1
  · rename_i q; rw [if_pos q] at h2; rw [← Option.some.inj h1, ← Option.some.inj h2]; exact he
  · rename_i q; rw [if_neg q] at h2; exact h.2 i x x' h1 h2
theorem EP.modify {es es' : Array MapEntry} (h : EP ρ es es') (j : Nat) {f g : MapEntry → MapEntry} (hf : ∀ e e', e'.born = e.born ∧ VR ρ e.key e'.key ∧ VR ρ e.val e'.val → (g e').born = (f e).born ∧ VR ρ (f e).key (g e').key ∧ VR ρ (f e).val (g e').val) : EP ρ (es.modify j f) (es'.modify j g) := by
  refine ⟨by simp [h.1], fun i x x' h1 h2 => ?_⟩
  rw [Array.getElem?_modify] at h1 h2
  by_cases e : j = i
  · rw [if_pos e] at h1 h2
    obtain ⟨y, q1, q2⟩ := Option.map_eq_some_iff.1 h1
    obtain ⟨y', q3, q4⟩ := Option.map_eq_some_iff.1 h2
    rw [← q2, ← q4]
    exact hf y y' (h.2 i y y' q1 q3)
  · rw [if_neg e] at h1 h2; exact h.2 i x x' h1 h2
theorem setMap_sound {σ σ1 : St} {w : World} (hr : Rel ρ σ w) {r r' : Nat} (hφ : ρ.φ r = some r') {es es' : Array MapEntry} {c : Nat} (hE : EP ρ es es') (h : setMap P σ (.map (some r)) es c = some σ1) :
    ∃ ρ' w', ρ.le ρ' ∧ (setObj r' (.map es' c)).run P w = .ok () w' ∧ Rel ρ' σ1 w' ∧ Keep ρ σ ρ' σ1 w w' := by
  unfold setMap at h
  simp only at h
  cases hq : runA P (setObj r (.map es c)) σ with
  | none => rw [hq] at h; cases h
  | some x =>
  rw [hq] at h
  cases x with
  | panic v τ => cases h
  | ok u τ =>
  cases Option.some.inj h
  obtain ⟨ρ', x', w', h1, h2, h3, h4, -⟩ := (sim_setObj (P := P) hφ (.map c hE.1 hE.2)) σ w hr _ hq
  exact ⟨ρ', w', h1, h2, h3, h4⟩
theorem findIn_R {σ : St} {w : World} (hr : Rel ρ σ w) {mt : TypeId} {m m' k k' : Value} (hm : VR ρ m m') (hk : VR ρ k k') {es : Array MapEntry} {c : Nat} {q : Option (Nat × Value)} (h : findIn P σ mt m k = some (es, c, q)) :
    ∃ kt et r r' es' q', P.underlying mt = some (.map kt et) ∧ k' = k ∧ plainV 4 k = true ∧ m = .map (some r) ∧ m' = .map (some r') ∧ ρ.φ r = some r' ∧ mapOf σ m = some (es, c) ∧ (getObj r').run P w = .ok (.map es' c) w ∧ ERs ρ es.toList es'.toList ∧ EP ρ es es' ∧
      (Instr.checkKey false 10000 kt k).run P w = .ok () w ∧ (Instr.findKey kt k es'.toList).run P w = .ok q' w ∧ FindR ρ q q' := by
  unfold findIn at h
  cases ht : P.underlying mt with
  | none => rw [ht] at h; cases h
  | some d =>
  rw [ht] at h
  cases d with
  | map kt et =>
    cases hmo : mapOf σ m with
    | none => rw [hmo] at h; cases h
    | some p =>
    obtain ⟨es1, c1⟩ := p
    rw [hmo] at h
    simp only at h
    cases hp : (plainV 4 k && keysOk es1) with
    | false => rw [hp] at h; cases h
    | true =>
    rw [hp] at h
    simp only at h
    rw [Bool.and_eq_true] at hp
    cases h1 : pureQ P (Instr.checkKey false 10000 kt k) with
    | none => rw [h1] at h; cases h
    | some u =>
    cases h2 : pureQ P (Instr.findKey kt k es1.toList) with
    | none => rw [h1, h2] at h; cases h
    | some q1 =>
    rw [h1, h2] at h
    cases Option.some.inj h
    obtain ⟨r2, r', es', e1, e2, e3, e4, e5, e6, e7⟩ := mapOf_R hr hm hmo hp.2
    obtain ⟨q', s1, s2⟩ := findKey_R e6 h2
    exact ⟨kt, et, r2, r', es', q', rfl, plain_eq 4 _ _ hp.1 hk, hp.1, e1, e2, e3, rfl, by simp [getObj, Sem.run, e5], e6, .of e6 hp.2, pureQ_run _ h1 w, pureQ_run _ s1 w, s2⟩
  | _ => cases h
theorem keyIn_R {es es' : Array MapEntry} {i : Nat} {k key : Value} (hE : ERs ρ es.toList es'.toList) (h : keyIn P es i k = some key) (w : World) : (Instr.keyThatStays (((es'[i]?).map (·.key)).getD k) k).run P w = .ok key w ∧ plainV 4 key = true := by
  unfold keyIn at h
  have hsame : (es'[i]?).map (·.key) = (es[i]?).map (·.key) := by
    have hl := hE.len
    simp only [Array.length_toList] at hl
    cases h1 : es[i]? with
    | none =>
      have : es'[i]? = none := by rw [Array.getElem?_eq_none_iff] at *; omega
      rw [this]
    | some e =>
      have hlt := (Array.getElem?_eq_some_iff.1 h1).1
      have h2 : es'[i]? = some es'[i] := Array.getElem?_eq_getElem (by omega)
      rw [h2]
      have := (hE.get i e es'[i] (by simpa using h1) (by simp)).2.1
      simp [this]
  cases hq : pureQ P (Instr.keyThatStays (((es[i]?).map (·.key)).getD k) k) with
  | none => rw [hq] at h; cases h
  | some u =>
    rw [hq] at h
    simp only at h
    cases hp : plainV 4 u with
    | false => rw [hp] at h; cases h
    | true =>
      rw [hp] at h
      cases Option.some.inj h
      rw [hsame]
      exact ⟨pureQ_run _ hq w, hp⟩
theorem update_sound {σ σ1 : St} {w : World} (hr : Rel ρ σ w) {mt : TypeId} {m m' k k' v v' : Value} (hm : VR ρ m m') (hk : VR ρ k k') (hv : VR ρ v v') (h : evUpdate P σ mt m k v = some σ1) : ∃ ρ' w', ρ.le ρ' ∧ (Instr.mapUpdate mt m' k' v').run P w = .ok () w' ∧ Rel ρ' σ1 w' ∧ Keep ρ σ ρ' σ1 w w' := by
  unfold evUpdate at h
  cases hf : findIn P σ mt m k with
  | none => rw [hf] at h; cases h
  | some p =>
  obtain ⟨es, c, q⟩ := p
  rw [hf] at h
  obtain ⟨kt, et, r, r', es', q', e1, e2, e3, e4, e5, e6, e7, e8, e9, e10, e11, e12, e13⟩ := findIn_R hr hm hk hf
  subst e2 e4 e5
  rcases e13 with ⟨rfl, rfl⟩ | ⟨i, u, u', rfl, rfl, hu⟩
  · obtain ⟨ρ', w', h1, h2, h3, h4⟩ := setMap_sound hr e6 (e10.push (e := { key := k', val := v, born := c }) (e' := { key := k', val := v', born := c }) ⟨rfl, plain_refl 4 _ e3, hv⟩) h
    refine ⟨ρ', w', h1, ?_, h3, h4⟩
    simp [Instr.mapUpdate, run_underlying e1, e8, e11, e12, h2]
  · simp only [e7] at h
    cases hky : keyIn P es i k' with
    | none => rw [hky] at h; cases h
    | some key =>
    rw [hky] at h
    simp only at h
    obtain ⟨s1, s2⟩ := keyIn_R e9 hky w
    obtain ⟨ρ', w', h1, h2, h3, h4⟩ := setMap_sound hr e6 (e10.modify i (f := fun e => { e with key := key, val := v }) (g := fun e => { e with key := key, val := v' }) fun e e' he => ⟨he.1, plain_refl 4 _ s2, hv⟩) h
    refine ⟨ρ', w', h1, ?_, h3, h4⟩
    simp [Instr.mapUpdate, run_underlying e1, e8, e11, e12]
    simp [s1, h2]
theorem entry_sound (hz : ZeroOk Ψ P) {σ σ1 : St} {w : World} (hr : Rel ρ σ w) {mt : TypeId} {m m' k k' v : Value} (hm : VR ρ m m') (hk : VR ρ k k') (h : evEntry P σ mt m k = some (v, σ1)) : ∃ ρ' w' v', ρ.le ρ' ∧ (Instr.mapEntry mt m' k').run P w = .ok v' w' ∧ Rel ρ' σ1 w' ∧ Keep ρ σ ρ' σ1 w w' ∧ VR ρ' v v' := by
  unfold evEntry at h
  cases hf : findIn P σ mt m k with
  | none => rw [hf] at h; cases h
  | some p =>
  obtain ⟨es, c, q⟩ := p
  rw [hf] at h
  obtain ⟨kt, et, r, r', es', q', e1, e2, e3, e4, e5, e6, e7, e8, e9, e10, e11, e12, e13⟩ := findIn_R hr hm hk hf
  subst e2 e4 e5
  rcases e13 with ⟨rfl, rfl⟩ | ⟨i, u, u', rfl, rfl, hu⟩
  · simp only [e1] at h
    cases hzq : pureQ P (zeroValue et) with
    | none => rw [hzq] at h; cases h
    | some z =>
    rw [hzq] at h
    simp only at h
    cases hst : setMap P σ (.map (some r)) (es.push { key := k', val := z, born := c }) (c + 1) with
    | none => rw [hst] at h; cases h
    | some σ2 =>
    rw [hst] at h
    cases Option.some.inj h
    have hzz : VR ρ z z := zero_R hz hzq
    obtain ⟨ρ', w', h1, h2, h3, h4⟩ := setMap_sound hr e6 (e10.push (e := { key := k', val := z, born := c }) (e' := { key := k', val := z, born := c }) ⟨rfl, plain_refl 4 _ e3, hzz⟩) hst
    refine ⟨ρ', w', .tuple #[z, goInt c], h1, ?_, h3, h4, (((VRs.empty ρ').push (hzz.mono h1)).push (.int _ _)).tuple⟩
    have hzr := pureQ_run _ hzq w
    simp [Instr.mapEntry, run_underlying e1, e8, e11, e12, hzr, h2]
  · simp only at h
    cases hky : keyIn P es i k' with
    | none => rw [hky] at h; cases h
    | some key =>
    rw [hky] at h
    simp only at h
    cases hst : setMap P σ (.map (some r)) (es.modify i fun e => { e with key := key }) c with
    | none => rw [hst] at h; cases h
    | some σ2 =>
    rw [hst] at h
    cases Option.some.inj h
    obtain ⟨s1, s2⟩ := keyIn_R e9 hky w
    obtain ⟨ρ', w', h1, h2, h3, h4⟩ := setMap_sound hr e6 (e10.modify i (f := fun e => { e with key := key }) (g := fun e => { e with key := key }) fun e e' he => ⟨he.1, plain_refl 4 _ s2, he.2.2⟩) hst
    have hborn : ((es'[i]?).map (fun e : MapEntry => ((e.born : Nat) : Int))).getD 0 = ((es[i]?).map (fun e : MapEntry => ((e.born : Nat) : Int))).getD 0 := by
      have hl := e9.len
      simp only [Array.length_toList] at hl
      cases q1 : es[i]? with
      | none =>
        have : es'[i]? = none := by rw [Array.getElem?_eq_none_iff] at *; omega
        rw [this]
      | some e =>
        have hlt := (Array.getElem?_eq_some_iff.1 q1).1
        have q2 : es'[i]? = some es'[i] := Array.getElem?_eq_getElem (by omega)
        rw [q2]
        have := (e9.get i e es'[i] (by simpa using q1) (by simp)).1
        simp [this]
    refine ⟨ρ', w', .tuple #[u', goInt (((es[i]?).map (fun e : MapEntry => ((e.born : Nat) : Int))).getD 0)], h1, ?_, h3, h4, (((VRs.empty ρ').push (hu.mono h1)).push ((fun n => .int _ n : ∀ n : Int, VR ρ' (goInt n) (goInt n)) _)).tuple⟩
    rw [← hborn]
    simp [Instr.mapEntry, run_underlying e1, e8, e11, e12]
    simp [s1, h2]
theorem entryStore_sound {σ σ1 : St} {w : World} (hr : Rel ρ σ w) {mt : TypeId} {m m' s s' v v' : Value} (hm : VR ρ m m') (hs : VR ρ s s') (hv : VR ρ v v') (h : evEntryStore P σ m s v = some σ1) : ∃ ρ' w', ρ.le ρ' ∧ (Instr.entryStore mt m' s' v').run P w = .ok () w' ∧ Rel ρ' σ1 w' ∧ Keep ρ σ ρ' σ1 w w' := by
  unfold evEntryStore at h
  cases hmo : mapOf σ m with
  | none => rw [hmo] at h; cases h
  | some p =>
  obtain ⟨es, c⟩ := p
  rw [hmo] at h
  cases hs with
  | int kk b =>
    simp only at h
    cases hk : keysOk es with
    | false => rw [hk] at h; cases h
    | true =>
    rw [hk] at h
    simp only at h
    cases hi : es.findIdx? (fun e => (e.born : Int) == b) with
    | none => rw [hi] at h; cases h
    | some i =>
    rw [hi] at h
    simp only at h
    obtain ⟨r2, r', es', e1, e2, e3, e4, e5, e6, e7⟩ := mapOf_R hr hm hmo hk
    subst e1 e2
    have hidx : es'.findIdx? (fun e => (e.born : Int) == b) = some i := by
      have ha : ∀ xs : Array MapEntry, xs.findIdx? (fun e => (e.born : Int) == b) = xs.toList.findIdx? (fun e => (e.born : Int) == b) := fun xs => by
        have := List.findIdx?_toArray (p := fun e : MapEntry => (e.born : Int) == b) (l := xs.toList)
        rwa [Array.toArray_toList] at this
      rw [← hi, ha, ha]
      have : ∀ (l l' : List MapEntry), ERs ρ l l' → l'.findIdx? (fun e => (e.born : Int) == b) = l.findIdx? (fun e => (e.born : Int) == b) := by
        intro l l' hl
        induction hl with
        | nil => rfl
        | cons hb _ _ _ ih => rw [List.findIdx?_cons, List.findIdx?_cons, hb, ih]
      exact this _ _ e6
    obtain ⟨ρ', w', h1, h2, h3, h4⟩ := setMap_sound hr e3 ((EP.of e6 hk).modify i (f := fun e => { e with val := v }) (g := fun e => { e with val := v' }) fun e e' he => ⟨he.1, he.2.1, hv⟩) h
    refine ⟨ρ', w', h1, ?_, h3, h4⟩
    have hg : (getObj r').run P w = .ok (.map es' c) w := by simp [getObj, Sem.run, e5]
    simp [Instr.entryStore, hg, asInt, asIntOf, hidx, h2]
  | _ => cases h
end
end Go.Ev
/- Closed calls by evaluation: the string of a slice of bytes. -/
namespace Go.Ev
variable {Ψ : SymEnv}
section
variable {P : Program} {ρ : Ren Ψ}
theorem sim_forIn {α : Type} {f : Value → α → Sem (ForInStep α)} (hf : ∀ (ρ : Ren Ψ) (v v' : Value) (a : α), VR ρ v v' → Sim P (f v a) (f v' a) ρ fun _ x x' => x' = x) :
    ∀ (l l' : List Value) (a : α) (ρ : Ren Ψ), l.length = l'.length → (∀ (i : Nat) (v v' : Value), l[i]? = some v → l'[i]? = some v' → VR ρ v v') → Sim P (forIn l a f) (forIn l' a f) ρ fun _ x x' => x' = x := by
  intro l
  induction l with
  | nil =>
    intro l' a ρ hl h
    cases l' with
    | nil => exact sim_pure rfl
    | cons v l' => simp at hl
  | cons v l ih =>
    intro l' a ρ hl h
    cases l' with
    | nil => simp at hl
    | cons v' l' =>
    rw [List.forIn_cons, List.forIn_cons]
    refine sim_bind (hf ρ v v' a (h 0 v v' rfl rfl)) fun ρ1 x x' hle hx => ?_
    subst hx
    cases x' with
    | done b => exact sim_pure rfl
    | yield b => exact ih l' b ρ1 (by simpa using hl) fun i u u' h1 h2 => (h (i + 1) u u' (by simpa using h1) (by simpa using h2)).mono hle
theorem sim_bytesToString {b : Option Addr} {n c : Nat} {x' : Value} (h : VR ρ (.slice b n c) x') : Sim P (Conv.bytesToString (.slice b n c)) (Conv.bytesToString x') ρ VR := by
  cases h with
  | nilSlice n c => exact sim_pure (.string _)
  | empty a c' => cases a <;> exact sim_pure (.string _)
  | @slice b k o n c c' h hc =>
    unfold Conv.bytesToString
    refine sim_bind (sim_loadCells n ⟨rfl, rfl, rfl, h⟩) fun ρ1 cs cs' hle hcs => ?_
    rw [← Array.forIn_toList, ← Array.forIn_toList]
    refine sim_bind (Q := fun _ x x' => x' = x) (sim_forIn ?_ cs.toList cs'.toList _ ρ1 (by simpa using hcs.size) ?_) fun ρ2 s s' _ hs => by subst hs; exact sim_pure (.string _)
    · intro ρ v v' a hv
      cases hv with
      | int k m => cases k <;> first | exact sim_pure rfl | exact sim_stuck
      | _ => exact sim_stuck
    · intro i v v' h1 h2
      exact hcs.get i v v' (by simpa using h1) (by simpa using h2)
theorem sim_convert {s t e : TypeId} {b : Option Addr} {n c : Nat} {x' : Value} (h : VR ρ (.slice b n c) x') (hs : P.underlying s = some (.slice e)) (ht : P.underlying t = some .string) (he : P.underlying e = some (.int .u8)) :
    Sim P (convert s t (.slice b n c)) (convert s t x') ρ VR := by
  obtain ⟨b', c', rfl⟩ : ∃ b' c', x' = .slice b' n c' := by cases h <;> exact ⟨_, _, rfl⟩
  unfold convert
  refine sim_bind sim_underlying fun ρ1 d d' hle h1 => ?_
  obtain ⟨rfl, h1⟩ := h1
  rw [hs] at h1; cases h1
  refine sim_bind sim_underlying fun ρ2 d d' hle2 h1 => ?_
  obtain ⟨rfl, h1⟩ := h1
  rw [ht] at h1; cases h1
  refine sim_bind sim_underlying fun ρ3 d d' hle3 h1 => ?_
  obtain ⟨rfl, h1⟩ := h1
  rw [he] at h1; cases h1
  exact sim_bytesToString (((h.mono hle).mono hle2).mono hle3)
end
/-- what the evaluator asks of a conversion of a slice -/
def bytesConv (P : Program) (s t : TypeId) : Bool :=
  match P.underlying s, P.underlying t with
  | some (.slice e), some .string => match P.underlying e with
    | some (.int .u8) => true
    | _ => false
  | _, _ => false
theorem bytesConv_eq {P : Program} {s t : TypeId} (h : bytesConv P s t = true) : ∃ e, P.underlying s = some (.slice e) ∧ P.underlying t = some .string ∧ P.underlying e = some (.int .u8) := by
  unfold bytesConv at h
  split at h
  · rename_i e h1 h2
    split at h
    · rename_i h3; exact ⟨e, h1, h2, h3⟩
    · cases h
  · cases h
end Go.Ev
/- Closed calls by evaluation, part It: the record of a range over a function. -/
namespace Go.Ev
variable {Ψ : SymEnv}
section
variable {P : Program} {ρ : Ren Ψ}
theorem sim_getLoop {l l' : Nat} (h : ρ.φ l = some l') : Sim P (Instr.getLoop l) (Instr.getLoop l') ρ LoopR :=
  sim_bind (sim_getObj h) fun _ o o' _ ho => by
    cases ho with
    | loop h1 => exact sim_pure h1
    | _ => exact sim_stuck
theorem fold_VRs : ∀ (l l' : List (Nat × Value)) (t t' : Array Value), VRs ρ t t' → PR ρ l l' → VRs ρ (l.foldl (fun t p => t.setIfInBounds p.1 p.2) t) (l'.foldl (fun t p => t.setIfInBounds p.1 p.2) t') := by
  intro l
  induction l with
  | nil =>
    intro l' t t' h k
    cases l' with
    | nil => exact h
    | cons x l' => have := k.1; simp at this
  | cons x l ih =>
    intro l' t t' h k
    cases l' with
    | nil => have := k.1; simp at this
    | cons x' l' =>
      obtain ⟨k1, k2⟩ := k
      have h0 := k2 0 x x' rfl rfl
      simp only [List.foldl_cons]
      refine ih l' _ _ ?_ ⟨by simpa using k1, fun i p p' h1 h2 => k2 (i + 1) p p' (by simpa using h1) (by simpa using h2)⟩
      rw [h0.1]
      exact h.set _ h0.2
theorem zip_PR (ps : Array Nat) {avs avs' : Array Value} (h : VRs ρ avs avs') : PR ρ (ps.zip avs).toList (ps.zip avs').toList := by
  refine ⟨by simp [h.size], fun i p p' h1 h2 => ?_⟩
  simp only [Array.toList_zip] at h1 h2
  rw [List.getElem?_zip_eq_some] at h1 h2
  simp only [Array.getElem?_toList] at h1 h2
  obtain ⟨a1, a2⟩ := h1
  obtain ⟨b1, b2⟩ := h2
  rw [a1] at b1
  exact ⟨(Option.some.inj b1).symm, h.get i _ _ a2 b2⟩
theorem sim_yield {l l' : Nat} (h : ρ.φ l = some l') {avs avs' : Array Value} (ha : VRs ρ avs avs') : Sim P (Instr.yield l avs) (Instr.yield l' avs') ρ NR :=
  sim_bind (sim_getLoop h) fun ρ1 r r' hle hr => by
    have e1 : avs'.size = avs.size := ha.size.symm
    by_cases hs : avs.size ≠ r.params.size
    · rw [if_pos hs]; exact sim_stuck
    · rw [if_neg hs, if_neg (by rw [hr.params, e1]; exact hs)]
      refine sim_pure ?_
      rw [hr.assign, hr.body, hr.params]
      refine .round _ _ _ _ (hle.φ _ _ h) ?_
      rw [← Array.foldl_toList, ← Array.foldl_toList]
      exact fold_VRs _ _ _ _ hr.tmps (zip_PR _ (ha.mono hle))
theorem sim_beginRound {l l' : Nat} (h : ρ.φ l = some l') : Sim P (Instr.beginRound l) (Instr.beginRound l') ρ fun _ _ _ => True :=
  sim_bind (sim_getLoop h) fun ρ1 r r' hle hr =>
    sim_bind (sim_setObj (hle.φ _ _ h) (.loop { hr with state := rfl })) fun _ _ _ _ _ => by
      rw [hr.state]
      cases r.state with
      | ready => exact sim_pure trivial
      | _ => exact sim_error
theorem sim_endRound {l l' : Nat} (h : ρ.φ l = some l') (j : Option Code) : Sim P (Instr.endRound l j) (Instr.endRound l' j) ρ VR :=
  sim_bind (sim_getLoop h) fun _ _ _ hle hr =>
    sim_bind (sim_setObj (hle.φ _ _ h) (.loop { hr with state := rfl, pending := rfl })) fun _ _ _ _ _ => sim_pure (.bool _)
theorem sim_endLoop {l l' : Nat} (h : ρ.φ l = some l') : Sim P (Instr.endLoop l) (Instr.endLoop l') ρ fun _ x x' => x' = x :=
  sim_bind (sim_getLoop h) fun _ r _ hle hr => by
    rw [hr.state]
    by_cases hs : (r.state == .busy) = true
    · rw [if_pos hs, if_pos hs]; exact sim_error
    · rw [if_neg hs, if_neg hs]
      exact sim_bind (sim_setObj (hle.φ _ _ h) (.loop { hr with state := rfl })) fun _ _ _ _ _ => by rw [hr.pending]; exact sim_pure rfl
theorem sim_takeDeferred {l l' : Nat} (h : ρ.φ l = some l') : Sim P (Instr.takeDeferred l) (Instr.takeDeferred l') ρ fun _ x x' => x = [] ∧ x' = [] :=
  sim_bind (sim_getObj h) fun ρ1 o o' hle ho => by
    cases ho with
    | deferred => exact sim_bind (sim_setObj (hle.φ _ _ h) .shut) fun _ _ _ _ _ => sim_pure ⟨rfl, rfl⟩
    | _ => exact sim_stuck
/-- two ways to be in a round or not -/
def RoR (ρ : Ren Ψ) (ro ro' : Option Nat) : Prop := (ro = none ∧ ro' = none) ∨ ∃ l l', ro = some l ∧ ro' = some l' ∧ ρ.φ l = some l'
theorem RoR.mono {ρ' : Ren Ψ} (h : ρ.le ρ') {ro ro' : Option Nat} (k : RoR ρ ro ro') : RoR ρ' ro ro' := by
  rcases k with k | ⟨l, l', h1, h2, h3⟩
  · exact .inl k
  · exact .inr ⟨l, l', h1, h2, h.φ _ _ h3⟩
def MkR (ρ : Ren Ψ) (l l' : List Deferred) : Prop := (l = [] ∧ l' = []) ∨ ∃ r r', l = [{ target := .collected r, args := #[] }] ∧ l' = [{ target := .collected r', args := #[] }] ∧ ρ.φ r = some r'
theorem sim_enterLoop {ro ro' : Option Nat} (h : RoR ρ ro ro') {t t' : Array Value} (ht : VRs ρ t t') (fn fn' : FuncId) (ps : Array Tmp) (assign body : Code) :
    Sim P (Instr.enterLoop fn t ps assign body ro) (Instr.enterLoop fn' t' ps assign body ro') ρ fun ρ' x x' => ρ'.φ x.1 = some x'.1 ∧ MkR ρ' x.2 x'.2 := by
  have fin : ∀ (ρ1 : Ren Ψ) (x x' : Nat × List Deferred), ρ.le ρ1 → ρ1.φ x.1 = some x'.1 → MkR ρ1 x.2 x'.2 →
      Sim P (do pure (← newObj (.loop { state := .ready, pending := none, fn, tmps := t, params := ps, assign, body, defers := x.1 }), x.2) : Sem (Nat × List Deferred))
        (do pure (← newObj (.loop { state := .ready, pending := none, fn := fn', tmps := t', params := ps, assign, body, defers := x'.1 }), x'.2) : Sem (Nat × List Deferred)) ρ1 fun ρ' x x' => ρ'.φ x.1 = some x'.1 ∧ MkR ρ' x.2 x'.2 := fun ρ1 x x' hle h1 h2 =>
    sim_bind (sim_new_with (x := .obj (.loop { state := .ready, pending := none, fn, tmps := t, params := ps, assign, body, defers := x.1 })) rfl fun ρ2 hle2 _ => .loop { state := rfl, pending := rfl, params := rfl, assign := rfl, body := rfl, tmps := ht.mono (hle.trans hle2), defers := hle2.φ _ _ h1 })
      fun ρ2 k k' hle2 hk => sim_pure ⟨hk, by
        rcases h2 with h2 | ⟨r, r', q1, q2, q3⟩
        · exact .inl h2
        · exact .inr ⟨r, r', q1, q2, hle2.φ _ _ q3⟩⟩
  rcases h with ⟨rfl, rfl⟩ | ⟨l, l', rfl, rfl, hl⟩
  · exact sim_bind (sim_new_with (x := .obj (.deferred (some []))) rfl fun _ _ _ => .deferred) fun ρ2 k k' hle2 hk =>
      sim_bind (Q := fun ρ' (x x' : Nat × List Deferred) => ρ'.φ x.1 = some x'.1 ∧ MkR ρ' x.2 x'.2) (sim_pure ⟨hk, .inr ⟨k, k', rfl, rfl, hk⟩⟩) fun ρ3 x x' hle3 hx => fin ρ3 x x' (hle2.trans hle3) hx.1 hx.2
  · exact sim_bind (sim_getLoop hl) fun ρ2 r r' hle2 hr =>
      sim_bind (Q := fun ρ' (x x' : Nat × List Deferred) => ρ'.φ x.1 = some x'.1 ∧ MkR ρ' x.2 x'.2) (sim_pure ⟨hr.defers, .inl ⟨rfl, rfl⟩⟩) fun ρ3 x x' hle3 hx => fin ρ3 x x' (hle2.trans hle3) hx.1 hx.2
end
end Go.Ev
/- Closed calls by evaluation, part J: one operation, whole. -/
namespace Go.Ev
variable {Ψ : SymEnv}
def okFn : Fn → Bool
  | .yield _ => false
  | _ => true
theorem okFn_R {ρ : Ren Ψ} {fn : Fn} (h : okFn fn = true) : FnR ρ fn fn := by
  cases fn with
  | func f => exact .func f
  | method n => exact .method n
  | methodOf t n => exact .methodOf t n
  | via t p f b => exact .via t p f b
  | yield l => cases h
def okOps (glob : Nat) (o : Oper) : Bool := o.op.operands.toList.all (okOperand glob)
/-- a symbol -/
def symb : Value → Bool
  | .chan (some _) => true
  | _ => false
def atB : Value → Value → Bool
  | .chan (some a), .chan (some b) => Nat.beq a b
  | .int .i64 x, .int .i64 y => decide (x = y)
  | .int .u8 x, .int .u8 y => decide (x = y)
  | .string s, .string t => s.data.toList == t.data.toList
  | .bool x, .bool y => x == y
  | _, _ => false
def atsB : List Value → List Value → Bool
  | [], [] => true
  | x :: l, y :: m => atB x y && atsB l m
  | _, _ => false
def keyB : Key → Key → Bool
  | .bin o t, .bin o' t' => decide (o = o') && Nat.beq t t'
  | .len t, .len t' => Nat.beq t t'
  | .slc t a b, .slc t' a' b' => Nat.beq t t' && ((a == a') && (b == b'))
  | .idx t, .idx t' => Nat.beq t t'
  | _, _ => false
def lookE : List Ent → Key → List Value → Option Value
  | [], _, _ => none
  | e :: l, k, vs => match keyB e.key k && atsB e.args vs with
    | true => some e.res
    | false => lookE l k vs
def symE (σ : St) (k : Key) (vs : List Value) : Option (Rs Next) :=
  match lookE σ.orc k vs with
  | some v => some (.ok (.value v) σ)
  | none => none
/-- an operation on symbols -/
def symQ (P : Program) (E : Operand → Value) (σ : St) (o : Oper) : Option (Rs Next) :=
  match o.op with
  | .binOp op t x y _ => symE σ (.bin op t) [E x, E y]
  | .index t x i => symE σ (.idx t) [E x, E i]
  | .slice t x none none none => symE σ (.slc t false false) [E x]
  | .slice t x (some l) none none => symE σ (.slc t true false) [E x, E l]
  | .slice t x none (some h) none => symE σ (.slc t false true) [E x, E h]
  | .slice t x (some l) (some h) none => symE σ (.slc t true true) [E x, E l, E h]
  | .call c => match c.callee, c.args.toList, c.argTypes.toList with
    | .builtin .len, [x], [t] => match P.underlying t with
      | some .string => symE σ (.len t) [E x]
      | _ => none
    | _, _, _ => none
  | _ => none
def plainQ (P : Program) (E : Operand → Value) (σ : St) (o : Oper) : Option (Rs Next) :=
  match o.op.operands.toList.all (fun x => plainV 4 (E x)) with
  | true => match pureQ P (execOp E o) with
    | some (.value v) => match plainV 6 v with
      | true => some (.ok (.value v) σ)
      | false => none
    | _ => none
  | false => symQ P E σ o
def capCheck (r : Option (Rs Next)) : Option (Rs Next) :=
  match r with
  | some (.ok (.value v) σ) => match capOk v with
    | true => some (.ok (.value v) σ)
    | false => none
  | some (.panic v σ) => some (.panic v σ)
  | _ => none
def valueR (r : Option (Rs Value)) : Option (Rs Next) :=
  match r with
  | some (.ok v σ) => some (.ok (.value v) σ)
  | some (.panic v σ) => some (.panic v σ)
  | none => none
def evEql (P : Program) (σ : St) (neg : Bool) (t : TypeId) (a b : Value) : Option (Rs Next) :=
  match (someV a && nilV b) || (nilV a && someV b) with
  | true => match pureQ P (Op.equal t a b) with
    | some r => some (.ok (.value (.bool (match neg with | true => !r | false => r))) σ)
    | none => none
  | false => none
def evField (P : Program) (σ : St) (s : TypeId) (x : Value) (f : Nat) : Option (Rs Next) :=
  match P.underlying s, x with
  | some (.struct fields), .pointer (some a) => match fields[f]? with
    | some fl => match P.info? fl.type with
      | some i => match Nat.beq i.size 0 with
        | false => some (.ok (.value (.pointer (some (a.add fl.offset)))) σ)
        | true => none
      | none => none
    | none => none
  | _, _ => none
def evCall (P : Program) (E : Operand → Value) (σ : St) (o : Oper) (f : Value) (args : Array Value) : Option (Rs Next) :=
  match f with
  | .func (.func fid) first cap => match P.funcs[fid]? with
    | some fn => match fn.body with
      | some _ => some (.ok (.enter fid (first ++ args ++ cap)) σ)
      | none => plainQ P E σ o
    | none => none
  | .func (.yield l) first _ => runA P (Instr.yield l (first ++ args)) σ
  | _ => none
def evBuiltin (P : Program) (E : Operand → Value) (σ : St) (o : Oper) (b : Builtin) (l : List Operand) (ts : List TypeId) : Option (Rs Next) :=
  match b, l, ts with
  | .append, [s, x], [t, tx] => valueR (evAppend P σ t tx (E s) (E x))
  | .len, [x], [t] => match E x, P.underlying t with
    | .slice _ n _, some (.slice _) => some (.ok (.value (.int .i64 n)) σ)
    | _, _ => plainQ P E σ o
  | .copy, [d, s], ts => valueR (runA P (Builtin.copy_ ts.toArray o.type #[E d, E s]) σ)
  | .recover, _, _ => some (.ok .recover σ)
  | .min, _, _ | .max, _, _ => plainQ P E σ o
  | _, _, _ => none
def evOp (P : Program) (E : Operand → Value) (σ : St) (o : Oper) : Option (Rs Next) :=
  match okOps σ.glob o with
  | false => none
  | true => match o.op with
    | .move x | .assign x => some (.ok (.value (E x)) σ)
    | .pick c a b => match E c with
      | .bool true => some (.ok (.value (E a)) σ)
      | .bool false => some (.ok (.value (E b)) σ)
      | _ => none
    | .extract x i => match E x with
      | .tuple vs => match nth vs.toList i with
        | some v => some (.ok (.value v) σ)
        | none => none
      | _ => none
    | .alloc _ | .box .. | .build .. | .load .. | .store .. | .makeInterface .. | .field .. | .indexAddr .. | .range .. | .next _ true | .typeAssert _ _ _ true => runA P (execOp E o) σ
    | .makeFunc fn _ _ => match okFn fn with
      | true => runA P (execOp E o) σ
      | false => none
    | .buildSlice .. | .makeSlice .. => capCheck (runA P (execOp E o) σ)
    | .fieldAddr s x f => evField P σ s (E x) f
    | .nilCheck x => match E x with
      | .pointer (some a) => some (.ok (.value (.pointer (some a))) σ)
      | .iface t v => some (.ok (.value (.iface t v)) σ)
      | .func (.func f) a b => some (.ok (.value (.func (.func f) a b)) σ)
      | .func (.yield l) a b => some (.ok (.value (.func (.yield l) a b)) σ)
      | _ => none
    | .binOp op t x y _ => match (plainV 4 (E x) && plainV 4 (E y)) || (symb (E x) || symb (E y)), op with
      | true, _ => plainQ P E σ o
      | false, .eql => evEql P σ false t (E x) (E y)
      | false, .neq => evEql P σ true t (E x) (E y)
      | false, _ => none
    | .unOp .. | .index .. => plainQ P E σ o
    | .convert s t x => match E x with
      | .slice _ _ _ => match bytesConv P s t with
        | true => runA P (execOp E o) σ
        | false => none
      | _ => plainQ P E σ o
    | .slice t x lo hi none => match E x with
      | .slice base n c => match evSlice P σ t (.slice base n c) (lo.map E) (hi.map E) with
        | some v => some (.ok (.value v) σ)
        | none => none
      | .pointer (some a) => match lo, hi, evArr P t a with
        | none, none, some v => some (.ok (.value v) σ)
        | _, _, _ => none
      | _ => plainQ P E σ o
    | .panic x => match E x with
      | .iface t v => some (.panic (.iface t v) σ)
      | _ => none
    | .call c => match c.callee with
      | .builtin b => evBuiltin P E σ o b c.args.toList c.argTypes.toList
      | .value f => evCall P E σ o (E f) (c.args.map E)
      | .invoke .. => none
    | .lookup xt x k ok => match evLookup P σ xt (E x) (E k) ok with
      | some v => some (.ok (.value v) σ)
      | none => none
    | .mapUpdate mt m k v | .insert mt m k v => match evUpdate P σ mt (E m) (E k) (E v) with
      | some σ => some (.ok .skip σ)
      | none => none
    | .mapEntry mt m k => match evEntry P σ mt (E m) (E k) with
      | some (v, σ) => some (.ok (.value v) σ)
      | none => none
    | .entryStore _ m s v => match evEntryStore P σ (E m) (E s) (E v) with
      | some σ => some (.ok .skip σ)
      | none => none
    | .makeMap _ none => runA P (execOp E o) σ
    | .defer c => match c.callee with
      | .value f => match E f with
        | .func fn first cap => some (.ok (.defer { target := .fn fn cap, args := first ++ c.args.map E }) σ)
        | _ => none
      | _ => none
    | _ => none
section
variable {P : Program} {ρ : Ren Ψ}
theorem Out.value {σ : St} {w : World} (hr : Rel ρ σ w) {v v' : Value} {real : Result Next} (h : real = .ok (.value v') w) (hv : VR ρ v v') : Out NR ρ σ w (.ok (.value v) σ) real := ⟨ρ, _, w, .refl ρ, h, hr, .refl w, .value hv⟩
def OutV (ρ : Ren Ψ) (σ : St) (w : World) (r : Rs Next) (real : Result Next) : Prop := ∃ v v', r = .ok (.value v) σ ∧ real = .ok (.value v') w ∧ VR ρ v v'
theorem OutV.out {σ : St} {w : World} (hr : Rel ρ σ w) {r : Rs Next} {real : Result Next} (h : OutV ρ σ w r real) : Out NR ρ σ w r real := by
  obtain ⟨v, v', rfl, h1, h2⟩ := h
  exact .value hr h1 h2
theorem atB_eq {x y : Value} (h : atB x y = true) : x = y := by
  unfold atB at h
  split at h
  · rw [Nat.eq_of_beq_eq_true h]
  · rw [of_decide_eq_true h]
  · rw [of_decide_eq_true h]
  · rename_i s t
    have e := eq_of_beq h
    obtain ⟨⟨s⟩⟩ := s
    obtain ⟨⟨t⟩⟩ := t
    simp only at e
    rw [e]
  · rw [eq_of_beq h]
  · cases h
theorem atsB_eq : ∀ {l m : List Value}, atsB l m = true → l = m
  | [], [], _ => rfl
  | x :: l, y :: m, h => by
    unfold atsB at h
    rw [Bool.and_eq_true] at h
    rw [atB_eq h.1, atsB_eq h.2]
  | [], _ :: _, h => by cases h
  | _ :: _, [], h => by cases h
theorem keyB_eq {k k' : Key} (h : keyB k k' = true) : k = k' := by
  unfold keyB at h
  split at h
  · simp only [Bool.and_eq_true, decide_eq_true_eq, Nat.beq_eq] at h
    rw [h.1, h.2]
  · rw [Nat.eq_of_beq_eq_true h]
  · simp only [Bool.and_eq_true, beq_iff_eq, Nat.beq_eq] at h
    rw [h.1, h.2.1, h.2.2]
  · rw [Nat.eq_of_beq_eq_true h]
  · cases h
theorem lookE_mem : ∀ {l : List Ent} {k : Key} {vs : List Value} {v : Value}, lookE l k vs = some v → ⟨k, vs, v⟩ ∈ l
  | [], _, _, _, h => by cases h
  | e :: l, k, vs, v, h => by
    unfold lookE at h
    split at h
    · rename_i q
      rw [Bool.and_eq_true] at q
      have e1 := keyB_eq q.1
      have e2 := atsB_eq q.2
      have e3 := Option.some.inj h
      obtain ⟨a, b, c⟩ := e
      simp only at e1 e2 e3
      subst e1 e2 e3
      exact List.mem_cons_self ..
    · exact List.mem_cons_of_mem _ (lookE_mem h)
theorem symE_sound {σ : St} {w : World} (hr : Rel ρ σ w) {k : Key} {vs vs' : List Value} (hv : vs.length = vs'.length) (hg : ∀ (i : Nat) (v v' : Value), vs[i]? = some v → vs'[i]? = some v' → VR ρ v v') {r : Rs Next} (h : symE σ k vs = some r) :
    ∃ v v', r = .ok (.value v) σ ∧ VR ρ v v' ∧ KeyOk Ψ.prog k vs' v' ∧ ∀ x ∈ vs', atomB x = true := by
  unfold symE at h
  split at h
  · rename_i v hl
    cases Option.some.inj h
    obtain ⟨l, r0, h1, h2, h3⟩ := hr.orc _ (lookE_mem hl)
    simp only at h1 h2 h3
    have hlen : vs.length = l.length := by simpa using congrArg List.length h1
    have hget : ∀ (i : Nat) (x : Value), vs[i]? = some x → ∃ y, l[i]? = some y ∧ symV Ψ x = some y := by
      intro i x hx
      have h4 := congrArg (fun q => q[i]?) h1
      simp only [List.getElem?_map, hx, Option.map_some] at h4
      cases hy : l[i]? with
      | none => rw [hy] at h4; cases h4
      | some y => rw [hy] at h4; exact ⟨y, rfl, Option.some.inj h4⟩
    have hl2 : vs' = l := by
      apply List.ext_getElem? fun i => ?_
      cases hx : vs[i]? with
      | none =>
        have q1 := List.getElem?_eq_none_iff.1 hx
        rw [List.getElem?_eq_none (by omega), List.getElem?_eq_none (by omega)]
      | some x =>
        obtain ⟨y, hy, hs⟩ := hget i x hx
        have q1 := (List.getElem?_eq_some_iff.1 hx).1
        obtain ⟨x', hx'⟩ : ∃ x', vs'[i]? = some x' := ⟨_, List.getElem?_eq_getElem (by omega)⟩
        rw [hx', hy, symV_R (hg i x x' hx hx') hs]
    refine ⟨v, r0, rfl, R_symV h2, by rw [hl2]; exact h3, fun x hx => ?_⟩
    rw [hl2] at hx
    obtain ⟨i, hi⟩ := List.getElem?_of_mem hx
    have q1 := (List.getElem?_eq_some_iff.1 hi).1
    obtain ⟨u, hu⟩ : ∃ u, vs[i]? = some u := ⟨_, List.getElem?_eq_getElem (by omega)⟩
    obtain ⟨y, hy, hs⟩ := hget i u hu
    rw [hi] at hy
    cases Option.some.inj hy
    exact symV_atom hs
  · cases h
theorem guard_atom {op : BinOp} {t : TypeId} {x y : Operand} {a b : Value} (ha : atomB a = true) (w : World) : (eqGuard op t x y a b).run P w = .ok () w := by
  cases a <;> first | (cases ha; done) | (cases op <;> rfl)
theorem get_two {x y x' y' : Value} (h1 : VR ρ x x') (h2 : VR ρ y y') : ∀ (i : Nat) (v v' : Value), [x, y][i]? = some v → [x', y'][i]? = some v' → VR ρ v v' := by
  intro i v v' q1 q2
  match i, q1, q2 with
  | 0, q1, q2 => cases q1; cases q2; exact h1
  | 1, q1, q2 => cases q1; cases q2; exact h2
theorem get_one {x x' : Value} (h1 : VR ρ x x') : ∀ (i : Nat) (v v' : Value), [x][i]? = some v → [x'][i]? = some v' → VR ρ v v' := by
  intro i v v' q1 q2
  match i, q1, q2 with
  | 0, q1, q2 => cases q1; cases q2; exact h1
theorem get_three {x y z x' y' z' : Value} (h1 : VR ρ x x') (h2 : VR ρ y y') (h3 : VR ρ z z') : ∀ (i : Nat) (v v' : Value), [x, y, z][i]? = some v → [x', y', z'][i]? = some v' → VR ρ v v' := by
  intro i v v' q1 q2
  match i, q1, q2 with
  | 0, q1, q2 => cases q1; cases q2; exact h1
  | 1, q1, q2 => cases q1; cases q2; exact h2
  | 2, q1, q2 => cases q1; cases q2; exact h3
theorem symQ_sound (hz : ZeroOk Ψ P) {σ : St} {w : World} (hr : Rel ρ σ w) {E : Operand → Value} {a : Act} {o : Oper} (hE : ∀ x ∈ o.op.operands, VR ρ (E x) (a.eval x)) {r : Rs Next} (h : symQ P E σ o = some r) : OutV ρ σ w r ((execOp a.eval o).run P w) := by
  obtain ⟨dst, op, type, pos, after, guard⟩ := o
  unfold symQ at h
  simp only at h hE
  split at h
  · rename_i bop t x y ty
    obtain ⟨v, v', rfl, h1, h2, h3⟩ := symE_sound (vs := [E x, E y]) hr (vs' := [a.eval x, a.eval y]) rfl (get_two (hE x (by simp [Op.operands])) (hE y (by simp [Op.operands]))) h
    refine ⟨v, v', rfl, ?_, h1⟩
    have h4 := h2 w
    rw [hz.1] at h4
    show ((do pure (Next.value (← (do eqGuard bop t x y (a.eval x) (a.eval y); binOp bop t (a.eval x) (a.eval y))))).run P w) = _
    rw [Sem.run_bind, Sem.run_bind, guard_atom (h3 _ (by simp)) w]
    simp only [Result.andThen_ok, h4, Sem.run_pure]
  · rename_i t x i
    obtain ⟨v, v', rfl, h1, h2, h3⟩ := symE_sound (vs := [E x, E i]) hr (vs' := [a.eval x, a.eval i]) rfl (get_two (hE x (by simp [Op.operands])) (hE i (by simp [Op.operands]))) h
    refine ⟨v, v', rfl, ?_, h1⟩
    have h4 := h2 w
    rw [hz.1] at h4
    show ((do pure (Next.value (← Instr.index t (a.eval x) (a.eval i)))).run P w) = _
    rw [Sem.run_bind, h4]
    rfl
  · rename_i t x
    obtain ⟨v, v', rfl, h1, h2, h3⟩ := symE_sound (vs := [E x]) hr (vs' := [a.eval x]) rfl (get_one (hE x (by simp [Op.operands]))) h
    refine ⟨v, v', rfl, ?_, h1⟩
    have h4 := h2 w
    rw [hz.1] at h4
    show ((do pure (Next.value (← Instr.sliceAt t (a.eval x) none none none))).run P w) = _
    rw [Sem.run_bind, h4]
    rfl
  · rename_i t x l
    obtain ⟨v, v', rfl, h1, h2, h3⟩ := symE_sound (vs := [E x, E l]) hr (vs' := [a.eval x, a.eval l]) rfl (get_two (hE x (by simp [Op.operands])) (hE l (by simp [Op.operands]))) h
    refine ⟨v, v', rfl, ?_, h1⟩
    have h4 := h2 w
    rw [hz.1] at h4
    show ((do pure (Next.value (← Instr.sliceAt t (a.eval x) (some (a.eval l)) none none))).run P w) = _
    rw [Sem.run_bind, h4]
    rfl
  · rename_i t x l
    obtain ⟨v, v', rfl, h1, h2, h3⟩ := symE_sound (vs := [E x, E l]) hr (vs' := [a.eval x, a.eval l]) rfl (get_two (hE x (by simp [Op.operands])) (hE l (by simp [Op.operands]))) h
    refine ⟨v, v', rfl, ?_, h1⟩
    have h4 := h2 w
    rw [hz.1] at h4
    show ((do pure (Next.value (← Instr.sliceAt t (a.eval x) none (some (a.eval l)) none))).run P w) = _
    rw [Sem.run_bind, h4]
    rfl
  · rename_i t x l m
    obtain ⟨v, v', rfl, h1, h2, h3⟩ := symE_sound (vs := [E x, E l, E m]) hr (vs' := [a.eval x, a.eval l, a.eval m]) rfl (get_three (hE x (by simp [Op.operands])) (hE l (by simp [Op.operands])) (hE m (by simp [Op.operands]))) h
    refine ⟨v, v', rfl, ?_, h1⟩
    have h4 := h2 w
    rw [hz.1] at h4
    show ((do pure (Next.value (← Instr.sliceAt t (a.eval x) (some (a.eval l)) (some (a.eval m)) none))).run P w) = _
    rw [Sem.run_bind, h4]
    rfl
  · rename_i c
    obtain ⟨callee, args, ts⟩ := c
    simp only at h
    split at h
    · rename_i x t e1 e2
      have : args = #[x] := by rw [← Array.toArray_toList (xs := args), e1]
      subst this
      have : ts = #[t] := by rw [← Array.toArray_toList (xs := ts), e2]
      subst this
      split at h
      · rename_i ht
        obtain ⟨v, v', rfl, h1, ⟨s, h2, rfl⟩, h3⟩ := symE_sound (vs := [E x]) hr (vs' := [a.eval x]) rfl (get_one (hE x (by simp [Op.operands, Call.operands]))) h
        refine ⟨v, _, rfl, ?_, h1⟩
        simp [execOp, resolve, invoke, builtin, h2, Builtin.len_, run_underlying ht, goInt]
      · cases h
    · cases h
  · cases h
theorem plainQ_sound (hz : ZeroOk Ψ P) {σ : St} {w : World} (hr : Rel ρ σ w) {E : Operand → Value} {a : Act} {o : Oper} (hs : ∀ cs b, o.op ≠ .select cs b) (hE : ∀ x ∈ o.op.operands, VR ρ (E x) (a.eval x)) {r : Rs Next} (h : plainQ P E σ o = some r) : OutV ρ σ w r ((execOp a.eval o).run P w) := by
  unfold plainQ at h
  cases hp : o.op.operands.toList.all (fun x => plainV 4 (E x)) with
  | false => rw [hp] at h; exact symQ_sound hz hr hE h
  | true =>
  rw [hp] at h
  simp only [List.all_eq_true] at hp
  have he : execOp a.eval o = execOp E o := execOp_congr o hs fun x hx => plain_eq 4 _ _ (hp x (Array.mem_toList_iff.2 hx)) (hE x hx)
  rw [he]
  cases hq : pureQ P (execOp E o) with
  | none => rw [hq] at h; cases h
  | some n =>
  rw [hq] at h
  have hrun := pureQ_run _ hq w
  cases n with
  | value v =>
    simp only at h
    cases hv : plainV 6 v with
    | false => rw [hv] at h; cases h
    | true =>
      rw [hv] at h
      cases Option.some.inj h
      exact ⟨v, v, rfl, hrun, plain_refl 6 v hv⟩
  | _ => cases h
theorem valueR_sound {σ : St} {w : World} {s : Sem Value} {q : Option (Rs Value)} {r : Rs Next} (h : valueR q = some r) (hq : ∀ x, q = some x → Out VR ρ σ w x (s.run P w)) : Out NR ρ σ w r ((do pure (Next.value (← s))).run P w) := by
  cases q with
  | none => cases h
  | some x =>
    have := hq x rfl
    cases x with
    | ok v σ' =>
      cases Option.some.inj h
      obtain ⟨ρ', x', w', h1, h2, h3, h4, h5⟩ := this
      exact ⟨ρ', _, w', h1, by rw [Sem.run_bind, h2]; rfl, h3, h4, .value h5⟩
    | panic v σ' =>
      cases Option.some.inj h
      obtain ⟨ρ', x', w', h1, h2, h3, h4, h5⟩ := this
      exact ⟨ρ', _, w', h1, by rw [Sem.run_bind, h2]; rfl, h3, h4, h5⟩
theorem cap_sound {σ : St} {w : World} (hr : Rel ρ σ w) {s s' : Sem Value} (h : Sim P s s' ρ CapV) {r : Rs Next} (he : capCheck (runA P (do pure (Next.value (← s))) σ) = some r) : Out NR ρ σ w r ((do pure (Next.value (← s'))).run P w) := by
  have h2 : Sim P (do pure (Next.value (← s))) (do pure (Next.value (← s'))) ρ fun ρ' n n' => ∃ v v', n = .value v ∧ n' = .value v' ∧ CapV ρ' v v' := sim_bind h fun _ _ _ _ hv => sim_pure ⟨_, _, rfl, rfl, hv⟩
  generalize hq : runA P (do pure (Next.value (← s))) σ = q at he
  cases q with
  | none => cases he
  | some x =>
    have h3 := h2.out hr hq
    cases x with
    | ok n σ' =>
      obtain ⟨ρ', x', w', h1, h4, h5, h6, v, v', rfl, rfl, h7⟩ := h3
      simp only [capCheck] at he
      cases hc : capOk v with
      | false => rw [hc] at he; cases he
      | true => rw [hc] at he; cases Option.some.inj he; exact ⟨ρ', _, w', h1, h4, h5, h6, .value (h7 hc)⟩
    | panic v σ' => cases Option.some.inj he; exact h3
theorem field_sound {σ : St} {w : World} {s : TypeId} {x x' : Value} {f : Nat} (hx : VR ρ x x') {r : Rs Next} (h : evField P σ s x f = some r) : OutV ρ σ w r ((do pure (Next.value (← Instr.fieldAt s x' f))).run P w) := by
  unfold evField at h
  cases ht : P.underlying s with
  | none => rw [ht] at h; cases h
  | some d =>
  rw [ht] at h
  cases d with
  | struct fields =>
    cases hx with
    | @ptr b k o h1 =>
      simp only at h
      cases hf : fields[f]? with
      | none => rw [hf] at h; cases h
      | some fl =>
      rw [hf] at h
      simp only at h
      cases hi : P.info? fl.type with
      | none => rw [hi] at h; cases h
      | some i =>
      rw [hi] at h
      simp only at h
      cases hz : Nat.beq i.size 0 with
      | true => rw [hz] at h; cases h
      | false =>
      rw [hz] at h
      cases Option.some.inj h
      have hne : i.size ≠ 0 := by rw [← Bool.not_eq_true, Nat.beq_eq] at hz; exact hz
      refine ⟨_, .pointer (some (Addr.add ⟨k, o, none⟩ fl.offset)), rfl, ?_, (AdR.add (a := ⟨b, o, none⟩) (a' := ⟨k, o, none⟩) ⟨rfl, rfl, rfl, h1⟩ _).ptr⟩
      simp [Instr.fieldAt, run_underlying ht, hf, Instr.sureAddr, fieldPlace, sizeOf, typeInfo, hi, hne]
    | _ => cases h
  | _ => cases h
theorem eql_sound {σ : St} {w : World} {neg : Bool} {t : TypeId} {x y : Operand} {a a' b b' : Value} (ha : VR ρ a a') (hb : VR ρ b b') {r : Rs Next} (h : evEql P σ neg t a b = some r) :
    OutV ρ σ w r ((do pure (Next.value (← (do eqGuard (if neg then .neq else .eql) t x y a' b'; binOp (if neg then .neq else .eql) t a' b')))).run P w) := by
  unfold evEql at h
  cases hc : ((someV a && nilV b) || (nilV a && someV b)) with
  | false => rw [hc] at h; cases h
  | true =>
  rw [hc] at h
  simp only at h
  cases hq : pureQ P (Op.equal t a b) with
  | none => rw [hq] at h; cases h
  | some v =>
  rw [hq] at h
  cases Option.some.inj h
  simp only [Bool.or_eq_true, Bool.and_eq_true] at hc
  have hc' : (someV a' = true ∧ nilV b' = true) ∨ (nilV a' = true ∧ someV b' = true) := by
    rcases hc with ⟨h1, h2⟩ | ⟨h1, h2⟩
    · left; exact ⟨someV_eq ha h1, by rw [nilV_eq hb h2]; exact h2⟩
    · right; exact ⟨by rw [nilV_eq ha h1]; exact h1, someV_eq hb h2⟩
  have hrun : (Op.equal t a' b').run P w = .ok v w := by
    rcases hc with ⟨h1, h2⟩ | ⟨h1, h2⟩
    · rw [nilV_eq hb h2]; exact equal_nil ha h1 h2 hq w
    · rw [nilV_eq ha h1]; exact equal_nil' hb h2 h1 hq w
  have hg := guard_nil (P := P) (op := if neg then .neq else .eql) (t := t) (x := x) (y := y) hc' w
  obtain ⟨b1, b2⟩ := binOp_nil (t := t) hc'
  cases neg with
  | false =>
    refine ⟨_, .bool v, rfl, ?_, .bool v⟩
    simp only [Bool.false_eq_true, if_false] at hg ⊢
    simp only [Sem.run_bind, hg, Result.andThen_ok, b1, hrun, Sem.run_pure]
  | true =>
    refine ⟨_, .bool (!v), rfl, ?_, .bool _⟩
    simp only [if_true] at hg ⊢
    simp only [Sem.run_bind, hg, Result.andThen_ok, b2, hrun, Sem.run_pure]
theorem PR_map {l : List (Nat × Operand)} {f g : Operand → Value} (h : ∀ p ∈ l, VR ρ (f p.2) (g p.2)) : PR ρ (l.map fun (i, x) => (i, f x)) (l.map fun (i, x) => (i, g x)) := by
  refine ⟨by simp, fun i p p' h1 h2 => ?_⟩
  rw [List.getElem?_map] at h1 h2
  cases hl : l[i]? with
  | none => rw [hl] at h1; cases h1
  | some q =>
    rw [hl] at h1 h2
    rw [← Option.some.inj h1, ← Option.some.inj h2]
    exact ⟨rfl, h q (List.mem_of_getElem? hl)⟩
theorem NoNG_run {hn : ∀ (f : Nat) (fn : Func), P.funcs[f]? = some fn → (fn.name == "runtime.NumGoroutine") = false} {fid : FuncId} {fn : Func} (hf : P.funcs[fid]? = some fn) {c : Code} (hb : fn.body = some c) (args : Array Value) (w : World) : (callFunc fid args).run P w = .ok (.enter fid args) w := by
  have h1 := hn fid fn hf
  unfold callFunc
  rw [Sem.run_bind]
  show ((match P.funcs[fid]? with | none => stuck "call: no such function" | some fn => _ : Sem Next)).run P w = _
  rw [hf]
  simp only [h1, hb, Bool.false_eq_true, if_false, Option.isNone_some]
  rfl
theorem call_sound (hz : ZeroOk Ψ P) (hn : ∀ (f : Nat) (fn : Func), P.funcs[f]? = some fn → (fn.name == "runtime.NumGoroutine") = false) {σ : St} {w : World} (hr : Rel ρ σ w) {E : Operand → Value} {a : Act} {o : Oper} {f : Operand} {args : Array Operand} {ts : Array TypeId} (ho : o.op = .call ⟨.value f, args, ts⟩)
    (hE : ∀ x ∈ o.op.operands, VR ρ (E x) (a.eval x)) {r : Rs Next} (h : evCall P E σ o (E f) (args.map E) = some r) : Out NR ρ σ w r ((execOp a.eval o).run P w) := by
  have hsel : ∀ cs b, o.op ≠ .select cs b := fun cs b e => by rw [ho] at e; cases e
  have hf : VR ρ (E f) (a.eval f) := hE f (by rw [ho]; simp [Op.operands, Call.operands])
  have hargs : VRs ρ (args.map E) (args.map a.eval) := .map _ _ _ fun x hx => hE x (by rw [ho]; simp [Op.operands, Call.operands, hx])
  have hq : plainQ P E σ o = some r → Out NR ρ σ w r ((execOp a.eval o).run P w) := fun h => (plainQ_sound hz hr hsel hE h).out hr
  have hex : execOp a.eval o = (do let d ← resolve a.eval ⟨.value f, args, ts⟩ o.type; invoke d.target d.args) := by simp only [execOp, ho]
  unfold evCall at h
  generalize hA : E f = fv at hf h
  generalize hB : a.eval f = fv' at hf
  cases hf with
  | @func fn fn' f1 f1' c c' hfn q1 q2 q3 q4 =>
    cases hfn with
    | func fid =>
      simp only at h
      cases hfu : P.funcs[fid]? with
      | none => rw [hfu] at h; cases h
      | some fu =>
      rw [hfu] at h
      simp only at h
      cases hbo : fu.body with
      | none => rw [hbo] at h; exact hq h
      | some cb =>
      rw [hbo] at h
      cases Option.some.inj h
      have hrun := NoNG_run (hn := hn) hfu hbo (f1' ++ args.map a.eval ++ c') w
      refine ⟨ρ, .enter fid (f1' ++ args.map a.eval ++ c'), w, .refl ρ, ?_, hr, .refl w, .enter fid ((VRs.append ⟨q1, q2⟩ hargs).append ⟨q3, q4⟩)⟩
      rw [hex]
      simp only [resolve, hB, Deferred.ofValue, Sem.run_bind, Sem.run_pure, Result.andThen_ok, invoke]
      exact hrun
    | @yield l l' hl =>
      simp only at h
      have h1 := (sim_yield (P := P) hl (VRs.append ⟨q1, q2⟩ hargs)).out hr h
      have h2 : (execOp a.eval o).run P w = (Instr.yield l' (f1' ++ args.map a.eval)).run P w := by
        rw [hex]
        simp only [resolve, hB, Deferred.ofValue, Sem.run_bind, Sem.run_pure, Result.andThen_ok, invoke]
      rw [h2]; exact h1
    | _ => cases h
  | _ => cases h
theorem builtin_sound (hz : ZeroOk Ψ P) {σ : St} {w : World} (hr : Rel ρ σ w) {E : Operand → Value} {a : Act} {dst : Option Tmp} {type : TypeId} {pos : String} {after : Array Edge} {guard : Option (Nat × Bool)} {b : Builtin} {args : Array Operand} {ts : Array TypeId}
    (hE : ∀ x ∈ (Op.call ⟨.builtin b, args, ts⟩).operands, VR ρ (E x) (a.eval x)) {r : Rs Next} (h : evBuiltin P E σ ⟨dst, .call ⟨.builtin b, args, ts⟩, type, pos, after, guard⟩ b args.toList ts.toList = some r) :
    Out NR ρ σ w r ((execOp a.eval ⟨dst, .call ⟨.builtin b, args, ts⟩, type, pos, after, guard⟩).run P w) := by
  have hq : plainQ P E σ ⟨dst, .call ⟨.builtin b, args, ts⟩, type, pos, after, guard⟩ = some r → Out NR ρ σ w r ((execOp a.eval ⟨dst, .call ⟨.builtin b, args, ts⟩, type, pos, after, guard⟩).run P w) := fun h => (plainQ_sound hz hr (fun _ _ e => by cases e) hE h).out hr
  have hM : ∀ x ∈ args, VR ρ (E x) (a.eval x) := fun x hx => hE x (by simp [Op.operands, Call.operands, hx])
  have two : ∀ (s x : Operand), args.toList = [s, x] → args = #[s, x] := fun s x e => by rw [← Array.toArray_toList (xs := args), e]
  unfold evBuiltin at h
  split at h
  · rename_i s x t tx e1 e2
    obtain rfl := two s x e1
    have : ts = #[t, tx] := by rw [← Array.toArray_toList (xs := ts), e2]
    subst this
    have hs := hM s (by simp)
    have hx := hM x (by simp)
    have hex : (execOp a.eval ⟨dst, .call ⟨.builtin .append, #[s, x], #[t, tx]⟩, type, pos, after, guard⟩).run P w = (do pure (Next.value (← Builtin.append_ #[t, tx] type #[a.eval s, a.eval x]))).run P w := by simp [execOp, resolve, invoke, builtin]
    rw [hex]
    exact valueR_sound (s := Builtin.append_ #[t, tx] type #[a.eval s, a.eval x]) h fun y hy => append_sound hr hs hx hy
  · rename_i x t e1 e2
    have : args = #[x] := by rw [← Array.toArray_toList (xs := args), e1]
    subst this
    have : ts = #[t] := by rw [← Array.toArray_toList (xs := ts), e2]
    subst this
    have hx := hM x (by simp)
    split at h
    · rename_i base n c elem hA ht
      cases Option.some.inj h
      rw [hA] at hx
      have hv : ∃ b' c', a.eval x = .slice b' n c' := by
        generalize a.eval x = v at hx
        cases hx with
        | nilSlice n c => exact ⟨_, _, rfl⟩
        | empty a c' => exact ⟨_, _, rfl⟩
        | slice h1 h2 => exact ⟨_, _, rfl⟩
      obtain ⟨b', c', hv⟩ := hv
      refine .value hr (v' := .int .i64 n) ?_ (.int _ _)
      simp [execOp, resolve, invoke, builtin, hv, Builtin.len_, run_underlying ht, goInt]
    · exact hq h
  · rename_i ts' d s e1
    obtain rfl := two d s e1
    have hd := hM d (by simp)
    have hs := hM s (by simp)
    rw [Array.toArray_toList] at h
    have hex : (execOp a.eval ⟨dst, .call ⟨.builtin .copy, #[d, s], ts⟩, type, pos, after, guard⟩).run P w = (do pure (Next.value (← Builtin.copy_ ts type #[a.eval d, a.eval s]))).run P w := by simp [execOp, resolve, invoke, builtin]
    rw [hex]
    exact valueR_sound (s := Builtin.copy_ ts type #[a.eval d, a.eval s]) h fun y hy => (sim_copy hd hs).out hr hy
  · cases Option.some.inj h
    exact ⟨ρ, .recover, w, .refl ρ, by simp [execOp, resolve, invoke, builtin], hr, .refl w, .recover⟩
  · exact hq h
  · exact hq h
  · cases h
theorem sim_makeMap {t : TypeId} : Sim P (Instr.makeMap t none) (Instr.makeMap t none) ρ VR :=
  sim_bind (sim_new_with (x := .obj (.map #[] 0)) rfl fun _ _ _ => .map 0 rfl fun i e e' h => by simp at h) fun _ _ _ _ hk => sim_pure (.map hk)
theorem op_sound (hz : ZeroOk Ψ P) (hn : ∀ (f : Nat) (fn : Func), P.funcs[f]? = some fn → (fn.name == "runtime.NumGoroutine") = false) {σ : St} {w : World} (hr : Rel ρ σ w) {E : Operand → Value} {a : Act} {o : Oper} (hact : ∀ x ∈ o.op.operands, okOperand σ.glob x = true → VR ρ (E x) (a.eval x)) {r : Rs Next} (h : evOp P E σ o = some r) :
    Out NR ρ σ w r ((execOp a.eval o).run P w) := by
  unfold evOp at h
  cases hok : okOps σ.glob o with
  | false => rw [hok] at h; cases h
  | true =>
  rw [hok] at h
  simp only [okOps, List.all_eq_true] at hok
  have hE : ∀ x ∈ o.op.operands, VR ρ (E x) (a.eval x) := fun x hx => hact x hx (hok x (Array.mem_toList_iff.2 hx))
  obtain ⟨dst, op, type, pos, after, guard⟩ := o
  simp only at h hE
  have hpl : ∀ (hs : ∀ cs b, op ≠ .select cs b), plainQ P E σ ⟨dst, op, type, pos, after, guard⟩ = some r → Out NR ρ σ w r ((execOp a.eval ⟨dst, op, type, pos, after, guard⟩).run P w) := fun hs h => (plainQ_sound hz hr hs hE h).out hr
  cases op with
  | move x => cases Option.some.inj h; exact .value hr rfl (hE x (by simp [Op.operands]))
  | assign x => cases Option.some.inj h; exact .value hr rfl (hE x (by simp [Op.operands]))
  | pick c x y =>
    have hc := hE c (by simp [Op.operands])
    have hx := hE x (by simp [Op.operands])
    have hy := hE y (by simp [Op.operands])
    simp only at h
    generalize hA : E c = vc at hc h
    generalize hB : a.eval c = vc' at hc
    cases hc with
    | bool b =>
      cases b with
      | true => cases Option.some.inj h; exact .value hr (by simp [execOp, hB, asBool]) hx
      | false => cases Option.some.inj h; exact .value hr (by simp [execOp, hB, asBool]) hy
    | _ => cases h
  | extract x i =>
    have hx := hE x (by simp [Op.operands])
    simp only at h
    generalize hA : E x = vc at hx h
    generalize hB : a.eval x = vc' at hx
    cases hx with
    | @tuple c c' q1 q2 =>
      simp only [nth_eq] at h
      cases hc : c.toList[i]? with
      | none => rw [hc] at h; cases h
      | some v =>
        rw [hc] at h
        cases Option.some.inj h
        obtain ⟨v', h1, h2⟩ := (VRs.mk q1 q2).toList i v hc
        exact .value hr (by simp [execOp, hB, Instr.extract, h1]) h2
    | _ => cases h
  | alloc t => exact (sim_value (sim_alloc hz)).out hr h
  | box t x => exact (sim_value (sim_box (hE x (by simp [Op.operands])))).out hr h
  | build t ps =>
    refine (sim_value (sim_build hz ?_)).out hr h
    simp only [Array.toList_map]
    exact PR_map fun p hp => hE p.2 (by simp only [Op.operands]; simp; exact ⟨p.1, by simpa using hp⟩)
  | buildSlice t n ps =>
    refine cap_sound hr (sim_buildSlice hz ?_) h
    simp only [Array.toList_map]
    exact PR_map fun p hp => hE p.2 (by simp only [Op.operands]; simp; exact ⟨p.1, by simpa using hp⟩)
  | load t x => exact (sim_value (sim_loadAt (hE x (by simp [Op.operands])))).out hr h
  | store t x y => exact (sim_skip (sim_storeAt (hE x (by simp [Op.operands])) (hE y (by simp [Op.operands])))).out hr h
  | makeInterface t x => exact (sim_value (sim_makeInterface (hE x (by simp [Op.operands])))).out hr h
  | makeFunc fn f c =>
    have h1 : VRs ρ (f.map E) (f.map a.eval) := .map _ _ _ fun x hx => hE x (by simp [Op.operands, hx])
    have h2 : VRs ρ (c.map E) (c.map a.eval) := .map _ _ _ fun x hx => hE x (by simp [Op.operands, hx])
    cases hfn : okFn fn with
    | false => simp only [hfn] at h; cases h
    | true =>
      simp only [hfn] at h
      exact (sim_value (s := pure _) (s' := pure _) (sim_pure (.func (okFn_R hfn) h1.size h1.get h2.size h2.get))).out hr h
  | field t x f => exact (sim_value (sim_field (hE x (by simp [Op.operands])))).out hr h
  | indexAddr t x y => exact (sim_value (sim_indexAt (hE x (by simp [Op.operands])) (hE y (by simp [Op.operands])))).out hr h
  | range t x => exact (sim_value (sim_range (hE x (by simp [Op.operands])))).out hr h
  | next x b => cases b with
    | true => exact (sim_value (sim_next (hE x (by simp [Op.operands])))).out hr h
    | false => cases h
  | typeAssert x t s ok => cases ok with
    | true => exact (sim_value (sim_typeAssert hz (hE x (by simp [Op.operands])))).out hr h
    | false => cases h
  | makeSlice t l c => exact cap_sound hr (sim_makeSlice hz (hE l (by simp [Op.operands])) (hE c (by simp [Op.operands]))) h
  | fieldAddr s x f => exact (field_sound (hE x (by simp [Op.operands])) h).out hr
  | nilCheck x =>
    have hx := hE x (by simp [Op.operands])
    simp only at h
    generalize hA : E x = vc at hx h
    generalize hB : a.eval x = vc' at hx
    cases hx with
    | ptr q => cases Option.some.inj h; exact .value hr (by simp [execOp, hB]) (.ptr q)
    | iface q => cases Option.some.inj h; exact .value hr (by simp [execOp, hB]) (.iface q)
    | @func fn fn' f1 f1' c c' hfn q1 q2 q3 q4 =>
      cases hfn with
      | func fid => cases Option.some.inj h; exact .value hr (by simp [execOp, hB]) (.func (.func fid) q1 q2 q3 q4)
      | yield hl => cases Option.some.inj h; exact .value hr (by simp [execOp, hB]) (.func (.yield hl) q1 q2 q3 q4)
      | _ => cases h
    | _ => cases h
  | binOp op t x y ty =>
    simp only at h
    cases hp : ((plainV 4 (E x) && plainV 4 (E y)) || (symb (E x) || symb (E y))) with
    | true => rw [hp] at h; exact hpl (fun _ _ e => by cases e) h
    | false =>
      rw [hp] at h
      have hx := hE x (by simp [Op.operands])
      have hy := hE y (by simp [Op.operands])
      cases op with
      | eql => exact (eql_sound (neg := false) hx hy h).out hr
      | neq => exact (eql_sound (neg := true) hx hy h).out hr
      | _ => cases h
  | unOp _ _ _ => exact hpl (fun _ _ e => by cases e) h
  | convert s t x =>
    simp only at h
    have hx := hE x (by simp [Op.operands])
    split at h
    · rename_i b n c hA
      rw [hA] at hx
      split at h
      · rename_i hb
        obtain ⟨e, h1, h2, h3⟩ := bytesConv_eq hb
        refine (sim_value ?_).out hr h
        rw [hA]
        exact sim_convert hx h1 h2 h3
      · cases h
    · exact hpl (fun _ _ e => by cases e) h
  | index _ _ _ => exact hpl (fun _ _ e => by cases e) h
  | slice t x lo hi mx =>
    cases mx with
    | some m => cases h
    | none =>
    simp only at h
    have hx := hE x (by simp [Op.operands])
    have hlo : (lo.map E = none ∧ lo.map a.eval = none) ∨ ∃ v v', lo.map E = some v ∧ lo.map a.eval = some v' ∧ VR ρ v v' := by
      cases lo with
      | none => exact .inl ⟨rfl, rfl⟩
      | some l => exact .inr ⟨_, _, rfl, rfl, hE l (by simp [Op.operands])⟩
    have hhi : (hi.map E = none ∧ hi.map a.eval = none) ∨ ∃ v v', hi.map E = some v ∧ hi.map a.eval = some v' ∧ VR ρ v v' := by
      cases hi with
      | none => exact .inl ⟨rfl, rfl⟩
      | some l => exact .inr ⟨_, _, rfl, rfl, hE l (by simp [Op.operands])⟩
    cases hA : E x with
    | slice base n c =>
      rw [hA] at h hx
      simp only at h
      cases hs : evSlice P σ t (.slice base n c) (lo.map E) (hi.map E) with
      | none => rw [hs] at h; cases h
      | some v =>
        rw [hs] at h
        cases Option.some.inj h
        obtain ⟨v', h1, h2⟩ := slice_sound hr hx hlo hhi hs
        exact .value hr (by show ((do pure (Next.value (← Instr.sliceAt t (a.eval x) (lo.map a.eval) (hi.map a.eval) none))).run P w) = _; rw [Sem.run_bind, h1]; rfl) h2
    | pointer pa =>
      cases pa with
      | none => rw [hA] at h; exact hpl (fun _ _ e => by cases e) h
      | some ad =>
        rw [hA] at h hx
        simp only at h
        split at h
        · rename_i v hs
          cases Option.some.inj h
          obtain ⟨v', h1, h2⟩ := arr_sound hx hs w
          exact .value hr (by show ((do pure (Next.value (← Instr.sliceAt t (a.eval x) none none none))).run P w) = _; rw [Sem.run_bind, h1]; rfl) h2
        · cases h
    | _ => rw [hA] at h; exact hpl (fun _ _ e => by cases e) h
  | panic x =>
    have hx := hE x (by simp [Op.operands])
    simp only at h
    generalize hA : E x = vc at hx h
    generalize hB : a.eval x = vc' at hx
    cases hx with
    | iface q => cases Option.some.inj h; exact ⟨ρ, _, w, .refl ρ, by simp [execOp, hB, Instr.panic], hr, .refl w, .iface q⟩
    | _ => cases h
  | lookup xt x k ok =>
    simp only at h
    cases hl : evLookup P σ xt (E x) (E k) ok with
    | none => rw [hl] at h; cases h
    | some v =>
      rw [hl] at h
      cases Option.some.inj h
      obtain ⟨v', h1, h2⟩ := lookup_sound hz hr (hE x (by simp [Op.operands])) (hE k (by simp [Op.operands])) hl
      exact .value hr (by show ((do pure (Next.value (← Instr.lookup xt (a.eval x) (a.eval k) ok))).run P w) = _; rw [Sem.run_bind, h1]; rfl) h2
  | mapUpdate mt m k v =>
    simp only at h
    cases hl : evUpdate P σ mt (E m) (E k) (E v) with
    | none => rw [hl] at h; cases h
    | some σ1 =>
      rw [hl] at h
      cases Option.some.inj h
      obtain ⟨ρ', w', h1, h2, h3, h4⟩ := update_sound hr (hE m (by simp [Op.operands])) (hE k (by simp [Op.operands])) (hE v (by simp [Op.operands])) hl
      exact ⟨ρ', .skip, w', h1, by show ((do Instr.mapUpdate mt (a.eval m) (a.eval k) (a.eval v); pure Next.skip).run P w) = _; rw [Sem.run_bind, h2]; rfl, h3, h4, .skip⟩
  | insert mt m k v =>
    simp only at h
    cases hl : evUpdate P σ mt (E m) (E k) (E v) with
    | none => rw [hl] at h; cases h
    | some σ1 =>
      rw [hl] at h
      cases Option.some.inj h
      obtain ⟨ρ', w', h1, h2, h3, h4⟩ := update_sound hr (hE m (by simp [Op.operands])) (hE k (by simp [Op.operands])) (hE v (by simp [Op.operands])) hl
      exact ⟨ρ', .skip, w', h1, by show ((do Instr.mapUpdate mt (a.eval m) (a.eval k) (a.eval v); pure Next.skip).run P w) = _; rw [Sem.run_bind, h2]; rfl, h3, h4, .skip⟩
  | mapEntry mt m k =>
    simp only at h
    cases hl : evEntry P σ mt (E m) (E k) with
    | none => rw [hl] at h; cases h
    | some p =>
      obtain ⟨v, σ1⟩ := p
      rw [hl] at h
      cases Option.some.inj h
      obtain ⟨ρ', w', v', h1, h2, h3, h4, h5⟩ := entry_sound hz hr (hE m (by simp [Op.operands])) (hE k (by simp [Op.operands])) hl
      exact ⟨ρ', .value v', w', h1, by show ((do pure (Next.value (← Instr.mapEntry mt (a.eval m) (a.eval k)))).run P w) = _; rw [Sem.run_bind, h2]; rfl, h3, h4, .value h5⟩
  | entryStore mt m s v =>
    simp only at h
    cases hl : evEntryStore P σ (E m) (E s) (E v) with
    | none => rw [hl] at h; cases h
    | some σ1 =>
      rw [hl] at h
      cases Option.some.inj h
      obtain ⟨ρ', w', h1, h2, h3, h4⟩ := entryStore_sound (mt := mt) hr (hE m (by simp [Op.operands])) (hE s (by simp [Op.operands])) (hE v (by simp [Op.operands])) hl
      exact ⟨ρ', .skip, w', h1, by show ((do Instr.entryStore mt (a.eval m) (a.eval s) (a.eval v); pure Next.skip).run P w) = _; rw [Sem.run_bind, h2]; rfl, h3, h4, .skip⟩
  | makeMap t r => cases r with
    | none => exact (sim_value sim_makeMap).out hr h
    | some r => cases h
  | call c =>
    obtain ⟨callee, args, ts⟩ := c
    simp only at h
    cases callee with
    | value f => exact call_sound hz hn hr rfl hE h
    | invoke _ _ => cases h
    | builtin b => exact builtin_sound hz hr hE h
  | defer c =>
    obtain ⟨callee, args, ts⟩ := c
    simp only at h
    cases callee with
    | value f =>
      have hf := hE f (by simp [Op.operands, Call.operands])
      have hargs : VRs ρ (args.map E) (args.map a.eval) := .map _ _ _ fun x hx => hE x (by simp [Op.operands, Call.operands, hx])
      simp only at h
      generalize hA : E f = vc at hf h
      generalize hB : a.eval f = vc' at hf
      cases hf with
      | @func fn fn' f1 f1' c c' hfn q1 q2 q3 q4 =>
        cases Option.some.inj h
        exact ⟨ρ, .defer { target := .fn fn' c', args := f1' ++ args.map a.eval }, w, .refl ρ, by simp [execOp, resolve, hB, Deferred.ofValue], hr, .refl w, .defer ⟨.inl ⟨_, _, _, _, rfl, rfl, hfn, ⟨q3, q4⟩⟩, VRs.append ⟨q1, q2⟩ hargs⟩⟩
      | _ => cases h
    | _ => cases h
  | _ => cases h
end
end Go.Ev
/- Closed calls by evaluation, part K: frames. -/
namespace Go.Ev
variable {Ψ : SymEnv}
structure Fr where
  t : T Value
  n : Nat
  defers : List Deferred
def Fr.tmp (A : Fr) (t : Nat) : Value :=
  match A.t.get t with
  | some v => v
  | none => undef
def Fr.eval (A : Fr) : Operand → Value
  | .tmp t => A.tmp t
  | .const v => v
  | .global g => .pointer (some ⟨g, 0, none⟩)
  | .func f => .func (.func f) #[] #[]
def Fr.put (A : Fr) (d : Option Tmp) (v : Value) : Fr :=
  match d with
  | none => A
  | some d => match Nat.blt d A.n with
    | true => { t := A.t.set d (some v), n := Nat.add A.n 0, defers := A.defers }
    | false => A
def wantedE (ops : List Oper) (o : Oper) (A : Fr) : Bool :=
  match o.guard with
  | none => true
  | some (g, b) => match nth ops g with
    | some o' => match o'.dst with
      | some d => match A.tmp d with
        | .bool x => x == b
        | _ => false
      | none => false
    | none => false
structure FrR (ρ : Ren Ψ) (A : Fr) (a : Act) : Prop where
  n : A.n = a.tmps.size
  tmp : ∀ t, VR ρ (A.tmp t) (a.tmps.getD t undef)
  dl : A.defers.length = a.defers.length
  defers : ∀ (i : Nat) (d d' : Deferred), A.defers[i]? = some d → a.defers[i]? = some d' → DR ρ d d'
theorem DR.mono {ρ ρ' : Ren Ψ} (h : ρ.le ρ') {d d' : Deferred} (k : DR ρ d d') : DR ρ' d d' := by
  refine ⟨?_, k.args.mono h⟩
  rcases k.target with ⟨fn, fn', c, c', h1, h2, h3, h4⟩ | h1 | h1 | ⟨r, r', h1, h2, h3⟩
  · exact .inl ⟨fn, fn', c, c', h1, h2, h3.mono h, h4.mono h⟩
  · exact .inr (.inl h1)
  · exact .inr (.inr (.inl h1))
  · exact .inr (.inr (.inr ⟨r, r', h1, h2, h.φ _ _ h3⟩))
section
variable {P : Program} {ρ : Ren Ψ}
theorem FrR.mono {ρ' : Ren Ψ} (h : ρ.le ρ') {A : Fr} {a : Act} (k : FrR ρ A a) : FrR ρ' A a := ⟨k.n, fun t => (k.tmp t).mono h, k.dl, fun i d d' h1 h2 => (k.defers i d d' h1 h2).mono h⟩
theorem Fr.put_tmp {A : Fr} {d : Nat} (hd : d < A.n) (v : Value) (t : Nat) : (A.put (some d) v).tmp t = if t = d then v else A.tmp t := by
  have h1 : Nat.blt d A.n = true := by simpa using hd
  unfold Fr.put
  simp only [h1]
  unfold Fr.tmp
  simp only [T.get_set]
  by_cases e : t = d
  · rw [if_pos e, if_pos e]
  · rw [if_neg e, if_neg e]
theorem FrR.put {A : Fr} {a : Act} (h : FrR ρ A a) (d : Option Tmp) {v v' : Value} (hv : VR ρ v v') : FrR ρ (A.put d v) (a.put d v') := by
  cases d with
  | none => exact h
  | some d =>
    by_cases hd : d < A.n
    · refine ⟨?_, fun t => ?_, ?_, ?_⟩
      · have h1 : Nat.blt d A.n = true := by simpa using hd
        simp only [Fr.put, h1, Act.put, Array.size_setIfInBounds]
        exact h.n
      · rw [Fr.put_tmp hd]
        show VR ρ _ ((a.tmps.setIfInBounds d v').getD t undef)
        rw [Array.getD_eq_getD_getElem?, Array.getElem?_setIfInBounds]
        by_cases e : t = d
        · subst e
          rw [if_pos rfl, if_pos rfl, if_pos (by rw [← h.n]; exact hd)]
          exact hv
        · rw [if_neg e, if_neg (fun q => e q.symm), ← Array.getD_eq_getD_getElem?]
          exact h.tmp t
      · have h1 : Nat.blt d A.n = true := by simpa using hd
        simp only [Fr.put, h1, Act.put]
        exact h.dl
      · have h1 : Nat.blt d A.n = true := by simpa using hd
        simp only [Fr.put, h1, Act.put]
        exact h.defers
    · have h1 : Nat.blt d A.n = false := by rw [← Bool.not_eq_true]; simpa using hd
      have e1 : A.put (some d) v = A := by unfold Fr.put; simp only [h1]
      have e2 : a.put (some d) v' = a := by
        show ({ a with tmps := a.tmps.setIfInBounds d v' } : Act) = a
        have : a.tmps.setIfInBounds d v' = a.tmps := Array.setIfInBounds_eq_of_size_le (by rw [← h.n]; exact Nat.le_of_not_lt hd)
        rw [this]
      rw [e1, e2]; exact h
theorem FrR.eval {A : Fr} {a : Act} (h : FrR ρ A a) {σ : St} {w : World} (hr : Rel ρ σ w) {x : Operand} (hx : okOperand σ.glob x = true) : VR ρ (A.eval x) (a.eval x) := by
  cases x with
  | tmp t => exact h.tmp t
  | const v => exact plain_refl 6 v hx
  | global g => exact .ptr (hr.glob g (by simpa [okOperand] using hx))
  | func f => exact .func (.func f) rfl (fun i v v' h1 => by simp at h1) rfl fun i v v' h1 => by simp at h1
theorem FrR.wanted {A : Fr} {a : Act} (h : FrR ρ A a) (ops : Array Oper) (o : Oper) : Region.wanted o (yielded ops a.tmps) = wantedE ops.toList o A := by
  unfold Region.wanted wantedE
  cases o.guard with
  | none => rfl
  | some g =>
    obtain ⟨g, b⟩ := g
    simp only [nth_eq, Array.getElem?_toList]
    unfold yielded
    cases ops[g]? with
    | none => rfl
    | some o' =>
      simp only [Option.bind_some]
      cases o'.dst with
      | none => rfl
      | some d =>
        simp only [Option.bind_some]
        have hv := h.tmp d
        rw [Array.getD_eq_getD_getElem?] at hv
        cases ht : a.tmps[d]? with
        | none =>
          rw [ht] at hv
          simp only [Option.getD_none] at hv
          generalize A.tmp d = u at hv
          cases hv with
          | sym h1 h2 => cases h2
          | _ => rfl
        | some v' =>
          rw [ht] at hv
          simp only [Option.getD_some] at hv
          generalize A.tmp d = u at hv
          cases hv with
          | bool x => cases x <;> cases b <;> rfl
          | sym h1 h2 => cases v' <;> first | rfl | (cases h2)
          | _ => rfl
end
/-- the slots at a call -/
def fillF : List Value → Nat → T Value → T Value
  | [], _, t => t
  | v :: l, i, t => fillF l (i + 1) (t.set i (some v))
theorem fillF_get : ∀ (l : List Value) (i : Nat) (t : T Value) (j : Nat), (fillF l i t).get j = if i ≤ j ∧ j < i + l.length then l[j - i]? else t.get j := by
  intro l
  induction l with
  | nil => intro i t j; rw [if_neg (by simp)]; rfl
  | cons v l ih =>
    intro i t j
    simp only [fillF]
    rw [ih, T.get_set]
    by_cases h1 : i + 1 ≤ j ∧ j < i + 1 + l.length
    · rw [if_pos h1, if_pos (by simp only [List.length_cons]; omega)]
      have : j - i = (j - (i + 1)) + 1 := by omega
      rw [this, List.getElem?_cons_succ]
    · rw [if_neg h1]
      by_cases h2 : j = i
      · rw [if_pos h2, if_pos (by simp only [List.length_cons]; omega)]
        subst h2
        simp
      · rw [if_neg h2, if_neg (by simp only [List.length_cons]; omega)]
def Fr.enter (args : List Value) (n : Nat) : Fr := { t := fillF args 0 .leaf, n := n, defers := [] }
theorem FrR.enter {ρ : Ren Ψ} {args args' : Array Value} (h : VRs ρ args args') {n : Nat} (hn : args.size ≤ n) : FrR ρ (Fr.enter args.toList n) { tmps := args' ++ Array.replicate (n - args'.size) undef, defers := [] } := by
  refine ⟨?_, fun t => ?_, rfl, fun i d d' h1 => by simp [Fr.enter] at h1⟩
  · simp only [Fr.enter, Array.size_append, Array.size_replicate]
    rw [← h.size]; omega
  · unfold Fr.tmp Fr.enter
    simp only [fillF_get]
    rw [Array.getD_eq_getD_getElem?, Array.getElem?_append]
    by_cases ht : t < args.size
    · rw [if_pos (by simp only [Array.length_toList]; omega), if_pos (by rw [← h.size]; exact ht)]
      simp only [Nat.sub_zero, Array.getElem?_toList]
      rw [Array.getElem?_eq_getElem ht, Array.getElem?_eq_getElem (show t < args'.size by rw [← h.size]; exact ht)]
      exact h.get t _ _ (Array.getElem?_eq_getElem ht) (Array.getElem?_eq_getElem _)
    · rw [if_neg (by simp only [Array.length_toList]; omega), if_neg (by rw [← h.size]; exact ht)]
      rw [Array.getElem?_replicate]
      have e1 : (T.leaf : T Value).get t = none := rfl
      rw [e1]
      show VR ρ undef _
      by_cases hq : t - args'.size < n - args'.size
      · rw [if_pos hq]; exact undef_VR ρ
      · rw [if_neg hq]; exact undef_VR ρ
end Go.Ev
/- Closed calls by evaluation, part L: code, where regions go in the order of the text. -/
namespace Go.Ev
variable {Ψ : SymEnv}
inductive Ex where
  | normal
  | exit (id : Nat)
  | ret
  | panic (v : Value)
inductive Er where
  | ret (v : Value) (σ : St)
  | panic (v : Value) (σ : St)
inductive ExR (ρ : Ren Ψ) : Ex → Exit → Prop where
  | normal : ExR ρ .normal .normal
  | exit (id : Nat) : ExR ρ (.exit id) (.exit id)
  | ret : ExR ρ .ret .ret
  | panic {v v' : Value} (h : VR ρ v v') : ExR ρ (.panic v) (.panic [{ v := v', recovered := false }])
structure Since (ρ0 : Ren Ψ) (σ0 : St) (w0 : World) (ρ : Ren Ψ) (σ : St) (w : World) : Prop where
  le : ρ0.le ρ
  keep : Keep ρ0 σ0 ρ σ w0 w
theorem Since.refl (ρ : Ren Ψ) (σ : St) (w : World) : Since ρ σ w ρ σ w := ⟨.refl ρ, .refl w⟩
theorem Since.trans {ρ0 ρ1 ρ2 : Ren Ψ} {σ0 σ1 σ2 : St} {w0 w1 w2 : World} (h : Since ρ0 σ0 w0 ρ1 σ1 w1) (k : Since ρ1 σ1 w1 ρ2 σ2 w2) : Since ρ0 σ0 w0 ρ2 σ2 w2 := ⟨h.le.trans k.le, h.keep.trans k.keep⟩
def PostR (ρ0 : Ren Ψ) (σ0 : St) (w0 : World) (x : Ex) (A' : Fr) (σ' : St) (e : Exit) (a' : Act) (w' : World) : Prop :=
  ∃ ρ', ExR ρ' x e ∧ FrR ρ' A' a' ∧ Rel ρ' σ' w' ∧ Since ρ0 σ0 w0 ρ' σ' w'
def EndR (ρ0 : Ren Ψ) (σ0 : St) (w0 : World) (r : Er) (e : Ending) (w' : World) : Prop :=
  match r with
  | .ret v σ' => ∃ ρ' v', e = .returned v' ∧ VR ρ' v v' ∧ Rel ρ' σ' w' ∧ Since ρ0 σ0 w0 ρ' σ' w'
  | .panic v σ' => ∃ ρ' v', e = .panicked [{ v := v', recovered := false }] ∧ VR ρ' v v' ∧ Rel ρ' σ' w' ∧ Since ρ0 σ0 w0 ρ' σ' w'
def CallSound (Ψ : SymEnv) (P : Program) (f : FuncId) (args : Array Value) (σ : St) (r : Er) : Prop :=
  ∀ (ρ : Ren Ψ) args' w, VRs ρ args args' → Rel ρ σ w → Calls P f args' w (EndR ρ σ w r)
/-- no fence; in a round or not -/
def wideR (ro : Option Nat) : Fence := { Fence.wide with round := ro }
/-- a call of a function, or of a round -/
def NextSound (Ψ : SymEnv) (P : Program) (n : Next) (σ : St) (r : Er) : Prop :=
  ∀ (ρ : Ren Ψ) n' w, NR ρ n n' → Rel ρ σ w → match n' with
    | .enter f args => Calls P f args w (EndR ρ σ w r)
    | .round l f t assign body => RoundIn Fence.wide 0 P l f t assign body w (EndR ρ σ w r)
    | _ => False
structure Sums (Ψ : SymEnv) (P : Program) where
  f : FuncId → Option (Array Value → St → Option Er)
  ok : ∀ g s, f g = some s → ∀ args σ r, s args σ = some r → CallSound Ψ P g args σ r
/-- the list of operations, one behind the other; 'call' runs a function or a round -/
def evOps (P : Program) (call : Next → St → Option Er) (ro : Option Nat) (ops : List Oper) : List Oper → Fr → St → Option (Ex × Fr × St)
  | [], A, σ => some (.normal, A, σ)
  | o :: l, A, σ => match wantedE ops o A with
    | false => evOps P call ro ops l (A.put o.dst undef) σ
    | true => match evOp P A.eval σ o with
      | some (.ok (.value v) σ) => evOps P call ro ops l (A.put o.dst v) σ
      | some (.ok .skip σ) => evOps P call ro ops l (A.put o.dst undef) σ
      | some (.ok (.defer d) σ) => match ro with
        | none => evOps P call ro ops l ({ A with defers := d :: A.defers }.put o.dst undef) σ
        | some _ => none
      | some (.ok (.enter g args) σ) => match call (.enter g args) σ with
        | some (.ret v σ) => evOps P call ro ops l (A.put o.dst v) σ
        | some (.panic v σ) => some (.panic v, A, σ)
        | none => none
      | some (.ok (.round k g t x y) σ) => match call (.round k g t x y) σ with
        | some (.ret v σ) => evOps P call ro ops l (A.put o.dst v) σ
        | some (.panic v σ) => some (.panic v, A, σ)
        | none => none
      | some (.panic v σ) => some (.panic v, A, σ)
      | _ => none
def frArr (A : Fr) : Array Value := ((List.range A.n).map A.tmp).toArray
def jumpX : Code → Option Ex
  | .ret => some .ret
  | .exit id => some (.exit id)
  | _ => none
/-- code; 'call' runs a function or a round, 'draw' a region that draws its order -/
def evC (P : Program) (call : Next → St → Option Er) (draw : List Oper → Fr → St → Option (Ex × Fr × St)) (ro : Option Nat) : Nat → Code → Fr → St → Option (Ex × Fr × St)
  | 0, _, _, _ => none
  | f + 1, c, A, σ => match c with
    | .skip => some (.normal, A, σ)
    | .seq x y => match evC P call draw ro f x A σ with
      | some (.normal, A, σ) => evC P call draw ro f y A σ
      | r => r
    | .cond c x y => match A.eval c with
      | .bool true => evC P call draw ro f x A σ
      | .bool false => evC P call draw ro f y A σ
      | _ => none
    | .block id b => match evC P call draw ro f b A σ with
      | some (.exit id', A, σ) => match Nat.beq id' id with
        | true => some (.normal, A, σ)
        | false => some (.exit id', A, σ)
      | r => r
    | .loop b => match evC P call draw ro f b A σ with
      | some (.normal, A, σ) => evC P call draw ro f (.loop b) A σ
      | r => r
    | .exit id => some (.exit id, A, σ)
    | .ret => some (.ret, A, σ)
    | .region _ ops d => match d with
      | false => evOps P call ro ops.toList ops.toList A σ
      | true => draw ops.toList A σ
    | .rangeFunc g ps assign body => match okOperand σ.glob g with
      | false => none
      | true => match A.eval g with
        | .func (.func gf) first cap => match P.funcs[gf]? with
          | none => none
          | some fn => match fn.body with
            | none => none
            | some _ => match runA P (Instr.enterLoop 0 (frArr A) ps assign body ro) σ with
              | some (.ok (l, mark) σ) => match call (.enter gf (first ++ #[.func (.yield l) #[] #[]] ++ cap)) σ with
                | some (.ret _ σ) => match runA P (Instr.endLoop l) σ with
                  | some (.ok none σ) => some (.normal, { A with defers := mark ++ A.defers }, σ)
                  | some (.ok (some c) σ) => match jumpX c with
                    | some x => some (x, { A with defers := mark ++ A.defers }, σ)
                    | none => none
                  | _ => none
                | some (.panic v σ) => some (.panic v, { A with defers := mark ++ A.defers }, σ)
                | none => none
              | _ => none
        | _ => none
    | _ => none
section
variable {P : Program} {ρ0 : Ren Ψ} {σ0 : St} {w0 : World}
theorem EndR.since {ρ : Ren Ψ} {σ : St} {w : World} (h : Since ρ0 σ0 w0 ρ σ w) {r : Er} {e : Ending} {w' : World} (k : EndR ρ σ w r e w') : EndR ρ0 σ0 w0 r e w' := by
  cases r with
  | ret v σ' => obtain ⟨ρ', v', h1, h2, h3, h4⟩ := k; exact ⟨ρ', v', h1, h2, h3, h.trans h4⟩
  | panic v σ' => obtain ⟨ρ', v', h1, h2, h3, h4⟩ := k; exact ⟨ρ', v', h1, h2, h3, h.trans h4⟩
theorem evOp_defer {P : Program} {E : Operand → Value} {σ : St} {o : Oper} {c : Call} (ho : o.op = .defer c) {r : Rs Next} (h : evOp P E σ o = some r) : ∃ d, r = .ok (.defer d) σ := by
  unfold evOp at h
  rw [ho] at h
  split at h
  · cases h
  · simp only at h
    split at h
    · split at h
      · exact ⟨_, (Option.some.inj h).symm⟩
      · cases h
    · cases h
theorem semAt_ev {ro ro' : Option Nat} {ρ : Ren Ψ} (hro : RoR ρ ro ro') {o : Oper} (E : Operand → Value) (h : ro ≠ none → ∀ c, o.op ≠ .defer c) : Oper.semAt ro' E o = execOp E o := by
  rcases hro with ⟨-, rfl⟩ | ⟨l, l', rfl, rfl, -⟩
  · rfl
  · exact Oper.semAt_eq _ _ _ (h (by simp))
theorem RoundIn.at {P : Program} {l : Nat} {f : FuncId} {t : Array Value} {x y : Code} {w : World} {R : Ending → World → Prop} (h : RoundIn Fence.wide 0 P l f t x y w R) (ro : Option Nat) (n : Nat) : RoundIn (wideR ro) n P l f t x y w R :=
  ⟨trivial, fun c cs _ => h.2 c cs (room_wide _)⟩
theorem calls_at {P : Program} {f : FuncId} {args : Array Value} {w : World} {R : Ending → World → Prop} (h : Calls P f args w R) (ro : Option Nat) (n : Nat) : CallsIn (wideR ro) n P f args w R := (callsIn_wide (n := n)).2 h
theorem ops_sound (hz : ZeroOk Ψ P) (hn : ∀ (f : Nat) (fn : Func), P.funcs[f]? = some fn → (fn.name == "runtime.NumGoroutine") = false) {call : Next → St → Option Er} (hc : ∀ n σ r, call n σ = some r → NextSound Ψ P n σ r) (ops : Array Oper) {x : Ex} {A' : Fr} {σ' : St} {ro ro' : Option Nat} (hro : RoR ρ0 ro ro') :
    ∀ (l : List Oper) (i : Nat) (A : Fr) (σ : St), ops.toList.drop i = l → evOps P call ro ops.toList l A σ = some (x, A', σ') → ∀ (ρ : Ren Ψ) (a : Act) (w : World), FrR ρ A a → Rel ρ σ w → Since ρ0 σ0 w0 ρ σ w →
      wpOpsIn (wideR ro') 0 P ops (PostR ρ0 σ0 w0 x A' σ') (List.range' i l.length) a w := by
  intro l
  induction l with
  | nil =>
    intro i A σ hl h ρ a w hf hr hs
    cases Option.some.inj h
    exact ⟨ρ, .normal, hf, hr, hs⟩
  | cons o l ih =>
    intro i A σ hl h ρ a w hf hr hs
    have hio : ops[i]? = some o := by
      have : (ops.toList.drop i)[0]? = some o := by rw [hl]; rfl
      rw [List.getElem?_drop] at this
      simpa using this
    have hl2 : ops.toList.drop (i + 1) = l := by
      rw [← List.tail_drop, hl]; rfl
    show wpOpsIn (wideR ro') 0 P ops _ (i :: List.range' (i + 1) l.length) a w
    simp only [wpOpsIn, hio]
    rw [hf.wanted ops o]
    unfold evOps at h
    cases hw : wantedE ops.toList o A with
    | false =>
      rw [hw] at h
      rw [if_neg (by simp)]
      exact ⟨fun _ _ => trivial, ih (i + 1) _ _ hl2 h ρ _ w (hf.put _ (undef_VR ρ)) hr hs⟩
    | true =>
      rw [hw] at h
      rw [if_pos rfl]
      refine ⟨fun _ _ => trivial, ?_⟩
      cases ho : evOp P A.eval σ o with
      | none => rw [ho] at h; cases h
      | some r =>
        rw [ho] at h
        have hsem : Oper.semAt (wideR ro').round a.eval o = execOp a.eval o := semAt_ev hro _ fun hne c hop => by
          obtain ⟨d, rfl⟩ := evOp_defer hop ho
          cases ro with
          | none => exact hne rfl
          | some _ => cases h
        rw [hsem]
        have hout := op_sound hz hn hr (fun x _ hx => hf.eval hr hx) ho
        generalize (execOp a.eval o).run P w = real at hout
        cases r with
        | panic v σ1 =>
          obtain ⟨ρ1, v', w1, hle, rfl, hr1, hk1, hv⟩ := hout
          cases Option.some.inj h
          exact ⟨ρ1, .panic hv, hf.mono hle, hr1, hs.trans ⟨hle, hk1⟩⟩
        | ok n σ1 =>
          obtain ⟨ρ1, n', w1, hle, rfl, hr1, hk1, hn1⟩ := hout
          have hs1 := hs.trans ⟨hle, hk1⟩
          have after : ∀ (er : Er) (e : Ending) (w2 : World), (match (some er : Option Er) with
              | some (.ret v σ) => evOps P call ro ops.toList l (A.put o.dst v) σ
              | some (.panic v σ) => some (.panic v, A, σ)
              | none => none) = some (x, A', σ') → EndR ρ1 σ1 w1 er e w2 → (match e with
              | .returned v => wpOpsIn (wideR ro') 0 P ops (PostR ρ0 σ0 w0 x A' σ') (List.range' (i + 1) l.length) (a.put o.dst v) w2
              | .panicked chain => PostR ρ0 σ0 w0 x A' σ' (.panic chain) a w2
              | .outgrown => LetsOut (PostR ρ0 σ0 w0 x A' σ')) := by
            intro er e w2 h he
            cases er with
            | ret v σ2 =>
              obtain ⟨ρ2, v', rfl, hv, hr2, hs2⟩ := he
              exact ih (i + 1) _ _ hl2 h ρ2 _ w2 (((hf.mono hle).mono hs2.le).put _ hv) hr2 (hs1.trans hs2)
            | panic v σ2 =>
              obtain ⟨ρ2, v', rfl, hv, hr2, hs2⟩ := he
              cases Option.some.inj h
              exact ⟨ρ2, .panic hv, (hf.mono hle).mono hs2.le, hr2, hs1.trans hs2⟩
          cases hn1 with
          | value hv => exact ih (i + 1) _ _ hl2 h ρ1 _ w1 ((hf.mono hle).put _ hv) hr1 hs1
          | skip => exact ih (i + 1) _ _ hl2 h ρ1 _ w1 ((hf.mono hle).put _ (undef_VR ρ1)) hr1 hs1
          | @defer d d' hd =>
            cases ro with
            | some _ => cases h
            | none =>
            have hf1 := hf.mono hle
            refine ih (i + 1) _ _ hl2 h ρ1 _ w1 (FrR.put (A := { A with defers := d :: A.defers }) (a := { a with defers := d' :: a.defers }) ⟨hf1.n, hf1.tmp, by simp [hf1.dl], fun j q q' h1 h2 => ?_⟩ _ (undef_VR ρ1)) hr1 hs1
            cases j with
            | zero => simp at h1 h2; rw [← h1, ← h2]; exact hd
            | succ j => exact hf1.defers j q q' (by simpa using h1) (by simpa using h2)
          | recover => cases h
          | @enter g args args' ha =>
            simp only at h
            cases hcl : call (.enter g args) σ1 with
            | none => rw [hcl] at h; cases h
            | some er =>
              rw [hcl] at h
              exact ⟨fun q => by (cases q), (calls_at (hc _ σ1 er hcl ρ1 (.enter g args') w1 (.enter g ha) hr1) ro' _).mono fun e w2 he => by have h9 := after er e w2 h he; cases e <;> exact h9⟩
          | @round k k' g g' t t' c1 c2 q1 q2 =>
            simp only at h
            cases hcl : call (.round k g t c1 c2) σ1 with
            | none => rw [hcl] at h; cases h
            | some er =>
              rw [hcl] at h
              exact ⟨fun q => by (cases q), (RoundIn.at (hc _ σ1 er hcl ρ1 (.round k' g' t' c1 c2) w1 (.round g g' c1 c2 q1 q2) hr1) ro' _).mono fun e w2 he => by have h9 := after er e w2 h he; cases e <;> exact h9⟩
theorem least_ex {p : Nat → Prop} (h : ∃ m, p m) : ∃ m, p m ∧ ∀ k, p k → m ≤ k := by
  obtain ⟨m, hm⟩ := h
  induction m using Nat.strongRecOn with
  | _ m ih =>
    by_cases h : ∃ k, k < m ∧ p k
    · obtain ⟨k, h1, h2⟩ := h; exact ih k h1 h2
    · exact ⟨m, hm, fun k hk => Nat.le_of_not_lt fun hl => h ⟨k, hl, hk⟩⟩
def DrawSound (Ψ : SymEnv) (P : Program) (draw : List Oper → Fr → St → Option (Ex × Fr × St)) : Prop :=
  ∀ (id : Nat) (ops : Array Oper) (A : Fr) (σ : St) (x : Ex) (A' : Fr) (σ' : St), draw ops.toList A σ = some (x, A', σ') → ∀ (ρ0 : Ren Ψ) (σ0 : St) (w0 : World) (ρ : Ren Ψ) (a : Act) (w : World), FrR ρ A a → Rel ρ σ w → Since ρ0 σ0 w0 ρ σ w →
    ∀ ro : Option Nat, (Code.region id ops true).wpIn (wideR ro) 0 P (PostR ρ0 σ0 w0 x A' σ') a w
theorem frArr_VRs {ρ : Ren Ψ} {A : Fr} {a : Act} (h : FrR ρ A a) : VRs ρ (frArr A) a.tmps := by
  refine ⟨by simp [frArr, h.n], fun i v v' h1 h2 => ?_⟩
  have hi : i < A.n := by rw [h.n]; exact (Array.getElem?_eq_some_iff.1 h2).1
  have e1 : v = A.tmp i := by
    simp only [frArr, List.getElem?_toArray, List.getElem?_map] at h1
    rw [List.getElem?_range hi] at h1
    exact (Option.some.inj h1).symm
  have e2 : a.tmps.getD i undef = v' := by rw [Array.getD_eq_getD_getElem?, h2]; rfl
  rw [e1, ← e2]; exact h.tmp i
theorem jumpX_R {c : Code} {x : Ex} (h : jumpX c = some x) : (c = .ret ∧ x = .ret) ∨ ∃ id, c = .exit id ∧ x = .exit id := by
  unfold jumpX at h
  split at h
  · exact .inl ⟨rfl, (Option.some.inj h).symm⟩
  · exact .inr ⟨_, rfl, (Option.some.inj h).symm⟩
  · cases h
theorem code_sound (hz : ZeroOk Ψ P) (hn : ∀ (f : Nat) (fn : Func), P.funcs[f]? = some fn → (fn.name == "runtime.NumGoroutine") = false) {call : Next → St → Option Er} (hc : ∀ n σ r, call n σ = some r → NextSound Ψ P n σ r)
    {draw : List Oper → Fr → St → Option (Ex × Fr × St)} (hd : DrawSound Ψ P draw) :
    ∀ (ro ro' : Option Nat) (n : Nat) (c : Code) (A : Fr) (σ : St) (x : Ex) (A' : Fr) (σ' : St), evC P call draw ro n c A σ = some (x, A', σ') → ∀ (ρ0 : Ren Ψ) (σ0 : St) (w0 : World) (ρ : Ren Ψ) (a : Act) (w : World), RoR ρ0 ro ro' → FrR ρ A a → Rel ρ σ w → Since ρ0 σ0 w0 ρ σ w →
      c.wpIn (wideR ro') 0 P (PostR ρ0 σ0 w0 x A' σ') a w := by
  intro ro ro' n
  induction n using Nat.strongRecOn with
  | _ n ih =>
  intro c A σ x A' σ' h ρ0 σ0 w0 ρ a w hro hf hr hs
  cases n with
  | zero => cases h
  | succ f =>
  unfold evC at h
  cases c with
  | skip => cases Option.some.inj h; exact wpIn_skip ⟨ρ, .normal, hf, hr, hs⟩
  | exit id => cases Option.some.inj h; exact wpIn_exit ⟨ρ, .exit id, hf, hr, hs⟩
  | ret => cases Option.some.inj h; exact wpIn_ret ⟨ρ, .ret, hf, hr, hs⟩
  | seq c1 c2 =>
    simp only at h
    cases h1 : evC P call draw ro f c1 A σ with
    | none => rw [h1] at h; cases h
    | some r =>
      obtain ⟨x1, A1, σ1⟩ := r
      rw [h1] at h
      refine wpIn_seq (wpIn_mono (ih f (Nat.lt_succ_self f) c1 A σ x1 A1 σ1 h1 ρ0 σ0 w0 ρ a w hro hf hr hs) ?_)
      rintro e a1 w1 ⟨ρ1, he, hf1, hr1, hs1⟩
      cases he with
      | normal => exact ih f (Nat.lt_succ_self f) c2 A1 σ1 x A' σ' h ρ0 σ0 w0 ρ1 a1 w1 hro hf1 hr1 hs1
      | exit id => cases Option.some.inj h; exact ⟨ρ1, .exit id, hf1, hr1, hs1⟩
      | ret => cases Option.some.inj h; exact ⟨ρ1, .ret, hf1, hr1, hs1⟩
      | panic hv => cases Option.some.inj h; exact ⟨ρ1, .panic hv, hf1, hr1, hs1⟩
  | cond c x1 y1 =>
    simp only at h
    have hev : ∀ t : Bool, A.eval c = .bool t → a.eval c = .bool t := by
      intro t ht
      cases c with
      | tmp s =>
        have hv := hf.tmp s
        have ht : A.tmp s = .bool t := ht
        rw [ht] at hv
        show a.tmps.getD s undef = .bool t
        generalize a.tmps.getD s undef = u at hv
        cases hv
        rfl
      | const v => exact ht
      | global g => cases ht
      | func g => cases ht
    cases hA : A.eval c with
    | bool t =>
      rw [hA] at h
      cases t with
      | true => exact wpIn_cond_true (hev _ hA) (ih f (Nat.lt_succ_self f) x1 A σ x A' σ' h ρ0 σ0 w0 ρ a w hro hf hr hs)
      | false => exact wpIn_cond_false (hev _ hA) (ih f (Nat.lt_succ_self f) y1 A σ x A' σ' h ρ0 σ0 w0 ρ a w hro hf hr hs)
    | _ => rw [hA] at h; cases h
  | block id b =>
    simp only at h
    cases h1 : evC P call draw ro f b A σ with
    | none => rw [h1] at h; cases h
    | some r =>
      obtain ⟨x1, A1, σ1⟩ := r
      rw [h1] at h
      refine wpIn_block (wpIn_mono (ih f (Nat.lt_succ_self f) b A σ x1 A1 σ1 h1 ρ0 σ0 w0 ρ a w hro hf hr hs) ?_)
      rintro e a1 w1 ⟨ρ1, he, hf1, hr1, hs1⟩
      cases he with
      | normal => cases Option.some.inj h; exact ⟨ρ1, .normal, hf1, hr1, hs1⟩
      | ret => cases Option.some.inj h; exact ⟨ρ1, .ret, hf1, hr1, hs1⟩
      | panic hv => cases Option.some.inj h; exact ⟨ρ1, .panic hv, hf1, hr1, hs1⟩
      | exit id' =>
        simp only at h
        show if id' = id then _ else _
        cases hb : Nat.beq id' id with
        | true =>
          rw [hb] at h
          cases Option.some.inj h
          rw [if_pos (Nat.eq_of_beq_eq_true hb)]
          exact ⟨ρ1, .normal, hf1, hr1, hs1⟩
        | false =>
          rw [hb] at h
          cases Option.some.inj h
          rw [if_neg (Nat.ne_of_beq_eq_false hb)]
          exact ⟨ρ1, .exit id', hf1, hr1, hs1⟩
  | loop b =>
    let R : Nat → Act → World → Prop := fun m a w => ∃ A σ ρ, evC P call draw ro m (.loop b) A σ = some (x, A', σ') ∧ FrR ρ A a ∧ Rel ρ σ w ∧ Since ρ0 σ0 w0 ρ σ w ∧ m ≤ f + 1
    have hR : R (f + 1) a w := ⟨A, σ, ρ, by unfold evC; exact h, hf, hr, hs, Nat.le_refl _⟩
    have hmin : ∀ a w, (∃ m, R m a w) → R (Classical.epsilon fun m => R m a w ∧ ∀ k, R k a w → m ≤ k) a w ∧ ∀ k, R k a w → (Classical.epsilon fun m => R m a w ∧ ∀ k, R k a w → m ≤ k) ≤ k := fun a w hex => Classical.epsilon_spec (p := fun m => R m a w ∧ ∀ k, R k a w → m ≤ k) (least_ex hex)
    refine wpIn_loop (fun a w => ∃ m, R m a w) (fun a w => Classical.epsilon fun m => R m a w ∧ ∀ k, R k a w → m ≤ k) ⟨_, hR⟩ ?_
    intro a w hex
    obtain ⟨hm, hle⟩ := hmin a w hex
    generalize (Classical.epsilon fun m => R m a w ∧ ∀ k, R k a w → m ≤ k) = m at hm hle ⊢
    obtain ⟨A, σ, ρ, h, hf, hr, hs, hmf⟩ := hm
    cases m with
    | zero => cases h
    | succ m =>
    unfold evC at h
    simp only at h
    cases h1 : evC P call draw ro m b A σ with
    | none => rw [h1] at h; cases h
    | some r =>
      obtain ⟨x1, A1, σ1⟩ := r
      rw [h1] at h
      refine wpIn_mono (ih m (by omega) b A σ x1 A1 σ1 h1 ρ0 σ0 w0 ρ a w hro hf hr hs) ?_
      rintro e a1 w1 ⟨ρ1, he, hf1, hr1, hs1⟩
      cases he with
      | normal =>
        have hR1 : R m a1 w1 := ⟨A1, σ1, ρ1, h, hf1, hr1, hs1, by omega⟩
        exact ⟨⟨m, hR1⟩, Nat.lt_succ_of_le ((hmin a1 w1 ⟨m, hR1⟩).2 m hR1)⟩
      | exit id => cases Option.some.inj h; exact ⟨ρ1, .exit id, hf1, hr1, hs1⟩
      | ret => cases Option.some.inj h; exact ⟨ρ1, .ret, hf1, hr1, hs1⟩
      | panic hv => cases Option.some.inj h; exact ⟨ρ1, .panic hv, hf1, hr1, hs1⟩
  | region id ops d =>
    cases d with
    | false =>
      refine wpIn_region ?_
      have := ops_sound hz hn hc ops (x := x) (A' := A') (σ' := σ') (ρ0 := ρ0) (σ0 := σ0) (w0 := w0) hro ops.toList 0 A σ (by simp) h ρ a w hf hr hs
      rw [Array.length_toList] at this
      rw [List.range_eq_range']
      exact this
    | true => exact hd id ops A σ x A' σ' h ρ0 σ0 w0 ρ a w hf hr hs ro'
  | rangeFunc g ps assign body =>
    simp only at h
    cases hok : okOperand σ.glob g with
    | false => rw [hok] at h; cases h
    | true =>
    rw [hok] at h
    simp only at h
    have hg := hf.eval hr hok
    generalize hA : A.eval g = gv at hg h
    generalize hB : a.eval g = gv' at hg
    cases hg with
    | @func fn fn' f1 f1' c c' hfn q1 q2 q3 q4 =>
      cases hfn with
      | func gf =>
        simp only at h
        cases hfu : P.funcs[gf]? with
        | none => rw [hfu] at h; cases h
        | some fu =>
        rw [hfu] at h
        simp only at h
        cases hbo : fu.body with
        | none => rw [hbo] at h; cases h
        | some cb =>
        rw [hbo] at h
        simp only at h
        refine wpIn_rangeFunc fun fid _ => ?_
        have hent := fun r he => (sim_enterLoop (P := P) (hro.mono hs.le) (frArr_VRs hf) 0 fid ps assign body).out hr (r := r) he
        generalize runA P (Instr.enterLoop 0 (frArr A) ps assign body ro) σ = q at h hent
        cases q with
        | none => cases h
        | some q =>
        cases q with
        | panic v σ1 => cases h
        | ok lm σ1 =>
        obtain ⟨l, mark⟩ := lm
        obtain ⟨ρ1, ⟨l', mark'⟩, w1, hle, hrun, hr1, hk1, hl, hmk⟩ := hent _ rfl
        simp only at h hl hmk
        have hs1 := hs.trans ⟨hle, hk1⟩
        have hf1 := hf.mono hle
        have hf2 : ∀ ρ2 : Ren Ψ, ρ1.le ρ2 → FrR ρ2 { A with defers := mark ++ A.defers } { a with defers := mark' ++ a.defers } := by
          intro ρ2 hle2
          have hf2 := hf1.mono hle2
          rcases hmk with ⟨rfl, rfl⟩ | ⟨r, r', rfl, rfl, hrr⟩
          · exact hf2
          · refine ⟨hf2.n, hf2.tmp, by simp [hf2.dl], fun j d d' h1 h2 => ?_⟩
            cases j with
            | zero => simp at h1 h2; rw [← h1, ← h2]; exact ⟨.inr (.inr (.inr ⟨r, r', rfl, rfl, hle2.φ _ _ hrr⟩)), .empty _⟩
            | succ j => exact hf2.defers j d d' (by simpa using h1) (by simpa using h2)
        have hargs : VRs ρ1 (f1 ++ #[.func (.yield l) #[] #[]] ++ c) (f1' ++ #[.func (.yield l') #[] #[]] ++ c') := by
          refine ((VRs.mk q1 q2).mono hle |>.append ?_).append ((VRs.mk q3 q4).mono hle)
          have := (VRs.empty ρ1).push (VR.func (.yield hl) rfl (VRs.empty ρ1).get rfl (VRs.empty ρ1).get)
          simpa using this
        have hcall := NoNG_run (hn := hn) hfu hbo (f1' ++ #[.func (.yield l') #[] #[]] ++ c') w1
        refine ⟨l', mark', w1, { target := .fn (.func gf) c', args := f1' ++ #[.func (.yield l') #[] #[]] }, w1, gf, f1' ++ #[.func (.yield l') #[] #[]] ++ c', w1, hrun, ?_, fun _ _ => trivial, ?_, fun q => by (cases q), ?_⟩
        · simp only [resolve, hB, Deferred.ofValue]
          simp [Act.eval]
        · simp only [invoke]; exact hcall
        · cases hcl : call (.enter gf (f1 ++ #[.func (.yield l) #[] #[]] ++ c)) σ1 with
          | none => rw [hcl] at h; cases h
          | some er =>
            rw [hcl] at h
            refine (calls_at (hc _ σ1 er hcl ρ1 (.enter gf _) w1 (.enter gf hargs) hr1) ro' _).mono fun e w2 he => ?_
            cases er with
            | panic v σ2 =>
              obtain ⟨ρ2, v', rfl, hv, hr2, hs2⟩ := he
              cases Option.some.inj h
              exact ⟨ρ2, .panic hv, hf2 ρ2 hs2.le, hr2, hs1.trans hs2⟩
            | ret v σ2 =>
              obtain ⟨ρ2, v', rfl, hv, hr2, hs2⟩ := he
              simp only at h
              have hend := fun r he => (sim_endLoop (P := P) (hs2.le.φ _ _ hl)).out hr2 (r := r) he
              generalize runA P (Instr.endLoop l) σ2 = q at h hend
              cases q with
              | none => cases h
              | some q =>
              cases q with
              | panic v σ1 => cases h
              | ok j σ3 =>
              obtain ⟨ρ3, j', w3, hle3, hrun3, hr3, hk3, rfl⟩ := hend _ rfl
              have hs3 := (hs1.trans hs2).trans ⟨hle3, hk3⟩
              refine ⟨j', w3, hrun3, ?_⟩
              cases j' with
              | none =>
                cases Option.some.inj h
                exact ⟨ρ3, .normal, hf2 ρ3 (hs2.le.trans hle3), hr3, hs3⟩
              | some cj =>
                simp only at h
                cases hx : jumpX cj with
                | none => rw [hx] at h; cases h
                | some x1 =>
                  rw [hx] at h
                  cases Option.some.inj h
                  rcases jumpX_R hx with ⟨rfl, rfl⟩ | ⟨id, rfl, rfl⟩
                  · exact wpIn_ret ⟨ρ3, .ret, hf2 ρ3 (hs2.le.trans hle3), hr3, hs3⟩
                  · exact wpIn_exit ⟨ρ3, .exit id, hf2 ρ3 (hs2.le.trans hle3), hr3, hs3⟩
      | _ => cases h
    | _ => cases h
  | _ => cases h
end
end Go.Ev
/- Closed calls by evaluation, part M: operations that leave memory alone, and operations that make one block. -/
namespace Go.Ev
variable {Ψ : SymEnv}
def QSim (P : Program) {α α' : Type} (s : Sem α) (s' : Sem α') (ρ : Ren Ψ) (Q : α → α' → Prop) : Prop :=
  ∀ (σ : St) (w : World), Rel ρ σ w → ∀ x σ', runA P s σ = some (.ok x σ') → σ' = σ ∧ ∃ x', s'.run P w = .ok x' w ∧ Q x x'
section
variable {P : Program} {α α' β β' : Type} {ρ : Ren Ψ}
theorem q_pure {x : α} {x' : α'} {Q : α → α' → Prop} (h : Q x x') : QSim P (pure x) (pure x') ρ Q := by
  intro σ w hr y σ' he
  cases Option.some.inj (show some (Rs.ok x σ) = some (Rs.ok y σ') from he)
  exact ⟨rfl, x', rfl, h⟩
theorem q_bind {s : Sem α} {s' : Sem α'} {k : α → Sem β} {k' : α' → Sem β'} {Q : α → α' → Prop} {Q2 : β → β' → Prop} (h : QSim P s s' ρ Q) (hk : ∀ x x', Q x x' → QSim P (k x) (k' x') ρ Q2) : QSim P (s >>= k) (s' >>= k') ρ Q2 := by
  intro σ w hr y σ' he
  change runA P (s.bind k) σ = _ at he
  rw [runA_bind] at he
  cases hs : runA P s σ with
  | none => rw [hs] at he; cases he
  | some r =>
    rw [hs] at he
    cases r with
    | panic v τ => cases he
    | ok x τ =>
      obtain ⟨rfl, x', h1, h2⟩ := h σ w hr x τ hs
      obtain ⟨rfl, y', h3, h4⟩ := hk x x' h2 τ w hr y σ' he
      exact ⟨rfl, y', by rw [Sem.run_bind, h1]; exact h3, h4⟩
theorem q_none {s : Sem α} {s' : Sem α'} {Q : α → α' → Prop} (h : ∀ σ x σ', runA P s σ ≠ some (.ok x σ')) : QSim P s s' ρ Q := fun σ _ _ x σ' he => absurd he (h σ x σ')
theorem q_stuck {why : String} {s' : Sem α'} {Q : α → α' → Prop} : QSim P (stuck why : Sem α) s' ρ Q := q_none fun _ _ _ h => by cases h
theorem q_unsupported {u : Unsupported} {s' : Sem α'} {Q : α → α' → Prop} : QSim P (unsupported u : Sem α) s' ρ Q := q_none fun _ _ _ h => by cases h
theorem q_typeInfo {t : TypeId} : QSim P (typeInfo t) (typeInfo t) ρ fun x x' => x' = x ∧ P.info? t = some x := by
  intro σ w hr x σ' he
  change runA P (match P.info? t with | some i => (pure i : Sem TypeInfo) | none => stuck "no such type") σ = _ at he
  cases hi : P.info? t with
  | none => rw [hi] at he; cases he
  | some i =>
    rw [hi] at he
    cases Option.some.inj he
    exact ⟨rfl, x, by simp [typeInfo, hi], rfl, rfl⟩
theorem q_underlying {t : TypeId} : QSim P (underlying t) (underlying t) ρ fun x x' => x' = x ∧ P.underlying t = some x := by
  intro σ w hr x σ' he
  change runA P (match P.underlying t with | some i => (pure i : Sem TypeDesc) | none => stuck "no such type") σ = _ at he
  cases hi : P.underlying t with
  | none => rw [hi] at he; cases he
  | some i =>
    rw [hi] at he
    cases Option.some.inj he
    exact ⟨rfl, x, run_underlying hi w, rfl, rfl⟩
theorem q_sizeOf {t : TypeId} : QSim P (sizeOf t) (sizeOf t) ρ fun x x' => x' = x := q_bind q_typeInfo fun x x' h => by rw [h.1]; exact q_pure rfl
theorem q_isAgg {t : TypeId} : QSim P (isAgg t) (isAgg t) ρ fun x x' => x' = x := q_bind q_underlying fun x x' h => by rw [h.1]; split <;> exact q_pure rfl
theorem q_if {c : Bool} {s t : Sem α} {s' t' : Sem α'} {Q : α → α' → Prop} (h1 : c = true → QSim P s s' ρ Q) (h2 : c = false → QSim P t t' ρ Q) : QSim P (if c = true then s else t) (if c = true then s' else t') ρ Q := by
  cases c
  · simpa using h2 rfl
  · simpa using h1 rfl
theorem q_ite {c : Prop} [Decidable c] {s t : Sem α} {s' t' : Sem α'} {Q : α → α' → Prop} (h1 : c → QSim P s s' ρ Q) (h2 : ¬ c → QSim P t t' ρ Q) : QSim P (if c then s else t) (if c then s' else t') ρ Q := by
  by_cases h : c
  · rw [if_pos h, if_pos h]; exact h1 h
  · rw [if_neg h, if_neg h]; exact h2 h
theorem q_zeroValue (hz : ZeroOk Ψ P) {t : TypeId} : QSim P (zeroValue t) (zeroValue t) ρ (VR ρ) := q_bind q_typeInfo fun i i' h => by
  obtain ⟨rfl, hi⟩ := h
  split
  · rename_i v hv; exact q_pure (hz.2 _ _ _ hi hv ρ)
  · exact q_unsupported
theorem q_load {a a' : Addr} (h : AdR ρ a a') : QSim P (load a) (load a') ρ (VR ρ) := by
  intro σ w hr x σ' he
  obtain ⟨v, v', h1, h2, h3⟩ := load_run h hr he
  cases h1
  exact ⟨rfl, v', h2, h3⟩
theorem q_loadCells {a a' : Addr} (n : Nat) (h : AdR ρ a a') : QSim P (loadCells a n) (loadCells a' n) ρ (VRs ρ) := by
  intro σ w hr x σ' he
  obtain ⟨cs, cs', h1, h2, h3, -⟩ := loads_run h hr n 0 #[] #[] _ (.empty ρ) he
  cases h1
  exact ⟨rfl, cs', h2, h3⟩
theorem q_loadVar {t : TypeId} {a a' : Addr} (h : AdR ρ a a') : QSim P (loadVar t a) (loadVar t a') ρ (VR ρ) :=
  q_bind q_isAgg fun x x' hx => by
    subst hx
    refine q_if (fun _ => ?_) fun _ => q_load h
    exact q_bind q_sizeOf fun n n' hn => by
      subst hn
      exact q_bind (q_loadCells _ h) fun cs cs' hc => q_pure hc.agg
theorem q_sureAddr {v v' : Value} (h : VR ρ v v') : QSim P (Instr.sureAddr v) (Instr.sureAddr v') ρ (AdR ρ) := by
  cases h with
  | ptr h1 => exact q_pure ⟨rfl, rfl, rfl, h1⟩
  | _ => exact q_stuck
theorem q_loadAt {t : TypeId} {v v' : Value} (h : VR ρ v v') : QSim P (Instr.loadAt t v) (Instr.loadAt t v') ρ (VR ρ) := q_bind (q_sureAddr h) fun _ _ ha => q_loadVar ha
theorem q_part {t : TypeId} {cs cs' : Array Value} (off : Nat) (h : VRs ρ cs cs') : QSim P (part t cs off) (part t cs' off) ρ (VR ρ) :=
  q_bind q_isAgg fun x x' hx => by
    subst hx
    refine q_if (fun _ => ?_) fun _ => ?_
    · exact q_bind q_sizeOf fun n n' hn => by subst hn; exact q_pure (h.extract _ _).agg
    · cases hc : cs[off]? with
      | none => exact q_stuck
      | some v => obtain ⟨v', h1, h2⟩ := h.to hc; rw [h1]; exact q_pure h2
theorem q_asIntOf {v v' : Value} (h : VR ρ v v') : QSim P (asIntOf v) (asIntOf v') ρ fun x x' => x' = x := by
  cases h <;> first | exact q_pure rfl | exact q_unsupported | exact q_stuck
theorem q_asAgg {v v' : Value} (h : VR ρ v v') : QSim P (asAgg v) (asAgg v') ρ (VRs ρ) := by
  cases h <;> first | exact q_pure ⟨by assumption, by assumption⟩ | exact q_stuck
theorem q_makeInterface {t : TypeId} {v v' : Value} (h : VR ρ v v') : QSim P (Instr.makeInterface t v) (Instr.makeInterface t v') ρ (VR ρ) := by
  refine q_bind q_underlying fun d d' hd => ?_
  obtain ⟨rfl, -⟩ := hd
  split
  · exact q_stuck
  · exact q_pure (.iface h)
theorem q_field {t : TypeId} {v v' : Value} {f : Nat} (h : VR ρ v v') : QSim P (Instr.field t v f) (Instr.field t v' f) ρ (VR ρ) := by
  refine q_bind q_underlying fun d d' hd => ?_
  obtain ⟨rfl, -⟩ := hd
  split
  · split
    · exact q_bind (q_asAgg h) fun _ _ hc => q_part _ hc
    · exact q_stuck
  · exact q_stuck
theorem q_bounds {α : Type} {k : IntKind} {x y : Int} {c : BoundsCode} {s' : Sem α} {Q : α → α → Prop} : QSim P (boundsPanic k x y c : Sem α) s' ρ Q := by
  refine q_none fun σ z σ' he => ?_
  unfold boundsPanic at he
  dsimp only at he
  have key : ∀ (s : Bool) (τ : St) (x1 : α), runA P (runtimePanic (.bounds (IntKind.i64.wrap x) y s c) : Sem α) τ ≠ some (.ok x1 σ') := fun s τ x1 h => by cases h
  split at he
  · rw [map_eq_pure_bind] at he
    change runA P (((choose _).bind _).bind _) σ = _ at he
    rw [runA_bind, runA_bind] at he
    cases hq : runA P (choose (Question.extern "runtime.boundsError.signed" 2)) σ with
    | none => rw [hq] at he; cases he
    | some r => cases hq
  · exact key _ _ _ he
theorem q_indexAt {t : TypeId} {v v' i i' : Value} (h : VR ρ v v') (hi : VR ρ i i') : QSim P (Instr.indexAt t v i) (Instr.indexAt t v' i') ρ (VR ρ) := by
  unfold Instr.indexAt
  refine q_bind (q_asIntOf hi) fun x x' e => ?_
  subst e
  obtain ⟨k, i⟩ := x'
  dsimp only
  refine q_bind q_underlying fun d d' hd => ?_
  obtain ⟨rfl, hdd⟩ := hd
  cases d' with
  | array len elem =>
    refine q_bind (q_sureAddr h) fun a a' ha => ?_
    refine q_bind (Q := fun x x' => ∃ a a', x = (some a, len, elem) ∧ x' = (some a', len, elem) ∧ AdR ρ a a') (q_pure ⟨_, _, rfl, rfl, ha⟩) fun x x' hx => ?_
    obtain ⟨a, a', rfl, rfl, ha⟩ := hx
    refine q_bind q_underlying fun d d' hd => ?_
    obtain ⟨rfl, -⟩ := hd
    dsimp only
    refine q_ite (fun _ => ?_) fun _ => q_if (fun _ => q_unsupported) fun _ => q_bounds
    exact q_bind q_sizeOf fun n n' e => by subst e; exact q_pure (ha.add _).ptr
  | slice elem =>
    cases h with
    | nilSlice n c =>
      refine q_bind (Q := fun x x' => x = (none, n, elem) ∧ x' = (none, n, elem)) (q_pure ⟨rfl, rfl⟩) fun x x' hx => ?_
      obtain ⟨rfl, rfl⟩ := hx
      refine q_bind q_underlying fun d d' hd => ?_
      exact q_bounds
    | empty a c' =>
      refine q_bind (Q := fun x x' => x = (none, 0, elem) ∧ x' = (a, 0, elem)) (q_pure ⟨rfl, rfl⟩) fun x x' hx => ?_
      obtain ⟨rfl, rfl⟩ := hx
      refine q_bind q_underlying fun d d' hd2 => ?_
      obtain ⟨rfl, hd2⟩ := hd2
      obtain rfl := Option.some.inj (hd2.symm.trans hdd)
      cases a with
      | none => exact q_bounds
      | some a =>
        dsimp only
        rw [if_neg (show ¬ (0 ≤ i ∧ i < ((0 : Nat) : Int)) by omega), if_neg (by simp)]
        exact q_bounds
    | @slice b k o n c c' h1 h2 =>
      have ha : AdR ρ ⟨b, o, none⟩ ⟨k, o, none⟩ := ⟨rfl, rfl, rfl, h1⟩
      refine q_bind (Q := fun x x' => ∃ a a', x = (some a, n, elem) ∧ x' = (some a', n, elem) ∧ AdR ρ a a') (q_pure ⟨_, _, rfl, rfl, ha⟩) fun x x' hx => ?_
      obtain ⟨a, a', rfl, rfl, ha⟩ := hx
      refine q_bind q_underlying fun d d' hd => ?_
      obtain ⟨rfl, -⟩ := hd
      dsimp only
      refine q_ite (fun _ => ?_) fun _ => q_if (fun _ => q_unsupported) fun _ => q_bounds
      exact q_bind q_sizeOf fun n n' e => by subst e; exact q_pure (ha.add _).ptr
    | _ => exact q_none fun _ _ _ h => by cases h
  | _ => exact q_none fun _ _ _ h => by cases h
theorem q_mapM {β γ : Type} {f g : β → Sem γ} (h : ∀ (x : β), QSim P (f x) (g x) ρ fun a b => b = a) : ∀ (l : List β), QSim P (l.mapM f) (l.mapM g) ρ fun a b => b = a := by
  intro l
  induction l with
  | nil => rw [List.mapM_nil, List.mapM_nil]; exact q_pure rfl
  | cons x l ih =>
    rw [List.mapM_cons, List.mapM_cons]
    exact q_bind (h x) fun a b hab => q_bind ih fun avs bs habs => by rw [hab, habs]; exact q_pure rfl
theorem q_build (hz : ZeroOk Ψ P) {t : TypeId} {p p' : Array (Nat × Value)} (hp : PR ρ p.toList p'.toList) : QSim P (Instr.build t p) (Instr.build t p') ρ (VR ρ) := by
  unfold Instr.build
  refine q_bind (q_zeroValue hz) fun z z' hzz => ?_
  have hc := hzz.cells
  refine q_bind q_underlying fun d d' hd => ?_
  obtain ⟨rfl, -⟩ := hd
  split
  · rename_i fields
    refine q_bind (Q := fun a b => b = a) ?_ fun pl pl' e => ?_
    · rw [Array.mapM_eq_mapM_toList]
      exact q_bind (q_mapM (fun f => q_bind q_sizeOf fun _ _ e => by rw [e]; exact q_pure rfl) _) fun a b hab => by rw [hab]; exact q_pure rfl
    subst e
    rcases fillR _ _ _ _ hc hp with ⟨h1, -⟩ | ⟨x, x', h1, h2, h3⟩
    · rw [h1]; exact q_stuck
    · rw [h1, h2]; exact q_pure h3.agg
  · rename_i elem
    refine q_bind q_sizeOf fun n n' e => ?_
    subst e
    rcases fillR _ _ _ _ hc hp with ⟨h1, -⟩ | ⟨x, x', h1, h2, h3⟩
    · rw [h1]; exact q_stuck
    · rw [h1, h2]; exact q_pure h3.agg
  · exact q_stuck
theorem q_forIn {α : Type} {ρ : Ren Ψ} {f : Value → α → Sem (ForInStep α)} (hf : ∀ (v v' : Value) (a : α), VR ρ v v' → QSim P (f v a) (f v' a) ρ fun x x' => x' = x) :
    ∀ (l l' : List Value) (a : α), l.length = l'.length → (∀ (i : Nat) (v v' : Value), l[i]? = some v → l'[i]? = some v' → VR ρ v v') → QSim P (forIn l a f) (forIn l' a f) ρ fun x x' => x' = x := by
  intro l
  induction l with
  | nil =>
    intro l' a hl h
    cases l' with
    | nil => exact q_pure rfl
    | cons v l' => simp at hl
  | cons v l ih =>
    intro l' a hl h
    cases l' with
    | nil => simp at hl
    | cons v' l' =>
    rw [List.forIn_cons, List.forIn_cons]
    refine q_bind (hf v v' a (h 0 v v' rfl rfl)) fun x x' hx => ?_
    subst hx
    cases x' with
    | done b => exact q_pure rfl
    | yield b => exact ih l' b (by simpa using hl) fun i u u' h1 h2 => h (i + 1) u u' (by simpa using h1) (by simpa using h2)
theorem q_bytesToString {ρ : Ren Ψ} {b : Option Addr} {n c : Nat} {x' : Value} (h : VR ρ (.slice b n c) x') : QSim P (Conv.bytesToString (.slice b n c)) (Conv.bytesToString x') ρ (VR ρ) := by
  cases h with
  | nilSlice n c => exact q_pure (.string _)
  | empty a c' => cases a <;> exact q_pure (.string _)
  | @slice b k o n c c' h hc =>
    unfold Conv.bytesToString
    refine q_bind (q_loadCells n ⟨rfl, rfl, rfl, h⟩) fun cs cs' hcs => ?_
    rw [← Array.forIn_toList, ← Array.forIn_toList]
    refine q_bind (Q := fun x x' => x' = x) (q_forIn ?_ cs.toList cs'.toList _ (by simpa using hcs.size) ?_) fun s s' hs => by subst hs; exact q_pure (.string _)
    · intro v v' a hv
      cases hv with
      | int k m => cases k <;> first | exact q_pure rfl | exact q_stuck
      | _ => exact q_stuck
    · intro i v v' h1 h2
      exact hcs.get i v v' (by simpa using h1) (by simpa using h2)
theorem q_convert {ρ : Ren Ψ} {s t e : TypeId} {b : Option Addr} {n c : Nat} {x' : Value} (h : VR ρ (.slice b n c) x') (hs : P.underlying s = some (.slice e)) (ht : P.underlying t = some .string) (he : P.underlying e = some (.int .u8)) :
    QSim P (convert s t (.slice b n c)) (convert s t x') ρ (VR ρ) := by
  obtain ⟨b', c', rfl⟩ : ∃ b' c', x' = .slice b' n c' := by cases h <;> exact ⟨_, _, rfl⟩
  unfold convert
  refine q_bind q_underlying fun d d' h1 => ?_
  obtain ⟨rfl, h1⟩ := h1
  rw [hs] at h1; cases h1
  refine q_bind q_underlying fun d d' h1 => ?_
  obtain ⟨rfl, h1⟩ := h1
  rw [ht] at h1; cases h1
  refine q_bind q_underlying fun d d' h1 => ?_
  obtain ⟨rfl, h1⟩ := h1
  rw [he] at h1; cases h1
  exact q_bytesToString h
end
end Go.Ev
