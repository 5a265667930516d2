import Derived.IntWalk
import Derived.Laws.MakeOwn
import Derived.Test.YtgnclgbmfmibiaaGreatDoorP05
/- Closed calls by evaluation, part Im: maps whose keys hold no address. -/
namespace Go.Ev
inductive ERs (ρ : Ren) : List MapEntry → List MapEntry → Prop where
  | nil : ERs ρ [] []
  | cons {e e' : MapEntry} {l l' : List MapEntry} (hb : e'.born = e.born) (hk : e'.key = e.key) (hv : VR ρ e.val e'.val) (h : ERs ρ l l') : ERs ρ (e :: l) (e' :: l')
def keysOk (es : Array MapEntry) : Bool := es.toList.all fun e => plainV 4 e.key
def FindR (ρ : Ren) (r r' : Option (Nat × Value)) : Prop := (r = none ∧ r' = none) ∨ ∃ i v v', r = some (i, v) ∧ r' = some (i, v') ∧ VR ρ v v'
section
variable {P : Program} {ρ : Ren}
theorem ERs.of : ∀ (l l' : List MapEntry), l.length = l'.length → (∀ (i : Nat) (e e' : MapEntry), l[i]? = some e → l'[i]? = some e' → e'.born = e.born ∧ VR ρ e.key e'.key ∧ VR ρ e.val e'.val) → l.all (fun e => plainV 4 e.key) = true → ERs ρ l l' := by
  intro l
  induction l with
  | nil => intro l' hl _ _; cases l' with
    | nil => exact .nil
    | cons x l' => simp at hl
  | cons e l ih => intro l' hl h hk; cases l' with
    | nil => simp at hl
    | cons e' l' =>
      simp only [List.all_cons, Bool.and_eq_true] at hk
      obtain ⟨h1, h2, h3⟩ := h 0 e e' rfl rfl
      exact .cons h1 (plain_eq 4 _ _ hk.1 h2) h3 (ih l' (by simpa using hl) (fun i x x' q1 q2 => h (i + 1) x x' (by simpa using q1) (by simpa using q2)) hk.2)
theorem findNow_R {kind : TypeDesc} {k : Value} {l l' : List MapEntry} (h : ERs ρ l l') : ∀ i, (Instr.findNow kind k l i = none ∧ Instr.findNow kind k l' i = none) ∨ ∃ r r', Instr.findNow kind k l i = some r ∧ Instr.findNow kind k l' i = some r' ∧ FindR ρ r r' := by
  induction h with
  | nil => intro i; exact .inr ⟨none, none, rfl, rfl, .inl ⟨rfl, rfl⟩⟩
  | @cons e e' l l' hb hk hv h ih =>
    intro i
    unfold Instr.findNow
    rw [hk]
    cases Instr.sameNow kind k e.key with
    | none => exact .inl ⟨rfl, rfl⟩
    | some b =>
      cases b with
      | true => exact .inr ⟨_, _, rfl, rfl, .inr ⟨i, _, _, rfl, rfl, hv⟩⟩
      | false => exact ih (i + 1)
theorem findAsking_R {kt : TypeId} {k : Value} {l l' : List MapEntry} (h : ERs ρ l l') : ∀ (i : Nat) (r : Option (Nat × Value)), pureQ P (Instr.findAsking kt k l i) = some r → ∃ r', pureQ P (Instr.findAsking kt k l' i) = some r' ∧ FindR ρ r r' := by
  induction h with
  | nil => intro i r hr; cases Option.some.inj (show some none = some r from hr); exact ⟨none, rfl, .inl ⟨rfl, rfl⟩⟩
  | @cons e e' l l' hb hk hv h ih =>
    intro i r hr
    unfold Instr.findAsking at hr ⊢
    rw [pureQ_bind] at hr ⊢
    rw [hk]
    cases hq : pureQ P (Op.equal kt k e.key) with
    | none => rw [hq] at hr; cases hr
    | some b =>
      rw [hq] at hr
      simp only [Option.bind_some] at hr ⊢
      cases b with
      | true =>
        cases Option.some.inj (show some (some (i, e.val)) = some r from hr)
        exact ⟨_, rfl, .inr ⟨i, _, _, rfl, rfl, hv⟩⟩
      | false => exact ih (i + 1) r hr
theorem findKey_R {kt : TypeId} {k : Value} {l l' : List MapEntry} (h : ERs ρ l l') {r : Option (Nat × Value)} (hr : pureQ P (Instr.findKey kt k l) = some r) : ∃ r', pureQ P (Instr.findKey kt k l') = some r' ∧ FindR ρ r r' := by
  unfold Instr.findKey at hr ⊢
  rw [pureQ_bind, pureQ_underlying] at hr ⊢
  cases ht : P.underlying kt with
  | none => rw [ht] at hr; cases hr
  | some d =>
  rw [ht] at hr
  simp only [Option.bind_some] at hr ⊢
  rcases findNow_R (kind := d) (k := k) h 0 with ⟨h1, h2⟩ | ⟨q, q', h1, h2, h3⟩
  · rw [h1] at hr; rw [h2]
    exact findAsking_R h 0 r hr
  · rw [h1] at hr; rw [h2]
    cases Option.some.inj (show some q = some r from hr)
    exact ⟨q', rfl, h3⟩
end
/-- the map and its entries -/
def mapOf (σ : St) : Value → Option (Array MapEntry × Nat)
  | .map (some r) => match σ.heap.get r with
    | some (.obj (.map es c)) => some (es, c)
    | _ => none
  | _ => none
def esOf (σ : St) : Value → Option (Array MapEntry)
  | .map none => some #[]
  | x => match mapOf σ x with
    | some (es, _) => some es
    | none => none
def evLookup (P : Program) (σ : St) (xt : TypeId) (x k : Value) (ok : Bool) : Option Value :=
  match P.underlying xt with
  | some (.map kt et) =>
    match esOf σ x with
    | some es => match plainV 4 k && keysOk es with
      | true => match pureQ P (Instr.checkKey es.isEmpty 10000 kt k), pureQ P (Instr.findKey kt k es.toList), pureQ P (zeroValue et) with
        | some _, some r, some z => match ok with
          | true => some (.tuple #[(match r with | some (_, v) => v | none => z), .bool r.isSome])
          | false => some (match r with | some (_, v) => v | none => z)
        | _, _, _ => none
      | false => none
    | none => none
  | _ => none
section
variable {P : Program} {ρ : Ren}
theorem mapOf_R {σ : St} {w : World} (hr : Rel ρ σ w) {x x' : Value} (hx : VR ρ x x') {es : Array MapEntry} {c : Nat} (h : mapOf σ x = some (es, c)) (hk : keysOk es = true) :
    ∃ r r' es', x = .map (some r) ∧ x' = .map (some r') ∧ ρ.φ r = some r' ∧ σ.heap.get r = some (.obj (.map es c)) ∧ w.heap[r']? = some (.map es' c) ∧ ERs ρ es.toList es'.toList ∧ es'.size = es.size := by
  unfold mapOf at h
  cases hx with
  | @map r k h1 =>
    simp only at h
    cases hg : σ.heap.get r with
    | none => rw [hg] at h; cases h
    | some y =>
    rw [hg] at h
    cases y with
    | row b => cases h
    | obj o =>
      cases o with
      | map es1 c1 =>
        cases Option.some.inj h
        obtain ⟨k1, y, q1, q2, q3⟩ := hr.live r _ hg
        have : k1 = k := by rw [h1] at q1; exact (Option.some.inj q1).symm
        subst this
        cases (show ObjR ρ (.map es c) y from q3) with
        | @map _ es' _ s1 s2 =>
          exact ⟨r, k1, es', rfl, rfl, h1, hg, q2, ERs.of _ _ (by simp [s1]) (fun i e e' t1 t2 => s2 i e e' (by simpa using t1) (by simpa using t2)) hk, s1.symm⟩
      | _ => cases h
  | _ => cases h
theorem zero_R (hz : ZeroOk P) {et : TypeId} {z : Value} (h : pureQ P (zeroValue et) = some z) : VR ρ z z := by
  unfold zeroValue typeInfo at h
  rw [pureQ_bind, pureQ_bind] at h
  change (Option.bind (pureQ P (match P.info? et with | some i => (pure i : Sem TypeInfo) | none => stuck "no such type")) fun a => pureQ P (match a.zero with | some v => (pure v : Sem Value) | none => unsupported (.resourceLimit "a value of more than 2^22 cells"))) = some z at h
  cases hi : P.info? et with
  | none => rw [hi] at h; cases h
  | some i =>
    rw [hi] at h
    change pureQ P (match i.zero with | some v => (pure v : Sem Value) | none => unsupported (.resourceLimit "a value of more than 2^22 cells")) = some z at h
    cases hiz : i.zero with
    | none => rw [hiz] at h; cases h
    | some v0 =>
      rw [hiz] at h
      cases Option.some.inj h
      exact hz et i _ hi hiz ρ
theorem lookup_sound (hz : ZeroOk P) {σ : St} {w : World} (hr : Rel ρ σ w) {xt : TypeId} {x x' k k' : Value} {ok : Bool} (hx : VR ρ x x') (hk : VR ρ k k') {v : Value} (h : evLookup P σ xt x k ok = some v) : ∃ v', (Instr.lookup xt x' k' ok).run P w = .ok v' w ∧ VR ρ v v' := by
  unfold evLookup at h
  cases ht : P.underlying xt with
  | none => rw [ht] at h; cases h
  | some d =>
  rw [ht] at h
  cases d with
  | map kt et =>
    simp only at h
    cases hes : esOf σ x with
    | none => rw [hes] at h; cases h
    | some es =>
    rw [hes] at h
    simp only at h
    cases hp : (plainV 4 k && keysOk es) with
    | false => rw [hp] at h; cases h
    | true =>
    rw [hp] at h
    simp only at h
    rw [Bool.and_eq_true] at hp
    have hkk := plain_eq 4 _ _ hp.1 hk
    subst hkk
    cases h1 : pureQ P (Instr.checkKey es.isEmpty 10000 kt k') with
    | none => rw [h1] at h; cases h
    | some u =>
    cases h2 : pureQ P (Instr.findKey kt k' es.toList) with
    | none => rw [h1, h2] at h; cases h
    | some r =>
    cases h3 : pureQ P (zeroValue et) with
    | none => rw [h1, h2, h3] at h; cases h
    | some z =>
    rw [h1, h2, h3] at h
    simp only at h
    have hzz : VR ρ z z := zero_R hz h3
    have hc := pureQ_run _ h1 w
    have hzr := pureQ_run _ h3 w
    -- the run over the real entries
    have fin : ∀ es' : Array MapEntry, ERs ρ es.toList es'.toList → es'.size = es.size → ((x' = .map none ∧ es' = #[]) ∨ ∃ r' c, x' = .map (some r') ∧ w.heap[r']? = some (.map es' c)) → ∃ v', (Instr.lookup xt x' k' ok).run P w = .ok v' w ∧ VR ρ v v' := by
      intro es' hE hsz hcase
      have hemp : es'.isEmpty = es.isEmpty := by simp only [Array.isEmpty, hsz]
      obtain ⟨r', q1, q2⟩ := findKey_R hE h2
      have hf := pureQ_run _ q1 w
      rw [← hemp] at hc
      rcases hcase with ⟨rfl, rfl⟩ | ⟨rr, c, rfl, hw⟩
      · rcases q2 with ⟨rfl, rfl⟩ | ⟨i, u1, u1', rfl, rfl, hu⟩
        · cases ok with
          | true =>
            cases Option.some.inj h
            refine ⟨.tuple #[z, .bool false], ?_, (((VRs.empty ρ).push hzz).push (.bool _)).tuple⟩
            simp [Instr.lookup, run_underlying ht] at hc hf ⊢
            simp [hc, hf, hzr]
          | false =>
            cases Option.some.inj h
            refine ⟨z, ?_, hzz⟩
            simp [Instr.lookup, run_underlying ht] at hc hf ⊢
            simp [hc, hf, hzr]
        · cases ok with
          | true =>
            cases Option.some.inj h
            refine ⟨.tuple #[u1', .bool true], ?_, (((VRs.empty ρ).push hu).push (.bool _)).tuple⟩
            simp [Instr.lookup, run_underlying ht] at hc hf ⊢
            simp [hc, hf]
          | false =>
            cases Option.some.inj h
            refine ⟨u1', ?_, hu⟩
            simp [Instr.lookup, run_underlying ht] at hc hf ⊢
            simp [hc, hf]
      · have hg : (getObj rr).run P w = .ok (.map es' c) w := by simp [getObj, Sem.run, hw]
        rcases q2 with ⟨rfl, rfl⟩ | ⟨i, u1, u1', rfl, rfl, hu⟩
        · cases ok with
          | true =>
            cases Option.some.inj h
            refine ⟨.tuple #[z, .bool false], ?_, (((VRs.empty ρ).push hzz).push (.bool _)).tuple⟩
            simp [Instr.lookup, run_underlying ht, hg, hc, hf, hzr]
          | false =>
            cases Option.some.inj h
            refine ⟨z, ?_, hzz⟩
            simp [Instr.lookup, run_underlying ht, hg, hc, hf, hzr]
        · cases ok with
          | true =>
            cases Option.some.inj h
            refine ⟨.tuple #[u1', .bool true], ?_, (((VRs.empty ρ).push hu).push (.bool _)).tuple⟩
            simp [Instr.lookup, run_underlying ht, hg, hc, hf]
          | false =>
            cases Option.some.inj h
            refine ⟨u1', ?_, hu⟩
            simp [Instr.lookup, run_underlying ht, hg, hc, hf]
    cases hx with
    | nilMap =>
      cases Option.some.inj hes
      exact fin #[] .nil rfl (.inl ⟨rfl, rfl⟩)
    | @map r k1 hφ =>
      obtain ⟨c, hp1⟩ : ∃ c, mapOf σ (.map (some r)) = some (es, c) := by
        change (match mapOf σ (.map (some r)) with | some (es, _) => some es | none => none) = some es at hes
        cases hq : mapOf σ (.map (some r)) with
        | none => rw [hq] at hes; cases hes
        | some p => rw [hq] at hes; obtain ⟨e1, c1⟩ := p; cases Option.some.inj hes; exact ⟨c1, rfl⟩
      obtain ⟨r2, r', es', e1, e2, e3, e4, e5, e6, e7⟩ := mapOf_R hr (.map hφ) hp1 hp.2
      exact fin es' e6 e7 (.inr ⟨r', c, e2, e5⟩)
    | _ => cases hes
  | _ => cases h
end
end Go.Ev
/- Closed calls by evaluation, part In: maps that are written. -/
namespace Go.Ev
def setMap (P : Program) (σ : St) (m : Value) (es : Array MapEntry) (c : Nat) : Option St :=
  match m with
  | .map (some r) => match runA P (setObj r (.map es c)) σ with
    | some (.ok _ σ) => some σ
    | _ => none
  | _ => none
def findIn (P : Program) (σ : St) (mt : TypeId) (m k : Value) : Option (Array MapEntry × Nat × Option (Nat × Value)) :=
  match P.underlying mt, mapOf σ m with
  | some (.map kt _), some (es, c) => match plainV 4 k && keysOk es with
    | true => match pureQ P (Instr.checkKey false 10000 kt k), pureQ P (Instr.findKey kt k es.toList) with
      | some _, some r => some (es, c, r)
      | _, _ => none
    | false => none
  | _, _ => none
def keyIn (P : Program) (es : Array MapEntry) (i : Nat) (k : Value) : Option Value :=
  match pureQ P (Instr.keyThatStays (((es[i]?).map (·.key)).getD k) k) with
  | some key => match plainV 4 key with
    | true => some key
    | false => none
  | none => none
def evUpdate (P : Program) (σ : St) (mt : TypeId) (m k v : Value) : Option St :=
  match findIn P σ mt m k with
  | some (es, _, some (i, _)) => match keyIn P es i k, mapOf σ m with
    | some key, some (_, c) => setMap P σ m (es.modify i fun e => { e with key := key, val := v }) c
    | _, _ => none
  | some (es, c, none) => setMap P σ m (es.push { key := k, val := v, born := c }) (c + 1)
  | none => none
def evEntry (P : Program) (σ : St) (mt : TypeId) (m k : Value) : Option (Value × St) :=
  match findIn P σ mt m k with
  | some (es, c, some (i, v)) => match keyIn P es i k with
    | some key => match setMap P σ m (es.modify i fun e => { e with key := key }) c with
      | some σ => some (.tuple #[v, goInt (((es[i]?).map (·.born)).getD 0)], σ)
      | none => none
    | none => none
  | some (es, c, none) => match P.underlying mt with
    | some (.map _ et) => match pureQ P (zeroValue et) with
      | some z => match setMap P σ m (es.push { key := k, val := z, born := c }) (c + 1) with
        | some σ => some (.tuple #[z, goInt c], σ)
        | none => none
      | none => none
    | _ => none
  | none => none
def evEntryStore (P : Program) (σ : St) (m stamp v : Value) : Option St :=
  match mapOf σ m, stamp with
  | some (es, c), .int _ b => match keysOk es with
    | true => match es.findIdx? (fun e => (e.born : Int) == b) with
      | some i => setMap P σ m (es.modify i fun e => { e with val := v }) c
      | none => none
    | false => none
  | _, _ => none
section
variable {P : Program} {ρ : Ren}
theorem ERs.len {l l' : List MapEntry} (h : ERs ρ l l') : l'.length = l.length := by
  induction h with
  | nil => rfl
  | cons _ _ _ _ ih => simp [ih]
theorem ERs.get {l l' : List MapEntry} (h : ERs ρ l l') : ∀ (i : Nat) (e e' : MapEntry), l[i]? = some e → l'[i]? = some e' → e'.born = e.born ∧ e'.key = e.key ∧ VR ρ e.val e'.val := by
  induction h with
  | nil => intro i e e' h; simp at h
  | cons hb hk hv _ ih =>
    intro i e e' h1 h2
    cases i with
    | zero => simp at h1 h2; rw [← h1, ← h2]; exact ⟨hb, hk, hv⟩
    | succ i => exact ih i e e' (by simpa using h1) (by simpa using h2)
/-- entries of both sides, as an object asks for them -/
def EP (ρ : Ren) (es es' : Array MapEntry) : Prop := es.size = es'.size ∧ ∀ (i : Nat) (e e' : MapEntry), es[i]? = some e → es'[i]? = some e' → e'.born = e.born ∧ VR ρ e.key e'.key ∧ VR ρ e.val e'.val
theorem EP.of {es es' : Array MapEntry} (h : ERs ρ es.toList es'.toList) (hk : keysOk es = true) : EP ρ es es' := by
  refine ⟨by have := h.len; simpa using this.symm, fun i e e' h1 h2 => ?_⟩
  obtain ⟨q1, q2, q3⟩ := h.get i e e' (by simpa using h1) (by simpa using h2)
  unfold keysOk at hk
  rw [List.all_eq_true] at hk
  refine ⟨q1, ?_, q3⟩
  rw [q2]
  exact plain_refl 4 _ (hk e (Array.mem_toList_iff.2 (Array.mem_of_getElem? h1)))
theorem EP.push {es es' : Array MapEntry} (h : EP ρ es es') {e e' : MapEntry} (he : e'.born = e.born ∧ VR ρ e.key e'.key ∧ VR ρ e.val e'.val) : EP ρ (es.push e) (es'.push e') := by
  refine ⟨by simp [h.1], fun i x x' h1 h2 => ?_⟩
  rw [Array.getElem?_push] at h1 h2
  rw [← h.1] at h2
  split at h1
  · rename_i q; rw [if_pos q] at h2; rw [← Option.some.inj h1, ← Option.some.inj h2]; exact he
  · rename_i q; rw [if_neg q] at h2; exact h.2 i x x' h1 h2
theorem EP.modify {es es' : Array MapEntry} (h : EP ρ es es') (j : Nat) {f g : MapEntry → MapEntry} (hf : ∀ e e', e'.born = e.born ∧ VR ρ e.key e'.key ∧ VR ρ e.val e'.val → (g e').born = (f e).born ∧ VR ρ (f e).key (g e').key ∧ VR ρ (f e).val (g e').val) : EP ρ (es.modify j f) (es'.modify j g) := by
  refine ⟨by simp [h.1], fun i x x' h1 h2 => ?_⟩
  rw [Array.getElem?_modify] at h1 h2
  by_cases e : j = i
  · rw [if_pos e] at h1 h2
    obtain ⟨y, q1, q2⟩ := Option.map_eq_some_iff.1 h1
    obtain ⟨y', q3, q4⟩ := Option.map_eq_some_iff.1 h2
    rw [← q2, ← q4]
    exact hf y y' (h.2 i y y' q1 q3)
  · rw [if_neg e] at h1 h2; exact h.2 i x x' h1 h2
theorem setMap_sound {σ σ1 : St} {w : World} (hr : Rel ρ σ w) {r r' : Nat} (hφ : ρ.φ r = some r') {es es' : Array MapEntry} {c : Nat} (hE : EP ρ es es') (h : setMap P σ (.map (some r)) es c = some σ1) :
    ∃ ρ' w', ρ.le ρ' ∧ (setObj r' (.map es' c)).run P w = .ok () w' ∧ Rel ρ' σ1 w' ∧ Keep ρ σ ρ' σ1 w w' := by
  unfold setMap at h
  simp only at h
  cases hq : runA P (setObj r (.map es c)) σ with
  | none => rw [hq] at h; cases h
  | some x =>
  rw [hq] at h
  cases x with
  | panic v τ => cases h
  | ok u τ =>
  cases Option.some.inj h
  obtain ⟨ρ', x', w', h1, h2, h3, h4, -⟩ := (sim_setObj (P := P) hφ (.map c hE.1 hE.2)) σ w hr _ hq
  exact ⟨ρ', w', h1, h2, h3, h4⟩
theorem findIn_R {σ : St} {w : World} (hr : Rel ρ σ w) {mt : TypeId} {m m' k k' : Value} (hm : VR ρ m m') (hk : VR ρ k k') {es : Array MapEntry} {c : Nat} {q : Option (Nat × Value)} (h : findIn P σ mt m k = some (es, c, q)) :
    ∃ kt et r r' es' q', P.underlying mt = some (.map kt et) ∧ k' = k ∧ plainV 4 k = true ∧ m = .map (some r) ∧ m' = .map (some r') ∧ ρ.φ r = some r' ∧ mapOf σ m = some (es, c) ∧ (getObj r').run P w = .ok (.map es' c) w ∧ ERs ρ es.toList es'.toList ∧ EP ρ es es' ∧
      (Instr.checkKey false 10000 kt k).run P w = .ok () w ∧ (Instr.findKey kt k es'.toList).run P w = .ok q' w ∧ FindR ρ q q' := by
  unfold findIn at h
  cases ht : P.underlying mt with
  | none => rw [ht] at h; cases h
  | some d =>
  rw [ht] at h
  cases d with
  | map kt et =>
    cases hmo : mapOf σ m with
    | none => rw [hmo] at h; cases h
    | some p =>
    obtain ⟨es1, c1⟩ := p
    rw [hmo] at h
    simp only at h
    cases hp : (plainV 4 k && keysOk es1) with
    | false => rw [hp] at h; cases h
    | true =>
    rw [hp] at h
    simp only at h
    rw [Bool.and_eq_true] at hp
    cases h1 : pureQ P (Instr.checkKey false 10000 kt k) with
    | none => rw [h1] at h; cases h
    | some u =>
    cases h2 : pureQ P (Instr.findKey kt k es1.toList) with
    | none => rw [h1, h2] at h; cases h
    | some q1 =>
    rw [h1, h2] at h
    cases Option.some.inj h
    obtain ⟨r2, r', es', e1, e2, e3, e4, e5, e6, e7⟩ := mapOf_R hr hm hmo hp.2
    obtain ⟨q', s1, s2⟩ := findKey_R e6 h2
    exact ⟨kt, et, r2, r', es', q', rfl, plain_eq 4 _ _ hp.1 hk, hp.1, e1, e2, e3, rfl, by simp [getObj, Sem.run, e5], e6, .of e6 hp.2, pureQ_run _ h1 w, pureQ_run _ s1 w, s2⟩
  | _ => cases h
theorem keyIn_R {es es' : Array MapEntry} {i : Nat} {k key : Value} (hE : ERs ρ es.toList es'.toList) (h : keyIn P es i k = some key) (w : World) : (Instr.keyThatStays (((es'[i]?).map (·.key)).getD k) k).run P w = .ok key w ∧ plainV 4 key = true := by
  unfold keyIn at h
  have hsame : (es'[i]?).map (·.key) = (es[i]?).map (·.key) := by
    have hl := hE.len
    simp only [Array.length_toList] at hl
    cases h1 : es[i]? with
    | none =>
      have : es'[i]? = none := by rw [Array.getElem?_eq_none_iff] at *; omega
      rw [this]
    | some e =>
      have hlt := (Array.getElem?_eq_some_iff.1 h1).1
      have h2 : es'[i]? = some es'[i] := Array.getElem?_eq_getElem (by omega)
      rw [h2]
      have := (hE.get i e es'[i] (by simpa using h1) (by simp)).2.1
      simp [this]
  cases hq : pureQ P (Instr.keyThatStays (((es[i]?).map (·.key)).getD k) k) with
  | none => rw [hq] at h; cases h
  | some u =>
    rw [hq] at h
    simp only at h
    cases hp : plainV 4 u with
    | false => rw [hp] at h; cases h
    | true =>
      rw [hp] at h
      cases Option.some.inj h
      rw [hsame]
      exact ⟨pureQ_run _ hq w, hp⟩
theorem update_sound {σ σ1 : St} {w : World} (hr : Rel ρ σ w) {mt : TypeId} {m m' k k' v v' : Value} (hm : VR ρ m m') (hk : VR ρ k k') (hv : VR ρ v v') (h : evUpdate P σ mt m k v = some σ1) : ∃ ρ' w', ρ.le ρ' ∧ (Instr.mapUpdate mt m' k' v').run P w = .ok () w' ∧ Rel ρ' σ1 w' ∧ Keep ρ σ ρ' σ1 w w' := by
  unfold evUpdate at h
  cases hf : findIn P σ mt m k with
  | none => rw [hf] at h; cases h
  | some p =>
  obtain ⟨es, c, q⟩ := p
  rw [hf] at h
  obtain ⟨kt, et, r, r', es', q', e1, e2, e3, e4, e5, e6, e7, e8, e9, e10, e11, e12, e13⟩ := findIn_R hr hm hk hf
  subst e2 e4 e5
  rcases e13 with ⟨rfl, rfl⟩ | ⟨i, u, u', rfl, rfl, hu⟩
  · obtain ⟨ρ', w', h1, h2, h3, h4⟩ := setMap_sound hr e6 (e10.push (e := { key := k', val := v, born := c }) (e' := { key := k', val := v', born := c }) ⟨rfl, plain_refl 4 _ e3, hv⟩) h
    refine ⟨ρ', w', h1, ?_, h3, h4⟩
    simp [Instr.mapUpdate, run_underlying e1, e8, e11, e12, h2]
  · simp only [e7] at h
    cases hky : keyIn P es i k' with
    | none => rw [hky] at h; cases h
    | some key =>
    rw [hky] at h
    simp only at h
    obtain ⟨s1, s2⟩ := keyIn_R e9 hky w
    obtain ⟨ρ', w', h1, h2, h3, h4⟩ := setMap_sound hr e6 (e10.modify i (f := fun e => { e with key := key, val := v }) (g := fun e => { e with key := key, val := v' }) fun e e' he => ⟨he.1, plain_refl 4 _ s2, hv⟩) h
    refine ⟨ρ', w', h1, ?_, h3, h4⟩
    simp [Instr.mapUpdate, run_underlying e1, e8, e11, e12]
    simp [s1, h2]
theorem entry_sound (hz : ZeroOk P) {σ σ1 : St} {w : World} (hr : Rel ρ σ w) {mt : TypeId} {m m' k k' v : Value} (hm : VR ρ m m') (hk : VR ρ k k') (h : evEntry P σ mt m k = some (v, σ1)) : ∃ ρ' w' v', ρ.le ρ' ∧ (Instr.mapEntry mt m' k').run P w = .ok v' w' ∧ Rel ρ' σ1 w' ∧ Keep ρ σ ρ' σ1 w w' ∧ VR ρ' v v' := by
  unfold evEntry at h
  cases hf : findIn P σ mt m k with
  | none => rw [hf] at h; cases h
  | some p =>
  obtain ⟨es, c, q⟩ := p
  rw [hf] at h
  obtain ⟨kt, et, r, r', es', q', e1, e2, e3, e4, e5, e6, e7, e8, e9, e10, e11, e12, e13⟩ := findIn_R hr hm hk hf
  subst e2 e4 e5
  rcases e13 with ⟨rfl, rfl⟩ | ⟨i, u, u', rfl, rfl, hu⟩
  · simp only [e1] at h
    cases hzq : pureQ P (zeroValue et) with
    | none => rw [hzq] at h; cases h
    | some z =>
    rw [hzq] at h
    simp only at h
    cases hst : setMap P σ (.map (some r)) (es.push { key := k', val := z, born := c }) (c + 1) with
    | none => rw [hst] at h; cases h
    | some σ2 =>
    rw [hst] at h
    cases Option.some.inj h
    have hzz : VR ρ z z := zero_R hz hzq
    obtain ⟨ρ', w', h1, h2, h3, h4⟩ := setMap_sound hr e6 (e10.push (e := { key := k', val := z, born := c }) (e' := { key := k', val := z, born := c }) ⟨rfl, plain_refl 4 _ e3, hzz⟩) hst
    refine ⟨ρ', w', .tuple #[z, goInt c], h1, ?_, h3, h4, (((VRs.empty ρ').push (hzz.mono h1)).push (.int _ _)).tuple⟩
    have hzr := pureQ_run _ hzq w
    simp [Instr.mapEntry, run_underlying e1, e8, e11, e12, hzr, h2]
  · simp only at h
    cases hky : keyIn P es i k' with
    | none => rw [hky] at h; cases h
    | some key =>
    rw [hky] at h
    simp only at h
    cases hst : setMap P σ (.map (some r)) (es.modify i fun e => { e with key := key }) c with
    | none => rw [hst] at h; cases h
    | some σ2 =>
    rw [hst] at h
    cases Option.some.inj h
    obtain ⟨s1, s2⟩ := keyIn_R e9 hky w
    obtain ⟨ρ', w', h1, h2, h3, h4⟩ := setMap_sound hr e6 (e10.modify i (f := fun e => { e with key := key }) (g := fun e => { e with key := key }) fun e e' he => ⟨he.1, plain_refl 4 _ s2, he.2.2⟩) hst
    have hborn : ((es'[i]?).map (fun e : MapEntry => ((e.born : Nat) : Int))).getD 0 = ((es[i]?).map (fun e : MapEntry => ((e.born : Nat) : Int))).getD 0 := by
      have hl := e9.len
      simp only [Array.length_toList] at hl
      cases q1 : es[i]? with
      | none =>
        have : es'[i]? = none := by rw [Array.getElem?_eq_none_iff] at *; omega
        rw [this]
      | some e =>
        have hlt := (Array.getElem?_eq_some_iff.1 q1).1
        have q2 : es'[i]? = some es'[i] := Array.getElem?_eq_getElem (by omega)
        rw [q2]
        have := (e9.get i e es'[i] (by simpa using q1) (by simp)).1
        simp [this]
    refine ⟨ρ', w', .tuple #[u', goInt (((es[i]?).map (fun e : MapEntry => ((e.born : Nat) : Int))).getD 0)], h1, ?_, h3, h4, (((VRs.empty ρ').push (hu.mono h1)).push ((fun n => .int _ n : ∀ n : Int, VR ρ' (goInt n) (goInt n)) _)).tuple⟩
    rw [← hborn]
    simp [Instr.mapEntry, run_underlying e1, e8, e11, e12]
    simp [s1, h2]
theorem entryStore_sound {σ σ1 : St} {w : World} (hr : Rel ρ σ w) {mt : TypeId} {m m' s s' v v' : Value} (hm : VR ρ m m') (hs : VR ρ s s') (hv : VR ρ v v') (h : evEntryStore P σ m s v = some σ1) : ∃ ρ' w', ρ.le ρ' ∧ (Instr.entryStore mt m' s' v').run P w = .ok () w' ∧ Rel ρ' σ1 w' ∧ Keep ρ σ ρ' σ1 w w' := by
  unfold evEntryStore at h
  cases hmo : mapOf σ m with
  | none => rw [hmo] at h; cases h
  | some p =>
  obtain ⟨es, c⟩ := p
  rw [hmo] at h
  cases hs with
  | int kk b =>
    simp only at h
    cases hk : keysOk es with
    | false => rw [hk] at h; cases h
    | true =>
    rw [hk] at h
    simp only at h
    cases hi : es.findIdx? (fun e => (e.born : Int) == b) with
    | none => rw [hi] at h; cases h
    | some i =>
    rw [hi] at h
    simp only at h
    obtain ⟨r2, r', es', e1, e2, e3, e4, e5, e6, e7⟩ := mapOf_R hr hm hmo hk
    subst e1 e2
    have hidx : es'.findIdx? (fun e => (e.born : Int) == b) = some i := by
      have ha : ∀ xs : Array MapEntry, xs.findIdx? (fun e => (e.born : Int) == b) = xs.toList.findIdx? (fun e => (e.born : Int) == b) := fun xs => by
        have := List.findIdx?_toArray (p := fun e : MapEntry => (e.born : Int) == b) (l := xs.toList)
        rwa [Array.toArray_toList] at this
      rw [← hi, ha, ha]
      have : ∀ (l l' : List MapEntry), ERs ρ l l' → l'.findIdx? (fun e => (e.born : Int) == b) = l.findIdx? (fun e => (e.born : Int) == b) := by
        intro l l' hl
        induction hl with
        | nil => rfl
        | cons hb _ _ _ ih => rw [List.findIdx?_cons, List.findIdx?_cons, hb, ih]
      exact this _ _ e6
    obtain ⟨ρ', w', h1, h2, h3, h4⟩ := setMap_sound hr e3 ((EP.of e6 hk).modify i (f := fun e => { e with val := v }) (g := fun e => { e with val := v' }) fun e e' he => ⟨he.1, he.2.1, hv⟩) h
    refine ⟨ρ', w', h1, ?_, h3, h4⟩
    have hg : (getObj r').run P w = .ok (.map es' c) w := by simp [getObj, Sem.run, e5]
    simp [Instr.entryStore, hg, asInt, asIntOf, hidx, h2]
  | _ => cases h
end
end Go.Ev
/- Closed calls by evaluation: the string of a slice of bytes. -/
namespace Go.Ev
section
variable {P : Program} {ρ : Ren}
theorem sim_forIn {α : Type} {f : Value → α → Sem (ForInStep α)} (hf : ∀ (ρ : Ren) (v v' : Value) (a : α), VR ρ v v' → Sim P (f v a) (f v' a) ρ fun _ x x' => x' = x) :
    ∀ (l l' : List Value) (a : α) (ρ : Ren), l.length = l'.length → (∀ (i : Nat) (v v' : Value), l[i]? = some v → l'[i]? = some v' → VR ρ v v') → Sim P (forIn l a f) (forIn l' a f) ρ fun _ x x' => x' = x := by
  intro l
  induction l with
  | nil =>
    intro l' a ρ hl h
    cases l' with
    | nil => exact sim_pure rfl
    | cons v l' => simp at hl
  | cons v l ih =>
    intro l' a ρ hl h
    cases l' with
    | nil => simp at hl
    | cons v' l' =>
    rw [List.forIn_cons, List.forIn_cons]
    refine sim_bind (hf ρ v v' a (h 0 v v' rfl rfl)) fun ρ1 x x' hle hx => ?_
    subst hx
    cases x' with
    | done b => exact sim_pure rfl
    | yield b => exact ih l' b ρ1 (by simpa using hl) fun i u u' h1 h2 => (h (i + 1) u u' (by simpa using h1) (by simpa using h2)).mono hle
theorem sim_bytesToString {b : Option Addr} {n c : Nat} {x' : Value} (h : VR ρ (.slice b n c) x') : Sim P (Conv.bytesToString (.slice b n c)) (Conv.bytesToString x') ρ VR := by
  cases h with
  | nilSlice n c => exact sim_pure (.string _)
  | @slice b k o n c c' h hc =>
    unfold Conv.bytesToString
    refine sim_bind (sim_loadCells n ⟨rfl, rfl, rfl, h⟩) fun ρ1 cs cs' hle hcs => ?_
    rw [← Array.forIn_toList, ← Array.forIn_toList]
    refine sim_bind (Q := fun _ x x' => x' = x) (sim_forIn ?_ cs.toList cs'.toList _ ρ1 (by simpa using hcs.size) ?_) fun ρ2 s s' _ hs => by subst hs; exact sim_pure (.string _)
    · intro ρ v v' a hv
      cases hv with
      | int k m => cases k <;> first | exact sim_pure rfl | exact sim_stuck
      | _ => exact sim_stuck
    · intro i v v' h1 h2
      exact hcs.get i v v' (by simpa using h1) (by simpa using h2)
theorem sim_convert {s t e : TypeId} {b : Option Addr} {n c : Nat} {x' : Value} (h : VR ρ (.slice b n c) x') (hs : P.underlying s = some (.slice e)) (ht : P.underlying t = some .string) (he : P.underlying e = some (.int .u8)) :
    Sim P (convert s t (.slice b n c)) (convert s t x') ρ VR := by
  obtain ⟨b', c', rfl⟩ : ∃ b' c', x' = .slice b' n c' := by cases h <;> exact ⟨_, _, rfl⟩
  unfold convert
  refine sim_bind sim_underlying fun ρ1 d d' hle h1 => ?_
  obtain ⟨rfl, h1⟩ := h1
  rw [hs] at h1; cases h1
  refine sim_bind sim_underlying fun ρ2 d d' hle2 h1 => ?_
  obtain ⟨rfl, h1⟩ := h1
  rw [ht] at h1; cases h1
  refine sim_bind sim_underlying fun ρ3 d d' hle3 h1 => ?_
  obtain ⟨rfl, h1⟩ := h1
  rw [he] at h1; cases h1
  exact sim_bytesToString (((h.mono hle).mono hle2).mono hle3)
end
/-- what the evaluator asks of a conversion of a slice -/
def bytesConv (P : Program) (s t : TypeId) : Bool :=
  match P.underlying s, P.underlying t with
  | some (.slice e), some .string => match P.underlying e with
    | some (.int .u8) => true
    | _ => false
  | _, _ => false
theorem bytesConv_eq {P : Program} {s t : TypeId} (h : bytesConv P s t = true) : ∃ e, P.underlying s = some (.slice e) ∧ P.underlying t = some .string ∧ P.underlying e = some (.int .u8) := by
  unfold bytesConv at h
  split at h
  · rename_i e h1 h2
    split at h
    · rename_i h3; exact ⟨e, h1, h2, h3⟩
    · cases h
  · cases h
end Go.Ev
/- Closed calls by evaluation, part J: one operation, whole. -/
namespace Go.Ev
def okFn : Fn → Bool
  | .yield _ => false
  | _ => true
theorem okFn_R {ρ : Ren} {fn : Fn} (h : okFn fn = true) : FnR ρ fn fn := by
  cases fn with
  | func f => exact .func f
  | method n => exact .method n
  | methodOf t n => exact .methodOf t n
  | via t p f b => exact .via t p f b
  | yield l => cases h
def okOps (glob : Nat) (o : Oper) : Bool := o.op.operands.toList.all (okOperand glob)
def plainQ (P : Program) (E : Operand → Value) (σ : St) (o : Oper) : Option (Rs Next) :=
  match o.op.operands.toList.all (fun x => plainV 4 (E x)) with
  | true => match pureQ P (execOp E o) with
    | some (.value v) => match plainV 6 v with
      | true => some (.ok (.value v) σ)
      | false => none
    | _ => none
  | false => none
def capCheck (r : Option (Rs Next)) : Option (Rs Next) :=
  match r with
  | some (.ok (.value v) σ) => match capOk v with
    | true => some (.ok (.value v) σ)
    | false => none
  | some (.panic v σ) => some (.panic v σ)
  | _ => none
def valueR (r : Option (Rs Value)) : Option (Rs Next) :=
  match r with
  | some (.ok v σ) => some (.ok (.value v) σ)
  | some (.panic v σ) => some (.panic v σ)
  | none => none
def evEql (P : Program) (σ : St) (neg : Bool) (t : TypeId) (a b : Value) : Option (Rs Next) :=
  match (someV a && nilV b) || (nilV a && someV b) with
  | true => match pureQ P (Op.equal t a b) with
    | some r => some (.ok (.value (.bool (match neg with | true => !r | false => r))) σ)
    | none => none
  | false => none
def evField (P : Program) (σ : St) (s : TypeId) (x : Value) (f : Nat) : Option (Rs Next) :=
  match P.underlying s, x with
  | some (.struct fields), .pointer (some a) => match fields[f]? with
    | some fl => match P.info? fl.type with
      | some i => match Nat.beq i.size 0 with
        | false => some (.ok (.value (.pointer (some (a.add fl.offset)))) σ)
        | true => none
      | none => none
    | none => none
  | _, _ => none
def evCall (P : Program) (E : Operand → Value) (σ : St) (o : Oper) (f : Value) (args : Array Value) : Option (Rs Next) :=
  match f with
  | .func (.func fid) first cap => match P.funcs[fid]? with
    | some fn => match fn.body with
      | some _ => some (.ok (.enter fid (first ++ args ++ cap)) σ)
      | none => plainQ P E σ o
    | none => none
  | _ => none
def evBuiltin (P : Program) (E : Operand → Value) (σ : St) (o : Oper) (b : Builtin) (l : List Operand) (ts : List TypeId) : Option (Rs Next) :=
  match b, l, ts with
  | .append, [s, x], [t, tx] => valueR (evAppend P σ t tx (E s) (E x))
  | .len, [x], [t] => match E x, P.underlying t with
    | .slice _ n _, some (.slice _) => some (.ok (.value (.int .i64 n)) σ)
    | _, _ => plainQ P E σ o
  | .copy, [d, s], ts => valueR (runA P (Builtin.copy_ ts.toArray o.type #[E d, E s]) σ)
  | .recover, _, _ => some (.ok .recover σ)
  | .min, _, _ | .max, _, _ => plainQ P E σ o
  | _, _, _ => none
def evOp (P : Program) (E : Operand → Value) (σ : St) (o : Oper) : Option (Rs Next) :=
  match okOps σ.glob o with
  | false => none
  | true => match o.op with
    | .move x | .assign x => some (.ok (.value (E x)) σ)
    | .pick c a b => match E c with
      | .bool true => some (.ok (.value (E a)) σ)
      | .bool false => some (.ok (.value (E b)) σ)
      | _ => none
    | .extract x i => match E x with
      | .tuple vs => match nth vs.toList i with
        | some v => some (.ok (.value v) σ)
        | none => none
      | _ => none
    | .alloc _ | .box .. | .build .. | .load .. | .store .. | .makeInterface .. | .field .. | .indexAddr .. | .range .. | .next _ true | .typeAssert _ _ _ true => runA P (execOp E o) σ
    | .makeFunc fn _ _ => match okFn fn with
      | true => runA P (execOp E o) σ
      | false => none
    | .buildSlice .. | .makeSlice .. => capCheck (runA P (execOp E o) σ)
    | .fieldAddr s x f => evField P σ s (E x) f
    | .nilCheck x => match E x with
      | .pointer (some a) => some (.ok (.value (.pointer (some a))) σ)
      | .iface t v => some (.ok (.value (.iface t v)) σ)
      | .func (.func f) a b => some (.ok (.value (.func (.func f) a b)) σ)
      | _ => none
    | .binOp op t x y _ => match plainV 4 (E x) && plainV 4 (E y), op with
      | true, _ => plainQ P E σ o
      | false, .eql => evEql P σ false t (E x) (E y)
      | false, .neq => evEql P σ true t (E x) (E y)
      | false, _ => none
    | .unOp .. | .index .. => plainQ P E σ o
    | .convert s t x => match E x with
      | .slice _ _ _ => match bytesConv P s t with
        | true => runA P (execOp E o) σ
        | false => none
      | _ => plainQ P E σ o
    | .slice t x lo hi none => match E x with
      | .slice base n c => match evSlice P σ t (.slice base n c) (lo.map E) (hi.map E) with
        | some v => some (.ok (.value v) σ)
        | none => none
      | _ => plainQ P E σ o
    | .panic x => match E x with
      | .iface t v => some (.panic (.iface t v) σ)
      | _ => none
    | .call c => match c.callee with
      | .builtin b => evBuiltin P E σ o b c.args.toList c.argTypes.toList
      | .value f => evCall P E σ o (E f) (c.args.map E)
      | .invoke .. => none
    | .lookup xt x k ok => match evLookup P σ xt (E x) (E k) ok with
      | some v => some (.ok (.value v) σ)
      | none => none
    | .mapUpdate mt m k v | .insert mt m k v => match evUpdate P σ mt (E m) (E k) (E v) with
      | some σ => some (.ok .skip σ)
      | none => none
    | .mapEntry mt m k => match evEntry P σ mt (E m) (E k) with
      | some (v, σ) => some (.ok (.value v) σ)
      | none => none
    | .entryStore _ m s v => match evEntryStore P σ (E m) (E s) (E v) with
      | some σ => some (.ok .skip σ)
      | none => none
    | .makeMap _ none => runA P (execOp E o) σ
    | .defer c => match c.callee with
      | .value f => match E f with
        | .func fn first cap => some (.ok (.defer { target := .fn fn cap, args := first ++ c.args.map E }) σ)
        | _ => none
      | _ => none
    | _ => none
section
variable {P : Program} {ρ : Ren}
theorem Out.value {σ : St} {w : World} (hr : Rel ρ σ w) {v v' : Value} {real : Result Next} (h : real = .ok (.value v') w) (hv : VR ρ v v') : Out NR ρ σ w (.ok (.value v) σ) real := ⟨ρ, _, w, .refl ρ, h, hr, .refl w, .value hv⟩
def OutV (ρ : Ren) (σ : St) (w : World) (r : Rs Next) (real : Result Next) : Prop := ∃ v v', r = .ok (.value v) σ ∧ real = .ok (.value v') w ∧ VR ρ v v'
theorem OutV.out {σ : St} {w : World} (hr : Rel ρ σ w) {r : Rs Next} {real : Result Next} (h : OutV ρ σ w r real) : Out NR ρ σ w r real := by
  obtain ⟨v, v', rfl, h1, h2⟩ := h
  exact .value hr h1 h2
theorem plainQ_sound {σ : St} {w : World} {E : Operand → Value} {a : Act} {o : Oper} (hs : ∀ cs b, o.op ≠ .select cs b) (hE : ∀ x ∈ o.op.operands, VR ρ (E x) (a.eval x)) {r : Rs Next} (h : plainQ P E σ o = some r) : OutV ρ σ w r ((execOp a.eval o).run P w) := by
  unfold plainQ at h
  cases hp : o.op.operands.toList.all (fun x => plainV 4 (E x)) with
  | false => rw [hp] at h; cases h
  | true =>
  rw [hp] at h
  simp only [List.all_eq_true] at hp
  have he : execOp a.eval o = execOp E o := execOp_congr o hs fun x hx => plain_eq 4 _ _ (hp x (Array.mem_toList_iff.2 hx)) (hE x hx)
  rw [he]
  cases hq : pureQ P (execOp E o) with
  | none => rw [hq] at h; cases h
  | some n =>
  rw [hq] at h
  have hrun := pureQ_run _ hq w
  cases n with
  | value v =>
    simp only at h
    cases hv : plainV 6 v with
    | false => rw [hv] at h; cases h
    | true =>
      rw [hv] at h
      cases Option.some.inj h
      exact ⟨v, v, rfl, hrun, plain_refl 6 v hv⟩
  | _ => cases h
theorem valueR_sound {σ : St} {w : World} {s : Sem Value} {q : Option (Rs Value)} {r : Rs Next} (h : valueR q = some r) (hq : ∀ x, q = some x → Out VR ρ σ w x (s.run P w)) : Out NR ρ σ w r ((do pure (Next.value (← s))).run P w) := by
  cases q with
  | none => cases h
  | some x =>
    have := hq x rfl
    cases x with
    | ok v σ' =>
      cases Option.some.inj h
      obtain ⟨ρ', x', w', h1, h2, h3, h4, h5⟩ := this
      exact ⟨ρ', _, w', h1, by rw [Sem.run_bind, h2]; rfl, h3, h4, .value h5⟩
    | panic v σ' =>
      cases Option.some.inj h
      obtain ⟨ρ', x', w', h1, h2, h3, h4, h5⟩ := this
      exact ⟨ρ', _, w', h1, by rw [Sem.run_bind, h2]; rfl, h3, h4, h5⟩
theorem cap_sound {σ : St} {w : World} (hr : Rel ρ σ w) {s s' : Sem Value} (h : Sim P s s' ρ CapV) {r : Rs Next} (he : capCheck (runA P (do pure (Next.value (← s))) σ) = some r) : Out NR ρ σ w r ((do pure (Next.value (← s'))).run P w) := by
  have h2 : Sim P (do pure (Next.value (← s))) (do pure (Next.value (← s'))) ρ fun ρ' n n' => ∃ v v', n = .value v ∧ n' = .value v' ∧ CapV ρ' v v' := sim_bind h fun _ _ _ _ hv => sim_pure ⟨_, _, rfl, rfl, hv⟩
  generalize hq : runA P (do pure (Next.value (← s))) σ = q at he
  cases q with
  | none => cases he
  | some x =>
    have h3 := h2.out hr hq
    cases x with
    | ok n σ' =>
      obtain ⟨ρ', x', w', h1, h4, h5, h6, v, v', rfl, rfl, h7⟩ := h3
      simp only [capCheck] at he
      cases hc : capOk v with
      | false => rw [hc] at he; cases he
      | true => rw [hc] at he; cases Option.some.inj he; exact ⟨ρ', _, w', h1, h4, h5, h6, .value (h7 hc)⟩
    | panic v σ' => cases Option.some.inj he; exact h3
theorem field_sound {σ : St} {w : World} {s : TypeId} {x x' : Value} {f : Nat} (hx : VR ρ x x') {r : Rs Next} (h : evField P σ s x f = some r) : OutV ρ σ w r ((do pure (Next.value (← Instr.fieldAt s x' f))).run P w) := by
  unfold evField at h
  cases ht : P.underlying s with
  | none => rw [ht] at h; cases h
  | some d =>
  rw [ht] at h
  cases d with
  | struct fields =>
    cases hx with
    | @ptr b k o h1 =>
      simp only at h
      cases hf : fields[f]? with
      | none => rw [hf] at h; cases h
      | some fl =>
      rw [hf] at h
      simp only at h
      cases hi : P.info? fl.type with
      | none => rw [hi] at h; cases h
      | some i =>
      rw [hi] at h
      simp only at h
      cases hz : Nat.beq i.size 0 with
      | true => rw [hz] at h; cases h
      | false =>
      rw [hz] at h
      cases Option.some.inj h
      have hne : i.size ≠ 0 := by rw [← Bool.not_eq_true, Nat.beq_eq] at hz; exact hz
      refine ⟨_, .pointer (some (Addr.add ⟨k, o, none⟩ fl.offset)), rfl, ?_, (AdR.add (a := ⟨b, o, none⟩) (a' := ⟨k, o, none⟩) ⟨rfl, rfl, rfl, h1⟩ _).ptr⟩
      simp [Instr.fieldAt, run_underlying ht, hf, Instr.sureAddr, fieldPlace, sizeOf, typeInfo, hi, hne]
    | _ => cases h
  | _ => cases h
theorem eql_sound {σ : St} {w : World} {neg : Bool} {t : TypeId} {x y : Operand} {a a' b b' : Value} (ha : VR ρ a a') (hb : VR ρ b b') {r : Rs Next} (h : evEql P σ neg t a b = some r) :
    OutV ρ σ w r ((do pure (Next.value (← (do eqGuard (if neg then .neq else .eql) t x y a' b'; binOp (if neg then .neq else .eql) t a' b')))).run P w) := by
  unfold evEql at h
  cases hc : ((someV a && nilV b) || (nilV a && someV b)) with
  | false => rw [hc] at h; cases h
  | true =>
  rw [hc] at h
  simp only at h
  cases hq : pureQ P (Op.equal t a b) with
  | none => rw [hq] at h; cases h
  | some v =>
  rw [hq] at h
  cases Option.some.inj h
  simp only [Bool.or_eq_true, Bool.and_eq_true] at hc
  have hc' : (someV a' = true ∧ nilV b' = true) ∨ (nilV a' = true ∧ someV b' = true) := by
    rcases hc with ⟨h1, h2⟩ | ⟨h1, h2⟩
    · left; exact ⟨by rw [someV_eq ha]; exact h1, by rw [nilV_eq hb h2]; exact h2⟩
    · right; exact ⟨by rw [nilV_eq ha h1]; exact h1, by rw [someV_eq hb]; exact h2⟩
  have hrun : (Op.equal t a' b').run P w = .ok v w := by
    rcases hc with ⟨h1, h2⟩ | ⟨h1, h2⟩
    · rw [nilV_eq hb h2]; exact equal_nil ha h1 h2 hq w
    · rw [nilV_eq ha h1]; exact equal_nil' hb h2 h1 hq w
  have hg := guard_nil (P := P) (op := if neg then .neq else .eql) (t := t) (x := x) (y := y) hc' w
  obtain ⟨b1, b2⟩ := binOp_nil (t := t) hc'
  cases neg with
  | false =>
    refine ⟨_, .bool v, rfl, ?_, .bool v⟩
    simp only [Bool.false_eq_true, if_false] at hg ⊢
    simp only [Sem.run_bind, hg, Result.andThen_ok, b1, hrun, Sem.run_pure]
  | true =>
    refine ⟨_, .bool (!v), rfl, ?_, .bool _⟩
    simp only [if_true] at hg ⊢
    simp only [Sem.run_bind, hg, Result.andThen_ok, b2, hrun, Sem.run_pure]
theorem PR_map {l : List (Nat × Operand)} {f g : Operand → Value} (h : ∀ p ∈ l, VR ρ (f p.2) (g p.2)) : PR ρ (l.map fun (i, x) => (i, f x)) (l.map fun (i, x) => (i, g x)) := by
  refine ⟨by simp, fun i p p' h1 h2 => ?_⟩
  rw [List.getElem?_map] at h1 h2
  cases hl : l[i]? with
  | none => rw [hl] at h1; cases h1
  | some q =>
    rw [hl] at h1 h2
    rw [← Option.some.inj h1, ← Option.some.inj h2]
    exact ⟨rfl, h q (List.mem_of_getElem? hl)⟩
theorem NoNG_run {hn : ∀ (f : Nat) (fn : Func), P.funcs[f]? = some fn → (fn.name == "runtime.NumGoroutine") = false} {fid : FuncId} {fn : Func} (hf : P.funcs[fid]? = some fn) {c : Code} (hb : fn.body = some c) (args : Array Value) (w : World) : (callFunc fid args).run P w = .ok (.enter fid args) w := by
  have h1 := hn fid fn hf
  unfold callFunc
  rw [Sem.run_bind]
  show ((match P.funcs[fid]? with | none => stuck "call: no such function" | some fn => _ : Sem Next)).run P w = _
  rw [hf]
  simp only [h1, hb, Bool.false_eq_true, if_false, Option.isNone_some]
  rfl
theorem call_sound (hn : ∀ (f : Nat) (fn : Func), P.funcs[f]? = some fn → (fn.name == "runtime.NumGoroutine") = false) {σ : St} {w : World} (hr : Rel ρ σ w) {E : Operand → Value} {a : Act} {o : Oper} {f : Operand} {args : Array Operand} {ts : Array TypeId} (ho : o.op = .call ⟨.value f, args, ts⟩)
    (hE : ∀ x ∈ o.op.operands, VR ρ (E x) (a.eval x)) {r : Rs Next} (h : evCall P E σ o (E f) (args.map E) = some r) : Out NR ρ σ w r ((execOp a.eval o).run P w) := by
  have hsel : ∀ cs b, o.op ≠ .select cs b := fun cs b e => by rw [ho] at e; cases e
  have hf : VR ρ (E f) (a.eval f) := hE f (by rw [ho]; simp [Op.operands, Call.operands])
  have hargs : VRs ρ (args.map E) (args.map a.eval) := .map _ _ _ fun x hx => hE x (by rw [ho]; simp [Op.operands, Call.operands, hx])
  have hq : plainQ P E σ o = some r → Out NR ρ σ w r ((execOp a.eval o).run P w) := fun h => (plainQ_sound hsel hE h).out hr
  have hex : execOp a.eval o = (do let d ← resolve a.eval ⟨.value f, args, ts⟩ o.type; invoke d.target d.args) := by simp only [execOp, ho]
  unfold evCall at h
  generalize hA : E f = fv at hf h
  generalize hB : a.eval f = fv' at hf
  cases hf with
  | @func fn fn' f1 f1' c c' hfn q1 q2 q3 q4 =>
    cases hfn with
    | func fid =>
      simp only at h
      cases hfu : P.funcs[fid]? with
      | none => rw [hfu] at h; cases h
      | some fu =>
      rw [hfu] at h
      simp only at h
      cases hbo : fu.body with
      | none => rw [hbo] at h; exact hq h
      | some cb =>
      rw [hbo] at h
      cases Option.some.inj h
      have hrun := NoNG_run (hn := hn) hfu hbo (f1' ++ args.map a.eval ++ c') w
      refine ⟨ρ, .enter fid (f1' ++ args.map a.eval ++ c'), w, .refl ρ, ?_, hr, .refl w, .enter fid ((VRs.append ⟨q1, q2⟩ hargs).append ⟨q3, q4⟩)⟩
      rw [hex]
      simp only [resolve, hB, Deferred.ofValue, Sem.run_bind, Sem.run_pure, Result.andThen_ok, invoke]
      exact hrun
    | _ => cases h
  | _ => cases h
theorem builtin_sound {σ : St} {w : World} (hr : Rel ρ σ w) {E : Operand → Value} {a : Act} {dst : Option Tmp} {type : TypeId} {pos : String} {after : Array Edge} {guard : Option (Nat × Bool)} {b : Builtin} {args : Array Operand} {ts : Array TypeId}
    (hE : ∀ x ∈ (Op.call ⟨.builtin b, args, ts⟩).operands, VR ρ (E x) (a.eval x)) {r : Rs Next} (h : evBuiltin P E σ ⟨dst, .call ⟨.builtin b, args, ts⟩, type, pos, after, guard⟩ b args.toList ts.toList = some r) :
    Out NR ρ σ w r ((execOp a.eval ⟨dst, .call ⟨.builtin b, args, ts⟩, type, pos, after, guard⟩).run P w) := by
  have hq : plainQ P E σ ⟨dst, .call ⟨.builtin b, args, ts⟩, type, pos, after, guard⟩ = some r → Out NR ρ σ w r ((execOp a.eval ⟨dst, .call ⟨.builtin b, args, ts⟩, type, pos, after, guard⟩).run P w) := fun h => (plainQ_sound (fun _ _ e => by cases e) hE h).out hr
  have hM : ∀ x ∈ args, VR ρ (E x) (a.eval x) := fun x hx => hE x (by simp [Op.operands, Call.operands, hx])
  have two : ∀ (s x : Operand), args.toList = [s, x] → args = #[s, x] := fun s x e => by rw [← Array.toArray_toList (xs := args), e]
  unfold evBuiltin at h
  split at h
  · rename_i s x t tx e1 e2
    obtain rfl := two s x e1
    have : ts = #[t, tx] := by rw [← Array.toArray_toList (xs := ts), e2]
    subst this
    have hs := hM s (by simp)
    have hx := hM x (by simp)
    have hex : (execOp a.eval ⟨dst, .call ⟨.builtin .append, #[s, x], #[t, tx]⟩, type, pos, after, guard⟩).run P w = (do pure (Next.value (← Builtin.append_ #[t, tx] type #[a.eval s, a.eval x]))).run P w := by simp [execOp, resolve, invoke, builtin]
    rw [hex]
    exact valueR_sound (s := Builtin.append_ #[t, tx] type #[a.eval s, a.eval x]) h fun y hy => append_sound hr hs hx hy
  · rename_i x t e1 e2
    have : args = #[x] := by rw [← Array.toArray_toList (xs := args), e1]
    subst this
    have : ts = #[t] := by rw [← Array.toArray_toList (xs := ts), e2]
    subst this
    have hx := hM x (by simp)
    split at h
    · rename_i base n c elem hA ht
      cases Option.some.inj h
      rw [hA] at hx
      have hv : ∃ b' c', a.eval x = .slice b' n c' := by
        generalize a.eval x = v at hx
        cases hx with
        | nilSlice n c => exact ⟨_, _, rfl⟩
        | slice h1 h2 => exact ⟨_, _, rfl⟩
      obtain ⟨b', c', hv⟩ := hv
      refine .value hr (v' := .int .i64 n) ?_ (.int _ _)
      simp [execOp, resolve, invoke, builtin, hv, Builtin.len_, run_underlying ht, goInt]
    · exact hq h
  · rename_i ts' d s e1
    obtain rfl := two d s e1
    have hd := hM d (by simp)
    have hs := hM s (by simp)
    rw [Array.toArray_toList] at h
    have hex : (execOp a.eval ⟨dst, .call ⟨.builtin .copy, #[d, s], ts⟩, type, pos, after, guard⟩).run P w = (do pure (Next.value (← Builtin.copy_ ts type #[a.eval d, a.eval s]))).run P w := by simp [execOp, resolve, invoke, builtin]
    rw [hex]
    exact valueR_sound (s := Builtin.copy_ ts type #[a.eval d, a.eval s]) h fun y hy => (sim_copy hd hs).out hr hy
  · cases Option.some.inj h
    exact ⟨ρ, .recover, w, .refl ρ, by simp [execOp, resolve, invoke, builtin], hr, .refl w, .recover⟩
  · exact hq h
  · exact hq h
  · cases h
theorem sim_makeMap {t : TypeId} : Sim P (Instr.makeMap t none) (Instr.makeMap t none) ρ VR :=
  sim_bind (sim_new_with (x := .obj (.map #[] 0)) rfl fun _ _ _ => .map 0 rfl fun i e e' h => by simp at h) fun _ _ _ _ hk => sim_pure (.map hk)
theorem op_sound (hz : ZeroOk P) (hn : ∀ (f : Nat) (fn : Func), P.funcs[f]? = some fn → (fn.name == "runtime.NumGoroutine") = false) {σ : St} {w : World} (hr : Rel ρ σ w) {E : Operand → Value} {a : Act} {o : Oper} (hact : ∀ x ∈ o.op.operands, okOperand σ.glob x = true → VR ρ (E x) (a.eval x)) {r : Rs Next} (h : evOp P E σ o = some r) :
    Out NR ρ σ w r ((execOp a.eval o).run P w) := by
  unfold evOp at h
  cases hok : okOps σ.glob o with
  | false => rw [hok] at h; cases h
  | true =>
  rw [hok] at h
  simp only [okOps, List.all_eq_true] at hok
  have hE : ∀ x ∈ o.op.operands, VR ρ (E x) (a.eval x) := fun x hx => hact x hx (hok x (Array.mem_toList_iff.2 hx))
  obtain ⟨dst, op, type, pos, after, guard⟩ := o
  simp only at h hE
  have hpl : ∀ (hs : ∀ cs b, op ≠ .select cs b), plainQ P E σ ⟨dst, op, type, pos, after, guard⟩ = some r → Out NR ρ σ w r ((execOp a.eval ⟨dst, op, type, pos, after, guard⟩).run P w) := fun hs h => (plainQ_sound hs hE h).out hr
  cases op with
  | move x => cases Option.some.inj h; exact .value hr rfl (hE x (by simp [Op.operands]))
  | assign x => cases Option.some.inj h; exact .value hr rfl (hE x (by simp [Op.operands]))
  | pick c x y =>
    have hc := hE c (by simp [Op.operands])
    have hx := hE x (by simp [Op.operands])
    have hy := hE y (by simp [Op.operands])
    simp only at h
    generalize hA : E c = vc at hc h
    generalize hB : a.eval c = vc' at hc
    cases hc with
    | bool b =>
      cases b with
      | true => cases Option.some.inj h; exact .value hr (by simp [execOp, hB, asBool]) hx
      | false => cases Option.some.inj h; exact .value hr (by simp [execOp, hB, asBool]) hy
    | _ => cases h
  | extract x i =>
    have hx := hE x (by simp [Op.operands])
    simp only at h
    generalize hA : E x = vc at hx h
    generalize hB : a.eval x = vc' at hx
    cases hx with
    | @tuple c c' q1 q2 =>
      simp only [nth_eq] at h
      cases hc : c.toList[i]? with
      | none => rw [hc] at h; cases h
      | some v =>
        rw [hc] at h
        cases Option.some.inj h
        obtain ⟨v', h1, h2⟩ := (VRs.mk q1 q2).toList i v hc
        exact .value hr (by simp [execOp, hB, Instr.extract, h1]) h2
    | _ => cases h
  | alloc t => exact (sim_value (sim_alloc hz)).out hr h
  | box t x => exact (sim_value (sim_box (hE x (by simp [Op.operands])))).out hr h
  | build t ps =>
    refine (sim_value (sim_build hz ?_)).out hr h
    simp only [Array.toList_map]
    exact PR_map fun p hp => hE p.2 (by simp only [Op.operands]; simp; exact ⟨p.1, by simpa using hp⟩)
  | buildSlice t n ps =>
    refine cap_sound hr (sim_buildSlice hz ?_) h
    simp only [Array.toList_map]
    exact PR_map fun p hp => hE p.2 (by simp only [Op.operands]; simp; exact ⟨p.1, by simpa using hp⟩)
  | load t x => exact (sim_value (sim_loadAt (hE x (by simp [Op.operands])))).out hr h
  | store t x y => exact (sim_skip (sim_storeAt (hE x (by simp [Op.operands])) (hE y (by simp [Op.operands])))).out hr h
  | makeInterface t x => exact (sim_value (sim_makeInterface (hE x (by simp [Op.operands])))).out hr h
  | makeFunc fn f c =>
    have h1 : VRs ρ (f.map E) (f.map a.eval) := .map _ _ _ fun x hx => hE x (by simp [Op.operands, hx])
    have h2 : VRs ρ (c.map E) (c.map a.eval) := .map _ _ _ fun x hx => hE x (by simp [Op.operands, hx])
    cases hfn : okFn fn with
    | false => simp only [hfn] at h; cases h
    | true =>
      simp only [hfn] at h
      exact (sim_value (s := pure _) (s' := pure _) (sim_pure (.func (okFn_R hfn) h1.size h1.get h2.size h2.get))).out hr h
  | field t x f => exact (sim_value (sim_field (hE x (by simp [Op.operands])))).out hr h
  | indexAddr t x y => exact (sim_value (sim_indexAt (hE x (by simp [Op.operands])) (hE y (by simp [Op.operands])))).out hr h
  | range t x => exact (sim_value (sim_range (hE x (by simp [Op.operands])))).out hr h
  | next x b => cases b with
    | true => exact (sim_value (sim_next (hE x (by simp [Op.operands])))).out hr h
    | false => cases h
  | typeAssert x t s ok => cases ok with
    | true => exact (sim_value (sim_typeAssert hz (hE x (by simp [Op.operands])))).out hr h
    | false => cases h
  | makeSlice t l c => exact cap_sound hr (sim_makeSlice hz (hE l (by simp [Op.operands])) (hE c (by simp [Op.operands]))) h
  | fieldAddr s x f => exact (field_sound (hE x (by simp [Op.operands])) h).out hr
  | nilCheck x =>
    have hx := hE x (by simp [Op.operands])
    simp only at h
    generalize hA : E x = vc at hx h
    generalize hB : a.eval x = vc' at hx
    cases hx with
    | ptr q => cases Option.some.inj h; exact .value hr (by simp [execOp, hB]) (.ptr q)
    | iface q => cases Option.some.inj h; exact .value hr (by simp [execOp, hB]) (.iface q)
    | @func fn fn' f1 f1' c c' hfn q1 q2 q3 q4 =>
      cases hfn with
      | func fid => cases Option.some.inj h; exact .value hr (by simp [execOp, hB]) (.func (.func fid) q1 q2 q3 q4)
      | _ => cases h
    | _ => cases h
  | binOp op t x y ty =>
    simp only at h
    cases hp : (plainV 4 (E x) && plainV 4 (E y)) with
    | true => rw [hp] at h; exact hpl (fun _ _ e => by cases e) h
    | false =>
      rw [hp] at h
      have hx := hE x (by simp [Op.operands])
      have hy := hE y (by simp [Op.operands])
      cases op with
      | eql => exact (eql_sound (neg := false) hx hy h).out hr
      | neq => exact (eql_sound (neg := true) hx hy h).out hr
      | _ => cases h
  | unOp _ _ _ => exact hpl (fun _ _ e => by cases e) h
  | convert s t x =>
    simp only at h
    have hx := hE x (by simp [Op.operands])
    split at h
    · rename_i b n c hA
      rw [hA] at hx
      split at h
      · rename_i hb
        obtain ⟨e, h1, h2, h3⟩ := bytesConv_eq hb
        refine (sim_value ?_).out hr h
        rw [hA]
        exact sim_convert hx h1 h2 h3
      · cases h
    · exact hpl (fun _ _ e => by cases e) h
  | index _ _ _ => exact hpl (fun _ _ e => by cases e) h
  | slice t x lo hi mx =>
    cases mx with
    | some m => cases h
    | none =>
    simp only at h
    have hx := hE x (by simp [Op.operands])
    have hlo : (lo.map E = none ∧ lo.map a.eval = none) ∨ ∃ v v', lo.map E = some v ∧ lo.map a.eval = some v' ∧ VR ρ v v' := by
      cases lo with
      | none => exact .inl ⟨rfl, rfl⟩
      | some l => exact .inr ⟨_, _, rfl, rfl, hE l (by simp [Op.operands])⟩
    have hhi : (hi.map E = none ∧ hi.map a.eval = none) ∨ ∃ v v', hi.map E = some v ∧ hi.map a.eval = some v' ∧ VR ρ v v' := by
      cases hi with
      | none => exact .inl ⟨rfl, rfl⟩
      | some l => exact .inr ⟨_, _, rfl, rfl, hE l (by simp [Op.operands])⟩
    cases hA : E x with
    | slice base n c =>
      rw [hA] at h hx
      simp only at h
      cases hs : evSlice P σ t (.slice base n c) (lo.map E) (hi.map E) with
      | none => rw [hs] at h; cases h
      | some v =>
        rw [hs] at h
        cases Option.some.inj h
        obtain ⟨v', h1, h2⟩ := slice_sound hr hx hlo hhi hs
        exact .value hr (by show ((do pure (Next.value (← Instr.sliceAt t (a.eval x) (lo.map a.eval) (hi.map a.eval) none))).run P w) = _; rw [Sem.run_bind, h1]; rfl) h2
    | _ => rw [hA] at h; exact hpl (fun _ _ e => by cases e) h
  | panic x =>
    have hx := hE x (by simp [Op.operands])
    simp only at h
    generalize hA : E x = vc at hx h
    generalize hB : a.eval x = vc' at hx
    cases hx with
    | iface q => cases Option.some.inj h; exact ⟨ρ, _, w, .refl ρ, by simp [execOp, hB, Instr.panic], hr, .refl w, .iface q⟩
    | _ => cases h
  | lookup xt x k ok =>
    simp only at h
    cases hl : evLookup P σ xt (E x) (E k) ok with
    | none => rw [hl] at h; cases h
    | some v =>
      rw [hl] at h
      cases Option.some.inj h
      obtain ⟨v', h1, h2⟩ := lookup_sound hz hr (hE x (by simp [Op.operands])) (hE k (by simp [Op.operands])) hl
      exact .value hr (by show ((do pure (Next.value (← Instr.lookup xt (a.eval x) (a.eval k) ok))).run P w) = _; rw [Sem.run_bind, h1]; rfl) h2
  | mapUpdate mt m k v =>
    simp only at h
    cases hl : evUpdate P σ mt (E m) (E k) (E v) with
    | none => rw [hl] at h; cases h
    | some σ1 =>
      rw [hl] at h
      cases Option.some.inj h
      obtain ⟨ρ', w', h1, h2, h3, h4⟩ := update_sound hr (hE m (by simp [Op.operands])) (hE k (by simp [Op.operands])) (hE v (by simp [Op.operands])) hl
      exact ⟨ρ', .skip, w', h1, by show ((do Instr.mapUpdate mt (a.eval m) (a.eval k) (a.eval v); pure Next.skip).run P w) = _; rw [Sem.run_bind, h2]; rfl, h3, h4, .skip⟩
  | insert mt m k v =>
    simp only at h
    cases hl : evUpdate P σ mt (E m) (E k) (E v) with
    | none => rw [hl] at h; cases h
    | some σ1 =>
      rw [hl] at h
      cases Option.some.inj h
      obtain ⟨ρ', w', h1, h2, h3, h4⟩ := update_sound hr (hE m (by simp [Op.operands])) (hE k (by simp [Op.operands])) (hE v (by simp [Op.operands])) hl
      exact ⟨ρ', .skip, w', h1, by show ((do Instr.mapUpdate mt (a.eval m) (a.eval k) (a.eval v); pure Next.skip).run P w) = _; rw [Sem.run_bind, h2]; rfl, h3, h4, .skip⟩
  | mapEntry mt m k =>
    simp only at h
    cases hl : evEntry P σ mt (E m) (E k) with
    | none => rw [hl] at h; cases h
    | some p =>
      obtain ⟨v, σ1⟩ := p
      rw [hl] at h
      cases Option.some.inj h
      obtain ⟨ρ', w', v', h1, h2, h3, h4, h5⟩ := entry_sound hz hr (hE m (by simp [Op.operands])) (hE k (by simp [Op.operands])) hl
      exact ⟨ρ', .value v', w', h1, by show ((do pure (Next.value (← Instr.mapEntry mt (a.eval m) (a.eval k)))).run P w) = _; rw [Sem.run_bind, h2]; rfl, h3, h4, .value h5⟩
  | entryStore mt m s v =>
    simp only at h
    cases hl : evEntryStore P σ (E m) (E s) (E v) with
    | none => rw [hl] at h; cases h
    | some σ1 =>
      rw [hl] at h
      cases Option.some.inj h
      obtain ⟨ρ', w', h1, h2, h3, h4⟩ := entryStore_sound (mt := mt) hr (hE m (by simp [Op.operands])) (hE s (by simp [Op.operands])) (hE v (by simp [Op.operands])) hl
      exact ⟨ρ', .skip, w', h1, by show ((do Instr.entryStore mt (a.eval m) (a.eval s) (a.eval v); pure Next.skip).run P w) = _; rw [Sem.run_bind, h2]; rfl, h3, h4, .skip⟩
  | makeMap t r => cases r with
    | none => exact (sim_value sim_makeMap).out hr h
    | some r => cases h
  | call c =>
    obtain ⟨callee, args, ts⟩ := c
    simp only at h
    cases callee with
    | value f => exact call_sound hn hr rfl hE h
    | invoke _ _ => cases h
    | builtin b => exact builtin_sound hr hE h
  | defer c =>
    obtain ⟨callee, args, ts⟩ := c
    simp only at h
    cases callee with
    | value f =>
      have hf := hE f (by simp [Op.operands, Call.operands])
      have hargs : VRs ρ (args.map E) (args.map a.eval) := .map _ _ _ fun x hx => hE x (by simp [Op.operands, Call.operands, hx])
      simp only at h
      generalize hA : E f = vc at hf h
      generalize hB : a.eval f = vc' at hf
      cases hf with
      | @func fn fn' f1 f1' c c' hfn q1 q2 q3 q4 =>
        cases Option.some.inj h
        exact ⟨ρ, .defer { target := .fn fn' c', args := f1' ++ args.map a.eval }, w, .refl ρ, by simp [execOp, resolve, hB, Deferred.ofValue], hr, .refl w, .defer ⟨.inl ⟨_, _, _, _, rfl, rfl, hfn, ⟨q3, q4⟩⟩, VRs.append ⟨q1, q2⟩ hargs⟩⟩
      | _ => cases h
    | _ => cases h
  | _ => cases h
end
end Go.Ev
/- Closed calls by evaluation, part K: frames. -/
namespace Go.Ev
structure Fr where
  t : T Value
  n : Nat
  defers : List Deferred
def Fr.tmp (A : Fr) (t : Nat) : Value :=
  match A.t.get t with
  | some v => v
  | none => undef
def Fr.eval (A : Fr) : Operand → Value
  | .tmp t => A.tmp t
  | .const v => v
  | .global g => .pointer (some ⟨g, 0, none⟩)
  | .func f => .func (.func f) #[] #[]
def Fr.put (A : Fr) (d : Option Tmp) (v : Value) : Fr :=
  match d with
  | none => A
  | some d => match Nat.blt d A.n with
    | true => { t := A.t.set d (some v), n := Nat.add A.n 0, defers := A.defers }
    | false => A
def wantedE (ops : List Oper) (o : Oper) (A : Fr) : Bool :=
  match o.guard with
  | none => true
  | some (g, b) => match nth ops g with
    | some o' => match o'.dst with
      | some d => match A.tmp d with
        | .bool x => x == b
        | _ => false
      | none => false
    | none => false
structure FrR (ρ : Ren) (A : Fr) (a : Act) : Prop where
  n : A.n = a.tmps.size
  tmp : ∀ t, VR ρ (A.tmp t) (a.tmps.getD t undef)
  dl : A.defers.length = a.defers.length
  defers : ∀ (i : Nat) (d d' : Deferred), A.defers[i]? = some d → a.defers[i]? = some d' → DR ρ d d'
theorem DR.mono {ρ ρ' : Ren} (h : ρ.le ρ') {d d' : Deferred} (k : DR ρ d d') : DR ρ' d d' := by
  refine ⟨?_, k.args.mono h⟩
  rcases k.target with ⟨fn, fn', c, c', h1, h2, h3, h4⟩ | h1 | h1
  · exact .inl ⟨fn, fn', c, c', h1, h2, h3.mono h, h4.mono h⟩
  · exact .inr (.inl h1)
  · exact .inr (.inr h1)
section
variable {P : Program} {ρ : Ren}
theorem FrR.mono {ρ' : Ren} (h : ρ.le ρ') {A : Fr} {a : Act} (k : FrR ρ A a) : FrR ρ' A a := ⟨k.n, fun t => (k.tmp t).mono h, k.dl, fun i d d' h1 h2 => (k.defers i d d' h1 h2).mono h⟩
theorem Fr.put_tmp {A : Fr} {d : Nat} (hd : d < A.n) (v : Value) (t : Nat) : (A.put (some d) v).tmp t = if t = d then v else A.tmp t := by
  have h1 : Nat.blt d A.n = true := by simpa using hd
  unfold Fr.put
  simp only [h1]
  unfold Fr.tmp
  simp only [T.get_set]
  by_cases e : t = d
  · rw [if_pos e, if_pos e]
  · rw [if_neg e, if_neg e]
theorem FrR.put {A : Fr} {a : Act} (h : FrR ρ A a) (d : Option Tmp) {v v' : Value} (hv : VR ρ v v') : FrR ρ (A.put d v) (a.put d v') := by
  cases d with
  | none => exact h
  | some d =>
    by_cases hd : d < A.n
    · refine ⟨?_, fun t => ?_, ?_, ?_⟩
      · have h1 : Nat.blt d A.n = true := by simpa using hd
        simp only [Fr.put, h1, Act.put, Array.size_setIfInBounds]
        exact h.n
      · rw [Fr.put_tmp hd]
        show VR ρ _ ((a.tmps.setIfInBounds d v').getD t undef)
        rw [Array.getD_eq_getD_getElem?, Array.getElem?_setIfInBounds]
        by_cases e : t = d
        · subst e
          rw [if_pos rfl, if_pos rfl, if_pos (by rw [← h.n]; exact hd)]
          exact hv
        · rw [if_neg e, if_neg (fun q => e q.symm), ← Array.getD_eq_getD_getElem?]
          exact h.tmp t
      · have h1 : Nat.blt d A.n = true := by simpa using hd
        simp only [Fr.put, h1, Act.put]
        exact h.dl
      · have h1 : Nat.blt d A.n = true := by simpa using hd
        simp only [Fr.put, h1, Act.put]
        exact h.defers
    · have h1 : Nat.blt d A.n = false := by rw [← Bool.not_eq_true]; simpa using hd
      have e1 : A.put (some d) v = A := by unfold Fr.put; simp only [h1]
      have e2 : a.put (some d) v' = a := by
        show ({ a with tmps := a.tmps.setIfInBounds d v' } : Act) = a
        have : a.tmps.setIfInBounds d v' = a.tmps := Array.setIfInBounds_eq_of_size_le (by rw [← h.n]; exact Nat.le_of_not_lt hd)
        rw [this]
      rw [e1, e2]; exact h
theorem FrR.eval {A : Fr} {a : Act} (h : FrR ρ A a) {σ : St} {w : World} (hr : Rel ρ σ w) {x : Operand} (hx : okOperand σ.glob x = true) : VR ρ (A.eval x) (a.eval x) := by
  cases x with
  | tmp t => exact h.tmp t
  | const v => exact plain_refl 6 v hx
  | global g => exact .ptr (hr.glob g (by simpa [okOperand] using hx))
  | func f => exact .func (.func f) rfl (fun i v v' h1 => by simp at h1) rfl fun i v v' h1 => by simp at h1
theorem FrR.wanted {A : Fr} {a : Act} (h : FrR ρ A a) (ops : Array Oper) (o : Oper) : Region.wanted o (yielded ops a.tmps) = wantedE ops.toList o A := by
  unfold Region.wanted wantedE
  cases o.guard with
  | none => rfl
  | some g =>
    obtain ⟨g, b⟩ := g
    simp only [nth_eq, Array.getElem?_toList]
    unfold yielded
    cases ops[g]? with
    | none => rfl
    | some o' =>
      simp only [Option.bind_some]
      cases o'.dst with
      | none => rfl
      | some d =>
        simp only [Option.bind_some]
        have hv := h.tmp d
        rw [Array.getD_eq_getD_getElem?] at hv
        cases ht : a.tmps[d]? with
        | none =>
          rw [ht] at hv
          simp only [Option.getD_none] at hv
          generalize A.tmp d = u at hv
          cases hv
          rfl
        | some v' =>
          rw [ht] at hv
          simp only [Option.getD_some] at hv
          generalize A.tmp d = u at hv
          cases hv with
          | bool x => cases x <;> cases b <;> rfl
          | _ => rfl
end
/-- the slots at a call -/
def fillF : List Value → Nat → T Value → T Value
  | [], _, t => t
  | v :: l, i, t => fillF l (i + 1) (t.set i (some v))
theorem fillF_get : ∀ (l : List Value) (i : Nat) (t : T Value) (j : Nat), (fillF l i t).get j = if i ≤ j ∧ j < i + l.length then l[j - i]? else t.get j := by
  intro l
  induction l with
  | nil => intro i t j; rw [if_neg (by simp)]; rfl
  | cons v l ih =>
    intro i t j
    simp only [fillF]
    rw [ih, T.get_set]
    by_cases h1 : i + 1 ≤ j ∧ j < i + 1 + l.length
    · rw [if_pos h1, if_pos (by simp only [List.length_cons]; omega)]
      have : j - i = (j - (i + 1)) + 1 := by omega
      rw [this, List.getElem?_cons_succ]
    · rw [if_neg h1]
      by_cases h2 : j = i
      · rw [if_pos h2, if_pos (by simp only [List.length_cons]; omega)]
        subst h2
        simp
      · rw [if_neg h2, if_neg (by simp only [List.length_cons]; omega)]
def Fr.enter (args : List Value) (n : Nat) : Fr := { t := fillF args 0 .leaf, n := n, defers := [] }
theorem FrR.enter {ρ : Ren} {args args' : Array Value} (h : VRs ρ args args') {n : Nat} (hn : args.size ≤ n) : FrR ρ (Fr.enter args.toList n) { tmps := args' ++ Array.replicate (n - args'.size) undef, defers := [] } := by
  refine ⟨?_, fun t => ?_, rfl, fun i d d' h1 => by simp [Fr.enter] at h1⟩
  · simp only [Fr.enter, Array.size_append, Array.size_replicate]
    rw [← h.size]; omega
  · unfold Fr.tmp Fr.enter
    simp only [fillF_get]
    rw [Array.getD_eq_getD_getElem?, Array.getElem?_append]
    by_cases ht : t < args.size
    · rw [if_pos (by simp only [Array.length_toList]; omega), if_pos (by rw [← h.size]; exact ht)]
      simp only [Nat.sub_zero, Array.getElem?_toList]
      rw [Array.getElem?_eq_getElem ht, Array.getElem?_eq_getElem (show t < args'.size by rw [← h.size]; exact ht)]
      exact h.get t _ _ (Array.getElem?_eq_getElem ht) (Array.getElem?_eq_getElem _)
    · rw [if_neg (by simp only [Array.length_toList]; omega), if_neg (by rw [← h.size]; exact ht)]
      rw [Array.getElem?_replicate]
      have e1 : (T.leaf : T Value).get t = none := rfl
      rw [e1]
      show VR ρ undef _
      by_cases hq : t - args'.size < n - args'.size
      · rw [if_pos hq]; exact undef_VR ρ
      · rw [if_neg hq]; exact undef_VR ρ
end Go.Ev
/- Closed calls by evaluation, part L: code, where regions go in the order of the text. -/
namespace Go.Ev
inductive Ex where
  | normal
  | exit (id : Nat)
  | ret
  | panic (v : Value)
inductive Er where
  | ret (v : Value) (σ : St)
  | panic (v : Value) (σ : St)
inductive ExR (ρ : Ren) : Ex → Exit → Prop where
  | normal : ExR ρ .normal .normal
  | exit (id : Nat) : ExR ρ (.exit id) (.exit id)
  | ret : ExR ρ .ret .ret
  | panic {v v' : Value} (h : VR ρ v v') : ExR ρ (.panic v) (.panic [{ v := v', recovered := false }])
structure Since (ρ0 : Ren) (σ0 : St) (w0 : World) (ρ : Ren) (σ : St) (w : World) : Prop where
  le : ρ0.le ρ
  keep : Keep ρ0 σ0 ρ σ w0 w
theorem Since.refl (ρ : Ren) (σ : St) (w : World) : Since ρ σ w ρ σ w := ⟨.refl ρ, .refl w⟩
theorem Since.trans {ρ0 ρ1 ρ2 : Ren} {σ0 σ1 σ2 : St} {w0 w1 w2 : World} (h : Since ρ0 σ0 w0 ρ1 σ1 w1) (k : Since ρ1 σ1 w1 ρ2 σ2 w2) : Since ρ0 σ0 w0 ρ2 σ2 w2 := ⟨h.le.trans k.le, h.keep.trans k.keep⟩
def PostR (ρ0 : Ren) (σ0 : St) (w0 : World) (x : Ex) (A' : Fr) (σ' : St) (e : Exit) (a' : Act) (w' : World) : Prop :=
  ∃ ρ', ExR ρ' x e ∧ FrR ρ' A' a' ∧ Rel ρ' σ' w' ∧ Since ρ0 σ0 w0 ρ' σ' w'
def EndR (ρ0 : Ren) (σ0 : St) (w0 : World) (r : Er) (e : Ending) (w' : World) : Prop :=
  match r with
  | .ret v σ' => ∃ ρ' v', e = .returned v' ∧ VR ρ' v v' ∧ Rel ρ' σ' w' ∧ Since ρ0 σ0 w0 ρ' σ' w'
  | .panic v σ' => ∃ ρ' v', e = .panicked [{ v := v', recovered := false }] ∧ VR ρ' v v' ∧ Rel ρ' σ' w' ∧ Since ρ0 σ0 w0 ρ' σ' w'
def CallSound (P : Program) (f : FuncId) (args : Array Value) (σ : St) (r : Er) : Prop :=
  ∀ ρ args' w, VRs ρ args args' → Rel ρ σ w → Calls P f args' w (EndR ρ σ w r)
structure Sums (P : Program) where
  f : FuncId → Option (Array Value → St → Option Er)
  ok : ∀ g s, f g = some s → ∀ args σ r, s args σ = some r → CallSound P g args σ r
/-- the list of operations, one behind the other; 'call' runs a function -/
def evOps (P : Program) (call : FuncId → Array Value → St → Option Er) (ops : List Oper) : List Oper → Fr → St → Option (Ex × Fr × St)
  | [], A, σ => some (.normal, A, σ)
  | o :: l, A, σ => match wantedE ops o A with
    | false => evOps P call ops l (A.put o.dst undef) σ
    | true => match evOp P A.eval σ o with
      | some (.ok (.value v) σ) => evOps P call ops l (A.put o.dst v) σ
      | some (.ok .skip σ) => evOps P call ops l (A.put o.dst undef) σ
      | some (.ok (.defer d) σ) => evOps P call ops l ({ A with defers := d :: A.defers }.put o.dst undef) σ
      | some (.ok (.enter g args) σ) => match call g args σ with
        | some (.ret v σ) => evOps P call ops l (A.put o.dst v) σ
        | some (.panic v σ) => some (.panic v, A, σ)
        | none => none
      | some (.panic v σ) => some (.panic v, A, σ)
      | _ => none
/-- code; 'call' runs a function, 'draw' a region that draws its order -/
def evC (P : Program) (call : FuncId → Array Value → St → Option Er) (draw : List Oper → Fr → St → Option (Ex × Fr × St)) : Nat → Code → Fr → St → Option (Ex × Fr × St)
  | 0, _, _, _ => none
  | f + 1, c, A, σ => match c with
    | .skip => some (.normal, A, σ)
    | .seq x y => match evC P call draw f x A σ with
      | some (.normal, A, σ) => evC P call draw f y A σ
      | r => r
    | .cond c x y => match A.eval c with
      | .bool true => evC P call draw f x A σ
      | .bool false => evC P call draw f y A σ
      | _ => none
    | .block id b => match evC P call draw f b A σ with
      | some (.exit id', A, σ) => match Nat.beq id' id with
        | true => some (.normal, A, σ)
        | false => some (.exit id', A, σ)
      | r => r
    | .loop b => match evC P call draw f b A σ with
      | some (.normal, A, σ) => evC P call draw f (.loop b) A σ
      | r => r
    | .exit id => some (.exit id, A, σ)
    | .ret => some (.ret, A, σ)
    | .region _ ops d => match d with
      | false => evOps P call ops.toList ops.toList A σ
      | true => draw ops.toList A σ
    | _ => none
section
variable {P : Program} {ρ0 : Ren} {σ0 : St} {w0 : World}
theorem EndR.since {ρ : Ren} {σ : St} {w : World} (h : Since ρ0 σ0 w0 ρ σ w) {r : Er} {e : Ending} {w' : World} (k : EndR ρ σ w r e w') : EndR ρ0 σ0 w0 r e w' := by
  cases r with
  | ret v σ' => obtain ⟨ρ', v', h1, h2, h3, h4⟩ := k; exact ⟨ρ', v', h1, h2, h3, h.trans h4⟩
  | panic v σ' => obtain ⟨ρ', v', h1, h2, h3, h4⟩ := k; exact ⟨ρ', v', h1, h2, h3, h.trans h4⟩
theorem ops_sound (hz : ZeroOk P) (hn : ∀ (f : Nat) (fn : Func), P.funcs[f]? = some fn → (fn.name == "runtime.NumGoroutine") = false) {call : FuncId → Array Value → St → Option Er} (hc : ∀ g args σ r, call g args σ = some r → CallSound P g args σ r) (ops : Array Oper) {x : Ex} {A' : Fr} {σ' : St} :
    ∀ (l : List Oper) (i : Nat) (A : Fr) (σ : St), ops.toList.drop i = l → evOps P call ops.toList l A σ = some (x, A', σ') → ∀ (ρ : Ren) (a : Act) (w : World), FrR ρ A a → Rel ρ σ w → Since ρ0 σ0 w0 ρ σ w →
      wpOps P ops (PostR ρ0 σ0 w0 x A' σ') (List.range' i l.length) a w := by
  intro l
  induction l with
  | nil =>
    intro i A σ hl h ρ a w hf hr hs
    cases Option.some.inj h
    exact ⟨ρ, .normal, hf, hr, hs⟩
  | cons o l ih =>
    intro i A σ hl h ρ a w hf hr hs
    have hio : ops[i]? = some o := by
      have : (ops.toList.drop i)[0]? = some o := by rw [hl]; rfl
      rw [List.getElem?_drop] at this
      simpa using this
    have hl2 : ops.toList.drop (i + 1) = l := by
      rw [← List.tail_drop, hl]; rfl
    show wpOps P ops _ (i :: List.range' (i + 1) l.length) a w
    simp only [wpOps, hio]
    rw [hf.wanted ops o]
    unfold evOps at h
    cases hw : wantedE ops.toList o A with
    | false =>
      rw [hw] at h
      rw [if_neg (by simp)]
      exact ih (i + 1) _ _ hl2 h ρ _ w (hf.put _ (undef_VR ρ)) hr hs
    | true =>
      rw [hw] at h
      rw [if_pos rfl]
      left
      cases ho : evOp P A.eval σ o with
      | none => rw [ho] at h; cases h
      | some r =>
        rw [ho] at h
        have hout := op_sound hz hn hr (fun x _ hx => hf.eval hr hx) ho
        unfold Oper.wp
        generalize (execOp a.eval o).run P w = real at hout
        cases r with
        | panic v σ1 =>
          obtain ⟨ρ1, v', w1, hle, rfl, hr1, hk1, hv⟩ := hout
          cases Option.some.inj h
          exact ⟨ρ1, .panic hv, hf.mono hle, hr1, hs.trans ⟨hle, hk1⟩⟩
        | ok n σ1 =>
          obtain ⟨ρ1, n', w1, hle, rfl, hr1, hk1, hn1⟩ := hout
          have hs1 := hs.trans ⟨hle, hk1⟩
          cases hn1 with
          | value hv => exact ih (i + 1) _ _ hl2 h ρ1 _ w1 ((hf.mono hle).put _ hv) hr1 hs1
          | skip => exact ih (i + 1) _ _ hl2 h ρ1 _ w1 ((hf.mono hle).put _ (undef_VR ρ1)) hr1 hs1
          | @defer d d' hd =>
            have hf1 := hf.mono hle
            refine ih (i + 1) _ _ hl2 h ρ1 _ w1 (FrR.put (A := { A with defers := d :: A.defers }) (a := { a with defers := d' :: a.defers }) ⟨hf1.n, hf1.tmp, by simp [hf1.dl], fun j q q' h1 h2 => ?_⟩ _ (undef_VR ρ1)) hr1 hs1
            cases j with
            | zero => simp at h1 h2; rw [← h1, ← h2]; exact hd
            | succ j => exact hf1.defers j q q' (by simpa using h1) (by simpa using h2)
          | recover => cases h
          | @enter g args args' ha =>
            simp only at h
            cases hcl : call g args σ1 with
            | none => rw [hcl] at h; cases h
            | some er =>
              rw [hcl] at h
              refine (hc g args σ1 er hcl ρ1 args' w1 ha hr1).mono fun e w2 he => ?_
              cases er with
              | ret v σ2 =>
                obtain ⟨ρ2, v', rfl, hv, hr2, hs2⟩ := he
                exact ih (i + 1) _ _ hl2 h ρ2 _ w2 (((hf.mono hle).mono hs2.le).put _ hv) hr2 (hs1.trans hs2)
              | panic v σ2 =>
                obtain ⟨ρ2, v', rfl, hv, hr2, hs2⟩ := he
                cases Option.some.inj h
                exact ⟨ρ2, .panic hv, (hf.mono hle).mono hs2.le, hr2, hs1.trans hs2⟩
theorem least_ex {p : Nat → Prop} (h : ∃ m, p m) : ∃ m, p m ∧ ∀ k, p k → m ≤ k := by
  obtain ⟨m, hm⟩ := h
  induction m using Nat.strongRecOn with
  | _ m ih =>
    by_cases h : ∃ k, k < m ∧ p k
    · obtain ⟨k, h1, h2⟩ := h; exact ih k h1 h2
    · exact ⟨m, hm, fun k hk => Nat.le_of_not_lt fun hl => h ⟨k, hl, hk⟩⟩
def DrawSound (P : Program) (draw : List Oper → Fr → St → Option (Ex × Fr × St)) : Prop :=
  ∀ (id : Nat) (ops : Array Oper) (A : Fr) (σ : St) (x : Ex) (A' : Fr) (σ' : St), draw ops.toList A σ = some (x, A', σ') → ∀ (ρ0 : Ren) (σ0 : St) (w0 : World) (ρ : Ren) (a : Act) (w : World), FrR ρ A a → Rel ρ σ w → Since ρ0 σ0 w0 ρ σ w →
    (Code.region id ops true).wp P (PostR ρ0 σ0 w0 x A' σ') a w
theorem code_sound (hz : ZeroOk P) (hn : ∀ (f : Nat) (fn : Func), P.funcs[f]? = some fn → (fn.name == "runtime.NumGoroutine") = false) {call : FuncId → Array Value → St → Option Er} (hc : ∀ g args σ r, call g args σ = some r → CallSound P g args σ r)
    {draw : List Oper → Fr → St → Option (Ex × Fr × St)} (hd : DrawSound P draw) :
    ∀ (n : Nat) (c : Code) (A : Fr) (σ : St) (x : Ex) (A' : Fr) (σ' : St), evC P call draw n c A σ = some (x, A', σ') → ∀ (ρ0 : Ren) (σ0 : St) (w0 : World) (ρ : Ren) (a : Act) (w : World), FrR ρ A a → Rel ρ σ w → Since ρ0 σ0 w0 ρ σ w →
      c.wp P (PostR ρ0 σ0 w0 x A' σ') a w := by
  intro n
  induction n using Nat.strongRecOn with
  | _ n ih =>
  intro c A σ x A' σ' h ρ0 σ0 w0 ρ a w hf hr hs
  cases n with
  | zero => cases h
  | succ f =>
  unfold evC at h
  cases c with
  | skip => cases Option.some.inj h; exact wp_skip ⟨ρ, .normal, hf, hr, hs⟩
  | exit id => cases Option.some.inj h; exact wp_exit ⟨ρ, .exit id, hf, hr, hs⟩
  | ret => cases Option.some.inj h; exact wp_ret ⟨ρ, .ret, hf, hr, hs⟩
  | seq c1 c2 =>
    simp only at h
    cases h1 : evC P call draw f c1 A σ with
    | none => rw [h1] at h; cases h
    | some r =>
      obtain ⟨x1, A1, σ1⟩ := r
      rw [h1] at h
      refine wp_seq (wp_mono (ih f (Nat.lt_succ_self f) c1 A σ x1 A1 σ1 h1 ρ0 σ0 w0 ρ a w hf hr hs) ?_)
      rintro e a1 w1 ⟨ρ1, he, hf1, hr1, hs1⟩
      cases he with
      | normal => exact ih f (Nat.lt_succ_self f) c2 A1 σ1 x A' σ' h ρ0 σ0 w0 ρ1 a1 w1 hf1 hr1 hs1
      | exit id => cases Option.some.inj h; exact ⟨ρ1, .exit id, hf1, hr1, hs1⟩
      | ret => cases Option.some.inj h; exact ⟨ρ1, .ret, hf1, hr1, hs1⟩
      | panic hv => cases Option.some.inj h; exact ⟨ρ1, .panic hv, hf1, hr1, hs1⟩
  | cond c x1 y1 =>
    simp only at h
    have hev : ∀ t : Bool, A.eval c = .bool t → a.eval c = .bool t := by
      intro t ht
      cases c with
      | tmp s =>
        have hv := hf.tmp s
        have ht : A.tmp s = .bool t := ht
        rw [ht] at hv
        show a.tmps.getD s undef = .bool t
        generalize a.tmps.getD s undef = u at hv
        cases hv
        rfl
      | const v => exact ht
      | global g => cases ht
      | func g => cases ht
    cases hA : A.eval c with
    | bool t =>
      rw [hA] at h
      cases t with
      | true => exact wp_cond_true (hev _ hA) (ih f (Nat.lt_succ_self f) x1 A σ x A' σ' h ρ0 σ0 w0 ρ a w hf hr hs)
      | false => exact wp_cond_false (hev _ hA) (ih f (Nat.lt_succ_self f) y1 A σ x A' σ' h ρ0 σ0 w0 ρ a w hf hr hs)
    | _ => rw [hA] at h; cases h
  | block id b =>
    simp only at h
    cases h1 : evC P call draw f b A σ with
    | none => rw [h1] at h; cases h
    | some r =>
      obtain ⟨x1, A1, σ1⟩ := r
      rw [h1] at h
      refine wp_block (wp_mono (ih f (Nat.lt_succ_self f) b A σ x1 A1 σ1 h1 ρ0 σ0 w0 ρ a w hf hr hs) ?_)
      rintro e a1 w1 ⟨ρ1, he, hf1, hr1, hs1⟩
      cases he with
      | normal => cases Option.some.inj h; exact ⟨ρ1, .normal, hf1, hr1, hs1⟩
      | ret => cases Option.some.inj h; exact ⟨ρ1, .ret, hf1, hr1, hs1⟩
      | panic hv => cases Option.some.inj h; exact ⟨ρ1, .panic hv, hf1, hr1, hs1⟩
      | exit id' =>
        simp only at h
        show if id' = id then _ else _
        cases hb : Nat.beq id' id with
        | true =>
          rw [hb] at h
          cases Option.some.inj h
          rw [if_pos (Nat.eq_of_beq_eq_true hb)]
          exact ⟨ρ1, .normal, hf1, hr1, hs1⟩
        | false =>
          rw [hb] at h
          cases Option.some.inj h
          rw [if_neg (Nat.ne_of_beq_eq_false hb)]
          exact ⟨ρ1, .exit id', hf1, hr1, hs1⟩
  | loop b =>
    let R : Nat → Act → World → Prop := fun m a w => ∃ A σ ρ, evC P call draw m (.loop b) A σ = some (x, A', σ') ∧ FrR ρ A a ∧ Rel ρ σ w ∧ Since ρ0 σ0 w0 ρ σ w ∧ m ≤ f + 1
    have hR : R (f + 1) a w := ⟨A, σ, ρ, by unfold evC; exact h, hf, hr, hs, Nat.le_refl _⟩
    have hmin : ∀ a w, (∃ m, R m a w) → R (Classical.epsilon fun m => R m a w ∧ ∀ k, R k a w → m ≤ k) a w ∧ ∀ k, R k a w → (Classical.epsilon fun m => R m a w ∧ ∀ k, R k a w → m ≤ k) ≤ k := fun a w hex => Classical.epsilon_spec (p := fun m => R m a w ∧ ∀ k, R k a w → m ≤ k) (least_ex hex)
    refine wp_loop (fun a w => ∃ m, R m a w) (fun a w => Classical.epsilon fun m => R m a w ∧ ∀ k, R k a w → m ≤ k) ⟨_, hR⟩ ?_
    intro a w hex
    obtain ⟨hm, hle⟩ := hmin a w hex
    generalize (Classical.epsilon fun m => R m a w ∧ ∀ k, R k a w → m ≤ k) = m at hm hle ⊢
    obtain ⟨A, σ, ρ, h, hf, hr, hs, hmf⟩ := hm
    cases m with
    | zero => cases h
    | succ m =>
    unfold evC at h
    simp only at h
    cases h1 : evC P call draw m b A σ with
    | none => rw [h1] at h; cases h
    | some r =>
      obtain ⟨x1, A1, σ1⟩ := r
      rw [h1] at h
      refine wp_mono (ih m (by omega) b A σ x1 A1 σ1 h1 ρ0 σ0 w0 ρ a w hf hr hs) ?_
      rintro e a1 w1 ⟨ρ1, he, hf1, hr1, hs1⟩
      cases he with
      | normal =>
        have hR1 : R m a1 w1 := ⟨A1, σ1, ρ1, h, hf1, hr1, hs1, by omega⟩
        exact ⟨⟨m, hR1⟩, Nat.lt_succ_of_le ((hmin a1 w1 ⟨m, hR1⟩).2 m hR1)⟩
      | exit id => cases Option.some.inj h; exact ⟨ρ1, .exit id, hf1, hr1, hs1⟩
      | ret => cases Option.some.inj h; exact ⟨ρ1, .ret, hf1, hr1, hs1⟩
      | panic hv => cases Option.some.inj h; exact ⟨ρ1, .panic hv, hf1, hr1, hs1⟩
  | region id ops d =>
    cases d with
    | false =>
      refine wp_region ?_
      have := ops_sound hz hn hc ops (x := x) (A' := A') (σ' := σ') (ρ0 := ρ0) (σ0 := σ0) (w0 := w0) ops.toList 0 A σ (by simp) h ρ a w hf hr hs
      rw [Array.length_toList] at this
      rw [List.range_eq_range']
      exact this
    | true => exact hd id ops A σ x A' σ' h ρ0 σ0 w0 ρ a w hf hr hs
  | _ => cases h
end
end Go.Ev
/- Closed calls by evaluation, part M: operations that leave memory alone, and operations that make one block. -/
namespace Go.Ev
def QSim (P : Program) {α α' : Type} (s : Sem α) (s' : Sem α') (ρ : Ren) (Q : α → α' → Prop) : Prop :=
  ∀ (σ : St) (w : World), Rel ρ σ w → ∀ x σ', runA P s σ = some (.ok x σ') → σ' = σ ∧ ∃ x', s'.run P w = .ok x' w ∧ Q x x'
section
variable {P : Program} {α α' β β' : Type} {ρ : Ren}
theorem q_pure {x : α} {x' : α'} {Q : α → α' → Prop} (h : Q x x') : QSim P (pure x) (pure x') ρ Q := by
  intro σ w hr y σ' he
  cases Option.some.inj (show some (Rs.ok x σ) = some (Rs.ok y σ') from he)
  exact ⟨rfl, x', rfl, h⟩
theorem q_bind {s : Sem α} {s' : Sem α'} {k : α → Sem β} {k' : α' → Sem β'} {Q : α → α' → Prop} {Q2 : β → β' → Prop} (h : QSim P s s' ρ Q) (hk : ∀ x x', Q x x' → QSim P (k x) (k' x') ρ Q2) : QSim P (s >>= k) (s' >>= k') ρ Q2 := by
  intro σ w hr y σ' he
  change runA P (s.bind k) σ = _ at he
  rw [runA_bind] at he
  cases hs : runA P s σ with
  | none => rw [hs] at he; cases he
  | some r =>
    rw [hs] at he
    cases r with
    | panic v τ => cases he
    | ok x τ =>
      obtain ⟨rfl, x', h1, h2⟩ := h σ w hr x τ hs
      obtain ⟨rfl, y', h3, h4⟩ := hk x x' h2 τ w hr y σ' he
      exact ⟨rfl, y', by rw [Sem.run_bind, h1]; exact h3, h4⟩
theorem q_none {s : Sem α} {s' : Sem α'} {Q : α → α' → Prop} (h : ∀ σ x σ', runA P s σ ≠ some (.ok x σ')) : QSim P s s' ρ Q := fun σ _ _ x σ' he => absurd he (h σ x σ')
theorem q_stuck {why : String} {s' : Sem α'} {Q : α → α' → Prop} : QSim P (stuck why : Sem α) s' ρ Q := q_none fun _ _ _ h => by cases h
theorem q_unsupported {u : Unsupported} {s' : Sem α'} {Q : α → α' → Prop} : QSim P (unsupported u : Sem α) s' ρ Q := q_none fun _ _ _ h => by cases h
theorem q_typeInfo {t : TypeId} : QSim P (typeInfo t) (typeInfo t) ρ fun x x' => x' = x ∧ P.info? t = some x := by
  intro σ w hr x σ' he
  change runA P (match P.info? t with | some i => (pure i : Sem TypeInfo) | none => stuck "no such type") σ = _ at he
  cases hi : P.info? t with
  | none => rw [hi] at he; cases he
  | some i =>
    rw [hi] at he
    cases Option.some.inj he
    exact ⟨rfl, x, by simp [typeInfo, hi], rfl, rfl⟩
theorem q_underlying {t : TypeId} : QSim P (underlying t) (underlying t) ρ fun x x' => x' = x ∧ P.underlying t = some x := by
  intro σ w hr x σ' he
  change runA P (match P.underlying t with | some i => (pure i : Sem TypeDesc) | none => stuck "no such type") σ = _ at he
  cases hi : P.underlying t with
  | none => rw [hi] at he; cases he
  | some i =>
    rw [hi] at he
    cases Option.some.inj he
    exact ⟨rfl, x, run_underlying hi w, rfl, rfl⟩
theorem q_sizeOf {t : TypeId} : QSim P (sizeOf t) (sizeOf t) ρ fun x x' => x' = x := q_bind q_typeInfo fun x x' h => by rw [h.1]; exact q_pure rfl
theorem q_isAgg {t : TypeId} : QSim P (isAgg t) (isAgg t) ρ fun x x' => x' = x := q_bind q_underlying fun x x' h => by rw [h.1]; split <;> exact q_pure rfl
theorem q_if {c : Bool} {s t : Sem α} {s' t' : Sem α'} {Q : α → α' → Prop} (h1 : c = true → QSim P s s' ρ Q) (h2 : c = false → QSim P t t' ρ Q) : QSim P (if c = true then s else t) (if c = true then s' else t') ρ Q := by
  cases c
  · simpa using h2 rfl
  · simpa using h1 rfl
theorem q_ite {c : Prop} [Decidable c] {s t : Sem α} {s' t' : Sem α'} {Q : α → α' → Prop} (h1 : c → QSim P s s' ρ Q) (h2 : ¬ c → QSim P t t' ρ Q) : QSim P (if c then s else t) (if c then s' else t') ρ Q := by
  by_cases h : c
  · rw [if_pos h, if_pos h]; exact h1 h
  · rw [if_neg h, if_neg h]; exact h2 h
theorem q_zeroValue (hz : ZeroOk P) {t : TypeId} : QSim P (zeroValue t) (zeroValue t) ρ (VR ρ) := q_bind q_typeInfo fun i i' h => by
  obtain ⟨rfl, hi⟩ := h
  split
  · rename_i v hv; exact q_pure (hz _ _ _ hi hv ρ)
  · exact q_unsupported
theorem q_load {a a' : Addr} (h : AdR ρ a a') : QSim P (load a) (load a') ρ (VR ρ) := by
  intro σ w hr x σ' he
  obtain ⟨v, v', h1, h2, h3⟩ := load_run h hr he
  cases h1
  exact ⟨rfl, v', h2, h3⟩
theorem q_loadCells {a a' : Addr} (n : Nat) (h : AdR ρ a a') : QSim P (loadCells a n) (loadCells a' n) ρ (VRs ρ) := by
  intro σ w hr x σ' he
  obtain ⟨cs, cs', h1, h2, h3, -⟩ := loads_run h hr n 0 #[] #[] _ (.empty ρ) he
  cases h1
  exact ⟨rfl, cs', h2, h3⟩
theorem q_loadVar {t : TypeId} {a a' : Addr} (h : AdR ρ a a') : QSim P (loadVar t a) (loadVar t a') ρ (VR ρ) :=
  q_bind q_isAgg fun x x' hx => by
    subst hx
    refine q_if (fun _ => ?_) fun _ => q_load h
    exact q_bind q_sizeOf fun n n' hn => by
      subst hn
      exact q_bind (q_loadCells _ h) fun cs cs' hc => q_pure hc.agg
theorem q_sureAddr {v v' : Value} (h : VR ρ v v') : QSim P (Instr.sureAddr v) (Instr.sureAddr v') ρ (AdR ρ) := by
  cases h with
  | ptr h1 => exact q_pure ⟨rfl, rfl, rfl, h1⟩
  | _ => exact q_stuck
theorem q_loadAt {t : TypeId} {v v' : Value} (h : VR ρ v v') : QSim P (Instr.loadAt t v) (Instr.loadAt t v') ρ (VR ρ) := q_bind (q_sureAddr h) fun _ _ ha => q_loadVar ha
theorem q_part {t : TypeId} {cs cs' : Array Value} (off : Nat) (h : VRs ρ cs cs') : QSim P (part t cs off) (part t cs' off) ρ (VR ρ) :=
  q_bind q_isAgg fun x x' hx => by
    subst hx
    refine q_if (fun _ => ?_) fun _ => ?_
    · exact q_bind q_sizeOf fun n n' hn => by subst hn; exact q_pure (h.extract _ _).agg
    · cases hc : cs[off]? with
      | none => exact q_stuck
      | some v => obtain ⟨v', h1, h2⟩ := h.to hc; rw [h1]; exact q_pure h2
theorem q_asIntOf {v v' : Value} (h : VR ρ v v') : QSim P (asIntOf v) (asIntOf v') ρ fun x x' => x' = x := by
  cases h <;> first | exact q_pure rfl | exact q_unsupported | exact q_stuck
theorem q_asAgg {v v' : Value} (h : VR ρ v v') : QSim P (asAgg v) (asAgg v') ρ (VRs ρ) := by
  cases h <;> first | exact q_pure ⟨by assumption, by assumption⟩ | exact q_stuck
theorem q_makeInterface {t : TypeId} {v v' : Value} (h : VR ρ v v') : QSim P (Instr.makeInterface t v) (Instr.makeInterface t v') ρ (VR ρ) := by
  refine q_bind q_underlying fun d d' hd => ?_
  obtain ⟨rfl, -⟩ := hd
  split
  · exact q_stuck
  · exact q_pure (.iface h)
theorem q_field {t : TypeId} {v v' : Value} {f : Nat} (h : VR ρ v v') : QSim P (Instr.field t v f) (Instr.field t v' f) ρ (VR ρ) := by
  refine q_bind q_underlying fun d d' hd => ?_
  obtain ⟨rfl, -⟩ := hd
  split
  · split
    · exact q_bind (q_asAgg h) fun _ _ hc => q_part _ hc
    · exact q_stuck
  · exact q_stuck
theorem q_bounds {α : Type} {k : IntKind} {x y : Int} {c : BoundsCode} {s' : Sem α} {Q : α → α → Prop} : QSim P (boundsPanic k x y c : Sem α) s' ρ Q := by
  refine q_none fun σ z σ' he => ?_
  unfold boundsPanic at he
  dsimp only at he
  have key : ∀ (s : Bool) (τ : St) (x1 : α), runA P (runtimePanic (.bounds (IntKind.i64.wrap x) y s c) : Sem α) τ ≠ some (.ok x1 σ') := fun s τ x1 h => by cases h
  split at he
  · rw [map_eq_pure_bind] at he
    change runA P (((choose _).bind _).bind _) σ = _ at he
    rw [runA_bind, runA_bind] at he
    cases hq : runA P (choose (Question.extern "runtime.boundsError.signed" 2)) σ with
    | none => rw [hq] at he; cases he
    | some r => cases hq
  · exact key _ _ _ he
theorem q_indexAt {t : TypeId} {v v' i i' : Value} (h : VR ρ v v') (hi : VR ρ i i') : QSim P (Instr.indexAt t v i) (Instr.indexAt t v' i') ρ (VR ρ) := by
  unfold Instr.indexAt
  refine q_bind (q_asIntOf hi) fun x x' e => ?_
  subst e
  obtain ⟨k, i⟩ := x'
  dsimp only
  refine q_bind q_underlying fun d d' hd => ?_
  obtain ⟨rfl, -⟩ := hd
  cases d' with
  | array len elem =>
    refine q_bind (q_sureAddr h) fun a a' ha => ?_
    refine q_bind (Q := fun x x' => ∃ a a', x = (some a, len, elem) ∧ x' = (some a', len, elem) ∧ AdR ρ a a') (q_pure ⟨_, _, rfl, rfl, ha⟩) fun x x' hx => ?_
    obtain ⟨a, a', rfl, rfl, ha⟩ := hx
    refine q_bind q_underlying fun d d' hd => ?_
    obtain ⟨rfl, -⟩ := hd
    dsimp only
    refine q_ite (fun _ => ?_) fun _ => q_if (fun _ => q_unsupported) fun _ => q_bounds
    exact q_bind q_sizeOf fun n n' e => by subst e; exact q_pure (ha.add _).ptr
  | slice elem =>
    cases h with
    | nilSlice n c =>
      refine q_bind (Q := fun x x' => x = (none, n, elem) ∧ x' = (none, n, elem)) (q_pure ⟨rfl, rfl⟩) fun x x' hx => ?_
      obtain ⟨rfl, rfl⟩ := hx
      refine q_bind q_underlying fun d d' hd => ?_
      exact q_bounds
    | @slice b k o n c c' h1 h2 =>
      have ha : AdR ρ ⟨b, o, none⟩ ⟨k, o, none⟩ := ⟨rfl, rfl, rfl, h1⟩
      refine q_bind (Q := fun x x' => ∃ a a', x = (some a, n, elem) ∧ x' = (some a', n, elem) ∧ AdR ρ a a') (q_pure ⟨_, _, rfl, rfl, ha⟩) fun x x' hx => ?_
      obtain ⟨a, a', rfl, rfl, ha⟩ := hx
      refine q_bind q_underlying fun d d' hd => ?_
      obtain ⟨rfl, -⟩ := hd
      dsimp only
      refine q_ite (fun _ => ?_) fun _ => q_if (fun _ => q_unsupported) fun _ => q_bounds
      exact q_bind q_sizeOf fun n n' e => by subst e; exact q_pure (ha.add _).ptr
    | _ => exact q_none fun _ _ _ h => by cases h
  | _ => exact q_none fun _ _ _ h => by cases h
theorem q_mapM {β γ : Type} {f g : β → Sem γ} (h : ∀ (x : β), QSim P (f x) (g x) ρ fun a b => b = a) : ∀ (l : List β), QSim P (l.mapM f) (l.mapM g) ρ fun a b => b = a := by
  intro l
  induction l with
  | nil => rw [List.mapM_nil, List.mapM_nil]; exact q_pure rfl
  | cons x l ih =>
    rw [List.mapM_cons, List.mapM_cons]
    exact q_bind (h x) fun a b hab => q_bind ih fun as bs habs => by rw [hab, habs]; exact q_pure rfl
theorem q_build (hz : ZeroOk P) {t : TypeId} {p p' : Array (Nat × Value)} (hp : PR ρ p.toList p'.toList) : QSim P (Instr.build t p) (Instr.build t p') ρ (VR ρ) := by
  unfold Instr.build
  refine q_bind (q_zeroValue hz) fun z z' hzz => ?_
  have hc := hzz.cells
  refine q_bind q_underlying fun d d' hd => ?_
  obtain ⟨rfl, -⟩ := hd
  split
  · rename_i fields
    refine q_bind (Q := fun a b => b = a) ?_ fun pl pl' e => ?_
    · rw [Array.mapM_eq_mapM_toList]
      exact q_bind (q_mapM (fun f => q_bind q_sizeOf fun _ _ e => by rw [e]; exact q_pure rfl) _) fun a b hab => by rw [hab]; exact q_pure rfl
    subst e
    rcases fillR _ _ _ _ hc hp with ⟨h1, -⟩ | ⟨x, x', h1, h2, h3⟩
    · rw [h1]; exact q_stuck
    · rw [h1, h2]; exact q_pure h3.agg
  · rename_i elem
    refine q_bind q_sizeOf fun n n' e => ?_
    subst e
    rcases fillR _ _ _ _ hc hp with ⟨h1, -⟩ | ⟨x, x', h1, h2, h3⟩
    · rw [h1]; exact q_stuck
    · rw [h1, h2]; exact q_pure h3.agg
  · exact q_stuck
theorem q_forIn {α : Type} {ρ : Ren} {f : Value → α → Sem (ForInStep α)} (hf : ∀ (v v' : Value) (a : α), VR ρ v v' → QSim P (f v a) (f v' a) ρ fun x x' => x' = x) :
    ∀ (l l' : List Value) (a : α), l.length = l'.length → (∀ (i : Nat) (v v' : Value), l[i]? = some v → l'[i]? = some v' → VR ρ v v') → QSim P (forIn l a f) (forIn l' a f) ρ fun x x' => x' = x := by
  intro l
  induction l with
  | nil =>
    intro l' a hl h
    cases l' with
    | nil => exact q_pure rfl
    | cons v l' => simp at hl
  | cons v l ih =>
    intro l' a hl h
    cases l' with
    | nil => simp at hl
    | cons v' l' =>
    rw [List.forIn_cons, List.forIn_cons]
    refine q_bind (hf v v' a (h 0 v v' rfl rfl)) fun x x' hx => ?_
    subst hx
    cases x' with
    | done b => exact q_pure rfl
    | yield b => exact ih l' b (by simpa using hl) fun i u u' h1 h2 => h (i + 1) u u' (by simpa using h1) (by simpa using h2)
theorem q_bytesToString {ρ : Ren} {b : Option Addr} {n c : Nat} {x' : Value} (h : VR ρ (.slice b n c) x') : QSim P (Conv.bytesToString (.slice b n c)) (Conv.bytesToString x') ρ (VR ρ) := by
  cases h with
  | nilSlice n c => exact q_pure (.string _)
  | @slice b k o n c c' h hc =>
    unfold Conv.bytesToString
    refine q_bind (q_loadCells n ⟨rfl, rfl, rfl, h⟩) fun cs cs' hcs => ?_
    rw [← Array.forIn_toList, ← Array.forIn_toList]
    refine q_bind (Q := fun x x' => x' = x) (q_forIn ?_ cs.toList cs'.toList _ (by simpa using hcs.size) ?_) fun s s' hs => by subst hs; exact q_pure (.string _)
    · intro v v' a hv
      cases hv with
      | int k m => cases k <;> first | exact q_pure rfl | exact q_stuck
      | _ => exact q_stuck
    · intro i v v' h1 h2
      exact hcs.get i v v' (by simpa using h1) (by simpa using h2)
theorem q_convert {ρ : Ren} {s t e : TypeId} {b : Option Addr} {n c : Nat} {x' : Value} (h : VR ρ (.slice b n c) x') (hs : P.underlying s = some (.slice e)) (ht : P.underlying t = some .string) (he : P.underlying e = some (.int .u8)) :
    QSim P (convert s t (.slice b n c)) (convert s t x') ρ (VR ρ) := by
  obtain ⟨b', c', rfl⟩ : ∃ b' c', x' = .slice b' n c' := by cases h <;> exact ⟨_, _, rfl⟩
  unfold convert
  refine q_bind q_underlying fun d d' h1 => ?_
  obtain ⟨rfl, h1⟩ := h1
  rw [hs] at h1; cases h1
  refine q_bind q_underlying fun d d' h1 => ?_
  obtain ⟨rfl, h1⟩ := h1
  rw [ht] at h1; cases h1
  refine q_bind q_underlying fun d d' h1 => ?_
  obtain ⟨rfl, h1⟩ := h1
  rw [he] at h1; cases h1
  exact q_bytesToString h
end
end Go.Ev
/- Closed calls by evaluation, part N: what a region that draws its order may hold. -/
namespace Go.Ev
def stillOp : Op → Bool
  | .move _ | .assign _ | .pick .. | .extract .. | .load .. | .makeInterface .. | .makeFunc .. | .field .. | .indexAddr .. | .fieldAddr .. | .nilCheck _ | .binOp .. | .unOp .. | .convert .. | .index .. | .slice .. | .build .. => true
  | .call c => match c.callee with
    | .builtin .len | .builtin .min | .builtin .max => true
    | _ => false
  | _ => false
def evStill (P : Program) (E : Operand → Value) (σ : St) (o : Oper) : Option Value :=
  match stillOp o.op with
  | true => match evOp P E σ o with
    | some (.ok (.value v) _) => some v
    | _ => none
  | false => none
section
variable {P : Program} {ρ : Ren}
theorem q_value {s s' : Sem Value} (h : QSim P s s' ρ (VR ρ)) {σ : St} {w : World} (hr : Rel ρ σ w) {v : Value} {σ' : St} (he : runA P (do pure (Next.value (← s))) σ = some (.ok (.value v) σ')) : ∃ v', (do pure (Next.value (← s'))).run P w = .ok (.value v') w ∧ VR ρ v v' := by
  have h2 : QSim P (do pure (Next.value (← s))) (do pure (Next.value (← s'))) ρ fun n n' => ∃ v v', n = .value v ∧ n' = .value v' ∧ VR ρ v v' := q_bind h fun _ _ hv => q_pure ⟨_, _, rfl, rfl, hv⟩
  obtain ⟨-, n', h3, v1, v', e1, rfl, h4⟩ := h2 σ w hr _ _ he
  cases e1
  exact ⟨v', h3, h4⟩
theorem still_sound (hz : ZeroOk P) {σ : St} {w : World} (hr : Rel ρ σ w) {E : Operand → Value} {a : Act} {o : Oper} (hact : ∀ x ∈ o.op.operands, okOperand σ.glob x = true → VR ρ (E x) (a.eval x)) {v : Value} (h : evStill P E σ o = some v) :
    ∃ v', (execOp a.eval o).run P w = .ok (.value v') w ∧ VR ρ v v' := by
  unfold evStill at h
  cases hst : stillOp o.op with
  | false => rw [hst] at h; cases h
  | true =>
  rw [hst] at h
  simp only at h
  cases hev : evOp P E σ o with
  | none => rw [hev] at h; cases h
  | some r =>
  rw [hev] at h
  cases r with
  | panic u τ => cases h
  | ok n τ =>
  cases n with
  | value v1 =>
    simp only [Option.some.injEq] at h
    subst h
    have fin : ∀ {real : Result Next}, OutV ρ σ w (.ok (.value v1) τ) real → ∃ v', real = .ok (.value v') w ∧ VR ρ v1 v' := by
      rintro real ⟨v2, v', e1, e2, e3⟩
      cases e1
      exact ⟨v', e2, e3⟩
    unfold evOp at hev
    cases hok : okOps σ.glob o with
    | false => rw [hok] at hev; cases hev
    | true =>
    rw [hok] at hev
    simp only [okOps, List.all_eq_true] at hok
    have hE : ∀ x ∈ o.op.operands, VR ρ (E x) (a.eval x) := fun x hx => hact x hx (hok x (Array.mem_toList_iff.2 hx))
    obtain ⟨dst, op, type, pos, after, guard⟩ := o
    simp only at hev hE hst
    have hpl : ∀ (hs : ∀ cs b, op ≠ .select cs b), plainQ P E σ ⟨dst, op, type, pos, after, guard⟩ = some (.ok (.value v1) τ) → ∃ v', (execOp a.eval ⟨dst, op, type, pos, after, guard⟩).run P w = .ok (.value v') w ∧ VR ρ v1 v' := fun hs h => fin (plainQ_sound hs hE h)
    cases op with
    | move x => cases Option.some.inj hev; exact ⟨_, rfl, hE x (by simp [Op.operands])⟩
    | assign x => cases Option.some.inj hev; exact ⟨_, rfl, hE x (by simp [Op.operands])⟩
    | pick c x y =>
      have hc := hE c (by simp [Op.operands])
      have hx := hE x (by simp [Op.operands])
      have hy := hE y (by simp [Op.operands])
      simp only at hev
      generalize hA : E c = vc at hc hev
      generalize hB : a.eval c = vc' at hc
      cases hc with
      | bool b =>
        cases b with
        | true => cases Option.some.inj hev; exact ⟨_, by simp [execOp, hB, asBool], hx⟩
        | false => cases Option.some.inj hev; exact ⟨_, by simp [execOp, hB, asBool], hy⟩
      | _ => cases hev
    | extract x i =>
      have hx := hE x (by simp [Op.operands])
      simp only at hev
      generalize hA : E x = vc at hx hev
      generalize hB : a.eval x = vc' at hx
      cases hx with
      | @tuple c c' q1 q2 =>
        simp only [nth_eq] at hev
        cases hc : c.toList[i]? with
        | none => rw [hc] at hev; cases hev
        | some v =>
          rw [hc] at hev
          cases Option.some.inj hev
          obtain ⟨v', h1, h2⟩ := (VRs.mk q1 q2).toList i v1 hc
          exact ⟨v', by simp [execOp, hB, Instr.extract, h1], h2⟩
      | _ => cases hev
    | build t ps =>
      refine q_value (q_build hz ?_) hr hev
      simp only [Array.toList_map]
      exact PR_map fun p hp => hE p.2 (by simp only [Op.operands]; simp; exact ⟨p.1, by simpa using hp⟩)
    | load t x => exact q_value (q_loadAt (hE x (by simp [Op.operands]))) hr hev
    | makeInterface t x => exact q_value (q_makeInterface (hE x (by simp [Op.operands]))) hr hev
    | makeFunc fn f c =>
      have h1 : VRs ρ (f.map E) (f.map a.eval) := .map _ _ _ fun x hx => hE x (by simp [Op.operands, hx])
      have h2 : VRs ρ (c.map E) (c.map a.eval) := .map _ _ _ fun x hx => hE x (by simp [Op.operands, hx])
      cases hfn : okFn fn with
      | false => simp only [hfn] at hev; cases hev
      | true =>
        simp only [hfn] at hev
        exact q_value (s := pure _) (s' := pure _) (q_pure (.func (okFn_R hfn) h1.size h1.get h2.size h2.get)) hr hev
    | field t x f => exact q_value (q_field (hE x (by simp [Op.operands]))) hr hev
    | indexAddr t x y => exact q_value (q_indexAt (hE x (by simp [Op.operands])) (hE y (by simp [Op.operands]))) hr hev
    | fieldAddr s x f => exact fin (field_sound (hE x (by simp [Op.operands])) hev)
    | nilCheck x =>
      have hx := hE x (by simp [Op.operands])
      simp only at hev
      generalize hA : E x = vc at hx hev
      generalize hB : a.eval x = vc' at hx
      cases hx with
      | ptr q => cases Option.some.inj hev; exact ⟨_, by simp [execOp, hB], .ptr q⟩
      | iface q => cases Option.some.inj hev; exact ⟨_, by simp [execOp, hB], .iface q⟩
      | @func fn fn' f1 f1' c c' hfn q1 q2 q3 q4 =>
        cases hfn with
        | func fid => cases Option.some.inj hev; exact ⟨_, by simp [execOp, hB], .func (.func fid) q1 q2 q3 q4⟩
        | _ => cases hev
      | _ => cases hev
    | binOp op t x y ty =>
      simp only at hev
      cases hp : (plainV 4 (E x) && plainV 4 (E y)) with
      | true => rw [hp] at hev; exact hpl (fun _ _ e => by cases e) hev
      | false =>
        rw [hp] at hev
        have hx := hE x (by simp [Op.operands])
        have hy := hE y (by simp [Op.operands])
        cases op with
        | eql => exact fin (eql_sound (neg := false) hx hy hev)
        | neq => exact fin (eql_sound (neg := true) hx hy hev)
        | _ => cases hev
    | unOp _ _ _ => exact hpl (fun _ _ e => by cases e) hev
    | convert s t x =>
      simp only at hev
      have hx := hE x (by simp [Op.operands])
      split at hev
      · rename_i b n c hA
        rw [hA] at hx
        split at hev
        · rename_i hb
          obtain ⟨e, h1, h2, h3⟩ := bytesConv_eq hb
          refine q_value (s := convert s t (E x)) ?_ hr hev
          rw [hA]
          exact q_convert hx h1 h2 h3
        · cases hev
      · exact hpl (fun _ _ e => by cases e) hev
    | index _ _ _ => exact hpl (fun _ _ e => by cases e) hev
    | slice t x lo hi mx =>
      cases mx with
      | some m => cases hev
      | none =>
      simp only at hev
      have hx := hE x (by simp [Op.operands])
      have hlo : (lo.map E = none ∧ lo.map a.eval = none) ∨ ∃ v v', lo.map E = some v ∧ lo.map a.eval = some v' ∧ VR ρ v v' := by
        cases lo with
        | none => exact .inl ⟨rfl, rfl⟩
        | some l => exact .inr ⟨_, _, rfl, rfl, hE l (by simp [Op.operands])⟩
      have hhi : (hi.map E = none ∧ hi.map a.eval = none) ∨ ∃ v v', hi.map E = some v ∧ hi.map a.eval = some v' ∧ VR ρ v v' := by
        cases hi with
        | none => exact .inl ⟨rfl, rfl⟩
        | some l => exact .inr ⟨_, _, rfl, rfl, hE l (by simp [Op.operands])⟩
      cases hA : E x with
      | slice base n c =>
        rw [hA] at hev hx
        simp only at hev
        cases hs : evSlice P σ t (.slice base n c) (lo.map E) (hi.map E) with
        | none => rw [hs] at hev; cases hev
        | some v =>
          rw [hs] at hev
          cases Option.some.inj hev
          obtain ⟨v', h1, h2⟩ := slice_sound hr hx hlo hhi hs
          exact ⟨v', by show ((do pure (Next.value (← Instr.sliceAt t (a.eval x) (lo.map a.eval) (hi.map a.eval) none))).run P w) = _; rw [Sem.run_bind, h1]; rfl, h2⟩
      | _ => rw [hA] at hev; exact hpl (fun _ _ e => by cases e) hev
    | call c =>
      obtain ⟨callee, args, ts⟩ := c
      simp only at hev hst
      cases callee with
      | value f => simp [stillOp] at hst
      | invoke _ _ => simp [stillOp] at hst
      | builtin b =>
        have hq := hpl (fun _ _ e => by cases e)
        have hM : ∀ x ∈ args, VR ρ (E x) (a.eval x) := fun x hx => hE x (by simp [Op.operands, Call.operands, hx])
        simp only at hev
        unfold evBuiltin at hev
        split at hev
        · simp [stillOp] at hst
        · rename_i x t e1 e2
          have : args = #[x] := by rw [← Array.toArray_toList (xs := args), e1]
          subst this
          have : ts = #[t] := by rw [← Array.toArray_toList (xs := ts), e2]
          subst this
          have hx := hM x (by simp)
          split at hev
          · rename_i base n c elem hA ht
            cases Option.some.inj hev
            rw [hA] at hx
            have hv : ∃ b' c', a.eval x = .slice b' n c' := by
              generalize a.eval x = v at hx
              cases hx with
              | nilSlice n c => exact ⟨_, _, rfl⟩
              | slice h1 h2 => exact ⟨_, _, rfl⟩
            obtain ⟨b', c', hv⟩ := hv
            refine ⟨.int .i64 n, ?_, .int _ _⟩
            simp [execOp, resolve, invoke, builtin, hv, Builtin.len_, run_underlying ht, goInt]
          · exact hq hev
        · simp [stillOp] at hst
        · simp [stillOp] at hst
        · exact hq hev
        · exact hq hev
        · cases hev
    | _ => cases hst
  | _ => cases h
end
end Go.Ev
/- Closed calls by evaluation, part O: operations that make one block. -/
namespace Go.Ev
def newOp : Op → Bool
  | .alloc _ | .box .. | .buildSlice .. | .makeSlice .. | .makeMap _ none => true
  | _ => false
def fillIn (i : TypeInfo) (z : Value) (len : Nat) (parts : List (Nat × Value)) : Option (Array Value) :=
  Instr.fill (fun j => some (j * i.size, i.size)) ((Array.range (len * i.size)).map (fun x => z.cells[x % z.cells.size]!)) parts
/-- the value and the block that an operation makes, at the number id -/
def evNew (P : Program) (E : Operand → Value) (glob id : Nat) (o : Oper) : Option (Value × AObj) :=
  match okOps glob o with
  | false => none
  | true => match o.op with
    | .alloc t => match P.info? t with
      | some i => match i.zero with
        | some z => some (.pointer (some ⟨id, 0, none⟩), .row { cells := z.cells.toList, ty := t, sz := 0, own := true })
        | none => none
      | none => none
    | .box t x => some (.pointer (some ⟨id, 0, none⟩), .row { cells := (E x).cells.toList, ty := t, sz := 0, own := true })
    | .buildSlice t len parts => match P.underlying t with
      | some (.slice elem) => match P.info? elem with
        | some i => match i.zero with
          | some z => match Nat.blt 0 (len * i.size) && (Nat.ble (len * i.size) 16777216 && Nat.blt len big) with
            | true => match fillIn i z len (parts.map fun (i, x) => (i, E x)).toList with
              | some cells => some (.slice (some ⟨id, 0, none⟩) len len, .row { cells := cells.toList, ty := elem, sz := 0, own := true })
              | none => none
            | false => none
          | none => none
        | none => none
      | _ => none
    | .makeSlice t l c => match P.underlying t with
      | some (.slice elem) => match intV (E l), intV (E c) with
        | some n, some m => match P.info? elem with
          | some i => match i.zero with
            | some z => match Nat.ble n m && (Nat.ble (i.bytes * m) lim && Nat.ble m lim) with
              | true => some (.slice (some ⟨id, 0, none⟩) n m, .row { cells := (madeCells z.cells (m * i.size)).toList, ty := elem, sz := 0, own := true })
              | false => none
            | none => none
          | none => none
        | _, _ => none
      | _ => none
    | .makeMap _ none => some (.map (some id), .obj (.map #[] 0))
    | _ => none
section
variable {P : Program} {ρ : Ren}
theorem addPtr {id k : Nat} {rm : Option (Nat × Nat)} : VR (ρ.add id k rm) (.pointer (some ⟨id, 0, none⟩)) (.pointer (some ⟨k, 0, none⟩)) := .ptr (by simp [Ren.add])
theorem addSlice {id k n c : Nat} {rm : Option (Nat × Nat)} (hc : Nat.blt c big = true) : VR (ρ.add id k rm) (.slice (some ⟨id, 0, none⟩) n c) (.slice (some ⟨k, 0, none⟩) n c) := .slice (by simp [Ren.add]) (capR_of hc)
theorem rowAt {cs cs' : Array Value} {ty : TypeId} (h : VRs ρ cs cs') : ∀ ρ' : Ren, ρ.le ρ' → ∀ id, AtR ρ' id (.row { cells := cs.toList, ty := ty, sz := 0, own := true }) (.cells cs' ty) := fun _ hle _ => ⟨cs', ty, (0, 0), rfl, .shut (h.mono hle) _ _⟩
theorem new_sound (hz : ZeroOk P) {E : Operand → Value} {a : Act} {glob id : Nat} {o : Oper} (hact : ∀ x ∈ o.op.operands, okOperand glob x = true → VR ρ (E x) (a.eval x)) {v : Value} {x : AObj} (h : evNew P E glob id o = some (v, x)) (w : World) :
    x.own = true ∧ ∃ v' y, (execOp a.eval o).run P w = .ok (.value v') { w with heap := w.heap.push y } ∧ (∀ rm, VR (ρ.add id w.heap.size rm) v v') ∧ ∀ ρ' : Ren, ρ.le ρ' → ∀ id, AtR ρ' id x y := by
  unfold evNew at h
  cases hok : okOps glob o with
  | false => rw [hok] at h; cases h
  | true =>
  rw [hok] at h
  simp only [okOps, List.all_eq_true] at hok
  have hE : ∀ x ∈ o.op.operands, VR ρ (E x) (a.eval x) := fun x hx => hact x hx (hok x (Array.mem_toList_iff.2 hx))
  obtain ⟨dst, op, type, pos, after, guard⟩ := o
  simp only at h hE
  cases op with
  | alloc t =>
    simp only at h
    cases hi : P.info? t with
    | none => rw [hi] at h; cases h
    | some i =>
    rw [hi] at h
    simp only at h
    cases hzz : i.zero with
    | none => rw [hzz] at h; cases h
    | some z =>
    rw [hzz] at h
    cases Option.some.inj h
    refine ⟨rfl, .pointer (some ⟨w.heap.size, 0, none⟩), .cells z.cells t, ?_, fun _ => addPtr, rowAt (hz t i z hi hzz ρ).cells⟩
    simp [execOp, Instr.alloc, zeroValue, typeInfo, hi, hzz, newVar, newRow]
  | box t y =>
    cases Option.some.inj h
    refine ⟨rfl, .pointer (some ⟨w.heap.size, 0, none⟩), .cells (a.eval y).cells t, ?_, fun _ => addPtr, rowAt (hE y (by simp [Op.operands])).cells⟩
    simp [execOp, Instr.box, newVar, newRow]
  | makeMap t r =>
    cases r with
    | some r => cases h
    | none =>
    cases Option.some.inj h
    refine ⟨rfl, .map (some w.heap.size), .map #[] 0, ?_, fun _ => .map (by simp [Ren.add]), fun _ _ _ => .map 0 rfl fun i e e' h1 => by simp at h1⟩
    simp [execOp, Instr.makeMap]
  | buildSlice t len ps =>
    simp only at h
    cases ht : P.underlying t with
    | none => rw [ht] at h; cases h
    | some d =>
    rw [ht] at h
    cases d with
    | slice elem =>
      simp only at h
      cases hi : P.info? elem with
      | none => rw [hi] at h; cases h
      | some i =>
      rw [hi] at h
      simp only at h
      cases hzz : i.zero with
      | none => rw [hzz] at h; cases h
      | some z =>
      rw [hzz] at h
      simp only at h
      cases hc : (Nat.blt 0 (len * i.size) && (Nat.ble (len * i.size) 16777216 && Nat.blt len big)) with
      | false => rw [hc] at h; cases h
      | true =>
      rw [hc] at h
      simp only [Bool.and_eq_true] at hc
      obtain ⟨hc1, hc2, hc3⟩ := hc
      have hc1 : ¬ len * i.size = 0 := by have : 0 < len * i.size := by simpa using hc1
                                          omega
      have hc2 : ¬ 16777216 < len * i.size := by have := Nat.le_of_ble_eq_true hc2; omega
      simp only at h
      have hp : PR ρ (ps.map fun (i, x) => (i, E x)).toList (ps.map fun (i, x) => (i, a.eval x)).toList := by
        simp only [Array.toList_map]
        exact PR_map fun p hp => hE p.2 (by simp only [Op.operands]; simp; exact ⟨p.1, by simpa using hp⟩)
      have hzv := (hz elem i z hi hzz ρ).cells
      rcases fillR (place := fun j => some (j * i.size, i.size)) _ _ _ _ (VRs.zeros hzv (len * i.size)) hp with ⟨h1, -⟩ | ⟨c, c', h1, h2, h3⟩
      · have : fillIn i z len (ps.map fun (i, x) => (i, E x)).toList = none := h1
        rw [this] at h; cases h
      · have : fillIn i z len (ps.map fun (i, x) => (i, E x)).toList = some c := h1
        rw [this] at h
        cases Option.some.inj h
        refine ⟨rfl, .slice (some ⟨w.heap.size, 0, none⟩) len len, .cells c' elem, ?_, fun _ => addSlice hc3, rowAt h3⟩
        simp only [execOp, Instr.buildSlice, Sem.run_bind, run_underlying ht, Result.andThen_ok, sizeOf, typeInfo, run_program, hi, Sem.run_pure, zeroValue]
        rw [if_neg hc2]
        simp only [if_neg hc1, Sem.run_bind, run_program, Result.andThen_ok, hi, hzz, Sem.run_pure, h2, newRow, run_newObj]
    | _ => cases h
  | makeSlice t l c =>
    simp only at h
    cases ht : P.underlying t with
    | none => rw [ht] at h; cases h
    | some d =>
    rw [ht] at h
    have hl := hE l (by simp [Op.operands])
    have hc := hE c (by simp [Op.operands])
    cases d with
    | slice elem =>
      simp only at h
      cases e1 : intV (E l) with
      | none => rw [e1] at h; cases h
      | some n =>
      cases e2 : intV (E c) with
      | none => rw [e1, e2] at h; cases h
      | some m =>
      rw [e1, e2] at h
      simp only at h
      cases hi : P.info? elem with
      | none => rw [hi] at h; cases h
      | some i =>
      rw [hi] at h
      simp only at h
      cases hzz : i.zero with
      | none => rw [hzz] at h; cases h
      | some z =>
      rw [hzz] at h
      simp only at h
      cases hck : (Nat.ble n m && (Nat.ble (i.bytes * m) lim && Nat.ble m lim)) with
      | false => rw [hck] at h; cases h
      | true =>
      rw [hck] at h
      simp only [Bool.and_eq_true] at hck
      obtain ⟨hc1, hc2, hc3⟩ := hck
      have hc1 := Nat.le_of_ble_eq_true hc1
      have hc2 := Nat.le_of_ble_eq_true hc2
      have hc3 := Nat.le_of_ble_eq_true hc3
      simp only [lim] at hc2 hc3
      cases Option.some.inj h
      obtain ⟨k1, n1, q1, q2, q3⟩ := intV_run hl e1
      obtain ⟨k2, n2, q4, q5, q6⟩ := intV_run hc e2
      have hzv := (hz elem i z hi hzz ρ).cells
      have hb : (i.bytes : Int) * n2 ≤ 281474976710656 := by
        have : (i.bytes : Int) * n2 = ((i.bytes * m : Nat) : Int) := by rw [← q6, Int.natCast_mul, Int.toNat_of_nonneg q5]
        rw [this]; omega
      have hrun := run_make (P := P) w t elem i z ht hi hzz k1 k2 n1 n2 q2 (by omega) hb (by omega)
      rw [q3, q6] at hrun
      refine ⟨rfl, .slice (some ⟨w.heap.size, 0, none⟩) n m, .cells (madeCells z.cells (m * i.size)) elem, ?_, fun _ => addSlice (by simp [big]; omega), rowAt (VRs.zeros hzv _)⟩
      show ((do pure (Next.value (← Instr.makeSlice t (a.eval l) (a.eval c)))).run P w) = _
      rw [Sem.run_bind, q1, q4, hrun]
      rfl
    | _ => cases h
  | _ => cases h
end
end Go.Ev
/- Closed calls by evaluation, part P: a region that draws its order, by a certificate. -/
namespace Go.Ev
def evEff (P : Program) (call : FuncId → Array Value → St → Option Er) (E : Operand → Value) (σ : St) (o : Oper) : Option (Value × St) :=
  match evOp P E σ o with
  | some (.ok (.value v) σ) => some (v, σ)
  | some (.ok .skip σ) => some (undef, σ)
  | some (.ok (.enter g args) σ) => match call g args σ with
    | some (.ret v σ) => some (v, σ)
    | _ => none
  | _ => none
/-- the frame behind the operations of S among the first n -/
def fold (ops : Array Oper) (A0 : Fr) (val : Nat → Value) (S : Nat → Bool) : Nat → Fr
  | 0 => A0
  | n + 1 => if S n = true then (fold ops A0 val S n).put ((ops[n]?).bind (·.dst)) (val n) else fold ops A0 val S n
structure Cert (P : Program) (call : FuncId → Array Value → St → Option Er) (ops : Array Oper) (A0 : Fr) (σ0 : St) (σ' : St) where
  mask : Nat → Nat → Bool
  val : Nat → Value
  kind : Nat → Nat
  obj : Nat → AObj
  K : Nat
  eff : Nat → Nat
  B : Nat → St
  dep : Nat → Nat → St
  via : ∀ i j o, ops[i]? = some o → mask i j = true → ∃ e ∈ o.after, Region.binds .any e = true ∧ (e.on = j ∨ mask e.on j = true)
  lt : ∀ i j, mask i j = true → j < i
  edge : ∀ i o, ops[i]? = some o → ∀ e ∈ o.after, Region.binds .any e = true → mask i e.on = true
  apart : ∀ i j oi oj, i < j → ops[i]? = some oi → ops[j]? = some oj → mask j i = false → oi.apart ops oj = true
  effk : ∀ m, m < K → eff m < ops.size ∧ kind (eff m) = 2
  effs : ∀ i, i < ops.size → kind i = 2 → ∃ m, m < K ∧ eff m = i
  chain : ∀ m m', m < m' → m' < K → mask (eff m') (eff m) = true
  kinds : ∀ i, kind i = 0 ∨ kind i = 1 ∨ kind i = 2
  still : ∀ i o, ops[i]? = some o → kind i = 0 → (wantedE ops.toList o (fold ops A0 val (fun _ => true) i) = false ∧ val i = undef) ∨
    (wantedE ops.toList o (fold ops A0 val (fun _ => true) i) = true ∧ ∀ m, m ≤ K → (∀ m', m' < K → mask i (eff m') = true → m' < m) → (∀ m', m' < m → mask (eff m') i = false) → evStill P (fold ops A0 val (fun _ => true) i).eval (dep m i) o = some (val i))
  new : ∀ i o, ops[i]? = some o → kind i = 1 → wantedE ops.toList o (fold ops A0 val (fun _ => true) i) = true ∧ evNew P (fold ops A0 val (fun _ => true) i).eval σ0.glob (σ0.next + i) o = some (val i, obj i)
  effect : ∀ m o, m < K → ops[eff m]? = some o → wantedE ops.toList o (fold ops A0 val (fun _ => true) (eff m)) = true ∧ evEff P call (fold ops A0 val (fun _ => true) (eff m)).eval (dep m (eff m)) o = some (val (eff m), B (m + 1))
  depN : ∀ m i, (dep m i).next = (B m).next ∧ (dep m i).glob = (B m).glob
  depH : ∀ m i id o, (dep m i).heap.get id = some o → (B m).heap.get id = some o ∨ ∃ j, j < ops.size ∧ kind j = 1 ∧ mask i j = true ∧ (¬ ∃ m', m' < m ∧ mask (eff m') j = true) ∧ id = σ0.next + j ∧ o = obj j
  B0 : (B 0).next = σ0.next + ops.size ∧ (B 0).glob = σ0.glob ∧ ∀ id o, (B 0).heap.get id = some o → σ0.heap.get id = some o
  fin : σ'.next = (B K).next ∧ σ'.glob = (B K).glob ∧ ∀ id o, σ'.heap.get id = some o → (B K).heap.get id = some o ∨ ∃ j, j < ops.size ∧ kind j = 1 ∧ (¬ ∃ m', m' < K ∧ mask (eff m') j = true) ∧ id = σ0.next + j ∧ o = obj j
section
variable {P : Program} {ρ : Ren}
theorem Rel.sub {σ τ : St} {w : World} (h : Rel ρ τ w) (hn : τ.next ≤ σ.next) (hg : σ.glob = τ.glob) (hs : ∀ id o, σ.heap.get id = some o → τ.heap.get id = some o) : Rel ρ σ w :=
  ⟨fun id o ho => h.live id o (hs id o ho), fun i j oi oj hi hj => h.inj i j oi oj (hs _ _ hi) (hs _ _ hj), fun id hid => h.fresh id (Nat.le_trans hn hid), fun g hg2 => h.glob g (by rw [← hg]; exact hg2), by rw [hg]; exact Nat.le_trans h.gn hn⟩
theorem Keep.sub {σ τ : St} (w : World) (hn : τ.next ≤ σ.next) (hg : σ.glob = τ.glob) (hs : ∀ id o, σ.heap.get id = some o → τ.heap.get id = some o) : Keep ρ τ ρ σ w w :=
  ⟨Nat.le_refl _, rfl, rfl, rfl, hg, hn, fun _ _ => ⟨rfl, rfl⟩, fun _ _ _ => rfl, fun _ o _ h1 h3 => .inl ⟨o, hs _ _ h1, rfl, h3⟩⟩
def St.setAt (σ : St) (id : Nat) (x : AObj) : St := { σ with heap := σ.heap.set id (some x) }
theorem Rel.newAt {σ : St} {w : World} (h : Rel ρ σ w) {id : Nat} (h1 : ρ.φ id = none) (h2 : ρ.room id = none) (hlt : id < σ.next) (hge : σ.glob ≤ id) (x : AObj) (o : Obj) (hx : AtR (ρ.add id w.heap.size none) id x o) :
    Rel (ρ.add id w.heap.size none) (σ.setAt id x) { w with heap := w.heap.push o } := by
  have hle : ρ.le (ρ.add id w.heap.size none) := Ren.le_add h1 h2
  have hlt2 : ∀ i ob k, σ.heap.get i = some ob → ρ.φ i = some k → k < w.heap.size := by
    intro i ob k q1 q2
    obtain ⟨j, y, q3, q4, -⟩ := h.live i ob q1
    rw [q3] at q2
    rw [← Option.some.inj q2]
    exact (Array.getElem?_eq_some_iff.1 q4).1
  refine ⟨?_, ?_, ?_, ?_, h.gn⟩
  · intro i ob hi
    simp only [St.setAt] at hi
    rw [T.get_set] at hi
    by_cases e : i = id
    · rw [if_pos e] at hi
      rw [← Option.some.inj hi, e]
      exact ⟨w.heap.size, o, by simp [Ren.add], by simp, hx⟩
    · rw [if_neg e] at hi
      obtain ⟨j, y, q1, q2, q3⟩ := h.live i ob hi
      refine ⟨j, y, hle.φ _ _ q1, ?_, q3.mono hle⟩
      have := hlt2 i ob j hi q1
      simp only [Array.getElem?_push]
      rw [if_neg (by omega)]; exact q2
  · intro i j oi oj hi hj ho hφ
    simp only [St.setAt] at hi hj
    rw [T.get_set] at hi hj
    by_cases ei : i = id
    · by_cases ej : j = id
      · rw [ei, ej]
      · rw [if_neg ej] at hj
        obtain ⟨k, y, q1, -, -⟩ := h.live j oj hj
        have h4 : (ρ.add id w.heap.size none).φ i = some w.heap.size := by simp [Ren.add, ei]
        rw [hle.φ _ _ q1, h4] at hφ
        have := hlt2 j oj k hj q1
        have := Option.some.inj hφ
        omega
    · rw [if_neg ei] at hi
      obtain ⟨k, y, q1, -, -⟩ := h.live i oi hi
      by_cases ej : j = id
      · have h4 : (ρ.add id w.heap.size none).φ j = some w.heap.size := by simp [Ren.add, ej]
        rw [hle.φ _ _ q1, h4] at hφ
        have := hlt2 i oi k hi q1
        have := Option.some.inj hφ
        omega
      · rw [if_neg ej] at hj
        obtain ⟨k2, y2, q5, -, -⟩ := h.live j oj hj
        refine h.inj i j oi oj hi hj ho ?_
        rw [hle.φ _ _ q1, hle.φ _ _ q5] at hφ
        rw [q1, q5]; exact hφ
  · intro i hi
    have hi : σ.next ≤ i := hi
    have q := h.fresh i hi
    have : i ≠ id := by omega
    simp [Ren.add, this, q]
  · intro g hg
    have hg : g < σ.glob := hg
    have : g ≠ id := by omega
    simp only [Ren.add, if_neg this]
    exact h.glob g hg
theorem Keep.newAt {ρ0 : Ren} {σ0 σ : St} {w0 w : World} (h : Keep ρ0 σ0 ρ σ w0 w) {id : Nat} (hid : σ0.next ≤ id) (x : AObj) (hx : x.own = true) (o : Obj) :
    Keep ρ0 σ0 (ρ.add id w.heap.size none) (σ.setAt id x) w0 { w with heap := w.heap.push o } := by
  refine ⟨by simp; have := h.size; omega, h.os, h.tape, h.output, h.glob, h.next, fun i hi => ?_, fun k hk hn => ?_, fun i ob k hi hk => ?_⟩
  · have : i ≠ id := by omega
    simp only [Ren.add, if_neg this]
    exact h.dom i hi
  · have := h.size
    simp only [Array.getElem?_push]
    rw [if_neg (by omega)]
    exact h.old k hk hn
  · simp only [St.setAt] at hi
    rw [T.get_set] at hi
    by_cases e : i = id
    · simp only [Ren.add, if_pos e] at hk
      rw [if_pos e] at hi
      rw [← Option.some.inj hi]
      exact .inr ⟨hx, .inl (by rw [← Option.some.inj hk]; exact h.size)⟩
    · rw [if_neg e] at hi
      simp only [Ren.add, if_neg e] at hk
      exact h.new i ob k hi hk
theorem FrR.congr {A A' : Fr} {a : Act} (h : FrR ρ A a) (hn : A'.n = A.n) (hd : A'.defers = A.defers) (ht : ∀ t, A'.tmp t = A.tmp t) : FrR ρ A' a :=
  ⟨hn.trans h.n, fun t => by rw [ht]; exact h.tmp t, by rw [hd]; exact h.dl, by rw [hd]; exact h.defers⟩
/-- the slots of a fold -/
def tmpS (ops : Array Oper) (A0 : Fr) (val : Nat → Value) (S : Nat → Bool) : Nat → Nat → Value
  | 0, t => A0.tmp t
  | n + 1, t => if S n = true ∧ (ops[n]?).bind (·.dst) = some t ∧ t < A0.n then val n else tmpS ops A0 val S n t
theorem fold_parts (ops : Array Oper) (A0 : Fr) (val : Nat → Value) (S : Nat → Bool) : ∀ n, (fold ops A0 val S n).n = A0.n ∧ (fold ops A0 val S n).defers = A0.defers ∧ ∀ t, (fold ops A0 val S n).tmp t = tmpS ops A0 val S n t := by
  intro n
  induction n with
  | zero => exact ⟨rfl, rfl, fun _ => rfl⟩
  | succ n ih =>
    obtain ⟨h1, h2, h3⟩ := ih
    unfold fold tmpS
    by_cases hS : S n = true
    · rw [if_pos hS]
      cases hd : (ops[n]?).bind (·.dst) with
      | none =>
        refine ⟨h1, h2, fun t => ?_⟩
        rw [if_neg (by simp)]
        exact h3 t
      | some d =>
        by_cases hlt : d < A0.n
        · have hb : Nat.blt d (fold ops A0 val S n).n = true := by rw [h1]; simpa using hlt
          refine ⟨by simp only [Fr.put, hb]; exact h1, by simp only [Fr.put, hb]; exact h2, fun t => ?_⟩
          rw [Fr.put_tmp (by rw [h1]; exact hlt)]
          by_cases e : t = d
          · subst e; rw [if_pos rfl, if_pos ⟨hS, rfl, hlt⟩]
          · rw [if_neg e, if_neg (by rintro ⟨-, q, -⟩; exact e (Option.some.inj q).symm)]; exact h3 t
        · have hb : Nat.blt d (fold ops A0 val S n).n = false := by rw [h1, ← Bool.not_eq_true]; simpa using hlt
          refine ⟨by simp only [Fr.put, hb]; exact h1, by simp only [Fr.put, hb]; exact h2, fun t => ?_⟩
          simp only [Fr.put, hb]
          rw [if_neg (by rintro ⟨-, q, q2⟩; rw [← Option.some.inj q] at q2; exact hlt q2)]
          exact h3 t
    · rw [if_neg hS]
      refine ⟨h1, h2, fun t => ?_⟩
      rw [if_neg (fun q => hS q.1)]; exact h3 t
theorem tmpS_skip {ops : Array Oper} {A0 : Fr} {val : Nat → Value} {S : Nat → Bool} {t : Nat} : ∀ (d n : Nat), (∀ k, n ≤ k → k < n + d → S k = true → (ops[k]?).bind (·.dst) ≠ some t) → tmpS ops A0 val S (n + d) t = tmpS ops A0 val S n t := by
  intro d
  induction d with
  | zero => intro n _; rfl
  | succ d ih =>
    intro n h
    have e : tmpS ops A0 val S (n + d + 1) t = if S (n + d) = true ∧ (ops[n + d]?).bind (·.dst) = some t ∧ t < A0.n then val (n + d) else tmpS ops A0 val S (n + d) t := rfl
    show tmpS ops A0 val S (n + d + 1) t = _
    rw [e, if_neg (fun q => h (n + d) (by omega) (by omega) q.1 q.2.1)]
    exact ih n fun k h1 h2 => h k h1 (by omega)
theorem tmpS_same {ops : Array Oper} {A0 : Fr} {val : Nat → Value} {S S' : Nat → Bool} {t : Nat} : ∀ n, (∀ k, k < n → (ops[k]?).bind (·.dst) = some t → S k = S' k) → tmpS ops A0 val S n t = tmpS ops A0 val S' n t := by
  intro n
  induction n with
  | zero => intro _; rfl
  | succ n ih =>
    intro h
    unfold tmpS
    rw [ih fun k hk => h k (by omega)]
    by_cases hd : (ops[n]?).bind (·.dst) = some t
    · rw [h n (by omega) hd]
    · rw [if_neg (fun q => hd q.2.1), if_neg (fun q => hd q.2.1)]
theorem tmpS_off {ops : Array Oper} {A0 : Fr} {val : Nat → Value} {S : Nat → Bool} {t : Nat} (ht : ¬ t < A0.n) : ∀ n, tmpS ops A0 val S n t = A0.tmp t := by
  intro n
  induction n with
  | zero => rfl
  | succ n ih => unfold tmpS; rw [if_neg (fun q => ht q.2.2)]; exact ih
end
end Go.Ev
/- Closed calls by evaluation, part Q: the certificate's word. -/
namespace Go.Ev
section
variable {P : Program} {call : FuncId → Array Value → St → Option Er} {ops : Array Oper} {A0 : Fr} {σ0 σ' : St}
structure Inv (C : Cert P call ops A0 σ0 σ') (ρ0 : Ren) (σ00 : St) (w0 : World) (S : Nat → Bool) (a : Act) (w : World) (ρ : Ren) (m : Nat) (τ : St) : Prop where
  mle : m ≤ C.K
  effs : ∀ m', m' < C.K → (S (C.eff m') = true ↔ m' < m)
  down : ∀ i j, i < ops.size → S i = true → C.mask i j = true → S j = true
  fr : FrR ρ (fold ops A0 C.val S ops.size) a
  rel : Rel ρ τ w
  next : τ.next = (C.B m).next
  room : σ0.next + ops.size ≤ τ.next
  glob : τ.glob = σ0.glob
  bglob : (C.B m).glob = σ0.glob
  base : ∀ id o, (C.B m).heap.get id = some o → τ.heap.get id = some o
  pend : ∀ j, j < ops.size → S j = true → C.kind j = 1 → (¬ ∃ m', m' < m ∧ C.mask (C.eff m') j = true) → τ.heap.get (σ0.next + j) = some (C.obj j)
  free : ∀ j, j < ops.size → S j = false → ρ.φ (σ0.next + j) = none ∧ ρ.room (σ0.next + j) = none
  pown : ∀ j, j < ops.size → S j = true → C.kind j = 1 → (C.obj j).own = true
  bare : ∀ j, j < ops.size → C.kind j = 1 → (¬ ∃ m', m' < m ∧ C.mask (C.eff m') j = true) → (C.B m).heap.get (σ0.next + j) = none
  since : Since ρ0 σ00 w0 ρ τ w
  start : σ00.next ≤ σ0.next
  gn : σ0.glob ≤ σ0.next
theorem dst_of {i : Nat} {o : Oper} (h : ops[i]? = some o) {t : Nat} : (ops[i]?).bind (·.dst) = some t ↔ o.dst = some t := by rw [h]; rfl
/-- the slots that an operation looks at stand as in the text's order -/
theorem Cert.looks (C : Cert P call ops A0 σ0 σ') {S : Nat → Bool} (hdown : ∀ i j, i < ops.size → S i = true → C.mask i j = true → S j = true) {i : Nat} {o : Oper} (hi : ops[i]? = some o) (hS : S i = false) (hm : ∀ j, C.mask i j = true → S j = true) {t : Nat} (ht : t ∈ o.looksAt ops) :
    (fold ops A0 C.val S ops.size).tmp t = (fold ops A0 C.val (fun _ => true) i).tmp t := by
  have hlt : i < ops.size := (Array.getElem?_eq_some_iff.1 hi).1
  rw [(fold_parts ops A0 C.val S ops.size).2.2, (fold_parts ops A0 C.val (fun _ => true) i).2.2]
  obtain ⟨d, hd⟩ : ∃ d, ops.size = i + d := ⟨ops.size - i, by omega⟩
  rw [hd, tmpS_skip d i, tmpS_same i]
  · intro k hk hdst
    obtain ⟨ok, hok⟩ : ∃ ok, ops[k]? = some ok := ⟨ops[k]'(by omega), Array.getElem?_eq_getElem (by omega)⟩
    have hdk := (dst_of hok).1 hdst
    cases hmk : C.mask i k with
    | true => exact hm k hmk
    | false => exact absurd ht ((Oper.apart_spec (C.apart k i ok o hk hok hi hmk)).1 t hdk)
  · intro k h1 h2 hSk hdst
    obtain ⟨ok, hok⟩ : ∃ ok, ops[k]? = some ok := ⟨ops[k]'(by omega), Array.getElem?_eq_getElem (by omega)⟩
    have hdk := (dst_of hok).1 hdst
    have hne : i ≠ k := fun e => by rw [← e, hS] at hSk; cases hSk
    cases hmk : C.mask k i with
    | true => have := hdown k i (by omega) hSk hmk; rw [hS] at this; cases this
    | false => exact absurd ht ((Oper.apart_spec (C.apart i k o ok (by omega) hi hok hmk)).2.2 t hdk)
/-- .. and behind it the frame is the text's -/
theorem Cert.put (C : Cert P call ops A0 σ0 σ') {S S' : Nat → Bool} (hdown : ∀ i j, i < ops.size → S i = true → C.mask i j = true → S j = true) {i : Nat} {o : Oper} (hi : ops[i]? = some o) (hS : S i = false) (hS' : ∀ k, k < ops.size → S' k = (S k || k == i)) {ρ : Ren} {a : Act} (hf : FrR ρ (fold ops A0 C.val S ops.size) a) {v' : Value} (hv : VR ρ (C.val i) v') :
    FrR ρ (fold ops A0 C.val S' ops.size) (a.put o.dst v') := by
  have hlt : i < ops.size := (Array.getElem?_eq_some_iff.1 hi).1
  obtain ⟨n1, d1, t1⟩ := fold_parts ops A0 C.val S ops.size
  obtain ⟨n2, d2, t2⟩ := fold_parts ops A0 C.val S' ops.size
  have hput := hf.put o.dst hv
  have hpn : ((fold ops A0 C.val S ops.size).put o.dst (C.val i)).n = A0.n ∧ ((fold ops A0 C.val S ops.size).put o.dst (C.val i)).defers = A0.defers := by
    unfold Fr.put
    split
    · exact ⟨n1, d1⟩
    · split
      · exact ⟨n1, d1⟩
      · exact ⟨n1, d1⟩
  refine hput.congr (n2.trans hpn.1.symm) (d2.trans hpn.2.symm) fun t => ?_
  rw [t2]
  obtain ⟨d, hd⟩ : ∃ d, ops.size = (i + 1) + d := ⟨ops.size - (i + 1), by omega⟩
  have hSi : S' i = true := by rw [hS' i hlt]; simp
  by_cases hdst : o.dst = some t
  · by_cases htn : t < A0.n
    · rw [hd, tmpS_skip d (i + 1)]
      · have e : tmpS ops A0 C.val S' (i + 1) t = if S' i = true ∧ (ops[i]?).bind (·.dst) = some t ∧ t < A0.n then C.val i else tmpS ops A0 C.val S' i t := rfl
        rw [e, if_pos ⟨hSi, (dst_of hi).2 hdst, htn⟩, hdst, ← hd, Fr.put_tmp (by rw [n1]; exact htn), if_pos rfl]
      · intro k h1 h2 hSk hdk
        obtain ⟨ok, hok⟩ : ∃ ok, ops[k]? = some ok := ⟨ops[k]'(by omega), Array.getElem?_eq_getElem (by omega)⟩
        have hdk := (dst_of hok).1 hdk
        have hSk2 : S k = true := by rw [hS' k (by omega)] at hSk; have : (k == i) = false := by simp; omega
                                     rw [this] at hSk; simpa using hSk
        cases hmk : C.mask k i with
        | true => have := hdown k i (by omega) hSk2 hmk; rw [hS] at this; cases this
        | false => exact (Oper.apart_spec (C.apart i k o ok (by omega) hi hok hmk)).2.1 t hdst hdk
    · rw [tmpS_off htn]
      have : (fold ops A0 C.val S ops.size).put o.dst (C.val i) = fold ops A0 C.val S ops.size := by
        rw [hdst]
        have hb : Nat.blt t (fold ops A0 C.val S ops.size).n = false := by rw [n1, ← Bool.not_eq_true]; simpa using htn
        simp only [Fr.put, hb]
      rw [this, t1, tmpS_off htn]
  · have e1 : ((fold ops A0 C.val S ops.size).put o.dst (C.val i)).tmp t = (fold ops A0 C.val S ops.size).tmp t := by
      cases hdd : o.dst with
      | none => rfl
      | some d =>
        by_cases hdn : d < A0.n
        · rw [Fr.put_tmp (by rw [n1]; exact hdn), if_neg (fun e => hdst (by rw [hdd, e]))]
        · have hb : Nat.blt d (fold ops A0 C.val S ops.size).n = false := by rw [n1, ← Bool.not_eq_true]; simpa using hdn
          simp only [Fr.put, hb]
    rw [e1, t1]
    refine tmpS_same ops.size fun k hk hdk => ?_
    rw [hS' k hk]
    by_cases e : k = i
    · subst e; exact absurd ((dst_of hi).1 hdk) hdst
    · have : (k == i) = false := by simpa using e
      rw [this]; simp
theorem eval_same {A B : Fr} {o : Oper} (h : ∀ t ∈ o.looksAt ops, A.tmp t = B.tmp t) {x : Operand} (hx : x ∈ o.op.operands) : A.eval x = B.eval x := by
  cases x with
  | tmp t => exact h t (by unfold Oper.looksAt; refine List.mem_append.2 (.inl ?_); exact List.mem_filterMap.2 ⟨.tmp t, Array.mem_toList_iff.2 hx, rfl⟩)
  | _ => rfl
theorem wanted_same {A B : Fr} {o : Oper} (h : ∀ t ∈ o.looksAt ops, A.tmp t = B.tmp t) : wantedE ops.toList o A = wantedE ops.toList o B := by
  unfold wantedE
  cases hg : o.guard with
  | none => rfl
  | some g =>
    obtain ⟨g, b⟩ := g
    simp only [nth_eq, Array.getElem?_toList]
    cases hog : ops[g]? with
    | none => rfl
    | some o' =>
      simp only
      cases hd : o'.dst with
      | none => rfl
      | some d =>
        have : d ∈ o.looksAt ops := by
          unfold Oper.looksAt
          refine List.mem_append.2 (.inr ?_)
          rw [hg]
          simp [hog, hd]
        simp only [h d this]
end
end Go.Ev
