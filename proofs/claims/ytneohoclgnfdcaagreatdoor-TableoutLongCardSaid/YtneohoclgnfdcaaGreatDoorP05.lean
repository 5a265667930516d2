import Derived.Test.YtneohoclgnfdcaaGreatDoorP04
/- Closed calls by evaluation, part F: append on abstract memory. -/
namespace Go.Ev
def St.drop (σ : St) (b : Nat) : St := { σ with heap := σ.heap.set b none }
theorem St.drop_get {σ : St} {b id : Nat} {o : AObj} (h : (σ.drop b).heap.get id = some o) : id ≠ b ∧ σ.heap.get id = some o := by
  simp only [St.drop] at h
  rw [T.get_set] at h
  by_cases e : id = b
  · rw [if_pos e] at h; cases h
  · rw [if_neg e] at h; exact ⟨e, h⟩
theorem Rel.drop {ρ : Ren} {σ : St} {w : World} (h : Rel ρ σ w) (b : Nat) : Rel ρ (σ.drop b) w :=
  ⟨fun id o ho => h.live id o (St.drop_get ho).2, fun i j oi oj hi hj => h.inj i j oi oj (St.drop_get hi).2 (St.drop_get hj).2, h.fresh, h.glob, h.gn⟩
theorem Keep.drop {ρ : Ren} {σ : St} (w : World) (b : Nat) : Keep ρ σ ρ (σ.drop b) w w :=
  ⟨Nat.le_refl _, rfl, rfl, rfl, rfl, Nat.le_refl _, fun _ _ => ⟨rfl, rfl⟩, fun _ _ _ => rfl, fun _ o _ h1 h3 => .inl ⟨o, (St.drop_get h1).2, rfl, h3⟩⟩
/-- a block of the real world comes into the abstract memory -/
theorem Rel.bring {ρ : Ren} {σ : St} {w w' : World} (h : Rel ρ σ w) (x : AObj) (o : Obj) (k : Nat) (rm : Option (Nat × Nat)) (hk : w'.heap[k]? = some o) (hx : AtR (ρ.add σ.next k rm) σ.next x o)
    (hs : ∀ id ob j, σ.heap.get id = some ob → ρ.φ id = some j → j ≠ k ∧ w'.heap[j]? = w.heap[j]?) : Rel (ρ.add σ.next k rm) (σ.add x) w' := by
  have hle : ρ.le (ρ.add σ.next k rm) := Ren.le_add (h.fresh _ (Nat.le_refl _)).1 (h.fresh _ (Nat.le_refl _)).2
  have hgn := h.gn
  refine ⟨?_, ?_, ?_, ?_, by show σ.glob ≤ σ.next + 1; omega⟩
  · intro id ob hid
    simp only [St.add] at hid
    rw [T.get_set] at hid
    by_cases e : id = σ.next
    · rw [if_pos e] at hid
      rw [← Option.some.inj hid, e]
      exact ⟨k, o, by simp [Ren.add], hk, hx⟩
    · rw [if_neg e] at hid
      obtain ⟨j, y, q1, q2, q3⟩ := h.live id ob hid
      exact ⟨j, y, hle.φ _ _ q1, by rw [(hs id ob j hid q1).2]; exact q2, q3.mono hle⟩
  · intro i j oi oj hi hj ho hφ
    simp only [St.add] at hi hj
    rw [T.get_set] at hi hj
    by_cases ei : i = σ.next
    · by_cases ej : j = σ.next
      · rw [ei, ej]
      · rw [if_neg ej] at hj
        obtain ⟨l, y, q1, q2, -⟩ := h.live j oj hj
        have h4 : (ρ.add σ.next k rm).φ i = some k := by simp [Ren.add, ei]
        rw [hle.φ _ _ q1, h4] at hφ
        exact absurd (Option.some.inj hφ).symm (hs j oj l hj q1).1
    · rw [if_neg ei] at hi
      obtain ⟨l, y, q1, q2, -⟩ := h.live i oi hi
      by_cases ej : j = σ.next
      · have h4 : (ρ.add σ.next k rm).φ j = some k := by simp [Ren.add, ej]
        rw [hle.φ _ _ q1, h4] at hφ
        exact absurd (Option.some.inj hφ) (hs i oi l hi q1).1
      · rw [if_neg ej] at hj
        obtain ⟨l2, y2, q5, q6, -⟩ := h.live j oj hj
        refine h.inj i j oi oj hi hj ho ?_
        rw [hle.φ _ _ q1, hle.φ _ _ q5] at hφ
        rw [q1, q5]; exact hφ
  · intro id hid
    simp only [St.add] at hid
    have h1 := h.fresh id (by omega)
    have : id ≠ σ.next := by omega
    simp [Ren.add, this, h1]
  · intro g hg2
    have : g ≠ σ.next := by have : g < σ.glob := hg2; omega
    simp only [Ren.add, if_neg this]
    exact h.glob g hg2
def St.dropO (σ : St) : Option Nat → St
  | some b => σ.drop b
  | none => σ
def lim : Nat := 140737488355328
def growA (P : Program) (σ : St) (e : TypeId) (i : TypeInfo) (n m : Nat) (s x : Value) (old : Option Nat) : Option (Rs Value) :=
  match i.zero with
  | none => none
  | some z =>
    match Nat.beq z.cells.size i.size && (Nat.blt 0 i.size && (Nat.ble ((n + m) * i.bytes) lim && Nat.ble (n + m) lim)) with
    | true => match runA P (Builtin.firstCells i.size n s) σ, runA P (Builtin.firstCells i.size m x) σ with
      | some (.ok a _), some (.ok b _) => match Nat.beq a.size (n * i.size) && (Nat.beq b.size (m * i.size) && b.toList.all flat) with
        | true => some (.ok (.slice (some ⟨σ.next, 0, none⟩) (n + m) big) ((σ.dropO old).add (.row { cells := (a ++ b).toList, ty := e, sz := i.size, own := true })))
        | false => none
      | _, _ => none
    | false => none
def evAppend (P : Program) (σ : St) (t tx : TypeId) (s x : Value) : Option (Rs Value) :=
  match okArg P tx, P.underlying t, s, lenV x with
  | true, some (.slice e), .slice base n c, some m =>
    match P.info? e with
    | some i => match Nat.beq c big with
      | false => match Nat.ble (n + m) c with
        | true => runA P (inPlace i.size n m base x c) σ
        | false => growA P σ e i n m (.slice base n c) x none
      | true => match base with
        | some ⟨b, 0, none⟩ => match σ.heap.get b with
          | some (.row bl) => match bl.own && (Nat.beq bl.sz i.size && (Nat.blt 0 i.size && (Nat.beq bl.ty e && Nat.ble (n * i.size) bl.cells.length))) with
            | true => match Nat.ble ((n + m) * i.size) bl.cells.length with
              | true => runA P (inPlace i.size n m base x c) σ
              | false => growA P σ e i n m (.slice base n c) x (some b)
            | false => none
          | _ => none
        | _ => none
    | none => none
  | _, _, _, _ => none
section
variable {P : Program} {ρ : Ren}
theorem lenV_zero {x : Value} {m : Nat} (h : lenV x = some m) : x = .slice none 0 big → m = 0 := by
  rintro rfl
  exact (Option.some.inj h).symm
theorem slice_zero {base : Option Addr} {n c : Nat} : Value.slice base n c = .slice none 0 big → n = 0 := by
  intro h
  injection h
theorem sim_firstCells {x x' : Value} {size n : Nat} (h : VR ρ x x') (hz : x = .slice none 0 big → n = 0) : Sim P (Builtin.firstCells size n x) (Builtin.firstCells size n x') ρ VRs := by
  intro σ w hr r he
  obtain ⟨cs, cs', rfl, h2, h3⟩ := first_run h hr hz he
  exact ⟨ρ, cs', w, .refl ρ, h2, hr, .refl w, h3⟩
theorem sim_inPlace {size n m : Nat} {base base' : Option Addr} {x x' : Value} {c c' : Nat} (hx : VR ρ x x') (hs : VR ρ (.slice base n c) (.slice base' n c')) (hz : x = .slice none 0 big → m = 0) (hbz : base = none → c ≠ big) : Sim P (inPlace size n m base x c) (inPlace size n m base' x' c') ρ VR := by
  refine sim_bind (sim_firstCells hx hz) fun ρ1 a a' hle ha => ?_
  cases hs with
  | nilSlice n c => exact sim_pure (.nilSlice _ _)
  | empty a c' => exact absurd rfl (hbz rfl)
  | @slice b k o n2 c2 c2' h1 h2 =>
    have had : AdR ρ1 ⟨b, o, none⟩ ⟨k, o, none⟩ := ⟨rfl, rfl, rfl, hle.φ _ _ h1⟩
    exact sim_bind (sim_storeCells _ _ 0 ρ1 (had.add _) (by simp [ha.size]) fun j x x' q1 q2 => ha.get j x x' (by simpa using q1) (by simpa using q2)) fun ρ2 _ _ hle2 _ => sim_pure (.slice (hle2.φ _ _ (hle.φ _ _ h1)) ((h2.mono hle).mono hle2))
theorem grow_parts {σ : St} {e : TypeId} {i : TypeInfo} {n m : Nat} {s x : Value} {old : Option Nat} {r : Rs Value} (h : growA P σ e i n m s x old = some r) :
    ∃ z a b τ1 τ2, i.zero = some z ∧ z.cells.size = i.size ∧ 0 < i.size ∧ (n + m) * i.bytes ≤ lim ∧ n + m ≤ lim ∧ runA P (Builtin.firstCells i.size n s) σ = some (.ok a τ1) ∧ runA P (Builtin.firstCells i.size m x) σ = some (.ok b τ2) ∧ a.size = n * i.size ∧ b.size = m * i.size ∧ b.toList.all flat = true ∧
      r = .ok (.slice (some ⟨σ.next, 0, none⟩) (n + m) big) ((σ.dropO old).add (.row { cells := (a ++ b).toList, ty := e, sz := i.size, own := true })) := by
  unfold growA at h
  cases hz : i.zero with
  | none => rw [hz] at h; cases h
  | some z =>
    rw [hz] at h
    simp only at h
    cases hc : (Nat.beq z.cells.size i.size && (Nat.blt 0 i.size && (Nat.ble ((n + m) * i.bytes) lim && Nat.ble (n + m) lim))) with
    | false => rw [hc] at h; cases h
    | true =>
      rw [hc] at h
      simp only at h
      cases ha : runA P (Builtin.firstCells i.size n s) σ with
      | none => rw [ha] at h; cases h
      | some ra =>
        cases hb : runA P (Builtin.firstCells i.size m x) σ with
        | none => rw [ha, hb] at h; cases ra <;> cases h
        | some rb =>
          rw [ha, hb] at h
          cases ra with
          | panic v τ => cases h
          | ok a τ1 =>
            cases rb with
            | panic v τ => cases h
            | ok b τ2 =>
              simp only at h
              cases hd : (Nat.beq a.size (n * i.size) && (Nat.beq b.size (m * i.size) && b.toList.all flat)) with
              | false => rw [hd] at h; cases h
              | true =>
                rw [hd] at h
                simp only [Bool.and_eq_true, Nat.beq_eq, Nat.ble_eq] at hc hd
                exact ⟨z, a, b, τ1, τ2, rfl, hc.1, by simpa using hc.2.1, hc.2.2.1, hc.2.2.2, rfl, rfl, hd.1, hd.2.1, hd.2.2, (Option.some.inj h).symm⟩
theorem zeroCells_size (z : Array Value) (n : Nat) : (Builtin.zeroCells z n).size = n * z.size := by simp [Builtin.zeroCells]
/-- the arm that grows: the real slice's room is too small -/
theorem grow_real {σ : St} {w : World} (hr : Rel ρ σ w) {t tx ty e : TypeId} {i : TypeInfo} {n m c c' : Nat} {base base' : Option Addr} {x x' : Value} {old : Option Nat} {r : Rs Value} (ht : P.underlying t = some (.slice e)) (hi : P.info? e = some i) (hok : okArg P tx = true)
    (hx : VR ρ x x') (hm : lenV x = some m) (hs : VR ρ (.slice base n c) (.slice base' n c')) (hc : c' < n + m) (h : growA P σ e i n m (.slice base n c) x old = some r) :
    Out VR ρ σ w r ((Builtin.append_ #[t, tx] ty #[.slice base' n c', x']).run P w) := by
  obtain ⟨z, a, b, τ1, τ2, hz, hzs, hsz, hb, h63, ha, hbb, hal, hbl, hfl, rfl⟩ := grow_parts h
  have hr1 : Rel ρ σ w.drew := hr.heap_eq rfl
  obtain ⟨a1, a', e1, ha', hva⟩ := first_run hs hr1 slice_zero ha
  obtain ⟨b1, b', e2, hb', hvb⟩ := first_run hx hr1 (lenV_zero hm) hbb
  cases e1
  cases e2
  have hrun := append_grows (P := P) (ty := ty) ht hi hz hok (lenV_run hx hm) hc hb h63 w ha' hb'
  rw [hrun]
  have hcap := grownCap_ge w (n + m) c' e
  generalize grownCap w (n + m) c' e = cap at hcap
  have hrd : Rel ρ (σ.dropO old) w.drew := by cases old with
    | none => exact hr1
    | some b => exact hr1.drop b
  have hkd : Keep ρ σ ρ (σ.dropO old) w.drew w.drew := by cases old with
    | none => exact .refl _
    | some b => exact .drop _ b
  have hnx : (σ.dropO old).next = σ.next := by cases old <;> rfl
  generalize hσ1 : σ.dropO old = σ1 at hrd hkd hnx
  have hk0 : Keep ρ σ ρ σ w w.drew := .drew rfl rfl rfl rfl
  have hle : ρ.le (ρ.add σ1.next w.heap.size (some (cap, i.size))) := Ren.le_add (hrd.fresh _ (Nat.le_refl _)).1 (hrd.fresh _ (Nat.le_refl _)).2
  have hrow : RowR (ρ.add σ1.next w.heap.size (some (cap, i.size))) σ1.next { cells := (a ++ b).toList, ty := e, sz := i.size, own := true } (a' ++ b' ++ Builtin.zeroCells z.cells (cap - (n + m))) e (0, 0) := by
    have hab := hva.append hvb
    have hsize : (a' ++ b' ++ Builtin.zeroCells z.cells (cap - (n + m))).size = cap * i.size := by
      rw [Array.size_append, Array.size_append, zeroCells_size, hzs, ← hva.size, ← hvb.size, hal, hbl, ← Nat.add_mul, ← Nat.add_mul]
      congr 1; omega
    refine ⟨fun _ => rfl, fun _ => rfl, ?_, fun h0 => ?_, ?_, fun _ => ⟨cap, by simp [Ren.add], hsize⟩⟩
    · simp [hva.size, hvb.size]
    · simp only at h0; omega
    · intro j v hv
      simp only at hv
      obtain ⟨v', q1, q2⟩ := hab.toList j v hv
      refine ⟨v', ?_, q2.mono hle⟩
      rw [Array.getElem?_append_left (Array.getElem?_eq_some_iff.1 q1).1]
      exact q1
  refine ⟨ρ.add σ1.next w.heap.size (some (cap, i.size)), _, _, hle, rfl, hrd.new _ _ _ ⟨_, _, _, rfl, hrow⟩, (hk0.trans hkd).trans (Keep.fresh (w := w.drew) (.row { cells := (a ++ b).toList, ty := e, sz := i.size, own := true }) rfl (.cells (a' ++ b' ++ Builtin.zeroCells z.cells (cap - (n + m))) e) (some (cap, i.size))), ?_⟩
  rw [← hnx]
  refine .slice (by simp [Ren.add]) ?_
  unfold CapR
  rw [if_pos rfl]
  exact ⟨cap, i.size, by simp [Ren.add], by simp⟩
theorem append_sound {σ : St} {w : World} (hr : Rel ρ σ w) {t tx ty : TypeId} {s s' x x' : Value} {r : Rs Value} (hs : VR ρ s s') (hx : VR ρ x x') (h : evAppend P σ t tx s x = some r) :
    Out VR ρ σ w r ((Builtin.append_ #[t, tx] ty #[s', x']).run P w) := by
  unfold evAppend at h
  cases hok : okArg P tx with
  | false => rw [hok] at h; cases h
  | true =>
  cases ht : P.underlying t with
  | none => rw [hok, ht] at h; cases h
  | some d =>
  rw [hok, ht] at h
  cases d with
  | slice e =>
    cases hm : lenV x with
    | none => rw [hm] at h; cases s <;> cases h
    | some m =>
    rw [hm] at h
    have hs2 := hs
    cases hs with
    | nilSlice n c =>
      simp only at h
      cases hi : P.info? e with
      | none => rw [hi] at h; cases h
      | some i =>
      rw [hi] at h
      simp only at h
      cases hcb : Nat.beq c big with
      | true => rw [hcb] at h; cases h
      | false =>
        rw [hcb] at h
        simp only at h
        cases hle : Nat.ble (n + m) c with
        | true =>
          rw [hle] at h
          rw [append_fits ht hi hok (lenV_run hx hm) (Nat.le_of_ble_eq_true hle)]
          exact (sim_inPlace hx hs2 (lenV_zero hm) (fun _ e => by rw [← Bool.not_eq_true, Nat.beq_eq] at hcb; exact hcb e)).out hr h
        | false =>
          rw [hle] at h
          exact grow_real hr ht hi hok hx hm hs2 (by rw [← Bool.not_eq_true, Nat.ble_eq] at hle; omega) h
    | empty a c' =>
      exfalso
      simp only at h
      cases hi : P.info? e with
      | none => rw [hi] at h; cases h
      | some i => rw [hi] at h; cases h
    | @slice b k o n c c' h1 h2 =>
      simp only at h
      cases hi : P.info? e with
      | none => rw [hi] at h; cases h
      | some i =>
      rw [hi] at h
      simp only at h
      cases hcb : Nat.beq c big with
      | false =>
        rw [hcb] at h
        simp only at h
        have hne : c ≠ big := by rw [← Bool.not_eq_true, Nat.beq_eq] at hcb; exact hcb
        unfold CapR at h2
        rw [if_neg hne] at h2
        subst h2
        cases hle : Nat.ble (n + m) c' with
        | true =>
          rw [hle] at h
          rw [append_fits ht hi hok (lenV_run hx hm) (Nat.le_of_ble_eq_true hle)]
          exact (sim_inPlace hx hs2 (lenV_zero hm) (fun e => by cases e)).out hr h
        | false =>
          rw [hle] at h
          exact grow_real hr ht hi hok hx hm hs2 (by rw [← Bool.not_eq_true, Nat.ble_eq] at hle; omega) h
      | true =>
        rw [hcb] at h
        simp only at h
        have hceq : c = big := by rw [Nat.beq_eq] at hcb; exact hcb
        subst hceq
        cases o with
        | succ o => cases h
        | zero =>
        simp only at h
        cases hg : σ.heap.get b with
        | none => rw [hg] at h; cases h
        | some y =>
        rw [hg] at h
        cases y with
        | obj o => cases h
        | row bl =>
        obtain ⟨cells0, ty0, sz0, own0⟩ := bl
        simp only at h
        cases hck : (own0 && (Nat.beq sz0 i.size && (Nat.blt 0 i.size && (Nat.beq ty0 e && Nat.ble (n * i.size) cells0.length)))) with
        | false => rw [hck] at h; cases h
        | true =>
        rw [hck] at h
        simp only [Bool.and_eq_true, Nat.beq_eq, Nat.ble_eq] at hck
        obtain ⟨rfl, rfl, hpos, rfl, hlen⟩ := hck
        have hpos : 0 < i.size := by simpa using hpos
        obtain ⟨k1, y1, g1, g2, cs, tyr, fr, rfl, hrow⟩ := hr.live b _ hg
        have hkk : k1 = k := by rw [h1] at g1; exact (Option.some.inj g1).symm
        subst hkk
        have hfr := hrow.fr rfl
        subst hfr
        have hty := hrow.ty rfl
        simp only at hty
        subst hty
        obtain ⟨R, hR1, hR2⟩ := hrow.room (by simp only; omega)
        simp only at hR1 hR2
        have hcc := h2
        unfold CapR at hcc
        rw [if_pos rfl] at hcc
        obtain ⟨R', z', hRR, hc'⟩ := hcc
        rw [hR1] at hRR
        cases Option.some.inj hRR
        simp only [Nat.zero_div, Nat.sub_zero] at hc'
        subst hc'
        have hle0 := hrow.le
        simp only at hle0
        simp only at h
        cases hk2 : Nat.ble ((n + m) * i.size) cells0.length with
        | true =>
          rw [hk2] at h
          have h3 : (n + m) * i.size ≤ c' * i.size := by rw [Nat.ble_eq] at hk2; omega
          have h4 : n + m ≤ c' := Nat.le_of_mul_le_mul_right h3 hpos
          rw [append_fits ht hi hok (lenV_run hx hm) h4]
          exact (sim_inPlace hx hs2 (lenV_zero hm) (fun e => by cases e)).out hr h
        | false =>
          rw [hk2] at h
          by_cases hfit : n + m ≤ c'
          · obtain ⟨z, a, bb, τ1, τ2, hz, hzs, hsz, hb, h63, ha, hbb, hal, hbl, hfl, rfl⟩ := grow_parts h
            obtain ⟨a1, a', e1, ha', hva⟩ := first_run hs2 hr slice_zero ha
            obtain ⟨b1, b', e2, hb', hvb⟩ := first_run hx hr (lenV_zero hm) hbb
            cases e1
            cases e2
            rw [append_fits ht hi hok (lenV_run hx hm) hfit]
            have hbs := hvb.size
            have has := hva.size
            have hone : ∀ v ∈ b'.toList, v.oneCell' = true := by
              intro v' hv'
              obtain ⟨j, hj, hjv⟩ := List.mem_iff_getElem.1 hv'
              rw [Array.length_toList] at hj
              have hjb : j < bb.size := by rw [hbs]; exact hj
              have hvr := hvb.get j bb[j] b'[j] (Array.getElem?_eq_getElem hjb) (Array.getElem?_eq_getElem hj)
              have hfb := List.all_eq_true.1 hfl bb[j] (Array.mem_toList_iff.2 (Array.getElem_mem hjb))
              have hfv : flat b'[j] = true := by rw [hvr.flat]; exact hfb
              have he : v' = b'[j] := by rw [← hjv]; simp
              rw [he]
              generalize b'[j] = u at hfv
              cases u <;> first | rfl | (simp [flat] at hfv)
            have hmul : n * i.size + m * i.size ≤ c' * i.size := by rw [← Nat.add_mul]; exact Nat.mul_le_mul_right _ hfit
            have hst := run_storeCells_at (P := P) k1 (n * i.size) tyr b'.toList 0 cs w g2 (by simp only [Array.length_toList]; omega) hone
            have hplace : (⟨k1, 0, none⟩ : Addr).add (n * i.size) = ⟨k1, n * i.size, none⟩ := by
              unfold Addr.add
              split
              · rename_i h0; rw [h0]
              · simp
            have hrun : (inPlace i.size n m (some ⟨k1, 0, none⟩) x' c').run P w = .ok (.slice (some ⟨k1, 0, none⟩) (n + m) c') (w.setRow k1 (cs.toList.take (n * i.size + 0) ++ b'.toList ++ cs.toList.drop (n * i.size + 0 + b'.toList.length)).toArray) := by
              simp only [inPlace, Sem.run_bind, hb', Result.andThen_ok, hplace, hst, Sem.run_pure]
            rw [hrun]
            have hle : ρ.le (ρ.add σ.next k1 (some (c', i.size))) := Ren.le_add (hr.fresh _ (Nat.le_refl _)).1 (hr.fresh _ (Nat.le_refl _)).2
            have hab := hva.append hvb
            have hold : a'.toList = cs.toList.take (n * i.size) := by
              have hll := run_loadCells_list (P := P) (w := w) ⟨k1, 0, none⟩ (cs.toList.take (n * i.size)) (by
                intro j v hv
                have hadd : (⟨k1, 0, none⟩ : Addr).add j = ⟨k1, j, none⟩ := by
                  unfold Addr.add
                  split
                  · rename_i h0; rw [h0]
                  · simp
                rw [hadd]
                rw [List.getElem?_take] at hv
                split at hv
                · simp only [World.cell?, g2]
                  simpa using hv
                · cases hv)
              have hlen2 : (cs.toList.take (n * i.size)).length = n * i.size := by simp; omega
              rw [hlen2] at hll
              have ha2 : (loadCells ⟨k1, 0, none⟩ (n * i.size)).run P w = .ok a' w := ha'
              rw [hll] at ha2
              exact (congrArg Array.toList (Result.ok.inj ha2).1).symm
            have hrow2 : RowR (ρ.add σ.next k1 (some (c', i.size))) σ.next { cells := (a ++ bb).toList, ty := tyr, sz := i.size, own := true } (cs.toList.take (n * i.size + 0) ++ b'.toList ++ cs.toList.drop (n * i.size + 0 + b'.toList.length)).toArray tyr (0, 0) := by
              have hsz2 : (cs.toList.take (n * i.size + 0) ++ b'.toList ++ cs.toList.drop (n * i.size + 0 + b'.toList.length)).toArray.size = c' * i.size := by
                simp [List.length_take, List.length_drop]; omega
              refine ⟨fun _ => rfl, fun _ => rfl, ?_, fun h0 => by simp only at h0; omega, ?_, fun _ => ⟨c', by simp [Ren.add], hsz2⟩⟩
              · rw [hsz2]; simp; omega
              · intro j v hv
                simp only at hv
                obtain ⟨v', q1, q2⟩ := hab.toList j v hv
                refine ⟨v', ?_, q2.mono hle⟩
                rw [← Array.getElem?_toList, Array.toList_append, hold] at q1
                rw [List.getElem?_toArray, Nat.add_zero, List.getElem?_append_left (List.getElem?_eq_some_iff.1 q1).1]
                exact q1
            refine ⟨ρ.add σ.next k1 (some (c', i.size)), _, _, hle, rfl, (hr.drop b).bring _ _ k1 _ (setRow_heap w k1 cs _ tyr _ g2) ⟨_, _, _, rfl, hrow2⟩ ?_, ?_, ?_⟩
            · intro id ob j hid hj
              obtain ⟨hne, hid⟩ := St.drop_get hid
              have : j ≠ k1 := fun e => hne (hr.inj b id _ _ hg hid rfl (by rw [g1, hj, e])).symm
              exact ⟨this, setRow_other w k1 j _ this⟩
            · refine ⟨by simp [World.setRow], rfl, rfl, rfl, rfl, Nat.le_succ _, fun id hid => ?_, ?_, ?_⟩
              · have : id ≠ σ.next := by omega
                simp [Ren.add, this]
              · intro j _ hn
                exact setRow_other w k1 j _ fun e => hn b _ hg rfl (by rw [g1, e])
              · intro id ob j hid hj
                simp only [St.add] at hid
                rw [T.get_set] at hid
                by_cases e : id = (σ.dropO (some b)).next
                · have e2 : id = σ.next := e
                  simp only [Ren.add, if_pos e2] at hj
                  rw [if_pos e] at hid
                  rw [← Option.some.inj hid]
                  exact .inr ⟨rfl, .inr ⟨b, _, hg, rfl, by rw [g1]; exact hj⟩⟩
                · rw [if_neg e] at hid
                  have e2 : ¬ id = σ.next := e
                  simp only [Ren.add, if_neg e2] at hj
                  exact .inl ⟨ob, (St.drop_get hid).2, rfl, hj⟩
            · refine .slice (by simp [Ren.add]) ?_
              unfold CapR
              rw [if_pos rfl]
              exact ⟨c', i.size, by simp [Ren.add], by simp⟩
          · exact grow_real hr ht hi hok hx hm hs2 (by omega) h
    | _ => cases h
  | _ => cases h
end
end Go.Ev
/- Closed calls by evaluation, part G: one operation. -/
namespace Go.Ev
section
variable {P : Program} {ρ : Ren}
theorem VRs.getB {a b : Array Value} (h : VRs ρ a b) (i : Nat) : VR ρ a[i]! b[i]! := by
  rw [getElem!_def, getElem!_def]
  cases ha : a[i]? with
  | none => rw [h.none ha]; exact .bool false
  | some v => obtain ⟨v', h1, h2⟩ := h.to ha; rw [h1]; exact h2
theorem sim_asIntOf {v v' : Value} (h : VR ρ v v') : Sim P (asIntOf v) (asIntOf v') ρ fun _ x x' => x' = x := by
  cases h <;> first | exact sim_pure rfl | exact sim_unsupported | exact sim_stuck
theorem sim_asInt {v v' : Value} (h : VR ρ v v') : Sim P (asInt v) (asInt v') ρ fun _ x x' => x' = x := sim_bind (sim_asIntOf h) fun _ _ _ _ e => by rw [e]; exact sim_pure rfl
theorem sim_asAgg {v v' : Value} (h : VR ρ v v') : Sim P (asAgg v) (asAgg v') ρ VRs := by
  cases h <;> first | exact sim_pure ⟨by assumption, by assumption⟩ | exact sim_stuck
theorem sim_error {α : Type} {m : String} {Q : Ren → α → α → Prop} : Sim P (runtimePanic (.error m) : Sem α) (runtimePanic (.error m)) ρ Q :=
  sim_bind (sim_program (Q := fun _ p p' => p = P ∧ p' = P) ⟨rfl, rfl⟩) fun _ p p' _ h => by
    obtain ⟨rfl, rfl⟩ := h
    exact sim_panic (.iface (.string _))
theorem sim_nilDeref {α : Type} {Q : Ren → α → α → Prop} : Sim P (runtimePanic .nilDeref : Sem α) (runtimePanic .nilDeref) ρ Q :=
  sim_bind (sim_program (Q := fun _ p p' => p = P ∧ p' = P) ⟨rfl, rfl⟩) fun _ p p' _ h => by
    obtain ⟨rfl, rfl⟩ := h
    exact sim_panic (.iface (.string _))
theorem sim_never {α β : Type} {s s' : Sem α} {k k' : α → Sem β} {Q : Ren → β → β → Prop} (h : ∀ Q : Ren → α → α → Prop, Sim P s s' ρ Q) : Sim P (s >>= k) (s' >>= k') ρ Q := sim_bind (h fun _ _ _ => False) fun _ _ _ _ e => e.elim
theorem sim_map {α β : Type} {s s' : Sem α} {f : α → β} {Q : Ren → α → α → Prop} {Q2 : Ren → β → β → Prop} (h : Sim P s s' ρ Q) (hq : ∀ ρ' x x', ρ.le ρ' → Q ρ' x x' → Q2 ρ' (f x) (f x')) : Sim P (Functor.map f s) (Functor.map f s') ρ Q2 := by
  rw [map_eq_pure_bind, map_eq_pure_bind]
  exact sim_bind h fun ρ' x x' hle hx => sim_pure (hq ρ' x x' hle hx)
theorem sim_bounds {α : Type} {k : IntKind} {x y : Int} {c : BoundsCode} {Q : Ren → α → α → Prop} : Sim P (boundsPanic k x y c : Sem α) (boundsPanic k x y c) ρ Q := by
  have h1 : ∀ (ρ1 : Ren) (s : Bool), Sim P (runtimePanic (.bounds (IntKind.i64.wrap x) y s c) : Sem α) (runtimePanic (.bounds (IntKind.i64.wrap x) y s c)) ρ1 Q := fun ρ1 s =>
    sim_bind (sim_program (Q := fun _ p p' => p = P ∧ p' = P) ⟨rfl, rfl⟩) fun ρ2 p p' _ h => by
      obtain ⟨rfl, rfl⟩ := h
      exact sim_panic (.iface (((((VRs.empty ρ2).push (.int _ _)).push (.int _ _)).push (.bool _)).push (.int _ _)).agg)
  unfold boundsPanic
  refine sim_if (fun _ => ?_) fun _ => ?_
  · exact sim_bind (sim_map (Q2 := fun _ x x' => x' = x) sim_choose fun _ _ _ _ e => by rw [e]) fun ρ1 s s' _ e => by rw [e]; exact h1 ρ1 s
  · exact sim_bind (sim_pure (Q := fun _ x x' => x' = x) rfl) fun ρ1 s s' _ e => by rw [e]; exact h1 ρ1 s
/-- a made slice is no grown one -/
def capOk : Value → Bool
  | .slice _ _ c => Nat.blt c big
  | _ => true
theorem capR_of {b o c : Nat} (h : Nat.blt c big = true) : CapR ρ b o c c := by
  unfold CapR
  rw [if_neg (by intro e; rw [e] at h; exact absurd h (by decide))]
def CapV (ρ : Ren) (v v' : Value) : Prop := capOk v = true → VR ρ v v'
theorem sim_newSlice {ty : TypeId} {cs cs' : Array Value} {n c : Nat} (h : VRs ρ cs cs') : Sim P (do pure (Value.slice (some (← newRow ty cs)) n c)) (do pure (Value.slice (some (← newRow ty cs')) n c)) ρ CapV :=
  sim_bind (sim_newRow h) fun ρ1 a a' _ ha => sim_pure fun hc => by
    obtain ⟨b, o, sp⟩ := a
    obtain ⟨b', o', sp'⟩ := a'
    obtain ⟨h1, h2, h3, hb⟩ := ha
    simp only at h1 h2 h3 hb
    subst h1 h2 h3
    exact .slice hb (capR_of hc)
theorem VRs.zeros {z z' : Array Value} (h : VRs ρ z z') (n : Nat) : VRs ρ ((Array.range n).map (fun i => z[i % z.size]!)) ((Array.range n).map (fun i => z'[i % z'.size]!)) :=
  .map _ _ _ fun i _ => by rw [← h.size]; exact h.getB _
theorem sim_makeSlice (hz : ZeroOk P) {t : TypeId} {l l' c c' : Value} (hl : VR ρ l l') (hc : VR ρ c c') : Sim P (Instr.makeSlice t l c) (Instr.makeSlice t l' c') ρ CapV := by
  unfold Instr.makeSlice
  refine sim_bind sim_underlying fun ρ1 d d' hle1 hd => ?_
  obtain ⟨rfl, -⟩ := hd
  split
  · rename_i elem
    refine sim_bind (sim_asInt (hl.mono hle1)) fun ρ2 x x' hle2 hx => ?_
    subst hx
    refine sim_bind (sim_asInt ((hc.mono hle1).mono hle2)) fun ρ3 y y' hle3 hy => ?_
    subst hy
    refine sim_bind sim_typeInfo fun ρ4 i i' _ hi => ?_
    obtain ⟨rfl, -⟩ := hi
    dsimp only
    have cont : ∀ ρ5 : Ren, Sim P (do
          askRoom ((IntKind.i64.wrap y').toNat * i'.bytes)
          let n := (IntKind.i64.wrap y').toNat * (← sizeOf elem)
          let zero ← if n = 0 then pure #[] else do pure (← zeroValue elem).cells
          let a ← newRow elem ((Array.range n).map (fun x => zero[x % zero.size]!))
          pure (Value.slice (some a) (IntKind.i64.wrap x').toNat (IntKind.i64.wrap y').toNat)) (do
          askRoom ((IntKind.i64.wrap y').toNat * i'.bytes)
          let n := (IntKind.i64.wrap y').toNat * (← sizeOf elem)
          let zero ← if n = 0 then pure #[] else do pure (← zeroValue elem).cells
          let a ← newRow elem ((Array.range n).map (fun x => zero[x % zero.size]!))
          pure (Value.slice (some a) (IntKind.i64.wrap x').toNat (IntKind.i64.wrap y').toNat)) ρ5 CapV := by
      intro ρ5
      refine sim_bind (Q := fun _ _ _ => True) ?_ fun ρ6 _ _ _ _ => ?_
      · unfold askRoom; exact sim_ite (fun _ => sim_mark) fun _ => sim_pure trivial
      · refine sim_bind sim_sizeOf fun ρ7 n n' _ hn => ?_
        subst hn
        refine sim_ite (fun _ => ?_) fun _ => ?_
        · exact sim_bind (Q := VRs) (sim_pure (.empty _)) fun ρ8 z z' _ hzz => sim_newSlice (VRs.zeros hzz _)
        · exact sim_bind (sim_zeroValue hz) fun _ _ _ _ hv => sim_bind (Q := VRs) (sim_pure hv.cells) fun ρ8 z z' _ hzz => sim_newSlice (VRs.zeros hzz _)
    refine sim_if (fun _ => ?_) fun _ => cont _
    refine sim_if (fun _ => sim_never fun _ => sim_error) fun _ => sim_if (fun _ => sim_never fun _ => sim_error) fun _ => ?_
    refine sim_bind sim_choose fun _ x x' _ e => ?_
    subst e
    exact sim_never fun _ => sim_error
  · exact sim_stuck
theorem sim_build (hz : ZeroOk P) {t : TypeId} {p p' : Array (Nat × Value)} (hp : PR ρ p.toList p'.toList) : Sim P (Instr.build t p) (Instr.build t p') ρ VR := by
  unfold Instr.build
  refine sim_bind (sim_zeroValue hz) fun ρ1 z z' hle1 hzz => ?_
  have hc := hzz.cells
  refine sim_bind sim_underlying fun ρ2 d d' hle2 hd => ?_
  obtain ⟨rfl, -⟩ := hd
  have hp2 := hp.mono (hle1.trans hle2)
  have hc2 := hc.mono hle2
  split
  · rename_i fields
    refine sim_bind (sim_mapMA (fun ρ f => sim_bind sim_sizeOf fun _ _ _ _ e => by rw [e]; exact sim_pure rfl) fields) fun ρ3 pl pl' hle3 e => ?_
    subst e
    rcases fillR _ _ _ _ (hc2.mono hle3) (hp2.mono hle3) with ⟨h1, -⟩ | ⟨x, x', h1, h2, h3⟩
    · rw [h1]; exact sim_stuck
    · rw [h1, h2]; exact sim_pure h3.agg
  · rename_i elem
    refine sim_bind sim_sizeOf fun ρ3 n n' hle3 e => ?_
    subst e
    rcases fillR _ _ _ _ (hc2.mono hle3) (hp2.mono hle3) with ⟨h1, -⟩ | ⟨x, x', h1, h2, h3⟩
    · rw [h1]; exact sim_stuck
    · rw [h1, h2]; exact sim_pure h3.agg
  · exact sim_stuck
theorem sim_buildSlice (hz : ZeroOk P) {t : TypeId} {len : Nat} {p p' : Array (Nat × Value)} (hp : PR ρ p.toList p'.toList) : Sim P (Instr.buildSlice t len p) (Instr.buildSlice t len p') ρ CapV := by
  unfold Instr.buildSlice
  refine sim_bind sim_underlying fun ρ1 d d' hle1 hd => ?_
  obtain ⟨rfl, -⟩ := hd
  split
  · rename_i elem
    refine sim_bind sim_sizeOf fun ρ2 n n' hle2 e => ?_
    subst e
    have fin : ∀ ρ3 : Ren, ρ.le ρ3 → ∀ x x' : Array Value, VRs ρ3 x x' → True := fun _ _ _ _ _ => trivial
    refine sim_ite (fun _ => ?_) fun _ => ?_
    · exact sim_none fun _ => rfl
    · dsimp only
      have cont : ∀ (ρ4 : Ren) (z z' : Array Value), ρ2.le ρ4 → VRs ρ4 z z' → Sim P (match Instr.fill (fun i => some (i * n', n')) ((Array.range (len * n')).map (fun x => z[x % z.size]!)) p.toList with | some cells => (do pure (Value.slice (some (← newRow elem cells)) len len)) | _ => stuck "buildSlice: a part of the wrong size")
          (match Instr.fill (fun i => some (i * n', n')) ((Array.range (len * n')).map (fun x => z'[x % z'.size]!)) p'.toList with | some cells => (do pure (Value.slice (some (← newRow elem cells)) len len)) | _ => stuck "buildSlice: a part of the wrong size") ρ4 CapV := by
        intro ρ4 z z' hle4 hzz
        rcases fillR (place := fun i => some (i * n', n')) _ _ _ _ (VRs.zeros hzz (len * n')) (hp.mono ((hle1.trans hle2).trans hle4)) with ⟨h1, -⟩ | ⟨x, x', h1, h2, h3⟩
        · rw [h1]; exact sim_stuck
        · rw [h1, h2]; exact sim_newSlice h3
      refine sim_ite (fun _ => ?_) fun _ => ?_
      · exact sim_bind (Q := VRs) (sim_pure (.empty _)) fun ρ8 z z' hle4 hzz => cont ρ8 z z' hle4 hzz
      · exact sim_bind (sim_zeroValue hz) fun ρ7 _ _ hle7 hv => sim_bind (Q := VRs) (sim_pure hv.cells) fun ρ8 z z' hle4 hzz => cont ρ8 z z' (hle7.trans hle4) hzz
  · exact sim_stuck
theorem sim_makeInterface {t : TypeId} {v v' : Value} (h : VR ρ v v') : Sim P (Instr.makeInterface t v) (Instr.makeInterface t v') ρ VR := by
  refine sim_bind sim_underlying fun ρ1 d d' hle hd => ?_
  obtain ⟨rfl, -⟩ := hd
  split
  · exact sim_stuck
  · exact sim_pure (.iface (h.mono hle))
theorem sim_field {t : TypeId} {v v' : Value} {f : Nat} (h : VR ρ v v') : Sim P (Instr.field t v f) (Instr.field t v' f) ρ VR := by
  refine sim_bind sim_underlying fun ρ1 d d' hle hd => ?_
  obtain ⟨rfl, -⟩ := hd
  split
  · split
    · exact sim_bind (sim_asAgg (h.mono hle)) fun _ _ _ _ hc => sim_part _ hc
    · exact sim_stuck
  · exact sim_stuck
theorem sim_indexAt {t : TypeId} {v v' i i' : Value} (h : VR ρ v v') (hi : VR ρ i i') : Sim P (Instr.indexAt t v i) (Instr.indexAt t v' i') ρ VR := by
  unfold Instr.indexAt
  refine sim_bind (sim_asIntOf hi) fun ρ1 x x' hle1 e => ?_
  subst e
  obtain ⟨k, i⟩ := x'
  dsimp only
  refine sim_bind sim_underlying fun ρ2 d d' hle2 hd => ?_
  obtain ⟨rfl, hdd⟩ := hd
  have h := h.mono (hle1.trans hle2)
  cases d' with
  | array len elem =>
    refine sim_bind (sim_sureAddr h) fun ρ3 a a' hle3 ha => ?_
    refine sim_bind (Q := fun ρ x x' => ∃ a a', x = (some a, len, elem) ∧ x' = (some a', len, elem) ∧ AdR ρ a a') (sim_pure ⟨_, _, rfl, rfl, ha⟩) fun ρ4 x x' hle4 hx => ?_
    obtain ⟨a, a', rfl, rfl, ha⟩ := hx
    refine sim_bind sim_underlying fun ρ5 d d' hle5 hd => ?_
    obtain ⟨rfl, -⟩ := hd
    dsimp only
    refine sim_ite (fun _ => ?_) fun _ => sim_if (fun _ => sim_unsupported) fun _ => sim_bounds
    exact sim_bind sim_sizeOf fun ρ6 n n' hle6 e => by subst e; exact sim_pure (((ha.mono hle5).mono hle6).add _).ptr
  | slice elem =>
    cases h with
    | nilSlice n c =>
      refine sim_bind (Q := fun ρ x x' => x = (none, n, elem) ∧ x' = (none, n, elem)) (sim_pure ⟨rfl, rfl⟩) fun ρ4 x x' hle4 hx => ?_
      obtain ⟨rfl, rfl⟩ := hx
      refine sim_bind sim_underlying fun ρ5 d d' hle5 hd => ?_
      exact sim_bounds
    | empty a c' =>
      refine sim_bind (Q := fun ρ x x' => x = (none, 0, elem) ∧ x' = (a, 0, elem)) (sim_pure ⟨rfl, rfl⟩) fun ρ4 x x' hle4 hx => ?_
      obtain ⟨rfl, rfl⟩ := hx
      refine sim_bind sim_underlying fun ρ5 d d' hle5 hd2 => ?_
      obtain ⟨rfl, hd2⟩ := hd2
      obtain rfl := Option.some.inj (hd2.symm.trans hdd)
      cases a with
      | none => exact sim_bounds
      | some a =>
        dsimp only
        rw [if_neg (show ¬ (0 ≤ i ∧ i < ((0 : Nat) : Int)) by omega), if_neg (by simp)]
        exact sim_bounds
    | @slice b k o n c c' h1 h2 =>
      have ha : AdR ρ2 ⟨b, o, none⟩ ⟨k, o, none⟩ := ⟨rfl, rfl, rfl, h1⟩
      refine sim_bind (Q := fun ρ x x' => ∃ a a', x = (some a, n, elem) ∧ x' = (some a', n, elem) ∧ AdR ρ a a') (sim_pure ⟨_, _, rfl, rfl, ha⟩) fun ρ4 x x' hle4 hx => ?_
      obtain ⟨a, a', rfl, rfl, ha⟩ := hx
      refine sim_bind sim_underlying fun ρ5 d d' hle5 hd => ?_
      obtain ⟨rfl, -⟩ := hd
      dsimp only
      refine sim_ite (fun _ => ?_) fun _ => sim_if (fun _ => sim_unsupported) fun _ => sim_bounds
      exact sim_bind sim_sizeOf fun ρ6 n n' hle6 e => by subst e; exact sim_pure (((ha.mono hle5).mono hle6).add _).ptr
    | _ => exact sim_never fun _ => sim_stuck
  | _ => exact sim_never fun _ => sim_stuck
end
end Go.Ev
/- Closed calls by evaluation, part H: slices of slices, nil, strings' ranges, asserted types, conversions to strings. -/
namespace Go.Ev
section
variable {P : Program} {ρ : Ren}
/-- a bound of s[l:h] -/
def intV : Value → Option Nat
  | .int _ n => match Int.decLe 0 n with
    | isTrue _ => some n.toNat
    | isFalse _ => none
  | _ => none
def boundV (d : Nat) : Option Value → Option Nat
  | none => some d
  | some v => intV v
theorem intV_run {v v' : Value} (h : VR ρ v v') {n : Nat} (hn : intV v = some n) : ∃ k i, v' = .int k i ∧ 0 ≤ i ∧ i.toNat = n := by
  cases h <;> try (cases hn; done)
  rename_i k i
  simp only [intV] at hn
  cases hd : Int.decLe 0 i with
  | isTrue h0 => rw [hd] at hn; exact ⟨k, i, rfl, h0, Option.some.inj hn⟩
  | isFalse h0 => rw [hd] at hn; cases hn
/-- s[l:h] of a slice -/
def evSlice (P : Program) (σ : St) (t : TypeId) (x : Value) (lo hi : Option Value) : Option Value :=
  match P.underlying t, x with
  | some (.slice elem), .slice base n c =>
    match P.info? elem, boundV 0 lo, boundV n hi with
    | some i, some l, some h =>
      match Nat.ble l h with
      | false => none
      | true => match Nat.beq c big with
        | false => match Nat.ble h c && Nat.blt c big with
          | true => some (.slice (match Nat.beq c l with | true => base | false => base.map (·.add (l * i.size))) (h - l) (c - l))
          | false => none
        | true => match base with
          | some ⟨b, o, none⟩ => match σ.heap.get b with
            | some (.row bl) => match Nat.beq bl.sz i.size && (Nat.blt 0 i.size && (Nat.ble (o + h * i.size) bl.cells.length && (Nat.beq l 0 || Nat.blt (o + l * i.size) bl.cells.length))) with
              | true => some (.slice (some (Addr.add ⟨b, o, none⟩ (l * i.size))) (h - l) big)
              | false => match Nat.beq bl.sz i.size && (Nat.blt 0 i.size && (Nat.ble (o + h * i.size) bl.cells.length && Nat.beq l h)) with
                | true => some (.slice none 0 big)
                | false => none
            | _ => none
          | _ => none
    | _, _, _ => none
  | _, _ => none
theorem run_bound {k : IntKind} {i : Int} {y : Nat} {c : BoundsCode} (h0 : 0 ≤ i) (h1 : i.toNat ≤ y) (w : World) : (Instr.sliceBound (.int k i) y c).run P w = .ok i.toNat w := by
  have : 0 ≤ i ∧ i ≤ (y : Int) := ⟨h0, by omega⟩
  simp [Instr.sliceBound, asIntOf, this]
/-- bounds on both sides -/
theorem bounds_run {lo lo' hi hi' : Option Value} (hlo : (lo = none ∧ lo' = none) ∨ ∃ v v', lo = some v ∧ lo' = some v' ∧ VR ρ v v') (hhi : (hi = none ∧ hi' = none) ∨ ∃ v v', hi = some v ∧ hi' = some v' ∧ VR ρ v v') {n c l h : Nat}
    (el : boundV 0 lo = some l) (eh : boundV n hi = some h) (h1 : l ≤ h) (h2 : h ≤ c) (w : World) : (Instr.sliceBounds true n c lo' hi' none).run P w = .ok (l, h, c) w := by
  have e2 : ∀ (w : World), ((match hi', (none : Option Value) with
    | some v, some _ => Instr.sliceBound v c .slice3B
    | some v, none => Instr.sliceBound v c .sliceAcap
    | none, none => pure n
    | none, some _ => stuck "Slice: max without high" : Sem Nat)).run P w = .ok h w := by
    intro w
    rcases hhi with ⟨rfl, rfl⟩ | ⟨v, v', rfl, rfl, hv⟩
    · rw [← Option.some.inj (show some n = some h from eh)]; rfl
    · obtain ⟨k, i, rfl, q1, q2⟩ := intV_run hv (show intV v = some h from eh)
      show (Instr.sliceBound (.int k i) c .sliceAcap).run P w = _
      rw [run_bound q1 (by omega), q2]
  rcases hlo with ⟨rfl, rfl⟩ | ⟨v, v', rfl, rfl, hv⟩
  · have : l = 0 := (Option.some.inj (show some 0 = some l from el)).symm
    subst this
    rcases hhi with ⟨rfl, rfl⟩ | ⟨v, v', rfl, rfl, hv⟩
    · have : n = h := Option.some.inj (show some n = some h from eh)
      subst this
      simp [Instr.sliceBounds]
    · obtain ⟨k, i, rfl, q1, q2⟩ := intV_run hv (show intV v = some h from eh)
      have hb := run_bound (P := P) (k := k) (c := .sliceAcap) q1 (show i.toNat ≤ c by omega) w
      simp [Instr.sliceBounds, hb, q2]
  · obtain ⟨k, i, rfl, q1, q2⟩ := intV_run hv (show intV v = some l from el)
    have hb := run_bound (P := P) (k := k) (c := .sliceB) q1 (show i.toNat ≤ h by omega) w
    rcases hhi with ⟨rfl, rfl⟩ | ⟨v, v', rfl, rfl, hv⟩
    · have : n = h := Option.some.inj (show some n = some h from eh)
      subst this
      simp [Instr.sliceBounds, hb, q2]
    · obtain ⟨k2, i2, rfl, q3, q4⟩ := intV_run hv (show intV v = some h from eh)
      have hb2 := run_bound (P := P) (k := k2) (c := .sliceAcap) q3 (show i2.toNat ≤ c by omega) w
      simp [Instr.sliceBounds, hb2, q4, hb, q2]
theorem slice_sound {σ : St} {w : World} (hr : Rel ρ σ w) {t : TypeId} {x x' : Value} {lo lo' hi hi' : Option Value} {v : Value} (hx : VR ρ x x') (hlo : (lo = none ∧ lo' = none) ∨ ∃ v v', lo = some v ∧ lo' = some v' ∧ VR ρ v v') (hhi : (hi = none ∧ hi' = none) ∨ ∃ v v', hi = some v ∧ hi' = some v' ∧ VR ρ v v')
    (h : evSlice P σ t x lo hi = some v) : ∃ v', (Instr.sliceAt t x' lo' hi' none).run P w = .ok v' w ∧ VR ρ v v' := by
  unfold evSlice at h
  cases ht : P.underlying t with
  | none => rw [ht] at h; cases h
  | some d =>
  rw [ht] at h
  cases d with
  | slice elem =>
    have fin : ∀ (base' : Option Addr) (n c' l h : Nat) (i : TypeInfo), P.info? elem = some i → boundV 0 lo = some l → boundV n hi = some h → l ≤ h → h ≤ c' →
        (Instr.sliceAt t (.slice base' n c') lo' hi' none).run P w = .ok (.slice (if c' = l then base' else base'.map (·.add (l * i.size))) (h - l) (c' - l)) w := by
      intro base' n c' l h i hi1 e1 e2 h1 h2
      have hb := bounds_run (P := P) (ρ := ρ) hlo hhi e1 e2 h1 h2 w
      simp [Instr.sliceAt, Instr.slice, run_underlying ht, hb, sizeOf, typeInfo, hi1]
    have hx2 := hx
    cases hx with
    | nilSlice n c =>
      simp only at h
      cases hi1 : P.info? elem with
      | none => rw [hi1] at h; cases h
      | some i =>
      cases e1 : boundV 0 lo with
      | none => rw [hi1, e1] at h; cases h
      | some l =>
      cases e2 : boundV n hi with
      | none => rw [hi1, e1, e2] at h; cases h
      | some hh =>
      rw [hi1, e1, e2] at h
      simp only at h
      cases hle : Nat.ble l hh with
      | false => rw [hle] at h; cases h
      | true =>
      rw [hle] at h
      simp only at h
      cases hcb : Nat.beq c big with
      | true => rw [hcb] at h; cases h
      | false =>
      rw [hcb] at h
      simp only at h
      cases hc2 : (Nat.ble hh c && Nat.blt c big) with
      | false => rw [hc2] at h; cases h
      | true =>
      rw [hc2] at h
      simp only [Bool.and_eq_true] at hc2
      refine ⟨_, fin none n c l hh i hi1 e1 e2 (Nat.le_of_ble_eq_true hle) (Nat.le_of_ble_eq_true hc2.1), ?_⟩
      rw [← Option.some.inj h]
      have : (match Nat.beq c l with | true => (none : Option Addr) | false => (none : Option Addr).map (·.add (l * i.size))) = none := by split <;> rfl
      rw [this]
      have : (if c = l then (none : Option Addr) else (none : Option Addr).map (·.add (l * i.size))) = none := by split <;> rfl
      rw [this]
      exact .nilSlice _ _
    | empty a c' =>
      exfalso
      simp only at h
      cases hi1 : P.info? elem with
      | none => rw [hi1] at h; cases h
      | some i =>
      cases e1 : boundV 0 lo with
      | none => rw [hi1, e1] at h; cases h
      | some l =>
      cases e2 : boundV 0 hi with
      | none => rw [hi1, e1, e2] at h; cases h
      | some hh =>
      rw [hi1, e1, e2] at h
      simp only at h
      cases hle : Nat.ble l hh with
      | false => rw [hle] at h; cases h
      | true => rw [hle] at h; cases h
    | @slice b k o n c c' h1 h2 =>
      simp only at h
      cases hi1 : P.info? elem with
      | none => rw [hi1] at h; cases h
      | some i =>
      cases e1 : boundV 0 lo with
      | none => rw [hi1, e1] at h; cases h
      | some l =>
      cases e2 : boundV n hi with
      | none => rw [hi1, e1, e2] at h; cases h
      | some hh =>
      rw [hi1, e1, e2] at h
      simp only at h
      cases hle : Nat.ble l hh with
      | false => rw [hle] at h; cases h
      | true =>
      rw [hle] at h
      simp only at h
      have had : AdR ρ ⟨b, o, none⟩ ⟨k, o, none⟩ := ⟨rfl, rfl, rfl, h1⟩
      cases hcb : Nat.beq c big with
      | false =>
        rw [hcb] at h
        simp only at h
        cases hc2 : (Nat.ble hh c && Nat.blt c big) with
        | false => rw [hc2] at h; cases h
        | true =>
        rw [hc2] at h
        simp only [Bool.and_eq_true] at hc2
        have hne : c ≠ big := by rw [← Bool.not_eq_true, Nat.beq_eq] at hcb; exact hcb
        unfold CapR at h2
        rw [if_neg hne] at h2
        subst h2
        refine ⟨_, fin (some ⟨k, o, none⟩) n c' l hh i hi1 e1 e2 (Nat.le_of_ble_eq_true hle) (Nat.le_of_ble_eq_true hc2.1), ?_⟩
        rw [← Option.some.inj h]
        have hlt : Nat.blt (c' - l) big = true := by
          have := hc2.2
          simp only [Nat.blt_eq] at this ⊢
          omega
        have go : ∀ a a' : Addr, AdR ρ a a' → VR ρ (.slice (some a) (hh - l) (c' - l)) (.slice (some a') (hh - l) (c' - l)) := by
          intro a a' ha
          obtain ⟨b1, o1, s1⟩ := a
          obtain ⟨b2, o2, s2⟩ := a'
          obtain ⟨q1, q2, q3, q4⟩ := ha
          simp only at q1 q2 q3 q4
          subst q1 q2 q3
          exact .slice q4 (capR_of hlt)
        cases hcl : Nat.beq c' l with
        | true =>
          have : c' = l := by rw [Nat.beq_eq] at hcl; exact hcl
          rw [if_pos this]
          exact go _ _ had
        | false =>
          have : ¬ c' = l := by rw [← Bool.not_eq_true, Nat.beq_eq] at hcl; exact hcl
          rw [if_neg this]
          exact go _ _ (had.add _)
      | true =>
        rw [hcb] at h
        simp only at h
        have hceq : c = big := by rw [Nat.beq_eq] at hcb; exact hcb
        subst hceq
        cases hg : σ.heap.get b with
        | none => rw [hg] at h; cases h
        | some y =>
        rw [hg] at h
        cases y with
        | obj o => cases h
        | row bl =>
        obtain ⟨cells0, ty0, sz0, own0⟩ := bl
        simp only at h
        cases hck : (Nat.beq sz0 i.size && (Nat.blt 0 i.size && (Nat.ble (o + hh * i.size) cells0.length && (Nat.beq l 0 || Nat.blt (o + l * i.size) cells0.length)))) with
        | false =>
          rw [hck] at h
          simp only at h
          clear hck
          cases hck : (Nat.beq sz0 i.size && (Nat.blt 0 i.size && (Nat.ble (o + hh * i.size) cells0.length && Nat.beq l hh))) with
          | false => rw [hck] at h; cases h
          | true =>
          rw [hck] at h
          simp only [Bool.and_eq_true, Nat.beq_eq, Nat.ble_eq, Nat.blt_eq] at hck
          obtain ⟨rfl, hpos, hlen, rfl⟩ := hck
          obtain ⟨k1, y1, g1, g2, cs, tyr, fr, rfl, hrow⟩ := hr.live b _ hg
          obtain ⟨R, hR1, hR2⟩ := hrow.room (by simp only; omega)
          simp only at hR1 hR2
          have hcc := h2
          unfold CapR at hcc
          rw [if_pos rfl] at hcc
          obtain ⟨R', z', hRR, hc'⟩ := hcc
          rw [hR1] at hRR
          cases Option.some.inj hRR
          have hle0 := hrow.le
          simp only at hle0
          have hz : o / i.size + l ≤ R := by
            have h3 : o + l * i.size ≤ R * i.size := by omega
            have h4 : (o + l * i.size) / i.size ≤ R := by
              have := Nat.div_le_div_right (c := i.size) h3
              rw [Nat.mul_div_cancel _ hpos] at this
              exact this
            rw [Nat.add_mul_div_right _ _ hpos] at h4
            exact h4
          refine ⟨_, fin (some ⟨k, o, none⟩) n c' l l i hi1 e1 e2 (Nat.le_of_ble_eq_true hle) (by omega), ?_⟩
          rw [← Option.some.inj h, Nat.sub_self]
          exact .empty _ _
        | true =>
        rw [hck] at h
        simp only [Bool.and_eq_true, Nat.beq_eq, Nat.ble_eq, Nat.blt_eq, Bool.or_eq_true] at hck
        obtain ⟨rfl, hpos, hlen, hl0⟩ := hck
        obtain ⟨k1, y1, g1, g2, cs, tyr, fr, rfl, hrow⟩ := hr.live b _ hg
        obtain ⟨R, hR1, hR2⟩ := hrow.room (by simp only; omega)
        simp only at hR1 hR2
        have hcc := h2
        unfold CapR at hcc
        rw [if_pos rfl] at hcc
        obtain ⟨R', z', hRR, hc'⟩ := hcc
        rw [hR1] at hRR
        cases Option.some.inj hRR
        have hle0 := hrow.le
        simp only at hle0
        have hz : o / i.size + hh ≤ R := by
          have h3 : o + hh * i.size ≤ R * i.size := by omega
          have h4 : (o + hh * i.size) / i.size ≤ R := by
            have := Nat.div_le_div_right (c := i.size) h3
            rw [Nat.mul_div_cancel _ hpos] at this
            exact this
          rw [Nat.add_mul_div_right _ _ hpos] at h4
          exact h4
        refine ⟨_, fin (some ⟨k, o, none⟩) n c' l hh i hi1 e1 e2 (Nat.le_of_ble_eq_true hle) (by omega), ?_⟩
        rw [← Option.some.inj h]
        have hadr : (if c' = l then (some ⟨k, o, none⟩ : Option Addr) else (some ⟨k, o, none⟩ : Option Addr).map (·.add (l * i.size))) = some (Addr.add ⟨k, o, none⟩ (l * i.size)) := by
          by_cases e : c' = l
          · rw [if_pos e]
            rcases hl0 with h0 | h0
            · subst h0; simp [Addr.add]
            · exfalso
              have h3 : o + l * i.size + 1 ≤ R * i.size := by omega
              have h4 : (o + l * i.size) / i.size < R := by rw [Nat.div_lt_iff_lt_mul hpos]; omega
              rw [Nat.add_mul_div_right _ _ hpos] at h4
              omega
          · rw [if_neg e]; rfl
        rw [hadr]
        have ha2 := had.add (l * i.size)
        have hoff : (Addr.add ⟨b, o, none⟩ (l * i.size)).off = o + l * i.size ∧ (Addr.add ⟨b, o, none⟩ (l * i.size)).block = b ∧ (Addr.add ⟨b, o, none⟩ (l * i.size)).spot = none := by
          unfold Addr.add
          split
          · rename_i h0; simp [h0]
          · simp
        generalize Addr.add ⟨b, o, none⟩ (l * i.size) = a1 at ha2 hoff
        generalize Addr.add ⟨k, o, none⟩ (l * i.size) = a2 at ha2
        obtain ⟨b1, o1, s1⟩ := a1
        obtain ⟨b2, o2, s2⟩ := a2
        obtain ⟨q1, q2, q3, q4⟩ := ha2
        simp only at q1 q2 q3 q4 hoff
        obtain ⟨q5, q6, -⟩ := hoff
        subst q1 q2 q3 q5 q6
        refine .slice q4 ?_
        unfold CapR
        rw [if_pos rfl]
        refine ⟨R, i.size, hR1, ?_⟩
        rw [Nat.add_mul_div_right _ _ hpos]
        omega
    | _ => cases h
  | _ => cases h
end
end Go.Ev
/- Closed calls by evaluation, part I: one operation. -/
namespace Go.Ev
section
variable {P : Program} {ρ : Ren}
theorem sim_copy {ts : Array TypeId} {ty : TypeId} {d d' s s' : Value} (hd : VR ρ d d') (hs : VR ρ s s') : Sim P (Builtin.copy_ ts ty #[d, s]) (Builtin.copy_ ts ty #[d', s']) ρ VR := by
  have hlen : ∀ ρ1 : Ren, Sim P (Builtin.lenOf s) (Builtin.lenOf s') ρ1 fun _ x x' => x' = x ∧ Builtin.lenOf s = pure x := fun ρ1 => by
    cases hs <;> first | exact sim_pure ⟨rfl, rfl⟩ | exact sim_stuck
  unfold Builtin.copy_
  cases ts[0]? with
  | none => exact sim_none fun _ => rfl
  | some dt =>
  dsimp only
  refine sim_bind sim_underlying fun ρ1 u u' hle1 hu => ?_
  obtain ⟨rfl, -⟩ := hu
  have hd := hd.mono hle1
  cases u' with
  | slice elem =>
    have hz0 : ∀ (n x : Nat), s = .slice none 0 big → Builtin.lenOf s = pure x → Nat.min x n = 0 := by
      rintro n x rfl e
      have : (0 : Nat) = x := by
        have e2 : (Sem.pure 0 : Sem Nat) = Sem.pure x := e
        injection e2
      subst this
      exact Nat.zero_min n
    have body : ∀ (b b' : Option Addr) (n : Nat), ((b = none ∧ b' = none) ∨ ∃ a a', b = some a ∧ b' = some a' ∧ AdR ρ1 a a') →
        Sim P (do
          let m := Nat.min (← Builtin.lenOf s) n
          let cells ← Builtin.firstCells (← sizeOf elem) m s
          if let some a := b then storeCells a cells.toList
          pure (goInt m)) (do
          let m := Nat.min (← Builtin.lenOf s') n
          let cells ← Builtin.firstCells (← sizeOf elem) m s'
          if let some a := b' then storeCells a cells.toList
          pure (goInt m)) ρ1 VR := by
      intro b b' n hb
      refine sim_bind (hlen _) fun ρ2 x x' hle2 e => ?_
      obtain ⟨rfl, hx0⟩ := e
      refine sim_bind sim_sizeOf fun ρ3 z z' hle3 e => ?_
      subst e
      refine sim_bind (sim_firstCells (((hs.mono hle1).mono hle2).mono hle3) fun e => hz0 n _ e hx0) fun ρ4 c c' hle4 hc => ?_
      rcases hb with ⟨rfl, rfl⟩ | ⟨a, a', rfl, rfl, ha⟩
      · exact sim_pure (.int _ _)
      · exact sim_bind (sim_storeCells _ _ 0 _ (((ha.mono hle2).mono hle3).mono hle4) (by simp [hc.size]) fun j v v' h1 h2 => hc.get j v v' (by simpa using h1) (by simpa using h2)) fun _ _ _ _ _ => sim_pure (.int _ _)
    cases hd with
    | nilSlice n c => exact body none none n (.inl ⟨rfl, rfl⟩)
    | empty a c' =>
      refine sim_bind (hlen _) fun ρ2 x x' hle2 e => ?_
      obtain ⟨rfl, hx0⟩ := e
      refine sim_bind sim_sizeOf fun ρ3 z z' hle3 e => ?_
      subst e
      have hm0 : Nat.min x' 0 = 0 := Nat.min_zero x'
      rw [hm0]
      have f1 : ∀ (b : Option Addr) (n c : Nat), Builtin.firstCells z' 0 (.slice b n c) = pure #[] := by
        intro b n c
        cases b with
        | none => rfl
        | some a => simp only [Builtin.firstCells, Nat.zero_mul]; rfl
      have f2 : ∀ s : ByteArray, Builtin.firstCells z' 0 (.string s) = pure #[] := by
        intro s
        have : (s.extract 0 0).data = #[] := by
          apply Array.eq_empty_of_size_eq_zero
          show (s.extract 0 0).size = 0
          simp
        simp only [Builtin.firstCells, this, Array.map_empty]
      have eg : ∀ x y : Value, (#[x, y] : Array Value)[1] = y := fun _ _ => rfl
      cases hs with
      | slice h1 h2 => simp only [eg, f1]; cases a <;> exact sim_pure (.int _ _)
      | nilSlice n c => simp only [eg, f1]; cases a <;> exact sim_pure (.int _ _)
      | empty a2 c2 => simp only [eg, f1]; cases a <;> exact sim_pure (.int _ _)
      | string s => simp only [eg, f2]; cases a <;> exact sim_pure (.int _ _)
      | _ => exact sim_never fun _ => sim_stuck
    | @slice b k o n c c' h1 h2 => exact body (some ⟨b, o, none⟩) (some ⟨k, o, none⟩) n (.inr ⟨_, _, rfl, rfl, rfl, rfl, rfl, h1⟩)
    | _ => exact sim_stuck
  | _ => exact sim_stuck
theorem sim_range {t : TypeId} {v v' : Value} (h : VR ρ v v') : Sim P (Instr.range t v) (Instr.range t v') ρ VR := by
  unfold Instr.range
  refine sim_bind sim_underlying fun ρ1 u u' hle1 hu => ?_
  obtain ⟨rfl, -⟩ := hu
  have h := h.mono hle1
  have mk : ∀ (ρ2 : Ren) (o o' : Obj) (x : AObj), newA o = some x → (∀ ρ' : Ren, ρ2.le ρ' → ∀ id, AtR ρ' id x o') → Sim P (do pure (Value.pointer (some ⟨← newObj o, 0, none⟩))) (do pure (Value.pointer (some ⟨← newObj o', 0, none⟩))) ρ2 VR :=
    fun ρ2 o o' x h1 h2 => sim_bind (sim_new_with h1 h2) fun _ _ _ _ hk => sim_pure (.ptr hk)
  cases u' with
  | string =>
    cases h with
    | string s =>
      exact sim_bind (Q := fun _ x x' => x = .stringIter s 0 ∧ x' = .stringIter s 0) (sim_pure ⟨rfl, rfl⟩) fun ρ2 x x' _ e => by
        obtain ⟨rfl, rfl⟩ := e
        exact mk ρ2 _ _ _ rfl fun _ _ _ => .stringIter s 0
    | _ => exact sim_never fun _ => sim_stuck
  | map k e =>
    cases h with
    | nilMap =>
      exact sim_bind (Q := fun _ x x' => x = .mapIter none 0 #[] 0 ∧ x' = .mapIter none 0 #[] 0) (sim_pure ⟨rfl, rfl⟩) fun ρ2 x x' _ e => by
        obtain ⟨rfl, rfl⟩ := e
        exact mk ρ2 _ _ _ rfl fun _ _ _ => .nilIter 0 #[] 0
    | @map r k2 h1 =>
      refine sim_bind (sim_getObj h1) fun ρ2 o o' hle2 ho => ?_
      cases ho with
      | map c q1 q2 =>
        exact sim_bind (Q := fun _ x x' => x = .mapIter (some r) c #[] c ∧ x' = .mapIter (some k2) c #[] c) (sim_pure ⟨rfl, rfl⟩) fun ρ3 x x' hle3 e => by
          obtain ⟨rfl, rfl⟩ := e
          exact mk ρ3 _ _ _ rfl fun ρ' hle' _ => .iter c #[] c (hle'.φ _ _ (hle3.φ _ _ (hle2.φ _ _ h1)))
      | _ => exact sim_never fun _ => sim_stuck
    | _ => exact sim_never fun _ => sim_stuck
  | _ => cases h <;> exact sim_never fun _ => sim_stuck
/-- the next of a string's range -/
theorem sim_next {ty : TypeId} {v v' : Value} (h : VR ρ v v') : Sim P (Instr.next v true ty) (Instr.next v' true ty) ρ VR := by
  unfold Instr.next
  have over : ∀ ρ2 : Ren, Sim P (pure (.tuple #[.bool false]) : Sem Value) (pure (.tuple #[.bool false])) ρ2 VR := fun ρ2 => sim_pure ((VRs.empty ρ2).push (.bool false)).tuple
  cases h with
  | @ptr b k o h1 =>
    cases o with
    | succ o => exact sim_stuck
    | zero =>
    dsimp only
    refine sim_bind (sim_getObj h1) fun ρ2 x x' hle2 hx => ?_
    cases hx with
    | stringIter s n =>
      dsimp only
      refine sim_ite (fun _ => ?_) fun _ => over _
      refine sim_bind (sim_setObj (hle2.φ _ _ h1) (.stringIter s _)) fun ρ3 _ _ _ _ => ?_
      exact sim_pure ((((VRs.empty ρ3).push (.bool true)).push (.int _ _)).push (.int _ _)).tuple
    | _ => exact sim_stuck
  | _ => exact sim_stuck
theorem sim_typeAssert (hz : ZeroOk P) {x asd : TypeId} {v v' : Value} (h : VR ρ v v') : Sim P (Instr.typeAssert v x asd true) (Instr.typeAssert v' x asd true) ρ VR := by
  unfold Instr.typeAssert
  have fails : ∀ ρ2 : Ren, Sim P (do pure (Value.tuple #[← zeroValue asd, .bool false])) (do pure (Value.tuple #[← zeroValue asd, .bool false])) ρ2 VR := fun ρ2 =>
    sim_bind (sim_zeroValue hz) fun ρ3 _ _ _ hv => sim_pure (((VRs.empty ρ3).push hv).push (.bool false)).tuple
  have holds : ∀ (ρ2 : Ren) (u u' : Value), VR ρ2 u u' → Sim P (pure (Value.tuple #[u, .bool true]) : Sem Value) (pure (Value.tuple #[u', .bool true])) ρ2 VR := fun ρ2 u u' hu => sim_pure (((VRs.empty ρ2).push hu).push (.bool true)).tuple
  dsimp only
  refine sim_bind sim_underlying fun ρ1 d d' hle1 hd => ?_
  obtain ⟨rfl, -⟩ := hd
  have h := h.mono hle1
  cases h with
  | nilIface => cases d' <;> exact fails _
  | @iface t u u' h1 =>
    cases d' with
    | interface want =>
      refine sim_bind sim_typeInfo fun ρ2 i i' hle2 hi => ?_
      obtain ⟨rfl, -⟩ := hi
      cases Instr.missingMethod want i'.methods with
      | none => exact holds _ _ _ (.iface (h1.mono hle2))
      | some m => exact fails _
    | _ => exact sim_ite (fun _ => holds _ _ _ h1) fun _ => fails _
  | _ => cases d' <;> exact sim_stuck
/-- a pointer, slice, map, function or interface value that is not nil -/
def someV : Value → Bool
  | .pointer (some _) | .slice (some _) _ _ | .map (some _) | .func .. | .iface _ _ => true
  | _ => false
def nilV : Value → Bool
  | .pointer none | .map none | .nilFunc | .nilIface => true
  | .slice none _ c => Nat.blt c big
  | _ => false
theorem someV_eq {v v' : Value} (h : VR ρ v v') (hs : someV v = true) : someV v' = true := by cases h <;> first | rfl | (cases hs)
theorem nilV_eq {v v' : Value} (h : VR ρ v v') (hn : nilV v = true) : v' = v := by
  cases h <;> first | rfl | (cases hn; done) | exact absurd (show Nat.blt big big = true from hn) (by decide)
theorem nilV_cases {b : Value} (h : nilV b = true) : b = .pointer none ∨ (∃ n c, b = .slice none n c) ∨ b = .map none ∨ b = .nilFunc ∨ b = .nilIface := by
  cases b with
  | pointer a => cases a with
    | none => exact .inl rfl
    | some a => cases h
  | slice a n c => cases a with
    | none => exact .inr (.inl ⟨n, c, rfl⟩)
    | some a => cases h
  | map a => cases a with
    | none => exact .inr (.inr (.inl rfl))
    | some a => cases h
  | nilFunc => exact .inr (.inr (.inr (.inl rfl)))
  | nilIface => exact .inr (.inr (.inr (.inr rfl)))
  | _ => cases h
theorem pureQ_bind {α β : Type} (s : Sem α) (f : α → Sem β) : pureQ P (s >>= f) = (pureQ P s).bind fun a => pureQ P (f a) := by
  show pureQ P (s.bind f) = _
  induction s with
  | pure a => rfl
  | program k ih => exact ih P
  | mark m k ih => exact ih
  | choose q k ih =>
    simp only [Sem.bind, pureQ]
    split
    · exact ih 0
    · rfl
  | _ => rfl
theorem pureQ_underlying {t : TypeId} : pureQ P (underlying t) = P.underlying t := by
  unfold underlying
  rw [pureQ_bind]
  show pureQ P (match P.underlying t with | some d => (pure d : Sem TypeDesc) | none => stuck "no such type") = _
  cases P.underlying t <;> rfl
/-- a value that is not nil against nil: false, whatever the address -/
theorem equal_nil {t : TypeId} {a a' b : Value} (ha : VR ρ a a') (h1 : someV a = true) (h2 : nilV b = true) {r : Bool} (h : pureQ P (Op.equal t a b) = some r) (w : World) : (Op.equal t a' b).run P w = .ok r w := by
  have e1 : ∀ u v, Op.equal t u v = Op.equalIn (9999 + 1) t u v := fun _ _ => rfl
  rw [e1] at h ⊢
  rw [Op.equalIn] at h ⊢
  rw [pureQ_bind, pureQ_underlying] at h
  rw [Sem.run_bind]
  cases ht : P.underlying t with
  | none => rw [ht] at h; cases h
  | some d =>
  rw [ht] at h
  rw [run_underlying ht]
  simp only [Option.bind_some, Result.andThen_ok] at h ⊢
  rcases nilV_cases h2 with rfl | ⟨n, c, rfl⟩ | rfl | rfl | rfl <;> cases ha <;> (first | (cases h1; done) | skip) <;> cases d <;>
    (first | (cases h; done) | (cases Option.some.inj h; rfl))
theorem equal_nil' {t : TypeId} {a a' b : Value} (ha : VR ρ a a') (h1 : someV a = true) (h2 : nilV b = true) {r : Bool} (h : pureQ P (Op.equal t b a) = some r) (w : World) : (Op.equal t b a').run P w = .ok r w := by
  have e1 : ∀ u v, Op.equal t u v = Op.equalIn (9999 + 1) t u v := fun _ _ => rfl
  rw [e1] at h ⊢
  rw [Op.equalIn] at h ⊢
  rw [pureQ_bind, pureQ_underlying] at h
  rw [Sem.run_bind]
  cases ht : P.underlying t with
  | none => rw [ht] at h; cases h
  | some d =>
  rw [ht] at h
  rw [run_underlying ht]
  simp only [Option.bind_some, Result.andThen_ok] at h ⊢
  rcases nilV_cases h2 with rfl | ⟨n, c, rfl⟩ | rfl | rfl | rfl <;> cases ha <;> (first | (cases h1; done) | skip) <;> cases d <;>
    (first | (cases h; done) | (cases Option.some.inj h; rfl))
theorem guard_nil {op : BinOp} {t : TypeId} {x y : Operand} {a b : Value} (h : (someV a = true ∧ nilV b = true) ∨ (nilV a = true ∧ someV b = true)) (w : World) : (eqGuard op t x y a b).run P w = .ok () w := by
  unfold eqGuard
  rcases h with ⟨h1, h2⟩ | ⟨h1, h2⟩
  · rcases nilV_cases h2 with rfl | ⟨n, c, rfl⟩ | rfl | rfl | rfl <;> cases a <;> first | (cases h1; done) | (cases op <;> rfl)
  · rcases nilV_cases h1 with rfl | ⟨n, c, rfl⟩ | rfl | rfl | rfl <;> cases b <;> first | (cases h2; done) | (cases op <;> rfl)
theorem binOp_nil {t : TypeId} {a b : Value} (h : (someV a = true ∧ nilV b = true) ∨ (nilV a = true ∧ someV b = true)) : binOp .eql t a b = (do pure (.bool (← Op.equal t a b))) ∧ binOp .neq t a b = (do pure (.bool (!(← Op.equal t a b)))) := by
  rcases h with ⟨h1, h2⟩ | ⟨h1, h2⟩
  · rcases nilV_cases h2 with rfl | ⟨n, c, rfl⟩ | rfl | rfl | rfl <;> cases a <;> first | (cases h1; done) | exact ⟨rfl, rfl⟩
  · rcases nilV_cases h1 with rfl | ⟨n, c, rfl⟩ | rfl | rfl | rfl <;> cases b <;> first | (cases h2; done) | exact ⟨rfl, rfl⟩
end
end Go.Ev
/- Closed calls by evaluation, part Im: maps whose keys hold no address. -/
namespace Go.Ev
inductive ERs (ρ : Ren) : List MapEntry → List MapEntry → Prop where
  | nil : ERs ρ [] []
  | cons {e e' : MapEntry} {l l' : List MapEntry} (hb : e'.born = e.born) (hk : e'.key = e.key) (hv : VR ρ e.val e'.val) (h : ERs ρ l l') : ERs ρ (e :: l) (e' :: l')
def keysOk (es : Array MapEntry) : Bool := es.toList.all fun e => plainV 4 e.key
def FindR (ρ : Ren) (r r' : Option (Nat × Value)) : Prop := (r = none ∧ r' = none) ∨ ∃ i v v', r = some (i, v) ∧ r' = some (i, v') ∧ VR ρ v v'
section
variable {P : Program} {ρ : Ren}
theorem ERs.of : ∀ (l l' : List MapEntry), l.length = l'.length → (∀ (i : Nat) (e e' : MapEntry), l[i]? = some e → l'[i]? = some e' → e'.born = e.born ∧ VR ρ e.key e'.key ∧ VR ρ e.val e'.val) → l.all (fun e => plainV 4 e.key) = true → ERs ρ l l' := by
  intro l
  induction l with
  | nil => intro l' hl _ _; cases l' with
    | nil => exact .nil
    | cons x l' => simp at hl
  | cons e l ih => intro l' hl h hk; cases l' with
    | nil => simp at hl
    | cons e' l' =>
      simp only [List.all_cons, Bool.and_eq_true] at hk
      obtain ⟨h1, h2, h3⟩ := h 0 e e' rfl rfl
      exact .cons h1 (plain_eq 4 _ _ hk.1 h2) h3 (ih l' (by simpa using hl) (fun i x x' q1 q2 => h (i + 1) x x' (by simpa using q1) (by simpa using q2)) hk.2)
theorem findNow_R {kind : TypeDesc} {k : Value} {l l' : List MapEntry} (h : ERs ρ l l') : ∀ i, (Instr.findNow kind k l i = none ∧ Instr.findNow kind k l' i = none) ∨ ∃ r r', Instr.findNow kind k l i = some r ∧ Instr.findNow kind k l' i = some r' ∧ FindR ρ r r' := by
  induction h with
  | nil => intro i; exact .inr ⟨none, none, rfl, rfl, .inl ⟨rfl, rfl⟩⟩
  | @cons e e' l l' hb hk hv h ih =>
    intro i
    unfold Instr.findNow
    rw [hk]
    cases Instr.sameNow kind k e.key with
    | none => exact .inl ⟨rfl, rfl⟩
    | some b =>
      cases b with
      | true => exact .inr ⟨_, _, rfl, rfl, .inr ⟨i, _, _, rfl, rfl, hv⟩⟩
      | false => exact ih (i + 1)
theorem findAsking_R {kt : TypeId} {k : Value} {l l' : List MapEntry} (h : ERs ρ l l') : ∀ (i : Nat) (r : Option (Nat × Value)), pureQ P (Instr.findAsking kt k l i) = some r → ∃ r', pureQ P (Instr.findAsking kt k l' i) = some r' ∧ FindR ρ r r' := by
  induction h with
  | nil => intro i r hr; cases Option.some.inj (show some none = some r from hr); exact ⟨none, rfl, .inl ⟨rfl, rfl⟩⟩
  | @cons e e' l l' hb hk hv h ih =>
    intro i r hr
    unfold Instr.findAsking at hr ⊢
    rw [pureQ_bind] at hr ⊢
    rw [hk]
    cases hq : pureQ P (Op.equal kt k e.key) with
    | none => rw [hq] at hr; cases hr
    | some b =>
      rw [hq] at hr
      simp only [Option.bind_some] at hr ⊢
      cases b with
      | true =>
        cases Option.some.inj (show some (some (i, e.val)) = some r from hr)
        exact ⟨_, rfl, .inr ⟨i, _, _, rfl, rfl, hv⟩⟩
      | false => exact ih (i + 1) r hr
theorem findKey_R {kt : TypeId} {k : Value} {l l' : List MapEntry} (h : ERs ρ l l') {r : Option (Nat × Value)} (hr : pureQ P (Instr.findKey kt k l) = some r) : ∃ r', pureQ P (Instr.findKey kt k l') = some r' ∧ FindR ρ r r' := by
  unfold Instr.findKey at hr ⊢
  rw [pureQ_bind, pureQ_underlying] at hr ⊢
  cases ht : P.underlying kt with
  | none => rw [ht] at hr; cases hr
  | some d =>
  rw [ht] at hr
  simp only [Option.bind_some] at hr ⊢
  rcases findNow_R (kind := d) (k := k) h 0 with ⟨h1, h2⟩ | ⟨q, q', h1, h2, h3⟩
  · rw [h1] at hr; rw [h2]
    exact findAsking_R h 0 r hr
  · rw [h1] at hr; rw [h2]
    cases Option.some.inj (show some q = some r from hr)
    exact ⟨q', rfl, h3⟩
end
/-- the map and its entries -/
def mapOf (σ : St) : Value → Option (Array MapEntry × Nat)
  | .map (some r) => match σ.heap.get r with
    | some (.obj (.map es c)) => some (es, c)
    | _ => none
  | _ => none
def esOf (σ : St) : Value → Option (Array MapEntry)
  | .map none => some #[]
  | x => match mapOf σ x with
    | some (es, _) => some es
    | none => none
def evLookup (P : Program) (σ : St) (xt : TypeId) (x k : Value) (ok : Bool) : Option Value :=
  match P.underlying xt with
  | some (.map kt et) =>
    match esOf σ x with
    | some es => match plainV 4 k && keysOk es with
      | true => match pureQ P (Instr.checkKey es.isEmpty 10000 kt k), pureQ P (Instr.findKey kt k es.toList), pureQ P (zeroValue et) with
        | some _, some r, some z => match ok with
          | true => some (.tuple #[(match r with | some (_, v) => v | none => z), .bool r.isSome])
          | false => some (match r with | some (_, v) => v | none => z)
        | _, _, _ => none
      | false => none
    | none => none
  | _ => none
section
variable {P : Program} {ρ : Ren}
theorem mapOf_R {σ : St} {w : World} (hr : Rel ρ σ w) {x x' : Value} (hx : VR ρ x x') {es : Array MapEntry} {c : Nat} (h : mapOf σ x = some (es, c)) (hk : keysOk es = true) :
    ∃ r r' es', x = .map (some r) ∧ x' = .map (some r') ∧ ρ.φ r = some r' ∧ σ.heap.get r = some (.obj (.map es c)) ∧ w.heap[r']? = some (.map es' c) ∧ ERs ρ es.toList es'.toList ∧ es'.size = es.size := by
  unfold mapOf at h
  cases hx with
  | @map r k h1 =>
    simp only at h
    cases hg : σ.heap.get r with
    | none => rw [hg] at h; cases h
    | some y =>
    rw [hg] at h
    cases y with
    | row b => cases h
    | obj o =>
      cases o with
      | map es1 c1 =>
        cases Option.some.inj h
        obtain ⟨k1, y, q1, q2, q3⟩ := hr.live r _ hg
        have : k1 = k := by rw [h1] at q1; exact (Option.some.inj q1).symm
        subst this
        cases (show ObjR ρ (.map es c) y from q3) with
        | @map _ es' _ s1 s2 =>
          exact ⟨r, k1, es', rfl, rfl, h1, hg, q2, ERs.of _ _ (by simp [s1]) (fun i e e' t1 t2 => s2 i e e' (by simpa using t1) (by simpa using t2)) hk, s1.symm⟩
      | _ => cases h
  | _ => cases h
theorem zero_R (hz : ZeroOk P) {et : TypeId} {z : Value} (h : pureQ P (zeroValue et) = some z) : VR ρ z z := by
  unfold zeroValue typeInfo at h
  rw [pureQ_bind, pureQ_bind] at h
  change (Option.bind (pureQ P (match P.info? et with | some i => (pure i : Sem TypeInfo) | none => stuck "no such type")) fun a => pureQ P (match a.zero with | some v => (pure v : Sem Value) | none => unsupported (.resourceLimit "a value of more than 2^22 cells"))) = some z at h
  cases hi : P.info? et with
  | none => rw [hi] at h; cases h
  | some i =>
    rw [hi] at h
    change pureQ P (match i.zero with | some v => (pure v : Sem Value) | none => unsupported (.resourceLimit "a value of more than 2^22 cells")) = some z at h
    cases hiz : i.zero with
    | none => rw [hiz] at h; cases h
    | some v0 =>
      rw [hiz] at h
      cases Option.some.inj h
      exact hz et i _ hi hiz ρ
theorem lookup_sound (hz : ZeroOk P) {σ : St} {w : World} (hr : Rel ρ σ w) {xt : TypeId} {x x' k k' : Value} {ok : Bool} (hx : VR ρ x x') (hk : VR ρ k k') {v : Value} (h : evLookup P σ xt x k ok = some v) : ∃ v', (Instr.lookup xt x' k' ok).run P w = .ok v' w ∧ VR ρ v v' := by
  unfold evLookup at h
  cases ht : P.underlying xt with
  | none => rw [ht] at h; cases h
  | some d =>
  rw [ht] at h
  cases d with
  | map kt et =>
    simp only at h
    cases hes : esOf σ x with
    | none => rw [hes] at h; cases h
    | some es =>
    rw [hes] at h
    simp only at h
    cases hp : (plainV 4 k && keysOk es) with
    | false => rw [hp] at h; cases h
    | true =>
    rw [hp] at h
    simp only at h
    rw [Bool.and_eq_true] at hp
    have hkk := plain_eq 4 _ _ hp.1 hk
    subst hkk
    cases h1 : pureQ P (Instr.checkKey es.isEmpty 10000 kt k') with
    | none => rw [h1] at h; cases h
    | some u =>
    cases h2 : pureQ P (Instr.findKey kt k' es.toList) with
    | none => rw [h1, h2] at h; cases h
    | some r =>
    cases h3 : pureQ P (zeroValue et) with
    | none => rw [h1, h2, h3] at h; cases h
    | some z =>
    rw [h1, h2, h3] at h
    simp only at h
    have hzz : VR ρ z z := zero_R hz h3
    have hc := pureQ_run _ h1 w
    have hzr := pureQ_run _ h3 w
    -- the run over the real entries
    have fin : ∀ es' : Array MapEntry, ERs ρ es.toList es'.toList → es'.size = es.size → ((x' = .map none ∧ es' = #[]) ∨ ∃ r' c, x' = .map (some r') ∧ w.heap[r']? = some (.map es' c)) → ∃ v', (Instr.lookup xt x' k' ok).run P w = .ok v' w ∧ VR ρ v v' := by
      intro es' hE hsz hcase
      have hemp : es'.isEmpty = es.isEmpty := by simp only [Array.isEmpty, hsz]
      obtain ⟨r', q1, q2⟩ := findKey_R hE h2
      have hf := pureQ_run _ q1 w
      rw [← hemp] at hc
      rcases hcase with ⟨rfl, rfl⟩ | ⟨rr, c, rfl, hw⟩
      · rcases q2 with ⟨rfl, rfl⟩ | ⟨i, u1, u1', rfl, rfl, hu⟩
        · cases ok with
          | true =>
            cases Option.some.inj h
            refine ⟨.tuple #[z, .bool false], ?_, (((VRs.empty ρ).push hzz).push (.bool _)).tuple⟩
            simp [Instr.lookup, run_underlying ht] at hc hf ⊢
            simp [hc, hf, hzr]
          | false =>
            cases Option.some.inj h
            refine ⟨z, ?_, hzz⟩
            simp [Instr.lookup, run_underlying ht] at hc hf ⊢
            simp [hc, hf, hzr]
        · cases ok with
          | true =>
            cases Option.some.inj h
            refine ⟨.tuple #[u1', .bool true], ?_, (((VRs.empty ρ).push hu).push (.bool _)).tuple⟩
            simp [Instr.lookup, run_underlying ht] at hc hf ⊢
            simp [hc, hf]
          | false =>
            cases Option.some.inj h
            refine ⟨u1', ?_, hu⟩
            simp [Instr.lookup, run_underlying ht] at hc hf ⊢
            simp [hc, hf]
      · have hg : (getObj rr).run P w = .ok (.map es' c) w := by simp [getObj, Sem.run, hw]
        rcases q2 with ⟨rfl, rfl⟩ | ⟨i, u1, u1', rfl, rfl, hu⟩
        · cases ok with
          | true =>
            cases Option.some.inj h
            refine ⟨.tuple #[z, .bool false], ?_, (((VRs.empty ρ).push hzz).push (.bool _)).tuple⟩
            simp [Instr.lookup, run_underlying ht, hg, hc, hf, hzr]
          | false =>
            cases Option.some.inj h
            refine ⟨z, ?_, hzz⟩
            simp [Instr.lookup, run_underlying ht, hg, hc, hf, hzr]
        · cases ok with
          | true =>
            cases Option.some.inj h
            refine ⟨.tuple #[u1', .bool true], ?_, (((VRs.empty ρ).push hu).push (.bool _)).tuple⟩
            simp [Instr.lookup, run_underlying ht, hg, hc, hf]
          | false =>
            cases Option.some.inj h
            refine ⟨u1', ?_, hu⟩
            simp [Instr.lookup, run_underlying ht, hg, hc, hf]
    cases hx with
    | nilMap =>
      cases Option.some.inj hes
      exact fin #[] .nil rfl (.inl ⟨rfl, rfl⟩)
    | @map r k1 hφ =>
      obtain ⟨c, hp1⟩ : ∃ c, mapOf σ (.map (some r)) = some (es, c) := by
        change (match mapOf σ (.map (some r)) with | some (es, _) => some es | none => none) = some es at hes
        cases hq : mapOf σ (.map (some r)) with
        | none => rw [hq] at hes; cases hes
        | some p => rw [hq] at hes; obtain ⟨e1, c1⟩ := p; cases Option.some.inj hes; exact ⟨c1, rfl⟩
      obtain ⟨r2, r', es', e1, e2, e3, e4, e5, e6, e7⟩ := mapOf_R hr (.map hφ) hp1 hp.2
      exact fin es' e6 e7 (.inr ⟨r', c, e2, e5⟩)
    | _ => cases hes
  | _ => cases h
end
end Go.Ev
/- Closed calls by evaluation, part In: maps that are written. -/
namespace Go.Ev
def setMap (P : Program) (σ : St) (m : Value) (es : Array MapEntry) (c : Nat) : Option St :=
  match m with
  | .map (some r) => match runA P (setObj r (.map es c)) σ with
    | some (.ok _ σ) => some σ
    | _ => none
  | _ => none
def findIn (P : Program) (σ : St) (mt : TypeId) (m k : Value) : Option (Array MapEntry × Nat × Option (Nat × Value)) :=
  match P.underlying mt, mapOf σ m with
  | some (.map kt _), some (es, c) => match plainV 4 k && keysOk es with
    | true => match pureQ P (Instr.checkKey false 10000 kt k), pureQ P (Instr.findKey kt k es.toList) with
      | some _, some r => some (es, c, r)
      | _, _ => none
    | false => none
  | _, _ => none
def keyIn (P : Program) (es : Array MapEntry) (i : Nat) (k : Value) : Option Value :=
  match pureQ P (Instr.keyThatStays (((es[i]?).map (·.key)).getD k) k) with
  | some key => match plainV 4 key with
    | true => some key
    | false => none
  | none => none
def evUpdate (P : Program) (σ : St) (mt : TypeId) (m k v : Value) : Option St :=
  match findIn P σ mt m k with
  | some (es, _, some (i, _)) => match keyIn P es i k, mapOf σ m with
    | some key, some (_, c) => setMap P σ m (es.modify i fun e => { e with key := key, val := v }) c
    | _, _ => none
  | some (es, c, none) => setMap P σ m (es.push { key := k, val := v, born := c }) (c + 1)
  | none => none
def evEntry (P : Program) (σ : St) (mt : TypeId) (m k : Value) : Option (Value × St) :=
  match findIn P σ mt m k with
  | some (es, c, some (i, v)) => match keyIn P es i k with
    | some key => match setMap P σ m (es.modify i fun e => { e with key := key }) c with
      | some σ => some (.tuple #[v, goInt (((es[i]?).map (·.born)).getD 0)], σ)
      | none => none
    | none => none
  | some (es, c, none) => match P.underlying mt with
    | some (.map _ et) => match pureQ P (zeroValue et) with
      | some z => match setMap P σ m (es.push { key := k, val := z, born := c }) (c + 1) with
        | some σ => some (.tuple #[z, goInt c], σ)
        | none => none
      | none => none
    | _ => none
  | none => none
def evEntryStore (P : Program) (σ : St) (m stamp v : Value) : Option St :=
  match mapOf σ m, stamp with
  | some (es, c), .int _ b => match keysOk es with
    | true => match es.findIdx? (fun e => (e.born : Int) == b) with
      | some i => setMap P σ m (es.modify i fun e => { e with val := v }) c
      | none => none
    | false => none
  | _, _ => none
section
variable {P : Program} {ρ : Ren}
theorem ERs.len {l l' : List MapEntry} (h : ERs ρ l l') : l'.length = l.length := by
  induction h with
  | nil => rfl
  | cons _ _ _ _ ih => simp [ih]
theorem ERs.get {l l' : List MapEntry} (h : ERs ρ l l') : ∀ (i : Nat) (e e' : MapEntry), l[i]? = some e → l'[i]? = some e' → e'.born = e.born ∧ e'.key = e.key ∧ VR ρ e.val e'.val := by
  induction h with
  | nil => intro i e e' h; simp at h
  | cons hb hk hv _ ih =>
    intro i e e' h1 h2
    cases i with
    | zero => simp at h1 h2; rw [← h1, ← h2]; exact ⟨hb, hk, hv⟩
    | succ i => exact ih i e e' (by simpa using h1) (by simpa using h2)
/-- entries of both sides, as an object asks for them -/
def EP (ρ : Ren) (es es' : Array MapEntry) : Prop := es.size = es'.size ∧ ∀ (i : Nat) (e e' : MapEntry), es[i]? = some e → es'[i]? = some e' → e'.born = e.born ∧ VR ρ e.key e'.key ∧ VR ρ e.val e'.val
theorem EP.of {es es' : Array MapEntry} (h : ERs ρ es.toList es'.toList) (hk : keysOk es = true) : EP ρ es es' := by
  refine ⟨by have := h.len; simpa using this.symm, fun i e e' h1 h2 => ?_⟩
  obtain ⟨q1, q2, q3⟩ := h.get i e e' (by simpa using h1) (by simpa using h2)
  unfold keysOk at hk
  rw [List.all_eq_true] at hk
  refine ⟨q1, ?_, q3⟩
  rw [q2]
  exact plain_refl 4 _ (hk e (Array.mem_toList_iff.2 (Array.mem_of_getElem? h1)))
theorem EP.push {es es' : Array MapEntry} (h : EP ρ es es') {e e' : MapEntry} (he : e'.born = e.born ∧ VR ρ e.key e'.key ∧ VR ρ e.val e'.val) : EP ρ (es.push e) (es'.push e') := by
  refine ⟨by simp [h.1], fun i x x' h1 h2 => ?_⟩
  rw [Array.getElem?_push] at h1 h2
  rw [← h.1] at h2
  split at h1
  · rename_i q; rw [if_pos q] at h2; rw [← Option.some.inj h1, ← Option.some.inj h2]; exact he
  · rename_i q; rw [if_neg q] at h2; exact h.2 i x x' h1 h2
theorem EP.modify {es es' : Array MapEntry} (h : EP ρ es es') (j : Nat) {f g : MapEntry → MapEntry} (hf : ∀ e e', e'.born = e.born ∧ VR ρ e.key e'.key ∧ VR ρ e.val e'.val → (g e').born = (f e).born ∧ VR ρ (f e).key (g e').key ∧ VR ρ (f e).val (g e').val) : EP ρ (es.modify j f) (es'.modify j g) := by
  refine ⟨by simp [h.1], fun i x x' h1 h2 => ?_⟩
  rw [Array.getElem?_modify] at h1 h2
  by_cases e : j = i
  · rw [if_pos e] at h1 h2
    obtain ⟨y, q1, q2⟩ := Option.map_eq_some_iff.1 h1
    obtain ⟨y', q3, q4⟩ := Option.map_eq_some_iff.1 h2
    rw [← q2, ← q4]
    exact hf y y' (h.2 i y y' q1 q3)
  · rw [if_neg e] at h1 h2; exact h.2 i x x' h1 h2
theorem setMap_sound {σ σ1 : St} {w : World} (hr : Rel ρ σ w) {r r' : Nat} (hφ : ρ.φ r = some r') {es es' : Array MapEntry} {c : Nat} (hE : EP ρ es es') (h : setMap P σ (.map (some r)) es c = some σ1) :
    ∃ ρ' w', ρ.le ρ' ∧ (setObj r' (.map es' c)).run P w = .ok () w' ∧ Rel ρ' σ1 w' ∧ Keep ρ σ ρ' σ1 w w' := by
  unfold setMap at h
  simp only at h
  cases hq : runA P (setObj r (.map es c)) σ with
  | none => rw [hq] at h; cases h
  | some x =>
  rw [hq] at h
  cases x with
  | panic v τ => cases h
  | ok u τ =>
  cases Option.some.inj h
  obtain ⟨ρ', x', w', h1, h2, h3, h4, -⟩ := (sim_setObj (P := P) hφ (.map c hE.1 hE.2)) σ w hr _ hq
  exact ⟨ρ', w', h1, h2, h3, h4⟩
theorem findIn_R {σ : St} {w : World} (hr : Rel ρ σ w) {mt : TypeId} {m m' k k' : Value} (hm : VR ρ m m') (hk : VR ρ k k') {es : Array MapEntry} {c : Nat} {q : Option (Nat × Value)} (h : findIn P σ mt m k = some (es, c, q)) :
    ∃ kt et r r' es' q', P.underlying mt = some (.map kt et) ∧ k' = k ∧ plainV 4 k = true ∧ m = .map (some r) ∧ m' = .map (some r') ∧ ρ.φ r = some r' ∧ mapOf σ m = some (es, c) ∧ (getObj r').run P w = .ok (.map es' c) w ∧ ERs ρ es.toList es'.toList ∧ EP ρ es es' ∧
      (Instr.checkKey false 10000 kt k).run P w = .ok () w ∧ (Instr.findKey kt k es'.toList).run P w = .ok q' w ∧ FindR ρ q q' := by
  unfold findIn at h
  cases ht : P.underlying mt with
  | none => rw [ht] at h; cases h
  | some d =>
  rw [ht] at h
  cases d with
  | map kt et =>
    cases hmo : mapOf σ m with
    | none => rw [hmo] at h; cases h
    | some p =>
    obtain ⟨es1, c1⟩ := p
    rw [hmo] at h
    simp only at h
    cases hp : (plainV 4 k && keysOk es1) with
    | false => rw [hp] at h; cases h
    | true =>
    rw [hp] at h
    simp only at h
    rw [Bool.and_eq_true] at hp
    cases h1 : pureQ P (Instr.checkKey false 10000 kt k) with
    | none => rw [h1] at h; cases h
    | some u =>
    cases h2 : pureQ P (Instr.findKey kt k es1.toList) with
    | none => rw [h1, h2] at h; cases h
    | some q1 =>
    rw [h1, h2] at h
    cases Option.some.inj h
    obtain ⟨r2, r', es', e1, e2, e3, e4, e5, e6, e7⟩ := mapOf_R hr hm hmo hp.2
    obtain ⟨q', s1, s2⟩ := findKey_R e6 h2
    exact ⟨kt, et, r2, r', es', q', rfl, plain_eq 4 _ _ hp.1 hk, hp.1, e1, e2, e3, rfl, by simp [getObj, Sem.run, e5], e6, .of e6 hp.2, pureQ_run _ h1 w, pureQ_run _ s1 w, s2⟩
  | _ => cases h
theorem keyIn_R {es es' : Array MapEntry} {i : Nat} {k key : Value} (hE : ERs ρ es.toList es'.toList) (h : keyIn P es i k = some key) (w : World) : (Instr.keyThatStays (((es'[i]?).map (·.key)).getD k) k).run P w = .ok key w ∧ plainV 4 key = true := by
  unfold keyIn at h
  have hsame : (es'[i]?).map (·.key) = (es[i]?).map (·.key) := by
    have hl := hE.len
    simp only [Array.length_toList] at hl
    cases h1 : es[i]? with
    | none =>
      have : es'[i]? = none := by rw [Array.getElem?_eq_none_iff] at *; omega
      rw [this]
    | some e =>
      have hlt := (Array.getElem?_eq_some_iff.1 h1).1
      have h2 : es'[i]? = some es'[i] := Array.getElem?_eq_getElem (by omega)
      rw [h2]
      have := (hE.get i e es'[i] (by simpa using h1) (by simp)).2.1
      simp [this]
  cases hq : pureQ P (Instr.keyThatStays (((es[i]?).map (·.key)).getD k) k) with
  | none => rw [hq] at h; cases h
  | some u =>
    rw [hq] at h
    simp only at h
    cases hp : plainV 4 u with
    | false => rw [hp] at h; cases h
    | true =>
      rw [hp] at h
      cases Option.some.inj h
      rw [hsame]
      exact ⟨pureQ_run _ hq w, hp⟩
theorem update_sound {σ σ1 : St} {w : World} (hr : Rel ρ σ w) {mt : TypeId} {m m' k k' v v' : Value} (hm : VR ρ m m') (hk : VR ρ k k') (hv : VR ρ v v') (h : evUpdate P σ mt m k v = some σ1) : ∃ ρ' w', ρ.le ρ' ∧ (Instr.mapUpdate mt m' k' v').run P w = .ok () w' ∧ Rel ρ' σ1 w' ∧ Keep ρ σ ρ' σ1 w w' := by
  unfold evUpdate at h
  cases hf : findIn P σ mt m k with
  | none => rw [hf] at h; cases h
  | some p =>
  obtain ⟨es, c, q⟩ := p
  rw [hf] at h
  obtain ⟨kt, et, r, r', es', q', e1, e2, e3, e4, e5, e6, e7, e8, e9, e10, e11, e12, e13⟩ := findIn_R hr hm hk hf
  subst e2 e4 e5
  rcases e13 with ⟨rfl, rfl⟩ | ⟨i, u, u', rfl, rfl, hu⟩
  · obtain ⟨ρ', w', h1, h2, h3, h4⟩ := setMap_sound hr e6 (e10.push (e := { key := k', val := v, born := c }) (e' := { key := k', val := v', born := c }) ⟨rfl, plain_refl 4 _ e3, hv⟩) h
    refine ⟨ρ', w', h1, ?_, h3, h4⟩
    simp [Instr.mapUpdate, run_underlying e1, e8, e11, e12, h2]
  · simp only [e7] at h
    cases hky : keyIn P es i k' with
    | none => rw [hky] at h; cases h
    | some key =>
    rw [hky] at h
    simp only at h
    obtain ⟨s1, s2⟩ := keyIn_R e9 hky w
    obtain ⟨ρ', w', h1, h2, h3, h4⟩ := setMap_sound hr e6 (e10.modify i (f := fun e => { e with key := key, val := v }) (g := fun e => { e with key := key, val := v' }) fun e e' he => ⟨he.1, plain_refl 4 _ s2, hv⟩) h
    refine ⟨ρ', w', h1, ?_, h3, h4⟩
    simp [Instr.mapUpdate, run_underlying e1, e8, e11, e12]
    simp [s1, h2]
theorem entry_sound (hz : ZeroOk P) {σ σ1 : St} {w : World} (hr : Rel ρ σ w) {mt : TypeId} {m m' k k' v : Value} (hm : VR ρ m m') (hk : VR ρ k k') (h : evEntry P σ mt m k = some (v, σ1)) : ∃ ρ' w' v', ρ.le ρ' ∧ (Instr.mapEntry mt m' k').run P w = .ok v' w' ∧ Rel ρ' σ1 w' ∧ Keep ρ σ ρ' σ1 w w' ∧ VR ρ' v v' := by
  unfold evEntry at h
  cases hf : findIn P σ mt m k with
  | none => rw [hf] at h; cases h
  | some p =>
  obtain ⟨es, c, q⟩ := p
  rw [hf] at h
  obtain ⟨kt, et, r, r', es', q', e1, e2, e3, e4, e5, e6, e7, e8, e9, e10, e11, e12, e13⟩ := findIn_R hr hm hk hf
  subst e2 e4 e5
  rcases e13 with ⟨rfl, rfl⟩ | ⟨i, u, u', rfl, rfl, hu⟩
  · simp only [e1] at h
    cases hzq : pureQ P (zeroValue et) with
    | none => rw [hzq] at h; cases h
    | some z =>
    rw [hzq] at h
    simp only at h
    cases hst : setMap P σ (.map (some r)) (es.push { key := k', val := z, born := c }) (c + 1) with
    | none => rw [hst] at h; cases h
    | some σ2 =>
    rw [hst] at h
    cases Option.some.inj h
    have hzz : VR ρ z z := zero_R hz hzq
    obtain ⟨ρ', w', h1, h2, h3, h4⟩ := setMap_sound hr e6 (e10.push (e := { key := k', val := z, born := c }) (e' := { key := k', val := z, born := c }) ⟨rfl, plain_refl 4 _ e3, hzz⟩) hst
    refine ⟨ρ', w', .tuple #[z, goInt c], h1, ?_, h3, h4, (((VRs.empty ρ').push (hzz.mono h1)).push (.int _ _)).tuple⟩
    have hzr := pureQ_run _ hzq w
    simp [Instr.mapEntry, run_underlying e1, e8, e11, e12, hzr, h2]
  · simp only at h
    cases hky : keyIn P es i k' with
    | none => rw [hky] at h; cases h
    | some key =>
    rw [hky] at h
    simp only at h
    cases hst : setMap P σ (.map (some r)) (es.modify i fun e => { e with key := key }) c with
    | none => rw [hst] at h; cases h
    | some σ2 =>
    rw [hst] at h
    cases Option.some.inj h
    obtain ⟨s1, s2⟩ := keyIn_R e9 hky w
    obtain ⟨ρ', w', h1, h2, h3, h4⟩ := setMap_sound hr e6 (e10.modify i (f := fun e => { e with key := key }) (g := fun e => { e with key := key }) fun e e' he => ⟨he.1, plain_refl 4 _ s2, he.2.2⟩) hst
    have hborn : ((es'[i]?).map (fun e : MapEntry => ((e.born : Nat) : Int))).getD 0 = ((es[i]?).map (fun e : MapEntry => ((e.born : Nat) : Int))).getD 0 := by
      have hl := e9.len
      simp only [Array.length_toList] at hl
      cases q1 : es[i]? with
      | none =>
        have : es'[i]? = none := by rw [Array.getElem?_eq_none_iff] at *; omega
        rw [this]
      | some e =>
        have hlt := (Array.getElem?_eq_some_iff.1 q1).1
        have q2 : es'[i]? = some es'[i] := Array.getElem?_eq_getElem (by omega)
        rw [q2]
        have := (e9.get i e es'[i] (by simpa using q1) (by simp)).1
        simp [this]
    refine ⟨ρ', w', .tuple #[u', goInt (((es[i]?).map (fun e : MapEntry => ((e.born : Nat) : Int))).getD 0)], h1, ?_, h3, h4, (((VRs.empty ρ').push (hu.mono h1)).push ((fun n => .int _ n : ∀ n : Int, VR ρ' (goInt n) (goInt n)) _)).tuple⟩
    rw [← hborn]
    simp [Instr.mapEntry, run_underlying e1, e8, e11, e12]
    simp [s1, h2]
theorem entryStore_sound {σ σ1 : St} {w : World} (hr : Rel ρ σ w) {mt : TypeId} {m m' s s' v v' : Value} (hm : VR ρ m m') (hs : VR ρ s s') (hv : VR ρ v v') (h : evEntryStore P σ m s v = some σ1) : ∃ ρ' w', ρ.le ρ' ∧ (Instr.entryStore mt m' s' v').run P w = .ok () w' ∧ Rel ρ' σ1 w' ∧ Keep ρ σ ρ' σ1 w w' := by
  unfold evEntryStore at h
  cases hmo : mapOf σ m with
  | none => rw [hmo] at h; cases h
  | some p =>
  obtain ⟨es, c⟩ := p
  rw [hmo] at h
  cases hs with
  | int kk b =>
    simp only at h
    cases hk : keysOk es with
    | false => rw [hk] at h; cases h
    | true =>
    rw [hk] at h
    simp only at h
    cases hi : es.findIdx? (fun e => (e.born : Int) == b) with
    | none => rw [hi] at h; cases h
    | some i =>
    rw [hi] at h
    simp only at h
    obtain ⟨r2, r', es', e1, e2, e3, e4, e5, e6, e7⟩ := mapOf_R hr hm hmo hk
    subst e1 e2
    have hidx : es'.findIdx? (fun e => (e.born : Int) == b) = some i := by
      have ha : ∀ xs : Array MapEntry, xs.findIdx? (fun e => (e.born : Int) == b) = xs.toList.findIdx? (fun e => (e.born : Int) == b) := fun xs => by
        have := List.findIdx?_toArray (p := fun e : MapEntry => (e.born : Int) == b) (l := xs.toList)
        rwa [Array.toArray_toList] at this
      rw [← hi, ha, ha]
      have : ∀ (l l' : List MapEntry), ERs ρ l l' → l'.findIdx? (fun e => (e.born : Int) == b) = l.findIdx? (fun e => (e.born : Int) == b) := by
        intro l l' hl
        induction hl with
        | nil => rfl
        | cons hb _ _ _ ih => rw [List.findIdx?_cons, List.findIdx?_cons, hb, ih]
      exact this _ _ e6
    obtain ⟨ρ', w', h1, h2, h3, h4⟩ := setMap_sound hr e3 ((EP.of e6 hk).modify i (f := fun e => { e with val := v }) (g := fun e => { e with val := v' }) fun e e' he => ⟨he.1, he.2.1, hv⟩) h
    refine ⟨ρ', w', h1, ?_, h3, h4⟩
    have hg : (getObj r').run P w = .ok (.map es' c) w := by simp [getObj, Sem.run, e5]
    simp [Instr.entryStore, hg, asInt, asIntOf, hidx, h2]
  | _ => cases h
end
end Go.Ev
/- Closed calls by evaluation: the string of a slice of bytes. -/
namespace Go.Ev
section
variable {P : Program} {ρ : Ren}
theorem sim_forIn {α : Type} {f : Value → α → Sem (ForInStep α)} (hf : ∀ (ρ : Ren) (v v' : Value) (a : α), VR ρ v v' → Sim P (f v a) (f v' a) ρ fun _ x x' => x' = x) :
    ∀ (l l' : List Value) (a : α) (ρ : Ren), l.length = l'.length → (∀ (i : Nat) (v v' : Value), l[i]? = some v → l'[i]? = some v' → VR ρ v v') → Sim P (forIn l a f) (forIn l' a f) ρ fun _ x x' => x' = x := by
  intro l
  induction l with
  | nil =>
    intro l' a ρ hl h
    cases l' with
    | nil => exact sim_pure rfl
    | cons v l' => simp at hl
  | cons v l ih =>
    intro l' a ρ hl h
    cases l' with
    | nil => simp at hl
    | cons v' l' =>
    rw [List.forIn_cons, List.forIn_cons]
    refine sim_bind (hf ρ v v' a (h 0 v v' rfl rfl)) fun ρ1 x x' hle hx => ?_
    subst hx
    cases x' with
    | done b => exact sim_pure rfl
    | yield b => exact ih l' b ρ1 (by simpa using hl) fun i u u' h1 h2 => (h (i + 1) u u' (by simpa using h1) (by simpa using h2)).mono hle
theorem sim_bytesToString {b : Option Addr} {n c : Nat} {x' : Value} (h : VR ρ (.slice b n c) x') : Sim P (Conv.bytesToString (.slice b n c)) (Conv.bytesToString x') ρ VR := by
  cases h with
  | nilSlice n c => exact sim_pure (.string _)
  | empty a c' => cases a <;> exact sim_pure (.string _)
  | @slice b k o n c c' h hc =>
    unfold Conv.bytesToString
    refine sim_bind (sim_loadCells n ⟨rfl, rfl, rfl, h⟩) fun ρ1 cs cs' hle hcs => ?_
    rw [← Array.forIn_toList, ← Array.forIn_toList]
    refine sim_bind (Q := fun _ x x' => x' = x) (sim_forIn ?_ cs.toList cs'.toList _ ρ1 (by simpa using hcs.size) ?_) fun ρ2 s s' _ hs => by subst hs; exact sim_pure (.string _)
    · intro ρ v v' a hv
      cases hv with
      | int k m => cases k <;> first | exact sim_pure rfl | exact sim_stuck
      | _ => exact sim_stuck
    · intro i v v' h1 h2
      exact hcs.get i v v' (by simpa using h1) (by simpa using h2)
theorem sim_convert {s t e : TypeId} {b : Option Addr} {n c : Nat} {x' : Value} (h : VR ρ (.slice b n c) x') (hs : P.underlying s = some (.slice e)) (ht : P.underlying t = some .string) (he : P.underlying e = some (.int .u8)) :
    Sim P (convert s t (.slice b n c)) (convert s t x') ρ VR := by
  obtain ⟨b', c', rfl⟩ : ∃ b' c', x' = .slice b' n c' := by cases h <;> exact ⟨_, _, rfl⟩
  unfold convert
  refine sim_bind sim_underlying fun ρ1 d d' hle h1 => ?_
  obtain ⟨rfl, h1⟩ := h1
  rw [hs] at h1; cases h1
  refine sim_bind sim_underlying fun ρ2 d d' hle2 h1 => ?_
  obtain ⟨rfl, h1⟩ := h1
  rw [ht] at h1; cases h1
  refine sim_bind sim_underlying fun ρ3 d d' hle3 h1 => ?_
  obtain ⟨rfl, h1⟩ := h1
  rw [he] at h1; cases h1
  exact sim_bytesToString (((h.mono hle).mono hle2).mono hle3)
end
/-- what the evaluator asks of a conversion of a slice -/
def bytesConv (P : Program) (s t : TypeId) : Bool :=
  match P.underlying s, P.underlying t with
  | some (.slice e), some .string => match P.underlying e with
    | some (.int .u8) => true
    | _ => false
  | _, _ => false
theorem bytesConv_eq {P : Program} {s t : TypeId} (h : bytesConv P s t = true) : ∃ e, P.underlying s = some (.slice e) ∧ P.underlying t = some .string ∧ P.underlying e = some (.int .u8) := by
  unfold bytesConv at h
  split at h
  · rename_i e h1 h2
    split at h
    · rename_i h3; exact ⟨e, h1, h2, h3⟩
    · cases h
  · cases h
end Go.Ev
/- Closed calls by evaluation, part It: the record of a range over a function. -/
namespace Go.Ev
section
variable {P : Program} {ρ : Ren}
theorem sim_getLoop {l l' : Nat} (h : ρ.φ l = some l') : Sim P (Instr.getLoop l) (Instr.getLoop l') ρ LoopR :=
  sim_bind (sim_getObj h) fun _ o o' _ ho => by
    cases ho with
    | loop h1 => exact sim_pure h1
    | _ => exact sim_stuck
theorem fold_VRs : ∀ (l l' : List (Nat × Value)) (t t' : Array Value), VRs ρ t t' → PR ρ l l' → VRs ρ (l.foldl (fun t p => t.setIfInBounds p.1 p.2) t) (l'.foldl (fun t p => t.setIfInBounds p.1 p.2) t') := by
  intro l
  induction l with
  | nil =>
    intro l' t t' h k
    cases l' with
    | nil => exact h
    | cons x l' => have := k.1; simp at this
  | cons x l ih =>
    intro l' t t' h k
    cases l' with
    | nil => have := k.1; simp at this
    | cons x' l' =>
      obtain ⟨k1, k2⟩ := k
      have h0 := k2 0 x x' rfl rfl
      simp only [List.foldl_cons]
      refine ih l' _ _ ?_ ⟨by simpa using k1, fun i p p' h1 h2 => k2 (i + 1) p p' (by simpa using h1) (by simpa using h2)⟩
      rw [h0.1]
      exact h.set _ h0.2
theorem zip_PR (ps : Array Nat) {avs avs' : Array Value} (h : VRs ρ avs avs') : PR ρ (ps.zip avs).toList (ps.zip avs').toList := by
  refine ⟨by simp [h.size], fun i p p' h1 h2 => ?_⟩
  simp only [Array.toList_zip] at h1 h2
  rw [List.getElem?_zip_eq_some] at h1 h2
  simp only [Array.getElem?_toList] at h1 h2
  obtain ⟨a1, a2⟩ := h1
  obtain ⟨b1, b2⟩ := h2
  rw [a1] at b1
  exact ⟨(Option.some.inj b1).symm, h.get i _ _ a2 b2⟩
theorem sim_yield {l l' : Nat} (h : ρ.φ l = some l') {avs avs' : Array Value} (ha : VRs ρ avs avs') : Sim P (Instr.yield l avs) (Instr.yield l' avs') ρ NR :=
  sim_bind (sim_getLoop h) fun ρ1 r r' hle hr => by
    have e1 : avs'.size = avs.size := ha.size.symm
    by_cases hs : avs.size ≠ r.params.size
    · rw [if_pos hs]; exact sim_stuck
    · rw [if_neg hs, if_neg (by rw [hr.params, e1]; exact hs)]
      refine sim_pure ?_
      rw [hr.assign, hr.body, hr.params]
      refine .round _ _ _ _ (hle.φ _ _ h) ?_
      rw [← Array.foldl_toList, ← Array.foldl_toList]
      exact fold_VRs _ _ _ _ hr.tmps (zip_PR _ (ha.mono hle))
theorem sim_beginRound {l l' : Nat} (h : ρ.φ l = some l') : Sim P (Instr.beginRound l) (Instr.beginRound l') ρ fun _ _ _ => True :=
  sim_bind (sim_getLoop h) fun ρ1 r r' hle hr =>
    sim_bind (sim_setObj (hle.φ _ _ h) (.loop { hr with state := rfl })) fun _ _ _ _ _ => by
      rw [hr.state]
      cases r.state with
      | ready => exact sim_pure trivial
      | _ => exact sim_error
theorem sim_endRound {l l' : Nat} (h : ρ.φ l = some l') (j : Option Code) : Sim P (Instr.endRound l j) (Instr.endRound l' j) ρ VR :=
  sim_bind (sim_getLoop h) fun _ _ _ hle hr =>
    sim_bind (sim_setObj (hle.φ _ _ h) (.loop { hr with state := rfl, pending := rfl })) fun _ _ _ _ _ => sim_pure (.bool _)
theorem sim_endLoop {l l' : Nat} (h : ρ.φ l = some l') : Sim P (Instr.endLoop l) (Instr.endLoop l') ρ fun _ x x' => x' = x :=
  sim_bind (sim_getLoop h) fun _ r _ hle hr => by
    rw [hr.state]
    by_cases hs : (r.state == .busy) = true
    · rw [if_pos hs, if_pos hs]; exact sim_error
    · rw [if_neg hs, if_neg hs]
      exact sim_bind (sim_setObj (hle.φ _ _ h) (.loop { hr with state := rfl })) fun _ _ _ _ _ => by rw [hr.pending]; exact sim_pure rfl
theorem sim_takeDeferred {l l' : Nat} (h : ρ.φ l = some l') : Sim P (Instr.takeDeferred l) (Instr.takeDeferred l') ρ fun _ x x' => x = [] ∧ x' = [] :=
  sim_bind (sim_getObj h) fun ρ1 o o' hle ho => by
    cases ho with
    | deferred => exact sim_bind (sim_setObj (hle.φ _ _ h) .shut) fun _ _ _ _ _ => sim_pure ⟨rfl, rfl⟩
    | _ => exact sim_stuck
/-- two ways to be in a round or not -/
def RoR (ρ : Ren) (ro ro' : Option Nat) : Prop := (ro = none ∧ ro' = none) ∨ ∃ l l', ro = some l ∧ ro' = some l' ∧ ρ.φ l = some l'
theorem RoR.mono {ρ' : Ren} (h : ρ.le ρ') {ro ro' : Option Nat} (k : RoR ρ ro ro') : RoR ρ' ro ro' := by
  rcases k with k | ⟨l, l', h1, h2, h3⟩
  · exact .inl k
  · exact .inr ⟨l, l', h1, h2, h.φ _ _ h3⟩
def MkR (ρ : Ren) (l l' : List Deferred) : Prop := (l = [] ∧ l' = []) ∨ ∃ r r', l = [{ target := .collected r, args := #[] }] ∧ l' = [{ target := .collected r', args := #[] }] ∧ ρ.φ r = some r'
theorem sim_enterLoop {ro ro' : Option Nat} (h : RoR ρ ro ro') {t t' : Array Value} (ht : VRs ρ t t') (fn fn' : FuncId) (ps : Array Tmp) (assign body : Code) :
    Sim P (Instr.enterLoop fn t ps assign body ro) (Instr.enterLoop fn' t' ps assign body ro') ρ fun ρ' x x' => ρ'.φ x.1 = some x'.1 ∧ MkR ρ' x.2 x'.2 := by
  have fin : ∀ (ρ1 : Ren) (x x' : Nat × List Deferred), ρ.le ρ1 → ρ1.φ x.1 = some x'.1 → MkR ρ1 x.2 x'.2 →
      Sim P (do pure (← newObj (.loop { state := .ready, pending := none, fn, tmps := t, params := ps, assign, body, defers := x.1 }), x.2) : Sem (Nat × List Deferred))
        (do pure (← newObj (.loop { state := .ready, pending := none, fn := fn', tmps := t', params := ps, assign, body, defers := x'.1 }), x'.2) : Sem (Nat × List Deferred)) ρ1 fun ρ' x x' => ρ'.φ x.1 = some x'.1 ∧ MkR ρ' x.2 x'.2 := fun ρ1 x x' hle h1 h2 =>
    sim_bind (sim_new_with (x := .obj (.loop { state := .ready, pending := none, fn, tmps := t, params := ps, assign, body, defers := x.1 })) rfl fun ρ2 hle2 _ => .loop { state := rfl, pending := rfl, params := rfl, assign := rfl, body := rfl, tmps := ht.mono (hle.trans hle2), defers := hle2.φ _ _ h1 })
      fun ρ2 k k' hle2 hk => sim_pure ⟨hk, by
        rcases h2 with h2 | ⟨r, r', q1, q2, q3⟩
        · exact .inl h2
        · exact .inr ⟨r, r', q1, q2, hle2.φ _ _ q3⟩⟩
  rcases h with ⟨rfl, rfl⟩ | ⟨l, l', rfl, rfl, hl⟩
  · exact sim_bind (sim_new_with (x := .obj (.deferred (some []))) rfl fun _ _ _ => .deferred) fun ρ2 k k' hle2 hk =>
      sim_bind (Q := fun ρ' (x x' : Nat × List Deferred) => ρ'.φ x.1 = some x'.1 ∧ MkR ρ' x.2 x'.2) (sim_pure ⟨hk, .inr ⟨k, k', rfl, rfl, hk⟩⟩) fun ρ3 x x' hle3 hx => fin ρ3 x x' (hle2.trans hle3) hx.1 hx.2
  · exact sim_bind (sim_getLoop hl) fun ρ2 r r' hle2 hr =>
      sim_bind (Q := fun ρ' (x x' : Nat × List Deferred) => ρ'.φ x.1 = some x'.1 ∧ MkR ρ' x.2 x'.2) (sim_pure ⟨hr.defers, .inl ⟨rfl, rfl⟩⟩) fun ρ3 x x' hle3 hx => fin ρ3 x x' (hle2.trans hle3) hx.1 hx.2
end
end Go.Ev
/- Closed calls by evaluation, part J: one operation, whole. -/
namespace Go.Ev
def okFn : Fn → Bool
  | .yield _ => false
  | _ => true
theorem okFn_R {ρ : Ren} {fn : Fn} (h : okFn fn = true) : FnR ρ fn fn := by
  cases fn with
  | func f => exact .func f
  | method n => exact .method n
  | methodOf t n => exact .methodOf t n
  | via t p f b => exact .via t p f b
  | yield l => cases h
def okOps (glob : Nat) (o : Oper) : Bool := o.op.operands.toList.all (okOperand glob)
def plainQ (P : Program) (E : Operand → Value) (σ : St) (o : Oper) : Option (Rs Next) :=
  match o.op.operands.toList.all (fun x => plainV 4 (E x)) with
  | true => match pureQ P (execOp E o) with
    | some (.value v) => match plainV 6 v with
      | true => some (.ok (.value v) σ)
      | false => none
    | _ => none
  | false => none
def capCheck (r : Option (Rs Next)) : Option (Rs Next) :=
  match r with
  | some (.ok (.value v) σ) => match capOk v with
    | true => some (.ok (.value v) σ)
    | false => none
  | some (.panic v σ) => some (.panic v σ)
  | _ => none
def valueR (r : Option (Rs Value)) : Option (Rs Next) :=
  match r with
  | some (.ok v σ) => some (.ok (.value v) σ)
  | some (.panic v σ) => some (.panic v σ)
  | none => none
def evEql (P : Program) (σ : St) (neg : Bool) (t : TypeId) (a b : Value) : Option (Rs Next) :=
  match (someV a && nilV b) || (nilV a && someV b) with
  | true => match pureQ P (Op.equal t a b) with
    | some r => some (.ok (.value (.bool (match neg with | true => !r | false => r))) σ)
    | none => none
  | false => none
def evField (P : Program) (σ : St) (s : TypeId) (x : Value) (f : Nat) : Option (Rs Next) :=
  match P.underlying s, x with
  | some (.struct fields), .pointer (some a) => match fields[f]? with
    | some fl => match P.info? fl.type with
      | some i => match Nat.beq i.size 0 with
        | false => some (.ok (.value (.pointer (some (a.add fl.offset)))) σ)
        | true => none
      | none => none
    | none => none
  | _, _ => none
def evCall (P : Program) (E : Operand → Value) (σ : St) (o : Oper) (f : Value) (args : Array Value) : Option (Rs Next) :=
  match f with
  | .func (.func fid) first cap => match P.funcs[fid]? with
    | some fn => match fn.body with
      | some _ => some (.ok (.enter fid (first ++ args ++ cap)) σ)
      | none => plainQ P E σ o
    | none => none
  | .func (.yield l) first _ => runA P (Instr.yield l (first ++ args)) σ
  | _ => none
def evBuiltin (P : Program) (E : Operand → Value) (σ : St) (o : Oper) (b : Builtin) (l : List Operand) (ts : List TypeId) : Option (Rs Next) :=
  match b, l, ts with
  | .append, [s, x], [t, tx] => valueR (evAppend P σ t tx (E s) (E x))
  | .len, [x], [t] => match E x, P.underlying t with
    | .slice _ n _, some (.slice _) => some (.ok (.value (.int .i64 n)) σ)
    | _, _ => plainQ P E σ o
  | .copy, [d, s], ts => valueR (runA P (Builtin.copy_ ts.toArray o.type #[E d, E s]) σ)
  | .recover, _, _ => some (.ok .recover σ)
  | .min, _, _ | .max, _, _ => plainQ P E σ o
  | _, _, _ => none
def evOp (P : Program) (E : Operand → Value) (σ : St) (o : Oper) : Option (Rs Next) :=
  match okOps σ.glob o with
  | false => none
  | true => match o.op with
    | .move x | .assign x => some (.ok (.value (E x)) σ)
    | .pick c a b => match E c with
      | .bool true => some (.ok (.value (E a)) σ)
      | .bool false => some (.ok (.value (E b)) σ)
      | _ => none
    | .extract x i => match E x with
      | .tuple vs => match nth vs.toList i with
        | some v => some (.ok (.value v) σ)
        | none => none
      | _ => none
    | .alloc _ | .box .. | .build .. | .load .. | .store .. | .makeInterface .. | .field .. | .indexAddr .. | .range .. | .next _ true | .typeAssert _ _ _ true => runA P (execOp E o) σ
    | .makeFunc fn _ _ => match okFn fn with
      | true => runA P (execOp E o) σ
      | false => none
    | .buildSlice .. | .makeSlice .. => capCheck (runA P (execOp E o) σ)
    | .fieldAddr s x f => evField P σ s (E x) f
    | .nilCheck x => match E x with
      | .pointer (some a) => some (.ok (.value (.pointer (some a))) σ)
      | .iface t v => some (.ok (.value (.iface t v)) σ)
      | .func (.func f) a b => some (.ok (.value (.func (.func f) a b)) σ)
      | .func (.yield l) a b => some (.ok (.value (.func (.yield l) a b)) σ)
      | _ => none
    | .binOp op t x y _ => match plainV 4 (E x) && plainV 4 (E y), op with
      | true, _ => plainQ P E σ o
      | false, .eql => evEql P σ false t (E x) (E y)
      | false, .neq => evEql P σ true t (E x) (E y)
      | false, _ => none
    | .unOp .. | .index .. => plainQ P E σ o
    | .convert s t x => match E x with
      | .slice _ _ _ => match bytesConv P s t with
        | true => runA P (execOp E o) σ
        | false => none
      | _ => plainQ P E σ o
    | .slice t x lo hi none => match E x with
      | .slice base n c => match evSlice P σ t (.slice base n c) (lo.map E) (hi.map E) with
        | some v => some (.ok (.value v) σ)
        | none => none
      | _ => plainQ P E σ o
    | .panic x => match E x with
      | .iface t v => some (.panic (.iface t v) σ)
      | _ => none
    | .call c => match c.callee with
      | .builtin b => evBuiltin P E σ o b c.args.toList c.argTypes.toList
      | .value f => evCall P E σ o (E f) (c.args.map E)
      | .invoke .. => none
    | .lookup xt x k ok => match evLookup P σ xt (E x) (E k) ok with
      | some v => some (.ok (.value v) σ)
      | none => none
    | .mapUpdate mt m k v | .insert mt m k v => match evUpdate P σ mt (E m) (E k) (E v) with
      | some σ => some (.ok .skip σ)
      | none => none
    | .mapEntry mt m k => match evEntry P σ mt (E m) (E k) with
      | some (v, σ) => some (.ok (.value v) σ)
      | none => none
    | .entryStore _ m s v => match evEntryStore P σ (E m) (E s) (E v) with
      | some σ => some (.ok .skip σ)
      | none => none
    | .makeMap _ none => runA P (execOp E o) σ
    | .defer c => match c.callee with
      | .value f => match E f with
        | .func fn first cap => some (.ok (.defer { target := .fn fn cap, args := first ++ c.args.map E }) σ)
        | _ => none
      | _ => none
    | _ => none
section
variable {P : Program} {ρ : Ren}
theorem Out.value {σ : St} {w : World} (hr : Rel ρ σ w) {v v' : Value} {real : Result Next} (h : real = .ok (.value v') w) (hv : VR ρ v v') : Out NR ρ σ w (.ok (.value v) σ) real := ⟨ρ, _, w, .refl ρ, h, hr, .refl w, .value hv⟩
def OutV (ρ : Ren) (σ : St) (w : World) (r : Rs Next) (real : Result Next) : Prop := ∃ v v', r = .ok (.value v) σ ∧ real = .ok (.value v') w ∧ VR ρ v v'
theorem OutV.out {σ : St} {w : World} (hr : Rel ρ σ w) {r : Rs Next} {real : Result Next} (h : OutV ρ σ w r real) : Out NR ρ σ w r real := by
  obtain ⟨v, v', rfl, h1, h2⟩ := h
  exact .value hr h1 h2
theorem plainQ_sound {σ : St} {w : World} {E : Operand → Value} {a : Act} {o : Oper} (hs : ∀ cs b, o.op ≠ .select cs b) (hE : ∀ x ∈ o.op.operands, VR ρ (E x) (a.eval x)) {r : Rs Next} (h : plainQ P E σ o = some r) : OutV ρ σ w r ((execOp a.eval o).run P w) := by
  unfold plainQ at h
  cases hp : o.op.operands.toList.all (fun x => plainV 4 (E x)) with
  | false => rw [hp] at h; cases h
  | true =>
  rw [hp] at h
  simp only [List.all_eq_true] at hp
  have he : execOp a.eval o = execOp E o := execOp_congr o hs fun x hx => plain_eq 4 _ _ (hp x (Array.mem_toList_iff.2 hx)) (hE x hx)
  rw [he]
  cases hq : pureQ P (execOp E o) with
  | none => rw [hq] at h; cases h
  | some n =>
  rw [hq] at h
  have hrun := pureQ_run _ hq w
  cases n with
  | value v =>
    simp only at h
    cases hv : plainV 6 v with
    | false => rw [hv] at h; cases h
    | true =>
      rw [hv] at h
      cases Option.some.inj h
      exact ⟨v, v, rfl, hrun, plain_refl 6 v hv⟩
  | _ => cases h
theorem valueR_sound {σ : St} {w : World} {s : Sem Value} {q : Option (Rs Value)} {r : Rs Next} (h : valueR q = some r) (hq : ∀ x, q = some x → Out VR ρ σ w x (s.run P w)) : Out NR ρ σ w r ((do pure (Next.value (← s))).run P w) := by
  cases q with
  | none => cases h
  | some x =>
    have := hq x rfl
    cases x with
    | ok v σ' =>
      cases Option.some.inj h
      obtain ⟨ρ', x', w', h1, h2, h3, h4, h5⟩ := this
      exact ⟨ρ', _, w', h1, by rw [Sem.run_bind, h2]; rfl, h3, h4, .value h5⟩
    | panic v σ' =>
      cases Option.some.inj h
      obtain ⟨ρ', x', w', h1, h2, h3, h4, h5⟩ := this
      exact ⟨ρ', _, w', h1, by rw [Sem.run_bind, h2]; rfl, h3, h4, h5⟩
theorem cap_sound {σ : St} {w : World} (hr : Rel ρ σ w) {s s' : Sem Value} (h : Sim P s s' ρ CapV) {r : Rs Next} (he : capCheck (runA P (do pure (Next.value (← s))) σ) = some r) : Out NR ρ σ w r ((do pure (Next.value (← s'))).run P w) := by
  have h2 : Sim P (do pure (Next.value (← s))) (do pure (Next.value (← s'))) ρ fun ρ' n n' => ∃ v v', n = .value v ∧ n' = .value v' ∧ CapV ρ' v v' := sim_bind h fun _ _ _ _ hv => sim_pure ⟨_, _, rfl, rfl, hv⟩
  generalize hq : runA P (do pure (Next.value (← s))) σ = q at he
  cases q with
  | none => cases he
  | some x =>
    have h3 := h2.out hr hq
    cases x with
    | ok n σ' =>
      obtain ⟨ρ', x', w', h1, h4, h5, h6, v, v', rfl, rfl, h7⟩ := h3
      simp only [capCheck] at he
      cases hc : capOk v with
      | false => rw [hc] at he; cases he
      | true => rw [hc] at he; cases Option.some.inj he; exact ⟨ρ', _, w', h1, h4, h5, h6, .value (h7 hc)⟩
    | panic v σ' => cases Option.some.inj he; exact h3
theorem field_sound {σ : St} {w : World} {s : TypeId} {x x' : Value} {f : Nat} (hx : VR ρ x x') {r : Rs Next} (h : evField P σ s x f = some r) : OutV ρ σ w r ((do pure (Next.value (← Instr.fieldAt s x' f))).run P w) := by
  unfold evField at h
  cases ht : P.underlying s with
  | none => rw [ht] at h; cases h
  | some d =>
  rw [ht] at h
  cases d with
  | struct fields =>
    cases hx with
    | @ptr b k o h1 =>
      simp only at h
      cases hf : fields[f]? with
      | none => rw [hf] at h; cases h
      | some fl =>
      rw [hf] at h
      simp only at h
      cases hi : P.info? fl.type with
      | none => rw [hi] at h; cases h
      | some i =>
      rw [hi] at h
      simp only at h
      cases hz : Nat.beq i.size 0 with
      | true => rw [hz] at h; cases h
      | false =>
      rw [hz] at h
      cases Option.some.inj h
      have hne : i.size ≠ 0 := by rw [← Bool.not_eq_true, Nat.beq_eq] at hz; exact hz
      refine ⟨_, .pointer (some (Addr.add ⟨k, o, none⟩ fl.offset)), rfl, ?_, (AdR.add (a := ⟨b, o, none⟩) (a' := ⟨k, o, none⟩) ⟨rfl, rfl, rfl, h1⟩ _).ptr⟩
      simp [Instr.fieldAt, run_underlying ht, hf, Instr.sureAddr, fieldPlace, sizeOf, typeInfo, hi, hne]
    | _ => cases h
  | _ => cases h
theorem eql_sound {σ : St} {w : World} {neg : Bool} {t : TypeId} {x y : Operand} {a a' b b' : Value} (ha : VR ρ a a') (hb : VR ρ b b') {r : Rs Next} (h : evEql P σ neg t a b = some r) :
    OutV ρ σ w r ((do pure (Next.value (← (do eqGuard (if neg then .neq else .eql) t x y a' b'; binOp (if neg then .neq else .eql) t a' b')))).run P w) := by
  unfold evEql at h
  cases hc : ((someV a && nilV b) || (nilV a && someV b)) with
  | false => rw [hc] at h; cases h
  | true =>
  rw [hc] at h
  simp only at h
  cases hq : pureQ P (Op.equal t a b) with
  | none => rw [hq] at h; cases h
  | some v =>
  rw [hq] at h
  cases Option.some.inj h
  simp only [Bool.or_eq_true, Bool.and_eq_true] at hc
  have hc' : (someV a' = true ∧ nilV b' = true) ∨ (nilV a' = true ∧ someV b' = true) := by
    rcases hc with ⟨h1, h2⟩ | ⟨h1, h2⟩
    · left; exact ⟨someV_eq ha h1, by rw [nilV_eq hb h2]; exact h2⟩
    · right; exact ⟨by rw [nilV_eq ha h1]; exact h1, someV_eq hb h2⟩
  have hrun : (Op.equal t a' b').run P w = .ok v w := by
    rcases hc with ⟨h1, h2⟩ | ⟨h1, h2⟩
    · rw [nilV_eq hb h2]; exact equal_nil ha h1 h2 hq w
    · rw [nilV_eq ha h1]; exact equal_nil' hb h2 h1 hq w
  have hg := guard_nil (P := P) (op := if neg then .neq else .eql) (t := t) (x := x) (y := y) hc' w
  obtain ⟨b1, b2⟩ := binOp_nil (t := t) hc'
  cases neg with
  | false =>
    refine ⟨_, .bool v, rfl, ?_, .bool v⟩
    simp only [Bool.false_eq_true, if_false] at hg ⊢
    simp only [Sem.run_bind, hg, Result.andThen_ok, b1, hrun, Sem.run_pure]
  | true =>
    refine ⟨_, .bool (!v), rfl, ?_, .bool _⟩
    simp only [if_true] at hg ⊢
    simp only [Sem.run_bind, hg, Result.andThen_ok, b2, hrun, Sem.run_pure]
theorem PR_map {l : List (Nat × Operand)} {f g : Operand → Value} (h : ∀ p ∈ l, VR ρ (f p.2) (g p.2)) : PR ρ (l.map fun (i, x) => (i, f x)) (l.map fun (i, x) => (i, g x)) := by
  refine ⟨by simp, fun i p p' h1 h2 => ?_⟩
  rw [List.getElem?_map] at h1 h2
  cases hl : l[i]? with
  | none => rw [hl] at h1; cases h1
  | some q =>
    rw [hl] at h1 h2
    rw [← Option.some.inj h1, ← Option.some.inj h2]
    exact ⟨rfl, h q (List.mem_of_getElem? hl)⟩
theorem NoNG_run {hn : ∀ (f : Nat) (fn : Func), P.funcs[f]? = some fn → (fn.name == "runtime.NumGoroutine") = false} {fid : FuncId} {fn : Func} (hf : P.funcs[fid]? = some fn) {c : Code} (hb : fn.body = some c) (args : Array Value) (w : World) : (callFunc fid args).run P w = .ok (.enter fid args) w := by
  have h1 := hn fid fn hf
  unfold callFunc
  rw [Sem.run_bind]
  show ((match P.funcs[fid]? with | none => stuck "call: no such function" | some fn => _ : Sem Next)).run P w = _
  rw [hf]
  simp only [h1, hb, Bool.false_eq_true, if_false, Option.isNone_some]
  rfl
theorem call_sound (hn : ∀ (f : Nat) (fn : Func), P.funcs[f]? = some fn → (fn.name == "runtime.NumGoroutine") = false) {σ : St} {w : World} (hr : Rel ρ σ w) {E : Operand → Value} {a : Act} {o : Oper} {f : Operand} {args : Array Operand} {ts : Array TypeId} (ho : o.op = .call ⟨.value f, args, ts⟩)
    (hE : ∀ x ∈ o.op.operands, VR ρ (E x) (a.eval x)) {r : Rs Next} (h : evCall P E σ o (E f) (args.map E) = some r) : Out NR ρ σ w r ((execOp a.eval o).run P w) := by
  have hsel : ∀ cs b, o.op ≠ .select cs b := fun cs b e => by rw [ho] at e; cases e
  have hf : VR ρ (E f) (a.eval f) := hE f (by rw [ho]; simp [Op.operands, Call.operands])
  have hargs : VRs ρ (args.map E) (args.map a.eval) := .map _ _ _ fun x hx => hE x (by rw [ho]; simp [Op.operands, Call.operands, hx])
  have hq : plainQ P E σ o = some r → Out NR ρ σ w r ((execOp a.eval o).run P w) := fun h => (plainQ_sound hsel hE h).out hr
  have hex : execOp a.eval o = (do let d ← resolve a.eval ⟨.value f, args, ts⟩ o.type; invoke d.target d.args) := by simp only [execOp, ho]
  unfold evCall at h
  generalize hA : E f = fv at hf h
  generalize hB : a.eval f = fv' at hf
  cases hf with
  | @func fn fn' f1 f1' c c' hfn q1 q2 q3 q4 =>
    cases hfn with
    | func fid =>
      simp only at h
      cases hfu : P.funcs[fid]? with
      | none => rw [hfu] at h; cases h
      | some fu =>
      rw [hfu] at h
      simp only at h
      cases hbo : fu.body with
      | none => rw [hbo] at h; exact hq h
      | some cb =>
      rw [hbo] at h
      cases Option.some.inj h
      have hrun := NoNG_run (hn := hn) hfu hbo (f1' ++ args.map a.eval ++ c') w
      refine ⟨ρ, .enter fid (f1' ++ args.map a.eval ++ c'), w, .refl ρ, ?_, hr, .refl w, .enter fid ((VRs.append ⟨q1, q2⟩ hargs).append ⟨q3, q4⟩)⟩
      rw [hex]
      simp only [resolve, hB, Deferred.ofValue, Sem.run_bind, Sem.run_pure, Result.andThen_ok, invoke]
      exact hrun
    | @yield l l' hl =>
      simp only at h
      have h1 := (sim_yield (P := P) hl (VRs.append ⟨q1, q2⟩ hargs)).out hr h
      have h2 : (execOp a.eval o).run P w = (Instr.yield l' (f1' ++ args.map a.eval)).run P w := by
        rw [hex]
        simp only [resolve, hB, Deferred.ofValue, Sem.run_bind, Sem.run_pure, Result.andThen_ok, invoke]
      rw [h2]; exact h1
    | _ => cases h
  | _ => cases h
theorem builtin_sound {σ : St} {w : World} (hr : Rel ρ σ w) {E : Operand → Value} {a : Act} {dst : Option Tmp} {type : TypeId} {pos : String} {after : Array Edge} {guard : Option (Nat × Bool)} {b : Builtin} {args : Array Operand} {ts : Array TypeId}
    (hE : ∀ x ∈ (Op.call ⟨.builtin b, args, ts⟩).operands, VR ρ (E x) (a.eval x)) {r : Rs Next} (h : evBuiltin P E σ ⟨dst, .call ⟨.builtin b, args, ts⟩, type, pos, after, guard⟩ b args.toList ts.toList = some r) :
    Out NR ρ σ w r ((execOp a.eval ⟨dst, .call ⟨.builtin b, args, ts⟩, type, pos, after, guard⟩).run P w) := by
  have hq : plainQ P E σ ⟨dst, .call ⟨.builtin b, args, ts⟩, type, pos, after, guard⟩ = some r → Out NR ρ σ w r ((execOp a.eval ⟨dst, .call ⟨.builtin b, args, ts⟩, type, pos, after, guard⟩).run P w) := fun h => (plainQ_sound (fun _ _ e => by cases e) hE h).out hr
  have hM : ∀ x ∈ args, VR ρ (E x) (a.eval x) := fun x hx => hE x (by simp [Op.operands, Call.operands, hx])
  have two : ∀ (s x : Operand), args.toList = [s, x] → args = #[s, x] := fun s x e => by rw [← Array.toArray_toList (xs := args), e]
  unfold evBuiltin at h
  split at h
  · rename_i s x t tx e1 e2
    obtain rfl := two s x e1
    have : ts = #[t, tx] := by rw [← Array.toArray_toList (xs := ts), e2]
    subst this
    have hs := hM s (by simp)
    have hx := hM x (by simp)
    have hex : (execOp a.eval ⟨dst, .call ⟨.builtin .append, #[s, x], #[t, tx]⟩, type, pos, after, guard⟩).run P w = (do pure (Next.value (← Builtin.append_ #[t, tx] type #[a.eval s, a.eval x]))).run P w := by simp [execOp, resolve, invoke, builtin]
    rw [hex]
    exact valueR_sound (s := Builtin.append_ #[t, tx] type #[a.eval s, a.eval x]) h fun y hy => append_sound hr hs hx hy
  · rename_i x t e1 e2
    have : args = #[x] := by rw [← Array.toArray_toList (xs := args), e1]
    subst this
    have : ts = #[t] := by rw [← Array.toArray_toList (xs := ts), e2]
    subst this
    have hx := hM x (by simp)
    split at h
    · rename_i base n c elem hA ht
      cases Option.some.inj h
      rw [hA] at hx
      have hv : ∃ b' c', a.eval x = .slice b' n c' := by
        generalize a.eval x = v at hx
        cases hx with
        | nilSlice n c => exact ⟨_, _, rfl⟩
        | empty a c' => exact ⟨_, _, rfl⟩
        | slice h1 h2 => exact ⟨_, _, rfl⟩
      obtain ⟨b', c', hv⟩ := hv
      refine .value hr (v' := .int .i64 n) ?_ (.int _ _)
      simp [execOp, resolve, invoke, builtin, hv, Builtin.len_, run_underlying ht, goInt]
    · exact hq h
  · rename_i ts' d s e1
    obtain rfl := two d s e1
    have hd := hM d (by simp)
    have hs := hM s (by simp)
    rw [Array.toArray_toList] at h
    have hex : (execOp a.eval ⟨dst, .call ⟨.builtin .copy, #[d, s], ts⟩, type, pos, after, guard⟩).run P w = (do pure (Next.value (← Builtin.copy_ ts type #[a.eval d, a.eval s]))).run P w := by simp [execOp, resolve, invoke, builtin]
    rw [hex]
    exact valueR_sound (s := Builtin.copy_ ts type #[a.eval d, a.eval s]) h fun y hy => (sim_copy hd hs).out hr hy
  · cases Option.some.inj h
    exact ⟨ρ, .recover, w, .refl ρ, by simp [execOp, resolve, invoke, builtin], hr, .refl w, .recover⟩
  · exact hq h
  · exact hq h
  · cases h
theorem sim_makeMap {t : TypeId} : Sim P (Instr.makeMap t none) (Instr.makeMap t none) ρ VR :=
  sim_bind (sim_new_with (x := .obj (.map #[] 0)) rfl fun _ _ _ => .map 0 rfl fun i e e' h => by simp at h) fun _ _ _ _ hk => sim_pure (.map hk)
theorem op_sound (hz : ZeroOk P) (hn : ∀ (f : Nat) (fn : Func), P.funcs[f]? = some fn → (fn.name == "runtime.NumGoroutine") = false) {σ : St} {w : World} (hr : Rel ρ σ w) {E : Operand → Value} {a : Act} {o : Oper} (hact : ∀ x ∈ o.op.operands, okOperand σ.glob x = true → VR ρ (E x) (a.eval x)) {r : Rs Next} (h : evOp P E σ o = some r) :
    Out NR ρ σ w r ((execOp a.eval o).run P w) := by
  unfold evOp at h
  cases hok : okOps σ.glob o with
  | false => rw [hok] at h; cases h
  | true =>
  rw [hok] at h
  simp only [okOps, List.all_eq_true] at hok
  have hE : ∀ x ∈ o.op.operands, VR ρ (E x) (a.eval x) := fun x hx => hact x hx (hok x (Array.mem_toList_iff.2 hx))
  obtain ⟨dst, op, type, pos, after, guard⟩ := o
  simp only at h hE
  have hpl : ∀ (hs : ∀ cs b, op ≠ .select cs b), plainQ P E σ ⟨dst, op, type, pos, after, guard⟩ = some r → Out NR ρ σ w r ((execOp a.eval ⟨dst, op, type, pos, after, guard⟩).run P w) := fun hs h => (plainQ_sound hs hE h).out hr
  cases op with
  | move x => cases Option.some.inj h; exact .value hr rfl (hE x (by simp [Op.operands]))
  | assign x => cases Option.some.inj h; exact .value hr rfl (hE x (by simp [Op.operands]))
  | pick c x y =>
    have hc := hE c (by simp [Op.operands])
    have hx := hE x (by simp [Op.operands])
    have hy := hE y (by simp [Op.operands])
    simp only at h
    generalize hA : E c = vc at hc h
    generalize hB : a.eval c = vc' at hc
    cases hc with
    | bool b =>
      cases b with
      | true => cases Option.some.inj h; exact .value hr (by simp [execOp, hB, asBool]) hx
      | false => cases Option.some.inj h; exact .value hr (by simp [execOp, hB, asBool]) hy
    | _ => cases h
  | extract x i =>
    have hx := hE x (by simp [Op.operands])
    simp only at h
    generalize hA : E x = vc at hx h
    generalize hB : a.eval x = vc' at hx
    cases hx with
    | @tuple c c' q1 q2 =>
      simp only [nth_eq] at h
      cases hc : c.toList[i]? with
      | none => rw [hc] at h; cases h
      | some v =>
        rw [hc] at h
        cases Option.some.inj h
        obtain ⟨v', h1, h2⟩ := (VRs.mk q1 q2).toList i v hc
        exact .value hr (by simp [execOp, hB, Instr.extract, h1]) h2
    | _ => cases h
  | alloc t => exact (sim_value (sim_alloc hz)).out hr h
  | box t x => exact (sim_value (sim_box (hE x (by simp [Op.operands])))).out hr h
  | build t ps =>
    refine (sim_value (sim_build hz ?_)).out hr h
    simp only [Array.toList_map]
    exact PR_map fun p hp => hE p.2 (by simp only [Op.operands]; simp; exact ⟨p.1, by simpa using hp⟩)
  | buildSlice t n ps =>
    refine cap_sound hr (sim_buildSlice hz ?_) h
    simp only [Array.toList_map]
    exact PR_map fun p hp => hE p.2 (by simp only [Op.operands]; simp; exact ⟨p.1, by simpa using hp⟩)
  | load t x => exact (sim_value (sim_loadAt (hE x (by simp [Op.operands])))).out hr h
  | store t x y => exact (sim_skip (sim_storeAt (hE x (by simp [Op.operands])) (hE y (by simp [Op.operands])))).out hr h
  | makeInterface t x => exact (sim_value (sim_makeInterface (hE x (by simp [Op.operands])))).out hr h
  | makeFunc fn f c =>
    have h1 : VRs ρ (f.map E) (f.map a.eval) := .map _ _ _ fun x hx => hE x (by simp [Op.operands, hx])
    have h2 : VRs ρ (c.map E) (c.map a.eval) := .map _ _ _ fun x hx => hE x (by simp [Op.operands, hx])
    cases hfn : okFn fn with
    | false => simp only [hfn] at h; cases h
    | true =>
      simp only [hfn] at h
      exact (sim_value (s := pure _) (s' := pure _) (sim_pure (.func (okFn_R hfn) h1.size h1.get h2.size h2.get))).out hr h
  | field t x f => exact (sim_value (sim_field (hE x (by simp [Op.operands])))).out hr h
  | indexAddr t x y => exact (sim_value (sim_indexAt (hE x (by simp [Op.operands])) (hE y (by simp [Op.operands])))).out hr h
  | range t x => exact (sim_value (sim_range (hE x (by simp [Op.operands])))).out hr h
  | next x b => cases b with
    | true => exact (sim_value (sim_next (hE x (by simp [Op.operands])))).out hr h
    | false => cases h
  | typeAssert x t s ok => cases ok with
    | true => exact (sim_value (sim_typeAssert hz (hE x (by simp [Op.operands])))).out hr h
    | false => cases h
  | makeSlice t l c => exact cap_sound hr (sim_makeSlice hz (hE l (by simp [Op.operands])) (hE c (by simp [Op.operands]))) h
  | fieldAddr s x f => exact (field_sound (hE x (by simp [Op.operands])) h).out hr
  | nilCheck x =>
    have hx := hE x (by simp [Op.operands])
    simp only at h
    generalize hA : E x = vc at hx h
    generalize hB : a.eval x = vc' at hx
    cases hx with
    | ptr q => cases Option.some.inj h; exact .value hr (by simp [execOp, hB]) (.ptr q)
    | iface q => cases Option.some.inj h; exact .value hr (by simp [execOp, hB]) (.iface q)
    | @func fn fn' f1 f1' c c' hfn q1 q2 q3 q4 =>
      cases hfn with
      | func fid => cases Option.some.inj h; exact .value hr (by simp [execOp, hB]) (.func (.func fid) q1 q2 q3 q4)
      | yield hl => cases Option.some.inj h; exact .value hr (by simp [execOp, hB]) (.func (.yield hl) q1 q2 q3 q4)
      | _ => cases h
    | _ => cases h
  | binOp op t x y ty =>
    simp only at h
    cases hp : (plainV 4 (E x) && plainV 4 (E y)) with
    | true => rw [hp] at h; exact hpl (fun _ _ e => by cases e) h
    | false =>
      rw [hp] at h
      have hx := hE x (by simp [Op.operands])
      have hy := hE y (by simp [Op.operands])
      cases op with
      | eql => exact (eql_sound (neg := false) hx hy h).out hr
      | neq => exact (eql_sound (neg := true) hx hy h).out hr
      | _ => cases h
  | unOp _ _ _ => exact hpl (fun _ _ e => by cases e) h
  | convert s t x =>
    simp only at h
    have hx := hE x (by simp [Op.operands])
    split at h
    · rename_i b n c hA
      rw [hA] at hx
      split at h
      · rename_i hb
        obtain ⟨e, h1, h2, h3⟩ := bytesConv_eq hb
        refine (sim_value ?_).out hr h
        rw [hA]
        exact sim_convert hx h1 h2 h3
      · cases h
    · exact hpl (fun _ _ e => by cases e) h
  | index _ _ _ => exact hpl (fun _ _ e => by cases e) h
  | slice t x lo hi mx =>
    cases mx with
    | some m => cases h
    | none =>
    simp only at h
    have hx := hE x (by simp [Op.operands])
    have hlo : (lo.map E = none ∧ lo.map a.eval = none) ∨ ∃ v v', lo.map E = some v ∧ lo.map a.eval = some v' ∧ VR ρ v v' := by
      cases lo with
      | none => exact .inl ⟨rfl, rfl⟩
      | some l => exact .inr ⟨_, _, rfl, rfl, hE l (by simp [Op.operands])⟩
    have hhi : (hi.map E = none ∧ hi.map a.eval = none) ∨ ∃ v v', hi.map E = some v ∧ hi.map a.eval = some v' ∧ VR ρ v v' := by
      cases hi with
      | none => exact .inl ⟨rfl, rfl⟩
      | some l => exact .inr ⟨_, _, rfl, rfl, hE l (by simp [Op.operands])⟩
    cases hA : E x with
    | slice base n c =>
      rw [hA] at h hx
      simp only at h
      cases hs : evSlice P σ t (.slice base n c) (lo.map E) (hi.map E) with
      | none => rw [hs] at h; cases h
      | some v =>
        rw [hs] at h
        cases Option.some.inj h
        obtain ⟨v', h1, h2⟩ := slice_sound hr hx hlo hhi hs
        exact .value hr (by show ((do pure (Next.value (← Instr.sliceAt t (a.eval x) (lo.map a.eval) (hi.map a.eval) none))).run P w) = _; rw [Sem.run_bind, h1]; rfl) h2
    | _ => rw [hA] at h; exact hpl (fun _ _ e => by cases e) h
  | panic x =>
    have hx := hE x (by simp [Op.operands])
    simp only at h
    generalize hA : E x = vc at hx h
    generalize hB : a.eval x = vc' at hx
    cases hx with
    | iface q => cases Option.some.inj h; exact ⟨ρ, _, w, .refl ρ, by simp [execOp, hB, Instr.panic], hr, .refl w, .iface q⟩
    | _ => cases h
  | lookup xt x k ok =>
    simp only at h
    cases hl : evLookup P σ xt (E x) (E k) ok with
    | none => rw [hl] at h; cases h
    | some v =>
      rw [hl] at h
      cases Option.some.inj h
      obtain ⟨v', h1, h2⟩ := lookup_sound hz hr (hE x (by simp [Op.operands])) (hE k (by simp [Op.operands])) hl
      exact .value hr (by show ((do pure (Next.value (← Instr.lookup xt (a.eval x) (a.eval k) ok))).run P w) = _; rw [Sem.run_bind, h1]; rfl) h2
  | mapUpdate mt m k v =>
    simp only at h
    cases hl : evUpdate P σ mt (E m) (E k) (E v) with
    | none => rw [hl] at h; cases h
    | some σ1 =>
      rw [hl] at h
      cases Option.some.inj h
      obtain ⟨ρ', w', h1, h2, h3, h4⟩ := update_sound hr (hE m (by simp [Op.operands])) (hE k (by simp [Op.operands])) (hE v (by simp [Op.operands])) hl
      exact ⟨ρ', .skip, w', h1, by show ((do Instr.mapUpdate mt (a.eval m) (a.eval k) (a.eval v); pure Next.skip).run P w) = _; rw [Sem.run_bind, h2]; rfl, h3, h4, .skip⟩
  | insert mt m k v =>
    simp only at h
    cases hl : evUpdate P σ mt (E m) (E k) (E v) with
    | none => rw [hl] at h; cases h
    | some σ1 =>
      rw [hl] at h
      cases Option.some.inj h
      obtain ⟨ρ', w', h1, h2, h3, h4⟩ := update_sound hr (hE m (by simp [Op.operands])) (hE k (by simp [Op.operands])) (hE v (by simp [Op.operands])) hl
      exact ⟨ρ', .skip, w', h1, by show ((do Instr.mapUpdate mt (a.eval m) (a.eval k) (a.eval v); pure Next.skip).run P w) = _; rw [Sem.run_bind, h2]; rfl, h3, h4, .skip⟩
  | mapEntry mt m k =>
    simp only at h
    cases hl : evEntry P σ mt (E m) (E k) with
    | none => rw [hl] at h; cases h
    | some p =>
      obtain ⟨v, σ1⟩ := p
      rw [hl] at h
      cases Option.some.inj h
      obtain ⟨ρ', w', v', h1, h2, h3, h4, h5⟩ := entry_sound hz hr (hE m (by simp [Op.operands])) (hE k (by simp [Op.operands])) hl
      exact ⟨ρ', .value v', w', h1, by show ((do pure (Next.value (← Instr.mapEntry mt (a.eval m) (a.eval k)))).run P w) = _; rw [Sem.run_bind, h2]; rfl, h3, h4, .value h5⟩
  | entryStore mt m s v =>
    simp only at h
    cases hl : evEntryStore P σ (E m) (E s) (E v) with
    | none => rw [hl] at h; cases h
    | some σ1 =>
      rw [hl] at h
      cases Option.some.inj h
      obtain ⟨ρ', w', h1, h2, h3, h4⟩ := entryStore_sound (mt := mt) hr (hE m (by simp [Op.operands])) (hE s (by simp [Op.operands])) (hE v (by simp [Op.operands])) hl
      exact ⟨ρ', .skip, w', h1, by show ((do Instr.entryStore mt (a.eval m) (a.eval s) (a.eval v); pure Next.skip).run P w) = _; rw [Sem.run_bind, h2]; rfl, h3, h4, .skip⟩
  | makeMap t r => cases r with
    | none => exact (sim_value sim_makeMap).out hr h
    | some r => cases h
  | call c =>
    obtain ⟨callee, args, ts⟩ := c
    simp only at h
    cases callee with
    | value f => exact call_sound hn hr rfl hE h
    | invoke _ _ => cases h
    | builtin b => exact builtin_sound hr hE h
  | defer c =>
    obtain ⟨callee, args, ts⟩ := c
    simp only at h
    cases callee with
    | value f =>
      have hf := hE f (by simp [Op.operands, Call.operands])
      have hargs : VRs ρ (args.map E) (args.map a.eval) := .map _ _ _ fun x hx => hE x (by simp [Op.operands, Call.operands, hx])
      simp only at h
      generalize hA : E f = vc at hf h
      generalize hB : a.eval f = vc' at hf
      cases hf with
      | @func fn fn' f1 f1' c c' hfn q1 q2 q3 q4 =>
        cases Option.some.inj h
        exact ⟨ρ, .defer { target := .fn fn' c', args := f1' ++ args.map a.eval }, w, .refl ρ, by simp [execOp, resolve, hB, Deferred.ofValue], hr, .refl w, .defer ⟨.inl ⟨_, _, _, _, rfl, rfl, hfn, ⟨q3, q4⟩⟩, VRs.append ⟨q1, q2⟩ hargs⟩⟩
      | _ => cases h
    | _ => cases h
  | _ => cases h
end
end Go.Ev
/- Closed calls by evaluation, part K: frames. -/
namespace Go.Ev
structure Fr where
  t : T Value
  n : Nat
  defers : List Deferred
def Fr.tmp (A : Fr) (t : Nat) : Value :=
  match A.t.get t with
  | some v => v
  | none => undef
def Fr.eval (A : Fr) : Operand → Value
  | .tmp t => A.tmp t
  | .const v => v
  | .global g => .pointer (some ⟨g, 0, none⟩)
  | .func f => .func (.func f) #[] #[]
def Fr.put (A : Fr) (d : Option Tmp) (v : Value) : Fr :=
  match d with
  | none => A
  | some d => match Nat.blt d A.n with
    | true => { t := A.t.set d (some v), n := Nat.add A.n 0, defers := A.defers }
    | false => A
def wantedE (ops : List Oper) (o : Oper) (A : Fr) : Bool :=
  match o.guard with
  | none => true
  | some (g, b) => match nth ops g with
    | some o' => match o'.dst with
      | some d => match A.tmp d with
        | .bool x => x == b
        | _ => false
      | none => false
    | none => false
structure FrR (ρ : Ren) (A : Fr) (a : Act) : Prop where
  n : A.n = a.tmps.size
  tmp : ∀ t, VR ρ (A.tmp t) (a.tmps.getD t undef)
  dl : A.defers.length = a.defers.length
  defers : ∀ (i : Nat) (d d' : Deferred), A.defers[i]? = some d → a.defers[i]? = some d' → DR ρ d d'
theorem DR.mono {ρ ρ' : Ren} (h : ρ.le ρ') {d d' : Deferred} (k : DR ρ d d') : DR ρ' d d' := by
  refine ⟨?_, k.args.mono h⟩
  rcases k.target with ⟨fn, fn', c, c', h1, h2, h3, h4⟩ | h1 | h1 | ⟨r, r', h1, h2, h3⟩
  · exact .inl ⟨fn, fn', c, c', h1, h2, h3.mono h, h4.mono h⟩
  · exact .inr (.inl h1)
  · exact .inr (.inr (.inl h1))
  · exact .inr (.inr (.inr ⟨r, r', h1, h2, h.φ _ _ h3⟩))
section
variable {P : Program} {ρ : Ren}
theorem FrR.mono {ρ' : Ren} (h : ρ.le ρ') {A : Fr} {a : Act} (k : FrR ρ A a) : FrR ρ' A a := ⟨k.n, fun t => (k.tmp t).mono h, k.dl, fun i d d' h1 h2 => (k.defers i d d' h1 h2).mono h⟩
theorem Fr.put_tmp {A : Fr} {d : Nat} (hd : d < A.n) (v : Value) (t : Nat) : (A.put (some d) v).tmp t = if t = d then v else A.tmp t := by
  have h1 : Nat.blt d A.n = true := by simpa using hd
  unfold Fr.put
  simp only [h1]
  unfold Fr.tmp
  simp only [T.get_set]
  by_cases e : t = d
  · rw [if_pos e, if_pos e]
  · rw [if_neg e, if_neg e]
theorem FrR.put {A : Fr} {a : Act} (h : FrR ρ A a) (d : Option Tmp) {v v' : Value} (hv : VR ρ v v') : FrR ρ (A.put d v) (a.put d v') := by
  cases d with
  | none => exact h
  | some d =>
    by_cases hd : d < A.n
    · refine ⟨?_, fun t => ?_, ?_, ?_⟩
      · have h1 : Nat.blt d A.n = true := by simpa using hd
        simp only [Fr.put, h1, Act.put, Array.size_setIfInBounds]
        exact h.n
      · rw [Fr.put_tmp hd]
        show VR ρ _ ((a.tmps.setIfInBounds d v').getD t undef)
        rw [Array.getD_eq_getD_getElem?, Array.getElem?_setIfInBounds]
        by_cases e : t = d
        · subst e
          rw [if_pos rfl, if_pos rfl, if_pos (by rw [← h.n]; exact hd)]
          exact hv
        · rw [if_neg e, if_neg (fun q => e q.symm), ← Array.getD_eq_getD_getElem?]
          exact h.tmp t
      · have h1 : Nat.blt d A.n = true := by simpa using hd
        simp only [Fr.put, h1, Act.put]
        exact h.dl
      · have h1 : Nat.blt d A.n = true := by simpa using hd
        simp only [Fr.put, h1, Act.put]
        exact h.defers
    · have h1 : Nat.blt d A.n = false := by rw [← Bool.not_eq_true]; simpa using hd
      have e1 : A.put (some d) v = A := by unfold Fr.put; simp only [h1]
      have e2 : a.put (some d) v' = a := by
        show ({ a with tmps := a.tmps.setIfInBounds d v' } : Act) = a
        have : a.tmps.setIfInBounds d v' = a.tmps := Array.setIfInBounds_eq_of_size_le (by rw [← h.n]; exact Nat.le_of_not_lt hd)
        rw [this]
      rw [e1, e2]; exact h
theorem FrR.eval {A : Fr} {a : Act} (h : FrR ρ A a) {σ : St} {w : World} (hr : Rel ρ σ w) {x : Operand} (hx : okOperand σ.glob x = true) : VR ρ (A.eval x) (a.eval x) := by
  cases x with
  | tmp t => exact h.tmp t
  | const v => exact plain_refl 6 v hx
  | global g => exact .ptr (hr.glob g (by simpa [okOperand] using hx))
  | func f => exact .func (.func f) rfl (fun i v v' h1 => by simp at h1) rfl fun i v v' h1 => by simp at h1
theorem FrR.wanted {A : Fr} {a : Act} (h : FrR ρ A a) (ops : Array Oper) (o : Oper) : Region.wanted o (yielded ops a.tmps) = wantedE ops.toList o A := by
  unfold Region.wanted wantedE
  cases o.guard with
  | none => rfl
  | some g =>
    obtain ⟨g, b⟩ := g
    simp only [nth_eq, Array.getElem?_toList]
    unfold yielded
    cases ops[g]? with
    | none => rfl
    | some o' =>
      simp only [Option.bind_some]
      cases o'.dst with
      | none => rfl
      | some d =>
        simp only [Option.bind_some]
        have hv := h.tmp d
        rw [Array.getD_eq_getD_getElem?] at hv
        cases ht : a.tmps[d]? with
        | none =>
          rw [ht] at hv
          simp only [Option.getD_none] at hv
          generalize A.tmp d = u at hv
          cases hv
          rfl
        | some v' =>
          rw [ht] at hv
          simp only [Option.getD_some] at hv
          generalize A.tmp d = u at hv
          cases hv with
          | bool x => cases x <;> cases b <;> rfl
          | _ => rfl
end
/-- the slots at a call -/
def fillF : List Value → Nat → T Value → T Value
  | [], _, t => t
  | v :: l, i, t => fillF l (i + 1) (t.set i (some v))
theorem fillF_get : ∀ (l : List Value) (i : Nat) (t : T Value) (j : Nat), (fillF l i t).get j = if i ≤ j ∧ j < i + l.length then l[j - i]? else t.get j := by
  intro l
  induction l with
  | nil => intro i t j; rw [if_neg (by simp)]; rfl
  | cons v l ih =>
    intro i t j
    simp only [fillF]
    rw [ih, T.get_set]
    by_cases h1 : i + 1 ≤ j ∧ j < i + 1 + l.length
    · rw [if_pos h1, if_pos (by simp only [List.length_cons]; omega)]
      have : j - i = (j - (i + 1)) + 1 := by omega
      rw [this, List.getElem?_cons_succ]
    · rw [if_neg h1]
      by_cases h2 : j = i
      · rw [if_pos h2, if_pos (by simp only [List.length_cons]; omega)]
        subst h2
        simp
      · rw [if_neg h2, if_neg (by simp only [List.length_cons]; omega)]
def Fr.enter (args : List Value) (n : Nat) : Fr := { t := fillF args 0 .leaf, n := n, defers := [] }
theorem FrR.enter {ρ : Ren} {args args' : Array Value} (h : VRs ρ args args') {n : Nat} (hn : args.size ≤ n) : FrR ρ (Fr.enter args.toList n) { tmps := args' ++ Array.replicate (n - args'.size) undef, defers := [] } := by
  refine ⟨?_, fun t => ?_, rfl, fun i d d' h1 => by simp [Fr.enter] at h1⟩
  · simp only [Fr.enter, Array.size_append, Array.size_replicate]
    rw [← h.size]; omega
  · unfold Fr.tmp Fr.enter
    simp only [fillF_get]
    rw [Array.getD_eq_getD_getElem?, Array.getElem?_append]
    by_cases ht : t < args.size
    · rw [if_pos (by simp only [Array.length_toList]; omega), if_pos (by rw [← h.size]; exact ht)]
      simp only [Nat.sub_zero, Array.getElem?_toList]
      rw [Array.getElem?_eq_getElem ht, Array.getElem?_eq_getElem (show t < args'.size by rw [← h.size]; exact ht)]
      exact h.get t _ _ (Array.getElem?_eq_getElem ht) (Array.getElem?_eq_getElem _)
    · rw [if_neg (by simp only [Array.length_toList]; omega), if_neg (by rw [← h.size]; exact ht)]
      rw [Array.getElem?_replicate]
      have e1 : (T.leaf : T Value).get t = none := rfl
      rw [e1]
      show VR ρ undef _
      by_cases hq : t - args'.size < n - args'.size
      · rw [if_pos hq]; exact undef_VR ρ
      · rw [if_neg hq]; exact undef_VR ρ
end Go.Ev
