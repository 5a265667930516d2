import Derived.IntWalk
import Derived.Laws.MakeOwn
import Derived.Recover
import Derived.RangeFuncLeaves
import Derived.Test.YtcipjifpigpfdaaGreatDoorP02
/- Closed calls by evaluation, part N: what a region that draws its order may hold. -/
namespace Go.Ev
variable {Ψ : SymEnv}
def stillOp : Op → Bool
  | .move _ | .assign _ | .pick .. | .extract .. | .load .. | .makeInterface .. | .makeFunc .. | .field .. | .indexAddr .. | .fieldAddr .. | .nilCheck _ | .binOp .. | .unOp .. | .convert .. | .index .. | .slice .. | .build .. | .lookup .. => true
  | .call c => match c.callee with
    | .builtin .len | .builtin .min | .builtin .max => true
    | _ => false
  | _ => false
def evStill (P : Program) (E : Operand → Value) (σ : St) (o : Oper) : Option Value :=
  match stillOp o.op with
  | true => match evOp P E σ o with
    | some (.ok (.value v) _) => some v
    | _ => none
  | false => none
section
variable {P : Program} {ρ : Ren Ψ}
theorem q_value {s s' : Sem Value} (h : QSim P s s' ρ (VR ρ)) {σ : St} {w : World} (hr : Rel ρ σ w) {v : Value} {σ' : St} (he : runA P (do pure (Next.value (← s))) σ = some (.ok (.value v) σ')) : ∃ v', (do pure (Next.value (← s'))).run P w = .ok (.value v') w ∧ VR ρ v v' := by
  have h2 : QSim P (do pure (Next.value (← s))) (do pure (Next.value (← s'))) ρ fun n n' => ∃ v v', n = .value v ∧ n' = .value v' ∧ VR ρ v v' := q_bind h fun _ _ hv => q_pure ⟨_, _, rfl, rfl, hv⟩
  obtain ⟨-, n', h3, v1, v', e1, rfl, h4⟩ := h2 σ w hr _ _ he
  cases e1
  exact ⟨v', h3, h4⟩
theorem still_sound (hz : ZeroOk Ψ P) {σ : St} {w : World} (hr : Rel ρ σ w) {E : Operand → Value} {a : Act} {o : Oper} (hact : ∀ x ∈ o.op.operands, okOperand σ.glob x = true → VR ρ (E x) (a.eval x)) {v : Value} (h : evStill P E σ o = some v) :
    ∃ v', (execOp a.eval o).run P w = .ok (.value v') w ∧ VR ρ v v' := by
  unfold evStill at h
  cases hst : stillOp o.op with
  | false => rw [hst] at h; cases h
  | true =>
  rw [hst] at h
  simp only at h
  cases hev : evOp P E σ o with
  | none => rw [hev] at h; cases h
  | some r =>
  rw [hev] at h
  cases r with
  | panic u τ => cases h
  | ok n τ =>
  cases n with
  | value v1 =>
    simp only [Option.some.injEq] at h
    subst h
    have fin : ∀ {real : Result Next}, OutV ρ σ w (.ok (.value v1) τ) real → ∃ v', real = .ok (.value v') w ∧ VR ρ v1 v' := by
      rintro real ⟨v2, v', e1, e2, e3⟩
      cases e1
      exact ⟨v', e2, e3⟩
    unfold evOp at hev
    cases hok : okOps σ.glob o with
    | false => rw [hok] at hev; cases hev
    | true =>
    rw [hok] at hev
    simp only [okOps, List.all_eq_true] at hok
    have hE : ∀ x ∈ o.op.operands, VR ρ (E x) (a.eval x) := fun x hx => hact x hx (hok x (Array.mem_toList_iff.2 hx))
    obtain ⟨dst, op, type, pos, after, guard⟩ := o
    simp only at hev hE hst
    have hpl : ∀ (hs : ∀ cs b, op ≠ .select cs b), plainQ P E σ ⟨dst, op, type, pos, after, guard⟩ = some (.ok (.value v1) τ) → ∃ v', (execOp a.eval ⟨dst, op, type, pos, after, guard⟩).run P w = .ok (.value v') w ∧ VR ρ v1 v' := fun hs h => fin (plainQ_sound hz hr hs hE h)
    cases op with
    | move x => cases Option.some.inj hev; exact ⟨_, rfl, hE x (by simp [Op.operands])⟩
    | assign x => cases Option.some.inj hev; exact ⟨_, rfl, hE x (by simp [Op.operands])⟩
    | pick c x y =>
      have hc := hE c (by simp [Op.operands])
      have hx := hE x (by simp [Op.operands])
      have hy := hE y (by simp [Op.operands])
      simp only at hev
      generalize hA : E c = vc at hc hev
      generalize hB : a.eval c = vc' at hc
      cases hc with
      | bool b =>
        cases b with
        | true => cases Option.some.inj hev; exact ⟨_, by simp [execOp, hB, asBool], hx⟩
        | false => cases Option.some.inj hev; exact ⟨_, by simp [execOp, hB, asBool], hy⟩
      | _ => cases hev
    | extract x i =>
      have hx := hE x (by simp [Op.operands])
      simp only at hev
      generalize hA : E x = vc at hx hev
      generalize hB : a.eval x = vc' at hx
      cases hx with
      | @tuple c c' q1 q2 =>
        simp only [nth_eq] at hev
        cases hc : c.toList[i]? with
        | none => rw [hc] at hev; cases hev
        | some v =>
          rw [hc] at hev
          cases Option.some.inj hev
          obtain ⟨v', h1, h2⟩ := (VRs.mk q1 q2).toList i v1 hc
          exact ⟨v', by simp [execOp, hB, Instr.extract, h1], h2⟩
      | _ => cases hev
    | build t ps =>
      refine q_value (q_build hz ?_) hr hev
      simp only [Array.toList_map]
      exact PR_map fun p hp => hE p.2 (by simp only [Op.operands]; simp; exact ⟨p.1, by simpa using hp⟩)
    | load t x => exact q_value (q_loadAt (hE x (by simp [Op.operands]))) hr hev
    | makeInterface t x => exact q_value (q_makeInterface (hE x (by simp [Op.operands]))) hr hev
    | makeFunc fn f c =>
      have h1 : VRs ρ (f.map E) (f.map a.eval) := .map _ _ _ fun x hx => hE x (by simp [Op.operands, hx])
      have h2 : VRs ρ (c.map E) (c.map a.eval) := .map _ _ _ fun x hx => hE x (by simp [Op.operands, hx])
      cases hfn : okFn fn with
      | false => simp only [hfn] at hev; cases hev
      | true =>
        simp only [hfn] at hev
        exact q_value (s := pure _) (s' := pure _) (q_pure (.func (okFn_R hfn) h1.size h1.get h2.size h2.get)) hr hev
    | field t x f => exact q_value (q_field (hE x (by simp [Op.operands]))) hr hev
    | indexAddr t x y => exact q_value (q_indexAt (hE x (by simp [Op.operands])) (hE y (by simp [Op.operands]))) hr hev
    | fieldAddr s x f => exact fin (field_sound (hE x (by simp [Op.operands])) hev)
    | nilCheck x =>
      have hx := hE x (by simp [Op.operands])
      simp only at hev
      generalize hA : E x = vc at hx hev
      generalize hB : a.eval x = vc' at hx
      cases hx with
      | ptr q => cases Option.some.inj hev; exact ⟨_, by simp [execOp, hB], .ptr q⟩
      | iface q => cases Option.some.inj hev; exact ⟨_, by simp [execOp, hB], .iface q⟩
      | @func fn fn' f1 f1' c c' hfn q1 q2 q3 q4 =>
        cases hfn with
        | func fid => cases Option.some.inj hev; exact ⟨_, by simp [execOp, hB], .func (.func fid) q1 q2 q3 q4⟩
        | yield hl => cases Option.some.inj hev; exact ⟨_, by simp [execOp, hB], .func (.yield hl) q1 q2 q3 q4⟩
        | _ => cases hev
      | _ => cases hev
    | binOp op t x y ty =>
      simp only at hev
      cases hp : ((plainV 4 (E x) && plainV 4 (E y)) || (symb (E x) || symb (E y))) with
      | true => rw [hp] at hev; exact hpl (fun _ _ e => by cases e) hev
      | false =>
        rw [hp] at hev
        have hx := hE x (by simp [Op.operands])
        have hy := hE y (by simp [Op.operands])
        cases op with
        | eql => exact fin (eql_sound (neg := false) hx hy hev)
        | neq => exact fin (eql_sound (neg := true) hx hy hev)
        | _ => cases hev
    | unOp _ _ _ => exact hpl (fun _ _ e => by cases e) hev
    | convert s t x =>
      simp only at hev
      have hx := hE x (by simp [Op.operands])
      split at hev
      · rename_i b n c hA
        rw [hA] at hx
        split at hev
        · rename_i hb
          obtain ⟨e, h1, h2, h3⟩ := bytesConv_eq hb
          refine q_value (s := convert s t (E x)) ?_ hr hev
          rw [hA]
          exact q_convert hx h1 h2 h3
        · cases hev
      · exact hpl (fun _ _ e => by cases e) hev
    | index _ _ _ => exact hpl (fun _ _ e => by cases e) hev
    | lookup xt x k ok =>
      simp only at hev
      cases hl : evLookup P σ xt (E x) (E k) ok with
      | none => rw [hl] at hev; cases hev
      | some v =>
        rw [hl] at hev
        cases Option.some.inj hev
        obtain ⟨v', h1, h2⟩ := lookup_sound hz hr (hE x (by simp [Op.operands])) (hE k (by simp [Op.operands])) hl
        exact ⟨v', by show ((do pure (Next.value (← Instr.lookup xt (a.eval x) (a.eval k) ok))).run P w) = _; rw [Sem.run_bind, h1]; rfl, h2⟩
    | slice t x lo hi mx =>
      cases mx with
      | some m => cases hev
      | none =>
      simp only at hev
      have hx := hE x (by simp [Op.operands])
      have hlo : (lo.map E = none ∧ lo.map a.eval = none) ∨ ∃ v v', lo.map E = some v ∧ lo.map a.eval = some v' ∧ VR ρ v v' := by
        cases lo with
        | none => exact .inl ⟨rfl, rfl⟩
        | some l => exact .inr ⟨_, _, rfl, rfl, hE l (by simp [Op.operands])⟩
      have hhi : (hi.map E = none ∧ hi.map a.eval = none) ∨ ∃ v v', hi.map E = some v ∧ hi.map a.eval = some v' ∧ VR ρ v v' := by
        cases hi with
        | none => exact .inl ⟨rfl, rfl⟩
        | some l => exact .inr ⟨_, _, rfl, rfl, hE l (by simp [Op.operands])⟩
      cases hA : E x with
      | slice base n c =>
        rw [hA] at hev hx
        simp only at hev
        cases hs : evSlice P σ t (.slice base n c) (lo.map E) (hi.map E) with
        | none => rw [hs] at hev; cases hev
        | some v =>
          rw [hs] at hev
          cases Option.some.inj hev
          obtain ⟨v', h1, h2⟩ := slice_sound hr hx hlo hhi hs
          exact ⟨v', by show ((do pure (Next.value (← Instr.sliceAt t (a.eval x) (lo.map a.eval) (hi.map a.eval) none))).run P w) = _; rw [Sem.run_bind, h1]; rfl, h2⟩
      | pointer pa =>
        cases pa with
        | none => rw [hA] at hev; exact hpl (fun _ _ e => by cases e) hev
        | some ad =>
          rw [hA] at hev hx
          simp only at hev
          split at hev
          · rename_i v hs
            cases Option.some.inj hev
            obtain ⟨v', h1, h2⟩ := arr_sound hx hs w
            exact ⟨v', by show ((do pure (Next.value (← Instr.sliceAt t (a.eval x) none none none))).run P w) = _; rw [Sem.run_bind, h1]; rfl, h2⟩
          · cases hev
      | _ => rw [hA] at hev; exact hpl (fun _ _ e => by cases e) hev
    | call c =>
      obtain ⟨callee, args, ts⟩ := c
      simp only at hev hst
      cases callee with
      | value f => simp [stillOp] at hst
      | invoke _ _ => simp [stillOp] at hst
      | builtin b =>
        have hq := hpl (fun _ _ e => by cases e)
        have hM : ∀ x ∈ args, VR ρ (E x) (a.eval x) := fun x hx => hE x (by simp [Op.operands, Call.operands, hx])
        simp only at hev
        unfold evBuiltin at hev
        split at hev
        · simp [stillOp] at hst
        · rename_i x t e1 e2
          have : args = #[x] := by rw [← Array.toArray_toList (xs := args), e1]
          subst this
          have : ts = #[t] := by rw [← Array.toArray_toList (xs := ts), e2]
          subst this
          have hx := hM x (by simp)
          split at hev
          · rename_i base n c elem hA ht
            cases Option.some.inj hev
            rw [hA] at hx
            have hv : ∃ b' c', a.eval x = .slice b' n c' := by
              generalize a.eval x = v at hx
              cases hx with
              | nilSlice n c => exact ⟨_, _, rfl⟩
              | empty a c' => exact ⟨_, _, rfl⟩
              | slice h1 h2 => exact ⟨_, _, rfl⟩
            obtain ⟨b', c', hv⟩ := hv
            refine ⟨.int .i64 n, ?_, .int _ _⟩
            simp [execOp, resolve, invoke, builtin, hv, Builtin.len_, run_underlying ht, goInt]
          · exact hq hev
        · simp [stillOp] at hst
        · simp [stillOp] at hst
        · exact hq hev
        · exact hq hev
        · cases hev
    | _ => cases hst
  | _ => cases h
end
end Go.Ev
/- Closed calls by evaluation, part O: operations that make one block. -/
namespace Go.Ev
variable {Ψ : SymEnv}
def newOp : Op → Bool
  | .alloc _ | .box .. | .buildSlice .. | .makeSlice .. | .makeMap _ none => true
  | _ => false
def fillIn (i : TypeInfo) (z : Value) (len : Nat) (parts : List (Nat × Value)) : Option (Array Value) :=
  Instr.fill (fun j => some (j * i.size, i.size)) ((Array.range (len * i.size)).map (fun x => z.cells[x % z.cells.size]!)) parts
/-- the value and the block that an operation makes, at the number id -/
def evNew (P : Program) (E : Operand → Value) (glob id : Nat) (o : Oper) : Option (Value × AObj) :=
  match okOps glob o with
  | false => none
  | true => match o.op with
    | .alloc t => match P.info? t with
      | some i => match i.zero with
        | some z => some (.pointer (some ⟨id, 0, none⟩), .row { cells := z.cells.toList, ty := t, sz := 0, own := true })
        | none => none
      | none => none
    | .box t x => some (.pointer (some ⟨id, 0, none⟩), .row { cells := (E x).cells.toList, ty := t, sz := 0, own := true })
    | .buildSlice t len parts => match P.underlying t with
      | some (.slice elem) => match P.info? elem with
        | some i => match Nat.beq len 0 && parts.toList.isEmpty with
          | true => some (.slice (some ⟨id, 0, none⟩) 0 0, .row { cells := [], ty := elem, sz := 0, own := true })
          | false => match i.zero with
            | some z => match Nat.blt 0 (len * i.size) && (Nat.ble (len * i.size) 16777216 && Nat.blt len big) with
              | true => match fillIn i z len (parts.map fun (i, x) => (i, E x)).toList with
                | some cells => some (.slice (some ⟨id, 0, none⟩) len len, .row { cells := cells.toList, ty := elem, sz := 0, own := true })
                | none => none
              | false => none
            | none => none
        | none => none
      | _ => none
    | .makeSlice t l c => match P.underlying t with
      | some (.slice elem) => match intV (E l), intV (E c) with
        | some n, some m => match P.info? elem with
          | some i => match i.zero with
            | some z => match Nat.ble n m && (Nat.ble (i.bytes * m) lim && Nat.ble m lim) with
              | true => some (.slice (some ⟨id, 0, none⟩) n m, .row { cells := (madeCells z.cells (m * i.size)).toList, ty := elem, sz := 0, own := true })
              | false => none
            | none => none
          | none => none
        | _, _ => none
      | _ => none
    | .makeMap _ none => some (.map (some id), .obj (.map #[] 0))
    | _ => none
section
variable {P : Program} {ρ : Ren Ψ}
theorem addPtr {id k : Nat} {rm : Option (Nat × Nat)} : VR (ρ.add id k rm) (.pointer (some ⟨id, 0, none⟩)) (.pointer (some ⟨k, 0, none⟩)) := .ptr (by simp [Ren.add])
theorem addSlice {id k n c : Nat} {rm : Option (Nat × Nat)} (hc : Nat.blt c big = true) : VR (ρ.add id k rm) (.slice (some ⟨id, 0, none⟩) n c) (.slice (some ⟨k, 0, none⟩) n c) := .slice (by simp [Ren.add]) (capR_of hc)
theorem rowAt {cs cs' : Array Value} {ty : TypeId} (h : VRs ρ cs cs') : ∀ ρ' : Ren Ψ, ρ.le ρ' → ∀ id, AtR ρ' id (.row { cells := cs.toList, ty := ty, sz := 0, own := true }) (.cells cs' ty) := fun _ hle _ => ⟨cs', ty, (0, 0), rfl, .shut (h.mono hle) _ _⟩
theorem new_sound (hz : ZeroOk Ψ P) {E : Operand → Value} {a : Act} {glob id : Nat} {o : Oper} (hact : ∀ x ∈ o.op.operands, okOperand glob x = true → VR ρ (E x) (a.eval x)) {v : Value} {x : AObj} (h : evNew P E glob id o = some (v, x)) (w : World) :
    x.own = true ∧ ∃ v' y, (execOp a.eval o).run P w = .ok (.value v') { w with heap := w.heap.push y } ∧ (∀ rm, VR (ρ.add id w.heap.size rm) v v') ∧ ∀ ρ' : Ren Ψ, ρ.le ρ' → ∀ id, AtR ρ' id x y := by
  unfold evNew at h
  cases hok : okOps glob o with
  | false => rw [hok] at h; cases h
  | true =>
  rw [hok] at h
  simp only [okOps, List.all_eq_true] at hok
  have hE : ∀ x ∈ o.op.operands, VR ρ (E x) (a.eval x) := fun x hx => hact x hx (hok x (Array.mem_toList_iff.2 hx))
  obtain ⟨dst, op, type, pos, after, guard⟩ := o
  simp only at h hE
  cases op with
  | alloc t =>
    simp only at h
    cases hi : P.info? t with
    | none => rw [hi] at h; cases h
    | some i =>
    rw [hi] at h
    simp only at h
    cases hzz : i.zero with
    | none => rw [hzz] at h; cases h
    | some z =>
    rw [hzz] at h
    cases Option.some.inj h
    refine ⟨rfl, .pointer (some ⟨w.heap.size, 0, none⟩), .cells z.cells t, ?_, fun _ => addPtr, rowAt (hz.2 t i z hi hzz ρ).cells⟩
    simp [execOp, Instr.alloc, zeroValue, typeInfo, hi, hzz, newVar, newRow]
  | box t y =>
    cases Option.some.inj h
    refine ⟨rfl, .pointer (some ⟨w.heap.size, 0, none⟩), .cells (a.eval y).cells t, ?_, fun _ => addPtr, rowAt (hE y (by simp [Op.operands])).cells⟩
    simp [execOp, Instr.box, newVar, newRow]
  | makeMap t r =>
    cases r with
    | some r => cases h
    | none =>
    cases Option.some.inj h
    refine ⟨rfl, .map (some w.heap.size), .map #[] 0, ?_, fun _ => .map (by simp [Ren.add]), fun _ _ _ => .map 0 rfl fun i e e' h1 => by simp at h1⟩
    simp [execOp, Instr.makeMap]
  | buildSlice t len ps =>
    simp only at h
    cases ht : P.underlying t with
    | none => rw [ht] at h; cases h
    | some d =>
    rw [ht] at h
    cases d with
    | slice elem =>
      simp only at h
      cases hi : P.info? elem with
      | none => rw [hi] at h; cases h
      | some i =>
      rw [hi] at h
      simp only at h
      cases he : (Nat.beq len 0 && ps.toList.isEmpty) with
      | true =>
        rw [he] at h
        cases Option.some.inj h
        rw [Bool.and_eq_true, Nat.beq_eq, List.isEmpty_iff] at he
        obtain ⟨rfl, hps⟩ := he
        have hps : ps = #[] := by rw [← Array.toArray_toList (xs := ps), hps]
        subst hps
        refine ⟨rfl, .slice (some ⟨w.heap.size, 0, none⟩) 0 0, .cells #[] elem, ?_, fun _ => addSlice (by decide), rowAt (.empty ρ)⟩
        simp [execOp, Instr.buildSlice, Sem.run_bind, run_underlying ht, sizeOf, typeInfo, run_program, hi, Instr.fill, newRow, run_newObj]
        congr 2
        apply Array.ext <;> simp
      | false =>
      rw [he] at h
      simp only at h
      cases hzz : i.zero with
      | none => rw [hzz] at h; cases h
      | some z =>
      rw [hzz] at h
      simp only at h
      cases hc : (Nat.blt 0 (len * i.size) && (Nat.ble (len * i.size) 16777216 && Nat.blt len big)) with
      | false => rw [hc] at h; cases h
      | true =>
      rw [hc] at h
      simp only [Bool.and_eq_true] at hc
      obtain ⟨hc1, hc2, hc3⟩ := hc
      have hc1 : ¬ len * i.size = 0 := by have : 0 < len * i.size := by simpa using hc1
                                          omega
      have hc2 : ¬ 16777216 < len * i.size := by have := Nat.le_of_ble_eq_true hc2; omega
      simp only at h
      have hp : PR ρ (ps.map fun (i, x) => (i, E x)).toList (ps.map fun (i, x) => (i, a.eval x)).toList := by
        simp only [Array.toList_map]
        exact PR_map fun p hp => hE p.2 (by simp only [Op.operands]; simp; exact ⟨p.1, by simpa using hp⟩)
      have hzv := (hz.2 elem i z hi hzz ρ).cells
      rcases fillR (place := fun j => some (j * i.size, i.size)) _ _ _ _ (VRs.zeros hzv (len * i.size)) hp with ⟨h1, -⟩ | ⟨c, c', h1, h2, h3⟩
      · have : fillIn i z len (ps.map fun (i, x) => (i, E x)).toList = none := h1
        rw [this] at h; cases h
      · have : fillIn i z len (ps.map fun (i, x) => (i, E x)).toList = some c := h1
        rw [this] at h
        cases Option.some.inj h
        refine ⟨rfl, .slice (some ⟨w.heap.size, 0, none⟩) len len, .cells c' elem, ?_, fun _ => addSlice hc3, rowAt h3⟩
        simp only [execOp, Instr.buildSlice, Sem.run_bind, run_underlying ht, Result.andThen_ok, sizeOf, typeInfo, run_program, hi, Sem.run_pure, zeroValue]
        rw [if_neg hc2]
        simp only [if_neg hc1, Sem.run_bind, run_program, Result.andThen_ok, hi, hzz, Sem.run_pure, h2, newRow, run_newObj]
    | _ => cases h
  | makeSlice t l c =>
    simp only at h
    cases ht : P.underlying t with
    | none => rw [ht] at h; cases h
    | some d =>
    rw [ht] at h
    have hl := hE l (by simp [Op.operands])
    have hc := hE c (by simp [Op.operands])
    cases d with
    | slice elem =>
      simp only at h
      cases e1 : intV (E l) with
      | none => rw [e1] at h; cases h
      | some n =>
      cases e2 : intV (E c) with
      | none => rw [e1, e2] at h; cases h
      | some m =>
      rw [e1, e2] at h
      simp only at h
      cases hi : P.info? elem with
      | none => rw [hi] at h; cases h
      | some i =>
      rw [hi] at h
      simp only at h
      cases hzz : i.zero with
      | none => rw [hzz] at h; cases h
      | some z =>
      rw [hzz] at h
      simp only at h
      cases hck : (Nat.ble n m && (Nat.ble (i.bytes * m) lim && Nat.ble m lim)) with
      | false => rw [hck] at h; cases h
      | true =>
      rw [hck] at h
      simp only [Bool.and_eq_true] at hck
      obtain ⟨hc1, hc2, hc3⟩ := hck
      have hc1 := Nat.le_of_ble_eq_true hc1
      have hc2 := Nat.le_of_ble_eq_true hc2
      have hc3 := Nat.le_of_ble_eq_true hc3
      simp only [lim] at hc2 hc3
      cases Option.some.inj h
      obtain ⟨k1, n1, q1, q2, q3⟩ := intV_run hl e1
      obtain ⟨k2, n2, q4, q5, q6⟩ := intV_run hc e2
      have hzv := (hz.2 elem i z hi hzz ρ).cells
      have hb : (i.bytes : Int) * n2 ≤ 281474976710656 := by
        have : (i.bytes : Int) * n2 = ((i.bytes * m : Nat) : Int) := by rw [← q6, Int.natCast_mul, Int.toNat_of_nonneg q5]
        rw [this]; omega
      have hrun := run_make (P := P) w t elem i z ht hi hzz k1 k2 n1 n2 q2 (by omega) hb (by omega)
      rw [q3, q6] at hrun
      refine ⟨rfl, .slice (some ⟨w.heap.size, 0, none⟩) n m, .cells (madeCells z.cells (m * i.size)) elem, ?_, fun _ => addSlice (by simp [big]; omega), rowAt (VRs.zeros hzv _)⟩
      show ((do pure (Next.value (← Instr.makeSlice t (a.eval l) (a.eval c)))).run P w) = _
      rw [Sem.run_bind, q1, q4, hrun]
      rfl
    | _ => cases h
  | _ => cases h
end
end Go.Ev
/- Closed calls by evaluation, part P: a region that draws its order, by a certificate. -/
namespace Go.Ev
variable {Ψ : SymEnv}
def evEff (P : Program) (call : Next → St → Option Er) (E : Operand → Value) (σ : St) (o : Oper) : Option (Value × St) :=
  match evOp P E σ o with
  | some (.ok (.value v) σ) => some (v, σ)
  | some (.ok .skip σ) => some (undef, σ)
  | some (.ok (.enter g args) σ) => match call (.enter g args) σ with
    | some (.ret v σ) => some (v, σ)
    | _ => none
  | some (.ok (.round k g t x y) σ) => match call (.round k g t x y) σ with
    | some (.ret v σ) => some (v, σ)
    | _ => none
  | _ => none
/-- the frame behind the operations of S among the first n -/
def fold (ops : Array Oper) (A0 : Fr) (val : Nat → Value) (S : Nat → Bool) : Nat → Fr
  | 0 => A0
  | n + 1 => if S n = true then (fold ops A0 val S n).put ((ops[n]?).bind (·.dst)) (val n) else fold ops A0 val S n
structure Cert (P : Program) (call : Next → St → Option Er) (ops : Array Oper) (A0 : Fr) (σ0 : St) (σ' : St) where
  mask : Nat → Nat → Bool
  val : Nat → Value
  kind : Nat → Nat
  obj : Nat → AObj
  K : Nat
  eff : Nat → Nat
  B : Nat → St
  dep : Nat → Nat → St
  via : ∀ i j o, ops[i]? = some o → mask i j = true → ∃ e ∈ o.after, Region.binds .any e = true ∧ (e.on = j ∨ mask e.on j = true)
  lt : ∀ i j, mask i j = true → j < i
  edge : ∀ i o, ops[i]? = some o → ∀ e ∈ o.after, Region.binds .any e = true → mask i e.on = true
  apart : ∀ i j oi oj, i < j → ops[i]? = some oi → ops[j]? = some oj → mask j i = false → oi.apart ops oj = true
  effk : ∀ m, m < K → eff m < ops.size ∧ kind (eff m) = 2
  effs : ∀ i, i < ops.size → kind i = 2 → ∃ m, m < K ∧ eff m = i
  chain : ∀ m m', m < m' → m' < K → mask (eff m') (eff m) = true
  kinds : ∀ i, kind i = 0 ∨ kind i = 1 ∨ kind i = 2
  still : ∀ i o, ops[i]? = some o → kind i = 0 → (wantedE ops.toList o (fold ops A0 val (fun _ => true) i) = false ∧ val i = undef) ∨
    (wantedE ops.toList o (fold ops A0 val (fun _ => true) i) = true ∧ ∀ m, m ≤ K → (∀ m', m' < K → mask i (eff m') = true → m' < m) → (∀ m', m' < m → mask (eff m') i = false) → evStill P (fold ops A0 val (fun _ => true) i).eval (dep m i) o = some (val i))
  new : ∀ i o, ops[i]? = some o → kind i = 1 → wantedE ops.toList o (fold ops A0 val (fun _ => true) i) = true ∧ evNew P (fold ops A0 val (fun _ => true) i).eval σ0.glob (σ0.next + i) o = some (val i, obj i)
  effect : ∀ m o, m < K → ops[eff m]? = some o → wantedE ops.toList o (fold ops A0 val (fun _ => true) (eff m)) = true ∧ evEff P call (fold ops A0 val (fun _ => true) (eff m)).eval (dep m (eff m)) o = some (val (eff m), B (m + 1))
  depN : ∀ m i, (dep m i).next = (B m).next ∧ (dep m i).glob = (B m).glob
  depH : ∀ m i id o, (dep m i).heap.get id = some o → (B m).heap.get id = some o ∨ ∃ j, j < ops.size ∧ kind j = 1 ∧ mask i j = true ∧ (¬ ∃ m', m' < m ∧ mask (eff m') j = true) ∧ id = σ0.next + j ∧ o = obj j
  depO : ∀ m i, (dep m i).orc = (B m).orc
  B0o : (B 0).orc = σ0.orc
  finO : σ'.orc = (B K).orc
  B0 : (B 0).next = σ0.next + ops.size ∧ (B 0).glob = σ0.glob ∧ ∀ id o, (B 0).heap.get id = some o → σ0.heap.get id = some o
  fin : σ'.next = (B K).next ∧ σ'.glob = (B K).glob ∧ ∀ id o, σ'.heap.get id = some o → (B K).heap.get id = some o ∨ ∃ j, j < ops.size ∧ kind j = 1 ∧ (¬ ∃ m', m' < K ∧ mask (eff m') j = true) ∧ id = σ0.next + j ∧ o = obj j
section
variable {P : Program} {ρ : Ren Ψ}
theorem Rel.sub {σ τ : St} {w : World} (h : Rel ρ τ w) (hn : τ.next ≤ σ.next) (hg : σ.glob = τ.glob) (ho : σ.orc = τ.orc) (hs : ∀ id o, σ.heap.get id = some o → τ.heap.get id = some o) : Rel ρ σ w :=
  ⟨fun id o ho => h.live id o (hs id o ho), fun i j oi oj hi hj => h.inj i j oi oj (hs _ _ hi) (hs _ _ hj), fun id hid => h.fresh id (Nat.le_trans hn hid), fun g hg2 => h.glob g (by rw [← hg]; exact hg2), by rw [hg]; exact Nat.le_trans h.gn hn, by rw [ho]; exact h.orc⟩
theorem Keep.sub {σ τ : St} (w : World) (hn : τ.next ≤ σ.next) (hg : σ.glob = τ.glob) (hs : ∀ id o, σ.heap.get id = some o → τ.heap.get id = some o) : Keep ρ τ ρ σ w w :=
  ⟨Nat.le_refl _, rfl, rfl, rfl, hg, hn, fun _ _ => ⟨rfl, rfl⟩, fun _ _ _ => rfl, fun _ o _ h1 h3 => .inl ⟨o, hs _ _ h1, rfl, h3⟩⟩
def St.setAt (σ : St) (id : Nat) (x : AObj) : St := { σ with heap := σ.heap.set id (some x) }
theorem Rel.newAt {σ : St} {w : World} (h : Rel ρ σ w) {id : Nat} (h1 : ρ.φ id = none) (h2 : ρ.room id = none) (hlt : id < σ.next) (hge : σ.glob ≤ id) (x : AObj) (o : Obj) (hx : AtR (ρ.add id w.heap.size none) id x o) :
    Rel (ρ.add id w.heap.size none) (σ.setAt id x) { w with heap := w.heap.push o } := by
  have hle : ρ.le (ρ.add id w.heap.size none) := Ren.le_add h1 h2
  have hlt2 : ∀ i ob k, σ.heap.get i = some ob → ρ.φ i = some k → k < w.heap.size := by
    intro i ob k q1 q2
    obtain ⟨j, y, q3, q4, -⟩ := h.live i ob q1
    rw [q3] at q2
    rw [← Option.some.inj q2]
    exact (Array.getElem?_eq_some_iff.1 q4).1
  refine ⟨?_, ?_, ?_, ?_, h.gn, h.orc⟩
  · intro i ob hi
    simp only [St.setAt] at hi
    rw [T.get_set] at hi
    by_cases e : i = id
    · rw [if_pos e] at hi
      rw [← Option.some.inj hi, e]
      exact ⟨w.heap.size, o, by simp [Ren.add], by simp, hx⟩
    · rw [if_neg e] at hi
      obtain ⟨j, y, q1, q2, q3⟩ := h.live i ob hi
      refine ⟨j, y, hle.φ _ _ q1, ?_, q3.mono hle⟩
      have := hlt2 i ob j hi q1
      simp only [Array.getElem?_push]
      rw [if_neg (by omega)]; exact q2
  · intro i j oi oj hi hj ho hφ
    simp only [St.setAt] at hi hj
    rw [T.get_set] at hi hj
    by_cases ei : i = id
    · by_cases ej : j = id
      · rw [ei, ej]
      · rw [if_neg ej] at hj
        obtain ⟨k, y, q1, -, -⟩ := h.live j oj hj
        have h4 : (ρ.add id w.heap.size none).φ i = some w.heap.size := by simp [Ren.add, ei]
        rw [hle.φ _ _ q1, h4] at hφ
        have := hlt2 j oj k hj q1
        have := Option.some.inj hφ
        omega
    · rw [if_neg ei] at hi
      obtain ⟨k, y, q1, -, -⟩ := h.live i oi hi
      by_cases ej : j = id
      · have h4 : (ρ.add id w.heap.size none).φ j = some w.heap.size := by simp [Ren.add, ej]
        rw [hle.φ _ _ q1, h4] at hφ
        have := hlt2 i oi k hi q1
        have := Option.some.inj hφ
        omega
      · rw [if_neg ej] at hj
        obtain ⟨k2, y2, q5, -, -⟩ := h.live j oj hj
        refine h.inj i j oi oj hi hj ho ?_
        rw [hle.φ _ _ q1, hle.φ _ _ q5] at hφ
        rw [q1, q5]; exact hφ
  · intro i hi
    have hi : σ.next ≤ i := hi
    have q := h.fresh i hi
    have : i ≠ id := by omega
    simp [Ren.add, this, q]
  · intro g hg
    have hg : g < σ.glob := hg
    have : g ≠ id := by omega
    simp only [Ren.add, if_neg this]
    exact h.glob g hg
theorem Keep.newAt {ρ0 : Ren Ψ} {σ0 σ : St} {w0 w : World} (h : Keep ρ0 σ0 ρ σ w0 w) {id : Nat} (hid : σ0.next ≤ id) (x : AObj) (hx : x.own = true) (o : Obj) :
    Keep ρ0 σ0 (ρ.add id w.heap.size none) (σ.setAt id x) w0 { w with heap := w.heap.push o } := by
  refine ⟨by simp; have := h.size; omega, h.os, h.tape, h.output, h.glob, h.next, fun i hi => ?_, fun k hk hn => ?_, fun i ob k hi hk => ?_⟩
  · have : i ≠ id := by omega
    simp only [Ren.add, if_neg this]
    exact h.dom i hi
  · have := h.size
    simp only [Array.getElem?_push]
    rw [if_neg (by omega)]
    exact h.old k hk hn
  · simp only [St.setAt] at hi
    rw [T.get_set] at hi
    by_cases e : i = id
    · simp only [Ren.add, if_pos e] at hk
      rw [if_pos e] at hi
      rw [← Option.some.inj hi]
      exact .inr ⟨hx, .inl (by rw [← Option.some.inj hk]; exact h.size)⟩
    · rw [if_neg e] at hi
      simp only [Ren.add, if_neg e] at hk
      exact h.new i ob k hi hk
theorem FrR.congr {A A' : Fr} {a : Act} (h : FrR ρ A a) (hn : A'.n = A.n) (hd : A'.defers = A.defers) (ht : ∀ t, A'.tmp t = A.tmp t) : FrR ρ A' a :=
  ⟨hn.trans h.n, fun t => by rw [ht]; exact h.tmp t, by rw [hd]; exact h.dl, by rw [hd]; exact h.defers⟩
/-- the slots of a fold -/
def tmpS (ops : Array Oper) (A0 : Fr) (val : Nat → Value) (S : Nat → Bool) : Nat → Nat → Value
  | 0, t => A0.tmp t
  | n + 1, t => if S n = true ∧ (ops[n]?).bind (·.dst) = some t ∧ t < A0.n then val n else tmpS ops A0 val S n t
theorem fold_parts (ops : Array Oper) (A0 : Fr) (val : Nat → Value) (S : Nat → Bool) : ∀ n, (fold ops A0 val S n).n = A0.n ∧ (fold ops A0 val S n).defers = A0.defers ∧ ∀ t, (fold ops A0 val S n).tmp t = tmpS ops A0 val S n t := by
  intro n
  induction n with
  | zero => exact ⟨rfl, rfl, fun _ => rfl⟩
  | succ n ih =>
    obtain ⟨h1, h2, h3⟩ := ih
    unfold fold tmpS
    by_cases hS : S n = true
    · rw [if_pos hS]
      cases hd : (ops[n]?).bind (·.dst) with
      | none =>
        refine ⟨h1, h2, fun t => ?_⟩
        rw [if_neg (by simp)]
        exact h3 t
      | some d =>
        by_cases hlt : d < A0.n
        · have hb : Nat.blt d (fold ops A0 val S n).n = true := by rw [h1]; simpa using hlt
          refine ⟨by simp only [Fr.put, hb]; exact h1, by simp only [Fr.put, hb]; exact h2, fun t => ?_⟩
          rw [Fr.put_tmp (by rw [h1]; exact hlt)]
          by_cases e : t = d
          · subst e; rw [if_pos rfl, if_pos ⟨hS, rfl, hlt⟩]
          · rw [if_neg e, if_neg (by rintro ⟨-, q, -⟩; exact e (Option.some.inj q).symm)]; exact h3 t
        · have hb : Nat.blt d (fold ops A0 val S n).n = false := by rw [h1, ← Bool.not_eq_true]; simpa using hlt
          refine ⟨by simp only [Fr.put, hb]; exact h1, by simp only [Fr.put, hb]; exact h2, fun t => ?_⟩
          simp only [Fr.put, hb]
          rw [if_neg (by rintro ⟨-, q, q2⟩; rw [← Option.some.inj q] at q2; exact hlt q2)]
          exact h3 t
    · rw [if_neg hS]
      refine ⟨h1, h2, fun t => ?_⟩
      rw [if_neg (fun q => hS q.1)]; exact h3 t
theorem tmpS_skip {ops : Array Oper} {A0 : Fr} {val : Nat → Value} {S : Nat → Bool} {t : Nat} : ∀ (d n : Nat), (∀ k, n ≤ k → k < n + d → S k = true → (ops[k]?).bind (·.dst) ≠ some t) → tmpS ops A0 val S (n + d) t = tmpS ops A0 val S n t := by
  intro d
  induction d with
  | zero => intro n _; rfl
  | succ d ih =>
    intro n h
    have e : tmpS ops A0 val S (n + d + 1) t = if S (n + d) = true ∧ (ops[n + d]?).bind (·.dst) = some t ∧ t < A0.n then val (n + d) else tmpS ops A0 val S (n + d) t := rfl
    show tmpS ops A0 val S (n + d + 1) t = _
    rw [e, if_neg (fun q => h (n + d) (by omega) (by omega) q.1 q.2.1)]
    exact ih n fun k h1 h2 => h k h1 (by omega)
theorem tmpS_same {ops : Array Oper} {A0 : Fr} {val : Nat → Value} {S S' : Nat → Bool} {t : Nat} : ∀ n, (∀ k, k < n → (ops[k]?).bind (·.dst) = some t → S k = S' k) → tmpS ops A0 val S n t = tmpS ops A0 val S' n t := by
  intro n
  induction n with
  | zero => intro _; rfl
  | succ n ih =>
    intro h
    unfold tmpS
    rw [ih fun k hk => h k (by omega)]
    by_cases hd : (ops[n]?).bind (·.dst) = some t
    · rw [h n (by omega) hd]
    · rw [if_neg (fun q => hd q.2.1), if_neg (fun q => hd q.2.1)]
theorem tmpS_off {ops : Array Oper} {A0 : Fr} {val : Nat → Value} {S : Nat → Bool} {t : Nat} (ht : ¬ t < A0.n) : ∀ n, tmpS ops A0 val S n t = A0.tmp t := by
  intro n
  induction n with
  | zero => rfl
  | succ n ih => unfold tmpS; rw [if_neg (fun q => ht q.2.2)]; exact ih
end
end Go.Ev
/- Closed calls by evaluation, part Q: the certificate's word. -/
namespace Go.Ev
variable {Ψ : SymEnv}
section
variable {P : Program} {call : Next → St → Option Er} {ops : Array Oper} {A0 : Fr} {σ0 σ' : St}
structure Inv (C : Cert P call ops A0 σ0 σ') (ρ0 : Ren Ψ) (σ00 : St) (w0 : World) (S : Nat → Bool) (a : Act) (w : World) (ρ : Ren Ψ) (m : Nat) (τ : St) : Prop where
  mle : m ≤ C.K
  effs : ∀ m', m' < C.K → (S (C.eff m') = true ↔ m' < m)
  down : ∀ i j, i < ops.size → S i = true → C.mask i j = true → S j = true
  fr : FrR ρ (fold ops A0 C.val S ops.size) a
  rel : Rel ρ τ w
  next : τ.next = (C.B m).next
  room : σ0.next + ops.size ≤ τ.next
  glob : τ.glob = σ0.glob
  bglob : (C.B m).glob = σ0.glob
  base : ∀ id o, (C.B m).heap.get id = some o → τ.heap.get id = some o
  pend : ∀ j, j < ops.size → S j = true → C.kind j = 1 → (¬ ∃ m', m' < m ∧ C.mask (C.eff m') j = true) → τ.heap.get (σ0.next + j) = some (C.obj j)
  free : ∀ j, j < ops.size → S j = false → ρ.φ (σ0.next + j) = none ∧ ρ.room (σ0.next + j) = none
  pown : ∀ j, j < ops.size → S j = true → C.kind j = 1 → (C.obj j).own = true
  bare : ∀ j, j < ops.size → C.kind j = 1 → (¬ ∃ m', m' < m ∧ C.mask (C.eff m') j = true) → (C.B m).heap.get (σ0.next + j) = none
  since : Since ρ0 σ00 w0 ρ τ w
  start : σ00.next ≤ σ0.next
  gn : σ0.glob ≤ σ0.next
  orc : τ.orc = (C.B m).orc
theorem dst_of {i : Nat} {o : Oper} (h : ops[i]? = some o) {t : Nat} : (ops[i]?).bind (·.dst) = some t ↔ o.dst = some t := by rw [h]; rfl
/-- the slots that an operation looks at stand as in the text's order -/
theorem Cert.looks (C : Cert P call ops A0 σ0 σ') {S : Nat → Bool} (hdown : ∀ i j, i < ops.size → S i = true → C.mask i j = true → S j = true) {i : Nat} {o : Oper} (hi : ops[i]? = some o) (hS : S i = false) (hm : ∀ j, C.mask i j = true → S j = true) {t : Nat} (ht : t ∈ o.looksAt ops) :
    (fold ops A0 C.val S ops.size).tmp t = (fold ops A0 C.val (fun _ => true) i).tmp t := by
  have hlt : i < ops.size := (Array.getElem?_eq_some_iff.1 hi).1
  rw [(fold_parts ops A0 C.val S ops.size).2.2, (fold_parts ops A0 C.val (fun _ => true) i).2.2]
  obtain ⟨d, hd⟩ : ∃ d, ops.size = i + d := ⟨ops.size - i, by omega⟩
  rw [hd, tmpS_skip d i, tmpS_same i]
  · intro k hk hdst
    obtain ⟨ok, hok⟩ : ∃ ok, ops[k]? = some ok := ⟨ops[k]'(by omega), Array.getElem?_eq_getElem (by omega)⟩
    have hdk := (dst_of hok).1 hdst
    cases hmk : C.mask i k with
    | true => exact hm k hmk
    | false => exact absurd ht ((Oper.apart_spec (C.apart k i ok o hk hok hi hmk)).1 t hdk)
  · intro k h1 h2 hSk hdst
    obtain ⟨ok, hok⟩ : ∃ ok, ops[k]? = some ok := ⟨ops[k]'(by omega), Array.getElem?_eq_getElem (by omega)⟩
    have hdk := (dst_of hok).1 hdst
    have hne : i ≠ k := fun e => by rw [← e, hS] at hSk; cases hSk
    cases hmk : C.mask k i with
    | true => have := hdown k i (by omega) hSk hmk; rw [hS] at this; cases this
    | false => exact absurd ht ((Oper.apart_spec (C.apart i k o ok (by omega) hi hok hmk)).2.2 t hdk)
/-- .. and behind it the frame is the text's -/
theorem Cert.put (C : Cert P call ops A0 σ0 σ') {S S' : Nat → Bool} (hdown : ∀ i j, i < ops.size → S i = true → C.mask i j = true → S j = true) {i : Nat} {o : Oper} (hi : ops[i]? = some o) (hS : S i = false) (hS' : ∀ k, k < ops.size → S' k = (S k || k == i)) {ρ : Ren Ψ} {a : Act} (hf : FrR ρ (fold ops A0 C.val S ops.size) a) {v' : Value} (hv : VR ρ (C.val i) v') :
    FrR ρ (fold ops A0 C.val S' ops.size) (a.put o.dst v') := by
  have hlt : i < ops.size := (Array.getElem?_eq_some_iff.1 hi).1
  obtain ⟨n1, d1, t1⟩ := fold_parts ops A0 C.val S ops.size
  obtain ⟨n2, d2, t2⟩ := fold_parts ops A0 C.val S' ops.size
  have hput := hf.put o.dst hv
  have hpn : ((fold ops A0 C.val S ops.size).put o.dst (C.val i)).n = A0.n ∧ ((fold ops A0 C.val S ops.size).put o.dst (C.val i)).defers = A0.defers := by
    unfold Fr.put
    split
    · exact ⟨n1, d1⟩
    · split
      · exact ⟨n1, d1⟩
      · exact ⟨n1, d1⟩
  refine hput.congr (n2.trans hpn.1.symm) (d2.trans hpn.2.symm) fun t => ?_
  rw [t2]
  obtain ⟨d, hd⟩ : ∃ d, ops.size = (i + 1) + d := ⟨ops.size - (i + 1), by omega⟩
  have hSi : S' i = true := by rw [hS' i hlt]; simp
  by_cases hdst : o.dst = some t
  · by_cases htn : t < A0.n
    · rw [hd, tmpS_skip d (i + 1)]
      · have e : tmpS ops A0 C.val S' (i + 1) t = if S' i = true ∧ (ops[i]?).bind (·.dst) = some t ∧ t < A0.n then C.val i else tmpS ops A0 C.val S' i t := rfl
        rw [e, if_pos ⟨hSi, (dst_of hi).2 hdst, htn⟩, hdst, ← hd, Fr.put_tmp (by rw [n1]; exact htn), if_pos rfl]
      · intro k h1 h2 hSk hdk
        obtain ⟨ok, hok⟩ : ∃ ok, ops[k]? = some ok := ⟨ops[k]'(by omega), Array.getElem?_eq_getElem (by omega)⟩
        have hdk := (dst_of hok).1 hdk
        have hSk2 : S k = true := by rw [hS' k (by omega)] at hSk; have : (k == i) = false := by simp; omega
                                     rw [this] at hSk; simpa using hSk
        cases hmk : C.mask k i with
        | true => have := hdown k i (by omega) hSk2 hmk; rw [hS] at this; cases this
        | false => exact (Oper.apart_spec (C.apart i k o ok (by omega) hi hok hmk)).2.1 t hdst hdk
    · rw [tmpS_off htn]
      have : (fold ops A0 C.val S ops.size).put o.dst (C.val i) = fold ops A0 C.val S ops.size := by
        rw [hdst]
        have hb : Nat.blt t (fold ops A0 C.val S ops.size).n = false := by rw [n1, ← Bool.not_eq_true]; simpa using htn
        simp only [Fr.put, hb]
      rw [this, t1, tmpS_off htn]
  · have e1 : ((fold ops A0 C.val S ops.size).put o.dst (C.val i)).tmp t = (fold ops A0 C.val S ops.size).tmp t := by
      cases hdd : o.dst with
      | none => rfl
      | some d =>
        by_cases hdn : d < A0.n
        · rw [Fr.put_tmp (by rw [n1]; exact hdn), if_neg (fun e => hdst (by rw [hdd, e]))]
        · have hb : Nat.blt d (fold ops A0 C.val S ops.size).n = false := by rw [n1, ← Bool.not_eq_true]; simpa using hdn
          simp only [Fr.put, hb]
    rw [e1, t1]
    refine tmpS_same ops.size fun k hk hdk => ?_
    rw [hS' k hk]
    by_cases e : k = i
    · subst e; exact absurd ((dst_of hi).1 hdk) hdst
    · have : (k == i) = false := by simpa using e
      rw [this]; simp
theorem eval_same {A B : Fr} {o : Oper} (h : ∀ t ∈ o.looksAt ops, A.tmp t = B.tmp t) {x : Operand} (hx : x ∈ o.op.operands) : A.eval x = B.eval x := by
  cases x with
  | tmp t => exact h t (by unfold Oper.looksAt; refine List.mem_append.2 (.inl ?_); exact List.mem_filterMap.2 ⟨.tmp t, Array.mem_toList_iff.2 hx, rfl⟩)
  | _ => rfl
theorem wanted_same {A B : Fr} {o : Oper} (h : ∀ t ∈ o.looksAt ops, A.tmp t = B.tmp t) : wantedE ops.toList o A = wantedE ops.toList o B := by
  unfold wantedE
  cases hg : o.guard with
  | none => rfl
  | some g =>
    obtain ⟨g, b⟩ := g
    simp only [nth_eq, Array.getElem?_toList]
    cases hog : ops[g]? with
    | none => rfl
    | some o' =>
      simp only
      cases hd : o'.dst with
      | none => rfl
      | some d =>
        have : d ∈ o.looksAt ops := by
          unfold Oper.looksAt
          refine List.mem_append.2 (.inr ?_)
          rw [hg]
          simp [hog, hd]
        simp only [h d this]
end
end Go.Ev
/- Closed calls by evaluation, part R: every order of a certified region. -/
namespace Go.Ev
variable {Ψ : SymEnv}
section
variable {P : Program} {call : Next → St → Option Er} {ops : Array Oper} {A0 : Fr} {σ0 σ' : St}
theorem Inv.depRel {C : Cert P call ops A0 σ0 σ'} {ρ0 : Ren Ψ} {σ00 : St} {w0 : World} {S : Nat → Bool} {a : Act} {w : World} {ρ : Ren Ψ} {m : Nat} {τ : St} (h : Inv C ρ0 σ00 w0 S a w ρ m τ) {i : Nat} (hm : ∀ j, C.mask i j = true → S j = true) :
    (∀ id o, (C.dep m i).heap.get id = some o → τ.heap.get id = some o) ∧ Rel ρ (C.dep m i) w := by
  have hs : ∀ id o, (C.dep m i).heap.get id = some o → τ.heap.get id = some o := by
    intro id o ho
    rcases C.depH m i id o ho with h1 | ⟨j, h1, h2, h3, h4, rfl, rfl⟩
    · exact h.base id o h1
    · exact h.pend j h1 (hm j h3) h2 h4
  refine ⟨hs, h.rel.sub ?_ ?_ ((C.depO m i).trans h.orc.symm) hs⟩
  · rw [(C.depN m i).1, h.next]; exact Nat.le_refl _
  · rw [(C.depN m i).2, h.bglob, h.glob]
/-- blocks that an effect has left aside come back -/
structure Back (B : St) (n0 : Nat) (obj : Nat → AObj) (p : Nat → Prop) (n : Nat) (τ : St) : Prop where
  next : τ.next = B.next
  glob : τ.glob = B.glob
  orc : τ.orc = B.orc
  put : ∀ j, j < n → p j → τ.heap.get (n0 + j) = some (obj j)
  old : ∀ id, (∀ j, j < n → p j → id ≠ n0 + j) → τ.heap.get id = B.heap.get id
theorem back_ex (B : St) (n0 : Nat) (obj : Nat → AObj) (p : Nat → Prop) : ∀ n, ∃ τ, Back B n0 obj p n τ := by
  intro n
  induction n with
  | zero => exact ⟨B, rfl, rfl, rfl, fun j hj => by omega, fun _ _ => rfl⟩
  | succ n ih =>
    obtain ⟨τ, h1, h2, h5, h3, h4⟩ := ih
    by_cases hp : p n
    · refine ⟨τ.setAt (n0 + n) (obj n), h1, h2, h5, fun j hj hpj => ?_, fun id hid => ?_⟩
      · simp only [St.setAt]
        rw [T.get_set]
        by_cases e : n0 + j = n0 + n
        · rw [if_pos e]; have : j = n := by omega
          rw [this]
        · rw [if_neg e]; exact h3 j (by omega) hpj
      · simp only [St.setAt]
        rw [T.get_set, if_neg (hid n (by omega) hp)]
        exact h4 id fun j hj => hid j (by omega)
    · refine ⟨τ, h1, h2, h5, fun j hj hpj => ?_, fun id hid => h4 id fun j hj => hid j (by omega)⟩
      by_cases e : j = n
      · rw [e] at hpj; exact absurd hpj hp
      · exact h3 j (by omega) hpj
theorem Rel.addP {ρ ρ2 : Ren Ψ} {τ dp B : St} {w w2 : World} {n0 N : Nat} {obj : Nat → AObj} {p : Nat → Prop} (hτ : Rel ρ τ w) (hsub : ∀ id o, dp.heap.get id = some o → τ.heap.get id = some o) (hnx : τ.next = dp.next) (hgl : dp.glob = τ.glob) (hr2 : Rel ρ2 B w2) (hle : ρ.le ρ2) (hk : Keep ρ dp ρ2 B w w2)
    (hp : ∀ j, j < N → p j → τ.heap.get (n0 + j) = some (obj j) ∧ (obj j).own = true ∧ dp.heap.get (n0 + j) = none) {τ2 : St} (hb : Back B n0 obj p N τ2) : Rel ρ2 τ2 w2 ∧ Keep ρ τ ρ2 τ2 w w2 := by
  obtain ⟨a1, a2, a5, a3, a4⟩ := hb
  -- a pending block
  have pend : ∀ j, j < N → p j → ∃ k x, ρ.φ (n0 + j) = some k ∧ w2.heap[k]? = some x ∧ AtR ρ2 (n0 + j) (obj j) x ∧ k < w.heap.size ∧ ∀ id o, B.heap.get id = some o → ρ2.φ id ≠ some k := by
    intro j hj hpj
    obtain ⟨q1, q2, q3⟩ := hp j hj hpj
    obtain ⟨k, x, r1, r2, r3⟩ := hτ.live _ _ q1
    have hlt : k < w.heap.size := (Array.getElem?_eq_some_iff.1 r2).1
    have hno : ∀ id o, dp.heap.get id = some o → ρ.φ id ≠ some k := by
      intro id o h1 h2
      have := hτ.inj (n0 + j) id _ _ q1 (hsub id o h1) q2 (by rw [r1, h2])
      rw [this] at q3
      rw [q3] at h1; cases h1
    refine ⟨k, x, r1, ?_, r3.mono hle, hlt, ?_⟩
    · rw [hk.old k hlt fun id o h1 _ => hno id o h1]; exact r2
    · intro id o h1 h2
      rcases hk.new id o k h1 h2 with ⟨o0, h3, -, h5⟩ | ⟨-, h3 | ⟨id0, o0, h4, -, h6⟩⟩
      · exact hno id o0 h3 h5
      · omega
      · exact hno id0 o0 h4 h6
  have split : ∀ id o, τ2.heap.get id = some o → (∃ j, j < N ∧ p j ∧ id = n0 + j ∧ o = obj j) ∨ B.heap.get id = some o := by
    intro id o h
    by_cases e : ∃ j, j < N ∧ p j ∧ id = n0 + j
    · obtain ⟨j, h1, h2, rfl⟩ := e
      rw [a3 j h1 h2] at h
      exact .inl ⟨j, h1, h2, rfl, (Option.some.inj h).symm⟩
    · rw [a4 id fun j h1 h2 h3 => e ⟨j, h1, h2, h3⟩] at h
      exact .inr h
  constructor
  · refine ⟨?_, ?_, ?_, ?_, ?_, ?_⟩
    · intro id o h
      rcases split id o h with ⟨j, h1, h2, rfl, rfl⟩ | h
      · obtain ⟨k, x, r1, r2, r3, -, -⟩ := pend j h1 h2
        exact ⟨k, x, hle.φ _ _ r1, r2, r3⟩
      · exact hr2.live id o h
    · intro i j oi oj hi hj ho hφ
      rcases split i oi hi with ⟨ji, h1, h2, rfl, rfl⟩ | hi
      · obtain ⟨k, x, r1, r2, r3, r4, r5⟩ := pend ji h1 h2
        rcases split j oj hj with ⟨jj, h3, h4, rfl, rfl⟩ | hj
        · obtain ⟨k2, x2, s1, -⟩ := pend jj h3 h4
          refine hτ.inj _ _ _ _ (hp ji h1 h2).1 (hp jj h3 h4).1 ho ?_
          rw [hle.φ _ _ r1, hle.φ _ _ s1] at hφ
          rw [r1, s1]; exact hφ
        · rw [hle.φ _ _ r1] at hφ
          exact absurd hφ.symm (r5 j oj hj)
      · rcases split j oj hj with ⟨jj, h3, h4, rfl, rfl⟩ | hj
        · obtain ⟨k2, x2, s1, s2, s3, s4, s5⟩ := pend jj h3 h4
          rw [hle.φ _ _ s1] at hφ
          exact absurd hφ (s5 i oi hi)
        · exact hr2.inj i j oi oj hi hj ho hφ
    · intro id hid; exact hr2.fresh id (by rw [← a1]; exact hid)
    · intro g hg; exact hr2.glob g (by rw [← a2]; exact hg)
    · rw [a1, a2]; exact hr2.gn
    · rw [a5]; exact hr2.orc
  · refine ⟨hk.size, hk.os, hk.tape, hk.output, by rw [a2, hk.glob, hgl], by rw [a1, hnx]; exact hk.next, fun id hid => hk.dom id (by rw [← hnx]; exact hid), fun k h1 h2 => hk.old k h1 fun id o h3 h4 => h2 id o (hsub id o h3) h4, fun id o k h1 h3 => ?_⟩
    rcases split id o h1 with ⟨j, h4, h5, rfl, rfl⟩ | h1
    · obtain ⟨k2, x2, s1, -⟩ := pend j h4 h5
      rw [hle.φ _ _ s1] at h3
      exact .inl ⟨obj j, (hp j h4 h5).1, rfl, by rw [s1]; exact h3⟩
    · rcases hk.new id o k h1 h3 with ⟨o0, q1, q2, q3⟩ | ⟨q1, q2 | ⟨id0, o0, q3, q4, q5⟩⟩
      · exact .inl ⟨o0, hsub _ _ q1, q2, q3⟩
      · exact .inr ⟨q1, .inl q2⟩
      · exact .inr ⟨q1, .inr ⟨id0, o0, hsub _ _ q3, q4, q5⟩⟩
theorem not_defer_still {o : Oper} {E : Operand → Value} {σ : St} {v : Value} (h : evStill P E σ o = some v) (c : Call) : o.op ≠ .defer c := by
  intro e
  unfold evStill at h
  rw [e] at h
  cases h
theorem not_defer_new {o : Oper} {E : Operand → Value} {g id : Nat} {v : Value × AObj} (h : evNew P E g id o = some v) (c : Call) : o.op ≠ .defer c := by
  intro e
  unfold evNew at h
  rw [e] at h
  split at h <;> cases h
/-- one operation, out of turn or in it -/
theorem Inv.step (hz : ZeroOk Ψ P) (hn : ∀ (f : Nat) (fn : Func), P.funcs[f]? = some fn → (fn.name == "runtime.NumGoroutine") = false) (hc : ∀ n σ r, call n σ = some r → NextSound Ψ P n σ r)
    {C : Cert P call ops A0 σ0 σ'} {ρ0 : Ren Ψ} {σ00 : St} {w0 : World} {S S' : Nat → Bool} {a : Act} {w : World} {ρ : Ren Ψ} {m : Nat} {τ : St} (h : Inv C ρ0 σ00 w0 S a w ρ m τ) {i : Nat} {o : Oper} (hi : ops[i]? = some o) (hS : S i = false) (hm : ∀ j, C.mask i j = true → S j = true)
    (hS' : ∀ k, k < ops.size → S' k = (S k || k == i)) {K : Act → World → Prop} {Q : Exit → Act → World → Prop} (hK : ∀ a' w' ρ' m' τ', Inv C ρ0 σ00 w0 S' a' w' ρ' m' τ' → K a' w') : ∀ ro : Option Nat, wpOpIn (wideR ro) 0 P ops Q i K a w := by
  intro ro
  have hlt : i < ops.size := (Array.getElem?_eq_some_iff.1 hi).1
  have hlooks : ∀ t ∈ o.looksAt ops, (fold ops A0 C.val S ops.size).tmp t = (fold ops A0 C.val (fun _ => true) i).tmp t := fun t ht => C.looks h.down hi hS hm ht
  have hwant : Region.wanted o (yielded ops a.tmps) = wantedE ops.toList o (fold ops A0 C.val (fun _ => true) i) := by rw [h.fr.wanted ops o]; exact wanted_same hlooks
  have hSi : ∀ k, k < ops.size → S' k = true → S k = true ∨ k = i := fun k hk hk2 => by
    rw [hS' k hk] at hk2
    simpa using hk2
  have hmono : ∀ k, k < ops.size → S k = true → S' k = true := fun k hk hk2 => by rw [hS' k hk, hk2]; rfl
  have hS'i : S' i = true := by rw [hS' i hlt]; simp
  have hdown' : ∀ k j, k < ops.size → S' k = true → C.mask k j = true → S' j = true := by
    intro k j hk hk2 hkj
    have hj : j < ops.size := by have := C.lt k j hkj; omega
    rcases hSi k hk hk2 with h1 | rfl
    · exact hmono j hj (h.down k j hk h1 hkj)
    · exact hmono j hj (hm j hkj)
  have hev : ∀ (ρ1 : Ren Ψ) (σ1 : St) (w1 : World), Rel ρ1 σ1 w1 → ρ1 = ρ → ∀ x ∈ o.op.operands, okOperand σ1.glob x = true → VR ρ1 ((fold ops A0 C.val (fun _ => true) i).eval x) (a.eval x) := by
    rintro ρ1 σ1 w1 hr rfl x hx hok
    rw [← eval_same hlooks hx]
    exact h.fr.eval hr hok
  obtain ⟨hsub, hdr⟩ := h.depRel hm
  unfold wpOpIn
  simp only [hi]
  rw [hwant]
  -- what stays where the operation is no effect
  have keepE : C.kind i ≠ 2 → ∀ m', m' < C.K → (S' (C.eff m') = true ↔ m' < m) := by
    intro hk m' hm'
    have hne : C.eff m' ≠ i := fun e => hk (by rw [← e]; exact (C.effk m' hm').2)
    rw [hS' _ (C.effk m' hm').1]
    have : (C.eff m' == i) = false := by simpa using hne
    rw [this]
    simpa using h.effs m' hm'
  have stay : ∀ (a' : Act), C.kind i = 0 → FrR ρ (fold ops A0 C.val S' ops.size) a' → Inv C ρ0 σ00 w0 S' a' w ρ m τ := by
    intro a' hk hf
    refine { mle := h.mle, effs := keepE (by omega), down := hdown', fr := hf, rel := h.rel, next := h.next, room := h.room, glob := h.glob, bglob := h.bglob, base := h.base, pend := ?_, free := ?_, pown := ?_, bare := h.bare, since := h.since, start := h.start, gn := h.gn, orc := h.orc }
    · intro j hj hj2 hk2 hab
      rcases hSi j hj hj2 with h1 | rfl
      · exact h.pend j hj h1 hk2 hab
      · omega
    · intro j hj hj2
      refine h.free j hj ?_
      cases hq : S j with
      | false => rfl
      | true => rw [hmono j hj hq] at hj2; cases hj2
    · intro j hj hj2 hk2
      rcases hSi j hj hj2 with h1 | rfl
      · exact h.pown j hj h1 hk2
      · omega
  rcases C.kinds i with hk | hk | hk
  · rcases C.still i o hi hk with ⟨hw, hv⟩ | ⟨hw, hst⟩
    · rw [hw, if_neg (by simp)]
      refine ⟨fun _ _ => trivial, ?_⟩
      exact hK _ _ _ _ _ (stay _ hk (C.put h.down hi hS hS' h.fr (by rw [hv]; exact undef_VR ρ)))
    · rw [hw, if_pos rfl]
      refine ⟨fun _ _ => trivial, ?_⟩
      have h1 := hst m h.mle (fun m' hm' hmm => (h.effs m' hm').1 (hm _ hmm)) fun m' hm' => by
        cases hq : C.mask (C.eff m') i with
        | false => rfl
        | true =>
          have hmk : m' < C.K := by have := h.mle; omega
          have := h.down _ i (C.effk m' hmk).1 ((h.effs m' hmk).2 hm') hq
          rw [hS] at this; cases this
      obtain ⟨v', hrun, hvr⟩ := still_sound hz hdr (hev ρ _ w hdr rfl) h1
      rw [Oper.semAt_eq _ _ _ (not_defer_still h1), hrun, Oper.uponIn_value]
      exact hK _ _ _ _ _ (stay _ hk (C.put h.down hi hS hS' h.fr hvr))
  · obtain ⟨hw, hnew⟩ := C.new i o hi hk
    rw [hw, if_pos rfl]
    refine ⟨fun _ _ => trivial, ?_⟩
    have hfree := h.free i hlt hS
    obtain ⟨hown, v', y, hrun, hvr, hat⟩ := new_sound hz (fun x hx hok => hev ρ τ w h.rel rfl x hx (by rw [h.glob]; exact hok)) hnew w
    rw [Oper.semAt_eq _ _ _ (not_defer_new hnew), hrun, Oper.uponIn_value]
    have hle : ρ.le (ρ.add (σ0.next + i) w.heap.size none) := Ren.le_add hfree.1 hfree.2
    have hgn := h.gn
    have hroom := h.room
    have hget : ∀ id ob, τ.heap.get id = some ob → id ≠ σ0.next + i := by
      rintro id ob hid rfl
      obtain ⟨k, x, q1, -⟩ := h.rel.live _ _ hid
      rw [hfree.1] at q1; cases q1
    refine hK _ _ (ρ.add (σ0.next + i) w.heap.size none) m (τ.setAt (σ0.next + i) (C.obj i)) ?_
    refine { mle := h.mle, effs := keepE (by omega), down := hdown', fr := C.put h.down hi hS hS' (h.fr.mono hle) (hvr none), rel := h.rel.newAt hfree.1 hfree.2 (by omega) (by rw [h.glob]; omega) _ _ (hat _ hle _), next := h.next, room := h.room, glob := h.glob, bglob := h.bglob, base := ?_, pend := ?_, free := ?_, pown := ?_, bare := h.bare, since := ?_, start := h.start, gn := h.gn, orc := h.orc }
    · intro id ob hid
      have h1 := h.base id ob hid
      simp only [St.setAt]
      rw [T.get_set, if_neg (hget id ob h1)]; exact h1
    · intro j hj hj2 hk2 hab
      simp only [St.setAt]
      rw [T.get_set]
      rcases hSi j hj hj2 with h1 | rfl
      · have h2 := h.pend j hj h1 hk2 hab
        rw [if_neg (hget _ _ h2)]; exact h2
      · rw [if_pos rfl]
    · intro j hj hj2
      have hSj : S j = false := by
        cases hq : S j with
        | false => rfl
        | true => rw [hmono j hj hq] at hj2; cases hj2
      have hne : σ0.next + j ≠ σ0.next + i := by
        intro e
        have : j = i := by omega
        rw [this, hS'i] at hj2; cases hj2
      have := h.free j hj hSj
      simp only [Ren.add, if_neg hne]
      exact this
    · intro j hj hj2 hk2
      rcases hSi j hj hj2 with h1 | rfl
      · exact h.pown j hj h1 hk2
      · exact hown
    · exact ⟨h.since.le.trans hle, Keep.newAt h.since.keep (by have := h.start; omega) _ hown _⟩
  · obtain ⟨m1, hm1, rfl⟩ := C.effs i hlt hk
    have hmm : m1 = m := by
      have h1 : ¬ m1 < m := fun q => by have := (h.effs m1 hm1).2 q; rw [hS] at this; cases this
      rcases Nat.lt_or_ge m m1 with h2 | h2
      · have := (h.effs m (by omega)).1 (hm _ (C.chain m m1 h2 hm1)); omega
      · omega
    subst hmm
    obtain ⟨hw, heff⟩ := C.effect m1 o hm1 hi
    rw [hw, if_pos rfl]
    refine ⟨fun _ _ => trivial, ?_⟩
    have after : ∀ (ρ2 : Ren Ψ) (w2 : World) (v' : Value), Rel ρ2 (C.B (m1 + 1)) w2 → Since ρ (C.dep m1 (C.eff m1)) w ρ2 (C.B (m1 + 1)) w2 → VR ρ2 (C.val (C.eff m1)) v' → K (a.put o.dst v') w2 := by
      intro ρ2 w2 v' hr2 hs2 hv2
      have hdn := (C.depN m1 (C.eff m1)).1
      have hdg := (C.depN m1 (C.eff m1)).2
      have hnx : (C.B m1).next ≤ (C.B (m1 + 1)).next := by rw [← hdn]; exact hs2.keep.next
      have hgl : (C.B (m1 + 1)).glob = σ0.glob := by rw [hs2.keep.glob, hdg, h.bglob]
      let pp : Nat → Prop := fun j => S j = true ∧ C.kind j = 1 ∧ ¬ ∃ m', m' < m1 + 1 ∧ C.mask (C.eff m') j = true
      have hless : ∀ j, (¬ ∃ m', m' < m1 + 1 ∧ C.mask (C.eff m') j = true) → ¬ ∃ m', m' < m1 ∧ C.mask (C.eff m') j = true := fun j hj ⟨m', h1, h2⟩ => hj ⟨m', by omega, h2⟩
      have hnone : ∀ j, j < ops.size → C.kind j = 1 → (¬ ∃ m', m' < m1 + 1 ∧ C.mask (C.eff m') j = true) → (C.dep m1 (C.eff m1)).heap.get (σ0.next + j) = none := by
        intro j hj hk2 hab
        cases hq : (C.dep m1 (C.eff m1)).heap.get (σ0.next + j) with
        | none => rfl
        | some ob =>
          exfalso
          rcases C.depH _ _ _ _ hq with h1 | ⟨j2, h1, h2, h3, h4, h5, -⟩
          · rw [h.bare j hj hk2 (hless j hab)] at h1; cases h1
          · have : j2 = j := by omega
            subst this
            exact hab ⟨m1, Nat.lt_succ_self _, h3⟩
      have hpp : ∀ j, j < ops.size → pp j → τ.heap.get (σ0.next + j) = some (C.obj j) ∧ (C.obj j).own = true ∧ (C.dep m1 (C.eff m1)).heap.get (σ0.next + j) = none :=
        fun j hj ⟨q1, q2, q3⟩ => ⟨h.pend j hj q1 q2 (hless j q3), h.pown j hj q1 q2, hnone j hj q2 q3⟩
      obtain ⟨τ2, hbk⟩ := back_ex (C.B (m1 + 1)) σ0.next C.obj pp ops.size
      obtain ⟨hrP, hkP⟩ := Rel.addP (p := pp) h.rel hsub (by rw [hdn, h.next]) (by rw [hdg, h.bglob, h.glob]) hr2 hs2.le hs2.keep hpp hbk
      obtain ⟨a1, a2, a5, a3, a4⟩ := hbk
      have hbare : ∀ j, j < ops.size → C.kind j = 1 → (¬ ∃ m', m' < m1 + 1 ∧ C.mask (C.eff m') j = true) → (C.B (m1 + 1)).heap.get (σ0.next + j) = none := by
        intro j hj hk2 hab
        cases hq : (C.B (m1 + 1)).heap.get (σ0.next + j) with
        | none => rfl
        | some ob =>
          exfalso
          obtain ⟨k, y, r1, -, -⟩ := hr2.live _ _ hq
          have hdm := hs2.keep.dom (σ0.next + j) (by rw [hdn, ← h.next]; have := h.room; omega)
          rw [hdm.1] at r1
          cases hSj : S j with
          | false => rw [(h.free j hj hSj).1] at r1; cases r1
          | true =>
            have hlive := h.pend j hj hSj hk2 (hless j hab)
            have hno : ∀ id o, (C.dep m1 (C.eff m1)).heap.get id = some o → ρ.φ id ≠ some k := by
              intro id o h1 h2
              have := h.rel.inj _ id _ _ hlive (hsub id o h1) (h.pown j hj hSj hk2) (by rw [r1, h2])
              rw [← this, hnone j hj hk2 hab] at h1; cases h1
            have hkl : k < w.heap.size := by
              obtain ⟨k2, y2, t1, t2, -⟩ := h.rel.live _ _ hlive
              rw [t1] at r1
              rw [← Option.some.inj r1]
              exact (Array.getElem?_eq_some_iff.1 t2).1
            rcases hs2.keep.new _ ob k hq (by rw [hdm.1]; exact r1) with ⟨o0, h3, -, h5⟩ | ⟨-, h3 | ⟨id0, o0, h4, -, h6⟩⟩
            · exact hno _ o0 h3 h5
            · omega
            · exact hno id0 o0 h4 h6
      refine hK _ _ ρ2 (m1 + 1) τ2 ?_
      refine { mle := hm1, effs := ?_, down := hdown', fr := C.put h.down hi hS hS' (h.fr.mono hs2.le) hv2, rel := hrP, next := a1, room := ?_, glob := a2.trans hgl, bglob := hgl, base := ?_, pend := ?_, free := ?_, pown := ?_, bare := hbare, since := ?_, start := h.start, gn := h.gn, orc := a5 }
      · intro m' hm'
        rw [hS' _ (C.effk m' hm').1]
        by_cases e : C.eff m' = C.eff m1
        · have : m' = m1 := by
            rcases Nat.lt_trichotomy m' m1 with q | q | q
            · have := C.lt _ _ (C.chain m' m1 q hm1); omega
            · exact q
            · have := C.lt _ _ (C.chain m1 m' q hm'); omega
          subst this
          simp
        · have hb : (C.eff m' == C.eff m1) = false := by simpa using e
          rw [hb]
          have hne : m' ≠ m1 := fun q => e (by rw [q])
          simp only [Bool.or_false]
          rw [h.effs m' hm']
          omega
      · rw [a1]; have := h.room; have := h.next; omega
      · intro id ob hid
        rw [a4 id]
        · exact hid
        · rintro j hj ⟨q1, q2, q3⟩ rfl
          rw [hbare j hj q2 q3] at hid; cases hid
      · intro j hj hj2 hk2 hab
        rcases hSi j hj hj2 with h1 | rfl
        · exact a3 j hj ⟨h1, hk2, hab⟩
        · omega
      · intro j hj hj2
        have hSj : S j = false := by
          cases hq : S j with
          | false => rfl
          | true => rw [hmono j hj hq] at hj2; cases hj2
        have h1 := h.free j hj hSj
        have h2 := hs2.keep.dom (σ0.next + j) (by rw [hdn, ← h.next]; have := h.room; omega)
        rw [h2.1, h2.2]; exact h1
      · intro j hj hj2 hk2
        rcases hSi j hj hj2 with h1 | rfl
        · exact h.pown j hj h1 hk2
        · omega
      · exact ⟨h.since.le.trans hs2.le, h.since.keep.trans hkP⟩
    unfold evEff at heff
    cases ho : evOp P (fold ops A0 C.val (fun _ => true) (C.eff m1)).eval (C.dep m1 (C.eff m1)) o with
    | none => rw [ho] at heff; cases heff
    | some r =>
      rw [ho] at heff
      have hout := op_sound hz hn hdr (hev ρ _ w hdr rfl) ho
      rw [Oper.semAt_eq _ _ _ (fun c hop => by
        obtain ⟨d, rfl⟩ := evOp_defer hop ho
        cases heff)]
      generalize (execOp a.eval o).run P w = real at hout
      cases r with
      | panic v σ1 => cases heff
      | ok n σ1 =>
        obtain ⟨ρ1, n', w1, hle, rfl, hr1, hk1, hn1⟩ := hout
        cases hn1 with
        | value hv =>
          simp only [Option.some.injEq, Prod.mk.injEq] at heff
          obtain ⟨e1, e2⟩ := heff
          rw [e2] at hr1 hk1
          exact after ρ1 w1 _ hr1 ⟨hle, hk1⟩ (by rw [← e1]; exact hv)
        | skip =>
          simp only [Option.some.injEq, Prod.mk.injEq] at heff
          obtain ⟨e1, e2⟩ := heff
          rw [e2] at hr1 hk1
          exact after ρ1 w1 _ hr1 ⟨hle, hk1⟩ (by rw [← e1]; exact undef_VR ρ1)
        | defer hd => cases heff
        | recover => cases heff
        | @enter g args args' ha =>
          simp only at heff
          cases hcl : call (.enter g args) σ1 with
          | none => rw [hcl] at heff; cases heff
          | some er =>
            rw [hcl] at heff
            cases er with
            | panic v σ2 => cases heff
            | ret v σ2 =>
              simp only [Option.some.injEq, Prod.mk.injEq] at heff
              obtain ⟨e1, e2⟩ := heff
              refine ⟨fun q => by (cases q), (calls_at (hc _ σ1 _ hcl ρ1 (.enter g args') w1 (.enter g ha) hr1) ro _).mono fun e w2 he => ?_⟩
              obtain ⟨ρ2, v', rfl, hv, hr2, hs2⟩ := he
              rw [e2] at hr2 hs2
              exact after ρ2 w2 v' hr2 (Since.trans ⟨hle, hk1⟩ hs2) (by rw [← e1]; exact hv)
        | @round k k' g g' t t' c1 c2 q1 q2 =>
          simp only at heff
          cases hcl : call (.round k g t c1 c2) σ1 with
          | none => rw [hcl] at heff; cases heff
          | some er =>
            rw [hcl] at heff
            cases er with
            | panic v σ2 => cases heff
            | ret v σ2 =>
              simp only [Option.some.injEq, Prod.mk.injEq] at heff
              obtain ⟨e1, e2⟩ := heff
              refine ⟨fun q => by (cases q), (RoundIn.at (hc _ σ1 _ hcl ρ1 (.round k' g' t' c1 c2) w1 (.round g g' c1 c2 q1 q2) hr1) ro _).mono fun e w2 he => ?_⟩
              obtain ⟨ρ2, v', rfl, hv, hr2, hs2⟩ := he
              rw [e2] at hr2 hs2
              exact after ρ2 w2 v' hr2 (Since.trans ⟨hle, hk1⟩ hs2) (by rw [← e1]; exact hv)
end
end Go.Ev
/- Closed calls by evaluation, part S: a certified region, whatever order is drawn. -/
namespace Go.Ev
variable {Ψ : SymEnv}
def cnt (S : Nat → Bool) : Nat → Nat
  | 0 => 0
  | n + 1 => cnt S n + (if S n = true then 1 else 0)
theorem cnt_le (S : Nat → Bool) : ∀ n, cnt S n ≤ n := by
  intro n
  induction n with
  | zero => exact Nat.le_refl _
  | succ n ih => unfold cnt; split <;> omega
theorem cnt_all {S : Nat → Bool} : ∀ n, n ≤ cnt S n → ∀ k, k < n → S k = true := by
  intro n
  induction n with
  | zero => intro _ k hk; omega
  | succ n ih =>
    intro h k hk
    unfold cnt at h
    have := cnt_le S n
    by_cases hS : S n = true
    · rw [if_pos hS] at h
      by_cases e : k = n
      · rw [e]; exact hS
      · exact ih (by omega) k (by omega)
    · rw [if_neg hS] at h; omega
theorem cnt_put {S S' : Nat → Bool} {i : Nat} (hi : S i = false) : ∀ n, (∀ k, k < n → S' k = (S k || k == i)) → cnt S' n = cnt S n + (if i < n then 1 else 0) := by
  intro n
  induction n with
  | zero => intro _; simp [cnt]
  | succ n ih =>
    intro h
    have h1 := ih fun k hk => h k (by omega)
    have h2 := h n (by omega)
    unfold cnt
    rw [h1, h2]
    by_cases e : n = i
    · subst e
      rw [hi]
      simp
    · have : (n == i) = false := by simpa using e
      rw [this]
      simp only [Bool.or_false]
      have e2 : (if i < n then (1 : Nat) else 0) = if i < n + 1 then 1 else 0 := by
        by_cases hl : i < n
        · rw [if_pos hl, if_pos (by omega)]
        · rw [if_neg hl, if_neg (by omega)]
      rw [← e2]; omega
section
variable {P : Program} {call : Next → St → Option Er} {ops : Array Oper} {A0 : Fr} {σ0 σ' : St}
theorem Inv.done {C : Cert P call ops A0 σ0 σ'} {ρ0 : Ren Ψ} {σ00 : St} {w0 : World} {S : Nat → Bool} {a : Act} {w : World} {ρ : Ren Ψ} {m : Nat} {τ : St} (h : Inv C ρ0 σ00 w0 S a w ρ m τ) (hall : ∀ k, k < ops.size → S k = true) :
    PostR ρ0 σ00 w0 .normal (fold ops A0 C.val (fun _ => true) ops.size) σ' .normal a w := by
  have hmK : m = C.K := by
    have h1 := h.mle
    rcases Nat.lt_or_ge m C.K with h2 | h2
    · have := (h.effs m h2).1 (hall _ (C.effk m h2).1); omega
    · omega
  subst hmK
  obtain ⟨f1, f2, f3⟩ := C.fin
  have hs : ∀ id o, σ'.heap.get id = some o → τ.heap.get id = some o := by
    intro id o ho
    rcases f3 id o ho with h1 | ⟨j, h1, h2, h3, rfl, rfl⟩
    · exact h.base id o h1
    · exact h.pend j h1 (hall j h1) h2 h3
  have hn : τ.next ≤ σ'.next := by rw [h.next, f1]; exact Nat.le_refl _
  have hg : σ'.glob = τ.glob := by rw [f2, h.bglob, h.glob]
  obtain ⟨n1, d1, t1⟩ := fold_parts ops A0 C.val S ops.size
  obtain ⟨n2, d2, t2⟩ := fold_parts ops A0 C.val (fun _ => true) ops.size
  refine ⟨ρ, .normal, h.fr.congr (n2.trans n1.symm) (d2.trans d1.symm) fun t => ?_, h.rel.sub hn hg (C.finO.trans h.orc.symm) hs, h.since.trans ⟨.refl ρ, .sub w hn hg hs⟩⟩
  rw [t1, t2]
  exact tmpS_same ops.size fun k hk _ => (hall k hk).symm
theorem Cert.any (hz : ZeroOk Ψ P) (hn : ∀ (f : Nat) (fn : Func), P.funcs[f]? = some fn → (fn.name == "runtime.NumGoroutine") = false) (hc : ∀ n σ r, call n σ = some r → NextSound Ψ P n σ r) (C : Cert P call ops A0 σ0 σ') {ρ0 : Ren Ψ} {σ00 : St} {w0 : World} :
    ∀ (fuel : Nat) (listed : Array Bool) (a : Act) (w : World) (ρ : Ren Ψ) (m : Nat) (τ : St), listed.size = ops.size → Inv C ρ0 σ00 w0 (fun i => listed.getD i false) a w ρ m τ → ops.size ≤ fuel + cnt (fun i => listed.getD i false) ops.size →
      ∀ ro : Option Nat, wpAnyIn (wideR ro) 0 P .any ops (PostR ρ0 σ00 w0 .normal (fold ops A0 C.val (fun _ => true) ops.size) σ') fuel listed a w := by
  have getD_true : ∀ (listed : Array Bool) (i : Nat), listed.size = ops.size → i < ops.size → listed.getD i true = listed.getD i false := by
    intro listed i h1 h2
    rw [Array.getD_eq_getD_getElem?, Array.getD_eq_getD_getElem?, Array.getElem?_eq_getElem (by omega)]
    rfl
  have empty_all : ∀ (listed : Array Bool), listed.size = ops.size → Region.ready .any ops listed = [] → ∀ k, k < ops.size → listed.getD k false = true := by
    intro listed hsz he k
    induction k using Nat.strongRecOn with
    | _ k ih =>
      intro hk
      cases hq : listed.getD k false with
      | true => rfl
      | false =>
        exfalso
        have hmem : k ∈ Region.ready .any ops listed := by
          unfold Region.ready
          refine List.mem_filter.2 ⟨List.mem_range.2 hk, ?_⟩
          have ho : ops[k]? = some ops[k] := Array.getElem?_eq_getElem hk
          rw [getD_true listed k hsz hk, hq, ho]
          simp only [Option.map_some, Option.getD_some, Bool.not_false, Bool.true_and]
          rw [Array.all_eq_true']
          intro e he
          cases hb : Region.binds .any e with
          | false => simp
          | true =>
            have h1 := C.edge k _ ho e he hb
            have h2 := C.lt _ _ h1
            simp only [Bool.not_true, Bool.false_or]
            exact ih e.on h2 (by omega)
        rw [he] at hmem
        cases hmem
  intro fuel
  induction fuel with
  | zero =>
    intro listed a w ρ m τ hsz hinv hf ro
    have hall := cnt_all ops.size (by omega : ops.size ≤ cnt (fun i => listed.getD i false) ops.size)
    refine ⟨?_, hinv.done hall⟩
    unfold Region.ready
    refine List.filter_eq_nil_iff.2 fun k hk => ?_
    rw [List.mem_range] at hk
    rw [getD_true listed k hsz hk, hall k hk]
    simp
  | succ fuel ih =>
    intro listed a w ρ m τ hsz hinv hf ro
    refine ⟨fun he => hinv.done (empty_all listed hsz he), fun i hi => ?_⟩
    unfold Region.ready at hi
    obtain ⟨h1, h2⟩ := List.mem_filter.1 hi
    rw [List.mem_range] at h1
    rw [getD_true listed i hsz h1] at h2
    have ho : ops[i]? = some ops[i] := Array.getElem?_eq_getElem h1
    rw [ho] at h2
    simp only [Option.map_some, Option.getD_some, Bool.and_eq_true, Bool.not_eq_true'] at h2
    obtain ⟨hS, hdeps⟩ := h2
    rw [Array.all_eq_true'] at hdeps
    have hm : ∀ j, C.mask i j = true → listed.getD j false = true := by
      intro j hj
      obtain ⟨e, he, hb, hor⟩ := C.via i j _ ho hj
      have h3 := hdeps e he
      rw [hb] at h3
      simp only [Bool.not_true, Bool.false_or] at h3
      rcases hor with rfl | h4
      · exact h3
      · have h5 := C.lt _ _ (C.edge i _ ho e he hb)
        exact hinv.down e.on j (by omega) h3 h4
    have hS' : ∀ k, k < ops.size → (listed.setIfInBounds i true).getD k false = (listed.getD k false || k == i) := by
      intro k hk
      rw [Array.getD_eq_getD_getElem?, Array.getElem?_setIfInBounds, Array.getD_eq_getD_getElem?]
      by_cases e : i = k
      · subst e
        rw [if_pos rfl, if_pos (by omega)]
        simp
      · have : (k == i) = false := by simp; omega
        rw [if_neg e, this]
        simp
    refine hinv.step hz hn hc ho hS hm hS' (fun a' w' ρ' m' τ' hinv' => ?_) ro
    refine ih _ a' w' ρ' m' τ' (by simpa using hsz) hinv' ?_ ro
    have := cnt_put (S := fun i => listed.getD i false) (S' := fun k => (listed.setIfInBounds i true).getD k false) hS ops.size hS'
    rw [if_pos h1] at this
    omega
theorem Cert.start (C : Cert P call ops A0 σ0 σ') {ρ0 : Ren Ψ} {σ00 : St} {w0 : World} {ρ : Ren Ψ} {a : Act} {w : World} (hf : FrR ρ A0 a) (hr : Rel ρ σ0 w) (hs : Since ρ0 σ00 w0 ρ σ0 w) :
    Inv C ρ0 σ00 w0 (fun i => (Array.replicate ops.size false).getD i false) a w ρ 0 (C.B 0) := by
  have hfalse : ∀ i, (Array.replicate ops.size false).getD i false = false := by
    intro i
    rw [Array.getD_eq_getD_getElem?, Array.getElem?_replicate]
    split <;> rfl
  obtain ⟨b1, b2, b3⟩ := C.B0
  have hn : σ0.next ≤ (C.B 0).next := by omega
  refine { mle := Nat.zero_le _, effs := fun m' _ => ?_, down := fun i j _ h => ?_, fr := ?_, orc := rfl, rel := hr.sub hn b2 C.B0o b3, next := rfl, room := by omega, glob := b2, bglob := b2, base := fun _ _ h => h, pend := fun j _ h => ?_, free := fun j hj _ => hr.fresh _ (by omega), pown := fun j _ h => ?_, bare := fun j hj _ _ => ?_, since := hs.trans ⟨.refl ρ, .sub w hn b2 b3⟩, start := hs.keep.next, gn := hr.gn }
  · rw [hfalse]; simp
  · rw [hfalse] at h; cases h
  · obtain ⟨n1, d1, t1⟩ := fold_parts ops A0 C.val (fun i => (Array.replicate ops.size false).getD i false) ops.size
    refine hf.congr n1 d1 fun t => ?_
    rw [t1, tmpS_same (S' := fun _ => false) ops.size fun k _ _ => hfalse k]
    have : ∀ n, tmpS ops A0 C.val (fun _ => false) n t = A0.tmp t := by
      intro n
      induction n with
      | zero => rfl
      | succ n ih => unfold tmpS; rw [if_neg (by simp)]; exact ih
    exact this _
  · rw [hfalse] at h; cases h
  · rw [hfalse] at h; cases h
  · cases hq : (C.B 0).heap.get (σ0.next + j) with
    | none => rfl
    | some ob => have := hr.lt (b3 _ _ hq); omega
theorem Cert.sound (hz : ZeroOk Ψ P) (hn : ∀ (f : Nat) (fn : Func), P.funcs[f]? = some fn → (fn.name == "runtime.NumGoroutine") = false) (hc : ∀ n σ r, call n σ = some r → NextSound Ψ P n σ r) (hm : P.follows .mixedOrders = true) (C : Cert P call ops A0 σ0 σ')
    {ρ0 : Ren Ψ} {σ00 : St} {w0 : World} {ρ : Ren Ψ} {a : Act} {w : World} (hf : FrR ρ A0 a) (hr : Rel ρ σ0 w) (hs : Since ρ0 σ00 w0 ρ σ0 w) (id : Nat) :
    ∀ ro : Option Nat, (Code.region id ops true).wpIn (wideR ro) 0 P (PostR ρ0 σ00 w0 .normal (fold ops A0 C.val (fun _ => true) ops.size) σ') a w := by
  intro ro
  refine wpIn_region_any hm ?_
  have hr1 : Rel ρ σ0 { w with drawn := w.drawn + 1 } := hr.heap_eq rfl
  have hs1 : Since ρ0 σ00 w0 ρ σ0 { w with drawn := w.drawn + 1 } := hs.trans ⟨.refl ρ, .drew rfl rfl rfl rfl⟩
  exact C.any hz hn hc ops.size _ a _ ρ 0 (C.B 0) (by simp) (C.start hf hr1 hs1) (by omega) ro
end
end Go.Ev
/- Closed calls by evaluation, part T: what a region's text must be. -/
namespace Go.Ev
variable {Ψ : SymEnv}
def bit (m i : Nat) : Bool := Nat.testBit m i
def edgeMask (ms : List Nat) : List Edge → Nat
  | [] => 0
  | e :: l => match Region.binds .any e with
    | true => Nat.lor (Nat.lor (Nat.shiftLeft 1 e.on) (match nth ms e.on with | some m => m | none => 0)) (edgeMask ms l)
    | false => edgeMask ms l
def masksF : List Oper → List Nat → List Nat
  | [], ms => ms
  | o :: l, ms => masksF l (ms ++ [edgeMask ms o.after.toList])
def masks (ops : List Oper) : List Nat := masksF ops []
def maskAt (ms : List Nat) (i : Nat) : Nat := match nth ms i with
  | some m => m
  | none => 0
def edgesOk (i : Nat) (l : List Edge) : Bool := l.all fun e => !Region.binds .any e || Nat.blt e.on i
def kindOf (o : Oper) : Nat :=
  match newOp o.op, stillOp o.op with
  | true, _ => 1
  | false, true => 0
  | false, false => 2
/-- two operations that may go in either order -/
def freeOk (ops : Array Oper) (x y : Oper) : Bool :=
  x.apart ops y && (match kindOf x, kindOf y with
    | 2, 2 => false
    | _, _ => true)
def rowOk (ops : Array Oper) (m : Nat) (y : Oper) : Nat → List Oper → Bool
  | _, [] => true
  | i, x :: l => (bit m i || freeOk ops x y) && rowOk ops m y (i + 1) l
def tabOk (ops : Array Oper) (all : List Oper) : Nat → List Nat → List Oper → Bool
  | j, m :: ms, y :: l => (edgesOk j y.after.toList && rowOk ops m y 0 (all.take j)) && tabOk ops all (j + 1) ms l
  | _, _, [] => true
  | _, [], _ :: _ => false
def statOk (ops : List Oper) : Bool := tabOk ops.toArray ops 0 (masks ops) ops
theorem masksF_len : ∀ (l : List Oper) (ms : List Nat), (masksF l ms).length = ms.length + l.length := by
  intro l
  induction l with
  | nil => intro ms; rfl
  | cons o l ih => intro ms; rw [masksF, ih]; simp; omega
theorem masksF_pre : ∀ (l : List Oper) (ms : List Nat), ∃ r, masksF l ms = ms ++ r := by
  intro l
  induction l with
  | nil => intro ms; exact ⟨[], by simp [masksF]⟩
  | cons o l ih =>
    intro ms
    obtain ⟨r, hr⟩ := ih (ms ++ [edgeMask ms o.after.toList])
    exact ⟨[edgeMask ms o.after.toList] ++ r, by rw [masksF, hr]; simp⟩
theorem masksF_at : ∀ (l : List Oper) (ms : List Nat) (k : Nat) (o : Oper), l[k]? = some o → (masksF l ms)[ms.length + k]? = some (edgeMask ((masksF l ms).take (ms.length + k)) o.after.toList) := by
  intro l
  induction l with
  | nil => intro ms k o h; simp at h
  | cons y l ih =>
    intro ms k o h
    cases k with
    | zero =>
      simp only [List.getElem?_cons_zero, Option.some.injEq] at h
      subst h
      obtain ⟨r, hr⟩ := masksF_pre l (ms ++ [edgeMask ms y.after.toList])
      rw [masksF, hr]
      simp
    | succ k =>
      have h1 := ih (ms ++ [edgeMask ms y.after.toList]) k o (by simpa using h)
      simp only [List.length_append, List.length_cons, List.length_nil] at h1
      rw [masksF, show ms.length + (k + 1) = ms.length + (0 + 1) + k by omega]
      exact h1
theorem mask_at {ops : List Oper} {k : Nat} {o : Oper} (h : ops[k]? = some o) : maskAt (masks ops) k = edgeMask ((masks ops).take k) o.after.toList := by
  have h1 := masksF_at ops [] k o h
  simp only [List.length_nil, Nat.zero_add] at h1
  unfold maskAt masks
  rw [nth_eq, h1]
theorem nth_take {l : List Nat} {k j : Nat} (h : j < k) : nth (l.take k) j = nth l j := by
  rw [nth_eq, nth_eq, List.getElem?_take, if_pos h]
theorem edge_via {ms : List Nat} {j : Nat} : ∀ (l : List Edge), bit (edgeMask ms l) j = true → ∃ e ∈ l, Region.binds .any e = true ∧ (e.on = j ∨ bit (maskAt ms e.on) j = true) := by
  intro l
  induction l with
  | nil => intro h; simp [edgeMask, bit] at h
  | cons e l ih =>
    intro h
    unfold edgeMask at h
    cases hb : Region.binds .any e with
    | false =>
      rw [hb] at h
      obtain ⟨e1, h1, h2⟩ := ih h
      exact ⟨e1, List.mem_cons_of_mem _ h1, h2⟩
    | true =>
      rw [hb] at h
      simp only [bit] at h
      change Nat.testBit ((1 <<< e.on ||| _) ||| _) j = true at h
      rw [Nat.testBit_or, Nat.testBit_or, Nat.testBit_shiftLeft, Bool.or_eq_true, Bool.or_eq_true] at h
      rcases h with (h | h) | h
      · refine ⟨e, List.mem_cons_self .., hb, .inl ?_⟩
        simp only [Bool.and_eq_true, decide_eq_true_eq] at h
        obtain ⟨h1, h2⟩ := h
        have h3 : j - e.on = 0 := Nat.testBit_one_eq_true_iff_self_eq_zero.1 h2
        omega
      · exact ⟨e, List.mem_cons_self .., hb, .inr h⟩
      · obtain ⟨e1, h1, h2⟩ := ih h
        exact ⟨e1, List.mem_cons_of_mem _ h1, h2⟩
theorem edge_on {ms : List Nat} : ∀ (l : List Edge) (e : Edge), e ∈ l → Region.binds .any e = true → bit (edgeMask ms l) e.on = true := by
  intro l
  induction l with
  | nil => intro e h; cases h
  | cons x l ih =>
    intro e h hb
    unfold edgeMask
    cases hx : Region.binds .any x with
    | false =>
      simp only
      rcases List.mem_cons.1 h with rfl | h
      · rw [hb] at hx; cases hx
      · exact ih e h hb
    | true =>
      simp only [bit]
      show Nat.testBit ((1 <<< x.on ||| _) ||| _) e.on = true
      rw [Nat.testBit_or, Nat.testBit_or]
      rcases List.mem_cons.1 h with rfl | h
      · rw [Nat.testBit_shiftLeft]; simp
      · have := ih e h hb
        simp only [bit] at this
        rw [this]; simp
theorem rowOk_get {ops : Array Oper} {m : Nat} {y : Oper} : ∀ (l : List Oper) (i : Nat), rowOk ops m y i l = true → ∀ (k : Nat) (x : Oper), l[k]? = some x → bit m (i + k) = true ∨ freeOk ops x y = true := by
  intro l
  induction l with
  | nil => intro i _ k x h; simp at h
  | cons z l ih =>
    intro i h k x hk
    simp only [rowOk, Bool.and_eq_true, Bool.or_eq_true] at h
    cases k with
    | zero =>
      simp only [List.getElem?_cons_zero, Option.some.injEq] at hk
      subst hk
      exact h.1
    | succ k =>
      have := ih (i + 1) h.2 k x (by simpa using hk)
      rw [show i + (k + 1) = i + 1 + k by omega]
      exact this
theorem tabOk_get {ops : Array Oper} {all : List Oper} : ∀ (l : List Oper) (ms : List Nat) (j : Nat), tabOk ops all j ms l = true → ∀ (k : Nat) (y : Oper), l[k]? = some y → edgesOk (j + k) y.after.toList = true ∧ rowOk ops (maskAt ms k) y 0 (all.take (j + k)) = true := by
  intro l
  induction l with
  | nil => intro ms j _ k y h; simp at h
  | cons z l ih =>
    intro ms j h k y hk
    cases ms with
    | nil => simp [tabOk] at h
    | cons m ms =>
      simp only [tabOk, Bool.and_eq_true] at h
      cases k with
      | zero =>
        simp only [List.getElem?_cons_zero, Option.some.injEq] at hk
        subst hk
        exact h.1
      | succ k =>
        have := ih ms (j + 1) h.2 k y (by simpa using hk)
        rw [show j + (k + 1) = j + 1 + k by omega]
        exact this
section
variable {ops : Array Oper}
theorem stat_edges {i : Nat} {o : Oper} (hs : statOk ops.toList = true) (h : ops[i]? = some o) {e : Edge} (he : e ∈ o.after) (hb : Region.binds .any e = true) : e.on < i := by
  have h1 := (tabOk_get _ _ _ hs i o (by simpa using h)).1
  unfold edgesOk at h1
  rw [List.all_eq_true] at h1
  have := h1 e (Array.mem_toList_iff.2 he)
  rw [hb] at this
  simpa using this
theorem stat_edge {i : Nat} {o : Oper} (h : ops[i]? = some o) {e : Edge} (he : e ∈ o.after) (hb : Region.binds .any e = true) : bit (maskAt (masks ops.toList) i) e.on = true := by
  rw [mask_at (by simpa using h)]
  exact edge_on _ e (Array.mem_toList_iff.2 he) hb
theorem stat_via {i j : Nat} {o : Oper} (hs : statOk ops.toList = true) (h : ops[i]? = some o) (hm : bit (maskAt (masks ops.toList) i) j = true) : ∃ e ∈ o.after, Region.binds .any e = true ∧ (e.on = j ∨ bit (maskAt (masks ops.toList) e.on) j = true) := by
  rw [mask_at (by simpa using h)] at hm
  obtain ⟨e, h1, h2, h3⟩ := edge_via _ hm
  have he := Array.mem_toList_iff.1 h1
  have hlt := stat_edges hs h he h2
  refine ⟨e, he, h2, ?_⟩
  rcases h3 with h3 | h3
  · exact .inl h3
  · refine .inr ?_
    unfold maskAt at h3 ⊢
    rw [nth_take hlt] at h3
    exact h3
theorem stat_lt (hs : statOk ops.toList = true) {i j : Nat} (hm : bit (maskAt (masks ops.toList) i) j = true) : j < i := by
  induction i using Nat.strongRecOn with
  | _ i ih =>
    cases ho : ops[i]? with
    | none =>
      exfalso
      have h1 : (masks ops.toList).length = ops.size := by unfold masks; rw [masksF_len]; simp
      have h2 := Array.getElem?_eq_none_iff.1 ho
      unfold maskAt at hm
      rw [nth_eq, List.getElem?_eq_none (by omega)] at hm
      simp [bit] at hm
    | some o =>
      obtain ⟨e, he, hb, hor⟩ := stat_via hs ho hm
      have hlt := stat_edges hs ho he hb
      rcases hor with rfl | h
      · exact hlt
      · exact Nat.lt_trans (ih e.on hlt h) hlt
theorem stat_free (hs : statOk ops.toList = true) {i j : Nat} {x y : Oper} (hij : i < j) (hx : ops[i]? = some x) (hy : ops[j]? = some y) (hm : bit (maskAt (masks ops.toList) j) i = false) : freeOk ops x y = true := by
  have h1 := (tabOk_get _ _ _ hs j y (by simpa using hy)).2
  rw [Nat.zero_add] at h1
  have h2 := rowOk_get _ 0 h1 i x (by rw [List.getElem?_take, if_pos hij]; simpa using hx)
  rw [Nat.zero_add] at h2
  rcases h2 with h2 | h2
  · rw [hm] at h2; cases h2
  · simpa using h2
end
end Go.Ev
/- Closed calls by evaluation, part U: the pass over a region that draws its order. -/
namespace Go.Ev
variable {Ψ : SymEnv}
def all2 (f : Value → Value → Bool) : List Value → List Value → Bool
  | [], [] => true
  | x :: l, y :: m => f x y && all2 f l m
  | _, _ => false
def sameV : Nat → Value → Value → Bool
  | _, .bool a, .bool b => a == b
  | _, .int k a, .int j b => decide (k = j) && decide (a = b)
  | _, .string a, .string b => decide (a = b)
  | _, .pointer a, .pointer b => decide (a = b)
  | _, .slice a n c, .slice b m d => decide (a = b) && (Nat.beq n m && Nat.beq c d)
  | _, .map a, .map b => decide (a = b)
  | _, .nilFunc, .nilFunc => true
  | _, .nilIface, .nilIface => true
  | _, .chan a, .chan b => decide (a = b)
  | n + 1, .func f a b, .func g c d => decide (f = g) && (all2 (sameV n) a.toList c.toList && all2 (sameV n) b.toList d.toList)
  | n + 1, .iface t v, .iface u w => Nat.beq t u && sameV n v w
  | n + 1, .agg a, .agg b => all2 (sameV n) a.toList b.toList
  | n + 1, .tuple a, .tuple b => all2 (sameV n) a.toList b.toList
  | _, _, _ => false
theorem all2_eq {f : Value → Value → Bool} (h : ∀ x y, f x y = true → x = y) : ∀ l m, all2 f l m = true → l = m := by
  intro l
  induction l with
  | nil => intro m hm; cases m with
    | nil => rfl
    | cons y m => cases hm
  | cons x l ih => intro m hm; cases m with
    | nil => cases hm
    | cons y m =>
      simp only [all2, Bool.and_eq_true] at hm
      rw [h x y hm.1, ih m hm.2]
theorem sameV_eq : ∀ (n : Nat) (v w : Value), sameV n v w = true → v = w := by
  intro n
  induction n with
  | zero =>
    intro v w h
    cases v <;> cases w <;> simp [sameV] at h ⊢ <;> simp_all
  | succ n ih =>
    intro v w h
    have ha : ∀ a b : Array Value, all2 (sameV n) a.toList b.toList = true → a = b := fun a b hab => Array.toList_inj.1 (all2_eq ih _ _ hab)
    cases v <;> cases w <;> simp [sameV] at h ⊢ <;> (first | (simp_all; done) | skip)
    · exact ⟨h.1, ha _ _ h.2.1, ha _ _ h.2.2⟩
    · exact ⟨h.1, ih _ _ h.2⟩
    · exact ha _ _ h
    · exact ha _ _ h
def isV (x : Option Value) (v : Value) : Bool := match x with
  | some u => sameV 6 u v
  | none => false
theorem isV_eq {x : Option Value} {v : Value} (h : isV x v = true) : x = some v := by
  cases x with
  | none => cases h
  | some u => rw [sameV_eq 6 u v h]
/-- the base, and what an operation behind 'msk' needs besides -/
def depOf (B : St) (ab msk n0 : Nat) : List (Nat × AObj) → St
  | [] => B
  | (j, x) :: l => match bit msk j && !bit ab j with
    | true => (depOf B ab msk n0 l).setAt (n0 + j) x
    | false => depOf B ab msk n0 l
def finOf (B : St) (ab n0 : Nat) : List (Nat × AObj) → St
  | [] => B
  | (j, x) :: l => match bit ab j with
    | true => finOf B ab n0 l
    | false => (finOf B ab n0 l).setAt (n0 + j) x
structure Acc where
  n : Nat
  A : Fr
  B : St
  ab : Nat
  hist : List (Nat × St × Nat)
  news : List (Nat × AObj)
  stills : List (Nat × Oper × Fr × Value)
def stepD (P : Program) (call : Next → St → Option Er) (glob n0 : Nat) (ops : List Oper) (ms : List Nat) (o : Oper) (c : Acc) : Option Acc :=
  match wantedE ops o c.A with
  | false => some { c with n := c.n + 1, A := c.A.put o.dst undef }
  | true => match kindOf o with
    | 0 => match evStill P c.A.eval (depOf c.B c.ab (maskAt ms c.n) n0 c.news) o with
      | some v => match c.hist.all (fun h => bit (maskAt ms c.n) h.1 || isV (evStill P c.A.eval (depOf h.2.1 h.2.2 (maskAt ms c.n) n0 c.news) o) v) with
        | true => some { c with n := c.n + 1, A := c.A.put o.dst v, stills := (c.n, o, c.A, v) :: c.stills }
        | false => none
      | none => none
    | 1 => match evNew P c.A.eval glob (n0 + c.n) o with
      | some (v, x) => some { c with n := c.n + 1, A := c.A.put o.dst v, news := (c.n, x) :: c.news }
      | none => none
    | _ => match evEff P call c.A.eval (depOf c.B c.ab (maskAt ms c.n) n0 c.news) o with
      | some (v, B) => match c.stills.all (fun s => bit (maskAt ms c.n) s.1 || isV (evStill P s.2.2.1.eval (depOf B (Nat.lor c.ab (maskAt ms c.n)) (maskAt ms s.1) n0 c.news) s.2.1) s.2.2.2) with
        | true => some { c with n := c.n + 1, A := c.A.put o.dst v, B := B, ab := Nat.lor c.ab (maskAt ms c.n), hist := (c.n, c.B, c.ab) :: c.hist }
        | false => none
      | none => none
def goD (P : Program) (call : Next → St → Option Er) (glob n0 : Nat) (ops : List Oper) (ms : List Nat) : List Oper → Acc → Option Acc
  | [], c => some c
  | o :: l, c => match stepD P call glob n0 ops ms o c with
    | some c => goD P call glob n0 ops ms l c
    | none => none
def evDraw (P : Program) (call : Next → St → Option Er) (ops : List Oper) (A : Fr) (σ : St) : Option (Ex × Fr × St) :=
  match statOk ops with
  | true => match goD P call σ.glob σ.next ops (masks ops) ops { n := 0, A := A, B := { σ with next := σ.next + ops.length }, ab := 0, hist := [], news := [], stills := [] } with
    | some c => some (.normal, c.A, finOf c.B c.ab σ.next c.news)
    | none => none
  | false => none
theorem depOf_parts {B : St} {ab msk n0 : Nat} : ∀ (l : List (Nat × AObj)), (depOf B ab msk n0 l).next = B.next ∧ (depOf B ab msk n0 l).glob = B.glob ∧
    ∀ id o, (depOf B ab msk n0 l).heap.get id = some o → B.heap.get id = some o ∨ ∃ j, (j, o) ∈ l ∧ bit msk j = true ∧ bit ab j = false ∧ id = n0 + j := by
  intro l
  induction l with
  | nil => exact ⟨rfl, rfl, fun id o h => .inl h⟩
  | cons p l ih =>
    obtain ⟨j, x⟩ := p
    obtain ⟨h1, h2, h3⟩ := ih
    have h4 : ∀ id o, (depOf B ab msk n0 l).heap.get id = some o → B.heap.get id = some o ∨ ∃ k, (k, o) ∈ (j, x) :: l ∧ bit msk k = true ∧ bit ab k = false ∧ id = n0 + k := by
      intro id o ho
      rcases h3 id o ho with h | ⟨k, q1, q2⟩
      · exact .inl h
      · exact .inr ⟨k, List.mem_cons_of_mem _ q1, q2⟩
    unfold depOf
    cases hb : (bit msk j && !bit ab j) with
    | false => exact ⟨h1, h2, h4⟩
    | true =>
      refine ⟨h1, h2, fun id o ho => ?_⟩
      simp only [St.setAt] at ho
      rw [T.get_set] at ho
      simp only [Bool.and_eq_true, Bool.not_eq_true'] at hb
      by_cases e : id = n0 + j
      · rw [if_pos e] at ho
        exact .inr ⟨j, by rw [← Option.some.inj ho]; exact List.mem_cons_self .., hb.1, hb.2, e⟩
      · rw [if_neg e] at ho; exact h4 id o ho
theorem depOf_orc {B : St} {ab msk n0 : Nat} : ∀ (l : List (Nat × AObj)), (depOf B ab msk n0 l).orc = B.orc := by
  intro l
  induction l with
  | nil => rfl
  | cons p l ih =>
    unfold depOf
    split
    · exact ih
    · exact ih
theorem finOf_orc {B : St} {ab n0 : Nat} : ∀ (l : List (Nat × AObj)), (finOf B ab n0 l).orc = B.orc := by
  intro l
  induction l with
  | nil => rfl
  | cons p l ih =>
    unfold finOf
    split
    · exact ih
    · exact ih
theorem finOf_parts {B : St} {ab n0 : Nat} : ∀ (l : List (Nat × AObj)), (finOf B ab n0 l).next = B.next ∧ (finOf B ab n0 l).glob = B.glob ∧
    ∀ id o, (finOf B ab n0 l).heap.get id = some o → B.heap.get id = some o ∨ ∃ j, (j, o) ∈ l ∧ bit ab j = false ∧ id = n0 + j := by
  intro l
  induction l with
  | nil => exact ⟨rfl, rfl, fun id o h => .inl h⟩
  | cons p l ih =>
    obtain ⟨j, x⟩ := p
    obtain ⟨h1, h2, h3⟩ := ih
    have h4 : ∀ id o, (finOf B ab n0 l).heap.get id = some o → B.heap.get id = some o ∨ ∃ k, (k, o) ∈ (j, x) :: l ∧ bit ab k = false ∧ id = n0 + k := by
      intro id o ho
      rcases h3 id o ho with h | ⟨k, q1, q2⟩
      · exact .inl h
      · exact .inr ⟨k, List.mem_cons_of_mem _ q1, q2⟩
    unfold finOf
    cases hb : bit ab j with
    | true => exact ⟨h1, h2, h4⟩
    | false =>
      refine ⟨h1, h2, fun id o ho => ?_⟩
      simp only [St.setAt] at ho
      rw [T.get_set] at ho
      by_cases e : id = n0 + j
      · rw [if_pos e] at ho
        exact .inr ⟨j, by rw [← Option.some.inj ho]; exact List.mem_cons_self .., hb, e⟩
      · rw [if_neg e] at ho; exact h4 id o ho
theorem depOf_cons {B : St} {ab msk n0 j : Nat} {x : AObj} {l : List (Nat × AObj)} (h : bit msk j = false) : depOf B ab msk n0 ((j, x) :: l) = depOf B ab msk n0 l := by
  show (match bit msk j && !bit ab j with | true => _ | false => _) = _
  rw [h]; rfl
theorem fold_congr {ops : Array Oper} {A0 : Fr} {val val' : Nat → Value} {S : Nat → Bool} : ∀ n, (∀ k, k < n → val k = val' k) → fold ops A0 val S n = fold ops A0 val' S n := by
  intro n
  induction n with
  | zero => intro _; rfl
  | succ n ih =>
    intro h
    unfold fold
    rw [ih fun k hk => h k (by omega), h n (by omega)]
structure Pre (P : Program) (call : Next → St → Option Er) (ops : Array Oper) (A0 : Fr) (σ0 : St) (c : Acc) (val : Nat → Value) (kind : Nat → Nat) (obj : Nat → AObj) (eff : Nat → Nat) (B : Nat → St) (ab : Nat → Nat) : Prop where
  nle : c.n ≤ ops.size
  A : c.A = fold ops A0 val (fun _ => true) c.n
  curB : c.B = B c.hist.length
  curA : c.ab = ab c.hist.length
  hist : ∀ m, m < c.hist.length → (eff m, B m, ab m) ∈ c.hist
  effk : ∀ m, m < c.hist.length → eff m < c.n ∧ kind (eff m) = 2
  effs : ∀ i, i < c.n → kind i = 2 → ∃ m, m < c.hist.length ∧ eff m = i
  effm : ∀ m m', m < m' → m' < c.hist.length → eff m < eff m'
  kinds : ∀ i, kind i = 0 ∨ kind i = 1 ∨ kind i = 2
  kindO : ∀ i o, i < c.n → ops[i]? = some o → kind i = 0 ∨ kind i = kindOf o
  ab0 : ab 0 = 0
  abS : ∀ m, m < c.hist.length → ab (m + 1) = Nat.lor (ab m) (maskAt (masks ops.toList) (eff m))
  news : ∀ j x, (j, x) ∈ c.news → j < c.n ∧ kind j = 1 ∧ x = obj j
  still : ∀ i o, i < c.n → ops[i]? = some o → kind i = 0 → (wantedE ops.toList o (fold ops A0 val (fun _ => true) i) = false ∧ val i = undef) ∨
    (wantedE ops.toList o (fold ops A0 val (fun _ => true) i) = true ∧ (i, o, fold ops A0 val (fun _ => true) i, val i) ∈ c.stills ∧
      ∀ m, m ≤ c.hist.length → (∀ m', m' < c.hist.length → bit (maskAt (masks ops.toList) i) (eff m') = true → m' < m) → (∀ m', m' < m → bit (maskAt (masks ops.toList) (eff m')) i = false) →
        evStill P (fold ops A0 val (fun _ => true) i).eval (depOf (B m) (ab m) (maskAt (masks ops.toList) i) σ0.next c.news) o = some (val i))
  new : ∀ i o, i < c.n → ops[i]? = some o → kind i = 1 → wantedE ops.toList o (fold ops A0 val (fun _ => true) i) = true ∧ evNew P (fold ops A0 val (fun _ => true) i).eval σ0.glob (σ0.next + i) o = some (val i, obj i)
  effect : ∀ m o, m < c.hist.length → ops[eff m]? = some o → wantedE ops.toList o (fold ops A0 val (fun _ => true) (eff m)) = true ∧
    evEff P call (fold ops A0 val (fun _ => true) (eff m)).eval (depOf (B m) (ab m) (maskAt (masks ops.toList) (eff m)) σ0.next c.news) o = some (val (eff m), B (m + 1))
  B0 : B 0 = { σ0 with next := σ0.next + ops.size }
end Go.Ev
/- Closed calls by evaluation, part V: the pass makes a certificate. -/
namespace Go.Ev
variable {Ψ : SymEnv}
def upd {α : Type} (f : Nat → α) (n : Nat) (v : α) : Nat → α := fun k => if k = n then v else f k
theorem upd_at {α : Type} (f : Nat → α) (n : Nat) (v : α) : upd f n v n = v := if_pos rfl
theorem upd_ne {α : Type} (f : Nat → α) {n k : Nat} (v : α) (h : k ≠ n) : upd f n v k = f k := if_neg h
section
variable {P : Program} {call : Next → St → Option Er} {ops : Array Oper} {A0 : Fr} {σ0 : St}
theorem fold_upd {val : Nat → Value} {n : Nat} {v : Value} : ∀ i, i ≤ n → fold ops A0 (upd val n v) (fun _ => true) i = fold ops A0 val (fun _ => true) i := fun i hi => fold_congr i fun k hk => upd_ne val v (by omega)
theorem fold_next {val : Nat → Value} {n : Nat} {v : Value} {o : Oper} (ho : ops[n]? = some o) : fold ops A0 (upd val n v) (fun _ => true) (n + 1) = (fold ops A0 val (fun _ => true) n).put o.dst v := by
  have e : fold ops A0 (upd val n v) (fun _ => true) (n + 1) = (fold ops A0 (upd val n v) (fun _ => true) n).put ((ops[n]?).bind (·.dst)) (upd val n v n) := rfl
  rw [e, fold_upd n (Nat.le_refl n), upd_at, ho]
  rfl
theorem Pre.step (hs : statOk ops.toList = true) {c c' : Acc} {val : Nat → Value} {kind : Nat → Nat} {obj : Nat → AObj} {eff : Nat → Nat} {B : Nat → St} {ab : Nat → Nat} (h : Pre P call ops A0 σ0 c val kind obj eff B ab) {o : Oper} (ho : ops[c.n]? = some o)
    (hst : stepD P call σ0.glob σ0.next ops.toList (masks ops.toList) o c = some c') : c'.n = c.n + 1 ∧ ∃ val' kind' obj' eff' B' ab', Pre P call ops A0 σ0 c' val' kind' obj' eff' B' ab' := by
  have hlt : c.n < ops.size := (Array.getElem?_eq_some_iff.1 ho).1
  have hA := h.A
  unfold stepD at hst
  -- what stands for the operations before
  have stillK : ∀ (v : Value) (i : Nat) (oi : Oper), i < c.n → ops[i]? = some oi → upd kind c.n 0 i = 0 → kind i = 0 := fun v i oi hi _ hk => by rw [upd_ne _ _ (by omega)] at hk; exact hk
  cases hw : wantedE ops.toList o c.A with
  | false =>
    rw [hw] at hst
    cases Option.some.inj hst
    refine ⟨rfl, upd val c.n undef, upd kind c.n 0, obj, eff, B, ab, ?_⟩
    refine { nle := hlt, A := ?_, curB := h.curB, curA := h.curA, hist := h.hist, effk := ?_, effs := ?_, effm := h.effm, kinds := ?_, kindO := ?_, ab0 := h.ab0, abS := h.abS, news := ?_, still := ?_, new := ?_, effect := ?_, B0 := h.B0 }
    · show c.A.put o.dst undef = _
      rw [fold_next ho, ← hA]
    · intro m hm
      have := h.effk m hm
      exact ⟨Nat.lt_succ_of_lt this.1, by rw [upd_ne _ _ (by omega)]; exact this.2⟩
    · intro i hi hk
      have hi : i < c.n + 1 := hi
      by_cases e : i = c.n
      · rw [e, upd_at] at hk; cases hk
      · rw [upd_ne _ _ e] at hk; exact h.effs i (by omega) hk
    · intro i
      by_cases e : i = c.n
      · rw [e, upd_at]; exact .inl rfl
      · rw [upd_ne _ _ e]; exact h.kinds i
    · intro i oi hi hoi
      have hi : i < c.n + 1 := hi
      by_cases e : i = c.n
      · rw [e, upd_at]; exact .inl rfl
      · rw [upd_ne _ _ e]; exact h.kindO i oi (by omega) hoi
    · intro j x hj
      obtain ⟨q1, q2, q3⟩ := h.news j x hj
      exact ⟨Nat.lt_succ_of_lt q1, by rw [upd_ne _ _ (by omega)]; exact q2, q3⟩
    · intro i oi hi hoi hk
      have hi : i < c.n + 1 := hi
      by_cases e : i = c.n
      · subst e
        rw [ho] at hoi
        cases hoi
        rw [fold_upd _ (Nat.le_refl _), upd_at, ← hA]
        exact .inl ⟨hw, rfl⟩
      · rw [upd_ne _ _ e] at hk ⊢
        rw [fold_upd i (by omega)]
        exact h.still i oi (by omega) hoi hk
    · intro i oi hi hoi hk
      have hi : i < c.n + 1 := hi
      by_cases e : i = c.n
      · rw [e, upd_at] at hk; cases hk
      · rw [upd_ne _ _ e] at hk ⊢
        rw [fold_upd i (by omega)]
        exact h.new i oi (by omega) hoi hk
    · intro m om hm hom
      have hm : m < c.hist.length := hm
      have := (h.effk m hm).1
      rw [fold_upd _ (by omega), upd_ne _ _ (by omega)]
      exact h.effect m om hm hom
  | true =>
  rw [hw] at hst
  simp only at hst
  have hkof : kindOf o = 0 ∨ kindOf o = 1 ∨ kindOf o = 2 := by unfold kindOf; split <;> simp
  rcases hkof with hk0 | hk0 | hk0
  · rw [hk0] at hst
    simp only at hst
    cases hv : evStill P c.A.eval (depOf c.B c.ab (maskAt (masks ops.toList) c.n) σ0.next c.news) o with
    | none => rw [hv] at hst; cases hst
    | some v =>
    rw [hv] at hst
    simp only at hst
    cases hall : c.hist.all (fun q => bit (maskAt (masks ops.toList) c.n) q.1 || isV (evStill P c.A.eval (depOf q.2.1 q.2.2 (maskAt (masks ops.toList) c.n) σ0.next c.news) o) v) with
    | false => rw [hall] at hst; cases hst
    | true =>
    rw [hall] at hst
    cases Option.some.inj hst
    rw [List.all_eq_true] at hall
    refine ⟨rfl, upd val c.n v, upd kind c.n 0, obj, eff, B, ab, ?_⟩
    refine { nle := hlt, A := ?_, curB := h.curB, curA := h.curA, hist := h.hist, effk := ?_, effs := ?_, effm := h.effm, kinds := ?_, kindO := ?_, ab0 := h.ab0, abS := h.abS, news := ?_, still := ?_, new := ?_, effect := ?_, B0 := h.B0 }
    · show c.A.put o.dst v = _
      rw [fold_next ho, ← hA]
    · intro m hm
      have := h.effk m hm
      exact ⟨Nat.lt_succ_of_lt this.1, by rw [upd_ne _ _ (by omega)]; exact this.2⟩
    · intro i hi hk
      have hi : i < c.n + 1 := hi
      by_cases e : i = c.n
      · rw [e, upd_at] at hk; cases hk
      · rw [upd_ne _ _ e] at hk; exact h.effs i (by omega) hk
    · intro i
      by_cases e : i = c.n
      · rw [e, upd_at]; exact .inl rfl
      · rw [upd_ne _ _ e]; exact h.kinds i
    · intro i oi hi hoi
      have hi : i < c.n + 1 := hi
      by_cases e : i = c.n
      · rw [e, upd_at]; exact .inl rfl
      · rw [upd_ne _ _ e]; exact h.kindO i oi (by omega) hoi
    · intro j x hj
      obtain ⟨q1, q2, q3⟩ := h.news j x hj
      exact ⟨Nat.lt_succ_of_lt q1, by rw [upd_ne _ _ (by omega)]; exact q2, q3⟩
    · intro i oi hi hoi hk
      have hi : i < c.n + 1 := hi
      by_cases e : i = c.n
      · subst e
        rw [ho] at hoi
        cases hoi
        rw [fold_upd _ (Nat.le_refl _), upd_at, ← hA]
        refine .inr ⟨hw, List.mem_cons_self .., fun m hm hal _ => ?_⟩
        have hm : m ≤ c.hist.length := hm
        rcases Nat.lt_or_ge m c.hist.length with hml | hml
        · have h1 := hall _ (h.hist m hml)
          simp only [Bool.or_eq_true] at h1
          rcases h1 with h1 | h1
          · have := hal m hml h1; omega
          · exact isV_eq h1
        · have : m = c.hist.length := by omega
          subst this
          rw [← h.curB, ← h.curA]
          exact hv
      · rw [upd_ne _ _ e] at hk ⊢
        rw [fold_upd i (by omega)]
        rcases h.still i oi (by omega) hoi hk with q | ⟨q1, q2, q3⟩
        · exact .inl q
        · exact .inr ⟨q1, List.mem_cons_of_mem _ q2, q3⟩
    · intro i oi hi hoi hk
      have hi : i < c.n + 1 := hi
      by_cases e : i = c.n
      · rw [e, upd_at] at hk; cases hk
      · rw [upd_ne _ _ e] at hk ⊢
        rw [fold_upd i (by omega)]
        exact h.new i oi (by omega) hoi hk
    · intro m om hm hom
      have hm : m < c.hist.length := hm
      have := (h.effk m hm).1
      rw [fold_upd _ (by omega), upd_ne _ _ (by omega)]
      exact h.effect m om hm hom
  · rw [hk0] at hst
    simp only at hst
    cases hv : evNew P c.A.eval σ0.glob (σ0.next + c.n) o with
    | none => rw [hv] at hst; cases hst
    | some p =>
    obtain ⟨v, x⟩ := p
    rw [hv] at hst
    cases Option.some.inj hst
    have hdep : ∀ (i : Nat) (B1 : St) (ab1 : Nat), i ≤ c.n → depOf B1 ab1 (maskAt (masks ops.toList) i) σ0.next ((c.n, x) :: c.news) = depOf B1 ab1 (maskAt (masks ops.toList) i) σ0.next c.news := by
      intro i B1 ab1 hi
      refine depOf_cons ?_
      cases hb : bit (maskAt (masks ops.toList) i) c.n with
      | false => rfl
      | true => have := stat_lt hs hb; omega
    refine ⟨rfl, upd val c.n v, upd kind c.n 1, upd obj c.n x, eff, B, ab, ?_⟩
    refine { nle := hlt, A := ?_, curB := h.curB, curA := h.curA, hist := h.hist, effk := ?_, effs := ?_, effm := h.effm, kinds := ?_, kindO := ?_, ab0 := h.ab0, abS := h.abS, news := ?_, still := ?_, new := ?_, effect := ?_, B0 := h.B0 }
    · show c.A.put o.dst v = _
      rw [fold_next ho, ← hA]
    · intro m hm
      have := h.effk m hm
      exact ⟨Nat.lt_succ_of_lt this.1, by rw [upd_ne _ _ (by omega)]; exact this.2⟩
    · intro i hi hk
      have hi : i < c.n + 1 := hi
      by_cases e : i = c.n
      · rw [e, upd_at] at hk; cases hk
      · rw [upd_ne _ _ e] at hk; exact h.effs i (by omega) hk
    · intro i
      by_cases e : i = c.n
      · rw [e, upd_at]; exact .inr (.inl rfl)
      · rw [upd_ne _ _ e]; exact h.kinds i
    · intro i oi hi hoi
      have hi : i < c.n + 1 := hi
      by_cases e : i = c.n
      · subst e; rw [ho] at hoi; cases hoi; rw [upd_at, hk0]; exact .inr rfl
      · rw [upd_ne _ _ e]; exact h.kindO i oi (by omega) hoi
    · intro j y hj
      rcases List.mem_cons.1 hj with hj | hj
      · cases hj
        exact ⟨Nat.lt_succ_self _, upd_at _ _ _, (upd_at _ _ _).symm⟩
      · obtain ⟨q1, q2, q3⟩ := h.news j y hj
        exact ⟨Nat.lt_succ_of_lt q1, by rw [upd_ne _ _ (by omega)]; exact q2, by rw [upd_ne _ _ (by omega)]; exact q3⟩
    · intro i oi hi hoi hk
      have hi : i < c.n + 1 := hi
      by_cases e : i = c.n
      · rw [e, upd_at] at hk; cases hk
      · rw [upd_ne _ _ e] at hk ⊢
        rw [fold_upd i (by omega)]
        rcases h.still i oi (by omega) hoi hk with q | ⟨q1, q2, q3⟩
        · exact .inl q
        · exact .inr ⟨q1, q2, fun m hm h1 h2 => by rw [hdep i _ _ (by omega)]; exact q3 m hm h1 h2⟩
    · intro i oi hi hoi hk
      have hi : i < c.n + 1 := hi
      by_cases e : i = c.n
      · subst e
        rw [ho] at hoi
        cases hoi
        rw [fold_upd _ (Nat.le_refl _), upd_at, upd_at, ← hA]
        exact ⟨hw, hv⟩
      · rw [upd_ne _ _ e] at hk ⊢
        rw [fold_upd i (by omega), upd_ne _ _ e]
        exact h.new i oi (by omega) hoi hk
    · intro m om hm hom
      have hm : m < c.hist.length := hm
      have := (h.effk m hm).1
      rw [fold_upd _ (by omega), upd_ne _ _ (by omega), hdep _ _ _ (by omega)]
      exact h.effect m om hm hom
  · rw [hk0] at hst
    simp only at hst
    cases hv : evEff P call c.A.eval (depOf c.B c.ab (maskAt (masks ops.toList) c.n) σ0.next c.news) o with
    | none => rw [hv] at hst; cases hst
    | some p =>
    obtain ⟨v, B1⟩ := p
    rw [hv] at hst
    simp only at hst
    cases hall : c.stills.all (fun s => bit (maskAt (masks ops.toList) c.n) s.1 || isV (evStill P s.2.2.1.eval (depOf B1 (Nat.lor c.ab (maskAt (masks ops.toList) c.n)) (maskAt (masks ops.toList) s.1) σ0.next c.news) s.2.1) s.2.2.2) with
    | false => rw [hall] at hst; cases hst
    | true =>
    rw [hall] at hst
    cases Option.some.inj hst
    rw [List.all_eq_true] at hall
    generalize hK : c.hist.length = K at *
    have hK2 : ((c.n, c.B, c.ab) :: c.hist).length = K + 1 := by rw [List.length_cons, hK]
    refine ⟨rfl, upd val c.n v, upd kind c.n 2, obj, upd eff K c.n, upd B (K + 1) B1, upd ab (K + 1) (Nat.lor c.ab (maskAt (masks ops.toList) c.n)), ?_⟩
    have hcB : c.B = B K := by rw [← hK]; exact h.curB
    have hcA : c.ab = ab K := by rw [← hK]; exact h.curA
    refine { nle := hlt, A := ?_, curB := ?_, curA := ?_, hist := ?_, effk := ?_, effs := ?_, effm := ?_, kinds := ?_, kindO := ?_, ab0 := ?_, abS := ?_, news := ?_, still := ?_, new := ?_, effect := ?_, B0 := ?_ }
    · show c.A.put o.dst v = _
      rw [fold_next ho, ← hA]
    · show B1 = _
      rw [hK2, upd_at]
    · show Nat.lor c.ab (maskAt (masks ops.toList) c.n) = _
      rw [hK2, upd_at]
    · intro m hm
      rw [hK2] at hm
      rw [upd_ne B _ (by omega), upd_ne ab _ (by omega)]
      by_cases e : m = K
      · subst e; rw [upd_at, ← hcB, ← hcA]; exact List.mem_cons_self ..
      · rw [upd_ne _ _ e]; exact List.mem_cons_of_mem _ (h.hist m (by omega))
    · intro m hm
      rw [hK2] at hm
      by_cases e : m = K
      · subst e; rw [upd_at, upd_at]; exact ⟨Nat.lt_succ_self _, rfl⟩
      · rw [upd_ne _ _ e]
        have := h.effk m (by omega)
        exact ⟨Nat.lt_succ_of_lt this.1, by rw [upd_ne _ _ (by omega)]; exact this.2⟩
    · intro i hi hk
      have hi : i < c.n + 1 := hi
      rw [hK2]
      by_cases e : i = c.n
      · exact ⟨K, Nat.lt_succ_self _, by rw [upd_at, e]⟩
      · rw [upd_ne _ _ e] at hk
        obtain ⟨m, h1, h2⟩ := h.effs i (by omega) hk
        exact ⟨m, by omega, by rw [upd_ne _ _ (by omega)]; exact h2⟩
    · intro m m' h1 h2
      rw [hK2] at h2
      rw [upd_ne _ _ (show m ≠ K by omega)]
      by_cases e : m' = K
      · rw [e, upd_at]; exact (h.effk m (by omega)).1
      · rw [upd_ne _ _ e]; exact h.effm m m' h1 (by omega)
    · intro i
      by_cases e : i = c.n
      · rw [e, upd_at]; exact .inr (.inr rfl)
      · rw [upd_ne _ _ e]; exact h.kinds i
    · intro i oi hi hoi
      have hi : i < c.n + 1 := hi
      by_cases e : i = c.n
      · subst e; rw [ho] at hoi; cases hoi; rw [upd_at, hk0]; exact .inr rfl
      · rw [upd_ne _ _ e]; exact h.kindO i oi (by omega) hoi
    · rw [upd_ne _ _ (by omega)]; exact h.ab0
    · intro m hm
      rw [hK2] at hm
      rw [upd_ne ab _ (show m ≠ K + 1 by omega)]
      by_cases e : m = K
      · subst e; rw [upd_at, upd_at, hcA]
      · rw [upd_ne _ _ e, upd_ne _ _ (by omega)]; exact h.abS m (by omega)
    · intro j y hj
      obtain ⟨q1, q2, q3⟩ := h.news j y hj
      exact ⟨Nat.lt_succ_of_lt q1, by rw [upd_ne _ _ (by omega)]; exact q2, q3⟩
    · intro i oi hi hoi hk
      have hi : i < c.n + 1 := hi
      by_cases e : i = c.n
      · rw [e, upd_at] at hk; cases hk
      · rw [upd_ne _ _ e] at hk ⊢
        rw [fold_upd i (by omega)]
        rcases h.still i oi (by omega) hoi hk with q | ⟨q1, q2, q3⟩
        · exact .inl q
        · refine .inr ⟨q1, q2, fun m hm h1 h2 => ?_⟩
          rw [hK2] at hm
          rw [hK] at q3
          by_cases em : m = K + 1
          · subst em
            rw [upd_at, upd_at]
            have h3 := hall _ q2
            simp only [Bool.or_eq_true] at h3
            have h4 := h2 K (Nat.lt_succ_self _)
            rw [upd_at] at h4
            rcases h3 with h3 | h3
            · rw [h4] at h3; cases h3
            · exact isV_eq h3
          · rw [upd_ne _ _ em, upd_ne _ _ em]
            refine q3 m (by omega) (fun m' hm' hb => h1 m' (by rw [hK2]; omega) (by rw [upd_ne _ _ (by omega)]; exact hb)) fun m' hm' => ?_
            have := h2 m' hm'
            rw [upd_ne _ _ (by omega)] at this
            exact this
    · intro i oi hi hoi hk
      have hi : i < c.n + 1 := hi
      by_cases e : i = c.n
      · rw [e, upd_at] at hk; cases hk
      · rw [upd_ne _ _ e] at hk ⊢
        rw [fold_upd i (by omega)]
        exact h.new i oi (by omega) hoi hk
    · intro m om hm hom
      rw [hK2] at hm
      rw [upd_ne B _ (show m ≠ K + 1 by omega), upd_ne ab _ (show m ≠ K + 1 by omega)]
      by_cases e : m = K
      · subst e
        rw [upd_at] at hom ⊢
        rw [ho] at hom
        cases hom
        rw [fold_upd _ (Nat.le_refl _), upd_at, upd_at, ← hA, ← hcB, ← hcA]
        exact ⟨hw, hv⟩
      · rw [upd_ne _ _ e] at hom ⊢
        have h1 := (h.effk m (by omega)).1
        have h2 := h.effect m om (by omega) hom
        rw [fold_upd _ (by omega), upd_ne _ _ (by omega), upd_ne B _ (by omega)]
        exact h2
    · rw [upd_ne _ _ (by omega)]; exact h.B0
end
end Go.Ev
/- Closed calls by evaluation, part W: drawn regions, the evaluator's own. -/
namespace Go.Ev
variable {Ψ : SymEnv}
section
variable {P : Program} {call : Next → St → Option Er} {ops : Array Oper} {A0 : Fr} {σ0 : St}
theorem Pre.go (hs : statOk ops.toList = true) : ∀ (l : List Oper) (c c' : Acc) (val : Nat → Value) (kind : Nat → Nat) (obj : Nat → AObj) (eff : Nat → Nat) (B : Nat → St) (ab : Nat → Nat), ops.toList.drop c.n = l → Pre P call ops A0 σ0 c val kind obj eff B ab →
    goD P call σ0.glob σ0.next ops.toList (masks ops.toList) l c = some c' → c'.n = c.n + l.length ∧ ∃ val' kind' obj' eff' B' ab', Pre P call ops A0 σ0 c' val' kind' obj' eff' B' ab' := by
  intro l
  induction l with
  | nil =>
    intro c c' val kind obj eff B ab _ h hg
    cases Option.some.inj hg
    exact ⟨rfl, _, _, _, _, _, _, h⟩
  | cons o l ih =>
    intro c c' val kind obj eff B ab hl h hg
    have ho : ops[c.n]? = some o := by
      have : (ops.toList.drop c.n)[0]? = some o := by rw [hl]; rfl
      rw [List.getElem?_drop] at this
      simpa using this
    unfold goD at hg
    cases hst : stepD P call σ0.glob σ0.next ops.toList (masks ops.toList) o c with
    | none => rw [hst] at hg; cases hg
    | some c1 =>
      rw [hst] at hg
      obtain ⟨hn, val1, kind1, obj1, eff1, B1, ab1, h1⟩ := h.step hs ho hst
      have hl1 : ops.toList.drop c1.n = l := by rw [hn, ← List.tail_drop, hl]; rfl
      obtain ⟨hn2, rest⟩ := ih c1 c' val1 kind1 obj1 eff1 B1 ab1 hl1 h1 hg
      exact ⟨by rw [hn2, hn, List.length_cons]; omega, rest⟩
theorem ab_bits {c : Acc} {val : Nat → Value} {kind : Nat → Nat} {obj : Nat → AObj} {eff : Nat → Nat} {B : Nat → St} {ab : Nat → Nat} (h : Pre P call ops A0 σ0 c val kind obj eff B ab) : ∀ m, m ≤ c.hist.length → ∀ j, bit (ab m) j = false → ¬ ∃ m', m' < m ∧ bit (maskAt (masks ops.toList) (eff m')) j = true := by
  intro m
  induction m with
  | zero => rintro _ j _ ⟨m', h1, -⟩; omega
  | succ m ih =>
    rintro hm j hb ⟨m', h1, h2⟩
    rw [h.abS m (by omega)] at hb
    simp only [bit] at hb h2
    change Nat.testBit (ab m ||| _) j = false at hb
    rw [Nat.testBit_or, Bool.or_eq_false_iff] at hb
    by_cases e : m' = m
    · rw [e] at h2; rw [hb.2] at h2; cases h2
    · exact ih (by omega) j hb.1 ⟨m', by omega, h2⟩
theorem draw_sound (hz : ZeroOk Ψ P) (hn : ∀ (f : Nat) (fn : Func), P.funcs[f]? = some fn → (fn.name == "runtime.NumGoroutine") = false) (hm : P.follows .mixedOrders = true) (hc : ∀ n σ r, call n σ = some r → NextSound Ψ P n σ r) : DrawSound Ψ P (evDraw P call) := by
  intro id ops A0 σ0 x A' σ' h ρ0 σ00 w0 ρ a w hf hr hsn
  unfold evDraw at h
  cases hs : statOk ops.toList with
  | false => rw [hs] at h; cases h
  | true =>
  rw [hs] at h
  simp only at h
  cases hg : goD P call σ0.glob σ0.next ops.toList (masks ops.toList) ops.toList { n := 0, A := A0, B := { σ0 with next := σ0.next + ops.toList.length }, ab := 0, hist := [], news := [], stills := [] } with
  | none => rw [hg] at h; cases h
  | some c =>
  rw [hg] at h
  cases Option.some.inj h
  have h0 : Pre P call ops A0 σ0 { n := 0, A := A0, B := { σ0 with next := σ0.next + ops.toList.length }, ab := 0, hist := [], news := [], stills := [] } (fun _ => undef) (fun _ => 0) (fun _ => .obj (.map #[] 0)) (fun _ => 0) (fun _ => { σ0 with next := σ0.next + ops.toList.length }) (fun _ => 0) :=
    { nle := Nat.zero_le _, A := rfl, curB := rfl, curA := rfl, hist := fun m hm => by simp at hm, effk := fun m hm => by simp at hm, effs := fun i hi => by simp at hi, effm := fun m m' _ hm => by simp at hm, kinds := fun _ => .inl rfl, kindO := fun i o hi => by simp at hi, ab0 := rfl, abS := fun m hm => by simp at hm, news := fun j x hj => by simp at hj, still := fun i o hi => by simp at hi, new := fun i o hi => by simp at hi, effect := fun m o hm => by simp at hm, B0 := by rw [Array.length_toList] }
  obtain ⟨hcn, val, kind, obj, eff, B, ab, hp⟩ := Pre.go hs ops.toList _ c _ _ _ _ _ _ (by simp) h0 hg
  have hcn : c.n = ops.size := by rw [hcn]; simp
  have hfree : ∀ i j oi oj, i < j → ops[i]? = some oi → ops[j]? = some oj → bit (maskAt (masks ops.toList) j) i = false → freeOk ops oi oj = true := fun i j oi oj h1 h2 h3 h4 => stat_free hs h1 h2 h3 h4
  have hop : ∀ m, m < c.hist.length → ∃ o, ops[eff m]? = some o ∧ kindOf o = 2 := by
    intro m hm
    have h1 := hp.effk m hm
    have h2 : eff m < ops.size := by rw [← hcn]; exact h1.1
    refine ⟨ops[eff m], Array.getElem?_eq_getElem h2, ?_⟩
    rcases hp.kindO (eff m) _ h1.1 (Array.getElem?_eq_getElem h2) with q | q
    · rw [h1.2] at q; cases q
    · rw [← q]; exact h1.2
  let C : Cert P call ops A0 σ0 (finOf c.B c.ab σ0.next c.news) :=
    { mask := fun i j => bit (maskAt (masks ops.toList) i) j, val := val, kind := kind, obj := obj, K := c.hist.length, eff := eff, B := B,
      dep := fun m i => depOf (B m) (if m ≤ c.hist.length then ab m else 4294967295) (maskAt (masks ops.toList) i) σ0.next (if m ≤ c.hist.length then c.news else []),
      via := fun i j o ho hm => stat_via hs ho hm
      lt := fun i j hm => stat_lt hs hm
      edge := fun i o ho e he hb => stat_edge ho he hb
      apart := fun i j oi oj h1 h2 h3 h4 => by
        have := hfree i j oi oj h1 h2 h3 h4
        unfold freeOk at this
        rw [Bool.and_eq_true] at this
        exact this.1
      effk := fun m hm => ⟨by rw [← hcn]; exact (hp.effk m hm).1, (hp.effk m hm).2⟩
      effs := fun i hi hk => hp.effs i (by rw [hcn]; exact hi) hk
      chain := fun m m' h1 h2 => by
        obtain ⟨o1, q1, q2⟩ := hop m (by omega)
        obtain ⟨o2, q3, q4⟩ := hop m' h2
        cases hb : bit (maskAt (masks ops.toList) (eff m')) (eff m) with
        | true => rfl
        | false =>
          have := hfree _ _ o1 o2 (hp.effm m m' h1 h2) q1 q3 hb
          unfold freeOk at this
          rw [q2, q4] at this
          simp at this
      kinds := hp.kinds
      still := fun i o ho hk => by
        rcases hp.still i o (by rw [hcn]; exact (Array.getElem?_eq_some_iff.1 ho).1) ho hk with q | ⟨q1, -, q3⟩
        · exact .inl q
        · refine .inr ⟨q1, fun m hm h1 h2 => ?_⟩
          rw [if_pos hm, if_pos hm]
          exact q3 m hm h1 h2
      new := fun i o ho hk => hp.new i o (by rw [hcn]; exact (Array.getElem?_eq_some_iff.1 ho).1) ho hk
      effect := fun m o hm ho => by
        rw [if_pos (Nat.le_of_lt hm), if_pos (Nat.le_of_lt hm)]
        exact hp.effect m o hm ho
      depN := fun m i => ⟨(depOf_parts _).1, (depOf_parts _).2.1⟩
      depO := fun m i => depOf_orc _
      B0o := by rw [hp.B0]
      finO := (finOf_orc _).trans (by rw [hp.curB])
      depH := fun m i id o ho => by
        rcases (depOf_parts _).2.2 id o ho with h1 | ⟨j, h1, h2, h3, h4⟩
        · exact .inl h1
        · by_cases hm : m ≤ c.hist.length
          · rw [if_pos hm] at h1 h3
            obtain ⟨q1, q2, q3⟩ := hp.news j o h1
            exact .inr ⟨j, by rw [← hcn]; exact q1, q2, h2, ab_bits hp m hm j h3, h4, q3⟩
          · rw [if_neg hm] at h1; cases h1
      B0 := by rw [hp.B0]; exact ⟨rfl, rfl, fun _ _ h => h⟩
      fin := by
        refine ⟨(finOf_parts _).1.trans (by rw [hp.curB]), (finOf_parts _).2.1.trans (by rw [hp.curB]), fun id o ho => ?_⟩
        rcases (finOf_parts _).2.2 id o ho with h1 | ⟨j, h1, h3, h4⟩
        · left; rw [← hp.curB]; exact h1
        · obtain ⟨q1, q2, q3⟩ := hp.news j o h1
          rw [hp.curA] at h3
          exact .inr ⟨j, by rw [← hcn]; exact q1, q2, ab_bits hp _ (Nat.le_refl _) j h3, h4, q3⟩ }
  have hA : c.A = fold ops A0 C.val (fun _ => true) ops.size := by rw [← hcn]; exact hp.A
  rw [hA]
  exact C.sound hz hn hc hm hf hr hsn id
end
end Go.Ev
/- Closed calls by evaluation, part X: whole calls, deferred calls, recover. -/
namespace Go.Ev
variable {Ψ : SymEnv}
def evRes (P : Program) (A : Fr) (σ : St) : List ResultVar → Option (List Value)
  | [] => some []
  | .tmp t :: l => match evRes P A σ l with
    | some vs => some (A.tmp t :: vs)
    | none => none
  | .cell a ty :: l => match A.tmp a with
    | .pointer (some ad) => match runA P (loadVar ty ad) σ, evRes P A σ l with
      | some (.ok v _), some vs => some (v :: vs)
      | _, _ => none
    | _ => none
def oneOf : List Value → Value
  | [v] => v
  | vs => .tuple vs.toArray
/-- how the frame that defers goes on: it returns, it panics, it has been recovered -/
inductive Md where
  | ret
  | pan (v : Value)
  | recd (v : Value)
inductive MdR (ρ : Ren Ψ) : Md → FrameMode → Prop where
  | ret : MdR ρ .ret .returning
  | pan {v v' : Value} (h : VR ρ v v') : MdR ρ (.pan v) (.panicking [{ v := v', recovered := false }])
  | recd {v v' : Value} (h : VR ρ v v') : MdR ρ (.recd v) (.panicking [{ v := v', recovered := true }])
theorem MdR.mono {ρ ρ' : Ren Ψ} (h : ρ.le ρ') {m : Md} {u : FrameMode} (k : MdR ρ m u) : MdR ρ' m u := by
  cases k with
  | ret => exact .ret
  | pan q => exact .pan (q.mono h)
  | recd q => exact .recd (q.mono h)
def settleM : Md → Md
  | .ret => .ret
  | .pan v => .pan v
  | .recd _ => .ret
theorem settle_R {ρ : Ren Ψ} {m : Md} {u : FrameMode} (h : MdR ρ m u) : MdR ρ (settleM m) (settle u) := by
  cases h with
  | ret => exact .ret
  | pan q => exact .pan q
  | recd q => exact .ret
def evOpsS (P : Program) (call : Next → St → Option Er) (ops : List Oper) : List Oper → Fr → St → Md → Option (Ex × Fr × St × Md)
  | [], A, σ, md => some (.normal, A, σ, md)
  | o :: l, A, σ, md => match wantedE ops o A with
    | false => evOpsS P call ops l (A.put o.dst undef) σ md
    | true => match evOp P A.eval σ o with
      | some (.ok (.value v) σ) => evOpsS P call ops l (A.put o.dst v) σ md
      | some (.ok .skip σ) => evOpsS P call ops l (A.put o.dst undef) σ md
      | some (.ok .recover σ) => match md with
        | .pan v => evOpsS P call ops l (A.put o.dst v) σ (.recd v)
        | md => evOpsS P call ops l (A.put o.dst .nilIface) σ md
      | some (.ok (.enter g args) σ) => match call (.enter g args) σ with
        | some (.ret v σ) => evOpsS P call ops l (A.put o.dst v) σ md
        | _ => none
      | _ => none
def evS (P : Program) (call : Next → St → Option Er) (draw : List Oper → Fr → St → Option (Ex × Fr × St)) : Nat → Code → Fr → St → Md → Option (Ex × Fr × St × Md)
  | 0, _, _, _, _ => none
  | f + 1, c, A, σ, md => match c with
    | .seq x y => match evS P call draw f x A σ md with
      | some (.normal, A, σ, md) => evS P call draw f y A σ md
      | r => r
    | .cond c x y => match A.eval c with
      | .bool true => evS P call draw f x A σ md
      | .bool false => evS P call draw f y A σ md
      | _ => none
    | .region _ ops false => evOpsS P call ops.toList ops.toList A σ md
    | c => match evC P call draw none f c A σ with
      | some (x, A, σ) => some (x, A, σ, md)
      | none => none
def evDef (P : Program) (call : Next → St → Option Er) (fuel : Nat) (g : FuncId) (args : Array Value) (md : Md) (σ : St) : Option (St × Md) :=
  match P.funcs[g]? with
  | none => none
  | some fn => match fn.body, Nat.ble args.size fn.ntmps with
    | some c, true => match evS P call (evDraw P call) fuel c (Fr.enter args.toList fn.ntmps) σ md with
      | some (.normal, A, σ, md) | some (.ret, A, σ, md) => match A.defers, evRes P A σ fn.results.toList with
        | [], some _ => some (σ, md)
        | _, _ => none
      | _ => none
    | _, _ => none
def evLeave (P : Program) (call : Next → St → Option Er) (fuel : Nat) (fn : Func) (A : Fr) : List Deferred → Md → St → Option Er
  | [], .ret, σ => match evRes P A σ fn.results.toList with
    | some vs => some (.ret (oneOf vs) σ)
    | none => none
  | [], .pan v, σ => some (.panic v σ)
  | [], .recd _, _ => none
  | d :: ds, md, σ => match d.target with
    | .fn (.func g) cap => match evDef P call fuel g (d.args ++ cap) md σ with
      | some (σ, md) => evLeave P call fuel fn A ds (settleM md) σ
      | none => none
    | .collected b => match runA P (Instr.takeDeferred b) σ with
      | some (.ok _ σ) => evLeave P call fuel fn A ds md σ
      | _ => none
    | _ => none
def endX : Ex → Option (Option Code)
  | .normal => some none
  | .ret => some (some .ret)
  | .exit id => some (some (.exit id))
  | .panic _ => none
/-- a round of a range over a function -/
def evRnd (P : Program) (call : Next → St → Option Er) (fuel l : Nat) (t : Array Value) (assign body : Code) (σ : St) : Option Er :=
  match evC P call (evDraw P call) (some l) fuel assign (Fr.enter t.toList t.size) σ with
  | some (.normal, A, σ) => match runA P (Instr.beginRound l) σ with
    | some (.ok _ σ) => match evC P call (evDraw P call) (some l) fuel body A σ with
      | some (x, _, σ) => match endX x with
        | some j => match runA P (Instr.endRound l j) σ with
          | some (.ok v σ) => some (.ret v σ)
          | _ => none
        | none => none
      | none => none
    | _ => none
  | _ => none
def evNx (P : Program) (sums : FuncId → Option (Array Value → St → Option Er)) (fuel : Nat) : Nat → Next → St → Option Er
  | 0, _, _ => none
  | f + 1, n, σ => match n with
    | .enter g args => match sums g with
      | some s => s args σ
      | none => match P.funcs[g]? with
        | none => none
        | some fn => match fn.body, Nat.ble args.size fn.ntmps with
          | some c, true => match evC P (evNx P sums fuel f) (evDraw P (evNx P sums fuel f)) none fuel c (Fr.enter args.toList fn.ntmps) σ with
            | some (.normal, A, σ) | some (.ret, A, σ) => evLeave P (evNx P sums fuel f) fuel fn A A.defers .ret σ
            | some (.panic v, A, σ) => evLeave P (evNx P sums fuel f) fuel fn A A.defers (.pan v) σ
            | _ => none
          | _, _ => none
    | .round l _ t x y => evRnd P (evNx P sums fuel f) fuel l t x y σ
    | _ => none
def evRun (P : Program) (sums : FuncId → Option (Array Value → St → Option Er)) (fuel n : Nat) (g : FuncId) (args : Array Value) (σ : St) : Option Er := evNx P sums fuel n (.enter g args) σ
section
variable {P : Program} {ρ : Ren Ψ}
def resF (tmps : Array Value) : ResultVar → Sem Value
  | .tmp t => pure (tmps.getD t undef)
  | .cell a t => do loadVar t (← asAddr (tmps.getD a undef))
theorem res_list {A : Fr} {a : Act} {σ : St} {w : World} (hf : FrR ρ A a) (hr : Rel ρ σ w) : ∀ (l : List ResultVar) (vs : List Value), evRes P A σ l = some vs → ∃ vs' : List Value, (l.mapM (resF a.tmps)).run P w = .ok vs' w ∧ vs.length = vs'.length ∧ ∀ (i : Nat) (v v' : Value), vs[i]? = some v → vs'[i]? = some v' → VR ρ v v' := by
  intro l
  induction l with
  | nil =>
    intro vs h
    cases Option.some.inj h
    exact ⟨[], by rw [List.mapM_nil]; rfl, rfl, fun i v v' h => by simp at h⟩
  | cons x l ih =>
    intro vs h
    have put : ∀ (v v' : Value) (vs2 : List Value), (resF a.tmps x).run P w = .ok v' w → VR ρ v v' → evRes P A σ l = some vs2 → ∃ vs' : List Value, ((x :: l).mapM (resF a.tmps)).run P w = .ok vs' w ∧ (v :: vs2).length = vs'.length ∧ ∀ (i : Nat) (u u' : Value), (v :: vs2)[i]? = some u → vs'[i]? = some u' → VR ρ u u' := by
      intro v v' vs2 h1 h2 h3
      obtain ⟨vs', q1, q2, q3⟩ := ih vs2 h3
      refine ⟨v' :: vs', ?_, by simp [q2], ?_⟩
      · rw [List.mapM_cons, Sem.run_bind, h1, Result.andThen_ok, Sem.run_bind, q1]; rfl
      · intro i u u' h4 h5
        cases i with
        | zero => simp at h4 h5; rw [← h4, ← h5]; exact h2
        | succ i => exact q3 i u u' (by simpa using h4) (by simpa using h5)
    cases x with
    | tmp t =>
      unfold evRes at h
      cases hl : evRes P A σ l with
      | none => rw [hl] at h; cases h
      | some vs2 =>
        rw [hl] at h
        cases Option.some.inj h
        exact put _ _ vs2 rfl (hf.tmp t) hl
    | cell b t =>
      unfold evRes at h
      have hb := hf.tmp b
      generalize hA : A.tmp b = vb at hb h
      generalize hB : a.tmps.getD b undef = vb' at hb
      cases hb with
      | @ptr b1 k o h1 =>
        simp only at h
        cases hv : runA P (loadVar t ⟨b1, o, none⟩) σ with
        | none => rw [hv] at h; cases h
        | some r =>
          rw [hv] at h
          cases r with
          | panic v τ => cases h
          | ok v τ =>
            cases hl : evRes P A σ l with
            | none => rw [hl] at h; cases h
            | some vs2 =>
              rw [hl] at h
              cases Option.some.inj h
              obtain ⟨-, v', q1, q2⟩ := q_loadVar (P := P) (t := t) (a := ⟨b1, o, none⟩) (a' := ⟨k, o, none⟩) ⟨rfl, rfl, rfl, h1⟩ σ w hr v τ hv
              refine put v v' vs2 ?_ q2 hl
              show ((do loadVar t (← asAddr (a.tmps.getD b undef))) : Sem Value).run P w = _
              rw [hB]
              exact q1
      | _ => cases h
theorem res_sound {fn : Func} {A : Fr} {a : Act} {σ : St} {w : World} (hf : FrR ρ A a) (hr : Rel ρ σ w) {vs : List Value} (h : evRes P A σ fn.results.toList = some vs) : ∃ v', (results fn a.tmps).run P w = .ok v' w ∧ VR ρ (oneOf vs) v' := by
  obtain ⟨vs', h1, h2, h3⟩ := res_list hf hr _ vs h
  have hrun : (fn.results.mapM (resF a.tmps)).run P w = .ok vs'.toArray w := by
    rw [Array.mapM_eq_mapM_toList, Sem.run_map, h1]
    rfl
  have hres : results fn a.tmps = (do let vs ← fn.results.mapM (resF a.tmps); pure (if h : vs.size = 1 then vs[0] else .tuple vs)) := by
    unfold results
    rfl
  rw [hres, Sem.run_bind, hrun]
  refine ⟨_, rfl, ?_⟩
  have htup : ∀ hne : ¬ vs'.length = 1, VR ρ (.tuple vs.toArray) (if h : vs'.toArray.size = 1 then vs'.toArray[0] else .tuple vs'.toArray) := by
    intro hne
    rw [dif_neg (by simpa using hne)]
    exact .tuple (by simp [h2]) fun i v v' q1 q2 => h3 i v v' (by simpa using q1) (by simpa using q2)
  match vs, h2, h3, htup with
  | [], h2, _, htup => exact htup (by rw [← h2]; decide)
  | [v], h2, h3, _ =>
    match vs', h2, h3 with
    | [v'], _, h3 => exact h3 0 v v' rfl rfl
  | v1 :: v2 :: l, h2, _, htup => exact htup (by rw [← h2]; simp)
end
end Go.Ev
/- Closed calls by evaluation, part Xl: how a frame leaves with marks of ranges over functions among its deferred calls. -/
namespace Go.Ev
variable {Ψ : SymEnv}
section
variable {P : Program}
def LeavesE (P : Program) (fn : Func) (tmps : Array Value) (R : Ending → World → Prop) : List Deferred → FrameMode → World → Prop
  | [], .returning, w => ∃ v, (results fn tmps).run P w = .ok v w ∧ R (.returned v) w
  | [], .panicking chain, w => R (.panicked chain) w
  | [], .run, _ => False
  | d :: ds, u, w => u ≠ .run ∧
      ((∃ r w', d.target = .collected r ∧ (Instr.takeDeferred r).run P w = .ok [] w' ∧ LeavesE P fn tmps R ds u w') ∨
       ∃ fv cap f args, d.target = .fn fv cap ∧ (invoke d.target d.args).run P w = .ok (.enter f args) w ∧
        CallsD P f args u w fun
          | .returned _, u', w' => LeavesE P fn tmps R ds (settle u') w'
          | .panicked chain, u', w' => LeavesE P fn tmps R ds (raised u' chain) w'
          | .outgrown, _, w' => R .outgrown w')
theorem leavesE_steps {fn : Func} {tmps : Array Value} {R : Ending → World → Prop} : ∀ (ds : List Deferred) (u : FrameMode) (w : World) (fr : Frame)
    (cs : List Frame), fr.mode = u → fr.defers = ds → fr.tmps = tmps → P.funcs[fr.fn]? = some fn → fr.kind = .normal → LeavesE P fn tmps R ds u w →
    ∃ e w' fr', R e w' ∧ Comes P (lone fr cs w) (lone fr' cs w') e ∧ fr'.fn = fr.fn ∧ fr'.leaving P w' e := by
  intro ds
  induction ds with
  | nil =>
    intro u w fr cs hu hd ht hf hk h
    cases u with
    | run => exact h.elim
    | returning =>
      obtain ⟨v, hr, hR⟩ := h
      exact ⟨.returned v, w, fr, hR, Steps.refl P _, rfl, hu, hd, hk, fn, hf, ht ▸ hr⟩
    | panicking chain => exact ⟨.panicked chain, w, fr, h, Steps.refl P _, rfl, hu, hd, fn, hf⟩
  | cons d ds ih =>
    intro u w fr cs hu hd ht hf hk h
    obtain ⟨hrun, ⟨r, w', htar, htake, hrest⟩ | ⟨fv, cap, f, args, htar, hinv, hcall⟩⟩ := h
    · have h1 := step_collected (cs := cs) (hu ▸ hrun) hd htar htake
      obtain ⟨e', w'', fr', hR', hs', hfn', hl'⟩ := ih u w' { fr with defers := [] ++ ds } cs hu rfl ht hf hk hrest
      exact ⟨e', w'', fr', hR', Comes.of_steps (.one h1) hs', hfn', hl'⟩
    · have h1 := step_defer (cs := cs) (hu ▸ hrun) hd htar hinv
      obtain ⟨e, u', w', frX, hR, hsteps, hkX, hgo⟩ := hcall { fr with defers := ds } cs hu
      cases e with
      | returned v =>
        have h2 := step_going_returned (c := { { fr with defers := ds } with mode := u' }) (cs := cs) hkX hgo
        obtain ⟨e', w'', fr', hR', hs', hfn', hl'⟩ := ih (settle u') w' { { { fr with defers := ds } with mode := u' } with mode := settle u' } cs rfl rfl ht hf hk hR
        exact ⟨e', w'', fr', hR', Comes.of_steps (.head h1 (Steps.trans hsteps (.one h2))) hs', hfn', hl'⟩
      | panicked chain =>
        have h2 := step_going_panicked (c := { { fr with defers := ds } with mode := u' }) (cs := cs) hgo
        obtain ⟨e', w'', fr', hR', hs', hfn', hl'⟩ := ih (raised u' chain) w' { { { fr with defers := ds } with mode := u' } with mode := raised u' chain } cs rfl rfl ht hf hk hR
        exact ⟨e', w'', fr', hR', Comes.of_steps (.head h1 (Steps.trans hsteps (.one h2))) hs', hfn', hl'⟩
      | outgrown => exact ⟨.outgrown, w', fr, hR, Outgrown.of_steps (.one h1) hsteps, rfl, trivial⟩
def bodyPostE (P : Program) (fn : Func) (R : Ending → World → Prop) : Exit → Act → World → Prop
  | .normal, a, w | .ret, a, w => LeavesE P fn a.tmps R a.defers .returning w
  | .panic chain, a, w => LeavesE P fn a.tmps R a.defers (.panicking chain) w
  | .outgrown, _, w => R .outgrown w
  | _, _, _ => False
theorem calls_of_wp_leavesE {f : FuncId} {fn : Func} {c : Code} {args : Array Value} {w : World} {R : Ending → World → Prop}
    (hf : P.funcs[f]? = some fn) (hb : fn.body = some c)
    (h : c.wp P (bodyPostE P fn R) { tmps := args ++ Array.replicate (fn.ntmps - args.size) undef, defers := [] } w) : Calls P f args w R := by
  intro cs
  let b : Frame := { (default : Frame) with fn := f, kind := .normal }
  have henter : Frame.enter P f args .normal =
      b.at { tmps := args ++ Array.replicate (fn.ntmps - args.size) undef, defers := [] } [.code c] := by
    simp [Frame.enter, Frame.at, hf, hb, b]
  obtain ⟨e, a', w', hq, harr⟩ := h b [] cs
  rw [← henter] at harr
  cases e with
  | normal =>
    obtain ⟨e', w'', fr', hR, hs, hfn, hl⟩ := leavesE_steps a'.defers .returning w' { b.at a' [] with mode := .returning } cs rfl rfl rfl hf rfl hq
    exact ⟨e', w'', fr', hR, Comes.of_steps (Steps.trans harr (.one step_end)) hs, hfn, hl⟩
  | ret =>
    obtain ⟨todo, hs₀⟩ := harr
    obtain ⟨e', w'', fr', hR, hs, hfn, hl⟩ := leavesE_steps a'.defers .returning w' { b.at a' todo with mode := .returning } cs rfl rfl rfl hf rfl hq
    exact ⟨e', w'', fr', hR, Comes.of_steps hs₀ hs, hfn, hl⟩
  | panic chain =>
    obtain ⟨todo, hs₀⟩ := harr
    obtain ⟨e', w'', fr', hR, hs, hfn, hl⟩ := leavesE_steps a'.defers (.panicking chain) w' { b.at a' todo with mode := .panicking chain } cs rfl rfl rfl hf rfl hq
    exact ⟨e', w'', fr', hR, Comes.of_steps hs₀ hs, hfn, hl⟩
  | exit id => exact hq.elim
  | goto l => exact hq.elim
  | outgrown => exact ⟨.outgrown, w', b, hq, harr.resolve_left (by simp [b]), rfl, trivial⟩
end
end Go.Ev
