import Derived.WalkKit
import Derived.WalkSpells
import Derived.Lib.Hide
import Derived.Lib.Builder
import Derived.Lib.UnsafeStr
import Derived.Laws.Externs
import Derived.Below
import Derived.Shelf.Strconv.Atoi
import Derived.Lib.AtoiErrMem
import Derived.Test.YtneohoclgnfdcaaGreatDoorP04
import Derived.Test.YtneohoclgnfdcaaGreatDoorChecked
import Derived.Test.YtneohoclgnfdcaaGreatDoorRows
import Derived.Test.YtneohoclgnfdcaaGreatDoorProg
/- Closed calls by evaluation, part Y: whole calls are sound. -/
namespace Go.Ev
section
variable {P : Program} {ρ0 : Ren} {σ0 : St} {w0 : World}
/-- the frames below a deferred call: the first one's mode has turned, and nothing else -/
def PostS (c0 : Frame) (rest : List Frame) (ρ0 : Ren) (σ0 : St) (w0 : World) (x : Ex) (A' : Fr) (σ' : St) (md' : Md) (e : Exit) (a' : Act) (cs' : List Frame) (w' : World) : Prop :=
  ∃ u' ρ', cs' = { c0 with mode := u' } :: rest ∧ MdR ρ' md' u' ∧ ExR ρ' x e ∧ FrR ρ' A' a' ∧ Rel ρ' σ' w' ∧ Since ρ0 σ0 w0 ρ' σ' w'
theorem recover_pan {c0 : Frame} {rest : List Frame} {v : Value} : recoverD ({ c0 with mode := .panicking [{ v := v, recovered := false }] } :: rest) = some (v, { c0 with mode := .panicking [{ v := v, recovered := true }] } :: rest) := rfl
theorem opsS_sound (hz : ZeroOk P) (hn : ∀ (f : Nat) (fn : Func), P.funcs[f]? = some fn → (fn.name == "runtime.NumGoroutine") = false) {call : Next → St → Option Er} (hc : ∀ n σ r, call n σ = some r → NextSound P n σ r) (ops : Array Oper) {c0 : Frame} {rest : List Frame} {x : Ex} {A' : Fr} {σ' : St} {md' : Md} :
    ∀ (l : List Oper) (i : Nat) (A : Fr) (σ : St) (md : Md), ops.toList.drop i = l → evOpsS P call ops.toList l A σ md = some (x, A', σ', md') → ∀ (ρ : Ren) (u : FrameMode) (a : Act) (w : World), MdR ρ md u → FrR ρ A a → Rel ρ σ w → Since ρ0 σ0 w0 ρ σ w →
      wpOpsS P ops (PostS c0 rest ρ0 σ0 w0 x A' σ' md') (List.range' i l.length) a ({ c0 with mode := u } :: rest) w := by
  intro l
  induction l with
  | nil =>
    intro i A σ md hl h ρ u a w hmd hf hr hs
    cases Option.some.inj h
    exact ⟨u, ρ, rfl, hmd, .normal, hf, hr, hs⟩
  | cons o l ih =>
    intro i A σ md hl h ρ u a w hmd hf hr hs
    have hio : ops[i]? = some o := by
      have : (ops.toList.drop i)[0]? = some o := by rw [hl]; rfl
      rw [List.getElem?_drop] at this
      simpa using this
    have hl2 : ops.toList.drop (i + 1) = l := by rw [← List.tail_drop, hl]; rfl
    show wpOpsS P ops _ (i :: List.range' (i + 1) l.length) a _ w
    simp only [wpOpsS, hio]
    rw [hf.wanted ops o]
    unfold evOpsS at h
    cases hw : wantedE ops.toList o A with
    | false =>
      rw [hw] at h
      rw [if_neg (by simp)]
      exact ih (i + 1) _ _ _ hl2 h ρ u _ w hmd (hf.put _ (undef_VR ρ)) hr hs
    | true =>
      rw [hw] at h
      rw [if_pos rfl]
      cases ho : evOp P A.eval σ o with
      | none => rw [ho] at h; cases h
      | some r =>
        rw [ho] at h
        have hout := op_sound hz hn hr (fun x _ hx => hf.eval hr hx) ho
        generalize (execOp a.eval o).run P w = real at hout
        cases r with
        | panic v σ1 => cases h
        | ok n σ1 =>
          obtain ⟨ρ1, n', w1, hle, rfl, hr1, hk1, hn1⟩ := hout
          have hs1 := hs.trans ⟨hle, hk1⟩
          have hmd1 := hmd.mono hle
          cases hn1 with
          | value hv => exact ih (i + 1) _ _ _ hl2 h ρ1 u _ w1 hmd1 ((hf.mono hle).put _ hv) hr1 hs1
          | skip => exact ih (i + 1) _ _ _ hl2 h ρ1 u _ w1 hmd1 ((hf.mono hle).put _ (undef_VR ρ1)) hr1 hs1
          | defer hd => cases h
          | round => cases h
          | recover =>
            simp only at h
            cases hmd1 with
            | ret => exact ih (i + 1) _ _ _ hl2 h ρ1 .returning _ w1 .ret ((hf.mono hle).put _ .nilIface) hr1 hs1
            | recd hv => exact ih (i + 1) _ _ _ hl2 h ρ1 _ _ w1 (.recd hv) ((hf.mono hle).put _ .nilIface) hr1 hs1
            | pan hv => exact ih (i + 1) _ _ _ hl2 h ρ1 _ _ w1 (.recd hv) ((hf.mono hle).put _ hv) hr1 hs1
          | @enter g args args' ha =>
            simp only at h
            cases hcl : call (.enter g args) σ1 with
            | none => rw [hcl] at h; cases h
            | some er =>
              rw [hcl] at h
              cases er with
              | panic v σ2 => cases h
              | ret v σ2 =>
                refine Calls.mono (hc _ σ1 _ hcl ρ1 (.enter g args') w1 (.enter g ha) hr1) fun e w2 he => ?_
                obtain ⟨ρ2, v', rfl, hv, hr2, hs2⟩ := he
                exact ih (i + 1) _ _ _ hl2 h ρ2 u _ w2 (hmd1.mono hs2.le) (((hf.mono hle).mono hs2.le).put _ hv) hr2 (hs1.trans hs2)
theorem evS_sound (hz : ZeroOk P) (hn : ∀ (f : Nat) (fn : Func), P.funcs[f]? = some fn → (fn.name == "runtime.NumGoroutine") = false) {call : Next → St → Option Er} (hc : ∀ n σ r, call n σ = some r → NextSound P n σ r)
    {draw : List Oper → Fr → St → Option (Ex × Fr × St)} (hd : DrawSound P draw) {c0 : Frame} {rest : List Frame} :
    ∀ (n : Nat) (c : Code) (A : Fr) (σ : St) (md : Md) (x : Ex) (A' : Fr) (σ' : St) (md' : Md), evS P call draw n c A σ md = some (x, A', σ', md') → ∀ (ρ : Ren) (u : FrameMode) (a : Act) (w : World), MdR ρ md u → FrR ρ A a → Rel ρ σ w → Since ρ0 σ0 w0 ρ σ w →
      c.wpS P (PostS c0 rest ρ0 σ0 w0 x A' σ' md') a ({ c0 with mode := u } :: rest) w := by
  intro n
  induction n with
  | zero => intro c A σ md x A' σ' md' h; cases h
  | succ f ih =>
  intro c A σ md x A' σ' md' h ρ u a w hmd hf hr hs
  have plain : ∀ (c : Code), (match evC P call draw none f c A σ with | some (x, A, σ) => some (x, A, σ, md) | none => none) = some (x, A', σ', md') → c.wpS P (PostS c0 rest ρ0 σ0 w0 x A' σ' md') a ({ c0 with mode := u } :: rest) w := by
    intro c h
    cases h1 : evC P call draw none f c A σ with
    | none => rw [h1] at h; cases h
    | some r =>
      obtain ⟨x1, A1, σ1⟩ := r
      rw [h1] at h
      cases Option.some.inj h
      refine wpS_of_wp (wp_mono (wpIn_wide.1 (code_sound hz hn hc hd none none f c A σ _ _ _ h1 ρ σ w ρ a w (.inl ⟨rfl, rfl⟩) hf hr (.refl ρ σ w))) ?_)
      rintro e a1 w1 ⟨ρ1, he, hf1, hr1, hs1⟩
      exact ⟨u, ρ1, rfl, hmd.mono hs1.le, he, hf1, hr1, hs.trans hs1⟩
  have mono : ∀ {c : Code} {Q Q' : Exit → Act → List Frame → World → Prop} {a : Act} {cs : List Frame} {w : World}, c.wpS P Q a cs w → (∀ e a cs w, Q e a cs w → Q' e a cs w) → c.wpS P Q' a cs w := fun h hq b k h1 h2 =>
    let ⟨e, a', cs', w', q, r⟩ := h b k h1 h2
    ⟨e, a', cs', w', hq _ _ _ _ q, r⟩
  unfold evS at h
  cases c with
  | seq c1 c2 =>
    simp only at h
    cases h1 : evS P call draw f c1 A σ md with
    | none => rw [h1] at h; cases h
    | some r =>
      obtain ⟨x1, A1, σ1, md1⟩ := r
      rw [h1] at h
      refine wpS_seq (mono (ih c1 A σ md x1 A1 σ1 md1 h1 ρ u a w hmd hf hr hs) ?_)
      rintro e a1 cs1 w1 ⟨u1, ρ1, rfl, hmd1, he, hf1, hr1, hs1⟩
      cases he with
      | normal => exact ih c2 A1 σ1 md1 x A' σ' md' h ρ1 u1 a1 w1 hmd1 hf1 hr1 hs1
      | exit id => cases Option.some.inj h; exact ⟨u1, ρ1, rfl, hmd1, .exit id, hf1, hr1, hs1⟩
      | ret => cases Option.some.inj h; exact ⟨u1, ρ1, rfl, hmd1, .ret, hf1, hr1, hs1⟩
      | panic hv => cases Option.some.inj h; exact ⟨u1, ρ1, rfl, hmd1, .panic hv, hf1, hr1, hs1⟩
  | cond c x1 y1 =>
    simp only at h
    have hev : ∀ t : Bool, A.eval c = .bool t → a.eval c = .bool t := by
      intro t ht
      cases c with
      | tmp s =>
        have hv := hf.tmp s
        have ht : A.tmp s = .bool t := ht
        rw [ht] at hv
        show a.tmps.getD s undef = .bool t
        generalize a.tmps.getD s undef = u at hv
        cases hv
        rfl
      | const v => exact ht
      | global g => cases ht
      | func g => cases ht
    cases hA : A.eval c with
    | bool t =>
      rw [hA] at h
      cases t with
      | true => exact wpS_cond (hev _ hA) (ih x1 A σ md x A' σ' md' h ρ u a w hmd hf hr hs)
      | false => exact wpS_cond (hev _ hA) (ih y1 A σ md x A' σ' md' h ρ u a w hmd hf hr hs)
    | _ => rw [hA] at h; cases h
  | region id ops d =>
    cases d with
    | true => exact plain _ h
    | false =>
      refine wpS_region ?_
      have := opsS_sound hz hn hc ops (c0 := c0) (rest := rest) (x := x) (A' := A') (σ' := σ') (md' := md') (ρ0 := ρ0) (σ0 := σ0) (w0 := w0) ops.toList 0 A σ md (by simp) h ρ u a w hmd hf hr hs
      rw [Array.length_toList] at this
      rw [List.range_eq_range']
      exact this
  | _ => exact plain _ h
theorem def_sound (hz : ZeroOk P) (hn : ∀ (f : Nat) (fn : Func), P.funcs[f]? = some fn → (fn.name == "runtime.NumGoroutine") = false) (hm : P.follows .mixedOrders = true) {call : Next → St → Option Er} (hc : ∀ n σ r, call n σ = some r → NextSound P n σ r)
    {fuel : Nat} {g : FuncId} {args args' : Array Value} {md md' : Md} {σ σ' : St} (h : evDef P call fuel g args md σ = some (σ', md')) {ρ : Ren} {u : FrameMode} {w : World} (hmd : MdR ρ md u) (ha : VRs ρ args args') (hr : Rel ρ σ w) (hs : Since ρ0 σ0 w0 ρ σ w) :
    (∃ fn c, P.funcs[g]? = some fn ∧ fn.body = some c) ∧ CallsD P g args' u w fun e u' w' => ∃ ρ' v, e = .returned v ∧ MdR ρ' md' u' ∧ Rel ρ' σ' w' ∧ Since ρ0 σ0 w0 ρ' σ' w' ∧ ρ.le ρ' := by
  unfold evDef at h
  cases hfn : P.funcs[g]? with
  | none => rw [hfn] at h; cases h
  | some fn =>
  rw [hfn] at h
  simp only at h
  cases hb : fn.body with
  | none => rw [hb] at h; cases h
  | some c =>
  rw [hb] at h
  cases hle : Nat.ble args.size fn.ntmps with
  | false => rw [hle] at h; cases h
  | true =>
  rw [hle] at h
  simp only at h
  refine ⟨⟨fn, c, rfl, hb⟩, callsD_of_wpS hfn hb fun c0 rest hc0 => ?_⟩
  have hfr : FrR ρ (Fr.enter args.toList fn.ntmps) { tmps := args' ++ Array.replicate (fn.ntmps - args'.size) undef, defers := [] } := .enter ha (Nat.le_of_ble_eq_true hle)
  have hc1 : ({ c0 with mode := u } : Frame) = c0 := by subst hc0; rfl
  cases hev : evS P call (evDraw P call) fuel c (Fr.enter args.toList fn.ntmps) σ md with
  | none => rw [hev] at h; cases h
  | some r =>
  obtain ⟨x, A, σ1, md1⟩ := r
  rw [hev] at h
  have hS := evS_sound (ρ0 := ρ) (σ0 := σ) (w0 := w) (c0 := c0) (rest := rest) hz hn hc (draw_sound hz hn hm hc) fuel c _ σ md x A σ1 md1 hev ρ u _ w hmd hfr hr (.refl ρ σ w)
  rw [hc1] at hS
  have fin : (match A.defers, evRes P A σ1 fn.results.toList with | [], some _ => some (σ1, md1) | _, _ => none) = some (σ', md') → ∀ (a' : Act) (cs' : List Frame) (w' : World) (u' : FrameMode) (ρ' : Ren), cs' = { c0 with mode := u' } :: rest → MdR ρ' md1 u' → FrR ρ' A a' → Rel ρ' σ1 w' → Since ρ σ w ρ' σ1 w' →
      a'.defers = [] ∧ ∃ u', cs' = { c0 with mode := u' } :: rest ∧ ∃ v, (results fn a'.tmps).run P w' = .ok v w' ∧ ∃ ρ' v1, Ending.returned v = .returned v1 ∧ MdR ρ' md' u' ∧ Rel ρ' σ' w' ∧ Since ρ0 σ0 w0 ρ' σ' w' ∧ ρ.le ρ' := by
    intro h a' cs' w' u' ρ' hcs hmd1 hf1 hr1 hs1
    cases hdf : A.defers with
    | cons d ds => rw [hdf] at h; cases h
    | nil =>
    cases hres : evRes P A σ1 fn.results.toList with
    | none => rw [hdf, hres] at h; cases h
    | some vs =>
    rw [hdf, hres] at h
    cases Option.some.inj h
    obtain ⟨v', q1, q2⟩ := res_sound hf1 hr1 hres
    have hd0 : a'.defers = [] := by
      have := hf1.dl
      rw [hdf] at this
      exact List.length_eq_zero_iff.1 this.symm
    exact ⟨hd0, u', hcs, v', q1, ρ', v', rfl, hmd1, hr1, hs.trans hs1, hs1.le⟩
  intro b k h1 h2
  obtain ⟨e, a', cs', w', ⟨u', ρ', hcs, hmd1, he, hf1, hr1, hs1⟩, harr⟩ := hS b k h1 h2
  cases he with
  | normal => exact ⟨.normal, a', cs', w', fin h a' cs' w' u' ρ' hcs hmd1 hf1 hr1 hs1, harr⟩
  | ret => exact ⟨.ret, a', cs', w', fin h a' cs' w' u' ρ' hcs hmd1 hf1 hr1 hs1, harr⟩
  | exit id => cases h
  | panic hv => cases h
theorem leave_sound (hz : ZeroOk P) (hn : ∀ (f : Nat) (fn : Func), P.funcs[f]? = some fn → (fn.name == "runtime.NumGoroutine") = false) (hm : P.follows .mixedOrders = true) {call : Next → St → Option Er} (hc : ∀ n σ r, call n σ = some r → NextSound P n σ r)
    {fuel : Nat} {fn : Func} {A : Fr} {a : Act} {r : Er} : ∀ (ds ds' : List Deferred) (md : Md) (σ : St), evLeave P call fuel fn A ds md σ = some r → ds.length = ds'.length → ∀ (ρ : Ren) (u : FrameMode) (w : World), (∀ (i : Nat) (d d' : Deferred), ds[i]? = some d → ds'[i]? = some d' → DR ρ d d') → MdR ρ md u → FrR ρ A a → Rel ρ σ w → Since ρ0 σ0 w0 ρ σ w →
      LeavesE P fn a.tmps (EndR ρ0 σ0 w0 r) ds' u w := by
  intro ds
  induction ds with
  | nil =>
    intro ds' md σ h hl ρ u w hd hmd hf hr hs
    cases ds' with
    | cons d l => simp at hl
    | nil =>
    cases hmd with
    | ret =>
      unfold evLeave at h
      cases hres : evRes P A σ fn.results.toList with
      | none => rw [hres] at h; cases h
      | some vs =>
        rw [hres] at h
        cases Option.some.inj h
        obtain ⟨v', q1, q2⟩ := res_sound hf hr hres
        exact ⟨v', q1, ρ, v', rfl, q2, hr, hs⟩
    | pan hv =>
      cases Option.some.inj (show some (Er.panic _ σ) = some r from h)
      exact ⟨ρ, _, rfl, hv, hr, hs⟩
    | recd hv => cases h
  | cons d ds ih =>
    intro ds' md σ h hl ρ u w hd hmd hf hr hs
    cases ds' with
    | nil => simp at hl
    | cons d' ds' =>
    have hdr := hd 0 d d' rfl rfl
    obtain ⟨tg, dargs⟩ := d
    obtain ⟨tg', dargs'⟩ := d'
    unfold evLeave at h
    rcases hdr.target with ⟨fn1, fn1', c, c', e1, e2, hfn, hcc⟩ | ⟨e1, -⟩ | ⟨b, ts, t, k, e1, -⟩ | ⟨q, q', e1, e2, hq⟩
    · simp only at e1 e2
      subst e1 e2
      cases hfn with
      | func g =>
        simp only at h
        cases hev : evDef P call fuel g (dargs ++ c) md σ with
        | none => rw [hev] at h; cases md <;> cases h
        | some p =>
        obtain ⟨σ1, md1⟩ := p
        rw [hev] at h
        have h2 : evLeave P call fuel fn A ds (settleM md1) σ1 = some r := by cases md <;> exact h
        obtain ⟨⟨fu, cb, q1, q2⟩, hcd⟩ := def_sound (ρ0 := ρ0) (σ0 := σ0) (w0 := w0) hz hn hm hc hev hmd (hdr.args.append hcc) hr hs
        refine ⟨by cases hmd <;> simp, .inr ⟨_, _, _, _, rfl, NoNG_run (hn := hn) q1 q2 _ w, hcd.mono ?_⟩⟩
        rintro e u1 w1 ⟨ρ1, v, rfl, hmd1, hr1, hs1, hle⟩
        exact ih ds' (settleM md1) σ1 h2 (by simpa using hl) ρ1 (settle u1) w1 (fun i d d' h1 h2 => (hd (i + 1) d d' (by simpa using h1) (by simpa using h2)).mono hle) (settle_R hmd1) (hf.mono hle) hr1 hs1
      | _ => cases md <;> cases h
    · simp only at e1
      subst e1
      cases md <;> cases h
    · simp only at e1
      subst e1
      cases md <;> cases h
    · simp only at e1 e2
      subst e1 e2
      have h0 : (match runA P (Instr.takeDeferred q) σ with
        | some (.ok _ σ) => evLeave P call fuel fn A ds md σ
        | _ => none) = some r := by cases md <;> exact h
      have htk := fun x he => (sim_takeDeferred (P := P) hq).out hr (r := x) he
      generalize runA P (Instr.takeDeferred q) σ = z at h0 htk
      cases z with
      | none => cases h0
      | some z =>
      cases z with
      | panic v σ1 => cases h0
      | ok l σ1 =>
      obtain ⟨ρ1, l', w1, hle, hrun, hr1, hk1, rfl, rfl⟩ := htk _ rfl
      exact ⟨by cases hmd <;> simp, .inl ⟨q', w1, rfl, hrun, ih ds' md σ1 h0 (by simpa using hl) ρ1 u w1 (fun i d d' h1 h2 => (hd (i + 1) d d' (by simpa using h1) (by simpa using h2)).mono hle) (hmd.mono hle) (hf.mono hle) hr1 (hs.trans ⟨hle, hk1⟩)⟩⟩
theorem FrR.full {ρ : Ren} {t t' : Array Value} (h : VRs ρ t t') : FrR ρ (Fr.enter t.toList t.size) { tmps := t', defers := [] } := by
  have := FrR.enter h (Nat.le_refl t.size)
  rw [h.size, Nat.sub_self, Array.replicate_zero, Array.append_empty, ← h.size] at this
  exact this
theorem rnd_sound (hz : ZeroOk P) (hn : ∀ (f : Nat) (fn : Func), P.funcs[f]? = some fn → (fn.name == "runtime.NumGoroutine") = false) (hm : P.follows .mixedOrders = true) {call : Next → St → Option Er} (hc : ∀ n σ r, call n σ = some r → NextSound P n σ r)
    {fuel l g : Nat} {t : Array Value} {x y : Code} {σ : St} {r : Er} (h : evRnd P call fuel l t x y σ = some r) : NextSound P (.round l g t x y) σ r := by
  intro ρ n' w hnr hr
  cases hnr with
  | @round _ l' _ g' _ t' _ _ hl ht =>
  show RoundIn Fence.wide 0 P l' g' t' x y w _
  have hin : ∀ c Q a w, Code.wpIn (wideR (some l')) 0 P c Q a w → Code.wpIn (Fence.wide.inRound l') 0 P c Q a w := fun _ _ _ _ h => h
  unfold evRnd at h
  have hro : RoR ρ (some l) (some l') := .inr ⟨l, l', rfl, rfl, hl⟩
  refine roundIn_of_wpIn trivial ?_
  cases h1 : evC P call (evDraw P call) (some l) fuel x (Fr.enter t.toList t.size) σ with
  | none => rw [h1] at h; cases h
  | some q =>
  obtain ⟨x1, A1, σ1⟩ := q
  rw [h1] at h
  refine hin _ _ _ _ (wpIn_mono (code_sound hz hn hc (draw_sound hz hn hm hc) (some l) (some l') fuel x _ σ x1 A1 σ1 h1 ρ σ w ρ _ w hro (.full ht) hr (.refl ρ σ w)) ?_)
  rintro e a1 w1 ⟨ρ1, he, hf1, hr1, hs1⟩
  cases he with
  | exit id => cases h
  | ret => cases h
  | panic hv => cases h
  | normal =>
  simp only at h
  have hb := fun x he => (sim_beginRound (P := P) (hs1.le.φ _ _ hl)).out hr1 (r := x) he
  generalize runA P (Instr.beginRound l) σ1 = z at h hb
  cases z with
  | none => cases h
  | some z =>
  cases z with
  | panic v σ2 => cases h
  | ok u σ2 =>
  obtain ⟨ρ2, u', w2, hle2, hrun2, hr2, hk2, -⟩ := hb _ rfl
  have hs2 := hs1.trans ⟨hle2, hk2⟩
  refine ⟨w2, hrun2, ?_⟩
  simp only at h
  cases h3 : evC P call (evDraw P call) (some l) fuel y A1 σ2 with
  | none => rw [h3] at h; cases h
  | some q =>
  obtain ⟨x3, A3, σ3⟩ := q
  rw [h3] at h
  simp only at h
  refine hin _ _ _ _ (wpIn_mono (code_sound hz hn hc (draw_sound hz hn hm hc) (some l) (some l') fuel y A1 σ2 x3 A3 σ3 h3 ρ σ w ρ2 a1 w2 hro (hf1.mono hle2) hr2 hs2) ?_)
  rintro e a3 w3 ⟨ρ3, he, hf3, hr3, hs3⟩
  have fin : ∀ j, (match runA P (Instr.endRound l j) σ3 with
      | some (.ok v σ) => some (Er.ret v σ)
      | _ => none) = some r → ∃ v w', (Instr.endRound l' j).run P w3 = .ok v w' ∧ EndR ρ σ w r (.returned v) w' := by
    intro j h
    have hb := fun x he => (sim_endRound (P := P) (hs3.le.φ _ _ hl) j).out hr3 (r := x) he
    generalize runA P (Instr.endRound l j) σ3 = z at h hb
    cases z with
    | none => cases h
    | some z =>
    cases z with
    | panic v σ4 => cases h
    | ok v σ4 =>
    obtain ⟨ρ4, v', w4, hle4, hrun4, hr4, hk4, hv⟩ := hb _ rfl
    cases Option.some.inj h
    exact ⟨v', w4, hrun4, ρ4, v', rfl, hv, hr4, hs3.trans ⟨hle4, hk4⟩⟩
  cases he with
  | normal => exact fin none h
  | ret => exact fin (some .ret) h
  | exit id => exact fin (some (.exit id)) h
  | panic hv => cases h
theorem nx_sound (hz : ZeroOk P) (hn : ∀ (f : Nat) (fn : Func), P.funcs[f]? = some fn → (fn.name == "runtime.NumGoroutine") = false) (hm : P.follows .mixedOrders = true) {sums : FuncId → Option (Array Value → St → Option Er)}
    (hsum : ∀ g s, sums g = some s → ∀ args σ r, s args σ = some r → CallSound P g args σ r) (fuel : Nat) : ∀ (n : Nat) (x : Next) (σ : St) (r : Er), evNx P sums fuel n x σ = some r → NextSound P x σ r := by
  intro n
  induction n with
  | zero => intro x σ r h; cases h
  | succ n ih =>
  intro x σ r h
  unfold evNx at h
  cases x with
  | round l g t x y => exact rnd_sound hz hn hm ih h
  | enter g args =>
    simp only at h
    intro ρ n' w hnr hr
    cases hnr with
    | @enter _ _ args' ha =>
    show Calls P g args' w _
    cases hsg : sums g with
    | some s => rw [hsg] at h; exact hsum g s hsg args σ r h ρ args' w ha hr
    | none =>
    rw [hsg] at h
    simp only at h
    cases hfn : P.funcs[g]? with
    | none => rw [hfn] at h; cases h
    | some fn =>
    rw [hfn] at h
    simp only at h
    cases hb : fn.body with
    | none => rw [hb] at h; cases h
    | some c =>
    rw [hb] at h
    cases hle : Nat.ble args.size fn.ntmps with
    | false => rw [hle] at h; cases h
    | true =>
    rw [hle] at h
    simp only at h
    cases hev : evC P (evNx P sums fuel n) (evDraw P (evNx P sums fuel n)) none fuel c (Fr.enter args.toList fn.ntmps) σ with
    | none => rw [hev] at h; cases h
    | some q =>
    obtain ⟨x, A, σ1⟩ := q
    rw [hev] at h
    refine calls_of_wp_leavesE hfn hb (wp_mono (wpIn_wide.1 (code_sound hz hn ih (draw_sound hz hn hm ih) none none fuel c _ σ x A σ1 hev ρ σ w ρ _ w (.inl ⟨rfl, rfl⟩) (.enter ha (Nat.le_of_ble_eq_true hle)) hr (.refl ρ σ w))) ?_)
    rintro e a1 w1 ⟨ρ1, he, hf1, hr1, hs1⟩
    cases he with
    | normal => exact leave_sound hz hn hm ih A.defers a1.defers .ret σ1 h hf1.dl ρ1 .returning w1 hf1.defers .ret hf1 hr1 hs1
    | ret => exact leave_sound hz hn hm ih A.defers a1.defers .ret σ1 h hf1.dl ρ1 .returning w1 hf1.defers .ret hf1 hr1 hs1
    | panic hv => exact leave_sound hz hn hm ih A.defers a1.defers _ σ1 h hf1.dl ρ1 _ w1 hf1.defers (.pan hv) hf1 hr1 hs1
    | exit id => cases h
  | _ => cases h
theorem run_sound (hz : ZeroOk P) (hn : ∀ (f : Nat) (fn : Func), P.funcs[f]? = some fn → (fn.name == "runtime.NumGoroutine") = false) (hm : P.follows .mixedOrders = true) {sums : FuncId → Option (Array Value → St → Option Er)}
    (hsum : ∀ g s, sums g = some s → ∀ args σ r, s args σ = some r → CallSound P g args σ r) (fuel n : Nat) (g : FuncId) (args : Array Value) (σ : St) (r : Er) (h : evRun P sums fuel n g args σ = some r) : CallSound P g args σ r :=
  fun ρ args' w ha hr => nx_sound hz hn hm hsum fuel n (.enter g args) σ r h ρ (.enter g args') w (.enter g ha) hr
end
end Go.Ev
/- strings.Builder's check of copies and its String: what they do, exactly, and their summaries for the evaluator. -/
namespace Go.Proofs.YtneohoclgnfdcaaGreatDoor
open Go.RowKit
open Go.Lib
theorem bld_infoE : (Tryz.prog.info? 59).map (·.size) = some 2 := by kernel_rfl
set_option maxHeartbeats 1000000 in
set_option maxRecDepth 100000 in
theorem bcheck_usedE (b : Nat) (w : World) (h0 : w.cell? ⟨b, 0, none⟩ = some (.pointer (some ⟨b, 0, none⟩))) :
    Calls Tryz.prog 37 #[.pointer (some ⟨b, 0, none⟩)] w fun e w' => e = .returned (.tuple #[]) ∧ w' = w := by
  obtain ⟨j, hj, _⟩ := Option.map_eq_some_iff.1 bld_infoE
  go_enter Tryz.func37, Tryz.ntmps37
  go_wp2
  rw [Lib.run_neq_ptr_same w _ Tryz.underlying57 hj]
  go_wp2
  go_end0
  exact ⟨rfl, rfl⟩
set_option maxHeartbeats 1000000 in
set_option maxRecDepth 100000 in
theorem bcheck_freshE (b : Nat) (w : World) (h0 : w.cell? ⟨b, 0, none⟩ = some (.pointer none)) (hsh : w.shape? b = some (59, 2)) (hfz : w.frozen? ⟨b, 0, none⟩ = false) :
    Calls Tryz.prog 37 #[.pointer (some ⟨b, 0, none⟩)] w fun e w' => e = .returned (.tuple #[]) ∧ w' = w.setCell ⟨b, 0, none⟩ (.pointer (some ⟨b, 0, none⟩)) := by
  obtain ⟨j, hj, hjs⟩ := Option.map_eq_some_iff.1 bld_infoE
  go_enter Tryz.func37, Tryz.ntmps37
  go_wp2
  rw [Lib.run_to_unsafe w ⟨b, 0, none⟩ Tryz.underlying57 Tryz.underlying111 hj (by rw [hjs]; decide) hsh (Nat.zero_lt_succ 1)]
  simp only [Result.andThen]
  rw [Oper.upon_value]
  go_wp2
  rw [run_callFunc_extern Tryz.func63 (by kernel_rfl) (by kernel_rfl) (by kernel_rfl) (e := Extern.AbiNoEscape.same) (by kernel_rfl)]
  rw [Lib.run_noEscape]
  simp only [Result.andThen]
  rw [Oper.upon_value]
  go_wp2
  rw [Lib.run_from_unsafe w ⟨b, 0, none⟩ Tryz.underlying111 Tryz.underlying57 hj hsh (by kernel_rfl)]
  simp only [Result.andThen]
  rw [Oper.upon_value]
  go_wp2
  go_end0
  exact ⟨rfl, rfl⟩
/-- nothing but draws -/
def OnlyDrew (w w' : World) : Prop := w'.heap = w.heap ∧ w'.os = w.os ∧ w'.tape = w.tape ∧ w'.output = w.output
set_option maxHeartbeats 2000000 in
set_option maxRecDepth 100000 in
theorem bstring_nilE (b n c : Nat) (w : World) (hn : n = 0) (c0 : w.cell? ⟨b, 1, none⟩ = some (.slice none n c)) :
    Calls Tryz.prog 24 #[.pointer (some ⟨b, 0, none⟩)] w fun e w' => e = .returned (.string ⟨#[]⟩) ∧ OnlyDrew w w' := by
  subst hn
  have c1 : w.drew.cell? ⟨b, 1, none⟩ = some (.slice none 0 c) := c0
  have hSD : ∀ ts ty, (Builtin.unsafeSliceData_ ts ty #[.slice none 0 c]).run Tryz.prog w.drew = .ok (.pointer none) w.drew := fun _ _ => rfl
  have hUS : ∀ pt it ty (W : World), (Builtin.unsafeString_ #[pt, it] ty #[.pointer none, .int .i64 0]).run Tryz.prog W = .ok (.string .empty) W := fun pt it ty W => Lib.run_unsafeString_none W pt it ty none
  go_enter Tryz.func24, Tryz.ntmps24
  go_wp2
  go_region
  all_goals (go_wp2; go_ret; exact ⟨rfl, rfl, rfl, rfl, rfl⟩)
theorem byte_cellsE : Tryz.prog.cellsOf 5 = 1 := by kernel_rfl
set_option maxHeartbeats 2000000 in
set_option maxRecDepth 100000 in
theorem bstring_rowE (b g c m : Nat) (l : List UInt8) (w : World) (h0 : l ≠ []) (hc : c ≠ 0) (c0 : w.cell? ⟨b, 1, none⟩ = some (.slice (some ⟨g, 0, none⟩) l.length c)) (hsh : w.shape? g = some (5, m)) (hm : l.length ≤ m)
    (h63 : l.length ≤ 9223372036854775807) (hcell : ∀ j x, l[j]? = some x → w.cell? ((⟨g, 0, none⟩ : Addr).add j) = some (.int .u8 x.toNat)) :
    Calls Tryz.prog 24 #[.pointer (some ⟨b, 0, none⟩)] w fun e w' => e = .returned (.string ⟨l.toArray⟩) ∧ ∃ u, OnlyDrew w u ∧ w' = u.freeze ⟨g, 0, none⟩ l.length := by
  have c1 : w.drew.cell? ⟨b, 1, none⟩ = some (.slice (some ⟨g, 0, none⟩) l.length c) := c0
  have hSD : ∀ ts ty, (Builtin.unsafeSliceData_ ts ty #[.slice (some ⟨g, 0, none⟩) l.length c]).run Tryz.prog w.drew = .ok (.pointer (some ⟨g, 0, none⟩)) w.drew := fun _ _ => Lib.run_unsafeSliceData_row w.drew _ _ _ _ _ hc
  have hUS : ∀ it ty, (Builtin.unsafeString_ #[90, it] ty #[.pointer (some ⟨g, 0, none⟩), .int .i64 l.length]).run Tryz.prog w.drew = .ok (.string ⟨l.toArray⟩) (w.drew.freeze ⟨g, 0, none⟩ l.length) := fun it ty =>
    Lib.run_unsafeString_row w.drew _ it ty 5 (by kernel_rfl) byte_cellsE g m hsh l h0 hm h63 hcell
  go_enter Tryz.func24, Tryz.ntmps24
  go_wp2
  go_region
  all_goals (go_wp2; go_ret; exact ⟨rfl, w.drew, ⟨rfl, rfl, rfl, rfl⟩, rfl⟩)
end Go.Proofs.YtneohoclgnfdcaaGreatDoor
/- The summaries of strings.Builder's check of copies and String, and their soundness; the evaluator of this program. -/
namespace Go.Ev
def rowOf (σ : St) (b : Nat) : Option Blk := match σ.heap.get b with | some (.row r) => some r | _ => none
theorem rowOf_some {σ : St} {b : Nat} {r : Blk} (h : rowOf σ b = some r) : σ.heap.get b = some (.row r) := by
  unfold rowOf at h
  split at h
  · rename_i q; cases Option.some.inj h; exact q
  · cases h
def sumCheck (T : Nat) (args : Array Value) (σ : St) : Option Er :=
  match args.toList with
  | [.pointer (some a)] => match a.spot, Nat.beq a.off 0, rowOf σ a.block with
    | none, true, some r => match r.own && Nat.beq r.ty T && Nat.beq r.sz 0, r.cells with
      | true, [.pointer none, _] => match σ.put a (.pointer (some a)) with
        | some σ' => some (.ret (.tuple #[]) σ')
        | none => none
      | true, [.pointer (some q), _] => match q.spot, Nat.beq q.off 0 && Nat.beq q.block a.block with
        | none, true => some (.ret (.tuple #[]) σ)
        | _, _ => none
      | _, _ => none
    | _, _, _ => none
  | _ => none
def bytesOf : List Value → Option (List UInt8)
  | [] => some []
  | .int .u8 (.ofNat n) :: l => match Nat.ble n 255, bytesOf l with
    | true, some r => some (UInt8.ofNat n :: r)
    | _, _ => none
  | _ => none
theorem bytesOf_get : ∀ {l : List Value} {r : List UInt8}, bytesOf l = some r → r.length = l.length ∧ ∀ (j : Nat) (x : UInt8), r[j]? = some x → l[j]? = some (.int .u8 x.toNat) := by
  intro l
  induction l with
  | nil => intro r h; cases Option.some.inj h; exact ⟨rfl, fun j x hx => by simp at hx⟩
  | cons v l ih =>
    intro r h
    unfold bytesOf at h
    split at h
    · rename_i heq; cases heq
    · rename_i n0 l0 heq
      cases heq
      split at h
      · rename_i r0 h1 h2
        cases Option.some.inj h
        obtain ⟨e1, e2⟩ := ih h2
        refine ⟨by simp [e1], fun j x hx => ?_⟩
        cases j with
        | zero =>
          simp only [List.getElem?_cons_zero] at hx ⊢
          cases Option.some.inj hx
          have : n0 ≤ 255 := Nat.le_of_ble_eq_true h1
          have h3 : (UInt8.ofNat n0).toNat = n0 := by simp; omega
          rw [h3]; rfl
        | succ j => simp only [List.getElem?_cons_succ] at hx ⊢; exact e2 j x hx
      · cases h
    · cases h
def sumString (e : Nat) (args : Array Value) (σ : St) : Option Er :=
  match args.toList with
  | [.pointer (some a)] => match a.spot, Nat.beq a.off 0, rowOf σ a.block with
    | none, true, some r => match r.cells with
      | [_, .slice none n _] => match Nat.beq n 0 with
        | true => some (.ret (.string ⟨#[]⟩) σ)
        | false => none
      | [_, .slice (some q) n c] => match q.spot, Nat.beq q.off 0, rowOf σ q.block with
        | none, true, some t => match t.own && Nat.beq t.ty e && Nat.ble 1 n && Nat.ble n 9223372036854775807 && !Nat.beq c 0 && Nat.ble n t.cells.length && !(Nat.beq c big && Nat.beq t.sz 0), bytesOf (t.cells.take n) with
          | true, some l => some (.ret (.string ⟨l.toArray⟩) { σ with heap := σ.heap.set q.block none })
          | _, _ => none
        | _, _, _ => none
      | _ => none
    | _, _, _ => none
  | _ => none
/-- a block of the call's own is forgotten -/
theorem Rel.forget {ρ : Ren} {σ : St} {w w' : World} {b k : Nat} {o : AObj} (h : Rel ρ σ w) (hg : σ.heap.get b = some o) (ho : o.own = true) (hk : ρ.φ b = some k) (hne : ∀ j, j ≠ k → w'.heap[j]? = w.heap[j]?) :
    Rel ρ { σ with heap := σ.heap.set b none } w' where
  live := by
    intro id ob hid
    simp only [T.get_set] at hid
    by_cases e : id = b
    · rw [if_pos e] at hid; cases hid
    · rw [if_neg e] at hid
      obtain ⟨j, y, q1, q2, q3⟩ := h.live id ob hid
      have hj : j ≠ k := fun e2 => by
        refine e (h.inj b id _ _ hg hid ho ?_).symm
        rw [hk, q1, e2]
      exact ⟨j, y, q1, by rw [hne j hj]; exact q2, q3⟩
  inj := by
    intro i j oi oj hi hj hoo hφ
    simp only [T.get_set] at hi hj
    split at hi
    · cases hi
    · split at hj
      · cases hj
      · exact h.inj i j oi oj hi hj hoo hφ
  fresh := h.fresh
  glob := h.glob
  gn := h.gn
theorem Keep.forget {ρ : Ren} {σ : St} {w w' : World} {b k : Nat} {o : AObj} (hg : σ.heap.get b = some o) (ho : o.own = true) (hk : ρ.φ b = some k) (hne : ∀ j, j ≠ k → w'.heap[j]? = w.heap[j]?) (hs : w'.heap.size = w.heap.size)
    (h2 : w'.os = w.os) (h3 : w'.tape = w.tape) (h4 : w'.output = w.output) :
    Keep ρ σ ρ { σ with heap := σ.heap.set b none } w w' where
  size := by rw [hs]; exact Nat.le_refl _
  os := h2
  tape := h3
  output := h4
  glob := rfl
  next := Nat.le_refl _
  dom := fun _ _ => ⟨rfl, rfl⟩
  old := fun j _ hn => hne j fun e => hn b o hg ho (by rw [hk, e])
  new := by
    intro id ob j hid hj
    simp only [T.get_set] at hid
    split at hid
    · cases hid
    · exact .inl ⟨ob, hid, rfl, hj⟩
/-- what is left of the world by draws and the freezing of a row -/
theorem freeze_facts (u : World) (g n : Nat) : (∀ j, j ≠ g → (u.freeze ⟨g, 0, none⟩ n).heap[j]? = u.heap[j]?) ∧ (u.freeze ⟨g, 0, none⟩ n).heap.size = u.heap.size ∧ (u.freeze ⟨g, 0, none⟩ n).os = u.os ∧ (u.freeze ⟨g, 0, none⟩ n).tape = u.tape ∧ (u.freeze ⟨g, 0, none⟩ n).output = u.output := by
  unfold World.freeze
  split
  · exact ⟨fun _ _ => rfl, rfl, rfl, rfl, rfl⟩
  · refine ⟨fun j hj => ?_, by simp, rfl, rfl, rfl⟩
    have : ¬ g = j := fun e => hj e.symm
    simp [Array.getElem?_modify, this]
section
variable {P : Program} {f : FuncId} {T e : Nat}
/-- an argument that is one pointer to an own place of the abstract memory -/
theorem one_ptr {args : Array Value} {a : Addr} {ρ : Ren} {args' : Array Value} (hl : args.toList = [.pointer (some a)]) (hs : a.spot = none) (ho : a.off = 0) (h : VRs ρ args args') :
    ∃ k, ρ.φ a.block = some k ∧ args' = #[.pointer (some ⟨k, 0, none⟩)] := by
  obtain ⟨b, o, s⟩ := a
  simp only at hs ho
  subst hs ho
  obtain ⟨l⟩ := args
  simp only at hl
  subst hl
  obtain ⟨h1, h2⟩ := h
  obtain ⟨l'⟩ := args'
  simp at h1
  match l', h1 with
  | [v'], _ =>
    have := h2 0 (.pointer (some ⟨b, 0, none⟩)) v' (by simp) (by simp)
    cases this with
    | ptr h => exact ⟨_, h, rfl⟩
theorem sumCheck_sound (h1 : ∀ (b : Nat) (w : World), w.cell? ⟨b, 0, none⟩ = some (.pointer (some ⟨b, 0, none⟩)) → Calls P f #[.pointer (some ⟨b, 0, none⟩)] w fun e w' => e = .returned (.tuple #[]) ∧ w' = w)
    (h2 : ∀ (b : Nat) (w : World), w.cell? ⟨b, 0, none⟩ = some (.pointer none) → w.shape? b = some (T, 2) → w.frozen? ⟨b, 0, none⟩ = false →
      Calls P f #[.pointer (some ⟨b, 0, none⟩)] w fun e w' => e = .returned (.tuple #[]) ∧ w' = w.setCell ⟨b, 0, none⟩ (.pointer (some ⟨b, 0, none⟩)))
    (args : Array Value) (σ : St) (r : Er) (h : sumCheck T args σ = some r) : CallSound P f args σ r := by
  intro ρ args' w ha hr
  unfold sumCheck at h
  split at h
  · rename_i a hl
    split at h
    · rename_i x1 x2 rr hs ho hrow
      have ho := Nat.eq_of_beq_eq_true ho
      obtain ⟨k, hk, rfl⟩ := one_ptr hl hs ho ha
      have hg := rowOf_some hrow
      obtain ⟨k', y, e1, e2, cs, ty, fr, rfl, hR⟩ := hr.live _ _ hg
      have : k' = k := by rw [hk] at e1; exact (Option.some.inj e1).symm
      subst this
      split at h
      · rename_i c1 hb hc
        simp only [Bool.and_eq_true, Nat.beq_eq] at hb
        obtain ⟨⟨hown, hty⟩, hsz⟩ := hb
        obtain ⟨v', p1, p2⟩ := hR.get 0 (.pointer none) (by rw [hc]; rfl)
        have hv : v' = .pointer none := by cases p2; rfl
        subst hv
        have hcs : cs.size = 2 := by rw [hR.eq hsz, hc]; rfl
        have hfr := hR.fr hown
        subst hfr
        have hcell : w.cell? ⟨k', 0, none⟩ = some (.pointer none) := by simp [World.cell?, e2, p1]
        have hsh : w.shape? k' = some (T, 2) := by simp [World.shape?, e2, hR.ty, hty, hcs]
        have hfz : w.frozen? ⟨k', 0, none⟩ = false := by simp [World.frozen?, e2]
        cases hp : σ.put a (.pointer (some a)) with
        | none => rw [hp] at h; cases h
        | some σ1 =>
        rw [hp] at h
        cases Option.some.inj h
        refine (h2 k' w hcell hsh hfz).mono ?_
        rintro e w' ⟨rfl, rfl⟩
        have hA : AdR ρ a ⟨k', 0, none⟩ := ⟨hs, rfl, ho.symm, hk⟩
        have hsim := sim_store (P := P) (m := default) hA hA.ptr σ w hr (.ok () σ1) (by
          change (match flat (.pointer (some a)), σ.put ⟨a.block, a.off, a.spot⟩ (.pointer (some a)) with | true, some s' => runA P (Sem.pure ()) s' | _, _ => none) = _
          rw [show σ.put ⟨a.block, a.off, a.spot⟩ (.pointer (some a)) = some σ1 from hp]
          rfl)
        obtain ⟨ρ', x', w1, q1, q2, q3, q4, -⟩ := hsim
        have hw : w1 = w.setCell ⟨k', 0, none⟩ (.pointer (some ⟨k', 0, none⟩)) := by
          have : (store ⟨k', 0, none⟩ (.pointer (some ⟨k', 0, none⟩)) default).run P w = .ok () (w.setCell ⟨k', 0, none⟩ (.pointer (some ⟨k', 0, none⟩))) := by simp [store, Sem.run, hcell, hfz]
          rw [this] at q2
          cases q2
          rfl
        subst hw
        exact ⟨ρ', .tuple #[], rfl, .tuple rfl (fun i v v' h => by simp at h), q3, q1, q4⟩
      · rename_i q x hb hc
        simp only [Bool.and_eq_true, Nat.beq_eq] at hb
        split at h
        · rename_i hqs hq
          simp only [Bool.and_eq_true, Nat.beq_eq] at hq
          cases Option.some.inj h
          obtain ⟨v', p1, p2⟩ := hR.get 0 (.pointer (some q)) (by rw [hc]; rfl)
          obtain ⟨qb, qo, qs⟩ := q
          simp only at hqs hq
          obtain ⟨rfl, rfl⟩ := hq
          subst hqs
          have hv : v' = .pointer (some ⟨k', 0, none⟩) := by
            cases p2 with
            | ptr h => rw [hk] at h; rw [Option.some.inj h]
          subst hv
          refine (h1 k' w (by simp [World.cell?, e2, p1])).mono ?_
          rintro e w' ⟨rfl, rfl⟩
          exact ⟨ρ, .tuple #[], rfl, .tuple rfl (fun i v v' h => by simp at h), hr, .refl ρ, .refl _⟩
        · cases h
      · cases h
    · cases h
  · cases h
theorem sumString_sound (h1 : ∀ (b n c : Nat) (w : World), n = 0 → w.cell? ⟨b, 1, none⟩ = some (.slice none n c) → Calls P f #[.pointer (some ⟨b, 0, none⟩)] w fun e w' => e = .returned (.string ⟨#[]⟩) ∧ (w'.heap = w.heap ∧ w'.os = w.os ∧ w'.tape = w.tape ∧ w'.output = w.output))
    (h2 : ∀ (b g c m : Nat) (l : List UInt8) (w : World), l ≠ [] → c ≠ 0 → w.cell? ⟨b, 1, none⟩ = some (.slice (some ⟨g, 0, none⟩) l.length c) → w.shape? g = some (e, m) → l.length ≤ m → l.length ≤ 9223372036854775807 →
      (∀ (j : Nat) (x : UInt8), l[j]? = some x → w.cell? ((⟨g, 0, none⟩ : Addr).add j) = some (.int .u8 x.toNat)) →
      Calls P f #[.pointer (some ⟨b, 0, none⟩)] w fun e w' => e = .returned (.string ⟨l.toArray⟩) ∧ ∃ u : World, (u.heap = w.heap ∧ u.os = w.os ∧ u.tape = w.tape ∧ u.output = w.output) ∧ w' = u.freeze ⟨g, 0, none⟩ l.length)
    (args : Array Value) (σ : St) (r : Er) (h : sumString e args σ = some r) : CallSound P f args σ r := by
  intro ρ args' w ha hr
  unfold sumString at h
  split at h
  · rename_i a hl
    split at h
    · rename_i x1 x2 rr hs ho hrow
      have ho := Nat.eq_of_beq_eq_true ho
      obtain ⟨k, hk, rfl⟩ := one_ptr hl hs ho ha
      have hg := rowOf_some hrow
      obtain ⟨k', y, e1, e2, cs, ty, fr, rfl, hR⟩ := hr.live _ _ hg
      have : k' = k := by rw [hk] at e1; exact (Option.some.inj e1).symm
      subst this
      split at h
      · rename_i p0 n c hc
        cases hb : Nat.beq n 0 with
        | false => rw [hb] at h; cases h
        | true =>
        rw [hb] at h
        cases Option.some.inj h
        obtain ⟨v', p1, p2⟩ := hR.get 1 (.slice none n c) (by rw [hc]; rfl)
        have hv : v' = .slice none n c := by cases p2; rfl
        subst hv
        refine (h1 k' n c w (Nat.eq_of_beq_eq_true hb) (by simp [World.cell?, e2, p1])).mono ?_
        rintro e w' ⟨rfl, q1, q2, q3, q4⟩
        exact ⟨ρ, _, rfl, .string _, hr.heap_eq q1, .refl ρ, .drew q1 q2 q3 q4⟩
      · rename_i p0 q n c hc
        split at h
        · rename_i y1 y2 t hqs hqo hrow2
          split at h
          · rename_i l hb hl2
            simp only [Bool.and_eq_true, Nat.beq_eq, Nat.ble_eq, Bool.not_eq_true'] at hb
            obtain ⟨⟨⟨⟨⟨⟨b1, b2⟩, b3⟩, b4⟩, b5⟩, b6⟩, b7⟩ := hb
            cases Option.some.inj h
            obtain ⟨qb, qo, qs⟩ := q
            simp only at hqs hqo hrow2
            have hqo := Nat.eq_of_beq_eq_true hqo
            subst hqo hqs
            obtain ⟨hlen, hget⟩ := bytesOf_get hl2
            have hln : l.length = n := by rw [hlen, List.length_take]; omega
            have hg2 := rowOf_some hrow2
            obtain ⟨g, y, g1, g2, cs2, ty2, fr2, rfl, hR2⟩ := hr.live _ _ hg2
            obtain ⟨v', p1, p2⟩ := hR.get 1 (.slice (some ⟨qb, 0, none⟩) n c) (by rw [hc]; rfl)
            obtain ⟨c', hcR, rfl⟩ : ∃ c', CapR ρ qb 0 c c' ∧ v' = .slice (some ⟨g, 0, none⟩) n c' := by
              cases p2 with
              | slice h hcap => rw [g1] at h; cases Option.some.inj h; exact ⟨_, hcap, rfl⟩
            have hle2 := hR2.le
            have hc0 : c' ≠ 0 := by
              unfold CapR at hcR
              split at hcR
              · obtain ⟨R, z, r1, rfl⟩ := hcR
                intro hz
                have hR0 : R = 0 := by simpa using hz
                by_cases hsz : t.sz = 0
                · rename_i hcb
                  rw [hcb, hsz] at b7
                  cases b7
                · obtain ⟨R', r2, r3⟩ := hR2.room hsz
                  rw [r1] at r2
                  cases Option.some.inj r2
                  rw [hR0] at r3
                  simp at r3
                  rw [r3] at hle2
                  simp at hle2
                  rw [hle2] at b6
                  simp at b6
                  omega
              · intro hz
                rw [← hcR, hz] at b5
                cases b5
            refine (h2 k' g c' cs2.size l w (by intro hz; rw [hz] at hln; simp at hln; omega) hc0 (by rw [hln]; simp [World.cell?, e2, p1]) (by simp [World.shape?, g2, hR2.ty, b2]) (by omega) (by omega) ?_).mono ?_
            · intro j x hx
              have hj := hget j x hx
              have hj2 : t.cells[j]? = some (.int .u8 x.toNat) := by
                rw [List.getElem?_take] at hj
                split at hj
                · exact hj
                · cases hj
              obtain ⟨v', s1, s2⟩ := hR2.get j _ hj2
              have : v' = .int .u8 x.toNat := by cases s2; rfl
              subst this
              have hadd : (⟨g, 0, none⟩ : Addr).add j = ⟨g, j, none⟩ := by
                unfold Addr.add
                split
                · rename_i hj0; rw [hj0]
                · simp
              rw [hadd]
              simp [World.cell?, g2, s1]
            · rintro e w' ⟨rfl, u, ⟨q1, q2, q3, q4⟩, rfl⟩
              obtain ⟨f1, f2, f3, f4, f5⟩ := freeze_facts u g l.length
              have hne : ∀ j, j ≠ g → (u.freeze ⟨g, 0, none⟩ l.length).heap[j]? = w.heap[j]? := fun j hj => by rw [f1 j hj, q1]
              exact ⟨ρ, _, rfl, .string _, hr.forget hg2 b1 g1 hne, .refl ρ, .forget hg2 b1 g1 hne (by rw [f2, q1]) (by rw [f3, q2]) (by rw [f4, q3]) (by rw [f5, q4])⟩
          · cases h
        · cases h
      · cases h
    · cases h
  · cases h
end
end Go.Ev
namespace Go.Proofs.YtneohoclgnfdcaaGreatDoor
open Go.Ev
/-- the evaluator's summaries of this program -/
def sums (f : FuncId) : Option (Array Value → St → Option Er) :=
  match Nat.beq f 37, Nat.beq f 24 with
  | true, _ => some (sumCheck 59)
  | false, true => some (sumString 5)
  | false, false => none
theorem sums_sound (g : FuncId) (s : Array Value → St → Option Er) (hs : sums g = some s) (args : Array Value) (σ : St) (r : Er) (h : s args σ = some r) : CallSound Tryz.prog g args σ r := by
  unfold sums at hs
  split at hs
  · rename_i h1
    cases Option.some.inj hs
    have := Nat.eq_of_beq_eq_true h1
    subst this
    exact sumCheck_sound bcheck_usedE bcheck_freshE args σ r h
  · rename_i h1
    cases Option.some.inj hs
    have := Nat.eq_of_beq_eq_true h1
    subst this
    exact sumString_sound bstring_nilE bstring_rowE args σ r h
  · cases hs
end Go.Proofs.YtneohoclgnfdcaaGreatDoor
/- A closed call that evaluates to true answers true in every world. -/
namespace Go.Ev
def zeroB (i : TypeInfo) : Bool := match i.zero with | some z => plainV 6 z | none => true
def Selfs (z : Value) : Prop := ∀ ρ : Ren, VR ρ z z
theorem Selfs.cells {z : Value} (h : Selfs z) : ∀ v ∈ z.cells.toList, Selfs v := by
  intro v hv ρ
  obtain ⟨h1, h2⟩ := (h ρ).cells
  obtain ⟨n, hn, e⟩ := List.getElem_of_mem hv
  have : z.cells[n]? = some v := by rw [← e]; simp
  exact h2 n v v this this
theorem Selfs.agg {cs : Array Value} (h : ∀ v ∈ cs.toList, Selfs v) : Selfs (.agg cs) := fun ρ =>
  let k := VRs.refl_of fun v hv => h v hv ρ
  .agg k.1 k.2
theorem forIn_inv {α β : Type} (I : β → Prop) (f : α → β → Option (ForInStep β)) (hf : ∀ a b r, I b → f a b = some r → I r.value) : ∀ (l : List α) (b b' : β), I b → forIn l b f = some b' → I b' := by
  intro l
  induction l with
  | nil => intro b b' hb h; cases Option.some.inj (show some b = some b' from h); exact hb
  | cons a l ih =>
    intro b b' hb h
    rw [List.forIn_cons] at h
    obtain ⟨r, hr, h2⟩ := Option.bind_eq_some_iff.1 h
    have := hf a b r hb hr
    cases r with
    | done x => cases Option.some.inj (show some x = some b' from h2); exact this
    | yield x => exact ih x b' this h2
theorem struct_zero {info : TypeId → Option TypeInfo} (hi : ∀ t i z, info t = some i → i.zero = some z → Selfs z) {fs : Array Field} {i : TypeInfo} {z : Value} (h : Made.reckonStruct info fs = some i) (hz : i.zero = some z) : Selfs z := by
  unfold Made.reckonStruct at h
  obtain ⟨s, hs, h2⟩ := Option.bind_eq_some_iff.1 h
  rw [← Array.forIn_toList] at hs
  have key := forIn_inv (fun s : Array Field × Nat × Nat × Nat × Nat × Bool × Bool × Option (Array Value) × String => ∀ cs, s.2.2.2.2.2.2.2.1 = some cs → ∀ v ∈ cs.toList, Selfs v) _ (by
    intro f s0 r hI hr
    obtain ⟨k, hk, hr⟩ := Option.bind_eq_some_iff.1 hr
    have fin : ∀ (c : Prop) [Decidable c] (cs : Array Value), (if c then none else (s0.2.2.2.2.2.2.2.1).bind fun a => k.zero.bind fun b => some (a ++ b.cells)) = some cs → ∀ v ∈ cs.toList, Selfs v := by
      intro c _ cs h v hv
      split at h
      · cases h
      · obtain ⟨a, ha, h⟩ := Option.bind_eq_some_iff.1 h
        obtain ⟨b, hb, h⟩ := Option.bind_eq_some_iff.1 h
        cases Option.some.inj h
        simp only [Array.toList_append, List.mem_append] at hv
        rcases hv with hv | hv
        · exact hI a ha v hv
        · exact (hi _ _ _ hk hb).cells v hv
    dsimp only at hr
    by_cases c1 : k.str.isEmpty = true
    · rw [if_pos c1] at hr; cases hr
    rw [if_neg c1] at hr
    by_cases c2 : f.embedded = true
    · rw [if_pos c2] at hr; cases hr
    rw [if_neg c2] at hr
    by_cases c3 : f.tag.isEmpty = true
    · rw [if_pos c3] at hr
      by_cases c4 : k.bytes = 0
      · simp only [if_pos c4] at hr
        cases Option.some.inj hr; exact fun cs => fin _ cs
      · simp only [if_neg c4] at hr
        cases Option.some.inj hr; exact fun cs => fin _ cs
    · rw [if_neg c3] at hr
      obtain ⟨tg, -, hr⟩ := Option.bind_eq_some_iff.1 hr
      by_cases c4 : k.bytes = 0
      · simp only [if_pos c4] at hr
        cases Option.some.inj hr; exact fun cs => fin _ cs
      · simp only [if_neg c4] at hr
        cases Option.some.inj hr; exact fun cs => fin _ cs) fs.toList _ s (by intro cs h v hv; cases Option.some.inj h; simp at hv) hs
  have h3 : i.zero = s.2.2.2.2.2.2.2.1.map .agg := by
    dsimp only at h2
    split at h2
    · cases Option.some.inj h2; rfl
    · cases Option.some.inj h2; rfl
  rw [h3] at hz
  obtain ⟨cs, h4, rfl⟩ := Option.map_eq_some_iff.1 hz
  exact .agg (key cs h4)
theorem reckon_zero {info : TypeId → Option TypeInfo} (hi : ∀ t i z, info t = some i → i.zero = some z → Selfs z) {d : TypeDesc} {i : TypeInfo} {z : Value} (h : Made.reckon info d = some i) (hz : i.zero = some z) : Selfs z := by
  unfold Made.reckon at h
  split at h
  · rename_i e
    obtain ⟨k, hk, h⟩ := Option.bind_eq_some_iff.1 h
    have fin : ∀ s, Made.word (.pointer e) s (.pointer none) true = i → Selfs z := by
      rintro s rfl
      cases Option.some.inj hz
      exact fun ρ => .nilPtr
    split at h
    · cases h
    · split at h
      · cases h
      · obtain ⟨k2, -, h⟩ := Option.bind_eq_some_iff.1 h
        exact fin _ (Option.some.inj h)
    · obtain ⟨k2, -, h⟩ := Option.bind_eq_some_iff.1 h
      exact fin _ (Option.some.inj h)
  · obtain ⟨k, -, h⟩ := Option.bind_eq_some_iff.1 h
    obtain ⟨k2, -, h⟩ := Option.bind_eq_some_iff.1 h
    cases Option.some.inj h
    cases Option.some.inj hz
    exact fun ρ => .nilSlice 0 0
  · obtain ⟨k, -, h⟩ := Option.bind_eq_some_iff.1 h
    obtain ⟨k2, -, h⟩ := Option.bind_eq_some_iff.1 h
    obtain ⟨k3, -, h⟩ := Option.bind_eq_some_iff.1 h
    obtain ⟨k4, -, h⟩ := Option.bind_eq_some_iff.1 h
    cases Option.some.inj h
    cases Option.some.inj hz
    exact fun ρ => .nilMap
  · obtain ⟨k, -, h⟩ := Option.bind_eq_some_iff.1 h
    obtain ⟨k2, -, h⟩ := Option.bind_eq_some_iff.1 h
    cases Option.some.inj h
    cases Option.some.inj hz
    exact fun ρ => .nilChan
  · obtain ⟨k, -, h⟩ := Option.bind_eq_some_iff.1 h
    cases Option.some.inj h
    cases Option.some.inj hz
    exact fun ρ => .nilFunc
  · obtain ⟨k, hk, h⟩ := Option.bind_eq_some_iff.1 h
    obtain ⟨k2, -, h⟩ := Option.bind_eq_some_iff.1 h
    cases Option.some.inj h
    simp only at hz
    split at hz
    · cases hz
    · split at hz
      · cases Option.some.inj hz; exact .agg fun v hv => by simp at hv
      · obtain ⟨z0, hz0, rfl⟩ := Option.map_eq_some_iff.1 hz
        refine .agg fun v hv => ?_
        have := (hi _ _ _ hk hz0).cells
        simp only [Array.toList_flatten, Array.toList_replicate, List.map_replicate, List.mem_flatten, List.mem_replicate] at hv
        obtain ⟨l, ⟨-, rfl⟩, hv⟩ := hv
        exact this v hv
  · exact struct_zero hi h hz
  · cases h
theorem infoAt_zero {T : Tables} (hT : ∀ (t : Nat) (i : TypeInfo) (z : Value), T.types[t]? = some i → i.zero = some z → Selfs z) : ∀ f t i z, Made.infoAt T f t = some i → i.zero = some z → Selfs z := by
  intro f
  induction f with
  | zero => intro t i z h; cases h
  | succ f ih =>
    intro t i z h hz
    unfold Made.infoAt at h
    split at h
    · exact hT t i z h hz
    · obtain ⟨d, -, h⟩ := Option.bind_eq_some_iff.1 h
      exact reckon_zero ih h hz
theorem zeroOk_of {P : Program} (h : P.types.toList.all zeroB = true) : ZeroOk P := by
  have hT : ∀ (t : Nat) (i : TypeInfo) (z : Value), P.types[t]? = some i → i.zero = some z → Selfs z := by
    intro t i z hi hz ρ
    have h1 : i ∈ P.types.toList := Array.mem_toList_iff.2 (Array.mem_of_getElem? hi)
    have := List.all_eq_true.1 h i h1
    unfold zeroB at this
    rw [hz] at this
    exact plain_refl 6 z this
  intro t i z hi hz
  unfold Tables.info? at hi
  split at hi
  · exact hT t i z hi hz
  · exact infoAt_zero hT _ t i z hi hz
theorem names_of {P : Program} (h : P.funcs.toList.all (fun fn => !(fn.name == "runtime.NumGoroutine")) = true) : ∀ (f : Nat) (fn : Func), P.funcs[f]? = some fn → (fn.name == "runtime.NumGoroutine") = false := by
  intro f fn hf
  have h1 : fn ∈ P.funcs.toList := Array.mem_toList_iff.2 (Array.mem_of_getElem? hf)
  have := List.all_eq_true.1 h fn h1
  simpa using this
def startS (n : Nat) : St := ⟨.leaf, n, n⟩
def startR (n : Nat) : Ren := ⟨fun g => if g < n then some g else none, fun _ => none⟩
theorem startRel (n : Nat) (w : World) : Rel (startR n) (startS n) w where
  live := fun id o h => by cases h
  inj := fun i j oi oj h => by cases h
  fresh := fun id h => ⟨by simp [startR]; exact h, rfl⟩
  glob := fun g h => by simp [startR]; exact h
  gn := Nat.le_refl _
def isTrue (r : Option Er) : Bool := match r with | some (.ret (.bool true) _) => true | _ => false
theorem true_of {P : Program} {f : FuncId} {n : Nat} {r : Option Er} (h : isTrue r = true) (hs : ∀ q, r = some q → CallSound P f #[] (startS n) q) (w : World) : Calls P f #[] w fun e w' => e = .returned (.bool true) ∧ Go.RowKit.Below w.heap.size w w' := by
  unfold isTrue at h
  split at h
  · rename_i σ'
    refine (hs _ rfl (startR n) #[] w ⟨rfl, fun i v v' h => by simp at h⟩ (startRel n w)).mono ?_
    rintro e w' ⟨ρ', v', rfl, hv, hr, hs⟩
    cases hv
    exact ⟨rfl, hs.keep.os, hs.keep.tape, hs.keep.output, hs.keep.size, fun k hk => hs.keep.old k hk fun id o h => by cases h⟩
  · cases h
end Go.Ev
namespace Go.Proofs.YtneohoclgnfdcaaGreatDoor
open Go.Ev
theorem zerosE : ZeroOk Tryz.prog := zeroOk_of (by kernel_rfl)
theorem namesE : ∀ (f : Nat) (fn : Func), Tryz.prog.funcs[f]? = some fn → (fn.name == "runtime.NumGoroutine") = false := names_of (by kernel_rfl)
theorem mixedE : Tryz.prog.follows .mixedOrders = true := by kernel_rfl
theorem evE {f : FuncId} {args : Array Value} {σ : St} {r : Er} (n : Nat) (h : evRun Tryz.prog sums 400 n f args σ = some r) : CallSound Tryz.prog f args σ r := run_sound zerosE namesE mixedE sums_sound 400 n f args σ r h
end Go.Proofs.YtneohoclgnfdcaaGreatDoor
/- Closed calls by evaluation: what a call does in a part of the abstract memory it does in the whole. -/
namespace Go.Ev
section
variable {P : Program}
theorem Rel.part {ρ : Ren} {σ0 σ : St} {w : World} (h : Rel ρ σ w) (hn : σ0.next = σ.next) (hg : σ0.glob = σ.glob) (hsub : ∀ id o, σ0.heap.get id = some o → σ.heap.get id = some o) : Rel ρ σ0 w where
  live := fun id o h1 => h.live id o (hsub id o h1)
  inj := fun i j oi oj hi hj => h.inj i j oi oj (hsub i oi hi) (hsub j oj hj)
  fresh := fun id h1 => h.fresh id (by rw [← hn]; exact h1)
  glob := fun g h1 => h.glob g (by rw [← hg]; exact h1)
  gn := by rw [hn, hg]; exact h.gn
/-- the whole memory behind the call: what the part holds then, and what the rest of the whole held before -/
structure Over (σ0 σ σ1 σ' : St) : Prop where
  next : σ'.next = σ1.next
  glob : σ'.glob = σ1.glob
  get : ∀ id o, σ'.heap.get id = some o → σ1.heap.get id = some o ∨ (σ.heap.get id = some o ∧ σ0.heap.get id = none)
theorem since_over {ρ ρ' : Ren} {σ0 σ σ1 σ' : St} {w w' : World} (h : Rel ρ σ w) (hn : σ0.next = σ.next) (hg : σ0.glob = σ.glob) (hsub : ∀ id o, σ0.heap.get id = some o → σ.heap.get id = some o)
    (ho : Over σ0 σ σ1 σ') (hr : Rel ρ' σ1 w') (hs : Since ρ σ0 w ρ' σ1 w') : Rel ρ' σ' w' ∧ Since ρ σ w ρ' σ' w' := by
  have hlt : ∀ id o, σ.heap.get id = some o → id < σ.next := by
    intro id o h1
    obtain ⟨k, x, h2, -⟩ := h.live id o h1
    rcases Nat.lt_or_ge id σ.next with h3 | h3
    · exact h3
    · rw [(h.fresh id h3).1] at h2; cases h2
  have hk : ∀ id o k, σ.heap.get id = some o → ρ.φ id = some k → k < w.heap.size := by
    intro id o k h1 h2
    obtain ⟨k', x, h3, h4, -⟩ := h.live id o h1
    rw [h2] at h3
    cases Option.some.inj h3
    exact (Array.getElem?_eq_some_iff.1 h4).1
  have hdom : ∀ id o, σ.heap.get id = some o → ρ'.φ id = ρ.φ id := fun id o h1 => (hs.keep.dom id (by rw [hn]; exact hlt id o h1)).1
  -- a block of the rest, and one of the part's
  have cross : ∀ i j oi oj k, σ.heap.get i = some oi → σ0.heap.get i = none → σ1.heap.get j = some oj → ρ.φ i = some k → ρ'.φ j = some k → (oi.own = true ∨ oj.own = true) → i = j := by
    intro i j oi oj k h1 h2 h3 h4 h5 h6
    rcases hs.keep.new j oj k h3 h5 with ⟨o0, q1, q2, q3⟩ | ⟨q0, q1 | ⟨id0, o0, q1, q2, q3⟩⟩
    · rcases h6 with h6 | h6
      · exact h.inj i j oi o0 h1 (hsub j o0 q1) h6 (by rw [h4, q3])
      · exact (h.inj j i o0 oi (hsub j o0 q1) h1 (q2.trans h6) (by rw [h4, q3])).symm
    · have := hk i oi k h1 h4; omega
    · have := h.inj id0 i o0 oi (hsub id0 o0 q1) h1 q2 (by rw [h4, q3])
      rw [this, h2] at q1; cases q1
  refine ⟨?_, hs.le, ?_⟩
  · refine ⟨?_, ?_, fun id h1 => hr.fresh id (by rw [← ho.next]; exact h1), fun g h1 => hr.glob g (by rw [← ho.glob]; exact h1), by rw [ho.next, ho.glob]; exact hr.gn⟩
    · intro id o h1
      rcases ho.get id o h1 with h2 | ⟨h2, h3⟩
      · exact hr.live id o h2
      · obtain ⟨k, x, q1, q2, q3⟩ := h.live id o h2
        refine ⟨k, x, hs.le.φ _ _ q1, ?_, q3.mono hs.le⟩
        rw [hs.keep.old k (hk id o k h2 q1) ?_]
        · exact q2
        · intro id0 o0 p1 p2 p3
          have := h.inj id0 id o0 o (hsub id0 o0 p1) h2 p2 (by rw [p3, q1])
          rw [this, h3] at p1; cases p1
    · intro i j oi oj hi hj hown hφ
      rcases ho.get i oi hi with h1 | ⟨h1, h1'⟩
      · rcases ho.get j oj hj with h2 | ⟨h2, h2'⟩
        · exact hr.inj i j oi oj h1 h2 hown hφ
        · obtain ⟨k, x, q1, -⟩ := h.live j oj h2
          exact (cross j i oj oi k h2 h2' h1 q1 (by rw [hφ, hdom j oj h2, q1]) (.inr hown)).symm
      · obtain ⟨k, x, q1, -⟩ := h.live i oi h1
        rcases ho.get j oj hj with h2 | ⟨h2, h2'⟩
        · exact cross i j oi oj k h1 h1' h2 q1 (by rw [← hφ, hdom i oi h1, q1]) (.inl hown)
        · exact h.inj i j oi oj h1 h2 hown (by rw [← hdom i oi h1, ← hdom j oj h2]; exact hφ)
  · refine ⟨hs.keep.size, hs.keep.os, hs.keep.tape, hs.keep.output, by rw [ho.glob, hs.keep.glob, hg], by rw [ho.next, ← hn]; exact hs.keep.next, fun id h1 => hs.keep.dom id (by rw [hn]; exact h1), fun k h1 h2 => hs.keep.old k h1 fun id o p1 => h2 id o (hsub id o p1), ?_⟩
    intro id o k h1 h2
    rcases ho.get id o h1 with h3 | ⟨h3, -⟩
    · rcases hs.keep.new id o k h3 h2 with ⟨o0, q1, q2⟩ | ⟨q0, q1 | ⟨id0, o0, q1, q2⟩⟩
      · exact .inl ⟨o0, hsub id o0 q1, q2⟩
      · exact .inr ⟨q0, .inl q1⟩
      · exact .inr ⟨q0, .inr ⟨id0, o0, hsub id0 o0 q1, q2⟩⟩
    · exact .inl ⟨o, h3, rfl, by rw [← hdom id o h3]; exact h2⟩
theorem call_over {f : FuncId} {args : Array Value} {σ0 σ σ1 σ' : St} {v : Value} (h : CallSound P f args σ0 (.ret v σ1)) (hn : σ0.next = σ.next) (hg : σ0.glob = σ.glob) (hsub : ∀ id o, σ0.heap.get id = some o → σ.heap.get id = some o) (ho : Over σ0 σ σ1 σ') :
    CallSound P f args σ (.ret v σ') := by
  intro ρ args' w ha hr
  refine (h ρ args' w ha (hr.part hn hg hsub)).mono ?_
  rintro e w' ⟨ρ', v', rfl, hv, hr', hs⟩
  obtain ⟨h1, h2⟩ := since_over hr hn hg hsub ho hr' hs
  exact ⟨ρ', v', rfl, hv, h1, h2⟩
end
end Go.Ev
/- Closed calls by evaluation: calls whose outcome is written down. -/
namespace Go.Ev
def sameO : AObj → AObj → Bool
  | .row a, .row b => all2 (sameV 6) a.cells b.cells && (Nat.beq a.ty b.ty && (Nat.beq a.sz b.sz && (match a.own, b.own with
    | true, true => true
    | false, false => true
    | _, _ => false)))
  | _, _ => false
theorem sameO_eq {a b : AObj} (h : sameO a b = true) : a = b := by
  cases a with
  | obj o => cases b <;> cases h
  | row a =>
    cases b with
    | obj o => cases h
    | row b =>
      obtain ⟨c, t, s, o⟩ := a
      obtain ⟨c', t', s', o'⟩ := b
      simp only [sameO, Bool.and_eq_true, Nat.beq_eq] at h
      obtain ⟨h1, rfl, rfl, h4⟩ := h
      rw [all2_eq (sameV_eq 6) _ _ h1]
      cases o <;> cases o' <;> first | rfl | cases h4
def isO (x : Option AObj) (o : AObj) : Bool := match x with
  | some y => sameO y o
  | none => false
theorem isO_eq {x : Option AObj} {o : AObj} (h : isO x o = true) : x = some o := by
  cases x with
  | none => cases h
  | some y => rw [sameO_eq h]
def mkT : List (Nat × AObj) → T AObj → T AObj
  | [], t => t
  | (i, o) :: l, t => mkT l (t.set i (some o))
theorem mkT_get : ∀ (l : List (Nat × AObj)) (t : T AObj) (id : Nat) (o : AObj), (mkT l t).get id = some o → (id, o) ∈ l ∨ t.get id = some o := by
  intro l
  induction l with
  | nil => intro t id o h; exact .inr h
  | cons p l ih =>
    obtain ⟨i, x⟩ := p
    intro t id o h
    rcases ih _ id o h with h | h
    · exact .inl (List.mem_cons_of_mem _ h)
    · rw [T.get_set] at h
      by_cases e : id = i
      · rw [if_pos e] at h; cases Option.some.inj h; subst e; exact .inl List.mem_cons_self
      · rw [if_neg e] at h; exact .inr h
def clearT : List (Nat × AObj) → T AObj → T AObj
  | [], t => t
  | (i, _) :: l, t => clearT l (t.set i none)
theorem clearT_get : ∀ (l : List (Nat × AObj)) (t : T AObj) (id : Nat) (o : AObj), (clearT l t).get id = some o → t.get id = some o ∧ ∀ x, (id, x) ∉ l := by
  intro l
  induction l with
  | nil => intro t id o h; exact ⟨h, fun x hx => by cases hx⟩
  | cons p l ih =>
    obtain ⟨i, y⟩ := p
    intro t id o h
    obtain ⟨h1, h2⟩ := ih _ id o h
    rw [T.get_set] at h1
    by_cases e : id = i
    · rw [if_pos e] at h1; cases h1
    · rw [if_neg e] at h1
      refine ⟨h1, fun x hx => ?_⟩
      cases hx with
      | head => exact e rfl
      | tail _ hx => exact h2 x hx
structure Memo where
  f : FuncId
  args : List Value
  next : Nat
  glob : Nat
  pre : List (Nat × AObj)
  v : Value
  post : List (Nat × AObj)
  next' : Nat
def Memo.start (m : Memo) : St := ⟨mkT m.pre .leaf, m.next, m.glob⟩
def sumMemo (m : Memo) (args : Array Value) (σ : St) : Option Er :=
  match all2 (sameV 6) args.toList m.args && (Nat.beq σ.next m.next && (Nat.beq σ.glob m.glob && m.pre.all fun p => isO (σ.heap.get p.1) p.2)) with
  | true => some (.ret m.v ⟨mkT m.post (clearT m.pre σ.heap), m.next', m.glob⟩)
  | false => none
def memoB (m : Memo) (r : Option Er) : Bool :=
  match r with
  | some (.ret v σ) => sameV 6 v m.v && (Nat.beq σ.next m.next' && (Nat.beq σ.glob m.glob && m.post.all fun p => isO (σ.heap.get p.1) p.2))
  | _ => false
def MemoSound (P : Program) (m : Memo) : Prop := ∀ args σ r, sumMemo m args σ = some r → CallSound P m.f args σ r
theorem memo_sound {P : Program} {m : Memo} {r : Option Er} (h : memoB m r = true) (hr : ∀ q, r = some q → CallSound P m.f m.args.toArray m.start q) : MemoSound P m := by
  intro args σ q hq
  unfold sumMemo at hq
  split at hq
  · rename_i hc
    cases Option.some.inj hq
    simp only [Bool.and_eq_true, Nat.beq_eq, List.all_eq_true] at hc
    obtain ⟨h1, h2, h3, h4⟩ := hc
    have ha : args = m.args.toArray := by
      have := all2_eq (sameV_eq 6) _ _ h1
      rw [← this]
    subst ha
    unfold memoB at h
    split at h
    · rename_i v σ1
      simp only [Bool.and_eq_true, Nat.beq_eq, List.all_eq_true] at h
      obtain ⟨q1, q2, q3, q4⟩ := h
      have hv := sameV_eq 6 _ _ q1
      subst hv
      have hpre : ∀ id o, m.start.heap.get id = some o → (id, o) ∈ m.pre := by
        intro id o h
        rcases mkT_get m.pre .leaf id o h with h | h
        · exact h
        · cases h
      refine call_over (hr _ rfl) h2.symm h3.symm (fun id o h => isO_eq (h4 (id, o) (hpre id o h))) ⟨q2.symm, q3.symm, fun id o h => ?_⟩
      rcases mkT_get _ _ id o h with h | h
      · exact .inl (isO_eq (q4 (id, o) h))
      · obtain ⟨k1, k2⟩ := clearT_get _ _ id o h
        refine .inr ⟨k1, ?_⟩
        cases hg : m.start.heap.get id with
        | none => rfl
        | some x => exact absurd (hpre id x hg) (k2 x)
    · cases h
  · cases hq
def findM : List Memo → Array Value → St → Option Er
  | [], _, _ => none
  | m :: l, args, σ => match sumMemo m args σ with
    | some r => some r
    | none => findM l args σ
def withM (base : FuncId → Option (Array Value → St → Option Er)) (f0 : FuncId) (l : List Memo) (f : FuncId) : Option (Array Value → St → Option Er) :=
  match Nat.beq f f0 with
  | true => some (findM l)
  | false => base f
theorem findM_sound {P : Program} {f : FuncId} : ∀ (l : List Memo), (∀ m ∈ l, m.f = f ∧ MemoSound P m) → ∀ args σ r, findM l args σ = some r → CallSound P f args σ r := by
  intro l
  induction l with
  | nil => intro _ args σ r h; cases h
  | cons m l ih =>
    intro hl args σ r h
    unfold findM at h
    split at h
    · rename_i r0 hm
      cases Option.some.inj h
      obtain ⟨h1, h2⟩ := hl m List.mem_cons_self
      subst h1
      exact h2 args σ _ hm
    · exact ih (fun m hm => hl m (List.mem_cons_of_mem _ hm)) args σ r h
theorem withM_sound {P : Program} {base : FuncId → Option (Array Value → St → Option Er)} (hb : ∀ g s, base g = some s → ∀ args σ r, s args σ = some r → CallSound P g args σ r) {f0 : FuncId} {l : List Memo} (hl : ∀ m ∈ l, m.f = f0 ∧ MemoSound P m) :
    ∀ g s, withM base f0 l g = some s → ∀ args σ r, s args σ = some r → CallSound P g args σ r := by
  intro g s h args σ r hs
  unfold withM at h
  split at h
  · rename_i hg
    have := Nat.eq_of_beq_eq_true hg
    subst this
    cases Option.some.inj h
    exact findM_sound l hl args σ r hs
  · exact hb g s h args σ r hs
end Go.Ev
/-
  DERIVED: THE SHELF's CONTRACTS AT THIS DUMP, IN PLAIN WORDS (tools/lay-plain.mjs out of 'TryzShelf.lean', which tools/lay-shelf.mjs wrote): THE SAME DECLARATIONS UNDER THE SAME NAMES: 'import', 'namespace', 'open', 'def', 'theorem' AND NOTHING ELSE: no command of the shelf's: FOR A HAND-IN. Each laying: the table of numbers ('.._ren') and one theorem, a field a fact of the dump's own or the kernel's comparison; each contract: ONE APPLICATION.
-/
namespace Go.Proofs
open Go.Shelf
def Tryz.lays172_ren : Go.Shelf.Ren := ⟨fun | 172 => 104 | 244 => 147 | 245 => 148 | 247 => 180 | 279 => 181 | 280 => 182 | 281 => 183 | 282 => 184 | 287 => 208 | 316 => 209 | 171 => 74 | 205 => 210 | 321 => 232 | 322 => 233 | 243 => 113 | 246 => 154 | 283 => 185 | 284 => 186 | 285 => 187 | 286 => 188 | 129 => 143 | 317 => 211 | 318 => 212 | 319 => 213 | 320 => 214 | 337 => 234 | 338 => 235 | n => n, fun | 9 => 9 | 3 => 3 | 75 => 61 | 76 => 62 | 4 => 4 | 5 => 5 | 167 => 218 | 37 => 37 | 0 => 0 | 85 => 219 | 2 => 2 | 168 => 221 | 53 => 173 | 175 => 234 | 46 => 123 | 210 => 254 | 127 => 90 | 145 => 271 | 143 => 269 | 21 => 21 | 171 => 224 | 173 => 226 | 212 => 257 | 51 => 171 | 20 => 20 | 213 => 258 | 232 => 280 | 233 => 281 | 80 => 73 | n => n, fun | 15 => 4 | 16 => 5 | 17 => 6 | 18 => 8 | 19 => 9 | n => n⟩
theorem Tryz.lays172 : Go.Proofs.Lays.n172 Tryz.prog Tryz.lays172_ren := {
  mixed := by kernel_rfl
  f129 := Tryz.func143.trans (congrArg some (by kernel_rfl))
  f171 := Tryz.func74.trans (congrArg some (by kernel_rfl))
  f172 := Tryz.func104.trans (congrArg some (by kernel_rfl))
  f205 := Tryz.func210.trans (congrArg some (by kernel_rfl))
  f243 := Tryz.func113.trans (congrArg some (by kernel_rfl))
  f244 := Tryz.func147.trans (congrArg some (by kernel_rfl))
  f245 := Tryz.func148.trans (congrArg some (by kernel_rfl))
  f246 := Tryz.func154.trans (congrArg some (by kernel_rfl))
  f247 := Tryz.func180.trans (congrArg some (by kernel_rfl))
  f279 := Tryz.func181.trans (congrArg some (by kernel_rfl))
  f280 := Tryz.func182.trans (congrArg some (by kernel_rfl))
  f281 := Tryz.func183.trans (congrArg some (by kernel_rfl))
  f282 := Tryz.func184.trans (congrArg some (by kernel_rfl))
  f283 := Tryz.func185.trans (congrArg some (by kernel_rfl))
  f284 := Tryz.func186.trans (congrArg some (by kernel_rfl))
  f285 := Tryz.func187.trans (congrArg some (by kernel_rfl))
  f286 := Tryz.func188.trans (congrArg some (by kernel_rfl))
  f287 := Tryz.func208.trans (congrArg some (by kernel_rfl))
  f316 := Tryz.func209.trans (congrArg some (by kernel_rfl))
  f317 := Tryz.func211.trans (congrArg some (by kernel_rfl))
  f318 := Tryz.func212.trans (congrArg some (by kernel_rfl))
  f319 := Tryz.func213.trans (congrArg some (by kernel_rfl))
  f320 := Tryz.func214.trans (congrArg some (by kernel_rfl))
  f321 := Tryz.func232.trans (congrArg some (by kernel_rfl))
  f322 := Tryz.func233.trans (congrArg some (by kernel_rfl))
  f337 := Tryz.func234.trans (congrArg some (by kernel_rfl))
  f338 := Tryz.func235.trans (congrArg some (by kernel_rfl))
  t0 := Tryz.underlying0
  a0 := Tryz.isAgg0
  z0 := Tryz.sizeOf0
  v0 := Tryz.zeroValue0
  t2 := Tryz.underlying2
  a2 := Tryz.isAgg2
  z2 := Tryz.sizeOf2
  v2 := Tryz.zeroValue2
  t3 := Tryz.underlying3
  a3 := Tryz.isAgg3
  z3 := Tryz.sizeOf3
  v3 := Tryz.zeroValue3
  t4 := Tryz.underlying4
  a4 := Tryz.isAgg4
  z4 := Tryz.sizeOf4
  v4 := Tryz.zeroValue4
  t5 := Tryz.underlying5
  a5 := Tryz.isAgg5
  z5 := Tryz.sizeOf5
  v5 := Tryz.zeroValue5
  t9 := Tryz.underlying9
  a9 := Tryz.isAgg9
  z9 := Tryz.sizeOf9
  v9 := Tryz.zeroValue9
  t20 := Tryz.underlying20
  a20 := Tryz.isAgg20
  z20 := Tryz.sizeOf20
  v20 := Tryz.zeroValue20
  t21 := Tryz.underlying21
  a21 := Tryz.isAgg21
  z21 := Tryz.sizeOf21
  v21 := Tryz.zeroValue21
  t37 := Tryz.underlying37
  a37 := Tryz.isAgg37
  z37 := Tryz.sizeOf37
  v37 := Tryz.zeroValue37
  t46 := Tryz.underlying123
  a46 := Tryz.isAgg123
  z46 := Tryz.sizeOf123
  v46 := Tryz.zeroValue123
  t51 := Tryz.underlying171
  a51 := Tryz.isAgg171
  z51 := Tryz.sizeOf171
  v51 := Tryz.zeroValue171
  t53 := Tryz.underlying173
  a53 := Tryz.isAgg173
  z53 := Tryz.sizeOf173
  v53 := Tryz.zeroValue173
  t75 := Tryz.underlying61
  a75 := Tryz.isAgg61
  z75 := Tryz.sizeOf61
  v75 := Tryz.zeroValue61
  t76 := Tryz.underlying62
  a76 := Tryz.isAgg62
  z76 := Tryz.sizeOf62
  v76 := Tryz.zeroValue62
  t85 := Tryz.underlying219
  a85 := Tryz.isAgg219
  z85 := Tryz.sizeOf219
  v85 := Tryz.zeroValue219
  t127 := Tryz.underlying90
  a127 := Tryz.isAgg90
  z127 := Tryz.sizeOf90
  v127 := Tryz.zeroValue90
  t143 := Tryz.underlying269
  a143 := Tryz.isAgg269
  z143 := Tryz.sizeOf269
  v143 := Tryz.zeroValue269
  t145 := Tryz.underlying271
  a145 := Tryz.isAgg271
  z145 := Tryz.sizeOf271
  v145 := Tryz.zeroValue271
  t167 := Tryz.underlying218
  a167 := Tryz.isAgg218
  z167 := Tryz.sizeOf218
  v167 := Tryz.zeroValue218
  t168 := Tryz.underlying221
  a168 := Tryz.isAgg221
  z168 := Tryz.sizeOf221
  v168 := Tryz.zeroValue221
  t171 := Tryz.underlying224
  a171 := Tryz.isAgg224
  z171 := Tryz.sizeOf224
  v171 := Tryz.zeroValue224
  t173 := Tryz.underlying226
  a173 := Tryz.isAgg226
  z173 := Tryz.sizeOf226
  v173 := Tryz.zeroValue226
  t175 := Tryz.underlying234
  a175 := Tryz.isAgg234
  z175 := Tryz.sizeOf234
  v175 := Tryz.zeroValue234
  t210 := Tryz.underlying254
  a210 := Tryz.isAgg254
  z210 := Tryz.sizeOf254
  v210 := Tryz.zeroValue254
  t212 := Tryz.underlying257
  a212 := Tryz.isAgg257
  z212 := Tryz.sizeOf257
  v212 := Tryz.zeroValue257
  t213 := Tryz.underlying258
  a213 := Tryz.isAgg258
  z213 := Tryz.sizeOf258
  t232 := Tryz.underlying280
  a232 := Tryz.isAgg280
  z232 := Tryz.sizeOf280
  v232 := Tryz.zeroValue280
  t233 := Tryz.underlying281
  a233 := Tryz.isAgg281
  z233 := Tryz.sizeOf281
  v233 := Tryz.zeroValue281
  g15 := by kernel_rfl
  g16 := by kernel_rfl
  g17 := by kernel_rfl
  g18 := by kernel_rfl
  g19 := by kernel_rfl }
open Go.RowKit in
/-- strconv.Atoi: "Atoi is equivalent to ParseInt(s, 10, 0), converted to type int.": AT A DECIMAL NUMERAL OF AT MOST 18 BYTES: its value, and a nil error. The world behind the call: the one new row that the library's '[]byte(s)' lays. (LAID: no walk: one application.) -/
theorem Tryz.strconv_Atoi (s : ByteArray) (n : Int) (hl : s.size ≤ 18) (h : Lib.atoi s.data.toList = some n) (w : World) :
    Calls Tryz.prog 104 #[.string s] w fun e w' => e = .returned (.tuple #[.int .i64 n, .nilIface]) ∧ ∃ t, w' = Lib.bytesWorld w 5 t := Any.strconv_Atoi Tryz.lays172 s n hl h w
end Go.Proofs
/- strconv.Atoi at a numeral, as a summary; the evaluator's summaries with it. -/
namespace Go.Ev
open Go.RowKit
theorem rel_below {ρ : Ren} {σ : St} {w w' : World} (h : Rel ρ σ w) (hb : Below w.heap.size w w') : Rel ρ σ w' ∧ Since ρ σ w ρ σ w' := by
  obtain ⟨b1, b2, b3, b4, b5⟩ := hb
  refine ⟨⟨?_, h.inj, h.fresh, h.glob, h.gn⟩, .refl ρ, ⟨b4, b1, b2, b3, rfl, Nat.le_refl _, fun _ _ => ⟨rfl, rfl⟩, fun k hk _ => b5 k hk, fun id o k h1 h2 => .inl ⟨o, h1, rfl, h2⟩⟩⟩
  intro id o ho
  obtain ⟨k, x, h1, h2, h3⟩ := h.live id o ho
  exact ⟨k, x, h1, by rw [b5 k (Array.getElem?_eq_some_iff.1 h2).1]; exact h2, h3⟩
def sumAtoi (args : Array Value) (σ : St) : Option Er :=
  match args.toList with
  | [.string s] => match Nat.ble s.data.toList.length 18, Lib.atoi s.data.toList with
    | true, some n => some (.ret (.tuple #[.int .i64 n, .nilIface]) σ)
    | _, _ => none
  | _ => none
theorem sumAtoi_sound {P : Program} {f : FuncId} {e : TypeId} (h1 : ∀ (s : ByteArray) (n : Int), s.size ≤ 18 → Lib.atoi s.data.toList = some n → ∀ w : World, Calls P f #[.string s] w fun e' w' => e' = .returned (.tuple #[.int .i64 n, .nilIface]) ∧ ∃ t, w' = Lib.bytesWorld w e t)
    (args : Array Value) (σ : St) (r : Er) (h : sumAtoi args σ = some r) : CallSound P f args σ r := by
  intro ρ args' w ha hr
  unfold sumAtoi at h
  split at h
  · rename_i s hl
    split at h
    · rename_i n hb hn
      cases Option.some.inj h
      have hargs : args = #[.string s] := by
        obtain ⟨l⟩ := args
        simp only at hl
        rw [hl]
      have he : args' = #[.string s] := by
        subst hargs
        obtain ⟨l'⟩ := args'
        obtain ⟨q1, q2⟩ := ha
        simp at q1
        match l', q1 with
        | [v'], _ =>
          have := q2 0 (.string s) v' (by simp) (by simp)
          cases this
          rfl
      subst he
      refine (h1 s n (by simpa using Nat.le_of_ble_eq_true hb) hn w).mono ?_
      rintro e' w' ⟨rfl, t, rfl⟩
      obtain ⟨k1, k2⟩ := rel_below hr (Lib.bytesWorld_below w e t)
      refine ⟨ρ, _, rfl, .tuple rfl ?_, k1, k2⟩
      intro i v v' q1 q2
      rw [q1] at q2
      cases Option.some.inj q2
      match i with
      | 0 => simp at q1; subst q1; exact .int _ _
      | 1 => simp at q1; subst q1; exact .nilIface
      | i + 2 => simp at q1
    · cases h
  · cases h
end Go.Ev
namespace Go.Proofs.YtneohoclgnfdcaaGreatDoor
open Go.Ev
def sums0 (f : FuncId) : Option (Array Value → St → Option Er) :=
  match Nat.beq f 104 with
  | true => some sumAtoi
  | false => sums f
theorem sums0_sound (g : FuncId) (s : Array Value → St → Option Er) (hs : sums0 g = some s) (args : Array Value) (σ : St) (r : Er) (h : s args σ = some r) : CallSound Tryz.prog g args σ r := by
  unfold sums0 at hs
  split at hs
  · rename_i h1
    cases Option.some.inj hs
    have := Nat.eq_of_beq_eq_true h1
    subst this
    exact sumAtoi_sound Tryz.strconv_Atoi args σ r h
  · exact sums_sound g s hs args σ r h
theorem evM {su : FuncId → Option (Array Value → St → Option Er)} (hs : ∀ g s, su g = some s → ∀ args σ r, s args σ = some r → CallSound Tryz.prog g args σ r) {f : FuncId} {args : Array Value} {σ : St} {r : Er} (n : Nat) (h : evRun Tryz.prog su 400 n f args σ = some r) : CallSound Tryz.prog f args σ r :=
  run_sound zerosE namesE mixedE hs 400 n f args σ r h
end Go.Proofs.YtneohoclgnfdcaaGreatDoor
