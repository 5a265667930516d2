import Derived.WalkKit
import Derived.WalkSpells
import Derived.Lib.Hide
import Derived.Lib.Builder
import Derived.Lib.UnsafeStr
import Derived.Laws.Externs
import Derived.Below
import Derived.Shelf.Small.Wraps
import Derived.Shelf.Strconv.Atoi
import Derived.Shelf.Strings.BuilderK
import Derived.Shelf.Strings.Search1
import Derived.Shelf.Small.Strs
import Derived.Shelf.Strings.Count
import Derived.Shelf.Small.Bits
import Derived.Shelf.Strings.OnBuilder
import Derived.Shelf.Unicode.DecodeAny
import Derived.Lib.AtoiErrMem
import Derived.Deep.Quiet
import Derived.Test.YtcipjifpigpfdaaGreatDoorP03
import Derived.Test.YtcipjifpigpfdaaGreatDoorChecked
import Derived.Test.YtcipjifpigpfdaaGreatDoorRows
import Derived.Test.YtcipjifpigpfdaaGreatDoorProg
/- Closed calls by evaluation, part Y: whole calls are sound. -/
namespace Go.Ev
variable {Ψ : SymEnv}
section
variable {P : Program} {ρ0 : Ren Ψ} {σ0 : St} {w0 : World}
/-- the frames below a deferred call: the first one's mode has turned, and nothing else -/
def PostS (c0 : Frame) (rest : List Frame) (ρ0 : Ren Ψ) (σ0 : St) (w0 : World) (x : Ex) (A' : Fr) (σ' : St) (md' : Md) (e : Exit) (a' : Act) (cs' : List Frame) (w' : World) : Prop :=
  ∃ u' ρ', cs' = { c0 with mode := u' } :: rest ∧ MdR ρ' md' u' ∧ ExR ρ' x e ∧ FrR ρ' A' a' ∧ Rel ρ' σ' w' ∧ Since ρ0 σ0 w0 ρ' σ' w'
theorem recover_pan {c0 : Frame} {rest : List Frame} {v : Value} : recoverD ({ c0 with mode := .panicking [{ v := v, recovered := false }] } :: rest) = some (v, { c0 with mode := .panicking [{ v := v, recovered := true }] } :: rest) := rfl
theorem opsS_sound (hz : ZeroOk Ψ P) (hn : ∀ (f : Nat) (fn : Func), P.funcs[f]? = some fn → (fn.name == "runtime.NumGoroutine") = false) {call : Next → St → Option Er} (hc : ∀ n σ r, call n σ = some r → NextSound Ψ P n σ r) (ops : Array Oper) {c0 : Frame} {rest : List Frame} {x : Ex} {A' : Fr} {σ' : St} {md' : Md} :
    ∀ (l : List Oper) (i : Nat) (A : Fr) (σ : St) (md : Md), ops.toList.drop i = l → evOpsS P call ops.toList l A σ md = some (x, A', σ', md') → ∀ (ρ : Ren Ψ) (u : FrameMode) (a : Act) (w : World), MdR ρ md u → FrR ρ A a → Rel ρ σ w → Since ρ0 σ0 w0 ρ σ w →
      wpOpsS P ops (PostS c0 rest ρ0 σ0 w0 x A' σ' md') (List.range' i l.length) a ({ c0 with mode := u } :: rest) w := by
  intro l
  induction l with
  | nil =>
    intro i A σ md hl h ρ u a w hmd hf hr hs
    cases Option.some.inj h
    exact ⟨u, ρ, rfl, hmd, .normal, hf, hr, hs⟩
  | cons o l ih =>
    intro i A σ md hl h ρ u a w hmd hf hr hs
    have hio : ops[i]? = some o := by
      have : (ops.toList.drop i)[0]? = some o := by rw [hl]; rfl
      rw [List.getElem?_drop] at this
      simpa using this
    have hl2 : ops.toList.drop (i + 1) = l := by rw [← List.tail_drop, hl]; rfl
    show wpOpsS P ops _ (i :: List.range' (i + 1) l.length) a _ w
    simp only [wpOpsS, hio]
    rw [hf.wanted ops o]
    unfold evOpsS at h
    cases hw : wantedE ops.toList o A with
    | false =>
      rw [hw] at h
      rw [if_neg (by simp)]
      exact ih (i + 1) _ _ _ hl2 h ρ u _ w hmd (hf.put _ (undef_VR ρ)) hr hs
    | true =>
      rw [hw] at h
      rw [if_pos rfl]
      cases ho : evOp P A.eval σ o with
      | none => rw [ho] at h; cases h
      | some r =>
        rw [ho] at h
        have hout := op_sound hz hn hr (fun x _ hx => hf.eval hr hx) ho
        generalize (execOp a.eval o).run P w = real at hout
        cases r with
        | panic v σ1 => cases h
        | ok n σ1 =>
          obtain ⟨ρ1, n', w1, hle, rfl, hr1, hk1, hn1⟩ := hout
          have hs1 := hs.trans ⟨hle, hk1⟩
          have hmd1 := hmd.mono hle
          cases hn1 with
          | value hv => exact ih (i + 1) _ _ _ hl2 h ρ1 u _ w1 hmd1 ((hf.mono hle).put _ hv) hr1 hs1
          | skip => exact ih (i + 1) _ _ _ hl2 h ρ1 u _ w1 hmd1 ((hf.mono hle).put _ (undef_VR ρ1)) hr1 hs1
          | defer hd => cases h
          | round => cases h
          | recover =>
            simp only at h
            cases hmd1 with
            | ret => exact ih (i + 1) _ _ _ hl2 h ρ1 .returning _ w1 .ret ((hf.mono hle).put _ .nilIface) hr1 hs1
            | recd hv => exact ih (i + 1) _ _ _ hl2 h ρ1 _ _ w1 (.recd hv) ((hf.mono hle).put _ .nilIface) hr1 hs1
            | pan hv => exact ih (i + 1) _ _ _ hl2 h ρ1 _ _ w1 (.recd hv) ((hf.mono hle).put _ hv) hr1 hs1
          | @enter g args args' ha =>
            simp only at h
            cases hcl : call (.enter g args) σ1 with
            | none => rw [hcl] at h; cases h
            | some er =>
              rw [hcl] at h
              cases er with
              | panic v σ2 => cases h
              | ret v σ2 =>
                refine Calls.mono (hc _ σ1 _ hcl ρ1 (.enter g args') w1 (.enter g ha) hr1) fun e w2 he => ?_
                obtain ⟨ρ2, v', rfl, hv, hr2, hs2⟩ := he
                exact ih (i + 1) _ _ _ hl2 h ρ2 u _ w2 (hmd1.mono hs2.le) (((hf.mono hle).mono hs2.le).put _ hv) hr2 (hs1.trans hs2)
theorem evS_sound (hz : ZeroOk Ψ P) (hn : ∀ (f : Nat) (fn : Func), P.funcs[f]? = some fn → (fn.name == "runtime.NumGoroutine") = false) {call : Next → St → Option Er} (hc : ∀ n σ r, call n σ = some r → NextSound Ψ P n σ r)
    {draw : List Oper → Fr → St → Option (Ex × Fr × St)} (hd : DrawSound Ψ P draw) {c0 : Frame} {rest : List Frame} :
    ∀ (n : Nat) (c : Code) (A : Fr) (σ : St) (md : Md) (x : Ex) (A' : Fr) (σ' : St) (md' : Md), evS P call draw n c A σ md = some (x, A', σ', md') → ∀ (ρ : Ren Ψ) (u : FrameMode) (a : Act) (w : World), MdR ρ md u → FrR ρ A a → Rel ρ σ w → Since ρ0 σ0 w0 ρ σ w →
      c.wpS P (PostS c0 rest ρ0 σ0 w0 x A' σ' md') a ({ c0 with mode := u } :: rest) w := by
  intro n
  induction n with
  | zero => intro c A σ md x A' σ' md' h; cases h
  | succ f ih =>
  intro c A σ md x A' σ' md' h ρ u a w hmd hf hr hs
  have plain : ∀ (c : Code), (match evC P call draw none f c A σ with | some (x, A, σ) => some (x, A, σ, md) | none => none) = some (x, A', σ', md') → c.wpS P (PostS c0 rest ρ0 σ0 w0 x A' σ' md') a ({ c0 with mode := u } :: rest) w := by
    intro c h
    cases h1 : evC P call draw none f c A σ with
    | none => rw [h1] at h; cases h
    | some r =>
      obtain ⟨x1, A1, σ1⟩ := r
      rw [h1] at h
      cases Option.some.inj h
      refine wpS_of_wp (wp_mono (wpIn_wide.1 (code_sound hz hn hc hd none none f c A σ _ _ _ h1 ρ σ w ρ a w (.inl ⟨rfl, rfl⟩) hf hr (.refl ρ σ w))) ?_)
      rintro e a1 w1 ⟨ρ1, he, hf1, hr1, hs1⟩
      exact ⟨u, ρ1, rfl, hmd.mono hs1.le, he, hf1, hr1, hs.trans hs1⟩
  have mono : ∀ {c : Code} {Q Q' : Exit → Act → List Frame → World → Prop} {a : Act} {cs : List Frame} {w : World}, c.wpS P Q a cs w → (∀ e a cs w, Q e a cs w → Q' e a cs w) → c.wpS P Q' a cs w := fun h hq b k h1 h2 =>
    let ⟨e, a', cs', w', q, r⟩ := h b k h1 h2
    ⟨e, a', cs', w', hq _ _ _ _ q, r⟩
  unfold evS at h
  cases c with
  | seq c1 c2 =>
    simp only at h
    cases h1 : evS P call draw f c1 A σ md with
    | none => rw [h1] at h; cases h
    | some r =>
      obtain ⟨x1, A1, σ1, md1⟩ := r
      rw [h1] at h
      refine wpS_seq (mono (ih c1 A σ md x1 A1 σ1 md1 h1 ρ u a w hmd hf hr hs) ?_)
      rintro e a1 cs1 w1 ⟨u1, ρ1, rfl, hmd1, he, hf1, hr1, hs1⟩
      cases he with
      | normal => exact ih c2 A1 σ1 md1 x A' σ' md' h ρ1 u1 a1 w1 hmd1 hf1 hr1 hs1
      | exit id => cases Option.some.inj h; exact ⟨u1, ρ1, rfl, hmd1, .exit id, hf1, hr1, hs1⟩
      | ret => cases Option.some.inj h; exact ⟨u1, ρ1, rfl, hmd1, .ret, hf1, hr1, hs1⟩
      | panic hv => cases Option.some.inj h; exact ⟨u1, ρ1, rfl, hmd1, .panic hv, hf1, hr1, hs1⟩
  | cond c x1 y1 =>
    simp only at h
    have hev : ∀ t : Bool, A.eval c = .bool t → a.eval c = .bool t := by
      intro t ht
      cases c with
      | tmp s =>
        have hv := hf.tmp s
        have ht : A.tmp s = .bool t := ht
        rw [ht] at hv
        show a.tmps.getD s undef = .bool t
        generalize a.tmps.getD s undef = u at hv
        cases hv
        rfl
      | const v => exact ht
      | global g => cases ht
      | func g => cases ht
    cases hA : A.eval c with
    | bool t =>
      rw [hA] at h
      cases t with
      | true => exact wpS_cond (hev _ hA) (ih x1 A σ md x A' σ' md' h ρ u a w hmd hf hr hs)
      | false => exact wpS_cond (hev _ hA) (ih y1 A σ md x A' σ' md' h ρ u a w hmd hf hr hs)
    | _ => rw [hA] at h; cases h
  | region id ops d =>
    cases d with
    | true => exact plain _ h
    | false =>
      refine wpS_region ?_
      have := opsS_sound hz hn hc ops (c0 := c0) (rest := rest) (x := x) (A' := A') (σ' := σ') (md' := md') (ρ0 := ρ0) (σ0 := σ0) (w0 := w0) ops.toList 0 A σ md (by simp) h ρ u a w hmd hf hr hs
      rw [Array.length_toList] at this
      rw [List.range_eq_range']
      exact this
  | _ => exact plain _ h
theorem def_sound (hz : ZeroOk Ψ P) (hn : ∀ (f : Nat) (fn : Func), P.funcs[f]? = some fn → (fn.name == "runtime.NumGoroutine") = false) (hm : P.follows .mixedOrders = true) {call : Next → St → Option Er} (hc : ∀ n σ r, call n σ = some r → NextSound Ψ P n σ r)
    {fuel : Nat} {g : FuncId} {args args' : Array Value} {md md' : Md} {σ σ' : St} (h : evDef P call fuel g args md σ = some (σ', md')) {ρ : Ren Ψ} {u : FrameMode} {w : World} (hmd : MdR ρ md u) (ha : VRs ρ args args') (hr : Rel ρ σ w) (hs : Since ρ0 σ0 w0 ρ σ w) :
    (∃ fn c, P.funcs[g]? = some fn ∧ fn.body = some c) ∧ CallsD P g args' u w fun e u' w' => ∃ ρ' v, e = .returned v ∧ MdR ρ' md' u' ∧ Rel ρ' σ' w' ∧ Since ρ0 σ0 w0 ρ' σ' w' ∧ ρ.le ρ' := by
  unfold evDef at h
  cases hfn : P.funcs[g]? with
  | none => rw [hfn] at h; cases h
  | some fn =>
  rw [hfn] at h
  simp only at h
  cases hb : fn.body with
  | none => rw [hb] at h; cases h
  | some c =>
  rw [hb] at h
  cases hle : Nat.ble args.size fn.ntmps with
  | false => rw [hle] at h; cases h
  | true =>
  rw [hle] at h
  simp only at h
  refine ⟨⟨fn, c, rfl, hb⟩, callsD_of_wpS hfn hb fun c0 rest hc0 => ?_⟩
  have hfr : FrR ρ (Fr.enter args.toList fn.ntmps) { tmps := args' ++ Array.replicate (fn.ntmps - args'.size) undef, defers := [] } := .enter ha (Nat.le_of_ble_eq_true hle)
  have hc1 : ({ c0 with mode := u } : Frame) = c0 := by subst hc0; rfl
  cases hev : evS P call (evDraw P call) fuel c (Fr.enter args.toList fn.ntmps) σ md with
  | none => rw [hev] at h; cases h
  | some r =>
  obtain ⟨x, A, σ1, md1⟩ := r
  rw [hev] at h
  have hS := evS_sound (ρ0 := ρ) (σ0 := σ) (w0 := w) (c0 := c0) (rest := rest) hz hn hc (draw_sound hz hn hm hc) fuel c _ σ md x A σ1 md1 hev ρ u _ w hmd hfr hr (.refl ρ σ w)
  rw [hc1] at hS
  have fin : (match A.defers, evRes P A σ1 fn.results.toList with | [], some _ => some (σ1, md1) | _, _ => none) = some (σ', md') → ∀ (a' : Act) (cs' : List Frame) (w' : World) (u' : FrameMode) (ρ' : Ren Ψ), cs' = { c0 with mode := u' } :: rest → MdR ρ' md1 u' → FrR ρ' A a' → Rel ρ' σ1 w' → Since ρ σ w ρ' σ1 w' →
      a'.defers = [] ∧ ∃ u', cs' = { c0 with mode := u' } :: rest ∧ ∃ v, (results fn a'.tmps).run P w' = .ok v w' ∧ ∃ ρ' v1, Ending.returned v = .returned v1 ∧ MdR ρ' md' u' ∧ Rel ρ' σ' w' ∧ Since ρ0 σ0 w0 ρ' σ' w' ∧ ρ.le ρ' := by
    intro h a' cs' w' u' ρ' hcs hmd1 hf1 hr1 hs1
    cases hdf : A.defers with
    | cons d ds => rw [hdf] at h; cases h
    | nil =>
    cases hres : evRes P A σ1 fn.results.toList with
    | none => rw [hdf, hres] at h; cases h
    | some vs =>
    rw [hdf, hres] at h
    cases Option.some.inj h
    obtain ⟨v', q1, q2⟩ := res_sound hf1 hr1 hres
    have hd0 : a'.defers = [] := by
      have := hf1.dl
      rw [hdf] at this
      exact List.length_eq_zero_iff.1 this.symm
    exact ⟨hd0, u', hcs, v', q1, ρ', v', rfl, hmd1, hr1, hs.trans hs1, hs1.le⟩
  intro b k h1 h2
  obtain ⟨e, a', cs', w', ⟨u', ρ', hcs, hmd1, he, hf1, hr1, hs1⟩, harr⟩ := hS b k h1 h2
  cases he with
  | normal => exact ⟨.normal, a', cs', w', fin h a' cs' w' u' ρ' hcs hmd1 hf1 hr1 hs1, harr⟩
  | ret => exact ⟨.ret, a', cs', w', fin h a' cs' w' u' ρ' hcs hmd1 hf1 hr1 hs1, harr⟩
  | exit id => cases h
  | panic hv => cases h
theorem leave_sound (hz : ZeroOk Ψ P) (hn : ∀ (f : Nat) (fn : Func), P.funcs[f]? = some fn → (fn.name == "runtime.NumGoroutine") = false) (hm : P.follows .mixedOrders = true) {call : Next → St → Option Er} (hc : ∀ n σ r, call n σ = some r → NextSound Ψ P n σ r)
    {fuel : Nat} {fn : Func} {A : Fr} {a : Act} {r : Er} : ∀ (ds ds' : List Deferred) (md : Md) (σ : St), evLeave P call fuel fn A ds md σ = some r → ds.length = ds'.length → ∀ (ρ : Ren Ψ) (u : FrameMode) (w : World), (∀ (i : Nat) (d d' : Deferred), ds[i]? = some d → ds'[i]? = some d' → DR ρ d d') → MdR ρ md u → FrR ρ A a → Rel ρ σ w → Since ρ0 σ0 w0 ρ σ w →
      LeavesE P fn a.tmps (EndR ρ0 σ0 w0 r) ds' u w := by
  intro ds
  induction ds with
  | nil =>
    intro ds' md σ h hl ρ u w hd hmd hf hr hs
    cases ds' with
    | cons d l => simp at hl
    | nil =>
    cases hmd with
    | ret =>
      unfold evLeave at h
      cases hres : evRes P A σ fn.results.toList with
      | none => rw [hres] at h; cases h
      | some vs =>
        rw [hres] at h
        cases Option.some.inj h
        obtain ⟨v', q1, q2⟩ := res_sound hf hr hres
        exact ⟨v', q1, ρ, v', rfl, q2, hr, hs⟩
    | pan hv =>
      cases Option.some.inj (show some (Er.panic _ σ) = some r from h)
      exact ⟨ρ, _, rfl, hv, hr, hs⟩
    | recd hv => cases h
  | cons d ds ih =>
    intro ds' md σ h hl ρ u w hd hmd hf hr hs
    cases ds' with
    | nil => simp at hl
    | cons d' ds' =>
    have hdr := hd 0 d d' rfl rfl
    obtain ⟨tg, dargs⟩ := d
    obtain ⟨tg', dargs'⟩ := d'
    unfold evLeave at h
    rcases hdr.target with ⟨fn1, fn1', c, c', e1, e2, hfn, hcc⟩ | ⟨e1, -⟩ | ⟨b, ts, t, k, e1, -⟩ | ⟨q, q', e1, e2, hq⟩
    · simp only at e1 e2
      subst e1 e2
      cases hfn with
      | func g =>
        simp only at h
        cases hev : evDef P call fuel g (dargs ++ c) md σ with
        | none => rw [hev] at h; cases md <;> cases h
        | some p =>
        obtain ⟨σ1, md1⟩ := p
        rw [hev] at h
        have h2 : evLeave P call fuel fn A ds (settleM md1) σ1 = some r := by cases md <;> exact h
        obtain ⟨⟨fu, cb, q1, q2⟩, hcd⟩ := def_sound (ρ0 := ρ0) (σ0 := σ0) (w0 := w0) hz hn hm hc hev hmd (hdr.args.append hcc) hr hs
        refine ⟨by cases hmd <;> simp, .inr ⟨_, _, _, _, rfl, NoNG_run (hn := hn) q1 q2 _ w, hcd.mono ?_⟩⟩
        rintro e u1 w1 ⟨ρ1, v, rfl, hmd1, hr1, hs1, hle⟩
        exact ih ds' (settleM md1) σ1 h2 (by simpa using hl) ρ1 (settle u1) w1 (fun i d d' h1 h2 => (hd (i + 1) d d' (by simpa using h1) (by simpa using h2)).mono hle) (settle_R hmd1) (hf.mono hle) hr1 hs1
      | _ => cases md <;> cases h
    · simp only at e1
      subst e1
      cases md <;> cases h
    · simp only at e1
      subst e1
      cases md <;> cases h
    · simp only at e1 e2
      subst e1 e2
      have h0 : (match runA P (Instr.takeDeferred q) σ with
        | some (.ok _ σ) => evLeave P call fuel fn A ds md σ
        | _ => none) = some r := by cases md <;> exact h
      have htk := fun x he => (sim_takeDeferred (P := P) hq).out hr (r := x) he
      generalize runA P (Instr.takeDeferred q) σ = z at h0 htk
      cases z with
      | none => cases h0
      | some z =>
      cases z with
      | panic v σ1 => cases h0
      | ok l σ1 =>
      obtain ⟨ρ1, l', w1, hle, hrun, hr1, hk1, rfl, rfl⟩ := htk _ rfl
      exact ⟨by cases hmd <;> simp, .inl ⟨q', w1, rfl, hrun, ih ds' md σ1 h0 (by simpa using hl) ρ1 u w1 (fun i d d' h1 h2 => (hd (i + 1) d d' (by simpa using h1) (by simpa using h2)).mono hle) (hmd.mono hle) (hf.mono hle) hr1 (hs.trans ⟨hle, hk1⟩)⟩⟩
theorem FrR.full {ρ : Ren Ψ} {t t' : Array Value} (h : VRs ρ t t') : FrR ρ (Fr.enter t.toList t.size) { tmps := t', defers := [] } := by
  have := FrR.enter h (Nat.le_refl t.size)
  rw [h.size, Nat.sub_self, Array.replicate_zero, Array.append_empty, ← h.size] at this
  exact this
theorem rnd_sound (hz : ZeroOk Ψ P) (hn : ∀ (f : Nat) (fn : Func), P.funcs[f]? = some fn → (fn.name == "runtime.NumGoroutine") = false) (hm : P.follows .mixedOrders = true) {call : Next → St → Option Er} (hc : ∀ n σ r, call n σ = some r → NextSound Ψ P n σ r)
    {fuel l g : Nat} {t : Array Value} {x y : Code} {σ : St} {r : Er} (h : evRnd P call fuel l t x y σ = some r) : NextSound Ψ P (.round l g t x y) σ r := by
  intro ρ n' w hnr hr
  cases hnr with
  | @round _ l' _ g' _ t' _ _ hl ht =>
  show RoundIn Fence.wide 0 P l' g' t' x y w _
  have hin : ∀ c Q a w, Code.wpIn (wideR (some l')) 0 P c Q a w → Code.wpIn (Fence.wide.inRound l') 0 P c Q a w := fun _ _ _ _ h => h
  unfold evRnd at h
  have hro : RoR ρ (some l) (some l') := .inr ⟨l, l', rfl, rfl, hl⟩
  refine roundIn_of_wpIn trivial ?_
  cases h1 : evC P call (evDraw P call) (some l) fuel x (Fr.enter t.toList t.size) σ with
  | none => rw [h1] at h; cases h
  | some q =>
  obtain ⟨x1, A1, σ1⟩ := q
  rw [h1] at h
  refine hin _ _ _ _ (wpIn_mono (code_sound hz hn hc (draw_sound hz hn hm hc) (some l) (some l') fuel x _ σ x1 A1 σ1 h1 ρ σ w ρ _ w hro (.full ht) hr (.refl ρ σ w)) ?_)
  rintro e a1 w1 ⟨ρ1, he, hf1, hr1, hs1⟩
  cases he with
  | exit id => cases h
  | ret => cases h
  | panic hv => cases h
  | normal =>
  simp only at h
  have hb := fun x he => (sim_beginRound (P := P) (hs1.le.φ _ _ hl)).out hr1 (r := x) he
  generalize runA P (Instr.beginRound l) σ1 = z at h hb
  cases z with
  | none => cases h
  | some z =>
  cases z with
  | panic v σ2 => cases h
  | ok u σ2 =>
  obtain ⟨ρ2, u', w2, hle2, hrun2, hr2, hk2, -⟩ := hb _ rfl
  have hs2 := hs1.trans ⟨hle2, hk2⟩
  refine ⟨w2, hrun2, ?_⟩
  simp only at h
  cases h3 : evC P call (evDraw P call) (some l) fuel y A1 σ2 with
  | none => rw [h3] at h; cases h
  | some q =>
  obtain ⟨x3, A3, σ3⟩ := q
  rw [h3] at h
  simp only at h
  refine hin _ _ _ _ (wpIn_mono (code_sound hz hn hc (draw_sound hz hn hm hc) (some l) (some l') fuel y A1 σ2 x3 A3 σ3 h3 ρ σ w ρ2 a1 w2 hro (hf1.mono hle2) hr2 hs2) ?_)
  rintro e a3 w3 ⟨ρ3, he, hf3, hr3, hs3⟩
  have fin : ∀ j, (match runA P (Instr.endRound l j) σ3 with
      | some (.ok v σ) => some (Er.ret v σ)
      | _ => none) = some r → ∃ v w', (Instr.endRound l' j).run P w3 = .ok v w' ∧ EndR ρ σ w r (.returned v) w' := by
    intro j h
    have hb := fun x he => (sim_endRound (P := P) (hs3.le.φ _ _ hl) j).out hr3 (r := x) he
    generalize runA P (Instr.endRound l j) σ3 = z at h hb
    cases z with
    | none => cases h
    | some z =>
    cases z with
    | panic v σ4 => cases h
    | ok v σ4 =>
    obtain ⟨ρ4, v', w4, hle4, hrun4, hr4, hk4, hv⟩ := hb _ rfl
    cases Option.some.inj h
    exact ⟨v', w4, hrun4, ρ4, v', rfl, hv, hr4, hs3.trans ⟨hle4, hk4⟩⟩
  cases he with
  | normal => exact fin none h
  | ret => exact fin (some .ret) h
  | exit id => exact fin (some (.exit id)) h
  | panic hv => cases h
theorem nx_sound (hz : ZeroOk Ψ P) (hn : ∀ (f : Nat) (fn : Func), P.funcs[f]? = some fn → (fn.name == "runtime.NumGoroutine") = false) (hm : P.follows .mixedOrders = true) {sums : FuncId → Option (Array Value → St → Option Er)}
    (hsum : ∀ g s, sums g = some s → ∀ args σ r, s args σ = some r → CallSound Ψ P g args σ r) (fuel : Nat) : ∀ (n : Nat) (x : Next) (σ : St) (r : Er), evNx P sums fuel n x σ = some r → NextSound Ψ P x σ r := by
  intro n
  induction n with
  | zero => intro x σ r h; cases h
  | succ n ih =>
  intro x σ r h
  unfold evNx at h
  cases x with
  | round l g t x y => exact rnd_sound hz hn hm ih h
  | enter g args =>
    simp only at h
    intro ρ n' w hnr hr
    cases hnr with
    | @enter _ _ args' ha =>
    show Calls P g args' w _
    cases hsg : sums g with
    | some s => rw [hsg] at h; exact hsum g s hsg args σ r h ρ args' w ha hr
    | none =>
    rw [hsg] at h
    simp only at h
    cases hfn : P.funcs[g]? with
    | none => rw [hfn] at h; cases h
    | some fn =>
    rw [hfn] at h
    simp only at h
    cases hb : fn.body with
    | none => rw [hb] at h; cases h
    | some c =>
    rw [hb] at h
    cases hle : Nat.ble args.size fn.ntmps with
    | false => rw [hle] at h; cases h
    | true =>
    rw [hle] at h
    simp only at h
    cases hev : evC P (evNx P sums fuel n) (evDraw P (evNx P sums fuel n)) none fuel c (Fr.enter args.toList fn.ntmps) σ with
    | none => rw [hev] at h; cases h
    | some q =>
    obtain ⟨x, A, σ1⟩ := q
    rw [hev] at h
    refine calls_of_wp_leavesE hfn hb (wp_mono (wpIn_wide.1 (code_sound hz hn ih (draw_sound hz hn hm ih) none none fuel c _ σ x A σ1 hev ρ σ w ρ _ w (.inl ⟨rfl, rfl⟩) (.enter ha (Nat.le_of_ble_eq_true hle)) hr (.refl ρ σ w))) ?_)
    rintro e a1 w1 ⟨ρ1, he, hf1, hr1, hs1⟩
    cases he with
    | normal => exact leave_sound hz hn hm ih A.defers a1.defers .ret σ1 h hf1.dl ρ1 .returning w1 hf1.defers .ret hf1 hr1 hs1
    | ret => exact leave_sound hz hn hm ih A.defers a1.defers .ret σ1 h hf1.dl ρ1 .returning w1 hf1.defers .ret hf1 hr1 hs1
    | panic hv => exact leave_sound hz hn hm ih A.defers a1.defers _ σ1 h hf1.dl ρ1 _ w1 hf1.defers (.pan hv) hf1 hr1 hs1
    | exit id => cases h
  | _ => cases h
theorem run_sound (hz : ZeroOk Ψ P) (hn : ∀ (f : Nat) (fn : Func), P.funcs[f]? = some fn → (fn.name == "runtime.NumGoroutine") = false) (hm : P.follows .mixedOrders = true) {sums : FuncId → Option (Array Value → St → Option Er)}
    (hsum : ∀ g s, sums g = some s → ∀ args σ r, s args σ = some r → CallSound Ψ P g args σ r) (fuel n : Nat) (g : FuncId) (args : Array Value) (σ : St) (r : Er) (h : evRun P sums fuel n g args σ = some r) : CallSound Ψ P g args σ r :=
  fun ρ args' w ha hr => nx_sound hz hn hm hsum fuel n (.enter g args) σ r h ρ (.enter g args') w (.enter g ha) hr
end
end Go.Ev
/- strings.Builder's check of copies and its String: what they do, exactly, and their summaries for the evaluator. -/
namespace Go.Proofs.YtcipjifpigpfdaaGreatDoor
open Go.RowKit
open Go.Lib
theorem bld_infoE : (Tryz.prog.info? 54).map (·.size) = some 2 := by kernel_rfl
set_option maxHeartbeats 1000000 in
set_option maxRecDepth 100000 in
theorem bcheck_usedE (b : Nat) (w : World) (h0 : w.cell? ⟨b, 0, none⟩ = some (.pointer (some ⟨b, 0, none⟩))) :
    Calls Tryz.prog 41 #[.pointer (some ⟨b, 0, none⟩)] w fun e w' => e = .returned (.tuple #[]) ∧ w' = w := by
  obtain ⟨j, hj, _⟩ := Option.map_eq_some_iff.1 bld_infoE
  go_enter Tryz.func41, Tryz.ntmps41
  go_wp2
  rw [Lib.run_neq_ptr_same w _ Tryz.underlying51 hj]
  go_wp2
  go_end0
  exact ⟨rfl, rfl⟩
set_option maxHeartbeats 1000000 in
set_option maxRecDepth 100000 in
theorem bcheck_freshE (b : Nat) (w : World) (h0 : w.cell? ⟨b, 0, none⟩ = some (.pointer none)) (hsh : w.shape? b = some (54, 2)) (hfz : w.frozen? ⟨b, 0, none⟩ = false) :
    Calls Tryz.prog 41 #[.pointer (some ⟨b, 0, none⟩)] w fun e w' => e = .returned (.tuple #[]) ∧ w' = w.setCell ⟨b, 0, none⟩ (.pointer (some ⟨b, 0, none⟩)) := by
  obtain ⟨j, hj, hjs⟩ := Option.map_eq_some_iff.1 bld_infoE
  go_enter Tryz.func41, Tryz.ntmps41
  go_wp2
  rw [Lib.run_to_unsafe w ⟨b, 0, none⟩ Tryz.underlying51 Tryz.underlying134 hj (by rw [hjs]; decide) hsh (Nat.zero_lt_succ 1)]
  simp only [Result.andThen]
  rw [Oper.upon_value]
  go_wp2
  rw [run_callFunc_extern Tryz.func76 (by kernel_rfl) (by kernel_rfl) (by kernel_rfl) (e := Extern.AbiNoEscape.same) (by kernel_rfl)]
  rw [Lib.run_noEscape]
  simp only [Result.andThen]
  rw [Oper.upon_value]
  go_wp2
  rw [Lib.run_from_unsafe w ⟨b, 0, none⟩ Tryz.underlying134 Tryz.underlying51 hj hsh (by kernel_rfl)]
  simp only [Result.andThen]
  rw [Oper.upon_value]
  go_wp2
  go_end0
  exact ⟨rfl, rfl⟩
/-- nothing but draws -/
def OnlyDrew (w w' : World) : Prop := w'.heap = w.heap ∧ w'.os = w.os ∧ w'.tape = w.tape ∧ w'.output = w.output
set_option maxHeartbeats 2000000 in
set_option maxRecDepth 100000 in
theorem bstring_nilE (b n c : Nat) (w : World) (hn : n = 0) (c0 : w.cell? ⟨b, 1, none⟩ = some (.slice none n c)) :
    Calls Tryz.prog 23 #[.pointer (some ⟨b, 0, none⟩)] w fun e w' => e = .returned (.string ⟨#[]⟩) ∧ OnlyDrew w w' := by
  subst hn
  have c1 : w.drew.cell? ⟨b, 1, none⟩ = some (.slice none 0 c) := c0
  have hSD : ∀ ts ty, (Builtin.unsafeSliceData_ ts ty #[.slice none 0 c]).run Tryz.prog w.drew = .ok (.pointer none) w.drew := fun _ _ => rfl
  have hUS : ∀ pt it ty (W : World), (Builtin.unsafeString_ #[pt, it] ty #[.pointer none, .int .i64 0]).run Tryz.prog W = .ok (.string .empty) W := fun pt it ty W => Lib.run_unsafeString_none W pt it ty none
  go_enter Tryz.func23, Tryz.ntmps23
  go_wp2
  go_region
  all_goals (go_wp2; go_ret; exact ⟨rfl, rfl, rfl, rfl, rfl⟩)
theorem byte_cellsE : Tryz.prog.cellsOf 5 = 1 := by kernel_rfl
set_option maxHeartbeats 2000000 in
set_option maxRecDepth 100000 in
theorem bstring_rowE (b g c m : Nat) (l : List UInt8) (w : World) (h0 : l ≠ []) (hc : c ≠ 0) (c0 : w.cell? ⟨b, 1, none⟩ = some (.slice (some ⟨g, 0, none⟩) l.length c)) (hsh : w.shape? g = some (5, m)) (hm : l.length ≤ m)
    (h63 : l.length ≤ 9223372036854775807) (hcell : ∀ j x, l[j]? = some x → w.cell? ((⟨g, 0, none⟩ : Addr).add j) = some (.int .u8 x.toNat)) :
    Calls Tryz.prog 23 #[.pointer (some ⟨b, 0, none⟩)] w fun e w' => e = .returned (.string ⟨l.toArray⟩) ∧ ∃ u, OnlyDrew w u ∧ w' = u.freeze ⟨g, 0, none⟩ l.length := by
  have c1 : w.drew.cell? ⟨b, 1, none⟩ = some (.slice (some ⟨g, 0, none⟩) l.length c) := c0
  have hSD : ∀ ts ty, (Builtin.unsafeSliceData_ ts ty #[.slice (some ⟨g, 0, none⟩) l.length c]).run Tryz.prog w.drew = .ok (.pointer (some ⟨g, 0, none⟩)) w.drew := fun _ _ => Lib.run_unsafeSliceData_row w.drew _ _ _ _ _ hc
  have hUS : ∀ it ty, (Builtin.unsafeString_ #[102, it] ty #[.pointer (some ⟨g, 0, none⟩), .int .i64 l.length]).run Tryz.prog w.drew = .ok (.string ⟨l.toArray⟩) (w.drew.freeze ⟨g, 0, none⟩ l.length) := fun it ty =>
    Lib.run_unsafeString_row w.drew _ it ty 5 (by kernel_rfl) byte_cellsE g m hsh l h0 hm h63 hcell
  go_enter Tryz.func23, Tryz.ntmps23
  go_wp2
  go_region
  all_goals (go_wp2; go_ret; exact ⟨rfl, w.drew, ⟨rfl, rfl, rfl, rfl⟩, rfl⟩)
end Go.Proofs.YtcipjifpigpfdaaGreatDoor
/- The summaries of strings.Builder's check of copies and String, and their soundness; the evaluator of this program. -/
namespace Go.Ev
variable {Ψ : SymEnv}
def rowOf (σ : St) (b : Nat) : Option Blk := match σ.heap.get b with | some (.row r) => some r | _ => none
theorem rowOf_some {σ : St} {b : Nat} {r : Blk} (h : rowOf σ b = some r) : σ.heap.get b = some (.row r) := by
  unfold rowOf at h
  split at h
  · rename_i q; cases Option.some.inj h; exact q
  · cases h
def sumCheck (T : Nat) (args : Array Value) (σ : St) : Option Er :=
  match args.toList with
  | [.pointer (some a)] => match a.spot, Nat.beq a.off 0, rowOf σ a.block with
    | none, true, some r => match r.own && Nat.beq r.ty T && Nat.beq r.sz 0, r.cells with
      | true, [.pointer none, _] => match σ.put a (.pointer (some a)) with
        | some σ' => some (.ret (.tuple #[]) σ')
        | none => none
      | true, [.pointer (some q), _] => match q.spot, Nat.beq q.off 0 && Nat.beq q.block a.block with
        | none, true => some (.ret (.tuple #[]) σ)
        | _, _ => none
      | _, _ => none
    | _, _, _ => none
  | _ => none
def bytesOf : List Value → Option (List UInt8)
  | [] => some []
  | .int .u8 (.ofNat n) :: l => match Nat.ble n 255, bytesOf l with
    | true, some r => some (UInt8.ofNat n :: r)
    | _, _ => none
  | _ => none
theorem bytesOf_get : ∀ {l : List Value} {r : List UInt8}, bytesOf l = some r → r.length = l.length ∧ ∀ (j : Nat) (x : UInt8), r[j]? = some x → l[j]? = some (.int .u8 x.toNat) := by
  intro l
  induction l with
  | nil => intro r h; cases Option.some.inj h; exact ⟨rfl, fun j x hx => by simp at hx⟩
  | cons v l ih =>
    intro r h
    unfold bytesOf at h
    split at h
    · rename_i heq; cases heq
    · rename_i n0 l0 heq
      cases heq
      split at h
      · rename_i r0 h1 h2
        cases Option.some.inj h
        obtain ⟨e1, e2⟩ := ih h2
        refine ⟨by simp [e1], fun j x hx => ?_⟩
        cases j with
        | zero =>
          simp only [List.getElem?_cons_zero] at hx ⊢
          cases Option.some.inj hx
          have : n0 ≤ 255 := Nat.le_of_ble_eq_true h1
          have h3 : (UInt8.ofNat n0).toNat = n0 := by simp; omega
          rw [h3]; rfl
        | succ j => simp only [List.getElem?_cons_succ] at hx ⊢; exact e2 j x hx
      · cases h
    · cases h
def sumString (e : Nat) (args : Array Value) (σ : St) : Option Er :=
  match args.toList with
  | [.pointer (some a)] => match a.spot, Nat.beq a.off 0, rowOf σ a.block with
    | none, true, some r => match r.cells with
      | [_, .slice none n c] => match Nat.beq n 0 && Nat.blt c big with
        | true => some (.ret (.string ⟨#[]⟩) σ)
        | false => none
      | [_, .slice (some q) n c] => match q.spot, Nat.beq q.off 0, rowOf σ q.block with
        | none, true, some t => match t.own && Nat.beq t.ty e && Nat.ble 1 n && Nat.ble n 9223372036854775807 && !Nat.beq c 0 && Nat.ble n t.cells.length && !(Nat.beq c big && Nat.beq t.sz 0), bytesOf (t.cells.take n) with
          | true, some l => some (.ret (.string ⟨l.toArray⟩) { σ with heap := σ.heap.set q.block none })
          | _, _ => none
        | _, _, _ => none
      | _ => none
    | _, _, _ => none
  | _ => none
/-- a block of the call's own is forgotten -/
theorem Rel.forget {ρ : Ren Ψ} {σ : St} {w w' : World} {b k : Nat} {o : AObj} (h : Rel ρ σ w) (hg : σ.heap.get b = some o) (ho : o.own = true) (hk : ρ.φ b = some k) (hne : ∀ j, j ≠ k → w'.heap[j]? = w.heap[j]?) :
    Rel ρ { σ with heap := σ.heap.set b none } w' where
  live := by
    intro id ob hid
    simp only [T.get_set] at hid
    by_cases e : id = b
    · rw [if_pos e] at hid; cases hid
    · rw [if_neg e] at hid
      obtain ⟨j, y, q1, q2, q3⟩ := h.live id ob hid
      have hj : j ≠ k := fun e2 => by
        refine e (h.inj b id _ _ hg hid ho ?_).symm
        rw [hk, q1, e2]
      exact ⟨j, y, q1, by rw [hne j hj]; exact q2, q3⟩
  inj := by
    intro i j oi oj hi hj hoo hφ
    simp only [T.get_set] at hi hj
    split at hi
    · cases hi
    · split at hj
      · cases hj
      · exact h.inj i j oi oj hi hj hoo hφ
  fresh := h.fresh
  glob := h.glob
  gn := h.gn
  orc := h.orc
theorem Keep.forget {ρ : Ren Ψ} {σ : St} {w w' : World} {b k : Nat} {o : AObj} (hg : σ.heap.get b = some o) (ho : o.own = true) (hk : ρ.φ b = some k) (hne : ∀ j, j ≠ k → w'.heap[j]? = w.heap[j]?) (hs : w'.heap.size = w.heap.size)
    (h2 : w'.os = w.os) (h3 : w'.tape = w.tape) (h4 : w'.output = w.output) :
    Keep ρ σ ρ { σ with heap := σ.heap.set b none } w w' where
  size := by rw [hs]; exact Nat.le_refl _
  os := h2
  tape := h3
  output := h4
  glob := rfl
  next := Nat.le_refl _
  dom := fun _ _ => ⟨rfl, rfl⟩
  old := fun j _ hn => hne j fun e => hn b o hg ho (by rw [hk, e])
  new := by
    intro id ob j hid hj
    simp only [T.get_set] at hid
    split at hid
    · cases hid
    · exact .inl ⟨ob, hid, rfl, hj⟩
/-- what is left of the world by draws and the freezing of a row -/
theorem freeze_facts (u : World) (g n : Nat) : (∀ j, j ≠ g → (u.freeze ⟨g, 0, none⟩ n).heap[j]? = u.heap[j]?) ∧ (u.freeze ⟨g, 0, none⟩ n).heap.size = u.heap.size ∧ (u.freeze ⟨g, 0, none⟩ n).os = u.os ∧ (u.freeze ⟨g, 0, none⟩ n).tape = u.tape ∧ (u.freeze ⟨g, 0, none⟩ n).output = u.output := by
  unfold World.freeze
  split
  · exact ⟨fun _ _ => rfl, rfl, rfl, rfl, rfl⟩
  · refine ⟨fun j hj => ?_, by simp, rfl, rfl, rfl⟩
    have : ¬ g = j := fun e => hj e.symm
    simp [Array.getElem?_modify, this]
section
variable {P : Program} {f : FuncId} {T e : Nat}
/-- an argument that is one pointer to an own place of the abstract memory -/
theorem one_ptr {args : Array Value} {a : Addr} {ρ : Ren Ψ} {args' : Array Value} (hl : args.toList = [.pointer (some a)]) (hs : a.spot = none) (ho : a.off = 0) (h : VRs ρ args args') :
    ∃ k, ρ.φ a.block = some k ∧ args' = #[.pointer (some ⟨k, 0, none⟩)] := by
  obtain ⟨b, o, s⟩ := a
  simp only at hs ho
  subst hs ho
  obtain ⟨l⟩ := args
  simp only at hl
  subst hl
  obtain ⟨h1, h2⟩ := h
  obtain ⟨l'⟩ := args'
  simp at h1
  match l', h1 with
  | [v'], _ =>
    have := h2 0 (.pointer (some ⟨b, 0, none⟩)) v' (by simp) (by simp)
    cases this with
    | ptr h => exact ⟨_, h, rfl⟩
theorem sumCheck_sound (h1 : ∀ (b : Nat) (w : World), w.cell? ⟨b, 0, none⟩ = some (.pointer (some ⟨b, 0, none⟩)) → Calls P f #[.pointer (some ⟨b, 0, none⟩)] w fun e w' => e = .returned (.tuple #[]) ∧ w' = w)
    (h2 : ∀ (b : Nat) (w : World), w.cell? ⟨b, 0, none⟩ = some (.pointer none) → w.shape? b = some (T, 2) → w.frozen? ⟨b, 0, none⟩ = false →
      Calls P f #[.pointer (some ⟨b, 0, none⟩)] w fun e w' => e = .returned (.tuple #[]) ∧ w' = w.setCell ⟨b, 0, none⟩ (.pointer (some ⟨b, 0, none⟩)))
    (args : Array Value) (σ : St) (r : Er) (h : sumCheck T args σ = some r) : CallSound Ψ P f args σ r := by
  intro ρ args' w ha hr
  unfold sumCheck at h
  split at h
  · rename_i a hl
    split at h
    · rename_i x1 x2 rr hs ho hrow
      have ho := Nat.eq_of_beq_eq_true ho
      obtain ⟨k, hk, rfl⟩ := one_ptr hl hs ho ha
      have hg := rowOf_some hrow
      obtain ⟨k', y, e1, e2, cs, ty, fr, rfl, hR⟩ := hr.live _ _ hg
      have : k' = k := by rw [hk] at e1; exact (Option.some.inj e1).symm
      subst this
      split at h
      · rename_i c1 hb hc
        simp only [Bool.and_eq_true, Nat.beq_eq] at hb
        obtain ⟨⟨hown, hty⟩, hsz⟩ := hb
        obtain ⟨v', p1, p2⟩ := hR.get 0 (.pointer none) (by rw [hc]; rfl)
        have hv : v' = .pointer none := by cases p2; rfl
        subst hv
        have hcs : cs.size = 2 := by rw [hR.eq hsz, hc]; rfl
        have hfr := hR.fr hown
        subst hfr
        have hcell : w.cell? ⟨k', 0, none⟩ = some (.pointer none) := by simp [World.cell?, e2, p1]
        have hsh : w.shape? k' = some (T, 2) := by simp [World.shape?, e2, hR.ty hown, hty, hcs]
        have hfz : w.frozen? ⟨k', 0, none⟩ = false := by simp [World.frozen?, e2]
        cases hp : σ.put a (.pointer (some a)) with
        | none => rw [hp] at h; cases h
        | some σ1 =>
        rw [hp] at h
        cases Option.some.inj h
        refine (h2 k' w hcell hsh hfz).mono ?_
        rintro e w' ⟨rfl, rfl⟩
        have hA : AdR ρ a ⟨k', 0, none⟩ := ⟨hs, rfl, ho.symm, hk⟩
        have hsim := sim_store (P := P) (m := default) hA hA.ptr σ w hr (.ok () σ1) (by
          change (match flat (.pointer (some a)), σ.put ⟨a.block, a.off, a.spot⟩ (.pointer (some a)) with | true, some s' => runA P (Sem.pure ()) s' | _, _ => none) = _
          rw [show σ.put ⟨a.block, a.off, a.spot⟩ (.pointer (some a)) = some σ1 from hp]
          rfl)
        obtain ⟨ρ', x', w1, q1, q2, q3, q4, -⟩ := hsim
        have hw : w1 = w.setCell ⟨k', 0, none⟩ (.pointer (some ⟨k', 0, none⟩)) := by
          have : (store ⟨k', 0, none⟩ (.pointer (some ⟨k', 0, none⟩)) default).run P w = .ok () (w.setCell ⟨k', 0, none⟩ (.pointer (some ⟨k', 0, none⟩))) := by simp [store, Sem.run, hcell, hfz]
          rw [this] at q2
          cases q2
          rfl
        subst hw
        exact ⟨ρ', .tuple #[], rfl, .tuple rfl (fun i v v' h => by simp at h), q3, q1, q4⟩
      · rename_i q x hb hc
        simp only [Bool.and_eq_true, Nat.beq_eq] at hb
        split at h
        · rename_i hqs hq
          simp only [Bool.and_eq_true, Nat.beq_eq] at hq
          cases Option.some.inj h
          obtain ⟨v', p1, p2⟩ := hR.get 0 (.pointer (some q)) (by rw [hc]; rfl)
          obtain ⟨qb, qo, qs⟩ := q
          simp only at hqs hq
          obtain ⟨rfl, rfl⟩ := hq
          subst hqs
          have hv : v' = .pointer (some ⟨k', 0, none⟩) := by
            cases p2 with
            | ptr h => rw [hk] at h; rw [Option.some.inj h]
          subst hv
          refine (h1 k' w (by simp [World.cell?, e2, p1])).mono ?_
          rintro e w' ⟨rfl, rfl⟩
          exact ⟨ρ, .tuple #[], rfl, .tuple rfl (fun i v v' h => by simp at h), hr, .refl ρ, .refl _⟩
        · cases h
      · cases h
    · cases h
  · cases h
theorem sumString_sound (h1 : ∀ (b n c : Nat) (w : World), n = 0 → w.cell? ⟨b, 1, none⟩ = some (.slice none n c) → Calls P f #[.pointer (some ⟨b, 0, none⟩)] w fun e w' => e = .returned (.string ⟨#[]⟩) ∧ (w'.heap = w.heap ∧ w'.os = w.os ∧ w'.tape = w.tape ∧ w'.output = w.output))
    (h2 : ∀ (b g c m : Nat) (l : List UInt8) (w : World), l ≠ [] → c ≠ 0 → w.cell? ⟨b, 1, none⟩ = some (.slice (some ⟨g, 0, none⟩) l.length c) → w.shape? g = some (e, m) → l.length ≤ m → l.length ≤ 9223372036854775807 →
      (∀ (j : Nat) (x : UInt8), l[j]? = some x → w.cell? ((⟨g, 0, none⟩ : Addr).add j) = some (.int .u8 x.toNat)) →
      Calls P f #[.pointer (some ⟨b, 0, none⟩)] w fun e w' => e = .returned (.string ⟨l.toArray⟩) ∧ ∃ u : World, (u.heap = w.heap ∧ u.os = w.os ∧ u.tape = w.tape ∧ u.output = w.output) ∧ w' = u.freeze ⟨g, 0, none⟩ l.length)
    (args : Array Value) (σ : St) (r : Er) (h : sumString e args σ = some r) : CallSound Ψ P f args σ r := by
  intro ρ args' w ha hr
  unfold sumString at h
  split at h
  · rename_i a hl
    split at h
    · rename_i x1 x2 rr hs ho hrow
      have ho := Nat.eq_of_beq_eq_true ho
      obtain ⟨k, hk, rfl⟩ := one_ptr hl hs ho ha
      have hg := rowOf_some hrow
      obtain ⟨k', y, e1, e2, cs, ty, fr, rfl, hR⟩ := hr.live _ _ hg
      have : k' = k := by rw [hk] at e1; exact (Option.some.inj e1).symm
      subst this
      split at h
      · rename_i p0 n c hc
        cases hb : (Nat.beq n 0 && Nat.blt c big) with
        | false => rw [hb] at h; cases h
        | true =>
        rw [hb] at h
        cases Option.some.inj h
        simp only [Bool.and_eq_true] at hb
        obtain ⟨v', p1, p2⟩ := hR.get 1 (.slice none n c) (by rw [hc]; rfl)
        have hv : v' = .slice none n c := by
          cases p2 with
          | nilSlice => rfl
          | empty a c' => exact absurd hb.2 (by decide)
        subst hv
        refine (h1 k' n c w (Nat.eq_of_beq_eq_true hb.1) (by simp [World.cell?, e2, p1])).mono ?_
        rintro e w' ⟨rfl, q1, q2, q3, q4⟩
        exact ⟨ρ, _, rfl, .string _, hr.heap_eq q1, .refl ρ, .drew q1 q2 q3 q4⟩
      · rename_i p0 q n c hc
        split at h
        · rename_i y1 y2 t hqs hqo hrow2
          split at h
          · rename_i l hb hl2
            simp only [Bool.and_eq_true, Nat.beq_eq, Nat.ble_eq, Bool.not_eq_true'] at hb
            obtain ⟨⟨⟨⟨⟨⟨b1, b2⟩, b3⟩, b4⟩, b5⟩, b6⟩, b7⟩ := hb
            cases Option.some.inj h
            obtain ⟨qb, qo, qs⟩ := q
            simp only at hqs hqo hrow2
            have hqo := Nat.eq_of_beq_eq_true hqo
            subst hqo hqs
            obtain ⟨hlen, hget⟩ := bytesOf_get hl2
            have hln : l.length = n := by rw [hlen, List.length_take]; omega
            have hg2 := rowOf_some hrow2
            obtain ⟨g, y, g1, g2, cs2, ty2, fr2, rfl, hR2⟩ := hr.live _ _ hg2
            obtain ⟨v', p1, p2⟩ := hR.get 1 (.slice (some ⟨qb, 0, none⟩) n c) (by rw [hc]; rfl)
            obtain ⟨c', hcR, rfl⟩ : ∃ c', CapR ρ qb 0 c c' ∧ v' = .slice (some ⟨g, 0, none⟩) n c' := by
              cases p2 with
              | slice h hcap => rw [g1] at h; cases Option.some.inj h; exact ⟨_, hcap, rfl⟩
            have hle2 := hR2.le
            have hc0 : c' ≠ 0 := by
              unfold CapR at hcR
              split at hcR
              · obtain ⟨R, z, r1, rfl⟩ := hcR
                intro hz
                have hR0 : R = 0 := by simpa using hz
                by_cases hsz : t.sz = 0
                · rename_i hcb
                  rw [hcb, hsz] at b7
                  cases b7
                · obtain ⟨R', r2, r3⟩ := hR2.room hsz
                  rw [r1] at r2
                  cases Option.some.inj r2
                  rw [hR0] at r3
                  simp at r3
                  rw [r3] at hle2
                  simp at hle2
                  rw [hle2] at b6
                  simp at b6
                  omega
              · intro hz
                rw [← hcR, hz] at b5
                cases b5
            refine (h2 k' g c' cs2.size l w (by intro hz; rw [hz] at hln; simp at hln; omega) hc0 (by rw [hln]; simp [World.cell?, e2, p1]) (by simp [World.shape?, g2, hR2.ty b1, b2]) (by omega) (by omega) ?_).mono ?_
            · intro j x hx
              have hj := hget j x hx
              have hj2 : t.cells[j]? = some (.int .u8 x.toNat) := by
                rw [List.getElem?_take] at hj
                split at hj
                · exact hj
                · cases hj
              obtain ⟨v', s1, s2⟩ := hR2.get j _ hj2
              have : v' = .int .u8 x.toNat := by cases s2; rfl
              subst this
              have hadd : (⟨g, 0, none⟩ : Addr).add j = ⟨g, j, none⟩ := by
                unfold Addr.add
                split
                · rename_i hj0; rw [hj0]
                · simp
              rw [hadd]
              simp [World.cell?, g2, s1]
            · rintro e w' ⟨rfl, u, ⟨q1, q2, q3, q4⟩, rfl⟩
              obtain ⟨f1, f2, f3, f4, f5⟩ := freeze_facts u g l.length
              have hne : ∀ j, j ≠ g → (u.freeze ⟨g, 0, none⟩ l.length).heap[j]? = w.heap[j]? := fun j hj => by rw [f1 j hj, q1]
              exact ⟨ρ, _, rfl, .string _, hr.forget hg2 b1 g1 hne, .refl ρ, .forget hg2 b1 g1 hne (by rw [f2, q1]) (by rw [f3, q2]) (by rw [f4, q3]) (by rw [f5, q4])⟩
          · cases h
        · cases h
      · cases h
    · cases h
  · cases h
end
end Go.Ev
namespace Go.Proofs.YtcipjifpigpfdaaGreatDoor
open Go.Ev
variable {Ψ : SymEnv}
/-- the evaluator's summaries of this program -/
def sums (f : FuncId) : Option (Array Value → St → Option Er) :=
  match Nat.beq f 41, Nat.beq f 23 with
  | true, _ => some (sumCheck 54)
  | false, true => some (sumString 5)
  | false, false => none
theorem sums_sound (g : FuncId) (s : Array Value → St → Option Er) (hs : sums g = some s) (args : Array Value) (σ : St) (r : Er) (h : s args σ = some r) : CallSound Ψ Tryz.prog g args σ r := by
  unfold sums at hs
  split at hs
  · rename_i h1
    cases Option.some.inj hs
    have := Nat.eq_of_beq_eq_true h1
    subst this
    exact sumCheck_sound bcheck_usedE bcheck_freshE args σ r h
  · rename_i h1
    cases Option.some.inj hs
    have := Nat.eq_of_beq_eq_true h1
    subst this
    exact sumString_sound bstring_nilE bstring_rowE args σ r h
  · cases hs
end Go.Proofs.YtcipjifpigpfdaaGreatDoor
/- A closed call that evaluates to true answers true in every world. -/
namespace Go.Ev
variable {Ψ : SymEnv}
def zeroB (i : TypeInfo) : Bool := match i.zero with | some z => plainV 6 z | none => true
def Selfs (Ψ : SymEnv) (z : Value) : Prop := ∀ ρ : Ren Ψ, VR ρ z z
theorem Selfs.cells {z : Value} (h : Selfs Ψ z) : ∀ v ∈ z.cells.toList, Selfs Ψ v := by
  intro v hv ρ
  obtain ⟨h1, h2⟩ := (h ρ).cells
  obtain ⟨n, hn, e⟩ := List.getElem_of_mem hv
  have : z.cells[n]? = some v := by rw [← e]; simp
  exact h2 n v v this this
theorem Selfs.agg {cs : Array Value} (h : ∀ v ∈ cs.toList, Selfs Ψ v) : Selfs Ψ (.agg cs) := fun ρ =>
  let k := VRs.refl_of fun v hv => h v hv ρ
  .agg k.1 k.2
theorem forIn_inv {α β : Type} (I : β → Prop) (f : α → β → Option (ForInStep β)) (hf : ∀ a b r, I b → f a b = some r → I r.value) : ∀ (l : List α) (b b' : β), I b → forIn l b f = some b' → I b' := by
  intro l
  induction l with
  | nil => intro b b' hb h; cases Option.some.inj (show some b = some b' from h); exact hb
  | cons a l ih =>
    intro b b' hb h
    rw [List.forIn_cons] at h
    obtain ⟨r, hr, h2⟩ := Option.bind_eq_some_iff.1 h
    have := hf a b r hb hr
    cases r with
    | done x => cases Option.some.inj (show some x = some b' from h2); exact this
    | yield x => exact ih x b' this h2
theorem struct_zero {info : TypeId → Option TypeInfo} (hi : ∀ t i z, info t = some i → i.zero = some z → Selfs Ψ z) {fs : Array Field} {i : TypeInfo} {z : Value} (h : Made.reckonStruct info fs = some i) (hz : i.zero = some z) : Selfs Ψ z := by
  unfold Made.reckonStruct at h
  obtain ⟨s, hs, h2⟩ := Option.bind_eq_some_iff.1 h
  rw [← Array.forIn_toList] at hs
  have key := forIn_inv (fun s : Array Field × Nat × Nat × Nat × Nat × Bool × Bool × Option (Array Value) × String => ∀ cs, s.2.2.2.2.2.2.2.1 = some cs → ∀ v ∈ cs.toList, Selfs Ψ v) _ (by
    intro f s0 r hI hr
    obtain ⟨k, hk, hr⟩ := Option.bind_eq_some_iff.1 hr
    have fin : ∀ (c : Prop) [Decidable c] (cs : Array Value), (if c then none else (s0.2.2.2.2.2.2.2.1).bind fun a => k.zero.bind fun b => some (a ++ b.cells)) = some cs → ∀ v ∈ cs.toList, Selfs Ψ v := by
      intro c _ cs h v hv
      split at h
      · cases h
      · obtain ⟨a, ha, h⟩ := Option.bind_eq_some_iff.1 h
        obtain ⟨b, hb, h⟩ := Option.bind_eq_some_iff.1 h
        cases Option.some.inj h
        simp only [Array.toList_append, List.mem_append] at hv
        rcases hv with hv | hv
        · exact hI a ha v hv
        · exact (hi _ _ _ hk hb).cells v hv
    dsimp only at hr
    by_cases c1 : k.str.isEmpty = true
    · rw [if_pos c1] at hr; cases hr
    rw [if_neg c1] at hr
    by_cases c2 : f.embedded = true
    · rw [if_pos c2] at hr; cases hr
    rw [if_neg c2] at hr
    by_cases c3 : f.tag.isEmpty = true
    · rw [if_pos c3] at hr
      by_cases c4 : k.bytes = 0
      · simp only [if_pos c4] at hr
        cases Option.some.inj hr; exact fun cs => fin _ cs
      · simp only [if_neg c4] at hr
        cases Option.some.inj hr; exact fun cs => fin _ cs
    · rw [if_neg c3] at hr
      obtain ⟨tg, -, hr⟩ := Option.bind_eq_some_iff.1 hr
      by_cases c4 : k.bytes = 0
      · simp only [if_pos c4] at hr
        cases Option.some.inj hr; exact fun cs => fin _ cs
      · simp only [if_neg c4] at hr
        cases Option.some.inj hr; exact fun cs => fin _ cs) fs.toList _ s (by intro cs h v hv; cases Option.some.inj h; simp at hv) hs
  have h3 : i.zero = s.2.2.2.2.2.2.2.1.map .agg := by
    dsimp only at h2
    split at h2
    · cases Option.some.inj h2; rfl
    · cases Option.some.inj h2; rfl
  rw [h3] at hz
  obtain ⟨cs, h4, rfl⟩ := Option.map_eq_some_iff.1 hz
  exact .agg (key cs h4)
theorem reckon_zero {info : TypeId → Option TypeInfo} (hi : ∀ t i z, info t = some i → i.zero = some z → Selfs Ψ z) {d : TypeDesc} {i : TypeInfo} {z : Value} (h : Made.reckon info d = some i) (hz : i.zero = some z) : Selfs Ψ z := by
  unfold Made.reckon at h
  split at h
  · rename_i e
    obtain ⟨k, hk, h⟩ := Option.bind_eq_some_iff.1 h
    have fin : ∀ s, Made.word (.pointer e) s (.pointer none) true = i → Selfs Ψ z := by
      rintro s rfl
      cases Option.some.inj hz
      exact fun ρ => .nilPtr
    split at h
    · cases h
    · split at h
      · cases h
      · obtain ⟨k2, -, h⟩ := Option.bind_eq_some_iff.1 h
        exact fin _ (Option.some.inj h)
    · obtain ⟨k2, -, h⟩ := Option.bind_eq_some_iff.1 h
      exact fin _ (Option.some.inj h)
  · obtain ⟨k, -, h⟩ := Option.bind_eq_some_iff.1 h
    obtain ⟨k2, -, h⟩ := Option.bind_eq_some_iff.1 h
    cases Option.some.inj h
    cases Option.some.inj hz
    exact fun ρ => .nilSlice 0 0
  · obtain ⟨k, -, h⟩ := Option.bind_eq_some_iff.1 h
    obtain ⟨k2, -, h⟩ := Option.bind_eq_some_iff.1 h
    obtain ⟨k3, -, h⟩ := Option.bind_eq_some_iff.1 h
    obtain ⟨k4, -, h⟩ := Option.bind_eq_some_iff.1 h
    cases Option.some.inj h
    cases Option.some.inj hz
    exact fun ρ => .nilMap
  · obtain ⟨k, -, h⟩ := Option.bind_eq_some_iff.1 h
    obtain ⟨k2, -, h⟩ := Option.bind_eq_some_iff.1 h
    cases Option.some.inj h
    cases Option.some.inj hz
    exact fun ρ => .nilChan
  · obtain ⟨k, -, h⟩ := Option.bind_eq_some_iff.1 h
    cases Option.some.inj h
    cases Option.some.inj hz
    exact fun ρ => .nilFunc
  · obtain ⟨k, hk, h⟩ := Option.bind_eq_some_iff.1 h
    obtain ⟨k2, -, h⟩ := Option.bind_eq_some_iff.1 h
    cases Option.some.inj h
    simp only at hz
    split at hz
    · cases hz
    · split at hz
      · cases Option.some.inj hz; exact .agg fun v hv => by simp at hv
      · obtain ⟨z0, hz0, rfl⟩ := Option.map_eq_some_iff.1 hz
        refine .agg fun v hv => ?_
        have := (hi _ _ _ hk hz0).cells
        simp only [Array.toList_flatten, Array.toList_replicate, List.map_replicate, List.mem_flatten, List.mem_replicate] at hv
        obtain ⟨l, ⟨-, rfl⟩, hv⟩ := hv
        exact this v hv
  · exact struct_zero hi h hz
  · cases h
theorem infoAt_zero {T : Tables} (hT : ∀ (t : Nat) (i : TypeInfo) (z : Value), T.types[t]? = some i → i.zero = some z → Selfs Ψ z) : ∀ f t i z, Made.infoAt T f t = some i → i.zero = some z → Selfs Ψ z := by
  intro f
  induction f with
  | zero => intro t i z h; cases h
  | succ f ih =>
    intro t i z h hz
    unfold Made.infoAt at h
    split at h
    · exact hT t i z h hz
    · obtain ⟨d, -, h⟩ := Option.bind_eq_some_iff.1 h
      exact reckon_zero ih h hz
theorem zeroOk_of {P : Program} (hp : Ψ.prog = P) (h : P.types.toList.all zeroB = true) : ZeroOk Ψ P := by
  have hT : ∀ (t : Nat) (i : TypeInfo) (z : Value), P.types[t]? = some i → i.zero = some z → Selfs Ψ z := by
    intro t i z hi hz ρ
    have h1 : i ∈ P.types.toList := Array.mem_toList_iff.2 (Array.mem_of_getElem? hi)
    have := List.all_eq_true.1 h i h1
    unfold zeroB at this
    rw [hz] at this
    exact plain_refl 6 z this
  refine ⟨hp, fun t i z hi hz => ?_⟩
  unfold Tables.info? at hi
  split at hi
  · exact hT t i z hi hz
  · exact infoAt_zero hT _ t i z hi hz
theorem names_of {P : Program} (h : P.funcs.toList.all (fun fn => !(fn.name == "runtime.NumGoroutine")) = true) : ∀ (f : Nat) (fn : Func), P.funcs[f]? = some fn → (fn.name == "runtime.NumGoroutine") = false := by
  intro f fn hf
  have h1 : fn ∈ P.funcs.toList := Array.mem_toList_iff.2 (Array.mem_of_getElem? hf)
  have := List.all_eq_true.1 h fn h1
  simpa using this
def startS (n : Nat) : St := ⟨.leaf, n, n, []⟩
def startR (n : Nat) : Ren Ψ := ⟨fun g => if g < n then some g else none, fun _ => none⟩
theorem startRel (n : Nat) (w : World) : Rel (startR (Ψ := Ψ) n) (startS n) w where
  live := fun id o h => by cases h
  inj := fun i j oi oj h => by cases h
  fresh := fun id h => ⟨by simp [startR]; exact h, rfl⟩
  glob := fun g h => by simp [startR]; exact h
  gn := Nat.le_refl _
  orc := fun e he => nomatch he
def isTrue (r : Option Er) : Bool := match r with | some (.ret (.bool true) _) => true | _ => false
theorem true_of {P : Program} {f : FuncId} {n : Nat} {r : Option Er} (h : isTrue r = true) (hs : ∀ q, r = some q → CallSound Ψ P f #[] (startS n) q) (w : World) : Calls P f #[] w fun e w' => e = .returned (.bool true) ∧ Go.RowKit.Below w.heap.size w w' := by
  unfold isTrue at h
  split at h
  · rename_i σ'
    refine (hs _ rfl (startR (Ψ := Ψ) n) #[] w ⟨rfl, fun i v v' h => by simp at h⟩ (startRel n w)).mono ?_
    rintro e w' ⟨ρ', v', rfl, hv, hr, hs⟩
    cases hv
    exact ⟨rfl, hs.keep.os, hs.keep.tape, hs.keep.output, hs.keep.size, fun k hk => hs.keep.old k hk fun id o h => by cases h⟩
  · cases h
end Go.Ev
namespace Go.Proofs.YtcipjifpigpfdaaGreatDoor
open Go.Ev
variable {Ψ : SymEnv}
theorem zerosE (hp : Ψ.prog = Tryz.prog) : ZeroOk Ψ Tryz.prog := zeroOk_of hp (by kernel_rfl)
theorem namesE : ∀ (f : Nat) (fn : Func), Tryz.prog.funcs[f]? = some fn → (fn.name == "runtime.NumGoroutine") = false := names_of (by kernel_rfl)
theorem mixedE : Tryz.prog.follows .mixedOrders = true := by kernel_rfl
theorem evE (hp : Ψ.prog = Tryz.prog) {f : FuncId} {args : Array Value} {σ : St} {r : Er} (n : Nat) (h : evRun Tryz.prog sums 400 n f args σ = some r) : CallSound Ψ Tryz.prog f args σ r := run_sound (zerosE hp) namesE mixedE sums_sound 400 n f args σ r h
end Go.Proofs.YtcipjifpigpfdaaGreatDoor
/- Closed calls by evaluation: what a call does in a part of the abstract memory it does in the whole. -/
namespace Go.Ev
variable {Ψ : SymEnv}
section
variable {P : Program}
theorem Rel.part {ρ : Ren Ψ} {σ0 σ : St} {w : World} (h : Rel ρ σ w) (hn : σ0.next = σ.next) (hg : σ0.glob = σ.glob) (hsub : ∀ id o, σ0.heap.get id = some o → σ.heap.get id = some o) (ho : ∀ e ∈ σ0.orc, e ∈ σ.orc) : Rel ρ σ0 w where
  live := fun id o h1 => h.live id o (hsub id o h1)
  inj := fun i j oi oj hi hj => h.inj i j oi oj (hsub i oi hi) (hsub j oj hj)
  fresh := fun id h1 => h.fresh id (by rw [← hn]; exact h1)
  glob := fun g h1 => h.glob g (by rw [← hg]; exact h1)
  gn := by rw [hn, hg]; exact h.gn
  orc := fun e he => h.orc e (ho e he)
/-- the whole memory behind the call: what the part holds then, and what the rest of the whole held before -/
structure Over (σ0 σ σ1 σ' : St) : Prop where
  next : σ'.next = σ1.next
  glob : σ'.glob = σ1.glob
  orc : σ'.orc = σ.orc
  get : ∀ id o, σ'.heap.get id = some o → σ1.heap.get id = some o ∨ (σ.heap.get id = some o ∧ σ0.heap.get id = none)
theorem since_over {ρ ρ' : Ren Ψ} {σ0 σ σ1 σ' : St} {w w' : World} (h : Rel ρ σ w) (hn : σ0.next = σ.next) (hg : σ0.glob = σ.glob) (hsub : ∀ id o, σ0.heap.get id = some o → σ.heap.get id = some o)
    (ho : Over σ0 σ σ1 σ') (hr : Rel ρ' σ1 w') (hs : Since ρ σ0 w ρ' σ1 w') : Rel ρ' σ' w' ∧ Since ρ σ w ρ' σ' w' := by
  have hlt : ∀ id o, σ.heap.get id = some o → id < σ.next := by
    intro id o h1
    obtain ⟨k, x, h2, -⟩ := h.live id o h1
    rcases Nat.lt_or_ge id σ.next with h3 | h3
    · exact h3
    · rw [(h.fresh id h3).1] at h2; cases h2
  have hk : ∀ id o k, σ.heap.get id = some o → ρ.φ id = some k → k < w.heap.size := by
    intro id o k h1 h2
    obtain ⟨k', x, h3, h4, -⟩ := h.live id o h1
    rw [h2] at h3
    cases Option.some.inj h3
    exact (Array.getElem?_eq_some_iff.1 h4).1
  have hdom : ∀ id o, σ.heap.get id = some o → ρ'.φ id = ρ.φ id := fun id o h1 => (hs.keep.dom id (by rw [hn]; exact hlt id o h1)).1
  -- a block of the rest, and one of the part's
  have cross : ∀ i j oi oj k, σ.heap.get i = some oi → σ0.heap.get i = none → σ1.heap.get j = some oj → ρ.φ i = some k → ρ'.φ j = some k → (oi.own = true ∨ oj.own = true) → i = j := by
    intro i j oi oj k h1 h2 h3 h4 h5 h6
    rcases hs.keep.new j oj k h3 h5 with ⟨o0, q1, q2, q3⟩ | ⟨q0, q1 | ⟨id0, o0, q1, q2, q3⟩⟩
    · rcases h6 with h6 | h6
      · exact h.inj i j oi o0 h1 (hsub j o0 q1) h6 (by rw [h4, q3])
      · exact (h.inj j i o0 oi (hsub j o0 q1) h1 (q2.trans h6) (by rw [h4, q3])).symm
    · have := hk i oi k h1 h4; omega
    · have := h.inj id0 i o0 oi (hsub id0 o0 q1) h1 q2 (by rw [h4, q3])
      rw [this, h2] at q1; cases q1
  refine ⟨?_, hs.le, ?_⟩
  · refine ⟨?_, ?_, fun id h1 => hr.fresh id (by rw [← ho.next]; exact h1), fun g h1 => hr.glob g (by rw [← ho.glob]; exact h1), by rw [ho.next, ho.glob]; exact hr.gn, by rw [ho.orc]; exact h.orc⟩
    · intro id o h1
      rcases ho.get id o h1 with h2 | ⟨h2, h3⟩
      · exact hr.live id o h2
      · obtain ⟨k, x, q1, q2, q3⟩ := h.live id o h2
        refine ⟨k, x, hs.le.φ _ _ q1, ?_, q3.mono hs.le⟩
        rw [hs.keep.old k (hk id o k h2 q1) ?_]
        · exact q2
        · intro id0 o0 p1 p2 p3
          have := h.inj id0 id o0 o (hsub id0 o0 p1) h2 p2 (by rw [p3, q1])
          rw [this, h3] at p1; cases p1
    · intro i j oi oj hi hj hown hφ
      rcases ho.get i oi hi with h1 | ⟨h1, h1'⟩
      · rcases ho.get j oj hj with h2 | ⟨h2, h2'⟩
        · exact hr.inj i j oi oj h1 h2 hown hφ
        · obtain ⟨k, x, q1, -⟩ := h.live j oj h2
          exact (cross j i oj oi k h2 h2' h1 q1 (by rw [hφ, hdom j oj h2, q1]) (.inr hown)).symm
      · obtain ⟨k, x, q1, -⟩ := h.live i oi h1
        rcases ho.get j oj hj with h2 | ⟨h2, h2'⟩
        · exact cross i j oi oj k h1 h1' h2 q1 (by rw [← hφ, hdom i oi h1, q1]) (.inl hown)
        · exact h.inj i j oi oj h1 h2 hown (by rw [← hdom i oi h1, ← hdom j oj h2]; exact hφ)
  · refine ⟨hs.keep.size, hs.keep.os, hs.keep.tape, hs.keep.output, by rw [ho.glob, hs.keep.glob, hg], by rw [ho.next, ← hn]; exact hs.keep.next, fun id h1 => hs.keep.dom id (by rw [hn]; exact h1), fun k h1 h2 => hs.keep.old k h1 fun id o p1 => h2 id o (hsub id o p1), ?_⟩
    intro id o k h1 h2
    rcases ho.get id o h1 with h3 | ⟨h3, -⟩
    · rcases hs.keep.new id o k h3 h2 with ⟨o0, q1, q2⟩ | ⟨q0, q1 | ⟨id0, o0, q1, q2⟩⟩
      · exact .inl ⟨o0, hsub id o0 q1, q2⟩
      · exact .inr ⟨q0, .inl q1⟩
      · exact .inr ⟨q0, .inr ⟨id0, o0, hsub id0 o0 q1, q2⟩⟩
    · exact .inl ⟨o, h3, rfl, by rw [← hdom id o h3]; exact h2⟩
theorem call_over {f : FuncId} {args : Array Value} {σ0 σ σ1 σ' : St} {v : Value} (h : CallSound Ψ P f args σ0 (.ret v σ1)) (hn : σ0.next = σ.next) (hg : σ0.glob = σ.glob) (hsub : ∀ id o, σ0.heap.get id = some o → σ.heap.get id = some o) (hq : ∀ e ∈ σ0.orc, e ∈ σ.orc) (ho : Over σ0 σ σ1 σ') :
    CallSound Ψ P f args σ (.ret v σ') := by
  intro ρ args' w ha hr
  refine (h ρ args' w ha (hr.part hn hg hsub hq)).mono ?_
  rintro e w' ⟨ρ', v', rfl, hv, hr', hs⟩
  obtain ⟨h1, h2⟩ := since_over hr hn hg hsub ho hr' hs
  exact ⟨ρ', v', rfl, hv, h1, h2⟩
end
end Go.Ev
/- Closed calls by evaluation: calls whose outcome is written down. -/
namespace Go.Ev
variable {Ψ : SymEnv}
def sameO : AObj → AObj → Bool
  | .row a, .row b => all2 (sameV 6) a.cells b.cells && (Nat.beq a.ty b.ty && (Nat.beq a.sz b.sz && (match a.own, b.own with
    | true, true => true
    | false, false => true
    | _, _ => false)))
  | _, _ => false
theorem sameO_eq {a b : AObj} (h : sameO a b = true) : a = b := by
  cases a with
  | obj o => cases b <;> cases h
  | row a =>
    cases b with
    | obj o => cases h
    | row b =>
      obtain ⟨c, t, s, o⟩ := a
      obtain ⟨c', t', s', o'⟩ := b
      simp only [sameO, Bool.and_eq_true, Nat.beq_eq] at h
      obtain ⟨h1, rfl, rfl, h4⟩ := h
      rw [all2_eq (sameV_eq 6) _ _ h1]
      cases o <;> cases o' <;> first | rfl | cases h4
def isO (x : Option AObj) (o : AObj) : Bool := match x with
  | some y => sameO y o
  | none => false
theorem isO_eq {x : Option AObj} {o : AObj} (h : isO x o = true) : x = some o := by
  cases x with
  | none => cases h
  | some y => rw [sameO_eq h]
def mkT : List (Nat × AObj) → T AObj → T AObj
  | [], t => t
  | (i, o) :: l, t => mkT l (t.set i (some o))
theorem mkT_get : ∀ (l : List (Nat × AObj)) (t : T AObj) (id : Nat) (o : AObj), (mkT l t).get id = some o → (id, o) ∈ l ∨ t.get id = some o := by
  intro l
  induction l with
  | nil => intro t id o h; exact .inr h
  | cons p l ih =>
    obtain ⟨i, x⟩ := p
    intro t id o h
    rcases ih _ id o h with h | h
    · exact .inl (List.mem_cons_of_mem _ h)
    · rw [T.get_set] at h
      by_cases e : id = i
      · rw [if_pos e] at h; cases Option.some.inj h; subst e; exact .inl List.mem_cons_self
      · rw [if_neg e] at h; exact .inr h
def clearT : List (Nat × AObj) → T AObj → T AObj
  | [], t => t
  | (i, _) :: l, t => clearT l (t.set i none)
theorem clearT_get : ∀ (l : List (Nat × AObj)) (t : T AObj) (id : Nat) (o : AObj), (clearT l t).get id = some o → t.get id = some o ∧ ∀ x, (id, x) ∉ l := by
  intro l
  induction l with
  | nil => intro t id o h; exact ⟨h, fun x hx => by cases hx⟩
  | cons p l ih =>
    obtain ⟨i, y⟩ := p
    intro t id o h
    obtain ⟨h1, h2⟩ := ih _ id o h
    rw [T.get_set] at h1
    by_cases e : id = i
    · rw [if_pos e] at h1; cases h1
    · rw [if_neg e] at h1
      refine ⟨h1, fun x hx => ?_⟩
      cases hx with
      | head => exact e rfl
      | tail _ hx => exact h2 x hx
structure Memo where
  f : FuncId
  args : List Value
  next : Nat
  glob : Nat
  pre : List (Nat × AObj)
  v : Value
  post : List (Nat × AObj)
  next' : Nat
def Memo.start (m : Memo) : St := ⟨mkT m.pre .leaf, m.next, m.glob, []⟩
def sumMemo (m : Memo) (args : Array Value) (σ : St) : Option Er :=
  match all2 (sameV 6) args.toList m.args && (Nat.beq σ.next m.next && (Nat.beq σ.glob m.glob && m.pre.all fun p => isO (σ.heap.get p.1) p.2)) with
  | true => some (.ret m.v ⟨mkT m.post (clearT m.pre σ.heap), m.next', m.glob, σ.orc⟩)
  | false => none
def memoB (m : Memo) (r : Option Er) : Bool :=
  match r with
  | some (.ret v σ) => sameV 6 v m.v && (Nat.beq σ.next m.next' && (Nat.beq σ.glob m.glob && m.post.all fun p => isO (σ.heap.get p.1) p.2))
  | _ => false
def MemoSound (Ψ : SymEnv) (P : Program) (m : Memo) : Prop := ∀ args σ r, sumMemo m args σ = some r → CallSound Ψ P m.f args σ r
theorem memo_sound {P : Program} {m : Memo} {r : Option Er} (h : memoB m r = true) (hr : ∀ q, r = some q → CallSound Ψ P m.f m.args.toArray m.start q) : MemoSound Ψ P m := by
  intro args σ q hq
  unfold sumMemo at hq
  split at hq
  · rename_i hc
    cases Option.some.inj hq
    simp only [Bool.and_eq_true, Nat.beq_eq, List.all_eq_true] at hc
    obtain ⟨h1, h2, h3, h4⟩ := hc
    have ha : args = m.args.toArray := by
      have := all2_eq (sameV_eq 6) _ _ h1
      rw [← this]
    subst ha
    unfold memoB at h
    split at h
    · rename_i v σ1
      simp only [Bool.and_eq_true, Nat.beq_eq, List.all_eq_true] at h
      obtain ⟨q1, q2, q3, q4⟩ := h
      have hv := sameV_eq 6 _ _ q1
      subst hv
      have hpre : ∀ id o, m.start.heap.get id = some o → (id, o) ∈ m.pre := by
        intro id o h
        rcases mkT_get m.pre .leaf id o h with h | h
        · exact h
        · cases h
      refine call_over (hr _ rfl) h2.symm h3.symm (fun id o h => isO_eq (h4 (id, o) (hpre id o h))) (fun e he => nomatch he) ⟨q2.symm, q3.symm, rfl, fun id o h => ?_⟩
      rcases mkT_get _ _ id o h with h | h
      · exact .inl (isO_eq (q4 (id, o) h))
      · obtain ⟨k1, k2⟩ := clearT_get _ _ id o h
        refine .inr ⟨k1, ?_⟩
        cases hg : m.start.heap.get id with
        | none => rfl
        | some x => exact absurd (hpre id x hg) (k2 x)
    · cases h
  · cases hq
def findM : List Memo → Array Value → St → Option Er
  | [], _, _ => none
  | m :: l, args, σ => match sumMemo m args σ with
    | some r => some r
    | none => findM l args σ
def withM (base : FuncId → Option (Array Value → St → Option Er)) (f0 : FuncId) (l : List Memo) (f : FuncId) : Option (Array Value → St → Option Er) :=
  match Nat.beq f f0 with
  | true => some (findM l)
  | false => base f
theorem findM_sound {P : Program} {f : FuncId} : ∀ (l : List Memo), (∀ m ∈ l, m.f = f ∧ MemoSound Ψ P m) → ∀ args σ r, findM l args σ = some r → CallSound Ψ P f args σ r := by
  intro l
  induction l with
  | nil => intro _ args σ r h; cases h
  | cons m l ih =>
    intro hl args σ r h
    unfold findM at h
    split at h
    · rename_i r0 hm
      cases Option.some.inj h
      obtain ⟨h1, h2⟩ := hl m List.mem_cons_self
      subst h1
      exact h2 args σ _ hm
    · exact ih (fun m hm => hl m (List.mem_cons_of_mem _ hm)) args σ r h
theorem withM_sound {P : Program} {base : FuncId → Option (Array Value → St → Option Er)} (hb : ∀ g s, base g = some s → ∀ args σ r, s args σ = some r → CallSound Ψ P g args σ r) {f0 : FuncId} {l : List Memo} (hl : ∀ m ∈ l, m.f = f0 ∧ MemoSound Ψ P m) :
    ∀ g s, withM base f0 l g = some s → ∀ args σ r, s args σ = some r → CallSound Ψ P g args σ r := by
  intro g s h args σ r hs
  unfold withM at h
  split at h
  · rename_i hg
    have := Nat.eq_of_beq_eq_true hg
    subst this
    cases Option.some.inj h
    exact findM_sound l hl args σ r hs
  · exact hb g s h args σ r hs
end Go.Ev
/-
  DERIVED: THE SHELF's CONTRACTS AT THIS DUMP, IN PLAIN WORDS (tools/lay-plain.mjs out of 'TryzShelf.lean', which tools/lay-shelf.mjs wrote): THE SAME DECLARATIONS UNDER THE SAME NAMES: 'import', 'namespace', 'open', 'def', 'theorem' AND NOTHING ELSE: no command of the shelf's: FOR A HAND-IN. Each laying: the table of numbers ('.._ren') and one theorem, a field a fact of the dump's own or the kernel's comparison; each contract: ONE APPLICATION.
-/
namespace Go.Proofs
open Go.Shelf
def Tryz.lays170_ren : Go.Shelf.Ren := ⟨fun | 170 => 135 | n => n, fun | 70 => 51 | 3 => 3 | 0 => 0 | 72 => 54 | 37 => 52 | 5 => 5 | n => n, fun | n => n⟩
theorem Tryz.lays170 : Go.Proofs.Lays.n170 Tryz.prog Tryz.lays170_ren := {
  mixed := by kernel_rfl
  f170 := Tryz.func135.trans (congrArg some (by kernel_rfl))
  t0 := Tryz.underlying0
  a0 := Tryz.isAgg0
  z0 := Tryz.sizeOf0
  v0 := Tryz.zeroValue0
  t3 := Tryz.underlying3
  a3 := Tryz.isAgg3
  z3 := Tryz.sizeOf3
  v3 := Tryz.zeroValue3
  t37 := Tryz.underlying52
  a37 := Tryz.isAgg52
  z37 := Tryz.sizeOf52
  v37 := Tryz.zeroValue52
  t70 := Tryz.underlying51
  a70 := Tryz.isAgg51
  z70 := Tryz.sizeOf51
  v70 := Tryz.zeroValue51
  t72 := Tryz.underlying54
  a72 := Tryz.isAgg54
  z72 := Tryz.sizeOf54
  v72 := Tryz.zeroValue54 }
open Go.RowKit in
/-- (*strings.Builder).Len: "Len returns the number of accumulated bytes; b.Len() == len(b.String()).": the world is as it was. (LAID: no walk: one application.) -/
theorem Tryz.Builder_Len (B b : Nat) (bs : List Value) (w : World) (h : Lib.IsBuilder 54 5 B b bs w) :
    Calls Tryz.prog 135 #[.pointer (some ⟨b, 0, none⟩)] w fun e w' => e = .returned (.int .i64 bs.length) ∧ w' = w := Any.Builder_Len Tryz.lays170 B b bs w h
def Tryz.lays169_ren : Go.Shelf.Ren := ⟨fun | 169 => 23 | n => n, fun | 70 => 51 | 9 => 9 | 0 => 0 | 72 => 54 | 37 => 52 | 127 => 102 | 3 => 3 | 5 => 5 | n => n, fun | n => n⟩
theorem Tryz.lays169 : Go.Proofs.Lays.n169 Tryz.prog Tryz.lays169_ren := {
  mixed := by kernel_rfl
  f169 := Tryz.func23.trans (congrArg some (by kernel_rfl))
  t0 := Tryz.underlying0
  a0 := Tryz.isAgg0
  z0 := Tryz.sizeOf0
  v0 := Tryz.zeroValue0
  t3 := Tryz.underlying3
  a3 := Tryz.isAgg3
  z3 := Tryz.sizeOf3
  v3 := Tryz.zeroValue3
  t9 := Tryz.underlying9
  a9 := Tryz.isAgg9
  z9 := Tryz.sizeOf9
  v9 := Tryz.zeroValue9
  t37 := Tryz.underlying52
  a37 := Tryz.isAgg52
  z37 := Tryz.sizeOf52
  v37 := Tryz.zeroValue52
  t70 := Tryz.underlying51
  a70 := Tryz.isAgg51
  z70 := Tryz.sizeOf51
  v70 := Tryz.zeroValue51
  t72 := Tryz.underlying54
  a72 := Tryz.isAgg54
  z72 := Tryz.sizeOf54
  v72 := Tryz.zeroValue54
  t127 := Tryz.underlying102
  a127 := Tryz.isAgg102
  z127 := Tryz.sizeOf102
  v127 := Tryz.zeroValue102 }
theorem Tryz.Builder_Extra_169 : Builder.Extra Tryz.prog Tryz.lays169_ren := {
  sizeBuilder := by kernel_rfl
  liesBuilder := by kernel_rfl
  t5 := Tryz.underlying5
  a5 := Tryz.isAgg5
  z5 := Tryz.sizeOf5
  v5 := Tryz.zeroValue5
  infoByte := by kernel_rfl
  cellsByte := by kernel_rfl
  sizeByte := by kernel_rfl
  neB5 := by decide }
open Go.RowKit in
/-- (*strings.Builder).String: "String returns the accumulated string.": WHATEVER THE BUILDER HOLDS. (LAID: no walk: one application.) -/
theorem Tryz.Builder_String_any (B b : Nat) (l : List UInt8) (w : World) (h : Lib.IsBuilder 54 5 B b (Lib.byteCells l) w) (hBw : B ≤ w.heap.size) :
    Calls Tryz.prog 23 #[.pointer (some ⟨b, 0, none⟩)] w fun e w' => e = .returned (.string ⟨l.toArray⟩) ∧ Below B w w' := Any.Builder_String_any Tryz.lays169 Tryz.Builder_Extra_169 B b l w h hBw
def Tryz.lays165_ren : Go.Shelf.Ren := ⟨fun | 165 => 42 | 240 => 41 | 241 => 77 | 276 => 76 | 277 => 123 | n => n, fun | 70 => 51 | 3 => 3 | 0 => 0 | 4 => 4 | 9 => 9 | 20 => 20 | 72 => 54 | 37 => 52 | 164 => 134 | 5 => 5 | n => n, fun | n => n⟩
theorem Tryz.lays165 : Go.Proofs.Lays.n165 Tryz.prog Tryz.lays165_ren := {
  mixed := by kernel_rfl
  f165 := Tryz.func42.trans (congrArg some (by kernel_rfl))
  f240 := Tryz.func41.trans (congrArg some (by kernel_rfl))
  f241 := Tryz.func77.trans (congrArg some (by kernel_rfl))
  f276 := Tryz.func76.trans (congrArg some (by kernel_rfl))
  f277 := Tryz.func123.trans (congrArg some (by kernel_rfl))
  t0 := Tryz.underlying0
  a0 := Tryz.isAgg0
  z0 := Tryz.sizeOf0
  v0 := Tryz.zeroValue0
  t3 := Tryz.underlying3
  a3 := Tryz.isAgg3
  z3 := Tryz.sizeOf3
  v3 := Tryz.zeroValue3
  t4 := Tryz.underlying4
  a4 := Tryz.isAgg4
  z4 := Tryz.sizeOf4
  v4 := Tryz.zeroValue4
  t9 := Tryz.underlying9
  a9 := Tryz.isAgg9
  z9 := Tryz.sizeOf9
  v9 := Tryz.zeroValue9
  t20 := Tryz.underlying20
  a20 := Tryz.isAgg20
  z20 := Tryz.sizeOf20
  v20 := Tryz.zeroValue20
  t37 := Tryz.underlying52
  a37 := Tryz.isAgg52
  z37 := Tryz.sizeOf52
  v37 := Tryz.zeroValue52
  t70 := Tryz.underlying51
  a70 := Tryz.isAgg51
  z70 := Tryz.sizeOf51
  v70 := Tryz.zeroValue51
  t72 := Tryz.underlying54
  a72 := Tryz.isAgg54
  z72 := Tryz.sizeOf54
  v72 := Tryz.zeroValue54
  t164 := Tryz.underlying134
  a164 := Tryz.isAgg134
  z164 := Tryz.sizeOf134
  v164 := Tryz.zeroValue134 }
theorem Tryz.Builder_Extra_165 : Builder.Extra Tryz.prog Tryz.lays165_ren := {
  sizeBuilder := by kernel_rfl
  liesBuilder := by kernel_rfl
  t5 := Tryz.underlying5
  a5 := Tryz.isAgg5
  z5 := Tryz.sizeOf5
  v5 := Tryz.zeroValue5
  infoByte := by kernel_rfl
  cellsByte := by kernel_rfl
  sizeByte := by kernel_rfl
  neB5 := by decide }
open Go.RowKit in
/-- (*strings.Builder).Grow AT A BUILDER THAT HAS NOT BEEN WRITTEN ('var b strings.Builder; b.Grow(n)'): "Grow grows b's capacity, if necessary, to guarantee space for another n bytes.": it holds no byte behind it as before it. (LAID: no walk: one application.) -/
theorem Tryz.Builder_Grow_fresh (B b n : Nat) (w : World) (hB : B ≤ b) (hbk : w.heap[b]? = some (.cells #[.pointer none, .slice none 0 0] 54 (0, 0))) (hBw : B ≤ w.heap.size) (hn : n ≤ 281474976710656) :
    Calls Tryz.prog 42 #[.pointer (some ⟨b, 0, none⟩), .int .i64 n] w fun e w' => e = .returned (.tuple #[]) ∧ (Lib.BuilderAt 54 5 B b (.pointer (some ⟨b, 0, none⟩)) [] w' ∧ Below B w w') := Any.Builder_Grow_fresh Tryz.lays165 Tryz.Builder_Extra_165 B b n w hB hbk hBw hn
def Tryz.lays156_ren : Go.Shelf.Ren := ⟨fun | 156 => 18 | 165 => 42 | 166 => 17 | 169 => 23 | 240 => 41 | 241 => 77 | 276 => 76 | 277 => 123 | n => n, fun | 31 => 47 | 9 => 9 | 3 => 3 | 4 => 4 | 0 => 0 | 20 => 20 | 72 => 54 | 76 => 57 | 70 => 51 | 37 => 52 | 75 => 56 | 127 => 102 | 164 => 134 | 5 => 5 | 80 => 68 | n => n, fun | n => n⟩
theorem Tryz.lays156 : Go.Proofs.Lays.n156 Tryz.prog Tryz.lays156_ren := {
  mixed := by kernel_rfl
  f156 := Tryz.func18.trans (congrArg some (by kernel_rfl))
  f165 := Tryz.func42.trans (congrArg some (by kernel_rfl))
  f166 := Tryz.func17.trans (congrArg some (by kernel_rfl))
  f169 := Tryz.func23.trans (congrArg some (by kernel_rfl))
  f240 := Tryz.func41.trans (congrArg some (by kernel_rfl))
  f241 := Tryz.func77.trans (congrArg some (by kernel_rfl))
  f276 := Tryz.func76.trans (congrArg some (by kernel_rfl))
  f277 := Tryz.func123.trans (congrArg some (by kernel_rfl))
  t0 := Tryz.underlying0
  a0 := Tryz.isAgg0
  z0 := Tryz.sizeOf0
  v0 := Tryz.zeroValue0
  t3 := Tryz.underlying3
  a3 := Tryz.isAgg3
  z3 := Tryz.sizeOf3
  v3 := Tryz.zeroValue3
  t4 := Tryz.underlying4
  a4 := Tryz.isAgg4
  z4 := Tryz.sizeOf4
  v4 := Tryz.zeroValue4
  t9 := Tryz.underlying9
  a9 := Tryz.isAgg9
  z9 := Tryz.sizeOf9
  v9 := Tryz.zeroValue9
  t20 := Tryz.underlying20
  a20 := Tryz.isAgg20
  z20 := Tryz.sizeOf20
  v20 := Tryz.zeroValue20
  t31 := Tryz.underlying47
  a31 := Tryz.isAgg47
  z31 := Tryz.sizeOf47
  v31 := Tryz.zeroValue47
  t37 := Tryz.underlying52
  a37 := Tryz.isAgg52
  z37 := Tryz.sizeOf52
  v37 := Tryz.zeroValue52
  t70 := Tryz.underlying51
  a70 := Tryz.isAgg51
  z70 := Tryz.sizeOf51
  v70 := Tryz.zeroValue51
  t72 := Tryz.underlying54
  a72 := Tryz.isAgg54
  z72 := Tryz.sizeOf54
  v72 := Tryz.zeroValue54
  t75 := Tryz.underlying56
  a75 := Tryz.isAgg56
  z75 := Tryz.sizeOf56
  v75 := Tryz.zeroValue56
  t76 := Tryz.underlying57
  a76 := Tryz.isAgg57
  z76 := Tryz.sizeOf57
  v76 := Tryz.zeroValue57
  t127 := Tryz.underlying102
  a127 := Tryz.isAgg102
  z127 := Tryz.sizeOf102
  v127 := Tryz.zeroValue102
  t164 := Tryz.underlying134
  a164 := Tryz.isAgg134
  z164 := Tryz.sizeOf134
  v164 := Tryz.zeroValue134 }
theorem Tryz.Builder_Extra_156 : Builder.Extra Tryz.prog Tryz.lays156_ren := {
  sizeBuilder := by kernel_rfl
  liesBuilder := by kernel_rfl
  t5 := Tryz.underlying5
  a5 := Tryz.isAgg5
  z5 := Tryz.sizeOf5
  v5 := Tryz.zeroValue5
  infoByte := by kernel_rfl
  cellsByte := by kernel_rfl
  sizeByte := by kernel_rfl
  neB5 := by decide }
open Go.RowKit in
/-- strings.Join: "Join concatenates the elements of its first argument to create a single string. The separator string sep is placed between elements in the resulting string.": HOWEVER MANY ELEMENTS. Below the heap's end the world is as it was. (LAID: no walk: one application.) -/
theorem Tryz.strings_Join (bk o c : Nat) (xs : List ByteArray) (sep : ByteArray) (w : World) (hcells : ∀ (j : Nat) x, xs[j]? = some x → w.cell? ⟨bk, o + j, none⟩ = some (.string x)) (hbk : bk < w.heap.size) (hN : xs.length ≤ 140737488355328) (hcap : xs.length ≤ c) (hlen : (Lib.join (xs.map (·.data.toList)) sep.data.toList).length ≤ 140737488355328) :
    Calls Tryz.prog 18 #[.slice (some ⟨bk, o, none⟩) xs.length c, .string sep] w fun e w' => e = .returned (.string ⟨(Lib.join (xs.map (·.data.toList)) sep.data.toList).toArray⟩) ∧ Below w.heap.size w w' := Any.strings_Join Tryz.lays156 Tryz.Builder_Extra_156 bk o c xs sep w hcells hbk hN hcap hlen
def Tryz.lays125_ren : Go.Shelf.Ren := ⟨fun | 125 => 125 | 128 => 177 | 129 => 178 | n => n, fun | 46 => 145 | 3 => 3 | 51 => 231 | 53 => 164 | 4 => 4 | 5 => 5 | 9 => 9 | n => n, fun | n => n⟩
theorem Tryz.lays125 : Go.Proofs.Lays.n125 Tryz.prog Tryz.lays125_ren := {
  mixed := by kernel_rfl
  f125 := Tryz.func125.trans (congrArg some (by kernel_rfl))
  f128 := Tryz.func177.trans (congrArg some (by kernel_rfl))
  f129 := Tryz.func178.trans (congrArg some (by kernel_rfl))
  t3 := Tryz.underlying3
  a3 := Tryz.isAgg3
  z3 := Tryz.sizeOf3
  v3 := Tryz.zeroValue3
  t4 := Tryz.underlying4
  a4 := Tryz.isAgg4
  z4 := Tryz.sizeOf4
  v4 := Tryz.zeroValue4
  t5 := Tryz.underlying5
  a5 := Tryz.isAgg5
  z5 := Tryz.sizeOf5
  v5 := Tryz.zeroValue5
  t9 := Tryz.underlying9
  a9 := Tryz.isAgg9
  z9 := Tryz.sizeOf9
  v9 := Tryz.zeroValue9
  t46 := Tryz.underlying145
  a46 := Tryz.isAgg145
  z46 := Tryz.sizeOf145
  v46 := Tryz.zeroValue145
  t51 := Tryz.underlying231
  a51 := Tryz.isAgg231
  z51 := Tryz.sizeOf231
  v51 := Tryz.zeroValue231
  t53 := Tryz.underlying164
  a53 := Tryz.isAgg164
  z53 := Tryz.sizeOf164
  v53 := Tryz.zeroValue164 }
/-- bits.Len: "Len returns the minimum number of bits required to represent x; the result is 0 for x == 0.": IT RETURNS 'Lib.bitLen x'; the world is as it was. (A uint has 64 bits in the model.) ITS CALLEE bits.Len64 IS MET BY ITS OWN CONTRACT OFF THE SHELF (lay that first). (LAID: no walk: one application.) -/
theorem Tryz.bits_Len (x : Int) (w : World) (h0 : 0 ≤ x) (h1 : x ≤ 18446744073709551615) :
    Calls Tryz.prog 125 #[.int .u64 x] w fun e w' => e = .returned (.int .i64 (Lib.bitLen x.toNat)) ∧ w' = w := Any.bits_Len Tryz.lays125 x w h0 h1
def Tryz.lays106_ren : Go.Shelf.Ren := ⟨fun | 106 => 82 | 213 => 126 | 265 => 179 | n => n, fun | 9 => 9 | 3 => 3 | n => n, fun | n => n⟩
theorem Tryz.lays106 : Go.Proofs.Lays.n106 Tryz.prog Tryz.lays106_ren := {
  mixed := by kernel_rfl
  f106 := Tryz.func82.trans (congrArg some (by kernel_rfl))
  f213 := Tryz.func126.trans (congrArg some (by kernel_rfl))
  f265 := Tryz.func179.trans (congrArg some (by kernel_rfl))
  t3 := Tryz.underlying3
  a3 := Tryz.isAgg3
  z3 := Tryz.sizeOf3
  v3 := Tryz.zeroValue3
  t9 := Tryz.underlying9
  a9 := Tryz.isAgg9
  z9 := Tryz.sizeOf9
  v9 := Tryz.zeroValue9 }
open Go.RowKit in
/-- strings.Compare: "Compare returns an integer comparing two strings lexicographically. The result will be 0 if a == b, -1 if a < b, and +1 if a > b.": IT RETURNS 'Lib.compareBytes a b'; the world is as it was. (LAID: no walk: one application.) -/
theorem Tryz.strings_Compare (a b : ByteArray) (w : World) :
    Calls Tryz.prog 82 #[.string a, .string b] w fun e w' => e = .returned (.int .i64 (Lib.compareBytes a.data.toList b.data.toList)) ∧ w' = w := Any.strings_Compare Tryz.lays106 a b w
def Tryz.lays137_ren : Go.Shelf.Ren := ⟨fun | 137 => 51 | 217 => 89 | 266 => 137 | n => n, fun | 9 => 9 | 5 => 5 | 3 => 3 | n => n, fun | n => n⟩
theorem Tryz.lays137 : Go.Proofs.Lays.n137 Tryz.prog Tryz.lays137_ren := {
  mixed := by kernel_rfl
  f137 := Tryz.func51.trans (congrArg some (by kernel_rfl))
  f217 := Tryz.func89.trans (congrArg some (by kernel_rfl))
  f266 := Tryz.func137.trans (congrArg some (by kernel_rfl))
  t3 := Tryz.underlying3
  a3 := Tryz.isAgg3
  z3 := Tryz.sizeOf3
  v3 := Tryz.zeroValue3
  t5 := Tryz.underlying5
  a5 := Tryz.isAgg5
  z5 := Tryz.sizeOf5
  v5 := Tryz.zeroValue5
  t9 := Tryz.underlying9
  a9 := Tryz.isAgg9
  z9 := Tryz.sizeOf9
  v9 := Tryz.zeroValue9 }
open Go.RowKit in
/-- strings.IndexByte: "IndexByte returns the index of the first instance of c in s, or -1 if c is not present in s.": IT RETURNS 'Lib.indexByte s c'; the world is as it was. (LAID: no walk: one application.) -/
theorem Tryz.strings_IndexByte (s : ByteArray) (c : Int) (w : World) :
    Calls Tryz.prog 51 #[.string s, .int .u8 c] w fun e w' => e = .returned (.int .i64 (Lib.indexByte s.data.toList c.toNat.toUInt8)) ∧ w' = w := Any.strings_IndexByte Tryz.lays137 s c w
def Tryz.lays172_ren : Go.Shelf.Ren := ⟨fun | 172 => 127 | 244 => 180 | 245 => 181 | 247 => 232 | 279 => 233 | 280 => 234 | 281 => 235 | 282 => 236 | 287 => 245 | 316 => 273 | 171 => 87 | 205 => 274 | 321 => 279 | 322 => 280 | 243 => 136 | 246 => 187 | 283 => 237 | 284 => 238 | 285 => 239 | 286 => 240 | 129 => 178 | 317 => 275 | 318 => 276 | 319 => 277 | 320 => 278 | 337 => 295 | 338 => 284 | n => n, fun | 9 => 9 | 3 => 3 | 75 => 56 | 76 => 57 | 4 => 4 | 5 => 5 | 167 => 283 | 37 => 52 | 0 => 0 | 85 => 284 | 2 => 2 | 168 => 286 | 53 => 164 | 175 => 244 | 46 => 145 | 210 => 316 | 127 => 102 | 145 => 332 | 143 => 330 | 21 => 21 | 171 => 289 | 173 => 291 | 212 => 319 | 51 => 231 | 20 => 20 | 213 => 320 | 232 => 336 | 233 => 333 | 80 => 68 | n => n, fun | 15 => 5 | 16 => 6 | 17 => 7 | 18 => 9 | 19 => 8 | n => n⟩
theorem Tryz.lays172 : Go.Proofs.Lays.n172 Tryz.prog Tryz.lays172_ren := {
  mixed := by kernel_rfl
  f129 := Tryz.func178.trans (congrArg some (by kernel_rfl))
  f171 := Tryz.func87.trans (congrArg some (by kernel_rfl))
  f172 := Tryz.func127.trans (congrArg some (by kernel_rfl))
  f205 := Tryz.func274.trans (congrArg some (by kernel_rfl))
  f243 := Tryz.func136.trans (congrArg some (by kernel_rfl))
  f244 := Tryz.func180.trans (congrArg some (by kernel_rfl))
  f245 := Tryz.func181.trans (congrArg some (by kernel_rfl))
  f246 := Tryz.func187.trans (congrArg some (by kernel_rfl))
  f247 := Tryz.func232.trans (congrArg some (by kernel_rfl))
  f279 := Tryz.func233.trans (congrArg some (by kernel_rfl))
  f280 := Tryz.func234.trans (congrArg some (by kernel_rfl))
  f281 := Tryz.func235.trans (congrArg some (by kernel_rfl))
  f282 := Tryz.func236.trans (congrArg some (by kernel_rfl))
  f283 := Tryz.func237.trans (congrArg some (by kernel_rfl))
  f284 := Tryz.func238.trans (congrArg some (by kernel_rfl))
  f285 := Tryz.func239.trans (congrArg some (by kernel_rfl))
  f286 := Tryz.func240.trans (congrArg some (by kernel_rfl))
  f287 := Tryz.func245.trans (congrArg some (by kernel_rfl))
  f316 := Tryz.func273.trans (congrArg some (by kernel_rfl))
  f317 := Tryz.func275.trans (congrArg some (by kernel_rfl))
  f318 := Tryz.func276.trans (congrArg some (by kernel_rfl))
  f319 := Tryz.func277.trans (congrArg some (by kernel_rfl))
  f320 := Tryz.func278.trans (congrArg some (by kernel_rfl))
  f321 := Tryz.func279.trans (congrArg some (by kernel_rfl))
  f322 := Tryz.func280.trans (congrArg some (by kernel_rfl))
  f337 := Tryz.func295.trans (congrArg some (by kernel_rfl))
  f338 := Tryz.func284.trans (congrArg some (by kernel_rfl))
  t0 := Tryz.underlying0
  a0 := Tryz.isAgg0
  z0 := Tryz.sizeOf0
  v0 := Tryz.zeroValue0
  t2 := Tryz.underlying2
  a2 := Tryz.isAgg2
  z2 := Tryz.sizeOf2
  v2 := Tryz.zeroValue2
  t3 := Tryz.underlying3
  a3 := Tryz.isAgg3
  z3 := Tryz.sizeOf3
  v3 := Tryz.zeroValue3
  t4 := Tryz.underlying4
  a4 := Tryz.isAgg4
  z4 := Tryz.sizeOf4
  v4 := Tryz.zeroValue4
  t5 := Tryz.underlying5
  a5 := Tryz.isAgg5
  z5 := Tryz.sizeOf5
  v5 := Tryz.zeroValue5
  t9 := Tryz.underlying9
  a9 := Tryz.isAgg9
  z9 := Tryz.sizeOf9
  v9 := Tryz.zeroValue9
  t20 := Tryz.underlying20
  a20 := Tryz.isAgg20
  z20 := Tryz.sizeOf20
  v20 := Tryz.zeroValue20
  t21 := Tryz.underlying21
  a21 := Tryz.isAgg21
  z21 := Tryz.sizeOf21
  v21 := Tryz.zeroValue21
  t37 := Tryz.underlying52
  a37 := Tryz.isAgg52
  z37 := Tryz.sizeOf52
  v37 := Tryz.zeroValue52
  t46 := Tryz.underlying145
  a46 := Tryz.isAgg145
  z46 := Tryz.sizeOf145
  v46 := Tryz.zeroValue145
  t51 := Tryz.underlying231
  a51 := Tryz.isAgg231
  z51 := Tryz.sizeOf231
  v51 := Tryz.zeroValue231
  t53 := Tryz.underlying164
  a53 := Tryz.isAgg164
  z53 := Tryz.sizeOf164
  v53 := Tryz.zeroValue164
  t75 := Tryz.underlying56
  a75 := Tryz.isAgg56
  z75 := Tryz.sizeOf56
  v75 := Tryz.zeroValue56
  t76 := Tryz.underlying57
  a76 := Tryz.isAgg57
  z76 := Tryz.sizeOf57
  v76 := Tryz.zeroValue57
  t85 := Tryz.underlying284
  a85 := Tryz.isAgg284
  z85 := Tryz.sizeOf284
  v85 := Tryz.zeroValue284
  t127 := Tryz.underlying102
  a127 := Tryz.isAgg102
  z127 := Tryz.sizeOf102
  v127 := Tryz.zeroValue102
  t143 := Tryz.underlying330
  a143 := Tryz.isAgg330
  z143 := Tryz.sizeOf330
  v143 := Tryz.zeroValue330
  t145 := Tryz.underlying332
  a145 := Tryz.isAgg332
  z145 := Tryz.sizeOf332
  v145 := Tryz.zeroValue332
  t167 := Tryz.underlying283
  a167 := Tryz.isAgg283
  z167 := Tryz.sizeOf283
  v167 := Tryz.zeroValue283
  t168 := Tryz.underlying286
  a168 := Tryz.isAgg286
  z168 := Tryz.sizeOf286
  v168 := Tryz.zeroValue286
  t171 := Tryz.underlying289
  a171 := Tryz.isAgg289
  z171 := Tryz.sizeOf289
  v171 := Tryz.zeroValue289
  t173 := Tryz.underlying291
  a173 := Tryz.isAgg291
  z173 := Tryz.sizeOf291
  v173 := Tryz.zeroValue291
  t175 := Tryz.underlying244
  a175 := Tryz.isAgg244
  z175 := Tryz.sizeOf244
  v175 := Tryz.zeroValue244
  t210 := Tryz.underlying316
  a210 := Tryz.isAgg316
  z210 := Tryz.sizeOf316
  v210 := Tryz.zeroValue316
  t212 := Tryz.underlying319
  a212 := Tryz.isAgg319
  z212 := Tryz.sizeOf319
  v212 := Tryz.zeroValue319
  t213 := Tryz.underlying320
  a213 := Tryz.isAgg320
  z213 := Tryz.sizeOf320
  t232 := Tryz.underlying336
  a232 := Tryz.isAgg336
  z232 := Tryz.sizeOf336
  v232 := Tryz.zeroValue336
  t233 := Tryz.underlying333
  a233 := Tryz.isAgg333
  z233 := Tryz.sizeOf333
  v233 := Tryz.zeroValue333
  g15 := by kernel_rfl
  g16 := by kernel_rfl
  g17 := by kernel_rfl
  g18 := by kernel_rfl
  g19 := by kernel_rfl }
open Go.RowKit in
/-- strconv.Atoi: "Atoi is equivalent to ParseInt(s, 10, 0), converted to type int.": AT A DECIMAL NUMERAL OF AT MOST 18 BYTES: its value, and a nil error. The world behind the call: the one new row that the library's '[]byte(s)' lays. (LAID: no walk: one application.) -/
theorem Tryz.strconv_Atoi (s : ByteArray) (n : Int) (hl : s.size ≤ 18) (h : Lib.atoi s.data.toList = some n) (w : World) :
    Calls Tryz.prog 127 #[.string s] w fun e w' => e = .returned (.tuple #[.int .i64 n, .nilIface]) ∧ ∃ t, w' = Lib.bytesWorld w 5 t := Any.strconv_Atoi Tryz.lays172 s n hl h w
def Tryz.lays219_ren : Go.Shelf.Ren := ⟨fun | 219 => 138 | 217 => 89 | 225 => 188 | 224 => 189 | 267 => 190 | 266 => 137 | 314 => 241 | n => n, fun | 9 => 9 | 3 => 3 | 4 => 4 | 5 => 5 | 46 => 145 | 146 => 233 | 51 => 231 | n => n, fun | 1 => 3 | n => n⟩
theorem Tryz.lays219 : Go.Proofs.Lays.n219 Tryz.prog Tryz.lays219_ren := {
  mixed := by kernel_rfl
  f217 := Tryz.func89.trans (congrArg some (by kernel_rfl))
  f219 := Tryz.func138.trans (congrArg some (by kernel_rfl))
  f224 := Tryz.func189.trans (congrArg some (by kernel_rfl))
  f225 := Tryz.func188.trans (congrArg some (by kernel_rfl))
  f266 := Tryz.func137.trans (congrArg some (by kernel_rfl))
  f267 := Tryz.func190.trans (congrArg some (by kernel_rfl))
  f314 := Tryz.func241.trans (congrArg some (by kernel_rfl))
  t3 := Tryz.underlying3
  a3 := Tryz.isAgg3
  z3 := Tryz.sizeOf3
  v3 := Tryz.zeroValue3
  t4 := Tryz.underlying4
  a4 := Tryz.isAgg4
  z4 := Tryz.sizeOf4
  v4 := Tryz.zeroValue4
  t5 := Tryz.underlying5
  a5 := Tryz.isAgg5
  z5 := Tryz.sizeOf5
  v5 := Tryz.zeroValue5
  t9 := Tryz.underlying9
  a9 := Tryz.isAgg9
  z9 := Tryz.sizeOf9
  v9 := Tryz.zeroValue9
  t46 := Tryz.underlying145
  a46 := Tryz.isAgg145
  z46 := Tryz.sizeOf145
  v46 := Tryz.zeroValue145
  t51 := Tryz.underlying231
  a51 := Tryz.isAgg231
  z51 := Tryz.sizeOf231
  v51 := Tryz.zeroValue231
  t146 := Tryz.underlying233
  a146 := Tryz.isAgg233
  z146 := Tryz.sizeOf233
  v146 := Tryz.zeroValue233
  g1 := by kernel_rfl }
open Go.RowKit Go.Lib in
/-- internal/stringslite.Index (what strings.Index calls) AT A substr OF ONE BYTE c: IT RETURNS 'Lib.indexByte s c'; the world is as it was. (LAID: no walk: one application.) -/
theorem Tryz.stringslite_Index_one (s : ByteArray) (c : UInt8) (w : World) :
    Calls Tryz.prog 138 #[.string s, .string ⟨#[c]⟩] w fun e w' => e = .returned (.int .i64 (Lib.indexByte s.data.toList c)) ∧ w' = w := Any.stringslite_Index_one Tryz.lays219 s c w
def Tryz.lays138_ren : Go.Shelf.Ren := ⟨fun | 138 => 52 | 195 => 90 | 218 => 91 | 143 => 92 | 219 => 138 | 217 => 89 | 225 => 188 | 224 => 189 | 267 => 190 | 266 => 137 | 314 => 241 | n => n, fun | 9 => 9 | 3 => 3 | 4 => 4 | 5 => 5 | 0 => 0 | 46 => 145 | 146 => 233 | 51 => 231 | n => n, fun | 1 => 3 | n => n⟩
theorem Tryz.lays138 : Go.Proofs.Lays.n138 Tryz.prog Tryz.lays138_ren := {
  mixed := by kernel_rfl
  f138 := Tryz.func52.trans (congrArg some (by kernel_rfl))
  f143 := Tryz.func92.trans (congrArg some (by kernel_rfl))
  f195 := Tryz.func90.trans (congrArg some (by kernel_rfl))
  f217 := Tryz.func89.trans (congrArg some (by kernel_rfl))
  f218 := Tryz.func91.trans (congrArg some (by kernel_rfl))
  f219 := Tryz.func138.trans (congrArg some (by kernel_rfl))
  f224 := Tryz.func189.trans (congrArg some (by kernel_rfl))
  f225 := Tryz.func188.trans (congrArg some (by kernel_rfl))
  f266 := Tryz.func137.trans (congrArg some (by kernel_rfl))
  f267 := Tryz.func190.trans (congrArg some (by kernel_rfl))
  f314 := Tryz.func241.trans (congrArg some (by kernel_rfl))
  t0 := Tryz.underlying0
  a0 := Tryz.isAgg0
  z0 := Tryz.sizeOf0
  v0 := Tryz.zeroValue0
  t3 := Tryz.underlying3
  a3 := Tryz.isAgg3
  z3 := Tryz.sizeOf3
  v3 := Tryz.zeroValue3
  t4 := Tryz.underlying4
  a4 := Tryz.isAgg4
  z4 := Tryz.sizeOf4
  v4 := Tryz.zeroValue4
  t5 := Tryz.underlying5
  a5 := Tryz.isAgg5
  z5 := Tryz.sizeOf5
  v5 := Tryz.zeroValue5
  t9 := Tryz.underlying9
  a9 := Tryz.isAgg9
  z9 := Tryz.sizeOf9
  v9 := Tryz.zeroValue9
  t46 := Tryz.underlying145
  a46 := Tryz.isAgg145
  z46 := Tryz.sizeOf145
  v46 := Tryz.zeroValue145
  t51 := Tryz.underlying231
  a51 := Tryz.isAgg231
  z51 := Tryz.sizeOf231
  v51 := Tryz.zeroValue231
  t146 := Tryz.underlying233
  a146 := Tryz.isAgg233
  z146 := Tryz.sizeOf233
  v146 := Tryz.zeroValue233
  g1 := by kernel_rfl }
open Go.RowKit Go.Lib in
/-- strings.Count AT A substr OF ONE BYTE ('hp'): "Count counts the number of non-overlapping instances of substr in s.": IT RETURNS 'Lib.countByte s (that byte)'; the world is as it was. ✋ NO CONTRACT HERE YET at an empty substr (utf8.RuneCountInString) or at a longer one (a loop over strings.Index). (LAID: no walk: one application.) -/
theorem Tryz.strings_Count_one (s : ByteArray) (c : UInt8) (w : World) :
    Calls Tryz.prog 52 #[.string s, .string ⟨#[c]⟩] w fun e w' => e = .returned (.int .i64 (Lib.countByte s.data.toList c)) ∧ w' = w := Any.strings_Count_one Tryz.lays138 s c w
def Tryz.lays197_ren : Go.Shelf.Ren := ⟨fun | 197 => 49 | 260 => 88 | n => n, fun | 9 => 9 | 21 => 21 | 3 => 3 | 4 => 4 | 5 => 5 | 105 => 103 | 119 => 187 | 0 => 0 | 46 => 145 | 139 => 190 | 138 => 189 | n => n, fun | 3 => 1 | 4 => 2 | n => n⟩
theorem Tryz.lays197 : Go.Proofs.Lays.n197 Tryz.prog Tryz.lays197_ren := {
  mixed := by kernel_rfl
  f197 := Tryz.func49.trans (congrArg some (by kernel_rfl))
  f260 := Tryz.func88.trans (congrArg some (by kernel_rfl))
  t0 := Tryz.underlying0
  a0 := Tryz.isAgg0
  z0 := Tryz.sizeOf0
  v0 := Tryz.zeroValue0
  t3 := Tryz.underlying3
  a3 := Tryz.isAgg3
  z3 := Tryz.sizeOf3
  v3 := Tryz.zeroValue3
  t4 := Tryz.underlying4
  a4 := Tryz.isAgg4
  z4 := Tryz.sizeOf4
  v4 := Tryz.zeroValue4
  t5 := Tryz.underlying5
  a5 := Tryz.isAgg5
  z5 := Tryz.sizeOf5
  v5 := Tryz.zeroValue5
  t9 := Tryz.underlying9
  a9 := Tryz.isAgg9
  z9 := Tryz.sizeOf9
  v9 := Tryz.zeroValue9
  t21 := Tryz.underlying21
  a21 := Tryz.isAgg21
  z21 := Tryz.sizeOf21
  v21 := Tryz.zeroValue21
  t46 := Tryz.underlying145
  a46 := Tryz.isAgg145
  z46 := Tryz.sizeOf145
  v46 := Tryz.zeroValue145
  t105 := Tryz.underlying103
  a105 := Tryz.isAgg103
  z105 := Tryz.sizeOf103
  v105 := Tryz.zeroValue103
  t119 := Tryz.underlying187
  a119 := Tryz.isAgg187
  z119 := Tryz.sizeOf187
  t138 := Tryz.underlying189
  a138 := Tryz.isAgg189
  z138 := Tryz.sizeOf189
  v138 := Tryz.zeroValue189
  t139 := Tryz.underlying190
  a139 := Tryz.isAgg190
  z139 := Tryz.sizeOf190
  v139 := Tryz.zeroValue190
  g3 := by kernel_rfl
  g4 := by kernel_rfl }
open Go.RowKit Go.Lib in
/-- **unicode/utf8.DecodeRuneInString AT EVERY STRING.** (LAID: no walk: one application.) -/
theorem Tryz.utf8_DecodeRuneInString (s : ByteArray) (w : World) (hT : Lib.Utf8Tabs 1 2 w) :
    Calls Tryz.prog 49 #[.string s] w fun e w' => e = .returned (.tuple #[.int .i32 (Lib.decodeGo s).1, .int .i64 (Lib.decodeGo s).2]) ∧ Below w.heap.size w w' := Any.utf8_DecodeRuneInString Tryz.lays197 s w hT
end Go.Proofs
/- strconv.Atoi at a numeral, as a summary; the evaluator's summaries with it. -/
namespace Go.Ev
variable {Ψ : SymEnv}
open Go.RowKit
theorem rel_below {ρ : Ren Ψ} {σ : St} {w w' : World} (h : Rel ρ σ w) (hb : Below w.heap.size w w') : Rel ρ σ w' ∧ Since ρ σ w ρ σ w' := by
  obtain ⟨b1, b2, b3, b4, b5⟩ := hb
  refine ⟨⟨?_, h.inj, h.fresh, h.glob, h.gn, h.orc⟩, .refl ρ, ⟨b4, b1, b2, b3, rfl, Nat.le_refl _, fun _ _ => ⟨rfl, rfl⟩, fun k hk _ => b5 k hk, fun id o k h1 h2 => .inl ⟨o, h1, rfl, h2⟩⟩⟩
  intro id o ho
  obtain ⟨k, x, h1, h2, h3⟩ := h.live id o ho
  exact ⟨k, x, h1, by rw [b5 k (Array.getElem?_eq_some_iff.1 h2).1]; exact h2, h3⟩
def sumAtoi (args : Array Value) (σ : St) : Option Er :=
  match args.toList with
  | [.string s] => match Nat.ble s.data.toList.length 18, Lib.atoi s.data.toList with
    | true, some n => some (.ret (.tuple #[.int .i64 n, .nilIface]) σ)
    | _, _ => none
  | _ => none
theorem sumAtoi_sound {P : Program} {f : FuncId} {e : TypeId} (h1 : ∀ (s : ByteArray) (n : Int), s.size ≤ 18 → Lib.atoi s.data.toList = some n → ∀ w : World, Calls P f #[.string s] w fun e' w' => e' = .returned (.tuple #[.int .i64 n, .nilIface]) ∧ ∃ t, w' = Lib.bytesWorld w e t)
    (args : Array Value) (σ : St) (r : Er) (h : sumAtoi args σ = some r) : CallSound Ψ P f args σ r := by
  intro ρ args' w ha hr
  unfold sumAtoi at h
  split at h
  · rename_i s hl
    split at h
    · rename_i n hb hn
      cases Option.some.inj h
      have hargs : args = #[.string s] := by
        obtain ⟨l⟩ := args
        simp only at hl
        rw [hl]
      have he : args' = #[.string s] := by
        subst hargs
        obtain ⟨l'⟩ := args'
        obtain ⟨q1, q2⟩ := ha
        simp at q1
        match l', q1 with
        | [v'], _ =>
          have := q2 0 (.string s) v' (by simp) (by simp)
          cases this
          rfl
      subst he
      refine (h1 s n (by simpa using Nat.le_of_ble_eq_true hb) hn w).mono ?_
      rintro e' w' ⟨rfl, t, rfl⟩
      obtain ⟨k1, k2⟩ := rel_below hr (Lib.bytesWorld_below w e t)
      refine ⟨ρ, _, rfl, .tuple rfl ?_, k1, k2⟩
      intro i v v' q1 q2
      rw [q1] at q2
      cases Option.some.inj q2
      match i with
      | 0 => simp at q1; subst q1; exact .int _ _
      | 1 => simp at q1; subst q1; exact .nilIface
      | i + 2 => simp at q1
    · cases h
  · cases h
end Go.Ev
namespace Go.Proofs.YtcipjifpigpfdaaGreatDoor
open Go.Ev
variable {Ψ : SymEnv}
def sums0 (f : FuncId) : Option (Array Value → St → Option Er) :=
  match Nat.beq f 127 with
  | true => some sumAtoi
  | false => sums f
theorem sums0_sound (g : FuncId) (s : Array Value → St → Option Er) (hs : sums0 g = some s) (args : Array Value) (σ : St) (r : Er) (h : s args σ = some r) : CallSound Ψ Tryz.prog g args σ r := by
  unfold sums0 at hs
  split at hs
  · rename_i h1
    cases Option.some.inj hs
    have := Nat.eq_of_beq_eq_true h1
    subst this
    exact sumAtoi_sound Tryz.strconv_Atoi args σ r h
  · exact sums_sound g s hs args σ r h
theorem evM (hp : Ψ.prog = Tryz.prog) {su : FuncId → Option (Array Value → St → Option Er)} (hs : ∀ g s, su g = some s → ∀ args σ r, s args σ = some r → CallSound Ψ Tryz.prog g args σ r) {f : FuncId} {args : Array Value} {σ : St} {r : Er} (n : Nat) (h : evRun Tryz.prog su 400 n f args σ = some r) : CallSound Ψ Tryz.prog f args σ r :=
  run_sound (zerosE hp) namesE mixedE hs 400 n f args σ r h
end Go.Proofs.YtcipjifpigpfdaaGreatDoor
/- The names of the kinds of columns, as the package lays them. -/
namespace Go.Proofs.YtcipjifpigpfdaaGreatDoor
/-- the names of the kinds of columns, as the package lays them -/
def nameL : List (List UInt8) := [[110, 117, 108, 108], [98, 111, 111, 108], [105, 110, 116], [100, 101, 99], [102, 108, 111, 97, 116], [116, 101, 120, 116], [98, 121, 116, 101, 115], [105, 110, 115, 116, 97, 110, 116], [108, 111, 99, 97, 108]]
def NamesAt (w : World) : Prop := ∃ ty fr, w.heap[0]? = some (.cells (nameL.map fun b => Value.string ⟨b.toArray⟩).toArray ty fr)
end Go.Proofs.YtcipjifpigpfdaaGreatDoor
/- A closed call that evaluates to true answers true in every world where some package variables hold what they are written to hold. -/
namespace Go.Ev
variable {Ψ : SymEnv}
theorem startRelG (n : Nat) (l : List (Nat × AObj)) (w : World) (h : ∀ id o, (id, o) ∈ l → id < n ∧ o.own = false ∧ ∃ x, w.heap[id]? = some x ∧ AtR (startR (Ψ := Ψ) n) id o x) : Rel (startR (Ψ := Ψ) n) ⟨mkT l .leaf, n, n, []⟩ w where
  live := fun id o ho => by
    rcases mkT_get l .leaf id o ho with h1 | h1
    · obtain ⟨h2, -, x, h3, h4⟩ := h id o h1
      exact ⟨id, x, by simp [startR]; exact h2, h3, h4⟩
    · cases h1
  inj := fun i j oi oj hi _ hown => by
    rcases mkT_get l .leaf i oi hi with h1 | h1
    · rw [(h i oi h1).2.1] at hown; cases hown
    · cases h1
  fresh := fun id h => ⟨by simp [startR]; exact h, rfl⟩
  glob := fun g h => by simp [startR]; exact h
  gn := Nat.le_refl _
  orc := fun e he => nomatch he
theorem true_ofG {P : Program} {f : FuncId} {n : Nat} {l : List (Nat × AObj)} {r : Option Er} (h : isTrue r = true) (hs : ∀ q, r = some q → CallSound Ψ P f #[] ⟨mkT l .leaf, n, n, []⟩ q) (w : World) (hl : ∀ id o, (id, o) ∈ l → id < n ∧ o.own = false ∧ ∃ x, w.heap[id]? = some x ∧ AtR (startR (Ψ := Ψ) n) id o x) : Calls P f #[] w fun e w' => e = .returned (.bool true) ∧ Go.RowKit.Below w.heap.size w w' := by
  unfold isTrue at h
  split at h
  · rename_i σ'
    refine (hs _ rfl (startR (Ψ := Ψ) n) #[] w ⟨rfl, fun i v v' h => by simp at h⟩ (startRelG n l w hl)).mono ?_
    rintro e w' ⟨ρ', v', rfl, hv, hr, hs⟩
    cases hv
    refine ⟨rfl, hs.keep.os, hs.keep.tape, hs.keep.output, hs.keep.size, fun k hk => hs.keep.old k hk fun id o h ho => ?_⟩
    rcases mkT_get l .leaf id o h with h1 | h1
    · rw [(hl id o h1).2.1] at ho; cases ho
    · cases h1
  · cases h
/-- a row of strings that the call only reads -/
theorem strRow {ρ : Ren Ψ} {id : Nat} {cs : Array Value} {ty : TypeId} {fr : Nat × Nat} {l : List (List UInt8)} (h : cs = (l.map fun b => Value.string ⟨b.toArray⟩).toArray) : AtR ρ id (.row ⟨l.map fun b => Value.string ⟨b.toArray⟩, 0, 0, false⟩) (.cells cs ty fr) := by
  subst h
  refine ⟨_, ty, fr, rfl, { ty := (fun h => nomatch h), fr := (fun h => nomatch h), le := by simp, eq := fun _ => by simp, get := fun i v hv => ⟨v, by simpa using hv, ?_⟩, room := fun h => absurd rfl h }⟩
  obtain ⟨b, -, rfl⟩ := List.mem_map.1 (List.mem_of_getElem? hv)
  exact .string _
/-- bits.Len, as a summary -/
def sumLen (args : Array Value) (σ : St) : Option Er :=
  match args.toList with
  | [.int .u64 x] => match Int.decLe 0 x, Int.decLe x 18446744073709551615 with
    | .isTrue _, .isTrue _ => some (.ret (.int .i64 (Lib.bitLen x.toNat)) σ)
    | _, _ => none
  | _ => none
theorem sumLen_sound {P : Program} {f : FuncId} (h1 : ∀ (x : Int) (w : World), 0 ≤ x → x ≤ 18446744073709551615 → Calls P f #[.int .u64 x] w fun e w' => e = .returned (.int .i64 (Lib.bitLen x.toNat)) ∧ w' = w)
    (args : Array Value) (σ : St) (r : Er) (h : sumLen args σ = some r) : CallSound Ψ P f args σ r := by
  intro ρ args' w ha hr
  unfold sumLen at h
  split at h
  · rename_i x hl
    split at h
    · rename_i q1 q2 _ _
      cases Option.some.inj h
      have hargs : args = #[.int .u64 x] := by
        obtain ⟨l⟩ := args
        simp only at hl
        rw [hl]
      have he : args' = #[.int .u64 x] := by
        subst hargs
        obtain ⟨l'⟩ := args'
        obtain ⟨r1, r2⟩ := ha
        simp at r1
        match l', r1 with
        | [v'], _ =>
          have := r2 0 (.int .u64 x) v' (by simp) (by simp)
          cases this
          rfl
      subst he
      refine (h1 x w q1 q2).mono ?_
      rintro e' w' ⟨rfl, rfl⟩
      exact ⟨ρ, _, rfl, .int _ _, hr, .refl ρ, .refl _⟩
    · cases h
  · cases h
/-- strings.Join, as a summary -/
def strsOf : List Value → Option (List ByteArray)
  | [] => some []
  | .string s :: l => match strsOf l with
    | some xs => some (s :: xs)
    | none => none
  | _ => none
theorem strsOf_get : ∀ {l : List Value} {xs : List ByteArray}, strsOf l = some xs → xs.length = l.length ∧ ∀ (j : Nat) (x : ByteArray), xs[j]? = some x → l[j]? = some (.string x)
  | [], xs, h => by cases Option.some.inj (show some [] = some xs from h); exact ⟨rfl, fun j x h => by simp at h⟩
  | v :: l, xs, h => by
    cases v with
    | string s =>
      simp only [strsOf] at h
      cases hl : strsOf l with
      | none => rw [hl] at h; cases h
      | some ys =>
        rw [hl] at h
        cases Option.some.inj h
        obtain ⟨h1, h2⟩ := strsOf_get hl
        refine ⟨by simp [h1], fun j x hj => ?_⟩
        cases j with
        | zero => simp at hj ⊢; rw [hj]
        | succ j => simp at hj ⊢; exact h2 j x hj
    | _ => simp [strsOf] at h
def joinL (xs : List ByteArray) (sep : ByteArray) : List UInt8 := Lib.join (xs.map (·.data.toList)) sep.data.toList
def sumJoin (args : Array Value) (σ : St) : Option Er :=
  match args.toList with
  | [.slice (some a) n c, .string sep] => match a.spot, rowOf σ a.block with
    | none, some r => match (Nat.ble (a.off + n) r.cells.length && Nat.ble n lim) && ((Nat.blt c big && Nat.ble n c) || (Nat.beq c big && Nat.beq r.sz 1)), strsOf ((r.cells.drop a.off).take n) with
      | true, some xs => match Nat.ble (joinL xs sep).length lim with
        | true => some (.ret (.string ⟨(joinL xs sep).toArray⟩) σ)
        | false => none
      | _, _ => none
    | _, _ => none
  | _ => none
theorem sumJoin_sound {P : Program} {f : FuncId} (h1 : ∀ (bk o c : Nat) (xs : List ByteArray) (sep : ByteArray) (w : World), (∀ (j : Nat) x, xs[j]? = some x → w.cell? ⟨bk, o + j, none⟩ = some (.string x)) → bk < w.heap.size → xs.length ≤ 140737488355328 → xs.length ≤ c → (joinL xs sep).length ≤ 140737488355328 →
      Calls P f #[.slice (some ⟨bk, o, none⟩) xs.length c, .string sep] w fun e w' => e = .returned (.string ⟨(joinL xs sep).toArray⟩) ∧ Go.RowKit.Below w.heap.size w w')
    (args : Array Value) (σ : St) (r : Er) (h : sumJoin args σ = some r) : CallSound Ψ P f args σ r := by
  intro ρ args' w ha hr
  unfold sumJoin at h
  split at h
  · rename_i a n c sep hl
    split at h
    · rename_i x1 x2 rr hs hrow
      split at h
      · rename_i y1 y2 xs hb hx
        split at h
        · rename_i hlen
          cases Option.some.inj h
          obtain ⟨ab, ao, asp⟩ := a
          simp only at hs hrow hb hx
          subst hs
          have hargs : args = #[.slice (some ⟨ab, ao, none⟩) n c, .string sep] := by
            obtain ⟨l⟩ := args
            simp only at hl
            rw [hl]
          obtain ⟨k, c', hk, hc, he⟩ : ∃ k c', ρ.φ ab = some k ∧ CapR ρ ab ao c c' ∧ args' = #[.slice (some ⟨k, ao, none⟩) n c', .string sep] := by
            subst hargs
            obtain ⟨l'⟩ := args'
            obtain ⟨r1, r2⟩ := ha
            simp at r1
            match l', r1 with
            | [u', v'], _ =>
              have e1 := r2 0 (.slice (some ⟨ab, ao, none⟩) n c) u' (by simp) (by simp)
              have e2 := r2 1 (.string sep) v' (by simp) (by simp)
              cases e2
              cases e1 with
              | slice hk hc => exact ⟨_, _, hk, hc, rfl⟩
          subst he
          have hg := rowOf_some hrow
          obtain ⟨k', y, e1, e2, cs, ty, fr, rfl, hR⟩ := hr.live _ _ hg
          have : k' = k := by rw [hk] at e1; exact (Option.some.inj e1).symm
          subst this
          obtain ⟨hxl, hxg⟩ := strsOf_get hx
          simp only [Bool.and_eq_true, Bool.or_eq_true, Nat.ble_eq, Nat.blt_eq, Nat.beq_eq] at hb
          obtain ⟨⟨hb1, hb2⟩, hb3⟩ := hb
          have hxn : xs.length = n := by rw [hxl]; simp; omega
          have hnc : n ≤ c' := by
            rcases hb3 with ⟨q1, q2⟩ | ⟨q1, q2⟩
            · unfold CapR at hc
              rw [if_neg (by omega)] at hc
              omega
            · unfold CapR at hc
              rw [if_pos q1] at hc
              obtain ⟨R, hR1, hR2⟩ := hR.room (by omega)
              obtain ⟨R', z', hRR, hc'⟩ := hc
              rw [hR1] at hRR
              cases Option.some.inj hRR
              have hle := hR.le
              rw [q2] at hR2 hc'
              rw [Nat.div_one] at hc'
              omega
          subst hxn
          refine (h1 k' ao c' xs sep w (fun j x hj => ?_) (Array.getElem?_eq_some_iff.1 e2).1 hb2 hnc (Nat.le_of_ble_eq_true hlen)).mono ?_
          · have h3 := hxg j x hj
            rw [List.getElem?_take] at h3
            split at h3
            · rw [List.getElem?_drop] at h3
              obtain ⟨v', p1, p2⟩ := hR.get _ _ h3
              cases p2
              simp [World.cell?, e2, p1]
            · cases h3
          · rintro e' w' ⟨rfl, hbw⟩
            obtain ⟨k1, k2⟩ := rel_below hr hbw
            exact ⟨ρ, _, rfl, .string _, k1, k2⟩
        · cases h
      · cases h
    · cases h
  · cases h
end Go.Ev
namespace Go.Proofs.YtcipjifpigpfdaaGreatDoor
open Go.Ev
variable {Ψ : SymEnv}
def namesO : AObj := .row ⟨nameL.map fun b => Value.string ⟨b.toArray⟩, 0, 0, false⟩
def namesG : List (Nat × AObj) := [(0, namesO)]
def startG : St := ⟨mkT namesG .leaf, 100, 100, []⟩
theorem namesG_at {w : World} (h : NamesAt w) : ∀ id o, (id, o) ∈ namesG → id < 100 ∧ o.own = false ∧ ∃ x, w.heap[id]? = some x ∧ AtR (startR (Ψ := Ψ) 100) id o x := by
  intro id o hm
  obtain ⟨ty, fr, hw⟩ := h
  cases hm with
  | head => exact ⟨by decide, rfl, _, hw, strRow rfl⟩
  | tail _ hm => cases hm
def sums1 (f : FuncId) : Option (Array Value → St → Option Er) :=
  match Nat.beq f 125 with
  | true => some sumLen
  | false => match Nat.beq f 18 with
    | true => some sumJoin
    | false => sums0 f
theorem sums1_sound (g : FuncId) (s : Array Value → St → Option Er) (hs : sums1 g = some s) (args : Array Value) (σ : St) (r : Er) (h : s args σ = some r) : CallSound Ψ Tryz.prog g args σ r := by
  unfold sums1 at hs
  split at hs
  · rename_i h1
    cases Option.some.inj hs
    have := Nat.eq_of_beq_eq_true h1
    subst this
    exact sumLen_sound Tryz.bits_Len args σ r h
  · split at hs
    · rename_i h1
      cases Option.some.inj hs
      have := Nat.eq_of_beq_eq_true h1
      subst this
      exact sumJoin_sound Tryz.strings_Join args σ r h
    · exact sums0_sound g s hs args σ r h
end Go.Proofs.YtcipjifpigpfdaaGreatDoor
/- A call that only reads the caller's rows, by evaluation: its answer is a row of plain values, or a tuple of them. -/
namespace Go.Ev
variable {Ψ : SymEnv}
def lookA : List (Nat × Nat) → Nat → Option Nat
  | [], _ => none
  | (a, b) :: l, g => match Nat.beq a g with
    | true => some b
    | false => lookA l g
theorem lookA_mem : ∀ {m : List (Nat × Nat)} {g k : Nat}, lookA m g = some k → (g, k) ∈ m
  | [], _, _, h => by cases h
  | (a, b) :: l, g, k, h => by
    unfold lookA at h
    split at h
    · rename_i q
      have := Nat.eq_of_beq_eq_true q
      subst this
      cases Option.some.inj h
      exact List.mem_cons_self ..
    · exact List.mem_cons_of_mem _ (lookA_mem h)
def mapR {Ψ : SymEnv} (n : Nat) (m : List (Nat × Nat)) : Ren Ψ := ⟨fun g => if g < n then some g else lookA m g, fun _ => none⟩
theorem mapRel (n nx : Nat) (m : List (Nat × Nat)) (l : List (Nat × AObj)) (w : World) (hn : n ≤ nx) (hm : ∀ p, p ∈ m → p.1 < nx) (orc : List Ent) (ho : ∀ e ∈ orc, EntOk Ψ e) (h : ∀ id o, (id, o) ∈ l → o.own = false ∧ ∃ k x, (mapR (Ψ := Ψ) n m).φ id = some k ∧ w.heap[k]? = some x ∧ AtR (mapR (Ψ := Ψ) n m) id o x) : Rel (mapR (Ψ := Ψ) n m) ⟨mkT l .leaf, nx, n, orc⟩ w where
  live := fun id o ho => by
    rcases mkT_get l .leaf id o ho with h1 | h1
    · obtain ⟨-, k, x, h2, h3, h4⟩ := h id o h1
      exact ⟨k, x, h2, h3, h4⟩
    · cases h1
  inj := fun i j oi oj hi _ hown => by
    rcases mkT_get l .leaf i oi hi with h1 | h1
    · rw [(h i oi h1).1] at hown; cases hown
    · cases h1
  fresh := fun id hid => by
    refine ⟨?_, rfl⟩
    have h1 : ¬ id < n := by have : nx ≤ id := hid; omega
    simp only [mapR, if_neg h1]
    cases hl : lookA m id with
    | none => rfl
    | some k =>
      have := hm _ (lookA_mem hl)
      have h2 : nx ≤ id := hid
      simp only at this
      omega
  glob := fun g h => by simp [mapR]; intro h2; exact absurd h (by show ¬ g < n; omega)
  gn := hn
  orc := ho
/-- plain values, compared -/
def eqA : Value → Value → Bool
  | .bool a, .bool b => a == b
  | .int .i64 x, .int .i64 y => decide (x = y)
  | .string s, .string t => s.data.toList == t.data.toList
  | _, _ => false
def eqAs : List Value → List Value → Bool
  | [], _ => true
  | x :: xs, y :: ys => eqA x y && eqAs xs ys
  | _ :: _, [] => false
theorem eqA_eq {x y : Value} (h : eqA x y = true) : x = y ∧ ∀ (ρ : Ren Ψ) v', VR ρ y v' → v' = x := by
  unfold eqA at h
  split at h
  · have e := eq_of_beq h
    subst e
    exact ⟨rfl, fun ρ v' hv => by cases hv; rfl⟩
  · have e := of_decide_eq_true h
    subst e
    exact ⟨rfl, fun ρ v' hv => by cases hv; rfl⟩
  · rename_i s t
    have e := eq_of_beq h
    obtain ⟨⟨s⟩⟩ := s
    obtain ⟨⟨t⟩⟩ := t
    simp only at e
    subst e
    exact ⟨rfl, fun ρ v' hv => by cases hv; rfl⟩
  · cases h
theorem eqAs_get : ∀ {xs ys : List Value}, eqAs xs ys = true → ∀ (i : Nat) (v : Value), xs[i]? = some v → ∃ y, ys[i]? = some y ∧ eqA v y = true
  | [], _, _, i, v, h => by simp at h
  | x :: xs, [], h, i, v, _ => by cases h
  | x :: xs, y :: ys, h, i, v, hv => by
    unfold eqAs at h
    rw [Bool.and_eq_true] at h
    cases i with
    | zero => simp only [List.getElem?_cons_zero, Option.some.injEq] at hv; subst hv; exact ⟨y, rfl, h.1⟩
    | succ i => exact eqAs_get h.2 i v (by simpa using hv)
def isRow (xs : List Value) (r : Option Er) : Bool :=
  match r with
  | some (.ret (.slice (some a) n _) σ') => match a.spot, rowOf σ' a.block with
    | none, some b => (Nat.beq a.off 0 && Nat.beq n xs.length) && eqAs xs b.cells
    | _, _ => false
  | _ => false
theorem row_of {P : Program} {f : FuncId} {args args' : Array Value} {σ : St} {r : Option Er} {xs : List Value} (h : isRow xs r = true) (hs : ∀ q, r = some q → CallSound Ψ P f args σ q) {ρ : Ren Ψ} {w : World} (ha : VRs ρ args args') (hr : Rel ρ σ w) (hro : ∀ id o, σ.heap.get id = some o → o.own = false) :
    Calls P f args' w fun e w' => (∃ b c, e = .returned (.slice (some ⟨b, 0, none⟩) xs.length c) ∧ ∀ (i : Nat) (v : Value), xs[i]? = some v → w'.cell? ⟨b, i, none⟩ = some v) ∧ Go.RowKit.Below w.heap.size w w' := by
  unfold isRow at h
  split at h
  · rename_i a n c σ'
    split at h
    · rename_i x1 x2 b hsp hrow
      simp only [Bool.and_eq_true, Nat.beq_eq] at h
      obtain ⟨⟨h1, h2⟩, h3⟩ := h
      obtain ⟨ab, ao, asp⟩ := a
      simp only at hsp hrow h1
      subst hsp h1 h2
      refine (hs _ rfl ρ args' w ha hr).mono ?_
      rintro e w' ⟨ρ', v', rfl, hv, hr', hsi⟩
      refine ⟨?_, hsi.keep.os, hsi.keep.tape, hsi.keep.output, hsi.keep.size, fun k hk => hsi.keep.old k hk fun id o h ho => by rw [hro id o h] at ho; cases ho⟩
      cases hv with
      | slice hk hc =>
        refine ⟨_, _, rfl, fun i v hi => ?_⟩
        obtain ⟨k', y, e1, e2, cs, ty, fr, rfl, hR⟩ := hr'.live _ _ (rowOf_some hrow)
        rw [hk] at e1
        cases Option.some.inj e1
        obtain ⟨y, hy, he⟩ := eqAs_get h3 i v hi
        obtain ⟨v', p1, p2⟩ := hR.get i y hy
        rw [(eqA_eq (Ψ := Ψ) he).2 _ _ p2] at p1
        simp [World.cell?, e2, p1]
    · cases h
  · cases h
def isTup (xs : List Value) (r : Option Er) : Bool :=
  match r with
  | some (.ret (.tuple c) _) => Nat.beq c.size xs.length && eqAs xs c.toList
  | _ => false
theorem tup_of {P : Program} {f : FuncId} {args args' : Array Value} {σ : St} {r : Option Er} {xs : List Value} (h : isTup xs r = true) (hs : ∀ q, r = some q → CallSound Ψ P f args σ q) {ρ : Ren Ψ} {w : World} (ha : VRs ρ args args') (hr : Rel ρ σ w) (hro : ∀ id o, σ.heap.get id = some o → o.own = false) :
    Calls P f args' w fun e w' => e = .returned (.tuple xs.toArray) ∧ Go.RowKit.Below w.heap.size w w' := by
  unfold isTup at h
  split at h
  · rename_i c σ'
    simp only [Bool.and_eq_true, Nat.beq_eq] at h
    obtain ⟨h1, h2⟩ := h
    refine (hs _ rfl ρ args' w ha hr).mono ?_
    rintro e w' ⟨ρ', v', rfl, hv, hr', hsi⟩
    refine ⟨?_, hsi.keep.os, hsi.keep.tape, hsi.keep.output, hsi.keep.size, fun k hk => hsi.keep.old k hk fun id o h ho => by rw [hro id o h] at ho; cases ho⟩
    cases hv with
    | tuple g1 g2 =>
      rename_i c'
      have : c' = xs.toArray := by
        apply Array.ext
        · simp; omega
        · intro i q1 q2
          have q3 : i < xs.length := by simpa using q2
          obtain ⟨y, hy, he⟩ := eqAs_get h2 i xs[i] (List.getElem?_eq_getElem q3)
          have q4 := g2 i y c'[i] (by simpa using hy) (Array.getElem?_eq_getElem q1)
          rw [(eqA_eq (Ψ := Ψ) he).2 _ _ q4]
          simp
      rw [this]
  · cases h
end Go.Ev
/- Calls of strings, numbers and symbols whose answers are known, as summaries of the evaluator with symbols. -/
namespace Go.Ev
variable {Ψ : SymEnv}
open Go.RowKit
/-- a call whose answer is known -/
structure CallE where
  f : FuncId
  args : List Value
  res : Value
/-- the values that a list of symbols stands for -/
theorem syms_eq {ρ : Ren Ψ} {vs vs' l : List Value} (h1 : vs.map (symV Ψ) = l.map some) (hv : vs.length = vs'.length) (hg : ∀ (i : Nat) (v v' : Value), vs[i]? = some v → vs'[i]? = some v' → VR ρ v v') : vs' = l := by
  have hlen : vs.length = l.length := by simpa using congrArg List.length h1
  apply List.ext_getElem? fun i => ?_
  cases hx : vs[i]? with
  | none =>
    have q1 := List.getElem?_eq_none_iff.1 hx
    rw [List.getElem?_eq_none (by omega), List.getElem?_eq_none (by omega)]
  | some x =>
    have h4 := congrArg (fun q => q[i]?) h1
    simp only [List.getElem?_map, hx, Option.map_some] at h4
    cases hy : l[i]? with
    | none => rw [hy] at h4; cases h4
    | some y =>
      rw [hy] at h4
      have hs := Option.some.inj h4
      have q1 := (List.getElem?_eq_some_iff.1 hx).1
      obtain ⟨x', hx'⟩ : ∃ x', vs'[i]? = some x' := ⟨_, List.getElem?_eq_getElem (by omega)⟩
      rw [hx', symV_R (hg i x x' hx hx') hs]
theorem syms_arr {ρ : Ren Ψ} {args args' : Array Value} {l : List Value} (h1 : args.toList.map (symV Ψ) = l.map some) (ha : VRs ρ args args') : args' = l.toArray := by
  rw [← syms_eq (vs' := args'.toList) h1 (by simpa using ha.size) (fun i v v' q1 q2 => ha.get i v v' (by simpa using q1) (by simpa using q2))]
def lookC : List CallE → FuncId → List Value → Option Value
  | [], _, _ => none
  | e :: l, f, vs => match Nat.beq e.f f && atsB e.args vs with
    | true => some e.res
    | false => lookC l f vs
theorem lookC_mem : ∀ {l : List CallE} {f : FuncId} {vs : List Value} {v : Value}, lookC l f vs = some v → ⟨f, vs, v⟩ ∈ l
  | [], _, _, _, h => by cases h
  | e :: l, f, vs, v, h => by
    unfold lookC at h
    split at h
    · rename_i q
      rw [Bool.and_eq_true] at q
      have e1 := Nat.eq_of_beq_eq_true q.1
      have e2 := atsB_eq q.2
      have e3 := Option.some.inj h
      obtain ⟨a, b, c⟩ := e
      simp only at e1 e2 e3
      subst e1 e2 e3
      exact List.mem_cons_self ..
    · exact List.mem_cons_of_mem _ (lookC_mem h)
/-- what is asked of an entry: its call answers so in every world of a class -/
def CallOk (Ψ : SymEnv) (W : World → Prop) (e : CallE) : Prop :=
  ∃ (l : List Value) (r : Value), e.args.map (symV Ψ) = l.map some ∧ (∀ ρ : Ren Ψ, VR ρ e.res r) ∧ ∀ w, W w → Calls Ψ.prog e.f l.toArray w fun o w' => o = .returned r ∧ Below w.heap.size w w'
def sumTab (g : St → Bool) (tab : List CallE) (f : FuncId) (args : Array Value) (σ : St) : Option Er :=
  match g σ with
  | true => match lookC tab f args.toList with
    | some v => some (.ret v σ)
    | none => none
  | false => none
theorem sumTab_sound {P : Program} (hp : Ψ.prog = P) {g : St → Bool} {W : World → Prop} (hg : ∀ (σ : St) (ρ : Ren Ψ) (w : World), g σ = true → Rel ρ σ w → W w) {tab : List CallE} (ht : ∀ e ∈ tab, CallOk Ψ W e)
    (f : FuncId) (args : Array Value) (σ : St) (r : Er) (h : sumTab g tab f args σ = some r) : CallSound Ψ P f args σ r := by
  intro ρ args' w ha hr
  unfold sumTab at h
  split at h
  · rename_i hgs
    split at h
    · rename_i v hl
      cases Option.some.inj h
      obtain ⟨l, r0, h1, h2, h3⟩ := ht _ (lookC_mem hl)
      simp only at h1 h2 h3
      rw [syms_arr h1 ha, ← hp]
      refine (h3 w (hg σ ρ w hgs hr)).mono ?_
      rintro o w' ⟨rfl, hb⟩
      obtain ⟨k1, k2⟩ := rel_below hr hb
      exact ⟨ρ, _, rfl, h2 ρ, k1, k2⟩
    · cases h
  · cases h
/-- the functions of a table, by the table; the others as before -/
def isIn : List FuncId → FuncId → Bool
  | [], _ => false
  | a :: l, f => match Nat.beq a f with
    | true => true
    | false => isIn l f
def withT (sums : FuncId → Option (Array Value → St → Option Er)) (fs : List FuncId) (g : St → Bool) (tab : List CallE) (f : FuncId) : Option (Array Value → St → Option Er) :=
  match isIn fs f with
  | true => some (sumTab g tab f)
  | false => sums f
theorem withT_sound {P : Program} (hp : Ψ.prog = P) {sums : FuncId → Option (Array Value → St → Option Er)} (hs : ∀ g s, sums g = some s → ∀ args σ r, s args σ = some r → CallSound Ψ P g args σ r)
    {fs : List FuncId} {g : St → Bool} {W : World → Prop} (hg : ∀ (σ : St) (ρ : Ren Ψ) (w : World), g σ = true → Rel ρ σ w → W w) {tab : List CallE} (ht : ∀ e ∈ tab, CallOk Ψ W e) :
    ∀ f s, withT sums fs g tab f = some s → ∀ args σ r, s args σ = some r → CallSound Ψ P f args σ r := by
  intro f s h args σ r hr
  unfold withT at h
  split at h
  · cases Option.some.inj h
    exact sumTab_sound hp hg ht f args σ r hr
  · exact hs f s h args σ r hr
end Go.Ev
/- A region that draws its order, whose operations yield each ONE value in every world of a class, but for a tail (an allocation, a store): the order of the text serves every order. -/
namespace Go.Mix
section
variable {P : Program} {ops : Array Oper} {md : Region.Mode} {Q : Exit → Act → World → Prop} {T : World → World → Prop} {D : World → Prop}

/-- One value, in every world of the class D; a call leaves a world that T reaches. -/
def One (P : Program) (ops : Array Oper) (T : World → World → Prop) (D : World → Prop) (o : Oper) (v : Value) (a : Act) : Prop :=
  (Region.wanted o (yielded ops a.tmps) = true ∧ ∀ w, D w → o.quietAt P a (T w) w v) ∨ (Region.wanted o (yielded ops a.tmps) = false ∧ v = undef)
theorem One.of_same {o : Oper} {v : Value} {a a' : Act} (hy : One P ops T D o v a) (he : execOp a'.eval o = execOp a.eval o)
    (hw : Region.wanted o (yielded ops a'.tmps) = Region.wanted o (yielded ops a.tmps)) : One P ops T D o v a' := by
  unfold One Oper.quietAt at *
  rw [he, hw]
  exact hy

/-- What an operation may leave behind: a value and a world, by R. -/
def uponU (P : Program) (R : Value → World → Prop) : Result Next → Prop
  | .ok (.value u) w' => R u w'
  | .ok .skip w' => R undef w'
  | .ok (.enter f args) w' => Calls P f args w' (fun e w'' => ∃ v, e = .returned v ∧ R v w'')
  | _ => False
/-- Operation i from every world of the class C; behind it the class R v. -/
def opU (P : Program) (ops : Array Oper) (T : World → World → Prop) (D : World → Prop) (i : Nat) (K : Act → (World → Prop) → Prop) (a : Act) (C : World → Prop) : Prop :=
  match ops[i]? with
  | none => K a C
  | some o => if Region.wanted o (yielded ops a.tmps) then
      ∃ R : Value → World → Prop, (∀ v w w', R v w → T w w' → R v w') ∧ (∀ v w, R v w → D w) ∧ (∀ w, C w → uponU P R ((execOp a.eval o).run P w)) ∧ ∀ v w, R v w → K (a.put o.dst v) (R v)
    else K (a.put o.dst undef) C
def wpU (P : Program) (md : Region.Mode) (ops : Array Oper) (Q : Exit → Act → World → Prop) (T : World → World → Prop) (D : World → Prop) : Nat → Array Bool → Act → (World → Prop) → Prop
  | 0, listed, a, C => Region.ready md ops listed = [] ∧ ∀ w, C w → Q .normal a w
  | fuel + 1, listed, a, C =>
    (Region.ready md ops listed = [] → ∀ w, C w → Q .normal a w) ∧
    ∀ i ∈ Region.ready md ops listed, opU P ops T D i (fun a' C' => wpU P md ops Q T D fuel (listed.setIfInBounds i true) a' C') a C

theorem wpOp_of_opU {i : Nat} {a : Act} {K : Act → (World → Prop) → Prop} {K' : Act → World → Prop} {C : World → Prop} {w : World} (hC : C w)
    (h : ∀ a' C' w', C' w' → K a' C' → K' a' w') (hh : opU P ops T D i K a C) : wpOp P ops Q i K' a w := by
  unfold opU at hh
  unfold wpOp
  split
  · rename_i ho; simp only [ho] at hh; exact h _ _ _ hC hh
  · rename_i o ho
    simp only [ho] at hh
    split
    · rename_i hw
      simp only [hw, if_true] at hh
      obtain ⟨R, -, -, h1, h2⟩ := hh
      refine .inl ?_
      have h3 := h1 w hC
      unfold Oper.wp
      generalize (execOp a.eval o).run P w = r at *
      cases r with
      | ok n w' =>
        cases n <;> simp only [uponU] at h3 <;> simp only [Oper.upon]
        case value u => exact h _ _ _ h3 (h2 _ _ h3)
        case skip => exact h _ _ _ h3 (h2 _ _ h3)
        case enter f args =>
          exact h3.mono fun e w'' ⟨v, he, hr⟩ => by subst he; exact h _ _ _ hr (h2 _ _ hr)
      | halt x w' => simp only [uponU] at h3
    · rename_i hw; simp only [hw] at hh; exact h _ _ _ hC hh
theorem wpAny_of_U : ∀ (fuel : Nat) (listed : Array Bool) (a : Act) (C : World → Prop) (w : World), C w → wpU P md ops Q T D fuel listed a C → wpAny P md ops Q fuel listed a w
  | 0, _, _, _, _, hw, h => ⟨h.1, h.2 _ hw⟩
  | fuel + 1, _, _, _, _, hw, h => ⟨fun h0 => h.1 h0 _ hw, fun i hi => wpOp_of_opU hw (fun a' C' w' hw' hk => wpAny_of_U fuel _ a' C' w' hw' hk) (h.2 i hi)⟩

theorem opU_mono {i : Nat} {a : Act} {C : World → Prop} {K K' : Act → (World → Prop) → Prop} (hC : (∀ w w', C w → T w w' → C w') ∧ (∀ w, C w → D w))
    (h : ∀ a' C', (∀ w w', C' w → T w w' → C' w') → (∀ w, C' w → D w) → K a' C' → K' a' C') (hh : opU P ops T D i K a C) : opU P ops T D i K' a C := by
  unfold opU at *
  split
  · rename_i ho; simp only [ho] at hh; exact h _ _ hC.1 hC.2 hh
  · rename_i o ho
    simp only [ho] at hh
    split
    · rename_i hw
      simp only [hw, if_true] at hh
      obtain ⟨R, r1, r2, r3, r4⟩ := hh
      exact ⟨R, r1, r2, r3, fun v w hv => h _ _ (r1 v) (r2 v) (r4 v w hv)⟩
    · rename_i hw; simp only [hw] at hh; exact h _ _ hC.1 hC.2 hh

/-- An operation of one value comes up. -/
theorem One.opU {i : Nat} {o : Oper} {v : Value} {a : Act} {C : World → Prop} (hi : ops[i]? = some o) (hC1 : ∀ w w', C w → T w w' → C w') (hC2 : ∀ w, C w → D w)
    (hy : One P ops T D o v a) {K : Act → (World → Prop) → Prop} (h : K (a.put o.dst v) C) : Mix.opU P ops T D i K a C := by
  unfold Mix.opU
  simp only [hi]
  rcases hy with ⟨hw, hv⟩ | ⟨hw, rfl⟩
  · simp only [hw, if_true]
    refine ⟨fun u w => u = v ∧ C w, fun _ _ _ hr ht => ⟨hr.1, hC1 _ _ hr.2 ht⟩, fun _ _ hr => hC2 _ hr.2, fun w hw => ?_, fun u w hr => ?_⟩
    · have h3 := hv w (hC2 w hw)
      unfold Oper.quietAt at h3
      generalize (execOp a.eval o).run P w = r at *
      cases r with
      | ok n w' =>
        cases n <;> simp only [Oper.quietUpon] at h3 <;> simp only [uponU]
        case value u => exact ⟨h3.2, h3.1 ▸ hw⟩
        case skip => exact ⟨h3.2.symm, h3.1 ▸ hw⟩
        case enter f args =>
          obtain ⟨e1, hc⟩ := h3
          rw [e1]
          exact hc.mono fun e w'' ⟨he, ht⟩ => ⟨v, he, rfl, hC1 _ _ hw ht⟩
      | halt x w' => simp only [Oper.quietUpon] at h3
    · obtain ⟨rfl, hr⟩ := hr
      have : (fun w => u = u ∧ C w) = C := by funext w; simp
      show K (a.put o.dst u) (fun w => u = u ∧ C w)
      rw [this]
      exact h
  · simp only [hw, Bool.false_eq_true, if_false]; exact h

theorem opU_put {j : Nat} {oi oj : Oper} {v : Value} {C : World → Prop} (hj : ops[j]? = some oj) (hap : oi.apart ops oj = true)
    (hsi : ∀ cs b, oi.op ≠ .select cs b) (hsj : ∀ cs b, oj.op ≠ .select cs b) {K : Act → (World → Prop) → Prop} {a : Act}
    (hy : One P ops T D oi v a) (h : opU P ops T D j K (a.put oi.dst v) C) :
    opU P ops T D j (fun a' C' => One P ops T D oi v a' ∧ K (a'.put oi.dst v) C') a C := by
  obtain ⟨h1, h2, h3⟩ := Oper.apart_spec hap
  have keep : ∀ (a : Act), One P ops T D oi v a → ∀ u, One P ops T D oi v (a.put oj.dst u) := fun a hy u =>
    hy.of_same (execOp_put oi hsi a oj.dst u h3) (wanted_put oi a oj.dst u h3)
  unfold opU at *
  simp only [hj] at *
  rw [wanted_put oj a oi.dst v h1] at h
  split
  · rename_i hw
    simp only [hw, if_true] at h
    obtain ⟨R, r1, r2, r3, r4⟩ := h
    refine ⟨R, r1, r2, fun w hw' => ?_, fun u w hr => ⟨keep a hy u, by rw [← Act.put_comm a v u h2]; exact r4 u w hr⟩⟩
    have := r3 w hw'
    rwa [execOp_put oj hsj a oi.dst v h1] at this
  · rename_i hw
    simp only [hw] at h
    exact ⟨keep a hy _, by rw [← Act.put_comm a v undef h2]; exact h⟩

theorem wpU_first {i : Nat} {oi : Oper} {v : Value} (hi : ops[i]? = some oi) (hsel : ∀ (j : Nat) (o : Oper) cs b, ops[j]? = some o → o.op ≠ .select cs b) :
    ∀ (fuel : Nat) (listed : Array Bool) (a : Act) (C : World → Prop), (∀ w w', C w → T w w' → C w') → (∀ w, C w → D w) →
      (∀ j oj, ops[j]? = some oj → j ≠ i → listed.getD j true = false → (∀ e ∈ oj.after, Region.binds md e = true → e.on ≠ i) → oi.apart ops oj = true) →
      i ∈ Region.ready md ops listed → One P ops T D oi v a →
      wpU P md ops Q T D fuel (listed.setIfInBounds i true) (a.put oi.dst v) C → wpU P md ops Q T D (fuel + 1) listed a C := by
  intro fuel
  induction fuel with
  | zero =>
    intro listed a C hC1 hC2 _ hr hy H
    refine ⟨fun h => (by rw [h] at hr; cases hr), fun j hj => ?_⟩
    by_cases hji : j = i
    · subst hji; exact hy.opU hi hC1 hC2 H
    · have := ready_mono hj hji
      rw [H.1] at this
      cases this
  | succ fuel ih =>
    intro listed a C hC1 hC2 hfree hr hy H
    refine ⟨fun h => (by rw [h] at hr; cases hr), fun j hj => ?_⟩
    by_cases hji : j = i
    · subst hji; exact hy.opU hi hC1 hC2 H
    · have h1 := H.2 j (ready_mono hj hji)
      obtain ⟨hjun, oj, hoj, hall⟩ := mem_ready.1 hj
      have hnot : ∀ e ∈ oj.after, Region.binds md e = true → e.on ≠ i := fun e he hb heq => by
        have h1 := hall e he hb
        have h0 := (mem_ready.1 hr).1
        rw [heq] at h1
        rcases Nat.lt_or_ge i listed.size with h' | h'
        · simp [h'] at h0 h1; rw [h0] at h1; cases h1
        · simp [Array.getElem?_eq_none h'] at h1
      have h2 := opU_put hoj (hfree j oj hoj hji hjun hnot) (fun cs b => hsel i oi cs b hi) (fun cs b => hsel j oj cs b hoj) hy h1
      have hfree' : ∀ k ok, ops[k]? = some ok → k ≠ i → (listed.setIfInBounds j true).getD k true = false →
          (∀ e ∈ ok.after, Region.binds md e = true → e.on ≠ i) → oi.apart ops ok = true := fun k ok hk hki hun hno => by
        refine hfree k ok hk hki ?_ hno
        by_cases hjk : j = k
        · subst hjk; exact hjun
        · rw [getD_set_ne true hjk] at hun; exact hun
      refine opU_mono ⟨hC1, hC2⟩ (fun a' C' c1 c2 h3 => ih (listed.setIfInBounds j true) a' C' c1 c2 hfree' (ready_mono hr (Ne.symm hji)) h3.1 ?_) h2
      rw [Array.setIfInBounds_comm _ _ hji]
      exact h3.2

/-- The first n operations, in the order of the text, may each be taken first; what is listed behind them. -/
def lexTo (md : Region.Mode) (ops : Array Oper) : Nat → Nat → Array Bool → Option (Array Bool)
  | 0, _, listed => some listed
  | n + 1, k, listed => if (Region.ready md ops listed).contains k && Region.free md ops listed k then lexTo md ops n (k + 1) (listed.setIfInBounds k true) else none
/-- No two of the operations write one slot; every slot is in the frame. -/
def dstsB (n : Nat) : List Oper → List Tmp → Bool
  | [], _ => true
  | o :: r, seen => match o.dst with
    | none => false
    | some d => decide (d < n) && !seen.contains d && dstsB n r (d :: seen)

/-- The lexical walk, from every world of the class, to ONE frame. -/
def WalkTo (P : Program) (ops : Array Oper) (T : World → World → Prop) (D : World → Prop) (aF : Act) (l : List Oper) (a : Act) : Prop :=
  ∀ ρ, D ρ → wpQuiet P ops (T ρ) (fun a' => a' = aF) l a

theorem put_size (a : Act) (d : Option Tmp) (v : Value) : (a.put d v).tmps.size = a.tmps.size := by cases d <;> simp [Act.put]
theorem put_get_ne (a : Act) (d : Option Tmp) (v : Value) (t : Tmp) (h : d ≠ some t) : (a.put d v).tmps[t]? = a.tmps[t]? := by
  cases d with
  | none => rfl
  | some e =>
    have hne : e ≠ t := fun he => h (by rw [he])
    simp [Act.put, Array.getElem?_setIfInBounds_ne hne]
theorem put_get_self (a : Act) (t : Tmp) (v : Value) (h : t < a.tmps.size) : (a.put (some t) v).tmps[t]? = some v := by
  simp [Act.put, h]
/-- Slots that the rest of the walk does not write stand at the end as they stand now. -/
theorem keeps {C : World → Prop} {aF : Act} (t : Tmp) : ∀ (l : List Oper) (a : Act), (∀ o ∈ l, o.dst ≠ some t) → wpQuiet P ops C (fun a' => a' = aF) l a → aF.tmps[t]? = a.tmps[t]?
  | [], a, _, h => by rw [show a = aF from h]
  | o :: l, a, hl, h => by
    unfold wpQuiet at h
    have hne : o.dst ≠ some t := hl o (by simp)
    split at h
    · obtain ⟨v, _, h2⟩ := h
      rw [keeps t l _ (fun o' ho' => hl o' (by simp [ho'])) h2, put_get_ne _ _ _ _ hne]
    · rw [keeps t l _ (fun o' ho' => hl o' (by simp [ho'])) h, put_get_ne _ _ _ _ hne]
theorem dstsB_mem : ∀ (l : List Oper) (n : Nat) (seen : List Tmp), dstsB n l seen = true → ∀ d ∈ seen, ∀ o ∈ l, o.dst ≠ some d
  | [], _, _, _, _, _, _, ho => by cases ho
  | o :: r, n, seen, h, d, hd, o', ho' => by
    unfold dstsB at h
    cases hdst : o.dst with
    | none => simp [hdst] at h
    | some e =>
      simp only [hdst, Bool.and_eq_true, decide_eq_true_eq, Bool.not_eq_true'] at h
      obtain ⟨⟨h1, h2⟩, h3⟩ := h
      rcases List.mem_cons.1 ho' with rfl | ho'
      · rw [hdst]
        intro he
        have : e = d := by simpa using he
        subst this
        simp [hd] at h2
      · exact dstsB_mem r n (e :: seen) h3 d (List.mem_cons_of_mem _ hd) o' ho'

/-- The value that the first operation yields is read off the frame at the end. -/
theorem step_of_walk (hT : ∀ w, T w w) {aF a : Act} {o : Oper} {l : List Oper} {seen : List Tmp} (hd : dstsB a.tmps.size (o :: l) seen = true) (h : WalkTo P ops T D aF (o :: l) a) :
    ∃ v seen', One P ops T D o v a ∧ dstsB a.tmps.size l seen' = true ∧ WalkTo P ops T D aF l (a.put o.dst v) := by
  have hd0 := hd
  unfold dstsB at hd
  cases hdst : o.dst with
  | none => simp [hdst] at hd
  | some d =>
    simp only [hdst, Bool.and_eq_true, decide_eq_true_eq, Bool.not_eq_true'] at hd
    obtain ⟨⟨h1, _⟩, h3⟩ := hd
    have hnot := dstsB_mem l _ _ h3 d (by simp)
    by_cases hw : Region.wanted o (yielded ops a.tmps) = true
    · have key : ∀ ρ, D ρ → (∀ w, T ρ w → o.quietAt P a (T ρ) w (aF.tmps.getD d undef)) ∧ wpQuiet P ops (T ρ) (fun a' => a' = aF) l (a.put (some d) (aF.tmps.getD d undef)) := by
        intro ρ hρ
        have := h ρ hρ
        unfold wpQuiet at this
        simp only [hw, if_true] at this
        obtain ⟨v, h4, h5⟩ := this
        rw [hdst] at h5
        have e1 := keeps d l _ hnot h5
        rw [put_get_self _ _ _ h1] at e1
        have e2 : aF.tmps.getD d undef = v := by simp [e1]
        rw [e2]
        exact ⟨h4, h5⟩
      exact ⟨_, _, .inl ⟨hw, fun w hD => (key w hD).1 w (hT w)⟩, h3, fun ρ hρ => (key ρ hρ).2⟩
    · refine ⟨undef, _, .inr ⟨by simpa using hw, rfl⟩, h3, fun ρ hρ => ?_⟩
      have := h ρ hρ
      unfold wpQuiet at this
      simp only [hw] at this
      rw [← hdst]
      exact this

theorem wpU_lex (hs : Region.noSelect ops = true) (hT : ∀ w, T w w) {C : World → Prop} (hC1 : ∀ w w', C w → T w w' → C w') (hC2 : ∀ w, C w → D w) (hne : ∃ ρ, D ρ) {aF : Act} {f : Nat} {listed' : Array Bool} :
    ∀ (l : List Oper) (k : Nat) (listed : Array Bool) (a : Act) (seen : List Tmp), (∀ j, j < l.length → l[j]? = ops[k + j]?) →
    lexTo md ops l.length k listed = some listed' → dstsB a.tmps.size l seen = true → WalkTo P ops T D aF l a → wpU P md ops Q T D f listed' aF C → wpU P md ops Q T D (l.length + f) listed a C
  | [], _, listed, a, _, _, hB, _, h, hK => by
    obtain ⟨ρ, hρ⟩ := hne
    have e : a = aF := h ρ hρ
    have e2 : listed = listed' := by simpa [lexTo] using hB
    subst e e2
    simpa using hK
  | o :: l, k, listed, a, seen, hl, hB, hd, h, hK => by
    have h0 : ops[k]? = some o := by simpa using (hl 0 (by simp)).symm
    simp only [List.length_cons, lexTo] at hB
    split at hB
    case isFalse => cases hB
    rename_i hc
    simp only [Bool.and_eq_true] at hc
    obtain ⟨v, seen', h1, h2, h3⟩ := step_of_walk hT hd h
    have := wpU_lex hs hT hC1 hC2 hne l (k + 1) _ (a.put o.dst v) seen' (fun j hj => by have := hl (j + 1) (by simp; omega); simpa [Nat.add_assoc, Nat.add_comm 1 j] using this) hB (by rw [put_size]; exact h2) h3 hK
    rw [List.length_cons, Nat.add_right_comm]
    exact wpU_first h0 (Region.noSelect_spec hs) (l.length + f) listed a C hC1 hC2 (Region.free_spec h0 hc.2) (by simpa using hc.1) h1 this

/-- THE REGION: a prefix of operations of one value each, and a tail. -/
theorem wp_region_mix {id : Nat} {a : Act} {w : World} {l : List Oper} (n : Nat) (C D : World → Prop) (T : World → World → Prop) {aF : Act} (hm : P.follows .mixedOrders = true)
    (hn : n ≤ l.length) (hs : Region.noSelect l.toArray = true) (hB : lexTo .any l.toArray n 0 (Array.replicate l.length false) = some (List.replicate n true ++ List.replicate (l.length - n) false).toArray) (hd : dstsB a.tmps.size (l.take n) [] = true)
    (hT : ∀ w, T w w) (hC1 : ∀ w w', C w → T w w' → C w') (hC2 : ∀ w, C w → D w) (h0 : C { w with drawn := w.drawn + 1 }) (hA : WalkTo P l.toArray T D aF (l.take n) a)
    (hN : wpU P .any l.toArray Q T D (l.length - n) (List.replicate n true ++ List.replicate (l.length - n) false).toArray aF C) : (Code.region id l.toArray true).wp P Q a w := by
  refine wp_region_any hm (wpAny_of_U (T := T) (D := D) _ _ _ C _ h0 ?_)
  have hlen : (l.take n).length = n := by simp [hn]
  have := wpU_lex (P := P) (md := .any) (Q := Q) hs hT hC1 hC2 ⟨_, hC2 _ h0⟩ (l.take n) 0 (Array.replicate l.length false) a [] (fun j hj => by rw [hlen] at hj; simp [hj]) (by rw [hlen]; exact hB) hd hA hN
  rw [hlen] at this
  simpa [show n + (l.length - n) = l.length from by omega] using this

/-- One operation of the tail, where it alone may come up. -/
theorem wpU_one {fuel : Nat} {listed : Array Bool} {a : Act} {C : World → Prop} {i : Nat} {o : Oper} (hr : Region.ready md ops listed = [i]) (ho : ops[i]? = some o) (hw : Region.wanted o (yielded ops a.tmps) = true)
    (R : Value → World → Prop) (hR : ∀ v w w', R v w → T w w' → R v w') (hD : ∀ v w, R v w → D w) (hrun : ∀ w, C w → uponU P R ((execOp a.eval o).run P w))
    (hK : ∀ v w, R v w → wpU P md ops Q T D fuel (listed.setIfInBounds i true) (a.put o.dst v) (R v)) : wpU P md ops Q T D (fuel + 1) listed a C := by
  refine ⟨(fun h => by rw [hr] at h; cases h), fun j hj => ?_⟩
  rw [hr] at hj
  obtain rfl : j = i := by simpa using hj
  unfold opU
  simp only [ho, hw, if_true]
  exact ⟨R, hR, hD, hrun, hK⟩
theorem wpU_end {listed : Array Bool} {a : Act} {C : World → Prop} (hr : Region.ready md ops listed = []) (h : ∀ w, C w → Q .normal a w) : wpU P md ops Q T D 0 listed a C := ⟨hr, h⟩
/-- A region that reads and calls quietly, then makes one variable and stores into it. -/
theorem wp_region_mix_alloc {id : Nat} {a : Act} {w : World} {l : List Oper} (n : Nat) (t : Tmp) (oa os : Oper) (X X' : Obj) {aF : Act} (hm : P.follows .mixedOrders = true)
    (hlen : l.length = n + 2) (hs : Region.noSelect l.toArray = true) (hB : lexTo .any l.toArray n 0 (Array.replicate l.length false) = some (List.replicate n true ++ List.replicate (l.length - n) false).toArray)
    (hd : dstsB a.tmps.size (l.take n) [] = true) (hoa : l[n]? = some oa) (hos : l[n + 1]? = some os) (hga : oa.guard = none) (hgs : os.guard = none) (hda : oa.dst = some t) (hds : os.dst = none)
    (hr1 : Region.ready .any l.toArray (List.replicate n true ++ List.replicate (l.length - n) false).toArray = [n])
    (hr2 : Region.ready .any l.toArray ((List.replicate n true ++ List.replicate (l.length - n) false).toArray.setIfInBounds n true) = [n + 1])
    (hr3 : Region.ready .any l.toArray (((List.replicate n true ++ List.replicate (l.length - n) false).toArray.setIfInBounds n true).setIfInBounds (n + 1) true) = [])
    (hA : ∀ ρ, ((∃ k, ρ = w.drewN k) ∨ ∃ k Y, ρ = (w.alloc Y).drewN k) → wpQuiet P l.toArray (fun w' => ∃ k, w' = ρ.drewN k) (fun a' => a' = aF) (l.take n) a)
    (ha : ∀ W : World, (execOp aF.eval oa).run P W = .ok (.value (.pointer (some ⟨W.heap.size, 0, none⟩))) (W.alloc X))
    (hst : ∀ W : World, (execOp (aF.put (some t) (.pointer (some ⟨W.heap.size, 0, none⟩))).eval os).run P (W.alloc X) = .ok .skip (W.alloc X'))
    (hK : ∀ k, Q .normal (aF.put (some t) (.pointer (some ⟨w.heap.size, 0, none⟩))) ((w.alloc X').drewN k)) : (Code.region id l.toArray true).wp P Q a w := by
  have hl2 : l.length - n = 2 := by omega
  refine wp_region_mix (aF := aF) n (fun w' => ∃ k, w' = w.drewN k) (fun w' => (∃ k, w' = w.drewN k) ∨ ∃ k Y, w' = (w.alloc Y).drewN k) (fun w w' => ∃ k, w' = w.drewN k) hm (by omega) hs hB hd (fun w => ⟨0, rfl⟩) ?_ (fun _ h => .inl h) ⟨1, rfl⟩ hA ?_
  · rintro w1 w2 ⟨k, rfl⟩ ⟨m, rfl⟩
    exact ⟨k + m, World.drewN_drewN _ _ _⟩
  · rw [hl2] at hr1 hr2 hr3 ⊢
    refine wpU_one (i := n) hr1 (by simpa using hoa) (by unfold Region.wanted; rw [hga]) (fun v w' => v = .pointer (some ⟨w.heap.size, 0, none⟩) ∧ ∃ k, w' = (w.drewN k).alloc X) ?_ ?_ ?_ ?_
    · rintro v w1 w2 ⟨rfl, k, rfl⟩ ⟨m, rfl⟩
      exact ⟨rfl, k + m, by rw [← World.drewN_drewN]; rfl⟩
    · rintro v w1 ⟨rfl, k, rfl⟩
      exact .inr ⟨k, X, rfl⟩
    · rintro w1 ⟨k, rfl⟩
      rw [ha (w.drewN k)]
      exact ⟨rfl, k, rfl⟩
    · rintro v w1 ⟨rfl, _⟩
      rw [hda]
      refine wpU_one (i := n + 1) hr2 (by simpa using hos) (by unfold Region.wanted; rw [hgs]) (fun v w' => ∃ k, w' = (w.drewN k).alloc X') ?_ ?_ ?_ ?_
      · rintro v w1 w2 ⟨k, rfl⟩ ⟨m, rfl⟩
        exact ⟨k + m, by rw [← World.drewN_drewN]; rfl⟩
      · rintro v w1 ⟨k, rfl⟩
        exact .inr ⟨k, X', rfl⟩
      · rintro w1 ⟨_, k, rfl⟩
        have := hst (w.drewN k)
        rw [show (w.drewN k).heap.size = w.heap.size from rfl] at this
        rw [this]
        exact ⟨k, rfl⟩
      · intro v w1 _
        rw [hds]
        exact wpU_end hr3 (fun w2 ⟨k, hk⟩ => by rw [hk]; exact hK k)
theorem wanted_of {o : Oper} {i : Nat} {b g : Bool} {a : Act} (hg : o.guard = some (i, b)) (hy : yielded ops a.tmps i = some g) : Region.wanted o (yielded ops a.tmps) = (g == b) := by
  unfold Region.wanted
  rw [hg]
  show (yielded ops a.tmps i == some b) = _
  rw [hy]
  cases g <;> cases b <;> rfl
/-- 'g && b' in a lexical walk, g not decided: two guarded operations and the pick. -/
theorem quiet_and {C : World → Prop} {K : Act → Prop} {o1 o2 : Oper} {rest : List Oper} {a : Act} {i : Nat} {t1 t2 t3 c : Tmp} {g bb : Bool} {x1 : Value} {ty : TypeId} {pos : String} {af : Array Edge}
    (hg1 : o1.guard = some (i, true)) (hg2 : o2.guard = some (i, true)) (d1 : o1.dst = some t1) (d2 : o2.dst = some t2) (hi : (ops[i]?).bind (·.dst) = some c) (hc : a.tmps[c]? = some (.bool g))
    (n1 : t1 ≠ c) (n2 : t2 ≠ c) (hs : t2 < a.tmps.size) (h1 : ∀ w, C w → (execOp a.eval o1).run P w = .ok (.value x1) w)
    (h2 : ∀ w, C w → (execOp (a.put (some t1) x1).eval o2).run P w = .ok (.value (.bool bb)) w)
    (hK : wpQuiet P ops C K rest (((a.put (some t1) (if g then x1 else undef)).put (some t2) (if g then .bool bb else undef)).put (some t3) (.bool (g && bb)))) :
    wpQuiet P ops C K (o1 :: o2 :: ⟨some t3, .pick (.tmp c) (.tmp t2) (.const (.bool false)), ty, pos, af, none⟩ :: rest) a := by
  obtain ⟨dd1, op1, ty1, ps1, af1, gd1⟩ := o1
  obtain ⟨dd2, op2, ty2, ps2, af2, gd2⟩ := o2
  obtain rfl : dd1 = some t1 := d1
  obtain rfl : dd2 = some t2 := d2
  have y0 : yielded ops a.tmps i = some g := by unfold yielded; simp [hi, hc]
  have y1 : ∀ v, yielded ops (a.put (some t1) v).tmps i = some g := fun v => by
    unfold yielded
    rw [hi, Option.bind_some, put_get_ne _ _ _ _ (by simpa using n1), hc]
  have e1 : ∀ u v, ((a.put (some t1) u).put (some t2) v).eval (.tmp c) = .bool g := fun u v => by
    simp only [Act.eval, Array.getD_eq_getD_getElem?]
    rw [put_get_ne _ _ _ _ (by simpa using n2), put_get_ne _ _ _ _ (by simpa using n1), hc]
    rfl
  have e2 : ∀ u v, ((a.put (some t1) u).put (some t2) v).eval (.tmp t2) = v := fun u v => by
    simp only [Act.eval, Array.getD_eq_getD_getElem?]
    rw [put_get_self _ _ _ (by rw [put_size]; exact hs)]
    rfl
  cases g
  · refine wpQuiet_step fun K1 hK1 => ?_
    rw [if_neg (by rw [wanted_of hg1 y0]; decide)]
    refine hK1 _ (wpQuiet_step fun K2 hK2 => ?_)
    rw [if_neg (by rw [wanted_of hg2 (y1 _)]; decide)]
    refine hK2 _ (wpQuiet_step fun K3 hK3 => ?_)
    rw [if_pos (by rfl)]
    refine ⟨.bool false, fun w _ => ?_, hK3 _ hK⟩
    unfold Oper.quietAt
    simp only [execOp, e1]
    exact ⟨rfl, rfl⟩
  · refine wpQuiet_step fun K1 hK1 => ?_
    rw [if_pos (by rw [wanted_of hg1 y0]; decide)]
    refine ⟨x1, fun w hw => by unfold Oper.quietAt; rw [h1 w hw]; exact ⟨rfl, rfl⟩, hK1 _ (wpQuiet_step fun K2 hK2 => ?_)⟩
    rw [if_pos (by rw [wanted_of hg2 (y1 _)]; decide)]
    refine ⟨.bool bb, fun w hw => by unfold Oper.quietAt; rw [h2 w hw]; exact ⟨rfl, rfl⟩, hK2 _ (wpQuiet_step fun K3 hK3 => ?_)⟩
    rw [if_pos (by rfl)]
    refine ⟨.bool bb, fun w _ => ?_, hK3 _ (by simpa using hK)⟩
    unfold Oper.quietAt
    simp only [execOp, e1, e2]
    exact ⟨rfl, rfl⟩
/-- 'g || b' in a lexical walk, g not decided. -/
theorem quiet_or {C : World → Prop} {K : Act → Prop} {o1 o2 : Oper} {rest : List Oper} {a : Act} {i : Nat} {t1 t2 t3 c : Tmp} {g bb : Bool} {x1 : Value} {ty : TypeId} {pos : String} {af : Array Edge}
    (hg1 : o1.guard = some (i, false)) (hg2 : o2.guard = some (i, false)) (d1 : o1.dst = some t1) (d2 : o2.dst = some t2) (hi : (ops[i]?).bind (·.dst) = some c) (hc : a.tmps[c]? = some (.bool g))
    (n1 : t1 ≠ c) (n2 : t2 ≠ c) (hs : t2 < a.tmps.size) (h1 : ∀ w, C w → (execOp a.eval o1).run P w = .ok (.value x1) w)
    (h2 : ∀ w, C w → (execOp (a.put (some t1) x1).eval o2).run P w = .ok (.value (.bool bb)) w)
    (hK : wpQuiet P ops C K rest (((a.put (some t1) (if g then undef else x1)).put (some t2) (if g then undef else .bool bb)).put (some t3) (.bool (g || bb)))) :
    wpQuiet P ops C K (o1 :: o2 :: ⟨some t3, .pick (.tmp c) (.const (.bool true)) (.tmp t2), ty, pos, af, none⟩ :: rest) a := by
  obtain ⟨dd1, op1, ty1, ps1, af1, gd1⟩ := o1
  obtain ⟨dd2, op2, ty2, ps2, af2, gd2⟩ := o2
  obtain rfl : dd1 = some t1 := d1
  obtain rfl : dd2 = some t2 := d2
  have y0 : yielded ops a.tmps i = some g := by unfold yielded; simp [hi, hc]
  have y1 : ∀ v, yielded ops (a.put (some t1) v).tmps i = some g := fun v => by
    unfold yielded
    rw [hi, Option.bind_some, put_get_ne _ _ _ _ (by simpa using n1), hc]
  have e1 : ∀ u v, ((a.put (some t1) u).put (some t2) v).eval (.tmp c) = .bool g := fun u v => by
    simp only [Act.eval, Array.getD_eq_getD_getElem?]
    rw [put_get_ne _ _ _ _ (by simpa using n2), put_get_ne _ _ _ _ (by simpa using n1), hc]
    rfl
  have e2 : ∀ u v, ((a.put (some t1) u).put (some t2) v).eval (.tmp t2) = v := fun u v => by
    simp only [Act.eval, Array.getD_eq_getD_getElem?]
    rw [put_get_self _ _ _ (by rw [put_size]; exact hs)]
    rfl
  cases g
  · refine wpQuiet_step fun K1 hK1 => ?_
    rw [if_pos (by rw [wanted_of hg1 y0]; decide)]
    refine ⟨x1, fun w hw => by unfold Oper.quietAt; rw [h1 w hw]; exact ⟨rfl, rfl⟩, hK1 _ (wpQuiet_step fun K2 hK2 => ?_)⟩
    rw [if_pos (by rw [wanted_of hg2 (y1 _)]; decide)]
    refine ⟨.bool bb, fun w hw => by unfold Oper.quietAt; rw [h2 w hw]; exact ⟨rfl, rfl⟩, hK2 _ (wpQuiet_step fun K3 hK3 => ?_)⟩
    rw [if_pos (by rfl)]
    refine ⟨.bool bb, fun w _ => ?_, hK3 _ (by simpa using hK)⟩
    unfold Oper.quietAt
    simp only [execOp, e1, e2]
    exact ⟨rfl, rfl⟩
  · refine wpQuiet_step fun K1 hK1 => ?_
    rw [if_neg (by rw [wanted_of hg1 y0]; decide)]
    refine hK1 _ (wpQuiet_step fun K2 hK2 => ?_)
    rw [if_neg (by rw [wanted_of hg2 (y1 _)]; decide)]
    refine hK2 _ (wpQuiet_step fun K3 hK3 => ?_)
    rw [if_pos (by rfl)]
    refine ⟨.bool true, fun w _ => ?_, hK3 _ hK⟩
    unfold Oper.quietAt
    simp only [execOp, e1]
    exact ⟨rfl, rfl⟩
open Go.RowKit in
theorem below_drewN (B : Nat) (w : World) (k : Nat) : Below B w (w.drewN k) := ⟨rfl, rfl, rfl, Nat.le_refl _, fun _ _ => rfl⟩
end
end Go.Mix
