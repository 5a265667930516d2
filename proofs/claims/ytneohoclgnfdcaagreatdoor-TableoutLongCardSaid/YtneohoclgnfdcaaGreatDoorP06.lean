import Derived.RangeFuncIn
import Derived.OrdersIn
import Derived.OwnWalkIn
import Derived.RangeFuncNested
import Derived.RangeFuncBound
import Derived.RangeFuncCalls
import Derived.RangeFuncLeaves
import Derived.Shelf.Abstract
import Derived.Shelf.RegionOpen
import Derived.WalkKit
import Derived.TacticsInMore
import Derived.LoopNIn
import Derived.LoopIn
import Derived.BigQuiet
import Derived.RangeFuncBox
import Derived.RangeFuncWrites
import Derived.Maps.AppendAt
import Derived.Maps.OwnIn
import Derived.Maps.Views
import Derived.StringKeys
import Derived.Sort.CutIn
import Derived.Lib.OthersKept
import Derived.Deep.QuietTactic
import Derived.IntWalk
import Derived.Lib.JoinLaws
import Derived.Laws.MakeOwn
import Derived.Test.YtneohoclgnfdcaaGreatDoorP05
import Derived.Test.YtneohoclgnfdcaaGreatDoorP01
import Derived.Test.YtneohoclgnfdcaaGreatDoorP04
import Derived.Test.YtneohoclgnfdcaaGreatDoorP03
/- Closed calls by evaluation, part L: code, where regions go in the order of the text. -/
namespace Go.Ev
inductive Ex where
  | normal
  | exit (id : Nat)
  | ret
  | panic (v : Value)
inductive Er where
  | ret (v : Value) (σ : St)
  | panic (v : Value) (σ : St)
inductive ExR (ρ : Ren) : Ex → Exit → Prop where
  | normal : ExR ρ .normal .normal
  | exit (id : Nat) : ExR ρ (.exit id) (.exit id)
  | ret : ExR ρ .ret .ret
  | panic {v v' : Value} (h : VR ρ v v') : ExR ρ (.panic v) (.panic [{ v := v', recovered := false }])
structure Since (ρ0 : Ren) (σ0 : St) (w0 : World) (ρ : Ren) (σ : St) (w : World) : Prop where
  le : ρ0.le ρ
  keep : Keep ρ0 σ0 ρ σ w0 w
theorem Since.refl (ρ : Ren) (σ : St) (w : World) : Since ρ σ w ρ σ w := ⟨.refl ρ, .refl w⟩
theorem Since.trans {ρ0 ρ1 ρ2 : Ren} {σ0 σ1 σ2 : St} {w0 w1 w2 : World} (h : Since ρ0 σ0 w0 ρ1 σ1 w1) (k : Since ρ1 σ1 w1 ρ2 σ2 w2) : Since ρ0 σ0 w0 ρ2 σ2 w2 := ⟨h.le.trans k.le, h.keep.trans k.keep⟩
def PostR (ρ0 : Ren) (σ0 : St) (w0 : World) (x : Ex) (A' : Fr) (σ' : St) (e : Exit) (a' : Act) (w' : World) : Prop :=
  ∃ ρ', ExR ρ' x e ∧ FrR ρ' A' a' ∧ Rel ρ' σ' w' ∧ Since ρ0 σ0 w0 ρ' σ' w'
def EndR (ρ0 : Ren) (σ0 : St) (w0 : World) (r : Er) (e : Ending) (w' : World) : Prop :=
  match r with
  | .ret v σ' => ∃ ρ' v', e = .returned v' ∧ VR ρ' v v' ∧ Rel ρ' σ' w' ∧ Since ρ0 σ0 w0 ρ' σ' w'
  | .panic v σ' => ∃ ρ' v', e = .panicked [{ v := v', recovered := false }] ∧ VR ρ' v v' ∧ Rel ρ' σ' w' ∧ Since ρ0 σ0 w0 ρ' σ' w'
def CallSound (P : Program) (f : FuncId) (args : Array Value) (σ : St) (r : Er) : Prop :=
  ∀ ρ args' w, VRs ρ args args' → Rel ρ σ w → Calls P f args' w (EndR ρ σ w r)
/-- no fence; in a round or not -/
def wideR (ro : Option Nat) : Fence := { Fence.wide with round := ro }
/-- a call of a function, or of a round -/
def NextSound (P : Program) (n : Next) (σ : St) (r : Er) : Prop :=
  ∀ ρ n' w, NR ρ n n' → Rel ρ σ w → match n' with
    | .enter f args => Calls P f args w (EndR ρ σ w r)
    | .round l f t assign body => RoundIn Fence.wide 0 P l f t assign body w (EndR ρ σ w r)
    | _ => False
structure Sums (P : Program) where
  f : FuncId → Option (Array Value → St → Option Er)
  ok : ∀ g s, f g = some s → ∀ args σ r, s args σ = some r → CallSound P g args σ r
/-- the list of operations, one behind the other; 'call' runs a function or a round -/
def evOps (P : Program) (call : Next → St → Option Er) (ro : Option Nat) (ops : List Oper) : List Oper → Fr → St → Option (Ex × Fr × St)
  | [], A, σ => some (.normal, A, σ)
  | o :: l, A, σ => match wantedE ops o A with
    | false => evOps P call ro ops l (A.put o.dst undef) σ
    | true => match evOp P A.eval σ o with
      | some (.ok (.value v) σ) => evOps P call ro ops l (A.put o.dst v) σ
      | some (.ok .skip σ) => evOps P call ro ops l (A.put o.dst undef) σ
      | some (.ok (.defer d) σ) => match ro with
        | none => evOps P call ro ops l ({ A with defers := d :: A.defers }.put o.dst undef) σ
        | some _ => none
      | some (.ok (.enter g args) σ) => match call (.enter g args) σ with
        | some (.ret v σ) => evOps P call ro ops l (A.put o.dst v) σ
        | some (.panic v σ) => some (.panic v, A, σ)
        | none => none
      | some (.ok (.round k g t x y) σ) => match call (.round k g t x y) σ with
        | some (.ret v σ) => evOps P call ro ops l (A.put o.dst v) σ
        | some (.panic v σ) => some (.panic v, A, σ)
        | none => none
      | some (.panic v σ) => some (.panic v, A, σ)
      | _ => none
def frArr (A : Fr) : Array Value := ((List.range A.n).map A.tmp).toArray
def jumpX : Code → Option Ex
  | .ret => some .ret
  | .exit id => some (.exit id)
  | _ => none
/-- code; 'call' runs a function or a round, 'draw' a region that draws its order -/
def evC (P : Program) (call : Next → St → Option Er) (draw : List Oper → Fr → St → Option (Ex × Fr × St)) (ro : Option Nat) : Nat → Code → Fr → St → Option (Ex × Fr × St)
  | 0, _, _, _ => none
  | f + 1, c, A, σ => match c with
    | .skip => some (.normal, A, σ)
    | .seq x y => match evC P call draw ro f x A σ with
      | some (.normal, A, σ) => evC P call draw ro f y A σ
      | r => r
    | .cond c x y => match A.eval c with
      | .bool true => evC P call draw ro f x A σ
      | .bool false => evC P call draw ro f y A σ
      | _ => none
    | .block id b => match evC P call draw ro f b A σ with
      | some (.exit id', A, σ) => match Nat.beq id' id with
        | true => some (.normal, A, σ)
        | false => some (.exit id', A, σ)
      | r => r
    | .loop b => match evC P call draw ro f b A σ with
      | some (.normal, A, σ) => evC P call draw ro f (.loop b) A σ
      | r => r
    | .exit id => some (.exit id, A, σ)
    | .ret => some (.ret, A, σ)
    | .region _ ops d => match d with
      | false => evOps P call ro ops.toList ops.toList A σ
      | true => draw ops.toList A σ
    | .rangeFunc g ps assign body => match okOperand σ.glob g with
      | false => none
      | true => match A.eval g with
        | .func (.func gf) first cap => match P.funcs[gf]? with
          | none => none
          | some fn => match fn.body with
            | none => none
            | some _ => match runA P (Instr.enterLoop 0 (frArr A) ps assign body ro) σ with
              | some (.ok (l, mark) σ) => match call (.enter gf (first ++ #[.func (.yield l) #[] #[]] ++ cap)) σ with
                | some (.ret _ σ) => match runA P (Instr.endLoop l) σ with
                  | some (.ok none σ) => some (.normal, { A with defers := mark ++ A.defers }, σ)
                  | some (.ok (some c) σ) => match jumpX c with
                    | some x => some (x, { A with defers := mark ++ A.defers }, σ)
                    | none => none
                  | _ => none
                | some (.panic v σ) => some (.panic v, { A with defers := mark ++ A.defers }, σ)
                | none => none
              | _ => none
        | _ => none
    | _ => none
section
variable {P : Program} {ρ0 : Ren} {σ0 : St} {w0 : World}
theorem EndR.since {ρ : Ren} {σ : St} {w : World} (h : Since ρ0 σ0 w0 ρ σ w) {r : Er} {e : Ending} {w' : World} (k : EndR ρ σ w r e w') : EndR ρ0 σ0 w0 r e w' := by
  cases r with
  | ret v σ' => obtain ⟨ρ', v', h1, h2, h3, h4⟩ := k; exact ⟨ρ', v', h1, h2, h3, h.trans h4⟩
  | panic v σ' => obtain ⟨ρ', v', h1, h2, h3, h4⟩ := k; exact ⟨ρ', v', h1, h2, h3, h.trans h4⟩
theorem evOp_defer {P : Program} {E : Operand → Value} {σ : St} {o : Oper} {c : Call} (ho : o.op = .defer c) {r : Rs Next} (h : evOp P E σ o = some r) : ∃ d, r = .ok (.defer d) σ := by
  unfold evOp at h
  rw [ho] at h
  split at h
  · cases h
  · simp only at h
    split at h
    · split at h
      · exact ⟨_, (Option.some.inj h).symm⟩
      · cases h
    · cases h
theorem semAt_ev {ro ro' : Option Nat} {ρ : Ren} (hro : RoR ρ ro ro') {o : Oper} (E : Operand → Value) (h : ro ≠ none → ∀ c, o.op ≠ .defer c) : Oper.semAt ro' E o = execOp E o := by
  rcases hro with ⟨-, rfl⟩ | ⟨l, l', rfl, rfl, -⟩
  · rfl
  · exact Oper.semAt_eq _ _ _ (h (by simp))
theorem RoundIn.at {P : Program} {l : Nat} {f : FuncId} {t : Array Value} {x y : Code} {w : World} {R : Ending → World → Prop} (h : RoundIn Fence.wide 0 P l f t x y w R) (ro : Option Nat) (n : Nat) : RoundIn (wideR ro) n P l f t x y w R :=
  ⟨trivial, fun c cs _ => h.2 c cs (room_wide _)⟩
theorem calls_at {P : Program} {f : FuncId} {args : Array Value} {w : World} {R : Ending → World → Prop} (h : Calls P f args w R) (ro : Option Nat) (n : Nat) : CallsIn (wideR ro) n P f args w R := (callsIn_wide (n := n)).2 h
theorem ops_sound (hz : ZeroOk P) (hn : ∀ (f : Nat) (fn : Func), P.funcs[f]? = some fn → (fn.name == "runtime.NumGoroutine") = false) {call : Next → St → Option Er} (hc : ∀ n σ r, call n σ = some r → NextSound P n σ r) (ops : Array Oper) {x : Ex} {A' : Fr} {σ' : St} {ro ro' : Option Nat} (hro : RoR ρ0 ro ro') :
    ∀ (l : List Oper) (i : Nat) (A : Fr) (σ : St), ops.toList.drop i = l → evOps P call ro ops.toList l A σ = some (x, A', σ') → ∀ (ρ : Ren) (a : Act) (w : World), FrR ρ A a → Rel ρ σ w → Since ρ0 σ0 w0 ρ σ w →
      wpOpsIn (wideR ro') 0 P ops (PostR ρ0 σ0 w0 x A' σ') (List.range' i l.length) a w := by
  intro l
  induction l with
  | nil =>
    intro i A σ hl h ρ a w hf hr hs
    cases Option.some.inj h
    exact ⟨ρ, .normal, hf, hr, hs⟩
  | cons o l ih =>
    intro i A σ hl h ρ a w hf hr hs
    have hio : ops[i]? = some o := by
      have : (ops.toList.drop i)[0]? = some o := by rw [hl]; rfl
      rw [List.getElem?_drop] at this
      simpa using this
    have hl2 : ops.toList.drop (i + 1) = l := by
      rw [← List.tail_drop, hl]; rfl
    show wpOpsIn (wideR ro') 0 P ops _ (i :: List.range' (i + 1) l.length) a w
    simp only [wpOpsIn, hio]
    rw [hf.wanted ops o]
    unfold evOps at h
    cases hw : wantedE ops.toList o A with
    | false =>
      rw [hw] at h
      rw [if_neg (by simp)]
      exact ⟨fun _ _ => trivial, ih (i + 1) _ _ hl2 h ρ _ w (hf.put _ (undef_VR ρ)) hr hs⟩
    | true =>
      rw [hw] at h
      rw [if_pos rfl]
      refine ⟨fun _ _ => trivial, ?_⟩
      cases ho : evOp P A.eval σ o with
      | none => rw [ho] at h; cases h
      | some r =>
        rw [ho] at h
        have hsem : Oper.semAt (wideR ro').round a.eval o = execOp a.eval o := semAt_ev hro _ fun hne c hop => by
          obtain ⟨d, rfl⟩ := evOp_defer hop ho
          cases ro with
          | none => exact hne rfl
          | some _ => cases h
        rw [hsem]
        have hout := op_sound hz hn hr (fun x _ hx => hf.eval hr hx) ho
        generalize (execOp a.eval o).run P w = real at hout
        cases r with
        | panic v σ1 =>
          obtain ⟨ρ1, v', w1, hle, rfl, hr1, hk1, hv⟩ := hout
          cases Option.some.inj h
          exact ⟨ρ1, .panic hv, hf.mono hle, hr1, hs.trans ⟨hle, hk1⟩⟩
        | ok n σ1 =>
          obtain ⟨ρ1, n', w1, hle, rfl, hr1, hk1, hn1⟩ := hout
          have hs1 := hs.trans ⟨hle, hk1⟩
          have after : ∀ (er : Er) (e : Ending) (w2 : World), (match (some er : Option Er) with
              | some (.ret v σ) => evOps P call ro ops.toList l (A.put o.dst v) σ
              | some (.panic v σ) => some (.panic v, A, σ)
              | none => none) = some (x, A', σ') → EndR ρ1 σ1 w1 er e w2 → (match e with
              | .returned v => wpOpsIn (wideR ro') 0 P ops (PostR ρ0 σ0 w0 x A' σ') (List.range' (i + 1) l.length) (a.put o.dst v) w2
              | .panicked chain => PostR ρ0 σ0 w0 x A' σ' (.panic chain) a w2
              | .outgrown => LetsOut (PostR ρ0 σ0 w0 x A' σ')) := by
            intro er e w2 h he
            cases er with
            | ret v σ2 =>
              obtain ⟨ρ2, v', rfl, hv, hr2, hs2⟩ := he
              exact ih (i + 1) _ _ hl2 h ρ2 _ w2 (((hf.mono hle).mono hs2.le).put _ hv) hr2 (hs1.trans hs2)
            | panic v σ2 =>
              obtain ⟨ρ2, v', rfl, hv, hr2, hs2⟩ := he
              cases Option.some.inj h
              exact ⟨ρ2, .panic hv, (hf.mono hle).mono hs2.le, hr2, hs1.trans hs2⟩
          cases hn1 with
          | value hv => exact ih (i + 1) _ _ hl2 h ρ1 _ w1 ((hf.mono hle).put _ hv) hr1 hs1
          | skip => exact ih (i + 1) _ _ hl2 h ρ1 _ w1 ((hf.mono hle).put _ (undef_VR ρ1)) hr1 hs1
          | @defer d d' hd =>
            cases ro with
            | some _ => cases h
            | none =>
            have hf1 := hf.mono hle
            refine ih (i + 1) _ _ hl2 h ρ1 _ w1 (FrR.put (A := { A with defers := d :: A.defers }) (a := { a with defers := d' :: a.defers }) ⟨hf1.n, hf1.tmp, by simp [hf1.dl], fun j q q' h1 h2 => ?_⟩ _ (undef_VR ρ1)) hr1 hs1
            cases j with
            | zero => simp at h1 h2; rw [← h1, ← h2]; exact hd
            | succ j => exact hf1.defers j q q' (by simpa using h1) (by simpa using h2)
          | recover => cases h
          | @enter g args args' ha =>
            simp only at h
            cases hcl : call (.enter g args) σ1 with
            | none => rw [hcl] at h; cases h
            | some er =>
              rw [hcl] at h
              exact ⟨fun q => by (cases q), (calls_at (hc _ σ1 er hcl ρ1 (.enter g args') w1 (.enter g ha) hr1) ro' _).mono fun e w2 he => by have h9 := after er e w2 h he; cases e <;> exact h9⟩
          | @round k k' g g' t t' c1 c2 q1 q2 =>
            simp only at h
            cases hcl : call (.round k g t c1 c2) σ1 with
            | none => rw [hcl] at h; cases h
            | some er =>
              rw [hcl] at h
              exact ⟨fun q => by (cases q), (RoundIn.at (hc _ σ1 er hcl ρ1 (.round k' g' t' c1 c2) w1 (.round g g' c1 c2 q1 q2) hr1) ro' _).mono fun e w2 he => by have h9 := after er e w2 h he; cases e <;> exact h9⟩
theorem least_ex {p : Nat → Prop} (h : ∃ m, p m) : ∃ m, p m ∧ ∀ k, p k → m ≤ k := by
  obtain ⟨m, hm⟩ := h
  induction m using Nat.strongRecOn with
  | _ m ih =>
    by_cases h : ∃ k, k < m ∧ p k
    · obtain ⟨k, h1, h2⟩ := h; exact ih k h1 h2
    · exact ⟨m, hm, fun k hk => Nat.le_of_not_lt fun hl => h ⟨k, hl, hk⟩⟩
def DrawSound (P : Program) (draw : List Oper → Fr → St → Option (Ex × Fr × St)) : Prop :=
  ∀ (id : Nat) (ops : Array Oper) (A : Fr) (σ : St) (x : Ex) (A' : Fr) (σ' : St), draw ops.toList A σ = some (x, A', σ') → ∀ (ρ0 : Ren) (σ0 : St) (w0 : World) (ρ : Ren) (a : Act) (w : World), FrR ρ A a → Rel ρ σ w → Since ρ0 σ0 w0 ρ σ w →
    ∀ ro : Option Nat, (Code.region id ops true).wpIn (wideR ro) 0 P (PostR ρ0 σ0 w0 x A' σ') a w
theorem frArr_VRs {ρ : Ren} {A : Fr} {a : Act} (h : FrR ρ A a) : VRs ρ (frArr A) a.tmps := by
  refine ⟨by simp [frArr, h.n], fun i v v' h1 h2 => ?_⟩
  have hi : i < A.n := by rw [h.n]; exact (Array.getElem?_eq_some_iff.1 h2).1
  have e1 : v = A.tmp i := by
    simp only [frArr, List.getElem?_toArray, List.getElem?_map] at h1
    rw [List.getElem?_range hi] at h1
    exact (Option.some.inj h1).symm
  have e2 : a.tmps.getD i undef = v' := by rw [Array.getD_eq_getD_getElem?, h2]; rfl
  rw [e1, ← e2]; exact h.tmp i
theorem jumpX_R {c : Code} {x : Ex} (h : jumpX c = some x) : (c = .ret ∧ x = .ret) ∨ ∃ id, c = .exit id ∧ x = .exit id := by
  unfold jumpX at h
  split at h
  · exact .inl ⟨rfl, (Option.some.inj h).symm⟩
  · exact .inr ⟨_, rfl, (Option.some.inj h).symm⟩
  · cases h
theorem code_sound (hz : ZeroOk P) (hn : ∀ (f : Nat) (fn : Func), P.funcs[f]? = some fn → (fn.name == "runtime.NumGoroutine") = false) {call : Next → St → Option Er} (hc : ∀ n σ r, call n σ = some r → NextSound P n σ r)
    {draw : List Oper → Fr → St → Option (Ex × Fr × St)} (hd : DrawSound P draw) :
    ∀ (ro ro' : Option Nat) (n : Nat) (c : Code) (A : Fr) (σ : St) (x : Ex) (A' : Fr) (σ' : St), evC P call draw ro n c A σ = some (x, A', σ') → ∀ (ρ0 : Ren) (σ0 : St) (w0 : World) (ρ : Ren) (a : Act) (w : World), RoR ρ0 ro ro' → FrR ρ A a → Rel ρ σ w → Since ρ0 σ0 w0 ρ σ w →
      c.wpIn (wideR ro') 0 P (PostR ρ0 σ0 w0 x A' σ') a w := by
  intro ro ro' n
  induction n using Nat.strongRecOn with
  | _ n ih =>
  intro c A σ x A' σ' h ρ0 σ0 w0 ρ a w hro hf hr hs
  cases n with
  | zero => cases h
  | succ f =>
  unfold evC at h
  cases c with
  | skip => cases Option.some.inj h; exact wpIn_skip ⟨ρ, .normal, hf, hr, hs⟩
  | exit id => cases Option.some.inj h; exact wpIn_exit ⟨ρ, .exit id, hf, hr, hs⟩
  | ret => cases Option.some.inj h; exact wpIn_ret ⟨ρ, .ret, hf, hr, hs⟩
  | seq c1 c2 =>
    simp only at h
    cases h1 : evC P call draw ro f c1 A σ with
    | none => rw [h1] at h; cases h
    | some r =>
      obtain ⟨x1, A1, σ1⟩ := r
      rw [h1] at h
      refine wpIn_seq (wpIn_mono (ih f (Nat.lt_succ_self f) c1 A σ x1 A1 σ1 h1 ρ0 σ0 w0 ρ a w hro hf hr hs) ?_)
      rintro e a1 w1 ⟨ρ1, he, hf1, hr1, hs1⟩
      cases he with
      | normal => exact ih f (Nat.lt_succ_self f) c2 A1 σ1 x A' σ' h ρ0 σ0 w0 ρ1 a1 w1 hro hf1 hr1 hs1
      | exit id => cases Option.some.inj h; exact ⟨ρ1, .exit id, hf1, hr1, hs1⟩
      | ret => cases Option.some.inj h; exact ⟨ρ1, .ret, hf1, hr1, hs1⟩
      | panic hv => cases Option.some.inj h; exact ⟨ρ1, .panic hv, hf1, hr1, hs1⟩
  | cond c x1 y1 =>
    simp only at h
    have hev : ∀ t : Bool, A.eval c = .bool t → a.eval c = .bool t := by
      intro t ht
      cases c with
      | tmp s =>
        have hv := hf.tmp s
        have ht : A.tmp s = .bool t := ht
        rw [ht] at hv
        show a.tmps.getD s undef = .bool t
        generalize a.tmps.getD s undef = u at hv
        cases hv
        rfl
      | const v => exact ht
      | global g => cases ht
      | func g => cases ht
    cases hA : A.eval c with
    | bool t =>
      rw [hA] at h
      cases t with
      | true => exact wpIn_cond_true (hev _ hA) (ih f (Nat.lt_succ_self f) x1 A σ x A' σ' h ρ0 σ0 w0 ρ a w hro hf hr hs)
      | false => exact wpIn_cond_false (hev _ hA) (ih f (Nat.lt_succ_self f) y1 A σ x A' σ' h ρ0 σ0 w0 ρ a w hro hf hr hs)
    | _ => rw [hA] at h; cases h
  | block id b =>
    simp only at h
    cases h1 : evC P call draw ro f b A σ with
    | none => rw [h1] at h; cases h
    | some r =>
      obtain ⟨x1, A1, σ1⟩ := r
      rw [h1] at h
      refine wpIn_block (wpIn_mono (ih f (Nat.lt_succ_self f) b A σ x1 A1 σ1 h1 ρ0 σ0 w0 ρ a w hro hf hr hs) ?_)
      rintro e a1 w1 ⟨ρ1, he, hf1, hr1, hs1⟩
      cases he with
      | normal => cases Option.some.inj h; exact ⟨ρ1, .normal, hf1, hr1, hs1⟩
      | ret => cases Option.some.inj h; exact ⟨ρ1, .ret, hf1, hr1, hs1⟩
      | panic hv => cases Option.some.inj h; exact ⟨ρ1, .panic hv, hf1, hr1, hs1⟩
      | exit id' =>
        simp only at h
        show if id' = id then _ else _
        cases hb : Nat.beq id' id with
        | true =>
          rw [hb] at h
          cases Option.some.inj h
          rw [if_pos (Nat.eq_of_beq_eq_true hb)]
          exact ⟨ρ1, .normal, hf1, hr1, hs1⟩
        | false =>
          rw [hb] at h
          cases Option.some.inj h
          rw [if_neg (Nat.ne_of_beq_eq_false hb)]
          exact ⟨ρ1, .exit id', hf1, hr1, hs1⟩
  | loop b =>
    let R : Nat → Act → World → Prop := fun m a w => ∃ A σ ρ, evC P call draw ro m (.loop b) A σ = some (x, A', σ') ∧ FrR ρ A a ∧ Rel ρ σ w ∧ Since ρ0 σ0 w0 ρ σ w ∧ m ≤ f + 1
    have hR : R (f + 1) a w := ⟨A, σ, ρ, by unfold evC; exact h, hf, hr, hs, Nat.le_refl _⟩
    have hmin : ∀ a w, (∃ m, R m a w) → R (Classical.epsilon fun m => R m a w ∧ ∀ k, R k a w → m ≤ k) a w ∧ ∀ k, R k a w → (Classical.epsilon fun m => R m a w ∧ ∀ k, R k a w → m ≤ k) ≤ k := fun a w hex => Classical.epsilon_spec (p := fun m => R m a w ∧ ∀ k, R k a w → m ≤ k) (least_ex hex)
    refine wpIn_loop (fun a w => ∃ m, R m a w) (fun a w => Classical.epsilon fun m => R m a w ∧ ∀ k, R k a w → m ≤ k) ⟨_, hR⟩ ?_
    intro a w hex
    obtain ⟨hm, hle⟩ := hmin a w hex
    generalize (Classical.epsilon fun m => R m a w ∧ ∀ k, R k a w → m ≤ k) = m at hm hle ⊢
    obtain ⟨A, σ, ρ, h, hf, hr, hs, hmf⟩ := hm
    cases m with
    | zero => cases h
    | succ m =>
    unfold evC at h
    simp only at h
    cases h1 : evC P call draw ro m b A σ with
    | none => rw [h1] at h; cases h
    | some r =>
      obtain ⟨x1, A1, σ1⟩ := r
      rw [h1] at h
      refine wpIn_mono (ih m (by omega) b A σ x1 A1 σ1 h1 ρ0 σ0 w0 ρ a w hro hf hr hs) ?_
      rintro e a1 w1 ⟨ρ1, he, hf1, hr1, hs1⟩
      cases he with
      | normal =>
        have hR1 : R m a1 w1 := ⟨A1, σ1, ρ1, h, hf1, hr1, hs1, by omega⟩
        exact ⟨⟨m, hR1⟩, Nat.lt_succ_of_le ((hmin a1 w1 ⟨m, hR1⟩).2 m hR1)⟩
      | exit id => cases Option.some.inj h; exact ⟨ρ1, .exit id, hf1, hr1, hs1⟩
      | ret => cases Option.some.inj h; exact ⟨ρ1, .ret, hf1, hr1, hs1⟩
      | panic hv => cases Option.some.inj h; exact ⟨ρ1, .panic hv, hf1, hr1, hs1⟩
  | region id ops d =>
    cases d with
    | false =>
      refine wpIn_region ?_
      have := ops_sound hz hn hc ops (x := x) (A' := A') (σ' := σ') (ρ0 := ρ0) (σ0 := σ0) (w0 := w0) hro ops.toList 0 A σ (by simp) h ρ a w hf hr hs
      rw [Array.length_toList] at this
      rw [List.range_eq_range']
      exact this
    | true => exact hd id ops A σ x A' σ' h ρ0 σ0 w0 ρ a w hf hr hs ro'
  | rangeFunc g ps assign body =>
    simp only at h
    cases hok : okOperand σ.glob g with
    | false => rw [hok] at h; cases h
    | true =>
    rw [hok] at h
    simp only at h
    have hg := hf.eval hr hok
    generalize hA : A.eval g = gv at hg h
    generalize hB : a.eval g = gv' at hg
    cases hg with
    | @func fn fn' f1 f1' c c' hfn q1 q2 q3 q4 =>
      cases hfn with
      | func gf =>
        simp only at h
        cases hfu : P.funcs[gf]? with
        | none => rw [hfu] at h; cases h
        | some fu =>
        rw [hfu] at h
        simp only at h
        cases hbo : fu.body with
        | none => rw [hbo] at h; cases h
        | some cb =>
        rw [hbo] at h
        simp only at h
        refine wpIn_rangeFunc fun fid _ => ?_
        have hent := fun r he => (sim_enterLoop (P := P) (hro.mono hs.le) (frArr_VRs hf) 0 fid ps assign body).out hr (r := r) he
        generalize runA P (Instr.enterLoop 0 (frArr A) ps assign body ro) σ = q at h hent
        cases q with
        | none => cases h
        | some q =>
        cases q with
        | panic v σ1 => cases h
        | ok lm σ1 =>
        obtain ⟨l, mark⟩ := lm
        obtain ⟨ρ1, ⟨l', mark'⟩, w1, hle, hrun, hr1, hk1, hl, hmk⟩ := hent _ rfl
        simp only at h hl hmk
        have hs1 := hs.trans ⟨hle, hk1⟩
        have hf1 := hf.mono hle
        have hf2 : ∀ ρ2 : Ren, ρ1.le ρ2 → FrR ρ2 { A with defers := mark ++ A.defers } { a with defers := mark' ++ a.defers } := by
          intro ρ2 hle2
          have hf2 := hf1.mono hle2
          rcases hmk with ⟨rfl, rfl⟩ | ⟨r, r', rfl, rfl, hrr⟩
          · exact hf2
          · refine ⟨hf2.n, hf2.tmp, by simp [hf2.dl], fun j d d' h1 h2 => ?_⟩
            cases j with
            | zero => simp at h1 h2; rw [← h1, ← h2]; exact ⟨.inr (.inr (.inr ⟨r, r', rfl, rfl, hle2.φ _ _ hrr⟩)), .empty _⟩
            | succ j => exact hf2.defers j d d' (by simpa using h1) (by simpa using h2)
        have hargs : VRs ρ1 (f1 ++ #[.func (.yield l) #[] #[]] ++ c) (f1' ++ #[.func (.yield l') #[] #[]] ++ c') := by
          refine ((VRs.mk q1 q2).mono hle |>.append ?_).append ((VRs.mk q3 q4).mono hle)
          have := (VRs.empty ρ1).push (VR.func (.yield hl) rfl (VRs.empty ρ1).get rfl (VRs.empty ρ1).get)
          simpa using this
        have hcall := NoNG_run (hn := hn) hfu hbo (f1' ++ #[.func (.yield l') #[] #[]] ++ c') w1
        refine ⟨l', mark', w1, { target := .fn (.func gf) c', args := f1' ++ #[.func (.yield l') #[] #[]] }, w1, gf, f1' ++ #[.func (.yield l') #[] #[]] ++ c', w1, hrun, ?_, fun _ _ => trivial, ?_, fun q => by (cases q), ?_⟩
        · simp only [resolve, hB, Deferred.ofValue]
          simp [Act.eval]
        · simp only [invoke]; exact hcall
        · cases hcl : call (.enter gf (f1 ++ #[.func (.yield l) #[] #[]] ++ c)) σ1 with
          | none => rw [hcl] at h; cases h
          | some er =>
            rw [hcl] at h
            refine (calls_at (hc _ σ1 er hcl ρ1 (.enter gf _) w1 (.enter gf hargs) hr1) ro' _).mono fun e w2 he => ?_
            cases er with
            | panic v σ2 =>
              obtain ⟨ρ2, v', rfl, hv, hr2, hs2⟩ := he
              cases Option.some.inj h
              exact ⟨ρ2, .panic hv, hf2 ρ2 hs2.le, hr2, hs1.trans hs2⟩
            | ret v σ2 =>
              obtain ⟨ρ2, v', rfl, hv, hr2, hs2⟩ := he
              simp only at h
              have hend := fun r he => (sim_endLoop (P := P) (hs2.le.φ _ _ hl)).out hr2 (r := r) he
              generalize runA P (Instr.endLoop l) σ2 = q at h hend
              cases q with
              | none => cases h
              | some q =>
              cases q with
              | panic v σ1 => cases h
              | ok j σ3 =>
              obtain ⟨ρ3, j', w3, hle3, hrun3, hr3, hk3, rfl⟩ := hend _ rfl
              have hs3 := (hs1.trans hs2).trans ⟨hle3, hk3⟩
              refine ⟨j', w3, hrun3, ?_⟩
              cases j' with
              | none =>
                cases Option.some.inj h
                exact ⟨ρ3, .normal, hf2 ρ3 (hs2.le.trans hle3), hr3, hs3⟩
              | some cj =>
                simp only at h
                cases hx : jumpX cj with
                | none => rw [hx] at h; cases h
                | some x1 =>
                  rw [hx] at h
                  cases Option.some.inj h
                  rcases jumpX_R hx with ⟨rfl, rfl⟩ | ⟨id, rfl, rfl⟩
                  · exact wpIn_ret ⟨ρ3, .ret, hf2 ρ3 (hs2.le.trans hle3), hr3, hs3⟩
                  · exact wpIn_exit ⟨ρ3, .exit id, hf2 ρ3 (hs2.le.trans hle3), hr3, hs3⟩
      | _ => cases h
    | _ => cases h
  | _ => cases h
end
end Go.Ev
/- The law of a region that draws, inside a fence: a prefix of operations of one value each, and a tail that may call, or hand a round what it yields. -/
namespace Go.MixIn
open Go.Mix Go.Ev Go.RowKit
section
variable {ro : Option Nat} {m : Nat} {P : Program} {ops : Array Oper} {md : Region.Mode} {Q : Exit → Act → World → Prop} {T : World → World → Prop} {D : World → Prop}
/-- What an operation may leave behind: a value and a world, by R. -/
def uponU (ro : Option Nat) (m : Nat) (P : Program) (R : Value → World → Prop) : Result Next → Prop
  | .ok (.value u) w' => R u w'
  | .ok .skip w' => R undef w'
  | .ok (.enter f args) w' => Calls P f args w' (fun e w'' => ∃ v, e = .returned v ∧ R v w'')
  | .ok (.round l f tmps assign body) w' => RoundIn (wideR ro) (m - 1) P l f tmps assign body w' (fun e w'' => ∃ v, e = .returned v ∧ R v w'')
  | _ => False
def opU (ro : Option Nat) (m : Nat) (P : Program) (ops : Array Oper) (T : World → World → Prop) (D : World → Prop) (i : Nat) (K : Act → (World → Prop) → Prop) (a : Act) (C : World → Prop) : Prop :=
  match ops[i]? with
  | none => K a C
  | some o => if Region.wanted o (yielded ops a.tmps) then
      ∃ R : Value → World → Prop, (∀ v w w', R v w → T w w' → R v w') ∧ (∀ v w, R v w → D w) ∧ (∀ w, C w → uponU ro m P R ((execOp a.eval o).run P w)) ∧ ∀ v w, R v w → K (a.put o.dst v) (R v)
    else K (a.put o.dst undef) C
def wpU (ro : Option Nat) (m : Nat) (P : Program) (md : Region.Mode) (ops : Array Oper) (Q : Exit → Act → World → Prop) (T : World → World → Prop) (D : World → Prop) : Nat → Array Bool → Act → (World → Prop) → Prop
  | 0, listed, a, C => Region.ready md ops listed = [] ∧ ∀ w, C w → Q .normal a w
  | fuel + 1, listed, a, C =>
    (Region.ready md ops listed = [] → ∀ w, C w → Q .normal a w) ∧
    ∀ i ∈ Region.ready md ops listed, opU ro m P ops T D i (fun a' C' => wpU ro m P md ops Q T D fuel (listed.setIfInBounds i true) a' C') a C
theorem wpOp_of_opU (hnd : ∀ (j : Nat) (o : Oper) c, ops[j]? = some o → o.op ≠ .defer c) {i : Nat} {a : Act} {K : Act → (World → Prop) → Prop} {K' : Act → World → Prop} {C : World → Prop} {w : World} (hC : C w)
    (h : ∀ a' C' w', C' w' → K a' C' → K' a' w') (hh : opU ro m P ops T D i K a C) : wpOpIn (wideR ro) m P ops Q i K' a w := by
  unfold opU at hh
  unfold wpOpIn
  split
  · rename_i ho; simp only [ho] at hh; exact h _ _ _ hC hh
  · rename_i o ho
    simp only [ho] at hh
    split
    · rename_i hw
      simp only [hw, if_true] at hh
      obtain ⟨R, -, -, h1, h2⟩ := hh
      have h3 := h1 w hC
      unfold Oper.wpIn
      rw [Oper.semAt_plain _ _ _ (fun c => hnd i o c ho)]
      refine ⟨fun _ _ => trivial, ?_⟩
      generalize (execOp a.eval o).run P w = r at *
      cases r with
      | ok n w' =>
        cases n <;> simp only [uponU] at h3 <;> simp only [Oper.uponIn]
        case value u => exact h _ _ _ h3 (h2 _ _ h3)
        case skip => exact h _ _ _ h3 (h2 _ _ h3)
        case enter f args =>
          exact ⟨fun hd => (by cases hd), (calls_at h3 ro _).mono fun e w'' ⟨v, he, hr⟩ => by subst he; exact h _ _ _ hr (h2 _ _ hr)⟩
        case round l f t x y =>
          exact ⟨fun hd => (by cases hd), h3.mono fun e w'' ⟨v, he, hr⟩ => by subst he; exact h _ _ _ hr (h2 _ _ hr)⟩
      | halt x w' => simp only [uponU] at h3
    · rename_i hw; simp only [hw] at hh; exact ⟨fun _ _ => trivial, h _ _ _ hC hh⟩
theorem wpAny_of_U (hnd : ∀ (j : Nat) (o : Oper) c, ops[j]? = some o → o.op ≠ .defer c) : ∀ (fuel : Nat) (listed : Array Bool) (a : Act) (C : World → Prop) (w : World), C w → wpU ro m P md ops Q T D fuel listed a C → wpAnyIn (wideR ro) m P md ops Q fuel listed a w
  | 0, _, _, _, _, hw, h => ⟨h.1, h.2 _ hw⟩
  | fuel + 1, _, _, _, _, hw, h => ⟨fun h0 => h.1 h0 _ hw, fun i hi => wpOp_of_opU hnd hw (fun a' C' w' hw' hk => wpAny_of_U hnd fuel _ a' C' w' hw' hk) (h.2 i hi)⟩
theorem opU_mono {i : Nat} {a : Act} {C : World → Prop} {K K' : Act → (World → Prop) → Prop} (hC : (∀ w w', C w → T w w' → C w') ∧ (∀ w, C w → D w))
    (h : ∀ a' C', (∀ w w', C' w → T w w' → C' w') → (∀ w, C' w → D w) → K a' C' → K' a' C') (hh : opU ro m P ops T D i K a C) : opU ro m P ops T D i K' a C := by
  unfold opU at *
  split
  · rename_i ho; simp only [ho] at hh; exact h _ _ hC.1 hC.2 hh
  · rename_i o ho
    simp only [ho] at hh
    split
    · rename_i hw
      simp only [hw, if_true] at hh
      obtain ⟨R, r1, r2, r3, r4⟩ := hh
      exact ⟨R, r1, r2, r3, fun v w hv => h _ _ (r1 v) (r2 v) (r4 v w hv)⟩
    · rename_i hw; simp only [hw] at hh; exact h _ _ hC.1 hC.2 hh

/-- An operation of one value comes up. -/
theorem one_opU {i : Nat} {o : Oper} {v : Value} {a : Act} {C : World → Prop} (hi : ops[i]? = some o) (hC1 : ∀ w w', C w → T w w' → C w') (hC2 : ∀ w, C w → D w)
    (hy : One P ops T D o v a) {K : Act → (World → Prop) → Prop} (h : K (a.put o.dst v) C) : MixIn.opU ro m P ops T D i K a C := by
  unfold MixIn.opU
  simp only [hi]
  rcases hy with ⟨hw, hv⟩ | ⟨hw, rfl⟩
  · simp only [hw, if_true]
    refine ⟨fun u w => u = v ∧ C w, fun _ _ _ hr ht => ⟨hr.1, hC1 _ _ hr.2 ht⟩, fun _ _ hr => hC2 _ hr.2, fun w hw => ?_, fun u w hr => ?_⟩
    · have h3 := hv w (hC2 w hw)
      unfold Oper.quietAt at h3
      generalize (execOp a.eval o).run P w = r at *
      cases r with
      | ok n w' =>
        cases n <;> simp only [Oper.quietUpon] at h3 <;> simp only [uponU]
        case value u => exact ⟨h3.2, h3.1 ▸ hw⟩
        case skip => exact ⟨h3.2.symm, h3.1 ▸ hw⟩
        case enter f args =>
          obtain ⟨e1, hc⟩ := h3
          rw [e1]
          exact hc.mono fun e w'' ⟨he, ht⟩ => ⟨v, he, rfl, hC1 _ _ hw ht⟩
      | halt x w' => simp only [Oper.quietUpon] at h3
    · obtain ⟨rfl, hr⟩ := hr
      have : (fun w => u = u ∧ C w) = C := by funext w; simp
      show K (a.put o.dst u) (fun w => u = u ∧ C w)
      rw [this]
      exact h
  · simp only [hw, Bool.false_eq_true, if_false]; exact h

theorem opU_put {j : Nat} {oi oj : Oper} {v : Value} {C : World → Prop} (hj : ops[j]? = some oj) (hap : oi.apart ops oj = true)
    (hsi : ∀ cs b, oi.op ≠ .select cs b) (hsj : ∀ cs b, oj.op ≠ .select cs b) {K : Act → (World → Prop) → Prop} {a : Act}
    (hy : One P ops T D oi v a) (h : opU ro m P ops T D j K (a.put oi.dst v) C) :
    opU ro m P ops T D j (fun a' C' => One P ops T D oi v a' ∧ K (a'.put oi.dst v) C') a C := by
  obtain ⟨h1, h2, h3⟩ := Oper.apart_spec hap
  have keep : ∀ (a : Act), One P ops T D oi v a → ∀ u, One P ops T D oi v (a.put oj.dst u) := fun a hy u =>
    hy.of_same (execOp_put oi hsi a oj.dst u h3) (wanted_put oi a oj.dst u h3)
  unfold opU at *
  simp only [hj] at *
  rw [wanted_put oj a oi.dst v h1] at h
  split
  · rename_i hw
    simp only [hw, if_true] at h
    obtain ⟨R, r1, r2, r3, r4⟩ := h
    refine ⟨R, r1, r2, fun w hw' => ?_, fun u w hr => ⟨keep a hy u, by rw [← Act.put_comm a v u h2]; exact r4 u w hr⟩⟩
    have := r3 w hw'
    rwa [execOp_put oj hsj a oi.dst v h1] at this
  · rename_i hw
    simp only [hw] at h
    exact ⟨keep a hy _, by rw [← Act.put_comm a v undef h2]; exact h⟩

theorem wpU_first {i : Nat} {oi : Oper} {v : Value} (hi : ops[i]? = some oi) (hsel : ∀ (j : Nat) (o : Oper) cs b, ops[j]? = some o → o.op ≠ .select cs b) :
    ∀ (fuel : Nat) (listed : Array Bool) (a : Act) (C : World → Prop), (∀ w w', C w → T w w' → C w') → (∀ w, C w → D w) →
      (∀ j oj, ops[j]? = some oj → j ≠ i → listed.getD j true = false → (∀ e ∈ oj.after, Region.binds md e = true → e.on ≠ i) → oi.apart ops oj = true) →
      i ∈ Region.ready md ops listed → One P ops T D oi v a →
      wpU ro m P md ops Q T D fuel (listed.setIfInBounds i true) (a.put oi.dst v) C → wpU ro m P md ops Q T D (fuel + 1) listed a C := by
  intro fuel
  induction fuel with
  | zero =>
    intro listed a C hC1 hC2 _ hr hy H
    refine ⟨fun h => (by rw [h] at hr; cases hr), fun j hj => ?_⟩
    by_cases hji : j = i
    · subst hji; exact one_opU hi hC1 hC2 hy H
    · have := ready_mono hj hji
      rw [H.1] at this
      cases this
  | succ fuel ih =>
    intro listed a C hC1 hC2 hfree hr hy H
    refine ⟨fun h => (by rw [h] at hr; cases hr), fun j hj => ?_⟩
    by_cases hji : j = i
    · subst hji; exact one_opU hi hC1 hC2 hy H
    · have h1 := H.2 j (ready_mono hj hji)
      obtain ⟨hjun, oj, hoj, hall⟩ := mem_ready.1 hj
      have hnot : ∀ e ∈ oj.after, Region.binds md e = true → e.on ≠ i := fun e he hb heq => by
        have h1 := hall e he hb
        have h0 := (mem_ready.1 hr).1
        rw [heq] at h1
        rcases Nat.lt_or_ge i listed.size with h' | h'
        · simp [h'] at h0 h1; rw [h0] at h1; cases h1
        · simp [Array.getElem?_eq_none h'] at h1
      have h2 := opU_put hoj (hfree j oj hoj hji hjun hnot) (fun cs b => hsel i oi cs b hi) (fun cs b => hsel j oj cs b hoj) hy h1
      have hfree' : ∀ k ok, ops[k]? = some ok → k ≠ i → (listed.setIfInBounds j true).getD k true = false →
          (∀ e ∈ ok.after, Region.binds md e = true → e.on ≠ i) → oi.apart ops ok = true := fun k ok hk hki hun hno => by
        refine hfree k ok hk hki ?_ hno
        by_cases hjk : j = k
        · subst hjk; exact hjun
        · rw [getD_set_ne true hjk] at hun; exact hun
      refine opU_mono ⟨hC1, hC2⟩ (fun a' C' c1 c2 h3 => ih (listed.setIfInBounds j true) a' C' c1 c2 hfree' (ready_mono hr (Ne.symm hji)) h3.1 ?_) h2
      rw [Array.setIfInBounds_comm _ _ hji]
      exact h3.2

theorem wpU_lex (hs : Region.noSelect ops = true) (hT : ∀ w, T w w) {C : World → Prop} (hC1 : ∀ w w', C w → T w w' → C w') (hC2 : ∀ w, C w → D w) (hne : ∃ ρ, D ρ) {aF : Act} {f : Nat} {listed' : Array Bool} :
    ∀ (l : List Oper) (k : Nat) (listed : Array Bool) (a : Act) (seen : List Tmp), (∀ j, j < l.length → l[j]? = ops[k + j]?) →
    lexTo md ops l.length k listed = some listed' → dstsB a.tmps.size l seen = true → WalkTo P ops T D aF l a → wpU ro m P md ops Q T D f listed' aF C → wpU ro m P md ops Q T D (l.length + f) listed a C
  | [], _, listed, a, _, _, hB, _, h, hK => by
    obtain ⟨ρ, hρ⟩ := hne
    have e : a = aF := h ρ hρ
    have e2 : listed = listed' := by simpa [lexTo] using hB
    subst e e2
    simpa using hK
  | o :: l, k, listed, a, seen, hl, hB, hd, h, hK => by
    have h0 : ops[k]? = some o := by simpa using (hl 0 (by simp)).symm
    simp only [List.length_cons, lexTo] at hB
    split at hB
    case isFalse => cases hB
    rename_i hc
    simp only [Bool.and_eq_true] at hc
    obtain ⟨v, seen', h1, h2, h3⟩ := step_of_walk hT hd h
    have := wpU_lex hs hT hC1 hC2 hne l (k + 1) _ (a.put o.dst v) seen' (fun j hj => by have := hl (j + 1) (by simp; omega); simpa [Nat.add_assoc, Nat.add_comm 1 j] using this) hB (by rw [put_size]; exact h2) h3 hK
    rw [List.length_cons, Nat.add_right_comm]
    exact wpU_first h0 (Region.noSelect_spec hs) (l.length + f) listed a C hC1 hC2 (Region.free_spec h0 hc.2) (by simpa using hc.1) h1 this

theorem wpIn_region_mix {id : Nat} {a : Act} {w : World} {l : List Oper} (n : Nat) (C D : World → Prop) (T : World → World → Prop) {aF : Act} (hm : P.follows .mixedOrders = true) (hnd : ∀ (j : Nat) (o : Oper) c, l.toArray[j]? = some o → o.op ≠ .defer c)
    (hn : n ≤ l.length) (hs : Region.noSelect l.toArray = true) (hB : lexTo .any l.toArray n 0 (Array.replicate l.length false) = some (List.replicate n true ++ List.replicate (l.length - n) false).toArray) (hd : dstsB a.tmps.size (l.take n) [] = true)
    (hT : ∀ w, T w w) (hC1 : ∀ w w', C w → T w w' → C w') (hC2 : ∀ w, C w → D w) (h0 : C { w with drawn := w.drawn + 1 }) (hA : WalkTo P l.toArray T D aF (l.take n) a)
    (hN : wpU ro m P .any l.toArray Q T D (l.length - n) (List.replicate n true ++ List.replicate (l.length - n) false).toArray aF C) : (Code.region id l.toArray true).wpIn (wideR ro) m P Q a w := by
  refine wpIn_region_any hm (wpAny_of_U hnd (T := T) (D := D) _ _ _ C _ h0 ?_)
  have hlen : (l.take n).length = n := by simp [hn]
  have := wpU_lex (P := P) (md := .any) (Q := Q) hs hT hC1 hC2 ⟨_, hC2 _ h0⟩ (l.take n) 0 (Array.replicate l.length false) a [] (fun j hj => by rw [hlen] at hj; simp [hj]) (by rw [hlen]; exact hB) hd hA hN
  rw [hlen] at this
  simpa [show n + (l.length - n) = l.length from by omega] using this

/-- One operation of the tail, where it alone may come up. -/
theorem wpU_one {fuel : Nat} {listed : Array Bool} {a : Act} {C : World → Prop} {i : Nat} {o : Oper} (hr : Region.ready md ops listed = [i]) (ho : ops[i]? = some o) (hw : Region.wanted o (yielded ops a.tmps) = true)
    (R : Value → World → Prop) (hR : ∀ v w w', R v w → T w w' → R v w') (hD : ∀ v w, R v w → D w) (hrun : ∀ w, C w → uponU ro m P R ((execOp a.eval o).run P w))
    (hK : ∀ v w, R v w → wpU ro m P md ops Q T D fuel (listed.setIfInBounds i true) (a.put o.dst v) (R v)) : wpU ro m P md ops Q T D (fuel + 1) listed a C := by
  refine ⟨(fun h => by rw [hr] at h; cases h), fun j hj => ?_⟩
  rw [hr] at hj
  obtain rfl : j = i := by simpa using hj
  unfold opU
  simp only [ho, hw, if_true]
  exact ⟨R, hR, hD, hrun, hK⟩
theorem wpU_end {listed : Array Bool} {a : Act} {C : World → Prop} (hr : Region.ready md ops listed = []) (h : ∀ w, C w → Q .normal a w) : wpU ro m P md ops Q T D 0 listed a C := ⟨hr, h⟩
/-! ### A tail that is walked plainly -/
/-- what stands is closed under what must come before -/
def Closed (md : Region.Mode) (ops : Array Oper) (L : Array Bool) : Prop :=
  ∀ (j : Nat) (o : Oper), ops[j]? = some o → L.getD j false = true → ∀ e ∈ o.after, Region.binds md e = true → L.getD e.on false = true
theorem Closed.set {L : Array Bool} (h : Closed md ops L) {i : Nat} (hi : i ∈ Region.ready md ops L) : Closed md ops (L.setIfInBounds i true) := by
  intro j o hj hl e he hb
  have mono : ∀ k, L.getD k false = true → (L.setIfInBounds i true).getD k false = true := by
    intro k hk
    by_cases e : i = k
    · subst e
      rw [Array.getD_eq_getD_getElem?] at hk ⊢
      by_cases hs : i < L.size
      · simp [hs]
      · rw [Array.getElem?_eq_none (by omega)] at hk; cases hk
    · rw [Array.getD_eq_getD_getElem?, Array.getElem?_setIfInBounds_ne e, ← Array.getD_eq_getD_getElem?]; exact hk
  by_cases hij : i = j
  · subst hij
    obtain ⟨-, o', ho', h2⟩ := mem_ready.1 hi
    rw [hj] at ho'
    cases Option.some.inj ho'
    exact mono _ (h2 e he hb)
  · rw [Array.getD_eq_getD_getElem?, Array.getElem?_setIfInBounds_ne hij, ← Array.getD_eq_getD_getElem?] at hl
    exact mono _ (h j o hj hl e he hb)
/-- each of the first n operations has a later one, at most n, that must come behind it -/
def succB (md : Region.Mode) (ops : Array Oper) (n : Nat) : Bool :=
  (List.range n).all fun i => (List.range (n + 1)).any fun j => decide (i < j) && ((ops[j]?).map fun o => o.after.any fun e => Region.binds md e && Nat.beq e.on i).getD false
theorem all_before {n : Nat} (hs : succB md ops n = true) {L : Array Bool} (hc : Closed md ops L) (hn : n ∈ Region.ready md ops L) : ∀ k i, n - i = k → i < n → L.getD i false = true := by
  intro k
  induction k using Nat.strongRecOn with
  | ind k ih =>
    intro i hk hi
    have h1 := List.all_eq_true.1 hs i (List.mem_range.2 hi)
    obtain ⟨j, hj, h2⟩ := List.any_eq_true.1 h1
    have hjn := List.mem_range.1 hj
    simp only [Bool.and_eq_true, decide_eq_true_eq] at h2
    obtain ⟨hij, h3⟩ := h2
    cases ho : ops[j]? with
    | none => rw [ho] at h3; cases h3
    | some o =>
      rw [ho] at h3
      simp only [Option.map_some, Option.getD_some, Array.any_eq_true'] at h3
      obtain ⟨e, he, h4⟩ := h3
      simp only [Bool.and_eq_true, Nat.beq_eq] at h4
      obtain ⟨hb, rfl⟩ := h4
      by_cases hjn2 : j = n
      · subst hjn2
        obtain ⟨-, o', ho', h5⟩ := mem_ready.1 hn
        rw [ho] at ho'
        cases Option.some.inj ho'
        exact h5 e he hb
      · exact hc j o ho (ih (n - j) (by omega) j rfl (by omega)) e he hb
def wpV (ro : Option Nat) (m : Nat) (P : Program) (md : Region.Mode) (ops : Array Oper) (Q : Exit → Act → World → Prop) (T : World → World → Prop) (D : World → Prop) (n f : Nat) : Nat → Array Bool → Act → (World → Prop) → Prop
  | 0, listed, a, C => Region.ready md ops listed = [n] ∧ ∀ w, C w → wpAnyIn (wideR ro) m P md ops Q f listed a w
  | fuel + 1, listed, a, C => Region.ready md ops listed ≠ [] ∧
    ∀ i ∈ Region.ready md ops listed, opU ro m P ops T D i (fun a' C' => wpV ro m P md ops Q T D n f fuel (listed.setIfInBounds i true) a' C') a C
theorem wpAny_of_V (hnd : ∀ (j : Nat) (o : Oper) c, ops[j]? = some o → o.op ≠ .defer c) {n f : Nat} : ∀ (fuel : Nat) (listed : Array Bool) (a : Act) (C : World → Prop) (w : World), C w → wpV ro m P md ops Q T D n f fuel listed a C → wpAnyIn (wideR ro) m P md ops Q (fuel + f) listed a w
  | 0, _, _, _, _, hw, h => by rw [Nat.zero_add]; exact h.2 _ hw
  | fuel + 1, _, _, _, _, hw, h => by
    rw [Nat.add_right_comm]
    exact ⟨fun h0 => absurd h0 h.1, fun i hi => wpOp_of_opU hnd hw (fun a' C' w' hw' hk => wpAny_of_V hnd fuel _ a' C' w' hw' hk) (h.2 i hi)⟩
theorem wpV_first {n f : Nat} (hs : succB md ops n = true) {i : Nat} (hin : i < n) {oi : Oper} {v : Value} (hi : ops[i]? = some oi) (hsel : ∀ (j : Nat) (o : Oper) cs b, ops[j]? = some o → o.op ≠ .select cs b) :
    ∀ (fuel : Nat) (listed : Array Bool) (a : Act) (C : World → Prop), Closed md ops listed → (∀ w w', C w → T w w' → C w') → (∀ w, C w → D w) →
      (∀ j oj, ops[j]? = some oj → j ≠ i → listed.getD j true = false → (∀ e ∈ oj.after, Region.binds md e = true → e.on ≠ i) → oi.apart ops oj = true) →
      i ∈ Region.ready md ops listed → One P ops T D oi v a →
      wpV ro m P md ops Q T D n f fuel (listed.setIfInBounds i true) (a.put oi.dst v) C → wpV ro m P md ops Q T D n f (fuel + 1) listed a C := by
  intro fuel
  induction fuel with
  | zero =>
    intro listed a C hcl hC1 hC2 _ hr hy H
    refine ⟨fun h => (by rw [h] at hr; cases hr), fun j hj => ?_⟩
    by_cases hji : j = i
    · subst hji; exact one_opU hi hC1 hC2 hy H
    · have := ready_mono hj hji
      rw [H.1] at this
      obtain rfl : j = n := by simpa using this
      have h1 := all_before hs hcl hj _ i rfl hin
      have h2 := (mem_ready.1 hr).1
      rw [Array.getD_eq_getD_getElem?] at h1 h2
      cases hq : listed[i]? with
      | none => rw [hq] at h1; cases h1
      | some b => rw [hq] at h1 h2; simp only [Option.getD_some] at h1 h2; rw [h1] at h2; cases h2
  | succ fuel ih =>
    intro listed a C hcl hC1 hC2 hfree hr hy H
    refine ⟨fun h => (by rw [h] at hr; cases hr), fun j hj => ?_⟩
    by_cases hji : j = i
    · subst hji; exact one_opU hi hC1 hC2 hy H
    · have h1 := H.2 j (ready_mono hj hji)
      have hcl2 := hcl.set hj
      obtain ⟨hjun, oj, hoj, hall⟩ := mem_ready.1 hj
      have hnot : ∀ e ∈ oj.after, Region.binds md e = true → e.on ≠ i := fun e he hb heq => by
        have h1 := hall e he hb
        have h0 := (mem_ready.1 hr).1
        rw [heq] at h1
        rcases Nat.lt_or_ge i listed.size with h' | h'
        · simp [h'] at h0 h1; rw [h0] at h1; cases h1
        · simp [Array.getElem?_eq_none h'] at h1
      have h2 := opU_put hoj (hfree j oj hoj hji hjun hnot) (fun cs b => hsel i oi cs b hi) (fun cs b => hsel j oj cs b hoj) hy h1
      have hfree' : ∀ k ok, ops[k]? = some ok → k ≠ i → (listed.setIfInBounds j true).getD k true = false →
          (∀ e ∈ ok.after, Region.binds md e = true → e.on ≠ i) → oi.apart ops ok = true := fun k ok hk hki hun hno => by
        refine hfree k ok hk hki ?_ hno
        by_cases hjk : j = k
        · subst hjk; exact hjun
        · rw [getD_set_ne true hjk] at hun; exact hun
      refine opU_mono ⟨hC1, hC2⟩ (fun a' C' c1 c2 h3 => ih (listed.setIfInBounds j true) a' C' hcl2 c1 c2 hfree' (ready_mono hr (Ne.symm hji)) h3.1 ?_) h2
      rw [Array.setIfInBounds_comm _ _ hji]
      exact h3.2

theorem wpV_lex {n f : Nat} (hsc : succB md ops n = true) (hs : Region.noSelect ops = true) (hT : ∀ w, T w w) {C : World → Prop} (hC1 : ∀ w w', C w → T w w' → C w') (hC2 : ∀ w, C w → D w) (hne : ∃ ρ, D ρ) {aF : Act} {listed' : Array Bool} :
    ∀ (l : List Oper) (k : Nat) (listed : Array Bool) (a : Act) (seen : List Tmp), k + l.length = n → Closed md ops listed → (∀ j, j < l.length → l[j]? = ops[k + j]?) →
    lexTo md ops l.length k listed = some listed' → dstsB a.tmps.size l seen = true → WalkTo P ops T D aF l a → wpV ro m P md ops Q T D n f 0 listed' aF C → wpV ro m P md ops Q T D n f l.length listed a C
  | [], _, listed, a, _, _, _, _, hB, _, h, hK => by
    obtain ⟨ρ, hρ⟩ := hne
    have e : a = aF := h ρ hρ
    have e2 : listed = listed' := by simpa [lexTo] using hB
    subst e e2
    simpa using hK
  | o :: l, k, listed, a, seen, hkn, hcl, hl, hB, hd, h, hK => by
    have h0 : ops[k]? = some o := by simpa using (hl 0 (by simp)).symm
    simp only [List.length_cons, lexTo] at hB
    split at hB
    case isFalse => cases hB
    rename_i hc
    simp only [Bool.and_eq_true] at hc
    obtain ⟨v, seen', h1, h2, h3⟩ := step_of_walk hT hd h
    have hr : k ∈ Region.ready md ops listed := by simpa using hc.1
    have := wpV_lex hsc hs hT hC1 hC2 hne l (k + 1) _ (a.put o.dst v) seen' (by simp at hkn; omega) (hcl.set hr) (fun j hj => by have := hl (j + 1) (by simp; omega); simpa [Nat.add_assoc, Nat.add_comm 1 j] using this) hB (by rw [put_size]; exact h2) h3 hK
    rw [List.length_cons]
    exact wpV_first hsc (by simp at hkn; omega) h0 (Region.noSelect_spec hs) l.length listed a C hcl hC1 hC2 (Region.free_spec h0 hc.2) hr h1 this
/-- THE REGION: a prefix of operations of one value each, and a tail that one operation begins, which comes behind all of the prefix: the tail is walked as it stands. -/
theorem wpIn_region_tail {id : Nat} {a : Act} {w : World} {l : List Oper} (n f : Nat) (C D : World → Prop) (T : World → World → Prop) {aF : Act} (hm : P.follows .mixedOrders = true) (hnd : ∀ (j : Nat) (o : Oper) c, l.toArray[j]? = some o → o.op ≠ .defer c)
    (hn : n + f = l.length) (hsc : succB .any l.toArray n = true) (hs : Region.noSelect l.toArray = true) (hB : lexTo .any l.toArray n 0 (Array.replicate l.length false) = some (List.replicate n true ++ List.replicate f false).toArray) (hd : dstsB a.tmps.size (l.take n) [] = true)
    (hr : Region.ready .any l.toArray (List.replicate n true ++ List.replicate f false).toArray = [n])
    (hT : ∀ w, T w w) (hC1 : ∀ w w', C w → T w w' → C w') (hC2 : ∀ w, C w → D w) (h0 : C { w with drawn := w.drawn + 1 }) (hA : WalkTo P l.toArray T D aF (l.take n) a)
    (hN : ∀ w, C w → wpAnyIn (wideR ro) m P .any l.toArray Q f (List.replicate n true ++ List.replicate f false).toArray aF w) : (Code.region id l.toArray true).wpIn (wideR ro) m P Q a w := by
  have hlen : (l.take n).length = n := by simp; omega
  have hz : Closed .any l.toArray (Array.replicate l.length false) := by
    intro j o _ hl
    rw [Array.getD_eq_getD_getElem?, Array.getElem?_replicate] at hl
    split at hl <;> cases hl
  have h1 := wpV_lex (ro := ro) (m := m) (P := P) (md := .any) (ops := l.toArray) (Q := Q) (T := T) (D := D) (n := n) (f := f) hsc hs hT hC1 hC2 ⟨_, hC2 _ h0⟩ (l.take n) 0 (Array.replicate l.length false) a [] (by rw [hlen]; omega) hz (fun j hj => by rw [hlen] at hj; simp [hj]) (by rw [hlen]; exact hB) hd hA ⟨hr, hN⟩
  rw [hlen] at h1
  have h2 := wpAny_of_V hnd n _ _ _ _ h0 h1
  refine wpIn_region_any hm ?_
  rw [hn] at h2
  simpa using h2
/-- the next operation of the tail, where it alone may come up -/
theorem wpAnyIn_one {f : Nat} {listed : Array Bool} {a : Act} {w : World} {i : Nat} (hr : Region.ready md ops listed = [i]) (h : wpOpIn (wideR ro) m P ops Q i (wpAnyIn (wideR ro) m P md ops Q f (listed.setIfInBounds i true)) a w) : wpAnyIn (wideR ro) m P md ops Q (f + 1) listed a w := by
  refine ⟨fun h0 => ?_, fun j hj => ?_⟩
  · rw [hr] at h0; cases h0
  · rw [hr] at hj
    obtain rfl : j = i := by simpa using hj
    exact h
theorem wpAnyIn_last {listed : Array Bool} {a : Act} {w : World} (hr : Region.ready md ops listed = []) (h : Q .normal a w) : wpAnyIn (wideR ro) m P md ops Q 0 listed a w := ⟨hr, h⟩
end
end Go.MixIn
/- tableout.entries of a row with one entry: its iterator. -/
namespace Go.Proofs.YtneohoclgnfdcaaGreatDoor
open Go.RowKit Go.Shelf Go.Ev
open Go.Lib hiding intOf
theorem wideR_round (ro : Option Nat) : (wideR ro).round = ro := rfl
theorem wideR_depth (ro : Option Nat) : (wideR ro).depth = none := rfl
theorem wideR_fn (ro : Option Nat) (f : FuncId) : (wideR ro).fn f = True := rfl
attribute [local go_sem] Oper.semAt_some Oper.semAt_none wideR_round wideR_depth wideR_fn
theorem grown_of_below {w w' : World} (h : Below w.heap.size w w') : w.grownBy w' none := ⟨h.os, h.tape, h.output, h.size, fun k hk _ => h.block k hk⟩
/-- a row of a table with one entry: its key's text, its value's cells -/
structure RowAt (w : World) (Bg Bn : Nat) (key : ByteArray) (kd : Int) (tx : ByteArray) (od : Bool) (kv iv : Value) : Prop where
  ex : ∃ (b o N vc : Nat) (root : Int) (rk : Int) (rt : ByteArray) (ro : Bool) (lb lo kc ib io ic k y : Nat), w.heap[Bg]? = some (.cells #[.slice (some ⟨b, o, none⟩) N vc, .int .i64 root] 36) ∧
    w.heap[Bn]? = some (.cells #[.int .i64 rk, .string rt, .bool ro, .slice (some ⟨lb, lo, none⟩) 1 kc, .slice (some ⟨ib, io, none⟩) 1 ic] 33) ∧
    w.cell? ⟨lb, lo, none⟩ = some (.int .i64 k) ∧ w.cell? ⟨ib, io, none⟩ = some (.int .i64 y) ∧ k < N ∧ y < N ∧ w.cell? ⟨b, o + k * 5 + 1, none⟩ = some (.string key) ∧
    w.cell? ⟨b, o + y * 5, none⟩ = some (.int .i64 kd) ∧ w.cell? ⟨b, o + y * 5 + 1, none⟩ = some (.string tx) ∧ w.cell? ⟨b, o + y * 5 + 2, none⟩ = some (.bool od) ∧ w.cell? ⟨b, o + y * 5 + 3, none⟩ = some kv ∧ w.cell? ⟨b, o + y * 5 + 4, none⟩ = some iv
  keep : Bg < w.heap.size ∧ Bn < w.heap.size
theorem wpOpIn_of {F : Fence} {n : Nat} {P : Program} {ops : Array Oper} {Q : Exit → Act → World → Prop} {i : Nat} {o : Oper} {K : Act → World → Prop} {a : Act} {w : World} (hi : ops[i]? = some o) (hg : o.guard = none) (h : o.wpIn F n P a w K Q) : wpOpIn F n P ops Q i K a w := by
  unfold wpOpIn
  simp only [hi]
  rw [if_pos (by unfold Region.wanted; rw [hg])]
  exact h
def noDefer (l : List Oper) : Bool := l.all fun o => match o.op with
  | .defer _ => false
  | _ => true
theorem noDefer_of {l : List Oper} (h : noDefer l = true) : ∀ (j : Nat) (o : Oper) c, l.toArray[j]? = some o → o.op ≠ .defer c := by
  intro j o c hj e
  have h1 := List.all_eq_true.1 h o (List.mem_of_getElem? (by simpa using hj))
  rw [e] at h1
  cases h1
theorem drewN_two {w w' w'' : World} (h : ∃ j, w' = w.drewN j) (k : ∃ j, w'' = w'.drewN j) : ∃ j, w'' = w.drewN j := by
  obtain ⟨j, rfl⟩ := h
  obtain ⟨i, rfl⟩ := k
  exact ⟨j + i, by simp [World.drewN, Nat.add_assoc]⟩
def entV (key : ByteArray) (kd : Int) (tx : ByteArray) (od : Bool) (kv iv : Value) : Unit → Array Value := fun _ => #[.string key, .agg #[.int .i64 kd, .string tx, .bool od, kv, iv]]
set_option maxHeartbeats 4000000 in
set_option maxRecDepth 100000 in
theorem entries1 (w : World) (n Bg Bn : Nat) (key : ByteArray) (kd : Int) (tx : ByteArray) (od : Bool) (kv iv : Value) (Kp : World → World → Prop) (h : RowAt w Bg Bn key kd tx od kv iv) :
    SeqStopsK (wideR none) n Tryz.prog 41 #[.pointer (some ⟨Bg, 0, none⟩), .pointer (some ⟨Bn, 0, none⟩)] (entV key kd tx od kv iv) Kp (fun xs => xs = [()]) (fun pre => pre = [()]) 1 w := by
  intro l J Jx W hW hJ hJx hY h0
  obtain ⟨b, o, N, vc, root, rk, rt, ro, lb, lo, kc, ib, io, ic, k, y, hg, hn, hk, hy, hkN, hyN, t1, v0, v1, v2, v3, v4⟩ := h.ex
  have hg := (hW.block _ h.keep.1).trans hg
  have hn := (hW.block _ h.keep.2).trans hn
  have HC : PLift (∀ W', Below W.heap.size W W' → W'.cell? ⟨lb, lo, none⟩ = some (.int .i64 k) ∧ W'.cell? ⟨ib, io, none⟩ = some (.int .i64 y) ∧ W'.cell? ⟨b, o + k * 5 + 1, none⟩ = some (.string key) ∧
    W'.cell? ⟨b, o + y * 5, none⟩ = some (.int .i64 kd) ∧ W'.cell? ⟨b, o + y * 5 + 1, none⟩ = some (.string tx) ∧ W'.cell? ⟨b, o + y * 5 + 2, none⟩ = some (.bool od) ∧ W'.cell? ⟨b, o + y * 5 + 3, none⟩ = some kv ∧ W'.cell? ⟨b, o + y * 5 + 4, none⟩ = some iv ∧
    W'.cell? ⟨Bg, 0, none⟩ = some (.slice (some ⟨b, o, none⟩) N vc) ∧ W'.cell? ⟨Bn, 3, none⟩ = some (.slice (some ⟨lb, lo, none⟩) 1 kc) ∧ W'.cell? ⟨Bn, 4, none⟩ = some (.slice (some ⟨ib, io, none⟩) 1 ic)) := ⟨fun W' hb => by
      have hb2 := hW.trans (hb.mono hW.size)
      exact ⟨cell_keep hb2 hk, cell_keep hb2 hy, cell_keep hb2 t1, cell_keep hb2 v0, cell_keep hb2 v1, cell_keep hb2 v2, cell_keep hb2 v3, cell_keep hb2 v4, cell_keep hb ((Lib.cell_of_heap hg 0).trans rfl), cell_keep hb ((Lib.cell_of_heap hn 3).trans rfl), cell_keep hb ((Lib.cell_of_heap hn 4).trans rfl)⟩⟩
  have c0 : W.cell? ⟨Bg, 0, none⟩ = some (.slice (some ⟨b, o, none⟩) N vc) := (Lib.cell_of_heap hg 0).trans rfl
  have c1 : W.cell? ⟨Bg, 1, none⟩ = some (.int .i64 root) := (Lib.cell_of_heap hg 1).trans rfl
  have d0 : W.cell? ⟨Bn, 0, none⟩ = some (.int .i64 rk) := (Lib.cell_of_heap hn 0).trans rfl
  have d1 : W.cell? ⟨Bn, 1, none⟩ = some (.string rt) := (Lib.cell_of_heap hn 1).trans rfl
  have d2 : W.cell? ⟨Bn, 2, none⟩ = some (.bool ro) := (Lib.cell_of_heap hn 2).trans rfl
  have d3 : W.cell? ⟨Bn, 3, none⟩ = some (.slice (some ⟨lb, lo, none⟩) 1 kc) := (Lib.cell_of_heap hn 3).trans rfl
  have d4 : W.cell? ⟨Bn, 4, none⟩ = some (.slice (some ⟨ib, io, none⟩) 1 ic) := (Lib.cell_of_heap hn 4).trans rfl
  have HS := PLift.up (fun (W : World) => tsorted_one W (some ⟨b, o, none⟩) N vc root rk rt ro (some ⟨lb, lo, none⟩) kc (some ⟨ib, io, none⟩) 1 ic)
  have HY := PLift.up hY
  have H0 := PLift.up h0
  have HJ := PLift.up (And.intro hJ hJx)
  have hkN2 : (k : Int) < (N : Int) := by omega
  have hyN2 : (y : Int) < (N : Int) := by omega
  clear hY h0 hJ hJx hg hn hk hy t1 v0 v1 v2 v3 v4 h hkN hyN hW
  refine callsIn_of_wp Tryz.func41 rfl trivial ?_ rfl
  simp only [Tryz.ntmps41, List.size_toArray, List.length_cons, List.length_nil, Nat.reduceAdd, Nat.reduceSub, Array.replicate_succ, Array.replicate_zero, List.push_toArray, List.append_toArray, List.nil_append, List.cons_append]
  gi_wp2_with (gi_at_call 42; refine (calls_at (HS.down _) none _).mono ?_; rintro e w2 ⟨g, c, rfl, hb2, h02⟩; have HB2 := PLift.up hb2; have H02 := PLift.up h02; clear hb2 h02)
  have h02 := H02.down
  refine wpIn_loop_rounds 2 ?_
  rw [roundsIn_succ]
  gi_wp2
  refine MixIn.wpIn_region_tail (aF := ?_) 20 2 (fun W' => ∃ j, W' = w2.drewN j) (fun W' => ∃ j, W' = w2.drewN j) (fun w' w'' => ∃ j, w'' = w'.drewN j) (by kernel_rfl) (noDefer_of (by kernel_rfl)) rfl (by kernel_rfl) (by kernel_rfl) (by kernel_rfl) (by kernel_rfl) (by kernel_rfl) (fun w' => ⟨0, rfl⟩) (fun _ _ h k => drewN_two h k) (fun _ h => h) ⟨1, rfl⟩ ?_ ?_
  rotate_left 1
  · rintro ρ ⟨j, rfl⟩
    obtain ⟨q1, q2, q3, q4, q5, q6, q7, q8, q9, q10, q11⟩ := HC.down w2 HB2.down
    simp only [List.take_succ_cons, List.take_zero]
    repeat (go_big_quiet_step (fail))
    apply wpQuiet_nil
    exact rfl
  · rintro W' ⟨j, rfl⟩
    have hJ0 : J [] (w2.drewN j) := HJ.down.1 [] W _ none H0.down (grown_of_below ⟨HB2.down.os, HB2.down.tape, HB2.down.output, HB2.down.size, HB2.down.block⟩) (fun r e => by cases e)
    obtain ⟨fn, tmps, assign, body, hyy, hR⟩ := HY.down [] () (w2.drewN j) hJ0 (by decide)
    simp only [entV] at hyy
    refine MixIn.wpAnyIn_one (i := 20) (by kernel_rfl) ?_
    refine wpOpIn_of rfl rfl ?_
    unfold Oper.wpIn
    refine ⟨fun _ _ => trivial, ?_⟩
    go_simp
    refine hR.mono ?_
    clear hR hyy hJ0
    rintro e W3 (⟨rfl, hJ3, -⟩ | ⟨rfl, hJx3⟩)
    · have HJ3 := PLift.up hJ3
      clear hJ3
      refine MixIn.wpAnyIn_one (i := 21) (by kernel_rfl) ?_
      refine wpOpIn_of rfl rfl ?_
      unfold Oper.wpIn
      refine ⟨fun _ _ => trivial, ?_⟩
      go_simp
      refine MixIn.wpAnyIn_last (by kernel_rfl) ?_
      gi_wp2
      rw [roundsIn_succ]
      gi_wp2
      go_end0
      exact ⟨⟨_, rfl⟩, .inl ⟨_, rfl, HJ3.down⟩⟩
    · have HJ3 := PLift.up hJx3
      clear hJx3
      refine MixIn.wpAnyIn_one (i := 21) (by kernel_rfl) ?_
      refine wpOpIn_of rfl rfl ?_
      unfold Oper.wpIn
      refine ⟨fun _ _ => trivial, ?_⟩
      go_simp
      refine MixIn.wpAnyIn_last (by kernel_rfl) ?_
      gi_wp2
      refine bodyPost_ret (results_none rfl _ _ _) rfl ?_
      exact ⟨⟨_, rfl⟩, .inr ⟨_, rfl, HJ3.down⟩⟩
end Go.Proofs.YtneohoclgnfdcaaGreatDoor
/- tableout.entries and tableout.columns of a row with one entry. -/
namespace Go.Proofs.YtneohoclgnfdcaaGreatDoor
open Go.RowKit Go.Shelf Go.Ev
open Go.Lib hiding intOf
attribute [local go_sem] Oper.semAt_some Oper.semAt_none wideR_round wideR_depth wideR_fn
theorem info_str0 : (Tryz.prog.info? 9).map (fun i => (i.zero, i.size, i.bytes)) = some (some (.string ⟨#[]⟩), 1, 16) := by kernel_rfl
/-- a graph and one of its nodes, a map with one entry: the key's text, the value's cells -/
def RowC (w : World) (gv nv : Value) (key : ByteArray) (kd : Int) (tx : ByteArray) (od : Bool) (kv iv : Value) : Prop :=
  ∃ (b o N vc : Nat) (root : Int) (rt : ByteArray) (lb lo kc ib io ic k y : Nat), gv = .agg #[.slice (some ⟨b, o, none⟩) N vc, .int .i64 root] ∧
    nv = .agg #[.int .i64 10, .string rt, .bool false, .slice (some ⟨lb, lo, none⟩) 1 kc, .slice (some ⟨ib, io, none⟩) 1 ic] ∧ w.cell? ⟨b, o + k * 5, none⟩ = some (.int .i64 5) ∧
    w.cell? ⟨lb, lo, none⟩ = some (.int .i64 k) ∧ w.cell? ⟨ib, io, none⟩ = some (.int .i64 y) ∧ k < N ∧ y < N ∧ w.cell? ⟨b, o + k * 5 + 1, none⟩ = some (.string key) ∧
    w.cell? ⟨b, o + y * 5, none⟩ = some (.int .i64 kd) ∧ w.cell? ⟨b, o + y * 5 + 1, none⟩ = some (.string tx) ∧ w.cell? ⟨b, o + y * 5 + 2, none⟩ = some (.bool od) ∧ w.cell? ⟨b, o + y * 5 + 3, none⟩ = some kv ∧ w.cell? ⟨b, o + y * 5 + 4, none⟩ = some iv
theorem RowC.below {w w' : World} {gv nv : Value} {key : ByteArray} {kd : Int} {tx : ByteArray} {od : Bool} {kv iv : Value} (h : RowC w gv nv key kd tx od kv iv) (hb : Below w.heap.size w w') : RowC w' gv nv key kd tx od kv iv := by
  obtain ⟨b, o, N, vc, root, rt, lb, lo, kc, ib, io, ic, k, y, h1, h2, h5, hk, hy, hkN, hyN, t1, v0, v1, v2, v3, v4⟩ := h
  exact ⟨b, o, N, vc, root, rt, lb, lo, kc, ib, io, ic, k, y, h1, h2, cell_keep hb h5, cell_keep hb hk, cell_keep hb hy, hkN, hyN, cell_keep hb t1, cell_keep hb v0, cell_keep hb v1, cell_keep hb v2, cell_keep hb v3, cell_keep hb v4⟩
theorem RowC.at {w : World} {gv nv : Value} {key : ByteArray} {kd : Int} {tx : ByteArray} {od : Bool} {kv iv : Value} (h : RowC w gv nv key kd tx od kv iv) {Bg Bn : Nat} (hg : w.heap[Bg]? = some (.cells gv.cells 36)) (hn : w.heap[Bn]? = some (.cells nv.cells 33)) : RowAt w Bg Bn key kd tx od kv iv := by
  obtain ⟨b, o, N, vc, root, rt, lb, lo, kc, ib, io, ic, k, y, rfl, rfl, -, h⟩ := h
  exact ⟨⟨b, o, N, vc, root, 10, rt, false, lb, lo, kc, ib, io, ic, k, y, hg, hn, h⟩, block_lt hg, block_lt hn⟩
set_option maxHeartbeats 4000000 in
set_option maxRecDepth 100000 in
theorem entries_one (w : World) (ga : Option Addr) (gn gc : Nat) (root rk : Int) (rt : ByteArray) (ro : Bool) (ka : Option Addr) (kn kc : Nat) (ia : Option Addr) (im ic : Nat) :
    Calls Tryz.prog 21 #[.agg #[.slice ga gn gc, .int .i64 root], .agg #[.int .i64 rk, .string rt, .bool ro, .slice ka kn kc, .slice ia im ic]] w fun e w' =>
      e = .returned (.func (.func 41) #[] #[.pointer (some ⟨w.heap.size, 0, none⟩), .pointer (some ⟨w.heap.size + 1, 0, none⟩)]) ∧ w' = (w.alloc (.cells #[.slice ga gn gc, .int .i64 root] 36)).alloc (.cells #[.int .i64 rk, .string rt, .bool ro, .slice ka kn kc, .slice ia im ic] 33) := by
  go_enter Tryz.func21, Tryz.ntmps21
  go_wp2
  go_ret
  exact ⟨rfl, rfl⟩
set_option maxHeartbeats 4000000 in
set_option maxRecDepth 100000 in
theorem columns_one (w : World) (gv nv : Value) (key : ByteArray) (kd : Int) (tx : ByteArray) (od : Bool) (kv iv : Value) (h : RowC w gv nv key kd tx od kv iv) :
    Calls Tryz.prog 15 #[gv, nv] w fun e w' => ∃ v, e = .returned v ∧ w'.ownsRow w.heap.size 9 1 v 1 [.string key] ∧ Below w.heap.size w w' := by
  have HR := PLift.up h
  obtain ⟨b, o, N, vc, root, rt, lb, lo, kc, ib, io, ic, k, y, rfl, rfl, -⟩ := h
  obtain ⟨i0, hi, hz0, hz1, hz2⟩ := info_parts info_str0
  refine (callsIn_wide (n := 1)).1 ?_
  change CallsIn (wideR none) 1 _ _ _ _ _
  refine callsIn_of_wp_marks Tryz.func15 rfl trivial ?_ rfl
  simp only [Tryz.ntmps15, List.size_toArray, List.length_cons, List.length_nil, Nat.reduceAdd, Nat.reduceSub, Array.replicate_succ, Array.replicate_zero, List.push_toArray, List.append_toArray, List.nil_append, List.cons_append]
  gi_wp2_with (gi_at_call 21; refine (calls_at (entries_one _ _ _ _ _ _ _ _ _ _ _ _ _ _) none _).mono ?_; rintro e w' ⟨rfl, rfl⟩)
  have HA := allocs_at [.cells #[.slice (some ⟨b, o, none⟩) N vc, .int .i64 root] 36, .cells #[.int .i64 10, .string rt, .bool false, .slice (some ⟨lb, lo, none⟩) 1 kc, .slice (some ⟨ib, io, none⟩) 1 ic] 33, .cells #[.slice none 0 0] 53,
    .cells #[.slice (some ⟨b, o, none⟩) N vc, .int .i64 root] 36, .cells #[.int .i64 10, .string rt, .bool false, .slice (some ⟨lb, lo, none⟩) 1 kc, .slice (some ⟨ib, io, none⟩) 1 ic] 33] w
  unfold allocs allocs allocs allocs allocs allocs at HA
  generalize World.alloc _ _ = W0 at HA ⊢
  obtain ⟨hb0, hs0, hat⟩ := HA
  simp only [List.length_cons, List.length_nil] at hs0
  have hbx : Boxed W0 (w.heap.size + 2) 53 (.slice none 0 0) := hat 2 _ rfl
  have HE := entries1 W0 0 (w.heap.size + 3) (w.heap.size + 4) key kd tx od kv iv (fun _ _ => True) ((HR.down.below hb0).at (hat 3 _ rfl) (hat 4 _ rfl))
  refine wpIn_rangeFunc_ownG rfl (Nat.le_refl 1) (gf := 41) (lb := #[.pointer (some ⟨w.heap.size + 3, 0, none⟩), .pointer (some ⟨w.heap.size + 4, 0, none⟩)]) rfl trivial (enters_of Tryz.func41 (by kernel_rfl) rfl)
    HE (fun _ _ => trivial) (fun _ _ _ _ _ _ _ _ => trivial) (Below.refl _ _) (fun _ => rfl)
    (fun pre W => (∃ v, Boxed W (w.heap.size + 2) 53 v ∧ W.ownsRow w.heap.size 9 1 v pre.length (pre.map fun (_ : Unit) => Value.string key) ∧ True) ∧ Below w.heap.size w W)
    (fun _ _ _ => False)
    (OwnFrom.and (Own.from (holdsRow_own w.heap.size (w.heap.size + 2) 53 9 1 (fun (pre : List Unit) => pre.length) (fun pre => pre.map fun (_ : Unit) => Value.string key) (fun _ _ => True)) _) (ownFrom_below (Nat.le_refl _) (by omega)))
    (fun _ _ _ _ _ hs _ _ => hs)
    ⟨⟨_, hbx, World.ownsRow_nil _ _ _ _, trivial⟩, hb0⟩
    (fun _ => { tmps := #[.agg #[.slice (some ⟨b, o, none⟩) N vc, .int .i64 root], .agg #[.int .i64 10, .string rt, .bool false, .slice (some ⟨lb, lo, none⟩) 1 kc, .slice (some ⟨ib, io, none⟩) 1 ic], .pointer (some ⟨w.heap.size, 0, none⟩), .pointer (some ⟨w.heap.size + 1, 0, none⟩), .slice none 0 0, .pointer (some ⟨w.heap.size + 1 + 1, 0, none⟩), .string key,
      .agg #[.slice (some ⟨b, o, none⟩) N vc, .int .i64 root], .agg #[.int .i64 10, .string rt, .bool false, .slice (some ⟨lb, lo, none⟩) 1 kc, .slice (some ⟨ib, io, none⟩) 1 ic],
      .func (.func 41) #[] #[.pointer (some ⟨w.heap.size + 1 + 1 + 1, 0, none⟩), .pointer (some ⟨w.heap.size + 1 + 1 + 1 + 1, 0, none⟩)], .string key, .agg #[.int .i64 kd, .string tx, .bool od, kv, iv], undef, undef, undef, undef, undef], defers := [] }) ?assign ?body ?done ?stop
  case assign =>
    intro l x W K hK
    simp only [entV]
    gi_wp2
    exact hK
  case body =>
    rintro l pre x W ⟨⟨v, hv, hrow, -⟩, hB⟩ hlt
    obtain rfl : pre = [] := List.length_eq_zero_iff.1 (by omega)
    have hc := hv.cell
    gi_wp2_with (gi_at_builtin; refine wpListIn_append_own _ rfl _ _ 53 rfl w.heap.size 9 i0 (.string ⟨#[]⟩) 1 16 Tryz.underlying53 hi hz0 hz1 hz2 rfl (by decide) _ _ _ rfl (hrow.alloc _) ⟨W.heap.size, 0, none⟩ 1 1 [.string key] rfl rfl (cell_one_new _ _ _) (by simp [Value.oneCell']) (by decide) (by decide) (by have := hB.size; simp; omega) ?_; intro v' w1 hown' hgrow _; obtain ⟨g', cap', rfl⟩ := ownsRow_succ hown'; obtain ⟨hv1, hv2, hr2, hk2, hb2⟩ := hv.appended (by decide) hrow hB.size (by omega) hown' hgrow; have hc1 := hv1.cell; have hf1 := hv1.frozen)
    exact ⟨hk2.from _, trivial, ⟨_, hv2, by simpa using hr2⟩, hB.trans hb2⟩
  case done =>
    rintro D ys W hD rfl ⟨⟨v, hv, hrow, -⟩, hB⟩ hK
    have hc := hv.cell
    gi_wp2
    refine ⟨by simp, .inl ⟨_, _, rfl, run_takeDeferred hK, ?_⟩⟩
    exact ⟨_, results_tmp rfl _ _ _, v, rfl, ownsRow_putObj hrow _ hK rfl, hB.trans (belowK_b (w := w) (Nat.le_refl _) W D _ _ (by omega) hK rfl rfl)⟩
  case stop =>
    rintro D c pre W _ _ h _
    exact h.elim
end Go.Proofs.YtneohoclgnfdcaaGreatDoor
/- tableout.row of a row with one entry: the map of kinds, and slices.Equal of one text each. -/
namespace Go.Proofs.YtneohoclgnfdcaaGreatDoor
open Go.RowKit Go.Shelf Go.Ev
open Go.Lib hiding intOf
attribute [local go_sem] Oper.semAt_some Oper.semAt_none wideR_round wideR_depth wideR_fn
/-- a map of the kinds of columns -/
def KM (w : World) (b : Nat) (c : Int) (m : Nat) (key : ByteArray) : Prop :=
  ∃ D : DataW Unit, w.ownsMap Tryz.prog 9 (plainElem Tryz.prog 3) b m D ∧ Maps.IsMap D ∧ D.atKey (.string key.data.toList) (.lit (.int .i64 0)) = .lit (.int .i64 c)
theorem KM.lt {w : World} {b m : Nat} {c : Int} {key : ByteArray} (h : KM w b c m key) : b < w.heap.size := by
  obtain ⟨D, h1, -⟩ := h
  exact h1.lt
theorem KM.kept {w w' : World} {b m : Nat} {c : Int} {key : ByteArray} {row : Option Nat} (h : KM w b c m key) (hg : w.grownBy w' row) (hne : some b ≠ row) : KM w' b c m key := by
  obtain ⟨D, h1, h2⟩ := h
  exact ⟨D, h1.kept hg hne, h2⟩
theorem zero_int (w : World) : (zeroValue 3).run Tryz.prog w = .ok (.int .i64 0) w := by
  have h := Tryz.zeroValue3
  first | exact h w | exact h _ | exact Tryz.zeroValue3
theorem KM.look {w : World} {b m : Nat} {c : Int} {key : ByteArray} (h : KM w b c m key) (hk : key.size ≤ maxLen) : (Instr.lookup 55 (.map (some b)) (.string key) false).run Tryz.prog w = .ok (.int .i64 c) w := by
  obtain ⟨D, h1, -, h2⟩ := h
  obtain ⟨c', hr, hat, -⟩ := h1.lookup_int (t := 55) (Maps.string_keyed Tryz.underlying9) Tryz.underlying55 Tryz.underlying3 (zero_int w) (WideMaps.keyOf_string_mk Tryz.underlying9 hk)
  rw [h2] at hat
  cases hat
  exact hr
theorem KM.update {w : World} {b m : Nat} {c : Int} {key : ByteArray} (h : KM w b c m key) (hk : key.size ≤ maxLen) (hm : m < maxLen) (c' : Int) (hc : (Lit.int .i64 c').wf = true) : ∃ w', (Instr.mapUpdate 55 (.map (some b)) (.string key) (.int .i64 c')).run Tryz.prog w = .ok () w' ∧ KM w' b c' (m + 1) key ∧ w.grownBy w' (some b) := by
  obtain ⟨D, h1, h2, h3⟩ := h
  obtain ⟨w', q1, q2, q3⟩ := h1.update (t := 55) (Maps.string_keyed Tryz.underlying9) Tryz.underlying55 hm (WideMaps.keyOf_string_mk Tryz.underlying9 hk) (plainElem_int Tryz.underlying3 hc)
  exact ⟨w', q1, ⟨_, q2, h2.put _ _, Maps.atKey_put_same h2 (show WideAt.IsKeyLit (.string _) from trivial) _ _⟩, q3⟩
theorem KM.made (w : World) (key : ByteArray) : KM (w.alloc (.map #[] 0)) w.heap.size 0 0 key := ⟨_, World.ownsMap_made w _ _ _, Maps.isMap_empty, rfl⟩
set_option maxHeartbeats 4000000 in
set_option maxRecDepth 100000 in
theorem equal_one (w : World) (a1 a2 : Nat) (c1 c2 : Nat) (key : ByteArray) (h1 : w.cell? ⟨a1, 0, none⟩ = some (.string key)) (h2 : w.cell? ⟨a2, 0, none⟩ = some (.string key)) :
    Calls Tryz.prog 36 #[.slice (some ⟨a1, 0, none⟩) 1 c1, .slice (some ⟨a2, 0, none⟩) 1 c2] w fun e w' => e = .returned (.bool true) ∧ ∃ j, w' = w.drewN j := by
  go_enter Tryz.func36, Tryz.ntmps36
  go_wp2
  refine wp_loop_rounds 2 ?_
  rw [rounds_succ]
  go_wp2
  go_quiet (fail)
  go_wp2
  rw [rounds_succ]
  go_wp2
  go_ret
  exact ⟨rfl, _, rfl⟩
end Go.Proofs.YtneohoclgnfdcaaGreatDoor
/- The law of a range over a function whose loop variable lies in a box of its own. -/
namespace Go.Proofs.YtneohoclgnfdcaaGreatDoor
open Go.RowKit Go.Shelf Go.Ev
open Go.Lib hiding intOf
theorem rangeFunc_boxed {α : Type} {P : Program} {n : Nat} {g : Operand} {ps : Array Tmp} {assign body : Code} {Q : Exit → Act → World → Prop} {a : Act} {w : World}
    (h1 : 1 ≤ n) {gf : Nat} {lb : Array Value} (hg : a.eval g = .func (.func gf) #[] lb) (eg : ∀ args w, (callFunc gf args).run P w = .ok (.enter gf args) w)
    {encs : α → Array Value} {S Sp : List α → Prop} {N : Nat} (hseq : SeqStopsK (wideR none) (n - 1) P gf lb encs (fun _ _ => True) S Sp N w) (hps : ∀ x, (encs x).size = ps.size)
    (I : List α → World → Prop) (hI : OwnFrom w.heap.size I) (hIs : ∀ pre W, I pre W → w.heap.size ≤ W.heap.size) (h0 : I [] w) (cs : α → Array Value) (t : TypeId) (f : Array Value → α → Nat → Array Value)
    (hassign : ∀ (l : Nat) (x : α) (W : World) (K : Act → World → Prop), K { tmps := f a.tmps x W.heap.size, defers := [] } (W.alloc (.cells (cs x) t)) →
      assign.wpIn ((wideR none).inRound l) (n - 1 - 1) P (Exit.then K (fun _ _ _ => False)) { tmps := (ps.zip (encs x)).foldl (fun t (p, v) => t.setIfInBounds p v) a.tmps, defers := [] } W)
    (hbody : ∀ (l : Nat) (pre : List α) (x : α) (Bx : Nat) (W : World), w.heap.size ≤ l → (∃ r, W.heap[l]? = some (.loop r)) → I pre W → w.heap.size ≤ Bx → W.heap[Bx]? = some (.cells (cs x) t) → pre.length < N →
      body.wpIn ((wideR none).inRound l) (n - 1 - 1) P (ownPostG w.heap.size (fun _ _ => True) I (fun _ _ _ => False) (pre ++ [x]) W) { tmps := f a.tmps x Bx, defers := [] } W)
    (hdone : ∀ (D : Nat) (xs : List α) (W : World), w.heap.size ≤ D → S xs → I xs W → W.heap[D]? = some (.deferred (some [])) → Q .normal { a with defers := { target := .collected D, args := #[] } :: a.defers } W) :
    (Code.rangeFunc g ps assign body).wpIn (wideR none) n P Q a w := by
  refine wpIn_rangeFunc_ownH rfl h1 hg trivial eg hseq (fun _ _ => trivial) (fun _ _ _ _ _ _ _ _ => trivial) (Below.refl _ _) hps I (fun _ _ _ => False) hI (fun _ _ _ _ _ hs _ _ => hs) h0
    (fun x a' W => ∃ Bx, w.heap.size ≤ Bx ∧ W.heap[Bx]? = some (.cells (cs x) t) ∧ w.heap.size ≤ W.heap.size ∧ a' = { tmps := f a.tmps x Bx, defers := [] }) ?_ ?_ ?_ hdone (fun _ _ _ _ _ _ h _ => h.elim)
  · intro x a' _ W W' row hs hg hr
    obtain ⟨Bx, q1, q2, q3, q4⟩ := hs
    refine ⟨Bx, q1, ?_, Nat.le_trans q3 hg.size, q4⟩
    rw [hg.block Bx (block_lt q2) (fun e => ?_)]
    · exact q2
    · obtain ⟨-, o, ho, hc⟩ := hr Bx e.symm
      rw [q2] at ho
      cases ho
      cases hc
  · intro l pre x W K hi hK
    have hs := hIs _ _ hi
    exact hassign l x W K (hK _ _ ((KeepsOthers.alloc W _).from _) trivial (hI.alloc _ hi) ⟨W.heap.size, hs, heap_alloc_new W _, by rw [size_new]; omega, rfl⟩)
  · rintro l pre x a' W hl hloop hi ⟨Bx, q1, q2, -, rfl⟩ hlt
    exact hbody l pre x Bx W hl hloop hi q1 q2 hlt
end Go.Proofs.YtneohoclgnfdcaaGreatDoor
/- Marks of ranges over functions that a loop leaves behind: they are taken one by one at the end. -/
namespace Go.Proofs.YtneohoclgnfdcaaGreatDoor
open Go.RowKit Go.Shelf Go.Ev
open Go.Lib hiding intOf
/-- marks, the newest first, from lo on and below hi -/
def Marks (lo : Nat) : Nat → List Deferred → World → Prop
  | _, [], _ => True
  | hi, d :: ds, W => ∃ D, d = { target := .collected D, args := #[] } ∧ lo ≤ D ∧ D < hi ∧ W.heap[D]? = some (.deferred (some [])) ∧ Marks lo D ds W
theorem Marks.mono {lo : Nat} {hi hi' : Nat} {ds : List Deferred} {W : World} (h : Marks lo hi ds W) (hh : hi ≤ hi') : Marks lo hi' ds W := by
  cases ds with
  | nil => trivial
  | cons d ds =>
    obtain ⟨D, h1, h2, h3, h4⟩ := h
    exact ⟨D, h1, h2, Nat.lt_of_lt_of_le h3 hh, h4⟩
theorem Marks.keep {lo : Nat} : ∀ {hi : Nat} {ds : List Deferred} {W W' : World}, Marks lo hi ds W → (∀ k, lo ≤ k → k < hi → W.heap[k]? = some (.deferred (some [])) → W'.heap[k]? = some (.deferred (some []))) → Marks lo hi ds W'
  | _, [], _, _, _, _ => trivial
  | _, _ :: _, _, _, ⟨D, h1, h2, h3, h4, h5⟩, hk => ⟨D, h1, h2, h3, hk D h2 h3 h4, h5.keep fun k q1 q2 q3 => hk k q1 (Nat.lt_trans q2 h3) q3⟩
theorem put_below {lo : Nat} (W : World) (D : Nat) (o : Obj) (h : lo ≤ D) : Below lo W (W.putObj D o) := by
  have hg := grownBy_putObj' W D o
  exact ⟨hg.os, hg.tape, hg.output, hg.size, fun k hk => by
    by_cases hs : k < W.heap.size
    · exact hg.block k hs (fun e => by have := Option.some.inj e; omega)
    · rw [Array.getElem?_eq_none (by simp [World.putObj]; omega), Array.getElem?_eq_none (by omega)]⟩
theorem leaves_marks {F : Fence} {n : Nat} {P : Program} {fn : Func} {tmps : Array Value} {R : Ending → World → Prop} {lo : Nat} : ∀ (ds : List Deferred) (hi : Nat) (W : World), Marks lo hi ds W → (∀ W', Below lo W W' → LeavesIn F n P fn tmps R [] .returning W') → LeavesInM F n P fn tmps R ds .returning W
  | [], _, W, _, h => h W (Below.refl _ _)
  | _ :: ds, _, W, ⟨D, h1, h2, h3, h4, h5⟩, h => by
    subst h1
    refine ⟨by simp, .inl ⟨D, _, rfl, run_takeDeferred h4, leaves_marks ds D _ (h5.keep fun k q1 q2 q3 => ?_) fun W' hb => h W' ((put_below W D _ h2).trans hb)⟩⟩
    have hg := grownBy_putObj' W D (.deferred none)
    rw [hg.block k (block_lt q3) (fun e => by have := Option.some.inj e; omega)]
    exact q3
theorem wpIn_loop_at {F : Fence} {n : Nat} {P : Program} {Q : Exit → Act → World → Prop} {c : Code} {A : Array Value} {ds : List Deferred} {W : World} (I : Array Value → Act → World → Prop) (μ : Act → World → Nat) (h0 : I A { tmps := A, defers := ds } W)
    (round : ∀ a w, I A a w → c.wpIn F n P (Exit.then (fun a' w' => I A a' w' ∧ μ a' w' < μ a w) Q) a w) : (Code.loop c).wpIn F n P Q { tmps := A, defers := ds } W :=
  wpIn_loop (I A) μ h0 round
end Go.Proofs.YtneohoclgnfdcaaGreatDoor
/- armor.Hex: two digits for each byte. -/
namespace Go.Proofs.YtneohoclgnfdcaaGreatDoor
open Go.RowKit
open Go.Lib hiding intOf
def hexd (d : UInt8) : UInt8 := if d < 10 then 48 + d else 87 + d
theorem all_bytes {p : UInt8 → Prop} (h : ∀ n : Fin 256, p (UInt8.ofNat n.1)) (c : UInt8) : p c := by
  have := h ⟨c.toNat, c.toNat_lt⟩
  simpa using this
def hexs : Value := .string ⟨#[48, 49, 50, 51, 52, 53, 54, 55, 56, 57, 97, 98, 99, 100, 101, 102]⟩
theorem hex_fin (d : Nat) (hd : d < 16) (w : World) : (Instr.index 9 (.string ⟨#[48, 49, 50, 51, 52, 53, 54, 55, 56, 57, 97, 98, 99, 100, 101, 102]⟩) (.int .u8 (d : Int))).run Tryz.prog w = .ok (.int .u8 ((hexd (UInt8.ofNat d)).toNat : Int)) w := by
  have h : d = 0 ∨ d = 1 ∨ d = 2 ∨ d = 3 ∨ d = 4 ∨ d = 5 ∨ d = 6 ∨ d = 7 ∨ d = 8 ∨ d = 9 ∨ d = 10 ∨ d = 11 ∨ d = 12 ∨ d = 13 ∨ d = 14 ∨ d = 15 := by omega
  rcases h with rfl | rfl | rfl | rfl | rfl | rfl | rfl | rfl | rfl | rfl | rfl | rfl | rfl | rfl | rfl | rfl <;> (rw [run_index_string w _ _ _ _ Tryz.underlying9]; rfl)
theorem hex_hi (c : UInt8) (w : World) : (Instr.index 9 (.string ⟨#[48, 49, 50, 51, 52, 53, 54, 55, 56, 57, 97, 98, 99, 100, 101, 102]⟩) (.int .u8 ((c.toNat : Int) / 16))).run Tryz.prog w = .ok (.int .u8 ((hexd (c / 16)).toNat : Int)) w := by
  have h := hex_fin (c.toNat / 16) (by have := c.toNat_lt; omega) w
  have e : UInt8.ofNat (c.toNat / 16) = c / 16 := all_bytes (p := fun c => UInt8.ofNat (c.toNat / 16) = c / 16) (by decide +kernel) c
  rw [e] at h
  exact h
theorem hex_lo (c : UInt8) (w : World) : (Instr.index 9 (.string ⟨#[48, 49, 50, 51, 52, 53, 54, 55, 56, 57, 97, 98, 99, 100, 101, 102]⟩) (.int .u8 (bits .and .u8 (c.toNat : Int) 15))).run Tryz.prog w = .ok (.int .u8 ((hexd (c % 16)).toNat : Int)) w := by
  have h := hex_fin (c.toNat % 16) (Nat.mod_lt _ (by decide)) w
  have e : UInt8.ofNat (c.toNat % 16) = c % 16 := all_bytes (p := fun c => UInt8.ofNat (c.toNat % 16) = c % 16) (by decide +kernel) c
  have e2 : bits .and .u8 (c.toNat : Int) 15 = ((c.toNat % 16 : Nat) : Int) := all_bytes (p := fun c => bits .and .u8 (c.toNat : Int) 15 = ((c.toNat % 16 : Nat) : Int)) (by decide +kernel) c
  rw [e] at h
  rw [e2]
  exact h
theorem reg_bytes {Q : Exit → Act → World → Prop} {id : Nat} {a : Act} {w : World} {l : List Oper} (n : Nat) (ob oa os : Oper) {aF : Act} (ns : List UInt8) {B : Nat} {v : Value} {acc : List UInt8}
    (hlen : l.length = n + 3) (hs : Region.noSelect l.toArray = true) (hB : Mix.lexTo .any l.toArray n 0 (Array.replicate l.length false) = some (List.replicate n true ++ List.replicate (l.length - n) false).toArray)
    (hd : Mix.dstsB a.tmps.size (l.take n) [] = true) (h1 : l[n]? = some ob) (h2 : l[n + 1]? = some oa) (h3 : l[n + 2]? = some os) (g1 : ob.guard = none) (g2 : oa.guard = none) (g3 : os.guard = none)
    (hr0 : Region.ready .any l.toArray (List.replicate n true ++ List.replicate 3 false).toArray = [n])
    (hr1 : Region.ready .any l.toArray ((List.replicate n true ++ List.replicate 3 false).toArray.setIfInBounds n true) = [n + 1])
    (hr2 : Region.ready .any l.toArray (((List.replicate n true ++ List.replicate 3 false).toArray.setIfInBounds n true).setIfInBounds (n + 1) true) = [n + 2])
    (hr3 : Region.ready .any l.toArray ((((List.replicate n true ++ List.replicate 3 false).toArray.setIfInBounds n true).setIfInBounds (n + 1) true).setIfInBounds (n + 2) true) = [])
    (s x : Operand) (ho : oa.op = .call { callee := .builtin .append, args := #[s, x], argTypes := #[37, 37] })
    (hown : OwnB B v acc w) (hlb : acc.length + ns.length ≤ 140737488355328) (hBw : B ≤ w.heap.size)
    (hA : ∀ ρ : World, wpQuiet Tryz.prog l.toArray (fun w' => ∃ n, w' = ρ.drewN n) (fun a' => a' = aF) (l.take n) a)
    (hb : ∀ W : World, (execOp aF.eval ob).run Tryz.prog W = .ok (.value (.slice (some ⟨W.heap.size, 0, none⟩) ns.length ns.length)) (W.alloc (.cells (Lib.byteCells ns).toArray 5)))
    (hsv : ∀ bv, (aF.put ob.dst bv).eval s = v) (hx : ∀ bv, (aF.put ob.dst bv).eval x = bv)
    (hos : ∀ bv v' W, (execOp ((aF.put ob.dst bv).put oa.dst v').eval os).run Tryz.prog W = .ok (.value v') W)
    (hK : ∀ v' W, OwnB B v' (acc ++ ns) W → Below B w W → Q .normal (((aF.put ob.dst (.slice (some ⟨w.heap.size, 0, none⟩) ns.length ns.length)).put oa.dst v').put os.dst v') W) : (Code.region id l.toArray true).wp Tryz.prog Q a w := by
  obtain ⟨i0, hi, hz0, hz1, hz2⟩ := info_parts info_u8
  refine Mix.wp_region_app n ob oa os (by kernel_rfl) hlen hs hB hd h1 h2 h3 g1 g2 g3 hr0 hr1 hr2 hr3 hA (Lib.byteCells ns).toArray 5 ns.length ns.length hb s x 37 ho B i0 (.int .u8 0) 1 1 Tryz.underlying37 hi hz0 hz1 hz2 rfl (by decide) v acc.length (Lib.byteCells acc) hown hsv hx (by simp [Lib.byteCells]) (by simpa using byteCells_one' ns) (by unfold maxLen; omega) (by omega) hBw hos ?_
  intro v' W h1 h2
  refine hK v' W ?_ h2
  unfold OwnB
  rw [Lib.byteCells_append, List.length_append]
  exact h1
def hexL (l : List UInt8) : List UInt8 := l.flatMap fun c => [hexd (c / 16), hexd (c % 16)]
theorem hexL_len (l : List UInt8) : (hexL l).length = 2 * l.length := by
  induction l with
  | nil => rfl
  | cons c l ih => rw [hexL, List.flatMap_cons, List.length_append]; unfold hexL at ih; rw [ih]; simp; omega
theorem hexL_take {l : List UInt8} {k : Nat} (h : k < l.length) : hexL (l.take (k + 1)) = hexL (l.take k) ++ [hexd (l[k] / 16), hexd (l[k] % 16)] := by
  rw [List.take_succ_eq_append_getElem h]
  unfold hexL
  rw [List.flatMap_append]
  simp
set_option maxHeartbeats 4000000 in
set_option maxRecDepth 100000 in
theorem hex_any (s : ByteArray) (w : World) (hs : s.size ≤ 1000000) :
    Calls Tryz.prog 44 #[.string s] w fun e w' => e = .returned (.string ⟨(hexL s.data.toList).toArray⟩) ∧ Below w.heap.size w w' := by
  have hmk : (Instr.makeSlice 37 (.int .i64 0) (.int .i64 (2 * (s.size : Int)))).run Tryz.prog w = .ok (.slice (some ⟨w.heap.size, 0, none⟩) 0 (2 * s.size)) (w.alloc (.cells (Array.replicate (2 * s.size) (.int .u8 0)) 5)) := by
    have h := run_make_room (P := Tryz.prog) 37 5 (.int .u8 0) 1 Tryz.underlying37 info_u8 rfl .i64 .i64 (2 * s.size) (by omega) (by omega) w
    rw [made_rep] at h
    simpa using h
  have H0 : PLift (OwnB w.heap.size (.slice (some ⟨w.heap.size, 0, none⟩) 0 (2 * s.size)) [] (w.alloc (.cells (Array.replicate (2 * s.size) (.int .u8 0)) 5))) :=
    ⟨⟨rfl, .inr ⟨w.heap.size, 2 * s.size, _, rfl, Nat.le_refl _, heap_alloc_new w _, Nat.zero_le _, by unfold maxLen; omega, by simp, by simp [Lib.byteCells]⟩⟩⟩
  go_enter Tryz.func44, Tryz.ntmps44
  go_wp2
  clear hmk
  go_loopw [3, 11] (fun v iv wr => ∃ k : Nat, iv = .int .i64 k ∧ k ≤ s.size ∧ OwnB w.heap.size v (hexL (s.data.toList.take k)) wr ∧ Below w.heap.size w wr) (fun _ iv _ => s.size - (intOf iv).toNat)
  case atStart => exact ⟨0, rfl, Nat.zero_le _, H0.down, (Below.refl _ w).alloc (Nat.le_refl _) _⟩
  case round =>
    obtain ⟨k, rfl, hk, hown, hbw⟩ := hrel
    have hl : s.data.toList.length = s.size := by simp
    have HOWN := PLift.up hown
    have HBW := PLift.up hbw
    obtain ⟨va, vc, rfl⟩ := hown.slice
    by_cases hp : k < s.size
    · have hp2 : (k : Int) < (s.size : Int) := by omega
      have HTK := PLift.up (hexL_take (l := s.data.toList) (k := k) (by omega))
      have hsk : (s.data.toList)[k]'(by omega) = s[k] := rfl
      have hlen : (hexL (s.data.toList.take k)).length ≤ 2000000 := by rw [hexL_len, List.length_take]; omega
      have hsz := hbw.size
      clear hown hbw
      go_wp2
      have i1 := hex_hi s[k]
      have i2 := hex_lo s[k]
      refine reg_bytes (aF := ?_) 11 _ _ _ [hexd (s[k] / 16), hexd (s[k] % 16)] rfl (by kernel_rfl) (by kernel_rfl) (by kernel_rfl) rfl rfl rfl rfl rfl rfl (by kernel_rfl) (by kernel_rfl) (by kernel_rfl) (by kernel_rfl) _ _ rfl HOWN.down (by simp; omega) hsz ?_ ?_ ?_ ?_ ?_ ?_
      rotate_left 1
      · intro ρ
        simp only [List.take_succ_cons, List.take_zero]
        repeat (go_big_quiet_step (fail))
        refine wpQuiet_nil ?_
        exact rfl
      · intro W
        go_simp
        rfl
      · intro bv; rfl
      · intro bv; rfl
      · intro bv v' W; rfl
      · clear i1 i2
        intro v' w2 hown2 hb2
        simp only [Act.put, List.setIfInBounds_toArray, List.set_cons_zero, List.set_cons_succ]
        go_wp2
        go_roundw
        case rel => exact ⟨k + 1, by go_num, by omega, by rw [HTK.down, hsk]; exact hown2, HBW.down.trans hb2⟩
        case measure => simp [intOf]; omega
    · obtain rfl : k = s.size := by omega
      have hcv := str_of hown
      have hall : hexL (s.data.toList.take s.size) = hexL s.data.toList := by rw [← hl, List.take_length]
      rw [hall] at hcv
      clear hown hbw
      go_wp2
      go_ret
      exact ⟨rfl, HBW.down⟩
end Go.Proofs.YtneohoclgnfdcaaGreatDoor
/- tableout.cell of bytes, limited, and strings.Join of one text. -/
namespace Go.Proofs.YtneohoclgnfdcaaGreatDoor
open Go.RowKit
open Go.Lib hiding intOf
set_option maxHeartbeats 4000000 in
set_option maxRecDepth 100000 in
theorem limited_any (s : ByteArray) (w : World) (hs : s.size ≤ 4000000) :
    Calls Tryz.prog 23 #[.string s] w fun e w' => e = .returned (if 65536 < s.size then .tuple #[.string ⟨#[]⟩, .int .i64 6] else .tuple #[.string s, .int .i64 0]) ∧ w' = w := by
  by_cases h : 65536 < s.size
  · rw [if_pos h]
    have h2 : (65536 : Int) < (s.size : Int) := by omega
    go_enter Tryz.func23, Tryz.ntmps23
    go_wp2
    go_ret2
    exact ⟨rfl, rfl⟩
  · rw [if_neg h]
    have h2 : ¬ (65536 : Int) < (s.size : Int) := by omega
    go_enter Tryz.func23, Tryz.ntmps23
    go_wp2
    go_ret2
    exact ⟨rfl, rfl⟩
set_option maxHeartbeats 4000000 in
set_option maxRecDepth 100000 in
theorem join_one (w : World) (g c : Nat) (t sep : ByteArray) (h : w.cell? ⟨g, 0, none⟩ = some (.string t)) :
    Calls Tryz.prog 19 #[.slice (some ⟨g, 0, none⟩) 1 c, .string sep] w fun e w' => e = .returned (.string t) ∧ w' = w := by
  go_enter Tryz.func19, Tryz.ntmps19
  go_wp2
  go_ret
  exact ⟨rfl, rfl⟩
/-- the cell of a byte string -/
def cellB (s : ByteArray) : ByteArray := if s.size = 0 then ⟨#[92, 101]⟩ else ⟨(hexL s.data.toList).toArray⟩
set_option maxHeartbeats 4000000 in
set_option maxRecDepth 100000 in
theorem cell_bytes (s : ByteArray) (w : World) (od : Bool) (ka : Option Addr) (kn kc : Nat) (ia : Option Addr) (im ic : Nat) (hs : s.size ≤ 1000000) :
    Calls Tryz.prog 22 #[.agg #[.int .i64 6, .string s, .bool od, .slice ka kn kc, .slice ia im ic]] w fun e w' => e = .returned (.string (cellB s)) ∧ Below w.heap.size w w' := by
  have HX := PLift.up (fun (W : World) => hex_any s W hs)
  by_cases h0 : s.size = 0
  · have e0 : s = ⟨#[]⟩ := by
      obtain ⟨a⟩ := s
      have : a.size = 0 := h0
      rw [Array.eq_empty_of_size_eq_zero this]
    have hc : cellB s = ⟨#[92, 101]⟩ := by unfold cellB; rw [if_pos h0]
    rw [hc]
    subst e0
    clear hc h0 HX
    go_enter Tryz.func22, Tryz.ntmps22
    go_wp2
    go_ret
    exact ⟨rfl, below_new w _⟩
  · have hc : cellB s = ⟨(hexL s.data.toList).toArray⟩ := by unfold cellB; rw [if_neg h0]
    rw [hc]
    have he : s.toList.isEmpty = false := by rw [str_eq_empty]; simp [h0]
    clear hc
    go_enter Tryz.func22, Tryz.ntmps22
    go_wp2_with (go_at_call 44; refine (HX.down _).mono ?_; rintro e w1 ⟨rfl, hb1⟩; have HB1 := PLift.up hb1; clear hb1)
    go_ret
    exact ⟨rfl, (below_new w _).trans (HB1.down.mono (below_new w _).size)⟩
end Go.Proofs.YtneohoclgnfdcaaGreatDoor
/- Closed calls by evaluation, part M: operations that leave memory alone, and operations that make one block. -/
namespace Go.Ev
def QSim (P : Program) {α α' : Type} (s : Sem α) (s' : Sem α') (ρ : Ren) (Q : α → α' → Prop) : Prop :=
  ∀ (σ : St) (w : World), Rel ρ σ w → ∀ x σ', runA P s σ = some (.ok x σ') → σ' = σ ∧ ∃ x', s'.run P w = .ok x' w ∧ Q x x'
section
variable {P : Program} {α α' β β' : Type} {ρ : Ren}
theorem q_pure {x : α} {x' : α'} {Q : α → α' → Prop} (h : Q x x') : QSim P (pure x) (pure x') ρ Q := by
  intro σ w hr y σ' he
  cases Option.some.inj (show some (Rs.ok x σ) = some (Rs.ok y σ') from he)
  exact ⟨rfl, x', rfl, h⟩
theorem q_bind {s : Sem α} {s' : Sem α'} {k : α → Sem β} {k' : α' → Sem β'} {Q : α → α' → Prop} {Q2 : β → β' → Prop} (h : QSim P s s' ρ Q) (hk : ∀ x x', Q x x' → QSim P (k x) (k' x') ρ Q2) : QSim P (s >>= k) (s' >>= k') ρ Q2 := by
  intro σ w hr y σ' he
  change runA P (s.bind k) σ = _ at he
  rw [runA_bind] at he
  cases hs : runA P s σ with
  | none => rw [hs] at he; cases he
  | some r =>
    rw [hs] at he
    cases r with
    | panic v τ => cases he
    | ok x τ =>
      obtain ⟨rfl, x', h1, h2⟩ := h σ w hr x τ hs
      obtain ⟨rfl, y', h3, h4⟩ := hk x x' h2 τ w hr y σ' he
      exact ⟨rfl, y', by rw [Sem.run_bind, h1]; exact h3, h4⟩
theorem q_none {s : Sem α} {s' : Sem α'} {Q : α → α' → Prop} (h : ∀ σ x σ', runA P s σ ≠ some (.ok x σ')) : QSim P s s' ρ Q := fun σ _ _ x σ' he => absurd he (h σ x σ')
theorem q_stuck {why : String} {s' : Sem α'} {Q : α → α' → Prop} : QSim P (stuck why : Sem α) s' ρ Q := q_none fun _ _ _ h => by cases h
theorem q_unsupported {u : Unsupported} {s' : Sem α'} {Q : α → α' → Prop} : QSim P (unsupported u : Sem α) s' ρ Q := q_none fun _ _ _ h => by cases h
theorem q_typeInfo {t : TypeId} : QSim P (typeInfo t) (typeInfo t) ρ fun x x' => x' = x ∧ P.info? t = some x := by
  intro σ w hr x σ' he
  change runA P (match P.info? t with | some i => (pure i : Sem TypeInfo) | none => stuck "no such type") σ = _ at he
  cases hi : P.info? t with
  | none => rw [hi] at he; cases he
  | some i =>
    rw [hi] at he
    cases Option.some.inj he
    exact ⟨rfl, x, by simp [typeInfo, hi], rfl, rfl⟩
theorem q_underlying {t : TypeId} : QSim P (underlying t) (underlying t) ρ fun x x' => x' = x ∧ P.underlying t = some x := by
  intro σ w hr x σ' he
  change runA P (match P.underlying t with | some i => (pure i : Sem TypeDesc) | none => stuck "no such type") σ = _ at he
  cases hi : P.underlying t with
  | none => rw [hi] at he; cases he
  | some i =>
    rw [hi] at he
    cases Option.some.inj he
    exact ⟨rfl, x, run_underlying hi w, rfl, rfl⟩
theorem q_sizeOf {t : TypeId} : QSim P (sizeOf t) (sizeOf t) ρ fun x x' => x' = x := q_bind q_typeInfo fun x x' h => by rw [h.1]; exact q_pure rfl
theorem q_isAgg {t : TypeId} : QSim P (isAgg t) (isAgg t) ρ fun x x' => x' = x := q_bind q_underlying fun x x' h => by rw [h.1]; split <;> exact q_pure rfl
theorem q_if {c : Bool} {s t : Sem α} {s' t' : Sem α'} {Q : α → α' → Prop} (h1 : c = true → QSim P s s' ρ Q) (h2 : c = false → QSim P t t' ρ Q) : QSim P (if c = true then s else t) (if c = true then s' else t') ρ Q := by
  cases c
  · simpa using h2 rfl
  · simpa using h1 rfl
theorem q_ite {c : Prop} [Decidable c] {s t : Sem α} {s' t' : Sem α'} {Q : α → α' → Prop} (h1 : c → QSim P s s' ρ Q) (h2 : ¬ c → QSim P t t' ρ Q) : QSim P (if c then s else t) (if c then s' else t') ρ Q := by
  by_cases h : c
  · rw [if_pos h, if_pos h]; exact h1 h
  · rw [if_neg h, if_neg h]; exact h2 h
theorem q_zeroValue (hz : ZeroOk P) {t : TypeId} : QSim P (zeroValue t) (zeroValue t) ρ (VR ρ) := q_bind q_typeInfo fun i i' h => by
  obtain ⟨rfl, hi⟩ := h
  split
  · rename_i v hv; exact q_pure (hz _ _ _ hi hv ρ)
  · exact q_unsupported
theorem q_load {a a' : Addr} (h : AdR ρ a a') : QSim P (load a) (load a') ρ (VR ρ) := by
  intro σ w hr x σ' he
  obtain ⟨v, v', h1, h2, h3⟩ := load_run h hr he
  cases h1
  exact ⟨rfl, v', h2, h3⟩
theorem q_loadCells {a a' : Addr} (n : Nat) (h : AdR ρ a a') : QSim P (loadCells a n) (loadCells a' n) ρ (VRs ρ) := by
  intro σ w hr x σ' he
  obtain ⟨cs, cs', h1, h2, h3, -⟩ := loads_run h hr n 0 #[] #[] _ (.empty ρ) he
  cases h1
  exact ⟨rfl, cs', h2, h3⟩
theorem q_loadVar {t : TypeId} {a a' : Addr} (h : AdR ρ a a') : QSim P (loadVar t a) (loadVar t a') ρ (VR ρ) :=
  q_bind q_isAgg fun x x' hx => by
    subst hx
    refine q_if (fun _ => ?_) fun _ => q_load h
    exact q_bind q_sizeOf fun n n' hn => by
      subst hn
      exact q_bind (q_loadCells _ h) fun cs cs' hc => q_pure hc.agg
theorem q_sureAddr {v v' : Value} (h : VR ρ v v') : QSim P (Instr.sureAddr v) (Instr.sureAddr v') ρ (AdR ρ) := by
  cases h with
  | ptr h1 => exact q_pure ⟨rfl, rfl, rfl, h1⟩
  | _ => exact q_stuck
theorem q_loadAt {t : TypeId} {v v' : Value} (h : VR ρ v v') : QSim P (Instr.loadAt t v) (Instr.loadAt t v') ρ (VR ρ) := q_bind (q_sureAddr h) fun _ _ ha => q_loadVar ha
theorem q_part {t : TypeId} {cs cs' : Array Value} (off : Nat) (h : VRs ρ cs cs') : QSim P (part t cs off) (part t cs' off) ρ (VR ρ) :=
  q_bind q_isAgg fun x x' hx => by
    subst hx
    refine q_if (fun _ => ?_) fun _ => ?_
    · exact q_bind q_sizeOf fun n n' hn => by subst hn; exact q_pure (h.extract _ _).agg
    · cases hc : cs[off]? with
      | none => exact q_stuck
      | some v => obtain ⟨v', h1, h2⟩ := h.to hc; rw [h1]; exact q_pure h2
theorem q_asIntOf {v v' : Value} (h : VR ρ v v') : QSim P (asIntOf v) (asIntOf v') ρ fun x x' => x' = x := by
  cases h <;> first | exact q_pure rfl | exact q_unsupported | exact q_stuck
theorem q_asAgg {v v' : Value} (h : VR ρ v v') : QSim P (asAgg v) (asAgg v') ρ (VRs ρ) := by
  cases h <;> first | exact q_pure ⟨by assumption, by assumption⟩ | exact q_stuck
theorem q_makeInterface {t : TypeId} {v v' : Value} (h : VR ρ v v') : QSim P (Instr.makeInterface t v) (Instr.makeInterface t v') ρ (VR ρ) := by
  refine q_bind q_underlying fun d d' hd => ?_
  obtain ⟨rfl, -⟩ := hd
  split
  · exact q_stuck
  · exact q_pure (.iface h)
theorem q_field {t : TypeId} {v v' : Value} {f : Nat} (h : VR ρ v v') : QSim P (Instr.field t v f) (Instr.field t v' f) ρ (VR ρ) := by
  refine q_bind q_underlying fun d d' hd => ?_
  obtain ⟨rfl, -⟩ := hd
  split
  · split
    · exact q_bind (q_asAgg h) fun _ _ hc => q_part _ hc
    · exact q_stuck
  · exact q_stuck
theorem q_bounds {α : Type} {k : IntKind} {x y : Int} {c : BoundsCode} {s' : Sem α} {Q : α → α → Prop} : QSim P (boundsPanic k x y c : Sem α) s' ρ Q := by
  refine q_none fun σ z σ' he => ?_
  unfold boundsPanic at he
  dsimp only at he
  have key : ∀ (s : Bool) (τ : St) (x1 : α), runA P (runtimePanic (.bounds (IntKind.i64.wrap x) y s c) : Sem α) τ ≠ some (.ok x1 σ') := fun s τ x1 h => by cases h
  split at he
  · rw [map_eq_pure_bind] at he
    change runA P (((choose _).bind _).bind _) σ = _ at he
    rw [runA_bind, runA_bind] at he
    cases hq : runA P (choose (Question.extern "runtime.boundsError.signed" 2)) σ with
    | none => rw [hq] at he; cases he
    | some r => cases hq
  · exact key _ _ _ he
theorem q_indexAt {t : TypeId} {v v' i i' : Value} (h : VR ρ v v') (hi : VR ρ i i') : QSim P (Instr.indexAt t v i) (Instr.indexAt t v' i') ρ (VR ρ) := by
  unfold Instr.indexAt
  refine q_bind (q_asIntOf hi) fun x x' e => ?_
  subst e
  obtain ⟨k, i⟩ := x'
  dsimp only
  refine q_bind q_underlying fun d d' hd => ?_
  obtain ⟨rfl, hdd⟩ := hd
  cases d' with
  | array len elem =>
    refine q_bind (q_sureAddr h) fun a a' ha => ?_
    refine q_bind (Q := fun x x' => ∃ a a', x = (some a, len, elem) ∧ x' = (some a', len, elem) ∧ AdR ρ a a') (q_pure ⟨_, _, rfl, rfl, ha⟩) fun x x' hx => ?_
    obtain ⟨a, a', rfl, rfl, ha⟩ := hx
    refine q_bind q_underlying fun d d' hd => ?_
    obtain ⟨rfl, -⟩ := hd
    dsimp only
    refine q_ite (fun _ => ?_) fun _ => q_if (fun _ => q_unsupported) fun _ => q_bounds
    exact q_bind q_sizeOf fun n n' e => by subst e; exact q_pure (ha.add _).ptr
  | slice elem =>
    cases h with
    | nilSlice n c =>
      refine q_bind (Q := fun x x' => x = (none, n, elem) ∧ x' = (none, n, elem)) (q_pure ⟨rfl, rfl⟩) fun x x' hx => ?_
      obtain ⟨rfl, rfl⟩ := hx
      refine q_bind q_underlying fun d d' hd => ?_
      exact q_bounds
    | empty a c' =>
      refine q_bind (Q := fun x x' => x = (none, 0, elem) ∧ x' = (a, 0, elem)) (q_pure ⟨rfl, rfl⟩) fun x x' hx => ?_
      obtain ⟨rfl, rfl⟩ := hx
      refine q_bind q_underlying fun d d' hd2 => ?_
      obtain ⟨rfl, hd2⟩ := hd2
      obtain rfl := Option.some.inj (hd2.symm.trans hdd)
      cases a with
      | none => exact q_bounds
      | some a =>
        dsimp only
        rw [if_neg (show ¬ (0 ≤ i ∧ i < ((0 : Nat) : Int)) by omega), if_neg (by simp)]
        exact q_bounds
    | @slice b k o n c c' h1 h2 =>
      have ha : AdR ρ ⟨b, o, none⟩ ⟨k, o, none⟩ := ⟨rfl, rfl, rfl, h1⟩
      refine q_bind (Q := fun x x' => ∃ a a', x = (some a, n, elem) ∧ x' = (some a', n, elem) ∧ AdR ρ a a') (q_pure ⟨_, _, rfl, rfl, ha⟩) fun x x' hx => ?_
      obtain ⟨a, a', rfl, rfl, ha⟩ := hx
      refine q_bind q_underlying fun d d' hd => ?_
      obtain ⟨rfl, -⟩ := hd
      dsimp only
      refine q_ite (fun _ => ?_) fun _ => q_if (fun _ => q_unsupported) fun _ => q_bounds
      exact q_bind q_sizeOf fun n n' e => by subst e; exact q_pure (ha.add _).ptr
    | _ => exact q_none fun _ _ _ h => by cases h
  | _ => exact q_none fun _ _ _ h => by cases h
theorem q_mapM {β γ : Type} {f g : β → Sem γ} (h : ∀ (x : β), QSim P (f x) (g x) ρ fun a b => b = a) : ∀ (l : List β), QSim P (l.mapM f) (l.mapM g) ρ fun a b => b = a := by
  intro l
  induction l with
  | nil => rw [List.mapM_nil, List.mapM_nil]; exact q_pure rfl
  | cons x l ih =>
    rw [List.mapM_cons, List.mapM_cons]
    exact q_bind (h x) fun a b hab => q_bind ih fun avs bs habs => by rw [hab, habs]; exact q_pure rfl
theorem q_build (hz : ZeroOk P) {t : TypeId} {p p' : Array (Nat × Value)} (hp : PR ρ p.toList p'.toList) : QSim P (Instr.build t p) (Instr.build t p') ρ (VR ρ) := by
  unfold Instr.build
  refine q_bind (q_zeroValue hz) fun z z' hzz => ?_
  have hc := hzz.cells
  refine q_bind q_underlying fun d d' hd => ?_
  obtain ⟨rfl, -⟩ := hd
  split
  · rename_i fields
    refine q_bind (Q := fun a b => b = a) ?_ fun pl pl' e => ?_
    · rw [Array.mapM_eq_mapM_toList]
      exact q_bind (q_mapM (fun f => q_bind q_sizeOf fun _ _ e => by rw [e]; exact q_pure rfl) _) fun a b hab => by rw [hab]; exact q_pure rfl
    subst e
    rcases fillR _ _ _ _ hc hp with ⟨h1, -⟩ | ⟨x, x', h1, h2, h3⟩
    · rw [h1]; exact q_stuck
    · rw [h1, h2]; exact q_pure h3.agg
  · rename_i elem
    refine q_bind q_sizeOf fun n n' e => ?_
    subst e
    rcases fillR _ _ _ _ hc hp with ⟨h1, -⟩ | ⟨x, x', h1, h2, h3⟩
    · rw [h1]; exact q_stuck
    · rw [h1, h2]; exact q_pure h3.agg
  · exact q_stuck
theorem q_forIn {α : Type} {ρ : Ren} {f : Value → α → Sem (ForInStep α)} (hf : ∀ (v v' : Value) (a : α), VR ρ v v' → QSim P (f v a) (f v' a) ρ fun x x' => x' = x) :
    ∀ (l l' : List Value) (a : α), l.length = l'.length → (∀ (i : Nat) (v v' : Value), l[i]? = some v → l'[i]? = some v' → VR ρ v v') → QSim P (forIn l a f) (forIn l' a f) ρ fun x x' => x' = x := by
  intro l
  induction l with
  | nil =>
    intro l' a hl h
    cases l' with
    | nil => exact q_pure rfl
    | cons v l' => simp at hl
  | cons v l ih =>
    intro l' a hl h
    cases l' with
    | nil => simp at hl
    | cons v' l' =>
    rw [List.forIn_cons, List.forIn_cons]
    refine q_bind (hf v v' a (h 0 v v' rfl rfl)) fun x x' hx => ?_
    subst hx
    cases x' with
    | done b => exact q_pure rfl
    | yield b => exact ih l' b (by simpa using hl) fun i u u' h1 h2 => h (i + 1) u u' (by simpa using h1) (by simpa using h2)
theorem q_bytesToString {ρ : Ren} {b : Option Addr} {n c : Nat} {x' : Value} (h : VR ρ (.slice b n c) x') : QSim P (Conv.bytesToString (.slice b n c)) (Conv.bytesToString x') ρ (VR ρ) := by
  cases h with
  | nilSlice n c => exact q_pure (.string _)
  | empty a c' => cases a <;> exact q_pure (.string _)
  | @slice b k o n c c' h hc =>
    unfold Conv.bytesToString
    refine q_bind (q_loadCells n ⟨rfl, rfl, rfl, h⟩) fun cs cs' hcs => ?_
    rw [← Array.forIn_toList, ← Array.forIn_toList]
    refine q_bind (Q := fun x x' => x' = x) (q_forIn ?_ cs.toList cs'.toList _ (by simpa using hcs.size) ?_) fun s s' hs => by subst hs; exact q_pure (.string _)
    · intro v v' a hv
      cases hv with
      | int k m => cases k <;> first | exact q_pure rfl | exact q_stuck
      | _ => exact q_stuck
    · intro i v v' h1 h2
      exact hcs.get i v v' (by simpa using h1) (by simpa using h2)
theorem q_convert {ρ : Ren} {s t e : TypeId} {b : Option Addr} {n c : Nat} {x' : Value} (h : VR ρ (.slice b n c) x') (hs : P.underlying s = some (.slice e)) (ht : P.underlying t = some .string) (he : P.underlying e = some (.int .u8)) :
    QSim P (convert s t (.slice b n c)) (convert s t x') ρ (VR ρ) := by
  obtain ⟨b', c', rfl⟩ : ∃ b' c', x' = .slice b' n c' := by cases h <;> exact ⟨_, _, rfl⟩
  unfold convert
  refine q_bind q_underlying fun d d' h1 => ?_
  obtain ⟨rfl, h1⟩ := h1
  rw [hs] at h1; cases h1
  refine q_bind q_underlying fun d d' h1 => ?_
  obtain ⟨rfl, h1⟩ := h1
  rw [ht] at h1; cases h1
  refine q_bind q_underlying fun d d' h1 => ?_
  obtain ⟨rfl, h1⟩ := h1
  rw [he] at h1; cases h1
  exact q_bytesToString h
end
end Go.Ev
/- Closed calls by evaluation, part N: what a region that draws its order may hold. -/
namespace Go.Ev
def stillOp : Op → Bool
  | .move _ | .assign _ | .pick .. | .extract .. | .load .. | .makeInterface .. | .makeFunc .. | .field .. | .indexAddr .. | .fieldAddr .. | .nilCheck _ | .binOp .. | .unOp .. | .convert .. | .index .. | .slice .. | .build .. | .lookup .. => true
  | .call c => match c.callee with
    | .builtin .len | .builtin .min | .builtin .max => true
    | _ => false
  | _ => false
def evStill (P : Program) (E : Operand → Value) (σ : St) (o : Oper) : Option Value :=
  match stillOp o.op with
  | true => match evOp P E σ o with
    | some (.ok (.value v) _) => some v
    | _ => none
  | false => none
section
variable {P : Program} {ρ : Ren}
theorem q_value {s s' : Sem Value} (h : QSim P s s' ρ (VR ρ)) {σ : St} {w : World} (hr : Rel ρ σ w) {v : Value} {σ' : St} (he : runA P (do pure (Next.value (← s))) σ = some (.ok (.value v) σ')) : ∃ v', (do pure (Next.value (← s'))).run P w = .ok (.value v') w ∧ VR ρ v v' := by
  have h2 : QSim P (do pure (Next.value (← s))) (do pure (Next.value (← s'))) ρ fun n n' => ∃ v v', n = .value v ∧ n' = .value v' ∧ VR ρ v v' := q_bind h fun _ _ hv => q_pure ⟨_, _, rfl, rfl, hv⟩
  obtain ⟨-, n', h3, v1, v', e1, rfl, h4⟩ := h2 σ w hr _ _ he
  cases e1
  exact ⟨v', h3, h4⟩
theorem still_sound (hz : ZeroOk P) {σ : St} {w : World} (hr : Rel ρ σ w) {E : Operand → Value} {a : Act} {o : Oper} (hact : ∀ x ∈ o.op.operands, okOperand σ.glob x = true → VR ρ (E x) (a.eval x)) {v : Value} (h : evStill P E σ o = some v) :
    ∃ v', (execOp a.eval o).run P w = .ok (.value v') w ∧ VR ρ v v' := by
  unfold evStill at h
  cases hst : stillOp o.op with
  | false => rw [hst] at h; cases h
  | true =>
  rw [hst] at h
  simp only at h
  cases hev : evOp P E σ o with
  | none => rw [hev] at h; cases h
  | some r =>
  rw [hev] at h
  cases r with
  | panic u τ => cases h
  | ok n τ =>
  cases n with
  | value v1 =>
    simp only [Option.some.injEq] at h
    subst h
    have fin : ∀ {real : Result Next}, OutV ρ σ w (.ok (.value v1) τ) real → ∃ v', real = .ok (.value v') w ∧ VR ρ v1 v' := by
      rintro real ⟨v2, v', e1, e2, e3⟩
      cases e1
      exact ⟨v', e2, e3⟩
    unfold evOp at hev
    cases hok : okOps σ.glob o with
    | false => rw [hok] at hev; cases hev
    | true =>
    rw [hok] at hev
    simp only [okOps, List.all_eq_true] at hok
    have hE : ∀ x ∈ o.op.operands, VR ρ (E x) (a.eval x) := fun x hx => hact x hx (hok x (Array.mem_toList_iff.2 hx))
    obtain ⟨dst, op, type, pos, after, guard⟩ := o
    simp only at hev hE hst
    have hpl : ∀ (hs : ∀ cs b, op ≠ .select cs b), plainQ P E σ ⟨dst, op, type, pos, after, guard⟩ = some (.ok (.value v1) τ) → ∃ v', (execOp a.eval ⟨dst, op, type, pos, after, guard⟩).run P w = .ok (.value v') w ∧ VR ρ v1 v' := fun hs h => fin (plainQ_sound hs hE h)
    cases op with
    | move x => cases Option.some.inj hev; exact ⟨_, rfl, hE x (by simp [Op.operands])⟩
    | assign x => cases Option.some.inj hev; exact ⟨_, rfl, hE x (by simp [Op.operands])⟩
    | pick c x y =>
      have hc := hE c (by simp [Op.operands])
      have hx := hE x (by simp [Op.operands])
      have hy := hE y (by simp [Op.operands])
      simp only at hev
      generalize hA : E c = vc at hc hev
      generalize hB : a.eval c = vc' at hc
      cases hc with
      | bool b =>
        cases b with
        | true => cases Option.some.inj hev; exact ⟨_, by simp [execOp, hB, asBool], hx⟩
        | false => cases Option.some.inj hev; exact ⟨_, by simp [execOp, hB, asBool], hy⟩
      | _ => cases hev
    | extract x i =>
      have hx := hE x (by simp [Op.operands])
      simp only at hev
      generalize hA : E x = vc at hx hev
      generalize hB : a.eval x = vc' at hx
      cases hx with
      | @tuple c c' q1 q2 =>
        simp only [nth_eq] at hev
        cases hc : c.toList[i]? with
        | none => rw [hc] at hev; cases hev
        | some v =>
          rw [hc] at hev
          cases Option.some.inj hev
          obtain ⟨v', h1, h2⟩ := (VRs.mk q1 q2).toList i v1 hc
          exact ⟨v', by simp [execOp, hB, Instr.extract, h1], h2⟩
      | _ => cases hev
    | build t ps =>
      refine q_value (q_build hz ?_) hr hev
      simp only [Array.toList_map]
      exact PR_map fun p hp => hE p.2 (by simp only [Op.operands]; simp; exact ⟨p.1, by simpa using hp⟩)
    | load t x => exact q_value (q_loadAt (hE x (by simp [Op.operands]))) hr hev
    | makeInterface t x => exact q_value (q_makeInterface (hE x (by simp [Op.operands]))) hr hev
    | makeFunc fn f c =>
      have h1 : VRs ρ (f.map E) (f.map a.eval) := .map _ _ _ fun x hx => hE x (by simp [Op.operands, hx])
      have h2 : VRs ρ (c.map E) (c.map a.eval) := .map _ _ _ fun x hx => hE x (by simp [Op.operands, hx])
      cases hfn : okFn fn with
      | false => simp only [hfn] at hev; cases hev
      | true =>
        simp only [hfn] at hev
        exact q_value (s := pure _) (s' := pure _) (q_pure (.func (okFn_R hfn) h1.size h1.get h2.size h2.get)) hr hev
    | field t x f => exact q_value (q_field (hE x (by simp [Op.operands]))) hr hev
    | indexAddr t x y => exact q_value (q_indexAt (hE x (by simp [Op.operands])) (hE y (by simp [Op.operands]))) hr hev
    | fieldAddr s x f => exact fin (field_sound (hE x (by simp [Op.operands])) hev)
    | nilCheck x =>
      have hx := hE x (by simp [Op.operands])
      simp only at hev
      generalize hA : E x = vc at hx hev
      generalize hB : a.eval x = vc' at hx
      cases hx with
      | ptr q => cases Option.some.inj hev; exact ⟨_, by simp [execOp, hB], .ptr q⟩
      | iface q => cases Option.some.inj hev; exact ⟨_, by simp [execOp, hB], .iface q⟩
      | @func fn fn' f1 f1' c c' hfn q1 q2 q3 q4 =>
        cases hfn with
        | func fid => cases Option.some.inj hev; exact ⟨_, by simp [execOp, hB], .func (.func fid) q1 q2 q3 q4⟩
        | yield hl => cases Option.some.inj hev; exact ⟨_, by simp [execOp, hB], .func (.yield hl) q1 q2 q3 q4⟩
        | _ => cases hev
      | _ => cases hev
    | binOp op t x y ty =>
      simp only at hev
      cases hp : (plainV 4 (E x) && plainV 4 (E y)) with
      | true => rw [hp] at hev; exact hpl (fun _ _ e => by cases e) hev
      | false =>
        rw [hp] at hev
        have hx := hE x (by simp [Op.operands])
        have hy := hE y (by simp [Op.operands])
        cases op with
        | eql => exact fin (eql_sound (neg := false) hx hy hev)
        | neq => exact fin (eql_sound (neg := true) hx hy hev)
        | _ => cases hev
    | unOp _ _ _ => exact hpl (fun _ _ e => by cases e) hev
    | convert s t x =>
      simp only at hev
      have hx := hE x (by simp [Op.operands])
      split at hev
      · rename_i b n c hA
        rw [hA] at hx
        split at hev
        · rename_i hb
          obtain ⟨e, h1, h2, h3⟩ := bytesConv_eq hb
          refine q_value (s := convert s t (E x)) ?_ hr hev
          rw [hA]
          exact q_convert hx h1 h2 h3
        · cases hev
      · exact hpl (fun _ _ e => by cases e) hev
    | index _ _ _ => exact hpl (fun _ _ e => by cases e) hev
    | lookup xt x k ok =>
      simp only at hev
      cases hl : evLookup P σ xt (E x) (E k) ok with
      | none => rw [hl] at hev; cases hev
      | some v =>
        rw [hl] at hev
        cases Option.some.inj hev
        obtain ⟨v', h1, h2⟩ := lookup_sound hz hr (hE x (by simp [Op.operands])) (hE k (by simp [Op.operands])) hl
        exact ⟨v', by show ((do pure (Next.value (← Instr.lookup xt (a.eval x) (a.eval k) ok))).run P w) = _; rw [Sem.run_bind, h1]; rfl, h2⟩
    | slice t x lo hi mx =>
      cases mx with
      | some m => cases hev
      | none =>
      simp only at hev
      have hx := hE x (by simp [Op.operands])
      have hlo : (lo.map E = none ∧ lo.map a.eval = none) ∨ ∃ v v', lo.map E = some v ∧ lo.map a.eval = some v' ∧ VR ρ v v' := by
        cases lo with
        | none => exact .inl ⟨rfl, rfl⟩
        | some l => exact .inr ⟨_, _, rfl, rfl, hE l (by simp [Op.operands])⟩
      have hhi : (hi.map E = none ∧ hi.map a.eval = none) ∨ ∃ v v', hi.map E = some v ∧ hi.map a.eval = some v' ∧ VR ρ v v' := by
        cases hi with
        | none => exact .inl ⟨rfl, rfl⟩
        | some l => exact .inr ⟨_, _, rfl, rfl, hE l (by simp [Op.operands])⟩
      cases hA : E x with
      | slice base n c =>
        rw [hA] at hev hx
        simp only at hev
        cases hs : evSlice P σ t (.slice base n c) (lo.map E) (hi.map E) with
        | none => rw [hs] at hev; cases hev
        | some v =>
          rw [hs] at hev
          cases Option.some.inj hev
          obtain ⟨v', h1, h2⟩ := slice_sound hr hx hlo hhi hs
          exact ⟨v', by show ((do pure (Next.value (← Instr.sliceAt t (a.eval x) (lo.map a.eval) (hi.map a.eval) none))).run P w) = _; rw [Sem.run_bind, h1]; rfl, h2⟩
      | _ => rw [hA] at hev; exact hpl (fun _ _ e => by cases e) hev
    | call c =>
      obtain ⟨callee, args, ts⟩ := c
      simp only at hev hst
      cases callee with
      | value f => simp [stillOp] at hst
      | invoke _ _ => simp [stillOp] at hst
      | builtin b =>
        have hq := hpl (fun _ _ e => by cases e)
        have hM : ∀ x ∈ args, VR ρ (E x) (a.eval x) := fun x hx => hE x (by simp [Op.operands, Call.operands, hx])
        simp only at hev
        unfold evBuiltin at hev
        split at hev
        · simp [stillOp] at hst
        · rename_i x t e1 e2
          have : args = #[x] := by rw [← Array.toArray_toList (xs := args), e1]
          subst this
          have : ts = #[t] := by rw [← Array.toArray_toList (xs := ts), e2]
          subst this
          have hx := hM x (by simp)
          split at hev
          · rename_i base n c elem hA ht
            cases Option.some.inj hev
            rw [hA] at hx
            have hv : ∃ b' c', a.eval x = .slice b' n c' := by
              generalize a.eval x = v at hx
              cases hx with
              | nilSlice n c => exact ⟨_, _, rfl⟩
              | empty a c' => exact ⟨_, _, rfl⟩
              | slice h1 h2 => exact ⟨_, _, rfl⟩
            obtain ⟨b', c', hv⟩ := hv
            refine ⟨.int .i64 n, ?_, .int _ _⟩
            simp [execOp, resolve, invoke, builtin, hv, Builtin.len_, run_underlying ht, goInt]
          · exact hq hev
        · simp [stillOp] at hst
        · simp [stillOp] at hst
        · exact hq hev
        · exact hq hev
        · cases hev
    | _ => cases hst
  | _ => cases h
end
end Go.Ev
/- Closed calls by evaluation, part O: operations that make one block. -/
namespace Go.Ev
def newOp : Op → Bool
  | .alloc _ | .box .. | .buildSlice .. | .makeSlice .. | .makeMap _ none => true
  | _ => false
def fillIn (i : TypeInfo) (z : Value) (len : Nat) (parts : List (Nat × Value)) : Option (Array Value) :=
  Instr.fill (fun j => some (j * i.size, i.size)) ((Array.range (len * i.size)).map (fun x => z.cells[x % z.cells.size]!)) parts
/-- the value and the block that an operation makes, at the number id -/
def evNew (P : Program) (E : Operand → Value) (glob id : Nat) (o : Oper) : Option (Value × AObj) :=
  match okOps glob o with
  | false => none
  | true => match o.op with
    | .alloc t => match P.info? t with
      | some i => match i.zero with
        | some z => some (.pointer (some ⟨id, 0, none⟩), .row { cells := z.cells.toList, ty := t, sz := 0, own := true })
        | none => none
      | none => none
    | .box t x => some (.pointer (some ⟨id, 0, none⟩), .row { cells := (E x).cells.toList, ty := t, sz := 0, own := true })
    | .buildSlice t len parts => match P.underlying t with
      | some (.slice elem) => match P.info? elem with
        | some i => match i.zero with
          | some z => match Nat.blt 0 (len * i.size) && (Nat.ble (len * i.size) 16777216 && Nat.blt len big) with
            | true => match fillIn i z len (parts.map fun (i, x) => (i, E x)).toList with
              | some cells => some (.slice (some ⟨id, 0, none⟩) len len, .row { cells := cells.toList, ty := elem, sz := 0, own := true })
              | none => none
            | false => none
          | none => none
        | none => none
      | _ => none
    | .makeSlice t l c => match P.underlying t with
      | some (.slice elem) => match intV (E l), intV (E c) with
        | some n, some m => match P.info? elem with
          | some i => match i.zero with
            | some z => match Nat.ble n m && (Nat.ble (i.bytes * m) lim && Nat.ble m lim) with
              | true => some (.slice (some ⟨id, 0, none⟩) n m, .row { cells := (madeCells z.cells (m * i.size)).toList, ty := elem, sz := 0, own := true })
              | false => none
            | none => none
          | none => none
        | _, _ => none
      | _ => none
    | .makeMap _ none => some (.map (some id), .obj (.map #[] 0))
    | _ => none
section
variable {P : Program} {ρ : Ren}
theorem addPtr {id k : Nat} {rm : Option (Nat × Nat)} : VR (ρ.add id k rm) (.pointer (some ⟨id, 0, none⟩)) (.pointer (some ⟨k, 0, none⟩)) := .ptr (by simp [Ren.add])
theorem addSlice {id k n c : Nat} {rm : Option (Nat × Nat)} (hc : Nat.blt c big = true) : VR (ρ.add id k rm) (.slice (some ⟨id, 0, none⟩) n c) (.slice (some ⟨k, 0, none⟩) n c) := .slice (by simp [Ren.add]) (capR_of hc)
theorem rowAt {cs cs' : Array Value} {ty : TypeId} (h : VRs ρ cs cs') : ∀ ρ' : Ren, ρ.le ρ' → ∀ id, AtR ρ' id (.row { cells := cs.toList, ty := ty, sz := 0, own := true }) (.cells cs' ty) := fun _ hle _ => ⟨cs', ty, (0, 0), rfl, .shut (h.mono hle) _ _⟩
theorem new_sound (hz : ZeroOk P) {E : Operand → Value} {a : Act} {glob id : Nat} {o : Oper} (hact : ∀ x ∈ o.op.operands, okOperand glob x = true → VR ρ (E x) (a.eval x)) {v : Value} {x : AObj} (h : evNew P E glob id o = some (v, x)) (w : World) :
    x.own = true ∧ ∃ v' y, (execOp a.eval o).run P w = .ok (.value v') { w with heap := w.heap.push y } ∧ (∀ rm, VR (ρ.add id w.heap.size rm) v v') ∧ ∀ ρ' : Ren, ρ.le ρ' → ∀ id, AtR ρ' id x y := by
  unfold evNew at h
  cases hok : okOps glob o with
  | false => rw [hok] at h; cases h
  | true =>
  rw [hok] at h
  simp only [okOps, List.all_eq_true] at hok
  have hE : ∀ x ∈ o.op.operands, VR ρ (E x) (a.eval x) := fun x hx => hact x hx (hok x (Array.mem_toList_iff.2 hx))
  obtain ⟨dst, op, type, pos, after, guard⟩ := o
  simp only at h hE
  cases op with
  | alloc t =>
    simp only at h
    cases hi : P.info? t with
    | none => rw [hi] at h; cases h
    | some i =>
    rw [hi] at h
    simp only at h
    cases hzz : i.zero with
    | none => rw [hzz] at h; cases h
    | some z =>
    rw [hzz] at h
    cases Option.some.inj h
    refine ⟨rfl, .pointer (some ⟨w.heap.size, 0, none⟩), .cells z.cells t, ?_, fun _ => addPtr, rowAt (hz t i z hi hzz ρ).cells⟩
    simp [execOp, Instr.alloc, zeroValue, typeInfo, hi, hzz, newVar, newRow]
  | box t y =>
    cases Option.some.inj h
    refine ⟨rfl, .pointer (some ⟨w.heap.size, 0, none⟩), .cells (a.eval y).cells t, ?_, fun _ => addPtr, rowAt (hE y (by simp [Op.operands])).cells⟩
    simp [execOp, Instr.box, newVar, newRow]
  | makeMap t r =>
    cases r with
    | some r => cases h
    | none =>
    cases Option.some.inj h
    refine ⟨rfl, .map (some w.heap.size), .map #[] 0, ?_, fun _ => .map (by simp [Ren.add]), fun _ _ _ => .map 0 rfl fun i e e' h1 => by simp at h1⟩
    simp [execOp, Instr.makeMap]
  | buildSlice t len ps =>
    simp only at h
    cases ht : P.underlying t with
    | none => rw [ht] at h; cases h
    | some d =>
    rw [ht] at h
    cases d with
    | slice elem =>
      simp only at h
      cases hi : P.info? elem with
      | none => rw [hi] at h; cases h
      | some i =>
      rw [hi] at h
      simp only at h
      cases hzz : i.zero with
      | none => rw [hzz] at h; cases h
      | some z =>
      rw [hzz] at h
      simp only at h
      cases hc : (Nat.blt 0 (len * i.size) && (Nat.ble (len * i.size) 16777216 && Nat.blt len big)) with
      | false => rw [hc] at h; cases h
      | true =>
      rw [hc] at h
      simp only [Bool.and_eq_true] at hc
      obtain ⟨hc1, hc2, hc3⟩ := hc
      have hc1 : ¬ len * i.size = 0 := by have : 0 < len * i.size := by simpa using hc1
                                          omega
      have hc2 : ¬ 16777216 < len * i.size := by have := Nat.le_of_ble_eq_true hc2; omega
      simp only at h
      have hp : PR ρ (ps.map fun (i, x) => (i, E x)).toList (ps.map fun (i, x) => (i, a.eval x)).toList := by
        simp only [Array.toList_map]
        exact PR_map fun p hp => hE p.2 (by simp only [Op.operands]; simp; exact ⟨p.1, by simpa using hp⟩)
      have hzv := (hz elem i z hi hzz ρ).cells
      rcases fillR (place := fun j => some (j * i.size, i.size)) _ _ _ _ (VRs.zeros hzv (len * i.size)) hp with ⟨h1, -⟩ | ⟨c, c', h1, h2, h3⟩
      · have : fillIn i z len (ps.map fun (i, x) => (i, E x)).toList = none := h1
        rw [this] at h; cases h
      · have : fillIn i z len (ps.map fun (i, x) => (i, E x)).toList = some c := h1
        rw [this] at h
        cases Option.some.inj h
        refine ⟨rfl, .slice (some ⟨w.heap.size, 0, none⟩) len len, .cells c' elem, ?_, fun _ => addSlice hc3, rowAt h3⟩
        simp only [execOp, Instr.buildSlice, Sem.run_bind, run_underlying ht, Result.andThen_ok, sizeOf, typeInfo, run_program, hi, Sem.run_pure, zeroValue]
        rw [if_neg hc2]
        simp only [if_neg hc1, Sem.run_bind, run_program, Result.andThen_ok, hi, hzz, Sem.run_pure, h2, newRow, run_newObj]
    | _ => cases h
  | makeSlice t l c =>
    simp only at h
    cases ht : P.underlying t with
    | none => rw [ht] at h; cases h
    | some d =>
    rw [ht] at h
    have hl := hE l (by simp [Op.operands])
    have hc := hE c (by simp [Op.operands])
    cases d with
    | slice elem =>
      simp only at h
      cases e1 : intV (E l) with
      | none => rw [e1] at h; cases h
      | some n =>
      cases e2 : intV (E c) with
      | none => rw [e1, e2] at h; cases h
      | some m =>
      rw [e1, e2] at h
      simp only at h
      cases hi : P.info? elem with
      | none => rw [hi] at h; cases h
      | some i =>
      rw [hi] at h
      simp only at h
      cases hzz : i.zero with
      | none => rw [hzz] at h; cases h
      | some z =>
      rw [hzz] at h
      simp only at h
      cases hck : (Nat.ble n m && (Nat.ble (i.bytes * m) lim && Nat.ble m lim)) with
      | false => rw [hck] at h; cases h
      | true =>
      rw [hck] at h
      simp only [Bool.and_eq_true] at hck
      obtain ⟨hc1, hc2, hc3⟩ := hck
      have hc1 := Nat.le_of_ble_eq_true hc1
      have hc2 := Nat.le_of_ble_eq_true hc2
      have hc3 := Nat.le_of_ble_eq_true hc3
      simp only [lim] at hc2 hc3
      cases Option.some.inj h
      obtain ⟨k1, n1, q1, q2, q3⟩ := intV_run hl e1
      obtain ⟨k2, n2, q4, q5, q6⟩ := intV_run hc e2
      have hzv := (hz elem i z hi hzz ρ).cells
      have hb : (i.bytes : Int) * n2 ≤ 281474976710656 := by
        have : (i.bytes : Int) * n2 = ((i.bytes * m : Nat) : Int) := by rw [← q6, Int.natCast_mul, Int.toNat_of_nonneg q5]
        rw [this]; omega
      have hrun := run_make (P := P) w t elem i z ht hi hzz k1 k2 n1 n2 q2 (by omega) hb (by omega)
      rw [q3, q6] at hrun
      refine ⟨rfl, .slice (some ⟨w.heap.size, 0, none⟩) n m, .cells (madeCells z.cells (m * i.size)) elem, ?_, fun _ => addSlice (by simp [big]; omega), rowAt (VRs.zeros hzv _)⟩
      show ((do pure (Next.value (← Instr.makeSlice t (a.eval l) (a.eval c)))).run P w) = _
      rw [Sem.run_bind, q1, q4, hrun]
      rfl
    | _ => cases h
  | _ => cases h
end
end Go.Ev
/- Closed calls by evaluation, part P: a region that draws its order, by a certificate. -/
namespace Go.Ev
def evEff (P : Program) (call : Next → St → Option Er) (E : Operand → Value) (σ : St) (o : Oper) : Option (Value × St) :=
  match evOp P E σ o with
  | some (.ok (.value v) σ) => some (v, σ)
  | some (.ok .skip σ) => some (undef, σ)
  | some (.ok (.enter g args) σ) => match call (.enter g args) σ with
    | some (.ret v σ) => some (v, σ)
    | _ => none
  | some (.ok (.round k g t x y) σ) => match call (.round k g t x y) σ with
    | some (.ret v σ) => some (v, σ)
    | _ => none
  | _ => none
/-- the frame behind the operations of S among the first n -/
def fold (ops : Array Oper) (A0 : Fr) (val : Nat → Value) (S : Nat → Bool) : Nat → Fr
  | 0 => A0
  | n + 1 => if S n = true then (fold ops A0 val S n).put ((ops[n]?).bind (·.dst)) (val n) else fold ops A0 val S n
structure Cert (P : Program) (call : Next → St → Option Er) (ops : Array Oper) (A0 : Fr) (σ0 : St) (σ' : St) where
  mask : Nat → Nat → Bool
  val : Nat → Value
  kind : Nat → Nat
  obj : Nat → AObj
  K : Nat
  eff : Nat → Nat
  B : Nat → St
  dep : Nat → Nat → St
  via : ∀ i j o, ops[i]? = some o → mask i j = true → ∃ e ∈ o.after, Region.binds .any e = true ∧ (e.on = j ∨ mask e.on j = true)
  lt : ∀ i j, mask i j = true → j < i
  edge : ∀ i o, ops[i]? = some o → ∀ e ∈ o.after, Region.binds .any e = true → mask i e.on = true
  apart : ∀ i j oi oj, i < j → ops[i]? = some oi → ops[j]? = some oj → mask j i = false → oi.apart ops oj = true
  effk : ∀ m, m < K → eff m < ops.size ∧ kind (eff m) = 2
  effs : ∀ i, i < ops.size → kind i = 2 → ∃ m, m < K ∧ eff m = i
  chain : ∀ m m', m < m' → m' < K → mask (eff m') (eff m) = true
  kinds : ∀ i, kind i = 0 ∨ kind i = 1 ∨ kind i = 2
  still : ∀ i o, ops[i]? = some o → kind i = 0 → (wantedE ops.toList o (fold ops A0 val (fun _ => true) i) = false ∧ val i = undef) ∨
    (wantedE ops.toList o (fold ops A0 val (fun _ => true) i) = true ∧ ∀ m, m ≤ K → (∀ m', m' < K → mask i (eff m') = true → m' < m) → (∀ m', m' < m → mask (eff m') i = false) → evStill P (fold ops A0 val (fun _ => true) i).eval (dep m i) o = some (val i))
  new : ∀ i o, ops[i]? = some o → kind i = 1 → wantedE ops.toList o (fold ops A0 val (fun _ => true) i) = true ∧ evNew P (fold ops A0 val (fun _ => true) i).eval σ0.glob (σ0.next + i) o = some (val i, obj i)
  effect : ∀ m o, m < K → ops[eff m]? = some o → wantedE ops.toList o (fold ops A0 val (fun _ => true) (eff m)) = true ∧ evEff P call (fold ops A0 val (fun _ => true) (eff m)).eval (dep m (eff m)) o = some (val (eff m), B (m + 1))
  depN : ∀ m i, (dep m i).next = (B m).next ∧ (dep m i).glob = (B m).glob
  depH : ∀ m i id o, (dep m i).heap.get id = some o → (B m).heap.get id = some o ∨ ∃ j, j < ops.size ∧ kind j = 1 ∧ mask i j = true ∧ (¬ ∃ m', m' < m ∧ mask (eff m') j = true) ∧ id = σ0.next + j ∧ o = obj j
  B0 : (B 0).next = σ0.next + ops.size ∧ (B 0).glob = σ0.glob ∧ ∀ id o, (B 0).heap.get id = some o → σ0.heap.get id = some o
  fin : σ'.next = (B K).next ∧ σ'.glob = (B K).glob ∧ ∀ id o, σ'.heap.get id = some o → (B K).heap.get id = some o ∨ ∃ j, j < ops.size ∧ kind j = 1 ∧ (¬ ∃ m', m' < K ∧ mask (eff m') j = true) ∧ id = σ0.next + j ∧ o = obj j
section
variable {P : Program} {ρ : Ren}
theorem Rel.sub {σ τ : St} {w : World} (h : Rel ρ τ w) (hn : τ.next ≤ σ.next) (hg : σ.glob = τ.glob) (hs : ∀ id o, σ.heap.get id = some o → τ.heap.get id = some o) : Rel ρ σ w :=
  ⟨fun id o ho => h.live id o (hs id o ho), fun i j oi oj hi hj => h.inj i j oi oj (hs _ _ hi) (hs _ _ hj), fun id hid => h.fresh id (Nat.le_trans hn hid), fun g hg2 => h.glob g (by rw [← hg]; exact hg2), by rw [hg]; exact Nat.le_trans h.gn hn⟩
theorem Keep.sub {σ τ : St} (w : World) (hn : τ.next ≤ σ.next) (hg : σ.glob = τ.glob) (hs : ∀ id o, σ.heap.get id = some o → τ.heap.get id = some o) : Keep ρ τ ρ σ w w :=
  ⟨Nat.le_refl _, rfl, rfl, rfl, hg, hn, fun _ _ => ⟨rfl, rfl⟩, fun _ _ _ => rfl, fun _ o _ h1 h3 => .inl ⟨o, hs _ _ h1, rfl, h3⟩⟩
def St.setAt (σ : St) (id : Nat) (x : AObj) : St := { σ with heap := σ.heap.set id (some x) }
theorem Rel.newAt {σ : St} {w : World} (h : Rel ρ σ w) {id : Nat} (h1 : ρ.φ id = none) (h2 : ρ.room id = none) (hlt : id < σ.next) (hge : σ.glob ≤ id) (x : AObj) (o : Obj) (hx : AtR (ρ.add id w.heap.size none) id x o) :
    Rel (ρ.add id w.heap.size none) (σ.setAt id x) { w with heap := w.heap.push o } := by
  have hle : ρ.le (ρ.add id w.heap.size none) := Ren.le_add h1 h2
  have hlt2 : ∀ i ob k, σ.heap.get i = some ob → ρ.φ i = some k → k < w.heap.size := by
    intro i ob k q1 q2
    obtain ⟨j, y, q3, q4, -⟩ := h.live i ob q1
    rw [q3] at q2
    rw [← Option.some.inj q2]
    exact (Array.getElem?_eq_some_iff.1 q4).1
  refine ⟨?_, ?_, ?_, ?_, h.gn⟩
  · intro i ob hi
    simp only [St.setAt] at hi
    rw [T.get_set] at hi
    by_cases e : i = id
    · rw [if_pos e] at hi
      rw [← Option.some.inj hi, e]
      exact ⟨w.heap.size, o, by simp [Ren.add], by simp, hx⟩
    · rw [if_neg e] at hi
      obtain ⟨j, y, q1, q2, q3⟩ := h.live i ob hi
      refine ⟨j, y, hle.φ _ _ q1, ?_, q3.mono hle⟩
      have := hlt2 i ob j hi q1
      simp only [Array.getElem?_push]
      rw [if_neg (by omega)]; exact q2
  · intro i j oi oj hi hj ho hφ
    simp only [St.setAt] at hi hj
    rw [T.get_set] at hi hj
    by_cases ei : i = id
    · by_cases ej : j = id
      · rw [ei, ej]
      · rw [if_neg ej] at hj
        obtain ⟨k, y, q1, -, -⟩ := h.live j oj hj
        have h4 : (ρ.add id w.heap.size none).φ i = some w.heap.size := by simp [Ren.add, ei]
        rw [hle.φ _ _ q1, h4] at hφ
        have := hlt2 j oj k hj q1
        have := Option.some.inj hφ
        omega
    · rw [if_neg ei] at hi
      obtain ⟨k, y, q1, -, -⟩ := h.live i oi hi
      by_cases ej : j = id
      · have h4 : (ρ.add id w.heap.size none).φ j = some w.heap.size := by simp [Ren.add, ej]
        rw [hle.φ _ _ q1, h4] at hφ
        have := hlt2 i oi k hi q1
        have := Option.some.inj hφ
        omega
      · rw [if_neg ej] at hj
        obtain ⟨k2, y2, q5, -, -⟩ := h.live j oj hj
        refine h.inj i j oi oj hi hj ho ?_
        rw [hle.φ _ _ q1, hle.φ _ _ q5] at hφ
        rw [q1, q5]; exact hφ
  · intro i hi
    have hi : σ.next ≤ i := hi
    have q := h.fresh i hi
    have : i ≠ id := by omega
    simp [Ren.add, this, q]
  · intro g hg
    have hg : g < σ.glob := hg
    have : g ≠ id := by omega
    simp only [Ren.add, if_neg this]
    exact h.glob g hg
theorem Keep.newAt {ρ0 : Ren} {σ0 σ : St} {w0 w : World} (h : Keep ρ0 σ0 ρ σ w0 w) {id : Nat} (hid : σ0.next ≤ id) (x : AObj) (hx : x.own = true) (o : Obj) :
    Keep ρ0 σ0 (ρ.add id w.heap.size none) (σ.setAt id x) w0 { w with heap := w.heap.push o } := by
  refine ⟨by simp; have := h.size; omega, h.os, h.tape, h.output, h.glob, h.next, fun i hi => ?_, fun k hk hn => ?_, fun i ob k hi hk => ?_⟩
  · have : i ≠ id := by omega
    simp only [Ren.add, if_neg this]
    exact h.dom i hi
  · have := h.size
    simp only [Array.getElem?_push]
    rw [if_neg (by omega)]
    exact h.old k hk hn
  · simp only [St.setAt] at hi
    rw [T.get_set] at hi
    by_cases e : i = id
    · simp only [Ren.add, if_pos e] at hk
      rw [if_pos e] at hi
      rw [← Option.some.inj hi]
      exact .inr ⟨hx, .inl (by rw [← Option.some.inj hk]; exact h.size)⟩
    · rw [if_neg e] at hi
      simp only [Ren.add, if_neg e] at hk
      exact h.new i ob k hi hk
theorem FrR.congr {A A' : Fr} {a : Act} (h : FrR ρ A a) (hn : A'.n = A.n) (hd : A'.defers = A.defers) (ht : ∀ t, A'.tmp t = A.tmp t) : FrR ρ A' a :=
  ⟨hn.trans h.n, fun t => by rw [ht]; exact h.tmp t, by rw [hd]; exact h.dl, by rw [hd]; exact h.defers⟩
/-- the slots of a fold -/
def tmpS (ops : Array Oper) (A0 : Fr) (val : Nat → Value) (S : Nat → Bool) : Nat → Nat → Value
  | 0, t => A0.tmp t
  | n + 1, t => if S n = true ∧ (ops[n]?).bind (·.dst) = some t ∧ t < A0.n then val n else tmpS ops A0 val S n t
theorem fold_parts (ops : Array Oper) (A0 : Fr) (val : Nat → Value) (S : Nat → Bool) : ∀ n, (fold ops A0 val S n).n = A0.n ∧ (fold ops A0 val S n).defers = A0.defers ∧ ∀ t, (fold ops A0 val S n).tmp t = tmpS ops A0 val S n t := by
  intro n
  induction n with
  | zero => exact ⟨rfl, rfl, fun _ => rfl⟩
  | succ n ih =>
    obtain ⟨h1, h2, h3⟩ := ih
    unfold fold tmpS
    by_cases hS : S n = true
    · rw [if_pos hS]
      cases hd : (ops[n]?).bind (·.dst) with
      | none =>
        refine ⟨h1, h2, fun t => ?_⟩
        rw [if_neg (by simp)]
        exact h3 t
      | some d =>
        by_cases hlt : d < A0.n
        · have hb : Nat.blt d (fold ops A0 val S n).n = true := by rw [h1]; simpa using hlt
          refine ⟨by simp only [Fr.put, hb]; exact h1, by simp only [Fr.put, hb]; exact h2, fun t => ?_⟩
          rw [Fr.put_tmp (by rw [h1]; exact hlt)]
          by_cases e : t = d
          · subst e; rw [if_pos rfl, if_pos ⟨hS, rfl, hlt⟩]
          · rw [if_neg e, if_neg (by rintro ⟨-, q, -⟩; exact e (Option.some.inj q).symm)]; exact h3 t
        · have hb : Nat.blt d (fold ops A0 val S n).n = false := by rw [h1, ← Bool.not_eq_true]; simpa using hlt
          refine ⟨by simp only [Fr.put, hb]; exact h1, by simp only [Fr.put, hb]; exact h2, fun t => ?_⟩
          simp only [Fr.put, hb]
          rw [if_neg (by rintro ⟨-, q, q2⟩; rw [← Option.some.inj q] at q2; exact hlt q2)]
          exact h3 t
    · rw [if_neg hS]
      refine ⟨h1, h2, fun t => ?_⟩
      rw [if_neg (fun q => hS q.1)]; exact h3 t
theorem tmpS_skip {ops : Array Oper} {A0 : Fr} {val : Nat → Value} {S : Nat → Bool} {t : Nat} : ∀ (d n : Nat), (∀ k, n ≤ k → k < n + d → S k = true → (ops[k]?).bind (·.dst) ≠ some t) → tmpS ops A0 val S (n + d) t = tmpS ops A0 val S n t := by
  intro d
  induction d with
  | zero => intro n _; rfl
  | succ d ih =>
    intro n h
    have e : tmpS ops A0 val S (n + d + 1) t = if S (n + d) = true ∧ (ops[n + d]?).bind (·.dst) = some t ∧ t < A0.n then val (n + d) else tmpS ops A0 val S (n + d) t := rfl
    show tmpS ops A0 val S (n + d + 1) t = _
    rw [e, if_neg (fun q => h (n + d) (by omega) (by omega) q.1 q.2.1)]
    exact ih n fun k h1 h2 => h k h1 (by omega)
theorem tmpS_same {ops : Array Oper} {A0 : Fr} {val : Nat → Value} {S S' : Nat → Bool} {t : Nat} : ∀ n, (∀ k, k < n → (ops[k]?).bind (·.dst) = some t → S k = S' k) → tmpS ops A0 val S n t = tmpS ops A0 val S' n t := by
  intro n
  induction n with
  | zero => intro _; rfl
  | succ n ih =>
    intro h
    unfold tmpS
    rw [ih fun k hk => h k (by omega)]
    by_cases hd : (ops[n]?).bind (·.dst) = some t
    · rw [h n (by omega) hd]
    · rw [if_neg (fun q => hd q.2.1), if_neg (fun q => hd q.2.1)]
theorem tmpS_off {ops : Array Oper} {A0 : Fr} {val : Nat → Value} {S : Nat → Bool} {t : Nat} (ht : ¬ t < A0.n) : ∀ n, tmpS ops A0 val S n t = A0.tmp t := by
  intro n
  induction n with
  | zero => rfl
  | succ n ih => unfold tmpS; rw [if_neg (fun q => ht q.2.2)]; exact ih
end
end Go.Ev
