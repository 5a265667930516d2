import Derived.Below
import Derived.Lib.Builder
import Derived.Laws.Externs
import Derived.Lib.OthersKept
import Derived.KernelRfl
import Derived.Test.YtneohoclgnfdcaaGreatDoorP07
import Derived.Test.YtneohoclgnfdcaaGreatDoorP01
import Derived.Test.YtneohoclgnfdcaaGreatDoorP04
import Derived.Test.YtneohoclgnfdcaaGreatDoorP06
/- The summaries of strings.Builder's check of copies and String, and their soundness; the evaluator of this program. -/
namespace Go.Ev
def rowOf (σ : St) (b : Nat) : Option Blk := match σ.heap.get b with | some (.row r) => some r | _ => none
theorem rowOf_some {σ : St} {b : Nat} {r : Blk} (h : rowOf σ b = some r) : σ.heap.get b = some (.row r) := by
  unfold rowOf at h
  split at h
  · rename_i q; cases Option.some.inj h; exact q
  · cases h
def sumCheck (T : Nat) (args : Array Value) (σ : St) : Option Er :=
  match args.toList with
  | [.pointer (some a)] => match a.spot, Nat.beq a.off 0, rowOf σ a.block with
    | none, true, some r => match r.own && Nat.beq r.ty T && Nat.beq r.sz 0, r.cells with
      | true, [.pointer none, _] => match σ.put a (.pointer (some a)) with
        | some σ' => some (.ret (.tuple #[]) σ')
        | none => none
      | true, [.pointer (some q), _] => match q.spot, Nat.beq q.off 0 && Nat.beq q.block a.block with
        | none, true => some (.ret (.tuple #[]) σ)
        | _, _ => none
      | _, _ => none
    | _, _, _ => none
  | _ => none
def bytesOf : List Value → Option (List UInt8)
  | [] => some []
  | .int .u8 (.ofNat n) :: l => match Nat.ble n 255, bytesOf l with
    | true, some r => some (UInt8.ofNat n :: r)
    | _, _ => none
  | _ => none
theorem bytesOf_get : ∀ {l : List Value} {r : List UInt8}, bytesOf l = some r → r.length = l.length ∧ ∀ (j : Nat) (x : UInt8), r[j]? = some x → l[j]? = some (.int .u8 x.toNat) := by
  intro l
  induction l with
  | nil => intro r h; cases Option.some.inj h; exact ⟨rfl, fun j x hx => by simp at hx⟩
  | cons v l ih =>
    intro r h
    unfold bytesOf at h
    split at h
    · rename_i heq; cases heq
    · rename_i n0 l0 heq
      cases heq
      split at h
      · rename_i r0 h1 h2
        cases Option.some.inj h
        obtain ⟨e1, e2⟩ := ih h2
        refine ⟨by simp [e1], fun j x hx => ?_⟩
        cases j with
        | zero =>
          simp only [List.getElem?_cons_zero] at hx ⊢
          cases Option.some.inj hx
          have : n0 ≤ 255 := Nat.le_of_ble_eq_true h1
          have h3 : (UInt8.ofNat n0).toNat = n0 := by simp; omega
          rw [h3]; rfl
        | succ j => simp only [List.getElem?_cons_succ] at hx ⊢; exact e2 j x hx
      · cases h
    · cases h
def sumString (e : Nat) (args : Array Value) (σ : St) : Option Er :=
  match args.toList with
  | [.pointer (some a)] => match a.spot, Nat.beq a.off 0, rowOf σ a.block with
    | none, true, some r => match r.cells with
      | [_, .slice none n c] => match Nat.beq n 0 && Nat.blt c big with
        | true => some (.ret (.string ⟨#[]⟩) σ)
        | false => none
      | [_, .slice (some q) n c] => match q.spot, Nat.beq q.off 0, rowOf σ q.block with
        | none, true, some t => match t.own && Nat.beq t.ty e && Nat.ble 1 n && Nat.ble n 9223372036854775807 && !Nat.beq c 0 && Nat.ble n t.cells.length && !(Nat.beq c big && Nat.beq t.sz 0), bytesOf (t.cells.take n) with
          | true, some l => some (.ret (.string ⟨l.toArray⟩) { σ with heap := σ.heap.set q.block none })
          | _, _ => none
        | _, _, _ => none
      | _ => none
    | _, _, _ => none
  | _ => none
/-- a block of the call's own is forgotten -/
theorem Rel.forget {ρ : Ren} {σ : St} {w w' : World} {b k : Nat} {o : AObj} (h : Rel ρ σ w) (hg : σ.heap.get b = some o) (ho : o.own = true) (hk : ρ.φ b = some k) (hne : ∀ j, j ≠ k → w'.heap[j]? = w.heap[j]?) :
    Rel ρ { σ with heap := σ.heap.set b none } w' where
  live := by
    intro id ob hid
    simp only [T.get_set] at hid
    by_cases e : id = b
    · rw [if_pos e] at hid; cases hid
    · rw [if_neg e] at hid
      obtain ⟨j, y, q1, q2, q3⟩ := h.live id ob hid
      have hj : j ≠ k := fun e2 => by
        refine e (h.inj b id _ _ hg hid ho ?_).symm
        rw [hk, q1, e2]
      exact ⟨j, y, q1, by rw [hne j hj]; exact q2, q3⟩
  inj := by
    intro i j oi oj hi hj hoo hφ
    simp only [T.get_set] at hi hj
    split at hi
    · cases hi
    · split at hj
      · cases hj
      · exact h.inj i j oi oj hi hj hoo hφ
  fresh := h.fresh
  glob := h.glob
  gn := h.gn
theorem Keep.forget {ρ : Ren} {σ : St} {w w' : World} {b k : Nat} {o : AObj} (hg : σ.heap.get b = some o) (ho : o.own = true) (hk : ρ.φ b = some k) (hne : ∀ j, j ≠ k → w'.heap[j]? = w.heap[j]?) (hs : w'.heap.size = w.heap.size)
    (h2 : w'.os = w.os) (h3 : w'.tape = w.tape) (h4 : w'.output = w.output) :
    Keep ρ σ ρ { σ with heap := σ.heap.set b none } w w' where
  size := by rw [hs]; exact Nat.le_refl _
  os := h2
  tape := h3
  output := h4
  glob := rfl
  next := Nat.le_refl _
  dom := fun _ _ => ⟨rfl, rfl⟩
  old := fun j _ hn => hne j fun e => hn b o hg ho (by rw [hk, e])
  new := by
    intro id ob j hid hj
    simp only [T.get_set] at hid
    split at hid
    · cases hid
    · exact .inl ⟨ob, hid, rfl, hj⟩
/-- what is left of the world by draws and the freezing of a row -/
theorem freeze_facts (u : World) (g n : Nat) : (∀ j, j ≠ g → (u.freeze ⟨g, 0, none⟩ n).heap[j]? = u.heap[j]?) ∧ (u.freeze ⟨g, 0, none⟩ n).heap.size = u.heap.size ∧ (u.freeze ⟨g, 0, none⟩ n).os = u.os ∧ (u.freeze ⟨g, 0, none⟩ n).tape = u.tape ∧ (u.freeze ⟨g, 0, none⟩ n).output = u.output := by
  unfold World.freeze
  split
  · exact ⟨fun _ _ => rfl, rfl, rfl, rfl, rfl⟩
  · refine ⟨fun j hj => ?_, by simp, rfl, rfl, rfl⟩
    have : ¬ g = j := fun e => hj e.symm
    simp [Array.getElem?_modify, this]
section
variable {P : Program} {f : FuncId} {T e : Nat}
/-- an argument that is one pointer to an own place of the abstract memory -/
theorem one_ptr {args : Array Value} {a : Addr} {ρ : Ren} {args' : Array Value} (hl : args.toList = [.pointer (some a)]) (hs : a.spot = none) (ho : a.off = 0) (h : VRs ρ args args') :
    ∃ k, ρ.φ a.block = some k ∧ args' = #[.pointer (some ⟨k, 0, none⟩)] := by
  obtain ⟨b, o, s⟩ := a
  simp only at hs ho
  subst hs ho
  obtain ⟨l⟩ := args
  simp only at hl
  subst hl
  obtain ⟨h1, h2⟩ := h
  obtain ⟨l'⟩ := args'
  simp at h1
  match l', h1 with
  | [v'], _ =>
    have := h2 0 (.pointer (some ⟨b, 0, none⟩)) v' (by simp) (by simp)
    cases this with
    | ptr h => exact ⟨_, h, rfl⟩
theorem sumCheck_sound (h1 : ∀ (b : Nat) (w : World), w.cell? ⟨b, 0, none⟩ = some (.pointer (some ⟨b, 0, none⟩)) → Calls P f #[.pointer (some ⟨b, 0, none⟩)] w fun e w' => e = .returned (.tuple #[]) ∧ w' = w)
    (h2 : ∀ (b : Nat) (w : World), w.cell? ⟨b, 0, none⟩ = some (.pointer none) → w.shape? b = some (T, 2) → w.frozen? ⟨b, 0, none⟩ = false →
      Calls P f #[.pointer (some ⟨b, 0, none⟩)] w fun e w' => e = .returned (.tuple #[]) ∧ w' = w.setCell ⟨b, 0, none⟩ (.pointer (some ⟨b, 0, none⟩)))
    (args : Array Value) (σ : St) (r : Er) (h : sumCheck T args σ = some r) : CallSound P f args σ r := by
  intro ρ args' w ha hr
  unfold sumCheck at h
  split at h
  · rename_i a hl
    split at h
    · rename_i x1 x2 rr hs ho hrow
      have ho := Nat.eq_of_beq_eq_true ho
      obtain ⟨k, hk, rfl⟩ := one_ptr hl hs ho ha
      have hg := rowOf_some hrow
      obtain ⟨k', y, e1, e2, cs, ty, fr, rfl, hR⟩ := hr.live _ _ hg
      have : k' = k := by rw [hk] at e1; exact (Option.some.inj e1).symm
      subst this
      split at h
      · rename_i c1 hb hc
        simp only [Bool.and_eq_true, Nat.beq_eq] at hb
        obtain ⟨⟨hown, hty⟩, hsz⟩ := hb
        obtain ⟨v', p1, p2⟩ := hR.get 0 (.pointer none) (by rw [hc]; rfl)
        have hv : v' = .pointer none := by cases p2; rfl
        subst hv
        have hcs : cs.size = 2 := by rw [hR.eq hsz, hc]; rfl
        have hfr := hR.fr hown
        subst hfr
        have hcell : w.cell? ⟨k', 0, none⟩ = some (.pointer none) := by simp [World.cell?, e2, p1]
        have hsh : w.shape? k' = some (T, 2) := by simp [World.shape?, e2, hR.ty hown, hty, hcs]
        have hfz : w.frozen? ⟨k', 0, none⟩ = false := by simp [World.frozen?, e2]
        cases hp : σ.put a (.pointer (some a)) with
        | none => rw [hp] at h; cases h
        | some σ1 =>
        rw [hp] at h
        cases Option.some.inj h
        refine (h2 k' w hcell hsh hfz).mono ?_
        rintro e w' ⟨rfl, rfl⟩
        have hA : AdR ρ a ⟨k', 0, none⟩ := ⟨hs, rfl, ho.symm, hk⟩
        have hsim := sim_store (P := P) (m := default) hA hA.ptr σ w hr (.ok () σ1) (by
          change (match flat (.pointer (some a)), σ.put ⟨a.block, a.off, a.spot⟩ (.pointer (some a)) with | true, some s' => runA P (Sem.pure ()) s' | _, _ => none) = _
          rw [show σ.put ⟨a.block, a.off, a.spot⟩ (.pointer (some a)) = some σ1 from hp]
          rfl)
        obtain ⟨ρ', x', w1, q1, q2, q3, q4, -⟩ := hsim
        have hw : w1 = w.setCell ⟨k', 0, none⟩ (.pointer (some ⟨k', 0, none⟩)) := by
          have : (store ⟨k', 0, none⟩ (.pointer (some ⟨k', 0, none⟩)) default).run P w = .ok () (w.setCell ⟨k', 0, none⟩ (.pointer (some ⟨k', 0, none⟩))) := by simp [store, Sem.run, hcell, hfz]
          rw [this] at q2
          cases q2
          rfl
        subst hw
        exact ⟨ρ', .tuple #[], rfl, .tuple rfl (fun i v v' h => by simp at h), q3, q1, q4⟩
      · rename_i q x hb hc
        simp only [Bool.and_eq_true, Nat.beq_eq] at hb
        split at h
        · rename_i hqs hq
          simp only [Bool.and_eq_true, Nat.beq_eq] at hq
          cases Option.some.inj h
          obtain ⟨v', p1, p2⟩ := hR.get 0 (.pointer (some q)) (by rw [hc]; rfl)
          obtain ⟨qb, qo, qs⟩ := q
          simp only at hqs hq
          obtain ⟨rfl, rfl⟩ := hq
          subst hqs
          have hv : v' = .pointer (some ⟨k', 0, none⟩) := by
            cases p2 with
            | ptr h => rw [hk] at h; rw [Option.some.inj h]
          subst hv
          refine (h1 k' w (by simp [World.cell?, e2, p1])).mono ?_
          rintro e w' ⟨rfl, rfl⟩
          exact ⟨ρ, .tuple #[], rfl, .tuple rfl (fun i v v' h => by simp at h), hr, .refl ρ, .refl _⟩
        · cases h
      · cases h
    · cases h
  · cases h
theorem sumString_sound (h1 : ∀ (b n c : Nat) (w : World), n = 0 → w.cell? ⟨b, 1, none⟩ = some (.slice none n c) → Calls P f #[.pointer (some ⟨b, 0, none⟩)] w fun e w' => e = .returned (.string ⟨#[]⟩) ∧ (w'.heap = w.heap ∧ w'.os = w.os ∧ w'.tape = w.tape ∧ w'.output = w.output))
    (h2 : ∀ (b g c m : Nat) (l : List UInt8) (w : World), l ≠ [] → c ≠ 0 → w.cell? ⟨b, 1, none⟩ = some (.slice (some ⟨g, 0, none⟩) l.length c) → w.shape? g = some (e, m) → l.length ≤ m → l.length ≤ 9223372036854775807 →
      (∀ (j : Nat) (x : UInt8), l[j]? = some x → w.cell? ((⟨g, 0, none⟩ : Addr).add j) = some (.int .u8 x.toNat)) →
      Calls P f #[.pointer (some ⟨b, 0, none⟩)] w fun e w' => e = .returned (.string ⟨l.toArray⟩) ∧ ∃ u : World, (u.heap = w.heap ∧ u.os = w.os ∧ u.tape = w.tape ∧ u.output = w.output) ∧ w' = u.freeze ⟨g, 0, none⟩ l.length)
    (args : Array Value) (σ : St) (r : Er) (h : sumString e args σ = some r) : CallSound P f args σ r := by
  intro ρ args' w ha hr
  unfold sumString at h
  split at h
  · rename_i a hl
    split at h
    · rename_i x1 x2 rr hs ho hrow
      have ho := Nat.eq_of_beq_eq_true ho
      obtain ⟨k, hk, rfl⟩ := one_ptr hl hs ho ha
      have hg := rowOf_some hrow
      obtain ⟨k', y, e1, e2, cs, ty, fr, rfl, hR⟩ := hr.live _ _ hg
      have : k' = k := by rw [hk] at e1; exact (Option.some.inj e1).symm
      subst this
      split at h
      · rename_i p0 n c hc
        cases hb : (Nat.beq n 0 && Nat.blt c big) with
        | false => rw [hb] at h; cases h
        | true =>
        rw [hb] at h
        cases Option.some.inj h
        simp only [Bool.and_eq_true] at hb
        obtain ⟨v', p1, p2⟩ := hR.get 1 (.slice none n c) (by rw [hc]; rfl)
        have hv : v' = .slice none n c := by
          cases p2 with
          | nilSlice => rfl
          | empty a c' => exact absurd hb.2 (by decide)
        subst hv
        refine (h1 k' n c w (Nat.eq_of_beq_eq_true hb.1) (by simp [World.cell?, e2, p1])).mono ?_
        rintro e w' ⟨rfl, q1, q2, q3, q4⟩
        exact ⟨ρ, _, rfl, .string _, hr.heap_eq q1, .refl ρ, .drew q1 q2 q3 q4⟩
      · rename_i p0 q n c hc
        split at h
        · rename_i y1 y2 t hqs hqo hrow2
          split at h
          · rename_i l hb hl2
            simp only [Bool.and_eq_true, Nat.beq_eq, Nat.ble_eq, Bool.not_eq_true'] at hb
            obtain ⟨⟨⟨⟨⟨⟨b1, b2⟩, b3⟩, b4⟩, b5⟩, b6⟩, b7⟩ := hb
            cases Option.some.inj h
            obtain ⟨qb, qo, qs⟩ := q
            simp only at hqs hqo hrow2
            have hqo := Nat.eq_of_beq_eq_true hqo
            subst hqo hqs
            obtain ⟨hlen, hget⟩ := bytesOf_get hl2
            have hln : l.length = n := by rw [hlen, List.length_take]; omega
            have hg2 := rowOf_some hrow2
            obtain ⟨g, y, g1, g2, cs2, ty2, fr2, rfl, hR2⟩ := hr.live _ _ hg2
            obtain ⟨v', p1, p2⟩ := hR.get 1 (.slice (some ⟨qb, 0, none⟩) n c) (by rw [hc]; rfl)
            obtain ⟨c', hcR, rfl⟩ : ∃ c', CapR ρ qb 0 c c' ∧ v' = .slice (some ⟨g, 0, none⟩) n c' := by
              cases p2 with
              | slice h hcap => rw [g1] at h; cases Option.some.inj h; exact ⟨_, hcap, rfl⟩
            have hle2 := hR2.le
            have hc0 : c' ≠ 0 := by
              unfold CapR at hcR
              split at hcR
              · obtain ⟨R, z, r1, rfl⟩ := hcR
                intro hz
                have hR0 : R = 0 := by simpa using hz
                by_cases hsz : t.sz = 0
                · rename_i hcb
                  rw [hcb, hsz] at b7
                  cases b7
                · obtain ⟨R', r2, r3⟩ := hR2.room hsz
                  rw [r1] at r2
                  cases Option.some.inj r2
                  rw [hR0] at r3
                  simp at r3
                  rw [r3] at hle2
                  simp at hle2
                  rw [hle2] at b6
                  simp at b6
                  omega
              · intro hz
                rw [← hcR, hz] at b5
                cases b5
            refine (h2 k' g c' cs2.size l w (by intro hz; rw [hz] at hln; simp at hln; omega) hc0 (by rw [hln]; simp [World.cell?, e2, p1]) (by simp [World.shape?, g2, hR2.ty b1, b2]) (by omega) (by omega) ?_).mono ?_
            · intro j x hx
              have hj := hget j x hx
              have hj2 : t.cells[j]? = some (.int .u8 x.toNat) := by
                rw [List.getElem?_take] at hj
                split at hj
                · exact hj
                · cases hj
              obtain ⟨v', s1, s2⟩ := hR2.get j _ hj2
              have : v' = .int .u8 x.toNat := by cases s2; rfl
              subst this
              have hadd : (⟨g, 0, none⟩ : Addr).add j = ⟨g, j, none⟩ := by
                unfold Addr.add
                split
                · rename_i hj0; rw [hj0]
                · simp
              rw [hadd]
              simp [World.cell?, g2, s1]
            · rintro e w' ⟨rfl, u, ⟨q1, q2, q3, q4⟩, rfl⟩
              obtain ⟨f1, f2, f3, f4, f5⟩ := freeze_facts u g l.length
              have hne : ∀ j, j ≠ g → (u.freeze ⟨g, 0, none⟩ l.length).heap[j]? = w.heap[j]? := fun j hj => by rw [f1 j hj, q1]
              exact ⟨ρ, _, rfl, .string _, hr.forget hg2 b1 g1 hne, .refl ρ, .forget hg2 b1 g1 hne (by rw [f2, q1]) (by rw [f3, q2]) (by rw [f4, q3]) (by rw [f5, q4])⟩
          · cases h
        · cases h
      · cases h
    · cases h
  · cases h
end
end Go.Ev
namespace Go.Proofs.YtneohoclgnfdcaaGreatDoor
open Go.Ev
/-- the evaluator's summaries of this program -/
def sums (f : FuncId) : Option (Array Value → St → Option Er) :=
  match Nat.beq f 37, Nat.beq f 24 with
  | true, _ => some (sumCheck 59)
  | false, true => some (sumString 5)
  | false, false => none
theorem sums_sound (g : FuncId) (s : Array Value → St → Option Er) (hs : sums g = some s) (args : Array Value) (σ : St) (r : Er) (h : s args σ = some r) : CallSound Tryz.prog g args σ r := by
  unfold sums at hs
  split at hs
  · rename_i h1
    cases Option.some.inj hs
    have := Nat.eq_of_beq_eq_true h1
    subst this
    exact sumCheck_sound bcheck_usedE bcheck_freshE args σ r h
  · rename_i h1
    cases Option.some.inj hs
    have := Nat.eq_of_beq_eq_true h1
    subst this
    exact sumString_sound bstring_nilE bstring_rowE args σ r h
  · cases hs
end Go.Proofs.YtneohoclgnfdcaaGreatDoor
/- A closed call that evaluates to true answers true in every world. -/
namespace Go.Ev
def zeroB (i : TypeInfo) : Bool := match i.zero with | some z => plainV 6 z | none => true
def Selfs (z : Value) : Prop := ∀ ρ : Ren, VR ρ z z
theorem Selfs.cells {z : Value} (h : Selfs z) : ∀ v ∈ z.cells.toList, Selfs v := by
  intro v hv ρ
  obtain ⟨h1, h2⟩ := (h ρ).cells
  obtain ⟨n, hn, e⟩ := List.getElem_of_mem hv
  have : z.cells[n]? = some v := by rw [← e]; simp
  exact h2 n v v this this
theorem Selfs.agg {cs : Array Value} (h : ∀ v ∈ cs.toList, Selfs v) : Selfs (.agg cs) := fun ρ =>
  let k := VRs.refl_of fun v hv => h v hv ρ
  .agg k.1 k.2
theorem forIn_inv {α β : Type} (I : β → Prop) (f : α → β → Option (ForInStep β)) (hf : ∀ a b r, I b → f a b = some r → I r.value) : ∀ (l : List α) (b b' : β), I b → forIn l b f = some b' → I b' := by
  intro l
  induction l with
  | nil => intro b b' hb h; cases Option.some.inj (show some b = some b' from h); exact hb
  | cons a l ih =>
    intro b b' hb h
    rw [List.forIn_cons] at h
    obtain ⟨r, hr, h2⟩ := Option.bind_eq_some_iff.1 h
    have := hf a b r hb hr
    cases r with
    | done x => cases Option.some.inj (show some x = some b' from h2); exact this
    | yield x => exact ih x b' this h2
theorem struct_zero {info : TypeId → Option TypeInfo} (hi : ∀ t i z, info t = some i → i.zero = some z → Selfs z) {fs : Array Field} {i : TypeInfo} {z : Value} (h : Made.reckonStruct info fs = some i) (hz : i.zero = some z) : Selfs z := by
  unfold Made.reckonStruct at h
  obtain ⟨s, hs, h2⟩ := Option.bind_eq_some_iff.1 h
  rw [← Array.forIn_toList] at hs
  have key := forIn_inv (fun s : Array Field × Nat × Nat × Nat × Nat × Bool × Bool × Option (Array Value) × String => ∀ cs, s.2.2.2.2.2.2.2.1 = some cs → ∀ v ∈ cs.toList, Selfs v) _ (by
    intro f s0 r hI hr
    obtain ⟨k, hk, hr⟩ := Option.bind_eq_some_iff.1 hr
    have fin : ∀ (c : Prop) [Decidable c] (cs : Array Value), (if c then none else (s0.2.2.2.2.2.2.2.1).bind fun a => k.zero.bind fun b => some (a ++ b.cells)) = some cs → ∀ v ∈ cs.toList, Selfs v := by
      intro c _ cs h v hv
      split at h
      · cases h
      · obtain ⟨a, ha, h⟩ := Option.bind_eq_some_iff.1 h
        obtain ⟨b, hb, h⟩ := Option.bind_eq_some_iff.1 h
        cases Option.some.inj h
        simp only [Array.toList_append, List.mem_append] at hv
        rcases hv with hv | hv
        · exact hI a ha v hv
        · exact (hi _ _ _ hk hb).cells v hv
    dsimp only at hr
    by_cases c1 : k.str.isEmpty = true
    · rw [if_pos c1] at hr; cases hr
    rw [if_neg c1] at hr
    by_cases c2 : f.embedded = true
    · rw [if_pos c2] at hr; cases hr
    rw [if_neg c2] at hr
    by_cases c3 : f.tag.isEmpty = true
    · rw [if_pos c3] at hr
      by_cases c4 : k.bytes = 0
      · simp only [if_pos c4] at hr
        cases Option.some.inj hr; exact fun cs => fin _ cs
      · simp only [if_neg c4] at hr
        cases Option.some.inj hr; exact fun cs => fin _ cs
    · rw [if_neg c3] at hr
      obtain ⟨tg, -, hr⟩ := Option.bind_eq_some_iff.1 hr
      by_cases c4 : k.bytes = 0
      · simp only [if_pos c4] at hr
        cases Option.some.inj hr; exact fun cs => fin _ cs
      · simp only [if_neg c4] at hr
        cases Option.some.inj hr; exact fun cs => fin _ cs) fs.toList _ s (by intro cs h v hv; cases Option.some.inj h; simp at hv) hs
  have h3 : i.zero = s.2.2.2.2.2.2.2.1.map .agg := by
    dsimp only at h2
    split at h2
    · cases Option.some.inj h2; rfl
    · cases Option.some.inj h2; rfl
  rw [h3] at hz
  obtain ⟨cs, h4, rfl⟩ := Option.map_eq_some_iff.1 hz
  exact .agg (key cs h4)
theorem reckon_zero {info : TypeId → Option TypeInfo} (hi : ∀ t i z, info t = some i → i.zero = some z → Selfs z) {d : TypeDesc} {i : TypeInfo} {z : Value} (h : Made.reckon info d = some i) (hz : i.zero = some z) : Selfs z := by
  unfold Made.reckon at h
  split at h
  · rename_i e
    obtain ⟨k, hk, h⟩ := Option.bind_eq_some_iff.1 h
    have fin : ∀ s, Made.word (.pointer e) s (.pointer none) true = i → Selfs z := by
      rintro s rfl
      cases Option.some.inj hz
      exact fun ρ => .nilPtr
    split at h
    · cases h
    · split at h
      · cases h
      · obtain ⟨k2, -, h⟩ := Option.bind_eq_some_iff.1 h
        exact fin _ (Option.some.inj h)
    · obtain ⟨k2, -, h⟩ := Option.bind_eq_some_iff.1 h
      exact fin _ (Option.some.inj h)
  · obtain ⟨k, -, h⟩ := Option.bind_eq_some_iff.1 h
    obtain ⟨k2, -, h⟩ := Option.bind_eq_some_iff.1 h
    cases Option.some.inj h
    cases Option.some.inj hz
    exact fun ρ => .nilSlice 0 0
  · obtain ⟨k, -, h⟩ := Option.bind_eq_some_iff.1 h
    obtain ⟨k2, -, h⟩ := Option.bind_eq_some_iff.1 h
    obtain ⟨k3, -, h⟩ := Option.bind_eq_some_iff.1 h
    obtain ⟨k4, -, h⟩ := Option.bind_eq_some_iff.1 h
    cases Option.some.inj h
    cases Option.some.inj hz
    exact fun ρ => .nilMap
  · obtain ⟨k, -, h⟩ := Option.bind_eq_some_iff.1 h
    obtain ⟨k2, -, h⟩ := Option.bind_eq_some_iff.1 h
    cases Option.some.inj h
    cases Option.some.inj hz
    exact fun ρ => .nilChan
  · obtain ⟨k, -, h⟩ := Option.bind_eq_some_iff.1 h
    cases Option.some.inj h
    cases Option.some.inj hz
    exact fun ρ => .nilFunc
  · obtain ⟨k, hk, h⟩ := Option.bind_eq_some_iff.1 h
    obtain ⟨k2, -, h⟩ := Option.bind_eq_some_iff.1 h
    cases Option.some.inj h
    simp only at hz
    split at hz
    · cases hz
    · split at hz
      · cases Option.some.inj hz; exact .agg fun v hv => by simp at hv
      · obtain ⟨z0, hz0, rfl⟩ := Option.map_eq_some_iff.1 hz
        refine .agg fun v hv => ?_
        have := (hi _ _ _ hk hz0).cells
        simp only [Array.toList_flatten, Array.toList_replicate, List.map_replicate, List.mem_flatten, List.mem_replicate] at hv
        obtain ⟨l, ⟨-, rfl⟩, hv⟩ := hv
        exact this v hv
  · exact struct_zero hi h hz
  · cases h
theorem infoAt_zero {T : Tables} (hT : ∀ (t : Nat) (i : TypeInfo) (z : Value), T.types[t]? = some i → i.zero = some z → Selfs z) : ∀ f t i z, Made.infoAt T f t = some i → i.zero = some z → Selfs z := by
  intro f
  induction f with
  | zero => intro t i z h; cases h
  | succ f ih =>
    intro t i z h hz
    unfold Made.infoAt at h
    split at h
    · exact hT t i z h hz
    · obtain ⟨d, -, h⟩ := Option.bind_eq_some_iff.1 h
      exact reckon_zero ih h hz
theorem zeroOk_of {P : Program} (h : P.types.toList.all zeroB = true) : ZeroOk P := by
  have hT : ∀ (t : Nat) (i : TypeInfo) (z : Value), P.types[t]? = some i → i.zero = some z → Selfs z := by
    intro t i z hi hz ρ
    have h1 : i ∈ P.types.toList := Array.mem_toList_iff.2 (Array.mem_of_getElem? hi)
    have := List.all_eq_true.1 h i h1
    unfold zeroB at this
    rw [hz] at this
    exact plain_refl 6 z this
  intro t i z hi hz
  unfold Tables.info? at hi
  split at hi
  · exact hT t i z hi hz
  · exact infoAt_zero hT _ t i z hi hz
theorem names_of {P : Program} (h : P.funcs.toList.all (fun fn => !(fn.name == "runtime.NumGoroutine")) = true) : ∀ (f : Nat) (fn : Func), P.funcs[f]? = some fn → (fn.name == "runtime.NumGoroutine") = false := by
  intro f fn hf
  have h1 : fn ∈ P.funcs.toList := Array.mem_toList_iff.2 (Array.mem_of_getElem? hf)
  have := List.all_eq_true.1 h fn h1
  simpa using this
def startS (n : Nat) : St := ⟨.leaf, n, n⟩
def startR (n : Nat) : Ren := ⟨fun g => if g < n then some g else none, fun _ => none⟩
theorem startRel (n : Nat) (w : World) : Rel (startR n) (startS n) w where
  live := fun id o h => by cases h
  inj := fun i j oi oj h => by cases h
  fresh := fun id h => ⟨by simp [startR]; exact h, rfl⟩
  glob := fun g h => by simp [startR]; exact h
  gn := Nat.le_refl _
def isTrue (r : Option Er) : Bool := match r with | some (.ret (.bool true) _) => true | _ => false
theorem true_of {P : Program} {f : FuncId} {n : Nat} {r : Option Er} (h : isTrue r = true) (hs : ∀ q, r = some q → CallSound P f #[] (startS n) q) (w : World) : Calls P f #[] w fun e w' => e = .returned (.bool true) ∧ Go.RowKit.Below w.heap.size w w' := by
  unfold isTrue at h
  split at h
  · rename_i σ'
    refine (hs _ rfl (startR n) #[] w ⟨rfl, fun i v v' h => by simp at h⟩ (startRel n w)).mono ?_
    rintro e w' ⟨ρ', v', rfl, hv, hr, hs⟩
    cases hv
    exact ⟨rfl, hs.keep.os, hs.keep.tape, hs.keep.output, hs.keep.size, fun k hk => hs.keep.old k hk fun id o h => by cases h⟩
  · cases h
end Go.Ev
namespace Go.Proofs.YtneohoclgnfdcaaGreatDoor
open Go.Ev
theorem zerosE : ZeroOk Tryz.prog := zeroOk_of (by kernel_rfl)
theorem namesE : ∀ (f : Nat) (fn : Func), Tryz.prog.funcs[f]? = some fn → (fn.name == "runtime.NumGoroutine") = false := names_of (by kernel_rfl)
theorem mixedE : Tryz.prog.follows .mixedOrders = true := by kernel_rfl
theorem evE {f : FuncId} {args : Array Value} {σ : St} {r : Er} (n : Nat) (h : evRun Tryz.prog sums 400 n f args σ = some r) : CallSound Tryz.prog f args σ r := run_sound zerosE namesE mixedE sums_sound 400 n f args σ r h
end Go.Proofs.YtneohoclgnfdcaaGreatDoor
/- strings.Builder at this dump: the check of copies, and WriteString. -/
namespace Go.Proofs.YtneohoclgnfdcaaGreatDoor
open Go.RowKit
open Go.Lib hiding intOf
theorem bld_info : (Tryz.prog.info? 59).map (·.size) = some 2 := by kernel_rfl
set_option maxHeartbeats 1000000 in
set_option maxRecDepth 100000 in
theorem bcheck_used (b : Nat) (w : World) (h0 : w.cell? ⟨b, 0, none⟩ = some (.pointer (some ⟨b, 0, none⟩))) :
    Calls Tryz.prog 37 #[.pointer (some ⟨b, 0, none⟩)] w fun e w' => e = .returned (.tuple #[]) ∧ w' = w := by
  obtain ⟨j, hj, _⟩ := Option.map_eq_some_iff.1 bld_info
  go_enter Tryz.func37, Tryz.ntmps37
  go_wp2
  rw [Lib.run_neq_ptr_same w _ Tryz.underlying57 hj]
  go_wp2
  go_end0
  exact ⟨rfl, rfl⟩
set_option maxHeartbeats 1000000 in
set_option maxRecDepth 100000 in
theorem bcheck_fresh (b : Nat) (w : World) (h0 : w.cell? ⟨b, 0, none⟩ = some (.pointer none)) (hsh : w.shape? b = some (59, 2)) (hfz : w.frozen? ⟨b, 0, none⟩ = false) :
    Calls Tryz.prog 37 #[.pointer (some ⟨b, 0, none⟩)] w fun e w' => e = .returned (.tuple #[]) ∧ w' = w.setCell ⟨b, 0, none⟩ (.pointer (some ⟨b, 0, none⟩)) := by
  obtain ⟨j, hj, hjs⟩ := Option.map_eq_some_iff.1 bld_info
  go_enter Tryz.func37, Tryz.ntmps37
  go_wp2
  rw [Lib.run_to_unsafe w ⟨b, 0, none⟩ Tryz.underlying57 Tryz.underlying111 hj (by rw [hjs]; decide) hsh (Nat.zero_lt_succ 1)]
  simp only [Result.andThen]
  rw [Oper.upon_value]
  go_wp2
  rw [run_callFunc_extern Tryz.func63 (by kernel_rfl) (by kernel_rfl) (by kernel_rfl) (e := Extern.AbiNoEscape.same) (by kernel_rfl)]
  rw [Lib.run_noEscape]
  simp only [Result.andThen]
  rw [Oper.upon_value]
  go_wp2
  rw [Lib.run_from_unsafe w ⟨b, 0, none⟩ Tryz.underlying111 Tryz.underlying57 hj hsh (by kernel_rfl)]
  simp only [Result.andThen]
  rw [Oper.upon_value]
  go_wp2
  go_end0
  exact ⟨rfl, rfl⟩
theorem bcheck_any (B b : Nat) (bs : List Value) (w : World) (h : Lib.IsBuilder 59 5 B b bs w) :
    Calls Tryz.prog 37 #[.pointer (some ⟨b, 0, none⟩)] w fun e w' => e = .returned (.tuple #[]) ∧ (Lib.BuilderAt 59 5 B b (.pointer (some ⟨b, 0, none⟩)) bs w' ∧ Below B w w') := by
  rcases h with h | h
  · refine (bcheck_fresh b w h.cell0 h.shape h.frozen0).mono ?_
    rintro e w' ⟨rfl, rfl⟩
    exact ⟨rfl, h.used _, (Below.refl B w).setCell (p := ⟨b, 0, none⟩) h.1 _⟩
  · refine (bcheck_used b w h.cell0).mono ?_
    rintro e w' ⟨rfl, rfl⟩
    exact ⟨rfl, h, Below.refl B _⟩
set_option maxHeartbeats 1000000 in
set_option maxRecDepth 100000 in
theorem bwrite_any (B b : Nat) (l : List UInt8) (s : ByteArray) (w : World) (h : Lib.IsBuilder 59 5 B b (Lib.byteCells l) w) (hlen : l.length + s.size ≤ 140737488355328) (hBw : B ≤ w.heap.size) :
    Calls Tryz.prog 18 #[.pointer (some ⟨b, 0, none⟩), .string s] w fun e w' => e = .returned (.tuple #[.int .i64 s.size, .nilIface]) ∧ (Lib.IsBuilder 59 5 B b (Lib.byteCells (l ++ s.data.toList)) w' ∧ Below B w w') := by
  go_enter Tryz.func18, Tryz.ntmps18
  go_wp2_with (go_at_call 37; refine (bcheck_any B b _ _ h).mono ?_)
  rintro e w1 ⟨rfl, h1, hb1⟩
  obtain ⟨hB, v, hbk, hown, hne⟩ := h1
  rw [Lib.byteCells_length] at hown
  have c0 : w1.cell? ⟨b, 0, none⟩ = some (.pointer (some ⟨b, 0, none⟩)) := by rw [Lib.cell_of_heap hbk]; rfl
  have c1 : w1.cell? ⟨b, 1, none⟩ = some v := by rw [Lib.cell_of_heap hbk]; rfl
  go_wp2_with (at_builtin; refine app_str _ rfl _ _ rfl rfl (B := B) hown s rfl hlen (Nat.le_trans hBw hb1.size) ?_)
  intro v' w2 hown' hb2 hg
  have hlt : b < w1.heap.size := (Array.getElem?_eq_some_iff.1 hbk).1
  have hb3 : w2.heap[b]? = some (.cells #[.pointer (some ⟨b, 0, none⟩), v] 59 (0, 0)) := by
    rw [hg.block b hlt (fun e => hne e.symm)]
    exact hbk
  have d0 : w2.cell? ⟨b, 0, none⟩ = some (.pointer (some ⟨b, 0, none⟩)) := by rw [Lib.cell_of_heap hb3]; rfl
  have d1 : w2.cell? ⟨b, 1, none⟩ = some v := by rw [Lib.cell_of_heap hb3]; rfl
  have f1 : w2.frozen? ⟨b, 1, none⟩ = false := Lib.frozen_of_heap hb3 1
  obtain ⟨ao, cap, rfl⟩ := hown'.slice
  go_wp2
  go_ret2
  refine ⟨rfl, .inr ?_, ?_⟩
  · exact Lib.BuilderAt.put (T := 59) (e := 5) hB hb3 (bs' := Lib.byteCells (l ++ s.data.toList)) (by rw [Lib.byteCells_length, show l.length + s.size = (l ++ s.data.toList).length from by simp]; exact hown') (by decide)
  · exact (hb1.trans hb2).setCell (p := ⟨b, 1, none⟩) hB _
end Go.Proofs.YtneohoclgnfdcaaGreatDoor
/- canon.of: the table of a graph. -/
namespace Go.Proofs.YtneohoclgnfdcaaGreatDoor
open Go.RowKit
open Go.Lib hiding intOf
/-- a table: the graph, and a row of n slices of which none is known yet or each is the entries of its node -/
structure TabAt (w : World) (b r : Nat) (v : Value) (root : Int) (n : Nat) (E : List Value) : Prop where
  box : w.heap[b]? = some (.cells #[v, .int .i64 root, .slice (some ⟨r, 0, none⟩) n n] 134)
  row : w.heap[r]? = some (.cells E.toArray 31)
  len : E.length = n
  ne : b ≠ r
set_option maxHeartbeats 4000000 in
set_option maxRecDepth 100000 in
theorem of_any (w : World) (v : Value) (root : Int) (N : List Nd) (hN : NodesAt w v N) (hn : N.length ≤ 4096) :
    Calls Tryz.prog 51 #[.agg #[v, .int .i64 root]] w fun e w' => e = .returned (.pointer (some ⟨w.heap.size + 1 + 1, 0, none⟩)) ∧ Below w.heap.size w w' ∧ TabAt w' (w.heap.size + 1 + 1) (w.heap.size + 1) v root N.length (List.replicate N.length (.slice none 0 0)) := by
  obtain ⟨va, vc, rfl, hvl, hvn⟩ := hN
  clear hvn
  have hmk2 : ∀ wx : World, (Instr.makeSlice 132 (.int .i64 (N.length : Int)) (.int .i64 (N.length : Int))).run Tryz.prog wx = .ok (.slice (some ⟨wx.heap.size, 0, none⟩) N.length N.length) (wx.alloc (.cells (Array.replicate N.length (.slice none 0 0)) 31)) := fun wx => by
    rw [run_make_row' 132 31 (.slice none 0 0) 24 Tryz.underlying132 info_slice0 rfl .i64 .i64 N.length (by omega) (by omega) wx, made_rep]
  as_aux_lemma =>
  go_enter Tryz.func51, Tryz.ntmps51
  as_aux_lemma =>
  go_upto_region 1 with fail
  have hs0 : (w.alloc (.cells #[.slice va N.length vc, .int .i64 root] 36)).heap.size = w.heap.size + 1 := size_new _ _
  have hx0 : (w.alloc (.cells #[.slice va N.length vc, .int .i64 root] 36)).heap[w.heap.size]? = some (.cells #[.slice va N.length vc, .int .i64 root] 36) := heap_alloc_new w _
  have HB0 : PLift (Below w.heap.size w (w.alloc (.cells #[.slice va N.length vc, .int .i64 root] 36))) := ⟨below_new w _⟩
  obtain ⟨W0, hW0⟩ : ∃ W0, w.alloc (.cells #[.slice va N.length vc, .int .i64 root] 36) = W0 := ⟨_, rfl⟩
  rw [hW0] at hs0 hx0 HB0 ⊢
  have c0 : W0.cell? ⟨w.heap.size, 0, none⟩ = some (.slice va N.length vc) := (Lib.cell_of_heap hx0 0).trans rfl
  have c1 : W0.cell? ⟨w.heap.size, 1, none⟩ = some (.int .i64 root) := (Lib.cell_of_heap hx0 1).trans rfl
  have c0' := fun ob => cell_keep (below_new W0 ob) c0
  have c1' := fun ob => cell_keep (below_new W0 ob) c1
  have HS0 := PLift.up hs0
  clear hx0 hs0 hW0
  as_aux_lemma =>
  go_region
  all_goals
    as_aux_lemma =>
    go_wp2
    refine bodyPost_ret (v := .pointer (some ⟨W0.heap.size + 1, 0, none⟩)) (by simp only [results, Tryz.results51]; go_simp) rfl ?_
    have hz : w.heap.size ≤ W0.drew.heap.size := by have h1 := HS0.down; have h2 : W0.drew.heap.size = W0.heap.size := rfl; omega
    have hb := ((Below.refl w.heap.size W0).drew.alloc hz (.cells (Array.replicate N.length (.slice none 0 0)) 31))
    refine ⟨by rw [HS0.down], HB0.down.trans (hb.alloc (Nat.le_trans hz (by rw [size_new]; omega)) _), ?_⟩
    rw [← HS0.down]
    refine ⟨?_, ?_, by simp, by omega⟩
    · have h := heap_alloc_new (W0.alloc (.cells (Array.replicate N.length (.slice none 0 0)) 31)) (.cells #[.slice va N.length vc, .int .i64 root, .slice (some ⟨W0.heap.size, 0, none⟩) N.length N.length] 134)
      rw [size_new] at h
      exact h
    · have h := heap_alloc_new W0 (.cells (Array.replicate N.length (.slice none 0 0)) 31)
      rw [← Lib.alloc_old (W0.alloc (.cells (Array.replicate N.length (.slice none 0 0)) 31)) (.cells #[.slice va N.length vc, .int .i64 root, .slice (some ⟨W0.heap.size, 0, none⟩) N.length N.length] 134) _ (by rw [size_new]; omega)] at h
      refine h.trans ?_
      simp
end Go.Proofs.YtneohoclgnfdcaaGreatDoor
/- strings.Builder: WriteByte. -/
namespace Go.Proofs.YtneohoclgnfdcaaGreatDoor
open Go.RowKit
open Go.Lib hiding intOf
set_option maxHeartbeats 1000000 in
set_option maxRecDepth 100000 in
theorem bbyte_any (B b : Nat) (l : List UInt8) (c : UInt8) (w : World) (h : Lib.IsBuilder 59 5 B b (Lib.byteCells l) w) (hlen : l.length + 1 ≤ 140737488355328) (hBw : B ≤ w.heap.size) :
    Calls Tryz.prog 66 #[.pointer (some ⟨b, 0, none⟩), .int .u8 c.toNat] w fun e w' => e = .returned .nilIface ∧ (Lib.IsBuilder 59 5 B b (Lib.byteCells (l ++ [c])) w' ∧ Below B w w') := by
  obtain ⟨i0, hi0, hz0, hz1, hz2⟩ := info_parts info_u8
  have HI0 := PLift.up (And.intro hi0 (And.intro hz0 (And.intro hz1 hz2)))
  have HBC := PLift.up (bcheck_any B b _ _ h)
  clear hi0 hz0 hz1 hz2 h
  as_aux_lemma =>
  go_enter Tryz.func66, Tryz.ntmps66
  as_aux_lemma =>
  go_upto_region 2 with (go_at_call 37; refine (HBC.down).mono ?_; rintro e w1 ⟨rfl, h1, hb1⟩; have H1 := PLift.up h1; have HB1 := PLift.up hb1; clear h1 hb1)
  obtain ⟨hB, v, hbk, hown, hne⟩ := H1.down
  rw [Lib.byteCells_length] at hown
  have c0 : w1.cell? ⟨b, 0, none⟩ = some (.pointer (some ⟨b, 0, none⟩)) := by rw [Lib.cell_of_heap hbk]; rfl
  have c1 : w1.cell? ⟨b, 1, none⟩ = some v := by rw [Lib.cell_of_heap hbk]; rfl
  have HOWN := PLift.up (World.ownsRow.alloc hown (.cells #[.int .u8 c.toNat] 5))
  have HB := PLift.up hB
  have HBK := PLift.up hbk
  have HNE := PLift.up hne
  have HBS : PLift (B ≤ (w1.alloc (.cells #[.int .u8 c.toNat] 5)).heap.size) := ⟨by rw [size_new]; have := HB1.down.size; omega⟩
  have HNW : PLift ((w1.alloc (.cells #[.int .u8 c.toNat] 5)).cell? ⟨w1.heap.size, 0, none⟩ = some (.int .u8 c.toNat)) := ⟨(Lib.cell_of_heap (heap_alloc_new w1 _) 0).trans rfl⟩
  have HL := PLift.up hlen
  clear hown hB hbk hne hlen
  as_aux_lemma =>
  go_wp2_with (refine wpList_append_new _ rfl _ _ 37 rfl B 5 i0 (.int .u8 0) 1 1 Tryz.underlying37 HI0.down.1 HI0.down.2.1 HI0.down.2.2.1 HI0.down.2.2.2 rfl (by decide) v l.length (Lib.byteCells l) rfl HOWN.down ⟨w1.heap.size, 0, none⟩ 1 1 [.int .u8 c.toNat] rfl rfl (by intro j2 u hj2; match j2, hj2 with | 0, hj2 => simp only [List.getElem?_cons_zero, Option.some.injEq] at hj2; subst hj2; exact HNW.down | j2 + 1, hj2 => simp at hj2) (by simp [Value.oneCell']) (by decide) (by have := HL.down; unfold maxLen; omega) (by have := HL.down; omega) HBS.down ?_)
  intro v' w2 hown' hg hpl
  have hlt : b < w1.heap.size := block_lt HBK.down
  have hb3 : w2.heap[b]? = some (.cells #[.pointer (some ⟨b, 0, none⟩), v] 59 (0, 0)) := by
    rw [hg.block b (by rw [size_new]; omega) (fun e => HNE.down e.symm), Lib.alloc_old _ _ _ hlt]
    exact HBK.down
  have d1 : w2.cell? ⟨b, 1, none⟩ = some v := by rw [Lib.cell_of_heap hb3]; rfl
  have f1 : w2.frozen? ⟨b, 1, none⟩ = false := Lib.frozen_of_heap hb3 1
  have HG : PLift (Below B w1 w2) := ⟨((Below.refl B w1).alloc (by have := HB1.down.size; omega) _).grown hg HBS.down (fun k hk => (HOWN.down.lt k hk).1)⟩
  have HPUT := PLift.up (Lib.BuilderAt.put (T := 59) (e := 5) HB.down hb3 (bs' := Lib.byteCells (l ++ [c])) (v' := v') (by rw [Lib.byteCells_length, Lib.byteCells_append, show (l ++ [c]).length = l.length + 1 from by simp]; exact hown') (by decide))
  obtain ⟨A4, cc4, hv4⟩ := own_shape hown'
  subst hv4
  clear hown' hg hpl hb3
  as_aux_lemma =>
  go_wp2
  refine bodyPost_ret (v := .nilIface) (by simp only [results, Tryz.results66]; go_simp) rfl ?_
  exact ⟨rfl, .inr HPUT.down, (HB1.down.trans HG.down).setCell (p := ⟨b, 1, none⟩) HB.down _⟩
end Go.Proofs.YtneohoclgnfdcaaGreatDoor
/- strings.Builder's writers, with word of what else of the caller's stands: every block but the builder's and the rows of bytes. -/
namespace Go.Proofs.YtneohoclgnfdcaaGreatDoor
open Go.RowKit
open Go.Lib hiding intOf
theorem own_typed {B : Nat} {e size n : Nat} {v : Value} {xs : List Value} {w : World} (h : w.ownsRow B e size v n xs) (g : Nat) (hv : v.ownBlock = some g) : ∃ c fz, w.heap[g]? = some (.cells c e fz) := by
  rcases h.2 with ⟨rfl, -⟩ | ⟨g', cap, cur, rfl, -, h2, -⟩
  · cases hv
  · cases Option.some.inj hv
    exact ⟨cur, _, h2⟩
theorem bcheck_kept (B b : Nat) (bs : List Value) (w : World) (h : Lib.IsBuilder 59 5 B b bs w) :
    Calls Tryz.prog 37 #[.pointer (some ⟨b, 0, none⟩)] w fun e w' => e = .returned (.tuple #[]) ∧ (Lib.BuilderAt 59 5 B b (.pointer (some ⟨b, 0, none⟩)) bs w' ∧ Below B w w' ∧ OthersKept 5 (some b) w w') := by
  rcases h with h | h
  · refine (bcheck_fresh b w h.cell0 h.shape h.frozen0).mono ?_
    rintro e w' ⟨rfl, rfl⟩
    exact ⟨rfl, h.used _, (Below.refl B w).setCell (p := ⟨b, 0, none⟩) h.1 _, (OthersKept.refl _ _ w).setCell ⟨b, 0, none⟩ rfl _⟩
  · refine (bcheck_used b w h.cell0).mono ?_
    rintro e w' ⟨rfl, rfl⟩
    exact ⟨rfl, h, Below.refl B _, OthersKept.refl _ _ _⟩
set_option maxHeartbeats 1000000 in
set_option maxRecDepth 100000 in
theorem bwrite_kept (B b : Nat) (l : List UInt8) (s : ByteArray) (w : World) (h : Lib.IsBuilder 59 5 B b (Lib.byteCells l) w) (hlen : l.length + s.size ≤ 140737488355328) (hBw : B ≤ w.heap.size) :
    Calls Tryz.prog 18 #[.pointer (some ⟨b, 0, none⟩), .string s] w fun e w' => e = .returned (.tuple #[.int .i64 s.size, .nilIface]) ∧ (Lib.IsBuilder 59 5 B b (Lib.byteCells (l ++ s.data.toList)) w' ∧ Below B w w' ∧ OthersKept 5 (some b) w w') := by
  go_enter Tryz.func18, Tryz.ntmps18
  go_wp2_with (go_at_call 37; refine (bcheck_kept B b _ _ h).mono ?_)
  rintro e w1 ⟨rfl, h1, hb1, ho1⟩
  obtain ⟨hB, v, hbk, hown, hne⟩ := h1
  rw [Lib.byteCells_length] at hown
  have c0 : w1.cell? ⟨b, 0, none⟩ = some (.pointer (some ⟨b, 0, none⟩)) := by rw [Lib.cell_of_heap hbk]; rfl
  have c1 : w1.cell? ⟨b, 1, none⟩ = some v := by rw [Lib.cell_of_heap hbk]; rfl
  have HO1 := PLift.up ho1
  have HOW := PLift.up hown
  clear ho1
  go_wp2_with (at_builtin; refine app_str _ rfl _ _ rfl rfl (B := B) hown s rfl hlen (Nat.le_trans hBw hb1.size) ?_)
  intro v' w2 hown' hb2 hg
  have HO2 : PLift (OthersKept 5 (some b) w w2) := ⟨HO1.down.grown hg fun g hv => own_typed HOW.down g hv⟩
  have hlt : b < w1.heap.size := (Array.getElem?_eq_some_iff.1 hbk).1
  have hb3 : w2.heap[b]? = some (.cells #[.pointer (some ⟨b, 0, none⟩), v] 59 (0, 0)) := by
    rw [hg.block b hlt (fun e => hne e.symm)]
    exact hbk
  have d0 : w2.cell? ⟨b, 0, none⟩ = some (.pointer (some ⟨b, 0, none⟩)) := by rw [Lib.cell_of_heap hb3]; rfl
  have d1 : w2.cell? ⟨b, 1, none⟩ = some v := by rw [Lib.cell_of_heap hb3]; rfl
  have f1 : w2.frozen? ⟨b, 1, none⟩ = false := Lib.frozen_of_heap hb3 1
  obtain ⟨ao, cap, rfl⟩ := hown'.slice
  go_wp2
  go_ret2
  refine ⟨rfl, .inr ?_, ?_, ?_⟩
  · exact Lib.BuilderAt.put (T := 59) (e := 5) hB hb3 (bs' := Lib.byteCells (l ++ s.data.toList)) (by rw [Lib.byteCells_length, show l.length + s.size = (l ++ s.data.toList).length from by simp]; exact hown') (by decide)
  · exact (hb1.trans hb2).setCell (p := ⟨b, 1, none⟩) hB _
  · exact HO2.down.setCell ⟨b, 1, none⟩ rfl _
set_option maxHeartbeats 1000000 in
set_option maxRecDepth 100000 in
theorem bbyte_kept (B b : Nat) (l : List UInt8) (c : UInt8) (w : World) (h : Lib.IsBuilder 59 5 B b (Lib.byteCells l) w) (hlen : l.length + 1 ≤ 140737488355328) (hBw : B ≤ w.heap.size) :
    Calls Tryz.prog 66 #[.pointer (some ⟨b, 0, none⟩), .int .u8 c.toNat] w fun e w' => e = .returned .nilIface ∧ (Lib.IsBuilder 59 5 B b (Lib.byteCells (l ++ [c])) w' ∧ Below B w w' ∧ OthersKept 5 (some b) w w') := by
  obtain ⟨i0, hi0, hz0, hz1, hz2⟩ := info_parts info_u8
  have HI0 := PLift.up (And.intro hi0 (And.intro hz0 (And.intro hz1 hz2)))
  have HBC := PLift.up (bcheck_kept B b _ _ h)
  clear hi0 hz0 hz1 hz2 h
  as_aux_lemma =>
  go_enter Tryz.func66, Tryz.ntmps66
  as_aux_lemma =>
  go_upto_region 2 with (go_at_call 37; refine (HBC.down).mono ?_; rintro e w1 ⟨rfl, h1, hb1, ho1⟩; have H1 := PLift.up h1; have HB1 := PLift.up hb1; have HO1 := PLift.up ho1; clear h1 hb1 ho1)
  obtain ⟨hB, v, hbk, hown, hne⟩ := H1.down
  rw [Lib.byteCells_length] at hown
  have c0 : w1.cell? ⟨b, 0, none⟩ = some (.pointer (some ⟨b, 0, none⟩)) := by rw [Lib.cell_of_heap hbk]; rfl
  have c1 : w1.cell? ⟨b, 1, none⟩ = some v := by rw [Lib.cell_of_heap hbk]; rfl
  have HOWN := PLift.up (World.ownsRow.alloc hown (.cells #[.int .u8 c.toNat] 5))
  have HB := PLift.up hB
  have HBK := PLift.up hbk
  have HNE := PLift.up hne
  have HBS : PLift (B ≤ (w1.alloc (.cells #[.int .u8 c.toNat] 5)).heap.size) := ⟨by rw [size_new]; have := HB1.down.size; omega⟩
  have HNW : PLift ((w1.alloc (.cells #[.int .u8 c.toNat] 5)).cell? ⟨w1.heap.size, 0, none⟩ = some (.int .u8 c.toNat)) := ⟨(Lib.cell_of_heap (heap_alloc_new w1 _) 0).trans rfl⟩
  have HL := PLift.up hlen
  clear hown hB hbk hne hlen
  as_aux_lemma =>
  go_wp2_with (refine wpList_append_new _ rfl _ _ 37 rfl B 5 i0 (.int .u8 0) 1 1 Tryz.underlying37 HI0.down.1 HI0.down.2.1 HI0.down.2.2.1 HI0.down.2.2.2 rfl (by decide) v l.length (Lib.byteCells l) rfl HOWN.down ⟨w1.heap.size, 0, none⟩ 1 1 [.int .u8 c.toNat] rfl rfl (by intro j2 u hj2; match j2, hj2 with | 0, hj2 => simp only [List.getElem?_cons_zero, Option.some.injEq] at hj2; subst hj2; exact HNW.down | j2 + 1, hj2 => simp at hj2) (by simp [Value.oneCell']) (by decide) (by have := HL.down; unfold maxLen; omega) (by have := HL.down; omega) HBS.down ?_)
  intro v' w2 hown' hg hpl
  have hlt : b < w1.heap.size := block_lt HBK.down
  have hb3 : w2.heap[b]? = some (.cells #[.pointer (some ⟨b, 0, none⟩), v] 59 (0, 0)) := by
    rw [hg.block b (by rw [size_new]; omega) (fun e => HNE.down e.symm), Lib.alloc_old _ _ _ hlt]
    exact HBK.down
  have d1 : w2.cell? ⟨b, 1, none⟩ = some v := by rw [Lib.cell_of_heap hb3]; rfl
  have f1 : w2.frozen? ⟨b, 1, none⟩ = false := Lib.frozen_of_heap hb3 1
  have HG : PLift (Below B w1 w2) := ⟨((Below.refl B w1).alloc (by have := HB1.down.size; omega) _).grown hg HBS.down (fun k hk => (HOWN.down.lt k hk).1)⟩
  have HPUT := PLift.up (Lib.BuilderAt.put (T := 59) (e := 5) HB.down hb3 (bs' := Lib.byteCells (l ++ [c])) (v' := v') (by rw [Lib.byteCells_length, Lib.byteCells_append, show (l ++ [c]).length = l.length + 1 from by simp]; exact hown') (by decide))
  have HO2 : PLift (OthersKept 5 (some b) w w2) := ⟨(HO1.down.alloc _).grown hg fun g hv => own_typed HOWN.down g hv⟩
  obtain ⟨A4, cc4, hv4⟩ := own_shape hown'
  subst hv4
  clear hown' hg hpl hb3
  as_aux_lemma =>
  go_wp2
  refine bodyPost_ret (v := .nilIface) (by simp only [results, Tryz.results66]; go_simp) rfl ?_
  exact ⟨rfl, .inr HPUT.down, (HB1.down.trans HG.down).setCell (p := ⟨b, 1, none⟩) HB.down _, HO2.down.setCell ⟨b, 1, none⟩ rfl _⟩
end Go.Proofs.YtneohoclgnfdcaaGreatDoor
/- tableout.Print's closure, and tableout.name of the text a. -/
namespace Go.Ev
def isText (l : List UInt8) (r : Option Er) : Bool := match r with | some (.ret (.string t) _) => t.data.toList == l | _ => false
theorem text_of {P : Program} {f : FuncId} {n : Nat} {s : ByteArray} {l : List UInt8} {r : Option Er} (h : isText l r = true) (hs : ∀ q, r = some q → CallSound P f #[.string s] (startS n) q) (w : World) : Calls P f #[.string s] w fun e w' => e = .returned (.string ⟨l.toArray⟩) ∧ Go.RowKit.Below w.heap.size w w' := by
  unfold isText at h
  split at h
  · rename_i t σ'
    have he : t.data.toList = l := by simpa using h
    have ht : t = ⟨l.toArray⟩ := by rw [← he]
    subst ht
    refine (hs _ rfl (startR n) #[.string s] w (VRs.refl_of fun v hv => ?_) (startRel n w)).mono ?_
    · simp only [List.mem_cons, List.not_mem_nil, or_false] at hv
      subst hv
      exact .string s
    · rintro e w' ⟨ρ', v', rfl, hv, hr, hs⟩
      cases hv
      exact ⟨rfl, hs.keep.os, hs.keep.tape, hs.keep.output, hs.keep.size, fun k hk => hs.keep.old k hk fun id o h => by cases h⟩
  · cases h
end Go.Ev
namespace Go.Proofs.YtneohoclgnfdcaaGreatDoor
open Go.RowKit
open Go.Lib hiding intOf
theorem name_a (w : World) : Calls Tryz.prog 20 #[.string ⟨#[97]⟩] w fun e w' => e = .returned (.string ⟨#[97]⟩) ∧ Below w.heap.size w w' :=
  Ev.text_of (n := 100) (l := [97]) (r := Ev.evRun Tryz.prog sums 400 100 20 #[.string ⟨#[97]⟩] (Ev.startS 100)) (by kernel_rfl) (fun _ h => evE 100 h) w
set_option maxHeartbeats 4000000 in
set_option maxRecDepth 100000 in
theorem line_any (b : Nat) (l : List UInt8) (t : ByteArray) (g c : Nat) (w : World) (h : Lib.IsBuilder 59 5 b b (Lib.byteCells l) w) (hc : w.cell? ⟨g, 0, none⟩ = some (.string t)) (hl : l.length + t.size + 1 ≤ 1000000000) (hb : b ≤ w.heap.size) :
    Calls Tryz.prog 17 #[.slice (some ⟨g, 0, none⟩) 1 c, .pointer (some ⟨b, 0, none⟩)] w fun e w' => e = .returned (.tuple #[]) ∧ Lib.IsBuilder 59 5 b b (Lib.byteCells (l ++ (t.data.toList ++ [10]))) w' ∧ Below b w w' ∧ OthersKept 5 (some b) w w' := by
  have HB := PLift.up (bwrite_kept b b l (t ++ (⟨#[10]⟩ : ByteArray)) w h (by rw [ByteArray.size_append]; show l.length + (t.size + 1) ≤ _; omega) hb)
  have HJ := PLift.up (fun sep => join_one w g c t sep hc)
  have hd : (t ++ (⟨#[10]⟩ : ByteArray)).data.toList = t.data.toList ++ [10] := by simp
  rw [hd] at HB
  clear h hd
  go_enter Tryz.func17, Tryz.ntmps17
  go_wp2_with (first
    | (go_at_call 19; refine (HJ.down _).mono ?_; rintro e w1 ⟨rfl, rfl⟩)
    | (go_at_call 18; refine HB.down.mono ?_; rintro e w1 ⟨rfl, h1⟩; have H1 := PLift.up h1; clear h1))
  go_end0
  exact ⟨rfl, H1.down⟩
end Go.Proofs.YtneohoclgnfdcaaGreatDoor
/- The family of tables: its graphs, facts of each by the kernel. -/
namespace Go.Proofs.YtneohoclgnfdcaaGreatDoor
def rowW (z : ByteArray) (n : Nat) : List Nd := [⟨10, ⟨#[]⟩, false, [((3 * n + 2 : Nat) : Int)], [((3 * n + 3 : Nat) : Int)]⟩, ⟨5, ⟨#[97]⟩, false, [], []⟩, ⟨6, z, false, [], []⟩]
def rowsW (z : ByteArray) : Nat → List Nd
  | 0 => []
  | n + 1 => rowsW z n ++ rowW z n
def itemsW : Nat → List Int
  | 0 => []
  | n + 1 => itemsW n ++ [((3 * n + 1 : Nat) : Int)]
def famW (z : ByteArray) (n : Nat) : List Nd := ⟨9, ⟨#[]⟩, false, [], itemsW n⟩ :: rowsW z n
def innR : Nat → List Int
  | 0 => []
  | n + 1 => innR n ++ [((3 * n + 2 : Nat) : Int), ((3 * n : Nat) : Int), ((3 * n + 1 : Nat) : Int)]
def innW (n : Nat) : List Int := ((3 * n : Nat) : Int) :: innR n
structure ShapeW (z : ByteArray) (n : Nat) : Prop where
  all : visitF (famW z n) (3 * n + 2) 0 (List.replicate (3 * n + 1) false) = List.replicate (3 * n + 1) true
  once : cntF (famW z n) 0 = List.replicate (3 * n + 1) 1
  comp : compT (famW z n) 0 = some (innW n, List.replicate (3 * n + 1) 1)
  deep : depthF (famW z n) 0 (innW n) (List.replicate (3 * n + 1) 1) = (2, true)
  share : (cntSF (famW z n) 0).all (fun x => decide (x ≤ 1)) = true
end Go.Proofs.YtneohoclgnfdcaaGreatDoor
