import Derived.Laws.Sem
import Derived.Calls
import Derived.Orders
import Derived.Laws.CopyRow
import Derived.Laws.Append
import Derived.Laws.AppendOwn
/- Closed calls by evaluation, part A: abstract memory, the relation to a real world, simulation of the model's free monad. -/
namespace Go.Ev
/-- a map from numbers, a binary tree -/
inductive T (α : Type) where
  | leaf
  | node (l : T α) (v : Option α) (r : T α)
def T.get0 {α : Type} : T α → Nat → Option α
  | .leaf, _ => none
  | .node l v r, n =>
    match Nat.beq n 0 with
    | true => v
    | false => match Nat.beq (Nat.mod n 2) 1 with
      | true => l.get0 (Nat.div n 2)
      | false => r.get0 (Nat.pred (Nat.div n 2))
def T.left {α : Type} : T α → T α
  | .leaf => .leaf
  | .node l _ _ => l
def T.right {α : Type} : T α → T α
  | .leaf => .leaf
  | .node _ _ r => r
def T.here {α : Type} : T α → Option α
  | .leaf => none
  | .node _ v _ => v
def T.setF {α : Type} (x : Option α) : Nat → T α → Nat → T α
  | 0, t, _ => t
  | f + 1, t, n =>
    match Nat.beq n 0 with
    | true => .node t.left x t.right
    | false => match Nat.beq (Nat.mod n 2) 1 with
      | true => .node (T.setF x f t.left (Nat.div n 2)) t.here t.right
      | false => .node t.left t.here (T.setF x f t.right (Nat.pred (Nat.div n 2)))
def T.set0 {α : Type} (t : T α) (n : Nat) (x : Option α) : T α := T.setF x (n + 1) t n
theorem T.get0_eq {α : Type} (t : T α) (n : Nat) : t.get0 n = if n = 0 then t.here else if n % 2 = 1 then t.left.get0 (n / 2) else t.right.get0 (n / 2 - 1) := by
  cases t with
  | leaf => simp [T.get0, T.here, T.left, T.right]
  | node l v r =>
    simp only [T.get0, T.here, T.left, T.right]
    by_cases h : n = 0
    · subst h; simp
    · have h1 : Nat.beq n 0 = false := by
        rw [← Bool.not_eq_true, Nat.beq_eq]; exact h
      rw [h1, if_neg h]
      by_cases h2 : n % 2 = 1
      · have h3 : Nat.beq (Nat.mod n 2) 1 = true := by rw [Nat.beq_eq]; exact h2
        rw [h3, if_pos h2]; rfl
      · have h3 : Nat.beq (Nat.mod n 2) 1 = false := by rw [← Bool.not_eq_true, Nat.beq_eq]; exact h2
        rw [h3, if_neg h2]; rfl
theorem T.get0_setF {α : Type} (x : Option α) : ∀ (f : Nat) (t : T α) (n m : Nat), n < f → (T.setF x f t n).get0 m = if m = n then x else t.get0 m := by
  intro f
  induction f with
  | zero => intro t n m h; omega
  | succ f ih =>
    intro t n m h
    rw [T.get0_eq]
    conv => rhs; rw [T.get0_eq t m]
    unfold T.setF
    by_cases h0 : n = 0
    · subst h0
      have h1 : Nat.beq 0 0 = true := rfl
      rw [h1]
      simp only [T.here, T.left, T.right]
      by_cases hm : m = 0
      · simp [hm]
      · simp [hm]
    · have h1 : Nat.beq n 0 = false := by rw [← Bool.not_eq_true, Nat.beq_eq]; exact h0
      rw [h1]
      by_cases h2 : n % 2 = 1
      · have h3 : Nat.beq (Nat.mod n 2) 1 = true := by rw [Nat.beq_eq]; exact h2
        rw [h3]
        simp only [T.here, T.left, T.right]
        by_cases hm : m = 0
        · subst hm
          have : ¬ 0 = n := fun e => h0 e.symm
          simp [this]
        · rw [if_neg hm, if_neg hm]
          have hf : n / 2 < f := by omega
          have hd : Nat.div n 2 = n / 2 := rfl
          rw [hd, ih _ _ _ hf]
          by_cases hp : m % 2 = 1
          · rw [if_pos hp, if_pos hp]
            by_cases e : m = n
            · rw [if_pos e, if_pos (by rw [e])]
            · rw [if_neg e, if_neg (by omega)]
          · rw [if_neg hp, if_neg hp, if_neg (by intro e; rw [e] at hp; exact hp h2)]
      · have h3 : Nat.beq (Nat.mod n 2) 1 = false := by rw [← Bool.not_eq_true, Nat.beq_eq]; exact h2
        rw [h3]
        simp only [T.here, T.left, T.right]
        by_cases hm : m = 0
        · subst hm
          have : ¬ 0 = n := fun e => h0 e.symm
          simp [this]
        · rw [if_neg hm, if_neg hm]
          have hf : n / 2 - 1 < f := by omega
          have hd : Nat.pred (Nat.div n 2) = n / 2 - 1 := rfl
          rw [hd, ih _ _ _ hf]
          by_cases hp : m % 2 = 1
          · rw [if_pos hp, if_pos hp, if_neg (by intro e; rw [e] at hp; exact h2 hp)]
          · rw [if_neg hp, if_neg hp]
            by_cases e : m = n
            · rw [if_pos e, if_pos (by rw [e])]
            · rw [if_neg e, if_neg (by omega)]
theorem T.get0_set0 {α : Type} (t : T α) (n m : Nat) (x : Option α) : (t.set0 n x).get0 m = if m = n then x else t.get0 m := T.get0_setF x _ t n m (Nat.lt_succ_self n)

/-- one level of a look-up, of a setting, without recursion: cheap for the kernel -/
def T.getS {α : Type} (k : T α → Nat → Option α) (t : T α) (n : Nat) : Option α :=
  T.casesOn (motive := fun _ => Option α) t none fun l v r =>
    Bool.casesOn (motive := fun _ => Option α) (Nat.beq n 0)
      (Bool.casesOn (motive := fun _ => Option α) (Nat.beq (Nat.mod n 2) 1) (k r (Nat.pred (Nat.div n 2))) (k l (Nat.div n 2))) v
def T.setS {α : Type} (k : T α → Nat → T α) (x : Option α) (t : T α) (n : Nat) : T α :=
  T.casesOn (motive := fun _ => T α) t
    (Bool.casesOn (motive := fun _ => T α) (Nat.beq n 0)
      (Bool.casesOn (motive := fun _ => T α) (Nat.beq (Nat.mod n 2) 1) (.node .leaf none (k .leaf (Nat.pred (Nat.div n 2)))) (.node (k .leaf (Nat.div n 2)) none .leaf)) (.node .leaf x .leaf))
    fun l v r => Bool.casesOn (motive := fun _ => T α) (Nat.beq n 0)
      (Bool.casesOn (motive := fun _ => T α) (Nat.beq (Nat.mod n 2) 1) (.node l v (k r (Nat.pred (Nat.div n 2)))) (.node (k l (Nat.div n 2)) v r)) (.node l x r)
theorem T.getS_get0 {α : Type} {k : T α → Nat → Option α} (hk : ∀ t n, k t n = t.get0 n) (t : T α) (n : Nat) : T.getS k t n = t.get0 n := by
  cases t with
  | leaf => rfl
  | node l v r =>
    unfold T.getS T.get0
    simp only [hk]
    cases Nat.beq n 0 with
    | true => rfl
    | false => cases Nat.beq (Nat.mod n 2) 1 <;> rfl
theorem T.setS_get0 {α : Type} {k : T α → Nat → T α} {x : Option α} (hk : ∀ t n m, (k t n).get0 m = if m = n then x else t.get0 m) (t : T α) (n m : Nat) : (T.setS k x t n).get0 m = if m = n then x else t.get0 m := by
  have key : (T.setS k x t n) = if n = 0 then .node t.left x t.right else if n % 2 = 1 then .node (k t.left (n / 2)) t.here t.right else .node t.left t.here (k t.right (n / 2 - 1)) := by
    have e1 : Nat.beq n 0 = decide (n = 0) := by
      rw [Bool.eq_iff_iff, Nat.beq_eq]; simp
    have e2 : Nat.beq (Nat.mod n 2) 1 = decide (n % 2 = 1) := by
      rw [Bool.eq_iff_iff, Nat.beq_eq]; simp; rfl
    cases t with
    | leaf =>
      unfold T.setS
      rw [e1, e2]
      by_cases h : n = 0
      · simp [h, T.left, T.right]
      · by_cases h2 : n % 2 = 1
        · simp [h, h2, T.left, T.right, T.here]; rfl
        · simp [h, h2, T.left, T.right, T.here]; rfl
    | node l v r =>
      unfold T.setS
      rw [e1, e2]
      by_cases h : n = 0
      · simp [h, T.left, T.right]
      · by_cases h2 : n % 2 = 1
        · simp [h, h2, T.left, T.right, T.here]; rfl
        · simp [h, h2, T.left, T.right, T.here]; rfl
  rw [key]
  by_cases h : n = 0
  · rw [if_pos h]
    subst h
    rw [T.get0_eq]
    by_cases hm : m = 0
    · rw [if_pos hm, if_pos hm]; rfl
    · rw [if_neg hm, if_neg hm, T.get0_eq t m, if_neg hm]; rfl
  · rw [if_neg h]
    by_cases h2 : n % 2 = 1
    · rw [if_pos h2, T.get0_eq, T.get0_eq t m]
      by_cases hm : m = 0
      · rw [if_pos hm, if_neg (by omega), if_pos hm]; rfl
      · rw [if_neg hm, if_neg hm]
        by_cases hp : m % 2 = 1
        · rw [if_pos hp, if_pos hp]
          show (k t.left (n / 2)).get0 (m / 2) = _
          rw [hk]
          by_cases e : m = n
          · rw [if_pos e, if_pos (by rw [e])]
          · rw [if_neg e, if_neg (by omega)]
        · rw [if_neg hp, if_neg hp, if_neg (by intro e; rw [e] at hp; exact hp h2)]; rfl
    · rw [if_neg h2, T.get0_eq, T.get0_eq t m]
      by_cases hm : m = 0
      · rw [if_pos hm, if_neg (by omega), if_pos hm]; rfl
      · rw [if_neg hm, if_neg hm]
        by_cases hp : m % 2 = 1
        · rw [if_pos hp, if_pos hp, if_neg (by intro e; rw [e] at hp; exact h2 hp)]; rfl
        · rw [if_neg hp, if_neg hp]
          show (k t.right (n / 2 - 1)).get0 (m / 2 - 1) = _
          rw [hk]
          by_cases e : m = n
          · rw [if_pos e, if_pos (by rw [e])]
          · rw [if_neg e, if_neg (by omega)]
def T.g1 {α : Type} (t : T α) (n : Nat) : Option α := T.getS T.get0 t n
def T.s1 {α : Type} (x : Option α) (t : T α) (n : Nat) : T α := T.setS (fun t n => T.set0 t n x) x t n
theorem T.g1_eq {α : Type} (t : T α) (n : Nat) : T.g1 t n = t.get0 n := T.getS_get0 (fun _ _ => rfl) t n
theorem T.s1_get0 {α : Type} (x : Option α) (t : T α) (n m : Nat) : (T.s1 x t n).get0 m = if m = n then x else t.get0 m := T.setS_get0 (fun t n m => T.get0_set0 t n m x) t n m
def T.g2 {α : Type} (t : T α) (n : Nat) : Option α := T.getS T.g1 t n
def T.s2 {α : Type} (x : Option α) (t : T α) (n : Nat) : T α := T.setS (T.s1 x) x t n
theorem T.g2_eq {α : Type} (t : T α) (n : Nat) : T.g2 t n = t.get0 n := T.getS_get0 (T.g1_eq) t n
theorem T.s2_get0 {α : Type} (x : Option α) (t : T α) (n m : Nat) : (T.s2 x t n).get0 m = if m = n then x else t.get0 m := T.setS_get0 (T.s1_get0 x) t n m
def T.g3 {α : Type} (t : T α) (n : Nat) : Option α := T.getS T.g2 t n
def T.s3 {α : Type} (x : Option α) (t : T α) (n : Nat) : T α := T.setS (T.s2 x) x t n
theorem T.g3_eq {α : Type} (t : T α) (n : Nat) : T.g3 t n = t.get0 n := T.getS_get0 (T.g2_eq) t n
theorem T.s3_get0 {α : Type} (x : Option α) (t : T α) (n m : Nat) : (T.s3 x t n).get0 m = if m = n then x else t.get0 m := T.setS_get0 (T.s2_get0 x) t n m
def T.g4 {α : Type} (t : T α) (n : Nat) : Option α := T.getS T.g3 t n
def T.s4 {α : Type} (x : Option α) (t : T α) (n : Nat) : T α := T.setS (T.s3 x) x t n
theorem T.g4_eq {α : Type} (t : T α) (n : Nat) : T.g4 t n = t.get0 n := T.getS_get0 (T.g3_eq) t n
theorem T.s4_get0 {α : Type} (x : Option α) (t : T α) (n m : Nat) : (T.s4 x t n).get0 m = if m = n then x else t.get0 m := T.setS_get0 (T.s3_get0 x) t n m
def T.g5 {α : Type} (t : T α) (n : Nat) : Option α := T.getS T.g4 t n
def T.s5 {α : Type} (x : Option α) (t : T α) (n : Nat) : T α := T.setS (T.s4 x) x t n
theorem T.g5_eq {α : Type} (t : T α) (n : Nat) : T.g5 t n = t.get0 n := T.getS_get0 (T.g4_eq) t n
theorem T.s5_get0 {α : Type} (x : Option α) (t : T α) (n m : Nat) : (T.s5 x t n).get0 m = if m = n then x else t.get0 m := T.setS_get0 (T.s4_get0 x) t n m
def T.g6 {α : Type} (t : T α) (n : Nat) : Option α := T.getS T.g5 t n
def T.s6 {α : Type} (x : Option α) (t : T α) (n : Nat) : T α := T.setS (T.s5 x) x t n
theorem T.g6_eq {α : Type} (t : T α) (n : Nat) : T.g6 t n = t.get0 n := T.getS_get0 (T.g5_eq) t n
theorem T.s6_get0 {α : Type} (x : Option α) (t : T α) (n m : Nat) : (T.s6 x t n).get0 m = if m = n then x else t.get0 m := T.setS_get0 (T.s5_get0 x) t n m
def T.g7 {α : Type} (t : T α) (n : Nat) : Option α := T.getS T.g6 t n
def T.s7 {α : Type} (x : Option α) (t : T α) (n : Nat) : T α := T.setS (T.s6 x) x t n
theorem T.g7_eq {α : Type} (t : T α) (n : Nat) : T.g7 t n = t.get0 n := T.getS_get0 (T.g6_eq) t n
theorem T.s7_get0 {α : Type} (x : Option α) (t : T α) (n m : Nat) : (T.s7 x t n).get0 m = if m = n then x else t.get0 m := T.setS_get0 (T.s6_get0 x) t n m
def T.g8 {α : Type} (t : T α) (n : Nat) : Option α := T.getS T.g7 t n
def T.s8 {α : Type} (x : Option α) (t : T α) (n : Nat) : T α := T.setS (T.s7 x) x t n
theorem T.g8_eq {α : Type} (t : T α) (n : Nat) : T.g8 t n = t.get0 n := T.getS_get0 (T.g7_eq) t n
theorem T.s8_get0 {α : Type} (x : Option α) (t : T α) (n m : Nat) : (T.s8 x t n).get0 m = if m = n then x else t.get0 m := T.setS_get0 (T.s7_get0 x) t n m
def T.g9 {α : Type} (t : T α) (n : Nat) : Option α := T.getS T.g8 t n
def T.s9 {α : Type} (x : Option α) (t : T α) (n : Nat) : T α := T.setS (T.s8 x) x t n
theorem T.g9_eq {α : Type} (t : T α) (n : Nat) : T.g9 t n = t.get0 n := T.getS_get0 (T.g8_eq) t n
theorem T.s9_get0 {α : Type} (x : Option α) (t : T α) (n m : Nat) : (T.s9 x t n).get0 m = if m = n then x else t.get0 m := T.setS_get0 (T.s8_get0 x) t n m
def T.g10 {α : Type} (t : T α) (n : Nat) : Option α := T.getS T.g9 t n
def T.s10 {α : Type} (x : Option α) (t : T α) (n : Nat) : T α := T.setS (T.s9 x) x t n
theorem T.g10_eq {α : Type} (t : T α) (n : Nat) : T.g10 t n = t.get0 n := T.getS_get0 (T.g9_eq) t n
theorem T.s10_get0 {α : Type} (x : Option α) (t : T α) (n m : Nat) : (T.s10 x t n).get0 m = if m = n then x else t.get0 m := T.setS_get0 (T.s9_get0 x) t n m
def T.g11 {α : Type} (t : T α) (n : Nat) : Option α := T.getS T.g10 t n
def T.s11 {α : Type} (x : Option α) (t : T α) (n : Nat) : T α := T.setS (T.s10 x) x t n
theorem T.g11_eq {α : Type} (t : T α) (n : Nat) : T.g11 t n = t.get0 n := T.getS_get0 (T.g10_eq) t n
theorem T.s11_get0 {α : Type} (x : Option α) (t : T α) (n m : Nat) : (T.s11 x t n).get0 m = if m = n then x else t.get0 m := T.setS_get0 (T.s10_get0 x) t n m
def T.g12 {α : Type} (t : T α) (n : Nat) : Option α := T.getS T.g11 t n
def T.s12 {α : Type} (x : Option α) (t : T α) (n : Nat) : T α := T.setS (T.s11 x) x t n
theorem T.g12_eq {α : Type} (t : T α) (n : Nat) : T.g12 t n = t.get0 n := T.getS_get0 (T.g11_eq) t n
theorem T.s12_get0 {α : Type} (x : Option α) (t : T α) (n m : Nat) : (T.s12 x t n).get0 m = if m = n then x else t.get0 m := T.setS_get0 (T.s11_get0 x) t n m
def T.get {α : Type} (t : T α) (n : Nat) : Option α := T.g12 t n
def T.set {α : Type} (t : T α) (n : Nat) (x : Option α) : T α := T.s12 x t n
theorem T.get_set {α : Type} (t : T α) (n m : Nat) (x : Option α) : (t.set n x).get m = if m = n then x else t.get m := by
  unfold T.get T.set
  rw [T.g12_eq, T.g12_eq, T.s12_get0]

/-- abstract memory -/
structure Blk where
  cells : List Value
  ty : TypeId
  sz : Nat
  own : Bool
inductive AObj where
  | row (b : Blk)
  | obj (o : Obj)
def AObj.own : AObj → Bool
  | .row b => b.own
  | .obj _ => true
/-- an operation on a value that stands for another one: what is known of its answer -/
inductive Key where
  | bin (op : BinOp) (t : TypeId)
  | len (t : TypeId)
  | slc (t : TypeId) (lo hi : Bool)
  | idx (t : TypeId)
structure Ent where
  key : Key
  args : List Value
  res : Value
/-- what the symbols stand for -/
structure SymEnv where
  env : Nat → Option Value
  prog : Program
/-- strings and integers: what a symbol may stand for -/
def atomV : Value → Bool
  | .string _ | .int _ _ => true
  | _ => false
/-- .. and truth values -/
def atomB : Value → Bool
  | .string _ | .int _ _ | .bool _ => true
  | _ => false
structure St where
  heap : T AObj
  next : Nat
  glob : Nat
  orc : List Ent
def big : Nat := 9223372036854775808
structure Ren (Ψ : SymEnv) where
  φ : Nat → Option Nat
  room : Nat → Option (Nat × Nat)
variable {Ψ : SymEnv}
structure Ren.le (ρ ρ' : Ren Ψ) : Prop where
  φ : ∀ b k, ρ.φ b = some k → ρ'.φ b = some k
  room : ∀ b x, ρ.room b = some x → ρ'.room b = some x
theorem Ren.le.refl (ρ : Ren Ψ) : ρ.le ρ := ⟨fun _ _ h => h, fun _ _ h => h⟩
theorem Ren.le.trans {a b c : Ren Ψ} (h : a.le b) (k : b.le c) : a.le c := ⟨fun _ _ x => k.φ _ _ (h.φ _ _ x), fun _ _ x => k.room _ _ (h.room _ _ x)⟩
def CapR (ρ : Ren Ψ) (b o c c' : Nat) : Prop := if c = big then ∃ R z, ρ.room b = some (R, z) ∧ c' = R - o / z else c' = c
theorem CapR.mono {ρ ρ' : Ren Ψ} (h : ρ.le ρ') {b o c c' : Nat} (k : CapR ρ b o c c') : CapR ρ' b o c c' := by
  unfold CapR at *
  split
  · rename_i hc; rw [if_pos hc] at k
    obtain ⟨R, z, h1, h2⟩ := k
    exact ⟨R, z, h.room _ _ h1, h2⟩
  · rename_i hc; rw [if_neg hc] at k; exact k
inductive FnR (ρ : Ren Ψ) : Fn → Fn → Prop where
  | func (f : FuncId) : FnR ρ (.func f) (.func f)
  | method (n : String) : FnR ρ (.method n) (.method n)
  | methodOf (t : TypeId) (n : String) : FnR ρ (.methodOf t n) (.methodOf t n)
  | via (t : TypeId) (p : Array FieldStep) (f : FuncId) (b : Bool) : FnR ρ (.via t p f b) (.via t p f b)
  | yield {l l' : Nat} (h : ρ.φ l = some l') : FnR ρ (.yield l) (.yield l')
theorem FnR.mono {ρ ρ' : Ren Ψ} (h : ρ.le ρ') {a b : Fn} (k : FnR ρ a b) : FnR ρ' a b := by
  cases k with
  | func f => exact .func f
  | method n => exact .method n
  | methodOf t n => exact .methodOf t n
  | via t p f b => exact .via t p f b
  | yield h1 => exact .yield (h.φ _ _ h1)
/-- a value of the abstract run and the value that stands for it in a real one -/
inductive VR (ρ : Ren Ψ) : Value → Value → Prop where
  | bool (b : Bool) : VR ρ (.bool b) (.bool b)
  | int (k : IntKind) (n : Int) : VR ρ (.int k n) (.int k n)
  | float (k : FloatKind) (n : Nat) : VR ρ (.float k n) (.float k n)
  | string (s : ByteArray) : VR ρ (.string s) (.string s)
  | nilPtr : VR ρ (.pointer none) (.pointer none)
  | nilSlice (n c : Nat) : VR ρ (.slice none n c) (.slice none n c)
  | empty (a : Option Addr) (c' : Nat) : VR ρ (.slice none 0 big) (.slice a 0 c')
  | nilMap : VR ρ (.map none) (.map none)
  | nilFunc : VR ρ .nilFunc .nilFunc
  | nilChan : VR ρ (.chan none) (.chan none)
  | nilIface : VR ρ .nilIface .nilIface
  | ptr {b k o : Nat} (h : ρ.φ b = some k) : VR ρ (.pointer (some ⟨b, o, none⟩)) (.pointer (some ⟨k, o, none⟩))
  | slice {b k o n c c' : Nat} (h : ρ.φ b = some k) (hc : CapR ρ b o c c') : VR ρ (.slice (some ⟨b, o, none⟩) n c) (.slice (some ⟨k, o, none⟩) n c')
  | map {r k : Nat} (h : ρ.φ r = some k) : VR ρ (.map (some r)) (.map (some k))
  | func {fn fn' : Fn} {f f' c c' : Array Value} (hf : FnR ρ fn fn') (h1 : f.size = f'.size) (h2 : ∀ (i : Nat) (v v' : Value), f[i]? = some v → f'[i]? = some v' → VR ρ v v')
      (h3 : c.size = c'.size) (h4 : ∀ (i : Nat) (v v' : Value), c[i]? = some v → c'[i]? = some v' → VR ρ v v') : VR ρ (.func fn f c) (.func fn' f' c')
  | iface {t : TypeId} {v v' : Value} (h : VR ρ v v') : VR ρ (.iface t v) (.iface t v')
  | sym {k : Nat} {v : Value} (h : Ψ.env k = some v) (ha : atomV v = true) : VR ρ (.chan (some k)) v
  | agg {c c' : Array Value} (h1 : c.size = c'.size) (h2 : ∀ (i : Nat) (v v' : Value), c[i]? = some v → c'[i]? = some v' → VR ρ v v') : VR ρ (.agg c) (.agg c')
  | tuple {c c' : Array Value} (h1 : c.size = c'.size) (h2 : ∀ (i : Nat) (v v' : Value), c[i]? = some v → c'[i]? = some v' → VR ρ v v') : VR ρ (.tuple c) (.tuple c')
theorem VR.mono {ρ ρ' : Ren Ψ} (h : ρ.le ρ') {a b : Value} (k : VR ρ a b) : VR ρ' a b := by
  induction k with
  | bool b => exact .bool b
  | int k n => exact .int k n
  | float k n => exact .float k n
  | string s => exact .string s
  | nilPtr => exact .nilPtr
  | nilSlice n c => exact .nilSlice n c
  | empty a c' => exact .empty a c'
  | nilMap => exact .nilMap
  | nilFunc => exact .nilFunc
  | nilChan => exact .nilChan
  | nilIface => exact .nilIface
  | ptr h1 => exact .ptr (h.φ _ _ h1)
  | slice h1 h2 => exact .slice (h.φ _ _ h1) (h2.mono h)
  | map h1 => exact .map (h.φ _ _ h1)
  | func hf h1 _ h3 _ i2 i4 => exact .func (hf.mono h) h1 i2 h3 i4
  | iface _ ih => exact .iface ih
  | sym h1 h2 => exact .sym h1 h2
  | agg h1 _ ih => exact .agg h1 ih
  | tuple h1 _ ih => exact .tuple h1 ih
/-- rows of values -/
structure VRs (ρ : Ren Ψ) (a b : Array Value) : Prop where
  size : a.size = b.size
  get : ∀ (i : Nat) (v v' : Value), a[i]? = some v → b[i]? = some v' → VR ρ v v'
theorem VRs.mono {ρ ρ' : Ren Ψ} (h : ρ.le ρ') {a b : Array Value} (k : VRs ρ a b) : VRs ρ' a b := ⟨k.size, fun i v v' h1 h2 => (k.get i v v' h1 h2).mono h⟩
theorem VRs.to {ρ : Ren Ψ} {a b : Array Value} (h : VRs ρ a b) {i : Nat} {v : Value} (hi : a[i]? = some v) : ∃ v', b[i]? = some v' ∧ VR ρ v v' := by
  have hlt : i < b.size := by rw [← h.size]; exact (Array.getElem?_eq_some_iff.1 hi).1
  exact ⟨b[i], Array.getElem?_eq_getElem hlt, h.get i _ _ hi (Array.getElem?_eq_getElem hlt)⟩
theorem VRs.none {ρ : Ren Ψ} {a b : Array Value} (h : VRs ρ a b) {i : Nat} (hi : a[i]? = none) : b[i]? = none := by
  rw [Array.getElem?_eq_none_iff] at *; rw [← h.size]; exact hi
theorem VRs.getD {ρ : Ren Ψ} {a b : Array Value} (h : VRs ρ a b) (i : Nat) {d d' : Value} (hd : VR ρ d d') : VR ρ (a.getD i d) (b.getD i d') := by
  rw [Array.getD_eq_getD_getElem?, Array.getD_eq_getD_getElem?]
  cases ha : a[i]? with
  | none => rw [h.none ha]; exact hd
  | some v => obtain ⟨v', h1, h2⟩ := h.to ha; rw [h1]; exact h2
theorem VRs.empty (ρ : Ren Ψ) : VRs ρ #[] #[] := ⟨rfl, fun i v v' h => by simp at h⟩
theorem VRs.push {ρ : Ren Ψ} {a b : Array Value} (h : VRs ρ a b) {v v' : Value} (hv : VR ρ v v') : VRs ρ (a.push v) (b.push v') := by
  refine ⟨by simp [h.size], fun i x x' h1 h2 => ?_⟩
  rw [Array.getElem?_push] at h1 h2
  rw [← h.size] at h2
  split at h1
  · rename_i e; rw [if_pos e] at h2
    rw [← Option.some.inj h1, ← Option.some.inj h2]; exact hv
  · rename_i e; rw [if_neg e] at h2; exact h.get i _ _ h1 h2
theorem VRs.append {ρ : Ren Ψ} {a b c d : Array Value} (h : VRs ρ a b) (k : VRs ρ c d) : VRs ρ (a ++ c) (b ++ d) := by
  refine ⟨by simp [h.size, k.size], fun i x x' h1 h2 => ?_⟩
  rw [Array.getElem?_append] at h1 h2
  rw [← h.size] at h2
  split at h1
  · rename_i e; rw [if_pos e] at h2; exact h.get i _ _ h1 h2
  · rename_i e; rw [if_neg e] at h2; exact k.get _ _ _ h1 h2
theorem VRs.set {ρ : Ren Ψ} {a b : Array Value} (h : VRs ρ a b) (j : Nat) {v v' : Value} (hv : VR ρ v v') : VRs ρ (a.setIfInBounds j v) (b.setIfInBounds j v') := by
  refine ⟨by simp [h.size], fun i x x' h1 h2 => ?_⟩
  rw [Array.getElem?_setIfInBounds] at h1 h2
  rw [← h.size] at h2
  split at h1
  · rename_i e
    rw [if_pos e] at h2
    split at h1
    · rename_i e2; rw [if_pos e2] at h2
      rw [← Option.some.inj h1, ← Option.some.inj h2]; exact hv
    · cases h1
  · rename_i e; rw [if_neg e] at h2; exact h.get i _ _ h1 h2
theorem VRs.extract {ρ : Ren Ψ} {a b : Array Value} (h : VRs ρ a b) (s e : Nat) : VRs ρ (a.extract s e) (b.extract s e) := by
  refine ⟨by simp [h.size], fun i x x' h1 h2 => ?_⟩
  rw [Array.getElem?_extract] at h1 h2
  rw [← h.size] at h2
  split at h1
  · rename_i e2; rw [if_pos e2] at h2; exact h.get _ _ _ h1 h2
  · cases h1
theorem VRs.replicate {ρ : Ren Ψ} (n : Nat) {v v' : Value} (hv : VR ρ v v') : VRs ρ (Array.replicate n v) (Array.replicate n v') := by
  refine ⟨by simp, fun i x x' h1 h2 => ?_⟩
  rw [Array.getElem?_replicate] at h1 h2
  split at h1
  · rename_i e; rw [if_pos e] at h2
    rw [← Option.some.inj h1, ← Option.some.inj h2]; exact hv
  · cases h1
theorem VRs.map {ρ : Ren Ψ} {β : Type} (l : Array β) (f g : β → Value) (h : ∀ x ∈ l, VR ρ (f x) (g x)) : VRs ρ (l.map f) (l.map g) := by
  refine ⟨by simp, fun i x x' h1 h2 => ?_⟩
  rw [Array.getElem?_map] at h1 h2
  cases hl : l[i]? with
  | none => rw [hl] at h1; cases h1
  | some y =>
    rw [hl] at h1 h2
    rw [← Option.some.inj h1, ← Option.some.inj h2]
    exact h y (Array.mem_of_getElem? hl)
theorem VRs.agg {ρ : Ren Ψ} {a b : Array Value} (h : VRs ρ a b) : VR ρ (.agg a) (.agg b) := .agg h.size h.get
theorem VRs.tuple {ρ : Ren Ψ} {a b : Array Value} (h : VRs ρ a b) : VR ρ (.tuple a) (.tuple b) := .tuple h.size h.get
theorem atom_cells {v : Value} (h : atomV v = true) : v.cells = #[v] := by cases v <;> first | rfl | (cases h)
theorem VR.cells {ρ : Ren Ψ} {a b : Value} (h : VR ρ a b) : VRs ρ a.cells b.cells := by
  have one : ∀ {x y : Value}, VR ρ x y → VRs ρ #[x] #[y] := fun hxy => by
    have := (VRs.empty ρ).push hxy
    simpa using this
  cases h with
  | agg h1 h2 => exact ⟨h1, h2⟩
  | sym h1 h2 =>
    rw [atom_cells h2]
    exact one (.sym h1 h2)
  | _ => exact one (by constructor <;> assumption)
/-- one cell alone -/
def flat : Value → Bool
  | .agg _ | .tuple _ => false
  | _ => true
theorem VR.flat {ρ : Ren Ψ} {a b : Value} (h : VR ρ a b) : Ev.flat b = Ev.flat a := by
  cases h with
  | sym h1 h2 => cases b <;> first | rfl | (cases h2)
  | _ => rfl
end Go.Ev
/- Closed calls by evaluation, part B: the free monad run on abstract memory, and what such a run says of a real one. -/
namespace Go.Ev
variable {Ψ : SymEnv}
/-- the record of a range over a function, and the real one -/
structure LoopR (ρ : Ren Ψ) (r r' : Loop) : Prop where
  state : r'.state = r.state
  pending : r'.pending = r.pending
  params : r'.params = r.params
  assign : r'.assign = r.assign
  body : r'.body = r.body
  tmps : VRs ρ r.tmps r'.tmps
  defers : ρ.φ r.defers = some r'.defers
theorem LoopR.mono {ρ ρ' : Ren Ψ} (h : ρ.le ρ') {r r' : Loop} (k : LoopR ρ r r') : LoopR ρ' r r' := { k with tmps := k.tmps.mono h, defers := h.φ _ _ k.defers }
/-- an iterator or a map, and the real one -/
inductive ObjR (ρ : Ren Ψ) : Obj → Obj → Prop where
  | stringIter (s : ByteArray) (n : Nat) : ObjR ρ (.stringIter s n) (.stringIter s n)
  | map {es es' : Array MapEntry} (c : Nat) (h1 : es.size = es'.size) (h2 : ∀ (i : Nat) (e e' : MapEntry), es[i]? = some e → es'[i]? = some e' → e'.born = e.born ∧ VR ρ e.key e'.key ∧ VR ρ e.val e'.val) : ObjR ρ (.map es c) (.map es' c)
  | nilIter (a : Nat) (s : Array Nat) (c : Nat) : ObjR ρ (.mapIter none a s c) (.mapIter none a s c)
  | iter {m k : Nat} (a : Nat) (s : Array Nat) (c : Nat) (h : ρ.φ m = some k) : ObjR ρ (.mapIter (some m) a s c) (.mapIter (some k) a s c)
  | loop {r r' : Loop} (h : LoopR ρ r r') : ObjR ρ (.loop r) (.loop r')
  | deferred : ObjR ρ (.deferred (some [])) (.deferred (some []))
  | shut : ObjR ρ (.deferred none) (.deferred none)
theorem ObjR.mono {ρ ρ' : Ren Ψ} (h : ρ.le ρ') {a b : Obj} (k : ObjR ρ a b) : ObjR ρ' a b := by
  cases k with
  | stringIter s n => exact .stringIter s n
  | map c h1 h2 => exact .map c h1 fun i e e' x y => ⟨(h2 i e e' x y).1, (h2 i e e' x y).2.1.mono h, (h2 i e e' x y).2.2.mono h⟩
  | nilIter a s c => exact .nilIter a s c
  | iter a s c h1 => exact .iter a s c (h.φ _ _ h1)
  | loop h1 => exact .loop (h1.mono h)
  | deferred => exact .deferred
  | shut => exact .shut
/-- a row of the abstract memory, and the block of a real world that stands for it -/
structure RowR (ρ : Ren Ψ) (id : Nat) (b : Blk) (cs : Array Value) (ty : TypeId) (fr : Nat × Nat) : Prop where
  ty : b.own = true → ty = b.ty
  fr : b.own = true → fr = (0, 0)
  le : b.cells.length ≤ cs.size
  eq : b.sz = 0 → cs.size = b.cells.length
  get : ∀ (i : Nat) (v : Value), b.cells[i]? = some v → ∃ v', cs[i]? = some v' ∧ VR ρ v v'
  room : b.sz ≠ 0 → ∃ R, ρ.room id = some (R, b.sz) ∧ cs.size = R * b.sz
theorem RowR.mono {ρ ρ' : Ren Ψ} (h : ρ.le ρ') {id : Nat} {b : Blk} {cs : Array Value} {ty : TypeId} {fr : Nat × Nat} (k : RowR ρ id b cs ty fr) : RowR ρ' id b cs ty fr :=
  { k with
    get := fun i v hv => let ⟨v', h1, h2⟩ := k.get i v hv; ⟨v', h1, h2.mono h⟩
    room := fun hs => let ⟨R, h1, h2⟩ := k.room hs; ⟨R, h.room _ _ h1, h2⟩ }
def AtR (ρ : Ren Ψ) (id : Nat) (o : AObj) (x : Obj) : Prop :=
  match o with
  | .row b => ∃ cs ty fr, x = .cells cs ty fr ∧ RowR ρ id b cs ty fr
  | .obj o => ObjR ρ o x
theorem AtR.mono {ρ ρ' : Ren Ψ} (h : ρ.le ρ') {id : Nat} {o : AObj} {x : Obj} (k : AtR ρ id o x) : AtR ρ' id o x := by
  cases o with
  | row b => obtain ⟨cs, ty, fr, h1, h2⟩ := k; exact ⟨cs, ty, fr, h1, h2.mono h⟩
  | obj o => exact ObjR.mono h k
/-- the value that a symbol, or a plain value, stands for -/
def symV (Ψ : SymEnv) : Value → Option Value
  | .chan (some k) => match Ψ.env k with
    | some v => match atomV v with
      | true => some v
      | false => none
    | none => none
  | v => match atomB v with
    | true => some v
    | false => none
theorem symV_R {ρ : Ren Ψ} {v v' r : Value} (h : VR ρ v v') (hs : symV Ψ v = some r) : v' = r := by
  cases h with
  | sym h1 h2 =>
    simp only [symV, h1, h2] at hs
    exact Option.some.inj hs
  | bool b => exact Option.some.inj hs
  | int k n => exact Option.some.inj hs
  | string s => exact Option.some.inj hs
  | nilChan => cases hs
  | _ => cases hs
theorem R_symV {ρ : Ren Ψ} {v r : Value} (hs : symV Ψ v = some r) : VR ρ v r := by
  unfold symV at hs
  split at hs
  · split at hs
    · rename_i h1
      split at hs
      · rename_i h2
        cases Option.some.inj hs
        exact .sym h1 h2
      · cases hs
    · cases hs
  · split at hs
    · rename_i h2
      cases Option.some.inj hs
      cases v <;> first | (cases h2; done) | exact .bool _ | exact .int _ _ | exact .string _
    · cases hs
theorem symV_atom {v r : Value} (hs : symV Ψ v = some r) : atomB r = true := by
  unfold symV at hs
  split at hs
  · split at hs
    · split at hs
      · rename_i h2
        cases Option.some.inj hs
        cases r <;> first | rfl | (cases h2)
      · cases hs
    · cases hs
  · split at hs
    · rename_i h2
      cases Option.some.inj hs
      exact h2
    · cases hs
/-- what an operation answers -/
def KeyOk (P : Program) : Key → List Value → Value → Prop
  | .bin op t, [x, y], r => ∀ w, (binOp op t x y).run P w = .ok r w
  | .len _, [x], r => ∃ s : ByteArray, x = .string s ∧ r = .int .i64 s.size
  | .slc t false false, [x], r => ∀ w, (Instr.sliceAt t x none none none).run P w = .ok r w
  | .slc t true false, [x, a], r => ∀ w, (Instr.sliceAt t x (some a) none none).run P w = .ok r w
  | .slc t false true, [x, b], r => ∀ w, (Instr.sliceAt t x none (some b) none).run P w = .ok r w
  | .slc t true true, [x, a, b], r => ∀ w, (Instr.sliceAt t x (some a) (some b) none).run P w = .ok r w
  | .idx t, [x, i], r => ∀ w, (Instr.index t x i).run P w = .ok r w
  | _, _, _ => False
def EntOk (Ψ : SymEnv) (e : Ent) : Prop := ∃ (l : List Value) (r : Value), e.args.map (symV Ψ) = l.map some ∧ symV Ψ e.res = some r ∧ KeyOk Ψ.prog e.key l r
structure Rel (ρ : Ren Ψ) (s : St) (w : World) : Prop where
  live : ∀ id o, s.heap.get id = some o → ∃ k x, ρ.φ id = some k ∧ w.heap[k]? = some x ∧ AtR ρ id o x
  inj : ∀ i j oi oj, s.heap.get i = some oi → s.heap.get j = some oj → oi.own = true → ρ.φ i = ρ.φ j → i = j
  fresh : ∀ id, s.next ≤ id → ρ.φ id = none ∧ ρ.room id = none
  glob : ∀ g, g < s.glob → ρ.φ g = some g
  gn : s.glob ≤ s.next
  orc : ∀ e ∈ s.orc, EntOk Ψ e
/-- what a run of the abstract memory's own leaves alone, and where its blocks lie -/
structure Keep (ρ : Ren Ψ) (s : St) (ρ' : Ren Ψ) (s' : St) (w w' : World) : Prop where
  size : w.heap.size ≤ w'.heap.size
  os : w'.os = w.os
  tape : w'.tape = w.tape
  output : w'.output = w.output
  glob : s'.glob = s.glob
  next : s.next ≤ s'.next
  dom : ∀ id, id < s.next → ρ'.φ id = ρ.φ id ∧ ρ'.room id = ρ.room id
  old : ∀ k, k < w.heap.size → (∀ id o, s.heap.get id = some o → o.own = true → ρ.φ id ≠ some k) → w'.heap[k]? = w.heap[k]?
  new : ∀ id o k, s'.heap.get id = some o → ρ'.φ id = some k → (∃ o0, s.heap.get id = some o0 ∧ o0.own = o.own ∧ ρ.φ id = some k) ∨ (o.own = true ∧ (w.heap.size ≤ k ∨ ∃ id0 o0, s.heap.get id0 = some o0 ∧ o0.own = true ∧ ρ.φ id0 = some k))
theorem Keep.refl {ρ : Ren Ψ} {s : St} (w : World) : Keep ρ s ρ s w w :=
  ⟨Nat.le_refl _, rfl, rfl, rfl, rfl, Nat.le_refl _, fun _ _ => ⟨rfl, rfl⟩, fun _ _ _ => rfl, fun _ o _ h1 h3 => .inl ⟨o, h1, rfl, h3⟩⟩
theorem Keep.trans {ρ ρ1 ρ2 : Ren Ψ} {s s1 s2 : St} {w w1 w2 : World} (h : Keep ρ s ρ1 s1 w w1) (k : Keep ρ1 s1 ρ2 s2 w1 w2) : Keep ρ s ρ2 s2 w w2 where
  size := Nat.le_trans h.size k.size
  os := k.os.trans h.os
  tape := k.tape.trans h.tape
  output := k.output.trans h.output
  glob := k.glob.trans h.glob
  next := Nat.le_trans h.next k.next
  dom := fun id hid => by
    have h1 := h.dom id hid
    have h2 := k.dom id (Nat.lt_of_lt_of_le hid h.next)
    exact ⟨h2.1.trans h1.1, h2.2.trans h1.2⟩
  old := fun b hb hn => by
    rw [k.old b (Nat.lt_of_lt_of_le hb h.size) ?_, h.old b hb hn]
    intro id o h1 h2 h3
    rcases h.new id o b h1 h3 with ⟨o0, h4, h5, h6⟩ | ⟨-, h4 | ⟨id0, o0, h5, h6, h7⟩⟩
    · exact hn id o0 h4 (h5.trans h2) h6
    · omega
    · exact hn id0 o0 h5 h6 h7
  new := fun id o b h1 h3 => by
    rcases k.new id o b h1 h3 with ⟨o1, h4, h5, h6⟩ | ⟨h2, h4 | ⟨id0, o0, h5, h6, h7⟩⟩
    · rcases h.new id o1 b h4 h6 with ⟨o0, q1, q2, q3⟩ | ⟨q1, q2⟩
      · exact .inl ⟨o0, q1, q2.trans h5, q3⟩
      · exact .inr ⟨h5 ▸ q1, q2⟩
    · exact .inr ⟨h2, .inl (Nat.le_trans h.size h4)⟩
    · rcases h.new id0 o0 b h5 h7 with ⟨o2, q1, q2, q3⟩ | ⟨-, q2⟩
      · exact .inr ⟨h2, .inr ⟨id0, o2, q1, q2.trans h6, q3⟩⟩
      · exact .inr ⟨h2, q2⟩
/-- nothing but draws -/
theorem Keep.drew {ρ : Ren Ψ} {s : St} {w w' : World} (h1 : w'.heap = w.heap) (h2 : w'.os = w.os) (h3 : w'.tape = w.tape) (h4 : w'.output = w.output) : Keep ρ s ρ s w w' :=
  ⟨by rw [h1]; exact Nat.le_refl _, h2, h3, h4, rfl, Nat.le_refl _, fun _ _ => ⟨rfl, rfl⟩, fun _ _ _ => by rw [h1], fun id o k h1 h3 => .inl ⟨o, h1, rfl, h3⟩⟩
theorem Rel.heap_eq {ρ : Ren Ψ} {s : St} {w w' : World} (h : Rel ρ s w) (e : w'.heap = w.heap) : Rel ρ s w' :=
  { h with live := fun id o ho => by obtain ⟨k, x, h1, h2, h3⟩ := h.live id o ho; exact ⟨k, x, h1, by rw [e]; exact h2, h3⟩ }

/-- cells and blocks of the abstract memory -/
def nth {α : Type} : List α → Nat → Option α
  | [], _ => none
  | x :: l, n => match n with
    | 0 => some x
    | n + 1 => nth l n
theorem nth_eq {α : Type} : ∀ (l : List α) (n : Nat), nth l n = l[n]? := by
  intro l
  induction l with
  | nil => intro n; rfl
  | cons x l ih => intro n; cases n with
    | zero => rfl
    | succ n => simp [nth, ih]
def setNth {α : Type} : List α → Nat → α → List α
  | [], _, _ => []
  | x :: l, n, v => match n with
    | 0 => v :: l
    | n + 1 => x :: setNth l n v
theorem setNth_eq {α : Type} : ∀ (l : List α) (n : Nat) (v : α), setNth l n v = l.set n v := by
  intro l
  induction l with
  | nil => intro n v; rfl
  | cons x l ih => intro n v; cases n with
    | zero => rfl
    | succ n => simp [setNth, ih]
def St.cell (s : St) (a : Addr) : Option Value :=
  match a.spot with
  | some _ => none
  | none => match s.heap.get a.block with
    | some (.row b) => nth b.cells a.off
    | _ => none
def St.put (s : St) (a : Addr) (v : Value) : Option St :=
  match a.spot with
  | some _ => none
  | none => match s.heap.get a.block with
    | some (.row b) => match b.own, nth b.cells a.off with
      | true, some _ => some { s with heap := s.heap.set a.block (some (.row { b with cells := setNth b.cells a.off v })) }
      | _, _ => none
    | _ => none
def newA : Obj → Option AObj
  | .cells c ty (0, 0) => some (.row { cells := c.toList, ty := ty, sz := 0, own := true })
  | .stringIter s n => some (.obj (.stringIter s n))
  | .map es c => match es.toList with
    | [] => some (.obj (.map es c))
    | _ => none
  | .mapIter none a s c => some (.obj (.mapIter none a s c))
  | .mapIter (some m) a s c => some (.obj (.mapIter (some m) a s c))
  | .loop r => some (.obj (.loop r))
  | .deferred (some []) => some (.obj (.deferred (some [])))
  | _ => none
def objA : Obj → Bool
  | .stringIter .. | .map .. | .mapIter .. | .loop .. | .deferred .. => true
  | _ => false
inductive Rs (α : Type) where
  | ok (a : α) (s : St)
  | panic (v : Value) (s : St)
def runA (P : Program) {α : Type} : Sem α → St → Option (Rs α)
  | .pure a, s => some (.ok a s)
  | .load _ a k, s => match s.cell a with
    | some v => runA P (k v) s
    | none => none
  | .store _ a v k, s => match flat v, s.put a v with
    | true, some s' => runA P k s'
    | _, _ => none
  | .new o k, s => match newA o with
    | some x => runA P (k s.next) { s with heap := s.heap.set s.next (some x), next := s.next + 1 }
    | none => none
  | .shape r k, s => match s.heap.get r with
    | some (.row b) => match b.own, b.sz with
      | true, 0 => runA P (k (some (b.ty, b.cells.length))) s
      | _, _ => none
    | some (.obj _) => runA P (k none) s
    | none => none
  | .freeze _ _ _, _ => none
  | .frozen a k, s => match s.heap.get a.block with
    | some (.row b) => match b.own with
      | true => runA P (k false) s
      | false => none
    | _ => none
  | .getObj r k, s => match s.heap.get r with
    | some (.obj o) => runA P (k o) s
    | _ => none
  | .setObj r o k, s => match s.heap.get r with
    | some (.obj _) => match objA o with
      | true => runA P k { s with heap := s.heap.set r (some (.obj o)) }
      | false => none
    | _ => none
  | .choose q k, s => match q.forced with
    | true => runA P (k 0) s
    | false => none
  | .sys _ _, _ => none
  | .program k, s => runA P (k P) s
  | .mark _ k, s => runA P k s
  | .halt (.panic v), s => some (.panic v s)
  | .halt _, _ => none
def Rs.bind {α β : Type} (r : Option (Rs α)) (f : α → St → Option (Rs β)) : Option (Rs β) :=
  match r with
  | some (.ok a s) => f a s
  | some (.panic v s) => some (.panic v s)
  | none => none
theorem runA_bind (P : Program) {α β : Type} (x : Sem α) (f : α → Sem β) (s : St) : runA P (x.bind f) s = Rs.bind (runA P x s) fun a s' => runA P (f a) s' := by
  induction x generalizing s with
  | pure a => rfl
  | load m a k ih => simp only [Sem.bind, runA]; split <;> simp [ih, Rs.bind]
  | store m a v k ih => simp only [Sem.bind, runA]; split <;> simp [ih, Rs.bind]
  | new o k ih => simp only [Sem.bind, runA]; split <;> simp [ih, Rs.bind]
  | shape r k ih => simp only [Sem.bind, runA]; (repeat' split) <;> simp [ih, Rs.bind]
  | freeze a n k ih => rfl
  | frozen a k ih => simp only [Sem.bind, runA]; (repeat' split) <;> simp [ih, Rs.bind]
  | getObj r k ih => simp only [Sem.bind, runA]; split <;> simp [ih, Rs.bind]
  | setObj r o k ih => simp only [Sem.bind, runA]; (repeat' split) <;> simp [ih, Rs.bind]
  | choose q k ih => simp only [Sem.bind, runA]; split <;> simp [ih, Rs.bind]
  | sys c k ih => rfl
  | program k ih => simp [Sem.bind, runA, ih]
  | mark m k ih => simp [Sem.bind, runA, ih]
  | halt h => cases h <;> rfl
/-- what the abstract run of s says of the real run of s' -/
def Sim (P : Program) {α α' : Type} (s : Sem α) (s' : Sem α') (ρ : Ren Ψ) (Q : Ren Ψ → α → α' → Prop) : Prop :=
  ∀ (σ : St) (w : World), Rel ρ σ w → ∀ r, runA P s σ = some r →
    match r with
    | .ok x σ' => ∃ ρ' x' w', ρ.le ρ' ∧ s'.run P w = .ok x' w' ∧ Rel ρ' σ' w' ∧ Keep ρ σ ρ' σ' w w' ∧ Q ρ' x x'
    | .panic v σ' => ∃ ρ' v' w', ρ.le ρ' ∧ s'.run P w = .halt (.panic v') w' ∧ Rel ρ' σ' w' ∧ Keep ρ σ ρ' σ' w w' ∧ VR ρ' v v'
section
variable {P : Program} {α α' β β' : Type} {ρ : Ren Ψ}
theorem sim_pure {x : α} {x' : α'} {Q : Ren Ψ → α → α' → Prop} (h : Q ρ x x') : Sim P (pure x) (pure x') ρ Q := by
  intro σ w hr r he
  cases Option.some.inj (show some (Rs.ok x σ) = some r from he)
  exact ⟨ρ, x', w, .refl ρ, rfl, hr, .refl w, h⟩
theorem sim_bind {s : Sem α} {s' : Sem α'} {k : α → Sem β} {k' : α' → Sem β'} {Q : Ren Ψ → α → α' → Prop} {Q2 : Ren Ψ → β → β' → Prop} (h : Sim P s s' ρ Q)
    (hk : ∀ ρ' x x', ρ.le ρ' → Q ρ' x x' → Sim P (k x) (k' x') ρ' Q2) : Sim P (s >>= k) (s' >>= k') ρ Q2 := by
  intro σ w hr r he
  change runA P (s.bind k) σ = some r at he
  rw [runA_bind] at he
  cases hs : runA P s σ with
  | none => rw [hs] at he; cases he
  | some rs =>
    rw [hs] at he
    have h1 := h σ w hr rs hs
    cases rs with
    | ok x σ1 =>
      obtain ⟨ρ1, x', w1, hle, hrun, hrel, hkeep, hq⟩ := h1
      have h2 := hk ρ1 x x' hle hq σ1 w1 hrel r he
      cases r with
      | ok y σ2 =>
        obtain ⟨ρ2, y', w2, hle2, hrun2, hrel2, hkeep2, hq2⟩ := h2
        exact ⟨ρ2, y', w2, hle.trans hle2, by rw [Sem.run_bind, hrun]; exact hrun2, hrel2, hkeep.trans hkeep2, hq2⟩
      | panic v σ2 =>
        obtain ⟨ρ2, y', w2, hle2, hrun2, hrel2, hkeep2, hq2⟩ := h2
        exact ⟨ρ2, y', w2, hle.trans hle2, by rw [Sem.run_bind, hrun]; exact hrun2, hrel2, hkeep.trans hkeep2, hq2⟩
    | panic v σ1 =>
      obtain ⟨ρ1, v', w1, hle, hrun, hrel, hkeep, hq⟩ := h1
      cases Option.some.inj (show some (Rs.panic v σ1) = some r from he)
      exact ⟨ρ1, v', w1, hle, by rw [Sem.run_bind, hrun]; rfl, hrel, hkeep, hq⟩
theorem sim_mono {s : Sem α} {s' : Sem α'} {Q Q2 : Ren Ψ → α → α' → Prop} (h : Sim P s s' ρ Q) (hq : ∀ ρ' x x', ρ.le ρ' → Q ρ' x x' → Q2 ρ' x x') : Sim P s s' ρ Q2 := by
  intro σ w hr r he
  have h1 := h σ w hr r he
  cases r with
  | ok x σ1 => obtain ⟨ρ1, x', w1, hle, hrun, hrel, hkeep, h2⟩ := h1; exact ⟨ρ1, x', w1, hle, hrun, hrel, hkeep, hq _ _ _ hle h2⟩
  | panic v σ1 => exact h1
/-- a run that the abstract memory does not bear -/
theorem sim_none {s : Sem α} {s' : Sem α'} {Q : Ren Ψ → α → α' → Prop} (h : ∀ σ, runA P s σ = none) : Sim P s s' ρ Q := by
  intro σ w hr r he
  rw [h] at he; cases he
theorem sim_stuck {why : String} {s' : Sem α'} {Q : Ren Ψ → α → α' → Prop} : Sim P (stuck why : Sem α) s' ρ Q := sim_none fun _ => rfl
theorem sim_unsupported {u : Unsupported} {s' : Sem α'} {Q : Ren Ψ → α → α' → Prop} : Sim P (unsupported u : Sem α) s' ρ Q := sim_none fun _ => rfl
theorem sim_program {Q : Ren Ψ → Program → Program → Prop} (h : Q ρ P P) : Sim P program program ρ Q := by
  intro σ w hr r he
  cases Option.some.inj (show some (Rs.ok P σ) = some r from he)
  exact ⟨ρ, P, w, .refl ρ, rfl, hr, .refl w, h⟩
theorem sim_mark {m : Mark} : Sim P (mark m) (mark m) ρ fun _ _ _ => True := by
  intro σ w hr r he
  cases Option.some.inj (show some (Rs.ok () σ) = some r from he)
  exact ⟨ρ, (), w, .refl ρ, rfl, hr, .refl w, trivial⟩
theorem sim_panic {v v' : Value} {Q : Ren Ψ → α → α' → Prop} (h : VR ρ v v') : Sim P (goPanic v : Sem α) (goPanic v' : Sem α') ρ Q := by
  intro σ w hr r he
  cases Option.some.inj (show some (Rs.panic v σ) = some r from he)
  exact ⟨ρ, v', w, .refl ρ, rfl, hr, .refl w, h⟩
theorem sim_choose {q : Question} : Sim P (choose q) (choose q) ρ fun _ x x' => x' = x := by
  intro σ w hr r he
  change (match q.forced with | true => runA P (Sem.pure 0) σ | false => none) = some r at he
  cases hq : q.forced with
  | false => rw [hq] at he; cases he
  | true =>
    rw [hq] at he
    cases Option.some.inj (show some (Rs.ok 0 σ) = some r from he)
    exact ⟨ρ, 0, w, .refl ρ, by simp [choose, Sem.run, hq], hr, .refl w, rfl⟩
/-- addresses -/
def AdR (ρ : Ren Ψ) (a a' : Addr) : Prop := a.spot = none ∧ a'.spot = none ∧ a'.off = a.off ∧ ρ.φ a.block = some a'.block
theorem AdR.mono {ρ ρ' : Ren Ψ} (h : ρ.le ρ') {a a' : Addr} (k : AdR ρ a a') : AdR ρ' a a' := ⟨k.1, k.2.1, k.2.2.1, h.φ _ _ k.2.2.2⟩
theorem AdR.add {a a' : Addr} (k : AdR ρ a a') (n : Nat) : AdR ρ (a.add n) (a'.add n) := by
  unfold Addr.add
  by_cases h : n = 0
  · rw [if_pos h, if_pos h]; exact k
  · rw [if_neg h, if_neg h]; exact ⟨rfl, rfl, by simp [k.2.2.1], k.2.2.2⟩
theorem AdR.ptr {a a' : Addr} (k : AdR ρ a a') : VR ρ (.pointer (some a)) (.pointer (some a')) := by
  obtain ⟨b, o, s⟩ := a
  obtain ⟨b', o', s'⟩ := a'
  obtain ⟨rfl, rfl, rfl, h⟩ := k
  exact .ptr h
theorem sim_load {a a' : Addr} {m : Mode} (h : AdR ρ a a') : Sim P (load a m) (load a' m) ρ VR := by
  obtain ⟨b, o, sp⟩ := a
  obtain ⟨b', o', sp'⟩ := a'
  obtain ⟨h1, h2, h3, hb⟩ := h
  simp only at h1 h2 h3 hb
  subst h1 h2 h3
  intro σ w hr r he
  simp only [load, runA] at he
  cases hc : σ.cell ⟨b, o', none⟩ with
  | none => rw [hc] at he; cases he
  | some v =>
    rw [hc] at he
    cases Option.some.inj (show some (Rs.ok v σ) = some r from he)
    unfold St.cell at hc
    cases hg : σ.heap.get b with
    | none => simp only [hg] at hc; cases hc
    | some x =>
      simp only [hg] at hc
      cases x with
      | obj o => cases hc
      | row bl =>
        obtain ⟨k, y, h1, h2, cs, ty, fr, rfl, hrow⟩ := hr.live b _ hg
        have hkb : k = b' := by rw [hb] at h1; exact (Option.some.inj h1).symm
        subst hkb
        simp only [nth_eq] at hc
        obtain ⟨v', h3, h4⟩ := hrow.get _ _ hc
        refine ⟨ρ, v', w, .refl ρ, ?_, hr, .refl w, h4⟩
        rw [run_load]
        have : w.cell? ⟨k, o', none⟩ = some v' := by simp [World.cell?, h2, h3]
        rw [this]
theorem sim_store {a a' : Addr} {m : Mode} {v v' : Value} (h : AdR ρ a a') (hv : VR ρ v v') : Sim P (store a v m) (store a' v' m) ρ fun _ _ _ => True := by
  obtain ⟨b, o, sp⟩ := a
  obtain ⟨b', o', sp'⟩ := a'
  obtain ⟨h1, h2, h3, hb⟩ := h
  simp only at h1 h2 h3 hb
  subst h1 h2 h3
  intro σ w hr r he
  change (match flat v, σ.put ⟨b, o', none⟩ v with | true, some s' => runA P (Sem.pure ()) s' | _, _ => none) = some r at he
  cases hf : flat v with
  | false => rw [hf] at he; cases he
  | true =>
  cases hp : σ.put ⟨b, o', none⟩ v with
  | none => rw [hf, hp] at he; cases he
  | some σ1 =>
    rw [hf, hp] at he
    cases Option.some.inj (show some (Rs.ok () σ1) = some r from he)
    unfold St.put at hp
    cases hg : σ.heap.get b with
    | none => simp only [hg] at hp; cases hp
    | some x =>
      simp only [hg] at hp
      cases x with
      | obj o => cases hp
      | row bl =>
        obtain ⟨cells0, ty0, sz0, own0⟩ := bl
        obtain ⟨k, y, h1, h2, cs, ty, fr, rfl, hrow⟩ := hr.live b _ hg
        have hkb : k = b' := by rw [hb] at h1; exact (Option.some.inj h1).symm
        subst hkb
        simp only [nth_eq] at hp
        cases own0 with
        | false => cases hp
        | true =>
        cases hc : cells0[o']? with
        | none => rw [hc] at hp; cases hp
        | some v0 =>
          rw [hc] at hp
          have hp := Option.some.inj hp
          have hown : (AObj.row ⟨cells0, ty0, sz0, true⟩).own = true := rfl
          obtain ⟨v0', h3, h4⟩ := hrow.get _ _ hc
          have hfr := hrow.fr rfl
          subst hfr
          have hcell : w.cell? ⟨k, o', none⟩ = some v0' := by simp [World.cell?, h2, h3]
          have hfz : w.frozen? ⟨k, o', none⟩ = false := by simp [World.frozen?, h2]
          have hfl' : flat v' = true := by rw [hv.flat]; exact hf
          refine ⟨ρ, (), w.setCell ⟨k, o', none⟩ v', .refl ρ, ?_, ?_, ?_, trivial⟩
          · cases v' <;> first | (simp [flat] at hfl'; done) | (simp [store, Sem.run, hcell, hfz])
          · subst hp
            have hx : (w.setCell ⟨k, o', none⟩ v').heap[k]? = some (.cells (cs.setIfInBounds o' v') ty (0, 0)) := by simp [World.setCell, Array.getElem?_modify, h2]
            have hne : ∀ j, j ≠ k → (w.setCell ⟨k, o', none⟩ v').heap[j]? = w.heap[j]? := fun j hj => by
              have : ¬ k = j := fun e => hj e.symm
              simp [World.setCell, Array.getElem?_modify, this]
            refine ⟨?_, ?_, hr.fresh, hr.glob, hr.gn, hr.orc⟩
            · intro id ob hid
              rw [T.get_set] at hid
              by_cases e : id = b
              · rw [if_pos e] at hid
                subst e
                cases Option.some.inj hid
                refine ⟨k, _, h1, hx, cs.setIfInBounds o' v', ty, (0, 0), rfl, ?_⟩
                refine { ty := hrow.ty, fr := fun _ => rfl, le := ?_, eq := ?_, get := ?_, room := ?_ }
                · simpa [setNth_eq] using hrow.le
                · intro hs; simpa [setNth_eq] using hrow.eq hs
                · intro i u hu
                  rw [setNth_eq, List.getElem?_set] at hu
                  rw [Array.getElem?_setIfInBounds]
                  by_cases e2 : o' = i
                  · subst e2
                    rw [if_pos rfl] at hu
                    rw [if_pos rfl]
                    have hlt : o' < cs.size := (Array.getElem?_eq_some_iff.1 h3).1
                    rw [if_pos hlt]
                    split at hu
                    · exact ⟨v', rfl, by rw [← Option.some.inj hu]; exact hv⟩
                    · cases hu
                  · rw [if_neg e2] at hu
                    rw [if_neg e2]
                    exact hrow.get i u hu
                · intro hs; obtain ⟨R, q1, q2⟩ := hrow.room hs; exact ⟨R, q1, by simpa using q2⟩
              · rw [if_neg e] at hid
                obtain ⟨j, y, q1, q2, q3⟩ := hr.live id ob hid
                have hj : j ≠ k := fun e2 => by
                  refine e (hr.inj b id _ _ hg hid hown ?_).symm
                  rw [h1, q1, e2]
                exact ⟨j, y, q1, by rw [hne j hj]; exact q2, q3⟩
            · intro i j oi oj hi hj ho hφ
              have key : ∀ id ob, (σ.heap.set b (some (.row { cells := setNth cells0 o' v, ty := ty0, sz := sz0, own := true }))).get id = some ob → ∃ ob', σ.heap.get id = some ob' ∧ ob'.own = ob.own := by
                intro id ob hid
                rw [T.get_set] at hid
                by_cases e : id = b
                · rw [if_pos e] at hid
                  cases Option.some.inj hid
                  exact ⟨.row ⟨cells0, ty0, sz0, true⟩, by rw [e]; exact hg, rfl⟩
                · rw [if_neg e] at hid; exact ⟨ob, hid, rfl⟩
              obtain ⟨oi', p1, p2⟩ := key i oi hi
              obtain ⟨oj', p3, -⟩ := key j oj hj
              exact hr.inj i j oi' oj' p1 p3 (p2.trans ho) hφ
          · subst hp
            refine ⟨by simp [World.setCell], rfl, rfl, rfl, rfl, Nat.le_refl _, fun _ _ => ⟨rfl, rfl⟩, ?_, ?_⟩
            · intro j hj hn
              have : ¬ k = j := fun e => hn b _ hg hown (by rw [h1, e])
              simp [World.setCell, Array.getElem?_modify, this]
            · intro id ob j hid hj
              rw [T.get_set] at hid
              by_cases e : id = b
              · rw [if_pos e] at hid
                cases Option.some.inj hid
                exact .inl ⟨.row ⟨cells0, ty0, sz0, true⟩, by rw [e]; exact hg, rfl, hj⟩
              · rw [if_neg e] at hid; exact .inl ⟨ob, hid, rfl, hj⟩
end
end Go.Ev
/- Closed calls by evaluation, part C: new blocks, objects, and the model's small library. -/
namespace Go.Ev
variable {Ψ : SymEnv}
def Ren.add (ρ : Ren Ψ) (id k : Nat) (rm : Option (Nat × Nat)) : Ren Ψ :=
  { φ := fun i => if i = id then some k else ρ.φ i, room := fun i => if i = id then rm else ρ.room i }
theorem Ren.le_add {ρ : Ren Ψ} {id k : Nat} {rm : Option (Nat × Nat)} (h1 : ρ.φ id = none) (h2 : ρ.room id = none) : ρ.le (ρ.add id k rm) := by
  refine ⟨fun b j h => ?_, fun b x h => ?_⟩
  · show (if b = id then some k else ρ.φ b) = some j
    by_cases e : b = id
    · subst e; rw [h1] at h; cases h
    · rw [if_neg e]; exact h
  · show (if b = id then rm else ρ.room b) = some x
    by_cases e : b = id
    · subst e; rw [h2] at h; cases h
    · rw [if_neg e]; exact h
def St.add (σ : St) (x : AObj) : St := { σ with heap := σ.heap.set σ.next (some x), next := σ.next + 1 }
theorem Rel.lt {ρ : Ren Ψ} {σ : St} {w : World} (h : Rel ρ σ w) {id : Nat} {o : AObj} (hg : σ.heap.get id = some o) : id < σ.next := by
  obtain ⟨k, x, h1, -⟩ := h.live id o hg
  by_cases e : id < σ.next
  · exact e
  · have := (h.fresh id (by omega)).1
    rw [h1] at this; cases this
theorem Rel.new {ρ : Ren Ψ} {σ : St} {w : World} (h : Rel ρ σ w) (x : AObj) (o : Obj) (rm : Option (Nat × Nat)) (hx : AtR (ρ.add σ.next w.heap.size rm) σ.next x o) :
    Rel (ρ.add σ.next w.heap.size rm) (σ.add x) { w with heap := w.heap.push o } := by
  have hle : ρ.le (ρ.add σ.next w.heap.size rm) := Ren.le_add (h.fresh _ (Nat.le_refl _)).1 (h.fresh _ (Nat.le_refl _)).2
  have hlt : ∀ id ob k, σ.heap.get id = some ob → ρ.φ id = some k → k < w.heap.size := by
    intro id ob k h1 h2
    obtain ⟨j, y, q1, q2, -⟩ := h.live id ob h1
    rw [q1] at h2
    rw [← Option.some.inj h2]
    exact (Array.getElem?_eq_some_iff.1 q2).1
  have hgn := h.gn
  refine ⟨?_, ?_, ?_, ?_, by show σ.glob ≤ σ.next + 1; omega, h.orc⟩
  · intro id ob hid
    simp only [St.add] at hid
    rw [T.get_set] at hid
    by_cases e : id = σ.next
    · rw [if_pos e] at hid
      rw [← Option.some.inj hid, e]
      exact ⟨w.heap.size, o, by simp [Ren.add], by simp, hx⟩
    · rw [if_neg e] at hid
      obtain ⟨j, y, q1, q2, q3⟩ := h.live id ob hid
      refine ⟨j, y, hle.φ _ _ q1, ?_, q3.mono hle⟩
      have := hlt id ob j hid q1
      simp only [Array.getElem?_push]
      rw [if_neg (by omega)]; exact q2
  · intro i j oi oj hi hj ho hφ
    simp only [St.add] at hi hj
    rw [T.get_set] at hi hj
    by_cases ei : i = σ.next
    · by_cases ej : j = σ.next
      · rw [ei, ej]
      · rw [if_neg ej] at hj
        obtain ⟨k, y, q1, q2, -⟩ := h.live j oj hj
        have h3 := hle.φ _ _ q1
        have h4 : (ρ.add σ.next w.heap.size rm).φ i = some w.heap.size := by simp [Ren.add, ei]
        rw [h3, h4] at hφ
        have := hlt j oj k hj q1
        have := Option.some.inj hφ
        omega
    · rw [if_neg ei] at hi
      obtain ⟨k, y, q1, q2, -⟩ := h.live i oi hi
      have h3 := hle.φ _ _ q1
      by_cases ej : j = σ.next
      · have h4 : (ρ.add σ.next w.heap.size rm).φ j = some w.heap.size := by simp [Ren.add, ej]
        rw [h3, h4] at hφ
        have := hlt i oi k hi q1
        have := Option.some.inj hφ
        omega
      · rw [if_neg ej] at hj
        refine h.inj i j oi oj hi hj ho ?_
        obtain ⟨k2, y2, q5, q6, -⟩ := h.live j oj hj
        rw [h3, hle.φ _ _ q5] at hφ
        rw [q1, q5]; exact hφ
  · intro id hid
    simp only [St.add] at hid
    have h1 := h.fresh id (by omega)
    have : id ≠ σ.next := by omega
    simp [Ren.add, this, h1]
  · intro g hg2
    have : g ≠ σ.next := by have : g < σ.glob := hg2; omega
    simp only [Ren.add, if_neg this]
    exact h.glob g hg2
theorem Keep.fresh {ρ : Ren Ψ} {σ : St} {w : World} (x : AObj) (hx : x.own = true) (o : Obj) (rm : Option (Nat × Nat)) :
    Keep ρ σ (ρ.add σ.next w.heap.size rm) (σ.add x) w { w with heap := w.heap.push o } := by
  refine ⟨by simp, rfl, rfl, rfl, rfl, Nat.le_succ _, fun id hid => ?_, ?_, ?_⟩
  · have : id ≠ σ.next := by omega
    simp [Ren.add, this]
  · intro k hk _
    simp only [Array.getElem?_push]
    rw [if_neg (by omega)]
  · intro id ob k hid hk
    simp only [St.add] at hid
    rw [T.get_set] at hid
    by_cases e : id = σ.next
    · simp only [Ren.add, if_pos e] at hk
      rw [if_pos e] at hid
      rw [← Option.some.inj hid]
      exact .inr ⟨hx, .inl (Nat.le_of_eq (Option.some.inj hk))⟩
    · rw [if_neg e] at hid
      simp only [Ren.add, if_neg e] at hk
      exact .inl ⟨ob, hid, rfl, hk⟩
section
variable {P : Program} {α α' β β' : Type} {ρ : Ren Ψ}
theorem VRs.toList {a b : Array Value} (h : VRs ρ a b) (i : Nat) (v : Value) (hv : a.toList[i]? = some v) : ∃ v', b[i]? = some v' ∧ VR ρ v v' := by
  rw [Array.getElem?_toList] at hv
  exact h.to hv
theorem RowR.shut {cs cs' : Array Value} (h : VRs ρ cs cs') (id : Nat) (ty : TypeId) : RowR ρ id { cells := cs.toList, ty := ty, sz := 0, own := true } cs' ty (0, 0) :=
  ⟨fun _ => rfl, fun _ => rfl, by simp [h.size], fun _ => by simp [h.size], fun i v hv => h.toList i v hv, fun h => absurd rfl h⟩
theorem newA_own {o : Obj} {x : AObj} (h : newA o = some x) : x.own = true := by
  unfold newA at h
  split at h
  case h_3 =>
    split at h
    · cases Option.some.inj h; rfl
    · cases h
  all_goals first | (cases Option.some.inj h; rfl) | (cases h)
theorem sim_new_with {o o' : Obj} {x : AObj} (hx : newA o = some x) (hr : ∀ ρ' : Ren Ψ, ρ.le ρ' → ∀ id, AtR ρ' id x o') : Sim P (newObj o) (newObj o') ρ fun ρ' k k' => ρ'.φ k = some k' := by
  intro σ w hrel r he
  simp only [newObj, runA, hx] at he
  cases Option.some.inj he
  have hle : ρ.le (ρ.add σ.next w.heap.size none) := Ren.le_add (hrel.fresh _ (Nat.le_refl _)).1 (hrel.fresh _ (Nat.le_refl _)).2
  exact ⟨_, w.heap.size, _, hle, rfl, hrel.new x o' none (hr _ hle _), .fresh x (newA_own hx) o' none, by simp [Ren.add]⟩
theorem sim_newRow {cs cs' : Array Value} {ty : TypeId} (h : VRs ρ cs cs') : Sim P (newRow ty cs) (newRow ty cs') ρ AdR :=
  sim_bind (sim_new_with (x := .row { cells := cs.toList, ty := ty, sz := 0, own := true }) rfl fun _ hle _ => ⟨cs', ty, (0, 0), rfl, .shut (h.mono hle) _ _⟩) fun _ _ _ _ hk => sim_pure ⟨rfl, rfl, rfl, hk⟩
theorem sim_newVar {t : TypeId} {v v' : Value} (h : VR ρ v v') : Sim P (newVar t v) (newVar t v') ρ AdR := sim_newRow h.cells
theorem sim_getObj {r r' : Nat} (h : ρ.φ r = some r') : Sim P (getObj r) (getObj r') ρ fun ρ' o o' => ObjR ρ' o o' := by
  intro σ w hrel x he
  simp only [getObj, runA] at he
  cases hg : σ.heap.get r with
  | none => rw [hg] at he; cases he
  | some y =>
    cases y with
    | row b => rw [hg] at he; cases he
    | obj o =>
      rw [hg] at he
      cases Option.some.inj he
      obtain ⟨k, z, h1, h2, h3⟩ := hrel.live r _ hg
      have : k = r' := by rw [h] at h1; exact (Option.some.inj h1).symm
      subst this
      refine ⟨ρ, z, w, .refl ρ, ?_, hrel, .refl w, h3⟩
      cases h3 <;> simp [getObj, Sem.run, h2]
theorem sim_setObj {r r' : Nat} {o o' : Obj} (h : ρ.φ r = some r') (ho : ObjR ρ o o') : Sim P (setObj r o) (setObj r' o') ρ fun _ _ _ => True := by
  intro σ w hrel x he
  simp only [setObj, runA] at he
  cases hg : σ.heap.get r with
  | none => rw [hg] at he; cases he
  | some y =>
    cases y with
    | row b => rw [hg] at he; cases he
    | obj o0 =>
      rw [hg] at he
      simp only at he
      have hoa : objA o = true := by cases ho <;> rfl
      rw [hoa] at he
      cases Option.some.inj he
      obtain ⟨k, z, h1, h2, h3⟩ := hrel.live r _ hg
      have hk : k = r' := by rw [h] at h1; exact (Option.some.inj h1).symm
      subst hk
      have hlt : k < w.heap.size := (Array.getElem?_eq_some_iff.1 h2).1
      refine ⟨ρ, (), { w with heap := w.heap.setIfInBounds k o' }, .refl ρ, ?_, ?_, ?_, trivial⟩
      · cases h3 <;> simp [setObj, Sem.run, h2]
      · refine ⟨?_, ?_, hrel.fresh, hrel.glob, hrel.gn, hrel.orc⟩
        · intro id ob hid
          simp only at hid
          rw [T.get_set] at hid
          by_cases e : id = r
          · rw [if_pos e] at hid
            rw [← Option.some.inj hid, e]
            exact ⟨k, o', h1, by simp [hlt], ho⟩
          · rw [if_neg e] at hid
            obtain ⟨j, y, q1, q2, q3⟩ := hrel.live id ob hid
            have hj : k ≠ j := fun e2 => e (hrel.inj r id _ _ hg hid rfl (by rw [h1, q1, e2])).symm
            exact ⟨j, y, q1, by simp only; rw [Array.getElem?_setIfInBounds_ne hj]; exact q2, q3⟩
        · intro i j oi oj hi hj hown hφ
          have key : ∀ id ob, (σ.heap.set r (some (.obj o))).get id = some ob → ∃ ob', σ.heap.get id = some ob' ∧ ob'.own = ob.own := by
            intro id ob hid
            rw [T.get_set] at hid
            by_cases e : id = r
            · rw [if_pos e] at hid
              cases Option.some.inj hid
              exact ⟨.obj o0, by rw [e]; exact hg, rfl⟩
            · rw [if_neg e] at hid; exact ⟨ob, hid, rfl⟩
          obtain ⟨oi', p1, p2⟩ := key i oi hi
          obtain ⟨oj', p3, -⟩ := key j oj hj
          exact hrel.inj i j oi' oj' p1 p3 (p2.trans hown) hφ
      · refine ⟨by simp, rfl, rfl, rfl, rfl, Nat.le_refl _, fun _ _ => ⟨rfl, rfl⟩, ?_, ?_⟩
        · intro j hj hn
          have : k ≠ j := fun e => hn r _ hg rfl (by rw [h1, e])
          simp only; rw [Array.getElem?_setIfInBounds_ne this]
        · intro id ob j hid hj
          simp only at hid
          rw [T.get_set] at hid
          by_cases e : id = r
          · rw [if_pos e] at hid
            cases Option.some.inj hid
            exact .inl ⟨.obj o0, by rw [e]; exact hg, rfl, hj⟩
          · rw [if_neg e] at hid; exact .inl ⟨ob, hid, rfl, hj⟩
theorem sim_frozen {a a' : Addr} (h : AdR ρ a a') : Sim P (frozen a) (frozen a') ρ fun _ x x' => x' = x := by
  intro σ w hrel x he
  simp only [frozen, runA] at he
  cases hg : σ.heap.get a.block with
  | none => rw [hg] at he; cases he
  | some y =>
    cases y with
    | obj o => rw [hg] at he; cases he
    | row b =>
      rw [hg] at he
      obtain ⟨cells0, ty0, sz0, own0⟩ := b
      cases own0 with
      | false => cases he
      | true =>
      cases Option.some.inj he
      obtain ⟨k, z, h1, h2, cs, ty, fr, rfl, hrow⟩ := hrel.live _ _ hg
      have hk : k = a'.block := by have := h.2.2.2; rw [h1] at this; exact Option.some.inj this
      subst hk
      have hfr := hrow.fr rfl
      subst hfr
      exact ⟨ρ, false, w, .refl ρ, by simp [frozen, Sem.run, World.frozen?, h2], hrel, .refl w, rfl⟩
theorem sim_shape {r r' : Nat} (h : ρ.φ r = some r') : Sim P (shape r) (shape r') ρ fun _ x x' => x' = x := by
  intro σ w hrel x he
  simp only [shape, runA] at he
  cases hg : σ.heap.get r with
  | none => rw [hg] at he; cases he
  | some y =>
    cases y with
    | obj o =>
      rw [hg] at he
      cases Option.some.inj he
      obtain ⟨k, z, h1, h2, h3⟩ := hrel.live _ _ hg
      have hk : k = r' := by rw [h] at h1; exact (Option.some.inj h1).symm
      subst hk
      refine ⟨ρ, none, w, .refl ρ, ?_, hrel, .refl w, rfl⟩
      cases h3 <;> simp [shape, Sem.run, World.shape?, h2]
    | row b =>
      rw [hg] at he
      obtain ⟨cells0, ty0, sz0, own0⟩ := b
      cases own0 with
      | false => cases he
      | true =>
      cases sz0 with
      | succ n => cases he
      | zero =>
      cases Option.some.inj he
      obtain ⟨k, z, h1, h2, cs, ty, fr, rfl, hrow⟩ := hrel.live _ _ hg
      have hk : k = r' := by rw [h] at h1; exact (Option.some.inj h1).symm
      subst hk
      have h4 := hrow.eq rfl
      have h5 := hrow.ty rfl
      simp only at h4 h5
      subst h5
      exact ⟨ρ, _, w, .refl ρ, by simp [shape, Sem.run, World.shape?, h2, h4], hrel, .refl w, rfl⟩
theorem sim_typeInfo {t : TypeId} : Sim P (typeInfo t) (typeInfo t) ρ fun _ x x' => x' = x ∧ P.info? t = some x :=
  sim_bind (sim_program (Q := fun _ p p' => p = P ∧ p' = P) ⟨rfl, rfl⟩) fun _ p p' _ h => by
    obtain ⟨rfl, rfl⟩ := h
    split
    · rename_i i hi; exact sim_pure ⟨rfl, hi⟩
    · exact sim_stuck
theorem sim_underlying {t : TypeId} : Sim P (underlying t) (underlying t) ρ fun _ x x' => x' = x ∧ P.underlying t = some x :=
  sim_bind (sim_program (Q := fun _ p p' => p = P ∧ p' = P) ⟨rfl, rfl⟩) fun _ p p' _ h => by
    obtain ⟨rfl, rfl⟩ := h
    split
    · rename_i i hi; exact sim_pure ⟨rfl, hi⟩
    · exact sim_stuck
theorem sim_sizeOf {t : TypeId} : Sim P (sizeOf t) (sizeOf t) ρ fun _ x x' => x' = x := sim_bind sim_typeInfo fun _ x x' _ h => by rw [h.1]; exact sim_pure rfl
theorem sim_isAgg {t : TypeId} : Sim P (isAgg t) (isAgg t) ρ fun _ x x' => x' = x := sim_bind sim_underlying fun _ x x' _ h => by
  rw [h.1]; split <;> exact sim_pure rfl
theorem sim_if {c : Bool} {s t : Sem α} {s' t' : Sem α'} {Q : Ren Ψ → α → α' → Prop} (h1 : c = true → Sim P s s' ρ Q) (h2 : c = false → Sim P t t' ρ Q) : Sim P (if c = true then s else t) (if c = true then s' else t') ρ Q := by
  cases c
  · simpa using h2 rfl
  · simpa using h1 rfl
theorem sim_ite {c : Prop} [Decidable c] {s t : Sem α} {s' t' : Sem α'} {Q : Ren Ψ → α → α' → Prop} (h1 : c → Sim P s s' ρ Q) (h2 : ¬ c → Sim P t t' ρ Q) : Sim P (if c then s else t) (if c then s' else t') ρ Q := by
  by_cases h : c
  · rw [if_pos h, if_pos h]; exact h1 h
  · rw [if_neg h, if_neg h]; exact h2 h
theorem sim_loadCellsFrom {a a' : Addr} : ∀ (n i : Nat) (ρ : Ren Ψ) (acc acc' : Array Value), AdR ρ a a' → VRs ρ acc acc' → Sim P (loadCellsFrom a i n acc) (loadCellsFrom a' i n acc') ρ VRs := by
  intro n
  induction n with
  | zero => intro i ρ acc acc' _ h; exact sim_pure h
  | succ n ih => intro i ρ acc acc' ha h; exact sim_bind (sim_load (ha.add i)) fun ρ1 v v' hle hv => ih _ _ _ _ (ha.mono hle) ((h.mono hle).push hv)
theorem sim_loadCells {a a' : Addr} (n : Nat) (h : AdR ρ a a') : Sim P (loadCells a n) (loadCells a' n) ρ VRs := sim_loadCellsFrom n 0 ρ _ _ h (.empty ρ)
theorem sim_storeCells {a a' : Addr} : ∀ (vs vs' : List Value) (i : Nat) (ρ : Ren Ψ), AdR ρ a a' → vs.length = vs'.length → (∀ (j : Nat) (v v' : Value), vs[j]? = some v → vs'[j]? = some v' → VR ρ v v') → Sim P (storeCells a vs i) (storeCells a' vs' i) ρ fun _ _ _ => True := by
  intro vs
  induction vs with
  | nil =>
    intro vs' i ρ ha hl hv
    cases vs' with
    | nil => exact sim_pure trivial
    | cons x l => simp at hl
  | cons v vs ih =>
    intro vs' i ρ ha hl hv
    cases vs' with
    | nil => simp at hl
    | cons v' vs' => exact sim_bind (sim_store (ha.add i) (hv 0 v v' rfl rfl)) fun ρ1 _ _ hle _ => ih vs' _ ρ1 (ha.mono hle) (by simpa using hl) fun j x x' h1 h2 => (hv (j + 1) x x' (by simpa using h1) (by simpa using h2)).mono hle
theorem sim_loadVar {t : TypeId} {a a' : Addr} (h : AdR ρ a a') : Sim P (loadVar t a) (loadVar t a') ρ VR :=
  sim_bind sim_isAgg fun ρ1 x x' hle hx => by
    subst hx
    refine sim_if (fun _ => ?_) fun _ => sim_load (h.mono hle)
    exact sim_bind sim_sizeOf fun ρ2 n n' hle2 hn => by
      subst hn
      exact sim_bind (sim_loadCells _ ((h.mono hle).mono hle2)) fun _ cs cs' _ hc => sim_pure hc.agg
theorem sim_storeVar {t : TypeId} {a a' : Addr} {v v' : Value} (h : AdR ρ a a') (hv : VR ρ v v') : Sim P (storeVar t a v) (storeVar t a' v') ρ fun _ _ _ => True :=
  sim_bind sim_sizeOf fun ρ2 n n' hle2 hn => by
    subst hn
    have hs := hv.cells.size
    rw [← hs]
    have fin : ∀ ρ3 : Ren Ψ, ρ2.le ρ3 → Sim P (storeCells a v.cells.toList) (storeCells a' v'.cells.toList) ρ3 fun _ _ _ => True := fun ρ3 hle => by
      have h3 := hv.cells.mono (hle2.trans hle)
      exact sim_storeCells _ _ 0 ρ3 (h.mono (hle2.trans hle)) (by simp [h3.size]) fun j x x' q1 q2 => h3.get j x x' (by simpa using q1) (by simpa using q2)
    by_cases hc : v.cells.size ≠ n'
    · simp only [if_pos hc]; exact sim_stuck
    · simp only [if_neg hc]; exact fin _ (.refl _)
end
end Go.Ev
/- Closed calls by evaluation, part D: operations. -/
namespace Go.Ev
variable {Ψ : SymEnv}
def bareFn (fn : Fn) (f c : List Value) : Bool :=
  match fn, f, c with
  | .func _, [], [] => true
  | _, _, _ => false
/-- a value without an address -/
def plainV : Nat → Value → Bool
  | _, .bool _ | _, .int _ _ | _, .float _ _ | _, .string _ | _, .pointer none | _, .map none | _, .nilFunc | _, .nilIface => true
  | _, .slice none _ c => Nat.blt c big
  | _, .func fn f c => bareFn fn f.toList c.toList
  | n + 1, .iface _ v => plainV n v
  | n + 1, .agg cs => cs.toList.all (plainV n)
  | n + 1, .tuple cs => cs.toList.all (plainV n)
  | _, _ => false
theorem VRs.refl_of {ρ : Ren Ψ} {cs : Array Value} (h : ∀ v ∈ cs.toList, VR ρ v v) : VRs ρ cs cs := ⟨rfl, fun i v v' h1 h2 => by
  rw [h1] at h2; rw [← Option.some.inj h2]
  exact h v (Array.mem_toList_iff.2 (Array.mem_of_getElem? h1))⟩
theorem plain_func {n : Nat} {fn : Fn} {f c : Array Value} (h : plainV n (.func fn f c) = true) : ∃ g, fn = .func g ∧ f = #[] ∧ c = #[] := by
  have h2 : bareFn fn f.toList c.toList = true := by cases n <;> exact h
  unfold bareFn at h2
  split at h2
  · rename_i g e1 e2
    exact ⟨_, rfl, by rw [← Array.toArray_toList (xs := f), e1], by rw [← Array.toArray_toList (xs := c), e2]⟩
  · cases h2
theorem plain_refl {ρ : Ren Ψ} : ∀ (n : Nat) (v : Value), plainV n v = true → VR ρ v v := by
  intro n
  induction n with
  | zero =>
    intro v h
    cases v with
    | bool b => exact .bool b
    | int k n => exact .int k n
    | float k n => exact .float k n
    | string s => exact .string s
    | nilFunc => exact .nilFunc
    | nilIface => exact .nilIface
    | pointer a => cases a with
      | none => exact .nilPtr
      | some a => simp [plainV] at h
    | slice a n c => cases a with
      | none => exact .nilSlice n c
      | some a => simp [plainV] at h
    | map a => cases a with
      | none => exact .nilMap
      | some a => simp [plainV] at h
    | func fn f c =>
      obtain ⟨g, rfl, rfl, rfl⟩ := plain_func h
      exact .func (.func g) rfl (fun i v v' h1 => by simp at h1) rfl fun i v v' h1 => by simp at h1
    | _ => simp [plainV] at h
  | succ n ih =>
    intro v h
    cases v with
    | bool b => exact .bool b
    | int k n => exact .int k n
    | float k n => exact .float k n
    | string s => exact .string s
    | nilFunc => exact .nilFunc
    | nilIface => exact .nilIface
    | pointer a => cases a with
      | none => exact .nilPtr
      | some a => simp [plainV] at h
    | slice a n c => cases a with
      | none => exact .nilSlice n c
      | some a => simp [plainV] at h
    | map a => cases a with
      | none => exact .nilMap
      | some a => simp [plainV] at h
    | func fn f c =>
      obtain ⟨g, rfl, rfl, rfl⟩ := plain_func h
      exact .func (.func g) rfl (fun i v v' h1 => by simp at h1) rfl fun i v v' h1 => by simp at h1
    | iface t v => exact .iface (ih v (by simpa [plainV] using h))
    | agg cs =>
      simp only [plainV, List.all_eq_true] at h
      exact (VRs.refl_of fun v hv => ih v (h v hv)).agg
    | tuple cs =>
      simp only [plainV, List.all_eq_true] at h
      exact (VRs.refl_of fun v hv => ih v (h v hv)).tuple
    | _ => simp [plainV] at h
theorem VRs.eq_of {ρ : Ren Ψ} {cs cs' : Array Value} (h : VRs ρ cs cs') (k : ∀ v ∈ cs.toList, ∀ v', VR ρ v v' → v' = v) : cs' = cs := by
  apply Array.ext h.size.symm
  intro i h1 h2
  have := h.get i cs[i] cs'[i] (Array.getElem?_eq_getElem h2) (Array.getElem?_eq_getElem h1)
  exact k _ (Array.mem_toList_iff.2 (Array.getElem_mem h2)) _ this
theorem plain_eq {ρ : Ren Ψ} : ∀ (n : Nat) (v v' : Value), plainV n v = true → VR ρ v v' → v' = v := by
  have fcase : ∀ (n : Nat) (fn fn' : Fn) (f f' c c' : Array Value), plainV n (.func fn f c) = true → FnR ρ fn fn' → f.size = f'.size → c.size = c'.size → Value.func fn' f' c' = .func fn f c := by
    intro n fn fn' f f' c c' h hf h1 h3
    obtain ⟨g, rfl, rfl, rfl⟩ := plain_func h
    cases hf
    rw [Array.eq_empty_of_size_eq_zero (xs := f') (by simpa using h1.symm), Array.eq_empty_of_size_eq_zero (xs := c') (by simpa using h3.symm)]
  intro n
  induction n with
  | zero =>
    intro v v' h k
    cases k with
    | empty a c' => exact absurd (show Nat.blt big big = true from h) (by decide)
    | func hf h1 _ h3 _ => exact fcase _ _ _ _ _ _ _ h hf h1 h3
    | _ => first | rfl | simp [plainV] at h
  | succ n ih =>
    intro v v' h k
    cases k with
    | empty a c' => exact absurd (show Nat.blt big big = true from h) (by decide)
    | func hf h1 _ h3 _ => exact fcase _ _ _ _ _ _ _ h hf h1 h3
    | iface h1 => rw [ih _ _ (by simpa [plainV] using h) h1]
    | agg h1 h2 =>
      simp only [plainV, List.all_eq_true] at h
      rw [VRs.eq_of ⟨h1, h2⟩ fun v hv v' hvv => ih v v' (h v hv) hvv]
    | tuple h1 h2 =>
      simp only [plainV, List.all_eq_true] at h
      rw [VRs.eq_of ⟨h1, h2⟩ fun v hv v' hvv => ih v v' (h v hv) hvv]
    | _ => first | rfl | simp [plainV] at h
/-- what the zero values of a program are -/
def ZeroOk (Ψ : SymEnv) (P : Program) : Prop := Ψ.prog = P ∧ ∀ t i z, P.info? t = some i → i.zero = some z → ∀ ρ : Ren Ψ, VR ρ z z
structure DR (ρ : Ren Ψ) (d d' : Deferred) : Prop where
  target : (∃ fn fn' c c', d.target = .fn fn c ∧ d'.target = .fn fn' c' ∧ FnR ρ fn fn' ∧ VRs ρ c c') ∨ (d.target = .nil ∧ d'.target = .nil) ∨ (∃ b ts t k, d.target = .builtin b ts t k ∧ d'.target = .builtin b ts t k) ∨ ∃ r r', d.target = .collected r ∧ d'.target = .collected r' ∧ ρ.φ r = some r'
  args : VRs ρ d.args d'.args
inductive NR (ρ : Ren Ψ) : Next → Next → Prop where
  | value {v v' : Value} (h : VR ρ v v') : NR ρ (.value v) (.value v')
  | skip : NR ρ .skip .skip
  | enter (f : FuncId) {a a' : Array Value} (h : VRs ρ a a') : NR ρ (.enter f a) (.enter f a')
  | defer {d d' : Deferred} (h : DR ρ d d') : NR ρ (.defer d) (.defer d')
  | recover : NR ρ .recover .recover
  | round {l l' : Nat} (f f' : FuncId) {t t' : Array Value} (assign body : Code) (h1 : ρ.φ l = some l') (h2 : VRs ρ t t') : NR ρ (.round l f t assign body) (.round l' f' t' assign body)
/-- the slots of a frame -/
structure ActR (ρ : Ren Ψ) (A a : Act) : Prop where
  tmps : VRs ρ A.tmps a.tmps
def okOperand (glob : Nat) : Operand → Bool
  | .tmp _ => true
  | .const v => plainV 6 v
  | .global g => Nat.blt g glob
  | .func _ => true
theorem undef_VR (ρ : Ren Ψ) : VR ρ undef undef := (VRs.empty ρ).tuple
theorem ActR.eval {ρ : Ren Ψ} {A a : Act} (h : ActR ρ A a) {σ : St} {w : World} (hr : Rel ρ σ w) {x : Operand} (hx : okOperand σ.glob x = true) : VR ρ (A.eval x) (a.eval x) := by
  cases x with
  | tmp t => exact h.tmps.getD t (undef_VR ρ)
  | const v => exact plain_refl 6 v hx
  | global g => exact .ptr (hr.glob g (by simpa [okOperand] using hx))
  | func f => exact .func (.func f) rfl (fun i v v' h1 => by simp at h1) rfl fun i v v' h1 => by simp at h1
theorem ActR.put {ρ : Ren Ψ} {A a : Act} (h : ActR ρ A a) (d : Option Tmp) {v v' : Value} (hv : VR ρ v v') : ActR ρ (A.put d v) (a.put d v') := by
  cases d with
  | none => exact h
  | some d => exact ⟨h.tmps.set d hv⟩
theorem ActR.mono {ρ ρ' : Ren Ψ} (hl : ρ.le ρ') {A a : Act} (h : ActR ρ A a) : ActR ρ' A a := ⟨h.tmps.mono hl⟩
/-- a run that asks the program alone -/
def pureQ (P : Program) {α : Type} : Sem α → Option α
  | .pure a => some a
  | .program k => pureQ P (k P)
  | .mark _ k => pureQ P k
  | .choose q k => match q.forced with
    | true => pureQ P (k 0)
    | false => none
  | _ => none
theorem pureQ_run {P : Program} {α : Type} {x : α} (s : Sem α) (h : pureQ P s = some x) (w : World) : s.run P w = .ok x w := by
  induction s generalizing w with
  | pure a => rw [Option.some.inj h.symm]; rfl
  | program k ih => exact ih P h w
  | mark m k ih => exact ih h w
  | choose q k ih =>
    simp only [pureQ] at h
    cases hq : q.forced with
    | false => rw [hq] at h; cases h
    | true => rw [hq] at h; simp only [Sem.run, hq, if_true]; exact ih 0 h w
  | _ => cases h
def Out {α : Type} (Q : Ren Ψ → α → α → Prop) (ρ : Ren Ψ) (σ : St) (w : World) (r : Rs α) (real : Result α) : Prop :=
  match r with
  | .ok x σ' => ∃ ρ' x' w', ρ.le ρ' ∧ real = .ok x' w' ∧ Rel ρ' σ' w' ∧ Keep ρ σ ρ' σ' w w' ∧ Q ρ' x x'
  | .panic v σ' => ∃ ρ' v' w', ρ.le ρ' ∧ real = .halt (.panic v') w' ∧ Rel ρ' σ' w' ∧ Keep ρ σ ρ' σ' w w' ∧ VR ρ' v v'
theorem Sim.out {P : Program} {α : Type} {s s' : Sem α} {ρ : Ren Ψ} {Q : Ren Ψ → α → α → Prop} (h : Sim P s s' ρ Q) {σ : St} {w : World} (hr : Rel ρ σ w) {r : Rs α} (he : runA P s σ = some r) : Out Q ρ σ w r (s'.run P w) := h σ w hr r he
section
variable {P : Program} {α α' : Type} {ρ : Ren Ψ}
theorem sim_value {s s' : Sem Value} (h : Sim P s s' ρ VR) : Sim P (do pure (Next.value (← s))) (do pure (Next.value (← s'))) ρ NR := sim_bind h fun _ _ _ _ hv => sim_pure (.value hv)
theorem sim_skip {s s' : Sem Unit} (h : Sim P s s' ρ fun _ _ _ => True) : Sim P (do s; pure Next.skip) (do s'; pure Next.skip) ρ NR := sim_bind h fun _ _ _ _ _ => sim_pure .skip
theorem sim_zeroValue (hz : ZeroOk Ψ P) {t : TypeId} : Sim P (zeroValue t) (zeroValue t) ρ VR := sim_bind sim_typeInfo fun ρ1 i i' _ h => by
  obtain ⟨rfl, hi⟩ := h
  split
  · rename_i v hv; exact sim_pure (hz.2 _ _ _ hi hv ρ1)
  · exact sim_unsupported
theorem sim_part {t : TypeId} {cs cs' : Array Value} (off : Nat) (h : VRs ρ cs cs') : Sim P (part t cs off) (part t cs' off) ρ VR :=
  sim_bind sim_isAgg fun ρ1 x x' hle hx => by
    subst hx
    refine sim_if (fun _ => ?_) fun _ => ?_
    · exact sim_bind sim_sizeOf fun ρ2 n n' hle2 hn => by subst hn; exact sim_pure ((h.mono (hle.trans hle2)).extract _ _).agg
    · cases hc : cs[off]? with
      | none => exact sim_stuck
      | some v => obtain ⟨v', h1, h2⟩ := h.to hc; rw [h1]; exact sim_pure (h2.mono hle)
theorem sim_sureAddr {v v' : Value} (h : VR ρ v v') : Sim P (Instr.sureAddr v) (Instr.sureAddr v') ρ AdR := by
  cases h with
  | ptr h1 => exact sim_pure ⟨rfl, rfl, rfl, h1⟩
  | _ => exact sim_stuck
theorem sim_loadAt {t : TypeId} {v v' : Value} (h : VR ρ v v') : Sim P (Instr.loadAt t v) (Instr.loadAt t v') ρ VR := sim_bind (sim_sureAddr h) fun _ _ _ _ ha => sim_loadVar ha
theorem sim_storeAt {t : TypeId} {v v' x x' : Value} (h : VR ρ v v') (hx : VR ρ x x') : Sim P (Instr.storeAt t v x) (Instr.storeAt t v' x') ρ fun _ _ _ => True := sim_bind (sim_sureAddr h) fun _ _ _ hle ha => sim_storeVar ha (hx.mono hle)
theorem sim_alloc (hz : ZeroOk Ψ P) {t : TypeId} : Sim P (Instr.alloc t true (.tuple #[])) (Instr.alloc t true (.tuple #[])) ρ VR :=
  sim_bind (sim_zeroValue hz) fun _ _ _ _ hv => sim_bind (sim_newVar hv) fun _ _ _ _ ha => sim_pure ha.ptr
theorem sim_box {t : TypeId} {v v' : Value} (h : VR ρ v v') : Sim P (Instr.box t v) (Instr.box t v') ρ VR := sim_bind (sim_newVar h) fun _ _ _ _ ha => sim_pure ha.ptr
theorem sim_mapM {β γ : Type} {f g : β → Sem γ} (h : ∀ (ρ : Ren Ψ) (x : β), Sim P (f x) (g x) ρ fun _ a b => b = a) : ∀ (l : List β) (ρ : Ren Ψ), Sim P (l.mapM f) (l.mapM g) ρ fun _ a b => b = a := by
  intro l
  induction l with
  | nil => intro ρ; rw [List.mapM_nil, List.mapM_nil]; exact sim_pure rfl
  | cons x l ih =>
    intro ρ
    rw [List.mapM_cons, List.mapM_cons]
    exact sim_bind (h ρ x) fun ρ1 a b _ hab => sim_bind (ih ρ1) fun _ avs bs _ habs => by rw [hab, habs]; exact sim_pure rfl
theorem sim_mapMA {β γ : Type} {f g : β → Sem γ} (h : ∀ (ρ : Ren Ψ) (x : β), Sim P (f x) (g x) ρ fun _ a b => b = a) (l : Array β) : Sim P (l.mapM f) (l.mapM g) ρ fun _ a b => b = a := by
  rw [Array.mapM_eq_mapM_toList, Array.mapM_eq_mapM_toList]
  exact sim_bind (sim_mapM h l.toList ρ) fun _ a b _ hab => by rw [hab]; exact sim_pure rfl
/-- pairs of a place and a value -/
def PR (ρ : Ren Ψ) (l l' : List (Nat × Value)) : Prop := l.length = l'.length ∧ ∀ (i : Nat) (p p' : Nat × Value), l[i]? = some p → l'[i]? = some p' → p'.1 = p.1 ∧ VR ρ p.2 p'.2
theorem PR.mono {ρ ρ' : Ren Ψ} (hl : ρ.le ρ') {l l' : List (Nat × Value)} (h : PR ρ l l') : PR ρ' l l' := ⟨h.1, fun i p p' h1 h2 => ⟨(h.2 i p p' h1 h2).1, (h.2 i p p' h1 h2).2.mono hl⟩⟩
theorem foldR {off : Nat} : ∀ (l l' : List Value) (j : Nat) (cs cs' : Array Value), VRs ρ cs cs' → l.length = l'.length → (∀ (i : Nat) (v v' : Value), l[i]? = some v → l'[i]? = some v' → VR ρ v v') →
    VRs ρ ((l.zipIdx j).foldl (fun cs (c, j) => cs.setIfInBounds (off + j) c) cs) ((l'.zipIdx j).foldl (fun cs (c, j) => cs.setIfInBounds (off + j) c) cs') := by
  intro l
  induction l with
  | nil => intro l' j cs cs' h hl hv; cases l' with
    | nil => exact h
    | cons x l' => simp at hl
  | cons x l ih => intro l' j cs cs' h hl hv; cases l' with
    | nil => simp at hl
    | cons x' l' =>
      simp only [List.zipIdx_cons, List.foldl_cons]
      exact ih l' _ _ _ (h.set _ (hv 0 x x' rfl rfl)) (by simpa using hl) fun i v v' h1 h2 => hv (i + 1) v v' (by simpa using h1) (by simpa using h2)
theorem zipIdx_toList (a : Array Value) : a.zipIdx.toList = a.toList.zipIdx := by simp
theorem fillR {place : Nat → Option (Nat × Nat)} : ∀ (l l' : List (Nat × Value)) (cs cs' : Array Value), VRs ρ cs cs' → PR ρ l l' →
    (Instr.fill place cs l = none ∧ Instr.fill place cs' l' = none) ∨ ∃ x x', Instr.fill place cs l = some x ∧ Instr.fill place cs' l' = some x' ∧ VRs ρ x x' := by
  intro l
  induction l with
  | nil => intro l' cs cs' h hp; cases l' with
    | nil => exact .inr ⟨cs, cs', rfl, rfl, h⟩
    | cons x l' => simp [PR] at hp
  | cons p l ih => intro l' cs cs' h hp; cases l' with
    | nil => simp [PR] at hp
    | cons p' l' =>
      obtain ⟨i, v⟩ := p
      obtain ⟨i', v'⟩ := p'
      obtain ⟨h1, h2⟩ := hp.2 0 _ _ rfl rfl
      simp only at h1 h2
      subst h1
      have hc := h2.cells
      simp only [Instr.fill]
      cases place i' with
      | none => exact .inl ⟨rfl, rfl⟩
      | some q =>
        obtain ⟨off, size⟩ := q
        simp only [← hc.size, ← h.size]
        by_cases hb : (decide (v.cells.size ≠ size) || decide (off + v.cells.size > cs.size)) = true
        · rw [if_pos hb, if_pos hb]; exact .inl ⟨rfl, rfl⟩
        · rw [if_neg hb, if_neg hb]
          refine ih l' _ _ ?_ ⟨by have := hp.1; simpa using this, fun j q q' h3 h4 => hp.2 (j + 1) q q' (by simpa using h3) (by simpa using h4)⟩
          rw [← Array.foldl_toList, ← Array.foldl_toList, zipIdx_toList, zipIdx_toList]
          exact foldR _ _ 0 _ _ h (by simp [hc.size]) fun j x x' h3 h4 => hc.get j x x' (by simpa using h3) (by simpa using h4)
end
end Go.Ev
/- Closed calls by evaluation, part E: append. -/
namespace Go.Ev
variable {Ψ : SymEnv}
section
variable {P : Program} {ρ : Ren Ψ}
/-- what only loads leaves the world alone -/
theorem load_run {a a' : Addr} (h : AdR ρ a a') {σ : St} {w : World} (hr : Rel ρ σ w) {r : Rs Value} (he : runA P (load a) σ = some r) : ∃ v v', r = .ok v σ ∧ (load a').run P w = .ok v' w ∧ VR ρ v v' := by
  obtain ⟨b, o, sp⟩ := a
  obtain ⟨b', o', sp'⟩ := a'
  obtain ⟨h1, h2, h3, hb⟩ := h
  simp only at h1 h2 h3 hb
  subst h1 h2 h3
  simp only [load, runA] at he
  cases hc : σ.cell ⟨b, o', none⟩ with
  | none => rw [hc] at he; cases he
  | some v =>
    rw [hc] at he
    unfold St.cell at hc
    cases hg : σ.heap.get b with
    | none => simp only [hg] at hc; cases hc
    | some x =>
      simp only [hg] at hc
      cases x with
      | obj o => cases hc
      | row bl =>
        obtain ⟨k, y, h1, h2, cs, ty, fr, rfl, hrow⟩ := hr.live b _ hg
        have hkb : k = b' := by rw [hb] at h1; exact (Option.some.inj h1).symm
        subst hkb
        simp only [nth_eq] at hc
        obtain ⟨v', h3, h4⟩ := hrow.get _ _ hc
        refine ⟨v, v', (Option.some.inj he).symm, ?_, h4⟩
        rw [run_load]
        have : w.cell? ⟨k, o', none⟩ = some v' := by simp [World.cell?, h2, h3]
        rw [this]
theorem loads_run {a a' : Addr} (h : AdR ρ a a') {σ : St} {w : World} (hr : Rel ρ σ w) : ∀ (n i : Nat) (acc acc' : Array Value) (r : Rs (Array Value)), VRs ρ acc acc' → runA P (loadCellsFrom a i n acc) σ = some r →
    ∃ cs cs', r = .ok cs σ ∧ (loadCellsFrom a' i n acc').run P w = .ok cs' w ∧ VRs ρ cs cs' ∧ cs.size = acc.size + n := by
  intro n
  induction n with
  | zero => intro i acc acc' r hv he; cases Option.some.inj (show some (Rs.ok acc σ) = some r from he); exact ⟨acc, acc', rfl, rfl, hv, rfl⟩
  | succ n ih =>
    intro i acc acc' r hv he
    change runA P ((load (a.add i)).bind fun v => loadCellsFrom a (i + 1) n (acc.push v)) σ = some r at he
    rw [runA_bind] at he
    cases hl : runA P (load (a.add i)) σ with
    | none => rw [hl] at he; cases he
    | some r1 =>
      rw [hl] at he
      obtain ⟨v, v', rfl, h2, h3⟩ := load_run (h.add i) hr hl
      obtain ⟨cs, cs', q1, q2, q3, q4⟩ := ih (i + 1) _ _ r (hv.push h3) he
      refine ⟨cs, cs', q1, ?_, q3, by rw [q4]; simp; omega⟩
      show ((load (a'.add i)) >>= fun v => loadCellsFrom a' (i + 1) n (acc'.push v)).run P w = _
      rw [Sem.run_bind, h2]
      exact q2
theorem first_run {x x' : Value} (h : VR ρ x x') {σ : St} {w : World} (hr : Rel ρ σ w) {size n : Nat} (hz : x = .slice none 0 big → n = 0) {r : Rs (Array Value)} (he : runA P (Builtin.firstCells size n x) σ = some r) :
    ∃ cs cs', r = .ok cs σ ∧ (Builtin.firstCells size n x').run P w = .ok cs' w ∧ VRs ρ cs cs' := by
  cases h with
  | @slice b k o n2 c c' h1 h2 =>
    obtain ⟨cs, cs', q1, q2, q3, -⟩ := loads_run (P := P) (a := ⟨b, o, none⟩) (a' := ⟨k, o, none⟩) ⟨rfl, rfl, rfl, h1⟩ hr _ 0 #[] #[] r (.empty ρ) he
    exact ⟨cs, cs', q1, q2, q3⟩
  | nilSlice n2 c => cases Option.some.inj (show some (Rs.ok #[] σ) = some r from he); exact ⟨_, _, rfl, rfl, .empty ρ⟩
  | empty a c' =>
    cases Option.some.inj (show some (Rs.ok #[] σ) = some r from he)
    obtain rfl := hz rfl
    refine ⟨_, _, rfl, ?_, .empty ρ⟩
    cases a with
    | none => rfl
    | some a => simp only [Builtin.firstCells, Nat.zero_mul]; rfl
  | string s =>
    cases Option.some.inj (show some (Rs.ok ((s.extract 0 n).data.map fun b => Value.int .u8 b.toNat) σ) = some r from he)
    exact ⟨_, _, rfl, rfl, .map _ _ _ fun b _ => .int _ _⟩
  | _ => cases he
def inPlace (size n m : Nat) (base : Option Addr) (x : Value) (c : Nat) : Sem Value := do
  let new ← Builtin.firstCells size m x
  if let some a := base then storeCells (a.add (n * size)) new.toList
  pure (.slice base (n + m) c)
/-- how long what is appended is -/
def lenV : Value → Option Nat
  | .slice _ m _ => some m
  | .string s => some s.size
  | _ => none
theorem lenV_run {x x' : Value} {m : Nat} (h : VR ρ x x') (hm : lenV x = some m) : Builtin.lenOf x' = pure m := by
  cases h <;> first | (simp only [lenV, Option.some.injEq] at hm; subst hm; rfl) | (cases hm)
/-- what may be appended: slices and strings, not the mark of 'append(s, make(..)..)' -/
def okArg (P : Program) (tx : TypeId) : Bool :=
  match P.underlying tx with
  | some (.slice _) | some .string => true
  | _ => false
theorem okArg_zeros {tx : TypeId} (h : okArg P tx = true) : ∃ d, P.underlying tx = some d ∧ ∀ k, d ≠ .int k := by
  unfold okArg at h
  cases hd : P.underlying tx with
  | none => rw [hd] at h; cases h
  | some d => exact ⟨d, rfl, fun k e => by rw [hd, e] at h; cases h⟩
theorem append_fits {t tx ty e : TypeId} {i : TypeInfo} (ht : P.underlying t = some (.slice e)) (hi : P.info? e = some i) (hx : okArg P tx = true) {base : Option Addr} {n c m : Nat} {x : Value} (hm : Builtin.lenOf x = pure m) (hc : n + m ≤ c) (w : World) :
    (Builtin.append_ #[t, tx] ty #[.slice base n c, x]).run P w = (inPlace i.size n m base x c).run P w := by
  unfold okArg at hx
  cases hd : P.underlying tx with
  | none => rw [hd] at hx; cases hx
  | some d =>
    rw [hd] at hx
    cases d <;> first
      | (cases hx; done)
      | (cases base <;> simp [Builtin.append_, inPlace, run_underlying ht, run_underlying hd, sizeOf, typeInfo, hi, hm, hc])
theorem append_grows {t tx ty e : TypeId} {i : TypeInfo} {z : Value} (ht : P.underlying t = some (.slice e)) (hi : P.info? e = some i) (hz : i.zero = some z) (hx : okArg P tx = true) {base : Option Addr} {n c m : Nat} {x : Value} (hm : Builtin.lenOf x = pure m)
    (hc : c < n + m) (hb : (n + m) * i.bytes ≤ 140737488355328) (h63 : n + m ≤ 140737488355328) (w : World) {old new : Array Value} (ho : (Builtin.firstCells i.size n (.slice base n c)).run P w.drew = .ok old w.drew) (hn : (Builtin.firstCells i.size m x).run P w.drew = .ok new w.drew) :
    (Builtin.append_ #[t, tx] ty #[.slice base n c, x]).run P w = .ok (.slice (some ⟨w.heap.size, 0, none⟩) (n + m) (grownCap w (n + m) c e)) (w.drew.alloc (.cells (old ++ new ++ Builtin.zeroCells z.cells (grownCap w (n + m) c e - (n + m))) e)) := by
  have hn1 : ¬ (n + m ≤ c) := by omega
  have h63' : ¬ (9223372036854775807 < ((n : Int) + (m : Int))) := by omega
  have h48' : ¬ (281474976710656 < Builtin.nextslicecap (n + m) c * i.bytes) := by have := growslice_fits hc hb; omega
  have hq : (Question.appendCap (n + m) c e).forced = false := rfl
  have hdr : ({ w with drawn := w.drawn + 1 } : World) = w.drew := rfl
  have hgc : (Question.appendCap (n + m) c e).cut (w.tape w.drawn (.appendCap (n + m) c e)) = grownCap w (n + m) c e := rfl
  unfold okArg at hx
  cases hd : P.underlying tx with
  | none => rw [hd] at hx; cases hx
  | some d =>
    rw [hd] at hx
    cases d <;> first
      | (cases hx; done)
      | (simp [Builtin.append_, run_underlying ht, run_underlying hd, sizeOf, typeInfo, hi, hm, hn1, h63', h48', hq, hgc, ho, hn, zeroValue, hz, newRow])
end
end Go.Ev
/- Closed calls by evaluation, part F: append on abstract memory. -/
namespace Go.Ev
variable {Ψ : SymEnv}
def St.drop (σ : St) (b : Nat) : St := { σ with heap := σ.heap.set b none }
theorem St.drop_get {σ : St} {b id : Nat} {o : AObj} (h : (σ.drop b).heap.get id = some o) : id ≠ b ∧ σ.heap.get id = some o := by
  simp only [St.drop] at h
  rw [T.get_set] at h
  by_cases e : id = b
  · rw [if_pos e] at h; cases h
  · rw [if_neg e] at h; exact ⟨e, h⟩
theorem Rel.drop {ρ : Ren Ψ} {σ : St} {w : World} (h : Rel ρ σ w) (b : Nat) : Rel ρ (σ.drop b) w :=
  ⟨fun id o ho => h.live id o (St.drop_get ho).2, fun i j oi oj hi hj => h.inj i j oi oj (St.drop_get hi).2 (St.drop_get hj).2, h.fresh, h.glob, h.gn, h.orc⟩
theorem Keep.drop {ρ : Ren Ψ} {σ : St} (w : World) (b : Nat) : Keep ρ σ ρ (σ.drop b) w w :=
  ⟨Nat.le_refl _, rfl, rfl, rfl, rfl, Nat.le_refl _, fun _ _ => ⟨rfl, rfl⟩, fun _ _ _ => rfl, fun _ o _ h1 h3 => .inl ⟨o, (St.drop_get h1).2, rfl, h3⟩⟩
/-- a block of the real world comes into the abstract memory -/
theorem Rel.bring {ρ : Ren Ψ} {σ : St} {w w' : World} (h : Rel ρ σ w) (x : AObj) (o : Obj) (k : Nat) (rm : Option (Nat × Nat)) (hk : w'.heap[k]? = some o) (hx : AtR (ρ.add σ.next k rm) σ.next x o)
    (hs : ∀ id ob j, σ.heap.get id = some ob → ρ.φ id = some j → j ≠ k ∧ w'.heap[j]? = w.heap[j]?) : Rel (ρ.add σ.next k rm) (σ.add x) w' := by
  have hle : ρ.le (ρ.add σ.next k rm) := Ren.le_add (h.fresh _ (Nat.le_refl _)).1 (h.fresh _ (Nat.le_refl _)).2
  have hgn := h.gn
  refine ⟨?_, ?_, ?_, ?_, by show σ.glob ≤ σ.next + 1; omega, h.orc⟩
  · intro id ob hid
    simp only [St.add] at hid
    rw [T.get_set] at hid
    by_cases e : id = σ.next
    · rw [if_pos e] at hid
      rw [← Option.some.inj hid, e]
      exact ⟨k, o, by simp [Ren.add], hk, hx⟩
    · rw [if_neg e] at hid
      obtain ⟨j, y, q1, q2, q3⟩ := h.live id ob hid
      exact ⟨j, y, hle.φ _ _ q1, by rw [(hs id ob j hid q1).2]; exact q2, q3.mono hle⟩
  · intro i j oi oj hi hj ho hφ
    simp only [St.add] at hi hj
    rw [T.get_set] at hi hj
    by_cases ei : i = σ.next
    · by_cases ej : j = σ.next
      · rw [ei, ej]
      · rw [if_neg ej] at hj
        obtain ⟨l, y, q1, q2, -⟩ := h.live j oj hj
        have h4 : (ρ.add σ.next k rm).φ i = some k := by simp [Ren.add, ei]
        rw [hle.φ _ _ q1, h4] at hφ
        exact absurd (Option.some.inj hφ).symm (hs j oj l hj q1).1
    · rw [if_neg ei] at hi
      obtain ⟨l, y, q1, q2, -⟩ := h.live i oi hi
      by_cases ej : j = σ.next
      · have h4 : (ρ.add σ.next k rm).φ j = some k := by simp [Ren.add, ej]
        rw [hle.φ _ _ q1, h4] at hφ
        exact absurd (Option.some.inj hφ) (hs i oi l hi q1).1
      · rw [if_neg ej] at hj
        obtain ⟨l2, y2, q5, q6, -⟩ := h.live j oj hj
        refine h.inj i j oi oj hi hj ho ?_
        rw [hle.φ _ _ q1, hle.φ _ _ q5] at hφ
        rw [q1, q5]; exact hφ
  · intro id hid
    simp only [St.add] at hid
    have h1 := h.fresh id (by omega)
    have : id ≠ σ.next := by omega
    simp [Ren.add, this, h1]
  · intro g hg2
    have : g ≠ σ.next := by have : g < σ.glob := hg2; omega
    simp only [Ren.add, if_neg this]
    exact h.glob g hg2
def St.dropO (σ : St) : Option Nat → St
  | some b => σ.drop b
  | none => σ
def lim : Nat := 140737488355328
def growA (P : Program) (σ : St) (e : TypeId) (i : TypeInfo) (n m : Nat) (s x : Value) (old : Option Nat) : Option (Rs Value) :=
  match i.zero with
  | none => none
  | some z =>
    match Nat.beq z.cells.size i.size && (Nat.blt 0 i.size && (Nat.ble ((n + m) * i.bytes) lim && Nat.ble (n + m) lim)) with
    | true => match runA P (Builtin.firstCells i.size n s) σ, runA P (Builtin.firstCells i.size m x) σ with
      | some (.ok a _), some (.ok b _) => match Nat.beq a.size (n * i.size) && (Nat.beq b.size (m * i.size) && b.toList.all flat) with
        | true => some (.ok (.slice (some ⟨σ.next, 0, none⟩) (n + m) big) ((σ.dropO old).add (.row { cells := (a ++ b).toList, ty := e, sz := i.size, own := true })))
        | false => none
      | _, _ => none
    | false => none
def evAppend (P : Program) (σ : St) (t tx : TypeId) (s x : Value) : Option (Rs Value) :=
  match okArg P tx, P.underlying t, s, lenV x with
  | true, some (.slice e), .slice base n c, some m =>
    match P.info? e with
    | some i => match Nat.beq c big with
      | false => match Nat.ble (n + m) c with
        | true => runA P (inPlace i.size n m base x c) σ
        | false => growA P σ e i n m (.slice base n c) x none
      | true => match base with
        | some ⟨b, 0, none⟩ => match σ.heap.get b with
          | some (.row bl) => match bl.own && (Nat.beq bl.sz i.size && (Nat.blt 0 i.size && (Nat.beq bl.ty e && Nat.ble (n * i.size) bl.cells.length))) with
            | true => match Nat.ble ((n + m) * i.size) bl.cells.length with
              | true => runA P (inPlace i.size n m base x c) σ
              | false => growA P σ e i n m (.slice base n c) x (some b)
            | false => none
          | _ => none
        | _ => none
    | none => none
  | _, _, _, _ => none
section
variable {P : Program} {ρ : Ren Ψ}
theorem lenV_zero {x : Value} {m : Nat} (h : lenV x = some m) : x = .slice none 0 big → m = 0 := by
  rintro rfl
  exact (Option.some.inj h).symm
theorem slice_zero {base : Option Addr} {n c : Nat} : Value.slice base n c = .slice none 0 big → n = 0 := by
  intro h
  injection h
theorem sim_firstCells {x x' : Value} {size n : Nat} (h : VR ρ x x') (hz : x = .slice none 0 big → n = 0) : Sim P (Builtin.firstCells size n x) (Builtin.firstCells size n x') ρ VRs := by
  intro σ w hr r he
  obtain ⟨cs, cs', rfl, h2, h3⟩ := first_run h hr hz he
  exact ⟨ρ, cs', w, .refl ρ, h2, hr, .refl w, h3⟩
theorem sim_inPlace {size n m : Nat} {base base' : Option Addr} {x x' : Value} {c c' : Nat} (hx : VR ρ x x') (hs : VR ρ (.slice base n c) (.slice base' n c')) (hz : x = .slice none 0 big → m = 0) (hbz : base = none → c ≠ big) : Sim P (inPlace size n m base x c) (inPlace size n m base' x' c') ρ VR := by
  refine sim_bind (sim_firstCells hx hz) fun ρ1 a a' hle ha => ?_
  cases hs with
  | nilSlice n c => exact sim_pure (.nilSlice _ _)
  | empty a c' => exact absurd rfl (hbz rfl)
  | @slice b k o n2 c2 c2' h1 h2 =>
    have had : AdR ρ1 ⟨b, o, none⟩ ⟨k, o, none⟩ := ⟨rfl, rfl, rfl, hle.φ _ _ h1⟩
    exact sim_bind (sim_storeCells _ _ 0 ρ1 (had.add _) (by simp [ha.size]) fun j x x' q1 q2 => ha.get j x x' (by simpa using q1) (by simpa using q2)) fun ρ2 _ _ hle2 _ => sim_pure (.slice (hle2.φ _ _ (hle.φ _ _ h1)) ((h2.mono hle).mono hle2))
theorem grow_parts {σ : St} {e : TypeId} {i : TypeInfo} {n m : Nat} {s x : Value} {old : Option Nat} {r : Rs Value} (h : growA P σ e i n m s x old = some r) :
    ∃ z a b τ1 τ2, i.zero = some z ∧ z.cells.size = i.size ∧ 0 < i.size ∧ (n + m) * i.bytes ≤ lim ∧ n + m ≤ lim ∧ runA P (Builtin.firstCells i.size n s) σ = some (.ok a τ1) ∧ runA P (Builtin.firstCells i.size m x) σ = some (.ok b τ2) ∧ a.size = n * i.size ∧ b.size = m * i.size ∧ b.toList.all flat = true ∧
      r = .ok (.slice (some ⟨σ.next, 0, none⟩) (n + m) big) ((σ.dropO old).add (.row { cells := (a ++ b).toList, ty := e, sz := i.size, own := true })) := by
  unfold growA at h
  cases hz : i.zero with
  | none => rw [hz] at h; cases h
  | some z =>
    rw [hz] at h
    simp only at h
    cases hc : (Nat.beq z.cells.size i.size && (Nat.blt 0 i.size && (Nat.ble ((n + m) * i.bytes) lim && Nat.ble (n + m) lim))) with
    | false => rw [hc] at h; cases h
    | true =>
      rw [hc] at h
      simp only at h
      cases ha : runA P (Builtin.firstCells i.size n s) σ with
      | none => rw [ha] at h; cases h
      | some ra =>
        cases hb : runA P (Builtin.firstCells i.size m x) σ with
        | none => rw [ha, hb] at h; cases ra <;> cases h
        | some rb =>
          rw [ha, hb] at h
          cases ra with
          | panic v τ => cases h
          | ok a τ1 =>
            cases rb with
            | panic v τ => cases h
            | ok b τ2 =>
              simp only at h
              cases hd : (Nat.beq a.size (n * i.size) && (Nat.beq b.size (m * i.size) && b.toList.all flat)) with
              | false => rw [hd] at h; cases h
              | true =>
                rw [hd] at h
                simp only [Bool.and_eq_true, Nat.beq_eq, Nat.ble_eq] at hc hd
                exact ⟨z, a, b, τ1, τ2, rfl, hc.1, by simpa using hc.2.1, hc.2.2.1, hc.2.2.2, rfl, rfl, hd.1, hd.2.1, hd.2.2, (Option.some.inj h).symm⟩
theorem zeroCells_size (z : Array Value) (n : Nat) : (Builtin.zeroCells z n).size = n * z.size := by simp [Builtin.zeroCells]
/-- the arm that grows: the real slice's room is too small -/
theorem grow_real {σ : St} {w : World} (hr : Rel ρ σ w) {t tx ty e : TypeId} {i : TypeInfo} {n m c c' : Nat} {base base' : Option Addr} {x x' : Value} {old : Option Nat} {r : Rs Value} (ht : P.underlying t = some (.slice e)) (hi : P.info? e = some i) (hok : okArg P tx = true)
    (hx : VR ρ x x') (hm : lenV x = some m) (hs : VR ρ (.slice base n c) (.slice base' n c')) (hc : c' < n + m) (h : growA P σ e i n m (.slice base n c) x old = some r) :
    Out VR ρ σ w r ((Builtin.append_ #[t, tx] ty #[.slice base' n c', x']).run P w) := by
  obtain ⟨z, a, b, τ1, τ2, hz, hzs, hsz, hb, h63, ha, hbb, hal, hbl, hfl, rfl⟩ := grow_parts h
  have hr1 : Rel ρ σ w.drew := hr.heap_eq rfl
  obtain ⟨a1, a', e1, ha', hva⟩ := first_run hs hr1 slice_zero ha
  obtain ⟨b1, b', e2, hb', hvb⟩ := first_run hx hr1 (lenV_zero hm) hbb
  cases e1
  cases e2
  have hrun := append_grows (P := P) (ty := ty) ht hi hz hok (lenV_run hx hm) hc hb h63 w ha' hb'
  rw [hrun]
  have hcap := grownCap_ge w (n + m) c' e
  generalize grownCap w (n + m) c' e = cap at hcap
  have hrd : Rel ρ (σ.dropO old) w.drew := by cases old with
    | none => exact hr1
    | some b => exact hr1.drop b
  have hkd : Keep ρ σ ρ (σ.dropO old) w.drew w.drew := by cases old with
    | none => exact .refl _
    | some b => exact .drop _ b
  have hnx : (σ.dropO old).next = σ.next := by cases old <;> rfl
  generalize hσ1 : σ.dropO old = σ1 at hrd hkd hnx
  have hk0 : Keep ρ σ ρ σ w w.drew := .drew rfl rfl rfl rfl
  have hle : ρ.le (ρ.add σ1.next w.heap.size (some (cap, i.size))) := Ren.le_add (hrd.fresh _ (Nat.le_refl _)).1 (hrd.fresh _ (Nat.le_refl _)).2
  have hrow : RowR (ρ.add σ1.next w.heap.size (some (cap, i.size))) σ1.next { cells := (a ++ b).toList, ty := e, sz := i.size, own := true } (a' ++ b' ++ Builtin.zeroCells z.cells (cap - (n + m))) e (0, 0) := by
    have hab := hva.append hvb
    have hsize : (a' ++ b' ++ Builtin.zeroCells z.cells (cap - (n + m))).size = cap * i.size := by
      rw [Array.size_append, Array.size_append, zeroCells_size, hzs, ← hva.size, ← hvb.size, hal, hbl, ← Nat.add_mul, ← Nat.add_mul]
      congr 1; omega
    refine ⟨fun _ => rfl, fun _ => rfl, ?_, fun h0 => ?_, ?_, fun _ => ⟨cap, by simp [Ren.add], hsize⟩⟩
    · simp [hva.size, hvb.size]
    · simp only at h0; omega
    · intro j v hv
      simp only at hv
      obtain ⟨v', q1, q2⟩ := hab.toList j v hv
      refine ⟨v', ?_, q2.mono hle⟩
      rw [Array.getElem?_append_left (Array.getElem?_eq_some_iff.1 q1).1]
      exact q1
  refine ⟨ρ.add σ1.next w.heap.size (some (cap, i.size)), _, _, hle, rfl, hrd.new _ _ _ ⟨_, _, _, rfl, hrow⟩, (hk0.trans hkd).trans (Keep.fresh (w := w.drew) (.row { cells := (a ++ b).toList, ty := e, sz := i.size, own := true }) rfl (.cells (a' ++ b' ++ Builtin.zeroCells z.cells (cap - (n + m))) e) (some (cap, i.size))), ?_⟩
  rw [← hnx]
  refine .slice (by simp [Ren.add]) ?_
  unfold CapR
  rw [if_pos rfl]
  exact ⟨cap, i.size, by simp [Ren.add], by simp⟩
theorem append_sound {σ : St} {w : World} (hr : Rel ρ σ w) {t tx ty : TypeId} {s s' x x' : Value} {r : Rs Value} (hs : VR ρ s s') (hx : VR ρ x x') (h : evAppend P σ t tx s x = some r) :
    Out VR ρ σ w r ((Builtin.append_ #[t, tx] ty #[s', x']).run P w) := by
  unfold evAppend at h
  cases hok : okArg P tx with
  | false => rw [hok] at h; cases h
  | true =>
  cases ht : P.underlying t with
  | none => rw [hok, ht] at h; cases h
  | some d =>
  rw [hok, ht] at h
  cases d with
  | slice e =>
    cases hm : lenV x with
    | none => rw [hm] at h; cases s <;> cases h
    | some m =>
    rw [hm] at h
    have hs2 := hs
    cases hs with
    | nilSlice n c =>
      simp only at h
      cases hi : P.info? e with
      | none => rw [hi] at h; cases h
      | some i =>
      rw [hi] at h
      simp only at h
      cases hcb : Nat.beq c big with
      | true => rw [hcb] at h; cases h
      | false =>
        rw [hcb] at h
        simp only at h
        cases hle : Nat.ble (n + m) c with
        | true =>
          rw [hle] at h
          rw [append_fits ht hi hok (lenV_run hx hm) (Nat.le_of_ble_eq_true hle)]
          exact (sim_inPlace hx hs2 (lenV_zero hm) (fun _ e => by rw [← Bool.not_eq_true, Nat.beq_eq] at hcb; exact hcb e)).out hr h
        | false =>
          rw [hle] at h
          exact grow_real hr ht hi hok hx hm hs2 (by rw [← Bool.not_eq_true, Nat.ble_eq] at hle; omega) h
    | empty a c' =>
      exfalso
      simp only at h
      cases hi : P.info? e with
      | none => rw [hi] at h; cases h
      | some i => rw [hi] at h; cases h
    | @slice b k o n c c' h1 h2 =>
      simp only at h
      cases hi : P.info? e with
      | none => rw [hi] at h; cases h
      | some i =>
      rw [hi] at h
      simp only at h
      cases hcb : Nat.beq c big with
      | false =>
        rw [hcb] at h
        simp only at h
        have hne : c ≠ big := by rw [← Bool.not_eq_true, Nat.beq_eq] at hcb; exact hcb
        unfold CapR at h2
        rw [if_neg hne] at h2
        subst h2
        cases hle : Nat.ble (n + m) c' with
        | true =>
          rw [hle] at h
          rw [append_fits ht hi hok (lenV_run hx hm) (Nat.le_of_ble_eq_true hle)]
          exact (sim_inPlace hx hs2 (lenV_zero hm) (fun e => by cases e)).out hr h
        | false =>
          rw [hle] at h
          exact grow_real hr ht hi hok hx hm hs2 (by rw [← Bool.not_eq_true, Nat.ble_eq] at hle; omega) h
      | true =>
        rw [hcb] at h
        simp only at h
        have hceq : c = big := by rw [Nat.beq_eq] at hcb; exact hcb
        subst hceq
        cases o with
        | succ o => cases h
        | zero =>
        simp only at h
        cases hg : σ.heap.get b with
        | none => rw [hg] at h; cases h
        | some y =>
        rw [hg] at h
        cases y with
        | obj o => cases h
        | row bl =>
        obtain ⟨cells0, ty0, sz0, own0⟩ := bl
        simp only at h
        cases hck : (own0 && (Nat.beq sz0 i.size && (Nat.blt 0 i.size && (Nat.beq ty0 e && Nat.ble (n * i.size) cells0.length)))) with
        | false => rw [hck] at h; cases h
        | true =>
        rw [hck] at h
        simp only [Bool.and_eq_true, Nat.beq_eq, Nat.ble_eq] at hck
        obtain ⟨rfl, rfl, hpos, rfl, hlen⟩ := hck
        have hpos : 0 < i.size := by simpa using hpos
        obtain ⟨k1, y1, g1, g2, cs, tyr, fr, rfl, hrow⟩ := hr.live b _ hg
        have hkk : k1 = k := by rw [h1] at g1; exact (Option.some.inj g1).symm
        subst hkk
        have hfr := hrow.fr rfl
        subst hfr
        have hty := hrow.ty rfl
        simp only at hty
        subst hty
        obtain ⟨R, hR1, hR2⟩ := hrow.room (by simp only; omega)
        simp only at hR1 hR2
        have hcc := h2
        unfold CapR at hcc
        rw [if_pos rfl] at hcc
        obtain ⟨R', z', hRR, hc'⟩ := hcc
        rw [hR1] at hRR
        cases Option.some.inj hRR
        simp only [Nat.zero_div, Nat.sub_zero] at hc'
        subst hc'
        have hle0 := hrow.le
        simp only at hle0
        simp only at h
        cases hk2 : Nat.ble ((n + m) * i.size) cells0.length with
        | true =>
          rw [hk2] at h
          have h3 : (n + m) * i.size ≤ c' * i.size := by rw [Nat.ble_eq] at hk2; omega
          have h4 : n + m ≤ c' := Nat.le_of_mul_le_mul_right h3 hpos
          rw [append_fits ht hi hok (lenV_run hx hm) h4]
          exact (sim_inPlace hx hs2 (lenV_zero hm) (fun e => by cases e)).out hr h
        | false =>
          rw [hk2] at h
          by_cases hfit : n + m ≤ c'
          · obtain ⟨z, a, bb, τ1, τ2, hz, hzs, hsz, hb, h63, ha, hbb, hal, hbl, hfl, rfl⟩ := grow_parts h
            obtain ⟨a1, a', e1, ha', hva⟩ := first_run hs2 hr slice_zero ha
            obtain ⟨b1, b', e2, hb', hvb⟩ := first_run hx hr (lenV_zero hm) hbb
            cases e1
            cases e2
            rw [append_fits ht hi hok (lenV_run hx hm) hfit]
            have hbs := hvb.size
            have has := hva.size
            have hone : ∀ v ∈ b'.toList, v.oneCell' = true := by
              intro v' hv'
              obtain ⟨j, hj, hjv⟩ := List.mem_iff_getElem.1 hv'
              rw [Array.length_toList] at hj
              have hjb : j < bb.size := by rw [hbs]; exact hj
              have hvr := hvb.get j bb[j] b'[j] (Array.getElem?_eq_getElem hjb) (Array.getElem?_eq_getElem hj)
              have hfb := List.all_eq_true.1 hfl bb[j] (Array.mem_toList_iff.2 (Array.getElem_mem hjb))
              have hfv : flat b'[j] = true := by rw [hvr.flat]; exact hfb
              have he : v' = b'[j] := by rw [← hjv]; simp
              rw [he]
              generalize b'[j] = u at hfv
              cases u <;> first | rfl | (simp [flat] at hfv)
            have hmul : n * i.size + m * i.size ≤ c' * i.size := by rw [← Nat.add_mul]; exact Nat.mul_le_mul_right _ hfit
            have hst := run_storeCells_at (P := P) k1 (n * i.size) tyr b'.toList 0 cs w g2 (by simp only [Array.length_toList]; omega) hone
            have hplace : (⟨k1, 0, none⟩ : Addr).add (n * i.size) = ⟨k1, n * i.size, none⟩ := by
              unfold Addr.add
              split
              · rename_i h0; rw [h0]
              · simp
            have hrun : (inPlace i.size n m (some ⟨k1, 0, none⟩) x' c').run P w = .ok (.slice (some ⟨k1, 0, none⟩) (n + m) c') (w.setRow k1 (cs.toList.take (n * i.size + 0) ++ b'.toList ++ cs.toList.drop (n * i.size + 0 + b'.toList.length)).toArray) := by
              simp only [inPlace, Sem.run_bind, hb', Result.andThen_ok, hplace, hst, Sem.run_pure]
            rw [hrun]
            have hle : ρ.le (ρ.add σ.next k1 (some (c', i.size))) := Ren.le_add (hr.fresh _ (Nat.le_refl _)).1 (hr.fresh _ (Nat.le_refl _)).2
            have hab := hva.append hvb
            have hold : a'.toList = cs.toList.take (n * i.size) := by
              have hll := run_loadCells_list (P := P) (w := w) ⟨k1, 0, none⟩ (cs.toList.take (n * i.size)) (by
                intro j v hv
                have hadd : (⟨k1, 0, none⟩ : Addr).add j = ⟨k1, j, none⟩ := by
                  unfold Addr.add
                  split
                  · rename_i h0; rw [h0]
                  · simp
                rw [hadd]
                rw [List.getElem?_take] at hv
                split at hv
                · simp only [World.cell?, g2]
                  simpa using hv
                · cases hv)
              have hlen2 : (cs.toList.take (n * i.size)).length = n * i.size := by simp; omega
              rw [hlen2] at hll
              have ha2 : (loadCells ⟨k1, 0, none⟩ (n * i.size)).run P w = .ok a' w := ha'
              rw [hll] at ha2
              exact (congrArg Array.toList (Result.ok.inj ha2).1).symm
            have hrow2 : RowR (ρ.add σ.next k1 (some (c', i.size))) σ.next { cells := (a ++ bb).toList, ty := tyr, sz := i.size, own := true } (cs.toList.take (n * i.size + 0) ++ b'.toList ++ cs.toList.drop (n * i.size + 0 + b'.toList.length)).toArray tyr (0, 0) := by
              have hsz2 : (cs.toList.take (n * i.size + 0) ++ b'.toList ++ cs.toList.drop (n * i.size + 0 + b'.toList.length)).toArray.size = c' * i.size := by
                simp [List.length_take, List.length_drop]; omega
              refine ⟨fun _ => rfl, fun _ => rfl, ?_, fun h0 => by simp only at h0; omega, ?_, fun _ => ⟨c', by simp [Ren.add], hsz2⟩⟩
              · rw [hsz2]; simp; omega
              · intro j v hv
                simp only at hv
                obtain ⟨v', q1, q2⟩ := hab.toList j v hv
                refine ⟨v', ?_, q2.mono hle⟩
                rw [← Array.getElem?_toList, Array.toList_append, hold] at q1
                rw [List.getElem?_toArray, Nat.add_zero, List.getElem?_append_left (List.getElem?_eq_some_iff.1 q1).1]
                exact q1
            refine ⟨ρ.add σ.next k1 (some (c', i.size)), _, _, hle, rfl, (hr.drop b).bring _ _ k1 _ (setRow_heap w k1 cs _ tyr _ g2) ⟨_, _, _, rfl, hrow2⟩ ?_, ?_, ?_⟩
            · intro id ob j hid hj
              obtain ⟨hne, hid⟩ := St.drop_get hid
              have : j ≠ k1 := fun e => hne (hr.inj b id _ _ hg hid rfl (by rw [g1, hj, e])).symm
              exact ⟨this, setRow_other w k1 j _ this⟩
            · refine ⟨by simp [World.setRow], rfl, rfl, rfl, rfl, Nat.le_succ _, fun id hid => ?_, ?_, ?_⟩
              · have : id ≠ σ.next := by omega
                simp [Ren.add, this]
              · intro j _ hn
                exact setRow_other w k1 j _ fun e => hn b _ hg rfl (by rw [g1, e])
              · intro id ob j hid hj
                simp only [St.add] at hid
                rw [T.get_set] at hid
                by_cases e : id = (σ.dropO (some b)).next
                · have e2 : id = σ.next := e
                  simp only [Ren.add, if_pos e2] at hj
                  rw [if_pos e] at hid
                  rw [← Option.some.inj hid]
                  exact .inr ⟨rfl, .inr ⟨b, _, hg, rfl, by rw [g1]; exact hj⟩⟩
                · rw [if_neg e] at hid
                  have e2 : ¬ id = σ.next := e
                  simp only [Ren.add, if_neg e2] at hj
                  exact .inl ⟨ob, (St.drop_get hid).2, rfl, hj⟩
            · refine .slice (by simp [Ren.add]) ?_
              unfold CapR
              rw [if_pos rfl]
              exact ⟨c', i.size, by simp [Ren.add], by simp⟩
          · exact grow_real hr ht hi hok hx hm hs2 (by omega) h
    | _ => cases h
  | _ => cases h
end
end Go.Ev
/- Closed calls by evaluation, part G: one operation. -/
namespace Go.Ev
variable {Ψ : SymEnv}
section
variable {P : Program} {ρ : Ren Ψ}
theorem VRs.getB {a b : Array Value} (h : VRs ρ a b) (i : Nat) : VR ρ a[i]! b[i]! := by
  rw [getElem!_def, getElem!_def]
  cases ha : a[i]? with
  | none => rw [h.none ha]; exact .bool false
  | some v => obtain ⟨v', h1, h2⟩ := h.to ha; rw [h1]; exact h2
theorem sim_asIntOf {v v' : Value} (h : VR ρ v v') : Sim P (asIntOf v) (asIntOf v') ρ fun _ x x' => x' = x := by
  cases h <;> first | exact sim_pure rfl | exact sim_unsupported | exact sim_stuck
theorem sim_asInt {v v' : Value} (h : VR ρ v v') : Sim P (asInt v) (asInt v') ρ fun _ x x' => x' = x := sim_bind (sim_asIntOf h) fun _ _ _ _ e => by rw [e]; exact sim_pure rfl
theorem sim_asAgg {v v' : Value} (h : VR ρ v v') : Sim P (asAgg v) (asAgg v') ρ VRs := by
  cases h <;> first | exact sim_pure ⟨by assumption, by assumption⟩ | exact sim_stuck
theorem sim_error {α : Type} {m : String} {Q : Ren Ψ → α → α → Prop} : Sim P (runtimePanic (.error m) : Sem α) (runtimePanic (.error m)) ρ Q :=
  sim_bind (sim_program (Q := fun _ p p' => p = P ∧ p' = P) ⟨rfl, rfl⟩) fun _ p p' _ h => by
    obtain ⟨rfl, rfl⟩ := h
    exact sim_panic (.iface (.string _))
theorem sim_nilDeref {α : Type} {Q : Ren Ψ → α → α → Prop} : Sim P (runtimePanic .nilDeref : Sem α) (runtimePanic .nilDeref) ρ Q :=
  sim_bind (sim_program (Q := fun _ p p' => p = P ∧ p' = P) ⟨rfl, rfl⟩) fun _ p p' _ h => by
    obtain ⟨rfl, rfl⟩ := h
    exact sim_panic (.iface (.string _))
theorem sim_never {α β : Type} {s s' : Sem α} {k k' : α → Sem β} {Q : Ren Ψ → β → β → Prop} (h : ∀ Q : Ren Ψ → α → α → Prop, Sim P s s' ρ Q) : Sim P (s >>= k) (s' >>= k') ρ Q := sim_bind (h fun _ _ _ => False) fun _ _ _ _ e => e.elim
theorem sim_map {α β : Type} {s s' : Sem α} {f : α → β} {Q : Ren Ψ → α → α → Prop} {Q2 : Ren Ψ → β → β → Prop} (h : Sim P s s' ρ Q) (hq : ∀ ρ' x x', ρ.le ρ' → Q ρ' x x' → Q2 ρ' (f x) (f x')) : Sim P (Functor.map f s) (Functor.map f s') ρ Q2 := by
  rw [map_eq_pure_bind, map_eq_pure_bind]
  exact sim_bind h fun ρ' x x' hle hx => sim_pure (hq ρ' x x' hle hx)
theorem sim_bounds {α : Type} {k : IntKind} {x y : Int} {c : BoundsCode} {Q : Ren Ψ → α → α → Prop} : Sim P (boundsPanic k x y c : Sem α) (boundsPanic k x y c) ρ Q := by
  have h1 : ∀ (ρ1 : Ren Ψ) (s : Bool), Sim P (runtimePanic (.bounds (IntKind.i64.wrap x) y s c) : Sem α) (runtimePanic (.bounds (IntKind.i64.wrap x) y s c)) ρ1 Q := fun ρ1 s =>
    sim_bind (sim_program (Q := fun _ p p' => p = P ∧ p' = P) ⟨rfl, rfl⟩) fun ρ2 p p' _ h => by
      obtain ⟨rfl, rfl⟩ := h
      exact sim_panic (.iface (((((VRs.empty ρ2).push (.int _ _)).push (.int _ _)).push (.bool _)).push (.int _ _)).agg)
  unfold boundsPanic
  refine sim_if (fun _ => ?_) fun _ => ?_
  · exact sim_bind (sim_map (Q2 := fun _ x x' => x' = x) sim_choose fun _ _ _ _ e => by rw [e]) fun ρ1 s s' _ e => by rw [e]; exact h1 ρ1 s
  · exact sim_bind (sim_pure (Q := fun _ x x' => x' = x) rfl) fun ρ1 s s' _ e => by rw [e]; exact h1 ρ1 s
/-- a made slice is no grown one -/
def capOk : Value → Bool
  | .slice _ _ c => Nat.blt c big
  | _ => true
theorem capR_of {b o c : Nat} (h : Nat.blt c big = true) : CapR ρ b o c c := by
  unfold CapR
  rw [if_neg (by intro e; rw [e] at h; exact absurd h (by decide))]
def CapV (ρ : Ren Ψ) (v v' : Value) : Prop := capOk v = true → VR ρ v v'
theorem sim_newSlice {ty : TypeId} {cs cs' : Array Value} {n c : Nat} (h : VRs ρ cs cs') : Sim P (do pure (Value.slice (some (← newRow ty cs)) n c)) (do pure (Value.slice (some (← newRow ty cs')) n c)) ρ CapV :=
  sim_bind (sim_newRow h) fun ρ1 a a' _ ha => sim_pure fun hc => by
    obtain ⟨b, o, sp⟩ := a
    obtain ⟨b', o', sp'⟩ := a'
    obtain ⟨h1, h2, h3, hb⟩ := ha
    simp only at h1 h2 h3 hb
    subst h1 h2 h3
    exact .slice hb (capR_of hc)
theorem VRs.zeros {z z' : Array Value} (h : VRs ρ z z') (n : Nat) : VRs ρ ((Array.range n).map (fun i => z[i % z.size]!)) ((Array.range n).map (fun i => z'[i % z'.size]!)) :=
  .map _ _ _ fun i _ => by rw [← h.size]; exact h.getB _
theorem sim_makeSlice (hz : ZeroOk Ψ P) {t : TypeId} {l l' c c' : Value} (hl : VR ρ l l') (hc : VR ρ c c') : Sim P (Instr.makeSlice t l c) (Instr.makeSlice t l' c') ρ CapV := by
  unfold Instr.makeSlice
  refine sim_bind sim_underlying fun ρ1 d d' hle1 hd => ?_
  obtain ⟨rfl, -⟩ := hd
  split
  · rename_i elem
    refine sim_bind (sim_asInt (hl.mono hle1)) fun ρ2 x x' hle2 hx => ?_
    subst hx
    refine sim_bind (sim_asInt ((hc.mono hle1).mono hle2)) fun ρ3 y y' hle3 hy => ?_
    subst hy
    refine sim_bind sim_typeInfo fun ρ4 i i' _ hi => ?_
    obtain ⟨rfl, -⟩ := hi
    dsimp only
    have cont : ∀ ρ5 : Ren Ψ, Sim P (do
          askRoom ((IntKind.i64.wrap y').toNat * i'.bytes)
          let n := (IntKind.i64.wrap y').toNat * (← sizeOf elem)
          let zero ← if n = 0 then pure #[] else do pure (← zeroValue elem).cells
          let a ← newRow elem ((Array.range n).map (fun x => zero[x % zero.size]!))
          pure (Value.slice (some a) (IntKind.i64.wrap x').toNat (IntKind.i64.wrap y').toNat)) (do
          askRoom ((IntKind.i64.wrap y').toNat * i'.bytes)
          let n := (IntKind.i64.wrap y').toNat * (← sizeOf elem)
          let zero ← if n = 0 then pure #[] else do pure (← zeroValue elem).cells
          let a ← newRow elem ((Array.range n).map (fun x => zero[x % zero.size]!))
          pure (Value.slice (some a) (IntKind.i64.wrap x').toNat (IntKind.i64.wrap y').toNat)) ρ5 CapV := by
      intro ρ5
      refine sim_bind (Q := fun _ _ _ => True) ?_ fun ρ6 _ _ _ _ => ?_
      · unfold askRoom; exact sim_ite (fun _ => sim_mark) fun _ => sim_pure trivial
      · refine sim_bind sim_sizeOf fun ρ7 n n' _ hn => ?_
        subst hn
        refine sim_ite (fun _ => ?_) fun _ => ?_
        · exact sim_bind (Q := VRs) (sim_pure (.empty _)) fun ρ8 z z' _ hzz => sim_newSlice (VRs.zeros hzz _)
        · exact sim_bind (sim_zeroValue hz) fun _ _ _ _ hv => sim_bind (Q := VRs) (sim_pure hv.cells) fun ρ8 z z' _ hzz => sim_newSlice (VRs.zeros hzz _)
    refine sim_if (fun _ => ?_) fun _ => cont _
    refine sim_if (fun _ => sim_never fun _ => sim_error) fun _ => sim_if (fun _ => sim_never fun _ => sim_error) fun _ => ?_
    refine sim_bind sim_choose fun _ x x' _ e => ?_
    subst e
    exact sim_never fun _ => sim_error
  · exact sim_stuck
theorem sim_build (hz : ZeroOk Ψ P) {t : TypeId} {p p' : Array (Nat × Value)} (hp : PR ρ p.toList p'.toList) : Sim P (Instr.build t p) (Instr.build t p') ρ VR := by
  unfold Instr.build
  refine sim_bind (sim_zeroValue hz) fun ρ1 z z' hle1 hzz => ?_
  have hc := hzz.cells
  refine sim_bind sim_underlying fun ρ2 d d' hle2 hd => ?_
  obtain ⟨rfl, -⟩ := hd
  have hp2 := hp.mono (hle1.trans hle2)
  have hc2 := hc.mono hle2
  split
  · rename_i fields
    refine sim_bind (sim_mapMA (fun ρ f => sim_bind sim_sizeOf fun _ _ _ _ e => by rw [e]; exact sim_pure rfl) fields) fun ρ3 pl pl' hle3 e => ?_
    subst e
    rcases fillR _ _ _ _ (hc2.mono hle3) (hp2.mono hle3) with ⟨h1, -⟩ | ⟨x, x', h1, h2, h3⟩
    · rw [h1]; exact sim_stuck
    · rw [h1, h2]; exact sim_pure h3.agg
  · rename_i elem
    refine sim_bind sim_sizeOf fun ρ3 n n' hle3 e => ?_
    subst e
    rcases fillR _ _ _ _ (hc2.mono hle3) (hp2.mono hle3) with ⟨h1, -⟩ | ⟨x, x', h1, h2, h3⟩
    · rw [h1]; exact sim_stuck
    · rw [h1, h2]; exact sim_pure h3.agg
  · exact sim_stuck
theorem sim_buildSlice (hz : ZeroOk Ψ P) {t : TypeId} {len : Nat} {p p' : Array (Nat × Value)} (hp : PR ρ p.toList p'.toList) : Sim P (Instr.buildSlice t len p) (Instr.buildSlice t len p') ρ CapV := by
  unfold Instr.buildSlice
  refine sim_bind sim_underlying fun ρ1 d d' hle1 hd => ?_
  obtain ⟨rfl, -⟩ := hd
  split
  · rename_i elem
    refine sim_bind sim_sizeOf fun ρ2 n n' hle2 e => ?_
    subst e
    have fin : ∀ ρ3 : Ren Ψ, ρ.le ρ3 → ∀ x x' : Array Value, VRs ρ3 x x' → True := fun _ _ _ _ _ => trivial
    refine sim_ite (fun _ => ?_) fun _ => ?_
    · exact sim_none fun _ => rfl
    · dsimp only
      have cont : ∀ (ρ4 : Ren Ψ) (z z' : Array Value), ρ2.le ρ4 → VRs ρ4 z z' → Sim P (match Instr.fill (fun i => some (i * n', n')) ((Array.range (len * n')).map (fun x => z[x % z.size]!)) p.toList with | some cells => (do pure (Value.slice (some (← newRow elem cells)) len len)) | _ => stuck "buildSlice: a part of the wrong size")
          (match Instr.fill (fun i => some (i * n', n')) ((Array.range (len * n')).map (fun x => z'[x % z'.size]!)) p'.toList with | some cells => (do pure (Value.slice (some (← newRow elem cells)) len len)) | _ => stuck "buildSlice: a part of the wrong size") ρ4 CapV := by
        intro ρ4 z z' hle4 hzz
        rcases fillR (place := fun i => some (i * n', n')) _ _ _ _ (VRs.zeros hzz (len * n')) (hp.mono ((hle1.trans hle2).trans hle4)) with ⟨h1, -⟩ | ⟨x, x', h1, h2, h3⟩
        · rw [h1]; exact sim_stuck
        · rw [h1, h2]; exact sim_newSlice h3
      refine sim_ite (fun _ => ?_) fun _ => ?_
      · exact sim_bind (Q := VRs) (sim_pure (.empty _)) fun ρ8 z z' hle4 hzz => cont ρ8 z z' hle4 hzz
      · exact sim_bind (sim_zeroValue hz) fun ρ7 _ _ hle7 hv => sim_bind (Q := VRs) (sim_pure hv.cells) fun ρ8 z z' hle4 hzz => cont ρ8 z z' (hle7.trans hle4) hzz
  · exact sim_stuck
theorem sim_makeInterface {t : TypeId} {v v' : Value} (h : VR ρ v v') : Sim P (Instr.makeInterface t v) (Instr.makeInterface t v') ρ VR := by
  refine sim_bind sim_underlying fun ρ1 d d' hle hd => ?_
  obtain ⟨rfl, -⟩ := hd
  split
  · exact sim_stuck
  · exact sim_pure (.iface (h.mono hle))
theorem sim_field {t : TypeId} {v v' : Value} {f : Nat} (h : VR ρ v v') : Sim P (Instr.field t v f) (Instr.field t v' f) ρ VR := by
  refine sim_bind sim_underlying fun ρ1 d d' hle hd => ?_
  obtain ⟨rfl, -⟩ := hd
  split
  · split
    · exact sim_bind (sim_asAgg (h.mono hle)) fun _ _ _ _ hc => sim_part _ hc
    · exact sim_stuck
  · exact sim_stuck
theorem sim_indexAt {t : TypeId} {v v' i i' : Value} (h : VR ρ v v') (hi : VR ρ i i') : Sim P (Instr.indexAt t v i) (Instr.indexAt t v' i') ρ VR := by
  unfold Instr.indexAt
  refine sim_bind (sim_asIntOf hi) fun ρ1 x x' hle1 e => ?_
  subst e
  obtain ⟨k, i⟩ := x'
  dsimp only
  refine sim_bind sim_underlying fun ρ2 d d' hle2 hd => ?_
  obtain ⟨rfl, hdd⟩ := hd
  have h := h.mono (hle1.trans hle2)
  cases d' with
  | array len elem =>
    refine sim_bind (sim_sureAddr h) fun ρ3 a a' hle3 ha => ?_
    refine sim_bind (Q := fun ρ x x' => ∃ a a', x = (some a, len, elem) ∧ x' = (some a', len, elem) ∧ AdR ρ a a') (sim_pure ⟨_, _, rfl, rfl, ha⟩) fun ρ4 x x' hle4 hx => ?_
    obtain ⟨a, a', rfl, rfl, ha⟩ := hx
    refine sim_bind sim_underlying fun ρ5 d d' hle5 hd => ?_
    obtain ⟨rfl, -⟩ := hd
    dsimp only
    refine sim_ite (fun _ => ?_) fun _ => sim_if (fun _ => sim_unsupported) fun _ => sim_bounds
    exact sim_bind sim_sizeOf fun ρ6 n n' hle6 e => by subst e; exact sim_pure (((ha.mono hle5).mono hle6).add _).ptr
  | slice elem =>
    cases h with
    | nilSlice n c =>
      refine sim_bind (Q := fun ρ x x' => x = (none, n, elem) ∧ x' = (none, n, elem)) (sim_pure ⟨rfl, rfl⟩) fun ρ4 x x' hle4 hx => ?_
      obtain ⟨rfl, rfl⟩ := hx
      refine sim_bind sim_underlying fun ρ5 d d' hle5 hd => ?_
      exact sim_bounds
    | empty a c' =>
      refine sim_bind (Q := fun ρ x x' => x = (none, 0, elem) ∧ x' = (a, 0, elem)) (sim_pure ⟨rfl, rfl⟩) fun ρ4 x x' hle4 hx => ?_
      obtain ⟨rfl, rfl⟩ := hx
      refine sim_bind sim_underlying fun ρ5 d d' hle5 hd2 => ?_
      obtain ⟨rfl, hd2⟩ := hd2
      obtain rfl := Option.some.inj (hd2.symm.trans hdd)
      cases a with
      | none => exact sim_bounds
      | some a =>
        dsimp only
        rw [if_neg (show ¬ (0 ≤ i ∧ i < ((0 : Nat) : Int)) by omega), if_neg (by simp)]
        exact sim_bounds
    | @slice b k o n c c' h1 h2 =>
      have ha : AdR ρ2 ⟨b, o, none⟩ ⟨k, o, none⟩ := ⟨rfl, rfl, rfl, h1⟩
      refine sim_bind (Q := fun ρ x x' => ∃ a a', x = (some a, n, elem) ∧ x' = (some a', n, elem) ∧ AdR ρ a a') (sim_pure ⟨_, _, rfl, rfl, ha⟩) fun ρ4 x x' hle4 hx => ?_
      obtain ⟨a, a', rfl, rfl, ha⟩ := hx
      refine sim_bind sim_underlying fun ρ5 d d' hle5 hd => ?_
      obtain ⟨rfl, -⟩ := hd
      dsimp only
      refine sim_ite (fun _ => ?_) fun _ => sim_if (fun _ => sim_unsupported) fun _ => sim_bounds
      exact sim_bind sim_sizeOf fun ρ6 n n' hle6 e => by subst e; exact sim_pure (((ha.mono hle5).mono hle6).add _).ptr
    | sym h1 h2 => exact sim_none fun _ => rfl
    | _ => exact sim_never fun _ => sim_stuck
  | _ => exact sim_never fun _ => sim_stuck
end
end Go.Ev
/- Closed calls by evaluation, part H: slices of slices, nil, strings' ranges, asserted types, conversions to strings. -/
namespace Go.Ev
variable {Ψ : SymEnv}
section
variable {P : Program} {ρ : Ren Ψ}
/-- a bound of s[l:h] -/
def intV : Value → Option Nat
  | .int _ n => match Int.decLe 0 n with
    | isTrue _ => some n.toNat
    | isFalse _ => none
  | _ => none
def boundV (d : Nat) : Option Value → Option Nat
  | none => some d
  | some v => intV v
theorem intV_run {v v' : Value} (h : VR ρ v v') {n : Nat} (hn : intV v = some n) : ∃ k i, v' = .int k i ∧ 0 ≤ i ∧ i.toNat = n := by
  cases h <;> try (cases hn; done)
  rename_i k i
  simp only [intV] at hn
  cases hd : Int.decLe 0 i with
  | isTrue h0 => rw [hd] at hn; exact ⟨k, i, rfl, h0, Option.some.inj hn⟩
  | isFalse h0 => rw [hd] at hn; cases hn
/-- s[l:h] of a slice -/
def evSlice (P : Program) (σ : St) (t : TypeId) (x : Value) (lo hi : Option Value) : Option Value :=
  match P.underlying t, x with
  | some (.slice elem), .slice base n c =>
    match P.info? elem, boundV 0 lo, boundV n hi with
    | some i, some l, some h =>
      match Nat.ble l h with
      | false => none
      | true => match Nat.beq c big with
        | false => match Nat.ble h c && Nat.blt c big with
          | true => some (.slice (match Nat.beq c l with | true => base | false => base.map (·.add (l * i.size))) (h - l) (c - l))
          | false => none
        | true => match base with
          | some ⟨b, o, none⟩ => match σ.heap.get b with
            | some (.row bl) => match Nat.beq bl.sz i.size && (Nat.blt 0 i.size && (Nat.ble (o + h * i.size) bl.cells.length && (Nat.beq l 0 || Nat.blt (o + l * i.size) bl.cells.length))) with
              | true => some (.slice (some (Addr.add ⟨b, o, none⟩ (l * i.size))) (h - l) big)
              | false => match Nat.beq bl.sz i.size && (Nat.blt 0 i.size && (Nat.ble (o + h * i.size) bl.cells.length && Nat.beq l h)) with
                | true => some (.slice none 0 big)
                | false => none
            | _ => none
          | _ => none
    | _, _, _ => none
  | _, _ => none
theorem run_bound {k : IntKind} {i : Int} {y : Nat} {c : BoundsCode} (h0 : 0 ≤ i) (h1 : i.toNat ≤ y) (w : World) : (Instr.sliceBound (.int k i) y c).run P w = .ok i.toNat w := by
  have : 0 ≤ i ∧ i ≤ (y : Int) := ⟨h0, by omega⟩
  simp [Instr.sliceBound, asIntOf, this]
/-- bounds on both sides -/
theorem bounds_run {lo lo' hi hi' : Option Value} (hlo : (lo = none ∧ lo' = none) ∨ ∃ v v', lo = some v ∧ lo' = some v' ∧ VR ρ v v') (hhi : (hi = none ∧ hi' = none) ∨ ∃ v v', hi = some v ∧ hi' = some v' ∧ VR ρ v v') {n c l h : Nat}
    (el : boundV 0 lo = some l) (eh : boundV n hi = some h) (h1 : l ≤ h) (h2 : h ≤ c) (w : World) : (Instr.sliceBounds true n c lo' hi' none).run P w = .ok (l, h, c) w := by
  have e2 : ∀ (w : World), ((match hi', (none : Option Value) with
    | some v, some _ => Instr.sliceBound v c .slice3B
    | some v, none => Instr.sliceBound v c .sliceAcap
    | none, none => pure n
    | none, some _ => stuck "Slice: max without high" : Sem Nat)).run P w = .ok h w := by
    intro w
    rcases hhi with ⟨rfl, rfl⟩ | ⟨v, v', rfl, rfl, hv⟩
    · rw [← Option.some.inj (show some n = some h from eh)]; rfl
    · obtain ⟨k, i, rfl, q1, q2⟩ := intV_run hv (show intV v = some h from eh)
      show (Instr.sliceBound (.int k i) c .sliceAcap).run P w = _
      rw [run_bound q1 (by omega), q2]
  rcases hlo with ⟨rfl, rfl⟩ | ⟨v, v', rfl, rfl, hv⟩
  · have : l = 0 := (Option.some.inj (show some 0 = some l from el)).symm
    subst this
    rcases hhi with ⟨rfl, rfl⟩ | ⟨v, v', rfl, rfl, hv⟩
    · have : n = h := Option.some.inj (show some n = some h from eh)
      subst this
      simp [Instr.sliceBounds]
    · obtain ⟨k, i, rfl, q1, q2⟩ := intV_run hv (show intV v = some h from eh)
      have hb := run_bound (P := P) (k := k) (c := .sliceAcap) q1 (show i.toNat ≤ c by omega) w
      simp [Instr.sliceBounds, hb, q2]
  · obtain ⟨k, i, rfl, q1, q2⟩ := intV_run hv (show intV v = some l from el)
    have hb := run_bound (P := P) (k := k) (c := .sliceB) q1 (show i.toNat ≤ h by omega) w
    rcases hhi with ⟨rfl, rfl⟩ | ⟨v, v', rfl, rfl, hv⟩
    · have : n = h := Option.some.inj (show some n = some h from eh)
      subst this
      simp [Instr.sliceBounds, hb, q2]
    · obtain ⟨k2, i2, rfl, q3, q4⟩ := intV_run hv (show intV v = some h from eh)
      have hb2 := run_bound (P := P) (k := k2) (c := .sliceAcap) q3 (show i2.toNat ≤ c by omega) w
      simp [Instr.sliceBounds, hb2, q4, hb, q2]
/-- a[:] of an array -/
def evArr (P : Program) (t : TypeId) (a : Addr) : Option Value :=
  match P.underlying t with
  | some (.array n e) => match P.info? e with
    | some _ => match a.spot, Nat.blt 0 n && Nat.blt n big with
      | none, true => some (.slice (some a) n n)
      | _, _ => none
    | none => none
  | _ => none
theorem arr_sound {t : TypeId} {a : Addr} {x' : Value} {v : Value} (hx : VR ρ (.pointer (some a)) x') (h : evArr P t a = some v) (w : World) : ∃ v', (Instr.sliceAt t x' none none none).run P w = .ok v' w ∧ VR ρ v v' := by
  unfold evArr at h
  split at h
  · rename_i n e ht
    split at h
    · rename_i i hi
      split at h
      · rename_i hs hn
        cases Option.some.inj h
        simp only [Bool.and_eq_true, Nat.blt_eq] at hn
        obtain ⟨b, o, sp⟩ := a
        simp only at hs
        subst hs
        cases hx with
        | ptr hk =>
          rename_i k
          refine ⟨.slice (some ⟨k, o, none⟩) n n, ?_, .slice hk ?_⟩
          · simp [Instr.sliceAt, Instr.sureAddr, run_underlying ht, Instr.sliceBounds, sizeOf, typeInfo, hi, Addr.add]
          · unfold CapR
            rw [if_neg (by omega)]
      · cases h
    · cases h
  · cases h
theorem slice_sound {σ : St} {w : World} (hr : Rel ρ σ w) {t : TypeId} {x x' : Value} {lo lo' hi hi' : Option Value} {v : Value} (hx : VR ρ x x') (hlo : (lo = none ∧ lo' = none) ∨ ∃ v v', lo = some v ∧ lo' = some v' ∧ VR ρ v v') (hhi : (hi = none ∧ hi' = none) ∨ ∃ v v', hi = some v ∧ hi' = some v' ∧ VR ρ v v')
    (h : evSlice P σ t x lo hi = some v) : ∃ v', (Instr.sliceAt t x' lo' hi' none).run P w = .ok v' w ∧ VR ρ v v' := by
  unfold evSlice at h
  cases ht : P.underlying t with
  | none => rw [ht] at h; cases h
  | some d =>
  rw [ht] at h
  cases d with
  | slice elem =>
    have fin : ∀ (base' : Option Addr) (n c' l h : Nat) (i : TypeInfo), P.info? elem = some i → boundV 0 lo = some l → boundV n hi = some h → l ≤ h → h ≤ c' →
        (Instr.sliceAt t (.slice base' n c') lo' hi' none).run P w = .ok (.slice (if c' = l then base' else base'.map (·.add (l * i.size))) (h - l) (c' - l)) w := by
      intro base' n c' l h i hi1 e1 e2 h1 h2
      have hb := bounds_run (P := P) (ρ := ρ) hlo hhi e1 e2 h1 h2 w
      simp [Instr.sliceAt, Instr.slice, run_underlying ht, hb, sizeOf, typeInfo, hi1]
    have hx2 := hx
    cases hx with
    | nilSlice n c =>
      simp only at h
      cases hi1 : P.info? elem with
      | none => rw [hi1] at h; cases h
      | some i =>
      cases e1 : boundV 0 lo with
      | none => rw [hi1, e1] at h; cases h
      | some l =>
      cases e2 : boundV n hi with
      | none => rw [hi1, e1, e2] at h; cases h
      | some hh =>
      rw [hi1, e1, e2] at h
      simp only at h
      cases hle : Nat.ble l hh with
      | false => rw [hle] at h; cases h
      | true =>
      rw [hle] at h
      simp only at h
      cases hcb : Nat.beq c big with
      | true => rw [hcb] at h; cases h
      | false =>
      rw [hcb] at h
      simp only at h
      cases hc2 : (Nat.ble hh c && Nat.blt c big) with
      | false => rw [hc2] at h; cases h
      | true =>
      rw [hc2] at h
      simp only [Bool.and_eq_true] at hc2
      refine ⟨_, fin none n c l hh i hi1 e1 e2 (Nat.le_of_ble_eq_true hle) (Nat.le_of_ble_eq_true hc2.1), ?_⟩
      rw [← Option.some.inj h]
      have : (match Nat.beq c l with | true => (none : Option Addr) | false => (none : Option Addr).map (·.add (l * i.size))) = none := by split <;> rfl
      rw [this]
      have : (if c = l then (none : Option Addr) else (none : Option Addr).map (·.add (l * i.size))) = none := by split <;> rfl
      rw [this]
      exact .nilSlice _ _
    | empty a c' =>
      exfalso
      simp only at h
      cases hi1 : P.info? elem with
      | none => rw [hi1] at h; cases h
      | some i =>
      cases e1 : boundV 0 lo with
      | none => rw [hi1, e1] at h; cases h
      | some l =>
      cases e2 : boundV 0 hi with
      | none => rw [hi1, e1, e2] at h; cases h
      | some hh =>
      rw [hi1, e1, e2] at h
      simp only at h
      cases hle : Nat.ble l hh with
      | false => rw [hle] at h; cases h
      | true => rw [hle] at h; cases h
    | @slice b k o n c c' h1 h2 =>
      simp only at h
      cases hi1 : P.info? elem with
      | none => rw [hi1] at h; cases h
      | some i =>
      cases e1 : boundV 0 lo with
      | none => rw [hi1, e1] at h; cases h
      | some l =>
      cases e2 : boundV n hi with
      | none => rw [hi1, e1, e2] at h; cases h
      | some hh =>
      rw [hi1, e1, e2] at h
      simp only at h
      cases hle : Nat.ble l hh with
      | false => rw [hle] at h; cases h
      | true =>
      rw [hle] at h
      simp only at h
      have had : AdR ρ ⟨b, o, none⟩ ⟨k, o, none⟩ := ⟨rfl, rfl, rfl, h1⟩
      cases hcb : Nat.beq c big with
      | false =>
        rw [hcb] at h
        simp only at h
        cases hc2 : (Nat.ble hh c && Nat.blt c big) with
        | false => rw [hc2] at h; cases h
        | true =>
        rw [hc2] at h
        simp only [Bool.and_eq_true] at hc2
        have hne : c ≠ big := by rw [← Bool.not_eq_true, Nat.beq_eq] at hcb; exact hcb
        unfold CapR at h2
        rw [if_neg hne] at h2
        subst h2
        refine ⟨_, fin (some ⟨k, o, none⟩) n c' l hh i hi1 e1 e2 (Nat.le_of_ble_eq_true hle) (Nat.le_of_ble_eq_true hc2.1), ?_⟩
        rw [← Option.some.inj h]
        have hlt : Nat.blt (c' - l) big = true := by
          have := hc2.2
          simp only [Nat.blt_eq] at this ⊢
          omega
        have go : ∀ a a' : Addr, AdR ρ a a' → VR ρ (.slice (some a) (hh - l) (c' - l)) (.slice (some a') (hh - l) (c' - l)) := by
          intro a a' ha
          obtain ⟨b1, o1, s1⟩ := a
          obtain ⟨b2, o2, s2⟩ := a'
          obtain ⟨q1, q2, q3, q4⟩ := ha
          simp only at q1 q2 q3 q4
          subst q1 q2 q3
          exact .slice q4 (capR_of hlt)
        cases hcl : Nat.beq c' l with
        | true =>
          have : c' = l := by rw [Nat.beq_eq] at hcl; exact hcl
          rw [if_pos this]
          exact go _ _ had
        | false =>
          have : ¬ c' = l := by rw [← Bool.not_eq_true, Nat.beq_eq] at hcl; exact hcl
          rw [if_neg this]
          exact go _ _ (had.add _)
      | true =>
        rw [hcb] at h
        simp only at h
        have hceq : c = big := by rw [Nat.beq_eq] at hcb; exact hcb
        subst hceq
        cases hg : σ.heap.get b with
        | none => rw [hg] at h; cases h
        | some y =>
        rw [hg] at h
        cases y with
        | obj o => cases h
        | row bl =>
        obtain ⟨cells0, ty0, sz0, own0⟩ := bl
        simp only at h
        cases hck : (Nat.beq sz0 i.size && (Nat.blt 0 i.size && (Nat.ble (o + hh * i.size) cells0.length && (Nat.beq l 0 || Nat.blt (o + l * i.size) cells0.length)))) with
        | false =>
          rw [hck] at h
          simp only at h
          clear hck
          cases hck : (Nat.beq sz0 i.size && (Nat.blt 0 i.size && (Nat.ble (o + hh * i.size) cells0.length && Nat.beq l hh))) with
          | false => rw [hck] at h; cases h
          | true =>
          rw [hck] at h
          simp only [Bool.and_eq_true, Nat.beq_eq, Nat.ble_eq, Nat.blt_eq] at hck
          obtain ⟨rfl, hpos, hlen, rfl⟩ := hck
          obtain ⟨k1, y1, g1, g2, cs, tyr, fr, rfl, hrow⟩ := hr.live b _ hg
          obtain ⟨R, hR1, hR2⟩ := hrow.room (by simp only; omega)
          simp only at hR1 hR2
          have hcc := h2
          unfold CapR at hcc
          rw [if_pos rfl] at hcc
          obtain ⟨R', z', hRR, hc'⟩ := hcc
          rw [hR1] at hRR
          cases Option.some.inj hRR
          have hle0 := hrow.le
          simp only at hle0
          have hz : o / i.size + l ≤ R := by
            have h3 : o + l * i.size ≤ R * i.size := by omega
            have h4 : (o + l * i.size) / i.size ≤ R := by
              have := Nat.div_le_div_right (c := i.size) h3
              rw [Nat.mul_div_cancel _ hpos] at this
              exact this
            rw [Nat.add_mul_div_right _ _ hpos] at h4
            exact h4
          refine ⟨_, fin (some ⟨k, o, none⟩) n c' l l i hi1 e1 e2 (Nat.le_of_ble_eq_true hle) (by omega), ?_⟩
          rw [← Option.some.inj h, Nat.sub_self]
          exact .empty _ _
        | true =>
        rw [hck] at h
        simp only [Bool.and_eq_true, Nat.beq_eq, Nat.ble_eq, Nat.blt_eq, Bool.or_eq_true] at hck
        obtain ⟨rfl, hpos, hlen, hl0⟩ := hck
        obtain ⟨k1, y1, g1, g2, cs, tyr, fr, rfl, hrow⟩ := hr.live b _ hg
        obtain ⟨R, hR1, hR2⟩ := hrow.room (by simp only; omega)
        simp only at hR1 hR2
        have hcc := h2
        unfold CapR at hcc
        rw [if_pos rfl] at hcc
        obtain ⟨R', z', hRR, hc'⟩ := hcc
        rw [hR1] at hRR
        cases Option.some.inj hRR
        have hle0 := hrow.le
        simp only at hle0
        have hz : o / i.size + hh ≤ R := by
          have h3 : o + hh * i.size ≤ R * i.size := by omega
          have h4 : (o + hh * i.size) / i.size ≤ R := by
            have := Nat.div_le_div_right (c := i.size) h3
            rw [Nat.mul_div_cancel _ hpos] at this
            exact this
          rw [Nat.add_mul_div_right _ _ hpos] at h4
          exact h4
        refine ⟨_, fin (some ⟨k, o, none⟩) n c' l hh i hi1 e1 e2 (Nat.le_of_ble_eq_true hle) (by omega), ?_⟩
        rw [← Option.some.inj h]
        have hadr : (if c' = l then (some ⟨k, o, none⟩ : Option Addr) else (some ⟨k, o, none⟩ : Option Addr).map (·.add (l * i.size))) = some (Addr.add ⟨k, o, none⟩ (l * i.size)) := by
          by_cases e : c' = l
          · rw [if_pos e]
            rcases hl0 with h0 | h0
            · subst h0; simp [Addr.add]
            · exfalso
              have h3 : o + l * i.size + 1 ≤ R * i.size := by omega
              have h4 : (o + l * i.size) / i.size < R := by rw [Nat.div_lt_iff_lt_mul hpos]; omega
              rw [Nat.add_mul_div_right _ _ hpos] at h4
              omega
          · rw [if_neg e]; rfl
        rw [hadr]
        have ha2 := had.add (l * i.size)
        have hoff : (Addr.add ⟨b, o, none⟩ (l * i.size)).off = o + l * i.size ∧ (Addr.add ⟨b, o, none⟩ (l * i.size)).block = b ∧ (Addr.add ⟨b, o, none⟩ (l * i.size)).spot = none := by
          unfold Addr.add
          split
          · rename_i h0; simp [h0]
          · simp
        generalize Addr.add ⟨b, o, none⟩ (l * i.size) = a1 at ha2 hoff
        generalize Addr.add ⟨k, o, none⟩ (l * i.size) = a2 at ha2
        obtain ⟨b1, o1, s1⟩ := a1
        obtain ⟨b2, o2, s2⟩ := a2
        obtain ⟨q1, q2, q3, q4⟩ := ha2
        simp only at q1 q2 q3 q4 hoff
        obtain ⟨q5, q6, -⟩ := hoff
        subst q1 q2 q3 q5 q6
        refine .slice q4 ?_
        unfold CapR
        rw [if_pos rfl]
        refine ⟨R, i.size, hR1, ?_⟩
        rw [Nat.add_mul_div_right _ _ hpos]
        omega
    | _ => cases h
  | _ => cases h
end
end Go.Ev
