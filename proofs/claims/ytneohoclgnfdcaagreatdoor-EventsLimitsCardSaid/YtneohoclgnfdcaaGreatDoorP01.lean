import Derived.WalkKit
import Derived.WalkSpells
import Derived.WalkLawsBesides
import Derived.Lib.Hide
import Derived.IntWalk
import Derived.OwnWalk
import Derived.OneCell
import Derived.Deep.Onto
import Derived.Lib.Builder
import Derived.BigQuiet
import Derived.Deep.QuietTactic
import Derived.Laws.Closers25b
import Derived.Deep.Cut
import Derived.Deep.Quiet
import Derived.Below
import Derived.Test.YtneohoclgnfdcaaGreatDoorProg
import Derived.Test.YtneohoclgnfdcaaGreatDoorRows
/- The builder of a sequence of events, in memory: its box, its row of nodes, its rows of ints. -/
namespace Go.Proofs.YtneohoclgnfdcaaGreatDoor
open Go.RowKit
open Go.Lib
/-- 'append(l, x..)', l a row of the call's own: the row behind it lies where l lay, or is new. -/
theorem wpList_append_new {P : Program} {ops : Array Oper} {rest : List Oper} {o : Oper} {a : Act} {Q : Exit → Act → World → Prop} (w : World) (hgd : o.guard = none) (s x : Operand) (t : TypeId)
    (ho : o.op = .call { callee := .builtin .append, args := #[s, x], argTypes := #[t, t] })
    (base : Nat) (e : TypeId) (i : TypeInfo) (z : Value) (size bytes : Nat) (ht : P.underlying t = some (.slice e)) (hi : P.info? e = some i) (hz : i.zero = some z)
    (hsize : i.size = size) (hby : i.bytes = bytes) (hzs : z.cells.size = size) (hsz : 0 < size)
    (v : Value) (n : Nat) (xs : List Value) (hs : a.eval s = v) (hown : w.ownsRow base e size v n xs)
    (ad : Addr) (m c : Nat) (news : List Value) (hx : a.eval x = .slice (some ad) m c) (hl : news.length = m * size) (hnews : ∀ j u, news[j]? = some u → w.cell? (ad.add j) = some u) (h1 : ∀ u ∈ news, u.oneCell' = true)
    (hm : 0 < m) (h63 : n + m ≤ maxLen) (hbytes : (n + m) * bytes ≤ 140737488355328) (hbase : base ≤ w.heap.size)
    (h : ∀ v' w', w'.ownsRow base e size v' (n + m) (xs ++ news) → w.grownBy w' v.ownBlock → (∀ k, v'.ownBlock = some k → v.ownBlock = some k ∨ w.heap.size ≤ k) → wpList P ops Q rest (a.put o.dst v') w') : wpList P ops Q (o :: rest) a w := by
  have hown0 := hown
  obtain ⟨hxs, hr | ⟨g, cap, cur, rfl, hb, hg, hnc, hcm, hcs, htake⟩⟩ := hown
  · obtain ⟨rfl, rfl⟩ := hr
    have hx0 : xs = [] := List.length_eq_zero_iff.1 (by simpa using hxs)
    subst hx0
    refine wpList_append_grows w hgd s x t ho e i z size bytes ht hi hz hsize hby hzs hsz none 0 0 [] hs (fun _ => ⟨rfl, rfl⟩) (by simp) (fun b hb => by cases hb) ad m c news hx hl hnews h1 (by omega) h63 hbytes ?_
    intro v' w' h2 h3
    exact h v' w' (h2.mono hbase) h3 (fun k hk => .inr (h2.lt k hk).1)
  · by_cases hf : n + m ≤ cap
    · refine wpList_append_fits w hgd s x t ho base e i size ht hi hsize g n cap xs hs hown0 ad m c news hx hl hnews h1 hf ?_
      intro w' h2 h3
      exact h _ w' h2 h3 (fun k hk => .inl hk)
    · refine wpList_append_grows w hgd s x t ho e i z size bytes ht hi hz hsize hby hzs hsz (some ⟨g, 0, none⟩) n cap xs hs (fun h => by cases h) hxs (fun b hb => by cases hb; exact hown0.cells rfl) ad m c news hx hl hnews h1 (by omega) h63 hbytes ?_
      intro v' w' h2 h3
      refine h v' w' (h2.mono hbase) ⟨h3.os, h3.tape, h3.output, h3.size, fun k hk _ => h3.block k hk (by simp)⟩ (fun k hk => .inr (h2.lt k hk).1)
/-- row i is V i and holds L i; no two rows share a block -/
structure IRows (w : World) (B : Nat) (V : Nat → Value) (L : Nat → List Int) : Prop where
  own : ∀ i, w.ownsRow B 3 1 (V i) (L i).length ((L i).map (Value.int .i64))
  apart : ∀ i j, i ≠ j → (V i).ownBlock = none ∨ (V i).ownBlock ≠ (V j).ownBlock
def upd {α : Type} (f : Nat → α) (i : Nat) (x : α) (j : Nat) : α := if j = i then x else f j
theorem upd_same {α : Type} (f : Nat → α) (i : Nat) (x : α) : upd f i x i = x := if_pos rfl
theorem upd_other {α : Type} (f : Nat → α) {i j : Nat} (x : α) (h : j ≠ i) : upd f i x j = f j := if_neg h
def noRows (_ : Nat) : Value := .slice none 0 0
theorem IRows.start (w : World) (B : Nat) : IRows w B noRows (fun _ => []) := ⟨fun _ => World.ownsRow_nil w B _ 1, fun _ _ _ => .inl rfl⟩
section
variable {w w' : World} {B : Nat} {V : Nat → Value} {L : Nat → List Int}
theorem own_typed {e : TypeId} {size n : Nat} {v : Value} {xs : List Value} {k : Nat} (h : w.ownsRow B e size v n xs) (hk : v.ownBlock = some k) : ∃ cs, w.heap[k]? = some (.cells cs e (0, 0)) := by
  rcases h.2 with ⟨rfl, _⟩ | ⟨g, cap, cur, rfl, _, hg, _⟩
  · cases hk
  · cases hk; exact ⟨_, hg⟩
theorem own_keep {e : TypeId} {size n : Nat} {v : Value} {xs : List Value} (h : w.ownsRow B e size v n xs) (hk : ∀ (k : Nat) cs, v.ownBlock = some k → w.heap[k]? = some (.cells cs e (0, 0)) → w'.heap[k]? = some (.cells cs e (0, 0))) : w'.ownsRow B e size v n xs := by
  refine ⟨h.1, ?_⟩
  rcases h.2 with q | ⟨g, cap, cur, rfl, h1, h2, h3⟩
  · exact .inl q
  · exact .inr ⟨g, cap, cur, rfl, h1, hk g cur rfl h2, h3⟩
theorem IRows.keep (h : IRows w B V L) (hk : ∀ (k : Nat) cs, w.heap[k]? = some (.cells cs 3 (0, 0)) → w'.heap[k]? = some (.cells cs 3 (0, 0))) : IRows w' B V L :=
  ⟨fun i => own_keep (h.own i) fun k cs _ => hk k cs, h.apart⟩
theorem IRows.below (h : IRows w B V L) (hb : Below w.heap.size w w') : IRows w' B V L :=
  h.keep fun k cs hk => by rw [hb.block k (Array.getElem?_eq_some_iff.1 hk).1]; exact hk
/-- an append to row i -/
theorem IRows.append (h : IRows w B V L) (i : Nat) {v' : Value} {x : Int} (hg : w.grownBy w' (V i).ownBlock) (ho : w'.ownsRow B 3 1 v' ((L i).length + 1) ((L i ++ [x]).map (Value.int .i64)))
    (hp : ∀ k, v'.ownBlock = some k → (V i).ownBlock = some k ∨ w.heap.size ≤ k) : IRows w' B (upd V i v') (upd L i (L i ++ [x])) := by
  have old : ∀ j, j ≠ i → w'.ownsRow B 3 1 (V j) (L j).length ((L j).map (Value.int .i64)) := fun j hj =>
    (h.own j).kept hg (h.apart j i hj)
  have hne : ∀ j, j ≠ i → v'.ownBlock = none ∨ v'.ownBlock ≠ (V j).ownBlock := by
    intro j hj
    cases hv : v'.ownBlock with
    | none => exact .inl rfl
    | some k =>
      refine .inr fun e => ?_
      rcases hp k hv with q | q
      · rcases h.apart i j (fun e => hj e.symm) with r | r
        · rw [r] at q; cases q
        · exact r (q.trans e)
      · have := ((h.own j).lt k e.symm).2; omega
  refine ⟨fun j => ?_, fun a b hab => ?_⟩
  · by_cases hj : j = i
    · subst hj; rw [upd_same, upd_same]; simpa using ho
    · rw [upd_other _ _ hj, upd_other _ _ hj]; exact old j hj
  · by_cases ha : a = i
    · subst ha
      rw [upd_same, upd_other _ _ (fun e => hab e.symm)]
      exact hne b fun e => hab e.symm
    · rw [upd_other _ _ ha]
      by_cases hb : b = i
      · subst hb
        rw [upd_same]
        rcases hne a ha with q | q
        · rw [q]
          cases hv : (V a).ownBlock with
          | none => exact .inl rfl
          | some k => exact .inr (by simp)
        · exact .inr fun e => q e.symm
      · rw [upd_other _ _ hb]; exact h.apart a b hab
/-- row i cut to its first k -/
theorem IRows.cut (h : IRows w B V L) (i k : Nat) {a : Option Addr} {n c : Nat} (hv : V i = .slice a n c) (hk : k ≤ (L i).length) : IRows w B (upd V i (.slice a k c)) (upd L i ((L i).take k)) := by
  have hob : (Value.slice a k c).ownBlock = (V i).ownBlock := by rw [hv]; cases a <;> rfl
  refine ⟨fun j => ?_, fun p q hpq => ?_⟩
  · by_cases hj : j = i
    · subst hj
      rw [upd_same, upd_same]
      have h1 := h.own j
      rw [hv] at h1
      refine ⟨by simp, ?_⟩
      rcases h1.2 with ⟨q1, q2⟩ | ⟨g, cap, cur, q1, q2, q3, q4, q5, q6, q7⟩
      · cases q1
        have hk0 : k = 0 := by omega
        subst hk0
        exact .inl ⟨rfl, by simp⟩
      · cases q1
        refine .inr ⟨g, _, cur, by rw [List.length_take, Nat.min_eq_left hk], q2, q3, by rw [List.length_take]; omega, q5, q6, ?_⟩
        rw [List.length_take, Nat.min_eq_left hk, List.map_take, ← q7, List.take_take, Nat.mul_one, Nat.mul_one, Nat.min_eq_left hk]
    · rw [upd_other _ _ hj, upd_other _ _ hj]; exact h.own j
  · by_cases hp : p = i
    · subst hp
      rw [upd_same, upd_other _ _ (fun e => hpq e.symm), hob]
      exact h.apart p q hpq
    · rw [upd_other _ _ hp]
      by_cases hq : q = i
      · subst hq; rw [upd_same, hob]; exact h.apart p q hpq
      · rw [upd_other _ _ hq]; exact h.apart p q hpq
end
/-- kind, text, ordered -/
abbrev Hd := Int × ByteArray × Bool
def ncell (V : Nat → Value) (i : Nat) (m : Hd) : List Value := [.int .i64 m.1, .string m.2.1, .bool m.2.2, V (2 * i + 1), V (2 * i + 2)]
def ncells (V : Nat → Value) : Nat → List Hd → List Value
  | _, [] => []
  | k, m :: M => ncell V k m ++ ncells V (k + 1) M
section
variable (V : Nat → Value)
theorem ncells_len : ∀ (M : List Hd) (k : Nat), (ncells V k M).length = M.length * 5 := by
  intro M
  induction M with
  | nil => intro k; rfl
  | cons m M ih => intro k; rw [ncells, List.length_append, ih]; simp [ncell]; omega
theorem ncells_snoc (m : Hd) : ∀ (M : List Hd) (k : Nat), ncells V k (M ++ [m]) = ncells V k M ++ ncell V (k + M.length) m := by
  intro M
  induction M with
  | nil => intro k; simp [ncells]
  | cons x M ih => intro k; simp only [List.cons_append, ncells, ih, List.length_cons, List.append_assoc]; rw [show k + 1 + M.length = k + (M.length + 1) from by omega]
theorem ncells_at : ∀ (M : List Hd) (k i : Nat) (m : Hd) (c : Nat) (_ : c < 5), M[i]? = some m → (ncells V k M)[i * 5 + c]? = (ncell V (k + i) m)[c]? := by
  intro M
  induction M with
  | nil => intro k i m c hc h; cases h
  | cons x M ih =>
    intro k i m c hc h
    have hl : (ncell V k x).length = 5 := rfl
    cases i with
    | zero =>
      obtain rfl : x = m := Option.some.inj h
      rw [ncells, Nat.zero_mul, Nat.zero_add, List.getElem?_append_left (by omega)]; rfl
    | succ i =>
      rw [ncells, List.getElem?_append_right (by omega), hl, show (i + 1) * 5 + c - 5 = i * 5 + c from by omega, ih (k + 1) i m c hc h, show k + 1 + i = k + (i + 1) from by omega]
/-- rows that no node of M names -/
theorem ncells_upd (j : Nat) (v : Value) : ∀ (M : List Hd) (k : Nat), (∀ i, k ≤ i → i < k + M.length → j ≠ 2 * i + 1 ∧ j ≠ 2 * i + 2) → ncells (upd V j v) k M = ncells V k M := by
  intro M
  induction M with
  | nil => intro k _; rfl
  | cons m M ih =>
    intro k h
    have h0 := h k (Nat.le_refl k) (by simp)
    rw [ncells, ncells, ih (k + 1) fun i h1 h2 => h i (by omega) (by simp at h2 ⊢; omega)]
    unfold ncell
    rw [upd_other _ _ (fun e => h0.1 e.symm), upd_other _ _ (fun e => h0.2 e.symm)]
theorem ncells_set2 (v : Value) : ∀ (M : List Hd) (k i : Nat), i < M.length → (ncells V k M).set (i * 5 + 4) v = ncells (upd V (2 * (k + i) + 2) v) k M := by
  intro M
  induction M with
  | nil => intro k i h; cases h
  | cons m M ih =>
    intro k i h
    have hl : (ncell V k m).length = 5 := rfl
    cases i with
    | zero =>
      simp only [Nat.add_zero]
      rw [ncells, ncells, List.set_append_left _ _ (by omega), ncells_upd V _ v M (k + 1) (fun i h1 h2 => by omega)]
      congr 1
      show [_, _, _, _, v] = _
      unfold ncell
      rw [upd_same, upd_other _ _ (by omega)]
    | succ i =>
      rw [ncells, ncells, List.set_append_right _ _ (by omega), hl, show (i + 1) * 5 + 4 - 5 = i * 5 + 4 from by omega, ih (k + 1) i (by simpa using h), show k + 1 + i = k + (i + 1) from by omega]
      congr 1
      unfold ncell
      rw [upd_other _ _ (by omega), upd_other _ _ (by omega)]
end

theorem size_new (w : World) (o : Obj) : (w.alloc o).heap.size = w.heap.size + 1 := by simp
theorem below_new (w : World) (o : Obj) : Below w.heap.size w (w.alloc o) := (Below.refl _ w).alloc (Nat.le_refl _) o
/-- the builder at b: bn, vo, dn are what its box holds; nv is the row of its nodes, whose cells name the rows U; V, L are the rows (row 0: the open nodes) -/
structure BS (w : World) (B b : Nat) (bn nv vo : Value) (M : List Hd) (U V : Nat → Value) (L : Nat → List Int) (dn : Bool) : Prop where
  le : B ≤ b
  box : w.heap[b]? = some (.cells #[bn, .int .i64 0, vo, .bool dn] 43 (0, 0))
  nodes : w.ownsRow B 33 5 nv M.length (ncells U 0 M)
  rows : IRows w B V L
section
variable {w w' : World} {B b : Nat} {bn nv vo : Value} {M : List Hd} {U V : Nat → Value} {L : Nat → List Int} {dn : Bool}
theorem BS.below (h : BS w B b bn nv vo M U V L dn) (hb : Below w.heap.size w w') : BS w' B b bn nv vo M U V L dn :=
  ⟨h.le, by rw [hb.block b (Array.getElem?_eq_some_iff.1 h.box).1]; exact h.box, own_keep h.nodes fun k cs _ hk => by rw [hb.block k (Array.getElem?_eq_some_iff.1 hk).1]; exact hk, h.rows.below hb⟩
theorem BS.alloc (h : BS w B b bn nv vo M U V L dn) (o : Obj) : BS (w.alloc o) B b bn nv vo M U V L dn := h.below (below_new w o)
theorem IRows.typed (h : IRows w B V L) {i k : Nat} (hk : (V i).ownBlock = some k) : ∃ cs, w.heap[k]? = some (.cells cs 3 (0, 0)) := own_typed (h.own i) hk
/-- an append to row i -/
theorem BS.item (h : BS w B b bn nv vo M U V L dn) (i : Nat) {v' : Value} {x : Int} (hg : w.grownBy w' (V i).ownBlock) (ho : w'.ownsRow B 3 1 v' ((L i).length + 1) ((L i ++ [x]).map (Value.int .i64)))
    (hp : ∀ k, v'.ownBlock = some k → (V i).ownBlock = some k ∨ w.heap.size ≤ k) : BS w' B b bn nv vo M U (upd V i v') (upd L i (L i ++ [x])) dn := by
  refine ⟨h.le, ?_, ?_, h.rows.append i hg ho hp⟩
  · rw [hg.block b (Array.getElem?_eq_some_iff.1 h.box).1 fun e => ?_]
    · exact h.box
    · obtain ⟨cs, hc⟩ := h.rows.typed e.symm
      rw [h.box] at hc; cases hc
  · refine h.nodes.kept hg ?_
    cases hv : nv.ownBlock with
    | none => exact .inl rfl
    | some k =>
      refine .inr fun e => ?_
      obtain ⟨cs, hc⟩ := own_typed h.nodes hv
      obtain ⟨cs2, hc2⟩ := h.rows.typed e.symm
      rw [hc] at hc2; cases hc2
/-- an append to the nodes -/
theorem BS.node (h : BS w B b bn nv vo M U V L dn) {m : Hd} {nv' : Value} (hg : w.grownBy w' nv.ownBlock) (ho : w'.ownsRow B 33 5 nv' (M.length + 1) (ncells U 0 M ++ ncell U M.length m)) : BS w' B b bn nv' vo (M ++ [m]) U V L dn := by
  refine ⟨h.le, ?_, ?_, h.rows.keep fun k cs hk => ?_⟩
  · rw [hg.block b (Array.getElem?_eq_some_iff.1 h.box).1 fun e => ?_]
    · exact h.box
    · obtain ⟨cs, hc⟩ := own_typed h.nodes e.symm
      rw [h.box] at hc; cases hc
  · rw [List.length_append, ncells_snoc, Nat.zero_add]; exact ho
  · rw [hg.block k (Array.getElem?_eq_some_iff.1 hk).1 fun e => ?_]
    · exact hk
    · obtain ⟨cs2, hc⟩ := own_typed h.nodes e.symm
      rw [hk] at hc; cases hc
/-- a store into the items' cell of node i -/
theorem BS.setItem {g cap : Nat} (h : BS w B b bn (.slice (some ⟨g, 0, none⟩) M.length cap) vo M U V L dn) (i : Nat) (hi : i < M.length) (v : Value) : BS (w.setCell ⟨g, i * 5 + 4, none⟩ v) B b bn (.slice (some ⟨g, 0, none⟩) M.length cap) vo M (upd U (2 * i + 2) v) V L dn := by
  have h1 := h.nodes.stored (i * 5 + 4) v
  have hgt := own_typed h.nodes (k := g) rfl
  rw [ncells_set2 U v M 0 i hi, Nat.zero_add] at h1
  have hk : ∀ (k : Nat), k ≠ g → (w.setCell ⟨g, i * 5 + 4, none⟩ v).heap[k]? = w.heap[k]? := fun k hk => by
    simp [World.setCell, Array.getElem?_modify, Ne.symm hk]
  obtain ⟨cs, hc⟩ := hgt
  refine ⟨h.le, ?_, h1.1, h.rows.keep fun k cs2 hk2 => ?_⟩
  · rw [hk b fun e => ?_]
    · exact h.box
    · subst e; rw [h.box] at hc; cases hc
  · rw [hk k fun e => ?_]
    · exact hk2
    · subst e; rw [hk2] at hc; cases hc
theorem BS.far (h : BS w B b bn nv vo M U V L dn) (c : Nat) (v : Value) : (w.setCell ⟨b, c, none⟩ v).ownsRow B 33 5 nv M.length (ncells U 0 M) ∧ IRows (w.setCell ⟨b, c, none⟩ v) B V L := by
  have hk : ∀ (k : Nat), k ≠ b → (w.setCell ⟨b, c, none⟩ v).heap[k]? = w.heap[k]? := fun k hk => by
    simp [World.setCell, Array.getElem?_modify, Ne.symm hk]
  refine ⟨own_keep h.nodes fun k cs _ h2 => ?_, h.rows.keep fun k cs h2 => ?_⟩
  · rw [hk k fun e => ?_]
    · exact h2
    · subst e; rw [h.box] at h2; cases h2
  · rw [hk k fun e => ?_]
    · exact h2
    · subst e; rw [h.box] at h2; cases h2
theorem BS.setNodes (h : BS w B b bn nv vo M U V L dn) (v : Value) : BS (w.setCell ⟨b, 0, none⟩ v) B b v nv vo M U V L dn :=
  ⟨h.le, by simp [World.setCell, Array.getElem?_modify, h.box], (h.far 0 v).1, (h.far 0 v).2⟩
theorem BS.setOpen (h : BS w B b bn nv vo M U V L dn) (v : Value) : BS (w.setCell ⟨b, 2, none⟩ v) B b bn nv v M U V L dn :=
  ⟨h.le, by simp [World.setCell, Array.getElem?_modify, h.box], (h.far 2 v).1, (h.far 2 v).2⟩
theorem BS.setDone (h : BS w B b bn nv vo M U V L dn) (d : Bool) : BS (w.setCell ⟨b, 3, none⟩ (.bool d)) B b bn nv vo M U V L d :=
  ⟨h.le, by simp [World.setCell, Array.getElem?_modify, h.box], (h.far 3 _).1, (h.far 3 _).2⟩
/-- the open nodes, one fewer -/
theorem BS.pop {g : Option Addr} {n c : Nat} (h : BS w B b bn nv vo M U V L dn) (hv : V 0 = .slice g n c) (k : Nat) (hk : k ≤ (L 0).length) : BS w B b bn nv vo M U (upd V 0 (.slice g k c)) (upd L 0 ((L 0).take k)) dn :=
  ⟨h.le, h.box, h.nodes, h.rows.cut 0 k hv hk⟩
theorem BS.cells (h : BS w B b bn nv vo M U V L dn) : w.cell? ⟨b, 0, none⟩ = some bn ∧ w.cell? ⟨b, 1, none⟩ = some (.int .i64 0) ∧ w.cell? ⟨b, 2, none⟩ = some vo ∧ w.cell? ⟨b, 3, none⟩ = some (.bool dn) ∧ ∀ o, w.frozen? ⟨b, o, none⟩ = false :=
  ⟨(Lib.cell_of_heap h.box 0).trans rfl, (Lib.cell_of_heap h.box 1).trans rfl, (Lib.cell_of_heap h.box 2).trans rfl, (Lib.cell_of_heap h.box 3).trans rfl, fun o => Lib.frozen_of_heap h.box o⟩
end
/-- the builder between two events: nn nodes, d of them open, all of the open ones lists -/
def BW (w : World) (B b nn d : Nat) (dn : Bool) : Prop :=
  ∃ nv M V L, BS w B b nv nv (V 0) M V V L dn ∧ M.length = nn ∧ (L 0).length = d ∧ (∀ x ∈ L 0, ∃ (i : Nat) (m : Hd), x = (i : Int) ∧ M[i]? = some m ∧ m.1 = 9) ∧ (∀ i, (L i).length ≤ nn) ∧ (∀ i, 2 * nn < i → V i = .slice none 0 0 ∧ L i = [])
/-- what an event does: 1 a null, 2 the start of a list, 3 its end -/
def stp (s : Nat × Nat × Bool) (op : Nat) : Nat × (Nat × Nat × Bool) :=
  if s.2.2 = true ∨ (s.2.1 = 0 ∧ op = 3) then (21, s)
  else if op = 3 then (0, (s.1, s.2.1 - 1, decide (s.2.1 - 1 = 0)))
  else if 32 < s.2.1 then (5, s)
  else if 4096 ≤ s.1 then (7, s)
  else if op = 2 then (0, (s.1 + 1, s.2.1 + 1, false))
  else (0, (s.1 + 1, s.2.1, decide (s.2.1 = 0)))
def runE : List Nat → Nat → Nat × Nat × Bool → Nat × Nat
  | [], i, s => if s.2.2 = true then (0, 0) else (i, 21)
  | op :: l, i, s => if (stp s op).1 = 0 then runE l (i + 1) (stp s op).2 else (i, (stp s op).1)
theorem run_deep (n : Nat) (h1 : 28 ≤ n) (h2 : n ≤ 37) : runE (List.replicate n 2 ++ List.replicate n 3) 0 (0, 0, false) = if 33 < n then (33, 5) else (0, 0) := by
  have h : ∀ k, k < 10 → runE (List.replicate (28 + k) 2 ++ List.replicate (28 + k) 3) 0 (0, 0, false) = if 33 < 28 + k then (33, 5) else (0, 0) := by decide +kernel
  have := h (n - 28) (by omega)
  rwa [show 28 + (n - 28) = n from by omega] at this
theorem run_nulls (k : Nat) : ∀ (i nn : Nat), nn ≤ 4096 → runE (List.replicate k 1 ++ [3]) i (nn, 1, false) = if 4096 < nn + k then (i + (4096 - nn), 7) else (0, 0) := by
  induction k with
  | zero => intro i nn h; rw [if_neg (by omega)]; simp [runE, stp]
  | succ k ih =>
    intro i nn h
    rw [List.replicate_succ, List.cons_append]
    by_cases h1 : nn = 4096
    · subst h1
      rw [if_pos (by omega)]
      simp [runE, stp]
    · have h2 : stp (nn, 1, false) 1 = (0, (nn + 1, 1, false)) := by
        unfold stp
        rw [if_neg (by simp), if_neg (by decide), if_neg (by simp), if_neg (by simp; omega), if_neg (by decide)]
        rfl
      unfold runE
      rw [h2, if_pos rfl, ih (i + 1) (nn + 1) (by omega)]
      by_cases h3 : 4096 < nn + (k + 1)
      · rw [if_pos h3, if_pos (by omega)]
        congr 1; omega
      · rw [if_neg h3, if_neg (by omega)]
theorem run_many (m : Nat) : runE (2 :: (List.replicate m 1 ++ [3])) 0 (0, 0, false) = if 4096 < m + 1 then (4096, 7) else (0, 0) := by
  unfold runE
  rw [show stp (0, 0, false) 2 = (0, (1, 1, false)) from by decide, if_pos rfl, run_nulls m 1 1 (by omega), Nat.add_comm 1 m]
end Go.Proofs.YtneohoclgnfdcaaGreatDoor
/- Rows of events, in memory. -/
namespace Go.Proofs.YtneohoclgnfdcaaGreatDoor
open Go.RowKit
open Go.Lib
/-- the kind of an event: of a list, or of a null -/
def kindE (op : Nat) : Int := if op = 1 then 0 else 9
def ecell (op : Nat) : List Value := [.int .i64 op, .int .i64 (kindE op), .string ⟨#[]⟩, .bool false]
def ecells (l : List Nat) : List Value := l.flatMap ecell
def evV (op : Nat) : Value := .agg #[.int .i64 op, .int .i64 (kindE op), .string ⟨#[]⟩, .bool false]
theorem ecells_len (l : List Nat) : (ecells l).length = l.length * 4 := by
  induction l with
  | nil => rfl
  | cons x l ih => unfold ecells at *; rw [List.flatMap_cons, List.length_append, ih]; simp [ecell]; omega
theorem ecells_snoc (l : List Nat) (x : Nat) : ecells (l ++ [x]) = ecells l ++ ecell x := by
  unfold ecells; rw [List.flatMap_append, List.flatMap_cons, List.flatMap_nil, List.append_nil]
theorem ecells_at : ∀ (l : List Nat) (j op c : Nat), c < 4 → l[j]? = some op → (ecells l)[j * 4 + c]? = (ecell op)[c]? := by
  intro l
  induction l with
  | nil => intro j op c hc h; cases h
  | cons x l ih =>
    intro j op c hc h
    have hl : (ecell x).length = 4 := rfl
    have e : ecells (x :: l) = ecell x ++ ecells l := by unfold ecells; rw [List.flatMap_cons]
    rw [e]
    cases j with
    | zero =>
      obtain rfl : x = op := Option.some.inj h
      rw [Nat.zero_mul, Nat.zero_add, List.getElem?_append_left (by omega)]
    | succ j =>
      rw [List.getElem?_append_right (by omega), hl, show (j + 1) * 4 + c - 4 = j * 4 + c from by omega]
      exact ih j op c hc h
/-- a slice of events -/
def EvsAt (w : World) (v : Value) (ops : List Nat) : Prop :=
  ∃ a c, v = .slice a ops.length c ∧ (ops = [] ∨ ∃ g, a = some ⟨g, 0, none⟩ ∧ ∀ (j op : Nat), ops[j]? = some op → w.cell? ⟨g, j * 4, none⟩ = some (.int .i64 op) ∧ w.cell? ⟨g, j * 4 + 1, none⟩ = some (.int .i64 (kindE op)) ∧ w.cell? ⟨g, j * 4 + 2, none⟩ = some (.string ⟨#[]⟩) ∧ w.cell? ⟨g, j * 4 + 3, none⟩ = some (.bool false))
theorem evs_of {w : World} {B : Nat} {v : Value} {ops : List Nat} (h : w.ownsRow B 25 4 v ops.length (ecells ops)) : EvsAt w v ops := by
  rcases h.2 with ⟨q1, q2⟩ | ⟨g, cap, cur, q1, _⟩
  · have : ops = [] := List.length_eq_zero_iff.1 q2
    subst this
    exact ⟨none, 0, q1, .inl rfl⟩
  · refine ⟨some ⟨g, 0, none⟩, cap, q1, .inr ⟨g, rfl, fun j op hj => ?_⟩⟩
    have hc : ∀ c u, c < 4 → (ecell op)[c]? = some u → w.cell? ⟨g, j * 4 + c, none⟩ = some u := fun c u hc hu => by
      have h1 := World.ownsRow.cells (w := w) h (g := g) (by rw [q1]; rfl) (j * 4 + c) u (by rw [ecells_at ops j op c hc hj]; exact hu)
      have h2 : (⟨g, 0, none⟩ : Addr).add (j * 4 + c) = ⟨g, j * 4 + c, none⟩ := by unfold Addr.add; split <;> simp_all
      rw [h2] at h1; exact h1
    exact ⟨hc 0 _ (by decide) rfl, hc 1 _ (by decide) rfl, hc 2 _ (by decide) rfl, hc 3 _ (by decide) rfl⟩
theorem cell_keep {w w' : World} (hb : Below w.heap.size w w') {b o : Nat} {v : Value} (h : w.cell? ⟨b, o, none⟩ = some v) : w'.cell? ⟨b, o, none⟩ = some v := by
  rw [hb.cell (p := ⟨b, o, none⟩) (World.block_lt_of_cell? w _ h)]; exact h
theorem EvsAt.below {w w' : World} {v : Value} {ops : List Nat} (h : EvsAt w v ops) (hb : Below w.heap.size w w') : EvsAt w' v ops := by
  obtain ⟨a, c, h1, h2⟩ := h
  refine ⟨a, c, h1, ?_⟩
  rcases h2 with h2 | ⟨g, h2, h3⟩
  · exact .inl h2
  · exact .inr ⟨g, h2, fun j op hj => by
      obtain ⟨q0, q1, q2, q3⟩ := h3 j op hj
      exact ⟨cell_keep hb q0, cell_keep hb q1, cell_keep hb q2, cell_keep hb q3⟩⟩
/-- a row of events of its own, cut to nothing -/
theorem own_none {w : World} {B e size n c : Nat} {a : Option Addr} {xs : List Value} (h : w.ownsRow B e size (.slice a n c) n xs) : w.ownsRow B e size (.slice a 0 c) 0 [] := by
  refine ⟨by simp, ?_⟩
  rcases h.2 with ⟨q1, q2⟩ | ⟨g, cap, cur, q1, q2, q3, q4, q5, q6, q7⟩
  · cases q1; exact .inl ⟨rfl, rfl⟩
  · cases q1; exact .inr ⟨g, _, cur, rfl, q2, q3, Nat.zero_le _, q5, q6, by simp⟩
end Go.Proofs.YtneohoclgnfdcaaGreatDoor
/- The builder of events: top, form, completed. -/
namespace Go.Proofs.YtneohoclgnfdcaaGreatDoor
open Go.RowKit
open Go.Lib
theorem below_dn (w : World) (n : Nat) : Below w.heap.size w (w.drewN n) := ⟨rfl, rfl, rfl, Nat.le_refl _, fun _ _ => rfl⟩
set_option maxHeartbeats 4000000 in
set_option maxRecDepth 100000 in
theorem top_none (w : World) (b : Nat) (a : Option Addr) (c : Nat) (h2 : w.cell? ⟨b, 1 + 1, none⟩ = some (.slice a 0 c)) :
    Calls Tryz.prog 26 #[.pointer (some ⟨b, 0, none⟩)] w fun e w' => e = .returned (.pointer none) ∧ Below w.heap.size w w' := by
  go_enter Tryz.func26, Tryz.ntmps26
  go_wp2
  refine bodyPost_ret (v := .pointer none) (by simp only [results, Tryz.results26]; go_simp) rfl ?_
  exact ⟨rfl, Below.refl _ _⟩
set_option maxHeartbeats 4000000 in
set_option maxRecDepth 100000 in
theorem top_some (w : World) (b g o d c nn cap i : Nat) (h0 : w.cell? ⟨b, 0, none⟩ = some (.slice (some ⟨g, 0, none⟩) nn cap)) (h2 : w.cell? ⟨b, 1 + 1, none⟩ = some (.slice (some ⟨o, 0, none⟩) (d + 1) c)) (hl : w.cell? ⟨o, d, none⟩ = some (.int .i64 i)) (hi : i < nn) (hd : d ≤ 100) (_ : nn ≤ 4096) :
    Calls Tryz.prog 26 #[.pointer (some ⟨b, 0, none⟩)] w fun e w' => e = .returned (.pointer (some ⟨g, i * 5, none⟩)) ∧ Below w.heap.size w w' := by
  have hi2 : (i : Int) < (nn : Int) := by omega
  have hne : ¬ (((d + 1 : Nat) : Int) = 0) := by omega
  go_enter Tryz.func26, Tryz.ntmps26
  go_wp2
  go_quiet (fail)
  go_wp2
  refine bodyPost_ret (v := .pointer (some ⟨g, i * 5, none⟩)) (by simp only [results, Tryz.results26]; go_simp) rfl ?_
  exact ⟨rfl, below_dn _ _⟩
theorem two_below {w w' w'' : World} (h : Below w.heap.size w w') (k : Below w'.heap.size w' w'') : Below w.heap.size w w'' := h.trans (k.mono h.size)
set_option maxHeartbeats 4000000 in
set_option maxRecDepth 100000 in
theorem gscalar_null (w : World) : Calls Tryz.prog 75 #[.int .i64 0, .string ⟨#[]⟩] w fun e w' => e = .returned (.bool true) ∧ Below w.heap.size w w' := by
  go_enter Tryz.func75, Tryz.ntmps75
  go_wp2
  refine bodyPost_ret (v := .bool true) (by simp only [results, Tryz.results75]; go_simp) rfl ?_
  exact ⟨rfl, Below.refl _ _⟩
theorem scalar_world (w w2 : World) (v : Value) (o : Obj) (hx : w2.heap[w.heap.size]? = some (.cells #[.slice none 0 0, .int .i64 0] 36)) (hb : Below w.heap.size w w2) :
    (((w2.setCell ⟨w.heap.size, 0, none⟩ v).setCell ⟨w.heap.size, 1, none⟩ (.int .i64 0)).alloc o).heap[w.heap.size]? = some (.cells #[v, .int .i64 0] 36) ∧ Below w.heap.size w (((w2.setCell ⟨w.heap.size, 0, none⟩ v).setCell ⟨w.heap.size, 1, none⟩ (.int .i64 0)).alloc o) := by
  have hlt : w.heap.size < w2.heap.size := (Array.getElem?_eq_some_iff.1 hx).1
  have hb2 := (hb.setCell (p := ⟨w.heap.size, 0, none⟩) (Nat.le_refl _) v).setCell (p := ⟨w.heap.size, 1, none⟩) (Nat.le_refl _) (.int .i64 0)
  refine ⟨?_, hb2.alloc hb2.size o⟩
  rw [Lib.alloc_old _ _ _ (by simp [World.setCell]; exact hlt)]
  simp [World.setCell, Array.getElem?_modify, hx]
set_option maxHeartbeats 4000000 in
set_option maxRecDepth 100000 in
theorem gScalar_null (w : World) : Calls Tryz.prog 45 #[.int .i64 0, .string ⟨#[]⟩] w fun e w' => (∃ b, e = .returned (.tuple #[.agg #[.slice (some ⟨b, 0, none⟩) 1 1, .int .i64 0], .int .i64 0])) ∧ Below w.heap.size w w' := by
  have HS := PLift.up gscalar_null
  go_enter Tryz.func45, Tryz.ntmps45
  go_wp2_with (go_at_call 75; refine (HS.down _).mono ?_; rintro e w2 ⟨rfl, hb2⟩; (have hx : w2.heap[w.heap.size]? = some (.cells #[.slice none 0 0, .int .i64 0] 36) := by (rw [hb2.block _ (by simp)]; exact heap_alloc_new w _)); (have hz : w.heap.size < w2.heap.size := (Array.getElem?_eq_some_iff.1 hx).1); have HX := PLift.up hx; have HB := PLift.up ((below_new w _).trans (hb2.mono (by simp))); (have f0 : ∀ o, w2.frozen? ⟨w.heap.size, o, none⟩ = false := fun o => Lib.frozen_of_heap hx o); (have c0 : w2.cell? ⟨w.heap.size, 0, none⟩ = some (.slice none 0 0) := (Lib.cell_of_heap hx 0).trans rfl); (have c1 : w2.cell? ⟨w.heap.size, 1, none⟩ = some (.int .i64 0) := (Lib.cell_of_heap hx 1).trans rfl); clear hb2 hx)
  have HW := PLift.up (scalar_world w w2 (.slice (some ⟨w2.heap.size, 0, none⟩) 1 1) (.cells #[.int .i64 0, .string ⟨#[]⟩, .bool false, .slice none 0 0, .slice none 0 0] 33) HX.down HB.down)
  obtain ⟨W, hW⟩ : ∃ W, (((w2.setCell ⟨w.heap.size, 0, none⟩ (.slice (some ⟨w2.heap.size, 0, none⟩) 1 1)).setCell ⟨w.heap.size, 1, none⟩ (.int .i64 0)).alloc (.cells #[.int .i64 0, .string ⟨#[]⟩, .bool false, .slice none 0 0, .slice none 0 0] 33)) = W := ⟨_, rfl⟩
  rw [hW] at HW ⊢
  have c0 : W.cell? ⟨w.heap.size, 0, none⟩ = some (.slice (some ⟨w2.heap.size, 0, none⟩) 1 1) := (Lib.cell_of_heap HW.down.1 0).trans rfl
  have c1 : W.cell? ⟨w.heap.size, 1, none⟩ = some (.int .i64 0) := (Lib.cell_of_heap HW.down.1 1).trans rfl
  refine bodyPost_ret (v := .tuple #[.agg #[.slice (some ⟨w2.heap.size, 0, none⟩) 1 1, .int .i64 0], .int .i64 0]) (by simp only [results, Tryz.results45]; go_simp) rfl ?_
  exact ⟨⟨_, rfl⟩, HW.down.2⟩
set_option maxHeartbeats 4000000 in
set_option maxRecDepth 100000 in
theorem form_ok (w : World) (op : Nat) (hop : op = 1 ∨ op = 2 ∨ op = 3) : Calls Tryz.prog 25 #[evV op] w fun e w' => e = .returned (.bool true) ∧ Below w.heap.size w w' := by
  have HS := PLift.up gScalar_null
  have hx := heap_alloc_new w (.cells #[.int .i64 op, .int .i64 (kindE op), .string ⟨#[]⟩, .bool false] 25)
  have HX := PLift.up hx
  have HB := PLift.up (below_new w (.cells #[.int .i64 op, .int .i64 (kindE op), .string ⟨#[]⟩, .bool false] 25))
  rcases hop with rfl | rfl | rfl
  · have k : kindE 1 = 0 := rfl
    unfold evV
    rw [k] at hx HX HB ⊢
    clear hx
    go_enter Tryz.func25, Tryz.ntmps25
    go_wp2_with (go_at_call 45; refine (HS.down _).mono ?_; rintro e w2 ⟨⟨v, rfl⟩, hb2⟩; (have hx : w2.heap[w.heap.size]? = some (.cells #[.int .i64 1, .int .i64 0, .string ⟨#[]⟩, .bool false] 25) := by (rw [hb2.block _ (by simp)]; exact HX.down)); (have hz : w.heap.size < w2.heap.size := (Array.getElem?_eq_some_iff.1 hx).1); have HB2 := PLift.up (HB.down.trans (hb2.mono (by simp))); (have f0 : ∀ o, w2.frozen? ⟨w.heap.size, o, none⟩ = false := fun o => Lib.frozen_of_heap hx o); (have c3 : w2.cell? ⟨w.heap.size, 3, none⟩ = some (.bool false) := (Lib.cell_of_heap hx 3).trans rfl); clear hb2 hx)
    refine bodyPost_ret (v := .bool true) (by simp only [results, Tryz.results25]; go_simp) rfl ?_
    exact ⟨rfl, HB2.down.alloc HB2.down.size _⟩
  · have k : kindE 2 = 9 := rfl
    unfold evV
    rw [k] at hx HX HB ⊢
    clear hx
    go_enter Tryz.func25, Tryz.ntmps25
    go_wp2
    refine bodyPost_ret (v := .bool true) (by simp only [results, Tryz.results25]; go_simp) rfl ?_
    exact ⟨rfl, HB.down⟩
  · have k : kindE 3 = 9 := rfl
    unfold evV
    rw [k] at hx HX HB ⊢
    clear hx
    go_enter Tryz.func25, Tryz.ntmps25
    go_wp2
    refine bodyPost_ret (v := .bool true) (by simp only [results, Tryz.results25]; go_simp) rfl ?_
    exact ⟨rfl, HB.down⟩
end Go.Proofs.YtneohoclgnfdcaaGreatDoor
/- The builder of events: completed. -/
namespace Go.Proofs.YtneohoclgnfdcaaGreatDoor
open Go.RowKit
open Go.Lib
set_option maxHeartbeats 4000000 in
set_option maxRecDepth 100000 in
theorem completed_none (w : World) (b : Nat) (a : Option Addr) (c : Nat) (dn : Bool) (h2 : w.cell? ⟨b, 2, none⟩ = some (.slice a 0 c)) (h3 : w.cell? ⟨b, 3, none⟩ = some (.bool dn)) (hf : ∀ o, w.frozen? ⟨b, o, none⟩ = false) (hb : b < w.heap.size) :
    Calls Tryz.prog 27 #[.pointer (some ⟨b, 0, none⟩)] w fun e w' => e = .returned (.int .i64 0) ∧ ∃ w1, Below w.heap.size w w1 ∧ w' = w1.setCell ⟨b, 3, none⟩ (.bool true) := by
  have HT := PLift.up (top_none w b a c h2)
  have H3 := PLift.up h3
  have HF := PLift.up hf
  clear h2 h3 hf
  go_enter Tryz.func27, Tryz.ntmps27
  go_wp2_with (go_at_call 26; refine HT.down.mono ?_; rintro e w2 ⟨rfl, hb2⟩; have HB := PLift.up hb2; (have c3 : w2.cell? ⟨b, 3, none⟩ = some (.bool dn) := cell_keep hb2 H3.down); (have f3 : w2.frozen? ⟨b, 3, none⟩ = false := by (unfold World.frozen?; rw [hb2.block b hb]; exact HF.down 3)); clear hb2)
  refine bodyPost_ret (v := .int .i64 0) (by simp only [results, Tryz.results27]; go_simp) rfl ?_
  exact ⟨rfl, _, HB.down, rfl⟩
set_option maxHeartbeats 4000000 in
set_option maxRecDepth 100000 in
theorem completed_some (w : World) (b g o d c nn cap i : Nat) (h0 : w.cell? ⟨b, 0, none⟩ = some (.slice (some ⟨g, 0, none⟩) nn cap)) (h2 : w.cell? ⟨b, 2, none⟩ = some (.slice (some ⟨o, 0, none⟩) (d + 1) c)) (hl : w.cell? ⟨o, d, none⟩ = some (.int .i64 i)) (hk : w.cell? ⟨g, i * 5, none⟩ = some (.int .i64 9)) (hi : i < nn) (hd : d ≤ 100) (hnn : nn ≤ 4096) :
    Calls Tryz.prog 27 #[.pointer (some ⟨b, 0, none⟩)] w fun e w' => e = .returned (.int .i64 0) ∧ Below w.heap.size w w' := by
  have HT := PLift.up (top_some w b g o d c nn cap i h0 h2 hl hi hd hnn)
  have HK := PLift.up hk
  clear h0 h2 hl hk hi hd hnn
  go_enter Tryz.func27, Tryz.ntmps27
  go_wp2_with (go_at_call 26; refine HT.down.mono ?_; rintro e w2 ⟨rfl, hb2⟩; have HB := PLift.up hb2; (have ck : w2.cell? ⟨g, i * 5, none⟩ = some (.int .i64 9) := cell_keep hb2 HK.down); clear hb2)
  go_quiet (fail)
  go_wp2
  refine bodyPost_ret (v := .int .i64 0) (by simp only [results, Tryz.results27]; go_simp) rfl ?_
  exact ⟨rfl, two_below HB.down (below_dn _ _)⟩
end Go.Proofs.YtneohoclgnfdcaaGreatDoor
/- The builder of events: next, where a list ends. -/
namespace Go.Proofs.YtneohoclgnfdcaaGreatDoor
open Go.RowKit
open Go.Lib
theorem own_slice {w : World} {B e size n : Nat} {v : Value} {xs : List Value} (h : w.ownsRow B e size v n xs) (hn : 0 < n) : ∃ g cap, v = .slice (some ⟨g, 0, none⟩) n cap ∧ n ≤ cap := by
  rcases h.2 with ⟨_, q⟩ | ⟨g, cap, cur, q1, _, _, q4, _⟩
  · omega
  · exact ⟨g, cap, q1, q4⟩
theorem bs_top {w : World} {B b D : Nat} {nv : Value} {M : List Hd} {V : Nat → Value} {L : Nat → List Int} {dn : Bool} (h : BS w B b nv nv (V 0) M V V L dn) (hd : (L 0).length = D + 1) (ho : ∀ x ∈ L 0, ∃ (i : Nat) (m : Hd), x = (i : Int) ∧ M[i]? = some m ∧ m.1 = 9) :
    ∃ (g cap o c i : Nat) (m : Hd), nv = .slice (some ⟨g, 0, none⟩) M.length cap ∧ V 0 = .slice (some ⟨o, 0, none⟩) (D + 1) c ∧ M[i]? = some m ∧ m.1 = 9 ∧ i < M.length ∧ D + 1 ≤ c ∧ w.cell? ⟨o, D, none⟩ = some (.int .i64 i) ∧ w.cell? ⟨g, i * 5, none⟩ = some (.int .i64 9) := by
  have hlt : D < (L 0).length := by omega
  obtain ⟨i, m, hx, hm, hk⟩ := ho (L 0)[D] (List.getElem_mem hlt)
  have hi : i < M.length := (List.getElem?_eq_some_iff.1 hm).1
  obtain ⟨g, cap, rfl, _⟩ := own_slice h.nodes (by omega)
  have h0 := h.rows.own 0
  rw [hd] at h0
  obtain ⟨o, c, hv, hc⟩ := own_slice h0 (by omega)
  rw [hv] at h0
  refine ⟨g, cap, o, c, i, m, rfl, hv, hm, hk, hi, hc, ?_, ?_⟩
  · rw [World.ownsRow.cellAt h0 D (by omega)]
    simp [hlt, hx]
  · rw [World.ownsRow.cellAt h.nodes (i * 5) (by omega)]
    have := ncells_at V M 0 i m 0 (by decide) hm
    simp only [Nat.add_zero, Nat.zero_add] at this
    rw [this]
    simp [ncell, hk]
/-- the world of next, behind top -/
theorem box_keep {w w' : World} {cs : Array Value} {t : TypeId} (hb : Below (w.alloc (.cells cs t)).heap.size (w.alloc (.cells cs t)) w') : w'.heap[w.heap.size]? = some (.cells cs t) := by
  rw [hb.block _ (by simp)]; exact heap_alloc_new w _
theorem BW.below {w w' : World} {B b nn d : Nat} {dn : Bool} (h : BW w B b nn d dn) (hb : Below w.heap.size w w') : BW w' B b nn d dn := by
  obtain ⟨nv, M, V, L, h1, h2⟩ := h
  exact ⟨nv, M, V, L, h1.below hb, h2⟩
theorem BW.lt {w : World} {B b nn d : Nat} {dn : Bool} (h : BW w B b nn d dn) : B ≤ b ∧ b < w.heap.size := by
  obtain ⟨nv, M, V, L, h1, h2⟩ := h
  exact ⟨h1.le, (Array.getElem?_eq_some_iff.1 h1.box).1⟩
theorem BW.setDone {w : World} {B b nn d : Nat} {dn : Bool} (h : BW w B b nn d dn) (e : Bool) : BW (w.setCell ⟨b, 3, none⟩ (.bool e)) B b nn d e := by
  obtain ⟨nv, M, V, L, h1, h2⟩ := h
  exact ⟨nv, M, V, L, h1.setDone e, h2⟩
theorem ncells_zero (V : Nat → Value) (v : Value) (M : List Hd) : ncells (upd V 0 v) 0 M = ncells V 0 M := ncells_upd V 0 v M 0 fun i _ _ => by omega
theorem bw_pop {w : World} {B b o c D : Nat} {nv : Value} {M : List Hd} {V : Nat → Value} {L : Nat → List Int} {dn : Bool} (h : BS w B b nv nv (.slice (some ⟨o, 0, none⟩) D c) M V V L dn) (hv : V 0 = .slice (some ⟨o, 0, none⟩) (D + 1) c) (hd : (L 0).length = D + 1)
    (ho : ∀ x ∈ L 0, ∃ (i : Nat) (m : Hd), x = (i : Int) ∧ M[i]? = some m ∧ m.1 = 9) (hs : ∀ i, (L i).length ≤ M.length) (hn : ∀ i, 2 * M.length < i → V i = .slice none 0 0 ∧ L i = []) : BW w B b M.length D dn := by
  have h1 := h.pop hv D (by omega)
  refine ⟨nv, M, upd V 0 (.slice (some ⟨o, 0, none⟩) D c), upd L 0 ((L 0).take D), ⟨h1.le, ?_, ?_, h1.rows⟩, rfl, ?_, ?_, ?_, ?_⟩
  · rw [upd_same]; exact h1.box
  · rw [ncells_zero]; exact h1.nodes
  · rw [upd_same, List.length_take, hd]; omega
  · intro x hx
    rw [upd_same] at hx
    exact ho x (List.mem_of_mem_take hx)
  · intro i
    by_cases hi : i = 0
    · subst hi; rw [upd_same, List.length_take]; have := hs 0; omega
    · rw [upd_other _ _ hi]; exact hs i
  · intro i hi
    have : i ≠ 0 := by omega
    rw [upd_other _ _ this, upd_other _ _ this]
    exact hn i hi
theorem bw_completed (w : World) (B b nn D : Nat) (h : BW w B b nn D false) (hD : D ≤ 100) (hn : nn ≤ 4096) (hB : B ≤ w.heap.size) : Calls Tryz.prog 27 #[.pointer (some ⟨b, 0, none⟩)] w fun e w' => e = .returned (.int .i64 0) ∧ Below B w w' ∧ BW w' B b nn D (decide (D = 0)) := by
  have hlt := h.lt
  have hbw := h
  obtain ⟨nv, M, V, L, h1, rfl, hd, ho, hs⟩ := h
  obtain ⟨c0, c1, c2, c3, cf⟩ := h1.cells
  cases D with
  | zero =>
    have hv : ∃ a c, V 0 = .slice a 0 c := by
      have h0 := h1.rows.own 0
      rw [hd] at h0
      rcases h0.2 with ⟨q, _⟩ | ⟨g, cap, cur, q, _⟩
      · exact ⟨_, _, q⟩
      · exact ⟨_, _, q⟩
    obtain ⟨a, c, hv⟩ := hv
    rw [hv] at c2
    refine (completed_none w b a c false c2 c3 cf hlt.2).mono ?_
    rintro e w' ⟨rfl, w1, hb, rfl⟩
    have h2 := (hbw.below hb).setDone true
    exact ⟨rfl, (hb.mono hB).setCell (p := ⟨b, 3, none⟩) hlt.1 _, h2⟩
  | succ D =>
    obtain ⟨g, cap, o, c, i, m, hnv, hv0, hm, hk9, hi, hc, hcl, hck⟩ := bs_top h1 hd ho
    subst hnv
    rw [hv0] at c2
    refine (completed_some w b g o D c M.length cap i c0 c2 hcl hck hi (by omega) hn).mono ?_
    rintro e w' ⟨rfl, hb⟩
    exact ⟨rfl, hb.mono hB, hbw.below hb⟩
set_option maxHeartbeats 4000000 in
set_option maxRecDepth 100000 in
theorem next_close (w : World) (B b nn D : Nat) (hW : BW w B b nn (D + 1) false) (hD : D ≤ 99) (hM : nn ≤ 4096) (hB : B ≤ w.heap.size) :
    Calls Tryz.prog 9 #[.pointer (some ⟨b, 0, none⟩), evV 3] w fun e w' => e = .returned (.int .i64 0) ∧ Below B w w' ∧ BW w' B b nn D (decide (D = 0)) := by
  have hbl := hW.lt
  obtain ⟨nv, M, V, L, h, rfl, hd, ho, hs, hn⟩ := hW
  obtain ⟨g, cap, o, c, i, m, hnv, hv0, hm, hk9, hi, hc, hcl, hck⟩ := bs_top h hd ho
  obtain ⟨c0, c1, c2, c3, cf⟩ := h.cells
  subst hnv
  rw [hv0] at c2
  have HT := PLift.up fun (w' : World) (hb : Below w.heap.size w w') => top_some w' b g o D c M.length cap i (cell_keep hb c0) (cell_keep hb c2) (cell_keep hb hcl) hi (by omega) hM
  have HP : PLift (∀ w3 : World, ∀ n, Below w.heap.size w w3 → BW ((w3.drewN n).setCell ⟨b, 2, none⟩ (.slice (some ⟨o, 0, none⟩) D c)) B b M.length D false ∧ Below B w ((w3.drewN n).setCell ⟨b, 2, none⟩ (.slice (some ⟨o, 0, none⟩) D c))) := ⟨fun w3 n hb => by
    have hb2 := two_below hb (below_dn w3 n)
    exact ⟨bw_pop ((h.below hb2).setOpen _) hv0 hd ho hs hn, (hb2.mono hB).setCell (p := ⟨b, 2, none⟩) hbl.1 _⟩⟩
  have HC2 := PLift.up c2
  have HC3 := PLift.up c3
  have HCK := PLift.up hck
  have HBX := PLift.up h.box
  have hD2 : ((D + 1 : Nat) : Int) - 1 = (D : Int) := by omega
  have HF := PLift.up form_ok
  have k : kindE 3 = 9 := rfl
  unfold evV
  rw [k]
  clear h hd ho hs hn hcl hck c0 c1 c2 c3 cf hv0
  as_aux_lemma =>
  go_enter Tryz.func9, Tryz.ntmps9
  as_aux_lemma =>
  go_upto_region 4 with (first
    | (go_at_call 25; refine (HF.down _ 3 (by decide)).mono ?_; rintro e w2 ⟨rfl, hb2⟩; have HB2 := PLift.up hb2; clear hb2)
    | (go_at_call 26; refine (HT.down _ (two_below (below_new w _) HB2.down)).mono ?_; rintro e w3 ⟨rfl, hb3⟩; have HB3 := PLift.up (two_below HB2.down hb3); clear hb3))
  have HBW := PLift.up (two_below (below_new w _) HB3.down)
  have HX3 := PLift.up (box_keep HB3.down)
  clear HB2 HB3
  have e0 : w3.cell? ⟨w.heap.size, 0, none⟩ = some (.int .i64 3) := (Lib.cell_of_heap HX3.down 0).trans rfl
  have e1 : w3.cell? ⟨w.heap.size, 1, none⟩ = some (.int .i64 9) := (Lib.cell_of_heap HX3.down 1).trans rfl
  have c2 := cell_keep HBW.down HC2.down
  have c3 := cell_keep HBW.down HC3.down
  have ck := cell_keep HBW.down HCK.down
  have f3 : ∀ o, w3.frozen? ⟨b, o, none⟩ = false := fun o => Lib.frozen_of_heap (show w3.heap[b]? = some (.cells _ _ (0, 0)) by rw [HBW.down.block b hbl.2]; exact HBX.down) o
  as_aux_lemma =>
  go_upto_region 7 with fail
  go_quiet (fail)
  as_aux_lemma =>
  go_upto_region 9 with fail
  as_aux_lemma =>
  go_region
  have HQ := PLift.up (HP.down w3 (nq + 1) HBW.down)
  generalize ((w3.drewN (nq + 1)).setCell ⟨b, 2, none⟩ (.slice (some ⟨o, 0, none⟩) D c)) = W4 at HQ ⊢
  clear e0 e1 c2 c3 ck f3
  have HC := PLift.up (bw_completed W4 B b M.length D HQ.down.1 (by omega) hM (Nat.le_trans hB HQ.down.2.size))
  go_wp2_with (go_at_call 27; refine HC.down.mono ?_; rintro e w5 ⟨rfl, hb5, hw5⟩; have H5 := PLift.up (And.intro hb5 hw5); clear hb5 hw5)
  refine bodyPost_ret (v := .int .i64 0) (by simp only [results, Tryz.results9]; go_simp) rfl ?_
  exact ⟨rfl, HQ.down.2.trans H5.down.1, H5.down.2⟩
end Go.Proofs.YtneohoclgnfdcaaGreatDoor
/- The builder of events: next, where it answers an error. -/
namespace Go.Proofs.YtneohoclgnfdcaaGreatDoor
open Go.RowKit
open Go.Lib
theorem own_any {w : World} {B e size n : Nat} {v : Value} {xs : List Value} (h : w.ownsRow B e size v n xs) : ∃ a c, v = .slice a n c := by
  rcases h.2 with ⟨q, q2⟩ | ⟨g, cap, cur, q1, _⟩
  · subst q2; exact ⟨_, _, q⟩
  · exact ⟨_, _, q1⟩
theorem bw_cells {w : World} {B b nn d : Nat} {dn : Bool} (h : BW w B b nn d dn) : ∃ a c a' c', w.cell? ⟨b, 2, none⟩ = some (.slice a d c) ∧ w.cell? ⟨b, 0, none⟩ = some (.slice a' nn c') ∧ w.cell? ⟨b, 3, none⟩ = some (.bool dn) := by
  obtain ⟨nv, M, V, L, h1, rfl, rfl, _⟩ := h
  obtain ⟨c0, c1, c2, c3, cf⟩ := h1.cells
  obtain ⟨a, c, hv⟩ := own_any (h1.rows.own 0)
  obtain ⟨a', c', hn⟩ := own_any h1.nodes
  subst hn
  rw [hv] at c2
  exact ⟨a, c, a', c', c2, c0, c3⟩
theorem bw_top {w : World} {B b nn d : Nat} {dn : Bool} (h : BW w B b nn d dn) (hd : d ≤ 100) (hn : nn ≤ 4096) : ∃ q : Option Addr, (∀ w', Below w.heap.size w w' → Calls Tryz.prog 26 #[.pointer (some ⟨b, 0, none⟩)] w' fun e w'' => e = .returned (.pointer q) ∧ Below w'.heap.size w' w'') ∧ (d = 0 ∧ q = none ∨ 0 < d ∧ ∃ g i, q = some ⟨g, i * 5, none⟩ ∧ w.cell? ⟨g, i * 5, none⟩ = some (.int .i64 9)) := by
  obtain ⟨nv, M, V, L, h1, rfl, hd1, ho, hs⟩ := h
  obtain ⟨c0, c1, c2, c3, cf⟩ := h1.cells
  cases d with
  | zero =>
    obtain ⟨a, c, hv⟩ := own_any (h1.rows.own 0)
    rw [hd1] at hv
    rw [hv] at c2
    exact ⟨none, fun w' hb => top_none w' b a c (cell_keep hb c2), .inl ⟨rfl, rfl⟩⟩
  | succ D =>
    obtain ⟨g, cap, o, c, i, m, hnv, hv0, hm, hk9, hi, hc, hcl, hck⟩ := bs_top h1 hd1 ho
    subst hnv
    rw [hv0] at c2
    exact ⟨some ⟨g, i * 5, none⟩, fun w' hb => top_some w' b g o D c M.length cap i (cell_keep hb c0) (cell_keep hb c2) (cell_keep hb hcl) hi (by omega) hn, .inr ⟨by omega, g, i, rfl, hck⟩⟩
set_option maxHeartbeats 4000000 in
set_option maxRecDepth 100000 in
/-- the value is complete, or there is nothing to close -/
theorem next_state (w : World) (B b nn d op : Nat) (dn : Bool) (hop : op = 1 ∨ op = 2 ∨ op = 3) (hW : BW w B b nn d dn) (hd : d ≤ 100) (hn : nn ≤ 4096) (hst : dn = true ∨ (d = 0 ∧ op = 3)) :
    Calls Tryz.prog 9 #[.pointer (some ⟨b, 0, none⟩), evV op] w fun e w' => e = .returned (.int .i64 21) ∧ Below w.heap.size w w' := by
  obtain ⟨q, hT, hq⟩ := bw_top hW hd hn
  obtain ⟨a, c, a', c', c2, c0, c3⟩ := bw_cells hW
  have HT := PLift.up hT
  have HC3 := PLift.up c3
  have HF := PLift.up (fun w => form_ok w op hop)
  unfold evV at *
  have HX0 := PLift.up (heap_alloc_new w (.cells #[.int .i64 op, .int .i64 (kindE op), .string ⟨#[]⟩, .bool false] 25))
  clear hT c2 c0 c3 hW hop hd hn
  cases dn with
  | true =>
    clear hq hst
    as_aux_lemma =>
    go_enter Tryz.func9, Tryz.ntmps9
    go_wp2_with (first
      | (go_at_call 25; refine (HF.down _).mono ?_; rintro e w2 ⟨rfl, hb2⟩; have HB2 := PLift.up hb2; clear hb2)
      | (go_at_call 26; refine (HT.down _ (two_below (below_new w _) HB2.down)).mono ?_; rintro e w3 ⟨rfl, hb3⟩; have HBW := PLift.up (two_below (two_below (below_new w _) HB2.down) hb3); clear hb3; have c3 := cell_keep HBW.down HC3.down))
    refine bodyPost_ret (v := .int .i64 21) (by simp only [results, Tryz.results9]; go_simp) rfl ?_
    exact ⟨rfl, HBW.down⟩
  | false =>
    rcases hst with hst | ⟨rfl, rfl⟩
    · cases hst
    obtain rfl : q = none := by
      rcases hq with ⟨_, h⟩ | ⟨h, _⟩
      · exact h
      · omega
    clear hq
    have k : kindE 3 = 9 := rfl
    rw [k] at HX0 HF ⊢
    as_aux_lemma =>
    go_enter Tryz.func9, Tryz.ntmps9
    go_wp2_with (first
      | (go_at_call 25; refine (HF.down _).mono ?_; rintro e w2 ⟨rfl, hb2⟩; have HB2 := PLift.up hb2; clear hb2)
      | (go_at_call 26; refine (HT.down _ (two_below (below_new w _) HB2.down)).mono ?_; rintro e w3 ⟨rfl, hb3⟩; have HBW := PLift.up (two_below (two_below (below_new w _) HB2.down) hb3); (have e0 : w3.cell? ⟨w.heap.size, 0, none⟩ = some (.int .i64 3) := (Lib.cell_of_heap (box_keep (two_below HB2.down hb3)) 0).trans rfl); clear hb3; have c3 := cell_keep HBW.down HC3.down))
    refine bodyPost_ret (v := .int .i64 21) (by simp only [results, Tryz.results9]; go_simp) rfl ?_
    exact ⟨rfl, HBW.down⟩
set_option maxHeartbeats 4000000 in
set_option maxRecDepth 100000 in
/-- too deep, or too many -/
theorem next_limit (w : World) (B b nn d op : Nat) (hop : op = 1 ∨ op = 2) (hW : BW w B b nn d false) (hd : d ≤ 100) (hn : nn ≤ 4096) (r : Int) (hr : (32 < d ∧ r = 5) ∨ (¬ 32 < d ∧ nn = 4096 ∧ r = 7)) :
    Calls Tryz.prog 9 #[.pointer (some ⟨b, 0, none⟩), evV op] w fun e w' => e = .returned (.int .i64 r) ∧ Below w.heap.size w w' := by
  obtain ⟨q, hT, hq⟩ := bw_top hW hd hn
  obtain ⟨a, c, a', c', c2, c0, c3⟩ := bw_cells hW
  have HT := PLift.up hT
  have HC0 := PLift.up c0
  have HC2 := PLift.up c2
  have HC3 := PLift.up c3
  have HF := PLift.up (fun w => form_ok w op (by omega))
  have hop3 : ¬ ((op : Int) = 3) := by omega
  unfold evV at *
  clear hT c2 c0 c3 hW hop hn
  have main : ∀ qk : (q = none ∨ ∃ g i, q = some ⟨g, i * 5, none⟩ ∧ w.cell? ⟨g, i * 5, none⟩ = some (.int .i64 9)), Calls Tryz.prog 9 #[.pointer (some ⟨b, 0, none⟩), .agg #[.int .i64 op, .int .i64 (kindE op), .string ⟨#[]⟩, .bool false]] w fun e w' => e = .returned (.int .i64 r) ∧ Below w.heap.size w w' := by
    intro qk
    rcases qk with rfl | ⟨g, i, rfl, hk⟩
    · clear hq
      rcases hr with ⟨hr, rfl⟩ | ⟨hr, rfl, rfl⟩
      · have hr2 : (32 : Int) < (d : Int) := by omega
        as_aux_lemma =>
        go_enter Tryz.func9, Tryz.ntmps9
        go_wp2_with (first
          | (go_at_call 25; refine (HF.down _).mono ?_; rintro e w2 ⟨rfl, hb2⟩; have HB2 := PLift.up hb2; clear hb2)
          | (go_at_call 26; refine (HT.down _ (two_below (below_new w _) HB2.down)).mono ?_; rintro e w3 ⟨rfl, hb3⟩; have HBW := PLift.up (two_below (two_below (below_new w _) HB2.down) hb3); (have e0 : w3.cell? ⟨w.heap.size, 0, none⟩ = some (.int .i64 op) := (Lib.cell_of_heap (box_keep (two_below HB2.down hb3)) 0).trans rfl); clear hb3; have c3 := cell_keep HBW.down HC3.down; have c2 := cell_keep HBW.down HC2.down))
        refine bodyPost_ret (v := .int .i64 5) (by simp only [results, Tryz.results9]; go_simp) rfl ?_
        exact ⟨rfl, HBW.down⟩
      · have hr2 : ¬ (32 : Int) < (d : Int) := by omega
        as_aux_lemma =>
        go_enter Tryz.func9, Tryz.ntmps9
        go_wp2_with (first
          | (go_at_call 25; refine (HF.down _).mono ?_; rintro e w2 ⟨rfl, hb2⟩; have HB2 := PLift.up hb2; clear hb2)
          | (go_at_call 26; refine (HT.down _ (two_below (below_new w _) HB2.down)).mono ?_; rintro e w3 ⟨rfl, hb3⟩; have HBW := PLift.up (two_below (two_below (below_new w _) HB2.down) hb3); (have e0 : w3.cell? ⟨w.heap.size, 0, none⟩ = some (.int .i64 op) := (Lib.cell_of_heap (box_keep (two_below HB2.down hb3)) 0).trans rfl); clear hb3; have c3 := cell_keep HBW.down HC3.down; have c2 := cell_keep HBW.down HC2.down; have c0 := cell_keep HBW.down HC0.down))
        refine bodyPost_ret (v := .int .i64 7) (by simp only [results, Tryz.results9]; go_simp) rfl ?_
        exact ⟨rfl, HBW.down⟩
    · have HK := PLift.up hk
      clear hq hk
      rcases hr with ⟨hr, rfl⟩ | ⟨hr, rfl, rfl⟩
      · have hr2 : (32 : Int) < (d : Int) := by omega
        as_aux_lemma =>
        go_enter Tryz.func9, Tryz.ntmps9
        go_wp2_with (first
          | (go_at_call 25; refine (HF.down _).mono ?_; rintro e w2 ⟨rfl, hb2⟩; have HB2 := PLift.up hb2; clear hb2)
          | (go_at_call 26; refine (HT.down _ (two_below (below_new w _) HB2.down)).mono ?_; rintro e w3 ⟨rfl, hb3⟩; have HBW := PLift.up (two_below (two_below (below_new w _) HB2.down) hb3); (have e0 : w3.cell? ⟨w.heap.size, 0, none⟩ = some (.int .i64 op) := (Lib.cell_of_heap (box_keep (two_below HB2.down hb3)) 0).trans rfl); clear hb3; have c3 := cell_keep HBW.down HC3.down; have c2 := cell_keep HBW.down HC2.down; have ck := cell_keep HBW.down HK.down))
        refine bodyPost_ret (v := .int .i64 5) (by simp only [results, Tryz.results9]; go_simp) rfl ?_
        exact ⟨rfl, HBW.down⟩
      · have hr2 : ¬ (32 : Int) < (d : Int) := by omega
        as_aux_lemma =>
        go_enter Tryz.func9, Tryz.ntmps9
        go_wp2_with (first
          | (go_at_call 25; refine (HF.down _).mono ?_; rintro e w2 ⟨rfl, hb2⟩; have HB2 := PLift.up hb2; clear hb2)
          | (go_at_call 26; refine (HT.down _ (two_below (below_new w _) HB2.down)).mono ?_; rintro e w3 ⟨rfl, hb3⟩; have HBW := PLift.up (two_below (two_below (below_new w _) HB2.down) hb3); (have e0 : w3.cell? ⟨w.heap.size, 0, none⟩ = some (.int .i64 op) := (Lib.cell_of_heap (box_keep (two_below HB2.down hb3)) 0).trans rfl); clear hb3; have c3 := cell_keep HBW.down HC3.down; have c2 := cell_keep HBW.down HC2.down; have c0 := cell_keep HBW.down HC0.down; have ck := cell_keep HBW.down HK.down))
        refine bodyPost_ret (v := .int .i64 7) (by simp only [results, Tryz.results9]; go_simp) rfl ?_
        exact ⟨rfl, HBW.down⟩
  rcases hq with ⟨_, h⟩ | ⟨_, h⟩
  · exact main (.inl h)
  · exact main (.inr h)
end Go.Proofs.YtneohoclgnfdcaaGreatDoor
/- The builder of events: the worlds of next where it adds a node. -/
namespace Go.Proofs.YtneohoclgnfdcaaGreatDoor
open Go.RowKit
open Go.Lib
/-- the builder, and next's own copy of the event at hs -/
structure NX (w0 w : World) (B b hs : Nat) (es : Array Value) (bn nv vo : Value) (M : List Hd) (U V : Nat → Value) (L : Nat → List Int) (dn : Bool) : Prop where
  bs : BS w B b bn nv vo M U V L dn
  box : w.heap[hs]? = some (.cells es 25 (0, 0))
  bel : Below B w0 w
  B0 : B ≤ w0.heap.size
section
variable {w0 w w' : World} {B b hs : Nat} {es : Array Value} {bn nv vo : Value} {M : List Hd} {U V : Nat → Value} {L : Nat → List Int} {dn : Bool}
theorem NX.Bw (h : NX w0 w B b hs es bn nv vo M U V L dn) : B ≤ w.heap.size := Nat.le_trans h.B0 h.bel.size
theorem NX.below (h : NX w0 w B b hs es bn nv vo M U V L dn) (hb : Below w.heap.size w w') : NX w0 w' B b hs es bn nv vo M U V L dn :=
  ⟨h.bs.below hb, by rw [hb.block hs (Array.getElem?_eq_some_iff.1 h.box).1]; exact h.box, h.bel.trans (hb.mono h.Bw), h.B0⟩
theorem NX.alloc (h : NX w0 w B b hs es bn nv vo M U V L dn) (o : Obj) : NX w0 (w.alloc o) B b hs es bn nv vo M U V L dn := h.below (below_new w o)
theorem NX.drewN (h : NX w0 w B b hs es bn nv vo M U V L dn) (n : Nat) : NX w0 (w.drewN n) B b hs es bn nv vo M U V L dn := h.below (below_dn w n)
theorem NX.item (h : NX w0 w B b hs es bn nv vo M U V L dn) (i : Nat) {v' : Value} {x : Int} (hg : w.grownBy w' (V i).ownBlock) (ho : w'.ownsRow B 3 1 v' ((L i).length + 1) ((L i).map (Value.int .i64) ++ [.int .i64 x]))
    (hp : ∀ k, v'.ownBlock = some k → (V i).ownBlock = some k ∨ w.heap.size ≤ k) : NX w0 w' B b hs es bn nv vo M U (upd V i v') (upd L i (L i ++ [x])) dn := by
  refine ⟨h.bs.item i hg (by rw [List.map_append]; exact ho) hp, ?_, h.bel.grown hg h.Bw fun k hk => ((h.bs.rows.own i).lt k hk).1, h.B0⟩
  rw [hg.block hs (Array.getElem?_eq_some_iff.1 h.box).1 fun e => ?_]
  · exact h.box
  · obtain ⟨cs, hc⟩ := h.bs.rows.typed e.symm
    rw [h.box] at hc; cases hc
theorem NX.node (h : NX w0 w B b hs es bn nv vo M U V L dn) {m : Hd} {nv' : Value} (hg : w.grownBy w' nv.ownBlock) (ho : w'.ownsRow B 33 5 nv' (M.length + 1) (ncells U 0 M ++ ncell U M.length m)) : NX w0 w' B b hs es bn nv' vo (M ++ [m]) U V L dn := by
  refine ⟨h.bs.node hg ho, ?_, h.bel.grown hg h.Bw fun k hk => (h.bs.nodes.lt k hk).1, h.B0⟩
  rw [hg.block hs (Array.getElem?_eq_some_iff.1 h.box).1 fun e => ?_]
  · exact h.box
  · obtain ⟨cs, hc⟩ := own_typed h.bs.nodes e.symm
    rw [h.box] at hc; cases hc
theorem NX.far (h : NX w0 w B b hs es bn nv vo M U V L dn) (c : Nat) (v : Value) : (w.setCell ⟨b, c, none⟩ v).heap[hs]? = some (.cells es 25 (0, 0)) ∧ Below B w0 (w.setCell ⟨b, c, none⟩ v) := by
  refine ⟨?_, h.bel.setCell (p := ⟨b, c, none⟩) h.bs.le v⟩
  have : hs ≠ b := fun e => by
    have := h.box
    rw [e, h.bs.box] at this; cases this
  simp [World.setCell, Array.getElem?_modify, Ne.symm this, h.box]
theorem NX.setNodes (h : NX w0 w B b hs es bn nv vo M U V L dn) (v : Value) : NX w0 (w.setCell ⟨b, 0, none⟩ v) B b hs es v nv vo M U V L dn := ⟨h.bs.setNodes v, (h.far 0 v).1, (h.far 0 v).2, h.B0⟩
theorem NX.setOpen (h : NX w0 w B b hs es bn nv vo M U V L dn) (v : Value) : NX w0 (w.setCell ⟨b, 2, none⟩ v) B b hs es bn nv v M U V L dn := ⟨h.bs.setOpen v, (h.far 2 v).1, (h.far 2 v).2, h.B0⟩
theorem NX.setItem {g cap : Nat} (h : NX w0 w B b hs es bn (.slice (some ⟨g, 0, none⟩) M.length cap) vo M U V L dn) (i : Nat) (hi : i < M.length) (v : Value) : NX w0 (w.setCell ⟨g, i * 5 + 4, none⟩ v) B b hs es bn (.slice (some ⟨g, 0, none⟩) M.length cap) vo M (upd U (2 * i + 2) v) V L dn := by
  refine ⟨h.bs.setItem i hi v, ?_, h.bel.setCell (p := ⟨g, i * 5 + 4, none⟩) (h.bs.nodes.lt g rfl).1 v, h.B0⟩
  have : hs ≠ g := fun e => by
    obtain ⟨cs, hc⟩ := own_typed h.bs.nodes (k := g) rfl
    have := h.box
    rw [e, hc] at this; cases this
  simp [World.setCell, Array.getElem?_modify, Ne.symm this, h.box]
theorem NX.cells (h : NX w0 w B b hs es bn nv vo M U V L dn) : w.cell? ⟨b, 0, none⟩ = some bn ∧ w.cell? ⟨b, 2, none⟩ = some vo ∧ w.cell? ⟨b, 3, none⟩ = some (.bool dn) ∧ (∀ o, w.frozen? ⟨b, o, none⟩ = false) ∧ ∀ o, w.cell? ⟨hs, o, none⟩ = es[o]? :=
  ⟨h.bs.cells.1, h.bs.cells.2.2.1, h.bs.cells.2.2.2.1, h.bs.cells.2.2.2.2, fun o => Lib.cell_of_heap h.box o⟩
theorem NX.itemCell {g cap : Nat} (h : NX w0 w B b hs es bn (.slice (some ⟨g, 0, none⟩) M.length cap) vo M U V L dn) (i : Nat) (hi : i < M.length) : w.cell? ⟨g, i * 5 + 4, none⟩ = some (U (2 * i + 2)) ∧ ∀ o, w.frozen? ⟨g, o, none⟩ = false := by
  refine ⟨?_, fun o => World.ownsRow.frozenAt h.bs.nodes o⟩
  rw [World.ownsRow.cellAt h.bs.nodes (i * 5 + 4) (by omega)]
  rw [ncells_at U M 0 i M[i] 4 (by decide) (List.getElem?_eq_getElem hi), Nat.zero_add]
  rfl
end
theorem info_int1 : (Tryz.prog.info? 3).map (fun i => (i.zero, i.size, i.bytes)) = some (some (.int .i64 0), 1, 8) := by kernel_rfl
theorem info_node1 : (Tryz.prog.info? 33).map (fun i => (i.zero, i.size, i.bytes)) = some (some (.agg #[.int .i64 0, .string ⟨#[]⟩, .bool false, .slice none 0 0, .slice none 0 0]), 5, 80) := by kernel_rfl
theorem node_cells1 : (Value.agg #[.int .i64 0, .string ⟨#[]⟩, .bool false, .slice none 0 0, .slice none 0 0]).cells.size = 5 := by kernel_rfl
theorem below_dr (w : World) : Below w.heap.size w w.drew := ⟨rfl, rfl, rfl, Nat.le_refl _, fun _ _ => rfl⟩
/-- 'append(g.Nodes, node)' as it runs behind draws -/
theorem node_run {w0 w : World} {B b hs : Nat} {es : Array Value} {bn nv vo : Value} {M : List Hd} {U V : Nat → Value} {L : Nat → List Int} {dn : Bool} (h : NX w0 w B b hs es bn nv vo M U V L dn) (hM : M.length ≤ 4096) (q : Nat) (k : Int) (hU : U (2 * M.length + 1) = .slice none 0 0 ∧ U (2 * M.length + 2) = .slice none 0 0) :
    ∃ g c w', (Builtin.append_ #[34, 34] 34 #[nv, .slice (some ⟨w.heap.size, 0, none⟩) 1 1]).run Tryz.prog ((w.alloc (.cells #[.int .i64 k, .string ⟨#[]⟩, .bool false, .slice none 0 0, .slice none 0 0] 33)).drewN q) = .ok (.slice (some ⟨g, 0, none⟩) (M.length + 1) c) w' ∧ NX w0 w' B b hs es bn (.slice (some ⟨g, 0, none⟩) (M.length + 1) c) vo (M ++ [(k, ⟨#[]⟩, false)]) U V L dn := by
  obtain ⟨i0, hi, hz0, hz1, hz2⟩ := info_parts info_node1
  have h2 := (h.alloc (.cells #[.int .i64 k, .string ⟨#[]⟩, .bool false, .slice none 0 0, .slice none 0 0] 33)).below (below_dn _ q)
  have hx : ((w.alloc (.cells #[.int .i64 k, .string ⟨#[]⟩, .bool false, .slice none 0 0, .slice none 0 0] 33)).drewN q).heap[w.heap.size]? = some (.cells #[.int .i64 k, .string ⟨#[]⟩, .bool false, .slice none 0 0, .slice none 0 0] 33) := heap_alloc_new w _
  obtain ⟨v', w', hr, q2, q3, -⟩ := run_append_own (P := Tryz.prog) ((w.alloc (.cells #[.int .i64 k, .string ⟨#[]⟩, .bool false, .slice none 0 0, .slice none 0 0] 33)).drewN q) B 34 34 33 i0 (.agg #[.int .i64 0, .string ⟨#[]⟩, .bool false, .slice none 0 0, .slice none 0 0]) 5 80 Tryz.underlying34 hi hz0 hz1 hz2 node_cells1 (by decide) nv M.length (ncells U 0 M) h2.bs.nodes ⟨w.heap.size, 0, none⟩ 1 1 [.int .i64 k, .string ⟨#[]⟩, .bool false, .slice none 0 0, .slice none 0 0] rfl (by
    intro j u hj
    have e1 : (⟨w.heap.size, 0, none⟩ : Addr).add j = ⟨w.heap.size, j, none⟩ := by unfold Addr.add; split <;> simp_all
    rw [e1, Lib.cell_of_heap hx, ← hj]; simp) (by simp [Value.oneCell']) (by unfold maxLen; omega) (by omega) h2.Bw
  obtain ⟨g, c, rfl, _⟩ := own_slice q2 (by omega)
  refine ⟨g, c, w', hr, h2.node q3 ?_⟩
  have : ncell U M.length (k, ⟨#[]⟩, false) = [.int .i64 k, .string ⟨#[]⟩, .bool false, .slice none 0 0, .slice none 0 0] := by
    unfold ncell; rw [hU.1, hU.2]
  rw [this]; exact q2
/-- behind an append to the items of a node, and the store of what it has handed back -/
structure N6 (w W : World) (B b hs : Nat) (es : Array Value) (g cap i : Nat) (vo : Value) (M : List Hd) (V : Nat → Value) (L : Nat → List Int) : Prop where
  nx : NX w W B b hs es (.slice (some ⟨g, 0, none⟩) M.length cap) (.slice (some ⟨g, 0, none⟩) M.length cap) vo M V V L false
  zero : V 0 = vo
  rest : ∀ j, 2 * M.length < j → V j = .slice none 0 0 ∧ L j = []
  small : ∀ j, (L j).length ≤ M.length + 1
theorem n6_of {w W : World} {B b hs : Nat} {es : Array Value} {g cap i : Nat} {vo : Value} {M : List Hd} {V : Nat → Value} {L : Nat → List Int} {v' : Value} {l' : List Int} (h : NX w W B b hs es (.slice (some ⟨g, 0, none⟩) M.length cap) (.slice (some ⟨g, 0, none⟩) M.length cap) vo M V (upd V (2 * i + 2) v') (upd L (2 * i + 2) l') false) (hi : i < M.length) (hv : V 0 = vo) (hn : ∀ j, 2 * M.length < j → V j = .slice none 0 0 ∧ L j = []) (hs0 : ∀ j, (L j).length ≤ M.length) (hl : l'.length ≤ M.length + 1) :
    N6 w (W.setCell ⟨g, i * 5 + 4, none⟩ v') B b hs es g cap i vo M (upd V (2 * i + 2) v') (upd L (2 * i + 2) l') ∧ upd L (2 * i + 2) l' 0 = L 0 := by
  refine ⟨⟨h.setItem i hi v', by rw [upd_other _ _ (by omega)]; exact hv, fun j hj => ?_, fun j => ?_⟩, upd_other _ _ (by omega)⟩
  · rw [upd_other _ _ (by omega), upd_other _ _ (by omega)]; exact hn j hj
  · by_cases hj : j = 2 * i + 2
    · subst hj; rw [upd_same]; exact hl
    · rw [upd_other _ _ hj]; have := hs0 j; omega
end Go.Proofs.YtneohoclgnfdcaaGreatDoor
/- A region that draws its order, whose operations yield each ONE value in every world of a class, but for a tail; what the last operation of all leaves need be of no class: the order of the text serves every order. -/
namespace Go.Mxl
section
variable {P : Program} {ops : Array Oper} {md : Region.Mode} {Q : Exit → Act → World → Prop} {T : World → World → Prop} {D : World → Prop} {k : Nat}

/-- One value, in every world of the class D; a call leaves a world that T reaches. -/
def One (P : Program) (ops : Array Oper) (T : World → World → Prop) (D : World → Prop) (o : Oper) (v : Value) (a : Act) : Prop :=
  (Region.wanted o (yielded ops a.tmps) = true ∧ ∀ w, D w → o.quietAt P a (T w) w v) ∨ (Region.wanted o (yielded ops a.tmps) = false ∧ v = undef)
theorem One.of_same {o : Oper} {v : Value} {a a' : Act} (hy : One P ops T D o v a) (he : execOp a'.eval o = execOp a.eval o)
    (hw : Region.wanted o (yielded ops a'.tmps) = Region.wanted o (yielded ops a.tmps)) : One P ops T D o v a' := by
  unfold One Oper.quietAt at *
  rw [he, hw]
  exact hy

/-- What an operation may leave behind: a value and a world, by R. -/
def uponU (P : Program) (R : Value → World → Prop) : Result Next → Prop
  | .ok (.value u) w' => R u w'
  | .ok .skip w' => R undef w'
  | .ok (.enter f args) w' => Calls P f args w' (fun e w'' => ∃ v, e = .returned v ∧ R v w'')
  | _ => False
/-- Operation i from every world of the class C; behind it the class R v. -/
def opU (P : Program) (ops : Array Oper) (T : World → World → Prop) (D : World → Prop) (k : Nat) (i : Nat) (K : Act → (World → Prop) → Prop) (a : Act) (C : World → Prop) : Prop :=
  match ops[i]? with
  | none => K a C
  | some o => if Region.wanted o (yielded ops a.tmps) then
      ∃ R : Value → World → Prop, (∀ v w w', R v w → T w w' → R v w') ∧ (i ≠ k → ∀ v w, R v w → D w) ∧ (∀ w, C w → uponU P R ((execOp a.eval o).run P w)) ∧ ∀ v w, R v w → K (a.put o.dst v) (R v)
    else K (a.put o.dst undef) C
def wpU (P : Program) (md : Region.Mode) (ops : Array Oper) (Q : Exit → Act → World → Prop) (T : World → World → Prop) (D : World → Prop) (k : Nat) : Nat → Array Bool → Act → (World → Prop) → Prop
  | 0, listed, a, C => Region.ready md ops listed = [] ∧ ∀ w, C w → Q .normal a w
  | fuel + 1, listed, a, C =>
    (Region.ready md ops listed = [] → ∀ w, C w → Q .normal a w) ∧
    ∀ i ∈ Region.ready md ops listed, opU P ops T D k i (fun a' C' => wpU P md ops Q T D k fuel (listed.setIfInBounds i true) a' C') a C

theorem wpOp_of_opU {i : Nat} {a : Act} {K : Act → (World → Prop) → Prop} {K' : Act → World → Prop} {C : World → Prop} {w : World} (hC : C w)
    (h : ∀ a' C' w', C' w' → K a' C' → K' a' w') (hh : opU P ops T D k i K a C) : wpOp P ops Q i K' a w := by
  unfold opU at hh
  unfold wpOp
  split
  · rename_i ho; simp only [ho] at hh; exact h _ _ _ hC hh
  · rename_i o ho
    simp only [ho] at hh
    split
    · rename_i hw
      simp only [hw, if_true] at hh
      obtain ⟨R, -, -, h1, h2⟩ := hh
      refine .inl ?_
      have h3 := h1 w hC
      unfold Oper.wp
      generalize (execOp a.eval o).run P w = r at *
      cases r with
      | ok n w' =>
        cases n <;> simp only [uponU] at h3 <;> simp only [Oper.upon]
        case value u => exact h _ _ _ h3 (h2 _ _ h3)
        case skip => exact h _ _ _ h3 (h2 _ _ h3)
        case enter f args =>
          exact h3.mono fun e w'' ⟨v, he, hr⟩ => by subst he; exact h _ _ _ hr (h2 _ _ hr)
      | halt x w' => simp only [uponU] at h3
    · rename_i hw; simp only [hw] at hh; exact h _ _ _ hC hh
theorem wpAny_of_U : ∀ (fuel : Nat) (listed : Array Bool) (a : Act) (C : World → Prop) (w : World), C w → wpU P md ops Q T D k fuel listed a C → wpAny P md ops Q fuel listed a w
  | 0, _, _, _, _, hw, h => ⟨h.1, h.2 _ hw⟩
  | fuel + 1, _, _, _, _, hw, h => ⟨fun h0 => h.1 h0 _ hw, fun i hi => wpOp_of_opU hw (fun a' C' w' hw' hk => wpAny_of_U fuel _ a' C' w' hw' hk) (h.2 i hi)⟩

theorem opU_mono {i : Nat} (hik : i ≠ k) {a : Act} {C : World → Prop} {K K' : Act → (World → Prop) → Prop} (hC : (∀ w w', C w → T w w' → C w') ∧ (∀ w, C w → D w))
    (h : ∀ a' C', (∀ w w', C' w → T w w' → C' w') → (∀ w, C' w → D w) → K a' C' → K' a' C') (hh : opU P ops T D k i K a C) : opU P ops T D k i K' a C := by
  unfold opU at *
  split
  · rename_i ho; simp only [ho] at hh; exact h _ _ hC.1 hC.2 hh
  · rename_i o ho
    simp only [ho] at hh
    split
    · rename_i hw
      simp only [hw, if_true] at hh
      obtain ⟨R, r1, r2, r3, r4⟩ := hh
      exact ⟨R, r1, r2, r3, fun v w hv => h _ _ (r1 v) (r2 hik v) (r4 v w hv)⟩
    · rename_i hw; simp only [hw] at hh; exact h _ _ hC.1 hC.2 hh

/-- An operation of one value comes up. -/
theorem One.opU {i : Nat} {o : Oper} {v : Value} {a : Act} {C : World → Prop} (hi : ops[i]? = some o) (hC1 : ∀ w w', C w → T w w' → C w') (hC2 : ∀ w, C w → D w)
    (hy : One P ops T D o v a) {K : Act → (World → Prop) → Prop} (h : K (a.put o.dst v) C) : Mxl.opU P ops T D k i K a C := by
  unfold Mxl.opU
  simp only [hi]
  rcases hy with ⟨hw, hv⟩ | ⟨hw, rfl⟩
  · simp only [hw, if_true]
    refine ⟨fun u w => u = v ∧ C w, fun _ _ _ hr ht => ⟨hr.1, hC1 _ _ hr.2 ht⟩, fun _ _ _ hr => hC2 _ hr.2, fun w hw => ?_, fun u w hr => ?_⟩
    · have h3 := hv w (hC2 w hw)
      unfold Oper.quietAt at h3
      generalize (execOp a.eval o).run P w = r at *
      cases r with
      | ok n w' =>
        cases n <;> simp only [Oper.quietUpon] at h3 <;> simp only [uponU]
        case value u => exact ⟨h3.2, h3.1 ▸ hw⟩
        case skip => exact ⟨h3.2.symm, h3.1 ▸ hw⟩
        case enter f args =>
          obtain ⟨e1, hc⟩ := h3
          rw [e1]
          exact hc.mono fun e w'' ⟨he, ht⟩ => ⟨v, he, rfl, hC1 _ _ hw ht⟩
      | halt x w' => simp only [Oper.quietUpon] at h3
    · obtain ⟨rfl, hr⟩ := hr
      have : (fun w => u = u ∧ C w) = C := by funext w; simp
      show K (a.put o.dst u) (fun w => u = u ∧ C w)
      rw [this]
      exact h
  · simp only [hw, Bool.false_eq_true, if_false]; exact h

theorem opU_put {j : Nat} {oi oj : Oper} {v : Value} {C : World → Prop} (hj : ops[j]? = some oj) (hap : oi.apart ops oj = true)
    (hsi : ∀ cs b, oi.op ≠ .select cs b) (hsj : ∀ cs b, oj.op ≠ .select cs b) {K : Act → (World → Prop) → Prop} {a : Act}
    (hy : One P ops T D oi v a) (h : opU P ops T D k j K (a.put oi.dst v) C) :
    opU P ops T D k j (fun a' C' => One P ops T D oi v a' ∧ K (a'.put oi.dst v) C') a C := by
  obtain ⟨h1, h2, h3⟩ := Oper.apart_spec hap
  have keep : ∀ (a : Act), One P ops T D oi v a → ∀ u, One P ops T D oi v (a.put oj.dst u) := fun a hy u =>
    hy.of_same (execOp_put oi hsi a oj.dst u h3) (wanted_put oi a oj.dst u h3)
  unfold opU at *
  simp only [hj] at *
  rw [wanted_put oj a oi.dst v h1] at h
  split
  · rename_i hw
    simp only [hw, if_true] at h
    obtain ⟨R, r1, r2, r3, r4⟩ := h
    refine ⟨R, r1, r2, fun w hw' => ?_, fun u w hr => ⟨keep a hy u, by rw [← Act.put_comm a v u h2]; exact r4 u w hr⟩⟩
    have := r3 w hw'
    rwa [execOp_put oj hsj a oi.dst v h1] at this
  · rename_i hw
    simp only [hw] at h
    exact ⟨keep a hy _, by rw [← Act.put_comm a v undef h2]; exact h⟩

/-- operation k comes up where all others are listed -/
def LastOp (md : Region.Mode) (ops : Array Oper) (k n : Nat) : Prop := ∀ listed, k ∈ Region.ready md ops listed → ∀ i, i < n → i ∈ Region.ready md ops listed → i = k
theorem wpU_first {n0 : Nat} (hk : LastOp md ops k n0) {i : Nat} (hin : i < n0) {oi : Oper} {v : Value} (hi : ops[i]? = some oi) (hsel : ∀ (j : Nat) (o : Oper) cs b, ops[j]? = some o → o.op ≠ .select cs b) :
    ∀ (fuel : Nat) (listed : Array Bool) (a : Act) (C : World → Prop), (∀ w w', C w → T w w' → C w') → (∀ w, C w → D w) →
      (∀ j oj, ops[j]? = some oj → j ≠ i → listed.getD j true = false → (∀ e ∈ oj.after, Region.binds md e = true → e.on ≠ i) → oi.apart ops oj = true) →
      i ∈ Region.ready md ops listed → One P ops T D oi v a →
      wpU P md ops Q T D k fuel (listed.setIfInBounds i true) (a.put oi.dst v) C → wpU P md ops Q T D k (fuel + 1) listed a C := by
  intro fuel
  induction fuel with
  | zero =>
    intro listed a C hC1 hC2 _ hr hy H
    refine ⟨fun h => (by rw [h] at hr; cases hr), fun j hj => ?_⟩
    by_cases hji : j = i
    · subst hji; exact hy.opU hi hC1 hC2 H
    · have := ready_mono hj hji
      rw [H.1] at this
      cases this
  | succ fuel ih =>
    intro listed a C hC1 hC2 hfree hr hy H
    refine ⟨fun h => (by rw [h] at hr; cases hr), fun j hj => ?_⟩
    by_cases hji : j = i
    · subst hji; exact hy.opU hi hC1 hC2 H
    · have h1 := H.2 j (ready_mono hj hji)
      obtain ⟨hjun, oj, hoj, hall⟩ := mem_ready.1 hj
      have hnot : ∀ e ∈ oj.after, Region.binds md e = true → e.on ≠ i := fun e he hb heq => by
        have h1 := hall e he hb
        have h0 := (mem_ready.1 hr).1
        rw [heq] at h1
        rcases Nat.lt_or_ge i listed.size with h' | h'
        · simp [h'] at h0 h1; rw [h0] at h1; cases h1
        · simp [Array.getElem?_eq_none h'] at h1
      have h2 := opU_put hoj (hfree j oj hoj hji hjun hnot) (fun cs b => hsel i oi cs b hi) (fun cs b => hsel j oj cs b hoj) hy h1
      have hfree' : ∀ k ok, ops[k]? = some ok → k ≠ i → (listed.setIfInBounds j true).getD k true = false →
          (∀ e ∈ ok.after, Region.binds md e = true → e.on ≠ i) → oi.apart ops ok = true := fun k ok hk hki hun hno => by
        refine hfree k ok hk hki ?_ hno
        by_cases hjk : j = k
        · subst hjk; exact hjun
        · rw [getD_set_ne true hjk] at hun; exact hun
      refine opU_mono (fun e => hji (by subst e; exact (hk listed hj i hin hr).symm)) ⟨hC1, hC2⟩ (fun a' C' c1 c2 h3 => ih (listed.setIfInBounds j true) a' C' c1 c2 hfree' (ready_mono hr (Ne.symm hji)) h3.1 ?_) h2
      rw [Array.setIfInBounds_comm _ _ hji]
      exact h3.2

/-- The first n operations, in the order of the text, may each be taken first; what is listed behind them. -/
def lexTo (md : Region.Mode) (ops : Array Oper) : Nat → Nat → Array Bool → Option (Array Bool)
  | 0, _, listed => some listed
  | n + 1, k, listed => if (Region.ready md ops listed).contains k && Region.free md ops listed k then lexTo md ops n (k + 1) (listed.setIfInBounds k true) else none
/-- No two of the operations write one slot; every slot is in the frame. -/
def dstsB (n : Nat) : List Oper → List Tmp → Bool
  | [], _ => true
  | o :: r, seen => match o.dst with
    | none => false
    | some d => decide (d < n) && !seen.contains d && dstsB n r (d :: seen)

/-- The lexical walk, from every world of the class, to ONE frame. -/
def WalkTo (P : Program) (ops : Array Oper) (T : World → World → Prop) (D : World → Prop) (aF : Act) (l : List Oper) (a : Act) : Prop :=
  ∀ ρ, D ρ → wpQuiet P ops (T ρ) (fun a' => a' = aF) l a

theorem put_size (a : Act) (d : Option Tmp) (v : Value) : (a.put d v).tmps.size = a.tmps.size := by cases d <;> simp [Act.put]
theorem put_get_ne (a : Act) (d : Option Tmp) (v : Value) (t : Tmp) (h : d ≠ some t) : (a.put d v).tmps[t]? = a.tmps[t]? := by
  cases d with
  | none => rfl
  | some e =>
    have hne : e ≠ t := fun he => h (by rw [he])
    simp [Act.put, Array.getElem?_setIfInBounds_ne hne]
theorem put_get_self (a : Act) (t : Tmp) (v : Value) (h : t < a.tmps.size) : (a.put (some t) v).tmps[t]? = some v := by
  simp [Act.put, h]
/-- Slots that the rest of the walk does not write stand at the end as they stand now. -/
theorem keeps {C : World → Prop} {aF : Act} (t : Tmp) : ∀ (l : List Oper) (a : Act), (∀ o ∈ l, o.dst ≠ some t) → wpQuiet P ops C (fun a' => a' = aF) l a → aF.tmps[t]? = a.tmps[t]?
  | [], a, _, h => by rw [show a = aF from h]
  | o :: l, a, hl, h => by
    unfold wpQuiet at h
    have hne : o.dst ≠ some t := hl o (by simp)
    split at h
    · obtain ⟨v, _, h2⟩ := h
      rw [keeps t l _ (fun o' ho' => hl o' (by simp [ho'])) h2, put_get_ne _ _ _ _ hne]
    · rw [keeps t l _ (fun o' ho' => hl o' (by simp [ho'])) h, put_get_ne _ _ _ _ hne]
theorem dstsB_mem : ∀ (l : List Oper) (n : Nat) (seen : List Tmp), dstsB n l seen = true → ∀ d ∈ seen, ∀ o ∈ l, o.dst ≠ some d
  | [], _, _, _, _, _, _, ho => by cases ho
  | o :: r, n, seen, h, d, hd, o', ho' => by
    unfold dstsB at h
    cases hdst : o.dst with
    | none => simp [hdst] at h
    | some e =>
      simp only [hdst, Bool.and_eq_true, decide_eq_true_eq, Bool.not_eq_true'] at h
      obtain ⟨⟨h1, h2⟩, h3⟩ := h
      rcases List.mem_cons.1 ho' with rfl | ho'
      · rw [hdst]
        intro he
        have : e = d := by simpa using he
        subst this
        simp [hd] at h2
      · exact dstsB_mem r n (e :: seen) h3 d (List.mem_cons_of_mem _ hd) o' ho'

/-- The value that the first operation yields is read off the frame at the end. -/
theorem step_of_walk (hT : ∀ w, T w w) {aF a : Act} {o : Oper} {l : List Oper} {seen : List Tmp} (hd : dstsB a.tmps.size (o :: l) seen = true) (h : WalkTo P ops T D aF (o :: l) a) :
    ∃ v seen', One P ops T D o v a ∧ dstsB a.tmps.size l seen' = true ∧ WalkTo P ops T D aF l (a.put o.dst v) := by
  have hd0 := hd
  unfold dstsB at hd
  cases hdst : o.dst with
  | none => simp [hdst] at hd
  | some d =>
    simp only [hdst, Bool.and_eq_true, decide_eq_true_eq, Bool.not_eq_true'] at hd
    obtain ⟨⟨h1, _⟩, h3⟩ := hd
    have hnot := dstsB_mem l _ _ h3 d (by simp)
    by_cases hw : Region.wanted o (yielded ops a.tmps) = true
    · have key : ∀ ρ, D ρ → (∀ w, T ρ w → o.quietAt P a (T ρ) w (aF.tmps.getD d undef)) ∧ wpQuiet P ops (T ρ) (fun a' => a' = aF) l (a.put (some d) (aF.tmps.getD d undef)) := by
        intro ρ hρ
        have := h ρ hρ
        unfold wpQuiet at this
        simp only [hw, if_true] at this
        obtain ⟨v, h4, h5⟩ := this
        rw [hdst] at h5
        have e1 := keeps d l _ hnot h5
        rw [put_get_self _ _ _ h1] at e1
        have e2 : aF.tmps.getD d undef = v := by simp [e1]
        rw [e2]
        exact ⟨h4, h5⟩
      exact ⟨_, _, .inl ⟨hw, fun w hD => (key w hD).1 w (hT w)⟩, h3, fun ρ hρ => (key ρ hρ).2⟩
    · refine ⟨undef, _, .inr ⟨by simpa using hw, rfl⟩, h3, fun ρ hρ => ?_⟩
      have := h ρ hρ
      unfold wpQuiet at this
      simp only [hw] at this
      rw [← hdst]
      exact this

theorem wpU_lex {n0 : Nat} (hk : LastOp md ops k n0) (hs : Region.noSelect ops = true) (hT : ∀ w, T w w) {C : World → Prop} (hC1 : ∀ w w', C w → T w w' → C w') (hC2 : ∀ w, C w → D w) (hne : ∃ ρ, D ρ) {aF : Act} {f : Nat} {listed' : Array Bool} :
    ∀ (l : List Oper) (q : Nat) (listed : Array Bool) (a : Act) (seen : List Tmp), q + l.length ≤ n0 → (∀ j, j < l.length → l[j]? = ops[q + j]?) →
    lexTo md ops l.length q listed = some listed' → dstsB a.tmps.size l seen = true → WalkTo P ops T D aF l a → wpU P md ops Q T D k f listed' aF C → wpU P md ops Q T D k (l.length + f) listed a C
  | [], _, listed, a, _, _, _, hB, _, h, hK => by
    obtain ⟨ρ, hρ⟩ := hne
    have e : a = aF := h ρ hρ
    have e2 : listed = listed' := by simpa [lexTo] using hB
    subst e e2
    simpa using hK
  | o :: l, q, listed, a, seen, hq, hl, hB, hd, h, hK => by
    have h0 : ops[q]? = some o := by simpa using (hl 0 (by simp)).symm
    simp only [List.length_cons, lexTo] at hB
    split at hB
    case isFalse => cases hB
    rename_i hc
    simp only [Bool.and_eq_true] at hc
    obtain ⟨v, seen', h1, h2, h3⟩ := step_of_walk hT hd h
    have := wpU_lex hk hs hT hC1 hC2 hne l (q + 1) _ (a.put o.dst v) seen' (by simp at hq; omega) (fun j hj => by have := hl (j + 1) (by simp; omega); simpa [Nat.add_assoc, Nat.add_comm 1 j] using this) hB (by rw [put_size]; exact h2) h3 hK
    rw [List.length_cons, Nat.add_right_comm]
    exact wpU_first hk (by simp at hq; omega) h0 (Region.noSelect_spec hs) (l.length + f) listed a C hC1 hC2 (Region.free_spec h0 hc.2) (by simpa using hc.1) h1 this

/-- THE REGION: a prefix of operations of one value each, and a tail. -/
theorem wp_region_mix {id : Nat} {a : Act} {w : World} {l : List Oper} (k n : Nat) (hk : LastOp .any l.toArray k n) (C D : World → Prop) (T : World → World → Prop) {aF : Act} (hm : P.follows .mixedOrders = true)
    (hn : n ≤ l.length) (hs : Region.noSelect l.toArray = true) (hB : lexTo .any l.toArray n 0 (Array.replicate l.length false) = some (List.replicate n true ++ List.replicate (l.length - n) false).toArray) (hd : dstsB a.tmps.size (l.take n) [] = true)
    (hT : ∀ w, T w w) (hC1 : ∀ w w', C w → T w w' → C w') (hC2 : ∀ w, C w → D w) (h0 : C { w with drawn := w.drawn + 1 }) (hA : WalkTo P l.toArray T D aF (l.take n) a)
    (hN : wpU P .any l.toArray Q T D k (l.length - n) (List.replicate n true ++ List.replicate (l.length - n) false).toArray aF C) : (Code.region id l.toArray true).wp P Q a w := by
  refine wp_region_any hm (wpAny_of_U (k := k) (T := T) (D := D) _ _ _ C _ h0 ?_)
  have hlen : (l.take n).length = n := by simp [hn]
  have := wpU_lex (P := P) (md := .any) (Q := Q) hk hs hT hC1 hC2 ⟨_, hC2 _ h0⟩ (l.take n) 0 (Array.replicate l.length false) a [] (by rw [hlen]; omega) (fun j hj => by rw [hlen] at hj; simp [hj]) (by rw [hlen]; exact hB) hd hA hN
  rw [hlen] at this
  simpa [show n + (l.length - n) = l.length from by omega] using this

/-- One operation of the tail, where it alone may come up. -/
theorem wpU_one {fuel : Nat} {listed : Array Bool} {a : Act} {C : World → Prop} {i : Nat} {o : Oper} (hr : Region.ready md ops listed = [i]) (ho : ops[i]? = some o) (hw : Region.wanted o (yielded ops a.tmps) = true)
    (R : Value → World → Prop) (hR : ∀ v w w', R v w → T w w' → R v w') (hD : i ≠ k → ∀ v w, R v w → D w) (hrun : ∀ w, C w → uponU P R ((execOp a.eval o).run P w))
    (hK : ∀ v w, R v w → wpU P md ops Q T D k fuel (listed.setIfInBounds i true) (a.put o.dst v) (R v)) : wpU P md ops Q T D k (fuel + 1) listed a C := by
  refine ⟨(fun h => by rw [hr] at h; cases h), fun j hj => ?_⟩
  rw [hr] at hj
  obtain rfl : j = i := by simpa using hj
  unfold opU
  simp only [ho, hw, if_true]
  exact ⟨R, hR, hD, hrun, hK⟩
theorem wpU_end {listed : Array Bool} {a : Act} {C : World → Prop} (hr : Region.ready md ops listed = []) (h : ∀ w, C w → Q .normal a w) : wpU P md ops Q T D k 0 listed a C := ⟨hr, h⟩
def lastB (ops : Array Oper) (k n : Nat) : Bool := (List.range n).all fun j => j == k || (match ops[k]? with
  | some o => o.after.any fun e => Region.binds .any e && e.on == j
  | none => false)
theorem lastOp_of {ops : Array Oper} {k n : Nat} (h : lastB ops k n = true) : LastOp .any ops k n := by
  intro listed hk i hin hi
  obtain ⟨-, o, ho, hall⟩ := mem_ready.1 hk
  obtain ⟨hun, oi, hoi, -⟩ := mem_ready.1 hi
  have h1 := List.all_eq_true.1 h i (List.mem_range.2 hin)
  simp only [ho, Bool.or_eq_true, beq_iff_eq, Array.any_eq_true', Bool.and_eq_true] at h1
  rcases h1 with h1 | ⟨e, he, hb, rfl⟩
  · exact h1
  · have h2 := hall e he hb
    rcases Nat.lt_or_ge e.on listed.size with h' | h'
    · simp [h'] at hun h2; rw [hun] at h2; cases h2
    · simp [Array.getElem?_eq_none h'] at h2
end
end Go.Mxl
/- The builder of events: the region of next that appends a node. -/
namespace Go.Proofs.YtneohoclgnfdcaaGreatDoor
open Go.RowKit
open Go.Lib
theorem wp_region_node {Q : Exit → Act → World → Prop} {id : Nat} {a : Act} {w0 w : World} {l : List Oper} {B b hs : Nat} {es : Array Value} {nv vo : Value} {M : List Hd} {V : Nat → Value} {L : Nat → List Int} (n : Nat) (ob oa p1 p2 p3 os : Oper) {aF : Act} (kd : Int)
    (h : NX w0 w B b hs es nv nv vo M V V L false) (hM : M.length ≤ 4096) (hU : V (2 * M.length + 1) = .slice none 0 0 ∧ V (2 * M.length + 2) = .slice none 0 0)
    (hlen : l.length = n + 6) (hk : Mxl.lastB l.toArray (n + 5) n = true) (hs0 : Region.noSelect l.toArray = true) (hB : Mxl.lexTo .any l.toArray n 0 (Array.replicate l.length false) = some (List.replicate n true ++ List.replicate (l.length - n) false).toArray)
    (hd : Mxl.dstsB a.tmps.size (l.take n) [] = true) (h1 : l[n]? = some ob) (h2 : l[n + 1]? = some oa) (h3 : l[n + 2]? = some p1) (h4 : l[n + 3]? = some p2) (h5 : l[n + 4]? = some p3) (h6 : l[n + 5]? = some os)
    (g1 : ob.guard = none) (g2 : oa.guard = none) (g3 : p1.guard = none) (g4 : p2.guard = none) (g5 : p3.guard = none) (g6 : os.guard = none)
    (hr0 : Region.ready .any l.toArray (List.replicate n true ++ List.replicate 6 false).toArray = [n])
    (hr1 : Region.ready .any l.toArray ((List.replicate n true ++ List.replicate 6 false).toArray.setIfInBounds n true) = [n + 1])
    (hr2 : Region.ready .any l.toArray (((List.replicate n true ++ List.replicate 6 false).toArray.setIfInBounds n true).setIfInBounds (n + 1) true) = [n + 2])
    (hr3 : Region.ready .any l.toArray ((((List.replicate n true ++ List.replicate 6 false).toArray.setIfInBounds n true).setIfInBounds (n + 1) true).setIfInBounds (n + 2) true) = [n + 3])
    (hr4 : Region.ready .any l.toArray (((((List.replicate n true ++ List.replicate 6 false).toArray.setIfInBounds n true).setIfInBounds (n + 1) true).setIfInBounds (n + 2) true).setIfInBounds (n + 3) true) = [n + 4])
    (hr5 : Region.ready .any l.toArray ((((((List.replicate n true ++ List.replicate 6 false).toArray.setIfInBounds n true).setIfInBounds (n + 1) true).setIfInBounds (n + 2) true).setIfInBounds (n + 3) true).setIfInBounds (n + 4) true) = [n + 5])
    (hr6 : Region.ready .any l.toArray (((((((List.replicate n true ++ List.replicate 6 false).toArray.setIfInBounds n true).setIfInBounds (n + 1) true).setIfInBounds (n + 2) true).setIfInBounds (n + 3) true).setIfInBounds (n + 4) true).setIfInBounds (n + 5) true) = [])
    (hA : ∀ ρ : World, ρ.cell? ⟨b, 0, none⟩ = some nv → (∀ o, ρ.cell? ⟨hs, o, none⟩ = es[o]?) → wpQuiet Tryz.prog l.toArray (fun w' => ∃ n, w' = ρ.drewN n) (fun a' => a' = aF) (l.take n) a)
    (hb : ∀ W : World, (execOp aF.eval ob).run Tryz.prog W = .ok (.value (.slice (some ⟨W.heap.size, 0, none⟩) 1 1)) (W.alloc (.cells #[.int .i64 kd, .string ⟨#[]⟩, .bool false, .slice none 0 0, .slice none 0 0] 33)))
    (s x : Operand) (ho : oa.op = .call { callee := .builtin .append, args := #[s, x], argTypes := #[34, 34] }) (hty : oa.type = 34)
    (hsv : ∀ bv, (aF.put ob.dst bv).eval s = nv) (hx : ∀ bv, (aF.put ob.dst bv).eval x = bv)
    (e1 : ∀ bv v W, (execOp ((aF.put ob.dst bv).put oa.dst v).eval p1).run Tryz.prog W = .ok (.value (.pointer (some ⟨b, 0, none⟩))) W)
    (e2 : ∀ bv v W, (execOp (((aF.put ob.dst bv).put oa.dst v).put p1.dst (.pointer (some ⟨b, 0, none⟩))).eval p2).run Tryz.prog W = .ok (.value (.pointer (some ⟨b, 0, none⟩))) W)
    (e3 : ∀ bv v W, (execOp ((((aF.put ob.dst bv).put oa.dst v).put p1.dst (.pointer (some ⟨b, 0, none⟩))).put p2.dst (.pointer (some ⟨b, 0, none⟩))).eval p3).run Tryz.prog W = .ok (.value (.pointer (some ⟨b, 0, none⟩))) W)
    (e4 : ∀ bv g m c u W, World.cell? W ⟨b, 0, none⟩ = some u → World.frozen? W ⟨b, 0, none⟩ = false → (execOp (((((aF.put ob.dst bv).put oa.dst (.slice (some ⟨g, 0, none⟩) m c)).put p1.dst (.pointer (some ⟨b, 0, none⟩))).put p2.dst (.pointer (some ⟨b, 0, none⟩))).put p3.dst (.pointer (some ⟨b, 0, none⟩))).eval os).run Tryz.prog W = .ok .skip (W.setCell ⟨b, 0, none⟩ (.slice (some ⟨g, 0, none⟩) m c)))
    (hK : ∀ g c W, NX w0 W B b hs es (.slice (some ⟨g, 0, none⟩) (M.length + 1) c) (.slice (some ⟨g, 0, none⟩) (M.length + 1) c) vo (M ++ [(kd, ⟨#[]⟩, false)]) V V L false → Q .normal ((((((aF.put ob.dst (.slice (some ⟨w.heap.size, 0, none⟩) 1 1)).put oa.dst (.slice (some ⟨g, 0, none⟩) (M.length + 1) c)).put p1.dst (.pointer (some ⟨b, 0, none⟩))).put p2.dst (.pointer (some ⟨b, 0, none⟩))).put p3.dst (.pointer (some ⟨b, 0, none⟩))).put os.dst undef) W) :
    (Code.region id l.toArray true).wp Tryz.prog Q a w := by
  have nxT : ∀ {W : World} {nv' : Value} {M' : List Hd} {bn : Value} (_ : NX w0 W B b hs es bn nv' vo M' V V L false) (W' : World), (∃ k, W' = W.drewN k) → NX w0 W' B b hs es bn nv' vo M' V V L false := by
    rintro W nv' M' bn h _ ⟨k, rfl⟩; exact h.drewN k
  have nxD : ∀ {W : World} {nv' : Value} {M' : List Hd} (_ : NX w0 W B b hs es nv nv' vo M' V V L false), W.cell? ⟨b, 0, none⟩ = some nv ∧ ∀ o, W.cell? ⟨hs, o, none⟩ = es[o]? := fun h => ⟨h.cells.1, h.cells.2.2.2.2⟩
  refine Mxl.wp_region_mix (n + 5) n (Mxl.lastOp_of hk) (aF := aF) (fun W => ∃ k, W = w.drewN k) (fun W => W.cell? ⟨b, 0, none⟩ = some nv ∧ ∀ o, W.cell? ⟨hs, o, none⟩ = es[o]?) (fun w w' => ∃ n, w' = w.drewN n) (by kernel_rfl) (by omega) hs0 hB hd (fun w => ⟨0, rfl⟩) ?_ ?_ ⟨1, rfl⟩ (fun ρ hρ => hA ρ hρ.1 hρ.2) ?_
  · rintro _ _ ⟨k, rfl⟩ ⟨j, rfl⟩
    exact ⟨k + j, by simp [World.drewN, Nat.add_assoc]⟩
  · rintro _ ⟨k, rfl⟩; exact nxD (h.drewN k)
  rw [show l.length - n = 6 by omega]
  refine Mxl.wpU_one hr0 (by simpa using h1) (by unfold Region.wanted; rw [g1]) (fun bv W => bv = .slice (some ⟨w.heap.size, 0, none⟩) 1 1 ∧ ∃ k, W = (w.alloc (.cells #[.int .i64 kd, .string ⟨#[]⟩, .bool false, .slice none 0 0, .slice none 0 0] 33)).drewN k) ?_ ?_ ?_ ?_
  · rintro _ _ _ ⟨rfl, k, rfl⟩ ⟨j, rfl⟩
    exact ⟨rfl, k + j, by simp [World.drewN, Nat.add_assoc]⟩
  · rintro _ _ _ ⟨rfl, k, rfl⟩; exact nxD ((h.alloc _).drewN k)
  · rintro _ ⟨k, rfl⟩
    rw [hb]
    exact ⟨rfl, k, rfl⟩
  rintro _ W1 ⟨rfl, -⟩
  refine Mxl.wpU_one hr1 (by simpa using h2) (by unfold Region.wanted; rw [g2]) (fun v W => ∃ g c, v = .slice (some ⟨g, 0, none⟩) (M.length + 1) c ∧ NX w0 W B b hs es nv v vo (M ++ [(kd, ⟨#[]⟩, false)]) V V L false) ?_ ?_ ?_ ?_
  · rintro _ _ _ ⟨g, c, rfl, h⟩ ht; exact ⟨g, c, rfl, nxT h _ ht⟩
  · rintro _ _ _ ⟨g, c, rfl, h⟩; exact nxD h
  · rintro _ ⟨-, k, rfl⟩
    obtain ⟨g, c, w', hr, h7⟩ := node_run h hM k kd hU
    have q1 := hsv (.slice (some ⟨w.heap.size, 0, none⟩) 1 1)
    have q2 := hx (.slice (some ⟨w.heap.size, 0, none⟩) 1 1)
    unfold execOp
    simp only [ho, hty, resolve, invoke, builtin, Sem.run_bind, Sem.run_pure, Result.andThen_ok, List.map_toArray, List.map_cons, List.map_nil, q1, q2, hr]
    exact ⟨g, c, rfl, h7⟩
  rintro _ W2 ⟨g, c, rfl, -⟩
  have sel : ∀ W, (∃ g' c', (Value.slice (some ⟨g, 0, none⟩) (M.length + 1) c) = .slice (some ⟨g', 0, none⟩) (M.length + 1) c' ∧ NX w0 W B b hs es nv (Value.slice (some ⟨g, 0, none⟩) (M.length + 1) c) vo (M ++ [(kd, ⟨#[]⟩, false)]) V V L false) → NX w0 W B b hs es nv (Value.slice (some ⟨g, 0, none⟩) (M.length + 1) c) vo (M ++ [(kd, ⟨#[]⟩, false)]) V V L false := by
    rintro W ⟨g', c', _, h⟩; exact h
  refine Mxl.wpU_one hr2 (by simpa using h3) (by unfold Region.wanted; rw [g3]) (fun u W => u = .pointer (some ⟨b, 0, none⟩) ∧ NX w0 W B b hs es nv (.slice (some ⟨g, 0, none⟩) (M.length + 1) c) vo (M ++ [(kd, ⟨#[]⟩, false)]) V V L false) ?_ ?_ ?_ ?_
  · rintro _ _ _ ⟨rfl, h⟩ ht; exact ⟨rfl, nxT h _ ht⟩
  · rintro _ _ _ ⟨rfl, h⟩; exact nxD h
  · intro W hW
    rw [e1]
    exact ⟨rfl, sel W hW⟩
  rintro _ W3 ⟨rfl, -⟩
  refine Mxl.wpU_one hr3 (by simpa using h4) (by unfold Region.wanted; rw [g4]) (fun u W => u = .pointer (some ⟨b, 0, none⟩) ∧ NX w0 W B b hs es nv (.slice (some ⟨g, 0, none⟩) (M.length + 1) c) vo (M ++ [(kd, ⟨#[]⟩, false)]) V V L false) ?_ ?_ ?_ ?_
  · rintro _ _ _ ⟨rfl, h⟩ ht; exact ⟨rfl, nxT h _ ht⟩
  · rintro _ _ _ ⟨rfl, h⟩; exact nxD h
  · intro W hW
    rw [e2]
    exact ⟨rfl, hW.2⟩
  rintro _ W4 ⟨rfl, -⟩
  refine Mxl.wpU_one hr4 (by simpa using h5) (by unfold Region.wanted; rw [g5]) (fun u W => u = .pointer (some ⟨b, 0, none⟩) ∧ NX w0 W B b hs es nv (.slice (some ⟨g, 0, none⟩) (M.length + 1) c) vo (M ++ [(kd, ⟨#[]⟩, false)]) V V L false) ?_ ?_ ?_ ?_
  · rintro _ _ _ ⟨rfl, h⟩ ht; exact ⟨rfl, nxT h _ ht⟩
  · rintro _ _ _ ⟨rfl, h⟩; exact nxD h
  · intro W hW
    rw [e3]
    exact ⟨rfl, hW.2⟩
  rintro _ W5 ⟨rfl, -⟩
  refine Mxl.wpU_one hr5 (by simpa using h6) (by unfold Region.wanted; rw [g6]) (fun u W => u = undef ∧ NX w0 W B b hs es (.slice (some ⟨g, 0, none⟩) (M.length + 1) c) (.slice (some ⟨g, 0, none⟩) (M.length + 1) c) vo (M ++ [(kd, ⟨#[]⟩, false)]) V V L false) ?_ ?_ ?_ ?_
  · rintro _ _ _ ⟨rfl, h⟩ ht; exact ⟨rfl, nxT h _ ht⟩
  · intro h; exact absurd rfl h
  · rintro W ⟨-, hW⟩
    rw [e4 _ _ _ _ nv W hW.cells.1 (hW.cells.2.2.2.1 0)]
    exact ⟨rfl, hW.setNodes _⟩
  rintro _ W6 ⟨rfl, -⟩
  exact Mxl.wpU_end hr6 (fun W hW => hK g c W hW.2)
end Go.Proofs.YtneohoclgnfdcaaGreatDoor
/- The builder of events: next, where it adds a node. -/
namespace Go.Proofs.YtneohoclgnfdcaaGreatDoor
open Go.RowKit
open Go.Lib
theorem node_done {w W : World} {B b hs d : Nat} {es : Array Value} {nb vo : Value} {M : List Hd} {V : Nat → Value} {L : Nat → List Int} {m : Hd} (h : NX w W B b hs es nb nb vo (M ++ [m]) V V L false) (hz : V 0 = vo) (hd : (L 0).length = d) (ho : ∀ x ∈ L 0, ∃ (i : Nat) (m : Hd), x = (i : Int) ∧ M[i]? = some m ∧ m.1 = 9)
    (hn : ∀ j, 2 * M.length < j → V j = .slice none 0 0 ∧ L j = []) (hs0 : ∀ j, (L j).length ≤ M.length + 1) : BW W B b (M.length + 1) d false := by
  subst hz
  refine ⟨nb, M ++ [m], V, L, h.bs, by simp, hd, fun x hx => ?_, hs0, fun j hj => hn j (by omega)⟩
  obtain ⟨i, m1, h1, h2, h3⟩ := ho x hx
  exact ⟨i, m1, h1, by rw [List.getElem?_append_left (List.getElem?_eq_some_iff.1 h2).1]; exact h2, h3⟩
theorem open_done {w W : World} {B b hs d : Nat} {es : Array Value} {nb vo v : Value} {M : List Hd} {V : Nat → Value} {L : Nat → List Int} {m : Hd} (hm : m.1 = 9) (h : NX w W B b hs es nb nb vo (M ++ [m]) V (upd V 0 v) (upd L 0 (L 0 ++ [(M.length : Int)])) false) (hd : (L 0).length = d) (hdl : d ≤ M.length) (ho : ∀ x ∈ L 0, ∃ (i : Nat) (m : Hd), x = (i : Int) ∧ M[i]? = some m ∧ m.1 = 9)
    (hn : ∀ j, 2 * M.length < j → V j = .slice none 0 0 ∧ L j = []) (hs0 : ∀ j, (L j).length ≤ M.length + 1) : Below B w (W.setCell ⟨b, 2, none⟩ v) ∧ BW (W.setCell ⟨b, 2, none⟩ v) B b (M.length + 1) (d + 1) false := by
  have h2 := h.setOpen v
  refine ⟨h2.bel, nb, M ++ [m], upd V 0 v, upd L 0 (L 0 ++ [(M.length : Int)]), ⟨h2.bs.le, ?_, ?_, h2.bs.rows⟩, by simp, by rw [upd_same]; simp [hd], fun x hx => ?_, fun j => ?_, fun j hj => ?_⟩
  · rw [upd_same]; exact h2.bs.box
  · rw [ncells_zero]; exact h2.bs.nodes
  · rw [upd_same] at hx
    rcases List.mem_append.1 hx with hx | hx
    · obtain ⟨i, m1, h1, h2, h3⟩ := ho x hx
      exact ⟨i, m1, h1, by rw [List.getElem?_append_left (List.getElem?_eq_some_iff.1 h2).1]; exact h2, h3⟩
    · exact ⟨M.length, m, by simpa using hx, by simp, hm⟩
  · by_cases hj : j = 0
    · subst hj; rw [upd_same]; simp [hd]; omega
    · rw [upd_other _ _ hj]; exact hs0 j
  · have : j ≠ 0 := by omega
    rw [upd_other _ _ this, upd_other _ _ this]
    exact hn j (by omega)
set_option maxHeartbeats 4000000 in
set_option maxRecDepth 100000 in
theorem next_open_in (w : World) (B b nn D : Nat) (hW : BW w B b nn (D + 1) false) (hD : D + 1 ≤ 32) (hM : nn < 4096) (hB : B ≤ w.heap.size) :
    Calls Tryz.prog 9 #[.pointer (some ⟨b, 0, none⟩), evV 2] w fun e w' => e = .returned (.int .i64 0) ∧ Below B w w' ∧ BW w' B b (nn + 1) ((D + 1) + 1) false := by
  have hbl := hW.lt
  obtain ⟨nv, M, V, L, h, rfl, hd, ho, hs, hn⟩ := hW
  obtain ⟨g, cap, o, c, i, m, hnv, hv0, hm, hk9, hi, hc, hcl, hck⟩ := bs_top h hd ho
  obtain ⟨c0, c1, c2, c3, cf⟩ := h.cells
  subst hnv
  rw [hv0] at c2
  have HT := PLift.up fun (w' : World) (hb : Below w.heap.size w w') => top_some w' b g o D c M.length cap i (cell_keep hb c0) (cell_keep hb c2) (cell_keep hb hcl) hi (by omega) (by omega)
  have HCK := PLift.up hck
  have HI := PLift.up hi
  have hD32 : ¬ (32 : Int) < ((D + 1 : Nat) : Int) := by omega
  have HH := PLift.up h
  have HV0 := PLift.up hv0
  have HS := PLift.up hs
  have HN := PLift.up hn
  have HO := PLift.up ho
  have HD := PLift.up hd
  have hM1 : ¬ (4096 : Int) ≤ (M.length : Int) := by omega
  have HF := PLift.up form_ok
  have k : kindE 2 = 9 := rfl
  unfold evV
  rw [k]
  clear h hd ho hs hn c0 c1 c2 c3 cf hv0 hcl hck hi hm hk9
  go_enter Tryz.func9, Tryz.ntmps9
  go_upto_region 4 with (first
    | (go_at_call 25; refine (HF.down _ 2 (by decide)).mono ?_; rintro e w2 ⟨rfl, hb2⟩; have HB2 := PLift.up hb2; clear hb2)
    | (go_at_call 26; refine (HT.down _ (two_below (below_new w _) HB2.down)).mono ?_; rintro e w3 ⟨rfl, hb3⟩; have HB3 := PLift.up (two_below HB2.down hb3); clear hb3))
  have HBW := PLift.up (two_below (below_new w _) HB3.down)
  have HX3 := PLift.up (box_keep HB3.down)
  have HNX : PLift (NX w w3 B b w.heap.size #[.int .i64 2, .int .i64 9, .string ⟨#[]⟩, .bool false] (.slice (some ⟨g, 0, none⟩) M.length cap) (.slice (some ⟨g, 0, none⟩) M.length cap) (V 0) M V V L false) := ⟨⟨HH.down.below HBW.down, HX3.down, HBW.down.mono hB, hB⟩⟩
  have HCK3 := PLift.up (cell_keep HBW.down HCK.down)
  clear HB2 HB3 HBW HX3 HT HF
  obtain ⟨d0, d2, d3, df, de⟩ := HNX.down.cells
  rw [HV0.down] at d2
  have e0 : w3.cell? ⟨w.heap.size, 0, none⟩ = some (.int .i64 2) := (de 0).trans rfl
  have e1 : w3.cell? ⟨w.heap.size, 1, none⟩ = some (.int .i64 9) := (de 1).trans rfl
  have ck := HCK3.down
  have di := (HNX.down.itemCell i HI.down).1
  go_upto_region 19 with fail
  go_quiet (fail)
  have HX := PLift.up (HNX.down.drewN nq)
  clear d0 d2 d3 df de e0 e1 ck di HNX HCK3
  generalize w3.drewN nq = X at HX ⊢
  have d0 := HX.down.cells.1
  have di := (HX.down.itemCell i HI.down).1
  have HIF := PLift.up (HX.down.alloc (.cells #[.int .i64 M.length] 3))
  go_upto_region 21 with fail
  obtain ⟨i0, hi0, hz0, hz1, hz2⟩ := info_parts info_int1
  have HI0 := PLift.up (And.intro hi0 (And.intro hz0 (And.intro hz1 hz2)))
  clear hi0 hz0 hz1 hz2
  go_wp2_with (at_builtin; refine wpList_append_new _ rfl _ _ 31 rfl B 3 i0 (.int .i64 0) 1 8 Tryz.underlying31 HI0.down.1 HI0.down.2.1 HI0.down.2.2.1 HI0.down.2.2.2 rfl (by decide) (V (2 * i + 2)) (L (2 * i + 2)).length ((L (2 * i + 2)).map (Value.int .i64)) rfl (HIF.down.bs.rows.own (2 * i + 2)) ⟨X.heap.size, 0, none⟩ 1 1 [.int .i64 M.length] rfl rfl (by
    intro j u hj
    have h2 : (⟨X.heap.size, 0, none⟩ : Addr).add j = ⟨X.heap.size, j, none⟩ := by unfold Addr.add; split <;> simp_all
    rw [h2, Lib.cell_of_heap (heap_alloc_new X _) j, ← hj]; simp) (by simp [Value.oneCell']) (by decide) (by unfold maxLen; have := HS.down (2 * i + 2); omega) (by have := HS.down (2 * i + 2); omega) HIF.down.Bw ?_)
  rintro v' w5 hown5 hg5 hp5
  obtain ⟨gi, ci, rfl, _⟩ := own_slice hown5 (by omega)
  have H5 := PLift.up (HIF.down.item (2 * i + 2) hg5 hown5 (fun k hk => (hp5 k hk).imp id fun q => by rw [size_new]; exact q))
  clear hown5 hg5 hp5 d0 di
  have di5 := (H5.down.itemCell i HI.down).1
  have df5 := (H5.down.itemCell i HI.down).2
  go_upto_region 22 with fail
  clear di5 df5
  have H6 := PLift.up (n6_of H5.down HI.down rfl HN.down HS.down (by rw [List.length_append]; have := HS.down (2 * i + 2); simp; omega))
  clear H5 HIF HX
  generalize upd V (2 * i + 2) (.slice (some ⟨gi, 0, none⟩) ((L (2 * i + 2)).length + 1) ci) = V6 at H6
  generalize upd L (2 * i + 2) (L (2 * i + 2) ++ [(M.length : Int)]) = L6 at H6
  generalize w5.setCell ⟨g, i * 5 + 4, none⟩ (.slice (some ⟨gi, 0, none⟩) ((L (2 * i + 2)).length + 1) ci) = W6 at H6 ⊢
  obtain ⟨⟨hnx6, hz6, hr6, hs6⟩, hl6⟩ := H6.down
  clear H6
  have HNX6 := PLift.up hnx6
  have HZ6 := PLift.up hz6
  have HR6 := PLift.up hr6
  have HS6 := PLift.up hs6
  have HL6 := PLift.up hl6
  clear hnx6 hz6 hr6 hs6 hl6
  refine wp_region_node (aF := ?_) 13 _ _ _ _ _ _ 9 HNX6.down (by omega) ⟨(HR6.down (2 * M.length + 1) (by omega)).1, (HR6.down (2 * M.length + 2) (by omega)).1⟩ rfl (by kernel_rfl) (by kernel_rfl) (by kernel_rfl) (by kernel_rfl) rfl rfl rfl rfl rfl rfl rfl rfl rfl rfl rfl rfl (by kernel_rfl) (by kernel_rfl) (by kernel_rfl) (by kernel_rfl) (by kernel_rfl) (by kernel_rfl) (by kernel_rfl) ?_ ?_ _ _ rfl rfl ?_ ?_ ?_ ?_ ?_ ?_ ?_
  rotate_left 1
  · intro ρ h0 hes
    have e1 : ρ.cell? ⟨w.heap.size, 1, none⟩ = some (.int .i64 9) := (hes 1).trans rfl
    have e2 : ρ.cell? ⟨w.heap.size, 2, none⟩ = some (.string ⟨#[]⟩) := (hes 2).trans rfl
    have e3 : ρ.cell? ⟨w.heap.size, 3, none⟩ = some (.bool false) := (hes 3).trans rfl
    clear hes
    simp only [List.take_succ_cons, List.take_zero]
    repeat (go_big_quiet_step (fail))
    refine wpQuiet_nil ?_
    exact rfl
  · intro W
    go_simp
  · intro bv; rfl
  · intro bv; rfl
  · intro bv v W; rfl
  · intro bv v W; go_simp
  · intro bv v W; go_simp
  · intro bv g m c u W h0 hf
    go_simp
  · intro g8 c8 W8 h8
    have H8 := PLift.up h8
    clear h8
    have e0 : W8.cell? ⟨w.heap.size, 0, none⟩ = some (.int .i64 2) := (H8.down.cells.2.2.2.2 0).trans rfl
    simp only [Act.put, List.setIfInBounds_toArray, List.set_cons_zero, List.set_cons_succ]
    have d2 := H8.down.cells.2.1
    rw [← HZ6.down] at d2
    as_aux_lemma =>
    have HIF := PLift.up (H8.down.alloc (.cells #[.int .i64 M.length] 3))
    obtain ⟨i0, hi0, hz0, hz1, hz2⟩ := info_parts info_int1
    have HI0 := PLift.up (And.intro hi0 (And.intro hz0 (And.intro hz1 hz2)))
    clear hi0 hz0 hz1 hz2
    go_wp2_with (at_builtin; refine wpList_append_new _ rfl _ _ 31 rfl B 3 i0 (.int .i64 0) 1 8 Tryz.underlying31 HI0.down.1 HI0.down.2.1 HI0.down.2.2.1 HI0.down.2.2.2 rfl (by decide) (V6 0) (L6 0).length ((L6 0).map (Value.int .i64)) rfl (HIF.down.bs.rows.own 0) ⟨W8.heap.size, 0, none⟩ 1 1 [.int .i64 M.length] rfl rfl (by
      intro j u hj
      have h2 : (⟨W8.heap.size, 0, none⟩ : Addr).add j = ⟨W8.heap.size, j, none⟩ := by unfold Addr.add; split <;> simp_all
      rw [h2, Lib.cell_of_heap (heap_alloc_new W8 _) j, ← hj]; simp) (by simp [Value.oneCell']) (by decide) (by unfold maxLen; have := HS6.down 0; omega) (by have := HS6.down 0; omega) HIF.down.Bw ?_)
    rintro v' w9 hown9 hg9 hp9
    obtain ⟨gi, ci, rfl, _⟩ := own_slice hown9 (by omega)
    have H9 := PLift.up (HIF.down.item 0 hg9 hown9 (fun k hk => (hp9 k hk).imp id fun q => by rw [size_new]; exact q))
    clear hown9 hg9 hp9 d2 e0
    have d2 := H9.down.cells.2.1
    have df := H9.down.cells.2.2.2.1 2
    as_aux_lemma =>
    go_wp2
    refine bodyPost_ret (v := .int .i64 0) (by simp only [results, Tryz.results9]; go_simp) rfl ?_
    have hfin := open_done (d := (D + 1)) rfl H9.down (by rw [HL6.down]; exact HD.down) (by have := HS.down 0; rw [HD.down] at this; exact this) (by rw [HL6.down]; exact HO.down) HR6.down HS6.down
    exact ⟨rfl, hfin.1, hfin.2⟩
set_option maxHeartbeats 4000000 in
set_option maxRecDepth 100000 in
theorem next_open_out (w : World) (B b nn : Nat) (hW : BW w B b nn 0 false) (hM : nn < 4096) (hB : B ≤ w.heap.size) :
    Calls Tryz.prog 9 #[.pointer (some ⟨b, 0, none⟩), evV 2] w fun e w' => e = .returned (.int .i64 0) ∧ Below B w w' ∧ BW w' B b (nn + 1) (0 + 1) false := by
  have hbl := hW.lt
  obtain ⟨nv, M, V, L, h, rfl, hd, ho, hs, hn⟩ := hW
  obtain ⟨a, c, hv0⟩ := own_any (h.rows.own 0)
  rw [hd] at hv0
  obtain ⟨ga, cap, hnv⟩ := own_any h.nodes
  subst hnv
  obtain ⟨c0, c1, c2, c3, cf⟩ := h.cells
  rw [hv0] at c2
  have HT := PLift.up fun (w' : World) (hb : Below w.heap.size w w') => top_none w' b a c (cell_keep hb c2)
  have HH := PLift.up h
  have HV0 := PLift.up hv0
  have HS := PLift.up hs
  have HN := PLift.up hn
  have HO := PLift.up ho
  have HD := PLift.up hd
  have hM1 : ¬ (4096 : Int) ≤ (M.length : Int) := by omega
  have HF := PLift.up form_ok
  have k : kindE 2 = 9 := rfl
  unfold evV
  rw [k]
  clear h hd ho hs hn c0 c1 c2 c3 cf hv0
  go_enter Tryz.func9, Tryz.ntmps9
  go_upto_region 4 with (first
    | (go_at_call 25; refine (HF.down _ 2 (by decide)).mono ?_; rintro e w2 ⟨rfl, hb2⟩; have HB2 := PLift.up hb2; clear hb2)
    | (go_at_call 26; refine (HT.down _ (two_below (below_new w _) HB2.down)).mono ?_; rintro e w3 ⟨rfl, hb3⟩; have HB3 := PLift.up (two_below HB2.down hb3); clear hb3))
  have HBW := PLift.up (two_below (below_new w _) HB3.down)
  have HX3 := PLift.up (box_keep HB3.down)
  have HNX : PLift (NX w w3 B b w.heap.size #[.int .i64 2, .int .i64 9, .string ⟨#[]⟩, .bool false] (.slice ga M.length cap) (.slice ga M.length cap) (V 0) M V V L false) := ⟨⟨HH.down.below HBW.down, HX3.down, HBW.down.mono hB, hB⟩⟩
  clear HB2 HB3 HBW HX3 HT HF
  obtain ⟨d0, d2, d3, df, de⟩ := HNX.down.cells
  rw [HV0.down] at d2
  have e0 : w3.cell? ⟨w.heap.size, 0, none⟩ = some (.int .i64 2) := (de 0).trans rfl
  have e1 : w3.cell? ⟨w.heap.size, 1, none⟩ = some (.int .i64 9) := (de 1).trans rfl
  go_upto_region 22 with fail
  obtain ⟨W6, hW6⟩ : ∃ W6, W6 = w3 := ⟨_, rfl⟩
  obtain ⟨V6, hV6⟩ : ∃ V6, V6 = V := ⟨_, rfl⟩
  obtain ⟨L6, hL6⟩ : ∃ L6, L6 = L := ⟨_, rfl⟩
  have hnx6 := HNX.down
  have hz6 : V6 0 = V 0 := by rw [hV6]
  have hr6 : ∀ j, 2 * M.length < j → V6 j = .slice none 0 0 ∧ L6 j = [] := by rw [hV6, hL6]; exact HN.down
  have hs6 : ∀ j, (L6 j).length ≤ M.length + 1 := fun j => by rw [hL6]; have := HS.down j; omega
  have hl6 : L6 0 = L 0 := by rw [hL6]
  have hv6 : V 0 = V6 0 := hz6.symm
  rw [hv6, ← hW6, ← hL6, ← hV6] at hnx6
  rw [← hW6]
  clear d0 d2 d3 df de e0 e1 hv6 HNX hW6 hV6 hL6
  have HNX6 := PLift.up hnx6
  have HZ6 := PLift.up hz6
  have HR6 := PLift.up hr6
  have HS6 := PLift.up hs6
  have HL6 := PLift.up hl6
  clear hnx6 hz6 hr6 hs6 hl6
  refine wp_region_node (aF := ?_) 13 _ _ _ _ _ _ 9 HNX6.down (by omega) ⟨(HR6.down (2 * M.length + 1) (by omega)).1, (HR6.down (2 * M.length + 2) (by omega)).1⟩ rfl (by kernel_rfl) (by kernel_rfl) (by kernel_rfl) (by kernel_rfl) rfl rfl rfl rfl rfl rfl rfl rfl rfl rfl rfl rfl (by kernel_rfl) (by kernel_rfl) (by kernel_rfl) (by kernel_rfl) (by kernel_rfl) (by kernel_rfl) (by kernel_rfl) ?_ ?_ _ _ rfl rfl ?_ ?_ ?_ ?_ ?_ ?_ ?_
  rotate_left 1
  · intro ρ h0 hes
    have e1 : ρ.cell? ⟨w.heap.size, 1, none⟩ = some (.int .i64 9) := (hes 1).trans rfl
    have e2 : ρ.cell? ⟨w.heap.size, 2, none⟩ = some (.string ⟨#[]⟩) := (hes 2).trans rfl
    have e3 : ρ.cell? ⟨w.heap.size, 3, none⟩ = some (.bool false) := (hes 3).trans rfl
    clear hes
    simp only [List.take_succ_cons, List.take_zero]
    repeat (go_big_quiet_step (fail))
    refine wpQuiet_nil ?_
    exact rfl
  · intro W
    go_simp
  · intro bv; rfl
  · intro bv; rfl
  · intro bv v W; rfl
  · intro bv v W; go_simp
  · intro bv v W; go_simp
  · intro bv g m c u W h0 hf
    go_simp
  · intro g8 c8 W8 h8
    have H8 := PLift.up h8
    clear h8
    have e0 : W8.cell? ⟨w.heap.size, 0, none⟩ = some (.int .i64 2) := (H8.down.cells.2.2.2.2 0).trans rfl
    simp only [Act.put, List.setIfInBounds_toArray, List.set_cons_zero, List.set_cons_succ]
    have d2 := H8.down.cells.2.1
    skip
    as_aux_lemma =>
    have HIF := PLift.up (H8.down.alloc (.cells #[.int .i64 M.length] 3))
    obtain ⟨i0, hi0, hz0, hz1, hz2⟩ := info_parts info_int1
    have HI0 := PLift.up (And.intro hi0 (And.intro hz0 (And.intro hz1 hz2)))
    clear hi0 hz0 hz1 hz2
    go_wp2_with (at_builtin; refine wpList_append_new _ rfl _ _ 31 rfl B 3 i0 (.int .i64 0) 1 8 Tryz.underlying31 HI0.down.1 HI0.down.2.1 HI0.down.2.2.1 HI0.down.2.2.2 rfl (by decide) (V6 0) (L6 0).length ((L6 0).map (Value.int .i64)) rfl (HIF.down.bs.rows.own 0) ⟨W8.heap.size, 0, none⟩ 1 1 [.int .i64 M.length] rfl rfl (by
      intro j u hj
      have h2 : (⟨W8.heap.size, 0, none⟩ : Addr).add j = ⟨W8.heap.size, j, none⟩ := by unfold Addr.add; split <;> simp_all
      rw [h2, Lib.cell_of_heap (heap_alloc_new W8 _) j, ← hj]; simp) (by simp [Value.oneCell']) (by decide) (by unfold maxLen; have := HS6.down 0; omega) (by have := HS6.down 0; omega) HIF.down.Bw ?_)
    rintro v' w9 hown9 hg9 hp9
    obtain ⟨gi, ci, rfl, _⟩ := own_slice hown9 (by omega)
    have H9 := PLift.up (HIF.down.item 0 hg9 hown9 (fun k hk => (hp9 k hk).imp id fun q => by rw [size_new]; exact q))
    clear hown9 hg9 hp9 d2 e0
    have d2 := H9.down.cells.2.1
    have df := H9.down.cells.2.2.2.1 2
    as_aux_lemma =>
    go_wp2
    refine bodyPost_ret (v := .int .i64 0) (by simp only [results, Tryz.results9]; go_simp) rfl ?_
    have hfin := open_done (d := 0) rfl H9.down (by rw [HL6.down]; exact HD.down) (by have := HS.down 0; rw [HD.down] at this; exact this) (by rw [HL6.down]; exact HO.down) HR6.down HS6.down
    exact ⟨rfl, hfin.1, hfin.2⟩
end Go.Proofs.YtneohoclgnfdcaaGreatDoor
/- The builder of events: next, where it adds a null. -/
namespace Go.Proofs.YtneohoclgnfdcaaGreatDoor
open Go.RowKit
open Go.Lib
set_option maxHeartbeats 4000000 in
set_option maxRecDepth 100000 in
theorem next_null_in (w : World) (B b nn D : Nat) (hW : BW w B b nn (D + 1) false) (hD : D + 1 ≤ 32) (hM : nn < 4096) (hB : B ≤ w.heap.size) :
    Calls Tryz.prog 9 #[.pointer (some ⟨b, 0, none⟩), evV 1] w fun e w' => e = .returned (.int .i64 0) ∧ Below B w w' ∧ BW w' B b (nn + 1) (D + 1) (decide ((D + 1) = 0)) := by
  have hbl := hW.lt
  obtain ⟨nv, M, V, L, h, rfl, hd, ho, hs, hn⟩ := hW
  obtain ⟨g, cap, o, c, i, m, hnv, hv0, hm, hk9, hi, hc, hcl, hck⟩ := bs_top h hd ho
  obtain ⟨c0, c1, c2, c3, cf⟩ := h.cells
  subst hnv
  rw [hv0] at c2
  have HT := PLift.up fun (w' : World) (hb : Below w.heap.size w w') => top_some w' b g o D c M.length cap i (cell_keep hb c0) (cell_keep hb c2) (cell_keep hb hcl) hi (by omega) (by omega)
  have HCK := PLift.up hck
  have HI := PLift.up hi
  have hD32 : ¬ (32 : Int) < ((D + 1 : Nat) : Int) := by omega
  have HH := PLift.up h
  have HV0 := PLift.up hv0
  have HS := PLift.up hs
  have HN := PLift.up hn
  have HO := PLift.up ho
  have HD := PLift.up hd
  have hM1 : ¬ (4096 : Int) ≤ (M.length : Int) := by omega
  have HF := PLift.up form_ok
  have k : kindE 1 = 0 := rfl
  unfold evV
  rw [k]
  clear h hd ho hs hn c0 c1 c2 c3 cf hv0 hcl hck hi hm hk9
  go_enter Tryz.func9, Tryz.ntmps9
  go_upto_region 4 with (first
    | (go_at_call 25; refine (HF.down _ 1 (by decide)).mono ?_; rintro e w2 ⟨rfl, hb2⟩; have HB2 := PLift.up hb2; clear hb2)
    | (go_at_call 26; refine (HT.down _ (two_below (below_new w _) HB2.down)).mono ?_; rintro e w3 ⟨rfl, hb3⟩; have HB3 := PLift.up (two_below HB2.down hb3); clear hb3))
  have HBW := PLift.up (two_below (below_new w _) HB3.down)
  have HX3 := PLift.up (box_keep HB3.down)
  have HNX : PLift (NX w w3 B b w.heap.size #[.int .i64 1, .int .i64 0, .string ⟨#[]⟩, .bool false] (.slice (some ⟨g, 0, none⟩) M.length cap) (.slice (some ⟨g, 0, none⟩) M.length cap) (V 0) M V V L false) := ⟨⟨HH.down.below HBW.down, HX3.down, HBW.down.mono hB, hB⟩⟩
  have HCK3 := PLift.up (cell_keep HBW.down HCK.down)
  clear HB2 HB3 HBW HX3 HT HF
  obtain ⟨d0, d2, d3, df, de⟩ := HNX.down.cells
  rw [HV0.down] at d2
  have e0 : w3.cell? ⟨w.heap.size, 0, none⟩ = some (.int .i64 1) := (de 0).trans rfl
  have e1 : w3.cell? ⟨w.heap.size, 1, none⟩ = some (.int .i64 0) := (de 1).trans rfl
  have ck := HCK3.down
  have di := (HNX.down.itemCell i HI.down).1
  go_upto_region 19 with fail
  go_quiet (fail)
  have HX := PLift.up (HNX.down.drewN nq)
  clear d0 d2 d3 df de e0 e1 ck di HNX HCK3
  generalize w3.drewN nq = X at HX ⊢
  have d0 := HX.down.cells.1
  have di := (HX.down.itemCell i HI.down).1
  have HIF := PLift.up (HX.down.alloc (.cells #[.int .i64 M.length] 3))
  go_upto_region 21 with fail
  obtain ⟨i0, hi0, hz0, hz1, hz2⟩ := info_parts info_int1
  have HI0 := PLift.up (And.intro hi0 (And.intro hz0 (And.intro hz1 hz2)))
  clear hi0 hz0 hz1 hz2
  go_wp2_with (at_builtin; refine wpList_append_new _ rfl _ _ 31 rfl B 3 i0 (.int .i64 0) 1 8 Tryz.underlying31 HI0.down.1 HI0.down.2.1 HI0.down.2.2.1 HI0.down.2.2.2 rfl (by decide) (V (2 * i + 2)) (L (2 * i + 2)).length ((L (2 * i + 2)).map (Value.int .i64)) rfl (HIF.down.bs.rows.own (2 * i + 2)) ⟨X.heap.size, 0, none⟩ 1 1 [.int .i64 M.length] rfl rfl (by
    intro j u hj
    have h2 : (⟨X.heap.size, 0, none⟩ : Addr).add j = ⟨X.heap.size, j, none⟩ := by unfold Addr.add; split <;> simp_all
    rw [h2, Lib.cell_of_heap (heap_alloc_new X _) j, ← hj]; simp) (by simp [Value.oneCell']) (by decide) (by unfold maxLen; have := HS.down (2 * i + 2); omega) (by have := HS.down (2 * i + 2); omega) HIF.down.Bw ?_)
  rintro v' w5 hown5 hg5 hp5
  obtain ⟨gi, ci, rfl, _⟩ := own_slice hown5 (by omega)
  have H5 := PLift.up (HIF.down.item (2 * i + 2) hg5 hown5 (fun k hk => (hp5 k hk).imp id fun q => by rw [size_new]; exact q))
  clear hown5 hg5 hp5 d0 di
  have di5 := (H5.down.itemCell i HI.down).1
  have df5 := (H5.down.itemCell i HI.down).2
  go_upto_region 22 with fail
  clear di5 df5
  have H6 := PLift.up (n6_of H5.down HI.down rfl HN.down HS.down (by rw [List.length_append]; have := HS.down (2 * i + 2); simp; omega))
  clear H5 HIF HX
  generalize upd V (2 * i + 2) (.slice (some ⟨gi, 0, none⟩) ((L (2 * i + 2)).length + 1) ci) = V6 at H6
  generalize upd L (2 * i + 2) (L (2 * i + 2) ++ [(M.length : Int)]) = L6 at H6
  generalize w5.setCell ⟨g, i * 5 + 4, none⟩ (.slice (some ⟨gi, 0, none⟩) ((L (2 * i + 2)).length + 1) ci) = W6 at H6 ⊢
  obtain ⟨⟨hnx6, hz6, hr6, hs6⟩, hl6⟩ := H6.down
  clear H6
  have HNX6 := PLift.up hnx6
  have HZ6 := PLift.up hz6
  have HR6 := PLift.up hr6
  have HS6 := PLift.up hs6
  have HL6 := PLift.up hl6
  clear hnx6 hz6 hr6 hs6 hl6
  refine wp_region_node (aF := ?_) 13 _ _ _ _ _ _ 0 HNX6.down (by omega) ⟨(HR6.down (2 * M.length + 1) (by omega)).1, (HR6.down (2 * M.length + 2) (by omega)).1⟩ rfl (by kernel_rfl) (by kernel_rfl) (by kernel_rfl) (by kernel_rfl) rfl rfl rfl rfl rfl rfl rfl rfl rfl rfl rfl rfl (by kernel_rfl) (by kernel_rfl) (by kernel_rfl) (by kernel_rfl) (by kernel_rfl) (by kernel_rfl) (by kernel_rfl) ?_ ?_ _ _ rfl rfl ?_ ?_ ?_ ?_ ?_ ?_ ?_
  rotate_left 1
  · intro ρ h0 hes
    have e1 : ρ.cell? ⟨w.heap.size, 1, none⟩ = some (.int .i64 0) := (hes 1).trans rfl
    have e2 : ρ.cell? ⟨w.heap.size, 2, none⟩ = some (.string ⟨#[]⟩) := (hes 2).trans rfl
    have e3 : ρ.cell? ⟨w.heap.size, 3, none⟩ = some (.bool false) := (hes 3).trans rfl
    clear hes
    simp only [List.take_succ_cons, List.take_zero]
    repeat (go_big_quiet_step (fail))
    refine wpQuiet_nil ?_
    exact rfl
  · intro W
    go_simp
  · intro bv; rfl
  · intro bv; rfl
  · intro bv v W; rfl
  · intro bv v W; go_simp
  · intro bv v W; go_simp
  · intro bv g m c u W h0 hf
    go_simp
  · intro g8 c8 W8 h8
    have H8 := PLift.up h8
    clear h8
    have e0 : W8.cell? ⟨w.heap.size, 0, none⟩ = some (.int .i64 1) := (H8.down.cells.2.2.2.2 0).trans rfl
    simp only [Act.put, List.setIfInBounds_toArray, List.set_cons_zero, List.set_cons_succ]
    have HC := PLift.up (bw_completed W8 B b (M.length + 1) (D + 1) (node_done H8.down HZ6.down (by rw [HL6.down]; exact HD.down) (by rw [HL6.down]; exact HO.down) HR6.down HS6.down) (by omega) (by omega) H8.down.Bw)
    as_aux_lemma =>
    go_wp2_with (go_at_call 27; refine HC.down.mono ?_; rintro e w9 ⟨rfl, hb9, hw9⟩; have H9 := PLift.up (And.intro hb9 hw9); clear hb9 hw9)
    refine bodyPost_ret (v := .int .i64 0) (by simp only [results, Tryz.results9]; go_simp) rfl ?_
    exact ⟨rfl, H8.down.bel.trans H9.down.1, H9.down.2⟩
set_option maxHeartbeats 4000000 in
set_option maxRecDepth 100000 in
theorem next_null_out (w : World) (B b nn : Nat) (hW : BW w B b nn 0 false) (hM : nn < 4096) (hB : B ≤ w.heap.size) :
    Calls Tryz.prog 9 #[.pointer (some ⟨b, 0, none⟩), evV 1] w fun e w' => e = .returned (.int .i64 0) ∧ Below B w w' ∧ BW w' B b (nn + 1) 0 (decide (0 = 0)) := by
  have hbl := hW.lt
  obtain ⟨nv, M, V, L, h, rfl, hd, ho, hs, hn⟩ := hW
  obtain ⟨a, c, hv0⟩ := own_any (h.rows.own 0)
  rw [hd] at hv0
  obtain ⟨ga, cap, hnv⟩ := own_any h.nodes
  subst hnv
  obtain ⟨c0, c1, c2, c3, cf⟩ := h.cells
  rw [hv0] at c2
  have HT := PLift.up fun (w' : World) (hb : Below w.heap.size w w') => top_none w' b a c (cell_keep hb c2)
  have HH := PLift.up h
  have HV0 := PLift.up hv0
  have HS := PLift.up hs
  have HN := PLift.up hn
  have HO := PLift.up ho
  have HD := PLift.up hd
  have hM1 : ¬ (4096 : Int) ≤ (M.length : Int) := by omega
  have HF := PLift.up form_ok
  have k : kindE 1 = 0 := rfl
  unfold evV
  rw [k]
  clear h hd ho hs hn c0 c1 c2 c3 cf hv0
  go_enter Tryz.func9, Tryz.ntmps9
  go_upto_region 4 with (first
    | (go_at_call 25; refine (HF.down _ 1 (by decide)).mono ?_; rintro e w2 ⟨rfl, hb2⟩; have HB2 := PLift.up hb2; clear hb2)
    | (go_at_call 26; refine (HT.down _ (two_below (below_new w _) HB2.down)).mono ?_; rintro e w3 ⟨rfl, hb3⟩; have HB3 := PLift.up (two_below HB2.down hb3); clear hb3))
  have HBW := PLift.up (two_below (below_new w _) HB3.down)
  have HX3 := PLift.up (box_keep HB3.down)
  have HNX : PLift (NX w w3 B b w.heap.size #[.int .i64 1, .int .i64 0, .string ⟨#[]⟩, .bool false] (.slice ga M.length cap) (.slice ga M.length cap) (V 0) M V V L false) := ⟨⟨HH.down.below HBW.down, HX3.down, HBW.down.mono hB, hB⟩⟩
  clear HB2 HB3 HBW HX3 HT HF
  obtain ⟨d0, d2, d3, df, de⟩ := HNX.down.cells
  rw [HV0.down] at d2
  have e0 : w3.cell? ⟨w.heap.size, 0, none⟩ = some (.int .i64 1) := (de 0).trans rfl
  have e1 : w3.cell? ⟨w.heap.size, 1, none⟩ = some (.int .i64 0) := (de 1).trans rfl
  go_upto_region 22 with fail
  obtain ⟨W6, hW6⟩ : ∃ W6, W6 = w3 := ⟨_, rfl⟩
  obtain ⟨V6, hV6⟩ : ∃ V6, V6 = V := ⟨_, rfl⟩
  obtain ⟨L6, hL6⟩ : ∃ L6, L6 = L := ⟨_, rfl⟩
  have hnx6 := HNX.down
  have hz6 : V6 0 = V 0 := by rw [hV6]
  have hr6 : ∀ j, 2 * M.length < j → V6 j = .slice none 0 0 ∧ L6 j = [] := by rw [hV6, hL6]; exact HN.down
  have hs6 : ∀ j, (L6 j).length ≤ M.length + 1 := fun j => by rw [hL6]; have := HS.down j; omega
  have hl6 : L6 0 = L 0 := by rw [hL6]
  have hv6 : V 0 = V6 0 := hz6.symm
  rw [hv6, ← hW6, ← hL6, ← hV6] at hnx6
  rw [← hW6]
  clear d0 d2 d3 df de e0 e1 hv6 HNX hW6 hV6 hL6
  have HNX6 := PLift.up hnx6
  have HZ6 := PLift.up hz6
  have HR6 := PLift.up hr6
  have HS6 := PLift.up hs6
  have HL6 := PLift.up hl6
  clear hnx6 hz6 hr6 hs6 hl6
  refine wp_region_node (aF := ?_) 13 _ _ _ _ _ _ 0 HNX6.down (by omega) ⟨(HR6.down (2 * M.length + 1) (by omega)).1, (HR6.down (2 * M.length + 2) (by omega)).1⟩ rfl (by kernel_rfl) (by kernel_rfl) (by kernel_rfl) (by kernel_rfl) rfl rfl rfl rfl rfl rfl rfl rfl rfl rfl rfl rfl (by kernel_rfl) (by kernel_rfl) (by kernel_rfl) (by kernel_rfl) (by kernel_rfl) (by kernel_rfl) (by kernel_rfl) ?_ ?_ _ _ rfl rfl ?_ ?_ ?_ ?_ ?_ ?_ ?_
  rotate_left 1
  · intro ρ h0 hes
    have e1 : ρ.cell? ⟨w.heap.size, 1, none⟩ = some (.int .i64 0) := (hes 1).trans rfl
    have e2 : ρ.cell? ⟨w.heap.size, 2, none⟩ = some (.string ⟨#[]⟩) := (hes 2).trans rfl
    have e3 : ρ.cell? ⟨w.heap.size, 3, none⟩ = some (.bool false) := (hes 3).trans rfl
    clear hes
    simp only [List.take_succ_cons, List.take_zero]
    repeat (go_big_quiet_step (fail))
    refine wpQuiet_nil ?_
    exact rfl
  · intro W
    go_simp
  · intro bv; rfl
  · intro bv; rfl
  · intro bv v W; rfl
  · intro bv v W; go_simp
  · intro bv v W; go_simp
  · intro bv g m c u W h0 hf
    go_simp
  · intro g8 c8 W8 h8
    have H8 := PLift.up h8
    clear h8
    have e0 : W8.cell? ⟨w.heap.size, 0, none⟩ = some (.int .i64 1) := (H8.down.cells.2.2.2.2 0).trans rfl
    simp only [Act.put, List.setIfInBounds_toArray, List.set_cons_zero, List.set_cons_succ]
    have HC := PLift.up (bw_completed W8 B b (M.length + 1) 0 (node_done H8.down rfl (by rw [HL6.down]; exact HD.down) (by rw [HL6.down]; exact HO.down) HR6.down HS6.down) (by omega) (by omega) H8.down.Bw)
    as_aux_lemma =>
    go_wp2_with (go_at_call 27; refine HC.down.mono ?_; rintro e w9 ⟨rfl, hb9, hw9⟩; have H9 := PLift.up (And.intro hb9 hw9); clear hb9 hw9)
    refine bodyPost_ret (v := .int .i64 0) (by simp only [results, Tryz.results9]; go_simp) rfl ?_
    exact ⟨rfl, H8.down.bel.trans H9.down.1, H9.down.2⟩
end Go.Proofs.YtneohoclgnfdcaaGreatDoor
/- events.Check, on events of lists and nulls. -/
namespace Go.Proofs.YtneohoclgnfdcaaGreatDoor
open Go.RowKit
open Go.Lib
theorem next_any (w : World) (B b nn d op : Nat) (dn : Bool) (hop : op = 1 ∨ op = 2 ∨ op = 3) (hW : BW w B b nn d dn) (hd : d ≤ 33) (hn : nn ≤ 4096) (hB : B ≤ w.heap.size) :
    Calls Tryz.prog 9 #[.pointer (some ⟨b, 0, none⟩), evV op] w fun e w' => e = .returned (.int .i64 ((stp (nn, d, dn) op).1 : Int)) ∧ Below B w w' ∧ ((stp (nn, d, dn) op).1 = 0 → BW w' B b (stp (nn, d, dn) op).2.1 (stp (nn, d, dn) op).2.2.1 (stp (nn, d, dn) op).2.2.2 ∧ (stp (nn, d, dn) op).2.1 ≤ 4096 ∧ (stp (nn, d, dn) op).2.2.1 ≤ 33) := by
  by_cases h1 : dn = true ∨ (d = 0 ∧ op = 3)
  · have hs : stp (nn, d, dn) op = (21, (nn, d, dn)) := by unfold stp; rw [if_pos h1]
    rw [hs]
    refine (next_state w B b nn d op dn hop hW (by omega) hn h1).mono ?_
    rintro e w' ⟨rfl, hb⟩
    exact ⟨rfl, hb.mono hB, fun h => by cases h⟩
  have hdn : dn = false := by cases dn with | true => exact absurd (.inl rfl) h1 | false => rfl
  subst hdn
  by_cases h3 : op = 3
  · subst h3
    cases d with
    | zero => exact absurd (.inr ⟨rfl, rfl⟩) h1
    | succ D =>
      have hs : stp (nn, D + 1, false) 3 = (0, (nn, D, decide (D = 0))) := by unfold stp; rw [if_neg h1, if_pos rfl]; rfl
      rw [hs]
      refine (next_close w B b nn D hW (by omega) hn hB).mono ?_
      rintro e w' ⟨rfl, hb, h⟩
      exact ⟨rfl, hb, fun _ => ⟨h, hn, by show D ≤ 33; omega⟩⟩
  have hop2 : op = 1 ∨ op = 2 := by omega
  by_cases h4 : 32 < d
  · have hs : stp (nn, d, false) op = (5, (nn, d, false)) := by unfold stp; rw [if_neg h1, if_neg h3, if_pos h4]
    rw [hs]
    refine (next_limit w B b nn d op hop2 hW (by omega) hn 5 (.inl ⟨h4, rfl⟩)).mono ?_
    rintro e w' ⟨rfl, hb⟩
    exact ⟨rfl, hb.mono hB, fun h => by cases h⟩
  by_cases h5 : 4096 ≤ nn
  · have hs : stp (nn, d, false) op = (7, (nn, d, false)) := by unfold stp; rw [if_neg h1, if_neg h3, if_neg h4, if_pos h5]
    rw [hs]
    refine (next_limit w B b nn d op hop2 hW (by omega) hn 7 (.inr ⟨h4, by omega, rfl⟩)).mono ?_
    rintro e w' ⟨rfl, hb⟩
    exact ⟨rfl, hb.mono hB, fun h => by cases h⟩
  rcases hop2 with rfl | rfl
  · have hs : stp (nn, d, false) 1 = (0, (nn + 1, d, decide (d = 0))) := by unfold stp; rw [if_neg h1, if_neg h3, if_neg h4, if_neg h5, if_neg (by decide)]
    rw [hs]
    cases d with
    | zero =>
      refine (next_null_out w B b nn hW (by omega) hB).mono ?_
      rintro e w' ⟨rfl, hb, h⟩
      exact ⟨rfl, hb, fun _ => ⟨h, by show nn + 1 ≤ 4096; omega, hd⟩⟩
    | succ D =>
      refine (next_null_in w B b nn D hW (by omega) (by omega) hB).mono ?_
      rintro e w' ⟨rfl, hb, h⟩
      exact ⟨rfl, hb, fun _ => ⟨h, by show nn + 1 ≤ 4096; omega, hd⟩⟩
  · have hs : stp (nn, d, false) 2 = (0, (nn + 1, d + 1, false)) := by unfold stp; rw [if_neg h1, if_neg h3, if_neg h4, if_neg h5, if_pos rfl]
    rw [hs]
    cases d with
    | zero =>
      refine (next_open_out w B b nn hW (by omega) hB).mono ?_
      rintro e w' ⟨rfl, hb, h⟩
      exact ⟨rfl, hb, fun _ => ⟨h, by show nn + 1 ≤ 4096; omega, by show 0 + 1 ≤ 33; omega⟩⟩
    | succ D =>
      refine (next_open_in w B b nn D hW (by omega) (by omega) hB).mono ?_
      rintro e w' ⟨rfl, hb, h⟩
      exact ⟨rfl, hb, fun _ => ⟨h, by show nn + 1 ≤ 4096; omega, by show D + 1 + 1 ≤ 33; omega⟩⟩
theorem bw_start (w : World) : BW (w.alloc (.cells #[.slice none 0 0, .int .i64 0, .slice none 0 0, .bool false] 43)) w.heap.size w.heap.size 0 0 false := by
  refine ⟨.slice none 0 0, [], noRows, fun _ => [], ⟨Nat.le_refl _, heap_alloc_new w _, World.ownsRow_nil _ _ _ _, IRows.start _ _⟩, rfl, rfl, fun x hx => (by cases hx), fun i => Nat.le_refl _, fun i _ => ⟨rfl, rfl⟩⟩
set_option maxHeartbeats 4000000 in
set_option maxRecDepth 100000 in
theorem check_any (w : World) (lv : Value) (ops : List Nat) (hE : EvsAt w lv ops) (hops : ∀ op ∈ ops, op = 1 ∨ op = 2 ∨ op = 3) (hlen : ops.length ≤ 1000000) :
    Calls Tryz.prog 5 #[lv] w fun e w' => e = .returned (.tuple #[.int .i64 ((runE ops 0 (0, 0, false)).1 : Int), .int .i64 ((runE ops 0 (0, 0, false)).2 : Int)]) ∧ Below w.heap.size w w' := by
  have HE := PLift.up hE
  have HOPS := PLift.up hops
  obtain ⟨a, c, rfl, hev⟩ := hE
  have HEV := PLift.up hev
  have HST := PLift.up (bw_start w)
  have HBS := PLift.up (below_new w (.cells #[.slice none 0 0, .int .i64 0, .slice none 0 0, .bool false] 43))
  obtain ⟨R, hR⟩ : ∃ R, runE ops 0 (0, 0, false) = R := ⟨_, rfl⟩
  have HR := PLift.up hR
  rw [hR]
  clear hev hops hR
  go_enter Tryz.func5, Tryz.ntmps5
  go_wp2
  go_loopw [12] (fun iv wr => ∃ (i : Nat) (s : Nat × Nat × Bool), iv = .int .i64 i ∧ i ≤ ops.length ∧ BW wr w.heap.size w.heap.size s.1 s.2.1 s.2.2 ∧ s.1 ≤ 4096 ∧ s.2.1 ≤ 33 ∧ Below w.heap.size w wr ∧ runE (ops.drop i) i s = R) (fun iv _ => ops.length - (intOf iv).toNat)
  case atStart => exact ⟨0, (0, 0, false), rfl, Nat.zero_le _, HST.down, by decide, by decide, HBS.down, HR.down⟩
  case round =>
    obtain ⟨i, ⟨nn, d, dn⟩, rfl, hi, hbw, hs1, hs2, hbe, hrun⟩ := hrel
    have HBW := PLift.up hbw
    have HBE := PLift.up hbe
    have HRUN := PLift.up hrun
    have HS := PLift.up (And.intro hs1 hs2)
    clear hbw hbe hrun hs1 hs2
    by_cases hlt : i < ops.length
    · have hlt2 : (i : Int) < (ops.length : Int) := by omega
      rcases HEV.down with hnil | ⟨g, rfl, hall⟩
      · exfalso; rw [hnil] at hlt; exact Nat.not_lt_zero _ hlt
      obtain ⟨q0, q1, q2, q3⟩ := hall i ops[i] (List.getElem?_eq_getElem hlt)
      have HOP := PLift.up (HOPS.down ops[i] (List.getElem_mem hlt))
      have HDR : PLift (ops.drop i = ops[i] :: ops.drop (i + 1)) := ⟨List.drop_eq_getElem_cons hlt⟩
      have q0 := cell_keep HBE.down q0
      have q1 := cell_keep HBE.down q1
      have q2 := cell_keep HBE.down q2
      have q3 := cell_keep HBE.down q3
      generalize ops[i] = op at q0 q1 q2 q3 HOP HDR
      have HR2 := HRUN.down
      rw [HDR.down] at HR2
      unfold runE at HR2
      have HRN := PLift.up HR2
      have HNX := PLift.up (next_any (wr.alloc (.cells #[.int .i64 op, .int .i64 (kindE op), .string ⟨#[]⟩, .bool false] 25)) w.heap.size w.heap.size nn d op dn HOP.down (HBW.down.below (below_new wr _)) HS.down.2 HS.down.1 (by rw [size_new]; have := HBE.down.size; omega))
      unfold evV at HNX
      clear hall HR2
      generalize hst : stp (nn, d, dn) op = st at HRN HNX
      obtain ⟨r, nn2, d2, dn2⟩ := st
      simp only at HRN HNX
      clear hst
      by_cases hr : r = 0
      · subst hr
        rw [if_pos rfl] at HRN
        go_wp2_with (go_at_call 9; refine HNX.down.mono ?_; rintro e w2 ⟨rfl, hb2, hw2⟩; have H2 := PLift.up (And.intro hb2 (hw2 rfl)); clear hb2 hw2)
        go_roundw
        case rel => exact ⟨i + 1, (nn2, d2, dn2), by go_num, by omega, H2.down.2.1, H2.down.2.2.1, H2.down.2.2.2, (HBE.down.alloc HBE.down.size _).trans H2.down.1, HRN.down⟩
        case measure => simp [intOf]; omega
      · have hr2 : ((r : Int) != 0) = true := by simp; omega
        have hr3 : ¬ (r : Int) = 0 := by omega
        rw [if_neg hr] at HRN
        go_wp2_with (go_at_call 9; refine HNX.down.mono ?_; rintro e w2 ⟨rfl, hb2, -⟩; have H2 := PLift.up hb2; clear hb2)
        refine bodyPost_ret (v := .tuple #[.int .i64 i, .int .i64 r]) (by simp only [results, Tryz.results5]; go_simp) rfl ?_
        rw [← HRN.down]
        exact ⟨rfl, (HBE.down.alloc HBE.down.size _).trans H2.down⟩
    · obtain rfl : i = ops.length := by omega
      obtain ⟨_, _, _, _, _, _, c3⟩ := bw_cells HBW.down
      have HR2 := HRUN.down
      rw [List.drop_length] at HR2
      unfold runE at HR2
      have HRN := PLift.up HR2
      clear HR2
      cases dn with
      | true =>
        rw [if_pos rfl] at HRN
        go_wp2
        refine bodyPost_ret (v := .tuple #[.int .i64 0, .int .i64 0]) (by simp only [results, Tryz.results5]; go_simp) rfl ?_
        rw [← HRN.down]
        exact ⟨rfl, HBE.down⟩
      | false =>
        rw [if_neg (by simp)] at HRN
        go_wp2
        refine bodyPost_ret (v := .tuple #[.int .i64 ops.length, .int .i64 21]) (by simp only [results, Tryz.results5]; go_simp) rfl ?_
        rw [← HRN.down]
        exact ⟨rfl, HBE.down⟩
end Go.Proofs.YtneohoclgnfdcaaGreatDoor
