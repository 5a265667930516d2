import Derived.Laws.AppendOwn
import Derived.Lib.UnsafeStr
import Derived.WalkKit
import Derived.RegionTactic
import Derived.WalkSpells
import Derived.Lib.Hide
import Derived.Shelf.Unicode.DecodeSlow
import Derived.Lib.AppendStr
import Derived.Laws.IdiomStrings
import Derived.WalkLawsBesides
import Derived.BigQuiet
import Derived.Deep.QuietTactic
import Derived.IntWalk
import Derived.Laws.Closers25b
import Derived.Laws.EntriesVeiled
import Derived.Outline
import Derived.Deep.OwnRows
import Derived.Lib.DecodeN
import Derived.Lib.OthersKept
import Derived.Lib.TrimUEq
import Derived.Test.YtcipjifpigpfdaaGreatDoorP04
import Derived.Test.YtcipjifpigpfdaaGreatDoorRows
/- A region that draws its order: quiet operations and calls, then an append of new elements to a row of the call's own, and an assignment. -/
namespace Go.Mix
open Go.RowKit
theorem wp_region_app {P : Program} {Q : Exit → Act → World → Prop} {id : Nat} {a : Act} {w : World} {l : List Oper} (n : Nat) (ob oa os : Oper) {aF : Act} (hm : P.follows .mixedOrders = true)
    (hlen : l.length = n + 3) (hs : Region.noSelect l.toArray = true) (hB : lexTo .any l.toArray n 0 (Array.replicate l.length false) = some (List.replicate n true ++ List.replicate (l.length - n) false).toArray)
    (hd : dstsB a.tmps.size (l.take n) [] = true) (h1 : l[n]? = some ob) (h2 : l[n + 1]? = some oa) (h3 : l[n + 2]? = some os) (g1 : ob.guard = none) (g2 : oa.guard = none) (g3 : os.guard = none)
    (hr0 : Region.ready .any l.toArray (List.replicate n true ++ List.replicate 3 false).toArray = [n])
    (hr1 : Region.ready .any l.toArray ((List.replicate n true ++ List.replicate 3 false).toArray.setIfInBounds n true) = [n + 1])
    (hr2 : Region.ready .any l.toArray (((List.replicate n true ++ List.replicate 3 false).toArray.setIfInBounds n true).setIfInBounds (n + 1) true) = [n + 2])
    (hr3 : Region.ready .any l.toArray ((((List.replicate n true ++ List.replicate 3 false).toArray.setIfInBounds n true).setIfInBounds (n + 1) true).setIfInBounds (n + 2) true) = [])
    (hA : ∀ ρ : World, wpQuiet P l.toArray (fun w' => ∃ n, w' = ρ.drewN n) (fun a' => a' = aF) (l.take n) a)
    (cs : Array Value) (e : TypeId) (m c : Nat)
    (hb : ∀ W : World, (execOp aF.eval ob).run P W = .ok (.value (.slice (some ⟨W.heap.size, 0, none⟩) m c)) (W.alloc (.cells cs e)))
    (s x : Operand) (t : TypeId) (ho : oa.op = .call { callee := .builtin .append, args := #[s, x], argTypes := #[t, t] }) (base : Nat) (i : TypeInfo) (z : Value) (size bytes : Nat) (ht : P.underlying t = some (.slice e)) (hi : P.info? e = some i) (hz : i.zero = some z)
    (hsize : i.size = size) (hby : i.bytes = bytes) (hzs : z.cells.size = size) (hsz : 0 < size) (v : Value) (k : Nat) (xs : List Value) (hown : w.ownsRow base e size v k xs)
    (hsv : ∀ bv, (aF.put ob.dst bv).eval s = v) (hx : ∀ bv, (aF.put ob.dst bv).eval x = bv) (hl : cs.size = m * size) (hone : ∀ u ∈ cs.toList, u.oneCell' = true) (h63 : k + m ≤ maxLen) (hbytes : (k + m) * bytes ≤ 140737488355328) (hbase : base ≤ w.heap.size)
    (hos : ∀ bv v' W, (execOp ((aF.put ob.dst bv).put oa.dst v').eval os).run P W = .ok (.value v') W)
    (hK : ∀ v' W, W.ownsRow base e size v' (k + m) (xs ++ cs.toList) → Below base w W → Q .normal (((aF.put ob.dst (.slice (some ⟨w.heap.size, 0, none⟩) m c)).put oa.dst v').put os.dst v') W) : (Code.region id l.toArray true).wp P Q a w := by
  have kl : ∀ (W W' : World), (∃ n, W' = W.drewN n) → W'.heap = W.heap ∧ (Below base w W → Below base w W') := by
    rintro W _ ⟨n, rfl⟩
    exact ⟨rfl, fun h => ⟨h.os, h.tape, h.output, h.size, h.block⟩⟩
  have ko : ∀ (W W' : World) (v : Value) (k : Nat) (xs : List Value), W'.heap = W.heap → W.ownsRow base e size v k xs → W'.ownsRow base e size v k xs := by
    intro W W' v k xs h1 h2
    unfold World.ownsRow at *
    rw [h1]; exact h2
  refine wp_region_mix (aF := aF) n (fun W => W.heap = w.heap ∧ Below base w W) (fun _ => True) (fun w w' => ∃ n, w' = w.drewN n) hm (by omega) hs hB hd (fun w => ⟨0, rfl⟩) (fun W W' h h' => ⟨(kl W W' h').1.trans h.1, (kl W W' h').2 h.2⟩) (fun _ _ => trivial) ⟨rfl, (Below.refl base w).drew⟩ (fun ρ _ => hA ρ) ?_
  rw [show l.length - n = 3 by omega]
  refine wpU_one hr0 (by simpa using h1) (by unfold Region.wanted; rw [g1]) (fun bv W => bv = .slice (some ⟨w.heap.size, 0, none⟩) m c ∧ W.heap = w.heap.push (.cells cs e) ∧ Below base w W) (fun _ W W' h h' => ⟨h.1, (kl W W' h').1.trans h.2.1, (kl W W' h').2 h.2.2⟩) (fun _ _ _ => trivial) ?_ ?_
  · rintro W ⟨hh, hbw⟩
    rw [hb]
    exact ⟨by rw [hh], by show W.heap.push _ = _; rw [hh], hbw.alloc (by rw [hh]; exact hbase) _⟩
  rintro bv W ⟨rfl, -, -⟩
  refine wpU_one hr1 (by simpa using h2) (by unfold Region.wanted; rw [g2]) (fun v' W => W.ownsRow base e size v' (k + m) (xs ++ cs.toList) ∧ Below base w W) (fun _ W W' h h' => ⟨ko W W' _ _ _ (kl W W' h').1 h.1, (kl W W' h').2 h.2⟩) (fun _ _ _ => trivial) ?_ ?_
  · rintro W ⟨-, hh, hbw⟩
    have hsz2 : W.heap.size = w.heap.size + 1 := by rw [hh]; simp
    have hown2 : W.ownsRow base e size v k xs := ko (w.alloc (.cells cs e)) W _ _ _ hh (World.ownsRow.alloc (w := w) hown _)
    obtain ⟨v', w', hr, q2, q3, -⟩ := run_append_own (P := P) W base t oa.type e i z size bytes ht hi hz hsize hby hzs hsz v k xs hown2 ⟨w.heap.size, 0, none⟩ m c cs.toList (by simpa using hl) (by
      intro j u hj
      have e1 : (⟨w.heap.size, 0, none⟩ : Addr).add j = ⟨w.heap.size, j, none⟩ := by unfold Addr.add; split <;> simp_all
      have e2 : W.heap[w.heap.size]? = some (.cells cs e) := by rw [hh]; simp
      rw [e1]
      simp only [World.cell?, e2]
      simpa using hj) hone h63 hbytes (by omega)
    have e1 := hsv (.slice (some ⟨w.heap.size, 0, none⟩) m c)
    have e2 := hx (.slice (some ⟨w.heap.size, 0, none⟩) m c)
    unfold execOp
    simp only [ho, resolve, invoke, builtin, Sem.run_bind, Sem.run_pure, Result.andThen_ok, List.map_toArray, List.map_cons, List.map_nil, e1, e2, hr]
    exact ⟨q2, hbw.grown q3 (by omega) (fun b hb => (World.ownsRow.lt hown b hb).1)⟩
  · rintro v' W ⟨q1, q2⟩
    refine wpU_one hr2 (by simpa using h3) (by unfold Region.wanted; rw [g3]) (fun u W => u = v' ∧ W.ownsRow base e size v' (k + m) (xs ++ cs.toList) ∧ Below base w W) (fun _ W W' h h' => ⟨h.1, ko W W' _ _ _ (kl W W' h').1 h.2.1, (kl W W' h').2 h.2.2⟩) (fun _ _ _ => trivial) ?_ ?_
    · rintro W ⟨p1, p2⟩
      rw [hos]
      exact ⟨rfl, p1, p2⟩
    · rintro u W ⟨rfl, p1, p2⟩
      exact wpU_end hr3 (fun W ⟨_, p1, p2⟩ => hK _ W p1 p2)
end Go.Mix
/- A region that draws its order: operations that read, then ONE call, then operations on slots alone. -/
namespace Go.Mix
open Go.RowKit
theorem wp_region_call {P : Program} {Q : Exit → Act → World → Prop} {id : Nat} {a : Act} {w : World} {l : List Oper} (n m : Nat) (oc : Oper) {aF aG : Act} (D R : World → Prop) (v0 : Value) (f : FuncId) (args : Array Value) (hm : P.follows .mixedOrders = true)
    (hlen : l.length = n + 1 + m) (hs : Region.noSelect l.toArray = true) (hB : lexTo .any l.toArray n 0 (Array.replicate l.length false) = some (List.replicate n true ++ List.replicate (l.length - n) false).toArray)
    (hd : dstsB a.tmps.size (l.take n) [] = true) (h1 : l[n]? = some oc) (g1 : oc.guard = none)
    (hr0 : Region.ready .any l.toArray (List.replicate n true ++ List.replicate (l.length - n) false).toArray = [n])
    (hB2 : lexTo .any l.toArray m (n + 1) ((List.replicate n true ++ List.replicate (l.length - n) false).toArray.setIfInBounds n true) = some (Array.replicate l.length true))
    (hr2 : Region.ready .any l.toArray (Array.replicate l.length true) = []) (hd2 : dstsB a.tmps.size (l.drop (n + 1)) [] = true)
    (hDw : ∀ k, D (w.drewN k)) (hRT : ∀ W k, R W → R (W.drewN k)) (hRD : ∀ W, R W → D W)
    (hA : ∀ ρ : World, D ρ → wpQuiet P l.toArray (fun w' => ∃ n, w' = ρ.drewN n) (fun a' => a' = aF) (l.take n) a) (hsize : (aF.put oc.dst v0).tmps.size = a.tmps.size)
    (hc : ∀ W : World, (execOp aF.eval oc).run P W = .ok (.enter f args) W)
    (hC : ∀ k, Calls P f args (w.drewN k) fun e W => e = .returned v0 ∧ R W)
    (hA2 : ∀ ρ : World, wpQuiet P l.toArray (fun w' => ∃ n, w' = ρ.drewN n) (fun a' => a' = aG) (l.drop (n + 1)) (aF.put oc.dst v0))
    (hK : ∀ W, R W → Q .normal aG W) : (Code.region id l.toArray true).wp P Q a w := by
  refine wp_region_mix (aF := aF) n (fun W => ∃ k, W = w.drewN k) D (fun w w' => ∃ n, w' = w.drewN n) hm (by omega) hs hB hd (fun w => ⟨0, rfl⟩) ?_ ?_ ⟨1, rfl⟩ (fun ρ hρ => hA ρ hρ) ?_
  · rintro _ _ ⟨k, rfl⟩ ⟨j, rfl⟩
    exact ⟨k + j, by simp [World.drewN, Nat.add_assoc]⟩
  · rintro _ ⟨k, rfl⟩; exact hDw k
  rw [show l.length - n = m + 1 by omega]
  rw [show l.length - n = m + 1 by omega] at hr0 hB2
  refine wpU_one hr0 (by simpa using h1) (by unfold Region.wanted; rw [g1]) (fun v W => v = v0 ∧ R W) ?_ (fun _ W h => hRD W h.2) ?_ ?_
  · rintro v W _ hr ⟨k, rfl⟩; exact ⟨hr.1, hRT W k hr.2⟩
  · rintro _ ⟨k, rfl⟩
    rw [hc]
    exact (hC k).mono fun e W ⟨h1, h2⟩ => ⟨v0, h1, rfl, h2⟩
  · rintro v W ⟨rfl, hr⟩
    have := wpU_lex (P := P) (md := .any) (ops := l.toArray) (Q := Q) (T := fun w w' => ∃ n, w' = w.drewN n) (D := D) hs (fun w => ⟨0, rfl⟩) (C := fun W => v = v ∧ R W) (by rintro W _ hr ⟨k, rfl⟩; exact ⟨rfl, hRT W k hr.2⟩) (fun W h => hRD W h.2) ⟨_, hRD W hr⟩ (aF := aG) (f := 0) (listed' := Array.replicate l.length true)
      (l.drop (n + 1)) (n + 1) _ (aF.put oc.dst v) [] (fun j hj => by simp) (by rw [show (l.drop (n + 1)).length = m by simp; omega]; exact hB2) (by rw [hsize]; exact hd2) (fun ρ _ => hA2 ρ) (wpU_end hr2 (fun W hW => hK W hW.2))
    rw [show (l.drop (n + 1)).length = m by simp; omega] at this
    simpa using this
end Go.Mix
/- A region that draws its order, by an invariant over what has been listed: one step for each operation, whatever has come before it. -/
namespace Go.Proofs.YtcipjifpigpfdaaGreatDoor
open Go
section
variable {P : Program} {ops : Array Oper} {Q : Exit → Act → World → Prop} {md : Region.Mode}
/-- each operation comes after earlier ones alone -/
def edgesB (ops : Array Oper) : Bool := (List.range ops.size).all fun j => ((ops[j]?).map fun o => o.after.all fun e => decide (e.on < j)).getD true
theorem edges_of {ops : Array Oper} (h : edgesB ops = true) {j : Nat} {o : Oper} (ho : ops[j]? = some o) : ∀ e ∈ o.after, e.on < j := by
  unfold edgesB at h
  have h1 := List.all_eq_true.1 h j (List.mem_range.2 (Array.getElem?_eq_some_iff.1 ho).1)
  rw [ho] at h1
  simp only [Option.map_some, Option.getD_some, Array.all_eq_true_iff_forall_mem] at h1
  exact fun e he => of_decide_eq_true (h1 e he)
theorem all_listed {L : Array Bool} (hE : edgesB ops = true) (hr : Region.ready md ops L = []) : ∀ i, i < ops.size → L.getD i true = true := by
  intro i
  induction i using Nat.strongRecOn with
  | ind i ih =>
    intro hi
    cases hL : L.getD i true with
    | true => rfl
    | false =>
      exfalso
      have : i ∈ Region.ready md ops L := mem_ready.2 ⟨hL, ops[i], Array.getElem?_eq_getElem hi, fun e he _ => by
        have hlt := edges_of hE (Array.getElem?_eq_getElem hi) e he
        have h1 := ih e.on hlt (Nat.lt_trans hlt hi)
        have hsz : e.on < L.size := by
          rcases Nat.lt_or_ge e.on L.size with h | h
          · exact h
          · have h2 : i ≥ L.size := by omega
            rw [Array.getD_eq_getD_getElem?, Array.getElem?_eq_none h2] at hL
            cases hL
        rw [Array.getD_eq_getD_getElem?, Array.getElem?_eq_getElem hsz] at h1 ⊢
        exact h1⟩
      rw [hr] at this
      cases this
theorem wpAny_inv {I : Array Bool → Act → World → Prop} (hE : edgesB ops = true)
    (hstep : ∀ (i : Nat) (o : Oper) (L : Array Bool) (a : Act) (w : World) (K : Act → World → Prop), ops[i]? = some o → L.size = ops.size → L.getD i true = false → (∀ e ∈ o.after, Region.binds md e = true → L.getD e.on false = true) → I L a w →
      (∀ a' w', I (L.setIfInBounds i true) a' w' → K a' w') → wpOp P ops Q i K a w)
    (hend : ∀ (L : Array Bool) (a : Act) (w : World), (∀ i, i < ops.size → L.getD i true = true) → I L a w → Q .normal a w) :
    ∀ (fuel : Nat) (L : Array Bool) (a : Act) (w : World), L.size = ops.size → L.toList.count false ≤ fuel → I L a w → wpAny P md ops Q fuel L a w
  | 0, L, a, w, hs, hc, hI => by
    have hall : ∀ i, i < ops.size → L.getD i true = true := by
      intro i hi
      cases hL : L.getD i true with
      | true => rfl
      | false =>
        exfalso
        have h0 : L.toList.count false = 0 := Nat.le_zero.1 hc
        have hlt : i < L.size := by rw [hs]; exact hi
        refine List.count_eq_zero.1 h0 ?_
        rw [Array.getD_eq_getD_getElem?, Array.getElem?_eq_getElem hlt] at hL
        have hL : L[i] = false := hL
        rw [← hL]
        exact Array.getElem_mem_toList hlt
    refine ⟨?_, hend L a w hall hI⟩
    cases hr : Region.ready md ops L with
    | nil => rfl
    | cons i r =>
      have hm : i ∈ Region.ready md ops L := by rw [hr]; exact List.mem_cons_self ..
      obtain ⟨h1, o, ho, -⟩ := mem_ready.1 hm
      rw [hall i (Array.getElem?_eq_some_iff.1 ho).1] at h1
      cases h1
  | fuel + 1, L, a, w, hs, hc, hI => by
    refine ⟨fun hr => hend L a w (all_listed hE hr) hI, fun i hi => ?_⟩
    obtain ⟨h1, o, ho, h2⟩ := mem_ready.1 hi
    refine hstep i o L a w _ ho hs h1 h2 hI fun a' w' hI' => ?_
    refine wpAny_inv hE hstep hend fuel _ a' w' (by simpa using hs) ?_ hI'
    have hlt : i < L.toList.length := by rw [Array.length_toList, hs]; exact (Array.getElem?_eq_some_iff.1 ho).1
    have hLi : L.toList[i] = false := by
      rw [Array.getD_eq_getD_getElem?, Array.getElem?_eq_getElem (by simpa using hlt)] at h1
      simpa using h1
    rw [Array.toList_setIfInBounds, List.count_set hlt, hLi]
    have hp : 0 < L.toList.count false := List.count_pos_iff.2 (by rw [← hLi]; exact List.getElem_mem hlt)
    simp only [beq_self_eq_true, if_true]
    have : ((true == false) = true) = False := by simp
    simp only [this, if_false]
    omega
theorem wp_region_inv {id : Nat} {a : Act} {w : World} (hm : P.follows .mixedOrders = true) (I : Array Bool → Act → World → Prop) (hE : edgesB ops = true)
    (h0 : I (Array.replicate ops.size false) a w.drew)
    (hstep : ∀ (i : Nat) (o : Oper) (L : Array Bool) (a : Act) (w : World) (K : Act → World → Prop), ops[i]? = some o → L.size = ops.size → L.getD i true = false → (∀ e ∈ o.after, Region.binds .any e = true → L.getD e.on false = true) → I L a w →
      (∀ a' w', I (L.setIfInBounds i true) a' w' → K a' w') → wpOp P ops Q i K a w)
    (hend : ∀ (L : Array Bool) (a : Act) (w : World), (∀ i, i < ops.size → L.getD i true = true) → I L a w → Q .normal a w) : (Code.region id ops true).wp P Q a w :=
  wp_region_any hm (wpAny_inv hE hstep hend _ _ _ _ (by simp) (by simp) h0)
end
end Go.Proofs.YtcipjifpigpfdaaGreatDoor
/- Laws for rows of bytes that a call makes: an append of given bytes, of a string; the string of a row; rows under a world that has grown. -/
namespace Go.Proofs.YtcipjifpigpfdaaGreatDoor
open Go.RowKit
open Go.Lib hiding intOf
/-- v is the bytes l, in a row of its own from block B on -/
def OwnB (B : Nat) (v : Value) (l : List UInt8) (w : World) : Prop := w.ownsRow B 5 1 v l.length (byteCells l)
theorem OwnB.nil (B : Nat) (w : World) : OwnB B (.slice none 0 0) [] w := ⟨rfl, .inl ⟨rfl, rfl⟩⟩
theorem rows_below {w w' : World} {B e size n : Nat} {v : Value} {xs : List Value} (h : w.ownsRow B e size v n xs) (hb : Below w.heap.size w w') : w'.ownsRow B e size v n xs := by
  refine ⟨h.1, ?_⟩
  rcases h.2 with hn | ⟨g, cap, cur, hv, h1, h2, h3⟩
  · exact .inl hn
  · refine .inr ⟨g, cap, cur, hv, h1, ?_, h3⟩
    have hlt : g < w.heap.size := (Array.getElem?_eq_some_iff.1 h2).1
    rw [hb.block g hlt]; exact h2
theorem OwnB.below {B : Nat} {v : Value} {l : List UInt8} {w w' : World} (h : OwnB B v l w) (hb : Below w.heap.size w w') : OwnB B v l w' := rows_below h hb
theorem OwnB.alloc {B : Nat} {v : Value} {l : List UInt8} {w : World} (h : OwnB B v l w) (o : Obj) : OwnB B v l (w.alloc o) := World.ownsRow.alloc h o
theorem tabs_below {a b : Nat} {w w' : World} {B : Nat} (h : Lib.Utf8Tabs a b w) (hb : Below B w w') (ha : a < B) (hb2 : b < B) : Lib.Utf8Tabs a b w' := by
  unfold Lib.Utf8Tabs at *
  exact ⟨fun i hi => by rw [hb.cell (p := ⟨a, i, none⟩) ha]; exact h.1 i hi, fun i hi => by rw [hb.cell (p := ⟨b, _, none⟩) hb2, hb.cell (p := ⟨b, _, none⟩) hb2]; exact h.2 i hi⟩
theorem info_u8 : (Tryz.prog.info? 5).map (fun i => (i.zero, i.size, i.bytes)) = some (some (.int .u8 0), 1, 1) := by kernel_rfl
theorem byteCells_one' (l : List UInt8) : ∀ v ∈ byteCells l, v.oneCell' = true := by
  intro v hv
  simp only [byteCells, List.mem_map] at hv
  obtain ⟨b, _, rfl⟩ := hv
  rfl
/-- 'append(b, c1, .., cm)' -/
theorem app_bytes {ops : Array Oper} {rest : List Oper} {o : Oper} {a : Act} {Q : Exit → Act → World → Prop} (w : World) (hgd : o.guard = none) (s x : Operand)
    (ho : o.op = .call { callee := .builtin .append, args := #[s, x], argTypes := #[52, 52] }) {B : Nat} {v : Value} {l : List UInt8} (ns : List UInt8) (hs : a.eval s = v) (hown : OwnB B v l w)
    (c : Nat) (hx : a.eval x = .slice (some ⟨w.heap.size, 0, none⟩) ns.length c) (cs : Array Value) (hcs : cs = (byteCells ns).toArray) (hlen : l.length + ns.length ≤ 140737488355328) (hB : B ≤ w.heap.size)
    (h : ∀ v' w', OwnB B v' (l ++ ns) w' → Below B w w' → wpList Tryz.prog ops Q rest (a.put o.dst v') w') : wpList Tryz.prog ops Q (o :: rest) a (w.alloc (.cells cs 5)) := by
  obtain ⟨i0, hi, hz0, hz1, hz2⟩ := info_parts info_u8
  refine wpList_append_own _ hgd s x 52 ho B 5 i0 (.int .u8 0) 1 1 Tryz.underlying52 hi hz0 hz1 hz2 rfl (by decide) v l.length (byteCells l) hs (World.ownsRow.alloc hown _) ⟨w.heap.size, 0, none⟩ ns.length c (byteCells ns) hx (by simp [byteCells]) ?_ (byteCells_one' ns) (by unfold maxLen; omega) (by omega) (by simp; omega) ?_
  · intro j u hj
    subst hcs
    have : (⟨w.heap.size, 0, none⟩ : Addr).add j = ⟨w.heap.size, j, none⟩ := by unfold Addr.add; split <;> simp_all
    rw [this, Lib.cell_of_heap (heap_alloc_new w _)]
    simpa using hj
  · intro v' w' hown' hg _
    refine h v' w' (by unfold OwnB; rw [byteCells_append, List.length_append]; exact hown') ?_
    exact ((Below.refl B w).alloc hB _).grown hg (by simp; omega) (fun k hk => (World.ownsRow.lt hown k hk).1)
/-- 'append(b, s...)' -/
theorem app_str {ops : Array Oper} {rest : List Oper} {o : Oper} {a : Act} {Q : Exit → Act → World → Prop} (w : World) (hgd : o.guard = none) (sl x : Operand)
    (ho : o.op = .call { callee := .builtin .append, args := #[sl, x], argTypes := #[52, 9] }) {B : Nat} {v : Value} {l : List UInt8} (hs : a.eval sl = v) (hown : OwnB B v l w) (s : ByteArray) (hx : a.eval x = .string s)
    (hlen : l.length + s.size ≤ 140737488355328) (hB : B ≤ w.heap.size)
    (h : ∀ v' w', OwnB B v' (l ++ s.data.toList) w' → Below B w w' → w.grownBy w' v.ownBlock → wpList Tryz.prog ops Q rest (a.put o.dst v') w') : wpList Tryz.prog ops Q (o :: rest) a w := by
  obtain ⟨i0, hi, hz0, hz1, hz2⟩ := info_parts info_u8
  refine Lib.wpList_append_own_string _ hgd sl x 52 9 ho B 5 i0 Tryz.underlying52 Tryz.underlying9 hi hz0 hz1 hz2 v l.length (byteCells l) hs hown s hx (by unfold maxLen; omega) hlen hB ?_
  intro v' w' hown' hg _
  refine h v' w' (by unfold OwnB; rw [byteCells_append, List.length_append, ← strCells_eq]; simpa using hown') ?_ ?_
  · exact (Below.refl B w).grown hg hB (fun k hk => (World.ownsRow.lt hown k hk).1)
  · exact hg
/-- 'string(b)' -/
theorem str_of {B : Nat} {v : Value} {l : List UInt8} {w : World} (h : OwnB B v l w) : (convert 52 9 v).run Tryz.prog w = .ok (.string ⟨l.toArray⟩) w := by
  rcases h.2 with ⟨rfl, h0⟩ | ⟨g, cap, cur, rfl, h1, h2, h3, h4, h5, h6⟩
  · have : l = [] := List.length_eq_zero_iff.1 h0
    subst this
    exact run_convert_bytes_nil w 52 5 Tryz.underlying52 Tryz.underlying5 0 0 9 Tryz.underlying9
  · refine run_convert_bytes_back w 52 9 5 ⟨g, 0, none⟩ cap l Tryz.underlying52 Tryz.underlying5 Tryz.underlying9 ?_
    intro j hj
    have := World.ownsRow.cells (w := w) h rfl j (.int .u8 (l[j].toNat)) (by simp [byteCells, List.getElem?_eq_getElem hj])
    simpa using this
theorem OwnB.slice {B : Nat} {v : Value} {l : List UInt8} {w : World} (h : OwnB B v l w) : ∃ ao c, v = .slice ao l.length c := by
  rcases h.2 with ⟨rfl, h0⟩ | ⟨g, cap, cur, rfl, _⟩
  · rw [h0]; exact ⟨_, _, rfl⟩
  · exact ⟨_, _, rfl⟩
end Go.Proofs.YtcipjifpigpfdaaGreatDoor
/- The small functions of a script: a word, a name, a digit; the cut at one byte. -/
namespace Go.Proofs.YtcipjifpigpfdaaGreatDoor
open Go.RowKit
open Go.Lib hiding intOf
theorem ret_int {k : IntKind} {a b : Int} (h : a = b) : Ending.returned (.int k a) = .returned (.int k b) := by rw [h]
theorem ret_bool {a b : Bool} (h : a = b) : Ending.returned (.bool a) = .returned (.bool b) := by rw [h]
theorem ret_str {a b : ByteArray} (h : a = b) : Ending.returned (.string a) = .returned (.string b) := by rw [h]
theorem ext_list {a b : ByteArray} (h : a.data.toList = b.data.toList) : a = b := by
  cases a; cases b; simp at h; subst h; rfl
theorem bcell {W w1 : World} (hb : Below W.heap.size W w1) : (∀ b o, b < W.heap.size → w1.cell? ⟨b, o, none⟩ = W.cell? ⟨b, o, none⟩) ∧ (∀ b o, b < W.heap.size → w1.frozen? ⟨b, o, none⟩ = W.frozen? ⟨b, o, none⟩) :=
  ⟨fun b o h => hb.cell (p := ⟨b, o, none⟩) h, fun b o h => hb.frozen (p := ⟨b, o, none⟩) h⟩


theorem getD_of (s : ByteArray) (k : Nat) (h : k < s.size) : s.data.toList.getD k 0 = s[k] := by
  rw [List.getD_eq_getElem?_getD, List.getElem?_eq_getElem (by simpa using h)]; rfl
theorem cls (x : Int) :
    (¬ 97 ≤ x ∧ ¬ 65 ≤ x ∧ (x != 95) = true ∧ ¬ 48 ≤ x ∧ True) ∨ (¬ 97 ≤ x ∧ ¬ 65 ≤ x ∧ (x != 95) = true ∧ 48 ≤ x ∧ x ≤ 57) ∨ (¬ 97 ≤ x ∧ ¬ 65 ≤ x ∧ (x != 95) = true ∧ 48 ≤ x ∧ ¬ x ≤ 57)
    ∨ (¬ 97 ≤ x ∧ 65 ≤ x ∧ x ≤ 90 ∧ True ∧ True) ∨ (¬ 97 ≤ x ∧ (65 ≤ x ∧ ¬ x ≤ 90) ∧ (x != 95) = true ∧ 48 ≤ x ∧ ¬ x ≤ 57) ∨ (¬ 97 ≤ x ∧ 65 ≤ x ∧ ¬ x ≤ 90 ∧ (x != 95) = false ∧ True)
    ∨ (97 ≤ x ∧ x ≤ 122 ∧ True ∧ True ∧ True) ∨ ((97 ≤ x ∧ ¬ x ≤ 122) ∧ (65 ≤ x ∧ ¬ x ≤ 90) ∧ (x != 95) = true ∧ 48 ≤ x ∧ ¬ x ≤ 57) := by
  simp only [and_true, bne_iff_ne, ne_eq, bne_eq_false_iff_eq]; omega
end Go.Proofs.YtcipjifpigpfdaaGreatDoor
/- Graphs in memory: what a slice of nodes reads as; the indices of a graph. -/
namespace Go.Proofs.YtcipjifpigpfdaaGreatDoor
open Go.RowKit
open Go.Lib hiding intOf
/-- a slice of integers -/
def SlI (w : World) (v : Value) (l : List Int) : Prop :=
  ∃ a c, v = .slice a l.length c ∧ l.length ≤ 140737488355328 ∧ (l = [] ∨ ∃ b o, a = some ⟨b, o, none⟩ ∧ ∀ (j : Nat) (x : Int), l[j]? = some x → w.cell? ⟨b, o + j, none⟩ = some (.int .i64 x))
/-- a node of a graph -/
structure Nd where
  kind : Int
  text : ByteArray
  ord : Bool
  keys : List Int
  items : List Int
def NdAt (w : World) (b o : Nat) (n : Nd) : Prop :=
  ∃ kv iv, w.cell? ⟨b, o, none⟩ = some (.int .i64 n.kind) ∧ w.cell? ⟨b, o + 1, none⟩ = some (.string n.text) ∧ w.cell? ⟨b, o + 2, none⟩ = some (.bool n.ord) ∧ w.cell? ⟨b, o + 3, none⟩ = some kv ∧ w.cell? ⟨b, o + 4, none⟩ = some iv ∧ SlI w kv n.keys ∧ SlI w iv n.items
def NodesAt (w : World) (v : Value) (N : List Nd) : Prop :=
  ∃ a c, v = .slice a N.length c ∧ N.length ≤ 140737488355328 ∧ (N = [] ∨ ∃ b o, a = some ⟨b, o, none⟩ ∧ ∀ (i : Nat) (n : Nd), N[i]? = some n → NdAt w b (o + i * 5) n)
theorem cell_keep {w w' : World} (hb : Below w.heap.size w w') {b o : Nat} {v : Value} (h : w.cell? ⟨b, o, none⟩ = some v) : w'.cell? ⟨b, o, none⟩ = some v := by
  rw [hb.cell (p := ⟨b, o, none⟩) (World.block_lt_of_cell? w _ h)]; exact h
theorem SlI.below {w w' : World} {v : Value} {l : List Int} (h : SlI w v l) (hb : Below w.heap.size w w') : SlI w' v l := by
  obtain ⟨a, c, h1, h2, h3⟩ := h
  refine ⟨a, c, h1, h2, ?_⟩
  rcases h3 with h3 | ⟨b, o, h3, h4⟩
  · exact .inl h3
  · exact .inr ⟨b, o, h3, fun j x hj => cell_keep hb (h4 j x hj)⟩
theorem NdAt.below {w w' : World} {b o : Nat} {n : Nd} (h : NdAt w b o n) (hb : Below w.heap.size w w') : NdAt w' b o n := by
  obtain ⟨kv, iv, h0, h1, h2, h3, h4, h5, h6⟩ := h
  exact ⟨kv, iv, cell_keep hb h0, cell_keep hb h1, cell_keep hb h2, cell_keep hb h3, cell_keep hb h4, h5.below hb, h6.below hb⟩
theorem NodesAt.below {w w' : World} {v : Value} {N : List Nd} (h : NodesAt w v N) (hb : Below w.heap.size w w') : NodesAt w' v N := by
  obtain ⟨a, c, h1, h2, h3⟩ := h
  refine ⟨a, c, h1, h2, ?_⟩
  rcases h3 with h3 | ⟨b, o, h3, h4⟩
  · exact .inl h3
  · exact .inr ⟨b, o, h3, fun i n hi => (h4 i n hi).below hb⟩
theorem size_new (w : World) (o : Obj) : (w.alloc o).heap.size = w.heap.size + 1 := by simp
theorem below_new (w : World) (o : Obj) : Below w.heap.size w (w.alloc o) := (Below.refl _ w).alloc (Nat.le_refl _) o
def refsOk (n : Nat) (l : List Int) : Bool := l.all fun x => decide (0 ≤ x) && decide (x < n)
def idxOk (N : List Nd) (root : Int) : Bool := (decide (0 ≤ root) && decide (root < N.length)) && N.all fun n => refsOk N.length n.keys && refsOk N.length n.items
theorem refs_take {n k : Nat} {l : List Int} (h : k < l.length) : refsOk n (l.take (k + 1)) = (refsOk n (l.take k) && (decide (0 ≤ l[k]) && decide (l[k] < n))) := by
  unfold refsOk
  rw [List.take_succ_eq_append_getElem h, List.all_append]
  simp
theorem nodes_take {n k : Nat} {N : List Nd} (h : k < N.length) : ((N.take (k + 1)).all fun x => refsOk n x.keys && refsOk n x.items) = (((N.take k).all fun x => refsOk n x.keys && refsOk n x.items) && (refsOk n N[k].keys && refsOk n N[k].items)) := by
  rw [List.take_succ_eq_append_getElem h, List.all_append]
  simp
theorem below_two {B : Nat} {w wr : World} (h : Below B w wr) (hB : B ≤ wr.heap.size) (o1 o2 : Obj) : Below B w ((wr.alloc o1).alloc o2) := (h.alloc hB o1).alloc (by simp; omega) o2
theorem kept_two {wr : World} {b : Nat} {x : Obj} (h : wr.heap[b]? = some x) (o1 o2 : Obj) : ((wr.alloc o1).alloc o2).heap[b]? = some x := by
  have hl := (Array.getElem?_eq_some_iff.1 h).1
  rw [Lib.alloc_old _ _ _ (by simp; omega), Lib.alloc_old _ _ _ hl]; exact h
set_option maxHeartbeats 4000000 in
set_option maxRecDepth 100000 in
theorem indices_any (w : World) (v : Value) (N : List Nd) (root : Int) (h : NodesAt w v N) :
    Calls Tryz.prog 68 #[.agg #[v, .int .i64 root]] w fun e w' => e = .returned (.bool (idxOk N root)) ∧ Below w.heap.size w w' := by
  have HN := Lib.hid h
  obtain ⟨a, c, rfl, hlen, hN⟩ := h
  have HNN := Lib.hid hN
  obtain ⟨r0, hr0⟩ : ∃ r0, (decide (0 ≤ root) && decide (root < (N.length : Int))) = r0 := ⟨_, rfl⟩
  have HR0 := Lib.hid hr0
  have hcs : (r0 = false ∧ ¬ 0 ≤ root) ∨ (r0 = false ∧ 0 ≤ root ∧ ¬ root < (N.length : Int)) ∨ (r0 = true ∧ 0 ≤ root ∧ root < (N.length : Int)) := by
    by_cases h1 : 0 ≤ root
    · by_cases h2 : root < (N.length : Int)
      · exact .inr (.inr ⟨by rw [← hr0]; simp [h1, h2], h1, h2⟩)
      · exact .inr (.inl ⟨by rw [← hr0]; simp [h2], h1, h2⟩)
    · exact .inl ⟨by rw [← hr0]; simp [h1], h1⟩
  clear hN hr0
  rcases hcs with ⟨rfl, h1⟩ | ⟨rfl, h1, h2⟩ | ⟨rfl, h1, h2⟩
  all_goals
    go_enter Tryz.func68, Tryz.ntmps68
    go_wp2
    go_loopw [3, 24] (fun ov iv wr => ∃ i : Nat, i ≤ N.length ∧ iv = .int .i64 i ∧ ov = .bool ((decide (0 ≤ root) && decide (root < (N.length : Int))) && (N.take i).all fun x => refsOk N.length x.keys && refsOk N.length x.items) ∧ Below w.heap.size w wr ∧ wr.heap[w.heap.size]? = some (.cells #[.slice a N.length c, .int .i64 root] 28)) (fun _ iv _ => N.length - (intOf iv).toNat)
    case atStart => exact ⟨0, Nat.zero_le _, rfl, by rw [HR0.out]; rfl, below_new _ _, heap_alloc_new w _⟩
  all_goals
    case round =>
      obtain ⟨i, hi, rfl, rfl, hbw, hbox⟩ := hrel
      have HBW := Lib.hid hbw
      have HBOX := Lib.hid hbox
      have cb0 : wr.cell? ⟨w.heap.size, 0, none⟩ = some (.slice a N.length c) := (Lib.cell_of_heap hbox 0).trans rfl
      have hz : w.heap.size < wr.heap.size := (Array.getElem?_eq_some_iff.1 hbox).1
      by_cases hlt : i < N.length
      · have hlt2 : (i : Int) < (N.length : Int) := by omega
        have htk := nodes_take (n := N.length) hlt
        rcases HNN.out with hnil | ⟨b, o, ha, hall⟩
        · exfalso; rw [hnil] at hlt; exact Nat.not_lt_zero _ hlt
        subst ha
        obtain ⟨kv, iv, c0, c1, c2, c3, c4, hkc, hic⟩ := (hall i N[i] (List.getElem?_eq_getElem hlt)).below HBW.out
        generalize N[i] = n at c0 c1 c2 hkc hic htk
        obtain ⟨acc, hacc⟩ : ∃ acc, ((decide (0 ≤ root) && decide (root < (N.length : Int))) && (N.take i).all fun x => refsOk N.length x.keys && refsOk N.length x.items) = acc := ⟨_, rfl⟩
        have HTK : Hid (((decide (0 ≤ root) && decide (root < (N.length : Int))) && (N.take (i + 1)).all fun x => refsOk N.length x.keys && refsOk N.length x.items) = ((acc && refsOk N.length n.keys) && refsOk N.length n.items)) := by
          show _ = _
          rw [htk, ← Bool.and_assoc, hacc, Bool.and_assoc]
        rw [hacc]
        obtain ⟨ka, kc, rfl, hkl, hkc⟩ := hkc
        obtain ⟨ia, ic, rfl, hil, hic⟩ := hic
        clear hacc htk hall hbw hbox
        go_wp2
        go_loop [3, 34] (fun ov mv => (mv = .int .i64 0 ∧ ov = .bool acc) ∨ (mv = .int .i64 1 ∧ ov = .bool (acc && refsOk N.length n.keys)) ∨ (mv = .int .i64 2 ∧ ov = .bool ((acc && refsOk N.length n.keys) && refsOk N.length n.items))) (fun _ mv => 2 - (intOf mv).toNat)
        case atStart => exact .inl ⟨rfl, rfl⟩
        case round =>
          rcases hrel with ⟨rfl, rfl⟩ | ⟨rfl, rfl⟩ | ⟨rfl, rfl⟩
          · have hlc := hkc
            obtain ⟨A, hA⟩ : ∃ A, acc = A := ⟨_, rfl⟩
            have HA := Lib.hid hA
            rw [hA]
            clear hA
            go_wp2
            go_loop [3, 40] (fun ov jv => ∃ j : Nat, j ≤ n.keys.length ∧ jv = .int .i64 j ∧ ov = .bool (A && refsOk N.length (n.keys.take j))) (fun _ jv => n.keys.length - (intOf jv).toNat)
            case atStart => exact ⟨0, Nat.zero_le _, rfl, by simp [refsOk]⟩
            case round =>
              obtain ⟨j, hj, rfl, rfl⟩ := hrel
              by_cases hjl : j < n.keys.length
              · have hjl2 : (j : Int) < (n.keys.length : Int) := by omega
                rcases hlc with hnil | ⟨lb, lo, hla, hcells⟩
                · exfalso; rw [hnil] at hjl; exact Nat.not_lt_zero _ hjl
                · subst hla
                  have hx := hcells j n.keys[j] (List.getElem?_eq_getElem hjl)
                  have hlb : lb < wr.heap.size := World.block_lt_of_cell? wr _ hx
                  have HT := refs_take (n := N.length) hjl
                  have HCELLS := Lib.hid hcells
                  generalize n.keys[j] = x at hx HT
                  obtain ⟨T, hT⟩ : ∃ T, (A && refsOk N.length (n.keys.take j)) = T := ⟨_, rfl⟩
                  have HT2 : Hid ((A && refsOk N.length (n.keys.take (j + 1))) = (T && (decide (0 ≤ x) && decide (x < (N.length : Int))))) := by
                    show _ = _
                    rw [HT, ← Bool.and_assoc, hT]
                  rw [hT]
                  clear HT hT hcells
                  have fin : ∀ R, (T && (decide (0 ≤ x) && decide (x < (N.length : Int)))) = R → Hid (Value.bool R = .bool (A && refsOk N.length (n.keys.take (j + 1)))) := fun R hR => by
                    show _ = _
                    rw [HT2.out, hR]
                  cases T
                  · have HF := fin false rfl
                    clear fin
                    go_wp2
                    go_round
                    case rel => exact ⟨j + 1, by omega, by go_num, HF.out⟩
                    case measure => simp [intOf]; omega
                  · by_cases hx0 : 0 ≤ x
                    · by_cases hx1 : x < (N.length : Int)
                      · have HF := fin true (by simp [hx0, hx1])
                        clear fin
                        go_wp2
                        go_round
                        case rel => exact ⟨j + 1, by omega, by go_num, HF.out⟩
                        case measure => simp [intOf]; omega
                      · have HF := fin false (by simp [hx1])
                        clear fin
                        go_wp2
                        go_round
                        case rel => exact ⟨j + 1, by omega, by go_num, HF.out⟩
                        case measure => simp [intOf]; omega
                    · have HF := fin false (by simp [hx0])
                      clear fin
                      go_wp2
                      go_round
                      case rel => exact ⟨j + 1, by omega, by go_num, HF.out⟩
                      case measure => simp [intOf]; omega
              · obtain rfl : j = n.keys.length := by omega
                have HF : Hid (Value.bool (A && refsOk N.length (n.keys.take n.keys.length)) = Value.bool (A && refsOk N.length n.keys)) := by
                  show _ = _
                  rw [List.take_length]
                go_wp2
                go_round
                case rel => exact .inr (.inl ⟨rfl, HF.out⟩)
                case measure => decide
          · have hlc := hic
            obtain ⟨A, hA⟩ : ∃ A, (acc && refsOk N.length n.keys) = A := ⟨_, rfl⟩
            have HA := Lib.hid hA
            rw [hA]
            clear hA
            go_wp2
            go_loop [3, 40] (fun ov jv => ∃ j : Nat, j ≤ n.items.length ∧ jv = .int .i64 j ∧ ov = .bool (A && refsOk N.length (n.items.take j))) (fun _ jv => n.items.length - (intOf jv).toNat)
            case atStart => exact ⟨0, Nat.zero_le _, rfl, by simp [refsOk]⟩
            case round =>
              obtain ⟨j, hj, rfl, rfl⟩ := hrel
              by_cases hjl : j < n.items.length
              · have hjl2 : (j : Int) < (n.items.length : Int) := by omega
                rcases hlc with hnil | ⟨lb, lo, hla, hcells⟩
                · exfalso; rw [hnil] at hjl; exact Nat.not_lt_zero _ hjl
                · subst hla
                  have hx := hcells j n.items[j] (List.getElem?_eq_getElem hjl)
                  have hlb : lb < wr.heap.size := World.block_lt_of_cell? wr _ hx
                  have HT := refs_take (n := N.length) hjl
                  have HCELLS := Lib.hid hcells
                  generalize n.items[j] = x at hx HT
                  obtain ⟨T, hT⟩ : ∃ T, (A && refsOk N.length (n.items.take j)) = T := ⟨_, rfl⟩
                  have HT2 : Hid ((A && refsOk N.length (n.items.take (j + 1))) = (T && (decide (0 ≤ x) && decide (x < (N.length : Int))))) := by
                    show _ = _
                    rw [HT, ← Bool.and_assoc, hT]
                  rw [hT]
                  clear HT hT hcells
                  have fin : ∀ R, (T && (decide (0 ≤ x) && decide (x < (N.length : Int)))) = R → Hid (Value.bool R = .bool (A && refsOk N.length (n.items.take (j + 1)))) := fun R hR => by
                    show _ = _
                    rw [HT2.out, hR]
                  cases T
                  · have HF := fin false rfl
                    clear fin
                    go_wp2
                    go_round
                    case rel => exact ⟨j + 1, by omega, by go_num, HF.out⟩
                    case measure => simp [intOf]; omega
                  · by_cases hx0 : 0 ≤ x
                    · by_cases hx1 : x < (N.length : Int)
                      · have HF := fin true (by simp [hx0, hx1])
                        clear fin
                        go_wp2
                        go_round
                        case rel => exact ⟨j + 1, by omega, by go_num, HF.out⟩
                        case measure => simp [intOf]; omega
                      · have HF := fin false (by simp [hx1])
                        clear fin
                        go_wp2
                        go_round
                        case rel => exact ⟨j + 1, by omega, by go_num, HF.out⟩
                        case measure => simp [intOf]; omega
                    · have HF := fin false (by simp [hx0])
                      clear fin
                      go_wp2
                      go_round
                      case rel => exact ⟨j + 1, by omega, by go_num, HF.out⟩
                      case measure => simp [intOf]; omega
              · obtain rfl : j = n.items.length := by omega
                have HF : Hid (Value.bool (A && refsOk N.length (n.items.take n.items.length)) = Value.bool (A && refsOk N.length n.items)) := by
                  show _ = _
                  rw [List.take_length]
                go_wp2
                go_round
                case rel => exact .inr (.inr ⟨rfl, HF.out⟩)
                case measure => decide
          · go_wp2
            go_roundw
            case rel => exact ⟨i + 1, by omega, by go_num, by rw [HTK.out], below_two HBW.out HBW.out.size _ _, kept_two HBOX.out _ _⟩
            case measure => simp [intOf]; omega
      · obtain rfl : i = N.length := by omega
        have HF : Hid (idxOk N root = ((decide (0 ≤ root) && decide (root < (N.length : Int))) && (N.take N.length).all fun x => refsOk N.length x.keys && refsOk N.length x.items)) := by
          show _ = _
          rw [List.take_length]; rfl
        clear hbw hbox
        go_wp2
        go_ret
        exact ⟨ret_bool HF.out.symm, HBW.out⟩
end Go.Proofs.YtcipjifpigpfdaaGreatDoor
/- graph.reached: the marks of the nodes that a node reaches. -/
namespace Go.Proofs.YtcipjifpigpfdaaGreatDoor
open Go.RowKit
open Go.Lib hiding intOf
def nd0 : Nd := ⟨0, ⟨#[]⟩, false, [], []⟩
/-- the marks after a visit; the first number is fuel -/
def visitF (N : List Nd) : Nat → Nat → List Bool → List Bool
  | 0, _, M => M
  | f + 1, a, M => if M.getD a false then M else
    (N.getD a nd0).items.foldl (fun M x => visitF N f x.toNat M) ((N.getD a nd0).keys.foldl (fun M x => visitF N f x.toNat M) (M.set a true))
theorem fold_len {l : List Int} {F : Nat → List Bool → List Bool} (h : ∀ a M, (F a M).length = M.length ∧ (F a M).count false ≤ M.count false) : ∀ M, (l.foldl (fun M x => F x.toNat M) M).length = M.length ∧ (l.foldl (fun M x => F x.toNat M) M).count false ≤ M.count false := by
  induction l with
  | nil => intro M; exact ⟨rfl, Nat.le_refl _⟩
  | cons x l ih =>
    intro M
    simp only [List.foldl_cons]
    have h1 := ih (F x.toNat M)
    have h2 := h x.toNat M
    exact ⟨h1.1.trans h2.1, Nat.le_trans h1.2 h2.2⟩
theorem set_count {M : List Bool} {a : Nat} (h : a < M.length) (hf : M.getD a false = false) : (M.set a true).count false + 1 = M.count false := by
  have e : M[a] = false := by
    rw [List.getD_eq_getElem?_getD, List.getElem?_eq_getElem h] at hf; exact hf
  have hc := List.count_set (l := M) (a := true) (b := false) h
  have hp : 0 < M.count false := List.count_pos_iff.2 (by rw [← e]; exact List.getElem_mem h)
  rw [e] at hc
  simp at hc
  omega
theorem visit_len (N : List Nd) : ∀ f a M, (visitF N f a M).length = M.length ∧ (visitF N f a M).count false ≤ M.count false
  | 0, a, M => ⟨rfl, Nat.le_refl _⟩
  | f + 1, a, M => by
    unfold visitF
    split
    · exact ⟨rfl, Nat.le_refl _⟩
    · rename_i h
      have ih := visit_len N f
      have h1 := fold_len (l := (N.getD a nd0).keys) ih (M.set a true)
      have h2 := fold_len (l := (N.getD a nd0).items) ih ((N.getD a nd0).keys.foldl (fun M x => visitF N f x.toNat M) (M.set a true))
      refine ⟨h2.1.trans (h1.1.trans (by simp)), Nat.le_trans h2.2 (Nat.le_trans h1.2 ?_)⟩
      by_cases hl : a < M.length
      · have := set_count hl (by simpa using h); omega
      · rw [List.set_eq_of_length_le (by omega)]; exact Nat.le_refl _
/-- the world of a visit: w0 holds the graph; the marks lie in block mb -/
structure VW (w0 : World) (v : Value) (N : List Nd) (mb bm bg bv : Nat) (M : List Bool) (w : World) : Prop where
  nodes : NodesAt w0 v N
  below : Below w0.heap.size w0 w
  lo : w0.heap.size ≤ mb
  len : M.length = N.length
  marks : w.heap[mb]? = some (.cells (M.map Value.bool).toArray 4)
  box : w.cell? ⟨bm, 0, none⟩ = some (.slice (some ⟨mb, 0, none⟩) N.length N.length)
  gbox : w.cell? ⟨bg, 0, none⟩ = some v
  vbox : w.cell? ⟨bv, 0, none⟩ = some (.func (.func 116) #[] #[.pointer (some ⟨bm, 0, none⟩), .pointer (some ⟨bg, 0, none⟩), .pointer (some ⟨bv, 0, none⟩)])
  ne : bm ≠ mb ∧ bg ≠ mb ∧ bv ≠ mb
theorem VW.mark {w0 : World} {v : Value} {N : List Nd} {mb bm bg bv : Nat} {M : List Bool} {w : World} (h : VW w0 v N mb bm bg bv M w) (a : Nat) : VW w0 v N mb bm bg bv (M.set a true) (w.setCell ⟨mb, a, none⟩ (.bool true)) := by
  have hs : ∀ b o, b ≠ mb → (w.setCell ⟨mb, a, none⟩ (.bool true)).cell? ⟨b, o, none⟩ = w.cell? ⟨b, o, none⟩ := fun b o hne => by
    unfold World.cell?; simp [World.setCell, Array.getElem?_modify, Ne.symm hne]
  refine ⟨h.nodes, h.below.setCell (p := ⟨mb, a, none⟩) h.lo _, h.lo, by simp [h.len], ?_, ?_, ?_, ?_, h.ne⟩
  · simp [World.setCell, Array.getElem?_modify, h.marks, List.map_set]
  · rw [hs _ _ h.ne.1]; exact h.box
  · rw [hs _ _ h.ne.2.1]; exact h.gbox
  · rw [hs _ _ h.ne.2.2]; exact h.vbox
/-- every reference of every node is a node -/
def InRange (N : List Nd) : Prop := ∀ n ∈ N, (∀ x ∈ n.keys, 0 ≤ x ∧ x < (N.length : Int)) ∧ (∀ x ∈ n.items, 0 ≤ x ∧ x < (N.length : Int))
theorem grown_refl (w : World) (r : Option Nat) : w.grownBy w r := ⟨rfl, rfl, rfl, Nat.le_refl _, fun _ _ _ => rfl⟩
theorem grown_set (w : World) (mb a : Nat) (v : Value) : w.grownBy (w.setCell ⟨mb, a, none⟩ v) (some mb) := ⟨rfl, rfl, rfl, by simp [World.setCell], fun k _ hk => Below.heap_setCell _ _ _ _ (fun e => hk (by simp [e]))⟩
set_option maxHeartbeats 4000000 in
set_option maxRecDepth 100000 in
theorem visit_any (w0 : World) (v : Value) (N : List Nd) (mb bm bg bv : Nat) (hR : InRange N) : ∀ (f a : Nat) (M : List Bool) (w : World), M.count false < f → a < N.length → VW w0 v N mb bm bg bv M w →
    Calls Tryz.prog 116 #[.int .i64 a, .pointer (some ⟨bm, 0, none⟩), .pointer (some ⟨bg, 0, none⟩), .pointer (some ⟨bv, 0, none⟩)] w fun e w' => e = .returned (.tuple #[]) ∧ VW w0 v N mb bm bg bv (visitF N f a M) w' ∧ w.grownBy w' (some mb) ∧ w'.heap.size = w.heap.size := by
  intro f
  induction f with
  | zero => intro a M w h; exact absurd h (Nat.not_lt_zero _)
  | succ f ih =>
    intro a M w hc ha hV
    have HV := Lib.hid hV
    have HIH := Lib.hid ih
    have HR := Lib.hid hR
    have cb := hV.box
    obtain ⟨n1, n2, n3⟩ := hV.ne
    obtain ⟨va, vc, hva, hvl, hvn⟩ := hV.nodes
    have HVN := Lib.hid hvn
    clear hvn
    subst hva
    have cg := hV.gbox
    have cv := hV.vbox
    have hal : a < M.length := by rw [hV.len]; exact ha
    have cm : w.cell? ⟨mb, a, none⟩ = some (.bool M[a]) := by
      rw [Lib.cell_of_heap hV.marks]; simp [hal]
    have fm : w.frozen? ⟨mb, a, none⟩ = false := Lib.frozen_of_heap hV.marks a
    have hai : (a : Int) < (N.length : Int) := by omega
    clear hV ih hR
    rcases HVN.out with hnil | ⟨b, o, rfl, hall⟩
    · exfalso; rw [hnil] at ha; exact Nat.not_lt_zero _ ha
    have hNa : N[a]? = some N[a] := List.getElem?_eq_getElem ha
    have hn0 := hall a N[a] hNa
    have hD : N.getD a nd0 = N[a] := by rw [List.getD_eq_getElem?_getD, hNa]; rfl
    have hrng := HR.out N[a] (List.getElem_mem ha)
    generalize N[a] = n at hn0 hD hrng
    have HD := Lib.hid hD
    have HRN := Lib.hid hrng
    obtain ⟨kv, iv, c0, c1, c2, c3, c4, hkc, hic⟩ := hn0
    obtain ⟨ka, kc, rfl, hkl, hkc⟩ := hkc
    obtain ⟨ia, ic, rfl, hil, hic⟩ := hic
    have HKC := Lib.hid hkc
    have HIC := Lib.hid hic
    have C4 := Lib.hid c4
    have hblt : b < w0.heap.size := World.block_lt_of_cell? w0 _ c0
    have hbne : b ≠ mb := by have := HV.out.lo; omega
    have e3 := cell_keep HV.out.below c3
    have e4 := cell_keep HV.out.below c4
    clear hall hNa hD hrng hblt c0 c1 c2 c3 c4 hkc hic
    by_cases hm : M[a] = true
    · have HF : Hid (visitF N (f + 1) a M = M) := by
        show _ = _
        unfold visitF
        rw [if_pos (by rw [List.getD_eq_getElem?_getD, List.getElem?_eq_getElem hal]; simpa using hm)]
      rw [hm] at cm
      clear hm
      go_enter Tryz.func116, Tryz.ntmps116
      go_wp2
      refine bodyPost_ret (results_none rfl _ _ _) rfl ?_
      exact ⟨rfl, by rw [HF.out]; exact HV.out, grown_refl _ _, rfl⟩
    · have hm2 : M[a] = false := by simpa using hm
      have hmD : M.getD a false = false := by rw [List.getD_eq_getElem?_getD, List.getElem?_eq_getElem hal]; exact hm2
      have HF : Hid (visitF N (f + 1) a M = n.items.foldl (fun M x => visitF N f x.toNat M) (n.keys.foldl (fun M x => visitF N f x.toNat M) (M.set a true))) := by
        show _ = _
        conv => lhs; unfold visitF
        rw [if_neg (by rw [hmD]; decide), HD.out]
      have hct := set_count hal hmD
      have HCT : Hid ((M.set a true).count false < f) := by show (M.set a true).count false < f; omega
      rw [hm2] at cm
      have HM1 := Lib.hid (HV.out.mark a)
      clear hm hm2 hmD hct hc
      go_enter Tryz.func116, Tryz.ntmps116
      go_wp2
      go_loopw [23] (fun jv wr => ∃ (j : Nat) (M' : List Bool), jv = .int .i64 j ∧ j ≤ n.keys.length ∧ M' = (n.keys.take j).foldl (fun M x => visitF N f x.toNat M) (M.set a true) ∧ VW w0 (.slice (some ⟨b, o, none⟩) N.length vc) N mb bm bg bv M' wr ∧ w.grownBy wr (some mb) ∧ wr.heap.size = w.heap.size) (fun jv _ => n.keys.length - (intOf jv).toNat)
      case atStart => exact ⟨0, _, rfl, Nat.zero_le _, rfl, HM1.out, grown_set _ _ _ _, by simp [World.setCell]⟩
      case round =>
        obtain ⟨j, M', rfl, hj, hM', hV', hg', hz'⟩ := hrel
        have hcnt : M'.count false ≤ (M.set a true).count false := by rw [hM']; exact (fold_len (visit_len N f) _).2
        have hcf : M'.count false < f := by have := HCT.out; omega
        have HV' := Lib.hid hV'
        have HM' := Lib.hid hM'
        have HG' := Lib.hid (And.intro hg' hz')
        have HCF := Lib.hid hcf
        have cv' := hV'.vbox
        have cg' := hV'.gbox
        have d4 := cell_keep hV'.below C4.out
        clear hM' hV' hg' hz' hcnt hcf
        by_cases hjl : j < n.keys.length
        · have hjl2 : (j : Int) < (n.keys.length : Int) := by omega
          have hx := HRN.out.1 n.keys[j] (List.getElem_mem hjl)
          rcases HKC.out with hnil | ⟨lb, lo, rfl, hcells⟩
          · exfalso; rw [hnil] at hjl; exact Nat.not_lt_zero _ hjl
          have hc1 := cell_keep HV'.out.below (hcells j n.keys[j] (List.getElem?_eq_getElem hjl))
          have HTK : Hid ((n.keys.take (j + 1)).foldl (fun M x => visitF N f x.toNat M) (M.set a true) = visitF N f n.keys[j].toNat M') := by
            show _ = _
            rw [List.take_succ_eq_append_getElem hjl, List.foldl_append, ← HM'.out]; rfl
          generalize n.keys[j] = x at hx hc1 HTK
          obtain ⟨k, rfl⟩ := Int.eq_ofNat_of_zero_le hx.1
          have hk : k < N.length := by have := hx.2; omega
          have HCELLS := Lib.hid hcells
          clear hcells hx
          go_wp2_with (go_at_call 116; refine (HIH.out k M' wr HCF.out hk HV'.out).mono ?_; rintro e w3 ⟨rfl, hV3, hg3, hz3⟩; have H3 := Lib.hid (And.intro hV3 (And.intro hg3 hz3)); clear hV3 hg3 hz3)
          go_roundw
          case rel =>
            refine ⟨j + 1, _, by go_num, by omega, HTK.out.symm, ?_, HG'.out.1.trans H3.out.2.1, H3.out.2.2.trans HG'.out.2⟩
            exact H3.out.1
          case measure => simp [intOf]; omega
        · obtain rfl : j = n.keys.length := by omega
          have HE : Hid (M' = n.keys.foldl (fun M x => visitF N f x.toNat M) (M.set a true)) := by
            show _ = _
            rw [HM'.out, List.take_length]
          go_wp2
          go_loopw [38] (fun jv wr => ∃ (j : Nat) (M' : List Bool), jv = .int .i64 j ∧ j ≤ n.items.length ∧ M' = (n.items.take j).foldl (fun M x => visitF N f x.toNat M) (n.keys.foldl (fun M x => visitF N f x.toNat M) (M.set a true)) ∧ VW w0 (.slice (some ⟨b, o, none⟩) N.length vc) N mb bm bg bv M' wr ∧ w.grownBy wr (some mb) ∧ wr.heap.size = w.heap.size) (fun jv _ => n.items.length - (intOf jv).toNat)
          case atStart => exact ⟨0, M', rfl, Nat.zero_le _, HE.out, HV'.out, HG'.out.1, HG'.out.2⟩
          case round =>
            obtain ⟨j, M', rfl, hj, hM', hV', hg', hz'⟩ := hrel
            have hcnt : M'.count false ≤ (M.set a true).count false := by rw [hM']; exact Nat.le_trans (fold_len (visit_len N f) _).2 (fold_len (visit_len N f) _).2
            have hcf : M'.count false < f := by have := HCT.out; omega
            have HV' := Lib.hid hV'
            have HM' := Lib.hid hM'
            have HG' := Lib.hid (And.intro hg' hz')
            have HCF := Lib.hid hcf
            have cv' := hV'.vbox
            have cg' := hV'.gbox
            have d4 := cell_keep hV'.below C4.out
            clear hM' hV' hg' hz' hcnt hcf
            by_cases hjl : j < n.items.length
            · have hjl2 : (j : Int) < (n.items.length : Int) := by omega
              have hx := HRN.out.2 n.items[j] (List.getElem_mem hjl)
              rcases HIC.out with hnil | ⟨lb, lo, rfl, hcells⟩
              · exfalso; rw [hnil] at hjl; exact Nat.not_lt_zero _ hjl
              have hc1 := cell_keep HV'.out.below (hcells j n.items[j] (List.getElem?_eq_getElem hjl))
              have HTK : Hid ((n.items.take (j + 1)).foldl (fun M x => visitF N f x.toNat M) (n.keys.foldl (fun M x => visitF N f x.toNat M) (M.set a true)) = visitF N f n.items[j].toNat M') := by
                show _ = _
                rw [List.take_succ_eq_append_getElem hjl, List.foldl_append, ← HM'.out]; rfl
              generalize n.items[j] = x at hx hc1 HTK
              obtain ⟨k, rfl⟩ := Int.eq_ofNat_of_zero_le hx.1
              have hk : k < N.length := by have := hx.2; omega
              have HCELLS := Lib.hid hcells
              clear hcells hx
              go_wp2_with (go_at_call 116; refine (HIH.out k M' wr HCF.out hk HV'.out).mono ?_; rintro e w3 ⟨rfl, hV3, hg3, hz3⟩; have H3 := Lib.hid (And.intro hV3 (And.intro hg3 hz3)); clear hV3 hg3 hz3)
              go_roundw
              case rel =>
                refine ⟨j + 1, _, by go_num, by omega, HTK.out.symm, ?_, HG'.out.1.trans H3.out.2.1, H3.out.2.2.trans HG'.out.2⟩
                exact H3.out.1
              case measure => simp [intOf]; omega
            · obtain rfl : j = n.items.length := by omega
              have HE : Hid (M' = n.items.foldl (fun M x => visitF N f x.toNat M) (n.keys.foldl (fun M x => visitF N f x.toNat M) (M.set a true))) := by
                show _ = _
                rw [HM'.out, List.take_length]
              go_wp2
              go_end0
              exact ⟨rfl, by rw [HF.out, ← HE.out]; exact HV'.out, HG'.out.1, HG'.out.2⟩
end Go.Proofs.YtcipjifpigpfdaaGreatDoor
/- graph.reached, graph.counts, graph.inKeys. -/
namespace Go.Proofs.YtcipjifpigpfdaaGreatDoor
open Go.RowKit
open Go.Lib hiding intOf
theorem count_le (M : List Bool) : M.count false ≤ M.length := List.count_le_length
set_option maxHeartbeats 4000000 in
set_option maxRecDepth 100000 in
theorem reached_any (w0 w : World) (v : Value) (N : List Nd) (root : Int) (a mb : Nat) (M : List Bool) (hN : NodesAt w0 v N) (hR : InRange N) (hb : Below w0.heap.size w0 w) (hlo : w0.heap.size ≤ mb) (hM : M.length = N.length) (hm : w.heap[mb]? = some (.cells (M.map Value.bool).toArray 4)) (ha : a < N.length) :
    Calls Tryz.prog 69 #[.agg #[v, .int .i64 root], .int .i64 a, .slice (some ⟨mb, 0, none⟩) N.length N.length] w fun e w' => e = .returned (.tuple #[]) ∧ w.grownBy w' (some mb) ∧ w'.heap[mb]? = some (.cells ((visitF N (N.length + 1) a M).map Value.bool).toArray 4) := by
  have hml : mb < w.heap.size := (Array.getElem?_eq_some_iff.1 hm).1
  have hcl : M.count false < N.length + 1 := by have := count_le M; omega
  have HV := visit_any w0 v N mb (w.heap.size + 1) w.heap.size (w.heap.size + 1 + 1) hR (N.length + 1) a M
  have H := Lib.hid (And.intro hN (And.intro hb (And.intro hlo (And.intro hM (And.intro hm (And.intro ha (And.intro hml (And.intro hcl HV))))))))
  obtain ⟨va, vc, rfl, hvl, _⟩ := hN
  clear hb hlo hM hm ha hml hcl HV hR
  go_enter Tryz.func69, Tryz.ntmps69
  go_wp2_with (go_at_call 116; refine (H.out.2.2.2.2.2.2.2.2 _ H.out.2.2.2.2.2.2.2.1 H.out.2.2.2.2.2.1 ?_).mono ?_)
  · obtain ⟨hN, hb, hlo, hM, hm, ha, hml, hcl, _⟩ := H.out
    have hb3 := ((hb.alloc hb.size (.cells #[.slice va N.length vc, .int .i64 root] 28)).alloc (by simp; have := hb.size; omega) (.cells #[.slice (some ⟨mb, 0, none⟩) N.length N.length] 90)).alloc (by simp; have := hb.size; omega) (.cells #[.func (.func 116) #[] #[.pointer (some ⟨w.heap.size + 1, 0, none⟩), .pointer (some ⟨w.heap.size, 0, none⟩), .pointer (some ⟨w.heap.size + 1 + 1, 0, none⟩)]] 98)
    refine ⟨hN, hb3, hlo, hM, ?_, ?_, ?_, ?_, by omega, by omega, by omega⟩
    · rw [Lib.alloc_old _ _ _ (by simp; omega), Lib.alloc_old _ _ _ (by simp; omega), Lib.alloc_old _ _ _ hml]; exact hm
    · go_simp
    · go_simp
    · go_simp
  · rintro e w' ⟨rfl, hV, hg, hz⟩
    go_wp2
    go_end0
    obtain ⟨hN, hb, hlo, hM, hm, ha, hml, hcl, _⟩ := H.out
    refine ⟨rfl, ?_, hV.marks⟩
    exact (((World.grownBy_alloc _ _ _).trans (World.grownBy_alloc _ _ _)).trans (World.grownBy_alloc _ _ _)).trans hg
end Go.Proofs.YtcipjifpigpfdaaGreatDoor
/- graph.counts and graph.inKeys. -/
namespace Go.Proofs.YtcipjifpigpfdaaGreatDoor
open Go.RowKit
open Go.Lib hiding intOf
def incr (C : List Int) (x : Int) : List Int := C.set x.toNat (wrap64 (C.getD x.toNat 0 + 1))
def cntN (C : List Int) (n : Nd) : List Int := n.items.foldl incr (n.keys.foldl incr C)
def cntF (N : List Nd) (root : Int) : List Int := N.foldl cntN (incr (List.replicate N.length 0) root)
theorem incr_len (C : List Int) (x : Int) : (incr C x).length = C.length := by simp [incr]
theorem incrs_len (l : List Int) : ∀ C : List Int, (l.foldl incr C).length = C.length := by
  induction l with
  | nil => intro C; rfl
  | cons x l ih => intro C; simp only [List.foldl_cons]; rw [ih, incr_len]
/-- the world of counts: the box at B, the numbers at B + 1 -/
structure CW (w : World) (N : List Nd) (bx : Array Value) (C : List Int) (wr : World) : Prop where
  below : Below w.heap.size w wr
  box : wr.heap[w.heap.size]? = some (.cells bx 28)
  row : wr.heap[w.heap.size + 1]? = some (.cells (C.map (Value.int .i64)).toArray 3)
  len : C.length = N.length
theorem CW.alloc {w : World} {N : List Nd} {bx : Array Value} {C : List Int} {wr : World} (h : CW w N bx C wr) (o : Obj) : CW w N bx C (wr.alloc o) :=
  ⟨h.below.alloc h.below.size o, by rw [Lib.alloc_old _ _ _ (Array.getElem?_eq_some_iff.1 h.box).1]; exact h.box, by rw [Lib.alloc_old _ _ _ (Array.getElem?_eq_some_iff.1 h.row).1]; exact h.row, h.len⟩
theorem CW.set {w : World} {N : List Nd} {bx : Array Value} {C : List Int} {wr : World} (h : CW w N bx C wr) (k : Nat) (x : Int) : CW w N bx (C.set k x) (wr.setCell ⟨w.heap.size + 1, k, none⟩ (.int .i64 x)) := by
  refine ⟨h.below.setCell (p := ⟨w.heap.size + 1, k, none⟩) (by show w.heap.size ≤ w.heap.size + 1; omega) _, ?_, ?_, by simp [h.len]⟩
  · simp [World.setCell, Array.getElem?_modify, h.box]
  · simp [World.setCell, Array.getElem?_modify, h.row, List.map_set]
theorem set_far {w : World} {b k c : Nat} (v : Value) (h : c ≠ b) : (w.setCell ⟨b, k, none⟩ v).heap[c]? = w.heap[c]? := by
  simp [World.setCell, Array.getElem?_modify, Ne.symm h]
theorem cw_start (w : World) (N : List Nd) (bx : Array Value) : CW w N bx (List.replicate N.length 0) ((w.alloc (.cells bx 28)).alloc (.cells (Array.replicate N.length (.int .i64 0)) 3)) := by
  have s1 : (w.alloc (.cells bx 28)).heap.size = w.heap.size + 1 := by simp
  refine ⟨((Below.refl _ w).alloc (Nat.le_refl _) _).alloc (by simp) _, ?_, ?_, by simp⟩
  · rw [Lib.alloc_old _ _ _ (by simp)]; exact heap_alloc_new w _
  · rw [← s1, heap_alloc_new]; simp
theorem info_int0 : (Tryz.prog.info? 3).map (fun i => (i.zero, i.size, i.bytes)) = some (some (.int .i64 0), 1, 8) := by kernel_rfl
theorem info_bool0 : (Tryz.prog.info? 4).map (fun i => (i.zero, i.size, i.bytes)) = some (some (.bool false), 1, 1) := by kernel_rfl
theorem made_rep (z : Value) (n : Nat) : madeCells #[z] n = Array.replicate n z := by
  apply Array.ext
  · simp [madeCells]
  · intro i h1 h2
    simp [madeCells, Nat.mod_one]
/-- 'make([]T, n)': the world behind it is a letter -/
theorem make_letter {T E bytes : Nat} {z : Value} (hT : Tryz.prog.underlying T = some (.slice E)) (hinfo : (Tryz.prog.info? E).map (fun i => (i.zero, i.size, i.bytes)) = some (some z, 1, bytes)) (hz1 : z.cells = #[z]) (w : World) {ops : Array Oper} {rest : List Oper} {o : Oper} {a : Act} {Q : Exit → Act → World → Prop}
    (hg : o.guard = none) (l c : Operand) (hop : o.op = Op.makeSlice T l c) (n H : Nat) (hl : a.eval l = .int .i64 (n : Int)) (hc : a.eval c = .int .i64 (n : Int)) (hbytes : bytes * n ≤ 281474976710656) (h63 : n ≤ 9223372036854775807) (hH : w.heap.size = H)
    (hK : ∀ W, Hid (W = w.alloc (.cells (Array.replicate n z) E)) → wpList Tryz.prog ops Q rest (a.put o.dst (.slice (some ⟨H, 0, none⟩) n n)) W) : wpList Tryz.prog ops Q (o :: rest) a w := by
  obtain ⟨i, hi, hz, hs, hb⟩ := info_parts hinfo
  subst hH
  refine wpList_make_row w hg l c T hop E i z hT hi hz hs hz1 .i64 .i64 n hl hc (by rw [hb]; exact hbytes) h63 ?_
  rw [made_rep]
  exact hK _ rfl
set_option maxHeartbeats 4000000 in
set_option maxRecDepth 100000 in
theorem counts_any (w : World) (v : Value) (N : List Nd) (root : Nat) (hN : NodesAt w v N) (hR : InRange N) (hroot : root < N.length) (hn : N.length ≤ 4096) :
    Calls Tryz.prog 71 #[.agg #[v, .int .i64 root]] w fun e w' => e = .returned (.slice (some ⟨w.heap.size + 1, 0, none⟩) N.length N.length) ∧ Below w.heap.size w w' ∧ w'.heap[w.heap.size + 1]? = some (.cells ((cntF N root).map (Value.int .i64)).toArray 3) := by
  have HN := Lib.hid hN
  have HR := Lib.hid hR
  obtain ⟨va, vc, rfl, hvl, hvn⟩ := hN
  have HVN := Lib.hid hvn
  have hroot2 : (root : Int) < (N.length : Int) := by omega
  have hroot3 : (0 : Int) ≤ root := by omega
  clear hR hvn
  go_enter Tryz.func71, Tryz.ntmps71
  go_wp2_with (refine make_letter Tryz.underlying23 info_int0 rfl _ rfl _ _ rfl N.length (w.heap.size + 1) rfl rfl (by omega) (by omega) (size_new _ _) ?_)
  intro W hW
  have HC0 : Hid (CW w N #[.slice va N.length vc, .int .i64 root] (List.replicate N.length 0) W) := by
    show CW w N #[.slice va N.length vc, .int .i64 root] (List.replicate N.length 0) W
    rw [hW.out]; exact cw_start w N _
  have c1 : W.cell? ⟨w.heap.size, 1, none⟩ = some (.int .i64 root) := (Lib.cell_of_heap HC0.out.box 1).trans rfl
  have c0 : W.cell? ⟨w.heap.size, 0, none⟩ = some (.slice va N.length vc) := (Lib.cell_of_heap HC0.out.box 0).trans rfl
  have cr : W.cell? ⟨w.heap.size + 1, root, none⟩ = some (.int .i64 0) := by rw [Lib.cell_of_heap HC0.out.row]; simp [hroot]
  have fr : W.frozen? ⟨w.heap.size + 1, root, none⟩ = false := Lib.frozen_of_heap HC0.out.row root
  have HC1 : Hid (CW w N #[.slice va N.length vc, .int .i64 root] (incr (List.replicate N.length 0) root) (W.setCell ⟨w.heap.size + 1, root, none⟩ (.int .i64 1))) := by
    have h := HC0.out.set root 1
    have e : incr (List.replicate N.length 0) root = (List.replicate N.length 0).set root 1 := by
      unfold incr
      simp only [Int.toNat_natCast]
      rw [List.getD_eq_getElem?_getD, List.getElem?_replicate, if_pos hroot]
      have h1 : wrap64 ((some (0 : Int)).getD 0 + 1) = 1 := by simp [wrap64]
      rw [h1]
    show CW w N #[.slice va N.length vc, .int .i64 root] (incr (List.replicate N.length 0) root) _
    rw [e]; exact h
  have hz1 : w.heap.size < W.heap.size := (Array.getElem?_eq_some_iff.1 HC0.out.box).1
  go_wp2
  go_loopw [24] (fun iv wr => ∃ (i : Nat) (C : List Int), iv = .int .i64 i ∧ i ≤ N.length ∧ C = (N.take i).foldl cntN (incr (List.replicate N.length 0) root) ∧ CW w N #[.slice va N.length vc, .int .i64 root] C wr) (fun iv _ => N.length - (intOf iv).toNat)
  case atStart => exact ⟨0, _, rfl, Nat.zero_le _, rfl, HC1.out⟩
  case round =>
    obtain ⟨i, C, rfl, hi, hC, hcw⟩ := hrel
    have HCW := Lib.hid hcw
    have HC := Lib.hid hC
    by_cases hlt : i < N.length
    · have hlt2 : (i : Int) < (N.length : Int) := by omega
      rcases HVN.out with hnil | ⟨b, o, rfl, hall⟩
      · exfalso; rw [hnil] at hlt; exact Nat.not_lt_zero _ hlt
      have hn0 := hall i N[i] (List.getElem?_eq_getElem hlt)
      have hrng := HR.out N[i] (List.getElem_mem hlt)
      have HTKN : Hid ((N.take (i + 1)).foldl cntN (incr (List.replicate N.length 0) root) = cntN C N[i]) := by
        show _ = _
        rw [List.take_succ_eq_append_getElem hlt, List.foldl_append, ← HC.out]; rfl
      generalize N[i] = n at hn0 hrng HTKN
      have HRN := Lib.hid hrng
      obtain ⟨kv, iv, c0, c1, c2, c3, c4, hkc, hic⟩ := hn0
      obtain ⟨ka, kc, rfl, hkl, hkc⟩ := hkc
      obtain ⟨ia, ic, rfl, hil, hic⟩ := hic
      have HKC := Lib.hid hkc
      have HIC := Lib.hid hic
      have d0 := cell_keep hcw.below c0
      have d1 := cell_keep hcw.below c1
      have d2 := cell_keep hcw.below c2
      have d3 := cell_keep hcw.below c3
      have d4 := cell_keep hcw.below c4
      obtain ⟨Hn, hHn⟩ : ∃ Hn, wr.heap.size = Hn := ⟨_, rfl⟩
      have HHN : Hid (Hn ≠ w.heap.size + 1) := by
        have := (Array.getElem?_eq_some_iff.1 hcw.row).1
        show Hn ≠ w.heap.size + 1; omega
      have HNEW : Hid ((wr.alloc (.cells #[.int .i64 n.kind, .string n.text, .bool n.ord, .slice ka n.keys.length kc, .slice ia n.items.length ic] 25)).heap[Hn]? = some (.cells #[.int .i64 n.kind, .string n.text, .bool n.ord, .slice ka n.keys.length kc, .slice ia n.items.length ic] 25)) := by
        show _ = _
        rw [← hHn]; exact heap_alloc_new wr _
      clear hall hC hcw hrng hkc hic c0 c1 c2 c3 c4
      go_wp2
      go_loopw [31] (fun jv wr => ∃ (j : Nat) (D : List Int), jv = .int .i64 j ∧ j ≤ n.keys.length ∧ D = (n.keys.take j).foldl incr C ∧ CW w N #[.slice (some ⟨b, o, none⟩) N.length vc, .int .i64 root] D wr ∧ wr.heap[Hn]? = some (.cells #[.int .i64 n.kind, .string n.text, .bool n.ord, .slice ka n.keys.length kc, .slice ia n.items.length ic] 25)) (fun jv _ => n.keys.length - (intOf jv).toNat)
      case atStart => exact ⟨0, _, rfl, Nat.zero_le _, rfl, HCW.out.alloc _, HNEW.out⟩
      case round =>
        obtain ⟨j, D, rfl, hj, hD, hcw, hnb⟩ := hrel
        have HCW := Lib.hid hcw
        have HD := Lib.hid hD
        have HNB := Lib.hid hnb
        by_cases hjl : j < n.keys.length
        · have hjl2 : (j : Int) < (n.keys.length : Int) := by omega
          have hx := HRN.out.1 n.keys[j] (List.getElem_mem hjl)
          rcases HKC.out with hnil | ⟨lb, lo, rfl, hcells⟩
          · exfalso; rw [hnil] at hjl; exact Nat.not_lt_zero _ hjl
          have hc1 := cell_keep hcw.below (hcells j n.keys[j] (List.getElem?_eq_getElem hjl))
          have HTK : Hid ((n.keys.take (j + 1)).foldl incr C = incr D n.keys[j]) := by
            show _ = _
            rw [List.take_succ_eq_append_getElem hjl, List.foldl_append, ← HD.out]; rfl
          generalize n.keys[j] = x at hx hc1 HTK
          obtain ⟨k, rfl⟩ := Int.eq_ofNat_of_zero_le hx.1
          have hk : k < D.length := by rw [hcw.len]; have := hx.2; omega
          have hk2 : (k : Int) < (N.length : Int) := hx.2
          have hck : wr.cell? ⟨w.heap.size + 1, k, none⟩ = some (.int .i64 D[k]) := by rw [Lib.cell_of_heap hcw.row]; simp [hk]
          have hfk : wr.frozen? ⟨w.heap.size + 1, k, none⟩ = false := Lib.frozen_of_heap hcw.row k
          have HIN : Hid (incr D (k : Int) = D.set k (wrap64 (D[k] + 1))) := by
            show _ = _
            unfold incr
            simp only [Int.toNat_natCast]
            rw [List.getD_eq_getElem?_getD, List.getElem?_eq_getElem hk]; rfl
          have HCELLS := Lib.hid hcells
          generalize D[k] = y at hck HIN
          clear hcells hx hD hcw hnb hk
          go_wp2
          go_roundw
          case rel =>
            refine ⟨j + 1, _, by go_num, by omega, HTK.out.symm, ?_, ?_⟩
            · rw [HIN.out]; exact HCW.out.set k _
            · rw [set_far _ HHN.out]; exact HNB.out
          case measure => simp [intOf]; omega
        · obtain rfl : j = n.keys.length := by omega
          have HE : Hid (D = n.keys.foldl incr C) := by
            show _ = _
            rw [HD.out, List.take_length]
          have b4 : wr.cell? ⟨Hn, 4, none⟩ = some (.slice ia n.items.length ic) := (Lib.cell_of_heap hnb 4).trans rfl
          clear hD hcw hnb
          go_wp2
          go_loopw [45] (fun jv wr => ∃ (j : Nat) (D : List Int), jv = .int .i64 j ∧ j ≤ n.items.length ∧ D = (n.items.take j).foldl incr (n.keys.foldl incr C) ∧ CW w N #[.slice (some ⟨b, o, none⟩) N.length vc, .int .i64 root] D wr ∧ wr.heap[Hn]? = some (.cells #[.int .i64 n.kind, .string n.text, .bool n.ord, .slice ka n.keys.length kc, .slice ia n.items.length ic] 25)) (fun jv _ => n.items.length - (intOf jv).toNat)
          case atStart => exact ⟨0, D, rfl, Nat.zero_le _, HE.out, HCW.out, HNB.out⟩
          case round =>
            obtain ⟨j, D, rfl, hj, hD, hcw, hnb⟩ := hrel
            have HCW := Lib.hid hcw
            have HD := Lib.hid hD
            have HNB := Lib.hid hnb
            by_cases hjl : j < n.items.length
            · have hjl2 : (j : Int) < (n.items.length : Int) := by omega
              have hx := HRN.out.2 n.items[j] (List.getElem_mem hjl)
              rcases HIC.out with hnil | ⟨lb, lo, rfl, hcells⟩
              · exfalso; rw [hnil] at hjl; exact Nat.not_lt_zero _ hjl
              have hc1 := cell_keep hcw.below (hcells j n.items[j] (List.getElem?_eq_getElem hjl))
              have HTK : Hid ((n.items.take (j + 1)).foldl incr (n.keys.foldl incr C) = incr D n.items[j]) := by
                show _ = _
                rw [List.take_succ_eq_append_getElem hjl, List.foldl_append, ← HD.out]; rfl
              generalize n.items[j] = x at hx hc1 HTK
              obtain ⟨k, rfl⟩ := Int.eq_ofNat_of_zero_le hx.1
              have hk : k < D.length := by rw [hcw.len]; have := hx.2; omega
              have hk2 : (k : Int) < (N.length : Int) := hx.2
              have hck : wr.cell? ⟨w.heap.size + 1, k, none⟩ = some (.int .i64 D[k]) := by rw [Lib.cell_of_heap hcw.row]; simp [hk]
              have hfk : wr.frozen? ⟨w.heap.size + 1, k, none⟩ = false := Lib.frozen_of_heap hcw.row k
              have HIN : Hid (incr D (k : Int) = D.set k (wrap64 (D[k] + 1))) := by
                show _ = _
                unfold incr
                simp only [Int.toNat_natCast]
                rw [List.getD_eq_getElem?_getD, List.getElem?_eq_getElem hk]; rfl
              have HCELLS := Lib.hid hcells
              generalize D[k] = y at hck HIN
              clear hcells hx hD hcw hnb hk
              go_wp2
              go_roundw
              case rel =>
                refine ⟨j + 1, _, by go_num, by omega, HTK.out.symm, ?_, ?_⟩
                · rw [HIN.out]; exact HCW.out.set k _
                · rw [set_far _ HHN.out]; exact HNB.out
              case measure => simp [intOf]; omega
            · obtain rfl : j = n.items.length := by omega
              have HE : Hid (D = n.items.foldl incr (n.keys.foldl incr C)) := by
                show _ = _
                rw [HD.out, List.take_length]
              have b4 : wr.cell? ⟨Hn, 4, none⟩ = some (.slice ia n.items.length ic) := (Lib.cell_of_heap hnb 4).trans rfl
              clear hD hcw hnb
              go_wp2
              go_roundw
              case rel => exact ⟨i + 1, _, by go_num, by omega, rfl, by rw [HTKN.out]; unfold cntN; rw [← HE.out]; exact HCW.out⟩
              case measure => simp [intOf]; omega
    · obtain rfl : i = N.length := by omega
      have HE : Hid (C = cntF N root) := by
        show _ = _
        rw [HC.out, List.take_length]; rfl
      clear hC hcw
      go_wp2
      go_ret
      exact ⟨rfl, HCW.out.below, by rw [← HE.out]; exact HCW.out.row⟩
end Go.Proofs.YtcipjifpigpfdaaGreatDoor
/- graph.inKeys: the marks of the nodes of keys. -/
namespace Go.Proofs.YtcipjifpigpfdaaGreatDoor
open Go.RowKit
open Go.Lib hiding intOf
def inkN (N : List Nd) (M : List Bool) (n : Nd) : List Bool := n.keys.foldl (fun M x => visitF N (N.length + 1) x.toNat M) M
def inkF (N : List Nd) : List Bool := N.foldl (inkN N) (List.replicate N.length false)
/-- the world of inKeys: the box at B, the marks at B + 1 -/
structure IW (w : World) (N : List Nd) (bx : Array Value) (M : List Bool) (wr : World) : Prop where
  below : Below w.heap.size w wr
  box : wr.heap[w.heap.size]? = some (.cells bx 28)
  row : wr.heap[w.heap.size + 1]? = some (.cells (M.map Value.bool).toArray 4)
  len : M.length = N.length
theorem IW.alloc {w : World} {N : List Nd} {bx : Array Value} {M : List Bool} {wr : World} (h : IW w N bx M wr) (o : Obj) : IW w N bx M (wr.alloc o) :=
  ⟨h.below.alloc h.below.size o, by rw [Lib.alloc_old _ _ _ (Array.getElem?_eq_some_iff.1 h.box).1]; exact h.box, by rw [Lib.alloc_old _ _ _ (Array.getElem?_eq_some_iff.1 h.row).1]; exact h.row, h.len⟩
theorem iw_start (w : World) (N : List Nd) (bx : Array Value) : IW w N bx (List.replicate N.length false) ((w.alloc (.cells bx 28)).alloc (.cells (Array.replicate N.length (.bool false)) 4)) := by
  have s1 : (w.alloc (.cells bx 28)).heap.size = w.heap.size + 1 := by simp
  refine ⟨((Below.refl _ w).alloc (Nat.le_refl _) _).alloc (by simp) _, ?_, ?_, by simp⟩
  · rw [Lib.alloc_old _ _ _ (by simp)]; exact heap_alloc_new w _
  · rw [← s1, heap_alloc_new]; simp
theorem IW.step {w : World} {N : List Nd} {bx : Array Value} {M M' : List Bool} {wr w' : World} (h : IW w N bx M wr) (hg : wr.grownBy w' (some (w.heap.size + 1))) (hm : w'.heap[w.heap.size + 1]? = some (.cells (M'.map Value.bool).toArray 4)) (hl : M'.length = M.length) : IW w N bx M' w' :=
  ⟨h.below.grown hg h.below.size (fun k hk => by have e := Option.some.inj hk; omega), by rw [hg.block _ (Array.getElem?_eq_some_iff.1 h.box).1 (by simp)]; exact h.box, hm, hl.trans h.len⟩
set_option maxHeartbeats 4000000 in
set_option maxRecDepth 100000 in
theorem inKeys_any (w : World) (v : Value) (N : List Nd) (root : Int) (hN : NodesAt w v N) (hR : InRange N) (hn : N.length ≤ 4096) :
    Calls Tryz.prog 72 #[.agg #[v, .int .i64 root]] w fun e w' => e = .returned (.slice (some ⟨w.heap.size + 1, 0, none⟩) N.length N.length) ∧ Below w.heap.size w w' ∧ w'.heap[w.heap.size + 1]? = some (.cells ((inkF N).map Value.bool).toArray 4) := by
  have HN := Lib.hid hN
  have HR := Lib.hid hR
  obtain ⟨va, vc, rfl, hvl, hvn⟩ := hN
  have HVN := Lib.hid hvn
  clear hR hvn
  go_enter Tryz.func72, Tryz.ntmps72
  go_wp2_with (refine make_letter Tryz.underlying90 info_bool0 rfl _ rfl _ _ rfl N.length (w.heap.size + 1) rfl rfl (by omega) (by omega) (size_new _ _) ?_)
  intro W hW
  have HC0 : Hid (IW w N #[.slice va N.length vc, .int .i64 root] (List.replicate N.length false) W) := by
    show IW w N #[.slice va N.length vc, .int .i64 root] (List.replicate N.length false) W
    rw [hW.out]; exact iw_start w N _
  have c0 : W.cell? ⟨w.heap.size, 0, none⟩ = some (.slice va N.length vc) := (Lib.cell_of_heap HC0.out.box 0).trans rfl
  go_wp2
  go_loopw [15] (fun iv wr => ∃ (i : Nat) (M : List Bool), iv = .int .i64 i ∧ i ≤ N.length ∧ M = (N.take i).foldl (inkN N) (List.replicate N.length false) ∧ IW w N #[.slice va N.length vc, .int .i64 root] M wr) (fun iv _ => N.length - (intOf iv).toNat)
  case atStart => exact ⟨0, _, rfl, Nat.zero_le _, rfl, HC0.out⟩
  case round =>
    obtain ⟨i, C, rfl, hi, hC, hcw⟩ := hrel
    have HCW := Lib.hid hcw
    have HC := Lib.hid hC
    by_cases hlt : i < N.length
    · have hlt2 : (i : Int) < (N.length : Int) := by omega
      rcases HVN.out with hnil | ⟨b, o, rfl, hall⟩
      · exfalso; rw [hnil] at hlt; exact Nat.not_lt_zero _ hlt
      have hn0 := hall i N[i] (List.getElem?_eq_getElem hlt)
      have hrng := HR.out N[i] (List.getElem_mem hlt)
      have HTKN : Hid ((N.take (i + 1)).foldl (inkN N) (List.replicate N.length false) = inkN N C N[i]) := by
        show _ = _
        rw [List.take_succ_eq_append_getElem hlt, List.foldl_append, ← HC.out]; rfl
      generalize N[i] = n at hn0 hrng HTKN
      have HRN := Lib.hid hrng
      obtain ⟨kv, iv, c0, c1, c2, c3, c4, hkc, hic⟩ := hn0
      obtain ⟨ka, kc, rfl, hkl, hkc⟩ := hkc
      obtain ⟨ia, ic, rfl, hil, hic⟩ := hic
      have HKC := Lib.hid hkc
      have d0 := cell_keep hcw.below c0
      have d1 := cell_keep hcw.below c1
      have d2 := cell_keep hcw.below c2
      have d3 := cell_keep hcw.below c3
      have d4 := cell_keep hcw.below c4
      clear hall hC hcw hrng hkc hic c0 c1 c2 c3 c4
      go_wp2
      go_loopw [22] (fun jv wr => ∃ (j : Nat) (D : List Bool), jv = .int .i64 j ∧ j ≤ n.keys.length ∧ D = (n.keys.take j).foldl (fun M x => visitF N (N.length + 1) x.toNat M) C ∧ IW w N #[.slice (some ⟨b, o, none⟩) N.length vc, .int .i64 root] D wr) (fun jv _ => n.keys.length - (intOf jv).toNat)
      case atStart => exact ⟨0, _, rfl, Nat.zero_le _, rfl, HCW.out.alloc _⟩
      case round =>
        obtain ⟨j, D, rfl, hj, hD, hcw⟩ := hrel
        have HCW := Lib.hid hcw
        have HD := Lib.hid hD
        have b0 : wr.cell? ⟨w.heap.size, 0, none⟩ = some (.slice (some ⟨b, o, none⟩) N.length vc) := (Lib.cell_of_heap hcw.box 0).trans rfl
        have b1 : wr.cell? ⟨w.heap.size, 1, none⟩ = some (.int .i64 root) := (Lib.cell_of_heap hcw.box 1).trans rfl
        by_cases hjl : j < n.keys.length
        · have hjl2 : (j : Int) < (n.keys.length : Int) := by omega
          have hx := HRN.out.1 n.keys[j] (List.getElem_mem hjl)
          rcases HKC.out with hnil | ⟨lb, lo, rfl, hcells⟩
          · exfalso; rw [hnil] at hjl; exact Nat.not_lt_zero _ hjl
          have hc1 := cell_keep hcw.below (hcells j n.keys[j] (List.getElem?_eq_getElem hjl))
          have HTK : Hid ((n.keys.take (j + 1)).foldl (fun M x => visitF N (N.length + 1) x.toNat M) C = visitF N (N.length + 1) n.keys[j].toNat D) := by
            show _ = _
            rw [List.take_succ_eq_append_getElem hjl, List.foldl_append, ← HD.out]; rfl
          generalize n.keys[j] = x at hx hc1 HTK
          obtain ⟨k, rfl⟩ := Int.eq_ofNat_of_zero_le hx.1
          have hk : k < N.length := by have := hx.2; omega
          have HCELLS := Lib.hid hcells
          have HLO : Hid (w.heap.size ≤ w.heap.size + 1) := Nat.le_succ _
          clear hcells hx hD hcw
          go_wp2_with (go_at_call 69; refine (reached_any w wr _ N root k (w.heap.size + 1) D HN.out HR.out HCW.out.below HLO.out HCW.out.len HCW.out.row hk).mono ?_; rintro e w3 ⟨rfl, hg3, hm3⟩; have H3 := Lib.hid (And.intro hg3 hm3); clear hg3 hm3)
          go_roundw
          case rel => exact ⟨j + 1, _, by go_num, by omega, HTK.out.symm, HCW.out.step H3.out.1 H3.out.2 (visit_len N _ _ _).1⟩
          case measure => simp [intOf]; omega
        · obtain rfl : j = n.keys.length := by omega
          have HE : Hid (D = inkN N C n) := by
            show _ = _
            rw [HD.out, List.take_length]; rfl
          clear hD hcw
          go_wp2
          go_roundw
          case rel => exact ⟨i + 1, _, by go_num, by omega, rfl, by rw [HTKN.out, ← HE.out]; exact HCW.out⟩
          case measure => simp [intOf]; omega
    · obtain rfl : i = N.length := by omega
      have HE : Hid (C = inkF N) := by
        show _ = _
        rw [HC.out, List.take_length]; rfl
      clear hC hcw
      go_wp2
      go_ret
      exact ⟨rfl, HCW.out.below, by rw [← HE.out]; exact HCW.out.row⟩
end Go.Proofs.YtcipjifpigpfdaaGreatDoor
/- graph.components: the region that makes three rows and three variables in any order. -/
namespace Go.Proofs.YtcipjifpigpfdaaGreatDoor
open Go.RowKit
open Go.Lib hiding intOf
/-- a row of n zeros of the call's own -/
def RowB (w0 : World) (n : Nat) (w : World) (v : Value) : Prop := ∃ b, v = .slice (some ⟨b, 0, none⟩) n n ∧ w0.heap.size ≤ b ∧ w.heap[b]? = some (.cells (Array.replicate n (.int .i64 0)) 3)
/-- a variable of the call's own that holds a slice -/
def VarB (w0 : World) (w : World) (v c : Value) : Prop := ∃ b, v = .pointer (some ⟨b, 0, none⟩) ∧ w0.heap.size ≤ b ∧ w.heap[b]? = some (.cells #[c] 23)
theorem block_lt {w : World} {b : Nat} {o : Obj} (h : w.heap[b]? = some o) : b < w.heap.size := (Array.getElem?_eq_some_iff.1 h).1
theorem RowB.alloc {w0 : World} {n : Nat} {w : World} {v : Value} (h : RowB w0 n w v) (o : Obj) : RowB w0 n (w.alloc o) v := by
  obtain ⟨b, h1, h2, h3⟩ := h
  exact ⟨b, h1, h2, by rw [Lib.alloc_old _ _ _ (block_lt h3)]; exact h3⟩
theorem VarB.alloc {w0 : World} {w : World} {v c : Value} (h : VarB w0 w v c) (o : Obj) : VarB w0 (w.alloc o) v c := by
  obtain ⟨b, h1, h2, h3⟩ := h
  exact ⟨b, h1, h2, by rw [Lib.alloc_old _ _ _ (block_lt h3)]; exact h3⟩
theorem RowB.drew {w0 : World} {n : Nat} {w : World} {v : Value} (h : RowB w0 n w v) : RowB w0 n w.drew v := h
theorem RowB.new (w0 : World) (n : Nat) (w : World) (h : w0.heap.size ≤ w.heap.size) : RowB w0 n (w.alloc (.cells (Array.replicate n (.int .i64 0)) 3)) (.slice (some ⟨w.heap.size, 0, none⟩) n n) := ⟨_, rfl, h, heap_alloc_new w _⟩
theorem VarB.new (w0 : World) (w : World) (c : Value) (h : w0.heap.size ≤ w.heap.size) : VarB w0 (w.alloc (.cells #[c] 23)) (.pointer (some ⟨w.heap.size, 0, none⟩)) c := ⟨_, rfl, h, heap_alloc_new w _⟩
theorem RowB.fresh {w0 : World} {n : Nat} {w : World} {v : Value} (h : RowB w0 n w v) : v ≠ .slice (some ⟨w.heap.size, 0, none⟩) n n := by
  obtain ⟨b, rfl, h2, h3⟩ := h
  intro e
  have hlt := block_lt h3
  simp only [Value.slice.injEq, Option.some.injEq, Addr.mk.injEq] at e
  omega
theorem VarB.fresh {w0 : World} {w : World} {v c : Value} (h : VarB w0 w v c) : v ≠ .pointer (some ⟨w.heap.size, 0, none⟩) := by
  obtain ⟨b, rfl, h2, h3⟩ := h
  intro e
  have hlt := block_lt h3
  simp only [Value.pointer.injEq, Option.some.injEq, Addr.mk.injEq] at e
  omega
theorem RowB.set {w0 : World} {n : Nat} {w : World} {v : Value} (h : RowB w0 n w v) {b : Nat} {c : Value} (hb : w.heap[b]? = some (.cells #[c] 23)) (x : Value) : RowB w0 n (w.setCell ⟨b, 0, none⟩ x) v := by
  obtain ⟨d, h1, h2, h3⟩ := h
  refine ⟨d, h1, h2, ?_⟩
  rw [set_far]
  · exact h3
  · rintro rfl
    rw [hb] at h3
    simp at h3
theorem VarB.set {w0 : World} {w : World} {v c : Value} (h : VarB w0 w v c) {b : Nat} (hb : v ≠ .pointer (some ⟨b, 0, none⟩)) (x : Value) : VarB w0 (w.setCell ⟨b, 0, none⟩ x) v c := by
  obtain ⟨d, rfl, h2, h3⟩ := h
  refine ⟨d, rfl, h2, ?_⟩
  rw [set_far]
  · exact h3
  · rintro rfl; exact hb rfl
theorem VarB.put {w0 : World} {w : World} {b : Nat} {c : Value} (h2 : w0.heap.size ≤ b) (hb : w.heap[b]? = some (.cells #[c] 23)) (x : Value) : VarB w0 (w.setCell ⟨b, 0, none⟩ x) (.pointer (some ⟨b, 0, none⟩)) x := by
  refine ⟨b, rfl, h2, ?_⟩
  simp [World.setCell, Array.getElem?_modify, hb]
theorem getD_set (L : Array Bool) (i j : Nat) : (L.setIfInBounds i true).getD j false = if i = j then (L.getD j false || decide (i < L.size)) else L.getD j false := by
  simp only [Array.getD_eq_getD_getElem?, Array.getElem?_setIfInBounds]
  split
  · rename_i h; subst h
    by_cases h : i < L.size
    · simp [h]
    · simp [h]
  · rfl
structure R3 (w0 : World) (n : Nat) (L : Array Bool) (x5 x6 x7 x17 x18 x19 x20 x21 x22 : Value) (w : World) : Prop where
  below : Below w0.heap.size w0 w
  size : L.size = 12
  m0 : L.getD 0 false = true → x17 = .int .i64 n
  m2 : L.getD 2 false = true → x19 = .int .i64 n
  m4 : L.getD 4 false = true → x21 = .int .i64 n
  r1 : L.getD 1 false = true → RowB w0 n w x18
  r3 : L.getD 3 false = true → RowB w0 n w x20
  r5 : L.getD 5 false = true → RowB w0 n w x22
  v6 : L.getD 6 false = true → VarB w0 w x5 (if L.getD 9 false then x18 else .slice none 0 0)
  v7 : L.getD 7 false = true → VarB w0 w x6 (if L.getD 10 false then x20 else .slice none 0 0)
  v8 : L.getD 8 false = true → VarB w0 w x7 (if L.getD 11 false then x22 else .slice none 0 0)
  d13 : L.getD 1 false = true → L.getD 3 false = true → x18 ≠ x20
  d15 : L.getD 1 false = true → L.getD 5 false = true → x18 ≠ x22
  d35 : L.getD 3 false = true → L.getD 5 false = true → x20 ≠ x22
  d67 : L.getD 6 false = true → L.getD 7 false = true → x5 ≠ x6
  d68 : L.getD 6 false = true → L.getD 8 false = true → x5 ≠ x7
  d78 : L.getD 7 false = true → L.getD 8 false = true → x6 ≠ x7
  s9 : L.getD 9 false = true → L.getD 6 false = true
  s10 : L.getD 10 false = true → L.getD 7 false = true
  s11 : L.getD 11 false = true → L.getD 8 false = true
theorem R3.move0 {w0 : World} {n : Nat} {L : Array Bool} {x5 x6 x7 x17 x18 x19 x20 x21 x22 : Value} {w : World} (h : R3 w0 n L x5 x6 x7 x17 x18 x19 x20 x21 x22 w) : R3 w0 n (L.setIfInBounds 0 true) x5 x6 x7 (.int .i64 n) x18 x19 x20 x21 x22 w := by
  have hsz := h.size
  constructor
  case below =>
    exact h.below
  case size =>
    simpa using hsz
  case m0 =>
    exact fun _ => rfl
  case m2 =>
    simpa [getD_set, hsz] using h.m2
  case m4 =>
    simpa [getD_set, hsz] using h.m4
  case r1 =>
    simpa [getD_set, hsz] using h.r1
  case r3 =>
    simpa [getD_set, hsz] using h.r3
  case r5 =>
    simpa [getD_set, hsz] using h.r5
  case v6 =>
    simpa [getD_set, hsz] using h.v6
  case v7 =>
    simpa [getD_set, hsz] using h.v7
  case v8 =>
    simpa [getD_set, hsz] using h.v8
  case d13 =>
    simpa [getD_set, hsz] using h.d13
  case d15 =>
    simpa [getD_set, hsz] using h.d15
  case d35 =>
    simpa [getD_set, hsz] using h.d35
  case d67 =>
    simpa [getD_set, hsz] using h.d67
  case d68 =>
    simpa [getD_set, hsz] using h.d68
  case d78 =>
    simpa [getD_set, hsz] using h.d78
  case s9 =>
    simpa [getD_set, hsz] using h.s9
  case s10 =>
    simpa [getD_set, hsz] using h.s10
  case s11 =>
    simpa [getD_set, hsz] using h.s11
theorem R3.move2 {w0 : World} {n : Nat} {L : Array Bool} {x5 x6 x7 x17 x18 x19 x20 x21 x22 : Value} {w : World} (h : R3 w0 n L x5 x6 x7 x17 x18 x19 x20 x21 x22 w) : R3 w0 n (L.setIfInBounds 2 true) x5 x6 x7 x17 x18 (.int .i64 n) x20 x21 x22 w := by
  have hsz := h.size
  constructor
  case below =>
    exact h.below
  case size =>
    simpa using hsz
  case m0 =>
    simpa [getD_set, hsz] using h.m0
  case m2 =>
    exact fun _ => rfl
  case m4 =>
    simpa [getD_set, hsz] using h.m4
  case r1 =>
    simpa [getD_set, hsz] using h.r1
  case r3 =>
    simpa [getD_set, hsz] using h.r3
  case r5 =>
    simpa [getD_set, hsz] using h.r5
  case v6 =>
    simpa [getD_set, hsz] using h.v6
  case v7 =>
    simpa [getD_set, hsz] using h.v7
  case v8 =>
    simpa [getD_set, hsz] using h.v8
  case d13 =>
    simpa [getD_set, hsz] using h.d13
  case d15 =>
    simpa [getD_set, hsz] using h.d15
  case d35 =>
    simpa [getD_set, hsz] using h.d35
  case d67 =>
    simpa [getD_set, hsz] using h.d67
  case d68 =>
    simpa [getD_set, hsz] using h.d68
  case d78 =>
    simpa [getD_set, hsz] using h.d78
  case s9 =>
    simpa [getD_set, hsz] using h.s9
  case s10 =>
    simpa [getD_set, hsz] using h.s10
  case s11 =>
    simpa [getD_set, hsz] using h.s11
theorem R3.move4 {w0 : World} {n : Nat} {L : Array Bool} {x5 x6 x7 x17 x18 x19 x20 x21 x22 : Value} {w : World} (h : R3 w0 n L x5 x6 x7 x17 x18 x19 x20 x21 x22 w) : R3 w0 n (L.setIfInBounds 4 true) x5 x6 x7 x17 x18 x19 x20 (.int .i64 n) x22 w := by
  have hsz := h.size
  constructor
  case below =>
    exact h.below
  case size =>
    simpa using hsz
  case m0 =>
    simpa [getD_set, hsz] using h.m0
  case m2 =>
    simpa [getD_set, hsz] using h.m2
  case m4 =>
    exact fun _ => rfl
  case r1 =>
    simpa [getD_set, hsz] using h.r1
  case r3 =>
    simpa [getD_set, hsz] using h.r3
  case r5 =>
    simpa [getD_set, hsz] using h.r5
  case v6 =>
    simpa [getD_set, hsz] using h.v6
  case v7 =>
    simpa [getD_set, hsz] using h.v7
  case v8 =>
    simpa [getD_set, hsz] using h.v8
  case d13 =>
    simpa [getD_set, hsz] using h.d13
  case d15 =>
    simpa [getD_set, hsz] using h.d15
  case d35 =>
    simpa [getD_set, hsz] using h.d35
  case d67 =>
    simpa [getD_set, hsz] using h.d67
  case d68 =>
    simpa [getD_set, hsz] using h.d68
  case d78 =>
    simpa [getD_set, hsz] using h.d78
  case s9 =>
    simpa [getD_set, hsz] using h.s9
  case s10 =>
    simpa [getD_set, hsz] using h.s10
  case s11 =>
    simpa [getD_set, hsz] using h.s11
theorem R3.row1 {w0 : World} {n : Nat} {L : Array Bool} {x5 x6 x7 x17 x18 x19 x20 x21 x22 : Value} {w : World} (h : R3 w0 n L x5 x6 x7 x17 x18 x19 x20 x21 x22 w) (hU : L.getD 1 false = false) (hS : L.getD 9 false = true → L.getD 1 false = true) : R3 w0 n (L.setIfInBounds 1 true) x5 x6 x7 x17 (.slice (some ⟨w.heap.size, 0, none⟩) n n) x19 x20 x21 x22 (w.alloc (.cells (Array.replicate n (.int .i64 0)) 3)) := by
  have hsz := h.size
  constructor
  case below =>
    exact h.below.alloc h.below.size _
  case size =>
    simpa using hsz
  case m0 =>
    simpa [getD_set, hsz] using h.m0
  case m2 =>
    simpa [getD_set, hsz] using h.m2
  case m4 =>
    simpa [getD_set, hsz] using h.m4
  case r1 =>
    exact fun _ => RowB.new w0 n w h.below.size
  case r3 =>
    intro hL
    have hL : L.getD 3 false = true := by simpa [getD_set, hsz] using hL
    exact (h.r3 hL).alloc _
  case r5 =>
    intro hL
    have hL : L.getD 5 false = true := by simpa [getD_set, hsz] using hL
    exact (h.r5 hL).alloc _
  case v6 =>
    intro hL
    have hL : L.getD 6 false = true := by simpa [getD_set, hsz] using hL
    have hs : L.getD 9 false = false := by
      cases hq : L.getD 9 false with
      | false => rfl
      | true => exact absurd (hS hq) (by rw [hU]; simp)
    have hv := (h.v6 hL).alloc (.cells (Array.replicate n (.int .i64 0)) 3)
    simp only [getD_set, hsz, hs] at hv ⊢
    exact hv
  case v7 =>
    intro hL
    have hL : L.getD 7 false = true := by simpa [getD_set, hsz] using hL
    have hv := (h.v7 hL).alloc (.cells (Array.replicate n (.int .i64 0)) 3)
    simp only [getD_set, hsz] at hv ⊢
    exact hv
  case v8 =>
    intro hL
    have hL : L.getD 8 false = true := by simpa [getD_set, hsz] using hL
    have hv := (h.v8 hL).alloc (.cells (Array.replicate n (.int .i64 0)) 3)
    simp only [getD_set, hsz] at hv ⊢
    exact hv
  case d13 =>
    intro _ hL
    exact fun e => (h.r3 (by simpa [getD_set, hsz] using hL)).fresh e.symm
  case d15 =>
    intro _ hL
    exact fun e => (h.r5 (by simpa [getD_set, hsz] using hL)).fresh e.symm
  case d35 =>
    simpa [getD_set, hsz] using h.d35
  case d67 =>
    simpa [getD_set, hsz] using h.d67
  case d68 =>
    simpa [getD_set, hsz] using h.d68
  case d78 =>
    simpa [getD_set, hsz] using h.d78
  case s9 =>
    simpa [getD_set, hsz] using h.s9
  case s10 =>
    simpa [getD_set, hsz] using h.s10
  case s11 =>
    simpa [getD_set, hsz] using h.s11
theorem R3.row3 {w0 : World} {n : Nat} {L : Array Bool} {x5 x6 x7 x17 x18 x19 x20 x21 x22 : Value} {w : World} (h : R3 w0 n L x5 x6 x7 x17 x18 x19 x20 x21 x22 w) (hU : L.getD 3 false = false) (hS : L.getD 10 false = true → L.getD 3 false = true) : R3 w0 n (L.setIfInBounds 3 true) x5 x6 x7 x17 x18 x19 (.slice (some ⟨w.heap.size, 0, none⟩) n n) x21 x22 (w.alloc (.cells (Array.replicate n (.int .i64 0)) 3)) := by
  have hsz := h.size
  constructor
  case below =>
    exact h.below.alloc h.below.size _
  case size =>
    simpa using hsz
  case m0 =>
    simpa [getD_set, hsz] using h.m0
  case m2 =>
    simpa [getD_set, hsz] using h.m2
  case m4 =>
    simpa [getD_set, hsz] using h.m4
  case r1 =>
    intro hL
    have hL : L.getD 1 false = true := by simpa [getD_set, hsz] using hL
    exact (h.r1 hL).alloc _
  case r3 =>
    exact fun _ => RowB.new w0 n w h.below.size
  case r5 =>
    intro hL
    have hL : L.getD 5 false = true := by simpa [getD_set, hsz] using hL
    exact (h.r5 hL).alloc _
  case v6 =>
    intro hL
    have hL : L.getD 6 false = true := by simpa [getD_set, hsz] using hL
    have hv := (h.v6 hL).alloc (.cells (Array.replicate n (.int .i64 0)) 3)
    simp only [getD_set, hsz] at hv ⊢
    exact hv
  case v7 =>
    intro hL
    have hL : L.getD 7 false = true := by simpa [getD_set, hsz] using hL
    have hs : L.getD 10 false = false := by
      cases hq : L.getD 10 false with
      | false => rfl
      | true => exact absurd (hS hq) (by rw [hU]; simp)
    have hv := (h.v7 hL).alloc (.cells (Array.replicate n (.int .i64 0)) 3)
    simp only [getD_set, hsz, hs] at hv ⊢
    exact hv
  case v8 =>
    intro hL
    have hL : L.getD 8 false = true := by simpa [getD_set, hsz] using hL
    have hv := (h.v8 hL).alloc (.cells (Array.replicate n (.int .i64 0)) 3)
    simp only [getD_set, hsz] at hv ⊢
    exact hv
  case d13 =>
    intro hL _
    exact (h.r1 (by simpa [getD_set, hsz] using hL)).fresh
  case d15 =>
    simpa [getD_set, hsz] using h.d15
  case d35 =>
    intro _ hL
    exact fun e => (h.r5 (by simpa [getD_set, hsz] using hL)).fresh e.symm
  case d67 =>
    simpa [getD_set, hsz] using h.d67
  case d68 =>
    simpa [getD_set, hsz] using h.d68
  case d78 =>
    simpa [getD_set, hsz] using h.d78
  case s9 =>
    simpa [getD_set, hsz] using h.s9
  case s10 =>
    simpa [getD_set, hsz] using h.s10
  case s11 =>
    simpa [getD_set, hsz] using h.s11
theorem R3.row5 {w0 : World} {n : Nat} {L : Array Bool} {x5 x6 x7 x17 x18 x19 x20 x21 x22 : Value} {w : World} (h : R3 w0 n L x5 x6 x7 x17 x18 x19 x20 x21 x22 w) (hU : L.getD 5 false = false) (hS : L.getD 11 false = true → L.getD 5 false = true) : R3 w0 n (L.setIfInBounds 5 true) x5 x6 x7 x17 x18 x19 x20 x21 (.slice (some ⟨w.heap.size, 0, none⟩) n n) (w.alloc (.cells (Array.replicate n (.int .i64 0)) 3)) := by
  have hsz := h.size
  constructor
  case below =>
    exact h.below.alloc h.below.size _
  case size =>
    simpa using hsz
  case m0 =>
    simpa [getD_set, hsz] using h.m0
  case m2 =>
    simpa [getD_set, hsz] using h.m2
  case m4 =>
    simpa [getD_set, hsz] using h.m4
  case r1 =>
    intro hL
    have hL : L.getD 1 false = true := by simpa [getD_set, hsz] using hL
    exact (h.r1 hL).alloc _
  case r3 =>
    intro hL
    have hL : L.getD 3 false = true := by simpa [getD_set, hsz] using hL
    exact (h.r3 hL).alloc _
  case r5 =>
    exact fun _ => RowB.new w0 n w h.below.size
  case v6 =>
    intro hL
    have hL : L.getD 6 false = true := by simpa [getD_set, hsz] using hL
    have hv := (h.v6 hL).alloc (.cells (Array.replicate n (.int .i64 0)) 3)
    simp only [getD_set, hsz] at hv ⊢
    exact hv
  case v7 =>
    intro hL
    have hL : L.getD 7 false = true := by simpa [getD_set, hsz] using hL
    have hv := (h.v7 hL).alloc (.cells (Array.replicate n (.int .i64 0)) 3)
    simp only [getD_set, hsz] at hv ⊢
    exact hv
  case v8 =>
    intro hL
    have hL : L.getD 8 false = true := by simpa [getD_set, hsz] using hL
    have hs : L.getD 11 false = false := by
      cases hq : L.getD 11 false with
      | false => rfl
      | true => exact absurd (hS hq) (by rw [hU]; simp)
    have hv := (h.v8 hL).alloc (.cells (Array.replicate n (.int .i64 0)) 3)
    simp only [getD_set, hsz, hs] at hv ⊢
    exact hv
  case d13 =>
    simpa [getD_set, hsz] using h.d13
  case d15 =>
    intro hL _
    exact (h.r1 (by simpa [getD_set, hsz] using hL)).fresh
  case d35 =>
    intro hL _
    exact (h.r3 (by simpa [getD_set, hsz] using hL)).fresh
  case d67 =>
    simpa [getD_set, hsz] using h.d67
  case d68 =>
    simpa [getD_set, hsz] using h.d68
  case d78 =>
    simpa [getD_set, hsz] using h.d78
  case s9 =>
    simpa [getD_set, hsz] using h.s9
  case s10 =>
    simpa [getD_set, hsz] using h.s10
  case s11 =>
    simpa [getD_set, hsz] using h.s11
theorem R3.var6 {w0 : World} {n : Nat} {L : Array Bool} {x5 x6 x7 x17 x18 x19 x20 x21 x22 : Value} {w : World} (h : R3 w0 n L x5 x6 x7 x17 x18 x19 x20 x21 x22 w) (hU : L.getD 6 false = false) : R3 w0 n (L.setIfInBounds 6 true) (.pointer (some ⟨w.heap.size, 0, none⟩)) x6 x7 x17 x18 x19 x20 x21 x22 (w.alloc (.cells #[.slice none 0 0] 23)) := by
  have hsz := h.size
  constructor
  case below =>
    exact h.below.alloc h.below.size _
  case size =>
    simpa using hsz
  case m0 =>
    simpa [getD_set, hsz] using h.m0
  case m2 =>
    simpa [getD_set, hsz] using h.m2
  case m4 =>
    simpa [getD_set, hsz] using h.m4
  case r1 =>
    intro hL
    exact (h.r1 (by simpa [getD_set, hsz] using hL)).alloc _
  case r3 =>
    intro hL
    exact (h.r3 (by simpa [getD_set, hsz] using hL)).alloc _
  case r5 =>
    intro hL
    exact (h.r5 (by simpa [getD_set, hsz] using hL)).alloc _
  case v6 =>
    intro _
    have hs : L.getD 9 false = false := by
      cases hq : L.getD 9 false with
      | false => rfl
      | true => exact absurd (h.s9 hq) (by rw [hU]; simp)
    simp only [getD_set, hsz, hs]
    exact VarB.new w0 w _ h.below.size
  case v7 =>
    intro hL
    have hL : L.getD 7 false = true := by simpa [getD_set, hsz] using hL
    have hv := (h.v7 hL).alloc (.cells #[.slice none 0 0] 23)
    simp only [getD_set, hsz] at hv ⊢
    exact hv
  case v8 =>
    intro hL
    have hL : L.getD 8 false = true := by simpa [getD_set, hsz] using hL
    have hv := (h.v8 hL).alloc (.cells #[.slice none 0 0] 23)
    simp only [getD_set, hsz] at hv ⊢
    exact hv
  case d13 =>
    simpa [getD_set, hsz] using h.d13
  case d15 =>
    simpa [getD_set, hsz] using h.d15
  case d35 =>
    simpa [getD_set, hsz] using h.d35
  case d67 =>
    intro _ hL
    exact fun e => (h.v7 (by simpa [getD_set, hsz] using hL)).fresh e.symm
  case d68 =>
    intro _ hL
    exact fun e => (h.v8 (by simpa [getD_set, hsz] using hL)).fresh e.symm
  case d78 =>
    simpa [getD_set, hsz] using h.d78
  case s9 =>
    intro _
    simp [hsz]
  case s10 =>
    simpa [getD_set, hsz] using h.s10
  case s11 =>
    simpa [getD_set, hsz] using h.s11
theorem R3.var7 {w0 : World} {n : Nat} {L : Array Bool} {x5 x6 x7 x17 x18 x19 x20 x21 x22 : Value} {w : World} (h : R3 w0 n L x5 x6 x7 x17 x18 x19 x20 x21 x22 w) (hU : L.getD 7 false = false) : R3 w0 n (L.setIfInBounds 7 true) x5 (.pointer (some ⟨w.heap.size, 0, none⟩)) x7 x17 x18 x19 x20 x21 x22 (w.alloc (.cells #[.slice none 0 0] 23)) := by
  have hsz := h.size
  constructor
  case below =>
    exact h.below.alloc h.below.size _
  case size =>
    simpa using hsz
  case m0 =>
    simpa [getD_set, hsz] using h.m0
  case m2 =>
    simpa [getD_set, hsz] using h.m2
  case m4 =>
    simpa [getD_set, hsz] using h.m4
  case r1 =>
    intro hL
    exact (h.r1 (by simpa [getD_set, hsz] using hL)).alloc _
  case r3 =>
    intro hL
    exact (h.r3 (by simpa [getD_set, hsz] using hL)).alloc _
  case r5 =>
    intro hL
    exact (h.r5 (by simpa [getD_set, hsz] using hL)).alloc _
  case v6 =>
    intro hL
    have hL : L.getD 6 false = true := by simpa [getD_set, hsz] using hL
    have hv := (h.v6 hL).alloc (.cells #[.slice none 0 0] 23)
    simp only [getD_set, hsz] at hv ⊢
    exact hv
  case v7 =>
    intro _
    have hs : L.getD 10 false = false := by
      cases hq : L.getD 10 false with
      | false => rfl
      | true => exact absurd (h.s10 hq) (by rw [hU]; simp)
    simp only [getD_set, hsz, hs]
    exact VarB.new w0 w _ h.below.size
  case v8 =>
    intro hL
    have hL : L.getD 8 false = true := by simpa [getD_set, hsz] using hL
    have hv := (h.v8 hL).alloc (.cells #[.slice none 0 0] 23)
    simp only [getD_set, hsz] at hv ⊢
    exact hv
  case d13 =>
    simpa [getD_set, hsz] using h.d13
  case d15 =>
    simpa [getD_set, hsz] using h.d15
  case d35 =>
    simpa [getD_set, hsz] using h.d35
  case d67 =>
    intro hL _
    exact (h.v6 (by simpa [getD_set, hsz] using hL)).fresh
  case d68 =>
    simpa [getD_set, hsz] using h.d68
  case d78 =>
    intro _ hL
    exact fun e => (h.v8 (by simpa [getD_set, hsz] using hL)).fresh e.symm
  case s9 =>
    simpa [getD_set, hsz] using h.s9
  case s10 =>
    intro _
    simp [hsz]
  case s11 =>
    simpa [getD_set, hsz] using h.s11
theorem R3.var8 {w0 : World} {n : Nat} {L : Array Bool} {x5 x6 x7 x17 x18 x19 x20 x21 x22 : Value} {w : World} (h : R3 w0 n L x5 x6 x7 x17 x18 x19 x20 x21 x22 w) (hU : L.getD 8 false = false) : R3 w0 n (L.setIfInBounds 8 true) x5 x6 (.pointer (some ⟨w.heap.size, 0, none⟩)) x17 x18 x19 x20 x21 x22 (w.alloc (.cells #[.slice none 0 0] 23)) := by
  have hsz := h.size
  constructor
  case below =>
    exact h.below.alloc h.below.size _
  case size =>
    simpa using hsz
  case m0 =>
    simpa [getD_set, hsz] using h.m0
  case m2 =>
    simpa [getD_set, hsz] using h.m2
  case m4 =>
    simpa [getD_set, hsz] using h.m4
  case r1 =>
    intro hL
    exact (h.r1 (by simpa [getD_set, hsz] using hL)).alloc _
  case r3 =>
    intro hL
    exact (h.r3 (by simpa [getD_set, hsz] using hL)).alloc _
  case r5 =>
    intro hL
    exact (h.r5 (by simpa [getD_set, hsz] using hL)).alloc _
  case v6 =>
    intro hL
    have hL : L.getD 6 false = true := by simpa [getD_set, hsz] using hL
    have hv := (h.v6 hL).alloc (.cells #[.slice none 0 0] 23)
    simp only [getD_set, hsz] at hv ⊢
    exact hv
  case v7 =>
    intro hL
    have hL : L.getD 7 false = true := by simpa [getD_set, hsz] using hL
    have hv := (h.v7 hL).alloc (.cells #[.slice none 0 0] 23)
    simp only [getD_set, hsz] at hv ⊢
    exact hv
  case v8 =>
    intro _
    have hs : L.getD 11 false = false := by
      cases hq : L.getD 11 false with
      | false => rfl
      | true => exact absurd (h.s11 hq) (by rw [hU]; simp)
    simp only [getD_set, hsz, hs]
    exact VarB.new w0 w _ h.below.size
  case d13 =>
    simpa [getD_set, hsz] using h.d13
  case d15 =>
    simpa [getD_set, hsz] using h.d15
  case d35 =>
    simpa [getD_set, hsz] using h.d35
  case d67 =>
    simpa [getD_set, hsz] using h.d67
  case d68 =>
    intro hL _
    exact (h.v6 (by simpa [getD_set, hsz] using hL)).fresh
  case d78 =>
    intro hL _
    exact (h.v7 (by simpa [getD_set, hsz] using hL)).fresh
  case s9 =>
    simpa [getD_set, hsz] using h.s9
  case s10 =>
    simpa [getD_set, hsz] using h.s10
  case s11 =>
    intro _
    simp [hsz]
theorem R3.store9 {w0 : World} {n : Nat} {L : Array Bool} {b : Nat} {c : Value} {x6 x7 x17 x18 x19 x20 x21 x22 : Value} {w : World} (h : R3 w0 n L (.pointer (some ⟨b, 0, none⟩)) x6 x7 x17 x18 x19 x20 x21 x22 w) (hJ : L.getD 6 false = true) (hle : w0.heap.size ≤ b) (hb : w.heap[b]? = some (.cells #[c] 23)) : R3 w0 n (L.setIfInBounds 9 true) (.pointer (some ⟨b, 0, none⟩)) x6 x7 x17 x18 x19 x20 x21 x22 (w.setCell ⟨b, 0, none⟩ x18) := by
  have hsz := h.size
  constructor
  case below =>
    exact h.below.setCell (p := ⟨b, 0, none⟩) hle _
  case size =>
    simpa using hsz
  case m0 =>
    simpa [getD_set, hsz] using h.m0
  case m2 =>
    simpa [getD_set, hsz] using h.m2
  case m4 =>
    simpa [getD_set, hsz] using h.m4
  case r1 =>
    intro hL
    exact (h.r1 (by simpa [getD_set, hsz] using hL)).set hb _
  case r3 =>
    intro hL
    exact (h.r3 (by simpa [getD_set, hsz] using hL)).set hb _
  case r5 =>
    intro hL
    exact (h.r5 (by simpa [getD_set, hsz] using hL)).set hb _
  case v6 =>
    intro _
    have hv := VarB.put (w0 := w0) (w := w) hle hb x18
    simpa [getD_set, hsz] using hv
  case v7 =>
    intro hL
    have hL : L.getD 7 false = true := by simpa [getD_set, hsz] using hL
    have hv := (h.v7 hL).set (b := b) (fun e => h.d67 hJ hL e.symm) x18
    simp only [getD_set, hsz] at hv ⊢
    exact hv
  case v8 =>
    intro hL
    have hL : L.getD 8 false = true := by simpa [getD_set, hsz] using hL
    have hv := (h.v8 hL).set (b := b) (fun e => h.d68 hJ hL e.symm) x18
    simp only [getD_set, hsz] at hv ⊢
    exact hv
  case d13 =>
    simpa [getD_set, hsz] using h.d13
  case d15 =>
    simpa [getD_set, hsz] using h.d15
  case d35 =>
    simpa [getD_set, hsz] using h.d35
  case d67 =>
    simpa [getD_set, hsz] using h.d67
  case d68 =>
    simpa [getD_set, hsz] using h.d68
  case d78 =>
    simpa [getD_set, hsz] using h.d78
  case s9 =>
    intro _
    simpa [getD_set, hsz] using hJ
  case s10 =>
    simpa [getD_set, hsz] using h.s10
  case s11 =>
    simpa [getD_set, hsz] using h.s11
theorem R3.store10 {w0 : World} {n : Nat} {L : Array Bool} {b : Nat} {c : Value} {x5 x7 x17 x18 x19 x20 x21 x22 : Value} {w : World} (h : R3 w0 n L x5 (.pointer (some ⟨b, 0, none⟩)) x7 x17 x18 x19 x20 x21 x22 w) (hJ : L.getD 7 false = true) (hle : w0.heap.size ≤ b) (hb : w.heap[b]? = some (.cells #[c] 23)) : R3 w0 n (L.setIfInBounds 10 true) x5 (.pointer (some ⟨b, 0, none⟩)) x7 x17 x18 x19 x20 x21 x22 (w.setCell ⟨b, 0, none⟩ x20) := by
  have hsz := h.size
  constructor
  case below =>
    exact h.below.setCell (p := ⟨b, 0, none⟩) hle _
  case size =>
    simpa using hsz
  case m0 =>
    simpa [getD_set, hsz] using h.m0
  case m2 =>
    simpa [getD_set, hsz] using h.m2
  case m4 =>
    simpa [getD_set, hsz] using h.m4
  case r1 =>
    intro hL
    exact (h.r1 (by simpa [getD_set, hsz] using hL)).set hb _
  case r3 =>
    intro hL
    exact (h.r3 (by simpa [getD_set, hsz] using hL)).set hb _
  case r5 =>
    intro hL
    exact (h.r5 (by simpa [getD_set, hsz] using hL)).set hb _
  case v6 =>
    intro hL
    have hL : L.getD 6 false = true := by simpa [getD_set, hsz] using hL
    have hv := (h.v6 hL).set (b := b) ((h.d67 hL hJ)) x20
    simp only [getD_set, hsz] at hv ⊢
    exact hv
  case v7 =>
    intro _
    have hv := VarB.put (w0 := w0) (w := w) hle hb x20
    simpa [getD_set, hsz] using hv
  case v8 =>
    intro hL
    have hL : L.getD 8 false = true := by simpa [getD_set, hsz] using hL
    have hv := (h.v8 hL).set (b := b) (fun e => h.d78 hJ hL e.symm) x20
    simp only [getD_set, hsz] at hv ⊢
    exact hv
  case d13 =>
    simpa [getD_set, hsz] using h.d13
  case d15 =>
    simpa [getD_set, hsz] using h.d15
  case d35 =>
    simpa [getD_set, hsz] using h.d35
  case d67 =>
    simpa [getD_set, hsz] using h.d67
  case d68 =>
    simpa [getD_set, hsz] using h.d68
  case d78 =>
    simpa [getD_set, hsz] using h.d78
  case s9 =>
    simpa [getD_set, hsz] using h.s9
  case s10 =>
    intro _
    simpa [getD_set, hsz] using hJ
  case s11 =>
    simpa [getD_set, hsz] using h.s11
theorem R3.store11 {w0 : World} {n : Nat} {L : Array Bool} {b : Nat} {c : Value} {x5 x6 x17 x18 x19 x20 x21 x22 : Value} {w : World} (h : R3 w0 n L x5 x6 (.pointer (some ⟨b, 0, none⟩)) x17 x18 x19 x20 x21 x22 w) (hJ : L.getD 8 false = true) (hle : w0.heap.size ≤ b) (hb : w.heap[b]? = some (.cells #[c] 23)) : R3 w0 n (L.setIfInBounds 11 true) x5 x6 (.pointer (some ⟨b, 0, none⟩)) x17 x18 x19 x20 x21 x22 (w.setCell ⟨b, 0, none⟩ x22) := by
  have hsz := h.size
  constructor
  case below =>
    exact h.below.setCell (p := ⟨b, 0, none⟩) hle _
  case size =>
    simpa using hsz
  case m0 =>
    simpa [getD_set, hsz] using h.m0
  case m2 =>
    simpa [getD_set, hsz] using h.m2
  case m4 =>
    simpa [getD_set, hsz] using h.m4
  case r1 =>
    intro hL
    exact (h.r1 (by simpa [getD_set, hsz] using hL)).set hb _
  case r3 =>
    intro hL
    exact (h.r3 (by simpa [getD_set, hsz] using hL)).set hb _
  case r5 =>
    intro hL
    exact (h.r5 (by simpa [getD_set, hsz] using hL)).set hb _
  case v6 =>
    intro hL
    have hL : L.getD 6 false = true := by simpa [getD_set, hsz] using hL
    have hv := (h.v6 hL).set (b := b) ((h.d68 hL hJ)) x22
    simp only [getD_set, hsz] at hv ⊢
    exact hv
  case v7 =>
    intro hL
    have hL : L.getD 7 false = true := by simpa [getD_set, hsz] using hL
    have hv := (h.v7 hL).set (b := b) ((h.d78 hL hJ)) x22
    simp only [getD_set, hsz] at hv ⊢
    exact hv
  case v8 =>
    intro _
    have hv := VarB.put (w0 := w0) (w := w) hle hb x22
    simpa [getD_set, hsz] using hv
  case d13 =>
    simpa [getD_set, hsz] using h.d13
  case d15 =>
    simpa [getD_set, hsz] using h.d15
  case d35 =>
    simpa [getD_set, hsz] using h.d35
  case d67 =>
    simpa [getD_set, hsz] using h.d67
  case d68 =>
    simpa [getD_set, hsz] using h.d68
  case d78 =>
    simpa [getD_set, hsz] using h.d78
  case s9 =>
    simpa [getD_set, hsz] using h.s9
  case s10 =>
    simpa [getD_set, hsz] using h.s10
  case s11 =>
    intro _
    simpa [getD_set, hsz] using hJ
end Go.Proofs.YtcipjifpigpfdaaGreatDoor
/- graph.name: tag names. -/
namespace Go.Proofs.YtcipjifpigpfdaaGreatDoor
open Go.RowKit
open Go.Lib hiding intOf
def okg (x : Int) : Bool := decide ((97 ≤ x ∧ x ≤ 122) ∨ (65 ≤ x ∧ x ≤ 90) ∨ (48 ≤ x ∧ x ≤ 57) ∨ x = 95 ∨ x = 45 ∨ x = 46 ∨ x = 58)
def nameG (l : List UInt8) : Bool := l.all (fun c => okg c.toNat) && (decide (1 ≤ l.length) && decide (l.length ≤ 64))
theorem okg_cases (x : Int) : ∃ b, Hid (okg x = b) ∧ (
    (b = true ∧ 97 ≤ x ∧ x ≤ 122) ∨ (b = true ∧ ¬ 97 ≤ x ∧ 65 ≤ x ∧ x ≤ 90) ∨ (b = true ∧ ¬ 97 ≤ x ∧ ¬ 65 ≤ x ∧ 48 ≤ x ∧ x ≤ 57)
    ∨ (b = false ∧ 97 ≤ x ∧ ¬ x ≤ 122 ∧ 65 ≤ x ∧ ¬ x ≤ 90 ∧ 48 ≤ x ∧ ¬ x ≤ 57 ∧ (x == 95) = false ∧ (x == 45) = false ∧ (x == 46) = false ∧ (x == 58) = false)
    ∨ (b = true ∧ ¬ 97 ≤ x ∧ 65 ≤ x ∧ ¬ x ≤ 90 ∧ 48 ≤ x ∧ ¬ x ≤ 57 ∧ (x == 95) = true)
    ∨ (b = false ∧ ¬ 97 ≤ x ∧ 65 ≤ x ∧ ¬ x ≤ 90 ∧ 48 ≤ x ∧ ¬ x ≤ 57 ∧ (x == 95) = false ∧ (x == 45) = false ∧ (x == 46) = false ∧ (x == 58) = false)
    ∨ (b = true ∧ ¬ 97 ≤ x ∧ ¬ 65 ≤ x ∧ 48 ≤ x ∧ ¬ x ≤ 57 ∧ (x == 95) = false ∧ (x == 45) = false ∧ (x == 46) = false ∧ (x == 58) = true)
    ∨ (b = false ∧ ¬ 97 ≤ x ∧ ¬ 65 ≤ x ∧ 48 ≤ x ∧ ¬ x ≤ 57 ∧ (x == 95) = false ∧ (x == 45) = false ∧ (x == 46) = false ∧ (x == 58) = false)
    ∨ (b = true ∧ ¬ 97 ≤ x ∧ ¬ 65 ≤ x ∧ ¬ 48 ≤ x ∧ (x == 95) = false ∧ (x == 45) = true)
    ∨ (b = true ∧ ¬ 97 ≤ x ∧ ¬ 65 ≤ x ∧ ¬ 48 ≤ x ∧ (x == 95) = false ∧ (x == 45) = false ∧ (x == 46) = true)
    ∨ (b = false ∧ ¬ 97 ≤ x ∧ ¬ 65 ≤ x ∧ ¬ 48 ≤ x ∧ (x == 95) = false ∧ (x == 45) = false ∧ (x == 46) = false ∧ (x == 58) = false)) := by
  have T : ((97 ≤ x ∧ x ≤ 122) ∨ (65 ≤ x ∧ x ≤ 90) ∨ (48 ≤ x ∧ x ≤ 57) ∨ x = 95 ∨ x = 45 ∨ x = 46 ∨ x = 58) → Hid (okg x = true) := fun h => decide_eq_true h
  have F : ¬ ((97 ≤ x ∧ x ≤ 122) ∨ (65 ≤ x ∧ x ≤ 90) ∨ (48 ≤ x ∧ x ≤ 57) ∨ x = 95 ∨ x = 45 ∨ x = 46 ∨ x = 58) → Hid (okg x = false) := fun h => decide_eq_false h
  simp only [beq_iff_eq, beq_eq_false_iff_ne, ne_eq]
  by_cases h : ((97 ≤ x ∧ x ≤ 122) ∨ (65 ≤ x ∧ x ≤ 90) ∨ (48 ≤ x ∧ x ≤ 57) ∨ x = 95 ∨ x = 45 ∨ x = 46 ∨ x = 58)
  · exact ⟨true, T h, by simp only [true_and]; omega⟩
  · exact ⟨false, F h, by simp only [true_and]; omega⟩
theorem okg_step {l : List UInt8} {k : Nat} (hk : k < l.length) (h : (l.take k).all (fun c => okg c.toNat) = true) (h2 : okg l[k].toNat = true) : (l.take (k + 1)).all (fun c => okg c.toNat) = true := by
  rw [List.take_succ_eq_append_getElem hk, List.all_append, h]
  simp [h2]
theorem okg_stop {l : List UInt8} {k : Nat} (hk : k < l.length) (h2 : okg l[k].toNat = false) : nameG l = false := by
  have : l.all (fun c => okg c.toNat) = false := by
    rw [List.all_eq_false]
    exact ⟨l[k], List.getElem_mem hk, by rw [h2]; decide⟩
  unfold nameG
  rw [this]; rfl
set_option maxHeartbeats 2000000 in
theorem gname_any (s : ByteArray) (w : World) (hs : s.size ≤ maxLen) :
    Calls Tryz.prog 117 #[.string s] w fun e w' => e = .returned (.bool (nameG s.data.toList)) ∧ w = w' := by
  unfold maxLen at hs
  have HL : Hid (s.data.toList.length = s.size) := by show s.data.toList.length = s.size; simp
  go_enter Tryz.func117, Tryz.ntmps117
  go_wp2
  go_loop [7] (fun i => ∃ k : Nat, k ≤ s.size ∧ i = .int .i64 k ∧ (s.data.toList.take k).all (fun c => okg c.toNat) = true) (fun i => s.size - (intOf i).toNat)
  case atStart => exact ⟨0, Nat.zero_le _, rfl, rfl⟩
  case round =>
    obtain ⟨k, hk, rfl, hn⟩ := hrel
    by_cases hlt : k < s.size
    · have hkl : k < s.data.toList.length := by rw [HL.out]; exact hlt
      have hlt2 : (k : Int) < (s.size : Int) := by omega
      have hst := okg_step hkl hn
      have hbad := okg_stop hkl
      have hg : s.data.toList[k] = s[k] := rfl
      rw [hg] at hst hbad
      obtain ⟨b, HB, hcs⟩ := okg_cases (s[k].toNat : Int)
      have HST : b = true → Hid ((s.data.toList.take (k + 1)).all (fun c => okg c.toNat) = true) := fun e => hst (by rw [HB.out, e])
      have HBAD : b = false → Hid (nameG s.data.toList = false) := fun e => hbad (by rw [HB.out, e])
      clear hst hbad hg hn
      rcases hcs with ⟨rfl, h⟩ | ⟨rfl, h⟩ | ⟨rfl, h⟩ | ⟨rfl, h⟩ | ⟨rfl, h⟩ | ⟨rfl, h⟩ | ⟨rfl, h⟩ | ⟨rfl, h⟩ | ⟨rfl, h⟩ | ⟨rfl, h⟩ | ⟨rfl, h⟩
      case inr.inr.inr.inl | inr.inr.inr.inr.inr.inl | inr.inr.inr.inr.inr.inr.inr.inl | inr.inr.inr.inr.inr.inr.inr.inr.inr.inr =>
        have HR := HBAD rfl
        clear HST HBAD
        obtain ⟨h1, h2, h3, h4⟩ := h
        go_wp2
        go_ret
        exact ⟨ret_bool HR.out.symm, rfl⟩
      all_goals
        have HR := HST rfl
        clear HST HBAD
        obtain ⟨h1, h2⟩ := h
        go_wp2
        go_round
        case rel => exact ⟨k + 1, hlt, by go_num, HR.out⟩
        case measure => simp [intOf]; omega
    · obtain rfl : k = s.size := by omega
      have HR : Hid (nameG s.data.toList = (decide (1 ≤ s.size) && decide (s.size ≤ 64))) := by
        show _ = _
        rw [← HL.out, List.take_length] at hn
        unfold nameG
        rw [hn, HL.out]; rfl
      clear hn
      by_cases h1 : 1 ≤ s.size
      · by_cases h2 : s.size ≤ 64
        · have HF : Hid (nameG s.data.toList = true) := by show _ = _; rw [HR.out]; simp [h1, h2]
          have e1 : (1 : Int) ≤ s.size := by omega
          have e2 : (s.size : Int) ≤ 64 := by omega
          clear h1 h2
          go_wp2
          go_ret
          exact ⟨ret_bool HF.out.symm, rfl⟩
        · have HF : Hid (nameG s.data.toList = false) := by show _ = _; rw [HR.out]; simp [h2]
          have e1 : (1 : Int) ≤ s.size := by omega
          have e2 : ¬ (s.size : Int) ≤ 64 := by omega
          clear h1 h2
          go_wp2
          go_ret
          exact ⟨ret_bool HF.out.symm, rfl⟩
      · have HF : Hid (nameG s.data.toList = false) := by show _ = _; rw [HR.out]; simp [h1]
        have e1 : ¬ (1 : Int) ≤ s.size := by omega
        clear h1
        go_wp2
        go_ret
        exact ⟨ret_bool HF.out.symm, rfl⟩
end Go.Proofs.YtcipjifpigpfdaaGreatDoor
/- Quoted texts of a script: what is written for a text is read back as the text, is well-formed UTF-8 and holds no control character. No program in sight. -/
namespace Go.Proofs.YtcipjifpigpfdaaGreatDoor
open Go.Lib

/-- The rune and the width at the head of a list of bytes. -/
def dec (l : List UInt8) : Nat × Nat := decodeN l.length (l.getD 0 0).toNat (l.getD 1 0).toNat (l.getD 2 0).toNat (l.getD 3 0).toNat
def hexd (d : UInt8) : UInt8 := if d < 10 then 48 + d else 87 + d
/-- What is written for the head of a text. -/
def one (c : UInt8) (r : List UInt8) : List UInt8 :=
  if c = 92 ∨ c = 34 then [92, c] else if c = 10 then [92, 110] else if c = 13 then [92, 114] else if c = 9 then [92, 116]
  else if dec (c :: r) = (65533, 1) ∨ c < 32 ∨ c = 127 then [92, 120, hexd (c / 16), hexd (c % 16)] else (c :: r).take (dec (c :: r)).2
def qb : List UInt8 → List UInt8
  | [] => []
  | c :: r => one c r ++ qb (r.drop ((dec (c :: r)).2 - 1))
termination_by l => l.length
decreasing_by simp; omega
/-- A hexadecimal digit's value, 16 for any other byte. -/
def dig (c : UInt8) : UInt8 := if 48 ≤ c ∧ c ≤ 57 then c - 48 else if 97 ≤ c ∧ c ≤ 102 then c - 87 else 16
def uq : List UInt8 → Option (List UInt8 × List UInt8)
  | [] => none
  | c :: r =>
    if c = 34 then some ([], r)
    else if c < 32 ∨ c = 127 then none
    else if c ≠ 92 then (uq r).map fun p => (c :: p.1, p.2)
    else match r with
      | [] => none
      | e :: r2 =>
        if e = 92 ∨ e = 34 then (uq r2).map fun p => (e :: p.1, p.2)
        else if e = 110 then (uq r2).map fun p => (10 :: p.1, p.2)
        else if e = 114 then (uq r2).map fun p => (13 :: p.1, p.2)
        else if e = 116 then (uq r2).map fun p => (9 :: p.1, p.2)
        else if e = 120 then match r2 with
          | a :: b :: r3 => if dig a = 16 ∨ dig b = 16 then none else (uq r3).map fun p => ((16 * dig a + dig b) :: p.1, p.2)
          | _ => none
        else none
def chk : List UInt8 → Bool
  | [] => true
  | c :: r => if dec (c :: r) = (65533, 1) then false else chk (r.drop ((dec (c :: r)).2 - 1))
termination_by l => l.length
decreasing_by simp; omega

theorem dec_low {c : UInt8} (h : c.toNat < 128) (r : List UInt8) : dec (c :: r) = (c.toNat, 1) := by
  unfold dec decodeN
  simp [h]
theorem decN_high {n b0 b1 b2 b3 : Nat} (h : 128 ≤ b0) : decodeN n b0 b1 b2 b3 = (65533, 1)
    ∨ ((decodeN n b0 b1 b2 b3).2 = 2 ∧ 1 < n ∧ 128 ≤ b1 ∧ ∀ n' c2 c3, 1 < n' → decodeN n' b0 b1 c2 c3 = decodeN n b0 b1 b2 b3)
    ∨ ((decodeN n b0 b1 b2 b3).2 = 3 ∧ 2 < n ∧ 128 ≤ b1 ∧ 128 ≤ b2 ∧ ∀ n' c3, 2 < n' → decodeN n' b0 b1 b2 c3 = decodeN n b0 b1 b2 b3)
    ∨ ((decodeN n b0 b1 b2 b3).2 = 4 ∧ 3 < n ∧ 128 ≤ b1 ∧ 128 ≤ b2 ∧ 128 ≤ b3 ∧ ∀ n', 3 < n' → decodeN n' b0 b1 b2 b3 = decodeN n b0 b1 b2 b3) := by
  have h0 : ¬ b0 < 128 := by omega
  by_cases h2 : b0 / 32 = 6 ∧ (1 < n ∧ b1 / 64 = 2)
  · by_cases g : b0 % 32 * 64 + b1 % 64 ≥ 128
    · have e : ∀ n' c2 c3, 1 < n' → decodeN n' b0 b1 c2 c3 = (b0 % 32 * 64 + b1 % 64, 2) := fun n' c2 c3 hn => by
        unfold decodeN
        rw [if_neg h0, if_pos ⟨h2.1, hn, h2.2.2⟩, if_pos g]
      exact .inr (.inl ⟨by rw [e _ _ _ h2.2.1], h2.2.1, by omega, fun n' c2 c3 hn => by rw [e _ _ _ hn, e _ _ _ h2.2.1]⟩)
    · left
      unfold decodeN
      rw [if_neg h0, if_pos h2, if_neg g]
  · by_cases h3 : b0 / 16 = 14 ∧ (1 < n ∧ b1 / 64 = 2) ∧ (2 < n ∧ b2 / 64 = 2)
    · by_cases g : b0 % 16 * 4096 + b1 % 64 * 64 + b2 % 64 ≥ 2048 ∧ (b0 % 16 * 4096 + b1 % 64 * 64 + b2 % 64 < 55296 ∨ (57344 ≤ b0 % 16 * 4096 + b1 % 64 * 64 + b2 % 64 ∧ b0 % 16 * 4096 + b1 % 64 * 64 + b2 % 64 ≤ 1114111))
      · have e : ∀ n' c3, 2 < n' → decodeN n' b0 b1 b2 c3 = (b0 % 16 * 4096 + b1 % 64 * 64 + b2 % 64, 3) := fun n' c3 hn => by
          unfold decodeN
          rw [if_neg h0, if_neg (by omega), if_pos ⟨h3.1, ⟨by omega, h3.2.1.2⟩, hn, h3.2.2.2⟩, if_pos g]
        exact .inr (.inr (.inl ⟨by rw [e _ _ h3.2.2.1], h3.2.2.1, by omega, by omega, fun n' c3 hn => by rw [e _ _ hn, e _ _ h3.2.2.1]⟩))
      · left
        unfold decodeN
        rw [if_neg h0, if_neg h2, if_pos h3, if_neg g]
    · by_cases h4 : b0 / 8 = 30 ∧ (1 < n ∧ b1 / 64 = 2) ∧ (2 < n ∧ b2 / 64 = 2) ∧ (3 < n ∧ b3 / 64 = 2)
      · by_cases g : b0 % 8 * 262144 + b1 % 64 * 4096 + b2 % 64 * 64 + b3 % 64 ≥ 65536 ∧ (b0 % 8 * 262144 + b1 % 64 * 4096 + b2 % 64 * 64 + b3 % 64 < 55296 ∨ (57344 ≤ b0 % 8 * 262144 + b1 % 64 * 4096 + b2 % 64 * 64 + b3 % 64 ∧ b0 % 8 * 262144 + b1 % 64 * 4096 + b2 % 64 * 64 + b3 % 64 ≤ 1114111))
        · have e : ∀ n', 3 < n' → decodeN n' b0 b1 b2 b3 = (b0 % 8 * 262144 + b1 % 64 * 4096 + b2 % 64 * 64 + b3 % 64, 4) := fun n' hn => by
            unfold decodeN
            rw [if_neg h0, if_neg (by omega), if_neg (by omega), if_pos ⟨h4.1, ⟨by omega, h4.2.1.2⟩, ⟨by omega, h4.2.2.1.2⟩, hn, h4.2.2.2.2⟩, if_pos g]
          exact .inr (.inr (.inr ⟨by rw [e _ h4.2.2.2.1], h4.2.2.2.1, by omega, by omega, by omega, fun n' hn => by rw [e _ hn, e _ h4.2.2.2.1]⟩))
        · left
          unfold decodeN
          rw [if_neg h0, if_neg h2, if_neg h3, if_pos h4, if_neg g]
      · left
        unfold decodeN
        rw [if_neg h0, if_neg h2, if_neg h3, if_neg h4]
theorem dec_high {c : UInt8} (h : 128 ≤ c.toNat) (r : List UInt8) : dec (c :: r) = (65533, 1) ∨ (2 ≤ (dec (c :: r)).2 ∧ (dec (c :: r)).2 ≤ (c :: r).length ∧ (∀ b ∈ (c :: r).take (dec (c :: r)).2, 128 ≤ b.toNat) ∧ ∀ l, dec ((c :: r).take (dec (c :: r)).2 ++ l) = dec (c :: r)) := by
  rcases decN_high (n := (c :: r).length) (b1 := ((c :: r).getD 1 0).toNat) (b2 := ((c :: r).getD 2 0).toNat) (b3 := ((c :: r).getD 3 0).toNat) h with k | ⟨k, kn, k1, ks⟩ | ⟨k, kn, k1, k2, ks⟩ | ⟨k, kn, k1, k2, k3, ks⟩
  · exact .inl k
  · rcases r with _ | ⟨d1, r⟩
    · simp at kn
    have k' : (dec (c :: d1 :: r)).2 = 2 := k
    refine .inr ⟨by omega, by rw [k']; simp, ?_, ?_⟩ <;> rw [k']
    · simp at k1 ⊢
      exact ⟨h, k1⟩
    · intro l
      exact ks _ _ _ (by simp)
  · rcases r with _ | ⟨d1, _ | ⟨d2, r⟩⟩
    · simp at kn
    · simp at kn
    have k' : (dec (c :: d1 :: d2 :: r)).2 = 3 := k
    refine .inr ⟨by omega, by rw [k']; simp, ?_, ?_⟩ <;> rw [k']
    · simp at k1 k2 ⊢
      exact ⟨h, k1, k2⟩
    · intro l
      exact ks _ _ (by simp)
  · rcases r with _ | ⟨d1, _ | ⟨d2, _ | ⟨d3, r⟩⟩⟩
    · simp at kn
    · simp at kn
    · simp at kn
    have k' : (dec (c :: d1 :: d2 :: d3 :: r)).2 = 4 := k
    refine .inr ⟨by omega, by rw [k']; simp, ?_, ?_⟩ <;> rw [k']
    · simp at k1 k2 k3 ⊢
      exact ⟨h, k1, k2, k3⟩
    · intro l
      exact ks _ (by simp)
theorem all_bytes {p : UInt8 → Prop} (h : ∀ n : Fin 256, p (UInt8.ofNat n.1)) (c : UInt8) : p c := by
  have := h ⟨c.toNat, c.toNat_lt⟩
  simpa using this
theorem uq_copy : ∀ (bs l : List UInt8), (∀ b ∈ bs, 32 ≤ b.toNat ∧ b.toNat ≠ 127 ∧ b.toNat ≠ 34 ∧ b.toNat ≠ 92) → uq (bs ++ l) = (uq l).map fun p => (bs ++ p.1, p.2)
  | [], l, _ => by simp
  | b :: bs, l, h => by
    obtain ⟨h1, h2, h3, h4⟩ := h b (by simp)
    have e1 : b ≠ 34 := fun e => h3 (by rw [e]; rfl)
    have e2 : ¬ (b < 32 ∨ b = 127) := by
      rintro (e | e)
      · have : b.toNat < 32 := e
        omega
      · exact h2 (by rw [e]; rfl)
    have e3 : b ≠ 92 := fun e => h4 (by rw [e]; rfl)
    rw [List.cons_append]
    conv => lhs; unfold uq
    rw [if_neg e1, if_neg e2, if_pos e3, uq_copy bs l (fun x hx => h x (by simp [hx]))]
    cases uq l <;> simp
theorem one_ctl (c : UInt8) (r : List UInt8) : ∀ b ∈ one c r, 32 ≤ b.toNat ∧ b.toNat ≠ 127 := by
  have hx : ∀ d : UInt8, d < 16 → 32 ≤ (hexd d).toNat ∧ (hexd d).toNat ≠ 127 := all_bytes (p := fun d => d < 16 → 32 ≤ (hexd d).toNat ∧ (hexd d).toNat ≠ 127) (by decide +kernel)
  have hd : ∀ d : UInt8, d / 16 < 16 ∧ d % 16 < 16 := all_bytes (p := fun d => d / 16 < 16 ∧ d % 16 < 16) (by decide +kernel)
  unfold one
  repeat' split
  · rename_i h
    intro b hb
    simp only [List.mem_cons, List.not_mem_nil, or_false] at hb
    rcases hb with rfl | rfl
    · decide
    · rcases h with rfl | rfl <;> decide
  · decide
  · decide
  · decide
  · intro b hb
    simp only [List.mem_cons, List.not_mem_nil, or_false] at hb
    rcases hb with rfl | rfl | rfl | rfl
    · decide
    · decide
    · exact hx _ (hd c).1
    · exact hx _ (hd c).2
  · rename_i h
    simp only [not_or] at h
    by_cases hc : c.toNat < 128
    · rw [dec_low hc]
      intro b hb
      simp at hb
      subst hb
      refine ⟨?_, fun e => h.2.2 (UInt8.toNat_inj.1 e)⟩
      have := h.2.1
      simpa [UInt8.lt_iff_toNat_lt] using this
    · intro b hb
      rcases dec_high (c := c) (by omega) r with k | ⟨-, -, k, -⟩
      · exact absurd k h.1
      · have := k b hb
        omega
/-- What is read behind the head's writing is the head. -/
theorem uq_one (c : UInt8) (r l : List UInt8) : uq (one c r ++ l) = (uq l).map fun p => ((c :: r).take (dec (c :: r)).2 ++ p.1, p.2) := by
  have hh : ∀ c : UInt8, dig (hexd (c / 16)) ≠ 16 ∧ dig (hexd (c % 16)) ≠ 16 ∧ 16 * dig (hexd (c / 16)) + dig (hexd (c % 16)) = c :=
    all_bytes (p := fun c => dig (hexd (c / 16)) ≠ 16 ∧ dig (hexd (c % 16)) ≠ 16 ∧ 16 * dig (hexd (c / 16)) + dig (hexd (c % 16)) = c) (by decide +kernel)
  have lo : c.toNat < 128 → (c :: r).take (dec (c :: r)).2 = [c] := fun h => by rw [dec_low h]; rfl
  by_cases g1 : c = 92 ∨ c = 34
  · rw [lo (by rcases g1 with rfl | rfl <;> decide)]
    unfold one
    rw [if_pos g1]
    conv => lhs; simp only [List.cons_append, List.nil_append]; unfold uq
    rw [if_neg (by decide), if_neg (by decide), if_neg (by decide)]
    simp only [if_pos g1]
    rfl
  by_cases g2 : c = 10
  · subst g2
    rw [lo (by decide)]
    unfold one
    conv => lhs; simp only [List.cons_append, List.nil_append]; unfold uq
    rfl
  by_cases g3 : c = 13
  · subst g3
    rw [lo (by decide)]
    unfold one
    conv => lhs; simp only [List.cons_append, List.nil_append]; unfold uq
    rfl
  by_cases g4 : c = 9
  · subst g4
    rw [lo (by decide)]
    unfold one
    conv => lhs; simp only [List.cons_append, List.nil_append]; unfold uq
    rfl
  by_cases g5 : dec (c :: r) = (65533, 1) ∨ c < 32 ∨ c = 127
  · have e : (c :: r).take (dec (c :: r)).2 = [c] := by
      rcases g5 with k | k | k
      · rw [k]; rfl
      · exact lo (by have : c.toNat < 32 := k; omega)
      · exact lo (by rw [k]; decide)
    obtain ⟨a1, a2, a3⟩ := hh c
    rw [e]
    unfold one
    rw [if_neg g1, if_neg g2, if_neg g3, if_neg g4, if_pos g5]
    conv => lhs; simp only [List.cons_append, List.nil_append]; unfold uq
    rw [if_neg (by decide), if_neg (by decide), if_neg (by decide)]
    simp only [show ¬ ((120 : UInt8) = 92 ∨ (120 : UInt8) = 34) by decide, if_false, show ¬ (120 : UInt8) = 110 by decide, show ¬ (120 : UInt8) = 114 by decide, show ¬ (120 : UInt8) = 116 by decide, if_true, a1, a2, or_self, a3]
    rfl
  · have hc := one_ctl c r
    unfold one at hc ⊢
    rw [if_neg g1, if_neg g2, if_neg g3, if_neg g4, if_neg g5] at hc ⊢
    refine uq_copy _ _ fun b hb => ⟨(hc b hb).1, (hc b hb).2, ?_, ?_⟩
    all_goals
      by_cases hl : c.toNat < 128
      · rw [lo hl] at hb
        obtain rfl : b = c := by simpa using hb
        intro e
        simp only [not_or] at g1
        first | exact g1.2 (UInt8.toNat_inj.1 e) | exact g1.1 (UInt8.toNat_inj.1 e)
      · simp only [not_or] at g5
        rcases dec_high (c := c) (by omega) r with k | ⟨-, -, k, -⟩
        · exact absurd k g5.1
        · have := k b hb
          omega
theorem dec_width (c : UInt8) (r : List UInt8) : 1 ≤ (dec (c :: r)).2 := by
  by_cases h : c.toNat < 128
  · rw [dec_low h]; exact Nat.le_refl _
  · rcases dec_high (c := c) (by omega) r with k | ⟨k, -⟩
    · rw [k]; decide
    · omega
theorem take_drop_head (c : UInt8) (r : List UInt8) : (c :: r).take (dec (c :: r)).2 ++ r.drop ((dec (c :: r)).2 - 1) = c :: r := by
  have h := dec_width c r
  obtain ⟨n, hn⟩ : ∃ n, (dec (c :: r)).2 = n + 1 := ⟨_, (Nat.succ_pred_eq_of_pos h).symm⟩
  rw [hn]
  simp
/-- What is written for a text is read back as the text. -/
theorem uq_qb (l : List UInt8) (rest : List UInt8) : uq (qb l ++ 34 :: rest) = some (l, rest) := by
  induction hn : l.length using Nat.strongRecOn generalizing l with
  | _ n ih =>
    cases l with
    | nil =>
      rw [qb, List.nil_append]
      unfold uq
      rw [if_pos rfl]
    | cons c r =>
      unfold qb
      rw [List.append_assoc, uq_one, ih _ (by subst hn; simp; omega) (r.drop ((dec (c :: r)).2 - 1)) rfl]
      simp only [Option.map_some, take_drop_head]
/-- What is written for a text is well-formed. -/
theorem chk_low {c : UInt8} (h : c.toNat < 128) (r : List UInt8) : chk (c :: r) = chk r := by
  conv => lhs; unfold chk
  rw [dec_low h, if_neg (by intro e; have := congrArg Prod.fst e; simp at this; omega)]
  simp
theorem chk_one (c : UInt8) (r l : List UInt8) : chk (one c r ++ l) = chk l := by
  have hx : ∀ c : UInt8, (hexd (c / 16)).toNat < 128 ∧ (hexd (c % 16)).toNat < 128 := all_bytes (p := fun c => (hexd (c / 16)).toNat < 128 ∧ (hexd (c % 16)).toNat < 128) (by decide +kernel)
  unfold one
  repeat' split
  · rename_i h
    simp only [List.cons_append, List.nil_append]
    rw [chk_low (by decide), chk_low (by rcases h with rfl | rfl <;> decide)]
  · simp only [List.cons_append, List.nil_append]
    rw [chk_low (by decide), chk_low (by decide)]
  · simp only [List.cons_append, List.nil_append]
    rw [chk_low (by decide), chk_low (by decide)]
  · simp only [List.cons_append, List.nil_append]
    rw [chk_low (by decide), chk_low (by decide)]
  · simp only [List.cons_append, List.nil_append]
    rw [chk_low (by decide), chk_low (by decide), chk_low (hx c).1, chk_low (hx c).2]
  · rename_i h
    simp only [not_or] at h
    by_cases hc : c.toNat < 128
    · rw [dec_low hc]
      exact chk_low hc l
    · rcases dec_high (c := c) (by omega) r with k | ⟨k1, k2, -, k4⟩
      · exact absurd k h.1
      · obtain ⟨n, hn⟩ : ∃ n, (dec (c :: r)).2 = n + 1 := ⟨(dec (c :: r)).2 - 1, by omega⟩
        have e := k4 l
        rw [hn] at e k2 ⊢
        simp only [List.take_succ_cons, List.cons_append] at e ⊢
        conv => lhs; unfold chk
        rw [e, if_neg h.1, hn]
        simp only [List.length_cons, Nat.add_le_add_iff_right] at k2
        simp [List.length_take, Nat.min_eq_left k2]
theorem chk_qb (l rest : List UInt8) : chk (qb l ++ rest) = chk rest := by
  induction hn : l.length using Nat.strongRecOn generalizing l with
  | _ n ih =>
    cases l with
    | nil => rw [qb, List.nil_append]
    | cons c r =>
      unfold qb
      rw [List.append_assoc, chk_one, ih _ (by subst hn; simp; omega) (r.drop ((dec (c :: r)).2 - 1)) rfl]
theorem qb_ctl (l : List UInt8) : ∀ b ∈ qb l, 32 ≤ b.toNat ∧ b.toNat ≠ 127 := by
  induction hn : l.length using Nat.strongRecOn generalizing l with
  | _ n ih =>
    cases l with
    | nil => rw [qb]; simp
    | cons c r =>
      unfold qb
      intro b hb
      rcases List.mem_append.1 hb with h | h
      · exact one_ctl c r b h
      · exact ih _ (by subst hn; simp; omega) (r.drop ((dec (c :: r)).2 - 1)) rfl b h
theorem dec_le (c : UInt8) (r : List UInt8) : (dec (c :: r)).2 ≤ r.length + 1 := by
  by_cases h : c.toNat < 128
  · rw [dec_low h]; exact Nat.succ_le_succ (Nat.zero_le _)
  · rcases dec_high (c := c) (by omega) r with k | ⟨-, k, -⟩
    · rw [k]; exact Nat.succ_le_succ (Nat.zero_le _)
    · exact k
theorem one_len (c : UInt8) (r : List UInt8) : (one c r).length ≤ 4 * (dec (c :: r)).2 := by
  have h := dec_width c r
  unfold one
  repeat' split
  all_goals simp only [List.length_cons, List.length_nil, List.length_take]; omega
/-- What is written for a text is at most four times as long. -/
theorem qb_len (l : List UInt8) : (qb l).length ≤ 4 * l.length := by
  induction hn : l.length using Nat.strongRecOn generalizing l with
  | _ n ih =>
    cases l with
    | nil => rw [qb]; simp
    | cons c r =>
      unfold qb
      have h1 := one_len c r
      have h2 := ih _ (by subst hn; simp; omega) (r.drop ((dec (c :: r)).2 - 1)) rfl
      have h3 := dec_le c r
      have h4 := dec_width c r
      subst hn
      rw [List.length_drop] at h2
      rw [List.length_append, List.length_cons]
      omega
end Go.Proofs.YtcipjifpigpfdaaGreatDoor
/- The check of a text: what codepoint.Check hands back. -/
namespace Go.Proofs.YtcipjifpigpfdaaGreatDoor
open Go.RowKit
open Go.Lib hiding intOf
theorem dec_is (s : ByteArray) (i : Nat) : Utf8.decode s i = dec (s.data.toList.drop i) := by
  rw [decode_N]
  unfold dec
  simp [List.getD_eq_getElem?_getD, List.getElem?_drop]
theorem decGo_is (s : ByteArray) (i : Nat) (h : i < s.size) : Lib.decodeGo (s.extract i s.size) = dec (s.data.toList.drop i) := by
  unfold Lib.decodeGo
  rw [if_neg (by simp [ByteArray.size_extract]; omega), dec_is]
  congr 1
  simp [ByteArray.data_extract]
  rw [List.take_of_length_le (by simp)]
/-- the first place where no well-formed sequence begins -/
def cp : List UInt8 → Option Nat
  | [] => none
  | c :: r => if dec (c :: r) = (65533, 1) then some 0 else (cp (r.drop ((dec (c :: r)).2 - 1))).map (· + (dec (c :: r)).2)
termination_by l => l.length
decreasing_by simp; omega
def cpV : Option Nat → Value
  | none => .tuple #[.int .i64 (-1), .int .i64 0]
  | some n => .tuple #[.int .i64 n, .int .i64 11]
theorem cp_chk (l : List UInt8) : chk l = true → cp l = none := by
  induction hn : l.length using Nat.strongRecOn generalizing l with
  | _ n ih =>
    cases l with
    | nil => intro _; unfold cp; rfl
    | cons c r =>
      intro h
      unfold chk at h
      unfold cp
      by_cases hd : dec (c :: r) = (65533, 1)
      · rw [if_pos hd] at h; cases h
      · rw [if_neg hd] at h ⊢
        rw [ih _ (by subst hn; simp; omega) _ rfl h]
        rfl
def CpRel (l : List UInt8) (pos : Nat) : Prop := pos ≤ l.length ∧ cp l = (cp (l.drop pos)).map (· + pos)
theorem cp_start (l : List UInt8) : CpRel l 0 := ⟨Nat.zero_le _, by simp⟩
theorem drop_cons {l : List UInt8} {pos : Nat} (h : pos < l.length) : l.drop pos = l[pos] :: l.drop (pos + 1) := List.drop_eq_getElem_cons h
theorem cp_bad {l : List UInt8} {pos : Nat} (h : CpRel l pos) (hp : pos < l.length) (hd : dec (l.drop pos) = (65533, 1)) : cp l = some pos := by
  rw [h.2, drop_cons hp]
  rw [drop_cons hp] at hd
  unfold cp
  rw [if_pos hd]; simp
theorem cp_step {l : List UInt8} {pos r n : Nat} (h : CpRel l pos) (hp : pos < l.length) (hd : dec (l.drop pos) = (r, n)) (hb : ¬ (r = 65533 ∧ n = 1)) : CpRel l (pos + n) := by
  have hw := dec_width l[pos] (l.drop (pos + 1))
  have hl := dec_le l[pos] (l.drop (pos + 1))
  rw [← drop_cons hp, hd] at hw hl
  simp only [List.length_drop] at hl
  refine ⟨by omega, ?_⟩
  rw [h.2, drop_cons hp]
  conv => lhs; unfold cp
  rw [← drop_cons hp, hd, if_neg (by intro e; exact hb (by simpa using e))]
  simp only [List.drop_drop, Option.map_map]
  rw [show pos + 1 + (n - 1) = pos + n by omega]
  congr 1
  funext x
  simp; omega
theorem cp_done {l : List UInt8} {pos : Nat} (h : CpRel l pos) (hp : ¬ pos < l.length) : cp l = none := by
  rw [h.2, List.drop_eq_nil_of_le (by omega)]
  unfold cp; rfl
def Tabs (w : World) : Prop := Lib.Utf8Tabs 1 2 w
theorem Tabs.lt {w : World} (h : Tabs w) : 1 < w.heap.size ∧ 2 < w.heap.size :=
  ⟨World.block_lt_of_cell? w _ (h.1 0 (by decide)), World.block_lt_of_cell? w _ (h.2 0 (by decide)).1⟩
theorem Tabs.below {w w' : World} (h : Tabs w) (hb : Below w.heap.size w w') : Tabs w' := tabs_below h hb h.lt.1 h.lt.2
set_option maxHeartbeats 1000000 in
theorem check_any (s : ByteArray) (w : World) (hT : Tabs w) :
    Calls Tryz.prog 24 #[.string s] w fun e w' => e = .returned (cpV (cp s.data.toList)) ∧ Below w.heap.size w w' := by
  have HT := Lib.hid hT
  clear hT
  go_enter Tryz.func24, Tryz.ntmps24
  go_wp2
  go_loopw [] (fun wr => ∃ pos : Nat, wr.heap[w.heap.size]? = some (.stringIter s pos) ∧ Below w.heap.size w wr ∧ CpRel s.data.toList pos) (fun wr => s.size - wr.iterPos w.heap.size)
  case atStart => exact ⟨0, by have := World.iter_heap w s 0; simpa using this, (Below.refl _ w).alloc (Nat.le_refl _) _, cp_start _⟩
  case round =>
    obtain ⟨pos, hit, hbw, hcp⟩ := hrel
    have hl : s.data.toList.length = s.size := by simp
    by_cases hp : pos < s.size
    · obtain ⟨r, n, hd⟩ : ∃ r n : Nat, Utf8.decode s pos = (r, n) := ⟨_, _, rfl⟩
      have hnx : ∀ ty, (Instr.next (.pointer (some ⟨w.heap.size, 0, none⟩)) true ty).run Tryz.prog wr = .ok (.tuple #[.bool true, .int .i64 pos, .int .i32 r]) (wr.iterAt w.heap.size s (pos + n)) := fun ty => by
        rw [Lib.run_next_any_at wr w.heap.size s pos ty hit hp, hd]
      have hit2 := Lib.iterAt_heap wr w.heap.size s pos (pos + n) hit
      have hbw2 := Lib.below_iterAt hbw (k := w.heap.size) (Nat.le_refl _) s (pos + n)
      have hT2 := Lib.hid (HT.out.below hbw2)
      have hgo : Lib.decodeGo (s.extract pos s.size) = (r, n) := by rw [decGo_is _ _ hp, ← dec_is, hd]
      rw [dec_is] at hd
      have hbad : r = 65533 → n = 1 → Hid (cp s.data.toList = some pos) := fun h1 h2 => by subst h1 h2; exact cp_bad hcp (by omega) hd
      have hstep : ¬ (r = 65533 ∧ n = 1) → Hid (CpRel s.data.toList (pos + n)) := fun h => cp_step hcp (by omega) hd h
      have hwid : 1 ≤ n := by
        have := dec_width s.data.toList[pos] (s.data.toList.drop (pos + 1))
        rw [← drop_cons (by omega), hd] at this; exact this
      have hmeas := Lib.hid hit
      clear hd hcp hit
      have HGO := Lib.hid hgo
      have HIT2 := Lib.hid hit2
      clear hgo hit2
      have hle : (pos : Int) ≤ s.size := by omega
      by_cases hr : r = 65533
      · have er : ((r : Int) == 65533) = true := by simp; omega
        have hsz := hbw2.size
        have hlt : w.heap.size < (wr.iterAt w.heap.size s (pos + n)).heap.size := (Array.getElem?_eq_some_iff.1 HIT2.out).1
        by_cases hn : n = 1
        · have en : ((n : Int) == 1) = true := by simp; omega
          have HB := hbad hr hn
          clear hbad hstep hr hn
          go_wp2_with (go_at_call 49; refine (Tryz.utf8_DecodeRuneInString _ _ hT2.out).mono ?_; rw [HGO.out]; rintro e w1 ⟨rfl, hb1⟩)
          go_ret2
          exact ⟨by rw [HB.out]; rfl, hbw2.trans (hb1.mono hsz)⟩
        · have en : ((n : Int) == 1) = false := by simp; omega
          have HS := hstep (fun h => hn h.2)
          clear hbad hstep hr hn
          go_wp2_with (go_at_call 49; refine (Tryz.utf8_DecodeRuneInString _ _ hT2.out).mono ?_; rw [HGO.out]; rintro e w1 ⟨rfl, hb1⟩)
          go_roundw
          case rel => exact ⟨pos + n, by rw [hb1.block _ hlt]; exact HIT2.out, hbw2.trans (hb1.mono hsz), HS.out⟩
          case measure =>
            simp only [World.iterPos, hb1.block _ hlt, HIT2.out, hmeas.out]
            omega
      · have er : ((r : Int) == 65533) = false := by simp; omega
        have HS := hstep (fun h => hr h.1)
        clear hbad hstep
        go_wp2
        go_roundw
        case rel => exact ⟨pos + n, HIT2.out, hbw2, HS.out⟩
        case measure =>
          simp only [World.iterPos, HIT2.out, hmeas.out]
          omega
    · have hnx : ∀ ty, (Instr.next (.pointer (some ⟨w.heap.size, 0, none⟩)) true ty).run Tryz.prog wr = _ := fun ty => Lib.run_next_end_at wr w.heap.size s pos ty hit hp
      have HE := Lib.hid (cp_done hcp (by omega))
      clear hit hcp
      go_wp2
      go_ret2
      exact ⟨by rw [HE.out]; rfl, hbw⟩
end Go.Proofs.YtcipjifpigpfdaaGreatDoor
/- graph.form: the form of a node, over what scalar answers. -/
namespace Go.Proofs.YtcipjifpigpfdaaGreatDoor
open Go.RowKit
open Go.Lib hiding intOf
/-- scalar answers so at a kind and a text -/
def ScalarAt (sc : Int → ByteArray → Bool) (k : Int) (t : ByteArray) : Prop :=
  ∀ w, Tabs w → Calls Tryz.prog 118 #[.int .i64 k, .string t] w fun e w' => e = .returned (.bool (sc k t)) ∧ Below w.heap.size w w'
def formF (sc : Int → ByteArray → Bool) (n : Nd) : Bool :=
  if n.kind = 9 then decide (n.text.size = 0) && !n.ord && decide (n.keys.length = 0)
  else if n.kind = 10 then decide (n.text.size = 0) && decide (n.keys.length = n.items.length)
  else if n.kind = 11 then nameG n.text.data.toList && !n.ord && decide (n.keys.length = 0) && decide (n.items.length = 1)
  else !n.ord && decide (n.keys.length = 0) && decide (n.items.length = 0) && sc n.kind n.text
/-- a node as a value -/
def NdV (w : World) (v : Value) (n : Nd) : Prop := ∃ kv iv, v = .agg #[.int .i64 n.kind, .string n.text, .bool n.ord, kv, iv] ∧ SlI w kv n.keys ∧ SlI w iv n.items
theorem str_eq_empty (t : ByteArray) : t.toList.isEmpty = decide (t.size = 0) := by
  rw [Lib.toList_data]
  have e : t.data.toList.length = t.size := by simp
  by_cases h : t.size = 0
  · rw [h] at e
    rw [List.length_eq_zero_iff.1 e]; simp [h]
  · cases hl : t.data.toList with
    | nil => rw [hl] at e; exact absurd e.symm h
    | cons x xs => simp [h]
set_option maxHeartbeats 4000000 in
set_option maxRecDepth 100000 in
theorem form_any (sc : Int → ByteArray → Bool) (w : World) (v : Value) (n : Nd) (h : NdV w v n) (ht : n.text.size ≤ maxLen) (hsc : ScalarAt sc n.kind n.text) (hE : Tabs w) :
    Calls Tryz.prog 70 #[v] w fun e w' => e = .returned (.bool (formF sc n)) ∧ Below w.heap.size w w' := by
  obtain ⟨kv, iv, rfl, ⟨ka, kc, rfl, hkl, -⟩, ⟨ia, ic, rfl, hil, -⟩⟩ := h
  have HSC := Lib.hid hsc
  have HE := PLift.up hE
  have HNM := Lib.hid (fun w => gname_any n.text w ht)
  have HF : Hid (formF sc n = if n.kind = 9 then decide (n.text.size = 0) && !n.ord && decide (n.keys.length = 0)
    else if n.kind = 10 then decide (n.text.size = 0) && decide (n.keys.length = n.items.length)
    else if n.kind = 11 then nameG n.text.data.toList && !n.ord && decide (n.keys.length = 0) && decide (n.items.length = 1)
    else !n.ord && decide (n.keys.length = 0) && decide (n.items.length = 0) && sc n.kind n.text) := rfl
  clear hsc ht hE
  have he := str_eq_empty n.text
  generalize formF sc n = r at HF
  obtain ⟨k, t, od, K, I⟩ := n
  simp only at HF HSC HNM he hkl hil ⊢
  generalize K.length = kl at HF hkl
  generalize I.length = il at HF hil
  by_cases hk9 : k = 9
  · have k9 : (k == 9) = true := by rw [hk9]; rfl
    by_cases ht0 : t.size = 0
    · have e0 : t.toList.isEmpty = true := by rw [he]; simp [ht0]
      cases od
      · by_cases hkl0 : kl = 0
        · have ehkl0 : ((kl : Int) == 0) = true := by simp only [beq_iff_eq]; omega
          have HR : Hid (r = true) := by show _ = _; rw [HF.out]; simp [hk9, hkl0, ht0]
          go_enter Tryz.func70, Tryz.ntmps70
          go_wp2
          go_ret
          exact ⟨ret_bool HR.out.symm, below_new _ _⟩
        · have ehkl0 : ((kl : Int) == 0) = false := by simp only [beq_eq_false_iff_ne, ne_eq]; omega
          have HR : Hid (r = false) := by show _ = _; rw [HF.out]; simp [hk9, hkl0, ht0]
          go_enter Tryz.func70, Tryz.ntmps70
          go_wp2
          go_ret
          exact ⟨ret_bool HR.out.symm, below_new _ _⟩
      · have HR : Hid (r = false) := by show _ = _; rw [HF.out]; simp [hk9, ht0]
        go_enter Tryz.func70, Tryz.ntmps70
        go_wp2
        go_ret
        exact ⟨ret_bool HR.out.symm, below_new _ _⟩
    · have e0 : t.toList.isEmpty = false := by rw [he]; simp [ht0]
      have HR : Hid (r = false) := by show _ = _; rw [HF.out]; simp [hk9, ht0]
      go_enter Tryz.func70, Tryz.ntmps70
      go_wp2
      go_ret
      exact ⟨ret_bool HR.out.symm, below_new _ _⟩
  · have k9 : (k == 9) = false := by simp only [beq_eq_false_iff_ne, ne_eq]; exact hk9
    by_cases hk10 : k = 10
    · have k10 : (k == 10) = true := by rw [hk10]; rfl
      by_cases ht0 : t.size = 0
      · have e0 : t.toList.isEmpty = true := by rw [he]; simp [ht0]
        by_cases hkl0 : kl = il
        · have ehkl0 : ((kl : Int) == il) = true := by simp only [beq_iff_eq]; omega
          have HR : Hid (r = true) := by show _ = _; rw [HF.out]; simp [hk10, hkl0, ht0]
          go_enter Tryz.func70, Tryz.ntmps70
          go_wp2
          go_ret
          exact ⟨ret_bool HR.out.symm, below_new _ _⟩
        · have ehkl0 : ((kl : Int) == il) = false := by simp only [beq_eq_false_iff_ne, ne_eq]; omega
          have HR : Hid (r = false) := by show _ = _; rw [HF.out]; simp [hk10, hkl0, ht0]
          go_enter Tryz.func70, Tryz.ntmps70
          go_wp2
          go_ret
          exact ⟨ret_bool HR.out.symm, below_new _ _⟩
      · have e0 : t.toList.isEmpty = false := by rw [he]; simp [ht0]
        have HR : Hid (r = false) := by show _ = _; rw [HF.out]; simp [hk10, ht0]
        go_enter Tryz.func70, Tryz.ntmps70
        go_wp2
        go_ret
        exact ⟨ret_bool HR.out.symm, below_new _ _⟩
    · have k10 : (k == 10) = false := by simp only [beq_eq_false_iff_ne, ne_eq]; exact hk10
      by_cases hk11 : k = 11
      · have k11 : (k == 11) = true := by rw [hk11]; rfl
        cases hnm : nameG t.data.toList
        · have HR : Hid (r = false) := by show _ = _; rw [HF.out]; simp [hk11, hnm]
          go_enter Tryz.func70, Tryz.ntmps70
          go_wp2_with (go_at_call 117; refine (HNM.out _).mono ?_; rintro e w1 ⟨rfl, rfl⟩; simp only [hnm])
          go_ret
          exact ⟨ret_bool HR.out.symm, below_new _ _⟩
        · cases od
          · by_cases hkl0 : kl = 0
            · have ehkl0 : ((kl : Int) == 0) = true := by simp only [beq_iff_eq]; omega
              by_cases hil0 : il = 1
              · have ehil0 : ((il : Int) == 1) = true := by simp only [beq_iff_eq]; omega
                have HR : Hid (r = true) := by show _ = _; rw [HF.out]; simp [hk11, hnm, hkl0, hil0]
                go_enter Tryz.func70, Tryz.ntmps70
                go_wp2_with (go_at_call 117; refine (HNM.out _).mono ?_; rintro e w1 ⟨rfl, rfl⟩; simp only [hnm])
                go_ret
                exact ⟨ret_bool HR.out.symm, below_new _ _⟩
              · have ehil0 : ((il : Int) == 1) = false := by simp only [beq_eq_false_iff_ne, ne_eq]; omega
                have HR : Hid (r = false) := by show _ = _; rw [HF.out]; simp [hk11, hnm, hkl0, hil0]
                go_enter Tryz.func70, Tryz.ntmps70
                go_wp2_with (go_at_call 117; refine (HNM.out _).mono ?_; rintro e w1 ⟨rfl, rfl⟩; simp only [hnm])
                go_ret
                exact ⟨ret_bool HR.out.symm, below_new _ _⟩
            · have ehkl0 : ((kl : Int) == 0) = false := by simp only [beq_eq_false_iff_ne, ne_eq]; omega
              have HR : Hid (r = false) := by show _ = _; rw [HF.out]; simp [hk11, hnm, hkl0]
              go_enter Tryz.func70, Tryz.ntmps70
              go_wp2_with (go_at_call 117; refine (HNM.out _).mono ?_; rintro e w1 ⟨rfl, rfl⟩; simp only [hnm])
              go_ret
              exact ⟨ret_bool HR.out.symm, below_new _ _⟩
          · have HR : Hid (r = false) := by show _ = _; rw [HF.out]; simp [hk11, hnm]
            go_enter Tryz.func70, Tryz.ntmps70
            go_wp2_with (go_at_call 117; refine (HNM.out _).mono ?_; rintro e w1 ⟨rfl, rfl⟩; simp only [hnm])
            go_ret
            exact ⟨ret_bool HR.out.symm, below_new _ _⟩
      · have k11 : (k == 11) = false := by simp only [beq_eq_false_iff_ne, ne_eq]; exact hk11
        cases od
        · by_cases hkl0 : kl = 0
          · have ehkl0 : ((kl : Int) == 0) = true := by simp only [beq_iff_eq]; omega
            by_cases hil0 : il = 0
            · have ehil0 : ((il : Int) == 0) = true := by simp only [beq_iff_eq]; omega
              have HR : Hid (r = sc k t) := by show _ = _; rw [HF.out]; simp [hk9, hk10, hk11, hkl0, hil0]
              go_enter Tryz.func70, Tryz.ntmps70
              go_wp2_with (go_at_call 118; refine (HSC.out _ (HE.down.below (below_new _ _))).mono ?_; rintro e w1 ⟨rfl, hb⟩; replace hb := Lib.hid hb)
              go_ret
              exact ⟨ret_bool HR.out.symm, (below_new _ _).trans (hb.out.mono (below_new _ _).size)⟩
            · have ehil0 : ((il : Int) == 0) = false := by simp only [beq_eq_false_iff_ne, ne_eq]; omega
              have HR : Hid (r = false) := by show _ = _; rw [HF.out]; simp [hk9, hk10, hk11, hil0]
              go_enter Tryz.func70, Tryz.ntmps70
              go_wp2
              go_ret
              exact ⟨ret_bool HR.out.symm, below_new _ _⟩
          · have ehkl0 : ((kl : Int) == 0) = false := by simp only [beq_eq_false_iff_ne, ne_eq]; omega
            have HR : Hid (r = false) := by show _ = _; rw [HF.out]; simp [hk9, hk10, hk11, hkl0]
            go_enter Tryz.func70, Tryz.ntmps70
            go_wp2
            go_ret
            exact ⟨ret_bool HR.out.symm, below_new _ _⟩
        · have HR : Hid (r = false) := by show _ = _; rw [HF.out]; simp [hk9, hk10, hk11]
          go_enter Tryz.func70, Tryz.ntmps70
          go_wp2
          go_ret
          exact ⟨ret_bool HR.out.symm, below_new _ _⟩
end Go.Proofs.YtcipjifpigpfdaaGreatDoor
