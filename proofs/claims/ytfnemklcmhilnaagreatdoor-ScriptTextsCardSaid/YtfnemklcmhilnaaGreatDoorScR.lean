/- A region that draws its order: quiet operations and calls, then an append of new elements to a row of the call's own, and an assignment. -/
import Derived.Test.YtfnemklcmhilnaaGreatDoorScM
import Derived.Laws.AppendOwn
import Derived.Lib.UnsafeStr
import Derived.WalkKit
namespace Go.Mix
open Go.RowKit
theorem wp_region_app {P : Program} {Q : Exit → Act → World → Prop} {id : Nat} {a : Act} {w : World} {l : List Oper} (n : Nat) (ob oa os : Oper) {aF : Act} (hm : P.follows .mixedOrders = true)
    (hlen : l.length = n + 3) (hs : Region.noSelect l.toArray = true) (hB : lexTo .any l.toArray n 0 (Array.replicate l.length false) = some (List.replicate n true ++ List.replicate (l.length - n) false).toArray)
    (hd : dstsB a.tmps.size (l.take n) [] = true) (h1 : l[n]? = some ob) (h2 : l[n + 1]? = some oa) (h3 : l[n + 2]? = some os) (g1 : ob.guard = none) (g2 : oa.guard = none) (g3 : os.guard = none)
    (hr0 : Region.ready .any l.toArray (List.replicate n true ++ List.replicate 3 false).toArray = [n])
    (hr1 : Region.ready .any l.toArray ((List.replicate n true ++ List.replicate 3 false).toArray.setIfInBounds n true) = [n + 1])
    (hr2 : Region.ready .any l.toArray (((List.replicate n true ++ List.replicate 3 false).toArray.setIfInBounds n true).setIfInBounds (n + 1) true) = [n + 2])
    (hr3 : Region.ready .any l.toArray ((((List.replicate n true ++ List.replicate 3 false).toArray.setIfInBounds n true).setIfInBounds (n + 1) true).setIfInBounds (n + 2) true) = [])
    (hA : ∀ ρ : World, wpQuiet P l.toArray (fun w' => ∃ n, w' = ρ.drewN n) (fun a' => a' = aF) (l.take n) a)
    (cs : Array Value) (e : TypeId) (m c : Nat)
    (hb : ∀ W : World, (execOp aF.eval ob).run P W = .ok (.value (.slice (some ⟨W.heap.size, 0, none⟩) m c)) (W.alloc (.cells cs e)))
    (s x : Operand) (t : TypeId) (ho : oa.op = .call { callee := .builtin .append, args := #[s, x], argTypes := #[t, t] }) (base : Nat) (i : TypeInfo) (z : Value) (size bytes : Nat) (ht : P.underlying t = some (.slice e)) (hi : P.info? e = some i) (hz : i.zero = some z)
    (hsize : i.size = size) (hby : i.bytes = bytes) (hzs : z.cells.size = size) (hsz : 0 < size) (v : Value) (k : Nat) (xs : List Value) (hown : w.ownsRow base e size v k xs)
    (hsv : ∀ bv, (aF.put ob.dst bv).eval s = v) (hx : ∀ bv, (aF.put ob.dst bv).eval x = bv) (hl : cs.size = m * size) (hone : ∀ u ∈ cs.toList, u.oneCell' = true) (h63 : k + m ≤ maxLen) (hbytes : (k + m) * bytes ≤ 140737488355328) (hbase : base ≤ w.heap.size)
    (hos : ∀ bv v' W, (execOp ((aF.put ob.dst bv).put oa.dst v').eval os).run P W = .ok (.value v') W)
    (hK : ∀ v' W, W.ownsRow base e size v' (k + m) (xs ++ cs.toList) → Below base w W → Q .normal (((aF.put ob.dst (.slice (some ⟨w.heap.size, 0, none⟩) m c)).put oa.dst v').put os.dst v') W) : (Code.region id l.toArray true).wp P Q a w := by
  have kl : ∀ (W W' : World), (∃ n, W' = W.drewN n) → W'.heap = W.heap ∧ (Below base w W → Below base w W') := by
    rintro W _ ⟨n, rfl⟩
    exact ⟨rfl, fun h => ⟨h.os, h.tape, h.output, h.size, h.block⟩⟩
  have ko : ∀ (W W' : World) (v : Value) (k : Nat) (xs : List Value), W'.heap = W.heap → W.ownsRow base e size v k xs → W'.ownsRow base e size v k xs := by
    intro W W' v k xs h1 h2
    unfold World.ownsRow at *
    rw [h1]; exact h2
  refine wp_region_mix (aF := aF) n (fun W => W.heap = w.heap ∧ Below base w W) (fun _ => True) (fun w w' => ∃ n, w' = w.drewN n) hm (by omega) hs hB hd (fun w => ⟨0, rfl⟩) (fun W W' h h' => ⟨(kl W W' h').1.trans h.1, (kl W W' h').2 h.2⟩) (fun _ _ => trivial) ⟨rfl, (Below.refl base w).drew⟩ (fun ρ _ => hA ρ) ?_
  rw [show l.length - n = 3 by omega]
  refine wpU_one hr0 (by simpa using h1) (by unfold Region.wanted; rw [g1]) (fun bv W => bv = .slice (some ⟨w.heap.size, 0, none⟩) m c ∧ W.heap = w.heap.push (.cells cs e) ∧ Below base w W) (fun _ W W' h h' => ⟨h.1, (kl W W' h').1.trans h.2.1, (kl W W' h').2 h.2.2⟩) (fun _ _ _ => trivial) ?_ ?_
  · rintro W ⟨hh, hbw⟩
    rw [hb]
    exact ⟨by rw [hh], by show W.heap.push _ = _; rw [hh], hbw.alloc (by rw [hh]; exact hbase) _⟩
  rintro bv W ⟨rfl, -, -⟩
  refine wpU_one hr1 (by simpa using h2) (by unfold Region.wanted; rw [g2]) (fun v' W => W.ownsRow base e size v' (k + m) (xs ++ cs.toList) ∧ Below base w W) (fun _ W W' h h' => ⟨ko W W' _ _ _ (kl W W' h').1 h.1, (kl W W' h').2 h.2⟩) (fun _ _ _ => trivial) ?_ ?_
  · rintro W ⟨-, hh, hbw⟩
    have hsz2 : W.heap.size = w.heap.size + 1 := by rw [hh]; simp
    have hown2 : W.ownsRow base e size v k xs := ko (w.alloc (.cells cs e)) W _ _ _ hh (World.ownsRow.alloc (w := w) hown _)
    obtain ⟨v', w', hr, q2, q3, -⟩ := run_append_own (P := P) W base t oa.type e i z size bytes ht hi hz hsize hby hzs hsz v k xs hown2 ⟨w.heap.size, 0, none⟩ m c cs.toList (by simpa using hl) (by
      intro j u hj
      have e1 : (⟨w.heap.size, 0, none⟩ : Addr).add j = ⟨w.heap.size, j, none⟩ := by unfold Addr.add; split <;> simp_all
      have e2 : W.heap[w.heap.size]? = some (.cells cs e) := by rw [hh]; simp
      rw [e1]
      simp only [World.cell?, e2]
      simpa using hj) hone h63 hbytes (by omega)
    have e1 := hsv (.slice (some ⟨w.heap.size, 0, none⟩) m c)
    have e2 := hx (.slice (some ⟨w.heap.size, 0, none⟩) m c)
    unfold execOp
    simp only [ho, resolve, invoke, builtin, Sem.run_bind, Sem.run_pure, Result.andThen_ok, List.map_toArray, List.map_cons, List.map_nil, e1, e2, hr]
    exact ⟨q2, hbw.grown q3 (by omega) (fun b hb => (World.ownsRow.lt hown b hb).1)⟩
  · rintro v' W ⟨q1, q2⟩
    refine wpU_one hr2 (by simpa using h3) (by unfold Region.wanted; rw [g3]) (fun u W => u = v' ∧ W.ownsRow base e size v' (k + m) (xs ++ cs.toList) ∧ Below base w W) (fun _ W W' h h' => ⟨h.1, ko W W' _ _ _ (kl W W' h').1 h.2.1, (kl W W' h').2 h.2.2⟩) (fun _ _ _ => trivial) ?_ ?_
    · rintro W ⟨p1, p2⟩
      rw [hos]
      exact ⟨rfl, p1, p2⟩
    · rintro u W ⟨rfl, p1, p2⟩
      exact wpU_end hr3 (fun W ⟨_, p1, p2⟩ => hK _ W p1 p2)
end Go.Mix
