/- Laws for rows of bytes that a call makes: an append of given bytes, of a string; the string of a row; rows under a world that has grown. -/
import Derived.Test.YtfnemklcmhilnaaGreatDoorShelf
import Derived.Test.YtfnemklcmhilnaaGreatDoorRows
import Derived.WalkKit
import Derived.WalkSpells
import Derived.Lib.Hide
import Derived.Lib.AppendStr
import Derived.Laws.IdiomStrings
namespace Go.Proofs.YtfnemklcmhilnaaGreatDoor
open Go.RowKit
open Go.Lib hiding intOf
/-- v is the bytes l, in a row of its own from block B on -/
def OwnB (B : Nat) (v : Value) (l : List UInt8) (w : World) : Prop := w.ownsRow B 5 1 v l.length (byteCells l)
theorem OwnB.nil (B : Nat) (w : World) : OwnB B (.slice none 0 0) [] w := ⟨rfl, .inl ⟨rfl, rfl⟩⟩
theorem rows_below {w w' : World} {B e size n : Nat} {v : Value} {xs : List Value} (h : w.ownsRow B e size v n xs) (hb : Below w.heap.size w w') : w'.ownsRow B e size v n xs := by
  refine ⟨h.1, ?_⟩
  rcases h.2 with hn | ⟨g, cap, cur, hv, h1, h2, h3⟩
  · exact .inl hn
  · refine .inr ⟨g, cap, cur, hv, h1, ?_, h3⟩
    have hlt : g < w.heap.size := (Array.getElem?_eq_some_iff.1 h2).1
    rw [hb.block g hlt]; exact h2
theorem OwnB.below {B : Nat} {v : Value} {l : List UInt8} {w w' : World} (h : OwnB B v l w) (hb : Below w.heap.size w w') : OwnB B v l w' := rows_below h hb
theorem OwnB.alloc {B : Nat} {v : Value} {l : List UInt8} {w : World} (h : OwnB B v l w) (o : Obj) : OwnB B v l (w.alloc o) := World.ownsRow.alloc h o
theorem tabs_below {a b : Nat} {w w' : World} {B : Nat} (h : Lib.Utf8Tabs a b w) (hb : Below B w w') (ha : a < B) (hb2 : b < B) : Lib.Utf8Tabs a b w' := by
  unfold Lib.Utf8Tabs at *
  exact ⟨fun i hi => by rw [hb.cell (p := ⟨a, i, none⟩) ha]; exact h.1 i hi, fun i hi => by rw [hb.cell (p := ⟨b, _, none⟩) hb2, hb.cell (p := ⟨b, _, none⟩) hb2]; exact h.2 i hi⟩
theorem info_u8 : (Tryz.prog.info? 5).map (fun i => (i.zero, i.size, i.bytes)) = some (some (.int .u8 0), 1, 1) := by kernel_rfl
theorem byteCells_one' (l : List UInt8) : ∀ v ∈ byteCells l, v.oneCell' = true := by
  intro v hv
  simp only [byteCells, List.mem_map] at hv
  obtain ⟨b, _, rfl⟩ := hv
  rfl
/-- 'append(b, c1, .., cm)' -/
theorem app_bytes {ops : Array Oper} {rest : List Oper} {o : Oper} {a : Act} {Q : Exit → Act → World → Prop} (w : World) (hgd : o.guard = none) (s x : Operand)
    (ho : o.op = .call { callee := .builtin .append, args := #[s, x], argTypes := #[37, 37] }) {B : Nat} {v : Value} {l : List UInt8} (ns : List UInt8) (hs : a.eval s = v) (hown : OwnB B v l w)
    (c : Nat) (hx : a.eval x = .slice (some ⟨w.heap.size, 0, none⟩) ns.length c) (cs : Array Value) (hcs : cs = (byteCells ns).toArray) (hlen : l.length + ns.length ≤ 140737488355328) (hB : B ≤ w.heap.size)
    (h : ∀ v' w', OwnB B v' (l ++ ns) w' → Below B w w' → wpList Tryz.prog ops Q rest (a.put o.dst v') w') : wpList Tryz.prog ops Q (o :: rest) a (w.alloc (.cells cs 5)) := by
  obtain ⟨i0, hi, hz0, hz1, hz2⟩ := info_parts info_u8
  refine wpList_append_own _ hgd s x 37 ho B 5 i0 (.int .u8 0) 1 1 Tryz.underlying37 hi hz0 hz1 hz2 rfl (by decide) v l.length (byteCells l) hs (World.ownsRow.alloc hown _) ⟨w.heap.size, 0, none⟩ ns.length c (byteCells ns) hx (by simp [byteCells]) ?_ (byteCells_one' ns) (by unfold maxLen; omega) (by omega) (by simp; omega) ?_
  · intro j u hj
    subst hcs
    have : (⟨w.heap.size, 0, none⟩ : Addr).add j = ⟨w.heap.size, j, none⟩ := by unfold Addr.add; split <;> simp_all
    rw [this, Lib.cell_of_heap (heap_alloc_new w _)]
    simpa using hj
  · intro v' w' hown' hg _
    refine h v' w' (by unfold OwnB; rw [byteCells_append, List.length_append]; exact hown') ?_
    exact ((Below.refl B w).alloc hB _).grown hg (by simp; omega) (fun k hk => (World.ownsRow.lt hown k hk).1)
/-- 'append(b, s...)' -/
theorem app_str {ops : Array Oper} {rest : List Oper} {o : Oper} {a : Act} {Q : Exit → Act → World → Prop} (w : World) (hgd : o.guard = none) (sl x : Operand)
    (ho : o.op = .call { callee := .builtin .append, args := #[sl, x], argTypes := #[37, 9] }) {B : Nat} {v : Value} {l : List UInt8} (hs : a.eval sl = v) (hown : OwnB B v l w) (s : ByteArray) (hx : a.eval x = .string s)
    (hlen : l.length + s.size ≤ 140737488355328) (hB : B ≤ w.heap.size)
    (h : ∀ v' w', OwnB B v' (l ++ s.data.toList) w' → Below B w w' → w.grownBy w' v.ownBlock → wpList Tryz.prog ops Q rest (a.put o.dst v') w') : wpList Tryz.prog ops Q (o :: rest) a w := by
  obtain ⟨i0, hi, hz0, hz1, hz2⟩ := info_parts info_u8
  refine Lib.wpList_append_own_string _ hgd sl x 37 9 ho B 5 i0 Tryz.underlying37 Tryz.underlying9 hi hz0 hz1 hz2 v l.length (byteCells l) hs hown s hx (by unfold maxLen; omega) hlen hB ?_
  intro v' w' hown' hg _
  refine h v' w' (by unfold OwnB; rw [byteCells_append, List.length_append, ← strCells_eq]; simpa using hown') ?_ ?_
  · exact (Below.refl B w).grown hg hB (fun k hk => (World.ownsRow.lt hown k hk).1)
  · exact hg
/-- 'string(b)' -/
theorem str_of {B : Nat} {v : Value} {l : List UInt8} {w : World} (h : OwnB B v l w) : (convert 37 9 v).run Tryz.prog w = .ok (.string ⟨l.toArray⟩) w := by
  rcases h.2 with ⟨rfl, h0⟩ | ⟨g, cap, cur, rfl, h1, h2, h3, h4, h5, h6⟩
  · have : l = [] := List.length_eq_zero_iff.1 h0
    subst this
    exact run_convert_bytes_nil w 37 5 Tryz.underlying37 Tryz.underlying5 0 0 9 Tryz.underlying9
  · refine run_convert_bytes_back w 37 9 5 ⟨g, 0, none⟩ cap l Tryz.underlying37 Tryz.underlying5 Tryz.underlying9 ?_
    intro j hj
    have := World.ownsRow.cells (w := w) h rfl j (.int .u8 (l[j].toNat)) (by simp [byteCells, List.getElem?_eq_getElem hj])
    simpa using this
theorem OwnB.slice {B : Nat} {v : Value} {l : List UInt8} {w : World} (h : OwnB B v l w) : ∃ ao c, v = .slice ao l.length c := by
  rcases h.2 with ⟨rfl, h0⟩ | ⟨g, cap, cur, rfl, _⟩
  · rw [h0]; exact ⟨_, _, rfl⟩
  · exact ⟨_, _, rfl⟩
end Go.Proofs.YtfnemklcmhilnaaGreatDoor
