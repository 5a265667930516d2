/- The readers of a command's parts: readName, readFormat, readText, readPath. -/
import Derived.Test.YtfnemklcmhilnaaGreatDoorScU
import Derived.Test.YtfnemklcmhilnaaGreatDoorScW
import Derived.Lib.SlicesS
namespace Go.Proofs.YtfnemklcmhilnaaGreatDoor
open Go.RowKit
open Go.Lib hiding intOf
def cmd (op : Int) (nv fv : Value) (tx : ByteArray) : Obj := .cells #[.int .i64 op, nv, fv, .string tx] 29
def RowS (B : Nat) (v : Value) (l : List ByteArray) (w : World) : Prop := w.ownsRow B 9 1 v l.length (l.map Value.string)
def RowI (B : Nat) (v : Value) (l : List Int) (w : World) : Prop := w.ownsRow B 3 1 v l.length (l.map (Value.int .i64))
/-- a command in a block of the call's own -/
structure CmdAt (B cb : Nat) (op : Int) (ns : List ByteArray) (fs : List Int) (tx : ByteArray) (w : World) (nv fv : Value) : Prop where
  base : B ≤ cb
  blk : w.heap[cb]? = some (cmd op nv fv tx)
  names : RowS B nv ns w
  fmts : RowI B fv fs w
/-- what is neither the command nor a row of strings or of integers stands as it stood -/
def KeepC (cb : Nat) (w w' : World) : Prop := ∀ b cs T fr, w.heap[b]? = some (.cells cs T fr) → b ≠ cb → T ≠ 9 → T ≠ 3 → w'.heap[b]? = some (.cells cs T fr)
theorem KeepC.refl (cb : Nat) (w : World) : KeepC cb w w := fun _ _ _ _ h _ _ _ => h
theorem KeepC.trans {cb : Nat} {w w1 w2 : World} (h : KeepC cb w w1) (h2 : KeepC cb w1 w2) : KeepC cb w w2 := fun b cs T fr h0 n1 n2 n3 => h2 b cs T fr (h b cs T fr h0 n1 n2 n3) n1 n2 n3
theorem KeepC.of_below {cb : Nat} {w w' : World} (h : Below w.heap.size w w') : KeepC cb w w' := fun b cs T fr h0 _ _ _ => by
  rw [h.block b (Array.getElem?_eq_some_iff.1 h0).1]; exact h0
theorem row_type {w : World} {B e n : Nat} {v : Value} {xs : List Value} (h : w.ownsRow B e 1 v n xs) {k : Nat} (hk : v.ownBlock = some k) : ∃ cs, w.heap[k]? = some (.cells cs e (0, 0)) := by
  rcases h.2 with ⟨rfl, _⟩ | ⟨g, cap, cur, rfl, _, hg, _⟩
  · simp [Value.ownBlock] at hk
  · simp only [Value.ownBlock, Option.some.injEq] at hk
    subst hk; exact ⟨cur, hg⟩
theorem info_str : (Tryz.prog.info? 9).map (fun i => (i.zero, i.size, i.bytes)) = some (some (.string ⟨#[]⟩), 1, 16) := by kernel_rfl
theorem info_int : (Tryz.prog.info? 3).map (fun i => (i.zero, i.size, i.bytes)) = some (some (.int .i64 0), 1, 8) := by kernel_rfl
theorem add_zero' (b o : Nat) : (⟨b, 0, none⟩ : Addr).add o = ⟨b, o, none⟩ := by unfold Addr.add; split <;> simp_all
/-- 'append(l, s)', l a row of strings of the call's own -/
theorem app_s {ops : Array Oper} {rest : List Oper} {o : Oper} {a : Act} {Q : Exit → Act → World → Prop} (w : World) (hgd : o.guard = none) (s x : Operand)
    (ho : o.op = .call { callee := .builtin .append, args := #[s, x], argTypes := #[26, 26] }) {B : Nat} {v : Value} {l : List ByteArray} (u : ByteArray) (hs : a.eval s = v) (hown : RowS B v l w)
    (c : Nat) (hx : a.eval x = .slice (some ⟨w.heap.size, 0, none⟩) 1 c) (hlen : l.length ≤ 1000000) (hB : B ≤ w.heap.size)
    (h : ∀ v' w', RowS B v' (l ++ [u]) w' → Below B w w' → (w.alloc (.cells #[.string u] 9)).grownBy w' v.ownBlock → wpList Tryz.prog ops Q rest (a.put o.dst v') w') : wpList Tryz.prog ops Q (o :: rest) a (w.alloc (.cells #[.string u] 9)) := by
  obtain ⟨i0, hi, hz0, hz1, hz2⟩ := info_parts info_str
  refine wpList_append_own _ hgd s x 26 ho B 9 i0 (.string ⟨#[]⟩) 1 16 Tryz.underlying26 hi hz0 hz1 hz2 rfl (by decide) v l.length (l.map Value.string) hs (World.ownsRow.alloc hown _) ⟨w.heap.size, 0, none⟩ 1 c [.string u] hx rfl ?_ (by intro z hz; simp at hz; subst hz; rfl) (by unfold maxLen; omega) (by omega) (by simp; omega) ?_
  · intro j z hj
    rw [add_zero', Lib.cell_of_heap (heap_alloc_new w _)]
    simpa using hj
  · intro v' w' hown' hg _
    refine h v' w' (by unfold RowS; rw [List.length_append, List.map_append]; exact hown') ?_ hg
    exact ((Below.refl B w).alloc hB _).grown hg (by simp; omega) (fun k hk => (World.ownsRow.lt hown k hk).1)
theorem app_i {ops : Array Oper} {rest : List Oper} {o : Oper} {a : Act} {Q : Exit → Act → World → Prop} (w : World) (hgd : o.guard = none) (s x : Operand)
    (ho : o.op = .call { callee := .builtin .append, args := #[s, x], argTypes := #[27, 27] }) {B : Nat} {v : Value} {l : List Int} (u : Int) (hs : a.eval s = v) (hown : RowI B v l w)
    (c : Nat) (hx : a.eval x = .slice (some ⟨w.heap.size, 0, none⟩) 1 c) (hlen : l.length ≤ 1000000) (hB : B ≤ w.heap.size)
    (h : ∀ v' w', RowI B v' (l ++ [u]) w' → Below B w w' → (w.alloc (.cells #[.int .i64 u] 3)).grownBy w' v.ownBlock → wpList Tryz.prog ops Q rest (a.put o.dst v') w') : wpList Tryz.prog ops Q (o :: rest) a (w.alloc (.cells #[.int .i64 u] 3)) := by
  obtain ⟨i0, hi, hz0, hz1, hz2⟩ := info_parts info_int
  refine wpList_append_own _ hgd s x 27 ho B 3 i0 (.int .i64 0) 1 8 Tryz.underlying27 hi hz0 hz1 hz2 rfl (by decide) v l.length (l.map (Value.int .i64)) hs (World.ownsRow.alloc hown _) ⟨w.heap.size, 0, none⟩ 1 c [.int .i64 u] hx rfl ?_ (by intro z hz; simp at hz; subst hz; rfl) (by unfold maxLen; omega) (by omega) (by simp; omega) ?_
  · intro j z hj
    rw [add_zero', Lib.cell_of_heap (heap_alloc_new w _)]
    simpa using hj
  · intro v' w' hown' hg _
    refine h v' w' (by unfold RowI; rw [List.length_append, List.map_append]; exact hown') ?_ hg
    exact ((Below.refl B w).alloc hB _).grown hg (by simp; omega) (fun k hk => (World.ownsRow.lt hown k hk).1)
/-- behind an append to the names and its store -/
theorem CmdAt.add_name {B cb : Nat} {op : Int} {ns : List ByteArray} {fs : List Int} {tx u : ByteArray} {w w' : World} {nv fv v' : Value} (h : CmdAt B cb op ns fs tx w nv fv) (hr : RowS B v' (ns ++ [u]) w') (hb : Below B w w')
    (hg : (w.alloc (.cells #[.string u] 9)).grownBy w' nv.ownBlock) :
    CmdAt B cb op (ns ++ [u]) fs tx (w'.setCell ⟨cb, 1, none⟩ v') v' fv ∧ Below B w (w'.setCell ⟨cb, 1, none⟩ v') ∧ KeepC cb w (w'.setCell ⟨cb, 1, none⟩ v') ∧ w'.heap[cb]? = some (cmd op nv fv tx) := by
  have hlt : cb < w.heap.size := (Array.getElem?_eq_some_iff.1 h.blk).1
  have hne : nv.ownBlock ≠ some cb := Lib.ownBlock_ne h.names h.blk (by decide)
  have old : ∀ b, b < w.heap.size → nv.ownBlock ≠ some b → w'.heap[b]? = w.heap[b]? := fun b hl hn => by
    rw [hg.block b (by simp; omega) (fun e => hn e.symm), Lib.alloc_old w _ b hl]
  have hblk : w'.heap[cb]? = some (cmd op nv fv tx) := by rw [old cb hlt hne]; exact h.blk
  have hf : RowI B fv fs w' := by
    refine ⟨h.fmts.1, ?_⟩
    rcases h.fmts.2 with hn | ⟨g, cap, cur, hv, h1, h2, h3⟩
    · exact .inl hn
    · refine .inr ⟨g, cap, cur, hv, h1, ?_, h3⟩
      have hgl : g < w.heap.size := (Array.getElem?_eq_some_iff.1 h2).1
      rw [old g hgl (fun e => by
        obtain ⟨cs, hc⟩ := row_type h.names e
        rw [h2] at hc
        simp at hc)]
      exact h2
  have ks : ∀ {e n : Nat} {v : Value} {xs : List Value}, w'.ownsRow B e 1 v n xs → v.ownBlock ≠ some cb → (w'.setCell ⟨cb, 1, none⟩ v').ownsRow B e 1 v n xs := fun hr hn =>
    World.ownsRow.kept hr (row := some cb) ⟨rfl, rfl, rfl, by simp [World.setCell], fun k _ hk => Below.heap_setCell _ _ _ _ (fun e => hk (by simp [e]))⟩ (.inr hn)
  refine ⟨⟨h.base, ?_, ks hr (Lib.ownBlock_ne hr hblk (by decide)), ks hf (Lib.ownBlock_ne hf hblk (by decide))⟩, hb.setCell (p := ⟨cb, 1, none⟩) h.base _, ?_, hblk⟩
  · exact set_block hblk _
  · intro b cs T fr h0 n1 n2 n3
    rw [set_other _ n1, old b (Array.getElem?_eq_some_iff.1 h0).1 (fun e => by
      obtain ⟨cs', hc⟩ := row_type h.names e
      rw [h0] at hc
      simp at hc
      exact n2 hc.2.1)]
    exact h0
theorem below_drewN (B : Nat) (w : World) (k : Nat) : Below B w (w.drewN k) := ⟨rfl, rfl, rfl, Nat.le_refl _, fun _ _ => rfl⟩
theorem name_l (l : List UInt8) (w : World) (h : l.length ≤ maxLen) : Calls Tryz.prog 27 #[.string ⟨l.toArray⟩] w fun e w' => e = .returned (.bool (nameB l)) ∧ w = w' := by
  have := name_any ⟨l.toArray⟩ w (by simpa [ByteArray.size] using h)
  simpa using this
set_option maxHeartbeats 1000000 in
theorem rname_any (s : ByteArray) (w : World) (B cb : Nat) (op : Int) (ns : List ByteArray) (fs : List Int) (tx : ByteArray) (nv fv : Value) (h : CmdAt B cb op ns fs tx w nv fv) (hB : B ≤ w.heap.size) (hs : s.size ≤ maxLen) (hn : ns.length ≤ 1000) :
    Calls Tryz.prog 15 #[.pointer (some ⟨cb, 0, none⟩), .string s] w fun e w' => e = .returned (.tuple #[.int .i64 (cutB 32 s.data.toList).length, .bool (nameB (cutB 32 s.data.toList))]) ∧ Below B w w' ∧ KeepC cb w w' ∧
      ∃ nv' fv', CmdAt B cb op (ns ++ [⟨(cutB 32 s.data.toList).toArray⟩]) fs tx w' nv' fv' := by
  have HS := Lib.hid hs
  have hcb : (cutB 32 s.data.toList).length ≤ maxLen := by have := cutB_le 32 s.data.toList; simp at this; omega
  have HC := Lib.hid hcb
  have H := Lib.hid h
  clear h hs hcb
  go_enter Tryz.func15, Tryz.ntmps15
  go_wp2_with (go_at_call 26; refine (word_any _ _ HS.out).mono ?_)
  rintro e w1 ⟨rfl, n, rfl⟩
  have h1 : CmdAt B cb op ns fs tx (w.drewN n) nv fv := ⟨H.out.base, H.out.blk, H.out.names, H.out.fmts⟩
  have c1 : (w.drewN n).cell? ⟨cb, 1, none⟩ = some nv := by rw [Lib.cell_of_heap h1.blk]; rfl
  have H1 := Lib.hid h1
  clear h1
  go_wp2_with (at_builtin; refine app_s _ rfl _ _ rfl _ rfl H1.out.names _ rfl (by omega) hB ?_)
  intro v' w2 hr hb hg
  obtain ⟨k1, k2, k3, k4⟩ := H1.out.add_name hr hb hg
  have d1 : w2.cell? ⟨cb, 1, none⟩ = some nv := by rw [Lib.cell_of_heap k4]; rfl
  have f1 : w2.frozen? ⟨cb, 1, none⟩ = false := Lib.frozen_of_heap k4 1
  have hv : ∃ ao kk cap, v' = .slice ao kk cap := by
    rcases hr.2 with ⟨rfl, _⟩ | ⟨g, cap, cur, rfl, _⟩
    · exact ⟨_, _, _, rfl⟩
    · exact ⟨_, _, _, rfl⟩
  obtain ⟨ao, kk, cap, rfl⟩ := hv
  have K := Lib.hid (And.intro k1 (And.intro k2 k3))
  clear k1 k2 k3 k4 hr hb hg c1 hn
  go_wp2_with (go_at_call 27; refine (name_l _ _ HC.out).mono ?_; rintro e w3 ⟨rfl, rfl⟩)
  go_ret2
  have hk := K.out
  exact ⟨rfl, (below_drewN _ _ _).trans hk.2.1, hk.2.2, _, _, hk.1⟩
theorem CmdAt.same {B cb : Nat} {op : Int} {ns : List ByteArray} {fs : List Int} {tx : ByteArray} {w w' : World} {nv fv : Value} (h : CmdAt B cb op ns fs tx w nv fv) (hb : Below w.heap.size w w') : CmdAt B cb op ns fs tx w' nv fv :=
  ⟨h.base, by rw [hb.block cb (Array.getElem?_eq_some_iff.1 h.blk).1]; exact h.blk, rows_below h.names hb, rows_below h.fmts hb⟩
theorem CmdAt.set_text {B cb : Nat} {op : Int} {ns : List ByteArray} {fs : List Int} {tx : ByteArray} {w : World} {nv fv : Value} (h : CmdAt B cb op ns fs tx w nv fv) (u : ByteArray) :
    CmdAt B cb op ns fs u (w.setCell ⟨cb, 3, none⟩ (.string u)) nv fv ∧ Below B w (w.setCell ⟨cb, 3, none⟩ (.string u)) ∧ KeepC cb w (w.setCell ⟨cb, 3, none⟩ (.string u)) := by
  have ks : ∀ {e n : Nat} {v : Value} {xs : List Value}, w.ownsRow B e 1 v n xs → v.ownBlock ≠ some cb → (w.setCell ⟨cb, 3, none⟩ (.string u)).ownsRow B e 1 v n xs := fun hr hn =>
    World.ownsRow.kept hr (row := some cb) ⟨rfl, rfl, rfl, by simp [World.setCell], fun k _ hk => Below.heap_setCell _ _ _ _ (fun e => hk (by simp [e]))⟩ (.inr hn)
  refine ⟨⟨h.base, set_block h.blk _, ks h.names (Lib.ownBlock_ne h.names h.blk (by decide)), ks h.fmts (Lib.ownBlock_ne h.fmts h.blk (by decide))⟩, (Below.refl B w).setCell (p := ⟨cb, 3, none⟩) h.base _, ?_⟩
  intro b cs T fr h0 n1 n2 n3
  rw [set_other _ n1]; exact h0
/-- the parts of what unquote hands back -/
def uqR (l : List UInt8) : Option (List UInt8 × List UInt8) := if l.head? = some 34 then uq (l.drop 1) else none
def uqT (l : List UInt8) : List UInt8 := match uqR l with | some p => p.1 | none => []
def uqN (l : List UInt8) : Int := match uqR l with | some p => (l.length : Int) - p.2.length | none => 0
def uqOk (l : List UInt8) : Bool := (uqR l).isSome
theorem uqV_parts (l : List UInt8) : uqV l = .tuple #[.string ⟨(uqT l).toArray⟩, .int .i64 (uqN l), .bool (uqOk l)] := by
  by_cases h : l.head? = some 34
  · have e : uqR l = uq (l.drop 1) := by unfold uqR; rw [if_pos h]
    unfold uqT uqN uqOk
    rw [e]
    rw [u_head h]
    simp only [uqV, List.drop_succ_cons, List.drop_zero]
    cases uq (l.drop 1) <;> rfl
  · have e : uqR l = none := by unfold uqR; rw [if_neg h]
    unfold uqT uqN uqOk
    rw [e, u_not h]
    rfl
set_option maxHeartbeats 1000000 in
theorem rtext_any (s : ByteArray) (w : World) (B cb : Nat) (op : Int) (ns : List ByteArray) (fs : List Int) (tx : ByteArray) (nv fv : Value) (h : CmdAt B cb op ns fs tx w nv fv) (hB : B ≤ w.heap.size) (hs : s.size ≤ 35184372088000) :
    Calls Tryz.prog 21 #[.pointer (some ⟨cb, 0, none⟩), .string s] w fun e w' => e = .returned (.tuple #[.int .i64 (uqN s.data.toList), .bool (uqOk s.data.toList)]) ∧ Below B w w' ∧ KeepC cb w w' ∧
      ∃ nv' fv', CmdAt B cb op ns fs ⟨(uqT s.data.toList).toArray⟩ w' nv' fv' := by
  have HS := Lib.hid hs
  have H := Lib.hid h
  have HU := Lib.hid (uqV_parts s.data.toList)
  clear h hs
  go_enter Tryz.func21, Tryz.ntmps21
  go_wp2_with (go_at_call 29; refine (unquote_any _ _ HS.out).mono ?_)
  rw [HU.out]
  rintro e w1 ⟨rfl, hb1⟩
  have h1 := H.out.same hb1
  obtain ⟨k1, k2, k3⟩ := h1.set_text ⟨(uqT s.data.toList).toArray⟩
  have c3 : w1.cell? ⟨cb, 3, none⟩ = some (.string tx) := by rw [Lib.cell_of_heap h1.blk]; rfl
  have f3 : w1.frozen? ⟨cb, 3, none⟩ = false := Lib.frozen_of_heap h1.blk 3
  have K := Lib.hid (And.intro k1 (And.intro ((hb1.mono hB).trans k2) ((KeepC.of_below hb1).trans k3)))
  clear k1 k2 k3 hb1 h1
  go_wp2
  go_ret2
  exact ⟨rfl, K.out.2.1, K.out.2.2, _, _, K.out.1⟩
/-- path.Parse at t: it ends, without an error or with one -/
def PathAt (t : List UInt8) (ok : Bool) : Prop := ∀ w, Tabs w → Calls Tryz.prog 30 #[.string ⟨t.toArray⟩] w fun e w' => ∃ (v : Value) (c : Int), e = .returned (.tuple #[v, .int .i64 c]) ∧ (c != 0) = !ok ∧ Below w.heap.size w w'
set_option maxHeartbeats 1000000 in
theorem rpath_no (s : ByteArray) (w : World) (B cb : Nat) (op : Int) (ns : List ByteArray) (fs : List Int) (tx : ByteArray) (nv fv : Value) (h : CmdAt B cb op ns fs tx w nv fv) (hB : B ≤ w.heap.size) (hs : s.size ≤ 35184372088000) (hT : Tabs w) (ok : Bool) (hP : PathAt (uqT s.data.toList) ok)
    (hno : (uqOk s.data.toList && ok) = false) :
    Calls Tryz.prog 19 #[.pointer (some ⟨cb, 0, none⟩), .string s] w fun e w' => e = .returned (.tuple #[.int .i64 0, .bool false]) ∧ Below B w w' ∧ KeepC cb w w' ∧
      ∃ nv' fv', CmdAt B cb op ns fs tx w' nv' fv' := by
  have HS := Lib.hid hs
  have H := Lib.hid h
  have HT := Lib.hid hT
  have HP := Lib.hid hP
  have HU := Lib.hid (uqV_parts s.data.toList)
  clear h hs hT hP
  have hno' : (!uqOk s.data.toList) = true ∨ ((!uqOk s.data.toList) = false ∧ ok = false) := by
    cases e1 : uqOk s.data.toList <;> cases ok <;> simp_all
  clear hno
  go_enter Tryz.func19, Tryz.ntmps19
  go_wp2_with (go_at_call 29; refine (unquote_any _ _ HS.out).mono ?_)
  rw [HU.out]
  rintro e w1 ⟨rfl, hb1⟩
  have HB1 := Lib.hid hb1
  clear hb1
  go_wp2_with (go_at_call 30; refine (HP.out _ (HT.out.below HB1.out)).mono ?_)
  rintro e w2 ⟨v, c, rfl, hc, hb2⟩
  have HB2 := Lib.hid hb2
  clear hb2
  rcases hno' with h1 | ⟨h1, h2⟩
  · clear hc
    go_wp2
    go_ret2
    have hb := HB1.out.trans (HB2.out.mono HB1.out.size)
    exact ⟨rfl, hb.mono hB, KeepC.of_below hb, _, _, H.out.same hb⟩
  · subst h2
    have hc' : (c != 0) = true := by rw [hc]; rfl
    clear hc
    go_wp2
    go_ret2
    have hb := HB1.out.trans (HB2.out.mono HB1.out.size)
    exact ⟨rfl, hb.mono hB, KeepC.of_below hb, _, _, H.out.same hb⟩
set_option maxHeartbeats 1000000 in
theorem rpath_yes (s : ByteArray) (w : World) (B cb : Nat) (op : Int) (ns : List ByteArray) (fs : List Int) (tx : ByteArray) (nv fv : Value) (h : CmdAt B cb op ns fs tx w nv fv) (hB : B ≤ w.heap.size) (hs : s.size ≤ 35184372088000) (hT : Tabs w) (hP : PathAt (uqT s.data.toList) true)
    (hn : ns.length ≤ 1000) (hok : uqOk s.data.toList = true) :
    Calls Tryz.prog 19 #[.pointer (some ⟨cb, 0, none⟩), .string s] w fun e w' => e = .returned (.tuple #[.int .i64 (uqN s.data.toList), .bool true]) ∧ Below B w w' ∧ KeepC cb w w' ∧
      ∃ nv' fv', CmdAt B cb op (ns ++ [⟨(uqT s.data.toList).toArray⟩]) fs tx w' nv' fv' := by
  have HS := Lib.hid hs
  have H := Lib.hid h
  have HT := Lib.hid hT
  have HP := Lib.hid hP
  have HU := Lib.hid (uqV_parts s.data.toList)
  clear h hs hT hP
  go_enter Tryz.func19, Tryz.ntmps19
  go_wp2_with (go_at_call 29; refine (unquote_any _ _ HS.out).mono ?_)
  rw [HU.out, hok]
  rintro e w1 ⟨rfl, hb1⟩
  have HB1 := Lib.hid hb1
  clear hb1
  go_wp2_with (go_at_call 30; refine (HP.out _ (HT.out.below HB1.out)).mono ?_)
  rintro e w2 ⟨v, c, rfl, hc, hb2⟩
  have hc' : (c != 0) = false := by rw [hc]; rfl
  have HB2 := Lib.hid (HB1.out.trans (hb2.mono HB1.out.size))
  have H2 := Lib.hid (H.out.same HB2.out)
  have c1 : w2.cell? ⟨cb, 1, none⟩ = some nv := by rw [Lib.cell_of_heap H2.out.blk]; rfl
  have hB2 : B ≤ w2.heap.size := Nat.le_trans hB HB2.out.size
  clear hb2 hc hok
  go_wp2_with (at_builtin; refine app_s _ rfl _ _ rfl _ rfl H2.out.names _ rfl (by omega) hB2 ?_)
  intro v' w3 hr hb hg
  obtain ⟨k1, k2, k3, k4⟩ := H2.out.add_name hr hb hg
  have d1 : w3.cell? ⟨cb, 1, none⟩ = some nv := by rw [Lib.cell_of_heap k4]; rfl
  have f1 : w3.frozen? ⟨cb, 1, none⟩ = false := Lib.frozen_of_heap k4 1
  have hv : ∃ ao kk cap, v' = .slice ao kk cap := by
    rcases hr.2 with ⟨rfl, _⟩ | ⟨g, cap, cur, rfl, _⟩
    · exact ⟨_, _, _, rfl⟩
    · exact ⟨_, _, _, rfl⟩
  obtain ⟨ao, kk, cap, rfl⟩ := hv
  have K := Lib.hid (And.intro k1 (And.intro ((HB2.out.mono hB).trans k2) ((KeepC.of_below HB2.out).trans k3)))
  clear k1 k2 k3 k4 hr hb hg c1 hn
  go_wp2
  go_ret2
  exact ⟨rfl, K.out.2.1, K.out.2.2, _, _, K.out.1⟩
def fmtS : Nat → List UInt8
  | 0 => [106, 115, 111, 110]
  | 1 => [121, 97, 109, 108]
  | 2 => [116, 111, 109, 108]
  | 3 => [105, 110, 105]
  | 4 => [115, 101, 120, 112]
  | 5 => [98, 101, 110, 99, 111, 100, 101]
  | 6 => [99, 98, 111, 114]
  | 7 => [112, 108, 105, 115, 116]
  | 8 => [116, 97, 98, 108, 101]
  | _ => []
/-- the words of the formats, in their variable -/
def FmtTab (w : World) : Prop := ∀ i, i < 9 → w.cell? ⟨0, i, none⟩ = some (.string ⟨(fmtS i).toArray⟩)
theorem FmtTab.lt {w : World} (h : FmtTab w) : 0 < w.heap.size := World.block_lt_of_cell? w _ (h 0 (by decide))
theorem FmtTab.below {w w' : World} (h : FmtTab w) (hb : Below w.heap.size w w') : FmtTab w' := fun i hi => by
  rw [hb.cell (p := ⟨0, i, none⟩) h.lt]; exact h i hi
def fmtFrom (l : List UInt8) : Nat → Nat → Option Nat
  | 0, _ => none
  | n + 1, k => if fmtS k = l then some k else fmtFrom l n (k + 1)
def fmtIdx (l : List UInt8) : Option Nat := fmtFrom l 9 0
theorem fmtFrom_hit {l : List UInt8} {k : Nat} (hk : k < 9) (h : fmtIdx l = fmtFrom l (9 - k) k) (e : fmtS k = l) : fmtIdx l = some k := by
  rw [h]
  obtain ⟨n, hn⟩ : ∃ n, 9 - k = n + 1 := ⟨8 - k, by omega⟩
  rw [hn]; unfold fmtFrom; rw [if_pos e]
theorem fmtFrom_miss {l : List UInt8} {k : Nat} (hk : k < 9) (h : fmtIdx l = fmtFrom l (9 - k) k) (e : fmtS k ≠ l) : fmtIdx l = fmtFrom l (9 - (k + 1)) (k + 1) := by
  rw [h]
  obtain ⟨n, hn⟩ : ∃ n, 9 - k = n + 1 := ⟨8 - k, by omega⟩
  rw [hn, show 9 - (k + 1) = n by omega]; conv => lhs; unfold fmtFrom
  rw [if_neg e]
def FmtPost (B cb : Nat) (op : Int) (ns : List ByteArray) (fs : List Int) (tx : ByteArray) (l : List UInt8) (o : Option Nat) (e : Ending) (w' : World) : Prop :=
  match o with
  | some k => e = .returned (.tuple #[.int .i64 l.length, .bool true]) ∧ ∃ nv' fv', CmdAt B cb op ns (fs ++ [(k : Int)]) tx w' nv' fv'
  | none => e = .returned (.tuple #[.int .i64 0, .bool false]) ∧ ∃ nv' fv', CmdAt B cb op ns fs tx w' nv' fv'
theorem CmdAt.add_fmt {B cb : Nat} {op : Int} {ns : List ByteArray} {fs : List Int} {tx : ByteArray} {u : Int} {w w' : World} {nv fv v' : Value} (h : CmdAt B cb op ns fs tx w nv fv) (hr : RowI B v' (fs ++ [u]) w') (hb : Below B w w')
    (hg : (w.alloc (.cells #[.int .i64 u] 3)).grownBy w' fv.ownBlock) :
    CmdAt B cb op ns (fs ++ [u]) tx (w'.setCell ⟨cb, 2, none⟩ v') nv v' ∧ Below B w (w'.setCell ⟨cb, 2, none⟩ v') ∧ KeepC cb w (w'.setCell ⟨cb, 2, none⟩ v') ∧ w'.heap[cb]? = some (cmd op nv fv tx) := by
  have hlt : cb < w.heap.size := (Array.getElem?_eq_some_iff.1 h.blk).1
  have hne : fv.ownBlock ≠ some cb := Lib.ownBlock_ne h.fmts h.blk (by decide)
  have old : ∀ b, b < w.heap.size → fv.ownBlock ≠ some b → w'.heap[b]? = w.heap[b]? := fun b hl hn => by
    rw [hg.block b (by simp; omega) (fun e => hn e.symm), Lib.alloc_old w _ b hl]
  have hblk : w'.heap[cb]? = some (cmd op nv fv tx) := by rw [old cb hlt hne]; exact h.blk
  have hf : RowS B nv ns w' := by
    refine ⟨h.names.1, ?_⟩
    rcases h.names.2 with hn | ⟨g, cap, cur, hv, h1, h2, h3⟩
    · exact .inl hn
    · refine .inr ⟨g, cap, cur, hv, h1, ?_, h3⟩
      have hgl : g < w.heap.size := (Array.getElem?_eq_some_iff.1 h2).1
      rw [old g hgl (fun e => by
        obtain ⟨cs, hc⟩ := row_type h.fmts e
        rw [h2] at hc
        simp at hc)]
      exact h2
  have ks : ∀ {e n : Nat} {v : Value} {xs : List Value}, w'.ownsRow B e 1 v n xs → v.ownBlock ≠ some cb → (w'.setCell ⟨cb, 2, none⟩ v').ownsRow B e 1 v n xs := fun hr hn =>
    World.ownsRow.kept hr (row := some cb) ⟨rfl, rfl, rfl, by simp [World.setCell], fun k _ hk => Below.heap_setCell _ _ _ _ (fun e => hk (by simp [e]))⟩ (.inr hn)
  refine ⟨⟨h.base, ?_, ks hf (Lib.ownBlock_ne hf hblk (by decide)), ks hr (Lib.ownBlock_ne hr hblk (by decide))⟩, hb.setCell (p := ⟨cb, 2, none⟩) h.base _, ?_, hblk⟩
  · exact set_block hblk _
  · intro b cs T fr h0 n1 n2 n3
    rw [set_other _ n1, old b (Array.getElem?_eq_some_iff.1 h0).1 (fun e => by
      obtain ⟨cs', hc⟩ := row_type h.fmts e
      rw [h0] at hc
      simp at hc
      exact n3 hc.2.1)]
    exact h0
set_option maxHeartbeats 1000000 in
theorem rfmt_any (s : ByteArray) (w : World) (B cb : Nat) (op : Int) (ns : List ByteArray) (fs : List Int) (tx : ByteArray) (nv fv : Value) (h : CmdAt B cb op ns fs tx w nv fv) (hB : B ≤ w.heap.size) (hs : s.size ≤ maxLen) (hn : fs.length ≤ 1000) (hF : FmtTab w) :
    Calls Tryz.prog 17 #[.pointer (some ⟨cb, 0, none⟩), .string s] w fun e w' => Below B w w' ∧ KeepC cb w w' ∧
      FmtPost B cb op ns fs tx (cutB 32 s.data.toList) (fmtIdx (cutB 32 s.data.toList)) e w' := by
  have HS := Lib.hid hs
  have H := Lib.hid h
  have HF := Lib.hid hF
  clear h hs hF
  go_enter Tryz.func17, Tryz.ntmps17
  go_wp2_with (go_at_call 26; refine (word_any _ _ HS.out).mono ?_)
  rintro e w1 ⟨rfl, n, rfl⟩
  have HF1 : Hid (FmtTab (w.drewN n)) := HF.out
  have H1 : Hid (CmdAt B cb op ns fs tx (w.drewN n) nv fv) := ⟨H.out.base, H.out.blk, H.out.names, H.out.fmts⟩
  clear HF H
  go_wp2
  go_loop [10] (fun i => ∃ k : Nat, k ≤ 9 ∧ i = .int .i64 k ∧ fmtIdx (cutB 32 s.data.toList) = fmtFrom (cutB 32 s.data.toList) (9 - k) k) (fun i => 9 - (intOf i).toNat)
  case atStart => exact ⟨0, by omega, rfl, rfl⟩
  case round =>
    obtain ⟨k, hk, rfl, hf⟩ := hrel
    by_cases hlt : k < 9
    · have hcell := HF1.out k hlt
      have hk0 : (k : Int) < 9 := by omega
      by_cases he : fmtS k = cutB 32 s.data.toList
      · have HI := Lib.hid (fmtFrom_hit hlt hf he)
        have e1 : (⟨(fmtS k).toArray⟩ : ByteArray) = ⟨(cutB 32 s.data.toList).toArray⟩ := by rw [he]
        have c2 : (w.drewN n).cell? ⟨cb, 2, none⟩ = some fv := by rw [Lib.cell_of_heap H1.out.blk]; rfl
        rw [e1] at hcell
        clear hf he e1
        go_wp2_with (at_builtin; refine app_i _ rfl _ _ rfl (k : Int) rfl H1.out.fmts _ rfl (by omega) hB ?_)
        intro v' w2 hr hb hg
        obtain ⟨k1, k2, k3, k4⟩ := H1.out.add_fmt hr hb hg
        have d1 : w2.cell? ⟨cb, 2, none⟩ = some fv := by rw [Lib.cell_of_heap k4]; rfl
        have f1 : w2.frozen? ⟨cb, 2, none⟩ = false := Lib.frozen_of_heap k4 2
        have hv : ∃ ao kk cap, v' = .slice ao kk cap := by
          rcases hr.2 with ⟨rfl, _⟩ | ⟨g, cap, cur, rfl, _⟩
          · exact ⟨_, _, _, rfl⟩
          · exact ⟨_, _, _, rfl⟩
        obtain ⟨ao, kk, cap, rfl⟩ := hv
        have K := Lib.hid (And.intro k1 (And.intro k2 k3))
        clear k1 k2 k3 k4 hr hb hg c2 hn hcell
        go_wp2
        go_ret2
        have hk := K.out
        refine ⟨(below_drewN _ _ _).trans hk.2.1, hk.2.2, ?_⟩
        rw [HI.out]
        exact ⟨rfl, _, _, hk.1⟩
      · have HI := Lib.hid (fmtFrom_miss hlt hf he)
        have e1 : ¬ (⟨(fmtS k).toArray⟩ : ByteArray) = ⟨(cutB 32 s.data.toList).toArray⟩ := fun e => he (by simpa using congrArg (fun b : ByteArray => b.data.toList) e)
        have e2 : ((⟨(fmtS k).toArray⟩ : ByteArray).toList == (⟨(cutB 32 s.data.toList).toArray⟩ : ByteArray).toList) = false := (Lib.bytes_beq_false_iff _ _).2 e1
        have e4 : (fmtS k == cutB 32 s.data.toList) = false := by simpa using he
        clear hf
        go_wp2
        go_round
        case rel => exact ⟨k + 1, by omega, by go_num, HI.out⟩
        case measure => simp [intOf]; omega
    · have HI : Hid (fmtIdx (cutB 32 s.data.toList) = none) := by
        have e : k = 9 := by omega
        subst e
        exact hf
      have hk0 : ¬ (k : Int) < 9 := by omega
      clear hf
      go_wp2
      go_ret2
      refine ⟨(below_drewN _ _ _), (fun _ _ _ _ h _ _ _ => h), ?_⟩
      rw [HI.out]
      exact ⟨rfl, _, _, H1.out⟩
end Go.Proofs.YtfnemklcmhilnaaGreatDoor
