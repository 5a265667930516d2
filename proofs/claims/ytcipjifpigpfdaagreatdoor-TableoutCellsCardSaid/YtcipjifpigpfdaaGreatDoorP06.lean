import Derived.WideKeyEntry
import Derived.Maps.Keyed
import Derived.DeepKeys5
import Derived.ArgAppend
import Derived.RegionTactic
import Derived.ChangeAlike
import Derived.BigRegion
import Derived.OwnWalk
import Derived.Deep.Onto
import Derived.Deep.Cut
import Derived.Deep.RegionWith
import Derived.Test.YtcipjifpigpfdaaGreatDoorP05
/- Maps of the call's own, at the heap: what a block holds in the order of its births; look-up, entry and store. -/
namespace Go.Proofs.YtcipjifpigpfdaaGreatDoor
open Go.RowKit
open Go.MapKept (Stamped)
open Go.ChangeMaps (setBlock heap_setBlock_same heap_setBlock_other)
open Go.WideMaps (KeyLaw)
/-- block b is a map that holds these keys with these values, in the order of their births -/
def MapAt (w : World) (P : Program) (k : TypeId) (b : Nat) (A : List (Value × Value)) : Prop :=
  ∃ es clock, w.heap[b]? = some (.map es clock) ∧ Stamped es clock ∧ es.toList.map (fun e => (e.key, e.val)) = A ∧ ∀ e ∈ es.toList, ∃ l, keyOf P k e.key = some l
/-- .. and its entry number i was born at st -/
def MapMid (w : World) (P : Program) (k : TypeId) (b : Nat) (A : List (Value × Value)) (i st : Nat) : Prop :=
  ∃ es clock, w.heap[b]? = some (.map es clock) ∧ Stamped es clock ∧ es.toList.map (fun e => (e.key, e.val)) = A ∧ (∀ e ∈ es.toList, ∃ l, keyOf P k e.key = some l) ∧ ∃ e, es.toList[i]? = some e ∧ e.born = st
section
variable {P : Program} {k e t : TypeId} {w : World} {b : Nat} {A : List (Value × Value)}
theorem mapAt_made (w : World) (P : Program) (k : TypeId) : MapAt (w.alloc (.map #[] 0)) P k w.heap.size [] :=
  ⟨#[], 0, heap_alloc_new w _, MapKept.stamped_empty 0, rfl, by simp⟩
theorem MapAt.of_block {w' : World} (h : MapAt w P k b A) (hb : w'.heap[b]? = w.heap[b]?) : MapAt w' P k b A := by
  obtain ⟨es, clock, h1, h2⟩ := h
  exact ⟨es, clock, hb.trans h1, h2⟩
theorem MapMid.of_block {i st : Nat} {w' : World} (h : MapMid w P k b A i st) (hb : w'.heap[b]? = w.heap[b]?) : MapMid w' P k b A i st := by
  obtain ⟨es, clock, h1, h2⟩ := h
  exact ⟨es, clock, hb.trans h1, h2⟩
theorem MapAt.lt (h : MapAt w P k b A) : b < w.heap.size := by
  obtain ⟨es, clock, h1, -⟩ := h
  exact (Array.getElem?_eq_some_iff.1 h1).1
theorem MapMid.lt {i st : Nat} (h : MapMid w P k b A i st) : b < w.heap.size := by
  obtain ⟨es, clock, h1, -⟩ := h
  exact (Array.getElem?_eq_some_iff.1 h1).1
theorem grown_setBlock {es : Array MapEntry} {clock : Nat} (hb : w.heap[b]? = some (.map es clock)) (o : Obj) : w.grownBy (setBlock w b o) (some b) :=
  ⟨rfl, rfl, rfl, by simp [setBlock], fun i _ hi => heap_setBlock_other hb _ (fun e => hi (by rw [e]))⟩
theorem MapAt.lookup_new (h : MapAt w P k b A) (K : KeyLaw P k) (ht : P.underlying t = some (.map k e)) {z : Value} (hz : (zeroValue e).run P w = .ok z w) {key : Value} {kl : Lit} (hkey : keyOf P k key = some kl) (hne : ∀ p ∈ A, p.1 ≠ key) :
    (Instr.lookup t (.map (some b)) key false).run P w = .ok z w := by
  obtain ⟨es, clock, hb, hs, rfl, hk⟩ := h
  rcases K.find w hkey es.toList hk with ⟨h1, h2⟩ | ⟨j, e0, h1, h2, h3⟩
  · simp [Instr.lookup, run_underlying ht, MapKept.run_getObj_map hb, K.check w _ hkey, h1, hz, Result.andThen]
  · exact absurd h3 (hne _ (List.mem_map.2 ⟨e0, List.mem_of_getElem? h2, rfl⟩))
theorem MapAt.entry_new (h : MapAt w P k b A) (K : KeyLaw P k) (ht : P.underlying t = some (.map k e)) {z : Value} (hz : (zeroValue e).run P w = .ok z w) {key : Value} {kl : Lit} (hkey : keyOf P k key = some kl) (hne : ∀ p ∈ A, p.1 ≠ key) :
    ∃ (st : Nat) (w' : World), (Instr.mapEntry t (.map (some b)) key).run P w = .ok (.tuple #[z, goInt st]) w' ∧ MapMid w' P k b (A ++ [(key, z)]) A.length st ∧ w.grownBy w' (some b) ∧ w'.heap.size = w.heap.size := by
  obtain ⟨es, clock, hb, hs, rfl, hk⟩ := h
  rcases K.find w hkey es.toList hk with ⟨h1, h2⟩ | ⟨j, e0, h1, h2, h3⟩
  · refine ⟨clock, setBlock w b (.map (es.push ⟨key, z, clock⟩) (clock + 1)), ?_, ⟨_, _, heap_setBlock_same hb _, MapKept.stamped_push hs h2, by simp, ?_, ⟨key, z, clock⟩, by simp, rfl⟩, grown_setBlock hb _, by simp [setBlock]⟩
    · simp [Instr.mapEntry, run_underlying ht, MapKept.run_getObj_map hb, K.check w false hkey, h1, hz, MapKept.run_setObj_map _ hb, Result.andThen, setBlock]
    · intro e he
      simp only [Array.toList_push, List.mem_append, List.mem_singleton] at he
      rcases he with he | rfl
      · exact hk e he
      · exact ⟨kl, hkey⟩
  · exact absurd h3 (hne _ (List.mem_map.2 ⟨e0, List.mem_of_getElem? h2, rfl⟩))
theorem MapMid.store {i st : Nat} (h : MapMid w P k b A i st) (val : Value) :
    ∃ w', (Instr.entryStore t (.map (some b)) (goInt st) val).run P w = .ok () w' ∧ MapAt w' P k b (A.modify i fun p => (p.1, val)) ∧ w.grownBy w' (some b) ∧ w'.heap.size = w.heap.size := by
  obtain ⟨es, clock, hb, hs, rfl, hk, e, he, rfl⟩ := h
  have hidx : es.findIdx? (fun x => ((x.born : Nat) : Int) == ((e.born : Nat) : Int)) = some i := by
    rw [WideElems.findIdx_arr]
    exact WideElems.findIdx_born hs.2.1 he
  refine ⟨setBlock w b (.map (es.modify i fun e => { e with val := val }) clock), ?_, ⟨_, _, heap_setBlock_same hb _, MapKept.stamped_modify hs i _ (fun _ _ => rfl) (fun _ _ _ => rfl), ?_, ?_⟩, grown_setBlock hb _, by simp [setBlock]⟩
  · simp [Instr.entryStore, MapKept.run_getObj_map hb, asInt, asIntOf, goInt, hidx, MapKept.run_setObj_map _ hb, Result.andThen, setBlock]
  · rw [Array.toList_modify]
    clear hb hs hk hidx he
    generalize es.toList = l
    induction l generalizing i with
    | nil => simp
    | cons x xs ih =>
      cases i with
      | zero => rfl
      | succ i => simp only [List.modify_succ_cons, List.map_cons, ih]
  · intro e' he'
    rw [Array.toList_modify] at he'
    obtain ⟨j, hj⟩ := List.mem_iff_getElem?.1 he'
    rw [List.getElem?_modify] at hj
    split at hj
    · cases hg : es.toList[j]? with
      | none => rw [hg] at hj; cases hj
      | some y =>
        rw [hg] at hj
        have := Option.some.inj hj
        rw [← this]
        exact hk y (List.mem_of_getElem? hg)
    · exact hk e' (List.mem_of_getElem? (by simpa using hj))
end
theorem step_law : KeyLaw Tryz.prog 171 :=
  deep_law_laid (by kernel_rfl) (m := 2) (by omega) (of_decide_eq_true (by kernel_rfl)) (by kernel_rfl) (by kernel_rfl)
theorem step_key (a : Int) (s : ByteArray) (wa : (Lit.int .i64 a).wf = true) (hs : s.size ≤ maxLen) : ∃ l, keyOf Tryz.prog 171 (.agg #[.int .i64 a, .string s]) = some l := by
  have hk : Tryz.prog.keyType 171 = true := by kernel_rfl
  unfold keyOf
  rw [Tryz.underlying171]
  simp only [hk, Value.formed, Tryz.underlying171]
  have c2 : Tryz.prog.cellsOf 171 = 2 := by kernel_rfl
  have c0 : Tryz.prog.cellsOf 3 = 1 := by kernel_rfl
  have c1 : Tryz.prog.cellsOf 9 = 1 := by kernel_rfl
  obtain ⟨m, hm⟩ : ∃ m, Tryz.prog.types.size = m + 1 := Nat.exists_eq_succ_of_ne_zero (Nat.pos_iff_ne_zero.1 (of_decide_eq_true (by kernel_rfl)))
  rw [c2, hm]
  simp only [Value.cells, Program.keyLits, Tryz.underlying171, c2]
  simp [c0, c1, Tryz.underlying3, Tryz.underlying9, wa, hs]
end Go.Proofs.YtcipjifpigpfdaaGreatDoor
/- The laws of maps at the operation, for the walk. -/
namespace Go.Proofs.YtcipjifpigpfdaaGreatDoor
open Go.RowKit
open Go.WideMaps (KeyLaw)
variable {P : Program} {ops : Array Oper} {rest : List Oper} {o : Oper} {a : Act} {Q : Exit → Act → World → Prop}
theorem wpList_lookup_new (w : World) (hg : o.guard = none) (m x : Operand) (t : TypeId) (hop : o.op = Op.lookup t m x false) (k e : TypeId) (K : KeyLaw P k) (ht : P.underlying t = some (.map k e)) (z : Value) (hz : ∀ w, (zeroValue e).run P w = .ok z w)
    (b : Nat) (A : List (Value × Value)) (hm : a.eval m = .map (some b)) (h : MapAt w P k b A) (key : Value) (hx : a.eval x = key) (hkey : ∃ kl, keyOf P k key = some kl) (hne : ∀ p ∈ A, p.1 ≠ key)
    (hK : wpList P ops Q rest (a.put o.dst z) w) : wpList P ops Q (o :: rest) a w := by
  refine wpList_plain hg fun K' hK' => ?_
  obtain ⟨kl, hkey⟩ := hkey
  have hrun := h.lookup_new (t := t) (e := e) K ht (hz w) hkey hne
  unfold Oper.wp
  simp [execOp, hop, hm, hx, hrun, Result.andThen]
  exact hK' _ _ hK
theorem wpList_entry_new (w : World) (hg : o.guard = none) (m x : Operand) (t : TypeId) (hop : o.op = Op.mapEntry t m x) (k e : TypeId) (K : KeyLaw P k) (ht : P.underlying t = some (.map k e)) (z : Value) (hz : ∀ w, (zeroValue e).run P w = .ok z w)
    (b : Nat) (A : List (Value × Value)) (hm : a.eval m = .map (some b)) (h : MapAt w P k b A) (key : Value) (hx : a.eval x = key) (hkey : ∃ kl, keyOf P k key = some kl) (hne : ∀ p ∈ A, p.1 ≠ key)
    (hK : ∀ (st : Nat) (w' : World), MapMid w' P k b (A ++ [(key, z)]) A.length st → w.grownBy w' (some b) → w'.heap.size = w.heap.size → wpList P ops Q rest (a.put o.dst (.tuple #[z, goInt st])) w') : wpList P ops Q (o :: rest) a w := by
  refine wpList_plain hg fun K' hK' => ?_
  obtain ⟨kl, hkey⟩ := hkey
  obtain ⟨st, w', hrun, h1, h2, h3⟩ := h.entry_new (t := t) (e := e) K ht (hz w) hkey hne
  unfold Oper.wp
  simp [execOp, hop, hm, hx, hrun, Result.andThen]
  exact hK' _ _ (hK st w' h1 h2 h3)
theorem wpList_entry_store (w : World) (hg : o.guard = none) (m x v : Operand) (t : TypeId) (hop : o.op = Op.entryStore t m x v) (k : TypeId)
    (b i st : Nat) (A : List (Value × Value)) (hm : a.eval m = .map (some b)) (h : MapMid w P k b A i st) (hx : a.eval x = goInt st) (val : Value) (hv : a.eval v = val)
    (hK : ∀ w', MapAt w' P k b (A.modify i fun p => (p.1, val)) → w.grownBy w' (some b) → w'.heap.size = w.heap.size → wpList P ops Q rest (a.put o.dst undef) w') : wpList P ops Q (o :: rest) a w := by
  refine wpList_plain hg fun K' hK' => ?_
  obtain ⟨w', hrun, h1, h2, h3⟩ := h.store (t := t) val
  unfold Oper.wp
  simp [execOp, hop, hm, hx, hv, hrun, Result.andThen]
  exact hK' _ _ (hK w' h1 h2 h3)
end Go.Proofs.YtcipjifpigpfdaaGreatDoor
/- graph.twice where the keys of each map differ in kind or text: it compares nothing. -/
namespace Go.Proofs.YtcipjifpigpfdaaGreatDoor
open Go.RowKit
open Go.Lib hiding intOf
def stepV (N : List Nd) (x : Int) : Value := .agg #[.int .i64 (N.getD x.toNat nd0).kind, .string (N.getD x.toNat nd0).text]
/-- the keys of each map differ in kind or text -/
def NoClash (N : List Nd) : Prop := ∀ n ∈ N, (n.keys.map fun x => ((N.getD x.toNat nd0).kind, (N.getD x.toNat nd0).text)).Nodup
/-- kinds and texts within the model's bounds -/
def NdFit (N : List Nd) : Prop := ∀ n ∈ N, (Lit.int .i64 n.kind).wf = true ∧ n.text.size ≤ maxLen
theorem stepV_nodup {N : List Nd} {l : List Int} (h : (l.map fun x => ((N.getD x.toNat nd0).kind, (N.getD x.toNat nd0).text)).Nodup) : (l.map (stepV N)).Nodup := by
  induction l with
  | nil => exact List.nodup_nil
  | cons x l ih =>
    simp only [List.map_cons, List.nodup_cons] at h ⊢
    refine ⟨fun hm => h.1 ?_, ih h.2⟩
    obtain ⟨y, hy, he⟩ := List.mem_map.1 hm
    refine List.mem_map.2 ⟨y, hy, ?_⟩
    have e1 := Array.mk.inj (Value.agg.inj he)
    have e2 := (List.cons.inj e1)
    have e3 := (List.cons.inj e2.2)
    rw [(Value.int.inj e2.1).2, Value.string.inj e3.1]
/-- the world of twice -/
structure TW (w : World) (bx : Array Value) (wr : World) : Prop where
  below : Below w.heap.size w wr
  box : wr.heap[w.heap.size]? = some (.cells bx 28)
theorem TW.alloc {w : World} {bx : Array Value} {wr : World} (h : TW w bx wr) (o : Obj) : TW w bx (wr.alloc o) :=
  ⟨h.below.alloc h.below.size o, by rw [Lib.alloc_old _ _ _ (Array.getElem?_eq_some_iff.1 h.box).1]; exact h.box⟩
theorem TW.grown {w : World} {bx : Array Value} {wr w' : World} {row : Option Nat} (h : TW w bx wr) (hg : wr.grownBy w' row) (hr : ∀ k, row = some k → w.heap.size < k) : TW w bx w' :=
  ⟨h.below.grown hg h.below.size (fun k hk => Nat.le_of_lt (hr k hk)), by rw [hg.block _ (Array.getElem?_eq_some_iff.1 h.box).1 (by intro e; exact absurd (hr _ e.symm) (Nat.lt_irrefl _))]; exact h.box⟩
theorem TW.drew {w : World} {bx : Array Value} {wr : World} (h : TW w bx wr) : TW w bx wr.drew := ⟨h.below.drew, h.box⟩
/-- .. inside a map: the node's box at H, the map at H + 1 -/
structure TI (w : World) (bx : Array Value) (H : Nat) (nc : Array Value) (ks : List Value) (wr : World) : Prop where
  tw : TW w bx wr
  nbox : wr.heap[H]? = some (.cells nc 25)
  map : ∃ A, A.map (·.1) = ks ∧ MapAt wr Tryz.prog 171 (H + 1) A
set_option maxRecDepth 100000 in
theorem zero_ints (w : World) : (zeroValue 23).run Tryz.prog w = .ok (.slice none 0 0) w := rfl
theorem ti_start {w : World} {bx : Array Value} {wr : World} (h : TW w bx wr) (nc : Array Value) : TI w bx wr.heap.size nc [] ((wr.alloc (.cells nc 25)).alloc (.map #[] 0)) := by
  have s1 : (wr.alloc (.cells nc 25)).heap.size = wr.heap.size + 1 := by simp
  refine ⟨(h.alloc _).alloc _, ?_, [], rfl, ?_⟩
  · rw [Lib.alloc_old _ _ _ (by simp)]; exact heap_alloc_new wr _
  · have := mapAt_made (wr.alloc (.cells nc 25)) Tryz.prog 171
    rw [s1] at this; exact this
set_option maxHeartbeats 4000000 in
set_option maxRecDepth 100000 in
theorem twice_none (w : World) (v : Value) (N : List Nd) (root : Int) (hN : NodesAt w v N) (hR : InRange N) (hF : NdFit N) (hC : NoClash N) :
    Calls Tryz.prog 73 #[.agg #[v, .int .i64 root]] w fun e w' => e = .returned (.bool false) ∧ Below w.heap.size w w' := by
  have HN := Lib.hid hN
  have HR := Lib.hid hR
  have HFI := Lib.hid hF
  have HNC := Lib.hid hC
  obtain ⟨va, vc, rfl, hvl, hvn⟩ := hN
  have HVN := Lib.hid hvn
  have HT0 : Hid (TW w #[.slice va N.length vc, .int .i64 root] (w.alloc (.cells #[.slice va N.length vc, .int .i64 root] 28))) := ⟨(Below.refl _ w).alloc (Nat.le_refl _) _, heap_alloc_new w _⟩
  have hmm := @run_makeMap Tryz.prog
  clear hR hvn hF hC
  go_enter Tryz.func73, Tryz.ntmps73
  go_wp2
  go_loopw [14] (fun iv wr => ∃ i : Nat, iv = .int .i64 i ∧ i ≤ N.length ∧ TW w #[.slice va N.length vc, .int .i64 root] wr) (fun iv _ => N.length - (intOf iv).toNat)
  case atStart => exact ⟨0, rfl, Nat.zero_le _, HT0.out⟩
  case round =>
    obtain ⟨i, rfl, hi, htw⟩ := hrel
    have HTW := Lib.hid htw
    by_cases hlt : i < N.length
    · have hlt2 : (i : Int) < (N.length : Int) := by omega
      rcases HVN.out with hnil | ⟨b, o, rfl, hall⟩
      · exfalso; rw [hnil] at hlt; exact Nat.not_lt_zero _ hlt
      have hn0 := hall i N[i] (List.getElem?_eq_getElem hlt)
      have hrng := HR.out N[i] (List.getElem_mem hlt)
      have hnd := stepV_nodup (HNC.out N[i] (List.getElem_mem hlt))
      generalize N[i] = n at hn0 hrng hnd
      have HRN := Lib.hid hrng
      have HND := Lib.hid hnd
      have HALL := Lib.hid hall
      obtain ⟨kv, iv, c0, c1, c2, c3, c4, hkc, hic⟩ := hn0
      obtain ⟨ka, kc, rfl, hkl, hkc⟩ := hkc
      obtain ⟨ia, ic, rfl, hil, hic⟩ := hic
      have HKC := Lib.hid hkc
      have d0 := cell_keep htw.below c0
      have d1 := cell_keep htw.below c1
      have d2 := cell_keep htw.below c2
      have d3 := cell_keep htw.below c3
      have d4 := cell_keep htw.below c4
      have HTI := Lib.hid (ti_start htw #[.int .i64 n.kind, .string n.text, .bool n.ord, .slice ka n.keys.length kc, .slice ia n.items.length ic])
      clear hall htw hrng hkc hic c0 c1 c2 c3 c4 hnd
      obtain ⟨W0, hW0⟩ : ∃ W0 : World, W0 = wr := ⟨_, rfl⟩
      subst hW0
      have HHW : Hid (w.heap.size < W0.heap.size) := (Array.getElem?_eq_some_iff.1 HTW.out.box).1
      go_wp2
      go_loopw [22] (fun jv wr => ∃ j : Nat, jv = .int .i64 j ∧ j ≤ n.keys.length ∧ TI w #[.slice (some ⟨b, o, none⟩) N.length vc, .int .i64 root] W0.heap.size #[.int .i64 n.kind, .string n.text, .bool n.ord, .slice ka n.keys.length kc, .slice ia n.items.length ic] ((n.keys.take j).map (stepV N)) wr) (fun jv _ => n.keys.length - (intOf jv).toNat)
      case atStart => exact ⟨0, rfl, Nat.zero_le _, HTI.out⟩
      case round =>
        obtain ⟨j, rfl, hj, hti⟩ := hrel
        have HTI2 := Lib.hid hti
        by_cases hjl : j < n.keys.length
        · have hjl2 : (j : Int) < (n.keys.length : Int) := by omega
          have hx := HRN.out.1 n.keys[j] (List.getElem_mem hjl)
          rcases HKC.out with hnil | ⟨lb, lo, rfl, hcells⟩
          · exfalso; rw [hnil] at hjl; exact Nat.not_lt_zero _ hjl
          have hc1 := cell_keep hti.tw.below (hcells j n.keys[j] (List.getElem?_eq_getElem hjl))
          have hnd := HND.out
          have HNE : Hid (stepV N n.keys[j] ∉ (n.keys.take j).map (stepV N)) := by
            show _ ∉ _
            rw [← List.take_append_drop j n.keys, List.map_append, List.nodup_append] at hnd
            intro hm
            refine hnd.2.2 _ hm _ ?_ rfl
            exact List.mem_map.2 ⟨_, List.mem_iff_getElem?.2 ⟨0, by rw [List.getElem?_drop]; simp⟩, rfl⟩
          have HTK : Hid ((n.keys.take (j + 1)).map (stepV N) = (n.keys.take j).map (stepV N) ++ [stepV N n.keys[j]]) := by
            show _ = _
            rw [List.take_succ_eq_append_getElem hjl, List.map_append]; rfl
          generalize n.keys[j] = x at hx hc1 HTK HNE
          obtain ⟨k, rfl⟩ := Int.eq_ofNat_of_zero_le hx.1
          have hk : k < N.length := by have := hx.2; omega
          have hk2 : (k : Int) < (N.length : Int) := hx.2
          have hnk := HALL.out k N[k] (List.getElem?_eq_getElem hk)
          have hfit := HFI.out N[k] (List.getElem_mem hk)
          have hsv : stepV N (k : Int) = .agg #[.int .i64 N[k].kind, .string N[k].text] := by
            unfold stepV
            simp only [Int.toNat_natCast, List.getD_eq_getElem?_getD, List.getElem?_eq_getElem hk, Option.getD_some]
          rw [hsv] at HTK HNE
          obtain ⟨-, -, k0, k1, -⟩ := hnk
          have e0 := cell_keep hti.tw.below k0
          have e1 := cell_keep hti.tw.below k1
          have HKEY := Lib.hid (step_key N[k].kind N[k].text hfit.1 hfit.2)
          generalize N[k].kind = kk at HTK HNE e0 HKEY
          generalize N[k].text = kt at HTK HNE e1 HKEY
          have b0 : wr.cell? ⟨w.heap.size, 0, none⟩ = some (.slice (some ⟨b, o, none⟩) N.length vc) := (Lib.cell_of_heap hti.tw.box 0).trans rfl
          have b0' := fun ob => cell_keep (below_new wr ob) b0
          have e0' := fun ob => cell_keep (below_new wr ob) e0
          have e1' := fun ob => cell_keep (below_new wr ob) e1
          have HCELLS := Lib.hid hcells
          clear hcells hti hnd hsv k0 k1 hfit hx hk
          go_wp2
          go_region
          obtain ⟨A, hA, hmap⟩ := HTI2.out.map
          have HA := Lib.hid hA
          have HNE2 : Hid (∀ p ∈ A, p.1 ≠ (.agg #[.int .i64 kk, .string kt])) := fun p hp he => HNE.out (by rw [← hA, ← he]; exact List.mem_map.2 ⟨p, hp, rfl⟩)
          have HM1 : Hid (MapAt (wr.alloc (.cells #[.int .i64 kk, .string kt] 171)).drew Tryz.prog 171 (W0.heap.size + 1) A) := hmap.of_block (Lib.alloc_old _ _ _ hmap.lt)
          have HLT := Lib.hid hmap.lt
          clear hA hmap
          go_wp2_with (refine wpList_lookup_new _ rfl _ _ _ rfl 171 23 step_law Tryz.underlying169 _ zero_ints (W0.heap.size + 1) A rfl HM1.out _ rfl HKEY.out HNE2.out ?_)
          go_loop [43] (fun v => v = .int .i64 0) (fun _ => 0)
          case atStart => rfl
          case round =>
            subst hrel
            have HM2 : Hid (MapAt ((wr.alloc (.cells #[.int .i64 kk, .string kt] 171)).alloc (.cells #[.int .i64 k] 3)).drew Tryz.prog 171 (W0.heap.size + 1) A) := HM1.out.of_block (Lib.alloc_old _ _ _ HM1.out.lt)
            go_wp2_with (refine wpList_entry_new _ rfl _ _ _ rfl 171 23 step_law Tryz.underlying169 _ zero_ints (W0.heap.size + 1) A rfl HM2.out _ rfl HKEY.out HNE2.out ?_)
            intro st w3 hmid hg3 hs3
            obtain ⟨i0, hi0, hz0, hz1, hz2⟩ := info_parts info_int0
            have HI0 := Lib.hid (And.intro hi0 (And.intro hz0 (And.intro hz1 hz2)))
            have s1 : (wr.alloc (.cells #[.int .i64 kk, .string kt] 171)).heap.size = wr.heap.size + 1 := by simp
            have s2 : ((wr.alloc (.cells #[.int .i64 kk, .string kt] 171)).alloc (.cells #[.int .i64 k] 3)).drew.heap.size = wr.heap.size + 1 + 1 := by show ((wr.alloc _).alloc _).heap.size = _; simp
            have hrow : w3.heap[wr.heap.size + 1]? = some (.cells #[.int .i64 k] 3) := by
              rw [hg3.block _ (by rw [s2]; omega) (by intro e; have := Option.some.inj e; have := HLT.out; omega), ← s1]
              exact heap_alloc_new _ _
            have hcx : w3.cell? ⟨wr.heap.size + 1, 0, none⟩ = some (.int .i64 k) := (Lib.cell_of_heap hrow 0).trans rfl
            have HG3 := Lib.hid (And.intro hg3 hs3)
            have HMID := Lib.hid hmid
            have HCX := Lib.hid hcx
            clear hi0 hz0 hz1 hz2 hrow hcx hg3 hs3 hmid
            go_wp2_with (refine wpList_append_grows _ rfl _ _ 23 rfl 3 i0 (.int .i64 0) 1 8 Tryz.underlying23 HI0.out.1 HI0.out.2.1 HI0.out.2.2.1 HI0.out.2.2.2 rfl (by decide) none 0 0 [] rfl (fun _ => ⟨rfl, rfl⟩) rfl (by simp) ⟨wr.heap.size + 1, 0, none⟩ 1 1 [.int .i64 k] rfl rfl (by intro j u hj; match j, hj with | 0, hj => simp only [List.getElem?_cons_zero, Option.some.injEq] at hj; subst hj; exact HCX.out | j + 1, hj => simp at hj) (by simp [Value.oneCell']) (by decide) (by unfold maxLen; omega) (by omega) ?_)
            intro v' w4 hown hg4
            have HG4 := Lib.hid hg4
            have HMID2 := Lib.hid (HMID.out.of_block (hg4.block _ HMID.out.lt (by simp)))
            clear hown hg4
            go_wp2_with (refine wpList_entry_store _ rfl _ _ _ _ rfl 171 (W0.heap.size + 1) _ _ _ rfl HMID2.out rfl _ rfl ?_)
            intro w5 hmap5 hg5 hs5
            have HMAP5 := Lib.hid hmap5
            have HG5 := Lib.hid hg5
            clear hmap5 hg5 hs5
            go_wp2
            go_roundw
            case rel =>
              have hl := HHW.out
              have ha := HLT.out
              have ht := ((HTI2.out.tw.alloc (.cells #[.int .i64 kk, .string kt] 171)).alloc (.cells #[.int .i64 k] 3)).drew.grown HG3.out.1 (fun k hk => by have := Option.some.inj hk; omega)
              have s2 : ((wr.alloc (.cells #[.int .i64 kk, .string kt] 171)).alloc (.cells #[.int .i64 k] 3)).drew.heap.size = wr.heap.size + 1 + 1 := by show ((wr.alloc _).alloc _).heap.size = _; simp
              refine ⟨j + 1, by go_num, by omega, (ht.grown HG4.out (by simp)).grown HG5.out (fun k hk => by have := Option.some.inj hk; omega), ?_, ?_⟩
              · have h3 := HG3.out.2
                have h4 := HG4.out.size
                rw [HG5.out.block _ (by omega) (by simp), HG4.out.block _ (by omega) (by simp), HG3.out.1.block _ (by rw [s2]; omega) (by simp)]
                show ((wr.alloc _).alloc _).heap[W0.heap.size]? = _
                rw [Lib.alloc_old _ _ _ (by simp; omega), Lib.alloc_old _ _ _ (by omega)]
                exact HTI2.out.nbox
              · refine ⟨_, ?_, HMAP5.out⟩
                rw [HTK.out, ← HA.out, WideElems.modify_last, List.map_append]
                rfl
            case measure => simp [intOf]; omega
        · obtain rfl : j = n.keys.length := by omega
          clear hti
          go_wp2
          go_roundw
          case rel => exact ⟨i + 1, by go_num, by omega, HTI2.out.tw⟩
          case measure => simp [intOf]; omega
    · obtain rfl : i = N.length := by omega
      clear htw
      go_wp2
      go_ret
      exact ⟨rfl, HTW.out.below⟩
end Go.Proofs.YtcipjifpigpfdaaGreatDoor
/- graph.components: the walk to its three rows. -/
namespace Go.Proofs.YtcipjifpigpfdaaGreatDoor
open Go.RowKit
open Go.Lib hiding intOf
def act9 (a : Act) (x5 x6 x7 x17 x18 x19 x20 x21 x22 : Value) : Act :=
  ((((((((a.put (some 5) x5).put (some 6) x6).put (some 7) x7).put (some 17) x17).put (some 18) x18).put (some 19) x19).put (some 20) x20).put (some 21) x21).put (some 22) x22
/-- what is listed, all that it comes after is listed too -/
def ClosedL (ops : Array Oper) (L : Array Bool) : Prop := ∀ (j : Nat) (o : Oper), ops[j]? = some o → L.getD j false = true → ∀ e ∈ o.after, Region.binds .any e = true → L.getD e.on false = true
theorem ClosedL.set {ops : Array Oper} {L : Array Bool} (h : ClosedL ops L) {i : Nat} {o : Oper} (ho : ops[i]? = some o) (h2 : ∀ e ∈ o.after, Region.binds .any e = true → L.getD e.on false = true) : ClosedL ops (L.setIfInBounds i true) := by
  have hm : ∀ k, L.getD k false = true → (L.setIfInBounds i true).getD k false = true := fun k hk => by
    rw [getD_set]; split <;> simp [hk]
  intro j oj hj hL e he hb
  refine hm _ ?_
  by_cases hij : i = j
  · subst hij
    rw [ho] at hj
    obtain rfl := Option.some.inj hj
    exact h2 e he hb
  · rw [getD_set, if_neg hij] at hL
    exact h j oj hj hL e he hb
theorem wp_three {P : Program} {ops : Array Oper} {Q : Exit → Act → World → Prop} {id : Nat} {a : Act} {w : World} (n : Nat) (hm : P.follows .mixedOrders = true) (hE : edgesB ops = true) (hsz : ops.size = 12) (ha : act9 a undef undef undef undef undef undef undef undef undef = a)
    (hstep : ∀ (i : Nat) (o : Oper) (L : Array Bool) (_ : ClosedL ops L) (x5 x6 x7 x17 x18 x19 x20 x21 x22 : Value) (w' : World) (K : Act → World → Prop), ops[i]? = some o → L.getD i false = false → (∀ e ∈ o.after, Region.binds .any e = true → L.getD e.on false = true) → R3 w n L x5 x6 x7 x17 x18 x19 x20 x21 x22 w' →
      (∀ y5 y6 y7 y17 y18 y19 y20 y21 y22 w'', R3 w n (L.setIfInBounds i true) y5 y6 y7 y17 y18 y19 y20 y21 y22 w'' → K (act9 a y5 y6 y7 y17 y18 y19 y20 y21 y22) w'') → wpOp P ops Q i K (act9 a x5 x6 x7 x17 x18 x19 x20 x21 x22) w')
    (hend : ∀ (b1 b3 b5 b6 b7 b8 : Nat) (w' : World), Below w.heap.size w w' → w.heap.size ≤ b1 → w.heap.size ≤ b3 → w.heap.size ≤ b5 → w.heap.size ≤ b6 → w.heap.size ≤ b7 → w.heap.size ≤ b8 → b1 ≠ b3 → b1 ≠ b5 → b3 ≠ b5 → b6 ≠ b7 → b6 ≠ b8 → b7 ≠ b8 →
      w'.heap[b1]? = some (.cells (Array.replicate n (.int .i64 0)) 3) → w'.heap[b3]? = some (.cells (Array.replicate n (.int .i64 0)) 3) → w'.heap[b5]? = some (.cells (Array.replicate n (.int .i64 0)) 3) →
      w'.heap[b6]? = some (.cells #[.slice (some ⟨b1, 0, none⟩) n n] 23) → w'.heap[b7]? = some (.cells #[.slice (some ⟨b3, 0, none⟩) n n] 23) → w'.heap[b8]? = some (.cells #[.slice (some ⟨b5, 0, none⟩) n n] 23) →
      Q .normal (act9 a (.pointer (some ⟨b6, 0, none⟩)) (.pointer (some ⟨b7, 0, none⟩)) (.pointer (some ⟨b8, 0, none⟩)) (.int .i64 n) (.slice (some ⟨b1, 0, none⟩) n n) (.int .i64 n) (.slice (some ⟨b3, 0, none⟩) n n) (.int .i64 n) (.slice (some ⟨b5, 0, none⟩) n n)) w') :
    (Code.region id ops true).wp P Q a w := by
  refine wp_region_inv hm (fun L a' w' => ClosedL ops L ∧ ∃ x5 x6 x7 x17 x18 x19 x20 x21 x22, a' = act9 a x5 x6 x7 x17 x18 x19 x20 x21 x22 ∧ R3 w n L x5 x6 x7 x17 x18 x19 x20 x21 x22 w') hE ?_ ?_ ?_
  · refine ⟨fun j o ho hL => absurd hL (by rw [Array.getD_eq_getD_getElem?, Array.getElem?_replicate]; split <;> simp), _, _, _, _, _, _, _, _, _, ha.symm, ?_⟩
    rw [hsz]
    constructor
    case below => exact (Below.refl _ w).drew
    case size => rfl
    all_goals (intro h; exact absurd h (by decide))
  · rintro i o L a' w' K ho hs h1 h2 ⟨hC, x5, x6, x7, x17, x18, x19, x20, x21, x22, rfl, hR⟩ hK
    refine hstep i o L hC _ _ _ _ _ _ _ _ _ w' K ho ?_ h2 hR (fun y5 y6 y7 y17 y18 y19 y20 y21 y22 w'' h => hK _ _ ⟨hC.set ho h2, _, _, _, _, _, _, _, _, _, rfl, h⟩)
    have hlt : i < L.size := by rw [hs]; exact (Array.getElem?_eq_some_iff.1 ho).1
    rw [Array.getD_eq_getD_getElem?, Array.getElem?_eq_getElem hlt] at h1 ⊢
    exact h1
  · rintro L a' w' hall ⟨-, x5, x6, x7, x17, x18, x19, x20, x21, x22, rfl, hR⟩
    have hs := hR.size
    have g : ∀ i, i < 12 → L.getD i false = true := fun i hi => by
      have h1 := hall i (by rw [hsz]; exact hi)
      have hlt : i < L.size := by rw [hs]; exact hi
      rw [Array.getD_eq_getD_getElem?, Array.getElem?_eq_getElem hlt] at h1 ⊢
      exact h1
    obtain rfl := hR.m0 (g 0 (by omega))
    obtain rfl := hR.m2 (g 2 (by omega))
    obtain rfl := hR.m4 (g 4 (by omega))
    have d13 := hR.d13 (g 1 (by omega)) (g 3 (by omega))
    have d15 := hR.d15 (g 1 (by omega)) (g 5 (by omega))
    have d35 := hR.d35 (g 3 (by omega)) (g 5 (by omega))
    have d67 := hR.d67 (g 6 (by omega)) (g 7 (by omega))
    have d68 := hR.d68 (g 6 (by omega)) (g 8 (by omega))
    have d78 := hR.d78 (g 7 (by omega)) (g 8 (by omega))
    have v6 := hR.v6 (g 6 (by omega))
    have v7 := hR.v7 (g 7 (by omega))
    have v8 := hR.v8 (g 8 (by omega))
    rw [g 9 (by omega)] at v6
    rw [g 10 (by omega)] at v7
    rw [g 11 (by omega)] at v8
    obtain ⟨b1, rfl, h1, e1⟩ := hR.r1 (g 1 (by omega))
    obtain ⟨b3, rfl, h3, e3⟩ := hR.r3 (g 3 (by omega))
    obtain ⟨b5, rfl, h5, e5⟩ := hR.r5 (g 5 (by omega))
    obtain ⟨b6, rfl, h6, e6⟩ := v6
    obtain ⟨b7, rfl, h7, e7⟩ := v7
    obtain ⟨b8, rfl, h8, e8⟩ := v8
    exact hend b1 b3 b5 b6 b7 b8 w' hR.below h1 h3 h5 h6 h7 h8 (fun e => d13 (by rw [e])) (fun e => d15 (by rw [e])) (fun e => d35 (by rw [e])) (fun e => d67 (by rw [e])) (fun e => d68 (by rw [e])) (fun e => d78 (by rw [e])) e1 e3 e5 e6 e7 e8
end Go.Proofs.YtcipjifpigpfdaaGreatDoor
/- graph.components: what the walk of Tarjan computes, and the world that it walks in. -/
namespace Go.Proofs.YtcipjifpigpfdaaGreatDoor
open Go.RowKit
open Go.Lib hiding intOf
/-- the numbers of the walk -/
structure TS where
  next : Int
  index : List Int
  low : List Int
  inn : List Int
  on : List Bool
  stack : List Int
  sizes : List Int
/-- an edge from a to x -/
def stepT (visit : Nat → TS → Option TS) (a x : Nat) (s : TS) : Option TS :=
  if s.index.getD x 0 = 0 then (visit x s).map fun s => { s with low := s.low.set a (min (s.low.getD a 0) (s.low.getD x 0)) }
  else if s.on.getD x false then some { s with low := s.low.set a (min (s.low.getD a 0) (s.index.getD x 0)) }
  else some s
def pop1 (s : TS) (x : Int) : TS := { s with stack := s.stack.dropLast, on := s.on.set x.toNat false, inn := s.inn.set x.toNat s.sizes.length }
/-- the component of a is taken off the stack -/
def popT (a : Nat) : Nat → TS → Int → Option (TS × Int)
  | 0, _, _ => none
  | f + 1, s, size =>
    match s.stack.getLast? with
    | none => none
    | some x => if x = a then some (pop1 s x, wrap64 (size + 1)) else popT a f (pop1 s x) (wrap64 (size + 1))
def enterT (a : Nat) (s : TS) : TS := { s with next := wrap64 (s.next + 1), index := s.index.set a (wrap64 (s.next + 1)), low := s.low.set a (wrap64 (s.next + 1)), stack := s.stack ++ [(a : Int)], on := s.on.set a true }
def edgesT (visit : Nat → TS → Option TS) (a : Nat) (l : List Int) (s : TS) : Option TS := l.foldlM (fun s x => stepT visit a x.toNat s) s
def leaveT (a : Nat) (s : TS) : Option TS :=
  if s.low.getD a 0 = s.index.getD a 0 then (popT a (s.stack.length + 1) s 0).map fun p => { p.1 with sizes := p.1.sizes ++ [p.2] } else some s
def visitT (N : List Nd) : Nat → Nat → TS → Option TS
  | 0, _, _ => none
  | f + 1, a, s => (edgesT (visitT N f) a (N.getD a nd0).keys (enterT a s)).bind fun s => (edgesT (visitT N f) a (N.getD a nd0).items s).bind (leaveT a)
/-- the components and their sizes -/
def compT (N : List Nd) (root : Nat) : Option (List Int × List Int) :=
  (visitT N (N.length + 1) root ⟨0, List.replicate N.length 0, List.replicate N.length 0, List.replicate N.length (-1), List.replicate N.length false, [], []⟩).map fun s => (s.inn, s.sizes)
example : compT [⟨10, ⟨#[]⟩, false, [1], [2]⟩, ⟨5, ⟨#[97]⟩, false, [], []⟩, ⟨9, ⟨#[]⟩, false, [], [3]⟩, ⟨2, ⟨#[49]⟩, false, [], []⟩] 0 = some ([3, 0, 2, 1], [1, 1, 1, 1]) := by decide +kernel
/-- the fixed blocks: g's box; the rows index, low, in, on; the variables of these; next; visit; sizes; stack -/
def tobj (d : Fin 13 → Nat) (n : Nat) (v : Value) (root : Int) (s : TS) (sv zv : Value) : Fin 13 → Obj
  | 0 => .cells #[v, .int .i64 root] 28
  | 1 => .cells (s.index.map (Value.int .i64)).toArray 3
  | 2 => .cells (s.low.map (Value.int .i64)).toArray 3
  | 3 => .cells (s.inn.map (Value.int .i64)).toArray 3
  | 4 => .cells (s.on.map Value.bool).toArray 4
  | 5 => .cells #[.slice (some ⟨d 1, 0, none⟩) n n] 23
  | 6 => .cells #[.slice (some ⟨d 2, 0, none⟩) n n] 23
  | 7 => .cells #[.slice (some ⟨d 3, 0, none⟩) n n] 23
  | 8 => .cells #[.slice (some ⟨d 4, 0, none⟩) n n] 90
  | 9 => .cells #[.int .i64 s.next] 3
  | 10 => .cells #[.func (.func 165) #[] #[.pointer (some ⟨d 9, 0, none⟩), .pointer (some ⟨d 5, 0, none⟩), .pointer (some ⟨d 6, 0, none⟩), .pointer (some ⟨d 12, 0, none⟩), .pointer (some ⟨d 8, 0, none⟩), .pointer (some ⟨d 10, 0, none⟩), .pointer (some ⟨d 0, 0, none⟩), .pointer (some ⟨d 11, 0, none⟩), .pointer (some ⟨d 7, 0, none⟩)]] 98
  | 11 => .cells #[zv] 23
  | 12 => .cells #[sv] 23
/-- the world of the walk -/
structure GX (w0 : World) (v : Value) (root : Int) (N : List Nd) (d : Fin 13 → Nat) (base : Nat) (s : TS) (sv zv : Value) (w : World) : Prop where
  below : Below w0.heap.size w0 w
  lo : ∀ k, w0.heap.size ≤ d k
  hi : ∀ k, d k < base
  inj : ∀ i j, d i = d j → i = j
  fix : ∀ k, w.heap[d k]? = some (tobj d N.length v root s sv zv k)
  bsz : base ≤ w.heap.size
  sown : w.ownsRow base 3 1 sv s.stack.length (s.stack.map (Value.int .i64))
  zown : w.ownsRow base 3 1 zv s.sizes.length (s.sizes.map (Value.int .i64))
  ne : sv.ownBlock = none ∨ sv.ownBlock ≠ zv.ownBlock
  li : s.index.length = N.length
  ll : s.low.length = N.length
  ln : s.inn.length = N.length
  lo2 : s.on.length = N.length
  stk : ∀ x ∈ s.stack, 0 ≤ x ∧ x < (N.length : Int)
/-- .. between two visits: each number is given once -/
structure GW (w0 : World) (v : Value) (root : Int) (N : List Nd) (d : Fin 13 → Nat) (base : Nat) (s : TS) (sv zv : Value) (w : World) : Prop extends GX w0 v root N d base s sv zv w where
  cnt : s.next + s.index.count 0 = N.length
  bd : ((s.stack.length + s.sizes.length : Nat) : Int) ≤ s.next
end Go.Proofs.YtcipjifpigpfdaaGreatDoor
/- graph.components: how the world of the walk is carried. -/
namespace Go.Proofs.YtcipjifpigpfdaaGreatDoor
open Go.RowKit
open Go.Lib hiding intOf
theorem fix_set {d : Fin 13 → Nat} {obj obj' : Fin 13 → Obj} {w : World} (h : ∀ k, w.heap[d k]? = some (obj k)) (inj : ∀ i j, d i = d j → i = j) (j : Fin 13) (i : Nat) (x : Value) {cs : Array Value} {T : TypeId} (hj : obj j = .cells cs T) (hj' : obj' j = .cells (cs.setIfInBounds i x) T)
    (hne : ∀ k, k ≠ j → obj' k = obj k) : ∀ k, (w.setCell ⟨d j, i, none⟩ x).heap[d k]? = some (obj' k) := by
  intro k
  by_cases hk : k = j
  · subst hk
    have := h k
    rw [hj] at this
    rw [hj']
    simp [World.setCell, Array.getElem?_modify, this]
  · rw [set_far _ (fun e => hk (inj _ _ e)), hne k hk]; exact h k
theorem row_far {w w' : World} {base b n : Nat} {v : Value} {xs : List Value} {e : TypeId} (h : w.ownsRow base e 1 v n xs) (hb : b < base) (hg : w.grownBy w' (some b)) : w'.ownsRow base e 1 v n xs := by
  refine h.kept hg (.inr fun e => ?_)
  have := (h.lt b e).1
  omega
section
variable {w0 : World} {v : Value} {root : Int} {N : List Nd} {d : Fin 13 → Nat} {base : Nat} {s : TS} {sv zv : Value} {w : World}
theorem GX.drew (h : GX w0 v root N d base s sv zv w) : GX w0 v root N d base s sv zv w.drew :=
  { h with below := h.below.drew }
theorem GX.grown {w' : World} (h : GX w0 v root N d base s sv zv w) (hg : w.grownBy w' none) : GX w0 v root N d base s sv zv w' :=
  { h with
    below := h.below.grown hg h.below.size (fun k hk => by cases hk)
    fix := fun k => by rw [hg.block _ (Array.getElem?_eq_some_iff.1 (h.fix k)).1 (by simp)]; exact h.fix k
    bsz := Nat.le_trans h.bsz hg.size
    sown := h.sown.kept hg (by cases h' : sv.ownBlock <;> simp)
    zown := h.zown.kept hg (by cases h' : zv.ownBlock <;> simp) }
theorem GX.alloc (h : GX w0 v root N d base s sv zv w) (o : Obj) : GX w0 v root N d base s sv zv (w.alloc o) := h.grown (World.grownBy_alloc w o none)
theorem GW.drew (h : GW w0 v root N d base s sv zv w) : GW w0 v root N d base s sv zv w.drew := { toGX := h.toGX.drew, cnt := h.cnt, bd := h.bd }
theorem GW.alloc (h : GW w0 v root N d base s sv zv w) (o : Obj) : GW w0 v root N d base s sv zv (w.alloc o) := { toGX := h.toGX.alloc o, cnt := h.cnt, bd := h.bd }
/-- a store into a fixed block -/
theorem GX.store (h : GX w0 v root N d base s sv zv w) (j : Fin 13) (i : Nat) (x : Value) (s' : TS) {cs : Array Value} {T : TypeId} (hj : tobj d N.length v root s sv zv j = .cells cs T) (hj' : tobj d N.length v root s' sv zv j = .cells (cs.setIfInBounds i x) T)
    (hne : ∀ k, k ≠ j → tobj d N.length v root s' sv zv k = tobj d N.length v root s sv zv k) (hst : s'.stack = s.stack) (hsi : s'.sizes = s.sizes) (hli : s'.index.length = N.length) (hll : s'.low.length = N.length) (hln : s'.inn.length = N.length) (hlo : s'.on.length = N.length) :
    GX w0 v root N d base s' sv zv (w.setCell ⟨d j, i, none⟩ x) where
  below := h.below.setCell (p := ⟨d j, i, none⟩) (h.lo j) _
  lo := h.lo
  hi := h.hi
  inj := h.inj
  fix := fix_set h.fix h.inj j i x hj hj' hne
  bsz := by simpa [World.setCell] using h.bsz
  sown := by rw [hst]; exact row_far h.sown (h.hi j) (grown_set w (d j) i x)
  zown := by rw [hsi]; exact row_far h.zown (h.hi j) (grown_set w (d j) i x)
  ne := h.ne
  li := hli
  ll := hll
  ln := hln
  lo2 := hlo
  stk := by rw [hst]; exact h.stk
theorem GX.setLow (h : GX w0 v root N d base s sv zv w) (a : Nat) (x : Int) : GX w0 v root N d base { s with low := s.low.set a x } sv zv (w.setCell ⟨d 2, a, none⟩ (.int .i64 x)) :=
  h.store 2 a _ _ rfl (by simp [tobj, List.map_set]) (fun k hk => by
    match k with
    | 2 => exact absurd rfl hk
    | 0 | 1 | 3 | 4 | 5 | 6 | 7 | 8 | 9 | 10 | 11 | 12 => rfl) rfl rfl h.li (by simpa using h.ll) h.ln h.lo2
theorem GX.setIndex (h : GX w0 v root N d base s sv zv w) (a : Nat) (x : Int) : GX w0 v root N d base { s with index := s.index.set a x } sv zv (w.setCell ⟨d 1, a, none⟩ (.int .i64 x)) :=
  h.store 1 a _ _ rfl (by simp [tobj, List.map_set]) (fun k hk => by
    match k with
    | 1 => exact absurd rfl hk
    | 0 | 2 | 3 | 4 | 5 | 6 | 7 | 8 | 9 | 10 | 11 | 12 => rfl) rfl rfl (by simpa using h.li) h.ll h.ln h.lo2
theorem GX.setInn (h : GX w0 v root N d base s sv zv w) (a : Nat) (x : Int) : GX w0 v root N d base { s with inn := s.inn.set a x } sv zv (w.setCell ⟨d 3, a, none⟩ (.int .i64 x)) :=
  h.store 3 a _ _ rfl (by simp [tobj, List.map_set]) (fun k hk => by
    match k with
    | 3 => exact absurd rfl hk
    | 0 | 1 | 2 | 4 | 5 | 6 | 7 | 8 | 9 | 10 | 11 | 12 => rfl) rfl rfl h.li h.ll (by simpa using h.ln) h.lo2
theorem GX.setOn (h : GX w0 v root N d base s sv zv w) (a : Nat) (x : Bool) : GX w0 v root N d base { s with on := s.on.set a x } sv zv (w.setCell ⟨d 4, a, none⟩ (.bool x)) :=
  h.store 4 a _ _ rfl (by simp [tobj, List.map_set]) (fun k hk => by
    match k with
    | 4 => exact absurd rfl hk
    | 0 | 1 | 2 | 3 | 5 | 6 | 7 | 8 | 9 | 10 | 11 | 12 => rfl) rfl rfl h.li h.ll h.ln (by simpa using h.lo2)
theorem GX.setNext (h : GX w0 v root N d base s sv zv w) (x : Int) : GX w0 v root N d base { s with next := x } sv zv (w.setCell ⟨d 9, 0, none⟩ (.int .i64 x)) :=
  h.store 9 0 _ _ rfl (by simp [tobj]) (fun k hk => by
    match k with
    | 9 => exact absurd rfl hk
    | 0 | 1 | 2 | 3 | 4 | 5 | 6 | 7 | 8 | 10 | 11 | 12 => rfl) rfl rfl h.li h.ll h.ln h.lo2
theorem GW.setLow (h : GW w0 v root N d base s sv zv w) (a : Nat) (x : Int) : GW w0 v root N d base { s with low := s.low.set a x } sv zv (w.setCell ⟨d 2, a, none⟩ (.int .i64 x)) :=
  { toGX := h.toGX.setLow a x, cnt := h.cnt, bd := h.bd }
/-- the stack's row has turned, and its variable -/
theorem GX.setStack (h : GX w0 v root N d base s sv zv w) (L : List Int) (sv' : Value) (w' : World) (hg : w.grownBy w' sv.ownBlock) (hown : w'.ownsRow base 3 1 sv' L.length (L.map (Value.int .i64)))
    (hpl : ∀ k, sv'.ownBlock = some k → sv.ownBlock = some k ∨ w.heap.size ≤ k) (hL : ∀ x ∈ L, 0 ≤ x ∧ x < (N.length : Int)) :
    GX w0 v root N d base { s with stack := L } sv' zv (w'.setCell ⟨d 12, 0, none⟩ sv') where
  below := (h.below.grown hg h.below.size (fun k hk => Nat.le_trans (Nat.le_of_lt (Nat.lt_of_le_of_lt (h.lo 0) (h.hi 0))) (h.sown.lt k hk).1)).setCell (p := ⟨d 12, 0, none⟩) (h.lo 12) _
  lo := h.lo
  hi := h.hi
  inj := h.inj
  fix := fix_set (obj := tobj d N.length v root s sv zv) (fun k => by rw [hg.block _ (Array.getElem?_eq_some_iff.1 (h.fix k)).1 (fun e => by have := (h.sown.lt _ e.symm).1; have := h.hi k; omega)]; exact h.fix k) h.inj 12 0 sv' rfl (by simp [tobj]) (fun k hk => by
    match k with
    | 12 => exact absurd rfl hk
    | 0 | 1 | 2 | 3 | 4 | 5 | 6 | 7 | 8 | 9 | 10 | 11 => rfl)
  bsz := by simpa [World.setCell] using Nat.le_trans h.bsz hg.size
  sown := row_far hown (h.hi 12) (grown_set w' (d 12) 0 sv')
  zown := row_far (h.zown.kept hg (by
    rcases h.ne with e | e
    · rw [e]; cases zv.ownBlock <;> simp
    · exact .inr (fun q => e q.symm))) (h.hi 12) (grown_set w' (d 12) 0 sv')
  ne := by
    cases hq : sv'.ownBlock with
    | none => exact .inl rfl
    | some k =>
      refine .inr fun e => ?_
      rcases hpl k hq with e2 | e2
      · rcases h.ne with e3 | e3
        · rw [e3] at e2; cases e2
        · exact e3 (e2.trans e)
      · have := (h.zown.lt k e.symm).2
        omega
  li := h.li
  ll := h.ll
  ln := h.ln
  lo2 := h.lo2
  stk := hL
/-- .. and the sizes' row -/
theorem GX.setSizes (h : GX w0 v root N d base s sv zv w) (L : List Int) (zv' : Value) (w' : World) (hg : w.grownBy w' zv.ownBlock) (hown : w'.ownsRow base 3 1 zv' L.length (L.map (Value.int .i64)))
    (hpl : ∀ k, zv'.ownBlock = some k → zv.ownBlock = some k ∨ w.heap.size ≤ k) :
    GX w0 v root N d base { s with sizes := L } sv zv' (w'.setCell ⟨d 11, 0, none⟩ zv') where
  below := (h.below.grown hg h.below.size (fun k hk => Nat.le_trans (Nat.le_of_lt (Nat.lt_of_le_of_lt (h.lo 0) (h.hi 0))) (h.zown.lt k hk).1)).setCell (p := ⟨d 11, 0, none⟩) (h.lo 11) _
  lo := h.lo
  hi := h.hi
  inj := h.inj
  fix := fix_set (obj := tobj d N.length v root s sv zv) (fun k => by rw [hg.block _ (Array.getElem?_eq_some_iff.1 (h.fix k)).1 (fun e => by have := (h.zown.lt _ e.symm).1; have := h.hi k; omega)]; exact h.fix k) h.inj 11 0 zv' rfl (by simp [tobj]) (fun k hk => by
    match k with
    | 11 => exact absurd rfl hk
    | 0 | 1 | 2 | 3 | 4 | 5 | 6 | 7 | 8 | 9 | 10 | 12 => rfl)
  bsz := by simpa [World.setCell] using Nat.le_trans h.bsz hg.size
  zown := row_far hown (h.hi 11) (grown_set w' (d 11) 0 zv')
  sown := row_far (h.sown.kept hg h.ne) (h.hi 11) (grown_set w' (d 11) 0 zv')
  ne := by
    cases hq : zv'.ownBlock with
    | none => cases hs : sv.ownBlock with
      | none => exact .inl rfl
      | some k => exact .inr (by simp)
    | some k =>
      by_cases hs : sv.ownBlock = some k
      · exfalso
        rcases hpl k hq with e2 | e2
        · rcases h.ne with e3 | e3
          · rw [e3] at hs; cases hs
          · exact e3 (hs.trans e2.symm)
        · have := (h.sown.lt k hs).2
          omega
      · exact .inr hs
  li := h.li
  ll := h.ll
  ln := h.ln
  lo2 := h.lo2
  stk := h.stk
/-- what a walk leaves alone -/
structure Fr (base : Nat) (sv zv sv' zv' : Value) (w w' : World) : Prop where
  size : w.heap.size ≤ w'.heap.size
  kept : ∀ k, base ≤ k → k < w.heap.size → sv.ownBlock ≠ some k → zv.ownBlock ≠ some k → w'.heap[k]? = w.heap[k]?
  srow : ∀ k, sv'.ownBlock = some k → sv.ownBlock = some k ∨ w.heap.size ≤ k
  zrow : ∀ k, zv'.ownBlock = some k → zv.ownBlock = some k ∨ w.heap.size ≤ k
theorem Fr.refl (base : Nat) (sv zv : Value) (w : World) : Fr base sv zv sv zv w w := ⟨Nat.le_refl _, fun _ _ _ _ _ => rfl, fun _ h => .inl h, fun _ h => .inl h⟩
theorem Fr.trans {base : Nat} {sv zv sv1 zv1 sv2 zv2 : Value} {w w1 w2 : World} (h : Fr base sv zv sv1 zv1 w w1) (h2 : Fr base sv1 zv1 sv2 zv2 w1 w2) : Fr base sv zv sv2 zv2 w w2 := by
  refine ⟨Nat.le_trans h.size h2.size, fun k hb hk hs hz => ?_, fun k hk => ?_, fun k hk => ?_⟩
  · rw [h2.kept k hb (Nat.lt_of_lt_of_le hk h.size) (fun e => ?_) (fun e => ?_), h.kept k hb hk hs hz]
    · rcases h.srow k e with e | e
      · exact hs e
      · omega
    · rcases h.zrow k e with e | e
      · exact hz e
      · omega
  · rcases h2.srow k hk with e | e
    · exact h.srow k e
    · exact .inr (Nat.le_trans h.size e)
  · rcases h2.zrow k hk with e | e
    · exact h.zrow k e
    · exact .inr (Nat.le_trans h.size e)
theorem Fr.of_grown {base : Nat} {sv zv : Value} {w w' : World} {r : Option Nat} (hg : w.grownBy w' r) (hr : ∀ k, r = some k → k < base) : Fr base sv zv sv zv w w' :=
  ⟨hg.size, fun k hb hk _ _ => hg.block k hk (fun e => by have := hr k e.symm; omega), fun _ h => .inl h, fun _ h => .inl h⟩
end
end Go.Proofs.YtcipjifpigpfdaaGreatDoor
/- graph.components: the walk of an edge. -/
namespace Go.Proofs.YtcipjifpigpfdaaGreatDoor
open Go.RowKit
open Go.Lib hiding intOf
/-- visit's arguments -/
def capsV (d : Fin 13 → Nat) (a : Int) : Array Value := #[.int .i64 a, .pointer (some ⟨d 9, 0, none⟩), .pointer (some ⟨d 5, 0, none⟩), .pointer (some ⟨d 6, 0, none⟩), .pointer (some ⟨d 12, 0, none⟩), .pointer (some ⟨d 8, 0, none⟩), .pointer (some ⟨d 10, 0, none⟩), .pointer (some ⟨d 0, 0, none⟩), .pointer (some ⟨d 11, 0, none⟩), .pointer (some ⟨d 7, 0, none⟩)]
/-- a walk from s leads to s' -/
def Leads (w0 : World) (v : Value) (root : Int) (N : List Nd) (d : Fin 13 → Nat) (base : Nat) (s' : TS) (sv zv : Value) (w : World) (e : Ending) (w' : World) : Prop :=
  e = .returned (.tuple #[]) ∧ ∃ sv' zv', GW w0 v root N d base s' sv' zv' w' ∧ Fr base sv zv sv' zv' w w'
def VisitsAt (w0 : World) (v : Value) (root : Int) (N : List Nd) (d : Fin 13 → Nat) (base : Nat) (visit : Nat → TS → Option TS) : Prop :=
  ∀ (x : Nat) (s s' : TS) (sv zv : Value) (w : World), visit x s = some s' → x < N.length → s.index.getD x 0 = 0 → GW w0 v root N d base s sv zv w →
    Calls Tryz.prog 165 (capsV d x) w (Leads w0 v root N d base s' sv zv w)
theorem int_row {L : List Int} {w : World} {b k : Nat} {T : TypeId} (h : w.heap[b]? = some (.cells (L.map (Value.int .i64)).toArray T)) (hk : k < L.length) : w.cell? ⟨b, k, none⟩ = some (.int .i64 (L.getD k 0)) := by
  rw [Lib.cell_of_heap h, List.getD_eq_getElem?_getD, List.getElem?_eq_getElem hk]
  simp [hk]
theorem bool_row {L : List Bool} {w : World} {b k : Nat} {T : TypeId} (h : w.heap[b]? = some (.cells (L.map Value.bool).toArray T)) (hk : k < L.length) : w.cell? ⟨b, k, none⟩ = some (.bool (L.getD k false)) := by
  rw [Lib.cell_of_heap h, List.getD_eq_getElem?_getD, List.getElem?_eq_getElem hk]
  simp [hk]
theorem grown_drew {w w' : World} {r : Option Nat} (h : w.grownBy w' r) : w.grownBy w'.drew r := ⟨h.os, h.tape, h.output, h.size, h.block⟩
set_option maxHeartbeats 4000000 in
set_option maxRecDepth 100000 in
theorem step_any (w0 : World) (v : Value) (root : Int) (N : List Nd) (d : Fin 13 → Nat) (base : Nat) (visit : Nat → TS → Option TS) (hV : VisitsAt w0 v root N d base visit) (a x : Nat) (s s' : TS) (sv zv : Value) (w : World) (ab : Nat)
    (ha : a < N.length) (hx : x < N.length) (hs : stepT visit a x s = some s') (hg : GW w0 v root N d base s sv zv w) (hab : base ≤ ab) (hac : w.cell? ⟨ab, 0, none⟩ = some (.int .i64 a)) (has : sv.ownBlock ≠ some ab) (haz : zv.ownBlock ≠ some ab) :
    Calls Tryz.prog 166 #[.int .i64 x, .pointer (some ⟨d 5, 0, none⟩), .pointer (some ⟨d 10, 0, none⟩), .pointer (some ⟨d 6, 0, none⟩), .pointer (some ⟨ab, 0, none⟩), .pointer (some ⟨d 8, 0, none⟩)] w (Leads w0 v root N d base s' sv zv w) := by
  have HG := Lib.hid hg
  have HV := Lib.hid hV
  have HS := Lib.hid hs
  have hxi : (x : Int) < (N.length : Int) := by omega
  have hai : (a : Int) < (N.length : Int) := by omega
  have c5 : w.cell? ⟨d 5, 0, none⟩ = some (.slice (some ⟨d 1, 0, none⟩) N.length N.length) := (Lib.cell_of_heap (hg.fix 5) 0).trans rfl
  have ci : w.cell? ⟨d 1, x, none⟩ = some (.int .i64 (s.index.getD x 0)) := int_row (hg.fix 1) (by rw [hg.li]; exact hx)
  have hblt := World.block_lt_of_cell? w _ hac
  by_cases hi : s.index.getD x 0 = 0
  · have c10 : w.cell? ⟨d 10, 0, none⟩ = some (.func (.func 165) #[] #[.pointer (some ⟨d 9, 0, none⟩), .pointer (some ⟨d 5, 0, none⟩), .pointer (some ⟨d 6, 0, none⟩), .pointer (some ⟨d 12, 0, none⟩), .pointer (some ⟨d 8, 0, none⟩), .pointer (some ⟨d 10, 0, none⟩), .pointer (some ⟨d 0, 0, none⟩), .pointer (some ⟨d 11, 0, none⟩), .pointer (some ⟨d 7, 0, none⟩)]) := (Lib.cell_of_heap (hg.fix 10) 0).trans rfl
    rw [hi] at ci
    have hs2 : ∃ s1, visit x s = some s1 ∧ s' = { s1 with low := s1.low.set a (min (s1.low.getD a 0) (s1.low.getD x 0)) } := by
      unfold stepT at hs
      rw [if_pos hi] at hs
      cases hq : visit x s with
      | none => rw [hq] at hs; cases hs
      | some s1 => rw [hq] at hs; exact ⟨s1, rfl, (Option.some.inj hs).symm⟩
    obtain ⟨s1, hs1, rfl⟩ := hs2
    have HC := Lib.hid (hV x s s1 sv zv w hs1 hx hi hg)
    clear hg hV hs hi
    go_enter Tryz.func166, Tryz.ntmps166
    go_wp2_with (go_at_call 165; refine (HC.out).mono ?_; rintro e w1 ⟨rfl, sv1, zv1, hg1, hf1⟩)
    have HG1 := Lib.hid hg1
    have HF1 := Lib.hid hf1
    have k6 : w1.cell? ⟨d 6, 0, none⟩ = some (.slice (some ⟨d 2, 0, none⟩) N.length N.length) := (Lib.cell_of_heap (hg1.fix 6) 0).trans rfl
    have kt : w1.cell? ⟨ab, 0, none⟩ = some (.int .i64 a) := by rw [World.cell?_of_block (w := w) (hf1.kept ab hab hblt has haz)]; exact hac
    have ka : w1.cell? ⟨d 2, a, none⟩ = some (.int .i64 (s1.low.getD a 0)) := int_row (hg1.fix 2) (by rw [hg1.ll]; exact ha)
    have kx : w1.cell? ⟨d 2, x, none⟩ = some (.int .i64 (s1.low.getD x 0)) := int_row (hg1.fix 2) (by rw [hg1.ll]; exact hx)
    have kf : ∀ o, w1.frozen? ⟨d 2, o, none⟩ = false := fun o => Lib.frozen_of_heap (hg1.fix 2) o
    have HSET := Lib.hid ((hg1.setLow a (min (s1.low.getD a 0) (s1.low.getD x 0))).drew)
    generalize s1.low.getD a 0 = y at ka HSET
    generalize s1.low.getD x 0 = z at kx HSET
    clear hg1 hf1
    go_region
    go_end0
    exact ⟨rfl, sv1, zv1, HSET.out, HF1.out.trans (Fr.of_grown (grown_drew (grown_set w1 (d 2) a _)) (fun k hk => by rw [← Option.some.inj hk]; exact HG1.out.hi 2))⟩
  · have hie : (s.index.getD x 0 == 0) = false := by simp only [beq_eq_false_iff_ne, ne_eq]; exact hi
    have c8 : w.cell? ⟨d 8, 0, none⟩ = some (.slice (some ⟨d 4, 0, none⟩) N.length N.length) := (Lib.cell_of_heap (hg.fix 8) 0).trans rfl
    have co : w.cell? ⟨d 4, x, none⟩ = some (.bool (s.on.getD x false)) := bool_row (hg.fix 4) (by rw [hg.lo2]; exact hx)
    unfold stepT at hs
    rw [if_neg hi] at hs
    cases ho : s.on.getD x false with
    | false =>
      rw [ho] at hs co
      obtain rfl : s = s' := Option.some.inj hs
      generalize s.index.getD x 0 = y at ci hie
      clear hg hV hs hi ho
      go_enter Tryz.func166, Tryz.ntmps166
      go_wp2
      go_end0
      exact ⟨rfl, sv, zv, HG.out, Fr.refl _ _ _ _⟩
    | true =>
      rw [ho] at hs co
      obtain rfl := Option.some.inj hs
      have k6 : w.cell? ⟨d 6, 0, none⟩ = some (.slice (some ⟨d 2, 0, none⟩) N.length N.length) := (Lib.cell_of_heap (hg.fix 6) 0).trans rfl
      have ka : w.cell? ⟨d 2, a, none⟩ = some (.int .i64 (s.low.getD a 0)) := int_row (hg.fix 2) (by rw [hg.ll]; exact ha)
      have kf : ∀ o, w.frozen? ⟨d 2, o, none⟩ = false := fun o => Lib.frozen_of_heap (hg.fix 2) o
      have HSET := Lib.hid ((hg.setLow a (min (s.low.getD a 0) (s.index.getD x 0))).drew)
      generalize s.low.getD a 0 = z at ka HSET
      generalize s.index.getD x 0 = y at ci hie HSET
      clear hg hV hs hi ho
      go_enter Tryz.func166, Tryz.ntmps166
      go_wp2
      go_region
      go_end0
      exact ⟨rfl, sv, zv, HSET.out, Fr.of_grown (grown_drew (grown_set w (d 2) a _)) (fun k hk => by rw [← Option.some.inj hk]; exact HG.out.hi 2)⟩
end Go.Proofs.YtcipjifpigpfdaaGreatDoor
/- Append to a row of the call's own, with word of where the new row lies. -/
namespace Go.Proofs.YtcipjifpigpfdaaGreatDoor
open Go.RowKit
/-- 'append(l, x..)', l a row of the call's own: the row behind it lies where l lay, or is new. -/
theorem wpList_append_new {P : Program} {ops : Array Oper} {rest : List Oper} {o : Oper} {a : Act} {Q : Exit → Act → World → Prop} (w : World) (hgd : o.guard = none) (s x : Operand) (t : TypeId)
    (ho : o.op = .call { callee := .builtin .append, args := #[s, x], argTypes := #[t, t] })
    (base : Nat) (e : TypeId) (i : TypeInfo) (z : Value) (size bytes : Nat) (ht : P.underlying t = some (.slice e)) (hi : P.info? e = some i) (hz : i.zero = some z)
    (hsize : i.size = size) (hby : i.bytes = bytes) (hzs : z.cells.size = size) (hsz : 0 < size)
    (v : Value) (n : Nat) (xs : List Value) (hs : a.eval s = v) (hown : w.ownsRow base e size v n xs)
    (ad : Addr) (m c : Nat) (news : List Value) (hx : a.eval x = .slice (some ad) m c) (hl : news.length = m * size) (hnews : ∀ j u, news[j]? = some u → w.cell? (ad.add j) = some u) (h1 : ∀ u ∈ news, u.oneCell' = true)
    (hm : 0 < m) (h63 : n + m ≤ maxLen) (hbytes : (n + m) * bytes ≤ 140737488355328) (hbase : base ≤ w.heap.size)
    (h : ∀ v' w', w'.ownsRow base e size v' (n + m) (xs ++ news) → w.grownBy w' v.ownBlock → (∀ k, v'.ownBlock = some k → v.ownBlock = some k ∨ w.heap.size ≤ k) → wpList P ops Q rest (a.put o.dst v') w') : wpList P ops Q (o :: rest) a w := by
  have hown0 := hown
  obtain ⟨hxs, hr | ⟨g, cap, cur, rfl, hb, hg, hnc, hcm, hcs, htake⟩⟩ := hown
  · obtain ⟨rfl, rfl⟩ := hr
    have hx0 : xs = [] := List.length_eq_zero_iff.1 (by simpa using hxs)
    subst hx0
    refine wpList_append_grows w hgd s x t ho e i z size bytes ht hi hz hsize hby hzs hsz none 0 0 [] hs (fun _ => ⟨rfl, rfl⟩) (by simp) (fun b hb => by cases hb) ad m c news hx hl hnews h1 (by omega) h63 hbytes ?_
    intro v' w' h2 h3
    exact h v' w' (h2.mono hbase) h3 (fun k hk => .inr (h2.lt k hk).1)
  · by_cases hf : n + m ≤ cap
    · refine wpList_append_fits w hgd s x t ho base e i size ht hi hsize g n cap xs hs hown0 ad m c news hx hl hnews h1 hf ?_
      intro w' h2 h3
      exact h _ w' h2 h3 (fun k hk => .inl hk)
    · refine wpList_append_grows w hgd s x t ho e i z size bytes ht hi hz hsize hby hzs hsz (some ⟨g, 0, none⟩) n cap xs hs (fun h => by cases h) hxs (fun b hb => by cases hb; exact hown0.cells rfl) ad m c news hx hl hnews h1 (by omega) h63 hbytes ?_
      intro v' w' h2 h3
      refine h v' w' (h2.mono hbase) ⟨h3.os, h3.tape, h3.output, h3.size, fun k hk _ => h3.block k hk (by simp)⟩ (fun k hk => .inr (h2.lt k hk).1)
end Go.Proofs.YtcipjifpigpfdaaGreatDoor
/- graph.components: plain laws for the walk of a visit. -/
namespace Go.Proofs.YtcipjifpigpfdaaGreatDoor
open Go.RowKit
open Go.Lib hiding intOf
theorem edgesT_cons {visit : Nat → TS → Option TS} {a : Nat} {x : Int} {l : List Int} {s s2 : TS} (h : edgesT visit a (x :: l) s = some s2) : ∃ s1, stepT visit a x.toNat s = some s1 ∧ edgesT visit a l s1 = some s2 := by
  unfold edgesT at h
  rw [List.foldlM_cons] at h
  cases hq : stepT visit a x.toNat s with
  | none => rw [hq] at h; cases h
  | some s1 => rw [hq] at h; exact ⟨s1, rfl, h⟩
theorem edgesT_drop {visit : Nat → TS → Option TS} {a j : Nat} {l : List Int} {s s2 : TS} (hj : j < l.length) (h : edgesT visit a (l.drop j) s = some s2) : ∃ s1, stepT visit a (l[j]).toNat s = some s1 ∧ edgesT visit a (l.drop (j + 1)) s1 = some s2 := by
  rw [List.drop_eq_getElem_cons hj] at h
  exact edgesT_cons h
theorem edgesT_end {visit : Nat → TS → Option TS} {a : Nat} {l : List Int} {s s2 : TS} (h : edgesT visit a (l.drop l.length) s = some s2) : s = s2 := by
  rw [List.drop_length] at h
  exact Option.some.inj h
theorem visitT_parts {N : List Nd} {f a : Nat} {s s' : TS} (h : visitT N (f + 1) a s = some s') : ∃ s2 s3, edgesT (visitT N f) a (N.getD a nd0).keys (enterT a s) = some s2 ∧ edgesT (visitT N f) a (N.getD a nd0).items s2 = some s3 ∧ leaveT a s3 = some s' := by
  unfold visitT at h
  cases hq : edgesT (visitT N f) a (N.getD a nd0).keys (enterT a s) with
  | none => rw [hq] at h; cases h
  | some s2 =>
    rw [hq] at h
    have h : (edgesT (visitT N f) a (N.getD a nd0).items s2).bind (leaveT a) = some s' := h
    cases hq2 : edgesT (visitT N f) a (N.getD a nd0).items s2 with
    | none => rw [hq2] at h; cases h
    | some s3 => rw [hq2] at h; exact ⟨s2, s3, rfl, hq2, h⟩
theorem own_shape {w : World} {base n size : Nat} {e : TypeId} {v : Value} {xs : List Value} (h : w.ownsRow base e size v n xs) : ∃ A c, v = .slice A n c := by
  rcases h.2 with ⟨rfl, rfl⟩ | ⟨g, cap, cur, rfl, -⟩
  · exact ⟨_, _, rfl⟩
  · exact ⟨_, _, rfl⟩
/-- a row that is not empty -/
theorem own_full {w : World} {base n size : Nat} {e : TypeId} {v : Value} {xs : List Value} (h : w.ownsRow base e size v n xs) (hn : 0 < n) : ∃ g c, v = .slice (some ⟨g, 0, none⟩) n c ∧ n ≤ c ∧ c ≤ maxLen := by
  rcases h.2 with ⟨rfl, rfl⟩ | ⟨g, cap, cur, rfl, -, -, hc, hm, -⟩
  · exact absurd hn (Nat.lt_irrefl 0)
  · exact ⟨_, _, rfl, hc, hm⟩
theorem own_cell {w : World} {base g n c : Nat} {e : TypeId} {xs : List Value} (h : w.ownsRow base e 1 (.slice (some ⟨g, 0, none⟩) n c) n xs) {k : Nat} {u : Value} (hu : xs[k]? = some u) : w.cell? ⟨g, k, none⟩ = some u := by
  rcases h.2 with ⟨he, -⟩ | ⟨g', cap, cur, he, hb, hg, hc, hm, hs, ht⟩
  · cases he
  · injection he with he1 he2 he3
    injection he1 with he1
    injection he1 with he1
    subst he1
    rw [Lib.cell_of_heap hg, ← hu, ← ht]
    have hk : k < n := by
      have := (List.getElem?_eq_some_iff.1 hu).1
      rw [h.1] at this; omega
    rw [List.getElem?_take_of_lt (by omega)]
    simp
theorem own_pop {w : World} {base g n c : Nat} {e : TypeId} {xs : List Value} (h : w.ownsRow base e 1 (.slice (some ⟨g, 0, none⟩) n c) n xs) : w.ownsRow base e 1 (.slice (some ⟨g, 0, none⟩) (n - 1) c) (n - 1) xs.dropLast := by
  refine ⟨by have := h.1; simp only [List.length_dropLast]; omega, ?_⟩
  rcases h.2 with ⟨he, -⟩ | ⟨g', cap, cur, he, hb, hg, hc, hm, hs, ht⟩
  · cases he
  · injection he with he1 he2 he3
    injection he1 with he1
    injection he1 with he1
    subst he1 he3
    refine .inr ⟨g, c, cur, rfl, hb, hg, by omega, hm, hs, ?_⟩
    have hl := h.1
    rw [List.dropLast_eq_take, ← ht, List.take_take]
    congr 1
    rw [ht]
    omega
theorem count_set0 {l : List Int} {a : Nat} {x : Int} (ha : a < l.length) (h : l.getD a 0 = 0) (hx : x ≠ 0) : (l.set a x).count 0 + 1 = l.count 0 := by
  rw [List.getD_eq_getElem?_getD, List.getElem?_eq_getElem ha] at h
  have h : l[a] = 0 := h
  have hp : 0 < l.count 0 := List.count_pos_iff.2 (by rw [← h]; exact List.getElem_mem ha)
  rw [List.count_set ha, h]
  simp [hx]
  omega
theorem popT_cases {a f : Nat} {s : TS} {size : Int} {r : TS × Int} (h : popT a (f + 1) s size = some r) : ∃ x, s.stack.getLast? = some x ∧ ((x = a ∧ r = (pop1 s x, wrap64 (size + 1))) ∨ (x ≠ a ∧ popT a f (pop1 s x) (wrap64 (size + 1)) = some r)) := by
  unfold popT at h
  cases hq : s.stack.getLast? with
  | none => rw [hq] at h; cases h
  | some x =>
    rw [hq] at h
    refine ⟨x, rfl, ?_⟩
    have h : (if x = (a : Int) then some (pop1 s x, wrap64 (size + 1)) else popT a f (pop1 s x) (wrap64 (size + 1))) = some r := h
    by_cases hx : x = a
    · rw [if_pos hx] at h
      exact .inl ⟨hx, (Option.some.inj h).symm⟩
    · rw [if_neg hx] at h
      exact .inr ⟨hx, h⟩
theorem popT_keeps {a : Nat} : ∀ (f : Nat) (s : TS) (size : Int) (r : TS × Int), popT a f s size = some r → r.1.next = s.next ∧ r.1.index = s.index ∧ r.1.sizes = s.sizes ∧ r.1.stack.length < s.stack.length := by
  intro f
  induction f with
  | zero => intro s size r h; cases h
  | succ f ih =>
    intro s size r h
    obtain ⟨x, hx, h⟩ := popT_cases h
    have hne : 0 < s.stack.length := by
      cases hs : s.stack with
      | nil => rw [hs] at hx; cases hx
      | cons y l => simp
    have hl : (pop1 s x).stack.length < s.stack.length := by
      show s.stack.dropLast.length < _
      rw [List.length_dropLast]; omega
    rcases h with ⟨-, rfl⟩ | ⟨-, h⟩
    · exact ⟨rfl, rfl, rfl, hl⟩
    · obtain ⟨h1, h2, h3, h4⟩ := ih _ _ _ h
      exact ⟨h1, h2, h3, Nat.lt_trans h4 hl⟩
theorem leaveT_cases {a : Nat} {s s' : TS} (h : leaveT a s = some s') : (s.low.getD a 0 ≠ s.index.getD a 0 ∧ s = s') ∨ (s.low.getD a 0 = s.index.getD a 0 ∧ ∃ r, popT a (s.stack.length + 1) s 0 = some r ∧ s' = { r.1 with sizes := r.1.sizes ++ [r.2] }) := by
  unfold leaveT at h
  by_cases hx : s.low.getD a 0 = s.index.getD a 0
  · rw [if_pos hx] at h
    refine .inr ⟨hx, ?_⟩
    cases hq : popT a (s.stack.length + 1) s 0 with
    | none => rw [hq] at h; cases h
    | some r => rw [hq] at h; exact ⟨r, rfl, (Option.some.inj h).symm⟩
  · rw [if_neg hx] at h
    exact .inl ⟨hx, Option.some.inj h⟩
theorem getLast_cell {L : List Int} {x : Int} (h : L.getLast? = some x) : (L.map (Value.int .i64))[L.length - 1]? = some (.int .i64 x) := by
  rw [List.getLast?_eq_getElem?] at h
  rw [List.getElem?_map, h]; rfl
/-- the box of the closure's capture -/
structure AtBox (k : Nat) (a : Int) (sv zv : Value) (w : World) : Prop where
  box : w.heap[k]? = some (.cells #[.int .i64 a] 3)
  far : sv.ownBlock ≠ some k
  zfar : zv.ownBlock ≠ some k
theorem AtBox.step {k base : Nat} {a : Int} {sv zv sv' zv' : Value} {w w' : World} (h : AtBox k a sv zv w) (hb : base ≤ k) (hf : Fr base sv zv sv' zv' w w') : AtBox k a sv' zv' w' := by
  have hk := (Array.getElem?_eq_some_iff.1 h.box).1
  refine ⟨by rw [hf.kept k hb hk h.far h.zfar]; exact h.box, fun e => ?_, fun e => ?_⟩
  · rcases hf.srow k e with e | e
    · exact h.far e
    · omega
  · rcases hf.zrow k e with e | e
    · exact h.zfar e
    · omega
section
variable {w0 : World} {v : Value} {root : Int} {N : List Nd} {d : Fin 13 → Nat} {base : Nat} {s : TS} {sv zv sv' zv' : Value} {w w' : World}
theorem enter_gw {a : Nat} (hg : GW w0 v root N d base s sv zv w) (ha : a < N.length) (hi : s.index.getD a 0 = 0) (hn : N.length ≤ 4096) (hx : GX w0 v root N d base (enterT a s) sv' zv' w') : GW w0 v root N d base (enterT a s) sv' zv' w' := by
  have hc := hg.cnt
  have hb := hg.bd
  have hp : 0 < s.index.count 0 := by
    rw [List.getD_eq_getElem?_getD, List.getElem?_eq_getElem (by rw [hg.li]; exact ha)] at hi
    exact List.count_pos_iff.2 (by rw [← show s.index[a]'(by rw [hg.li]; exact ha) = 0 from hi]; exact List.getElem_mem _)
  have hw : wrap64 (s.next + 1) = s.next + 1 := by unfold wrap64; omega
  have h1 := count_set0 (x := s.next + 1) (by rw [hg.li]; exact ha) hi (by omega)
  refine { toGX := hx, cnt := ?_, bd := ?_ }
  · show wrap64 (s.next + 1) + (s.index.set a (wrap64 (s.next + 1))).count 0 = _
    rw [hw]; omega
  · show (((s.stack ++ [(a : Int)]).length + s.sizes.length : Nat) : Int) ≤ wrap64 (s.next + 1)
    rw [hw]; simp only [List.length_append, List.length_cons, List.length_nil]; omega
theorem GX.drewN (h : GX w0 v root N d base s sv zv w) (n : Nat) : GX w0 v root N d base s sv zv (w.drewN n) := { h with below := below_drewN h.below n }
theorem GW.drewN (h : GW w0 v root N d base s sv zv w) (n : Nat) : GW w0 v root N d base s sv zv (w.drewN n) := { toGX := h.toGX.drewN n, cnt := h.cnt, bd := h.bd }
theorem Fr.drewN (h : Fr base sv zv sv' zv' w w') (n : Nat) : Fr base sv zv sv' zv' w (w'.drewN n) := ⟨h.size, h.kept, h.srow, h.zrow⟩
theorem AtBox.drewN {k : Nat} {a : Int} (h : AtBox k a sv zv w) (n : Nat) : AtBox k a sv zv (w.drewN n) := ⟨h.box, h.far, h.zfar⟩
theorem pop_fr {g n m c b i : Nat} {x : Value} (hb : b < base) : Fr base (.slice (some ⟨g, 0, none⟩) n c) zv (.slice (some ⟨g, 0, none⟩) m c) zv w (w.setCell ⟨b, i, none⟩ x) :=
  ⟨by simp [World.setCell], fun k hb' _ _ _ => set_far _ (by omega), fun _ h => .inl h, fun _ h => .inl h⟩
theorem set_fr {b i : Nat} {x : Value} (hb : b < base) : Fr base sv zv sv zv w (w.setCell ⟨b, i, none⟩ x) := Fr.of_grown (grown_set w b i x) (fun k hk => by rw [← Option.some.inj hk]; exact hb)
theorem GX.pop {g n c : Nat} (h : GX w0 v root N d base s (.slice (some ⟨g, 0, none⟩) n c) zv w) (hn : n = s.stack.length) : GX w0 v root N d base { s with stack := s.stack.dropLast } (.slice (some ⟨g, 0, none⟩) (n - 1) c) zv (w.setCell ⟨d 12, 0, none⟩ (.slice (some ⟨g, 0, none⟩) (n - 1) c)) := by
  subst hn
  refine h.setStack _ _ w ⟨rfl, rfl, rfl, Nat.le_refl _, fun _ _ _ => rfl⟩ ?_ (fun k hk => .inl hk) (fun x hx => h.stk x (List.dropLast_subset _ hx))
  have := own_pop h.sown
  rw [List.map_dropLast, List.length_dropLast]
  exact this
end
end Go.Proofs.YtcipjifpigpfdaaGreatDoor
/- share.key on a scalar, and share.merge of a row of at most one number. -/
namespace Go.Proofs.YtcipjifpigpfdaaGreatDoor
open Go.RowKit
open Go.Lib hiding intOf
theorem info_nodeS : (Tryz.prog.info? 25).map (fun i => (i.zero, i.size, i.bytes)) = some (some (.agg #[.int .i64 0, .string ⟨#[]⟩, .bool false, .slice none 0 0, .slice none 0 0]), 5, 80) := by kernel_rfl
theorem node_cellsS : (Value.agg #[.int .i64 0, .string ⟨#[]⟩, .bool false, .slice none 0 0, .slice none 0 0]).cells.size = 5 := by kernel_rfl
set_option maxHeartbeats 4000000 in
set_option maxRecDepth 100000 in
theorem merge_small (w : World) (a : Option Addr) (n c : Nat) (lf : Value) (hn : n < 2) :
    Calls Tryz.prog 224 #[.slice a n c, lf] w fun e w' => e = .returned (.tuple #[]) ∧ w' = w := by
  have hn2 : (n : Int) < 2 := by omega
  go_enter Tryz.func224, Tryz.ntmps224
  go_wp2
  refine bodyPost_ret (results_none rfl _ _ _) rfl ?_
  exact ⟨rfl, rfl⟩
/-- several blocks laid one behind the other -/
def allocs (w : World) : List Obj → World
  | [] => w
  | o :: os => allocs (w.alloc o) os
theorem allocs_at : ∀ (os : List Obj) (w : World), Below w.heap.size w (allocs w os) ∧ (allocs w os).heap.size = w.heap.size + os.length ∧ ∀ (i : Nat) (o : Obj), os[i]? = some o → (allocs w os).heap[w.heap.size + i]? = some o := by
  intro os
  induction os with
  | nil => intro w; exact ⟨Below.refl _ w, rfl, fun i o h => by simp at h⟩
  | cons x os ih =>
    intro w
    obtain ⟨h1, h2, h3⟩ := ih (w.alloc x)
    rw [size_new] at h1 h2 h3
    have hb := below_new w x
    refine ⟨hb.trans (h1.mono (by omega)), by rw [show allocs w (x :: os) = allocs (w.alloc x) os from rfl, h2, List.length_cons]; omega, fun i o h => ?_⟩
    cases i with
    | zero =>
      cases Option.some.inj (show some x = some o from h)
      show (allocs (w.alloc x) os).heap[w.heap.size + 0]? = _
      rw [h1.block _ (by omega)]
      exact heap_alloc_new w x
    | succ i =>
      have := h3 i o h
      rw [show w.heap.size + (i + 1) = w.heap.size + 1 + i by omega]
      exact this
/-- the own row behind a slice -/
theorem own_at {w : World} {base n size : Nat} {e : TypeId} {v : Value} {xs : List Value} (h : w.ownsRow base e size v n xs) (hn : 0 < n) : ∃ (g c : Nat) (cur : Array Value), v = .slice (some ⟨g, 0, none⟩) n c ∧ base ≤ g ∧ w.heap[g]? = some (.cells cur e) ∧ ∀ (k : Nat) (u : Value), xs[k]? = some u → cur[k]? = some u := by
  rcases h.2 with ⟨rfl, rfl⟩ | ⟨g, cap, cur, rfl, hb, hg, hc, hm, hs, ht⟩
  · exact absurd hn (Nat.lt_irrefl 0)
  · refine ⟨g, cap, cur, rfl, hb, hg, fun k u hu => ?_⟩
    rw [← ht] at hu
    have := (List.getElem?_eq_some_iff.1 hu).1
    rw [List.getElem?_take_of_lt (by simp at this; omega)] at hu
    simpa using hu
set_option maxHeartbeats 4000000 in
set_option maxRecDepth 100000 in
theorem copy_scalar (w : World) (b1 b2 b3 : Nat) (v : Value) (root : Int) (N : List Nd) (at_ : Nat) (n : Nd) (hN : NodesAt w v N) (hn : N[at_]? = some n) (hk : n.keys = []) (hi : n.items = [])
    (h1 : w.heap[b1]? = some (.cells #[.slice none 0 0, .int .i64 0] 28)) (h2 : w.heap[b2]? = some (.cells #[v, .int .i64 root] 28)) :
    Calls Tryz.prog 271 #[.int .i64 at_, .pointer (some ⟨b1, 0, none⟩), .pointer (some ⟨b2, 0, none⟩), .pointer (some ⟨b3, 0, none⟩)] w fun e w' => e = .returned (.int .i64 0) ∧ Below b1 w w' ∧ ∃ a c, w'.heap[b1]? = some (.cells #[.slice a 1 c, .int .i64 0] 28) := by
  have hlt := (List.getElem?_eq_some_iff.1 hn).1
  obtain ⟨va, vc, rfl, hvl, hvn⟩ := hN
  rcases hvn with hnil | ⟨b, o, rfl, hall⟩
  · exfalso; rw [hnil] at hlt; exact Nat.not_lt_zero _ hlt
  obtain ⟨kv, iv, m0, m1, m2, m3, m4, ⟨ka, kc, rfl, -, -⟩, ⟨ia, ic, rfl, -, -⟩⟩ := hall at_ n hn
  rw [hk] at m3
  rw [hi] at m4
  simp only [List.length_nil] at m3 m4
  have hai : (at_ : Int) < (N.length : Int) := by omega
  have c10 : w.cell? ⟨b1, 0, none⟩ = some (.slice none 0 0) := (Lib.cell_of_heap h1 0).trans rfl
  have c20 : w.cell? ⟨b2, 0, none⟩ = some (.slice (some ⟨b, o, none⟩) N.length vc) := (Lib.cell_of_heap h2 0).trans rfl
  have H1 := PLift.up h1
  obtain ⟨kd, hkd⟩ : ∃ kd, n.kind = kd := ⟨_, rfl⟩
  obtain ⟨tx, htx⟩ : ∃ tx, n.text = tx := ⟨_, rfl⟩
  obtain ⟨od, hod⟩ : ∃ od, n.ord = od := ⟨_, rfl⟩
  rw [hkd] at m0
  rw [htx] at m1
  rw [hod] at m2
  clear hall hn hk hi h1 h2 hlt hkd htx hod
  go_enter Tryz.func271, Tryz.ntmps271
  go_upto_region 3 with fail
  have e1 := heap_alloc_new w (.cells #[.int .i64 kd, .string tx, .bool od, .slice ka 0 kc, .slice ia 0 ic] 25)
  have hb1 := below_new w (.cells #[.int .i64 kd, .string tx, .bool od, .slice ka 0 kc, .slice ia 0 ic] 25)
  have s1 := size_new w (.cells #[.int .i64 kd, .string tx, .bool od, .slice ka 0 kc, .slice ia 0 ic] 25)
  have hbl : b1 < w.heap.size := (Array.getElem?_eq_some_iff.1 H1.down).1
  have h1 : (w.alloc (.cells #[.int .i64 kd, .string tx, .bool od, .slice ka 0 kc, .slice ia 0 ic] 25)).heap[b1]? = some (.cells #[.slice none 0 0, .int .i64 0] 28) := by rw [Lib.alloc_old _ _ _ hbl]; exact H1.down
  generalize w.alloc (.cells #[.int .i64 kd, .string tx, .bool od, .slice ka 0 kc, .slice ia 0 ic] 25) = W1 at e1 hb1 s1 h1 ⊢
  have H1 := PLift.up h1
  have HB1 := PLift.up hb1
  have E1 := PLift.up e1
  have S1 := PLift.up s1
  have HBL := PLift.up hbl
  clear m0 m1 m2 m3 m4 c10 c20 hai
  have c10 : W1.cell? ⟨b1, 0, none⟩ = some (.slice none 0 0) := (Lib.cell_of_heap h1 0).trans rfl
  have f10 : ∀ k, W1.frozen? ⟨b1, k, none⟩ = false := fun k => Lib.frozen_of_heap h1 k
  have n0 : W1.cell? ⟨w.heap.size, 0, none⟩ = some (.int .i64 kd) := (Lib.cell_of_heap e1 0).trans rfl
  have n1 : W1.cell? ⟨w.heap.size, 1, none⟩ = some (.string tx) := (Lib.cell_of_heap e1 1).trans rfl
  have n2 : W1.cell? ⟨w.heap.size, 2, none⟩ = some (.bool od) := (Lib.cell_of_heap e1 2).trans rfl
  clear h1 e1 hb1 s1 hbl
  obtain ⟨i0, hi0, hz0, hz1, hz2⟩ := info_parts info_nodeS
  have HI0 := PLift.up (And.intro hi0 (And.intro hz0 (And.intro hz1 hz2)))
  clear hi0 hz0 hz1 hz2
  have HNW := PLift.up (Lib.cell_of_heap (heap_alloc_new W1 (.cells #[.int .i64 kd, .string tx, .bool od, .slice none 0 0, .slice none 0 0] 25)))
  go_wp2_with (at_builtin; refine wpList_append_new _ rfl _ _ 26 rfl W1.heap.size 25 i0 (.agg #[.int .i64 0, .string ⟨#[]⟩, .bool false, .slice none 0 0, .slice none 0 0]) 5 80 Tryz.underlying26 HI0.down.1 HI0.down.2.1 HI0.down.2.2.1 HI0.down.2.2.2 node_cellsS (by decide) (.slice none 0 0) 0 [] rfl (World.ownsRow_nil _ _ _ _) ⟨W1.heap.size, 0, none⟩ 1 1 [.int .i64 kd, .string tx, .bool od, .slice none 0 0, .slice none 0 0] rfl rfl (by
    intro j u hj
    have h2 : (⟨W1.heap.size, 0, none⟩ : Addr).add j = ⟨W1.heap.size, j, none⟩ := by unfold Addr.add; split <;> simp_all
    rw [h2, HNW.down j, ← hj]; simp) (by simp [Value.oneCell']) (by decide) (by unfold maxLen; omega) (by omega) (by rw [size_new]; omega) ?_)
  rintro v' w4 hown4 hg4 -
  as_aux_lemma =>
  have hown4 : w4.ownsRow W1.heap.size 25 5 v' 1 [.int .i64 kd, .string tx, .bool od, .slice none 0 0, .slice none 0 0] := hown4
  obtain ⟨g, cap, cur, rfl, hgb, hgh, hcur⟩ := own_at hown4 (by decide)
  have hw4 : w4.heap[b1]? = some (.cells #[.slice none 0 0, .int .i64 0] 28) := by
    have := HB1.down.size
    have := HBL.down
    rw [hg4.block _ (by rw [size_new]; omega) (fun e => by cases e), Lib.alloc_old _ _ _ (by omega)]; exact H1.down
  have hb4 : Below W1.heap.size W1 w4 := (below_new W1 _).grown hg4 (by rw [size_new]; omega) (fun k hk => by cases hk)
  have hgne : g ≠ b1 := by have := HB1.down.size; have := HBL.down; omega
  have G4 := PLift.up (And.intro hgh (And.intro hcur (And.intro hw4 (And.intro hb4 hgne))))
  have c10 : w4.cell? ⟨b1, 0, none⟩ = some (.slice none 0 0) := (Lib.cell_of_heap hw4 0).trans rfl
  have f10 : ∀ k, w4.frozen? ⟨b1, k, none⟩ = false := fun k => Lib.frozen_of_heap hw4 k
  have k3 := cell_keep (hb4.mono (by omega : W1.heap.size ≤ W1.heap.size)) ((Lib.cell_of_heap E1.down 3).trans rfl : W1.cell? ⟨w.heap.size, 3, none⟩ = some (.slice ka 0 kc))
  have k4 := cell_keep (hb4.mono (by omega : W1.heap.size ≤ W1.heap.size)) ((Lib.cell_of_heap E1.down 4).trans rfl : W1.cell? ⟨w.heap.size, 4, none⟩ = some (.slice ia 0 ic))
  clear hown4 hg4 hgh hcur hw4 hb4 HNW HI0
  go_wp2
  refine wp_loop_rounds 1 ?_
  rw [rounds_succ]
  go_wp2
  refine wp_loop_rounds 1 ?_
  rw [rounds_succ]
  go_upto_region 15 with fail
  have h5 : (w4.setCell ⟨b1, 0, none⟩ (.slice (some ⟨g, 0, none⟩) 1 cap)).heap[b1]? = some (.cells #[.slice (some ⟨g, 0, none⟩) 1 cap, .int .i64 0] 28) := by simp [World.setCell, Array.getElem?_modify, G4.down.2.2.1]
  have h6 : (w4.setCell ⟨b1, 0, none⟩ (.slice (some ⟨g, 0, none⟩) 1 cap)).heap[g]? = some (.cells cur 25) := by rw [set_far _ G4.down.2.2.2.2]; exact G4.down.1
  have hb5 : Below b1 w (w4.setCell ⟨b1, 0, none⟩ (.slice (some ⟨g, 0, none⟩) 1 cap)) := by
    have hbl := HBL.down
    have hbs := HB1.down.size
    exact ((HB1.down.mono (Nat.le_of_lt hbl)).trans (G4.down.2.2.2.1.mono (by omega))).setCell (p := ⟨b1, 0, none⟩) (Nat.le_refl _) _
  generalize w4.setCell ⟨b1, 0, none⟩ (.slice (some ⟨g, 0, none⟩) 1 cap) = W5 at h5 h6 hb5 ⊢
  have HH := PLift.up (And.intro h5 (And.intro h6 hb5))
  have HC := PLift.up G4.down.2.1
  have HNE := PLift.up G4.down.2.2.2.2
  have HGB : PLift (b1 ≤ g) := ⟨by have := HB1.down.size; have := HBL.down; omega⟩
  clear c10 f10 k3 k4 G4 HB1 HBL E1 S1 H1
  have c10 : W5.cell? ⟨b1, 0, none⟩ = some (.slice (some ⟨g, 0, none⟩) 1 cap) := (Lib.cell_of_heap h5 0).trans rfl
  have g3 : W5.cell? ⟨g, 3, none⟩ = some (.slice none 0 0) := (Lib.cell_of_heap h6 3).trans (HC.down 3 _ rfl)
  have g4 : W5.cell? ⟨g, 4, none⟩ = some (.slice none 0 0) := (Lib.cell_of_heap h6 4).trans (HC.down 4 _ rfl)
  have fg : ∀ k, W5.frozen? ⟨g, k, none⟩ = false := fun k => Lib.frozen_of_heap h6 k
  have hne : b1 ≠ g := fun e => HNE.down e.symm
  clear h5 h6 hb5
  go_wp2
  go_region
  go_wp2
  go_ret
  have hn3 : ∀ k u, ((W5.setCell ⟨g, k, none⟩ u)).heap[b1]? = W5.heap[b1]? := fun k u => set_far _ hne
  refine ⟨rfl, ?_, some ⟨g, 0, none⟩, cap, ?_⟩
  · exact (((HH.down.2.2.setCell (p := ⟨g, 3, none⟩) HGB.down _).setCell (p := ⟨g, 4, none⟩) HGB.down _)).drew
  · show ((W5.setCell _ _).setCell _ _).heap[b1]? = _
    rw [set_far _ hne, set_far _ hne]; exact HH.down.1
end Go.Proofs.YtcipjifpigpfdaaGreatDoor
/- share.key of a scalar. -/
namespace Go.Proofs.YtcipjifpigpfdaaGreatDoor
open Go.RowKit
open Go.Lib hiding intOf
set_option maxHeartbeats 4000000 in
set_option maxRecDepth 100000 in
theorem key_scalar (w : World) (v : Value) (root : Int) (N : List Nd) (at_ : Nat) (n : Nd) (hN : NodesAt w v N) (hn : N[at_]? = some n) (hk : n.keys = []) (hi : n.items = []) :
    Calls Tryz.prog 223 #[.agg #[v, .int .i64 root], .int .i64 at_] w fun e w' => (∃ a c, e = .returned (.agg #[.slice a 1 c, .int .i64 0])) ∧ Below w.heap.size w w' := by
  have HC : PLift (∀ W, Below w.heap.size w W → W.heap[w.heap.size]? = some (.cells #[v, .int .i64 root] 28) → W.heap[w.heap.size + 2]? = some (.cells #[.slice none 0 0, .int .i64 0] 28) →
      Calls Tryz.prog 271 #[.int .i64 at_, .pointer (some ⟨w.heap.size + 2, 0, none⟩), .pointer (some ⟨w.heap.size, 0, none⟩), .pointer (some ⟨w.heap.size + 3, 0, none⟩)] W fun e w' => e = .returned (.int .i64 0) ∧ Below (w.heap.size + 2) W w' ∧ ∃ a c, w'.heap[w.heap.size + 2]? = some (.cells #[.slice a 1 c, .int .i64 0] 28)) :=
    ⟨fun W hb h0 h2 => copy_scalar W _ _ _ v root N at_ n (hN.below hb) hn hk hi h2 h0⟩
  clear hN hn hk hi
  go_enter Tryz.func223, Tryz.ntmps223
  go_upto_region 4 with fail
  have HA := allocs_at [.cells #[v, .int .i64 root] 28, .cells #[.slice none 0 0, .int .i64 0] 28, .cells #[.slice none 0 0, .int .i64 0] 28, .cells #[.func (.func 271) #[] #[.pointer (some ⟨w.heap.size + 1 + 1, 0, none⟩), .pointer (some ⟨w.heap.size, 0, none⟩), .pointer (some ⟨w.heap.size + 1 + 1 + 1, 0, none⟩)]] 124] w
  unfold allocs allocs allocs allocs allocs at HA
  generalize (((w.alloc (.cells #[v, .int .i64 root] 28)).alloc (.cells #[.slice none 0 0, .int .i64 0] 28)).alloc (.cells #[.slice none 0 0, .int .i64 0] 28)).alloc (.cells #[.func (.func 271) #[] #[.pointer (some ⟨w.heap.size + 1 + 1, 0, none⟩), .pointer (some ⟨w.heap.size, 0, none⟩), .pointer (some ⟨w.heap.size + 1 + 1 + 1, 0, none⟩)]] 124) = W1 at HA ⊢
  obtain ⟨hb1, hs1, hat⟩ := HA
  have c3 : W1.cell? ⟨w.heap.size + 1 + 1 + 1, 0, none⟩ = some (.func (.func 271) #[] #[.pointer (some ⟨w.heap.size + 1 + 1, 0, none⟩), .pointer (some ⟨w.heap.size, 0, none⟩), .pointer (some ⟨w.heap.size + 1 + 1 + 1, 0, none⟩)]) := (Lib.cell_of_heap (hat 3 _ rfl) 0).trans rfl
  have HK := PLift.up (HC.down W1 hb1 (hat 0 _ rfl) (hat 2 _ rfl))
  have H1 := PLift.up (hat 1 _ rfl)
  have HB := PLift.up hb1
  clear hat HC hb1 hs1
  go_wp2_with (go_at_call 271; refine HK.down.mono ?_; rintro e w2 ⟨rfl, hb2, a, c, h2⟩; have H2 := PLift.up (And.intro hb2 h2); have d0 : w2.cell? ⟨w.heap.size + 1 + 1, 0, none⟩ = some (.slice a 1 c) := (Lib.cell_of_heap h2 0).trans rfl; have d1 : w2.cell? ⟨w.heap.size + 1 + 1, 1, none⟩ = some (.int .i64 0) := (Lib.cell_of_heap h2 1).trans rfl; have h1 : w2.heap[w.heap.size + 1]? = some (.cells #[.slice none 0 0, .int .i64 0] 28) := (by rw [hb2.block _ (by omega)]; exact H1.down); have k0 : w2.cell? ⟨w.heap.size + 1, 0, none⟩ = some (.slice none 0 0) := (Lib.cell_of_heap h1 0).trans rfl; have k1 : w2.cell? ⟨w.heap.size + 1, 1, none⟩ = some (.int .i64 0) := (Lib.cell_of_heap h1 1).trans rfl; have kf : ∀ k, w2.frozen? ⟨w.heap.size + 1, k, none⟩ = false := fun k => Lib.frozen_of_heap h1 k; have HH1 := PLift.up h1; clear h1 hb2 h2)
  have h3 : ((w2.setCell ⟨w.heap.size + 1, 0, none⟩ (.slice a 1 c)).setCell ⟨w.heap.size + 1, 1, none⟩ (.int .i64 0)).heap[w.heap.size + 1]? = some (.cells #[.slice a 1 c, .int .i64 0] 28) := by simp [World.setCell, Array.getElem?_modify, HH1.down]
  have hb3 : Below w.heap.size w ((w2.setCell ⟨w.heap.size + 1, 0, none⟩ (.slice a 1 c)).setCell ⟨w.heap.size + 1, 1, none⟩ (.int .i64 0)) :=
    ((HB.down.trans (H2.down.1.mono (by omega))).setCell (p := ⟨w.heap.size + 1, 0, none⟩) (by show w.heap.size ≤ w.heap.size + 1; omega) _).setCell (p := ⟨w.heap.size + 1, 1, none⟩) (by show w.heap.size ≤ w.heap.size + 1; omega) _
  generalize (w2.setCell ⟨w.heap.size + 1, 0, none⟩ (.slice a 1 c)).setCell ⟨w.heap.size + 1, 1, none⟩ (.int .i64 0) = w3 at h3 hb3 ⊢
  have x0 : w3.cell? ⟨w.heap.size + 1, 0, none⟩ = some (.slice a 1 c) := (Lib.cell_of_heap h3 0).trans rfl
  have x1 : w3.cell? ⟨w.heap.size + 1, 1, none⟩ = some (.int .i64 0) := (Lib.cell_of_heap h3 1).trans rfl
  clear d0 d1 k0 k1 kf c3
  refine bodyPost_ret (v := .agg #[.slice a 1 c, .int .i64 0]) (by simp only [results, Tryz.results223]; go_simp) rfl ⟨⟨a, c, rfl⟩, hb3⟩
end Go.Proofs.YtcipjifpigpfdaaGreatDoor
/- share.sorted where a map has at most one entry, whose key is a scalar. -/
namespace Go.Proofs.YtcipjifpigpfdaaGreatDoor
open Go.RowKit
open Go.Lib hiding intOf
theorem info_graph0 : (Tryz.prog.info? 28).map (fun i => (i.zero, i.size, i.bytes)) = some (some (.agg #[.slice none 0 0, .int .i64 0]), 2, 32) := by kernel_rfl
/-- the row 0, 1, .., m - 1 as far as k is done -/
def idRow (m k : Nat) : List Value := (List.range m).map fun i => Value.int .i64 (if i < k then i else 0)
theorem idRow_len (m k : Nat) : (idRow m k).length = m := by simp [idRow]
theorem idRow_zero (m : Nat) : idRow m 0 = List.replicate m (.int .i64 0) := by
  apply List.ext_getElem
  · simp [idRow]
  · intro i h1 h2; simp [idRow]
theorem idRow_succ (m k : Nat) (_ : k < m) : (idRow m k).set k (.int .i64 k) = idRow m (k + 1) := by
  apply List.ext_getElem
  · simp [idRow]
  · intro i h1 h2
    simp only [idRow, List.getElem_set, List.getElem_map, List.getElem_range]
    by_cases e : k = i
    · subst e; simp
    · rw [if_neg e]
      by_cases h3 : i < k
      · rw [if_pos h3, if_pos (by omega)]
      · rw [if_neg h3, if_neg (by omega)]
theorem idRow_get {m k : Nat} (h : k < m) : (idRow m m)[k]? = some (.int .i64 k) := by
  simp [idRow, h]
theorem graphs1 (wx : World) : (Instr.makeSlice 273 (.int .i64 1) (.int .i64 1)).run Tryz.prog wx = .ok (.slice (some ⟨wx.heap.size, 0, none⟩) 1 1) (wx.alloc (.cells #[.slice none 0 0, .int .i64 0] 28)) := by
  obtain ⟨i, hi, hz, hs, hb⟩ := info_parts info_graph0
  have h := run_make (P := Tryz.prog) wx 273 28 i _ Tryz.underlying273 hi hz .i64 .i64 1 1 (by decide) (by decide) (by rw [hb]; decide) (by decide)
  rw [hs] at h
  have e : madeCells (Value.agg #[.slice none 0 0, .int .i64 0]).cells (Int.toNat 1 * 2) = #[.slice none 0 0, .int .i64 0] := by kernel_rfl
  rw [e] at h
  exact h
/-- sorted's world: the graph's box, the node's box, the row of numbers -/
structure SW (w : World) (bx nd : Array Value) (m k : Nat) (wr : World) : Prop where
  below : Below w.heap.size w wr
  box : wr.heap[w.heap.size]? = some (.cells bx 28)
  node : wr.heap[w.heap.size + 1]? = some (.cells nd 25)
  row : wr.heap[w.heap.size + 2]? = some (.cells (idRow m k).toArray 3)
theorem SW.start (w : World) (bx nd : Array Value) (m : Nat) : SW w bx nd m 0 (((w.alloc (.cells bx 28)).alloc (.cells nd 25)).alloc (.cells (Array.replicate m (.int .i64 0)) 3)) := by
  obtain ⟨h1, h2, h3⟩ := allocs_at [.cells bx 28, .cells nd 25, .cells (Array.replicate m (.int .i64 0)) 3] w
  refine ⟨h1, h3 0 _ rfl, h3 1 _ rfl, ?_⟩
  rw [idRow_zero]
  refine (h3 2 _ rfl).trans ?_
  simp
theorem SW.set {w : World} {bx nd : Array Value} {m k : Nat} {wr : World} (h : SW w bx nd m k wr) (hk : k < m) : SW w bx nd m (k + 1) (wr.setCell ⟨w.heap.size + 2, k, none⟩ (.int .i64 k)) := by
  refine ⟨h.below.setCell (p := ⟨w.heap.size + 2, k, none⟩) (by show w.heap.size ≤ w.heap.size + 2; omega) _, ?_, ?_, ?_⟩
  · rw [set_far _ (by omega)]; exact h.box
  · rw [set_far _ (by omega)]; exact h.node
  · rw [← idRow_succ m k hk]
    simp [World.setCell, Array.getElem?_modify, h.row]
set_option maxHeartbeats 4000000 in
set_option maxRecDepth 100000 in
theorem sorted_small (w : World) (v : Value) (root : Int) (N : List Nd) (at_ : Nat) (n : Nd) (hN : NodesAt w v N) (hn : N[at_]? = some n) (hI : n.items.length ≤ 1000000)
    (hK : n.kind ≠ 10 ∨ (n.kind = 10 ∧ n.ord = false ∧ n.items.length < 2 ∧ ∃ (k : Nat) (kn : Nd), n.keys = [(k : Int)] ∧ N[k]? = some kn ∧ kn.keys = [] ∧ kn.items = [])) :
    Calls Tryz.prog 168 #[.agg #[v, .int .i64 root], .int .i64 at_] w fun e w' => ∃ g, e = .returned (.slice (some ⟨g, 0, none⟩) n.items.length n.items.length) ∧ w.heap.size ≤ g ∧ Below w.heap.size w w' ∧ w'.heap[g]? = some (.cells (idRow n.items.length n.items.length).toArray 3) := by
  have HN := PLift.up hN
  have HN1 := PLift.up hn
  have hlt := (List.getElem?_eq_some_iff.1 hn).1
  obtain ⟨va, vc, rfl, hvl, hvn⟩ := hN
  rcases hvn with hnil | ⟨b, o, rfl, hall⟩
  · exfalso; rw [hnil] at hlt; exact Nat.not_lt_zero _ hlt
  obtain ⟨kv, iv, m0, m1, m2, m3, m4, ⟨ka, kc, rfl, hkl, hkc⟩, ⟨ia, ic, rfl, -, -⟩⟩ := hall at_ n hn
  have HKC := PLift.up hkc
  have HKK := PLift.up hK
  have hai : (at_ : Int) < (N.length : Int) := by omega
  obtain ⟨kd, hkd⟩ : ∃ kd, n.kind = kd := ⟨_, rfl⟩
  obtain ⟨tx, htx⟩ : ∃ tx, n.text = tx := ⟨_, rfl⟩
  obtain ⟨od, hod⟩ : ∃ od, n.ord = od := ⟨_, rfl⟩
  obtain ⟨M, hM⟩ : ∃ M, n.items.length = M := ⟨_, rfl⟩
  rw [hkd] at m0
  rw [htx] at m1
  rw [hod] at m2
  rw [hM] at m4 hI ⊢
  have HE := PLift.up (And.intro hkd (And.intro hod hM))
  clear hall hn hK hlt hkd htx hod hM hkc hvl
  have p0 := fun ob => cell_keep (below_new w ob) m0
  have p1 := fun ob => cell_keep (below_new w ob) m1
  have p2 := fun ob => cell_keep (below_new w ob) m2
  have p3 := fun ob => cell_keep (below_new w ob) m3
  have p4 := fun ob => cell_keep (below_new w ob) m4
  clear m0 m1 m2 m3 m4
  go_enter Tryz.func168, Tryz.ntmps168
  have HS1 : PLift (((w.alloc (.cells #[.slice (some ⟨b, o, none⟩) N.length vc, .int .i64 root] 28)).alloc (.cells #[.int .i64 kd, .string tx, .bool od, .slice ka n.keys.length kc, .slice ia M ic] 25)).heap.size = w.heap.size + 2) := ⟨by rw [size_new, size_new]⟩
  go_upto_region 2 with fail
  have q4 : ((w.alloc (.cells #[.slice (some ⟨b, o, none⟩) N.length vc, .int .i64 root] 28)).alloc (.cells #[.int .i64 kd, .string tx, .bool od, .slice ka n.keys.length kc, .slice ia M ic] 25)).cell? ⟨w.heap.size + 1, 4, none⟩ = some (.slice ia M ic) := by
    have h := heap_alloc_new (w.alloc (.cells #[.slice (some ⟨b, o, none⟩) N.length vc, .int .i64 root] 28)) (.cells #[.int .i64 kd, .string tx, .bool od, .slice ka n.keys.length kc, .slice ia M ic] 25)
    rw [size_new] at h
    exact (Lib.cell_of_heap h 4).trans rfl
  clear p0 p1 p2 p3 p4
  go_wp2_with (refine make_letter Tryz.underlying23 info_int0 rfl _ rfl _ _ rfl M (w.heap.size + 2) rfl rfl (by omega) (by omega) HS1.down ?_)
  intro W hW
  have H0 : PLift (SW w #[.slice (some ⟨b, o, none⟩) N.length vc, .int .i64 root] #[.int .i64 kd, .string tx, .bool od, .slice ka n.keys.length kc, .slice ia M ic] M 0 W) := ⟨by rw [hW.out]; exact SW.start w _ _ M⟩
  clear q4 hW HS1
  go_wp2
  go_loopw [22] (fun iv wr => ∃ k : Nat, iv = .int .i64 k ∧ k ≤ M ∧ SW w #[.slice (some ⟨b, o, none⟩) N.length vc, .int .i64 root] #[.int .i64 kd, .string tx, .bool od, .slice ka n.keys.length kc, .slice ia M ic] M k wr) (fun iv _ => M - (intOf iv).toNat)
  case atStart => exact ⟨0, rfl, Nat.zero_le _, H0.down⟩
  case round =>
    obtain ⟨k, rfl, hk, hsw⟩ := hrel
    have HSW := PLift.up hsw
    by_cases hlt : k < M
    · have hlt2 : (k : Int) < (M : Int) := by omega
      have ck : wr.cell? ⟨w.heap.size + 2, k, none⟩ = some (.int .i64 0) := by rw [Lib.cell_of_heap hsw.row]; simp [idRow, hlt]
      have cf : wr.frozen? ⟨w.heap.size + 2, k, none⟩ = false := Lib.frozen_of_heap hsw.row k
      clear hsw
      go_wp2
      go_roundw
      case rel => exact ⟨k + 1, by go_num, by omega, HSW.down.set hlt⟩
      case measure => simp [intOf]; omega
    · obtain rfl : k = M := by omega
      have d0 : wr.cell? ⟨w.heap.size + 1, 0, none⟩ = some (.int .i64 kd) := (Lib.cell_of_heap hsw.node 0).trans rfl
      have d2 : wr.cell? ⟨w.heap.size + 1, 2, none⟩ = some (.bool od) := (Lib.cell_of_heap hsw.node 2).trans rfl
      have d3 : wr.cell? ⟨w.heap.size + 1, 3, none⟩ = some (.slice ka n.keys.length kc) := (Lib.cell_of_heap hsw.node 3).trans rfl
      clear hsw
      by_cases hkd : kd = 10
      · subst hkd
        rcases HKK.down with hk10 | ⟨-, hod, hM2, kk, kn, hkeys, hkn, hkk, hki⟩
        · exact absurd HE.down.1 hk10
        obtain rfl : od = false := HE.down.2.1.symm.trans hod
        have hkeyl : n.keys.length = 1 := by rw [hkeys]; rfl
        rw [hkeyl] at d3
        rcases HKC.down with hnil | ⟨lb, lo, rfl, hcells⟩
        · rw [hnil] at hkeys; cases hkeys
        have hx := hcells 0 kk (by rw [hkeys]; rfl)
        have hx := cell_keep HSW.down.below hx
        have HKEY := PLift.up (fun (W : World) (hb : Below w.heap.size w W) => (key_scalar W _ root N kk kn (HN.down.below hb) hkn hkk hki).mono (fun e w' (h : _ ∧ Below W.heap.size W w') => (And.intro h.1 (And.intro h.2 (hb.trans (h.2.mono hb.size))) : (∃ a c, e = .returned (.agg #[.slice a 1 c, .int .i64 0])) ∧ Below W.heap.size W w' ∧ Below w.heap.size w w')))
        have hmk := graphs1
        have HM2 : PLift (k < 2) := ⟨by have := HE.down.2.2; omega⟩
        clear hcells HKC hkeys hkeyl hM2 HKK
        go_upto_region 11 with fail
        have HA := allocs_at [.cells #[.slice none 0 0, .int .i64 0] 28, .cells #[.slice (some ⟨wr.heap.size, 0, none⟩) 1 1] 273] wr
        unfold allocs allocs allocs at HA
        generalize (wr.alloc (.cells #[.slice none 0 0, .int .i64 0] 28)).alloc (.cells #[.slice (some ⟨wr.heap.size, 0, none⟩) 1 1] 273) = W2 at HA ⊢
        obtain ⟨hb2, hs2, hat⟩ := HA
        have HB2 := PLift.up hb2
        have hlt1 : w.heap.size + 2 < wr.heap.size := block_lt HSW.down.row
        have r0 : W2.heap[wr.heap.size]? = some (.cells #[.slice none 0 0, .int .i64 0] 28) := hat 0 _ rfl
        have r1 : W2.heap[wr.heap.size + 1]? = some (.cells #[.slice (some ⟨wr.heap.size, 0, none⟩) 1 1] 273) := hat 1 _ rfl
        have bx : W2.heap[w.heap.size]? = some (.cells #[.slice (some ⟨b, o, none⟩) N.length vc, .int .i64 root] 28) := by rw [hb2.block _ (by omega)]; exact HSW.down.box
        have d3 : W2.cell? ⟨w.heap.size + 1, 3, none⟩ = some (.slice (some ⟨lb, lo, none⟩) 1 kc) := cell_keep hb2 d3
        have hx : W2.cell? ⟨lb, lo, none⟩ = some (.int .i64 kk) := cell_keep hb2 hx
        have e0 : W2.cell? ⟨wr.heap.size + 1, 0, none⟩ = some (.slice (some ⟨wr.heap.size, 0, none⟩) 1 1) := (Lib.cell_of_heap r1 0).trans rfl
        have b0 : W2.cell? ⟨w.heap.size, 0, none⟩ = some (.slice (some ⟨b, o, none⟩) N.length vc) := (Lib.cell_of_heap bx 0).trans rfl
        have b1 : W2.cell? ⟨w.heap.size, 1, none⟩ = some (.int .i64 root) := (Lib.cell_of_heap bx 1).trans rfl
        have HR0 := PLift.up r0
        have HR1 := PLift.up r1
        have HR2 : PLift (W2.heap[w.heap.size + 2]? = some (.cells (idRow k k).toArray 3)) := ⟨by rw [hb2.block _ hlt1]; exact HSW.down.row⟩
        clear hat hb2 hs2 r0 r1 bx d0 d2 hmk
        go_wp2
        refine wp_loop_rounds 2 ?_
        rw [rounds_succ]
        go_upto_region 14 with fail
        go_wp2
        have HBW := PLift.up (HSW.down.below.trans (HB2.down.mono (by omega)))
        go_region_with (go_at_call 223; refine (HKEY.down _ ?_).mono ?_; (first | exact HBW.down | exact HBW.down.drew | exact HBW.down.drew.drew | exact HBW.down.drew.drew.drew); rintro e w3 ⟨⟨ga, gc, rfl⟩, hb3, hbw3⟩; have HB3 := PLift.up hbw3; have HR3 := PLift.up ((hb3.block _ (block_lt HR2.down)).trans HR2.down); have e0 := cell_keep hb3 e0; have r0 := (hb3.block _ (block_lt HR0.down)).trans HR0.down; have r00 : w3.cell? ⟨wr.heap.size, 0, none⟩ = some (.slice none 0 0) := (Lib.cell_of_heap r0 0).trans rfl; have r01 : w3.cell? ⟨wr.heap.size, 1, none⟩ = some (.int .i64 0) := (Lib.cell_of_heap r0 1).trans rfl; have rf : ∀ k, w3.frozen? ⟨wr.heap.size, k, none⟩ = false := fun k => Lib.frozen_of_heap r0 k; clear hb3 hbw3 r0)
        all_goals
          have h5 : ((w3.setCell ⟨wr.heap.size, 0, none⟩ (.slice ga 1 gc)).setCell ⟨wr.heap.size, 1, none⟩ (.int .i64 0)).heap[w.heap.size + 2]? = some (.cells (idRow k k).toArray 3) := by rw [set_far _ (by omega), set_far _ (by omega)]; exact HR3.down
          have hb5 : Below w.heap.size w ((w3.setCell ⟨wr.heap.size, 0, none⟩ (.slice ga 1 gc)).setCell ⟨wr.heap.size, 1, none⟩ (.int .i64 0)) := (HB3.down.setCell (p := ⟨wr.heap.size, 0, none⟩) (by show w.heap.size ≤ wr.heap.size; omega) _).setCell (p := ⟨wr.heap.size, 1, none⟩) (by show w.heap.size ≤ wr.heap.size; omega) _
          generalize (w3.setCell ⟨wr.heap.size, 0, none⟩ (.slice ga 1 gc)).setCell ⟨wr.heap.size, 1, none⟩ (.int .i64 0) = W5 at h5 hb5 ⊢
          have H5 := PLift.up (And.intro h5 hb5)
          clear h5 hb5 HB3 HR3 e0 r00 r01 rf
          go_wp2
          rw [rounds_succ]
          go_wp2_with (go_at_call 224; refine (merge_small _ _ _ _ _ ?_).mono ?_; exact HM2.down; rintro e w6 ⟨rfl, rfl⟩)
          go_ret
          exact ⟨w.heap.size + 2, rfl, by omega, H5.down.2, H5.down.1⟩
      · go_wp2
        go_ret
        exact ⟨w.heap.size + 2, rfl, by omega, HSW.down.below, HSW.down.row⟩
end Go.Proofs.YtcipjifpigpfdaaGreatDoor
/- share.order: the world of its walk. -/
namespace Go.Proofs.YtcipjifpigpfdaaGreatDoor
open Go.RowKit
open Go.Lib hiding intOf
/-- order's blocks: the graph's box, the row of entries and its box, the row of marks and its box, the box of what is listed, the box of the closure -/
structure OW (w0 : World) (v : Value) (root : Int) (N : List Nd) (B : Nat) (E : List Value) (M : List Bool) (ov : Value) (L : List Int) (W : World) : Prop where
  hB : B = w0.heap.size
  below : Below B w0 W
  f0 : W.heap[B]? = some (.cells #[v, .int .i64 root] 28)
  f1 : W.heap[B + 1]? = some (.cells E.toArray 23)
  f2 : W.heap[B + 2]? = some (.cells #[.slice (some ⟨B + 1, 0, none⟩) N.length N.length] 155)
  f3 : W.heap[B + 3]? = some (.cells (M.map Value.bool).toArray 4)
  f4 : W.heap[B + 4]? = some (.cells #[.slice (some ⟨B + 3, 0, none⟩) N.length N.length] 90)
  f5 : W.heap[B + 5]? = some (.cells #[ov] 23)
  f6 : W.heap[B + 6]? = some (.cells #[.func (.func 167) #[] #[.pointer (some ⟨B + 4, 0, none⟩), .pointer (some ⟨B + 5, 0, none⟩), .pointer (some ⟨B, 0, none⟩), .pointer (some ⟨B + 2, 0, none⟩), .pointer (some ⟨B + 6, 0, none⟩)]] 98)
  own : W.ownsRow (B + 7) 3 1 ov L.length (L.map (Value.int .i64))
  el : E.length = N.length
  ml : M.length = N.length
  rg : ∀ x ∈ L, 0 ≤ x ∧ x < (N.length : Int)
/-- what a walk leaves alone: the rows of others -/
structure FrO (B : Nat) (W : World) (ov : Value) (W' : World) (ov' : Value) : Prop where
  size : W.heap.size ≤ W'.heap.size
  keep : ∀ k, B + 7 ≤ k → k < W.heap.size → ov.ownBlock ≠ some k → W'.heap[k]? = W.heap[k]?
  ob : ∀ k, ov'.ownBlock = some k → ov.ownBlock = some k ∨ W.heap.size ≤ k
theorem FrO.refl (B : Nat) (W : World) (ov : Value) : FrO B W ov W ov := ⟨Nat.le_refl _, fun _ _ _ _ => rfl, fun _ h => .inl h⟩
theorem FrO.trans {B : Nat} {W W1 W2 : World} {o o1 o2 : Value} (h : FrO B W o W1 o1) (k : FrO B W1 o1 W2 o2) : FrO B W o W2 o2 := by
  refine ⟨Nat.le_trans h.size k.size, fun j hj hl hn => ?_, fun j hj => ?_⟩
  · rw [k.keep j hj (Nat.lt_of_lt_of_le hl h.size) (fun e => ?_)]
    · exact h.keep j hj hl hn
    · rcases h.ob j e with h1 | h1
      · exact hn h1
      · omega
  · rcases k.ob j hj with h1 | h1
    · exact h.ob j h1
    · exact .inr (Nat.le_trans h.size h1)
theorem FrO.of_set {B : Nat} {W : World} {ov : Value} {b i : Nat} (x : Value) (hb : b < B + 7) : FrO B W ov (W.setCell ⟨b, i, none⟩ x) ov := by
  refine ⟨by simp [World.setCell], fun k hk _ _ => set_far _ (by omega), fun k h => .inl h⟩
theorem FrO.of_below {B : Nat} {W W' : World} {ov : Value} (hb : Below W.heap.size W W') : FrO B W ov W' ov :=
  ⟨hb.size, fun k _ hl _ => hb.block k hl, fun _ h => .inl h⟩
section
variable {w0 : World} {v : Value} {root : Int} {N : List Nd} {B : Nat} {E : List Value} {M : List Bool} {ov : Value} {L : List Int} {W : World}
theorem OW.lt (h : OW w0 v root N B E M ov L W) : B + 6 < W.heap.size := block_lt h.f6
theorem OW.far (h : OW w0 v root N B E M ov L W) (k : Nat) (hk : k < 7) : ov.ownBlock ≠ some (B + k) := fun e => by
  have := (h.own.lt _ e).1
  omega
theorem OW.ext (h : OW w0 v root N B E M ov L W) {W' : World} (hb : Below W.heap.size W W') : OW w0 v root N B E M ov L W' := by
  have hl := h.lt
  have keep : ∀ k o, W.heap[k]? = some o → W'.heap[k]? = some o := fun k o hk => by rw [hb.block _ (block_lt hk)]; exact hk
  refine ⟨h.hB, h.below.trans (hb.mono (by omega)), keep _ _ h.f0, keep _ _ h.f1, keep _ _ h.f2, keep _ _ h.f3, keep _ _ h.f4, keep _ _ h.f5, keep _ _ h.f6, ⟨h.own.1, ?_⟩, h.el, h.ml, h.rg⟩
  rcases h.own.2 with q | ⟨g, cap, cur, q1, q2, q3, q4⟩
  · exact .inl q
  · exact .inr ⟨g, cap, cur, q1, q2, keep _ _ q3, q4⟩
theorem OW.drew (h : OW w0 v root N B E M ov L W) : OW w0 v root N B E M ov L W.drew := h.ext ((Below.refl _ W).drew)
theorem OW.drewN (h : OW w0 v root N B E M ov L W) (k : Nat) : OW w0 v root N B E M ov L (W.drewN k) := h.ext ⟨rfl, rfl, rfl, Nat.le_refl _, fun _ _ => rfl⟩
theorem FrO.drewN (h : FrO B w0 v W ov) (k : Nat) : FrO B w0 v (W.drewN k) ov := h.trans (FrO.of_below ⟨rfl, rfl, rfl, Nat.le_refl _, fun _ _ => rfl⟩)
theorem FrO.undrew {X W' : World} {ov' : Value} (h : FrO B X ov W' ov') (e : X.heap = W.heap) : FrO B W ov W' ov' := ⟨by rw [← e]; exact h.size, fun j h1 h2 h3 => by rw [← e]; exact h.keep j h1 (by rw [e]; exact h2) h3, fun j hj => by rw [← e]; exact h.ob j hj⟩
/-- a store into one of the seven blocks -/
theorem own_set {w : World} {base b i n : Nat} {x v : Value} {e : TypeId} {xs : List Value} (h : w.ownsRow base e 1 v n xs) (hb : b < base) : (w.setCell ⟨b, i, none⟩ x).ownsRow base e 1 v n xs := row_far h hb (grown_set w b i x)
theorem OW.setMet (h : OW w0 v root N B E M ov L W) (a : Nat) : OW w0 v root N B E (M.set a true) ov L (W.setCell ⟨B + 3, a, none⟩ (.bool true)) where
  hB := h.hB
  below := h.below.setCell (p := ⟨B + 3, a, none⟩) (by show B ≤ B + 3; omega) _
  f0 := by rw [set_far _ (by omega)]; exact h.f0
  f1 := by rw [set_far _ (by omega)]; exact h.f1
  f2 := by rw [set_far _ (by omega)]; exact h.f2
  f3 := by simp [World.setCell, Array.getElem?_modify, h.f3, List.map_set]
  f4 := by rw [set_far _ (by omega)]; exact h.f4
  f5 := by rw [set_far _ (by omega)]; exact h.f5
  f6 := by rw [set_far _ (by omega)]; exact h.f6
  own := own_set h.own (by omega)
  el := h.el
  ml := by simpa using h.ml
  rg := h.rg
theorem OW.setEnt (h : OW w0 v root N B E M ov L W) (a : Nat) (x : Value) : OW w0 v root N B (E.set a x) M ov L (W.setCell ⟨B + 1, a, none⟩ x) where
  hB := h.hB
  below := h.below.setCell (p := ⟨B + 1, a, none⟩) (by show B ≤ B + 1; omega) _
  f0 := by rw [set_far _ (by omega)]; exact h.f0
  f1 := by simp [World.setCell, Array.getElem?_modify, h.f1]
  f2 := by rw [set_far _ (by omega)]; exact h.f2
  f3 := by rw [set_far _ (by omega)]; exact h.f3
  f4 := by rw [set_far _ (by omega)]; exact h.f4
  f5 := by rw [set_far _ (by omega)]; exact h.f5
  f6 := by rw [set_far _ (by omega)]; exact h.f6
  own := own_set h.own (by omega)
  el := by simpa using h.el
  ml := h.ml
  rg := h.rg
/-- what is listed has grown, and its box -/
theorem OW.setOut (h : OW w0 v root N B E M ov L W) (L' : List Int) (ov' : Value) (W' : World) (hg : W.grownBy W' ov.ownBlock) (hown : W'.ownsRow (B + 7) 3 1 ov' L'.length (L'.map (Value.int .i64)))
    (hL : ∀ x ∈ L', 0 ≤ x ∧ x < (N.length : Int)) : OW w0 v root N B E M ov' L' (W'.setCell ⟨B + 5, 0, none⟩ ov') ∧ W'.heap[B + 5]? = some (.cells #[ov] 23) := by
  have keep : ∀ k o, k < 7 → W.heap[B + k]? = some o → W'.heap[B + k]? = some o := fun k o hk ho => by
    rw [hg.block _ (block_lt ho) (fun e => h.far k hk e.symm)]; exact ho
  refine ⟨⟨h.hB, (h.below.grown hg (by have := h.lt; omega) (fun k hk => by have := (h.own.lt k hk).1; omega)).setCell (p := ⟨B + 5, 0, none⟩) (by show B ≤ B + 5; omega) _, ?_, ?_, ?_, ?_, ?_, ?_, ?_, own_set hown (by omega), h.el, h.ml, hL⟩, keep 5 _ (by omega) h.f5⟩
  · rw [set_far _ (by omega)]; exact keep 0 _ (by omega) h.f0
  · rw [set_far _ (by omega)]; exact keep 1 _ (by omega) h.f1
  · rw [set_far _ (by omega)]; exact keep 2 _ (by omega) h.f2
  · rw [set_far _ (by omega)]; exact keep 3 _ (by omega) h.f3
  · rw [set_far _ (by omega)]; exact keep 4 _ (by omega) h.f4
  · simp [World.setCell, Array.getElem?_modify, keep 5 _ (by omega) h.f5]
  · rw [set_far _ (by omega)]; exact keep 6 _ (by omega) h.f6
end
/-- graphs without cycles that order can walk through: each reference leads to a node of a smaller rank -/
structure Ranked (N : List Nd) (rank : Nat → Nat) : Prop where
  len : N.length ≤ 4096
  items : ∀ (a : Nat) (n : Nd), N[a]? = some n → n.items.length ≤ 1000000 ∧ ∀ x ∈ n.items, ∃ y : Nat, x = (y : Int) ∧ y < N.length ∧ rank y < rank a
  keys : ∀ (a : Nat) (n : Nd), N[a]? = some n → n.kind ≠ 10 ∨ (n.kind = 10 ∧ n.ord = false ∧ n.items.length < 2 ∧ ∃ (k : Nat) (kn : Nd), n.keys = [(k : Int)] ∧ N[k]? = some kn ∧ kn.keys = [] ∧ kn.items = [])
def capsO (B a : Nat) : Array Value := #[.int .i64 a, .pointer (some ⟨B + 4, 0, none⟩), .pointer (some ⟨B + 5, 0, none⟩), .pointer (some ⟨B, 0, none⟩), .pointer (some ⟨B + 2, 0, none⟩), .pointer (some ⟨B + 6, 0, none⟩)]
def VisitO (w0 : World) (v : Value) (root : Int) (N : List Nd) (B : Nat) (rank : Nat → Nat) (r : Nat) : Prop :=
  ∀ (a : Nat) (E : List Value) (M : List Bool) (ov : Value) (L : List Int) (W : World), a < N.length → rank a < r → M.getD a false = false → L.length + M.count false = N.length → OW w0 v root N B E M ov L W →
    Calls Tryz.prog 167 (capsO B a) W fun e w' => e = .returned (.tuple #[]) ∧ ∃ E' M' ov' L', L'.length + M'.count false = N.length ∧ OW w0 v root N B E' M' ov' L' w' ∧ FrO B W ov w' ov'
theorem count_set_true {l : List Bool} {a : Nat} (ha : a < l.length) (h : l.getD a false = false) : (l.set a true).count false + 1 = l.count false := by
  rw [List.getD_eq_getElem?_getD, List.getElem?_eq_getElem ha] at h
  have h : l[a] = false := h
  have hp : 0 < l.count false := List.count_pos_iff.2 (by rw [← h]; exact List.getElem_mem ha)
  rw [List.count_set ha, h]
  simp
  omega
end Go.Proofs.YtcipjifpigpfdaaGreatDoor
