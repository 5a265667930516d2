/- The forms looked up by their words; one argument read, whichever its kind. -/
import Derived.Test.YtfnemklcmhilnaaGreatDoorScF
import Derived.Test.YtfnemklcmhilnaaGreatDoorScD
import Derived.Test.YtfnemklcmhilnaaGreatDoorScRc
namespace Go.Proofs.YtfnemklcmhilnaaGreatDoor
open Go.RowKit
open Go.Lib hiding intOf
/-- the kinds of arguments -/
inductive AK where
  | n | f | p | t
def argsOf : Nat → List AK
  | 0 => [.n, .f, .t]
  | 1 => [.n]
  | 2 => [.n, .f, .n]
  | 3 => [.n, .n]
  | 4 => [.n, .f]
  | 5 => [.n, .f]
  | 6 => [.n, .p]
  | 7 => [.n, .p, .t]
  | 8 => [.n, .p, .t]
  | 9 => [.n, .p]
  | 10 => [.n, .n]
  | 11 => [.n, .n, .n, .n]
  | 12 => [.n]
  | 13 => [.n, .t]
  | 14 => [.n]
  | _ => []
def opOf : Nat → Int
  | 0 => 1
  | 1 => 2
  | 2 => 3
  | 3 => 4
  | 4 => 5
  | 5 => 6
  | 6 => 7
  | 7 => 8
  | 8 => 9
  | 9 => 10
  | 10 => 11
  | 11 => 12
  | 12 => 13
  | 13 => 14
  | 14 => 15
  | _ => 0
def formTo (l : List UInt8) : Nat → Option Nat
  | 0 => none
  | k + 1 => if keyB k = l then some k else formTo l k
def formIdx (l : List UInt8) : Option Nat := formTo l 15
theorem formD_map {H : Type} (B : Nat) : ∀ k, Maps.IsMap (formD (H := H) B k)
  | 0 => ⟨_, rfl⟩
  | k + 1 => by
    obtain ⟨es, h⟩ := formD_map (H := H) B k
    exact ⟨_, by unfold formD; rw [h]; rfl⟩
theorem formD_at {H : Type} (B : Nat) (l : List UInt8) (zd : DataW H) : ∀ k, (formD B k).atKey (.string l) zd = (match formTo l k with | some j => elD B j | none => zd) ∧ Maps.has (formD (H := H) B k) (.string l) = (formTo l k).isSome
  | 0 => ⟨rfl, rfl⟩
  | k + 1 => by
    obtain ⟨h1, h2⟩ := formD_at B l zd k
    unfold formD formTo
    by_cases e : keyB k = l
    · rw [if_pos e, ← e]
      exact ⟨Maps.atKey_put_same (formD_map B k) (show WideAt.IsKeyLit (.string _) from trivial) _ _, Maps.has_put_same (formD_map B k) (show WideAt.IsKeyLit (.string _) from trivial) _⟩
    · rw [if_neg e]
      have hne : (Lit.string l) ≠ .string (keyB k) := fun h => e (by injection h with h; exact h.symm)
      exact ⟨(Maps.atKey_put_other hne _ _).trans h1, (Maps.has_put_other hne _).trans h2⟩
theorem formTo_lt {l : List UInt8} {j : Nat} : ∀ {k : Nat}, formTo l k = some j → j < k ∧ keyB j = l
  | 0, h => by cases h
  | k + 1, h => by
    unfold formTo at h
    by_cases e : keyB k = l
    · rw [if_pos e] at h
      obtain rfl : k = j := by simpa using h
      exact ⟨by omega, e⟩
    · rw [if_neg e] at h
      have := formTo_lt h
      exact ⟨by omega, this.2⟩
/-- the table of forms, made at block FB -/
structure Forms (FB : Nat) (w : World) : Prop where
  own : w.ownsMap (H := Unit) Tryz.prog 9 formR (FB + 4) 15 (formD FB 15)
  rows : ∀ j, j < 15 → w.heap[FB + 5 + j]? = some (.cells (rowV j) 57)
theorem FI.forms {w0 w : World} (h : FI w0 w 15) : Forms w0.heap.size w := ⟨h.own, h.rows⟩
theorem Forms.lt {FB : Nat} {w : World} (h : Forms FB w) : FB + 19 < w.heap.size := (Array.getElem?_eq_some_iff.1 (h.rows 14 (by decide))).1
theorem Forms.below {FB B : Nat} {w w' : World} (h : Forms FB w) (hb : Below B w w') (hB : FB + 20 ≤ B) : Forms FB w' := by
  refine ⟨?_, fun j hj => ?_⟩
  · obtain ⟨es, clock, h1, h2⟩ := h.own
    exact ⟨es, clock, by rw [hb.block (FB + 4) (by omega)]; exact h1, h2⟩
  · rw [hb.block (FB + 5 + j) (by omega)]; exact h.rows j hj
/-- a command under way -/
structure Cx where
  ns : List ByteArray
  fs : List Int
  tx : ByteArray
def rdOk (pp : List UInt8 → Bool) : AK → List UInt8 → Bool
  | .n, r => nameB (cutB 32 r)
  | .f, r => (fmtIdx (cutB 32 r)).isSome
  | .p, r => uqOk r && pp (uqT r)
  | .t, r => uqOk r
def rdN (pp : List UInt8 → Bool) : AK → List UInt8 → Int
  | .n, r => (cutB 32 r).length
  | .f, r => if (fmtIdx (cutB 32 r)).isSome then ((cutB 32 r).length : Int) else 0
  | .p, r => if uqOk r && pp (uqT r) then uqN r else 0
  | .t, r => uqN r
def rdC (pp : List UInt8 → Bool) : AK → List UInt8 → Cx → Cx
  | .n, r, c => { c with ns := c.ns ++ [⟨(cutB 32 r).toArray⟩] }
  | .f, r, c => match fmtIdx (cutB 32 r) with | some k => { c with fs := c.fs ++ [(k : Int)] } | none => c
  | .p, r, c => if uqOk r && pp (uqT r) then { c with ns := c.ns ++ [⟨(uqT r).toArray⟩] } else c
  | .t, r, c => { c with tx := ⟨(uqT r).toArray⟩ }
def rdFn : AK → Nat
  | .n => 15
  | .f => 17
  | .p => 19
  | .t => 21
structure Env (w : World) : Prop where
  tabs : Tabs w
  fmt : FmtTab w
theorem Env.below {w w' : World} (h : Env w) (hb : Below w.heap.size w w') : Env w' := ⟨h.tabs.below hb, h.fmt.below hb⟩
theorem Env.below' {B : Nat} {w w' : World} (h : Env w) (hb : Below B w w') (h0 : 0 < B) (h1 : 1 < B) (h2 : 2 < B) : Env w' :=
  ⟨tabs_below h.tabs hb h1 h2, fun i hi => by rw [hb.cell (p := ⟨0, i, none⟩) h0]; exact h.fmt i hi⟩
/-- a command in its block, its two rows somewhere -/
def CmdC (B cb : Nat) (op : Int) (c : Cx) (w : World) : Prop := ∃ nv fv, CmdAt B cb op c.ns c.fs c.tx w nv fv
def RdPost (pp : List UInt8 → Bool) (K : AK) (r : List UInt8) (B cb : Nat) (op : Int) (c : Cx) (w : World) (v : Value) (w' : World) : Prop :=
  v = .tuple #[.int .i64 (rdN pp K r), .bool (rdOk pp K r)] ∧ Below B w w' ∧ KeepC cb w w' ∧ CmdC B cb op (rdC pp K r c) w'
theorem read_any (pp : List UInt8 → Bool) (K : AK) (s : ByteArray) (w : World) (B cb : Nat) (op : Int) (c : Cx) (h : CmdC B cb op c w) (hB : B ≤ w.heap.size) (hs : s.size ≤ 35184372088000) (hE : Env w) (hn : c.ns.length ≤ 1000) (hf : c.fs.length ≤ 1000)
    (hP : K = .p → uqOk s.data.toList = true → PathAt (uqT s.data.toList) (pp (uqT s.data.toList))) (hP0 : K = .p → uqOk s.data.toList = false → ∃ ok, PathAt (uqT s.data.toList) ok) :
    Calls Tryz.prog (rdFn K) #[.pointer (some ⟨cb, 0, none⟩), .string s] w fun e w' => ∃ v, e = .returned v ∧ RdPost pp K s.data.toList B cb op c w v w' := by
  obtain ⟨nv, fv, h⟩ := h
  have hs2 : s.size ≤ maxLen := by unfold maxLen; omega
  cases K with
  | n => exact (rname_any s w B cb op c.ns c.fs c.tx nv fv h hB hs2 hn).mono fun e w' ⟨h1, h2, h3, h4⟩ => ⟨_, h1, rfl, h2, h3, h4⟩
  | t => exact (rtext_any s w B cb op c.ns c.fs c.tx nv fv h hB hs).mono fun e w' ⟨h1, h2, h3, h4⟩ => ⟨_, h1, rfl, h2, h3, h4⟩
  | f =>
    refine (rfmt_any s w B cb op c.ns c.fs c.tx nv fv h hB hs2 hf hE.fmt).mono fun e w' ⟨h2, h3, h4⟩ => ?_
    cases hi : fmtIdx (cutB 32 s.data.toList) with
    | none =>
      rw [hi] at h4
      refine ⟨_, h4.1, ?_, h2, h3, ?_⟩
      · simp only [rdN, rdOk, hi]; rfl
      · simp only [rdC, hi]; exact h4.2
    | some k =>
      rw [hi] at h4
      refine ⟨_, h4.1, ?_, h2, h3, ?_⟩
      · simp only [rdN, rdOk, hi]; rfl
      · simp only [rdC, hi]; exact h4.2
  | p =>
    cases h1 : uqOk s.data.toList with
    | false =>
      obtain ⟨ok, hp⟩ := hP0 rfl h1
      refine (rpath_no s w B cb op c.ns c.fs c.tx nv fv h hB hs hE.tabs ok hp (by rw [h1]; rfl)).mono fun e w' ⟨h5, h2, h3, h4⟩ => ⟨_, h5, ?_, h2, h3, ?_⟩
      · simp only [rdN, rdOk, h1]; rfl
      · simp only [rdC, h1]; exact h4
    | true =>
      have hp := hP rfl h1
      cases h6 : pp (uqT s.data.toList) with
      | false =>
        rw [h6] at hp
        refine (rpath_no s w B cb op c.ns c.fs c.tx nv fv h hB hs hE.tabs false hp (by rw [h1]; rfl)).mono fun e w' ⟨h5, h2, h3, h4⟩ => ⟨_, h5, ?_, h2, h3, ?_⟩
        · simp only [rdN, rdOk, h1, h6]; rfl
        · simp only [rdC, h1, h6]; exact h4
      | true =>
        rw [h6] at hp
        refine (rpath_yes s w B cb op c.ns c.fs c.tx nv fv h hB hs hE.tabs hp hn h1).mono fun e w' ⟨h5, h2, h3, h4⟩ => ⟨_, h5, ?_, h2, h3, ?_⟩
        · simp only [rdN, rdOk, h1, h6]; rfl
        · simp only [rdC, h1, h6]; exact h4
end Go.Proofs.YtfnemklcmhilnaaGreatDoor
