/- A script: what Parse hands back. -/
import Derived.Test.YtfnemklcmhilnaaGreatDoorScO
namespace Go.Proofs.YtfnemklcmhilnaaGreatDoor
open Go.RowKit
open Go.Lib hiding intOf
def lineF (pp : List UInt8 → Bool) (l : List UInt8) : Option (Int × Cx) × Int :=
  match formIdx (cutB 32 l) with
  | none => (none, 0)
  | some j => ((lineL pp l (argsOf j) (cutB 32 l).length ⟨[], [], ⟨#[]⟩⟩).1.map (fun c => (opOf j, c)), (lineL pp l (argsOf j) (cutB 32 l).length ⟨[], [], ⟨#[]⟩⟩).2)
def lineFok (pp : List UInt8 → Bool) (l : List UInt8) : Prop :=
  match formIdx (cutB 32 l) with
  | none => True
  | some j => j ≠ 12 ∧ lineOk pp l (argsOf j) (cutB 32 l).length
def isCmd (ln : List UInt8) : Bool := !ln.isEmpty && (ln.getD 0 0 != 35)
def parseL (pp : List UInt8 → Bool) : Nat → List UInt8 → Nat → List (Int × Cx) → Option (List (Int × Cx)) × Int × Int
  | 0, _, _, acc => (some acc, 0, 0)
  | n + 1, l, a, acc =>
    if l.isEmpty then (some acc, 0, 0)
    else if isCmd (cutB 10 l) then
      if acc.length = 256 then (none, a, 7)
      else match lineF pp (cutB 10 l) with
        | (some c, _) => parseL pp n (l.drop ((cutB 10 l).length + 1)) (a + ((cutB 10 l).length + 1)) (acc ++ [c])
        | (none, k) => (none, a + k, 4)
    else parseL pp n (l.drop ((cutB 10 l).length + 1)) (a + ((cutB 10 l).length + 1)) acc
def parseOk (pp : List UInt8 → Bool) : Nat → List UInt8 → Prop
  | 0, _ => True
  | n + 1, l => l.isEmpty = false → (isCmd (cutB 10 l) = true → lineFok pp (cutB 10 l)) ∧ parseOk pp n (l.drop ((cutB 10 l).length + 1))
def parseF (pp : List UInt8 → Bool) (l : List UInt8) : Option (List (Int × Cx)) × Int × Int :=
  if l.length > 65536 then (none, 0, 6) else match cp l with | some n => (none, n, 11) | none => parseL pp l.length l 0 []
theorem lineL_at (pp : List UInt8 → Bool) (l : List UInt8) : ∀ (ks : List AK) (a : Nat) (c : Cx), a ≤ l.length → (∃ d, lineL pp l ks a c = (some d, -1)) ∨ (∃ k : Nat, lineL pp l ks a c = (none, (k : Int)) ∧ k ≤ l.length)
  | [], a, c, h => by
    unfold lineL
    by_cases h1 : a < l.length
    · rw [if_pos h1]; exact .inr ⟨a, rfl, h⟩
    · rw [if_neg h1]; exact .inl ⟨c, rfl⟩
  | K :: ks, a, c, h => by
    rw [lineL_cons]
    split
    · exact .inr ⟨a, rfl, h⟩
    · split
      · exact .inr ⟨a, rfl, h⟩
      · split
        · exact .inr ⟨a + 1, rfl, by omega⟩
        · split
          · have := rdN_bd pp K (l.drop (a + 1))
            rw [List.length_drop] at this
            exact lineL_at pp l ks _ _ (by omega)
          · exact .inr ⟨a + 1, rfl, by omega⟩
theorem lineF_at (pp : List UInt8 → Bool) (l : List UInt8) : (∃ d, lineF pp l = (some d, -1)) ∨ (∃ k : Nat, lineF pp l = (none, (k : Int)) ∧ k ≤ l.length) := by
  unfold lineF
  cases h : formIdx (cutB 32 l) with
  | none => exact .inr ⟨0, rfl, Nat.zero_le _⟩
  | some j =>
    rcases lineL_at pp l (argsOf j) (cutB 32 l).length ⟨[], [], ⟨#[]⟩⟩ (cutB_le _ _) with ⟨d, h1⟩ | ⟨k, h1, h2⟩
    · simp only [h1]; exact .inl ⟨_, rfl⟩
    · simp only [h1]; exact .inr ⟨k, rfl, h2⟩
/-- what a line's call hands back -/
def LineP (pp : List UInt8 → Bool) (l : List UInt8) (B : Nat) (e : Ending) (w' : World) : Prop :=
  ∃ op a1 n1 c1 a2 n2 c2 tx, e = .returned (.tuple #[.agg #[.int .i64 op, .slice a1 n1 c1, .slice a2 n2 c2, .string tx], .int .i64 (lineF pp l).2]) ∧ ∀ c, (lineF pp l).1 = some c → op = c.1 ∧ tx = c.2.tx ∧ RowS B (.slice a1 n1 c1) c.2.ns w' ∧ RowI B (.slice a2 n2 c2) c.2.fs w'
theorem line_any (pp : List UInt8 → Bool) (s : ByteArray) (w : World) (FB : Nat) (hF : Forms FB w) (hE : Env w) (hs : s.size ≤ 35184372088000) (hok : lineFok pp s.data.toList)
    (hlow : 0 < w.heap.size ∧ 1 < w.heap.size ∧ 2 < w.heap.size) :
    Calls Tryz.prog 14 #[.string s, .map (some (FB + 4))] w fun e w' => Below w.heap.size w w' ∧ LineP pp s.data.toList w.heap.size e w' := by
  unfold LineP
  unfold lineFok at hok
  unfold lineF
  cases h : formIdx (cutB 32 s.data.toList) with
  | none =>
    exact (line_unknown s w FB hF hs h).mono fun e w' ⟨h1, h2⟩ => ⟨h1, _, _, _, _, _, _, _, _, h2, fun c hc => by cases hc⟩
  | some j =>
    rw [h] at hok
    refine (line_known pp s w FB j hF hE hs h hok.1 hok.2 hlow).mono fun e w' ⟨h1, a1, n1, c1, a2, n2, c2, tx, h2, h3⟩ => ⟨h1, _, _, _, _, _, _, _, _, h2, fun c hc => ?_⟩
    obtain ⟨d, hd, rfl⟩ := Option.map_eq_some_iff.1 hc
    exact ⟨rfl, h3 d hd⟩
/-- 'append(l, x)', x of any size, l a row of the call's own -/
theorem app_gen {T E size bytes : Nat} {z : Value} (hT : Tryz.prog.underlying T = some (.slice E)) (hinfo : (Tryz.prog.info? E).map (fun i => (i.zero, i.size, i.bytes)) = some (some z, size, bytes)) (hz : z.cells.size = size) (hsz : 0 < size) (hby : bytes ≤ 1000)
    {ops : Array Oper} {rest : List Oper} {o : Oper} {a : Act} {Q : Exit → Act → World → Prop} (w : World) (hgd : o.guard = none) (s x : Operand)
    (ho : o.op = .call { callee := .builtin .append, args := #[s, x], argTypes := #[T, T] }) {B n : Nat} {v : Value} {xs : List Value} (hs : a.eval s = v) (hown : w.ownsRow B E size v n xs) (cs : Array Value) (hcs : cs.size = size) (hone : ∀ u ∈ cs.toList, u.oneCell' = true)
    (H c : Nat) (hH : w.heap.size = H) (hx : a.eval x = .slice (some ⟨H, 0, none⟩) 1 c) (hlen : n ≤ 100000000) (hB : B ≤ w.heap.size)
    (h : ∀ v' w', w'.ownsRow B E size v' (n + 1) (xs ++ cs.toList) → Below B w w' → (w.alloc (.cells cs E)).grownBy w' v.ownBlock → wpList Tryz.prog ops Q rest (a.put o.dst v') w') : wpList Tryz.prog ops Q (o :: rest) a (w.alloc (.cells cs E)) := by
  obtain ⟨i0, hi, hz0, hz1, hz2⟩ := info_parts hinfo
  subst hH
  have hb : (n + 1) * bytes ≤ 140737488355328 := Nat.le_trans (Nat.mul_le_mul (show n + 1 ≤ 100000001 by omega) hby) (by decide)
  refine wpList_append_own _ hgd s x T ho B E i0 z size bytes hT hi hz0 hz1 hz2 hz hsz v n xs hs (World.ownsRow.alloc hown _) ⟨w.heap.size, 0, none⟩ 1 c cs.toList hx (by simp [hcs]) ?_ hone (by unfold maxLen; omega) hb (by simp; omega) ?_
  · intro j u hj
    rw [add_zero', Lib.cell_of_heap (heap_alloc_new w _)]
    simpa using hj
  · intro v' w' hown' hg _
    exact h v' w' hown' (((Below.refl B w).alloc hB _).grown hg (by simp; omega) (fun k hk => (World.ownsRow.lt hown k hk).1)) hg
theorem World.size_alloc' (w : World) (o : Obj) : (w.alloc o).heap.size = w.heap.size + 1 := by simp
theorem row_base {w : World} {B B2 e size n : Nat} {v : Value} {xs : List Value} (h : w.ownsRow B e size v n xs) (hB : B2 ≤ B) : w.ownsRow B2 e size v n xs := by
  refine ⟨h.1, ?_⟩
  rcases h.2 with hn | ⟨g, cap, cur, hv, h1, h2⟩
  · exact .inl hn
  · exact .inr ⟨g, cap, cur, hv, by omega, h2⟩
theorem row_kind {w : World} {B e size n : Nat} {v : Value} {xs : List Value} (h : w.ownsRow B e size v n xs) {k : Nat} (hk : v.ownBlock = some k) : ∃ cs, w.heap[k]? = some (.cells cs e (0, 0)) := by
  rcases h.2 with ⟨rfl, _⟩ | ⟨g, cap, cur, rfl, _, hg, _⟩
  · simp [Value.ownBlock] at hk
  · simp only [Value.ownBlock, Option.some.injEq] at hk
    subst hk; exact ⟨cur, hg⟩
/-- a row of another type, behind an append -/
theorem row_grown {w w' : World} {B1 e1 s1 n1 B e size n : Nat} {v1 v : Value} {xs1 xs : List Value} (h1 : w.ownsRow B1 e1 s1 v1 n1 xs1) (hown : w.ownsRow B e size v n xs) (hne : e1 ≠ e) {o : Obj} (hg : (w.alloc o).grownBy w' v.ownBlock) : w'.ownsRow B1 e1 s1 v1 n1 xs1 := by
  refine ⟨h1.1, ?_⟩
  rcases h1.2 with hn | ⟨g, cap, cur, hv, p1, p2, p3⟩
  · exact .inl hn
  · refine .inr ⟨g, cap, cur, hv, p1, ?_, p3⟩
    have hgl : g < w.heap.size := (Array.getElem?_eq_some_iff.1 p2).1
    rw [hg.block g (by simp; omega) (fun e => by
      obtain ⟨cs, hc⟩ := row_kind hown e.symm
      rw [p2] at hc
      simp at hc
      exact hne hc.2), Lib.alloc_old w _ g hgl]
    exact p2
structure CM where
  op : Int
  nv : Value
  fv : Value
  cx : Cx
def CM.cells (m : CM) : List Value := [.int .i64 m.op, m.nv, m.fv, .string m.cx.tx]
/-- v is the commands L, in rows of the call's own -/
def CmdsAt (B : Nat) (v : Value) (L : List (Int × Cx)) (w : World) : Prop := ∃ M : List CM, M.map (fun m => (m.op, m.cx)) = L ∧ w.ownsRow B 29 4 v M.length (M.flatMap CM.cells) ∧ ∀ m ∈ M, RowS B m.nv m.cx.ns w ∧ RowI B m.fv m.cx.fs w
theorem CmdsAt.nil (B : Nat) (w : World) : CmdsAt B (.slice none 0 0) [] w := ⟨[], rfl, ⟨rfl, .inl ⟨rfl, rfl⟩⟩, fun _ h => by cases h⟩
theorem CmdsAt.slice {B : Nat} {v : Value} {L : List (Int × Cx)} {w : World} (h : CmdsAt B v L w) : ∃ oa oc, v = .slice oa L.length oc := by
  obtain ⟨M, rfl, h2, h3⟩ := h
  rw [List.length_map]
  rcases h2.2 with ⟨rfl, h0⟩ | ⟨g, cap, cur, rfl, _⟩
  · rw [h0]; exact ⟨_, _, rfl⟩
  · exact ⟨_, _, rfl⟩
theorem row_below {w w' : World} {B e size n : Nat} {v : Value} {xs : List Value} (h : w.ownsRow B e size v n xs) (hb : Below w.heap.size w w') : w'.ownsRow B e size v n xs := by
  refine ⟨h.1, ?_⟩
  rcases h.2 with hn | ⟨g, cap, cur, hv, h1, h2, h3⟩
  · exact .inl hn
  · refine .inr ⟨g, cap, cur, hv, h1, ?_, h3⟩
    have hlt : g < w.heap.size := (Array.getElem?_eq_some_iff.1 h2).1
    rw [hb.block g hlt]; exact h2
theorem CmdsAt.below {B : Nat} {v : Value} {L : List (Int × Cx)} {w w' : World} (h : CmdsAt B v L w) (hb : Below w.heap.size w w') : CmdsAt B v L w' := by
  obtain ⟨M, h1, h2, h3⟩ := h
  exact ⟨M, h1, row_below h2 hb, fun m hm => ⟨row_below (h3 m hm).1 hb, row_below (h3 m hm).2 hb⟩⟩
theorem info_cmd : (Tryz.prog.info? 29).map (fun i => (i.zero, i.size, i.bytes)) = some (some (.agg #[.int .i64 0, .slice none 0 0, .slice none 0 0, .string ⟨#[]⟩]), 4, 72) := by kernel_rfl
theorem cmd_one (op : Int) (a1 a2 : Option Addr) (n1 c1 n2 c2 : Nat) (tx : ByteArray) : ∀ u ∈ (#[.int .i64 op, .slice a1 n1 c1, .slice a2 n2 c2, .string tx] : Array Value).toList, u.oneCell' = true := by
  intro u hu
  simp at hu
  rcases hu with rfl | rfl | rfl | rfl <;> rfl
def PInv (pp : List UInt8 → Bool) (l0 : List UInt8) (w2 : World) (FB : Nat) (wr : World) (ov : Value) (a : Nat) (acc : List (Int × Cx)) (n : Nat) : Prop :=
  a ≤ l0.length + 1 ∧ l0.length ≤ a + n ∧ acc.length ≤ 256 ∧ CmdsAt w2.heap.size ov acc wr ∧ Below w2.heap.size w2 wr ∧ Forms FB wr ∧ Env wr ∧ parseL pp l0.length l0 0 [] = parseL pp n (l0.drop a) a acc ∧ parseOk pp n (l0.drop a)
def ParseP (B : Nat) (r : Option (List (Int × Cx)) × Int × Int) (e : Ending) (w' : World) : Prop :=
  ∃ v, e = .returned (.tuple #[v, .int .i64 r.2.1, .int .i64 r.2.2]) ∧ CmdsAt B v (r.1.getD []) w'
theorem Env.lows {w : World} (h : Env w) : 0 < w.heap.size ∧ 1 < w.heap.size ∧ 2 < w.heap.size := ⟨h.fmt.lt, h.tabs.lt.1, h.tabs.lt.2⟩
theorem line_some (pp : List UInt8 → Bool) (s : ByteArray) (w : World) (FB : Nat) (hF : Forms FB w) (hE : Env w) (hs : s.size ≤ 35184372088000) (hok : lineFok pp s.data.toList) (d : Int × Cx) (h : lineF pp s.data.toList = (some d, -1)) :
    Calls Tryz.prog 14 #[.string s, .map (some (FB + 4))] w fun e w' => ∃ a1 n1 c1 a2 n2 c2, e = .returned (.tuple #[.agg #[.int .i64 d.1, .slice a1 n1 c1, .slice a2 n2 c2, .string d.2.tx], .int .i64 (-1)]) ∧ Below w.heap.size w w' ∧ RowS w.heap.size (.slice a1 n1 c1) d.2.ns w' ∧ RowI w.heap.size (.slice a2 n2 c2) d.2.fs w' := by
  refine (line_any pp s w FB hF hE hs hok hE.lows).mono ?_
  rintro e w' ⟨h1, op, a1, n1, c1, a2, n2, c2, tx, h2, h3⟩
  rw [h] at h2 h3
  obtain ⟨rfl, rfl, h4, h5⟩ := h3 d rfl
  exact ⟨_, _, _, _, _, _, h2, h1, h4, h5⟩
theorem line_none (pp : List UInt8 → Bool) (s : ByteArray) (w : World) (FB : Nat) (hF : Forms FB w) (hE : Env w) (hs : s.size ≤ 35184372088000) (hok : lineFok pp s.data.toList) (k : Nat) (h : lineF pp s.data.toList = (none, (k : Int))) :
    Calls Tryz.prog 14 #[.string s, .map (some (FB + 4))] w fun e w' => ∃ op a1 n1 c1 a2 n2 c2 tx, e = .returned (.tuple #[.agg #[.int .i64 op, .slice a1 n1 c1, .slice a2 n2 c2, .string tx], .int .i64 k]) ∧ Below w.heap.size w w' := by
  refine (line_any pp s w FB hF hE hs hok hE.lows).mono ?_
  rintro e w' ⟨h1, op, a1, n1, c1, a2, n2, c2, tx, h2, h3⟩
  rw [h] at h2
  exact ⟨_, _, _, _, _, _, _, _, h2, h1⟩
theorem parseL_nil (pp : List UInt8 → Bool) (n a : Nat) (acc : List (Int × Cx)) : parseL pp n [] a acc = (some acc, 0, 0) := by
  cases n <;> rfl
theorem parseL_skip {pp : List UInt8 → Bool} {n : Nat} {l : List UInt8} {a : Nat} {acc : List (Int × Cx)} (h : l.isEmpty = false) (hc : isCmd (cutB 10 l) = false) : parseL pp (n + 1) l a acc = parseL pp n (l.drop ((cutB 10 l).length + 1)) (a + ((cutB 10 l).length + 1)) acc := by
  conv => lhs; unfold parseL
  rw [if_neg (by rw [h]; decide), if_neg (by rw [hc]; decide)]
theorem parseL_many {pp : List UInt8 → Bool} {n : Nat} {l : List UInt8} {a : Nat} {acc : List (Int × Cx)} (h : l.isEmpty = false) (hc : isCmd (cutB 10 l) = true) (ha : acc.length = 256) : parseL pp (n + 1) l a acc = (none, (a : Int), 7) := by
  conv => lhs; unfold parseL
  rw [if_neg (by rw [h]; decide), if_pos hc, if_pos ha]
theorem parseL_bad {pp : List UInt8 → Bool} {n : Nat} {l : List UInt8} {a k : Nat} {acc : List (Int × Cx)} (h : l.isEmpty = false) (hc : isCmd (cutB 10 l) = true) (ha : acc.length ≠ 256) (hl : lineF pp (cutB 10 l) = (none, (k : Int))) : parseL pp (n + 1) l a acc = (none, (a : Int) + k, 4) := by
  conv => lhs; unfold parseL
  rw [if_neg (by rw [h]; decide), if_pos hc, if_neg ha, hl]
theorem parseL_good {pp : List UInt8 → Bool} {n : Nat} {l : List UInt8} {a : Nat} {acc : List (Int × Cx)} {d : Int × Cx} (h : l.isEmpty = false) (hc : isCmd (cutB 10 l) = true) (ha : acc.length ≠ 256) (hl : lineF pp (cutB 10 l) = (some d, -1)) : parseL pp (n + 1) l a acc = parseL pp n (l.drop ((cutB 10 l).length + 1)) (a + ((cutB 10 l).length + 1)) (acc ++ [d]) := by
  conv => lhs; unfold parseL
  rw [if_neg (by rw [h]; decide), if_pos hc, if_neg ha, hl]
theorem check_some (s : ByteArray) (w : World) (hT : Tabs w) (n : Nat) (h : cp s.data.toList = some n) : Calls Tryz.prog 12 #[.string s] w fun e w' => e = .returned (.tuple #[.int .i64 n, .int .i64 11]) ∧ Below w.heap.size w w' := by
  have := check_any s w hT
  rw [h] at this
  exact this
theorem check_none (s : ByteArray) (w : World) (hT : Tabs w) (h : cp s.data.toList = none) : Calls Tryz.prog 12 #[.string s] w fun e w' => e = .returned (.tuple #[.int .i64 (-1), .int .i64 0]) ∧ Below w.heap.size w w' := by
  have := check_any s w hT
  rw [h] at this
  exact this
theorem pinv_keep {B FB : Nat} {ov : Value} {acc : List (Int × Cx)} {w2 wr wr' : World} (hov : CmdsAt B ov acc wr) (hbw : Below B w2 wr) (hB : B ≤ wr.heap.size) (hFo : Forms FB wr) (hEn : Env wr) (hb : Below wr.heap.size wr wr') : CmdsAt B ov acc wr' ∧ Below B w2 wr' ∧ Forms FB wr' ∧ Env wr' :=
  ⟨hov.below hb, hbw.trans (hb.mono hB), hFo.below hb (by have := hFo.lt; omega), hEn.below hb⟩
theorem cmds_push {B B3 : Nat} {v v' : Value} {M : List CM} {W w' : World} {o : Obj} (d : Int × Cx) (nv fv : Value) (hown : W.ownsRow B 29 4 v M.length (M.flatMap CM.cells)) (hrows : ∀ m ∈ M, RowS B m.nv m.cx.ns W ∧ RowI B m.fv m.cx.fs W)
    (h1 : RowS B3 nv d.2.ns W) (h2 : RowI B3 fv d.2.fs W) (hB : B ≤ B3) (hr : w'.ownsRow B 29 4 v' (M.length + 1) (M.flatMap CM.cells ++ [.int .i64 d.1, nv, fv, .string d.2.tx])) (hg : (W.alloc o).grownBy w' v.ownBlock) :
    CmdsAt B v' (M.map (fun m => (m.op, m.cx)) ++ [d]) w' := by
  refine ⟨M ++ [⟨d.1, nv, fv, d.2⟩], by simp, ?_, ?_⟩
  · rw [List.length_append, List.flatMap_append]
    exact hr
  · intro m hm
    rcases List.mem_append.1 hm with h | h
    · exact ⟨row_grown (hrows m h).1 hown (by decide) hg, row_grown (hrows m h).2 hown (by decide) hg⟩
    · simp only [List.mem_singleton] at h
      subst h
      exact ⟨row_base (row_grown h1 hown (by decide) hg) hB, row_base (row_grown h2 hown (by decide) hg) hB⟩
set_option maxHeartbeats 4000000 in
set_option maxRecDepth 100000 in
theorem parse_any (pp : List UInt8 → Bool) (s : ByteArray) (w : World) (hE : Env w) (hs : s.size ≤ maxLen) (hok : parseOk pp s.size s.data.toList) :
    Calls Tryz.prog 6 #[.string s] w fun e w' => Below w.heap.size w w' ∧ ParseP w.heap.size (parseF pp s.data.toList) e w' := by
  have hl : s.data.toList.length = s.size := by simp
  have HE := Lib.hid hE
  have HOK := Lib.hid hok
  unfold maxLen at hs
  clear hE hok
  by_cases hlen : s.size ≤ 65536
  · have hlen2 : (s.size : Int) ≤ 65536 := by omega
    cases hcp : cp s.data.toList with
    | some n =>
      have HR : Hid (parseF pp s.data.toList = (none, (n : Int), 11)) := by
        show _ = _; unfold parseF; rw [if_neg (by omega), hcp]
      have HC := Lib.hid hcp
      have HL := Lib.hid hl
      clear hcp hl
      go_enter Tryz.func6, Tryz.ntmps6
      go_wp2_with (go_at_call 12; refine (check_some _ _ HE.out.tabs n HC.out).mono ?_; rintro e w1 ⟨rfl, hb1⟩)
      go_ret3
      exact ⟨hb1, by rw [HR.out]; exact ⟨_, rfl, CmdsAt.nil _ _⟩⟩
    | none =>
      have HR : Hid (parseF pp s.data.toList = parseL pp s.data.toList.length s.data.toList 0 []) := by
        show _ = _; unfold parseF; rw [if_neg (by omega), hcp]
      have HC := Lib.hid hcp
      have HL := Lib.hid hl
      clear hcp hl
      go_enter Tryz.func6, Tryz.ntmps6
      go_wp2_with (first
        | (go_at_call 12; refine (check_none _ _ HE.out.tabs HC.out).mono ?_; rintro e w1 ⟨rfl, hb1⟩; have HB1 := Lib.hid hb1; clear hb1)
        | (go_at_call 7; refine (forms_any _).mono ?_; rintro e w2 ⟨rfl, hf⟩; have HF := Lib.hid hf; clear hf))
      go_loopw [8, 9] (fun ov fv wr => ∃ (a n : Nat) (acc : List (Int × Cx)) (oa : Option Addr) (oc : Nat), fv = .int .i64 a ∧ ov = .slice oa acc.length oc ∧ PInv pp s.data.toList w2 w1.heap.size wr (.slice oa acc.length oc) a acc n) (fun _ fv _ => s.size + 1 - (intOf fv).toNat)
      case atStart =>
        have hl := HL.out
        exact ⟨0, s.size, [], none, 0, rfl, rfl, by omega, by omega, by simp, CmdsAt.nil _ _, Below.refl _ _, HF.out.forms, (HE.out.below HB1.out).below HF.out.below, by rw [hl, List.drop_zero], by rw [List.drop_zero]; exact HOK.out⟩
      case round =>
        obtain ⟨a, n, acc, oa, oc, rfl, rfl, hI⟩ := hrel
        have hl := HL.out
        obtain ⟨ha, hn, hacc, hov, hbw, hFo, hEn, heq, hpo⟩ := hI
        rw [hl] at ha hn
        obtain ⟨M, hM, hown, hrows⟩ := hov
        have hML : M.length = acc.length := by rw [← hM]; simp
        by_cases hlt : a < s.size
        · obtain ⟨m, rfl⟩ : ∃ m, n = m + 1 := ⟨n - 1, by omega⟩
          have hemp : (s.data.toList.drop a).isEmpty = false := by
            cases h : s.data.toList.drop a with
            | nil => have := congrArg List.length h; simp at this; omega
            | cons x r => rfl
          have hext : (s.extract a s.size).data.toList = s.data.toList.drop a := by
            simp [ByteArray.data_extract]
            exact List.take_of_length_le (Nat.le_of_eq (by rw [List.length_drop, hl]))
          have hcl := cutB_le 10 (s.data.toList.drop a)
          rw [List.length_drop, hl] at hcl
          obtain ⟨S, hS⟩ : ∃ S : ByteArray, S = ⟨(cutB 10 (s.data.toList.drop a)).toArray⟩ := ⟨_, rfl⟩
          have hSl : S.data.toList = cutB 10 (s.data.toList.drop a) := by rw [hS]
          have hSz : (cutB 10 (s.data.toList.drop a)).length = S.size := by rw [← hSl]; simp
          rw [hSz] at hcl
          have hok2 := hpo hemp
          rw [hSz, List.drop_drop] at hok2
          have hskip := parseL_skip (pp := pp) (n := m) (a := a) (acc := acc) hemp
          have hmany := parseL_many (pp := pp) (n := m) (a := a) (acc := acc) hemp
          have hbad := fun k => parseL_bad (pp := pp) (n := m) (a := a) (k := k) (acc := acc) hemp
          have hgood := fun d => parseL_good (pp := pp) (n := m) (a := a) (d := d) (acc := acc) hemp
          rw [hSz, List.drop_drop, ← heq] at hskip
          rw [← heq] at hmany
          simp only [hSz, List.drop_drop, ← heq] at hgood
          simp only [← heq] at hbad
          have HX := Lib.hid hext
          have HS := Lib.hid hS
          have HEXS : Hid ((s.extract a s.size).size ≤ maxLen) := by show (s.extract a s.size).size ≤ maxLen; unfold maxLen; simp; omega
          have HOV : Hid (CmdsAt w2.heap.size (.slice oa acc.length oc) acc wr) := ⟨M, hM, hown, hrows⟩
          have HB2 : Hid (w2.heap.size ≤ wr.heap.size) := hbw.size
          have HKEEP := Lib.hid (fun (W : World) (h : Below wr.heap.size wr W) => pinv_keep HOV.out hbw HB2.out hFo hEn h)
          have hcl2 : (S.size : Int) ≤ 65536 := by omega
          have hla : (a : Int) < s.size := by omega
          have hla2 : (a : Int) ≤ s.size := by omega
          have hla0 : (0 : Int) ≤ a := by omega
          have HM := Lib.hid (And.intro hM (And.intro hown hrows))
          have HSL := Lib.hid hSl
          have HCL := Lib.hid hcl
          have HN := Lib.hid hn
          clear hext hS hpo heq hM hown hrows hSz hSl hcl hl hn hbw hFo hEn hlt
          by_cases h0 : S.size = 0
          · obtain rfl : S = ⟨#[]⟩ := by
              have : S.data.size = 0 := h0
              exact ext_list (by simp [Array.eq_empty_of_size_eq_zero this])
            have HR2 := Lib.hid (hskip (by rw [← HSL.out]; rfl))
            have HO2 := Lib.hid hok2.2
            clear hskip hmany hbad hgood hok2 h0
            go_wp2_with (go_at_call 13; refine (cut_any _ 10 _ HEXS.out).mono ?_; rw [HX.out, ← HS.out]; rintro e w3 ⟨rfl, k, rfl⟩)
            go_roundw
            case rel =>
              obtain ⟨k1, k2, k3, k4⟩ := HKEEP.out _ (below_drewN _ _ _)
              have := HN.out
              exact ⟨a + (0 + 1), m, acc, oa, oc, congrArg _ (by omega), rfl, by rw [HL.out]; omega, by rw [HL.out]; omega, hacc, k1, k2, k3, k4, HR2.out, HO2.out⟩
            case measure => simp [intOf]; omega
          · have hpos : 0 < S.size := by omega
            have hget : S.data.toList.getD 0 0 = S[0] := getD_of S 0 hpos
            have hne : S.data.toList.isEmpty = false := by
              cases h : S.data.toList with
              | nil => exact absurd (by simpa using congrArg List.length h) h0
              | cons x r => rfl
            have hic : isCmd (cutB 10 (s.data.toList.drop a)) = (S[0] != 35) := by
              rw [← HSL.out]; unfold isCmd; rw [hget, hne]; rfl
            have e2 : ¬ S.toList = [] := fun e => by
              have := (toList_nil_iff_emptyBytes S).1 e
              subst this
              exact h0 rfl
            have e4 : (!S.toList.isEmpty) = true := by
              cases h : S.toList with
              | nil => exact absurd h e2
              | cons x r => rfl
            by_cases h35 : S[0] = 35
            · have e5 : ((S[0].toNat : Int) != 35) = false := by rw [h35]; rfl
              have HR2 := Lib.hid (hskip (by rw [hic, h35]; rfl))
              have HO2 := Lib.hid hok2.2
              clear hskip hmany hbad hgood hok2 h0 h35 hic hne hget
              go_wp2_with (go_at_call 13; refine (cut_any _ 10 _ HEXS.out).mono ?_; rw [HX.out, ← HS.out]; rintro e w3 ⟨rfl, k, rfl⟩)
              go_roundw
              case rel =>
                obtain ⟨k1, k2, k3, k4⟩ := HKEEP.out _ (below_drewN _ _ _)
                have := HN.out
                have := HCL.out
                exact ⟨a + (S.size + 1), m, acc, oa, oc, congrArg _ (by omega), rfl, by rw [HL.out]; omega, by rw [HL.out]; omega, hacc, k1, k2, k3, k4, HR2.out, HO2.out⟩
              case measure => simp [intOf]; omega
            · have e5 : ((S[0].toNat : Int) != 35) = true := by
                simp only [bne_iff_ne, ne_eq]
                exact fun e => h35 (UInt8.toNat_inj.1 (by have e : (35 : UInt8).toNat = 35 := rfl; omega))
              have hic2 : isCmd (cutB 10 (s.data.toList.drop a)) = true := by rw [hic]; simpa using h35
              by_cases hm : acc.length = 256
              · have e6 : ((acc.length : Int) == 256) = true := by simp; omega
                have HR2 := Lib.hid (hmany hic2 hm)
                clear hskip hmany hbad hgood hok2 h0 h35 hic hne hget hic2 hm
                go_wp2_with (go_at_call 13; refine (cut_any _ 10 _ HEXS.out).mono ?_; rw [HX.out, ← HS.out]; rintro e w3 ⟨rfl, k, rfl⟩)
                go_ret3
                obtain ⟨k1, k2, k3, k4⟩ := HKEEP.out _ (below_drewN _ _ k)
                have hb := HB1.out.trans (HF.out.below.mono HB1.out.size)
                refine ⟨hb.trans (k2.mono hb.size), ?_⟩
                rw [HR.out, HR2.out]
                exact ⟨_, rfl, CmdsAt.nil _ _⟩
              · have e6 : ((acc.length : Int) == 256) = false := by simp; omega
                have HLF : Hid (lineFok pp S.data.toList) := by
                  show lineFok pp S.data.toList
                  rw [HSL.out]; exact hok2.1 hic2
                have HSS : Hid (S.size ≤ 35184372088000) := by show S.size ≤ 35184372088000; omega
                have HO2 := Lib.hid hok2.2
                rcases lineF_at pp (cutB 10 (s.data.toList.drop a)) with ⟨d, hd⟩ | ⟨kk, hd, hk⟩
                · have HR2 := Lib.hid (hgood d hic2 hm hd)
                  rw [← HSL.out] at hd
                  have HD := Lib.hid hd
                  have HAC : Hid (acc.length + 1 ≤ 256) := by show acc.length + 1 ≤ 256; omega
                  clear hskip hmany hbad hgood hok2 h0 h35 hic hne hget hic2 hm hd
                  go_wp2_with (first
                    | (go_at_call 13; refine (cut_any _ 10 _ HEXS.out).mono ?_; rw [HX.out, ← HS.out]; rintro e w3 ⟨rfl, k, rfl⟩)
                    | (go_at_call 14; refine (line_some pp S _ _ (HKEEP.out _ (below_drewN _ _ _)).2.2.1 (HKEEP.out _ (below_drewN _ _ _)).2.2.2 HSS.out HLF.out d HD.out).mono ?_; rintro e w4 ⟨a1, n1, c1, a2, n2, c2, rfl, hb4, hr1, hr2⟩; have H4 := Lib.hid (And.intro ((below_drewN wr.heap.size wr k).trans hb4) (And.intro hr1 hr2)); clear hb4 hr1 hr2)
                    | (at_builtin; (refine app_gen (B := w2.heap.size) (xs := M.flatMap CM.cells) (n := M.length) Tryz.underlying30 info_cmd rfl (by decide) (by decide) _ rfl _ _ rfl rfl (World.ownsRow.alloc (row_below HM.out.2.1 H4.out.1) _) _ rfl (cmd_one _ _ _ _ _ _ _ _) (w4.heap.size + 1) _ (World.size_alloc' _ _) rfl ?c1 ?c2 ?_)))
                  case c1 =>
                    have h1 := HM.out.1
                    have h2 := HAC.out
                    have h3 := congrArg List.length h1
                    simp at h3; omega
                  case c2 =>
                    have := HB2.out
                    have := H4.out.1.size
                    simp; omega
                  intro v' w5 hr hb5 hg
                  have h4 := H4.out
                  have hk2 : Below w2.heap.size w2 wr := by
                    obtain ⟨k1, k2, k3, k4⟩ := HKEEP.out _ (Below.refl _ _)
                    exact k2
                  have hk3 : Forms w1.heap.size w4 ∧ Env w4 := by
                    obtain ⟨k1, k2, k3, k4⟩ := HKEEP.out _ h4.1
                    exact ⟨k3, k4⟩
                  have hsz : w1.heap.size + 20 ≤ w2.heap.size := by have := HF.out.size; omega
                  have hmr := HM.out
                  have hB4 : Below w2.heap.size w2 w4 := hk2.trans (h4.1.mono HB2.out)
                  have hE2 : Env w2 := (HE.out.below HB1.out).below HF.out.below
                  have hb6 : Below w2.heap.size w4 w5 := ((Below.refl _ w4).alloc hB4.size _).trans hb5
                  have hfin : CmdsAt w2.heap.size v' (acc ++ [d]) w5 := by
                    rw [← hML] at hr
                    rw [← hmr.1]
                    exact cmds_push d _ _ (World.ownsRow.alloc (row_below hmr.2.1 h4.1) _) (fun m hm => ⟨World.ownsRow.alloc (row_below (hmr.2.2 m hm).1 h4.1) _, World.ownsRow.alloc (row_below (hmr.2.2 m hm).2 h4.1) _⟩) (World.ownsRow.alloc h4.2.1 _) (World.ownsRow.alloc h4.2.2 _) HB2.out hr hg
                  obtain ⟨oa2, oc2, rfl⟩ := hfin.slice
                  have HP : Hid (CmdsAt w2.heap.size (.slice oa2 (acc ++ [d]).length oc2) (acc ++ [d]) w5 ∧ Below w2.heap.size w2 w5 ∧ Forms w1.heap.size w5 ∧ Env w5) :=
                    ⟨hfin, hB4.trans hb6, hk3.1.below hb6 hsz, hk3.2.below' hb6 hE2.lows.1 hE2.lows.2.1 hE2.lows.2.2⟩
                  clear hr hb5 hg h4 hk2 hk3 hsz hmr hB4 hE2 hb6 hfin
                  go_wp2
                  go_roundw
                  case rel =>
                    obtain ⟨k1, k2, k3, k4⟩ := HP.out
                    have := HN.out
                    have := HCL.out
                    have := HAC.out
                    exact ⟨a + (S.size + 1), m, acc ++ [d], oa2, oc2, congrArg _ (by omega), rfl, by rw [HL.out]; omega, by rw [HL.out]; omega, by simp; omega, k1, k2, k3, k4, HR2.out, HO2.out⟩
                  case measure => simp [intOf]; omega
                · have HR2 := Lib.hid (hbad kk hic2 hm hd)
                  have hkk : (kk : Int) ≤ 65536 := by have := HSL.out; have h2 := congrArg List.length this; simp at h2; omega
                  rw [← HSL.out] at hd
                  have HD := Lib.hid hd
                  have hkk0 : (0 : Int) ≤ kk := by omega
                  clear hskip hmany hbad hgood hok2 h0 h35 hic hne hget hic2 hm hd hk
                  go_wp2_with (first
                    | (go_at_call 13; refine (cut_any _ 10 _ HEXS.out).mono ?_; rw [HX.out, ← HS.out]; rintro e w3 ⟨rfl, k, rfl⟩)
                    | (go_at_call 14; refine (line_none pp S _ _ (HKEEP.out _ (below_drewN _ _ _)).2.2.1 (HKEEP.out _ (below_drewN _ _ _)).2.2.2 HSS.out HLF.out kk HD.out).mono ?_; rintro e w4 ⟨op, a1, n1, c1, a2, n2, c2, tx, rfl, hb4⟩; have H4 := Lib.hid ((below_drewN wr.heap.size wr k).trans hb4); clear hb4))
                  go_ret3
                  have hb := HB1.out.trans (HF.out.below.mono HB1.out.size)
                  obtain ⟨k1, k2, k3, k4⟩ := HKEEP.out _ H4.out
                  refine ⟨(hb.trans (k2.mono hb.size)).alloc (Nat.le_trans (Nat.le_trans hb.size k2.size) (Nat.le_refl _)) _, ?_⟩
                  rw [HR.out, HR2.out]
                  exact ⟨_, rfl, CmdsAt.nil _ _⟩
        · have hge : ¬ (a : Int) < s.size := by omega
          have HEQ : Hid (parseL pp s.data.toList.length s.data.toList 0 [] = (some acc, 0, 0)) := by
            show _ = _
            rw [heq, List.drop_eq_nil_of_le (by omega), parseL_nil]
          have HCM : Hid (CmdsAt w2.heap.size (.slice oa acc.length oc) acc wr) := ⟨M, hM, hown, hrows⟩
          clear hM hown hrows hML heq hpo hl
          go_wp2
          go_ret3
          have hb := HB1.out.trans (HF.out.below.mono HB1.out.size)
          have hb2 := hb.trans (hbw.mono hb.size)
          refine ⟨hb2, ?_⟩
          rw [HR.out, HEQ.out]
          obtain ⟨M, h1, h2, h3⟩ := HCM.out
          exact ⟨_, rfl, M, h1, row_base h2 hb.size, fun m hm => ⟨row_base (h3 m hm).1 hb.size, row_base (h3 m hm).2 hb.size⟩⟩
  · have HR : Hid (parseF pp s.data.toList = (none, 0, 6)) := by
      show _ = _; unfold parseF; rw [if_pos (by omega)]
    have hlen2 : ¬ (s.size : Int) ≤ 65536 := by omega
    have hlen3 : 65536 < (s.size : Int) := by omega
    have HL := Lib.hid hl
    clear hl
    go_enter Tryz.func6, Tryz.ntmps6
    go_wp2
    go_ret3
    exact ⟨Below.refl _ _, by rw [HR.out]; exact ⟨_, rfl, CmdsAt.nil _ _⟩⟩
end Go.Proofs.YtfnemklcmhilnaaGreatDoor
