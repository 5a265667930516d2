/- A line of a script: what line hands back. -/
import Derived.Test.YtfnemklcmhilnaaGreatDoorScH
import Derived.Maps.OwnOps
namespace Go.Proofs.YtfnemklcmhilnaaGreatDoor
open Go.RowKit
open Go.Lib hiding intOf
def moreOf (j : Nat) : Bool := j == 12
theorem formL_inv {v : List Value} {x op b n c : DataW Unit} {ps : List MemPlace} (h : formL v = some (.agg [op, b, n, c, x], ps)) : ∃ op' b' n' c' m, v = [.int .i64 op', .slice (some ⟨b', 0, none⟩) n' c', .bool m] ∧ op = .lit (.int .i64 op') ∧ b = .lit (.int .i64 (b' : Int)) ∧ n = .lit (.int .i64 (n' : Int)) ∧ c = .lit (.int .i64 (c' : Int)) ∧ x = .lit (.bool m) := by
  unfold formL at h
  split at h
  · rename_i op' b' o sp n' c' m
    split at h
    · rename_i hc
      obtain ⟨rfl, h2⟩ := hc
      obtain rfl : sp = none := by simpa using h2
      simp only [Option.some.injEq, Prod.mk.injEq, DataW.agg.injEq, List.cons.injEq, and_true] at h
      obtain ⟨⟨h1, h2, h3, h4, h5⟩, -⟩ := h
      exact ⟨op', b', n', c', m, rfl, h1.symm, h2.symm, h3.symm, h4.symm, h5.symm⟩
    · cases h
  · split at h
    · simp at h
    · cases h
  · cases h
theorem elD_inv {FB : Nat} {v : Value} {ps : List MemPlace} {j : Nat} (hj : j < 15) (h : formR (H := Unit) v = some (elD FB j, ps)) : v = .agg #[.int .i64 (opOf j), .slice (some ⟨FB + 5 + j, 0, none⟩) (argsOf j).length (argsOf j).length, .bool (moreOf j)] := by
  cases v with
  | agg cs =>
    have h' : formL cs.toList = some (elD FB j, ps) := h
    have key : ∀ (op : Int) (b : Nat) (n : Nat) (m : Bool), elD (H := Unit) FB j = .agg [.lit (.int .i64 op), .lit (.int .i64 (b : Int)), .lit (.int .i64 (n : Int)), .lit (.int .i64 (n : Int)), .lit (.bool m)] → Value.agg cs = .agg #[.int .i64 op, .slice (some ⟨b, 0, none⟩) n n, .bool m] := by
      intro op b n m e
      rw [e] at h'
      obtain ⟨op', b', n', c', m', h0, h1, h2, h3, h4, h5⟩ := formL_inv h'
      simp only [DataW.lit.injEq, Lit.int.injEq, true_and, Lit.bool.injEq, Int.ofNat_inj] at h1 h2 h3 h4 h5
      subst h1 h2 h3 h4 h5
      congr 1
      apply Array.toList_inj.1
      exact h0
    rcases j with _ | _ | _ | _ | _ | _ | _ | _ | _ | _ | _ | _ | _ | _ | _ | j
    case succ => omega
    all_goals exact key _ _ _ _ rfl
  | _ => cases h
/-- what the rest of a line gives -/
def lineL (pp : List UInt8 → Bool) (l : List UInt8) : List AK → Nat → Cx → Option Cx × Int
  | [], a, c => if a < l.length then (none, a) else (some c, -1)
  | K :: ks, a, c => if a = l.length then (none, a) else if l.getD a 0 ≠ 32 then (none, a) else if a + 1 = l.length then (none, (a : Int) + 1)
    else if rdOk pp K (l.drop (a + 1)) then lineL pp l ks (a + 1 + (rdN pp K (l.drop (a + 1))).toNat) (rdC pp K (l.drop (a + 1)) c) else (none, (a : Int) + 1)
def lineOk (pp : List UInt8 → Bool) (l : List UInt8) : List AK → Nat → Prop
  | [], _ => True
  | K :: ks, a => a < l.length → l.getD a 0 = 32 → a + 1 < l.length → (K = .p → PathAt (uqT (l.drop (a + 1))) (pp (uqT (l.drop (a + 1))))) ∧ (rdOk pp K (l.drop (a + 1)) = true → lineOk pp l ks (a + 1 + (rdN pp K (l.drop (a + 1))).toNat))
theorem uq_rest (l : List UInt8) : ∀ p, uq l = some p → p.2.length ≤ l.length := by
  induction hn : l.length using Nat.strongRecOn generalizing l with
  | _ n ih =>
    intro p hp
    have go : ∀ (r : List UInt8) (f : List UInt8 × List UInt8 → List UInt8 × List UInt8), (∀ q, (f q).2 = q.2) → r.length < n → (uq r).map f = some p → p.2.length ≤ n := by
      intro r f hf hr he
      cases h : uq r with
      | none => rw [h] at he; cases he
      | some q =>
        rw [h] at he
        obtain rfl : f q = p := by simpa using he
        rw [hf]
        have := ih _ hr r rfl q h
        omega
    cases l with
    | nil => cases hp
    | cons c r =>
      subst hn
      unfold uq at hp
      split at hp
      · obtain rfl := Option.some.inj hp; simp
      split at hp
      · cases hp
      split at hp
      · exact go r (fun p => (_ :: p.1, p.2)) (fun _ => rfl) (by simp) hp
      split at hp
      · cases hp
      rename_i e r2
      split at hp
      · exact go r2 (fun p => (_ :: p.1, p.2)) (fun _ => rfl) (by simp; omega) hp
      split at hp
      · exact go r2 (fun p => (_ :: p.1, p.2)) (fun _ => rfl) (by simp; omega) hp
      split at hp
      · exact go r2 (fun p => (_ :: p.1, p.2)) (fun _ => rfl) (by simp; omega) hp
      split at hp
      · exact go r2 (fun p => (_ :: p.1, p.2)) (fun _ => rfl) (by simp; omega) hp
      split at hp
      · split at hp
        · split at hp
          · cases hp
          · exact go _ (fun p => (_ :: p.1, p.2)) (fun _ => rfl) (by simp; omega) hp
        · cases hp
      · cases hp
theorem uqN_bd (l : List UInt8) : 0 ≤ uqN l ∧ uqN l ≤ l.length := by
  unfold uqN
  cases h : uqR l with
  | none => simp
  | some p =>
    unfold uqR at h
    split at h
    · have := uq_rest _ p h
      rw [List.length_drop] at this
      simp only
      omega
    · cases h
theorem rdN_bd (pp : List UInt8 → Bool) (K : AK) (r : List UInt8) : 0 ≤ rdN pp K r ∧ rdN pp K r ≤ r.length := by
  have h1 := cutB_le 32 r
  have h2 := uqN_bd r
  cases K <;> simp only [rdN]
  · omega
  · split <;> omega
  · split <;> omega
  · exact h2
def LinePost (B : Nat) (op : Int) (r : Option Cx × Int) (e : Ending) (w' : World) : Prop :=
  ∃ a1 n1 c1 a2 n2 c2 tx, e = .returned (.tuple #[.agg #[.int .i64 op, .slice a1 n1 c1, .slice a2 n2 c2, .string tx], .int .i64 r.2]) ∧ ∀ c, r.1 = some c → tx = c.tx ∧ RowS B (.slice a1 n1 c1) c.ns w' ∧ RowI B (.slice a2 n2 c2) c.fs w'
theorem extract_take (s : ByteArray) (n : Nat) : s.extract 0 n = ⟨(s.data.toList.take n).toArray⟩ := ext_list (by simp [ByteArray.data_extract])
theorem zero_form (w : World) : (zeroValue 60).run Tryz.prog w = .ok (.agg #[.int .i64 0, .slice none 0 0, .bool false]) w := by kernel_rfl
theorem args_le {j : Nat} (hj : j < 15) : (argsOf j).length ≤ 4 := by
  rcases j with _ | _ | _ | _ | _ | _ | _ | _ | _ | _ | _ | _ | _ | _ | _ | j
  case succ => omega
  all_goals decide
theorem row_slice {w : World} {B e n : Nat} {v : Value} {xs : List Value} (h : w.ownsRow B e 1 v n xs) : ∃ a k c, v = .slice a k c := by
  rcases h.2 with ⟨rfl, _⟩ | ⟨g, cap, cur, rfl, _⟩
  · exact ⟨_, _, _, rfl⟩
  · exact ⟨_, _, _, rfl⟩
structure LInv (pp : List UInt8 → Bool) (l : List UInt8) (w : World) (FB j L : Nat) (wr : World) (k a : Nat) (cx : Cx) : Prop where
  hk : k ≤ (argsOf j).length
  ha : a ≤ l.length
  below : Below w.heap.size w wr
  res : wr.heap[w.heap.size]? = some (cmd 0 (.slice none 0 0) (.slice none 0 0) ⟨#[]⟩)
  frm : wr.heap[w.heap.size + 1]? = some (.cells #[.int .i64 (opOf j), .slice (some ⟨FB + 5 + j, 0, none⟩) (argsOf j).length (argsOf j).length, .bool (moreOf j)] 60)
  cm : CmdC w.heap.size (w.heap.size + 1 + 1) (opOf j) cx wr
  eq : lineL pp l (argsOf j) L ⟨[], [], ⟨#[]⟩⟩ = lineL pp l ((argsOf j).drop k) a cx
  ok : lineOk pp l ((argsOf j).drop k) a
  ln : cx.ns.length ≤ k
  lf : cx.fs.length ≤ k
theorem LInv.at_end {pp : List UInt8 → Bool} {l : List UInt8} {w : World} {FB j L : Nat} {wr : World} {k a : Nat} {cx : Cx} (h : LInv pp l w FB j L wr k a cx) (hk : (argsOf j).length ≤ k) :
    lineL pp l (argsOf j) L ⟨[], [], ⟨#[]⟩⟩ = if a < l.length then (none, (a : Int)) else (some cx, -1) := by
  rw [h.eq, List.drop_eq_nil_of_le hk]; rfl
theorem linv_start (pp : List UInt8 → Bool) (l : List UInt8) (w : World) (FB j L n : Nat) (hL : L ≤ l.length) (hok : lineOk pp l (argsOf j) L) :
    LInv pp l w FB j L ((((w.alloc (cmd 0 (.slice none 0 0) (.slice none 0 0) ⟨#[]⟩)).drewN n).alloc (.cells #[.int .i64 (opOf j), .slice (some ⟨FB + 5 + j, 0, none⟩) (argsOf j).length (argsOf j).length, .bool (moreOf j)] 60)).alloc (cmd (opOf j) (.slice none 0 0) (.slice none 0 0) ⟨#[]⟩)) 0 L ⟨[], [], ⟨#[]⟩⟩ := by
  have s1 : ((w.alloc (cmd 0 (.slice none 0 0) (.slice none 0 0) ⟨#[]⟩)).drewN n).heap.size = w.heap.size + 1 := by simp [World.drewN]
  have s2 : (((w.alloc (cmd 0 (.slice none 0 0) (.slice none 0 0) ⟨#[]⟩)).drewN n).alloc (.cells #[.int .i64 (opOf j), .slice (some ⟨FB + 5 + j, 0, none⟩) (argsOf j).length (argsOf j).length, .bool (moreOf j)] 60)).heap.size = w.heap.size + 1 + 1 := by simp [World.drewN]
  refine ⟨Nat.zero_le _, hL, ?_, ?_, ?_, ⟨.slice none 0 0, .slice none 0 0, by omega, ?_, ⟨rfl, .inl ⟨rfl, rfl⟩⟩, ⟨rfl, .inl ⟨rfl, rfl⟩⟩⟩, rfl, hok, Nat.le_refl _, Nat.le_refl _⟩
  · exact ((((Below.refl _ w).alloc (Nat.le_refl _) _).trans (below_drewN _ _ _)).alloc (by omega) _).alloc (by omega) _
  · rw [Lib.alloc_old _ _ _ (by omega), Lib.alloc_old _ _ _ (by omega)]
    exact heap_alloc_new w _
  · rw [Lib.alloc_old _ _ _ (by omega), ← s1]
    exact heap_alloc_new _ _
  · rw [← s2]
    exact heap_alloc_new _ _
theorem row_set {w : World} {B e n b k : Nat} {v u : Value} {xs : List Value} {cs : Array Value} {T : TypeId} {fr : Nat × Nat} (h : w.ownsRow B e 1 v n xs) (hb : w.heap[b]? = some (.cells cs T fr)) (hT : T ≠ e) : (w.setCell ⟨b, k, none⟩ u).ownsRow B e 1 v n xs :=
  World.ownsRow.kept h (row := some b) ⟨rfl, rfl, rfl, by simp [World.setCell], fun i _ hi => Below.heap_setCell _ _ _ _ (fun e => hi (by simp [e]))⟩ (.inr (Lib.ownBlock_ne h hb hT))
def stored (wr : World) (b : Nat) (v0 v1 v2 v3 : Value) : World := (((wr.setCell ⟨b, 0, none⟩ v0).setCell ⟨b, 1, none⟩ v1).setCell ⟨b, 2, none⟩ v2).setCell ⟨b, 3, none⟩ v3
theorem row_stored {w : World} {B e n b : Nat} {v v0 v1 v2 v3 : Value} {xs : List Value} {cs : Array Value} {T : TypeId} {fr : Nat × Nat} (h : w.ownsRow B e 1 v n xs) (hb : w.heap[b]? = some (.cells cs T fr)) (hT : T ≠ e) : (stored w b v0 v1 v2 v3).ownsRow B e 1 v n xs :=
  row_set (row_set (row_set (row_set h hb hT) (set_block hb _) hT) (set_block (set_block hb _) _) hT) (set_block (set_block (set_block hb _) _) _) hT
theorem below_stored {w wr : World} {B b : Nat} (h : Below B w wr) (hB : B ≤ b) (v0 v1 v2 v3 : Value) : Below B w (stored wr b v0 v1 v2 v3) :=
  (((h.setCell (p := ⟨b, 0, none⟩) hB _).setCell (p := ⟨b, 1, none⟩) hB _).setCell (p := ⟨b, 2, none⟩) hB _).setCell (p := ⟨b, 3, none⟩) hB _
theorem LInv.at_arg {pp : List UInt8 → Bool} {l : List UInt8} {w : World} {FB j L : Nat} {wr : World} {k a : Nat} {cx : Cx} (h : LInv pp l w FB j L wr k a cx) (hk : k < (argsOf j).length) :
    lineL pp l (argsOf j) L ⟨[], [], ⟨#[]⟩⟩ = lineL pp l ((argsOf j)[k] :: (argsOf j).drop (k + 1)) a cx ∧ lineOk pp l ((argsOf j)[k] :: (argsOf j).drop (k + 1)) a := by
  rw [h.eq]
  have := h.ok
  rw [List.drop_eq_getElem_cons hk] at this ⊢
  exact ⟨rfl, this⟩
theorem lineL_cons (pp : List UInt8 → Bool) (l : List UInt8) (K : AK) (ks : List AK) (a : Nat) (c : Cx) : lineL pp l (K :: ks) a c = (if a = l.length then ((none : Option Cx), (a : Int)) else if l.getD a 0 ≠ 32 then ((none : Option Cx), (a : Int)) else if a + 1 = l.length then ((none : Option Cx), (a : Int) + 1) else if rdOk pp K (l.drop (a + 1)) then lineL pp l ks (a + 1 + (rdN pp K (l.drop (a + 1))).toNat) (rdC pp K (l.drop (a + 1)) c) else ((none : Option Cx), (a : Int) + 1)) := rfl
theorem rdC_len (pp : List UInt8 → Bool) (K : AK) (r : List UInt8) (c : Cx) : (rdC pp K r c).ns.length ≤ c.ns.length + 1 ∧ (rdC pp K r c).fs.length ≤ c.fs.length + 1 := by
  cases K <;> simp only [rdC]
  · simp
  · split <;> simp
  · split <;> simp
  · simp
theorem key_str (l : List UInt8) (h : l.length ≤ maxLen) : keyOf Tryz.prog 9 (.string ⟨l.toArray⟩) = some (.string l) := by
  have : (⟨l.toArray⟩ : ByteArray).size ≤ maxLen := by simpa [ByteArray.size] using h
  simp [keyOf, mapKey, Tryz.underlying9, this]
set_option maxHeartbeats 4000000 in
set_option maxRecDepth 100000 in
theorem line_known (pp : List UInt8 → Bool) (s : ByteArray) (w : World) (FB j : Nat) (hF : Forms FB w) (hE : Env w) (hs : s.size ≤ 35184372088000) (hj : formIdx (cutB 32 s.data.toList) = some j) (hj2 : j ≠ 12) (hok : lineOk pp s.data.toList (argsOf j) (cutB 32 s.data.toList).length)
    (hlow : 0 < w.heap.size ∧ 1 < w.heap.size ∧ 2 < w.heap.size) :
    Calls Tryz.prog 14 #[.string s, .map (some (FB + 4))] w fun e w' => Below w.heap.size w w' ∧ LinePost w.heap.size (opOf j) (lineL pp s.data.toList (argsOf j) (cutB 32 s.data.toList).length ⟨[], [], ⟨#[]⟩⟩) e w' := by
  have hj15 := (formTo_lt hj).1
  have hcut := cutB_le 32 s.data.toList
  have hl : s.data.toList.length = s.size := by simp
  have hkey : s.extract 0 (cutB 32 s.data.toList).length = ⟨(cutB 32 s.data.toList).toArray⟩ := by rw [extract_take, cutB_take]
  have hat := formD_at (H := Unit) FB (cutB 32 s.data.toList) (.agg [.lit (.int .i64 0), .lit (.bool false)]) 15
  have hj' : formTo (cutB 32 s.data.toList) 15 = some j := hj
  rw [hj'] at hat
  obtain ⟨hat1, hat2⟩ := hat
  have HS : Hid (s.size ≤ maxLen) := by show s.size ≤ maxLen; unfold maxLen; omega
  have HKL : Hid ((cutB 32 s.data.toList).length ≤ maxLen) := by show (cutB 32 s.data.toList).length ≤ maxLen; unfold maxLen; omega
  have HF := Lib.hid hF
  have HE := Lib.hid hE
  have HOK := Lib.hid hok
  have HAT := Lib.hid hat1
  have HAS := Lib.hid hat2
  have HLOW := Lib.hid hlow
  generalize hL : (cutB 32 s.data.toList).length = L at *
  have hL2 : (L : Int) ≤ s.size := by omega
  clear hF hE hok hat1 hat2 hlow hj hj'
  go_enter Tryz.func14, Tryz.ntmps14
  have HK := Lib.hid (key_str (cutB 32 s.data.toList) (by rw [hL]; exact HKL.out))
  go_wp2_with (first
    | (go_at_call 26; refine (word_any _ _ HS.out).mono ?_; rintro e w1 ⟨rfl, n, rfl⟩)
    | (at_lookup; refine wpList_lookup_own_ok _ rfl _ _ 34 rfl 9 60 (Maps.string_keyed Tryz.underlying9) Tryz.underlying34 formR (zero_form _) (.agg [.lit (.int .i64 0), .lit (.bool false)]) [] rfl (FB + 4) 15 (formD FB 15) rfl (HF.out.own.alloc _) _ _ rfl HK.out ?_))
  intro v ps hv
  rw [HAT.out] at hv
  obtain rfl := elD_inv hj15 hv
  rw [HAS.out]
  clear hv
  go_wp2
  go_loopw [6, 10] (fun at_ i wr => ∃ (k a : Nat) (cx : Cx), i = .int .i64 k ∧ at_ = .int .i64 a ∧ LInv pp s.data.toList w FB j L wr k a cx) (fun _ i _ => (argsOf j).length - (intOf i).toNat)
  case atStart => exact ⟨0, L, ⟨[], [], ⟨#[]⟩⟩, rfl, rfl, linv_start pp s.data.toList w FB j L n hcut HOK.out⟩
  case round =>
    obtain ⟨k, a, cx, rfl, rfl, hinv⟩ := hrel
    have hm : moreOf j = false := by unfold moreOf; simpa using hj2
    obtain ⟨nv, fv, hcm⟩ := hinv.cm
    obtain ⟨na, nn, nc, rfl⟩ := row_slice hcm.names
    obtain ⟨fa, fn, fc, rfl⟩ := row_slice hcm.fmts
    have c0 : wr.cell? ⟨w.heap.size + 1 + 1, 0, none⟩ = some (.int .i64 (opOf j)) := (Lib.cell_of_heap hcm.blk 0).trans rfl
    have c1 : wr.cell? ⟨w.heap.size + 1 + 1, 1, none⟩ = some (.slice na nn nc) := (Lib.cell_of_heap hcm.blk 1).trans rfl
    have c2 : wr.cell? ⟨w.heap.size + 1 + 1, 2, none⟩ = some (.slice fa fn fc) := (Lib.cell_of_heap hcm.blk 2).trans rfl
    have c3 : wr.cell? ⟨w.heap.size + 1 + 1, 3, none⟩ = some (.string cx.tx) := (Lib.cell_of_heap hcm.blk 3).trans rfl
    have r0 : wr.cell? ⟨w.heap.size, 0, none⟩ = some (.int .i64 0) := (Lib.cell_of_heap hinv.res 0).trans rfl
    have r1 : wr.cell? ⟨w.heap.size, 1, none⟩ = some (.slice none 0 0) := (Lib.cell_of_heap hinv.res 1).trans rfl
    have r2 : wr.cell? ⟨w.heap.size, 2, none⟩ = some (.slice none 0 0) := (Lib.cell_of_heap hinv.res 2).trans rfl
    have r3 : wr.cell? ⟨w.heap.size, 3, none⟩ = some (.string ⟨#[]⟩) := (Lib.cell_of_heap hinv.res 3).trans rfl
    have rf : ∀ o, wr.frozen? ⟨w.heap.size, o, none⟩ = false := fun o => Lib.frozen_of_heap hinv.res o
    have f0 : wr.cell? ⟨w.heap.size + 1, 0, none⟩ = some (.int .i64 (opOf j)) := (Lib.cell_of_heap hinv.frm 0).trans rfl
    have f1 : wr.cell? ⟨w.heap.size + 1, 1, none⟩ = some (.slice (some ⟨FB + 5 + j, 0, none⟩) (argsOf j).length (argsOf j).length) := (Lib.cell_of_heap hinv.frm 1).trans rfl
    have f2 : wr.cell? ⟨w.heap.size + 1, 2, none⟩ = some (.bool (moreOf j)) := (Lib.cell_of_heap hinv.frm 2).trans rfl
    have HI := Lib.hid hinv
    have HCM := Lib.hid hcm
    have hka := hinv.hk
    have haa := hinv.ha
    rw [hl] at haa
    clear hinv hcm hkey
    by_cases hk : k < (argsOf j).length
    · have hk2 : (k : Int) < ((argsOf j).length : Int) := by omega
      obtain ⟨q1, q2⟩ := HI.out.at_arg hk
      generalize hK : (argsOf j)[k] = K at q1 q2
      by_cases ha : a = s.size
      · have HEQ : Hid (lineL pp s.data.toList (argsOf j) L ⟨[], [], ⟨#[]⟩⟩ = (none, (a : Int))) := by
          show _ = _
          rw [q1]; unfold lineL; rw [if_pos (by omega)]
        have e1 : ((a : Int) == (s.size : Int)) = true := by simp; omega
        clear q1 q2 ha hK
        go_wp2
        refine bodyPost_ret (v := .tuple #[.agg #[.int .i64 (opOf j), .slice na nn nc, .slice fa fn fc, .string cx.tx], .int .i64 a]) (by simp only [results, Tryz.results14]; go_simp) rfl ⟨below_stored HI.out.below (Nat.le_refl _) _ _ _ _, _, _, _, _, _, _, _, by rw [HEQ.out], fun c hc => by rw [HEQ.out] at hc; cases hc⟩
      have e1 : ((a : Int) == (s.size : Int)) = false := by simp; omega
      have e2 : (a : Int) < s.size := by omega
      have ha2 : a < s.size := by omega
      have hget : s.data.toList.getD a 0 = s[a] := getD_of s a ha2
      by_cases hc : s[a] = 32
      · have e3 : ((s[a].toNat : Int) != 32) = false := by rw [hc]; rfl
        by_cases hb : a + 1 = s.size
        · have HEQ : Hid (lineL pp s.data.toList (argsOf j) L ⟨[], [], ⟨#[]⟩⟩ = (none, (a : Int) + 1)) := by
            show _ = _
            rw [q1]; unfold lineL; rw [if_neg (by omega), if_neg (by rw [hget]; simpa using hc), if_pos (by omega)]
          have e4 : ((a : Int) + 1 == (s.size : Int)) = true := by simp; omega
          clear q1 q2 ha hK hc hget
          go_wp2
          refine bodyPost_ret (v := .tuple #[.agg #[.int .i64 (opOf j), .slice na nn nc, .slice fa fn fc, .string cx.tx], .int .i64 ((a : Int) + 1)]) (by simp only [results, Tryz.results14]; go_simp) rfl ⟨below_stored HI.out.below (Nat.le_refl _) _ _ _ _, _, _, _, _, _, _, _, by rw [HEQ.out], fun c hc => by rw [HEQ.out] at hc; cases hc⟩
        · have hb2 : a + 1 < s.size := by omega
          have e4 : ((a : Int) + 1 == (s.size : Int)) = false := by simp; omega
          have hcall := row_cell hj15 hk
          rw [hK] at hcall
          have HROW : Hid (w.heap[FB + 5 + j]? = some (.cells (rowV j) 57)) := HF.out.rows j hj15
          have HCALL := Lib.hid hcall
          have HQ := Lib.hid (And.intro q1 q2)
          have hhb := Lib.hid hb2
          clear q1 q2 hcall ha hK hc hget hb hb2
          go_wp2
          have hb2 := hhb.out
          have e5 : (a : Int) + 1 ≤ s.size := by omega
          have e6 : ((a : Int) + 1).toNat = a + 1 := by omega
          have e7 : (0 : Int) ≤ (a : Int) + 1 := by omega
          have hmin : min (k : Int) (((argsOf j).length : Int) - 1) = k := by omega
          have hn4 : (argsOf j).length ≤ 4 := args_le hj15
          have hwr : IntKind.i64.wrap (((argsOf j).length : Int) - 1) = ((argsOf j).length : Int) - 1 := IntWalk.i64_in _ (by omega)
          have hk0 : (0 : Int) ≤ k := by omega
          clear hn4
          refine Mix.wp_region_call (aF := ?_) (aG := ?_) 14 5 _ (fun W => W.heap[w.heap.size + 1]? = some (.cells #[.int .i64 (opOf j), .slice (some ⟨FB + 5 + j, 0, none⟩) (argsOf j).length (argsOf j).length, .bool (moreOf j)] 60) ∧ W.heap[FB + 5 + j]? = some (.cells (rowV j) 57))
            (After pp s.data.toList w wr FB j (rdC pp K (s.data.toList.drop (a + 1)) cx)) (.tuple #[.int .i64 (rdN pp K (s.data.toList.drop (a + 1))), .bool (rdOk pp K (s.data.toList.drop (a + 1)))]) (rdFn K) #[.pointer (some ⟨w.heap.size + 1 + 1, 0, none⟩), .string (s.extract (a + 1) s.size)]
            (by kernel_rfl) rfl (by kernel_rfl) (by kernel_rfl) (by kernel_rfl) rfl rfl (by kernel_rfl) (by kernel_rfl) (by kernel_rfl) (by kernel_rfl) ?_ ?_ ?_ ?_ ?_ ?_ ?_ ?_ ?_
          rotate_left 2
          · intro n2
            exact ⟨HI.out.frm, (HI.out.below.block _ (by have := HF.out.lt; omega)).trans HROW.out⟩
          · intro W n2 h; exact h.drewN n2
          · intro W h
            exact ⟨h.keep _ _ _ _ HI.out.frm (by omega) (by decide) (by decide), (h.below.block _ (by have := HF.out.lt; omega)).trans HROW.out⟩
          · rintro ρ ⟨hρ1, hρ2⟩
            have f1 : ρ.cell? ⟨w.heap.size + 1, 1, none⟩ = some (.slice (some ⟨FB + 5 + j, 0, none⟩) (argsOf j).length (argsOf j).length) := (Lib.cell_of_heap hρ1 1).trans rfl
            have g1 : ρ.cell? ⟨FB + 5 + j, k * 2, none⟩ = some (.func (.func (rdFn K)) #[] #[]) := by
              rw [Nat.mul_comm]
              exact (Lib.cell_of_heap hρ2 (2 * k)).trans HCALL.out
            clear hρ1 hρ2
            simp only [List.take_succ_cons, List.take_zero]
            repeat (go_big_quiet_step (fail))
            apply wpQuiet_nil
            exact rfl
          · rfl
          · intro W
            go_simp
            exact rd_enter K _ W
          · intro n2
            have hext : (s.extract (a + 1) s.size).data.toList = s.data.toList.drop (a + 1) := by
              simp [ByteArray.data_extract]
              exact List.take_of_length_le (Nat.le_of_eq (by rw [List.length_drop, hl]))
            obtain ⟨nv, fv, h3⟩ := HI.out.cm
            have hn4 := args_le hj15
            have hln := HI.out.ln
            have hlf := HI.out.lf
            have hgt : s.data.toList.getD a 0 = 32 := by
              rw [getD_of s a ha2]
              have e : ((s[a].toNat : Int) != 32) = false := e3
              simp only [bne_eq_false_iff_eq] at e
              exact UInt8.toNat_inj.1 (by have e : (32 : UInt8).toNat = 32 := rfl; omega)
            have hlo := HQ.out.2 (by omega) hgt (by omega)
            refine (read_any pp K (s.extract (a + 1) s.size) (wr.drewN n2) w.heap.size (w.heap.size + 1 + 1) (opOf j) cx ⟨nv, fv, h3.base, h3.blk, h3.names, h3.fmts⟩ HI.out.below.size (by simp; omega) (HE.out.below' (HI.out.below.trans (below_drewN _ _ _)) HLOW.out.1 HLOW.out.2.1 HLOW.out.2.2) (by omega) (by omega) (fun hp _ => ?_) (fun hp _ => ?_)).mono ?_
            · rw [hext]; exact hlo.1 hp
            · rw [hext]; exact ⟨_, hlo.1 hp⟩
            · rintro e W ⟨v, rfl, rfl, h2, h4, h5⟩
              rw [hext] at h5 ⊢
              exact ⟨rfl, HI.out.below.trans ((below_drewN _ _ _).trans h2), fun b cs T fr h0 m1 m2 m3 => h4 b cs T fr h0 m1 m2 m3, h5⟩
          · intro ρ
            simp only [List.drop_succ_cons, List.drop_zero, Act.put, List.setIfInBounds_toArray, List.set_cons_succ, List.set_cons_zero]
            repeat (go_big_quiet_step (fail))
            apply wpQuiet_nil
            exact rfl
          · intro W hW
            have hcut := rdN_bd pp K (s.data.toList.drop (a + 1))
            rw [List.length_drop, hl] at hcut
            obtain ⟨N, hN⟩ := Int.eq_ofNat_of_zero_le hcut.1
            have hN2 : a + 1 + N ≤ s.size := by omega
            have hgt : s.data.toList.getD a 0 = 32 := by
              rw [getD_of s a ha2]
              have e : ((s[a].toNat : Int) != 32) = false := e3
              simp only [bne_eq_false_iff_eq] at e
              exact UInt8.toNat_inj.1 (by have e : (32 : UInt8).toNat = 32 := rfl; omega)
            have q1 := HQ.out.1
            have q2 := (HQ.out.2 (by omega) hgt (by omega)).2
            rw [lineL_cons, if_neg (by omega), if_neg (by simpa using hgt), if_neg (by omega), hN] at q1
            rw [hN] at q2 ⊢
            clear hcut hN hgt
            have g0 : W.heap[w.heap.size]? = some (cmd 0 (.slice none 0 0) (.slice none 0 0) ⟨#[]⟩) := hW.keep _ _ _ _ HI.out.res (by omega) (by decide) (by decide)
            have g2 : W.heap[w.heap.size + 1]? = some (.cells #[.int .i64 (opOf j), .slice (some ⟨FB + 5 + j, 0, none⟩) (argsOf j).length (argsOf j).length, .bool (moreOf j)] 60) := hW.keep _ _ _ _ HI.out.frm (by omega) (by decide) (by decide)
            cases hro : rdOk pp K (s.data.toList.drop (a + 1))
            · rw [if_neg (by rw [hro]; decide)] at q1
              obtain ⟨nv, fv, hcm⟩ := hW.cm
              obtain ⟨na, nn, nc, rfl⟩ := row_slice hcm.names
              obtain ⟨fa, fn, fc, rfl⟩ := row_slice hcm.fmts
              generalize rdC pp K (s.data.toList.drop (a + 1)) cx = cx2 at hW hcm
              clear c0 c1 c2 c3 r0 r1 r2 r3 rf f0 f1 f2 q2 hro
              have c0 : W.cell? ⟨w.heap.size + 1 + 1, 0, none⟩ = some (.int .i64 (opOf j)) := (Lib.cell_of_heap hcm.blk 0).trans rfl
              have c1 : W.cell? ⟨w.heap.size + 1 + 1, 1, none⟩ = some (.slice na nn nc) := (Lib.cell_of_heap hcm.blk 1).trans rfl
              have c2 : W.cell? ⟨w.heap.size + 1 + 1, 2, none⟩ = some (.slice fa fn fc) := (Lib.cell_of_heap hcm.blk 2).trans rfl
              have c3 : W.cell? ⟨w.heap.size + 1 + 1, 3, none⟩ = some (.string cx2.tx) := (Lib.cell_of_heap hcm.blk 3).trans rfl
              have r0 : W.cell? ⟨w.heap.size, 0, none⟩ = some (.int .i64 0) := (Lib.cell_of_heap g0 0).trans rfl
              have r1 : W.cell? ⟨w.heap.size, 1, none⟩ = some (.slice none 0 0) := (Lib.cell_of_heap g0 1).trans rfl
              have r2 : W.cell? ⟨w.heap.size, 2, none⟩ = some (.slice none 0 0) := (Lib.cell_of_heap g0 2).trans rfl
              have r3 : W.cell? ⟨w.heap.size, 3, none⟩ = some (.string ⟨#[]⟩) := (Lib.cell_of_heap g0 3).trans rfl
              have rf : ∀ o, W.frozen? ⟨w.heap.size, o, none⟩ = false := fun o => Lib.frozen_of_heap g0 o
              have HW := Lib.hid hW
              have HEQ := Lib.hid q1
              clear hW hcm g0 g2 q1
              go_wp2
              refine bodyPost_ret (v := .tuple #[.agg #[.int .i64 (opOf j), .slice na nn nc, .slice fa fn fc, .string cx2.tx], .int .i64 ((a : Int) + 1)]) (by simp only [results, Tryz.results14]; go_simp) rfl ⟨below_stored HW.out.below (Nat.le_refl _) _ _ _ _, _, _, _, _, _, _, _, by rw [HEQ.out], fun c hc => by rw [HEQ.out] at hc; cases hc⟩
            · rw [if_pos hro] at q1
              have hlen : (rdC pp K (s.data.toList.drop (a + 1)) cx).ns.length ≤ k + 1 ∧ (rdC pp K (s.data.toList.drop (a + 1)) cx).fs.length ≤ k + 1 := by
                have h1 := rdC_len pp K (s.data.toList.drop (a + 1)) cx
                have h2 := HI.out.ln
                have h3 := HI.out.lf
                exact ⟨by omega, by omega⟩
              have hk4 : (k : Int) ≤ 4 := by have := args_le hj15; omega
              have HL : Hid (LInv pp s.data.toList w FB j L W (k + 1) (a + 1 + N) (rdC pp K (s.data.toList.drop (a + 1)) cx)) := ⟨hk, by omega, hW.below, g0, g2, hW.cm, q1, q2 hro, hlen.1, hlen.2⟩
              clear hW g0 g2 q1 q2 hlen hro
              go_wp2
              go_roundw
              case rel => exact ⟨k + 1, a + 1 + N, _, congrArg _ (by omega), congrArg _ (by omega), HL.out⟩
              case measure =>
                show (argsOf j).length - ((k : Int) + 1).toNat < (argsOf j).length - (k : Int).toNat
                omega
      · have HEQ : Hid (lineL pp s.data.toList (argsOf j) L ⟨[], [], ⟨#[]⟩⟩ = (none, (a : Int))) := by
          show _ = _
          rw [q1]; unfold lineL; rw [if_neg (by omega), if_pos (by rw [hget]; simpa using hc)]
        have e3 : ((s[a].toNat : Int) != 32) = true := by
          simp only [bne_iff_ne, ne_eq]
          exact fun e => hc (UInt8.toNat_inj.1 (by have e : (32 : UInt8).toNat = 32 := rfl; omega))
        clear q1 q2 ha hK hc hget
        go_wp2
        refine bodyPost_ret (v := .tuple #[.agg #[.int .i64 (opOf j), .slice na nn nc, .slice fa fn fc, .string cx.tx], .int .i64 a]) (by simp only [results, Tryz.results14]; go_simp) rfl ⟨below_stored HI.out.below (Nat.le_refl _) _ _ _ _, _, _, _, _, _, _, _, by rw [HEQ.out], fun c hc => by rw [HEQ.out] at hc; cases hc⟩
    · have hk2 : ((k : Int) < ((argsOf j).length : Int)) = False := by simp; omega
      have HEQ := Lib.hid (HI.out.at_end (by omega))
      by_cases ha : a < s.size
      · rw [if_pos (by omega)] at HEQ
        have e1 : (a : Int) < s.size := by omega
        go_wp2
        refine bodyPost_ret (v := .tuple #[.agg #[.int .i64 (opOf j), .slice na nn nc, .slice fa fn fc, .string cx.tx], .int .i64 a]) (by simp only [results, Tryz.results14]; go_simp) rfl ⟨below_stored HI.out.below (Nat.le_refl _) _ _ _ _, _, _, _, _, _, _, _, by rw [HEQ.out], fun c hc => by rw [HEQ.out] at hc; cases hc⟩
      · rw [if_neg (by omega)] at HEQ
        have e1 : ¬ (a : Int) < s.size := by omega
        go_wp2
        refine bodyPost_ret (v := .tuple #[.agg #[.int .i64 (opOf j), .slice na nn nc, .slice fa fn fc, .string cx.tx], .int .i64 (-1)]) (by simp only [results, Tryz.results14]; go_simp) rfl ⟨below_stored HI.out.below (Nat.le_refl _) _ _ _ _, _, _, _, _, _, _, _, by rw [HEQ.out], fun c hc => ?_⟩
        rw [HEQ.out] at hc
        obtain rfl : cx = c := by simpa using hc
        exact ⟨rfl, row_stored HCM.out.names HI.out.res (by decide), row_stored HCM.out.fmts HI.out.res (by decide)⟩
end Go.Proofs.YtfnemklcmhilnaaGreatDoor
