/- The arguments of the laws, opened: a capability, three of them. -/
import Derived.Test.YtfgglegimajghaaPb
import Derived.ProofKit
import Derived.OpenShut
import Derived.Carry
namespace Go.Proofs.Ytfgglegimajghaa
open Go.ChangeShapes Go.WideShapes Go.ChangeAt Go.RowKit
theorem cells25 : Try.prog.cellsOf 25 = 10 := by kernel_rfl
theorem cells23 : Try.prog.cellsOf 23 = 1 := by kernel_rfl
theorem cells3 : Try.prog.cellsOf 3 = 1 := by kernel_rfl
theorem cells4 : Try.prog.cellsOf 4 = 1 := by kernel_rfl
theorem cells35 : Try.prog.cellsOf 35 = 30 := by kernel_rfl
section
variable {H : Type} {enc : TypeId × Value → H} {w : World} {base : Nat} {spare : Nat → Bool} {held : Bool}
/-- the cells of a capability -/
def Cp.cs (a : Cp) : List Value := [.int .u16 a.k, .int .u16 a.y, .int .u16 a.r, .int .i64 a.ib, .int .i64 a.d, .int .i64 a.s, .bool a.o, .bool a.sh, .bool a.c, .bool a.m]
theorem len10 {cs : List Value} (h : cs.length = 10) : ∃ c0 c1 c2 c3 c4 c5 c6 c7 c8 c9, cs = [c0, c1, c2, c3, c4, c5, c6, c7, c8, c9] := by
  match cs, h with
  | [c0, c1, c2, c3, c4, c5, c6, c7, c8, c9], _ => exact ⟨c0, c1, c2, c3, c4, c5, c6, c7, c8, c9, rfl⟩
theorem u16_range {n : Int} (h : (Lit.int .u16 n).wf = true) : 0 ≤ n ∧ n ≤ 65535 := bounds_u16 h
theorem caps_of_trod {fuel : Nat} {cs : List Value} {x : DataW H × List MemPlace} (h : DataW.trod enc Try.prog w base spare held fuel 25 cs = some x) : ∃ a : Cp, a.Wf ∧ cs = a.cs := by
  obtain ⟨xs, n, _, rfl, hl, hlen, hf⟩ := DataW.trod_struct Try.underlying25 h
  rw [cells25] at hl
  obtain ⟨c0, c1, c2, c3, c4, c5, c6, c7, c8, c9, rfl⟩ := len10 hl
  have get : ∀ i, i < 10 → ∃ y, xs[i]? = some y := fun i hi => ⟨xs[i]'(by rw [hlen]; exact hi), List.getElem?_eq_getElem _⟩
  obtain ⟨y0, e0⟩ := get 0 (by decide)
  obtain ⟨y1, e1⟩ := get 1 (by decide)
  obtain ⟨y2, e2⟩ := get 2 (by decide)
  obtain ⟨y3, e3⟩ := get 3 (by decide)
  obtain ⟨y4, e4⟩ := get 4 (by decide)
  obtain ⟨y5, e5⟩ := get 5 (by decide)
  obtain ⟨y6, e6⟩ := get 6 (by decide)
  obtain ⟨y7, e7⟩ := get 7 (by decide)
  obtain ⟨y8, e8⟩ := get 8 (by decide)
  obtain ⟨y9, e9⟩ := get 9 (by decide)
  have g0 : DataW.trod enc Try.prog w base spare held n 23 (([c0, c1, c2, c3, c4, c5, c6, c7, c8, c9].drop 0).take (Try.prog.cellsOf 23)) = xs[0]? := hf 0 _ rfl
  rw [e0] at g0
  have g1 : DataW.trod enc Try.prog w base spare held n 23 (([c0, c1, c2, c3, c4, c5, c6, c7, c8, c9].drop 1).take (Try.prog.cellsOf 23)) = xs[1]? := hf 1 _ rfl
  rw [e1] at g1
  have g2 : DataW.trod enc Try.prog w base spare held n 23 (([c0, c1, c2, c3, c4, c5, c6, c7, c8, c9].drop 2).take (Try.prog.cellsOf 23)) = xs[2]? := hf 2 _ rfl
  rw [e2] at g2
  have g3 : DataW.trod enc Try.prog w base spare held n 3 (([c0, c1, c2, c3, c4, c5, c6, c7, c8, c9].drop 3).take (Try.prog.cellsOf 3)) = xs[3]? := hf 3 _ rfl
  rw [e3] at g3
  have g4 : DataW.trod enc Try.prog w base spare held n 3 (([c0, c1, c2, c3, c4, c5, c6, c7, c8, c9].drop 4).take (Try.prog.cellsOf 3)) = xs[4]? := hf 4 _ rfl
  rw [e4] at g4
  have g5 : DataW.trod enc Try.prog w base spare held n 3 (([c0, c1, c2, c3, c4, c5, c6, c7, c8, c9].drop 5).take (Try.prog.cellsOf 3)) = xs[5]? := hf 5 _ rfl
  rw [e5] at g5
  have g6 : DataW.trod enc Try.prog w base spare held n 4 (([c0, c1, c2, c3, c4, c5, c6, c7, c8, c9].drop 6).take (Try.prog.cellsOf 4)) = xs[6]? := hf 6 _ rfl
  rw [e6] at g6
  have g7 : DataW.trod enc Try.prog w base spare held n 4 (([c0, c1, c2, c3, c4, c5, c6, c7, c8, c9].drop 7).take (Try.prog.cellsOf 4)) = xs[7]? := hf 7 _ rfl
  rw [e7] at g7
  have g8 : DataW.trod enc Try.prog w base spare held n 4 (([c0, c1, c2, c3, c4, c5, c6, c7, c8, c9].drop 8).take (Try.prog.cellsOf 4)) = xs[8]? := hf 8 _ rfl
  rw [e8] at g8
  have g9 : DataW.trod enc Try.prog w base spare held n 4 (([c0, c1, c2, c3, c4, c5, c6, c7, c8, c9].drop 9).take (Try.prog.cellsOf 4)) = xs[9]? := hf 9 _ rfl
  rw [e9] at g9
  rw [cells23] at g0
  rw [cells23] at g1
  rw [cells23] at g2
  rw [cells3] at g3
  rw [cells3] at g4
  rw [cells3] at g5
  rw [cells4] at g6
  rw [cells4] at g7
  rw [cells4] at g8
  rw [cells4] at g9
  simp only [List.drop_succ_cons, List.drop_zero, List.take_succ_cons, List.take_zero] at g0 g1 g2 g3 g4 g5 g6 g7 g8 g9
  obtain ⟨k, q0, _, w0⟩ := DataW.trod_int Try.underlying23 g0
  obtain ⟨y, q1, _, w1⟩ := DataW.trod_int Try.underlying23 g1
  obtain ⟨r, q2, _, w2⟩ := DataW.trod_int Try.underlying23 g2
  obtain ⟨ib, q3, _, _⟩ := DataW.trod_int Try.underlying3 g3
  obtain ⟨d, q4, _, _⟩ := DataW.trod_int Try.underlying3 g4
  obtain ⟨s, q5, _, _⟩ := DataW.trod_int Try.underlying3 g5
  obtain ⟨o, q6, _⟩ := DataW.trod_bool Try.underlying4 g6
  obtain ⟨sh, q7, _⟩ := DataW.trod_bool Try.underlying4 g7
  obtain ⟨c, q8, _⟩ := DataW.trod_bool Try.underlying4 g8
  obtain ⟨m, q9, _⟩ := DataW.trod_bool Try.underlying4 g9
  simp only [List.cons.injEq, and_true] at q0 q1 q2 q3 q4 q5 q6 q7 q8 q9
  subst q0 q1 q2 q3 q4 q5 q6 q7 q8 q9
  exact ⟨⟨k, y, r, ib, d, s, o, sh, c, m⟩, ⟨(u16_range w0).1, (u16_range w0).2, (u16_range w1).1, (u16_range w1).2, (u16_range w2).1, (u16_range w2).2⟩, rfl⟩
theorem open_caps {rr : Reach} {b0 : Nat} {v : Value} {d : DataW H} {p : List MemPlace} (hv : Value.okWide Try.prog w rr b0 25 v) (h : DataW.Trod enc Try.prog w base spare held 25 v d p) :
    ∃ a : Cp, a.Wf ∧ v = .agg #[.int .u16 a.k, .int .u16 a.y, .int .u16 a.r, .int .i64 a.ib, .int .i64 a.d, .int .i64 a.s, .bool a.o, .bool a.sh, .bool a.c, .bool a.m] := by
  obtain ⟨cs, rfl, _⟩ := okWide_struct Try.underlying25 hv
  obtain ⟨fuel, hf⟩ := h
  obtain ⟨a, wf, hc⟩ := caps_of_trod hf
  refine ⟨a, wf, ?_⟩
  have : cs.toList = a.cs := hc
  rw [← Array.toArray_toList (xs := cs), this]
  rfl
theorem cut30 {cs : List Value} : cs.length = 30 → cs = (cs.drop 0).take 10 ++ ((cs.drop 10).take 10 ++ (cs.drop 20).take 10) := by
  intro h
  have h1 : (cs.drop 20).take 10 = cs.drop 20 := List.take_of_length_le (by simp; omega)
  rw [h1, show cs.drop 20 = (cs.drop 10).drop 10 by rw [List.drop_drop], List.take_append_drop, List.drop_zero, List.take_append_drop]
theorem open_caps3 {rr : Reach} {b0 : Nat} {v : Value} {d : DataW H} {p : List MemPlace} (hv : Value.okWide Try.prog w rr b0 35 v) (h : DataW.Trod enc Try.prog w base spare held 35 v d p) :
    ∃ a b c : Cp, a.Wf ∧ b.Wf ∧ c.Wf ∧ v = .agg (a.cs ++ (b.cs ++ c.cs)).toArray := by
  simp only [Value.okWide, Try.underlying35] at hv
  obtain ⟨cs, rfl, _⟩ := hv
  obtain ⟨fuel, hf⟩ := h
  obtain ⟨xs, m, _, _, hl, hlen, hg⟩ := DataW.trod_array Try.underlying35 hf
  rw [cells35] at hl
  have get : ∀ i, i < 3 → ∃ y, xs[i]? = some y := fun i hi => ⟨xs[i]'(by rw [hlen]; exact hi), List.getElem?_eq_getElem _⟩
  obtain ⟨y0, e0⟩ := get 0 (by decide)
  obtain ⟨y1, e1⟩ := get 1 (by decide)
  obtain ⟨y2, e2⟩ := get 2 (by decide)
  have g0 := hg 0 (by decide)
  have g1 := hg 1 (by decide)
  have g2 := hg 2 (by decide)
  rw [e0, cells25] at g0
  rw [e1, cells25] at g1
  rw [e2, cells25] at g2
  obtain ⟨a, wa, ha⟩ := caps_of_trod g0
  obtain ⟨b, wb, hb⟩ := caps_of_trod g1
  obtain ⟨c, wc, hc⟩ := caps_of_trod g2
  refine ⟨a, b, c, wa, wb, wc, ?_⟩
  have h30 := cut30 hl
  simp only [Nat.zero_mul] at ha
  rw [ha, hb, hc] at h30
  have : cs.toList = a.cs ++ (b.cs ++ c.cs) := h30
  rw [← Array.toArray_toList (xs := cs), this]
end
end Go.Proofs.Ytfgglegimajghaa
