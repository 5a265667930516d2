/- The contract of Meet. -/
import Derived.Test.YtfgglegimajghaaDa
namespace Go.Proofs.Ytfgglegimajghaa
open Go.RowKit
set_option maxHeartbeats 2000000 in
theorem meet_good (a b : Cp) (ha : a.ok = true) (hb : b.ok = true) (w : World) :
    Calls Try.prog 16 #[.agg #[.int .u16 a.k, .int .u16 a.y, .int .u16 a.r, .int .i64 a.ib, .int .i64 a.d, .int .i64 a.s, .bool a.o, .bool a.sh, .bool a.c, .bool a.m],
        .agg #[.int .u16 b.k, .int .u16 b.y, .int .u16 b.r, .int .i64 b.ib, .int .i64 b.d, .int .i64 b.s, .bool b.o, .bool b.sh, .bool b.c, .bool b.m]] w
      fun e w' => e = .returned (a.meet b).v ∧ Below w.heap.size w w' := by
  go_enter Try.func16, Try.ntmps16
  go_wp2_with (first | (go_at_call 12; ((with_reducible refine (check_ok a ha _).mono ?_); rintro e w1 ⟨rfl, hb1⟩; obtain ⟨hc1, hf1⟩ := bcell hb1; obtain ⟨hz0, hz1, hz2⟩ := size3 hb1)) | (go_at_call 12; ((with_reducible refine (check_ok b hb _).mono ?_); rintro e w2 ⟨rfl, hb2⟩; obtain ⟨hc2, hf2⟩ := bcell hb2)))
  have hzz := hb2.size
  have g0 : w.heap.size < w2.heap.size := by omega
  have g1 : w.heap.size + 1 < w2.heap.size := by omega
  have g2 : w.heap.size + 1 + 1 < w2.heap.size := by omega
  have hh := below3 hb1 hb2
  refine Mix.wp_region_mix_alloc (aF := ?aF) 50 5 _ _ (.cells #[.int .u16 0, .int .u16 0, .int .u16 0, .int .i64 0, .int .i64 0, .int .i64 0, .bool false, .bool false, .bool false, .bool false] 25) ?X' (by kernel_rfl) rfl (by kernel_rfl) (by kernel_rfl) (by kernel_rfl) rfl rfl rfl rfl rfl rfl (by kernel_rfl) (by kernel_rfl) (by kernel_rfl) ?hA ?ha ?hst ?hK
  case hA =>
    intro ρ hρ
    have hρc : ∀ b o, b < w2.heap.size → ρ.cell? ⟨b, o, none⟩ = w2.cell? ⟨b, o, none⟩ := by
      intro b o hb
      rcases hρ with ⟨n, rfl⟩ | ⟨n, Y, rfl⟩
      · rfl
      · exact World.cell?_alloc_lt _ _ _ hb
    clear hρ
    simp only [List.take_succ_cons, List.take_zero]
    repeat (first
      | go_big_quiet_step ((go_at_call 27; exact Calls.quiet_of_same (limitLow _ _ _)))
      | (refine Mix.quiet_and (x1 := .pointer (some ⟨w.heap.size + 1, 6, none⟩)) (bb := b.o) rfl rfl rfl rfl rfl rfl (by decide) (by decide) (of_decide_eq_true (by kernel_rfl)) ?_ ?_ ?_
         · (rintro w' ⟨m, rfl⟩; go_simp; done)
         · (rintro w' ⟨m, rfl⟩; go_simp; done)
         simp only [Act.put, List.setIfInBounds_toArray, List.set_cons_zero, List.set_cons_succ])
      | (refine Mix.quiet_and (x1 := .pointer (some ⟨w.heap.size + 1, 7, none⟩)) (bb := b.sh) rfl rfl rfl rfl rfl rfl (by decide) (by decide) (of_decide_eq_true (by kernel_rfl)) ?_ ?_ ?_
         · (rintro w' ⟨m, rfl⟩; go_simp; done)
         · (rintro w' ⟨m, rfl⟩; go_simp; done)
         simp only [Act.put, List.setIfInBounds_toArray, List.set_cons_zero, List.set_cons_succ])
      | (refine Mix.quiet_and (x1 := .pointer (some ⟨w.heap.size + 1, 8, none⟩)) (bb := b.c) rfl rfl rfl rfl rfl rfl (by decide) (by decide) (of_decide_eq_true (by kernel_rfl)) ?_ ?_ ?_
         · (rintro w' ⟨m, rfl⟩; go_simp; done)
         · (rintro w' ⟨m, rfl⟩; go_simp; done)
         simp only [Act.put, List.setIfInBounds_toArray, List.set_cons_zero, List.set_cons_succ])
      | (refine Mix.quiet_and (x1 := .pointer (some ⟨w.heap.size + 1, 9, none⟩)) (bb := b.m) rfl rfl rfl rfl rfl rfl (by decide) (by decide) (of_decide_eq_true (by kernel_rfl)) ?_ ?_ ?_
         · (rintro w' ⟨m, rfl⟩; go_simp; done)
         · (rintro w' ⟨m, rfl⟩; go_simp; done)
         simp only [Act.put, List.setIfInBounds_toArray, List.set_cons_zero, List.set_cons_succ]))
    refine wpQuiet_nil ?_
    exact rfl
  case X' => exact (.cells #[.int .u16 (bits .and .u16 a.k b.k), .int .u16 (bits .and .u16 a.y b.y), .int .u16 (bits .and .u16 a.r b.r), .int .i64 (minL a.ib b.ib), .int .i64 (minL a.d b.d), .int .i64 0, .bool (a.o && b.o), .bool (a.sh && b.sh), .bool (a.c && b.c), .bool (a.m && b.m)] 25)
  case ha => intro W; go_simp
  case hst => intro W; go_simp
  case hK =>
    intro k
    simp only [Act.put, List.setIfInBounds_toArray, List.set_cons_zero, List.set_cons_succ]
    generalize (if a.o = true then Value.pointer (some ⟨w.heap.size + 1, 6, none⟩) else undef) = y6
    generalize (if a.o = true then Value.bool b.o else undef) = z6
    generalize (if a.sh = true then Value.pointer (some ⟨w.heap.size + 1, 7, none⟩) else undef) = y7
    generalize (if a.sh = true then Value.bool b.sh else undef) = z7
    generalize (if a.c = true then Value.pointer (some ⟨w.heap.size + 1, 8, none⟩) else undef) = y8
    generalize (if a.c = true then Value.bool b.c else undef) = z8
    generalize (if a.m = true then Value.pointer (some ⟨w.heap.size + 1, 9, none⟩) else undef) = y9
    generalize (if a.m = true then Value.bool b.m else undef) = z9
    go_wp2
    all_goals have hle : w.heap.size ≤ w2.heap.size := by omega
    · refine bodyPost_ret (v := mv a b b.s) (by simp only [results, Try.results16, mv]; go_simp) rfl ⟨mv_eq (by simp [shMeet, *]), ?_⟩
      exact below_stores hh hle (by omega)
    · refine bodyPost_ret (v := mv a b a.s) (by simp only [results, Try.results16, mv]; go_simp) rfl ⟨mv_eq (by simp_all [shMeet]), ?_⟩
      exact below_stores hh hle (by omega)
    · refine bodyPost_ret (v := mv a b b.s) (by simp only [results, Try.results16, mv]; go_simp) rfl ⟨mv_eq (by simp_all [shMeet]), ?_⟩
      exact below_stores hh hle (by omega)
    · refine bodyPost_ret (v := mv a b 3) (by simp only [results, Try.results16, mv]; go_simp) rfl ⟨mv_eq (by simp_all [shMeet]), ?_⟩
      exact below_stores hh hle (by omega)
end Go.Proofs.Ytfgglegimajghaa
