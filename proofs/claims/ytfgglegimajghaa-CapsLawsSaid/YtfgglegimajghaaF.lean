/- The contracts of the reference's bounds. -/
import Derived.Test.YtfgglegimajghaaDa
namespace Go.Proofs.Ytfgglegimajghaa
open Go.RowKit
set_option maxHeartbeats 2000000 in
theorem refMeet_good (a b : Cp) (w : World) :
    Calls Try.prog 18 #[.agg #[.int .u16 a.k, .int .u16 a.y, .int .u16 a.r, .int .i64 a.ib, .int .i64 a.d, .int .i64 a.s, .bool a.o, .bool a.sh, .bool a.c, .bool a.m],
        .agg #[.int .u16 b.k, .int .u16 b.y, .int .u16 b.r, .int .i64 b.ib, .int .i64 b.d, .int .i64 b.s, .bool b.o, .bool b.sh, .bool b.c, .bool b.m]] w
      fun e w' => e = .returned (a.meet b).v ∧ Below w.heap.size w w' := by
  go_enter Try.func18, Try.ntmps18
  go_wp2
  obtain ⟨w2, hw2⟩ : ∃ w2 : World, w2 = ((w.alloc (.cells #[.int .u16 a.k, .int .u16 a.y, .int .u16 a.r, .int .i64 a.ib, .int .i64 a.d, .int .i64 a.s, .bool a.o, .bool a.sh, .bool a.c, .bool a.m] 25)).alloc (.cells #[.int .u16 b.k, .int .u16 b.y, .int .u16 b.r, .int .i64 b.ib, .int .i64 b.d, .int .i64 b.s, .bool b.o, .bool b.sh, .bool b.c, .bool b.m] 25)).alloc (.cells #[.int .u16 0, .int .u16 0, .int .u16 0, .int .i64 0, .int .i64 0, .int .i64 0, .bool false, .bool false, .bool false, .bool false] 25) := ⟨_, rfl⟩
  rw [← hw2]
  have hc2 : ∀ b' o, w2.cell? ⟨b', o, none⟩ = (((w.alloc (.cells #[.int .u16 a.k, .int .u16 a.y, .int .u16 a.r, .int .i64 a.ib, .int .i64 a.d, .int .i64 a.s, .bool a.o, .bool a.sh, .bool a.c, .bool a.m] 25)).alloc (.cells #[.int .u16 b.k, .int .u16 b.y, .int .u16 b.r, .int .i64 b.ib, .int .i64 b.d, .int .i64 b.s, .bool b.o, .bool b.sh, .bool b.c, .bool b.m] 25)).alloc (.cells #[.int .u16 0, .int .u16 0, .int .u16 0, .int .i64 0, .int .i64 0, .int .i64 0, .bool false, .bool false, .bool false, .bool false] 25)).cell? ⟨b', o, none⟩ := fun _ _ => by rw [hw2]
  have hf2 : ∀ b' o, w2.frozen? ⟨b', o, none⟩ = (((w.alloc (.cells #[.int .u16 a.k, .int .u16 a.y, .int .u16 a.r, .int .i64 a.ib, .int .i64 a.d, .int .i64 a.s, .bool a.o, .bool a.sh, .bool a.c, .bool a.m] 25)).alloc (.cells #[.int .u16 b.k, .int .u16 b.y, .int .u16 b.r, .int .i64 b.ib, .int .i64 b.d, .int .i64 b.s, .bool b.o, .bool b.sh, .bool b.c, .bool b.m] 25)).alloc (.cells #[.int .u16 0, .int .u16 0, .int .u16 0, .int .i64 0, .int .i64 0, .int .i64 0, .bool false, .bool false, .bool false, .bool false] 25)).frozen? ⟨b', o, none⟩ := fun _ _ => by rw [hw2]
  have hh : Below w.heap.size w w2 := by rw [hw2]; exact below3 (Below.refl _ _) (Below.refl _ _)
  have hzz : w2.heap.size = w.heap.size + 3 := by rw [hw2]; simp
  have g0 : w.heap.size < w2.heap.size := by omega
  have g1 : w.heap.size + 1 < w2.heap.size := by omega
  have g2 : w.heap.size + 1 + 1 < w2.heap.size := by omega
  clear hw2 hzz
  refine Mix.wp_region_mix_alloc (aF := ?aF) 50 5 _ _ (.cells #[.int .u16 0, .int .u16 0, .int .u16 0, .int .i64 0, .int .i64 0, .int .i64 0, .bool false, .bool false, .bool false, .bool false] 25) ?X' (by kernel_rfl) rfl (by kernel_rfl) (by kernel_rfl) (by kernel_rfl) rfl rfl rfl rfl rfl rfl (by kernel_rfl) (by kernel_rfl) (by kernel_rfl) ?hA ?ha ?hst ?hK
  case hA =>
    intro ρ hρ
    have hρc : ∀ b o, b < w2.heap.size → ρ.cell? ⟨b, o, none⟩ = w2.cell? ⟨b, o, none⟩ := by
      intro b o hb
      rcases hρ with ⟨n, rfl⟩ | ⟨n, Y, rfl⟩
      · rfl
      · exact World.cell?_alloc_lt _ _ _ hb
    clear hρ
    simp only [List.take_succ_cons, List.take_zero]
    repeat (first
      | go_big_quiet_step ((go_at_call 29; exact Calls.quiet_of_same (refLower _ _ _)))
      | (refine Mix.quiet_and (x1 := .pointer (some ⟨w.heap.size + 1, 6, none⟩)) (bb := b.o) rfl rfl rfl rfl rfl rfl (by decide) (by decide) (of_decide_eq_true (by kernel_rfl)) ?_ ?_ ?_
         · (rintro w' ⟨m, rfl⟩; go_simp; done)
         · (rintro w' ⟨m, rfl⟩; go_simp; done)
         simp only [Act.put, List.setIfInBounds_toArray, List.set_cons_zero, List.set_cons_succ])
      | (refine Mix.quiet_and (x1 := .pointer (some ⟨w.heap.size + 1, 7, none⟩)) (bb := b.sh) rfl rfl rfl rfl rfl rfl (by decide) (by decide) (of_decide_eq_true (by kernel_rfl)) ?_ ?_ ?_
         · (rintro w' ⟨m, rfl⟩; go_simp; done)
         · (rintro w' ⟨m, rfl⟩; go_simp; done)
         simp only [Act.put, List.setIfInBounds_toArray, List.set_cons_zero, List.set_cons_succ])
      | (refine Mix.quiet_and (x1 := .pointer (some ⟨w.heap.size + 1, 8, none⟩)) (bb := b.c) rfl rfl rfl rfl rfl rfl (by decide) (by decide) (of_decide_eq_true (by kernel_rfl)) ?_ ?_ ?_
         · (rintro w' ⟨m, rfl⟩; go_simp; done)
         · (rintro w' ⟨m, rfl⟩; go_simp; done)
         simp only [Act.put, List.setIfInBounds_toArray, List.set_cons_zero, List.set_cons_succ])
      | (refine Mix.quiet_and (x1 := .pointer (some ⟨w.heap.size + 1, 9, none⟩)) (bb := b.m) rfl rfl rfl rfl rfl rfl (by decide) (by decide) (of_decide_eq_true (by kernel_rfl)) ?_ ?_ ?_
         · (rintro w' ⟨m, rfl⟩; go_simp; done)
         · (rintro w' ⟨m, rfl⟩; go_simp; done)
         simp only [Act.put, List.setIfInBounds_toArray, List.set_cons_zero, List.set_cons_succ]))
    refine wpQuiet_nil ?_
    exact rfl
  case X' => exact (.cells #[.int .u16 (bits .and .u16 a.k b.k), .int .u16 (bits .and .u16 a.y b.y), .int .u16 (bits .and .u16 a.r b.r), .int .i64 (minL a.ib b.ib), .int .i64 (minL a.d b.d), .int .i64 3, .bool (a.o && b.o), .bool (a.sh && b.sh), .bool (a.c && b.c), .bool (a.m && b.m)] 25)
  case ha => intro W; go_simp
  case hst => intro W; go_simp
  case hK =>
    intro k
    simp only [Act.put, List.setIfInBounds_toArray, List.set_cons_zero, List.set_cons_succ]
    generalize (if a.o = true then Value.pointer (some ⟨w.heap.size + 1, 6, none⟩) else undef) = y6
    generalize (if a.o = true then Value.bool b.o else undef) = z6
    generalize (if a.sh = true then Value.pointer (some ⟨w.heap.size + 1, 7, none⟩) else undef) = y7
    generalize (if a.sh = true then Value.bool b.sh else undef) = z7
    generalize (if a.c = true then Value.pointer (some ⟨w.heap.size + 1, 8, none⟩) else undef) = y8
    generalize (if a.c = true then Value.bool b.c else undef) = z8
    generalize (if a.m = true then Value.pointer (some ⟨w.heap.size + 1, 9, none⟩) else undef) = y9
    generalize (if a.m = true then Value.bool b.m else undef) = z9
    go_wp2
    all_goals have hle : w.heap.size ≤ w2.heap.size := by omega
    · refine bodyPost_ret (v := mv a b b.s) (by simp only [results, Try.results18, mv]; go_simp) rfl ⟨mv_eq (by simp [shMeet, *]), ?_⟩
      exact below_stores hh hle (by omega)
    · refine bodyPost_ret (v := mv a b a.s) (by simp only [results, Try.results18, mv]; go_simp) rfl ⟨mv_eq (by simp_all [shMeet]), ?_⟩
      exact below_stores hh hle (by omega)
    · refine bodyPost_ret (v := mv a b b.s) (by simp only [results, Try.results18, mv]; go_simp) rfl ⟨mv_eq (by simp_all [shMeet]), ?_⟩
      exact below_stores hh hle (by omega)
    · refine bodyPost_ret (v := mv a b 3) (by simp only [results, Try.results18, mv]; go_simp) rfl ⟨mv_eq (by simp_all [shMeet]), ?_⟩
      exact below_stores0 hh (by omega)
set_option maxHeartbeats 2000000 in
theorem refJoin_good (a b : Cp) (w : World) :
    Calls Try.prog 19 #[.agg #[.int .u16 a.k, .int .u16 a.y, .int .u16 a.r, .int .i64 a.ib, .int .i64 a.d, .int .i64 a.s, .bool a.o, .bool a.sh, .bool a.c, .bool a.m],
        .agg #[.int .u16 b.k, .int .u16 b.y, .int .u16 b.r, .int .i64 b.ib, .int .i64 b.d, .int .i64 b.s, .bool b.o, .bool b.sh, .bool b.c, .bool b.m]] w
      fun e w' => e = .returned (a.join b).v ∧ Below w.heap.size w w' := by
  go_enter Try.func19, Try.ntmps19
  go_wp2
  obtain ⟨w2, hw2⟩ : ∃ w2 : World, w2 = ((w.alloc (.cells #[.int .u16 a.k, .int .u16 a.y, .int .u16 a.r, .int .i64 a.ib, .int .i64 a.d, .int .i64 a.s, .bool a.o, .bool a.sh, .bool a.c, .bool a.m] 25)).alloc (.cells #[.int .u16 b.k, .int .u16 b.y, .int .u16 b.r, .int .i64 b.ib, .int .i64 b.d, .int .i64 b.s, .bool b.o, .bool b.sh, .bool b.c, .bool b.m] 25)).alloc (.cells #[.int .u16 0, .int .u16 0, .int .u16 0, .int .i64 0, .int .i64 0, .int .i64 0, .bool false, .bool false, .bool false, .bool false] 25) := ⟨_, rfl⟩
  rw [← hw2]
  have hc2 : ∀ b' o, w2.cell? ⟨b', o, none⟩ = (((w.alloc (.cells #[.int .u16 a.k, .int .u16 a.y, .int .u16 a.r, .int .i64 a.ib, .int .i64 a.d, .int .i64 a.s, .bool a.o, .bool a.sh, .bool a.c, .bool a.m] 25)).alloc (.cells #[.int .u16 b.k, .int .u16 b.y, .int .u16 b.r, .int .i64 b.ib, .int .i64 b.d, .int .i64 b.s, .bool b.o, .bool b.sh, .bool b.c, .bool b.m] 25)).alloc (.cells #[.int .u16 0, .int .u16 0, .int .u16 0, .int .i64 0, .int .i64 0, .int .i64 0, .bool false, .bool false, .bool false, .bool false] 25)).cell? ⟨b', o, none⟩ := fun _ _ => by rw [hw2]
  have hf2 : ∀ b' o, w2.frozen? ⟨b', o, none⟩ = (((w.alloc (.cells #[.int .u16 a.k, .int .u16 a.y, .int .u16 a.r, .int .i64 a.ib, .int .i64 a.d, .int .i64 a.s, .bool a.o, .bool a.sh, .bool a.c, .bool a.m] 25)).alloc (.cells #[.int .u16 b.k, .int .u16 b.y, .int .u16 b.r, .int .i64 b.ib, .int .i64 b.d, .int .i64 b.s, .bool b.o, .bool b.sh, .bool b.c, .bool b.m] 25)).alloc (.cells #[.int .u16 0, .int .u16 0, .int .u16 0, .int .i64 0, .int .i64 0, .int .i64 0, .bool false, .bool false, .bool false, .bool false] 25)).frozen? ⟨b', o, none⟩ := fun _ _ => by rw [hw2]
  have hh : Below w.heap.size w w2 := by rw [hw2]; exact below3 (Below.refl _ _) (Below.refl _ _)
  have hzz : w2.heap.size = w.heap.size + 3 := by rw [hw2]; simp
  have g0 : w.heap.size < w2.heap.size := by omega
  have g1 : w.heap.size + 1 < w2.heap.size := by omega
  have g2 : w.heap.size + 1 + 1 < w2.heap.size := by omega
  clear hw2 hzz
  refine Mix.wp_region_mix_alloc (aF := ?aF) 50 5 _ _ (.cells #[.int .u16 0, .int .u16 0, .int .u16 0, .int .i64 0, .int .i64 0, .int .i64 0, .bool false, .bool false, .bool false, .bool false] 25) ?X' (by kernel_rfl) rfl (by kernel_rfl) (by kernel_rfl) (by kernel_rfl) rfl rfl rfl rfl rfl rfl (by kernel_rfl) (by kernel_rfl) (by kernel_rfl) ?hA ?ha ?hst ?hK
  case hA =>
    intro ρ hρ
    have hρc : ∀ b o, b < w2.heap.size → ρ.cell? ⟨b, o, none⟩ = w2.cell? ⟨b, o, none⟩ := by
      intro b o hb
      rcases hρ with ⟨n, rfl⟩ | ⟨n, Y, rfl⟩
      · rfl
      · exact World.cell?_alloc_lt _ _ _ hb
    clear hρ
    simp only [List.take_succ_cons, List.take_zero]
    repeat (first
      | go_big_quiet_step ((go_at_call 30; exact Calls.quiet_of_same (refUpper _ _ _)))
      | (refine Mix.quiet_or (x1 := .pointer (some ⟨w.heap.size + 1, 6, none⟩)) (bb := b.o) rfl rfl rfl rfl rfl rfl (by decide) (by decide) (of_decide_eq_true (by kernel_rfl)) ?_ ?_ ?_
         · (rintro w' ⟨m, rfl⟩; go_simp; done)
         · (rintro w' ⟨m, rfl⟩; go_simp; done)
         simp only [Act.put, List.setIfInBounds_toArray, List.set_cons_zero, List.set_cons_succ])
      | (refine Mix.quiet_or (x1 := .pointer (some ⟨w.heap.size + 1, 7, none⟩)) (bb := b.sh) rfl rfl rfl rfl rfl rfl (by decide) (by decide) (of_decide_eq_true (by kernel_rfl)) ?_ ?_ ?_
         · (rintro w' ⟨m, rfl⟩; go_simp; done)
         · (rintro w' ⟨m, rfl⟩; go_simp; done)
         simp only [Act.put, List.setIfInBounds_toArray, List.set_cons_zero, List.set_cons_succ])
      | (refine Mix.quiet_or (x1 := .pointer (some ⟨w.heap.size + 1, 8, none⟩)) (bb := b.c) rfl rfl rfl rfl rfl rfl (by decide) (by decide) (of_decide_eq_true (by kernel_rfl)) ?_ ?_ ?_
         · (rintro w' ⟨m, rfl⟩; go_simp; done)
         · (rintro w' ⟨m, rfl⟩; go_simp; done)
         simp only [Act.put, List.setIfInBounds_toArray, List.set_cons_zero, List.set_cons_succ])
      | (refine Mix.quiet_or (x1 := .pointer (some ⟨w.heap.size + 1, 9, none⟩)) (bb := b.m) rfl rfl rfl rfl rfl rfl (by decide) (by decide) (of_decide_eq_true (by kernel_rfl)) ?_ ?_ ?_
         · (rintro w' ⟨m, rfl⟩; go_simp; done)
         · (rintro w' ⟨m, rfl⟩; go_simp; done)
         simp only [Act.put, List.setIfInBounds_toArray, List.set_cons_zero, List.set_cons_succ]))
    refine wpQuiet_nil ?_
    exact rfl
  case X' => exact (.cells #[.int .u16 (bits .or .u16 a.k b.k), .int .u16 (bits .or .u16 a.y b.y), .int .u16 (bits .or .u16 a.r b.r), .int .i64 (maxL a.ib b.ib), .int .i64 (maxL a.d b.d), .int .i64 0, .bool (a.o || b.o), .bool (a.sh || b.sh), .bool (a.c || b.c), .bool (a.m || b.m)] 25)
  case ha => intro W; go_simp
  case hst => intro W; go_simp
  case hK =>
    intro k
    simp only [Act.put, List.setIfInBounds_toArray, List.set_cons_zero, List.set_cons_succ]
    generalize (if a.o = true then undef else Value.pointer (some ⟨w.heap.size + 1, 6, none⟩)) = y6
    generalize (if a.o = true then undef else Value.bool b.o) = z6
    generalize (if a.sh = true then undef else Value.pointer (some ⟨w.heap.size + 1, 7, none⟩)) = y7
    generalize (if a.sh = true then undef else Value.bool b.sh) = z7
    generalize (if a.c = true then undef else Value.pointer (some ⟨w.heap.size + 1, 8, none⟩)) = y8
    generalize (if a.c = true then undef else Value.bool b.c) = z8
    generalize (if a.m = true then undef else Value.pointer (some ⟨w.heap.size + 1, 9, none⟩)) = y9
    generalize (if a.m = true then undef else Value.bool b.m) = z9
    go_wp2
    all_goals have hle : w.heap.size ≤ w2.heap.size := by omega
    · refine bodyPost_ret (v := jv a b b.s) (by simp only [results, Try.results19, jv]; go_simp) rfl ⟨jv_eq (by simp [shJoin, *]), ?_⟩
      exact below_stores hh hle (by omega)
    · refine bodyPost_ret (v := jv a b a.s) (by simp only [results, Try.results19, jv]; go_simp) rfl ⟨jv_eq (by simp_all [shJoin]), ?_⟩
      exact below_stores hh hle (by omega)
    · refine bodyPost_ret (v := jv a b b.s) (by simp only [results, Try.results19, jv]; go_simp) rfl ⟨jv_eq (by simp_all [shJoin]), ?_⟩
      exact below_stores hh hle (by omega)
    · refine bodyPost_ret (v := jv a b 0) (by simp only [results, Try.results19, jv]; go_simp) rfl ⟨jv_eq (by simp_all [shJoin]), ?_⟩
      exact below_stores0 hh (by omega)
end Go.Proofs.Ytfgglegimajghaa
