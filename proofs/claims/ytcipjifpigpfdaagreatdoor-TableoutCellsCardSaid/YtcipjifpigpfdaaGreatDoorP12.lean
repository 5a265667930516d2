import Derived.Test.YtcipjifpigpfdaaGreatDoorLcOm
/- The law TableoutCells answers true at all texts. -/
namespace Go.Proofs.YtcipjifpigpfdaaGreatDoor
open Go.Ev
open Go.RowKit
def ansG : Value := .tuple #[.chan (some 4), .int .i64 0]
def ansB : Value := .tuple #[.string ⟨#[]⟩, .int .i64 3]
def envB (ky z : ByteArray) (k : Nat) : Option Value := [.string ky, .string z, .int .i64 (ky.size : Nat), .int .i64 (z.size : Nat)][k]?
def orcP (a b : Bool) : List Ent := [⟨.len 9, [.chan (some 0)], .chan (some 2)⟩, ⟨.len 9, [.chan (some 1)], .chan (some 3)⟩, ⟨.bin .gtr 3, [.chan (some 2), .int .i64 100], .bool a⟩, ⟨.bin .gtr 3, [.chan (some 3), .int .i64 100], .bool b⟩]
def tabP (a b : Bool) : List CallE := [⟨4, [], .bool true⟩, ⟨113, [.chan (some 0)], .bool a⟩, ⟨113, [.chan (some 1)], .bool b⟩]
def tabA : List CallE := [⟨4, [], .bool true⟩]
theorem orcP_ok (ky z : ByteArray) (a b : Bool) (ha : decide ((100 : Int) < (ky.size : Nat)) = a) (hb : decide ((100 : Int) < (z.size : Nat)) = b) : ∀ e ∈ orcP a b, EntOk ⟨envB ky z, Tryz.prog⟩ e := by
  unfold orcP
  refine all_cons ⟨[.string ky], .int .i64 (ky.size : Nat), rfl, rfl, ⟨ky, rfl, rfl⟩⟩ ?_
  refine all_cons ⟨[.string z], .int .i64 (z.size : Nat), rfl, rfl, ⟨z, rfl, rfl⟩⟩ ?_
  refine all_cons ⟨[.int .i64 (ky.size : Nat), .int .i64 100], .bool a, rfl, rfl, k_gtr _ _ _ _ _ _ ha⟩ ?_
  refine all_cons ⟨[.int .i64 (z.size : Nat), .int .i64 100], .bool b, rfl, rfl, k_gtr _ _ _ _ _ _ hb⟩ ?_
  exact all_nil
theorem tabA_ok (ky z : ByteArray) : ∀ e ∈ tabA, CallOk ⟨envB ky z, Tryz.prog⟩ (fun w => Tabs w ∧ NamesAt w) e := by
  unfold tabA
  refine all_cons ⟨[], .bool true, rfl, fun ρ => .bool _, fun w hw => awake_true w hw.2⟩ ?_
  exact all_nil
theorem tabP_ok (ky z : ByteArray) (a b : Bool) (hk : ky.size ≤ 100) (hz : z.size ≤ 100) (ha : chk ky.data.toList = a) (hb : chk z.data.toList = b) : ∀ e ∈ tabP a b, CallOk ⟨envB ky z, Tryz.prog⟩ (fun w => Tabs w ∧ NamesAt w) e := by
  unfold tabP
  refine all_cons ⟨[], .bool true, rfl, fun ρ => .bool _, fun w hw => awake_true w hw.2⟩ ?_
  refine all_cons ⟨[.string ky], .bool a, rfl, fun ρ => .bool _, fun w _ => (valid_ref ky w (by omega)).mono fun o w' h => ⟨by rw [h.1, ha], h.2⟩⟩ ?_
  refine all_cons ⟨[.string z], .bool b, rfl, fun ρ => .bool _, fun w _ => (valid_ref z w (by omega)).mono fun o w' h => ⟨by rw [h.1, hb], h.2⟩⟩ ?_
  exact all_nil
def startL (orc : List Ent) : St := ⟨mkT rowsL .leaf, 100, 100, orc⟩
set_option maxRecDepth 100000 in
theorem run_long1 : isTrue (evRun Tryz.prog (withT sums fsL varsB tabA) 400 100 3 #[.chan (some 0), .chan (some 1)] (startL (orcP true false))) = true := by kernel_rfl
set_option maxRecDepth 100000 in
theorem run_long2 : isTrue (evRun Tryz.prog (withT sums fsL varsB tabA) 400 100 3 #[.chan (some 0), .chan (some 1)] (startL (orcP true true))) = true := by kernel_rfl
set_option maxRecDepth 100000 in
theorem run_long3 : isTrue (evRun Tryz.prog (withT sums fsL varsB tabA) 400 100 3 #[.chan (some 0), .chan (some 1)] (startL (orcP false true))) = true := by kernel_rfl
set_option maxRecDepth 100000 in
theorem run_bad1 : isTrue (evRun Tryz.prog (sumsL ansB (tabP false false)) 400 100 3 #[.chan (some 0), .chan (some 1)] (startL (orcP false false))) = true := by kernel_rfl
set_option maxRecDepth 100000 in
theorem run_bad2 : isTrue (evRun Tryz.prog (sumsL ansB (tabP false true)) 400 100 3 #[.chan (some 0), .chan (some 1)] (startL (orcP false false))) = true := by kernel_rfl
set_option maxRecDepth 100000 in
theorem run_bad3 : isTrue (evRun Tryz.prog (sumsL ansB (tabP true false)) 400 100 3 #[.chan (some 0), .chan (some 1)] (startL (orcP false false))) = true := by kernel_rfl
set_option maxRecDepth 100000 in
theorem run_good : isTrue (evRun Tryz.prog (sumsL ansG tabG) 400 100 3 #[.chan (some 0), .chan (some 1)] (startL orcG)) = true := by kernel_rfl
end Go.Proofs.YtcipjifpigpfdaaGreatDoor
/- The law TableoutCells answers true at all texts: the cases joined. -/
namespace Go.Proofs.YtcipjifpigpfdaaGreatDoor
open Go.Ev
open Go.RowKit
theorem law_at {Ψ : SymEnv} {ky z : ByteArray} (hp : Ψ.prog = Tryz.prog) (h0 : Ψ.env 0 = some (.string ky)) (h1 : Ψ.env 1 = some (.string z)) {ans r0 : Value} (ha : ∀ ρ : Ren Ψ, VR ρ ans r0)
    (hc : ∀ (w : World) (v : Value), NodesAt w v (oneG ky z) → Tabs w → NamesAt w → Calls Tryz.prog 6 #[.agg #[v, .int .i64 0]] w fun e w' => e = .returned r0 ∧ Below w.heap.size w w')
    {tab : List CallE} (ht : ∀ e ∈ tab, CallOk Ψ (fun w => Tabs w ∧ NamesAt w) e) {orc : List Ent} (ho : ∀ e ∈ orc, EntOk Ψ e) {r : Option Er} {P : Program} (hP : P = Tryz.prog)
    (hr : evRun P (sumsL ans tab) 400 100 3 #[.chan (some 0), .chan (some 1)] (startL orc) = r) (h : isTrue r = true) (w : World) (hT : Tabs w) (hn : NamesAt w) :
    Calls Tryz.prog 3 #[.string ky, .string z] w fun e w' => e = .returned (.bool true) ∧ Below w.heap.size w w' :=
  law_run (l := rowsL) hp (sumsL_sound hp h0 h1 ha hc ht) hP hr h (args_two h0 h1) w ho (rowsL_at hT hn)
theorem law_long {ky z : ByteArray} {orc : List Ent} (ho : ∀ e ∈ orc, EntOk ⟨envB ky z, Tryz.prog⟩ e) {r : Option Er} {P : Program} (hP : P = Tryz.prog)
    (hr : evRun P (withT sums fsL varsB tabA) 400 100 3 #[.chan (some 0), .chan (some 1)] (startL orc) = r) (h : isTrue r = true) (w : World) (hT : Tabs w) (hn : NamesAt w) :
    Calls Tryz.prog 3 #[.string ky, .string z] w fun e w' => e = .returned (.bool true) ∧ Below w.heap.size w w' :=
  law_run (Ψ := ⟨envB ky z, Tryz.prog⟩) (l := rowsL) rfl (withT_sound rfl sums_sound (W := fun w => Tabs w ∧ NamesAt w) varsB_at (tabA_ok ky z)) hP hr h (args_two rfl rfl) w ho (rowsL_at hT hn)
theorem cells_true (ky z : ByteArray) (w : World) (hT : Tabs w) (hn : NamesAt w) :
    Calls Tryz.prog 3 #[.string ky, .string z] w fun e w' => e = .returned (.bool true) ∧ Below w.heap.size w w' := by
  by_cases hk : ky.size ≤ 100
  · by_cases hz : z.size ≤ 100
    · have ha : decide ((100 : Int) < (ky.size : Nat)) = false := by simp only [decide_eq_false_iff_not]; omega
      have hb : decide ((100 : Int) < (z.size : Nat)) = false := by simp only [decide_eq_false_iff_not]; omega
      have bad : ¬ (chk ky.data.toList = true ∧ chk z.data.toList = true) → ∀ (w : World) (v : Value), NodesAt w v (oneG ky z) → Tabs w → NamesAt w → Calls Tryz.prog 6 #[.agg #[v, .int .i64 0]] w fun e w' => e = .returned (.tuple #[.string ⟨#[]⟩, .int .i64 3]) ∧ Below w.heap.size w w' :=
        fun hc w v hN hE _ => print_bad w v ky z hN hk hz hc hE
      cases c1 : chk ky.data.toList with
      | false =>
        cases c2 : chk z.data.toList with
        | false => exact law_at (Ψ := ⟨envB ky z, Tryz.prog⟩) rfl rfl rfl (fun ρ => vr_two (.string _) (.int _ _)) (bad (by rw [c1]; exact fun h => by cases h.1)) (tabP_ok ky z false false hk hz c1 c2) (orcP_ok ky z _ _ ha hb) rfl rfl run_bad1 w hT hn
        | true => exact law_at (Ψ := ⟨envB ky z, Tryz.prog⟩) rfl rfl rfl (fun ρ => vr_two (.string _) (.int _ _)) (bad (by rw [c1]; exact fun h => by cases h.1)) (tabP_ok ky z false true hk hz c1 c2) (orcP_ok ky z _ _ ha hb) rfl rfl run_bad2 w hT hn
      | true =>
        cases c2 : chk z.data.toList with
        | false => exact law_at (Ψ := ⟨envB ky z, Tryz.prog⟩) rfl rfl rfl (fun ρ => vr_two (.string _) (.int _ _)) (bad (by rw [c2]; exact fun h => by cases h.2)) (tabP_ok ky z true false hk hz c1 c2) (orcP_ok ky z _ _ ha hb) rfl rfl run_bad3 w hT hn
        | true =>
          obtain ⟨tz, htz, hctz⟩ := size_ref ky.size hk
          obtain ⟨t0, ht0, hct0⟩ := size_ref 0 (by decide)
          obtain ⟨d0, r0, hd0, n0⟩ := head_first ky
          obtain ⟨d1, r1, hd1, n1⟩ := cellV_head z.data.toList
          obtain ⟨co1, hco⟩ := rs_cell z.data.toList
          exact law_at (Ψ := ⟨envG ky z tz t0 d0 d1 co1, Tryz.prog⟩) rfl rfl rfl (fun ρ => vr_two (.sym rfl rfl) (.int _ _)) (fun w v hN hE hn => print_one w v ky z hN hk hz c1 c2 hE hn) (tabG_ok hk hz c1 c2 hctz hct0 hco) (orcG_ok hk hz htz ht0 hd0 n0 hd1 n1) rfl rfl run_good w hT hn
    · have hb : decide ((100 : Int) < (z.size : Nat)) = true := by simp only [decide_eq_true_eq]; omega
      have ha : decide ((100 : Int) < (ky.size : Nat)) = false := by simp only [decide_eq_false_iff_not]; omega
      exact law_long (orcP_ok ky z _ _ ha hb) rfl rfl run_long3 w hT hn
  · have ha : decide ((100 : Int) < (ky.size : Nat)) = true := by simp only [decide_eq_true_eq]; omega
    cases hb : decide ((100 : Int) < (z.size : Nat)) with
    | false => exact law_long (orcP_ok ky z _ _ ha hb) rfl rfl run_long1 w hT hn
    | true => exact law_long (orcP_ok ky z _ _ ha hb) rfl rfl run_long2 w hT hn
end Go.Proofs.YtcipjifpigpfdaaGreatDoor
