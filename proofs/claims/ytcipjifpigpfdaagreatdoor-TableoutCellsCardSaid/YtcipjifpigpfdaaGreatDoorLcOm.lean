import Derived.Test.YtcipjifpigpfdaaGreatDoorP09
import Derived.Test.YtcipjifpigpfdaaGreatDoorP10
import Derived.Test.YtcipjifpigpfdaaGreatDoorP11
/- The entries of the law's run on symbols, each with its reason; the law. -/
namespace Go.Proofs.YtcipjifpigpfdaaGreatDoor
open Go.Ev
open Go.RowKit
theorem vr_two {Ψ : SymEnv} {ρ : Ren Ψ} {a b a' b' : Value} (h1 : VR ρ a a') (h2 : VR ρ b b') : VR ρ (.tuple #[a, b]) (.tuple #[a', b']) := .tuple rfl fun i v v' q1 q2 => by
  match i, q1, q2 with
  | 0, q1, q2 => cases q1; cases q2; exact h1
  | 1, q1, q2 => cases q1; cases q2; exact h2
theorem vr_five {Ψ : SymEnv} {ρ : Ren Ψ} {a b c d e a' b' c' d' e' : Value} (h1 : VR ρ a a') (h2 : VR ρ b b') (h3 : VR ρ c c') (h4 : VR ρ d d') (h5 : VR ρ e e') : VR ρ (.agg #[a, b, c, d, e]) (.agg #[a', b', c', d', e']) := .agg rfl fun i v v' q1 q2 => by
  match i, q1, q2 with
  | 0, q1, q2 => cases q1; cases q2; exact h1
  | 1, q1, q2 => cases q1; cases q2; exact h2
  | 2, q1, q2 => cases q1; cases q2; exact h3
  | 3, q1, q2 => cases q1; cases q2; exact h4
  | 4, q1, q2 => cases q1; cases q2; exact h5
theorem ix_byte (s : ByteArray) (c : UInt8) (n : Nat) (h : Lib.indexByte s.data.toList c = n) (w : World) : Calls Tryz.prog 51 #[.string s, .int .u8 c.toNat] w fun o w' => o = .returned (.int .i64 n) ∧ Below w.heap.size w w' := by
  refine (Tryz.strings_IndexByte s c.toNat w).mono ?_
  rintro o w' ⟨rfl, rfl⟩
  have e : ((c.toNat : Nat) : Int).toNat.toUInt8 = c := by simp
  rw [e, h]
  exact ⟨rfl, Below.refl _ _⟩
theorem count_tab (s : ByteArray) (h : ∀ b ∈ s.data.toList, b ≠ 9) (w : World) : Calls Tryz.prog 52 #[.string s, .string ⟨#[9]⟩] w fun o w' => o = .returned (.int .i64 0) ∧ Below w.heap.size w w' := by
  refine (Tryz.strings_Count_one s 9 w).mono ?_
  rintro o w' ⟨rfl, rfl⟩
  rw [count_none _ _ h]
  exact ⟨rfl, Below.refl _ _⟩
theorem read_zero (ky z : ByteArray) (hk : ky.size ≤ 100) (hz : z.size ≤ 100) (w : World) : Calls Tryz.prog 53 #[.string (srcB ky z), .int .i64 0, .int .i64 ((headL ky).length : Nat)] w fun o w' => o = .returned (.tuple #[.agg #[.int .i64 0, .int .i64 ((headL ky).length : Nat), .int .i64 ((nameV ky.data.toList).length : Nat), .string ky, .string ⟨(ky.data.toList ++ [58, 116, 101, 120, 116]).toArray⟩], .int .i64 (-1)]) ∧ Below w.heap.size w w' := by
  have h1 := src_small ky z hk hz
  have h2 := src_size ky z
  refine (read_any (srcB ky z) 0 (headL ky).length w _ _ (by omega) (Nat.zero_le _) (by omega) (by rw [List.drop_zero, Nat.sub_zero, src_take0]; exact rs_line0 ky)).mono ?_
  rintro o w' ⟨rfl, hb⟩
  refine ⟨?_, hb⟩
  simp [coI, coS]
theorem read_one (ky z : ByteArray) (co1 : Option (Nat × List UInt8)) (hk : ky.size ≤ 100) (hz : z.size ≤ 100) (hco : rs (cellV z.data.toList) 0 [] none = some (z.data.toList, co1)) (w : World) : Calls Tryz.prog 53 #[.string (srcB ky z), .int .i64 (((headL ky).length + 1 : Nat) : Int), .int .i64 (((headL ky).length + 1 + (cellV z.data.toList).length : Nat) : Int)] w fun o w' => o = .returned (.tuple #[.agg #[.int .i64 (((headL ky).length + 1 : Nat) : Int), .int .i64 (((headL ky).length + 1 + (cellV z.data.toList).length : Nat) : Int), .int .i64 (coI ((headL ky).length + 1) co1), .string (coS co1), .string z], .int .i64 (-1)]) ∧ Below w.heap.size w w' := by
  have h1 := src_small ky z hk hz
  have h2 := src_size ky z
  refine (read_any (srcB ky z) _ _ w _ _ (by omega) (by omega) (by omega) (by rw [Nat.add_sub_cancel_left, src_take1]; exact hco)).mono ?_
  rintro o w' ⟨rfl, hb⟩
  refine ⟨?_, hb⟩
  simp
def envG (ky z tz t0 : ByteArray) (d0 d1 : UInt8) (co1 : Option (Nat × List UInt8)) (k : Nat) : Option Value := [.string ky, .string z, .int .i64 (ky.size : Nat), .int .i64 (z.size : Nat), .string (srcB ky z), .int .i64 ((srcB ky z).size : Nat), .string tz, .string ((⟨#[102]⟩ : ByteArray) ++ tz), .string (((⟨#[102]⟩ : ByteArray) ++ tz) ++ ⟨#[58]⟩), .string ((((⟨#[102]⟩ : ByteArray) ++ tz) ++ ⟨#[58]⟩) ++ ky), .string (((((⟨#[102]⟩ : ByteArray) ++ tz) ++ ⟨#[58]⟩) ++ ky) ++ t0), .string ((((((⟨#[102]⟩ : ByteArray) ++ tz) ++ ⟨#[58]⟩) ++ ky) ++ t0) ++ ⟨#[40]⟩), .string (((((((⟨#[102]⟩ : ByteArray) ++ tz) ++ ⟨#[58]⟩) ++ ky) ++ t0) ++ ⟨#[40]⟩) ++ ⟨#[41]⟩), .int .i64 ((headL ky).length : Nat), .string ((srcB ky z).extract 0 (headL ky).length), .int .u8 d0.toNat, .int .i64 ((nameV ky.data.toList).length : Nat), .string ⟨(ky.data.toList ++ [58, 116, 101, 120, 116]).toArray⟩, .int .i64 (((nameV ky.data.toList).length + 1 : Nat) : Int), .int .i64 (((headL ky).length + 1 : Nat) : Int), .string ((srcB ky z).extract ((headL ky).length + 1) (srcB ky z).size), .int .i64 ((cellV z.data.toList).length : Nat), .int .i64 (((headL ky).length + 1 + (cellV z.data.toList).length : Nat) : Int), .string ((srcB ky z).extract ((headL ky).length + 1) ((headL ky).length + 1 + (cellV z.data.toList).length)), .int .u8 d1.toNat, .int .i64 (coI ((headL ky).length + 1) co1), .string (coS co1), .int .i64 (((headL ky).length + 1 + (cellV z.data.toList).length + 1 : Nat) : Int), .string t0][k]?
def orcG : List Ent := [⟨.len 9, [.chan (some 0)], .chan (some 2)⟩, ⟨.len 9, [.chan (some 1)], .chan (some 3)⟩, ⟨.bin .gtr 3, [.chan (some 2), .int .i64 100], .bool false⟩, ⟨.bin .gtr 3, [.chan (some 3), .int .i64 100], .bool false⟩, ⟨.bin .add 9, [.string ⟨#[102]⟩, .chan (some 6)], .chan (some 7)⟩, ⟨.bin .add 9, [.chan (some 7), .string ⟨#[58]⟩], .chan (some 8)⟩, ⟨.bin .add 9, [.chan (some 8), .chan (some 0)], .chan (some 9)⟩, ⟨.bin .add 9, [.chan (some 9), .chan (some 28)], .chan (some 10)⟩, ⟨.bin .add 9, [.chan (some 10), .string ⟨#[40]⟩], .chan (some 11)⟩, ⟨.bin .add 9, [.chan (some 11), .string ⟨#[41]⟩], .chan (some 12)⟩, ⟨.len 9, [.chan (some 4)], .chan (some 5)⟩, ⟨.bin .gtr 3, [.chan (some 5), .int .i64 65536], .bool false⟩, ⟨.bin .lss 3, [.int .i64 0, .chan (some 5)], .bool true⟩, ⟨.slc 9 true false, [.chan (some 4), .int .i64 0], .chan (some 4)⟩, ⟨.bin .geq 3, [.chan (some 13), .int .i64 0], .bool true⟩, ⟨.bin .add 3, [.int .i64 0, .chan (some 13)], .chan (some 13)⟩, ⟨.slc 9 true true, [.chan (some 4), .int .i64 0, .chan (some 13)], .chan (some 14)⟩, ⟨.bin .eql 9, [.chan (some 14), .string ⟨#[]⟩], .bool false⟩, ⟨.idx 9, [.chan (some 14), .int .i64 0], .chan (some 15)⟩, ⟨.bin .eql 5, [.chan (some 15), .int .u8 35], .bool false⟩, ⟨.bin .eql 9, [.chan (some 14), .string ⟨#[91, 93]⟩], .bool false⟩, ⟨.bin .leq 3, [.int .i64 0, .chan (some 13)], .bool true⟩, ⟨.bin .leq 3, [.chan (some 16), .int .i64 0], .bool false⟩, ⟨.bin .add 3, [.chan (some 16), .int .i64 1], .chan (some 18)⟩, ⟨.slc 9 true true, [.chan (some 4), .chan (some 18), .chan (some 13)], .string ⟨#[116, 101, 120, 116]⟩⟩, ⟨.bin .add 3, [.chan (some 13), .int .i64 1], .chan (some 19)⟩, ⟨.bin .leq 3, [.chan (some 19), .chan (some 13)], .bool false⟩, ⟨.bin .lss 3, [.chan (some 19), .chan (some 5)], .bool true⟩, ⟨.slc 9 true false, [.chan (some 4), .chan (some 19)], .chan (some 20)⟩, ⟨.bin .geq 3, [.chan (some 21), .int .i64 0], .bool true⟩, ⟨.bin .add 3, [.chan (some 19), .chan (some 21)], .chan (some 22)⟩, ⟨.slc 9 true true, [.chan (some 4), .chan (some 19), .chan (some 22)], .chan (some 23)⟩, ⟨.bin .eql 9, [.chan (some 23), .string ⟨#[]⟩], .bool false⟩, ⟨.idx 9, [.chan (some 23), .int .i64 0], .chan (some 24)⟩, ⟨.bin .eql 5, [.chan (some 24), .int .u8 35], .bool false⟩, ⟨.bin .eql 3, [.chan (some 19), .chan (some 22)], .bool false⟩, ⟨.bin .neq 9, [.chan (some 23), .string ⟨#[126]⟩], .bool true⟩, ⟨.bin .add 3, [.chan (some 22), .int .i64 1], .chan (some 27)⟩, ⟨.bin .lss 3, [.chan (some 27), .chan (some 5)], .bool false⟩, ⟨.bin .neq 9, [.chan (some 0), .chan (some 0)], .bool false⟩, ⟨.bin .neq 9, [.chan (some 1), .chan (some 1)], .bool false⟩]
def tabG : List CallE := [⟨113, [.chan (some 0)], .bool true⟩, ⟨113, [.chan (some 1)], .bool true⟩, ⟨67, [.chan (some 2)], .chan (some 6)⟩, ⟨67, [.int .i64 0], .chan (some 28)⟩, ⟨24, [.chan (some 4)], .tuple #[.int .i64 (-1), .int .i64 0]⟩, ⟨51, [.chan (some 4), .int .u8 10], .chan (some 13)⟩, ⟨51, [.chan (some 20), .int .u8 10], .chan (some 21)⟩, ⟨53, [.chan (some 4), .int .i64 0, .chan (some 13)], .tuple #[.agg #[.int .i64 0, .chan (some 13), .chan (some 16), .chan (some 0), .chan (some 17)], .int .i64 (-1)]⟩, ⟨53, [.chan (some 4), .chan (some 19), .chan (some 22)], .tuple #[.agg #[.chan (some 19), .chan (some 22), .chan (some 25), .chan (some 26), .chan (some 1)], .int .i64 (-1)]⟩, ⟨52, [.chan (some 23), .string ⟨#[9]⟩], .int .i64 0⟩, ⟨4, [], .bool true⟩]
section
variable {ky z tz t0 : ByteArray} {d0 d1 : UInt8} {r0 r1 : List UInt8} {co1 : Option (Nat × List UInt8)}
set_option maxHeartbeats 8000000 in
set_option maxRecDepth 100000 in
theorem orcG_ok (hk : ky.size ≤ 100) (hz : z.size ≤ 100) (htz : tz.size ≤ 10) (ht0 : t0.size ≤ 10) (hd0 : headL ky = d0 :: r0) (n0 : d0 ≠ 35) (hd1 : cellV z.data.toList = d1 :: r1) (n1 : d1 ≠ 35) : ∀ e ∈ orcG, EntOk ⟨envG ky z tz t0 d0 d1 co1, Tryz.prog⟩ e := by
  have h1 := src_small ky z hk hz
  have h2 := src_size ky z
  have h3 := headL_len ky
  have h4 := nameV_pos ky.data.toList
  have h5 := cellV_pos z.data.toList
  have n0' : ¬ d0.toNat = 35 := fun e => n0 (by rw [← UInt8.ofNat_toNat (x := d0), e]; rfl)
  have n1' : ¬ d1.toNat = 35 := fun e => n1 (by rw [← UInt8.ofNat_toNat (x := d1), e]; rfl)
  unfold orcG
  refine all_cons ⟨[.string ky], .int .i64 (ky.size : Nat), rfl, rfl, ⟨ky, rfl, rfl⟩⟩ ?_
  refine all_cons ⟨[.string z], .int .i64 (z.size : Nat), rfl, rfl, ⟨z, rfl, rfl⟩⟩ ?_
  refine all_cons ⟨[.int .i64 (ky.size : Nat), .int .i64 100], .bool false, rfl, rfl, k_gtr _ _ _ _ _ _ (by simp; omega)⟩ ?_
  refine all_cons ⟨[.int .i64 (z.size : Nat), .int .i64 100], .bool false, rfl, rfl, k_gtr _ _ _ _ _ _ (by simp; omega)⟩ ?_
  refine all_cons ⟨[.string ⟨#[102]⟩, .string tz], .string ((⟨#[102]⟩ : ByteArray) ++ tz), rfl, rfl, k_cat _ _ _ _ _ rfl (by have : (⟨#[102]⟩ : ByteArray).size = 1 := rfl; omega)⟩ ?_
  refine all_cons ⟨[.string ((⟨#[102]⟩ : ByteArray) ++ tz), .string ⟨#[58]⟩], .string (((⟨#[102]⟩ : ByteArray) ++ tz) ++ ⟨#[58]⟩), rfl, rfl, k_cat _ _ _ _ _ rfl (by simp only [ByteArray.size_append]; have : (⟨#[102]⟩ : ByteArray).size = 1 := rfl; have : (⟨#[58]⟩ : ByteArray).size = 1 := rfl; omega)⟩ ?_
  refine all_cons ⟨[.string (((⟨#[102]⟩ : ByteArray) ++ tz) ++ ⟨#[58]⟩), .string ky], .string ((((⟨#[102]⟩ : ByteArray) ++ tz) ++ ⟨#[58]⟩) ++ ky), rfl, rfl, k_cat _ _ _ _ _ rfl (by simp only [ByteArray.size_append]; have : (⟨#[102]⟩ : ByteArray).size = 1 := rfl; have : (⟨#[58]⟩ : ByteArray).size = 1 := rfl; omega)⟩ ?_
  refine all_cons ⟨[.string ((((⟨#[102]⟩ : ByteArray) ++ tz) ++ ⟨#[58]⟩) ++ ky), .string t0], .string (((((⟨#[102]⟩ : ByteArray) ++ tz) ++ ⟨#[58]⟩) ++ ky) ++ t0), rfl, rfl, k_cat _ _ _ _ _ rfl (by simp only [ByteArray.size_append]; have : (⟨#[102]⟩ : ByteArray).size = 1 := rfl; have : (⟨#[58]⟩ : ByteArray).size = 1 := rfl; omega)⟩ ?_
  refine all_cons ⟨[.string (((((⟨#[102]⟩ : ByteArray) ++ tz) ++ ⟨#[58]⟩) ++ ky) ++ t0), .string ⟨#[40]⟩], .string ((((((⟨#[102]⟩ : ByteArray) ++ tz) ++ ⟨#[58]⟩) ++ ky) ++ t0) ++ ⟨#[40]⟩), rfl, rfl, k_cat _ _ _ _ _ rfl (by simp only [ByteArray.size_append]; have : (⟨#[102]⟩ : ByteArray).size = 1 := rfl; have : (⟨#[58]⟩ : ByteArray).size = 1 := rfl; have : (⟨#[40]⟩ : ByteArray).size = 1 := rfl; omega)⟩ ?_
  refine all_cons ⟨[.string ((((((⟨#[102]⟩ : ByteArray) ++ tz) ++ ⟨#[58]⟩) ++ ky) ++ t0) ++ ⟨#[40]⟩), .string ⟨#[41]⟩], .string (((((((⟨#[102]⟩ : ByteArray) ++ tz) ++ ⟨#[58]⟩) ++ ky) ++ t0) ++ ⟨#[40]⟩) ++ ⟨#[41]⟩), rfl, rfl, k_cat _ _ _ _ _ rfl (by simp only [ByteArray.size_append]; have : (⟨#[102]⟩ : ByteArray).size = 1 := rfl; have : (⟨#[58]⟩ : ByteArray).size = 1 := rfl; have : (⟨#[40]⟩ : ByteArray).size = 1 := rfl; have : (⟨#[41]⟩ : ByteArray).size = 1 := rfl; omega)⟩ ?_
  refine all_cons ⟨[.string (srcB ky z)], .int .i64 ((srcB ky z).size : Nat), rfl, rfl, ⟨srcB ky z, rfl, rfl⟩⟩ ?_
  refine all_cons ⟨[.int .i64 ((srcB ky z).size : Nat), .int .i64 65536], .bool false, rfl, rfl, k_gtr _ _ _ _ _ _ (by simp; omega)⟩ ?_
  refine all_cons ⟨[.int .i64 0, .int .i64 ((srcB ky z).size : Nat)], .bool true, rfl, rfl, k_lss _ _ _ _ _ _ (by simp; omega)⟩ ?_
  refine all_cons ⟨[.string (srcB ky z), .int .i64 0], .string (srcB ky z), rfl, rfl, k_sl _ 0 _ (by omega) (by apply ext_list; simp)⟩ ?_
  refine all_cons ⟨[.int .i64 ((headL ky).length : Nat), .int .i64 0], .bool true, rfl, rfl, k_geq _ _ _ _ _ _ (by simp)⟩ ?_
  refine all_cons ⟨[.int .i64 0, .int .i64 ((headL ky).length : Nat)], .int .i64 ((headL ky).length : Nat), rfl, rfl, k_add _ _ _ _ _ (by omega) (by omega) (by omega)⟩ ?_
  refine all_cons ⟨[.string (srcB ky z), .int .i64 0, .int .i64 ((headL ky).length : Nat)], .string ((srcB ky z).extract 0 (headL ky).length), rfl, rfl, k_slh _ 0 _ _ (by omega) (by omega) rfl⟩ ?_
  refine all_cons ⟨[.string ((srcB ky z).extract 0 (headL ky).length), .string ⟨#[]⟩], .bool false, rfl, rfl, k_eqs _ _ _ (by rw [src_line0, hd0]; rfl)⟩ ?_
  refine all_cons ⟨[.string ((srcB ky z).extract 0 (headL ky).length), .int .i64 0], .int .u8 d0.toNat, rfl, rfl, k_idx _ 0 d0 (by rw [src_line0, hd0]; rfl)⟩ ?_
  refine all_cons ⟨[.int .u8 d0.toNat, .int .u8 35], .bool false, rfl, rfl, k_eqi _ _ _ _ _ (by simp only [decide_eq_false_iff_not]; omega)⟩ ?_
  refine all_cons ⟨[.string ((srcB ky z).extract 0 (headL ky).length), .string ⟨#[91, 93]⟩], .bool false, rfl, rfl, k_eqs _ _ _ (by rw [src_line0]; exact beq_eq_false_iff_ne.2 (head_brackets ky))⟩ ?_
  refine all_cons ⟨[.int .i64 0, .int .i64 ((headL ky).length : Nat)], .bool true, rfl, rfl, k_leq _ _ _ _ _ _ (by simp)⟩ ?_
  refine all_cons ⟨[.int .i64 ((nameV ky.data.toList).length : Nat), .int .i64 0], .bool false, rfl, rfl, k_leq _ _ _ _ _ _ (by simp only [decide_eq_false_iff_not]; omega)⟩ ?_
  refine all_cons ⟨[.int .i64 ((nameV ky.data.toList).length : Nat), .int .i64 1], .int .i64 (((nameV ky.data.toList).length + 1 : Nat) : Int), rfl, rfl, k_add _ _ _ _ _ (by omega) (by omega) (by omega)⟩ ?_
  refine all_cons ⟨[.string (srcB ky z), .int .i64 (((nameV ky.data.toList).length + 1 : Nat) : Int), .int .i64 ((headL ky).length : Nat)], .string ⟨#[116, 101, 120, 116]⟩, rfl, rfl, k_slh _ _ _ _ (by omega) (by omega) (src_kind ky z)⟩ ?_
  refine all_cons ⟨[.int .i64 ((headL ky).length : Nat), .int .i64 1], .int .i64 (((headL ky).length + 1 : Nat) : Int), rfl, rfl, k_add _ _ _ _ _ (by omega) (by omega) (by omega)⟩ ?_
  refine all_cons ⟨[.int .i64 (((headL ky).length + 1 : Nat) : Int), .int .i64 ((headL ky).length : Nat)], .bool false, rfl, rfl, k_leq _ _ _ _ _ _ (by simp only [decide_eq_false_iff_not]; omega)⟩ ?_
  refine all_cons ⟨[.int .i64 (((headL ky).length + 1 : Nat) : Int), .int .i64 ((srcB ky z).size : Nat)], .bool true, rfl, rfl, k_lss _ _ _ _ _ _ (by simp only [decide_eq_true_eq]; omega)⟩ ?_
  refine all_cons ⟨[.string (srcB ky z), .int .i64 (((headL ky).length + 1 : Nat) : Int)], .string ((srcB ky z).extract ((headL ky).length + 1) (srcB ky z).size), rfl, rfl, k_sl _ _ _ (by omega) rfl⟩ ?_
  refine all_cons ⟨[.int .i64 ((cellV z.data.toList).length : Nat), .int .i64 0], .bool true, rfl, rfl, k_geq _ _ _ _ _ _ (by simp)⟩ ?_
  refine all_cons ⟨[.int .i64 (((headL ky).length + 1 : Nat) : Int), .int .i64 ((cellV z.data.toList).length : Nat)], .int .i64 (((headL ky).length + 1 + (cellV z.data.toList).length : Nat) : Int), rfl, rfl, k_add _ _ _ _ _ (by omega) (by omega) (by omega)⟩ ?_
  refine all_cons ⟨[.string (srcB ky z), .int .i64 (((headL ky).length + 1 : Nat) : Int), .int .i64 (((headL ky).length + 1 + (cellV z.data.toList).length : Nat) : Int)], .string ((srcB ky z).extract ((headL ky).length + 1) ((headL ky).length + 1 + (cellV z.data.toList).length)), rfl, rfl, k_slh _ _ _ _ (by omega) (by omega) rfl⟩ ?_
  refine all_cons ⟨[.string ((srcB ky z).extract ((headL ky).length + 1) ((headL ky).length + 1 + (cellV z.data.toList).length)), .string ⟨#[]⟩], .bool false, rfl, rfl, k_eqs _ _ _ (by rw [src_line1, hd1]; rfl)⟩ ?_
  refine all_cons ⟨[.string ((srcB ky z).extract ((headL ky).length + 1) ((headL ky).length + 1 + (cellV z.data.toList).length)), .int .i64 0], .int .u8 d1.toNat, rfl, rfl, k_idx _ 0 d1 (by rw [src_line1, hd1]; rfl)⟩ ?_
  refine all_cons ⟨[.int .u8 d1.toNat, .int .u8 35], .bool false, rfl, rfl, k_eqi _ _ _ _ _ (by simp only [decide_eq_false_iff_not]; omega)⟩ ?_
  refine all_cons ⟨[.int .i64 (((headL ky).length + 1 : Nat) : Int), .int .i64 (((headL ky).length + 1 + (cellV z.data.toList).length : Nat) : Int)], .bool false, rfl, rfl, k_eqi _ _ _ _ _ (by simp only [decide_eq_false_iff_not]; omega)⟩ ?_
  refine all_cons ⟨[.string ((srcB ky z).extract ((headL ky).length + 1) ((headL ky).length + 1 + (cellV z.data.toList).length)), .string ⟨#[126]⟩], .bool true, rfl, rfl, k_nes _ _ _ (by rw [src_line1]; simp only [Bool.not_eq_true', beq_eq_false_iff_ne]; exact cellV_tilde _)⟩ ?_
  refine all_cons ⟨[.int .i64 (((headL ky).length + 1 + (cellV z.data.toList).length : Nat) : Int), .int .i64 1], .int .i64 (((headL ky).length + 1 + (cellV z.data.toList).length + 1 : Nat) : Int), rfl, rfl, k_add _ _ _ _ _ (by omega) (by omega) (by omega)⟩ ?_
  refine all_cons ⟨[.int .i64 (((headL ky).length + 1 + (cellV z.data.toList).length + 1 : Nat) : Int), .int .i64 ((srcB ky z).size : Nat)], .bool false, rfl, rfl, k_lss _ _ _ _ _ _ (by simp only [decide_eq_false_iff_not]; omega)⟩ ?_
  refine all_cons ⟨[.string ky, .string ky], .bool false, rfl, rfl, k_nes _ _ _ (by simp)⟩ ?_
  refine all_cons ⟨[.string z, .string z], .bool false, rfl, rfl, k_nes _ _ _ (by simp)⟩ ?_
  exact all_nil
set_option maxHeartbeats 8000000 in
set_option maxRecDepth 100000 in
theorem tabG_ok (hk : ky.size ≤ 100) (hz : z.size ≤ 100) (c1 : chk ky.data.toList = true) (c2 : chk z.data.toList = true)
    (htz : ∀ w, Calls Tryz.prog 67 #[.int .i64 (ky.size : Nat)] w fun e w' => e = .returned (.string tz) ∧ Below w.heap.size w w') (ht0 : ∀ w, Calls Tryz.prog 67 #[.int .i64 0] w fun e w' => e = .returned (.string t0) ∧ Below w.heap.size w w')
    (hco : rs (cellV z.data.toList) 0 [] none = some (z.data.toList, co1)) : ∀ e ∈ tabG, CallOk ⟨envG ky z tz t0 d0 d1 co1, Tryz.prog⟩ (fun w => Tabs w ∧ NamesAt w) e := by
  unfold tabG
  refine all_cons ⟨[.string ky], .bool true, rfl, fun ρ => .bool _, fun w hw => (valid_ref ky w (by omega)).mono fun o w' h => ⟨by rw [h.1, c1], h.2⟩⟩ ?_
  refine all_cons ⟨[.string z], .bool true, rfl, fun ρ => .bool _, fun w hw => (valid_ref z w (by omega)).mono fun o w' h => ⟨by rw [h.1, c2], h.2⟩⟩ ?_
  refine all_cons ⟨[.int .i64 (ky.size : Nat)], .string tz, rfl, fun ρ => .sym rfl rfl, fun w hw => htz w⟩ ?_
  refine all_cons ⟨[.int .i64 0], .string t0, rfl, fun ρ => .sym rfl rfl, fun w hw => ht0 w⟩ ?_
  refine all_cons ⟨[.string (srcB ky z)], .tuple #[.int .i64 (-1), .int .i64 0], rfl, fun ρ => vr_two (.int _ _) (.int _ _), fun w hw => (check_any _ w hw.1).mono fun o w' h => ⟨by rw [h.1, src_chk ky z c1 c2]; rfl, h.2⟩⟩ ?_
  refine all_cons ⟨[.string (srcB ky z), .int .u8 10], .int .i64 ((headL ky).length : Nat), rfl, fun ρ => .sym rfl rfl, fun w hw => ix_byte _ 10 _ (src_index0 ky z) w⟩ ?_
  refine all_cons ⟨[.string ((srcB ky z).extract ((headL ky).length + 1) (srcB ky z).size), .int .u8 10], .int .i64 ((cellV z.data.toList).length : Nat), rfl, fun ρ => .sym rfl rfl, fun w hw => ix_byte _ 10 _ (by rw [ext_drop_take, List.take_of_length_le (by rw [List.length_drop]; simp)]; exact src_index1 ky z) w⟩ ?_
  refine all_cons ⟨[.string (srcB ky z), .int .i64 0, .int .i64 ((headL ky).length : Nat)], .tuple #[.agg #[.int .i64 0, .int .i64 ((headL ky).length : Nat), .int .i64 ((nameV ky.data.toList).length : Nat), .string ky, .string ⟨(ky.data.toList ++ [58, 116, 101, 120, 116]).toArray⟩], .int .i64 (-1)], rfl, fun ρ => vr_two (vr_five (.int _ _) (.sym rfl rfl) (.sym rfl rfl) (.sym rfl rfl) (.sym rfl rfl)) (.int _ _), fun w hw => read_zero ky z hk hz w⟩ ?_
  refine all_cons ⟨[.string (srcB ky z), .int .i64 (((headL ky).length + 1 : Nat) : Int), .int .i64 (((headL ky).length + 1 + (cellV z.data.toList).length : Nat) : Int)], .tuple #[.agg #[.int .i64 (((headL ky).length + 1 : Nat) : Int), .int .i64 (((headL ky).length + 1 + (cellV z.data.toList).length : Nat) : Int), .int .i64 (coI ((headL ky).length + 1) co1), .string (coS co1), .string z], .int .i64 (-1)], rfl, fun ρ => vr_two (vr_five (.sym rfl rfl) (.sym rfl rfl) (.sym rfl rfl) (.sym rfl rfl) (.sym rfl rfl)) (.int _ _), fun w hw => read_one ky z co1 hk hz hco w⟩ ?_
  refine all_cons ⟨[.string ((srcB ky z).extract ((headL ky).length + 1) ((headL ky).length + 1 + (cellV z.data.toList).length)), .string ⟨#[9]⟩], .int .i64 0, rfl, fun ρ => .int _ _, fun w hw => count_tab _ (by rw [src_line1]; intro b hb; exact (cellV_ctl _ b hb).1) w⟩ ?_
  refine all_cons ⟨[], .bool true, rfl, fun ρ => .bool _, fun w hw => awake_true w hw.2⟩ ?_
  exact all_nil
end
end Go.Proofs.YtcipjifpigpfdaaGreatDoor
