import Derived.Test.YtgnclgbmfmibiaaGreatDoorEvk1m
/- One call of the examples, written down and checked by the kernel. -/
namespace Go.Proofs.YtgnclgbmfmibiaaGreatDoor
open Go.Ev
def m1Args : List Value := [.string ⟨#[123, 34, 97, 34, 61, 45, 48, 112, 48, 44, 34, 98, 34, 61, 91, 49, 44, 110, 117, 108, 108, 93, 125]⟩]
def m1Pre : List (Nat × AObj) := []
def m1Post : List (Nat × AObj) := [(685, .row ⟨[.int .i64 1, .int .i64 3], 3, 1, true⟩), (932, .row ⟨[.int .i64 10, .string ⟨#[]⟩, .bool false, .slice (some ⟨685, 0, none⟩) 2 9223372036854775808, .slice (some ⟨1036, 0, none⟩) 2 9223372036854775808, .int .i64 5, .string ⟨#[97]⟩, .bool false, .slice none 0 0, .slice none 0 0, .int .i64 4, .string ⟨#[45, 48, 112, 48]⟩, .bool false, .slice none 0 0, .slice none 0 0, .int .i64 5, .string ⟨#[98]⟩, .bool false, .slice none 0 0, .slice none 0 0, .int .i64 9, .string ⟨#[]⟩, .bool false, .slice none 0 0, .slice (some ⟨991, 0, none⟩) 2 9223372036854775808, .int .i64 2, .string ⟨#[49]⟩, .bool false, .slice none 0 0, .slice none 0 0, .int .i64 0, .string ⟨#[]⟩, .bool false, .slice none 0 0, .slice none 0 0], 25, 5, true⟩), (991, .row ⟨[.int .i64 5, .int .i64 6], 3, 1, true⟩), (1036, .row ⟨[.int .i64 2, .int .i64 4], 3, 1, true⟩)]
def m1 : Memo := ⟨5, m1Args, 100, 100, m1Pre, .tuple #[.agg #[.slice (some ⟨932, 0, none⟩) 7 9223372036854775808, .int .i64 0], .int .i64 0], m1Post, 3192⟩
theorem kin_0 (m : Memo) (hm : m ∈ [k1]) : m.f = 4 ∧ MemoSound Tryz.prog m := by
  cases hm with
  | head => exact ⟨rfl, k1_sound⟩
  | tail _ hm =>
  cases hm
def ksums : FuncId → Option (Array Value → St → Option Er) := (withM sums0 4 [k1])
theorem ksums_sound : ∀ g s, ksums g = some s → ∀ args σ r, s args σ = some r → CallSound Tryz.prog g args σ r := (withM_sound sums0_sound (l := [k1]) (f0 := 4) kin_0)
theorem m1_ok : memoB m1 (evRun Tryz.prog ksums 400 100 m1.f m1.args.toArray m1.start) = true := by kernel_rfl
theorem m1_sound : MemoSound Tryz.prog m1 := memo_sound m1_ok fun _ h => evM ksums_sound 100 h
end Go.Proofs.YtgnclgbmfmibiaaGreatDoor
