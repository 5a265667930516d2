import Derived.Test.YtneohoclgnfdcaaGreatDoorP05
/- One call of the examples, written down and checked by the kernel. -/
namespace Go.Proofs.YtneohoclgnfdcaaGreatDoor
open Go.Ev
def m4Args : List Value := [.slice (some ⟨3334, 0, none⟩) 3 3]
def m4Pre : List (Nat × AObj) := [(3334, .row ⟨[.int .i64 2, .int .i64 10, .string ⟨#[]⟩, .bool false, .int .i64 1, .int .i64 2, .string ⟨#[49]⟩, .bool false, .int .i64 3, .int .i64 10, .string ⟨#[]⟩, .bool false], 25, 0, true⟩)]
def m4Post : List (Nat × AObj) := [(3334, .row ⟨[.int .i64 2, .int .i64 10, .string ⟨#[]⟩, .bool false, .int .i64 1, .int .i64 2, .string ⟨#[49]⟩, .bool false, .int .i64 3, .int .i64 10, .string ⟨#[]⟩, .bool false], 25, 0, true⟩)]
def m4 : Memo := ⟨5, m4Args, 3335, 100, m4Pre, .tuple #[.int .i64 2, .int .i64 21], m4Post, 3883⟩
theorem m4_ok : memoB m4 (evRun Tryz.prog sums0 400 100 m4.f m4.args.toArray m4.start) = true := by kernel_rfl
theorem m4_sound : MemoSound Tryz.prog m4 := memo_sound m4_ok fun _ h => evM sums0_sound 100 h
end Go.Proofs.YtneohoclgnfdcaaGreatDoor
