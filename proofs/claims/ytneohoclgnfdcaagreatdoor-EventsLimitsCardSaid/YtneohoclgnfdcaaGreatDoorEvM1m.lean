import Derived.Test.YtneohoclgnfdcaaGreatDoorP05
/- One call of the examples, written down and checked by the kernel. -/
namespace Go.Proofs.YtneohoclgnfdcaaGreatDoor
open Go.Ev
def m1Args : List Value := [.string ⟨#[123, 34, 97, 34, 61, 91, 49, 93, 125]⟩]
def m1Pre : List (Nat × AObj) := []
def m1Post : List (Nat × AObj) := [(344, .row ⟨[.int .i64 1], 3, 1, true⟩), (456, .row ⟨[.int .i64 10, .string ⟨#[]⟩, .bool false, .slice (some ⟨344, 0, none⟩) 1 9223372036854775808, .slice (some ⟨561, 0, none⟩) 1 9223372036854775808, .int .i64 5, .string ⟨#[97]⟩, .bool false, .slice none 0 0, .slice none 0 0, .int .i64 9, .string ⟨#[]⟩, .bool false, .slice none 0 0, .slice (some ⟨516, 0, none⟩) 1 9223372036854775808, .int .i64 2, .string ⟨#[49]⟩, .bool false, .slice none 0 0, .slice none 0 0], 33, 5, true⟩), (516, .row ⟨[.int .i64 3], 3, 1, true⟩), (561, .row ⟨[.int .i64 2], 3, 1, true⟩)]
def m1 : Memo := ⟨10, m1Args, 100, 100, m1Pre, .tuple #[.agg #[.slice (some ⟨456, 0, none⟩) 4 9223372036854775808, .int .i64 0], .int .i64 0], m1Post, 1789⟩
theorem m1_ok : memoB m1 (evRun Tryz.prog sums0 400 100 m1.f m1.args.toArray m1.start) = true := by kernel_rfl
theorem m1_sound : MemoSound Tryz.prog m1 := memo_sound m1_ok fun _ h => evM sums0_sound 100 h
end Go.Proofs.YtneohoclgnfdcaaGreatDoor
