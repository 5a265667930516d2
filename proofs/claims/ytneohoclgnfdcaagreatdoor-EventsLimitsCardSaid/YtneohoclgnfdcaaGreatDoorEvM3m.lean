import Derived.Test.YtneohoclgnfdcaaGreatDoorP05
/- One call of the examples, written down and checked by the kernel. -/
namespace Go.Proofs.YtneohoclgnfdcaaGreatDoor
open Go.Ev
def m3Args : List Value := [.agg #[.slice (some ⟨456, 0, none⟩) 4 9223372036854775808, .int .i64 0]]
def m3Pre : List (Nat × AObj) := [(344, .row ⟨[.int .i64 1], 3, 1, true⟩), (456, .row ⟨[.int .i64 10, .string ⟨#[]⟩, .bool false, .slice (some ⟨344, 0, none⟩) 1 9223372036854775808, .slice (some ⟨561, 0, none⟩) 1 9223372036854775808, .int .i64 5, .string ⟨#[97]⟩, .bool false, .slice none 0 0, .slice none 0 0, .int .i64 9, .string ⟨#[]⟩, .bool false, .slice none 0 0, .slice (some ⟨516, 0, none⟩) 1 9223372036854775808, .int .i64 2, .string ⟨#[49]⟩, .bool false, .slice none 0 0, .slice none 0 0], 33, 5, true⟩), (516, .row ⟨[.int .i64 3], 3, 1, true⟩), (561, .row ⟨[.int .i64 2], 3, 1, true⟩)]
def m3Post : List (Nat × AObj) := [(344, .row ⟨[.int .i64 1], 3, 1, true⟩), (456, .row ⟨[.int .i64 10, .string ⟨#[]⟩, .bool false, .slice (some ⟨344, 0, none⟩) 1 9223372036854775808, .slice (some ⟨561, 0, none⟩) 1 9223372036854775808, .int .i64 5, .string ⟨#[97]⟩, .bool false, .slice none 0 0, .slice none 0 0, .int .i64 9, .string ⟨#[]⟩, .bool false, .slice none 0 0, .slice (some ⟨516, 0, none⟩) 1 9223372036854775808, .int .i64 2, .string ⟨#[49]⟩, .bool false, .slice none 0 0, .slice none 0 0], 33, 5, true⟩), (516, .row ⟨[.int .i64 3], 3, 1, true⟩), (561, .row ⟨[.int .i64 2], 3, 1, true⟩)]
def m3 : Memo := ⟨32, m3Args, 2338, 100, m3Pre, .bool true, m3Post, 3273⟩
theorem m3_ok : memoB m3 (evRun Tryz.prog sums0 400 100 m3.f m3.args.toArray m3.start) = true := by kernel_rfl
theorem m3_sound : MemoSound Tryz.prog m3 := memo_sound m3_ok fun _ h => evM sums0_sound 100 h
end Go.Proofs.YtneohoclgnfdcaaGreatDoor
