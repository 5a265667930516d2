import Derived.Test.YtgnclgbmfmibiaaGreatDoorP08
/- One call of the examples, written down and checked by the kernel. -/
namespace Go.Proofs.YtgnclgbmfmibiaaGreatDoor
open Go.Ev
def m6Args : List Value := [.agg #[.slice (some ⟨8183, 0, none⟩) 1 9223372036854775808, .int .i64 0], .agg #[.slice (some ⟨7678, 0, none⟩) 1 9223372036854775808, .int .i64 0]]
def m6Pre : List (Nat × AObj) := [(7678, .row ⟨[.int .i64 3, .string ⟨#[49, 101, 48]⟩, .bool false, .slice none 0 0, .slice none 0 0], 25, 5, true⟩), (8183, .row ⟨[.int .i64 2, .string ⟨#[49, 48]⟩, .bool false, .slice none 0 0, .slice none 0 0], 25, 5, true⟩)]
def m6Post : List (Nat × AObj) := [(7678, .row ⟨[.int .i64 3, .string ⟨#[49, 101, 48]⟩, .bool false, .slice none 0 0, .slice none 0 0], 25, 5, true⟩), (8183, .row ⟨[.int .i64 2, .string ⟨#[49, 48]⟩, .bool false, .slice none 0 0, .slice none 0 0], 25, 5, true⟩)]
def m6 : Memo := ⟨13, m6Args, 8617, 100, m6Pre, .tuple #[.int .i64 (-1), .int .i64 0], m6Post, 9696⟩
theorem m6_ok : memoB m6 (evRun Tryz.prog sums0 400 100 m6.f m6.args.toArray m6.start) = true := by kernel_rfl
theorem m6_sound : MemoSound Tryz.prog m6 := memo_sound m6_ok fun _ h => evM sums0_sound 100 h
end Go.Proofs.YtgnclgbmfmibiaaGreatDoor
