import Derived.Test.YtgnclgbmfmibiaaGreatDoorP08
/- One call of the examples, written down and checked by the kernel. -/
namespace Go.Proofs.YtgnclgbmfmibiaaGreatDoor
open Go.Ev
def m8Args : List Value := [.agg #[.slice (some ⟨7678, 0, none⟩) 1 9223372036854775808, .int .i64 0], .agg #[.slice (some ⟨8183, 0, none⟩) 1 9223372036854775808, .int .i64 0]]
def m8Pre : List (Nat × AObj) := [(7678, .row ⟨[.int .i64 3, .string ⟨#[49, 101, 48]⟩, .bool false, .slice none 0 0, .slice none 0 0], 25, 5, true⟩), (8183, .row ⟨[.int .i64 2, .string ⟨#[49, 48]⟩, .bool false, .slice none 0 0, .slice none 0 0], 25, 5, true⟩)]
def m8Post : List (Nat × AObj) := [(7678, .row ⟨[.int .i64 3, .string ⟨#[49, 101, 48]⟩, .bool false, .slice none 0 0, .slice none 0 0], 25, 5, true⟩), (8183, .row ⟨[.int .i64 2, .string ⟨#[49, 48]⟩, .bool false, .slice none 0 0, .slice none 0 0], 25, 5, true⟩)]
def m8 : Memo := ⟨14, m8Args, 11830, 100, m8Pre, .bool false, m8Post, 12203⟩
theorem m8_ok : memoB m8 (evRun Tryz.prog sums0 400 100 m8.f m8.args.toArray m8.start) = true := by kernel_rfl
theorem m8_sound : MemoSound Tryz.prog m8 := memo_sound m8_ok fun _ h => evM sums0_sound 100 h
end Go.Proofs.YtgnclgbmfmibiaaGreatDoor
