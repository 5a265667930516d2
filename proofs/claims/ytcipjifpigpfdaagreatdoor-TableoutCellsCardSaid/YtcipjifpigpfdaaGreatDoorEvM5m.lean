import Derived.Test.YtcipjifpigpfdaaGreatDoorP04
/- One call of the examples, written down and checked by the kernel. -/
namespace Go.Proofs.YtcipjifpigpfdaaGreatDoor
open Go.Ev
def m5Args : List Value := [.string ⟨#[91, 123, 34, 97, 34, 61, 91, 49, 93, 125, 93]⟩]
def m5Pre : List (Nat × AObj) := [(0, .row ⟨[.string ⟨#[110, 117, 108, 108]⟩, .string ⟨#[98, 111, 111, 108]⟩, .string ⟨#[105, 110, 116]⟩, .string ⟨#[100, 101, 99]⟩, .string ⟨#[102, 108, 111, 97, 116]⟩, .string ⟨#[116, 101, 120, 116]⟩, .string ⟨#[98, 121, 116, 101, 115]⟩, .string ⟨#[105, 110, 115, 116, 97, 110, 116]⟩, .string ⟨#[108, 111, 99, 97, 108]⟩], 0, 0, false⟩)]
def m5Post : List (Nat × AObj) := [(0, .row ⟨[.string ⟨#[110, 117, 108, 108]⟩, .string ⟨#[98, 111, 111, 108]⟩, .string ⟨#[105, 110, 116]⟩, .string ⟨#[100, 101, 99]⟩, .string ⟨#[102, 108, 111, 97, 116]⟩, .string ⟨#[116, 101, 120, 116]⟩, .string ⟨#[98, 121, 116, 101, 115]⟩, .string ⟨#[105, 110, 115, 116, 97, 110, 116]⟩, .string ⟨#[108, 111, 99, 97, 108]⟩], 0, 0, false⟩), (22103, .row ⟨[.int .i64 2], 3, 1, true⟩), (22215, .row ⟨[.int .i64 9, .string ⟨#[]⟩, .bool false, .slice none 0 0, .slice (some ⟨22365, 0, none⟩) 1 9223372036854775808, .int .i64 10, .string ⟨#[]⟩, .bool false, .slice (some ⟨22103, 0, none⟩) 1 9223372036854775808, .slice (some ⟨22320, 0, none⟩) 1 9223372036854775808, .int .i64 5, .string ⟨#[97]⟩, .bool false, .slice none 0 0, .slice none 0 0, .int .i64 9, .string ⟨#[]⟩, .bool false, .slice none 0 0, .slice (some ⟨22275, 0, none⟩) 1 9223372036854775808, .int .i64 2, .string ⟨#[49]⟩, .bool false, .slice none 0 0, .slice none 0 0], 25, 5, true⟩), (22275, .row ⟨[.int .i64 4], 3, 1, true⟩), (22320, .row ⟨[.int .i64 3], 3, 1, true⟩), (22365, .row ⟨[.int .i64 1], 3, 1, true⟩)]
def m5 : Memo := ⟨9, m5Args, 21786, 100, m5Pre, .tuple #[.agg #[.slice (some ⟨22215, 0, none⟩) 5 9223372036854775808, .int .i64 0], .int .i64 0], m5Post, 23859⟩
theorem m5_ok : memoB m5 (evRun Tryz.prog sums1 400 100 m5.f m5.args.toArray m5.start) = true := by kernel_rfl
theorem m5_sound : MemoSound ⟨fun _ => none, Tryz.prog⟩ Tryz.prog m5 := memo_sound m5_ok fun _ h => evM rfl sums1_sound 100 h
end Go.Proofs.YtcipjifpigpfdaaGreatDoor
