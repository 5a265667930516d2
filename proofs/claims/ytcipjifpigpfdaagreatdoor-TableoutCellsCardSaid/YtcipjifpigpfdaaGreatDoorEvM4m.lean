import Derived.Test.YtcipjifpigpfdaaGreatDoorEvkd1m
import Derived.Test.YtcipjifpigpfdaaGreatDoorEvkd2m
/- One call of the examples, written down and checked by the kernel. -/
namespace Go.Proofs.YtcipjifpigpfdaaGreatDoor
open Go.Ev
def m4Args : List Value := [.agg #[.slice (some ⟨15718, 0, none⟩) 7 9223372036854775808, .int .i64 0]]
def m4Pre : List (Nat × AObj) := [(0, .row ⟨[.string ⟨#[110, 117, 108, 108]⟩, .string ⟨#[98, 111, 111, 108]⟩, .string ⟨#[105, 110, 116]⟩, .string ⟨#[100, 101, 99]⟩, .string ⟨#[102, 108, 111, 97, 116]⟩, .string ⟨#[116, 101, 120, 116]⟩, .string ⟨#[98, 121, 116, 101, 115]⟩, .string ⟨#[105, 110, 115, 116, 97, 110, 116]⟩, .string ⟨#[108, 111, 99, 97, 108]⟩], 0, 0, false⟩), (15220, .row ⟨[.int .i64 2], 3, 1, true⟩), (15320, .row ⟨[.int .i64 3], 3, 1, true⟩), (15679, .row ⟨[.int .i64 5], 3, 1, true⟩), (15718, .row ⟨[.int .i64 9, .string ⟨#[]⟩, .bool false, .slice none 0 0, .slice (some ⟨15929, 0, none⟩) 2 9223372036854775808, .int .i64 10, .string ⟨#[]⟩, .bool false, .slice (some ⟨15220, 0, none⟩) 1 9223372036854775808, .slice (some ⟨15320, 0, none⟩) 1 9223372036854775808, .int .i64 5, .string ⟨#[97]⟩, .bool false, .slice none 0 0, .slice none 0 0, .int .i64 2, .string ⟨#[49]⟩, .bool false, .slice none 0 0, .slice none 0 0, .int .i64 10, .string ⟨#[]⟩, .bool false, .slice (some ⟨15679, 0, none⟩) 1 9223372036854775808, .slice (some ⟨15884, 0, none⟩) 1 9223372036854775808, .int .i64 5, .string ⟨#[97]⟩, .bool false, .slice none 0 0, .slice none 0 0, .int .i64 5, .string ⟨#[120]⟩, .bool false, .slice none 0 0, .slice none 0 0], 25, 5, true⟩), (15884, .row ⟨[.int .i64 6], 3, 1, true⟩), (15929, .row ⟨[.int .i64 1, .int .i64 4], 3, 1, true⟩)]
def m4Post : List (Nat × AObj) := [(0, .row ⟨[.string ⟨#[110, 117, 108, 108]⟩, .string ⟨#[98, 111, 111, 108]⟩, .string ⟨#[105, 110, 116]⟩, .string ⟨#[100, 101, 99]⟩, .string ⟨#[102, 108, 111, 97, 116]⟩, .string ⟨#[116, 101, 120, 116]⟩, .string ⟨#[98, 121, 116, 101, 115]⟩, .string ⟨#[105, 110, 115, 116, 97, 110, 116]⟩, .string ⟨#[108, 111, 99, 97, 108]⟩], 0, 0, false⟩), (15220, .row ⟨[.int .i64 2], 3, 1, true⟩), (15320, .row ⟨[.int .i64 3], 3, 1, true⟩), (15679, .row ⟨[.int .i64 5], 3, 1, true⟩), (15718, .row ⟨[.int .i64 9, .string ⟨#[]⟩, .bool false, .slice none 0 0, .slice (some ⟨15929, 0, none⟩) 2 9223372036854775808, .int .i64 10, .string ⟨#[]⟩, .bool false, .slice (some ⟨15220, 0, none⟩) 1 9223372036854775808, .slice (some ⟨15320, 0, none⟩) 1 9223372036854775808, .int .i64 5, .string ⟨#[97]⟩, .bool false, .slice none 0 0, .slice none 0 0, .int .i64 2, .string ⟨#[49]⟩, .bool false, .slice none 0 0, .slice none 0 0, .int .i64 10, .string ⟨#[]⟩, .bool false, .slice (some ⟨15679, 0, none⟩) 1 9223372036854775808, .slice (some ⟨15884, 0, none⟩) 1 9223372036854775808, .int .i64 5, .string ⟨#[97]⟩, .bool false, .slice none 0 0, .slice none 0 0, .int .i64 5, .string ⟨#[120]⟩, .bool false, .slice none 0 0, .slice none 0 0], 25, 5, true⟩), (15884, .row ⟨[.int .i64 6], 3, 1, true⟩), (15929, .row ⟨[.int .i64 1, .int .i64 4], 3, 1, true⟩)]
def m4 : Memo := ⟨6, m4Args, 18011, 100, m4Pre, .tuple #[.string ⟨#[]⟩, .int .i64 3], m4Post, 21786⟩
theorem kdin_0 (m : Memo) (hm : m ∈ [kd1]) : m.f = 38 ∧ MemoSound ⟨fun _ => none, Tryz.prog⟩ Tryz.prog m := by
  cases hm with
  | head => exact ⟨rfl, kd1_sound⟩
  | tail _ hm =>
  cases hm
theorem kdin_1 (m : Memo) (hm : m ∈ [kd2]) : m.f = 39 ∧ MemoSound ⟨fun _ => none, Tryz.prog⟩ Tryz.prog m := by
  cases hm with
  | head => exact ⟨rfl, kd2_sound⟩
  | tail _ hm =>
  cases hm
def kdsums : FuncId → Option (Array Value → St → Option Er) := (withM (withM sums1 38 [kd1]) 39 [kd2])
theorem kdsums_sound : ∀ g s, kdsums g = some s → ∀ args σ r, s args σ = some r → CallSound ⟨fun _ => none, Tryz.prog⟩ Tryz.prog g args σ r := (withM_sound (withM_sound sums1_sound (l := [kd1]) (f0 := 38) kdin_0) (l := [kd2]) (f0 := 39) kdin_1)
theorem m4_ok : memoB m4 (evRun Tryz.prog kdsums 400 100 m4.f m4.args.toArray m4.start) = true := by kernel_rfl
theorem m4_sound : MemoSound ⟨fun _ => none, Tryz.prog⟩ Tryz.prog m4 := memo_sound m4_ok fun _ h => evM rfl kdsums_sound 100 h
end Go.Proofs.YtcipjifpigpfdaaGreatDoor
