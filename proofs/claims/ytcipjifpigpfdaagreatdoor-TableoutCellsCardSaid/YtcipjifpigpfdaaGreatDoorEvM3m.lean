import Derived.Test.YtcipjifpigpfdaaGreatDoorEvkc1m
/- One call of the examples, written down and checked by the kernel. -/
namespace Go.Proofs.YtcipjifpigpfdaaGreatDoor
open Go.Ev
def m3Args : List Value := [.string ⟨#[91, 123, 34, 97, 34, 61, 49, 125, 44, 123, 34, 97, 34, 61, 34, 120, 34, 125, 93]⟩]
def m3Pre : List (Nat × AObj) := [(0, .row ⟨[.string ⟨#[110, 117, 108, 108]⟩, .string ⟨#[98, 111, 111, 108]⟩, .string ⟨#[105, 110, 116]⟩, .string ⟨#[100, 101, 99]⟩, .string ⟨#[102, 108, 111, 97, 116]⟩, .string ⟨#[116, 101, 120, 116]⟩, .string ⟨#[98, 121, 116, 101, 115]⟩, .string ⟨#[105, 110, 115, 116, 97, 110, 116]⟩, .string ⟨#[108, 111, 99, 97, 108]⟩], 0, 0, false⟩)]
def m3Post : List (Nat × AObj) := [(0, .row ⟨[.string ⟨#[110, 117, 108, 108]⟩, .string ⟨#[98, 111, 111, 108]⟩, .string ⟨#[105, 110, 116]⟩, .string ⟨#[100, 101, 99]⟩, .string ⟨#[102, 108, 111, 97, 116]⟩, .string ⟨#[116, 101, 120, 116]⟩, .string ⟨#[98, 121, 116, 101, 115]⟩, .string ⟨#[105, 110, 115, 116, 97, 110, 116]⟩, .string ⟨#[108, 111, 99, 97, 108]⟩], 0, 0, false⟩), (15220, .row ⟨[.int .i64 2], 3, 1, true⟩), (15320, .row ⟨[.int .i64 3], 3, 1, true⟩), (15679, .row ⟨[.int .i64 5], 3, 1, true⟩), (15718, .row ⟨[.int .i64 9, .string ⟨#[]⟩, .bool false, .slice none 0 0, .slice (some ⟨15929, 0, none⟩) 2 9223372036854775808, .int .i64 10, .string ⟨#[]⟩, .bool false, .slice (some ⟨15220, 0, none⟩) 1 9223372036854775808, .slice (some ⟨15320, 0, none⟩) 1 9223372036854775808, .int .i64 5, .string ⟨#[97]⟩, .bool false, .slice none 0 0, .slice none 0 0, .int .i64 2, .string ⟨#[49]⟩, .bool false, .slice none 0 0, .slice none 0 0, .int .i64 10, .string ⟨#[]⟩, .bool false, .slice (some ⟨15679, 0, none⟩) 1 9223372036854775808, .slice (some ⟨15884, 0, none⟩) 1 9223372036854775808, .int .i64 5, .string ⟨#[97]⟩, .bool false, .slice none 0 0, .slice none 0 0, .int .i64 5, .string ⟨#[120]⟩, .bool false, .slice none 0 0, .slice none 0 0], 25, 5, true⟩), (15884, .row ⟨[.int .i64 6], 3, 1, true⟩), (15929, .row ⟨[.int .i64 1, .int .i64 4], 3, 1, true⟩)]
def m3 : Memo := ⟨9, m3Args, 14903, 100, m3Pre, .tuple #[.agg #[.slice (some ⟨15718, 0, none⟩) 7 9223372036854775808, .int .i64 0], .int .i64 0], m3Post, 18010⟩
theorem kcin_0 (m : Memo) (hm : m ∈ [kc1]) : m.f = 29 ∧ MemoSound ⟨fun _ => none, Tryz.prog⟩ Tryz.prog m := by
  cases hm with
  | head => exact ⟨rfl, kc1_sound⟩
  | tail _ hm =>
  cases hm
def kcsums : FuncId → Option (Array Value → St → Option Er) := (withM sums1 29 [kc1])
theorem kcsums_sound : ∀ g s, kcsums g = some s → ∀ args σ r, s args σ = some r → CallSound ⟨fun _ => none, Tryz.prog⟩ Tryz.prog g args σ r := (withM_sound sums1_sound (l := [kc1]) (f0 := 29) kcin_0)
theorem m3_ok : memoB m3 (evRun Tryz.prog kcsums 400 100 m3.f m3.args.toArray m3.start) = true := by kernel_rfl
theorem m3_sound : MemoSound ⟨fun _ => none, Tryz.prog⟩ Tryz.prog m3 := memo_sound m3_ok fun _ h => evM rfl kcsums_sound 100 h
end Go.Proofs.YtcipjifpigpfdaaGreatDoor
