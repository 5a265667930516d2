import Derived.Test.YtcipjifpigpfdaaGreatDoorEvka1m
import Derived.Test.YtcipjifpigpfdaaGreatDoorEvka2m
import Derived.Test.YtcipjifpigpfdaaGreatDoorEvka3m
import Derived.Test.YtcipjifpigpfdaaGreatDoorEvka4m
/- One call of the examples, written down and checked by the kernel. -/
namespace Go.Proofs.YtcipjifpigpfdaaGreatDoor
open Go.Ev
def m1Args : List Value := [.string ⟨#[91, 123, 34, 105, 100, 34, 61, 49, 44, 34, 110, 97, 109, 101, 34, 61, 34, 116, 119, 111, 32, 119, 111, 114, 100, 115, 34, 125, 44, 123, 34, 105, 100, 34, 61, 50, 44, 34, 110, 97, 109, 101, 34, 61, 110, 117, 108, 108, 125, 93]⟩]
def m1Pre : List (Nat × AObj) := [(0, .row ⟨[.string ⟨#[110, 117, 108, 108]⟩, .string ⟨#[98, 111, 111, 108]⟩, .string ⟨#[105, 110, 116]⟩, .string ⟨#[100, 101, 99]⟩, .string ⟨#[102, 108, 111, 97, 116]⟩, .string ⟨#[116, 101, 120, 116]⟩, .string ⟨#[98, 121, 116, 101, 115]⟩, .string ⟨#[105, 110, 115, 116, 97, 110, 116]⟩, .string ⟨#[108, 111, 99, 97, 108]⟩], 0, 0, false⟩)]
def m1Post : List (Nat × AObj) := [(0, .row ⟨[.string ⟨#[110, 117, 108, 108]⟩, .string ⟨#[98, 111, 111, 108]⟩, .string ⟨#[105, 110, 116]⟩, .string ⟨#[100, 101, 99]⟩, .string ⟨#[102, 108, 111, 97, 116]⟩, .string ⟨#[116, 101, 120, 116]⟩, .string ⟨#[98, 121, 116, 101, 115]⟩, .string ⟨#[105, 110, 115, 116, 97, 110, 116]⟩, .string ⟨#[108, 111, 99, 97, 108]⟩], 0, 0, false⟩), (1066, .row ⟨[.int .i64 2, .int .i64 4], 3, 1, true⟩), (1887, .row ⟨[.int .i64 3, .int .i64 5], 3, 1, true⟩), (2895, .row ⟨[.int .i64 7, .int .i64 9], 3, 1, true⟩), (2934, .row ⟨[.int .i64 9, .string ⟨#[]⟩, .bool false, .slice none 0 0, .slice (some ⟨3038, 0, none⟩) 2 9223372036854775808, .int .i64 10, .string ⟨#[]⟩, .bool false, .slice (some ⟨1066, 0, none⟩) 2 9223372036854775808, .slice (some ⟨1887, 0, none⟩) 2 9223372036854775808, .int .i64 5, .string ⟨#[105, 100]⟩, .bool false, .slice none 0 0, .slice none 0 0, .int .i64 2, .string ⟨#[49]⟩, .bool false, .slice none 0 0, .slice none 0 0, .int .i64 5, .string ⟨#[110, 97, 109, 101]⟩, .bool false, .slice none 0 0, .slice none 0 0, .int .i64 5, .string ⟨#[116, 119, 111, 32, 119, 111, 114, 100, 115]⟩, .bool false, .slice none 0 0, .slice none 0 0, .int .i64 10, .string ⟨#[]⟩, .bool false, .slice (some ⟨2895, 0, none⟩) 2 9223372036854775808, .slice (some ⟨2993, 0, none⟩) 2 9223372036854775808, .int .i64 5, .string ⟨#[105, 100]⟩, .bool false, .slice none 0 0, .slice none 0 0, .int .i64 2, .string ⟨#[50]⟩, .bool false, .slice none 0 0, .slice none 0 0, .int .i64 5, .string ⟨#[110, 97, 109, 101]⟩, .bool false, .slice none 0 0, .slice none 0 0, .int .i64 0, .string ⟨#[]⟩, .bool false, .slice none 0 0, .slice none 0 0], 25, 5, true⟩), (2993, .row ⟨[.int .i64 8, .int .i64 10], 3, 1, true⟩), (3038, .row ⟨[.int .i64 1, .int .i64 6], 3, 1, true⟩)]
def m1 : Memo := ⟨9, m1Args, 100, 100, m1Pre, .tuple #[.agg #[.slice (some ⟨2934, 0, none⟩) 11 9223372036854775808, .int .i64 0], .int .i64 0], m1Post, 6555⟩
theorem kain_0 (m : Memo) (hm : m ∈ [ka1]) : m.f = 29 ∧ MemoSound ⟨fun _ => none, Tryz.prog⟩ Tryz.prog m := by
  cases hm with
  | head => exact ⟨rfl, ka1_sound⟩
  | tail _ hm =>
  cases hm
theorem kain_1 (m : Memo) (hm : m ∈ [ka2]) : m.f = 61 ∧ MemoSound ⟨fun _ => none, Tryz.prog⟩ Tryz.prog m := by
  cases hm with
  | head => exact ⟨rfl, ka2_sound⟩
  | tail _ hm =>
  cases hm
theorem kain_2 (m : Memo) (hm : m ∈ [ka3]) : m.f = 63 ∧ MemoSound ⟨fun _ => none, Tryz.prog⟩ Tryz.prog m := by
  cases hm with
  | head => exact ⟨rfl, ka3_sound⟩
  | tail _ hm =>
  cases hm
theorem kain_3 (m : Memo) (hm : m ∈ [ka4]) : m.f = 64 ∧ MemoSound ⟨fun _ => none, Tryz.prog⟩ Tryz.prog m := by
  cases hm with
  | head => exact ⟨rfl, ka4_sound⟩
  | tail _ hm =>
  cases hm
def kasums : FuncId → Option (Array Value → St → Option Er) := (withM (withM (withM (withM sums1 29 [ka1]) 61 [ka2]) 63 [ka3]) 64 [ka4])
theorem kasums_sound : ∀ g s, kasums g = some s → ∀ args σ r, s args σ = some r → CallSound ⟨fun _ => none, Tryz.prog⟩ Tryz.prog g args σ r := (withM_sound (withM_sound (withM_sound (withM_sound sums1_sound (l := [ka1]) (f0 := 29) kain_0) (l := [ka2]) (f0 := 61) kain_1) (l := [ka3]) (f0 := 63) kain_2) (l := [ka4]) (f0 := 64) kain_3)
theorem m1_ok : memoB m1 (evRun Tryz.prog kasums 400 100 m1.f m1.args.toArray m1.start) = true := by kernel_rfl
theorem m1_sound : MemoSound ⟨fun _ => none, Tryz.prog⟩ Tryz.prog m1 := memo_sound m1_ok fun _ h => evM rfl kasums_sound 100 h
end Go.Proofs.YtcipjifpigpfdaaGreatDoor
