import Derived.Test.YtcipjifpigpfdaaGreatDoorEvkb1m
import Derived.Test.YtcipjifpigpfdaaGreatDoorEvkb2m
import Derived.Test.YtcipjifpigpfdaaGreatDoorEvkb3m
import Derived.Test.YtcipjifpigpfdaaGreatDoorEvkb4m
import Derived.Test.YtcipjifpigpfdaaGreatDoorEvkb5m
import Derived.Test.YtcipjifpigpfdaaGreatDoorEvkb6m
/- One call of the examples, written down and checked by the kernel. -/
namespace Go.Proofs.YtcipjifpigpfdaaGreatDoor
open Go.Ev
def m2Args : List Value := [.agg #[.slice (some ⟨2934, 0, none⟩) 11 9223372036854775808, .int .i64 0]]
def m2Pre : List (Nat × AObj) := [(0, .row ⟨[.string ⟨#[110, 117, 108, 108]⟩, .string ⟨#[98, 111, 111, 108]⟩, .string ⟨#[105, 110, 116]⟩, .string ⟨#[100, 101, 99]⟩, .string ⟨#[102, 108, 111, 97, 116]⟩, .string ⟨#[116, 101, 120, 116]⟩, .string ⟨#[98, 121, 116, 101, 115]⟩, .string ⟨#[105, 110, 115, 116, 97, 110, 116]⟩, .string ⟨#[108, 111, 99, 97, 108]⟩], 0, 0, false⟩), (1066, .row ⟨[.int .i64 2, .int .i64 4], 3, 1, true⟩), (1887, .row ⟨[.int .i64 3, .int .i64 5], 3, 1, true⟩), (2895, .row ⟨[.int .i64 7, .int .i64 9], 3, 1, true⟩), (2934, .row ⟨[.int .i64 9, .string ⟨#[]⟩, .bool false, .slice none 0 0, .slice (some ⟨3038, 0, none⟩) 2 9223372036854775808, .int .i64 10, .string ⟨#[]⟩, .bool false, .slice (some ⟨1066, 0, none⟩) 2 9223372036854775808, .slice (some ⟨1887, 0, none⟩) 2 9223372036854775808, .int .i64 5, .string ⟨#[105, 100]⟩, .bool false, .slice none 0 0, .slice none 0 0, .int .i64 2, .string ⟨#[49]⟩, .bool false, .slice none 0 0, .slice none 0 0, .int .i64 5, .string ⟨#[110, 97, 109, 101]⟩, .bool false, .slice none 0 0, .slice none 0 0, .int .i64 5, .string ⟨#[116, 119, 111, 32, 119, 111, 114, 100, 115]⟩, .bool false, .slice none 0 0, .slice none 0 0, .int .i64 10, .string ⟨#[]⟩, .bool false, .slice (some ⟨2895, 0, none⟩) 2 9223372036854775808, .slice (some ⟨2993, 0, none⟩) 2 9223372036854775808, .int .i64 5, .string ⟨#[105, 100]⟩, .bool false, .slice none 0 0, .slice none 0 0, .int .i64 2, .string ⟨#[50]⟩, .bool false, .slice none 0 0, .slice none 0 0, .int .i64 5, .string ⟨#[110, 97, 109, 101]⟩, .bool false, .slice none 0 0, .slice none 0 0, .int .i64 0, .string ⟨#[]⟩, .bool false, .slice none 0 0, .slice none 0 0], 25, 5, true⟩), (2993, .row ⟨[.int .i64 8, .int .i64 10], 3, 1, true⟩), (3038, .row ⟨[.int .i64 1, .int .i64 6], 3, 1, true⟩)]
def m2Post : List (Nat × AObj) := [(0, .row ⟨[.string ⟨#[110, 117, 108, 108]⟩, .string ⟨#[98, 111, 111, 108]⟩, .string ⟨#[105, 110, 116]⟩, .string ⟨#[100, 101, 99]⟩, .string ⟨#[102, 108, 111, 97, 116]⟩, .string ⟨#[116, 101, 120, 116]⟩, .string ⟨#[98, 121, 116, 101, 115]⟩, .string ⟨#[105, 110, 115, 116, 97, 110, 116]⟩, .string ⟨#[108, 111, 99, 97, 108]⟩], 0, 0, false⟩), (1066, .row ⟨[.int .i64 2, .int .i64 4], 3, 1, true⟩), (1887, .row ⟨[.int .i64 3, .int .i64 5], 3, 1, true⟩), (2895, .row ⟨[.int .i64 7, .int .i64 9], 3, 1, true⟩), (2934, .row ⟨[.int .i64 9, .string ⟨#[]⟩, .bool false, .slice none 0 0, .slice (some ⟨3038, 0, none⟩) 2 9223372036854775808, .int .i64 10, .string ⟨#[]⟩, .bool false, .slice (some ⟨1066, 0, none⟩) 2 9223372036854775808, .slice (some ⟨1887, 0, none⟩) 2 9223372036854775808, .int .i64 5, .string ⟨#[105, 100]⟩, .bool false, .slice none 0 0, .slice none 0 0, .int .i64 2, .string ⟨#[49]⟩, .bool false, .slice none 0 0, .slice none 0 0, .int .i64 5, .string ⟨#[110, 97, 109, 101]⟩, .bool false, .slice none 0 0, .slice none 0 0, .int .i64 5, .string ⟨#[116, 119, 111, 32, 119, 111, 114, 100, 115]⟩, .bool false, .slice none 0 0, .slice none 0 0, .int .i64 10, .string ⟨#[]⟩, .bool false, .slice (some ⟨2895, 0, none⟩) 2 9223372036854775808, .slice (some ⟨2993, 0, none⟩) 2 9223372036854775808, .int .i64 5, .string ⟨#[105, 100]⟩, .bool false, .slice none 0 0, .slice none 0 0, .int .i64 2, .string ⟨#[50]⟩, .bool false, .slice none 0 0, .slice none 0 0, .int .i64 5, .string ⟨#[110, 97, 109, 101]⟩, .bool false, .slice none 0 0, .slice none 0 0, .int .i64 0, .string ⟨#[]⟩, .bool false, .slice none 0 0, .slice none 0 0], 25, 5, true⟩), (2993, .row ⟨[.int .i64 8, .int .i64 10], 3, 1, true⟩), (3038, .row ⟨[.int .i64 1, .int .i64 6], 3, 1, true⟩)]
def m2 : Memo := ⟨6, m2Args, 6556, 100, m2Pre, .tuple #[.string ⟨#[105, 100, 58, 105, 110, 116, 9, 110, 97, 109, 101, 58, 116, 101, 120, 116, 10, 49, 9, 116, 119, 111, 32, 119, 111, 114, 100, 115, 10, 50, 9, 126, 10]⟩, .int .i64 0], m2Post, 14903⟩
theorem kbin_0 (m : Memo) (hm : m ∈ [kb1, kb3, kb4]) : m.f = 37 ∧ MemoSound ⟨fun _ => none, Tryz.prog⟩ Tryz.prog m := by
  cases hm with
  | head => exact ⟨rfl, kb1_sound⟩
  | tail _ hm =>
  cases hm with
  | head => exact ⟨rfl, kb3_sound⟩
  | tail _ hm =>
  cases hm with
  | head => exact ⟨rfl, kb4_sound⟩
  | tail _ hm =>
  cases hm
theorem kbin_1 (m : Memo) (hm : m ∈ [kb2]) : m.f = 38 ∧ MemoSound ⟨fun _ => none, Tryz.prog⟩ Tryz.prog m := by
  cases hm with
  | head => exact ⟨rfl, kb2_sound⟩
  | tail _ hm =>
  cases hm
theorem kbin_2 (m : Memo) (hm : m ∈ [kb5]) : m.f = 121 ∧ MemoSound ⟨fun _ => none, Tryz.prog⟩ Tryz.prog m := by
  cases hm with
  | head => exact ⟨rfl, kb5_sound⟩
  | tail _ hm =>
  cases hm
theorem kbin_3 (m : Memo) (hm : m ∈ [kb6]) : m.f = 122 ∧ MemoSound ⟨fun _ => none, Tryz.prog⟩ Tryz.prog m := by
  cases hm with
  | head => exact ⟨rfl, kb6_sound⟩
  | tail _ hm =>
  cases hm
def kbsums : FuncId → Option (Array Value → St → Option Er) := (withM (withM (withM (withM sums1 37 [kb1, kb3, kb4]) 38 [kb2]) 121 [kb5]) 122 [kb6])
theorem kbsums_sound : ∀ g s, kbsums g = some s → ∀ args σ r, s args σ = some r → CallSound ⟨fun _ => none, Tryz.prog⟩ Tryz.prog g args σ r := (withM_sound (withM_sound (withM_sound (withM_sound sums1_sound (l := [kb1, kb3, kb4]) (f0 := 37) kbin_0) (l := [kb2]) (f0 := 38) kbin_1) (l := [kb5]) (f0 := 121) kbin_2) (l := [kb6]) (f0 := 122) kbin_3)
theorem m2_ok : memoB m2 (evRun Tryz.prog kbsums 400 100 m2.f m2.args.toArray m2.start) = true := by kernel_rfl
theorem m2_sound : MemoSound ⟨fun _ => none, Tryz.prog⟩ Tryz.prog m2 := memo_sound m2_ok fun _ h => evM rfl kbsums_sound 100 h
end Go.Proofs.YtcipjifpigpfdaaGreatDoor
