import Derived.Test.YtgnclgbmfmibiaaGreatDoorP08
/- One call of the examples, written down and checked by the kernel. -/
namespace Go.Proofs.YtgnclgbmfmibiaaGreatDoor
open Go.Ev
def m4Args : List Value := [.string ⟨#[49, 101, 48]⟩]
def m4Pre : List (Nat × AObj) := []
def m4Post : List (Nat × AObj) := [(7678, .row ⟨[.int .i64 3, .string ⟨#[49, 101, 48]⟩, .bool false, .slice none 0 0, .slice none 0 0], 25, 5, true⟩)]
def m4 : Memo := ⟨5, m4Args, 7673, 100, m4Pre, .tuple #[.agg #[.slice (some ⟨7678, 0, none⟩) 1 9223372036854775808, .int .i64 0], .int .i64 0], m4Post, 8177⟩
theorem m4_ok : memoB m4 (evRun Tryz.prog sums0 400 100 m4.f m4.args.toArray m4.start) = true := by kernel_rfl
theorem m4_sound : MemoSound Tryz.prog m4 := memo_sound m4_ok fun _ h => evM sums0_sound 100 h
end Go.Proofs.YtgnclgbmfmibiaaGreatDoor
