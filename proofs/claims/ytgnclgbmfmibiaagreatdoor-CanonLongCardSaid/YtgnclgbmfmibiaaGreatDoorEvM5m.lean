import Derived.Test.YtgnclgbmfmibiaaGreatDoorP08
/- One call of the examples, written down and checked by the kernel. -/
namespace Go.Proofs.YtgnclgbmfmibiaaGreatDoor
open Go.Ev
def m5Args : List Value := [.string ⟨#[49, 48]⟩]
def m5Pre : List (Nat × AObj) := []
def m5Post : List (Nat × AObj) := [(8183, .row ⟨[.int .i64 2, .string ⟨#[49, 48]⟩, .bool false, .slice none 0 0, .slice none 0 0], 25, 5, true⟩)]
def m5 : Memo := ⟨5, m5Args, 8178, 100, m5Pre, .tuple #[.agg #[.slice (some ⟨8183, 0, none⟩) 1 9223372036854775808, .int .i64 0], .int .i64 0], m5Post, 8616⟩
theorem m5_ok : memoB m5 (evRun Tryz.prog sums0 400 100 m5.f m5.args.toArray m5.start) = true := by kernel_rfl
theorem m5_sound : MemoSound Tryz.prog m5 := memo_sound m5_ok fun _ h => evM sums0_sound 100 h
end Go.Proofs.YtgnclgbmfmibiaaGreatDoor
