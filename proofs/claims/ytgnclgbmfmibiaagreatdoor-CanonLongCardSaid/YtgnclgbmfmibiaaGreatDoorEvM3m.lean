import Derived.Test.YtgnclgbmfmibiaaGreatDoorP08
/- One call of the examples, written down and checked by the kernel. -/
namespace Go.Proofs.YtgnclgbmfmibiaaGreatDoor
open Go.Ev
def m3Args : List Value := [.string ⟨#[123, 34, 98, 34, 61, 49, 44, 34, 97, 34, 61, 50, 125]⟩]
def m3Pre : List (Nat × AObj) := []
def m3Post : List (Nat × AObj) := []
def m3 : Memo := ⟨5, m3Args, 5289, 100, m3Pre, .tuple #[.agg #[.slice none 0 0, .int .i64 0], .int .i64 4], m3Post, 7672⟩
theorem m3_ok : memoB m3 (evRun Tryz.prog sums0 400 100 m3.f m3.args.toArray m3.start) = true := by kernel_rfl
theorem m3_sound : MemoSound Tryz.prog m3 := memo_sound m3_ok fun _ h => evM sums0_sound 100 h
end Go.Proofs.YtgnclgbmfmibiaaGreatDoor
