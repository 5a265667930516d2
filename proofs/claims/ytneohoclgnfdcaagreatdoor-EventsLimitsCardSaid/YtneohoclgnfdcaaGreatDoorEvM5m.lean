import Derived.Test.YtneohoclgnfdcaaGreatDoorP05
/- One call of the examples, written down and checked by the kernel. -/
namespace Go.Proofs.YtneohoclgnfdcaaGreatDoor
open Go.Ev
def m5Args : List Value := [.slice none 0 0]
def m5Pre : List (Nat × AObj) := []
def m5Post : List (Nat × AObj) := []
def m5 : Memo := ⟨5, m5Args, 3883, 100, m5Pre, .tuple #[.int .i64 0, .int .i64 21], m5Post, 3884⟩
theorem m5_ok : memoB m5 (evRun Tryz.prog sums0 400 100 m5.f m5.args.toArray m5.start) = true := by kernel_rfl
theorem m5_sound : MemoSound Tryz.prog m5 := memo_sound m5_ok fun _ h => evM sums0_sound 100 h
end Go.Proofs.YtneohoclgnfdcaaGreatDoor
