import Derived.Test.YtneohoclgnfdcaaGreatDoorP08
/- The family of tables, 1 to 10 rows. -/
namespace Go.Proofs.YtneohoclgnfdcaaGreatDoor
set_option maxRecDepth 100000
theorem shapeW_1 (z : ByteArray) : ShapeW z 1 := ⟨by kernel_rfl, by kernel_rfl, by kernel_rfl, by kernel_rfl, by kernel_rfl⟩
theorem shapeW_2 (z : ByteArray) : ShapeW z 2 := ⟨by kernel_rfl, by kernel_rfl, by kernel_rfl, by kernel_rfl, by kernel_rfl⟩
theorem shapeW_3 (z : ByteArray) : ShapeW z 3 := ⟨by kernel_rfl, by kernel_rfl, by kernel_rfl, by kernel_rfl, by kernel_rfl⟩
theorem shapeW_4 (z : ByteArray) : ShapeW z 4 := ⟨by kernel_rfl, by kernel_rfl, by kernel_rfl, by kernel_rfl, by kernel_rfl⟩
theorem shapeW_5 (z : ByteArray) : ShapeW z 5 := ⟨by kernel_rfl, by kernel_rfl, by kernel_rfl, by kernel_rfl, by kernel_rfl⟩
theorem shapeW_6 (z : ByteArray) : ShapeW z 6 := ⟨by kernel_rfl, by kernel_rfl, by kernel_rfl, by kernel_rfl, by kernel_rfl⟩
theorem shapeW_7 (z : ByteArray) : ShapeW z 7 := ⟨by kernel_rfl, by kernel_rfl, by kernel_rfl, by kernel_rfl, by kernel_rfl⟩
theorem shapeW_8 (z : ByteArray) : ShapeW z 8 := ⟨by kernel_rfl, by kernel_rfl, by kernel_rfl, by kernel_rfl, by kernel_rfl⟩
theorem shapeW_9 (z : ByteArray) : ShapeW z 9 := ⟨by kernel_rfl, by kernel_rfl, by kernel_rfl, by kernel_rfl, by kernel_rfl⟩
theorem shapeW_10 (z : ByteArray) : ShapeW z 10 := ⟨by kernel_rfl, by kernel_rfl, by kernel_rfl, by kernel_rfl, by kernel_rfl⟩
end Go.Proofs.YtneohoclgnfdcaaGreatDoor
