import Derived.Test.YtneohoclgnfdcaaGreatDoorP08
/- The family of tables, 21 to 30 rows. -/
namespace Go.Proofs.YtneohoclgnfdcaaGreatDoor
set_option maxRecDepth 100000
theorem shapeW_21 (z : ByteArray) : ShapeW z 21 := ⟨by kernel_rfl, by kernel_rfl, by kernel_rfl, by kernel_rfl, by kernel_rfl⟩
theorem shapeW_22 (z : ByteArray) : ShapeW z 22 := ⟨by kernel_rfl, by kernel_rfl, by kernel_rfl, by kernel_rfl, by kernel_rfl⟩
theorem shapeW_23 (z : ByteArray) : ShapeW z 23 := ⟨by kernel_rfl, by kernel_rfl, by kernel_rfl, by kernel_rfl, by kernel_rfl⟩
theorem shapeW_24 (z : ByteArray) : ShapeW z 24 := ⟨by kernel_rfl, by kernel_rfl, by kernel_rfl, by kernel_rfl, by kernel_rfl⟩
theorem shapeW_25 (z : ByteArray) : ShapeW z 25 := ⟨by kernel_rfl, by kernel_rfl, by kernel_rfl, by kernel_rfl, by kernel_rfl⟩
theorem shapeW_26 (z : ByteArray) : ShapeW z 26 := ⟨by kernel_rfl, by kernel_rfl, by kernel_rfl, by kernel_rfl, by kernel_rfl⟩
theorem shapeW_27 (z : ByteArray) : ShapeW z 27 := ⟨by kernel_rfl, by kernel_rfl, by kernel_rfl, by kernel_rfl, by kernel_rfl⟩
theorem shapeW_28 (z : ByteArray) : ShapeW z 28 := ⟨by kernel_rfl, by kernel_rfl, by kernel_rfl, by kernel_rfl, by kernel_rfl⟩
theorem shapeW_29 (z : ByteArray) : ShapeW z 29 := ⟨by kernel_rfl, by kernel_rfl, by kernel_rfl, by kernel_rfl, by kernel_rfl⟩
theorem shapeW_30 (z : ByteArray) : ShapeW z 30 := ⟨by kernel_rfl, by kernel_rfl, by kernel_rfl, by kernel_rfl, by kernel_rfl⟩
end Go.Proofs.YtneohoclgnfdcaaGreatDoor
