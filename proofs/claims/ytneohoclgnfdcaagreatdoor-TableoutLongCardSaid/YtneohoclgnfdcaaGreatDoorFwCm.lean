import Derived.Test.YtneohoclgnfdcaaGreatDoorP08
/- The family of tables, 11 to 20 rows. -/
namespace Go.Proofs.YtneohoclgnfdcaaGreatDoor
set_option maxRecDepth 100000
theorem shapeW_11 (z : ByteArray) : ShapeW z 11 := ⟨by kernel_rfl, by kernel_rfl, by kernel_rfl, by kernel_rfl, by kernel_rfl⟩
theorem shapeW_12 (z : ByteArray) : ShapeW z 12 := ⟨by kernel_rfl, by kernel_rfl, by kernel_rfl, by kernel_rfl, by kernel_rfl⟩
theorem shapeW_13 (z : ByteArray) : ShapeW z 13 := ⟨by kernel_rfl, by kernel_rfl, by kernel_rfl, by kernel_rfl, by kernel_rfl⟩
theorem shapeW_14 (z : ByteArray) : ShapeW z 14 := ⟨by kernel_rfl, by kernel_rfl, by kernel_rfl, by kernel_rfl, by kernel_rfl⟩
theorem shapeW_15 (z : ByteArray) : ShapeW z 15 := ⟨by kernel_rfl, by kernel_rfl, by kernel_rfl, by kernel_rfl, by kernel_rfl⟩
theorem shapeW_16 (z : ByteArray) : ShapeW z 16 := ⟨by kernel_rfl, by kernel_rfl, by kernel_rfl, by kernel_rfl, by kernel_rfl⟩
theorem shapeW_17 (z : ByteArray) : ShapeW z 17 := ⟨by kernel_rfl, by kernel_rfl, by kernel_rfl, by kernel_rfl, by kernel_rfl⟩
theorem shapeW_18 (z : ByteArray) : ShapeW z 18 := ⟨by kernel_rfl, by kernel_rfl, by kernel_rfl, by kernel_rfl, by kernel_rfl⟩
theorem shapeW_19 (z : ByteArray) : ShapeW z 19 := ⟨by kernel_rfl, by kernel_rfl, by kernel_rfl, by kernel_rfl, by kernel_rfl⟩
theorem shapeW_20 (z : ByteArray) : ShapeW z 20 := ⟨by kernel_rfl, by kernel_rfl, by kernel_rfl, by kernel_rfl, by kernel_rfl⟩
end Go.Proofs.YtneohoclgnfdcaaGreatDoor
