import Derived.Test.YtneohoclgnfdcaaGreatDoorP08
/- The family of tables, 31 to 40 rows. -/
namespace Go.Proofs.YtneohoclgnfdcaaGreatDoor
set_option maxRecDepth 100000
theorem shapeW_31 (z : ByteArray) : ShapeW z 31 := ⟨by kernel_rfl, by kernel_rfl, by kernel_rfl, by kernel_rfl, by kernel_rfl⟩
theorem shapeW_32 (z : ByteArray) : ShapeW z 32 := ⟨by kernel_rfl, by kernel_rfl, by kernel_rfl, by kernel_rfl, by kernel_rfl⟩
theorem shapeW_33 (z : ByteArray) : ShapeW z 33 := ⟨by kernel_rfl, by kernel_rfl, by kernel_rfl, by kernel_rfl, by kernel_rfl⟩
theorem shapeW_34 (z : ByteArray) : ShapeW z 34 := ⟨by kernel_rfl, by kernel_rfl, by kernel_rfl, by kernel_rfl, by kernel_rfl⟩
theorem shapeW_35 (z : ByteArray) : ShapeW z 35 := ⟨by kernel_rfl, by kernel_rfl, by kernel_rfl, by kernel_rfl, by kernel_rfl⟩
theorem shapeW_36 (z : ByteArray) : ShapeW z 36 := ⟨by kernel_rfl, by kernel_rfl, by kernel_rfl, by kernel_rfl, by kernel_rfl⟩
theorem shapeW_37 (z : ByteArray) : ShapeW z 37 := ⟨by kernel_rfl, by kernel_rfl, by kernel_rfl, by kernel_rfl, by kernel_rfl⟩
theorem shapeW_38 (z : ByteArray) : ShapeW z 38 := ⟨by kernel_rfl, by kernel_rfl, by kernel_rfl, by kernel_rfl, by kernel_rfl⟩
theorem shapeW_39 (z : ByteArray) : ShapeW z 39 := ⟨by kernel_rfl, by kernel_rfl, by kernel_rfl, by kernel_rfl, by kernel_rfl⟩
theorem shapeW_40 (z : ByteArray) : ShapeW z 40 := ⟨by kernel_rfl, by kernel_rfl, by kernel_rfl, by kernel_rfl, by kernel_rfl⟩
end Go.Proofs.YtneohoclgnfdcaaGreatDoor
