/- Rows of the type table that the walks of this seat need. -/
import Derived.Test.YtmaieenphcnefaaDoorChecked
import Derived.KernelRfl
namespace Go.Proofs.YtmaieenphcnefaaDoor
theorem Tryd.infoInt : (Tryd.prog.info? 3).map (fun i => (i.zero, i.size, i.bytes)) = some (some (.int .i64 0), 1, 8) := by kernel_rfl
theorem Tryd.sizeInt : (Tryd.prog.info? 3).map (fun i => i.size) = some 1 := by kernel_rfl
theorem Tryd.infoBool : (Tryd.prog.info? 4).map (fun i => (i.zero, i.size, i.bytes)) = some (some (.bool false), 1, 1) := by kernel_rfl
theorem Tryd.sizeBool : (Tryd.prog.info? 4).map (fun i => i.size) = some 1 := by kernel_rfl
theorem Tryd.infoInt8 : (Tryd.prog.info? 54).map (fun i => (i.zero, i.size, i.bytes)) = some (some (.int .i8 0), 1, 1) := by kernel_rfl
theorem Tryd.sizeInt8 : (Tryd.prog.info? 54).map (fun i => i.size) = some 1 := by kernel_rfl
theorem Tryd.infoLevel : (Tryd.prog.info? 74).map (fun i => (i.zero, i.size, i.bytes)) = some (some (.int .i8 0), 1, 1) := by kernel_rfl
theorem Tryd.sizeLevel : (Tryd.prog.info? 74).map (fun i => i.size) = some 1 := by kernel_rfl
theorem Tryd.infoClass : (Tryd.prog.info? 56).map (fun i => (i.zero, i.size, i.bytes)) = some (some (.int .u64 0), 1, 8) := by kernel_rfl
theorem Tryd.sizeClass : (Tryd.prog.info? 56).map (fun i => i.size) = some 1 := by kernel_rfl
theorem Tryd.infoByte : (Tryd.prog.info? 5).map (fun i => (i.zero, i.size, i.bytes)) = some (some (.int .u8 0), 1, 1) := by kernel_rfl
theorem Tryd.sizeByte : (Tryd.prog.info? 5).map (fun i => i.size) = some 1 := by kernel_rfl
theorem Tryd.infoRune : (Tryd.prog.info? 21).map (fun i => (i.zero, i.size, i.bytes)) = some (some (.int .i32 0), 1, 4) := by kernel_rfl
theorem Tryd.sizeRune : (Tryd.prog.info? 21).map (fun i => i.size) = some 1 := by kernel_rfl
theorem Tryd.infoBrk : (Tryd.prog.info? 88).map (fun i => (i.zero, i.size, i.bytes)) = some (some (.int .u8 0), 1, 1) := by kernel_rfl
theorem Tryd.sizeBrk : (Tryd.prog.info? 88).map (fun i => i.size) = some 1 := by kernel_rfl
theorem Tryd.infoInts : (Tryd.prog.info? 22).map (fun i => (i.zero, i.size, i.bytes)) = some (some (.slice none 0 0), 1, 24) := by kernel_rfl
theorem Tryd.sizeInts : (Tryd.prog.info? 22).map (fun i => i.size) = some 1 := by kernel_rfl
end Go.Proofs.YtmaieenphcnefaaDoor
