/- A row of the type table more. -/
import Derived.Test.YtjelgbfgciaapaaDoorChecked
import Derived.KernelRfl
namespace Go.Proofs.YtjelgbfgciaapaaDoor
theorem Tryd.infoSq : (Tryd.prog.info? 85).map (fun i => (i.zero, i.size, i.bytes)) = some (some (.pointer none), 1, 8) := by kernel_rfl
end Go.Proofs.YtjelgbfgciaapaaDoor
