/- The rows of the table of types that the laws on make and append ask for. -/
import Derived.Test.YtidifjmjbfhpaaaDoorRows
import Derived.Test.YtidifjmjbfhpaaaDoorBase
namespace Go.Proofs.YtidifjmjbfhpaaaDoor
theorem info_int : (Tryd.prog.info? 3).map (fun i => (i.zero, i.size, i.bytes)) = some (some (.int .i64 0), 1, 8) := by kernel_rfl
theorem info_uint : (Tryd.prog.info? 32).map (fun i => (i.zero, i.size, i.bytes)) = some (some (.int .u64 0), 1, 8) := by kernel_rfl
theorem info_Word : (Tryd.prog.info? 83).map (fun i => (i.zero, i.size, i.bytes)) = some (some (.int .u64 0), 1, 8) := by kernel_rfl
theorem info_u8 : (Tryd.prog.info? 5).map (fun i => (i.zero, i.size, i.bytes)) = some (some (.int .u8 0), 1, 1) := by kernel_rfl
end Go.Proofs.YtidifjmjbfhpaaaDoor
