/- The rows of the table of types that the laws on make and append ask for. -/
import Derived.Test.YtidifjmjbfhpaaaRows
import Derived.Test.YtidifjmjbfhpaaaBase
namespace Go.Proofs.Ytidifjmjbfhpaaa
theorem info_int : (Try.prog.info? 3).map (fun i => (i.zero, i.size, i.bytes)) = some (some (.int .i64 0), 1, 8) := by kernel_rfl
theorem info_uint : (Try.prog.info? 59).map (fun i => (i.zero, i.size, i.bytes)) = some (some (.int .u64 0), 1, 8) := by kernel_rfl
theorem info_Word : (Try.prog.info? 62).map (fun i => (i.zero, i.size, i.bytes)) = some (some (.int .u64 0), 1, 8) := by kernel_rfl
theorem info_u8 : (Try.prog.info? 5).map (fun i => (i.zero, i.size, i.bytes)) = some (some (.int .u8 0), 1, 1) := by kernel_rfl
end Go.Proofs.Ytidifjmjbfhpaaa
