/- impl.guarded$1: the deferred closure: whether there is a panic to recover from. -/
import Derived.Test.YtidifjmjbfhpaaaDoorBase
import Derived.Test.YtidifjmjbfhpaaaDoorInfo
import Derived.Recover
namespace Go.Proofs.YtidifjmjbfhpaaaDoor
set_option linter.unusedVariables false
set_option maxRecDepth 20000
set_option linter.unusedSimpArgs false
open Go.RowKit

theorem neq_nil_nil (w : World) : (binOp .neq 20 .nilIface .nilIface).run Tryd.prog w = .ok (.bool false) w := by kernel_rfl
theorem neq_iface_nil (T : TypeId) (x : Value) (w : World) : (binOp .neq 20 (.iface T x) .nilIface).run Tryd.prog w = .ok (.bool true) w := by kernel_rfl

theorem catch_panicking (p : Addr) (b : Bool) (u : TypeId) (pv : Value) (older : List PanicEntry) (w : World) (hc : w.cell? p = some (.bool b)) (hz : w.frozen? p = false) :
    CallsD Tryd.prog 57 #[.pointer (some p)] (.panicking ({ v := .iface u pv, recovered := false } :: older)) w fun e u' w' =>
      e = .returned (.tuple #[]) ∧ u' = .panicking ({ v := .iface u pv, recovered := true } :: older) ∧ w' = w.setCell p (.bool true) := by
  refine callsD_of_wpS Tryd.func57 rfl fun c₀ cs hu => ?_
  apply wpS_region
  simp [wpOpsS, go_sem, recoverD, hu, Tryd.ntmps57, Exit.thenS, neq_iface_nil, hc, hz, bodyPostS, results, Tryd.results57]

theorem catch_idle (p : Addr) (b : Bool) (w : World) (hc : w.cell? p = some (.bool b)) (hz : w.frozen? p = false) :
    CallsD Tryd.prog 57 #[.pointer (some p)] .returning w fun e u' w' => e = .returned (.tuple #[]) ∧ u' = .returning ∧ w' = w.setCell p (.bool false) := by
  refine callsD_of_wpS Tryd.func57 rfl fun c₀ cs hu => ?_
  apply wpS_region
  simp [wpOpsS, go_sem, recoverD, hu, Tryd.ntmps57, Exit.thenS, neq_nil_nil, hc, hz, bodyPostS, results, Tryd.results57]
  cases c₀
  simp_all

end Go.Proofs.YtidifjmjbfhpaaaDoor
