/- impl.guarded of the closure in impl.Bit: whether the call panicked. -/
import Derived.Test.YtidifjmjbfhpaaaDoorGuarded
namespace Go.Proofs.YtidifjmjbfhpaaaDoor
set_option linter.unusedVariables false
set_option maxRecDepth 20000
set_option linter.unusedSimpArgs false
open Go.RowKit

/-- What a guarded call may do: it returns, or panics with a value that can be recovered; it leaves the new cell (the answer 'panicked') as it is. -/
def Guardable (p : Nat) (R : Ending → World → Prop) : Prop :=
  ∀ e w1, R e w1 → (e = .returned (.tuple #[]) ∨ ∃ T x, e = .panicked [{ v := .iface T x, recovered := false }]) ∧ w1.heap[p]? = some (.cells #[.bool false] 4 (0, 0))

def GuardedPost (R : Ending → World → Prop) (p : Nat) (e : Ending) (w' : World) : Prop :=
  ∃ e1 w1, R e1 w1 ∧ ((e1 = .returned (.tuple #[]) ∧ e = .returned (.bool false)) ∨ ((∃ ch, e1 = .panicked ch) ∧ e = .returned (.bool true))) ∧ w1.grownBy w' (some p)

set_option maxHeartbeats 1000000 in
theorem guarded_bit (caps : Array Value) (w : World) (R : Ending → World → Prop) (hK : Calls Tryd.prog 31 caps (w.alloc (.cells #[.bool false] 4)) R) (hR : Guardable w.heap.size R) :
    Calls Tryd.prog 30 #[.func (.func 31) #[] caps] w (GuardedPost R w.heap.size) := by
  have hmf : ∀ (fn : Fn) (first cap : Array Value) (w : World), (Instr.makeFunc fn first cap).run Tryd.prog w = .ok (.func fn first cap) w := fun _ _ _ _ => rfl
  have K := Lib.hid hK
  have HR := Lib.hid hR
  clear hK hR
  go_enter_defers Tryd.func30, Tryd.ntmps30
  go_wp2_with fail
  refine K.out.mono ?_
  intro e w1 hr
  obtain ⟨h1, hblk⟩ := HR.out e w1 hr
  have c0 := cell_of_one hblk
  have f0 := free_of_one hblk
  have hl := lt_of_block hblk
  rcases h1 with rfl | ⟨T, x, rfl⟩
  · have R1 := Lib.hid hr
    clear hr K HR hblk
    go_wp2
    refine leaves_cons (f := 57) (args := #[.pointer (some ⟨w.heap.size, 0, none⟩)]) (by simp) (by simp [go_sem]) ?_
    refine (catch_idle ⟨w.heap.size, 0, none⟩ false _ ?_ ?_).mono ?_
    · simp [go_sem, c0, hl]
    · simp [go_sem, f0]
    rintro e u' w'' ⟨rfl, rfl, rfl⟩
    simp [Leaves, settle, results, Tryd.results30, go_sem, c0, f0]
    exact ⟨_, w1, R1.out, .inl ⟨rfl, rfl⟩, grown_trans (grown_setCell w1 ⟨w.heap.size, 0, none⟩ _) (grown_setCell _ ⟨w.heap.size, 0, none⟩ _)⟩
  · have R1 := Lib.hid hr
    clear hr K HR hblk
    go_wp2
    refine leaves_cons (f := 57) (args := #[.pointer (some ⟨w.heap.size, 0, none⟩)]) (by simp) (by simp [go_sem]) ?_
    refine (catch_panicking ⟨w.heap.size, 0, none⟩ false _ _ [] _ ?_ ?_).mono ?_
    · exact c0
    · exact f0
    rintro e u' w'' ⟨rfl, rfl, rfl⟩
    simp [Leaves, settle, results, Tryd.results30, go_sem, c0, f0]
    exact ⟨_, w1, R1.out, .inr ⟨⟨_, rfl⟩, rfl⟩, grown_setCell w1 ⟨w.heap.size, 0, none⟩ _⟩

end Go.Proofs.YtidifjmjbfhpaaaDoor
