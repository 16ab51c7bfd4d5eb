/- From the form's reading of a Number to its sign and its words. -/
import Derived.Test.YtidifjmjbfhpaaaDoorRows
import Derived.Test.YtidifjmjbfhpaaaDoorRow
import Derived.Lib.SmallJoins
namespace Go.Proofs.YtidifjmjbfhpaaaDoor
set_option linter.unusedVariables false
set_option maxRecDepth 20000
set_option linter.unusedSimpArgs false
open Go.RowKit Go.Joins Go.ChangeShapes Go.WideShapes Go.ChangeAt

theorem own_knob : ownKnob Tryd.prog.godebug = none := by kernel_rfl
theorem laid_out : laidOutB Tryd.prog = true := by kernel_rfl
theorem cells_Number : Tryd.prog.cellsOf 24 = 2 := by kernel_rfl

theorem open_number {H : Type} {enc : TypeId × Value → H} {W : World} {r : Reach} {b0 : Nat} {v : Value} {d : DataW H} {p : List MemPlace}
    (hv : Value.okWide Tryd.prog W r b0 24 v) (h : DataW.Trod enc Tryd.prog W 0 (fun _ => true) true 24 v d p) :
    ∃ (neg : Bool) (ao : Option Addr) (n cap : Nat) (f : Nat → Nat), v = .agg #[.bool neg, .slice ao n cap] ∧ Reads W .u64 ao n f ∧ (∀ i, f i < BW) ∧ n ≤ cap ∧ cap ≤ 9223372036854775807 := by
  obtain ⟨c0, c1, y0, y1, m, rfl, _, _, hy0, hy1⟩ := open_agg2 Tryd.underlying24 (by kernel_rfl) cells_Number hv h
  obtain ⟨neg, e0, _⟩ := DataW.trod_bool Tryd.underlying4 hy0
  simp at e0
  subst e0
  rcases open_ints Tryd.underlying22 Tryd.underlying32 (by kernel_rfl) hy1 with ⟨hcs, _⟩ | ⟨x, l, c, zs, hcs, _, hl, hm, hz, _, hcell, hwz⟩
  · simp at hcs
    subst hcs
    exact ⟨neg, none, 0, 0, fun _ => 0, rfl, fun i hi => by omega, fun _ => BW_pos, by omega, by omega⟩
  · simp at hcs
    subst hcs
    obtain ⟨f, hrd, hf, hl2, hc2, _⟩ := reads_of_row (k := .u64) (w := W) (a := some x) (len := l) (cap := c) (zs := zs) (.inr ⟨x, rfl, hl, hm, by simpa using hz, hcell, hwz⟩) BW BW_pos wf_u64_bounds
    exact ⟨neg, some x, l, c, f, rfl, hrd, hf, hl2, hc2⟩

end Go.Proofs.YtidifjmjbfhpaaaDoor
