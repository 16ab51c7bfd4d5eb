/- What the rows' list gives: big.natOne is a slice of one word, 1. And a world for their witnesses. -/
import Derived.Test.YtidifjmjbfhpaaaDoorCards
import Derived.Test.YtidifjmjbfhpaaaDoorTie
import Derived.Test.YtidifjmjbfhpaaaDoorOpenNumber
import Derived.Test.YtidifjmjbfhpaaaDoorBitAt
import Derived.WalkKit
import Derived.ProofKit
import Derived.OpenShut
import Derived.OpenVars
import Derived.ChangeVars
import Derived.Deep.DeepHandedRow
import Derived.Deep.DeepWitnessRowRef
import Derived.Below
namespace Go.Proofs.YtidifjmjbfhpaaaDoor
open Go.ChangeShapes Go.WideShapes Go.ChangeAt Go.RowKit
set_option linter.unusedVariables false
set_option maxRecDepth 20000

theorem gOne : Tryd.prog.globalNamed "loop.example/pub-g03125/pub/big.natOne" = some 0 := by kernel_rfl
theorem gOneType : (Tryd.prog.globals[0]?).map (·.type) = some 70 := by kernel_rfl
theorem cellsWord : Tryd.prog.cellsOf 83 = 1 := by kernel_rfl

theorem one_of_laid {W : World} (h : laidMetH Tryd.prog [("loop.example/pub-g03125/pub/big.natOne", Rows.laid_loop_example_pub_g03125_pub_big_natOne)] W) : One W := by
  have h1 : laidMet Tryd.prog [("loop.example/pub-g03125/pub/big.natOne", Rows.laid_loop_example_pub_g03125_pub_big_natOne)] W := h
  obtain ⟨ps, ⟨g, t, cs, fuel, p, q, hg, ht, hvar, hd, _, _⟩, _⟩ := h1
  obtain rfl := Option.some.inj (gOne.symm.trans hg)
  obtain rfl := Option.some.inj (gOneType.symm.trans ht)
  rcases open_ints Tryd.underlying70 Tryd.underlying83 cellsWord hd with ⟨_, hx⟩ | ⟨a, len, cap, zs, hcs, _, hl, hm, hz, hx, hcell, hwz⟩
  · cases hx
  · simp only [Rows.laid_loop_example_pub_g03125_pub_big_natOne, Prod.mk.injEq, DataW.slice.injEq] at hx
    obtain ⟨⟨hx1, hx2⟩, _⟩ := hx
    have hl1 : (zs.take len).length = 1 := by
      have := congrArg List.length hx1
      simpa [lits] using this.symm
    have hl2 : (zs.drop len).length = 0 := by
      have := congrArg List.length hx2
      simpa [lits] using this.symm
    have hzl : zs.length = 1 ∧ len = 1 := by
      rw [List.length_take] at hl1
      rw [List.length_drop] at hl2
      simp only [if_true] at hz
      omega
    obtain ⟨z, rfl⟩ := List.length_eq_one_iff.1 hzl.1
    obtain ⟨_, rfl⟩ := hzl
    simp [lits] at hx1
    subst hx1
    have hc0 := hcell 0 (by simp)
    obtain ⟨b, off, sp⟩ := a
    have hsp : sp = none := by
      have := World.cell?_spot hc0
      cases sp with
      | none => rfl
      | some s => simp [Addr.add] at this
    subst hsp
    have hv0 := World.var?_cell gOne hvar 0
    rw [← Array.getElem?_toList, hcs] at hv0
    refine ⟨some ⟨b, off, none⟩, cap, by omega, by simpa using hv0, fun i hi => ⟨b, off, rfl, ?_⟩⟩
    rw [show i = 0 by omega]
    rw [Addr.add_lit] at hc0
    simpa using hc0

def oneObj (B : Nat) : Obj → Obj
  | .cells _ t frozen => .cells #[.slice (some ⟨B, 0, none⟩) 1 1] t frozen
  | o => o
/-- For the world of a witness: the settled one, natOne holding what its initialiser lays. -/
noncomputable def oneWorld (os : Os) : World :=
  { World.holding Tryd.prog os ⟨#[], #[], []⟩ with heap := ((World.holding Tryd.prog os ⟨#[], #[], []⟩).heap.modify 0 (oneObj (World.holding Tryd.prog os ⟨#[], #[], []⟩).heap.size)).push (.cells #[.int .u64 1] 83 (0, 0)) }

end Go.Proofs.YtidifjmjbfhpaaaDoor
