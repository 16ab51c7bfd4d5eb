/- From the form's reading of a slice of integers to 'Reads'. -/
import Derived.Test.YtidifjmjbfhpaaaDoorBase
import Derived.ProofKit
import Derived.OpenShut
import Derived.ShutString
import Derived.ChangeOld
namespace Go.Proofs.YtidifjmjbfhpaaaDoor
set_option linter.unusedVariables false
set_option maxRecDepth 20000
set_option linter.unusedSimpArgs false
open Go.RowKit

/-- What the walk is told of a slice of integers that came in: it is nil; or it leads to a row of 'cap' cells, the numbers 'zs', each fitting its kind. -/
def IsRow (k : IntKind) (w : World) (a : Option Addr) (len cap : Nat) (zs : List Int) : Prop :=
  (a = none ∧ len = 0 ∧ cap = 0 ∧ zs = []) ∨
  ∃ x, a = some x ∧ len ≤ cap ∧ cap ≤ maxLen ∧ zs.length = cap ∧ (∀ i, i < zs.length → w.cell? (x.add i) = some (.int k (zs.getD i 0))) ∧ ∀ n ∈ zs, (Lit.int k n).wf = true

theorem reads_of_row {k : IntKind} {w : World} {a : Option Addr} {len cap : Nat} {zs : List Int} (h : IsRow k w a len cap zs) (B : Nat) (hB : 0 < B) (hk : ∀ n, (Lit.int k n).wf = true → 0 ≤ n ∧ n < B) :
    ∃ f : Nat → Nat, Reads w k a len f ∧ (∀ i, f i < B) ∧ len ≤ cap ∧ cap ≤ 9223372036854775807 ∧ (a = none → len = 0 ∧ cap = 0) := by
  rcases h with ⟨rfl, rfl, rfl, rfl⟩ | ⟨x, rfl, hl, hm, hz, hcell, hwf⟩
  · exact ⟨fun _ => 0, fun i hi => by omega, fun _ => hB, by omega, by omega, fun _ => ⟨rfl, rfl⟩⟩
  · have hg : ∀ i, i < zs.length → 0 ≤ zs.getD i 0 ∧ zs.getD i 0 < B := by
      intro i hi
      refine hk _ (hwf _ ?_)
      rw [List.getD_eq_getElem?_getD, List.getElem?_eq_getElem hi]
      exact List.getElem_mem hi
    refine ⟨fun i => (zs.getD i 0).toNat, fun i hi => ?_, fun i => ?_, hl, by unfold maxLen at hm; omega, fun h => by cases h⟩
    · have hi' : i < zs.length := by omega
      have hc := hcell i hi'
      obtain ⟨b, o, sp⟩ := x
      have hsp : sp = none := by
        have := World.cell?_spot (hcell 0 (by omega))
        cases sp with
        | none => rfl
        | some s => simp [Addr.add] at this
      subst hsp
      refine ⟨b, o, rfl, ?_⟩
      rw [Addr.add_lit] at hc
      rw [hc, Int.toNat_of_nonneg (hg i hi').1]
    · by_cases hi : i < zs.length
      · have := hg i hi; show (zs.getD i 0).toNat < B; omega
      · show (zs.getD i 0).toNat < B
        rw [List.getD_eq_getElem?_getD, List.getElem?_eq_none (by omega)]; simpa using hB

theorem wf_u8_bounds (n : Int) (h : (Lit.int .u8 n).wf = true) : 0 ≤ n ∧ n < (256 : Nat) := by
  have := bounds_u8 h; omega
theorem wf_u64_bounds (n : Int) (h : (Lit.int .u64 n).wf = true) : 0 ≤ n ∧ n < (BW : Nat) := by
  have := bounds_u64 h; rw [BW_eq]; omega

end Go.Proofs.YtidifjmjbfhpaaaDoor
