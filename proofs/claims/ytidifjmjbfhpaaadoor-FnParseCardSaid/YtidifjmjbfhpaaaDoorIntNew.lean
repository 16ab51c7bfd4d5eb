/- An Int with its words, new; what it tells. -/
import Derived.Test.YtidifjmjbfhpaaaDoorTold
namespace Go.Proofs.YtidifjmjbfhpaaaDoor
set_option linter.unusedVariables false
set_option maxRecDepth 20000
set_option linter.unusedSimpArgs false
open Go.RowKit

theorem below_of_drew {w w' : World} (h : Below w.drew.heap.size w.drew w') : Below w.heap.size w w' := ⟨h.os, h.tape, h.output, h.size, h.block⟩

/-- The sign that an Int of a Number has. -/
def sgn (neg : Bool) (V : Nat) : Bool := neg && decide (V ≠ 0)
theorem sgn_pos (neg : Bool) (V : Nat) (h : sgn neg V = true) : 1 ≤ V := by
  unfold sgn at h
  simp at h
  omega

/-- An Int lies at p: its sign and its words, which are the call's own from base on. -/
def IntNew (w : World) (base p : Nat) (neg : Bool) (V : Nat) : Prop := ∃ v, Pair w p 72 (.bool neg) v ∧ Own w base 83 .u64 v (nlen BW V) (dig BW V)

def IntPost (pz : Nat) (neg : Bool) (R : Nat) (w : World) (e : Ending) (w' : World) : Prop :=
  e = .returned (.pointer (some ⟨pz, 0, none⟩)) ∧ IntNew w' w.heap.size pz neg R ∧ w.grownBy w' (some pz)

theorem IntNew.set {w : World} {B pz R : Nat} {v : Value} {a b : Value} {neg : Bool} (hz : Pair w pz 72 a b) (own : Own w B 83 .u64 v (nlen BW R) (dig BW R)) (hp : pz < B) :
    IntNew ((w.setCell ⟨pz, 1, none⟩ v).setCell ⟨pz, 0, none⟩ (.bool neg)) B pz neg R ∧ w.grownBy ((w.setCell ⟨pz, 1, none⟩ v).setCell ⟨pz, 0, none⟩ (.bool neg)) (some pz) := by
  have gr := grown_trans (grown_setCell w ⟨pz, 1, none⟩ v) (grown_setCell (w.setCell ⟨pz, 1, none⟩ v) ⟨pz, 0, none⟩ (.bool neg))
  refine ⟨⟨v, (hz.set1 v).set0 (.bool neg), own.kept gr ?_⟩, gr⟩
  cases hv : v.ownBlock with
  | none => exact .inl rfl
  | some k =>
    refine .inr fun e => ?_
    have := (own.lt k hv).1
    have e2 : k = pz := by simpa using e
    omega

theorem IntNew.base_le {w : World} {base base' p : Nat} {neg : Bool} {V : Nat} (h : IntNew w base p neg V) (hb : base' ≤ base) : IntNew w base' p neg V := by
  obtain ⟨v, h1, h2⟩ := h
  exact ⟨v, h1, h2.base_le hb⟩

/-- A Number as a value: sign and words, the words the call's own. -/
def NumVal (w : World) (base : Nat) (neg : Bool) (V : Nat) (x : Value) : Prop := ∃ v, x = .agg #[.bool neg, v] ∧ Own w base 32 .u64 v (nlen BW V) (dig BW V)

theorem told_new (p base : Nat) (neg : Bool) (R : Nat) (w : World) (hR : neg = true → 1 ≤ R) (hb : nlen BW R ≤ 2147483647) (h : IntNew w base p neg R) :
    Calls Tryd.prog 44 #[.pointer (some ⟨p, 0, none⟩)] w fun e w' => ∃ x, e = .returned x ∧ NumVal w' w.heap.size neg R x ∧ Below w.heap.size w w' := by
  obtain ⟨v, hp, own⟩ := h
  obtain ⟨a, c, rfl, hle, hcm, hrd, hlt⟩ := own.parts
  refine (told_any p neg a (nlen BW R) c (dig BW R) w hle hb hp hrd).mono ?_
  rintro e w' ⟨v, rfl, own', bel⟩
  refine ⟨_, rfl, ⟨v, ?_, own'⟩, bel⟩
  have : (neg && decide (0 < nlen BW R)) = neg := by
    cases neg
    · rfl
    · have := mt (nlen_eq_zero BW_one R).1 (by have := hR rfl; omega)
      simp; omega
  rw [this]

end Go.Proofs.YtidifjmjbfhpaaaDoor
