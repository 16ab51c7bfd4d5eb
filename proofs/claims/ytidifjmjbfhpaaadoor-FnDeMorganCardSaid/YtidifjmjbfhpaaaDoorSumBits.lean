/- And and Or of two numbers add up to what the numbers add up to; De Morgan's law; Xor is Or without And. No program. -/
import Derived.Test.YtidifjmjbfhpaaaDoorPlus
import Derived.Test.YtidifjmjbfhpaaaDoorBitOps
namespace Go.Proofs.YtidifjmjbfhpaaaDoor
set_option linter.unusedVariables false
set_option maxRecDepth 20000
set_option linter.unusedSimpArgs false

theorem and_add_or (V : Nat) : ∀ U, (V &&& U) + (V ||| U) = V + U := by
  induction V using Nat.strongRecOn with
  | ind V ih =>
    intro U
    by_cases h : V = 0
    · subst h; simp
    · have h0 := ih (V / 2) (by omega) (U / 2)
      rw [← Nat.and_div_two, ← Nat.or_div_two] at h0
      have h1 := Nat.and_mod_two_eq_one (a := V) (b := U)
      have h2 := Nat.or_mod_two_eq_one (a := V) (b := U)
      omega

theorem andn_add_and (V : Nat) : ∀ U, andn V U + (V &&& U) = V := by
  unfold andn
  induction V using Nat.strongRecOn with
  | ind V ih =>
    intro U
    by_cases h : V = 0
    · subst h; simp
    · have h0 := ih (V / 2) (by omega) (U / 2)
      rw [← Nat.and_div_two, ← Nat.xor_div_two] at h0
      have h1 := Nat.and_mod_two_eq_one (a := V) (b := U)
      have h2 := Nat.xor_mod_two_eq_one (a := V) (b := V &&& U)
      omega

theorem num_unique {A B : Bool × Nat} (hA : A.1 = true → 1 ≤ A.2) (hB : B.1 = true → 1 ≤ B.2) (h : ∀ i, tb A.1 A.2 i = tb B.1 B.2 i) : A = B := by
  obtain ⟨h1, h2⟩ := tb_unique hA hB h
  exact Prod.ext h1 h2

theorem deMorgan (s : Bool) (V : Nat) (t : Bool) (U : Nat) :
    opR 4 (opR 1 (opR 4 s V false 0).1 (opR 4 s V false 0).2 (opR 4 t U false 0).1 (opR 4 t U false 0).2).1 (opR 1 (opR 4 s V false 0).1 (opR 4 s V false 0).2 (opR 4 t U false 0).1 (opR 4 t U false 0).2).2 false 0 = opR 0 s V t U := by
  refine num_unique (opR_pos 4 _ _ false 0) (opR_pos 0 s V t U) (fun i => ?_)
  rw [opR_bits 4 (by omega), jat_tabl, opR_bits 1 (by omega), jat_tabl, opR_bits 4 (by omega), jat_tabl, opR_bits 4 (by omega), jat_tabl, opR_bits 0 (by omega), jat_tabl]
  generalize tb s V i = p
  generalize tb t U i = q
  generalize tb false 0 i = r
  revert p q r
  decide

theorem xorOrAnd (s : Bool) (V : Nat) (t : Bool) (U : Nat) :
    opR 3 (opR 1 s V t U).1 (opR 1 s V t U).2 (opR 0 s V t U).1 (opR 0 s V t U).2 = opR 2 s V t U := by
  refine num_unique (opR_pos 3 _ _ _ _) (opR_pos 2 s V t U) (fun i => ?_)
  rw [opR_bits 3 (by omega), jat_tabl, opR_bits 1 (by omega), jat_tabl, opR_bits 0 (by omega), jat_tabl, opR_bits 2 (by omega), jat_tabl]
  generalize tb s V i = p
  generalize tb t U i = q
  revert p q
  decide

theorem plus_size (a : Bool) (V : Nat) (b : Bool) (U : Nat) : (plusR a V b U).2 = if a = b then V + U else if U ≤ V then V - U else U - V := by
  unfold plusR
  split
  · rfl
  · split <;> rfl

theorem sumLaw (s : Bool) (V : Nat) (t : Bool) (U : Nat) (hs : s = true → 1 ≤ V) (ht : t = true → 1 ≤ U) :
    (plusR (opR 0 s V t U).1 (opR 0 s V t U).2 (opR 1 s V t U).1 (opR 1 s V t U).2).2 = (plusR s V t U).2 := by
  rw [plus_size, plus_size]
  cases s <;> cases t
  · have := and_add_or V U
    simpa [opR] using this
  · have h := ht rfl
    have h1 := andn_add_and V (U - 1)
    have h2 := andn_add_and (U - 1) V
    rw [Nat.and_comm (U - 1) V] at h2
    simp only [opR, Bool.false_eq_true, Bool.true_eq_false, reduceCtorEq, if_false]
    split <;> split <;> omega
  · have h := hs rfl
    have h1 := andn_add_and U (V - 1)
    have h2 := andn_add_and (V - 1) U
    rw [Nat.and_comm (V - 1) U] at h2
    simp only [opR, Bool.false_eq_true, Bool.true_eq_false, reduceCtorEq, if_false]
    split <;> split <;> omega
  · have h := ht rfl
    have h' := hs rfl
    have h1 := and_add_or (V - 1) (U - 1)
    simp only [opR, if_true]
    omega

end Go.Proofs.YtidifjmjbfhpaaaDoor
