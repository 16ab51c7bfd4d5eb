/- And, Or, Xor, AndNot, Not of numbers with a sign, in two's complement: what they come to, and their bits. No program. -/
import Derived.Test.YtidifjmjbfhpaaaDoorNatOps
import Derived.Test.YtidifjmjbfhpaaaDoorJoins
namespace Go.Proofs.YtidifjmjbfhpaaaDoor
set_option linter.unusedVariables false
set_option maxRecDepth 20000
set_option linter.unusedSimpArgs false

/-- The operation of number k (4 and above: not of the first). -/
def opR (k : Nat) (a : Bool) (V : Nat) (b : Bool) (U : Nat) : Bool × Nat :=
  match k, a, b with
  | 0, false, false => (false, V &&& U)
  | 0, true, true => (true, (V - 1 ||| U - 1) + 1)
  | 0, false, true => (false, andn V (U - 1))
  | 0, true, false => (false, andn U (V - 1))
  | 1, false, false => (false, V ||| U)
  | 1, true, true => (true, (V - 1 &&& U - 1) + 1)
  | 1, false, true => (true, andn (U - 1) V + 1)
  | 1, true, false => (true, andn (V - 1) U + 1)
  | 2, false, false => (false, V ^^^ U)
  | 2, true, true => (false, V - 1 ^^^ U - 1)
  | 2, false, true => (true, (V ^^^ U - 1) + 1)
  | 2, true, false => (true, (U ^^^ V - 1) + 1)
  | 3, false, false => (false, andn V U)
  | 3, true, true => (false, andn (U - 1) (V - 1))
  | 3, true, false => (true, (V - 1 ||| U) + 1)
  | 3, false, true => (false, V &&& U - 1)
  | _, true, _ => (false, V - 1)
  | _, false, _ => (true, V + 1)

/-- Its table. -/
def opT (k : Nat) : Nat → Bool := fun j => match k, j with
  | 0, 3 => true
  | 0, _ => false
  | 1, 0 => false
  | 1, _ => true
  | 2, 1 => true
  | 2, 2 => true
  | 2, _ => false
  | 3, 2 => true
  | 3, _ => false
  | _, 0 => true
  | _, 1 => true
  | _, _ => false

theorem tb_t (X i : Nat) : tb true (X + 1) i = !X.testBit i := by
  show (!(X + 1 - 1).testBit i) = _
  rw [Nat.add_sub_cancel]
theorem tb_t' (X i : Nat) : tb true X i = !(X - 1).testBit i := rfl
theorem tb_f (X i : Nat) : tb false X i = X.testBit i := rfl

def tabl (T : Nat → Bool) (p q : Bool) : Bool := match p, q with
  | false, false => T 0
  | false, true => T 1
  | true, false => T 2
  | true, true => T 3
theorem jat_tabl (T : Nat → Bool) (a : Bool) (V : Nat) (b : Bool) (U i : Nat) : jat T a V b U i = tabl T (tb a V i) (tb b U i) := by
  unfold jat
  generalize tb a V i = p
  generalize tb b U i = q
  cases p <;> cases q <;> rfl

theorem opR_bits (k : Nat) (hk : k < 5) (a : Bool) (V : Nat) (b : Bool) (U i : Nat) : tb (opR k a V b U).1 (opR k a V b U).2 i = jat (opT k) a V b U i := by
  rw [jat_tabl]
  have hk5 : k = 0 ∨ k = 1 ∨ k = 2 ∨ k = 3 ∨ k = 4 := by omega
  rcases hk5 with rfl | rfl | rfl | rfl | rfl <;> cases a <;> cases b <;> simp only [opR, tb_t, tb_t', tb_f, Nat.testBit_and, Nat.testBit_or, Nat.testBit_xor, andn_bit]
  all_goals
    generalize V.testBit i = p1
    generalize U.testBit i = p2
    generalize (V - 1).testBit i = p3
    generalize (U - 1).testBit i = p4
    cases p1 <;> cases p2 <;> cases p3 <;> cases p4 <;> rfl

theorem opR_pos (k : Nat) (a : Bool) (V : Nat) (b : Bool) (U : Nat) (h : (opR k a V b U).1 = true) : 1 ≤ (opR k a V b U).2 := by
  unfold opR at h ⊢
  split at h <;> first | exact Nat.succ_le_succ (Nat.zero_le _) | cases h

theorem nlen_step (V : Nat) : nlen BW (V + 1) ≤ nlen BW V + 1 := by
  rw [nlen_le_iff BW_one]
  have h := lt_pow_nlen BW_one V
  have h2 := BW_one
  rw [Nat.pow_succ]
  have : BW ^ nlen BW V * 2 ≤ BW ^ nlen BW V * BW := Nat.mul_le_mul_left _ h2
  omega
theorem opR_nlen (k : Nat) (a : Bool) (V : Nat) (b : Bool) (U : Nat) : nlen BW (opR k a V b U).2 ≤ max (nlen BW V) (nlen BW U) + 1 := by
  have h1 : nlen BW (V - 1) ≤ nlen BW V := nlen_mono BW_one (Nat.sub_le _ _)
  have h2 : nlen BW (U - 1) ≤ nlen BW U := nlen_mono BW_one (Nat.sub_le _ _)
  have ha : ∀ X Y, nlen BW (X &&& Y) ≤ max (nlen BW X) (nlen BW Y) := fun X Y => (nlen_le_iff BW_one _ _).2 (Nat.lt_of_le_of_lt Nat.and_le_left (lt_max_pow (U := Y) rfl).1)
  have ho : ∀ X Y, nlen BW (X ||| Y) ≤ max (nlen BW X) (nlen BW Y) := fun X Y => (nlen_le_iff BW_one _ _).2 (or_lt rfl)
  have hx : ∀ X Y, nlen BW (X ^^^ Y) ≤ max (nlen BW X) (nlen BW Y) := fun X Y => (nlen_le_iff BW_one _ _).2 (xor_lt rfl)
  have hn : ∀ X Y, nlen BW (andn X Y) ≤ nlen BW X := fun X Y => nlen_mono BW_one (andn_le X Y)
  unfold opR
  split
  · have := ha V U; simp only; omega
  · have := ho (V - 1) (U - 1); have := nlen_step (V - 1 ||| U - 1); simp only; omega
  · have := hn V (U - 1); simp only; omega
  · have := hn U (V - 1); simp only; omega
  · have := ho V U; simp only; omega
  · have := ha (V - 1) (U - 1); have := nlen_step (V - 1 &&& U - 1); simp only; omega
  · have := hn (U - 1) V; have := nlen_step (andn (U - 1) V); simp only; omega
  · have := hn (V - 1) U; have := nlen_step (andn (V - 1) U); simp only; omega
  · have := hx V U; simp only; omega
  · have := hx (V - 1) (U - 1); simp only; omega
  · have := hx V (U - 1); have := nlen_step (V ^^^ U - 1); simp only; omega
  · have := hx U (V - 1); have := nlen_step (U ^^^ V - 1); simp only; omega
  · have := hn V U; simp only; omega
  · have := hn (U - 1) (V - 1); simp only; omega
  · have := ho (V - 1) U; have := nlen_step (V - 1 ||| U); simp only; omega
  · have := ha V (U - 1); simp only; omega
  · simp only; omega
  · have := nlen_step V; simp only; omega

end Go.Proofs.YtidifjmjbfhpaaaDoor
