/- The bits of words: and, or, xor, and-not of two numbers word by word; one bit set or taken away. -/
import Derived.Test.YtidifjmjbfhpaaaDoorBase
import Derived.Test.YtidifjmjbfhpaaaDoorBitsPlain
import Derived.Laws.Bits64b
namespace Go.Proofs.YtidifjmjbfhpaaaDoor
set_option linter.unusedVariables false
set_option maxRecDepth 20000
set_option linter.unusedSimpArgs false
open Go.RowKit

/-- The bits of the first that the second has not. -/
def andn (a b : Nat) : Nat := a ^^^ (a &&& b)
theorem andn_bit (a b i : Nat) : (andn a b).testBit i = (a.testBit i && !b.testBit i) := by
  unfold andn
  rw [Nat.testBit_xor, Nat.testBit_and]
  cases a.testBit i <;> cases b.testBit i <;> rfl
theorem andn_le (a b : Nat) : andn a b ≤ a := Nat.le_of_testBit fun i h => by
  rw [andn_bit] at h
  simp at h
  exact h.1

theorem bits_andNot_u64_nat (a b : Nat) (ha : a < 18446744073709551616) (hb : b < 18446744073709551616) :
    bits .andNot .u64 (a : Int) (b : Int) = ((andn a b : Nat) : Int) := by
  have hx : andn a b < 18446744073709551616 := Nat.lt_of_le_of_lt (andn_le a b) ha
  have h1 : (BitVec.ofInt 64 (a : Int)).toNat = a := by
    rw [BitVec.ofInt_natCast, BitVec.toNat_ofNat]; exact Nat.mod_eq_of_lt (by omega)
  have h2 : (BitVec.ofInt 64 (b : Int)).toNat = b := by
    rw [BitVec.ofInt_natCast, BitVec.toNat_ofNat]; exact Nat.mod_eq_of_lt (by omega)
  have h3 : (BitVec.ofInt 64 (a : Int) &&& ~~~(BitVec.ofInt 64 (b : Int))).toNat = andn a b := by
    refine Nat.eq_of_testBit_eq fun i => ?_
    rw [← BitVec.getLsbD, BitVec.getLsbD_and, BitVec.getLsbD_not, BitVec.getLsbD, BitVec.getLsbD, h1, h2, andn_bit]
    by_cases hi : i < 64
    · simp [hi]
    · rw [Nat.testBit_lt_two_pow (x := a) (Nat.lt_of_lt_of_le ha (show 2 ^ 64 ≤ 2 ^ i from Nat.pow_le_pow_right (by omega) (by omega)))]
      simp
  show IntKind.u64.wrap ((BitVec.ofInt 64 (a : Int) &&& ~~~(BitVec.ofInt 64 (b : Int))).toNat : Int) = _
  rw [h3, IntKind.wrap_u64]
  omega

theorem BW_pow (n : Nat) : (BW : Nat) ^ n = 2 ^ (64 * n) := by rw [Nat.pow_mul]; rfl
theorem dig_bit (V i j : Nat) : (dig BW V i).testBit j = (decide (j < 64) && V.testBit (64 * i + j)) := by
  unfold dig
  rw [BW_pow, show (BW : Nat) = 2 ^ 64 from rfl, Nat.testBit_mod_two_pow, Nat.testBit_div_two_pow, Nat.add_comm j]

theorem dig_and (V U i : Nat) : dig BW (V &&& U) i = dig BW V i &&& dig BW U i := by
  refine Nat.eq_of_testBit_eq fun j => ?_
  rw [Nat.testBit_and, dig_bit, dig_bit, dig_bit, Nat.testBit_and]
  cases decide (j < 64) <;> simp
theorem dig_or (V U i : Nat) : dig BW (V ||| U) i = dig BW V i ||| dig BW U i := by
  refine Nat.eq_of_testBit_eq fun j => ?_
  rw [Nat.testBit_or, dig_bit, dig_bit, dig_bit, Nat.testBit_or]
  cases decide (j < 64) <;> simp
theorem dig_xor (V U i : Nat) : dig BW (V ^^^ U) i = dig BW V i ^^^ dig BW U i := by
  refine Nat.eq_of_testBit_eq fun j => ?_
  rw [Nat.testBit_xor, dig_bit, dig_bit, dig_bit, Nat.testBit_xor]
  cases decide (j < 64) <;> simp
theorem dig_andn (V U i : Nat) : dig BW (andn V U) i = andn (dig BW V i) (dig BW U i) := by
  refine Nat.eq_of_testBit_eq fun j => ?_
  rw [andn_bit, dig_bit, dig_bit, dig_bit, andn_bit]
  cases decide (j < 64) <;> simp

theorem dig_bit_at (i j : Nat) : dig BW (2 ^ i) j = if j = i / 64 then 2 ^ (i % 64) else 0 := by
  refine Nat.eq_of_testBit_eq fun t => ?_
  rw [dig_bit, Nat.testBit_two_pow]
  by_cases h : j = i / 64
  · rw [if_pos h, Nat.testBit_two_pow]
    by_cases h2 : i % 64 = t
    · have h3 : t < 64 := by omega
      have h4 : i = 64 * j + t := by omega
      simp [h2, h3, h4]
    · have h4 : ¬ (i = 64 * j + t ∧ t < 64) := by omega
      simp [h2]
      intro h5
      omega
  · rw [if_neg h, Nat.zero_testBit]
    simp
    intro h5
    omega

/-- A bit set or taken away. -/
def setb (V i : Nat) (b : Bool) : Nat := if b then V ||| 2 ^ i else andn V (2 ^ i)
theorem setb_bit (V i : Nat) (b : Bool) (j : Nat) : (setb V i b).testBit j = if j = i then b else V.testBit j := by
  unfold setb
  cases b
  · simp only [Bool.false_eq_true, if_false]
    rw [andn_bit, Nat.testBit_two_pow]
    by_cases h : j = i
    · subst h; simp
    · simp [h, show ¬ i = j from fun e => h e.symm]
  · simp only [if_true]
    rw [Nat.testBit_or, Nat.testBit_two_pow]
    by_cases h : j = i
    · subst h; simp
    · simp [h, show ¬ i = j from fun e => h e.symm]

theorem setb_dig (V i : Nat) (b : Bool) (j : Nat) (h : j ≠ i / 64) : dig BW (setb V i b) j = dig BW V j := by
  cases b
  · show dig BW (andn V (2 ^ i)) j = _
    rw [dig_andn, dig_bit_at, if_neg h]
    unfold andn
    rw [Nat.and_zero, Nat.xor_zero]
  · show dig BW (V ||| 2 ^ i) j = _
    rw [dig_or, dig_bit_at, if_neg h, Nat.or_zero]
theorem setb_dig0 (V i : Nat) : dig BW (setb V i false) (i / 64) = andn (dig BW V (i / 64)) (2 ^ (i % 64)) := by
  show dig BW (andn V (2 ^ i)) _ = _
  rw [dig_andn, dig_bit_at, if_pos rfl]
theorem setb_dig1 (V i : Nat) : dig BW (setb V i true) (i / 64) = dig BW V (i / 64) ||| 2 ^ (i % 64) := by
  show dig BW (V ||| 2 ^ i) _ = _
  rw [dig_or, dig_bit_at, if_pos rfl]
theorem setb0_none (V i : Nat) (h : V < 2 ^ i) : setb V i false = V := by
  refine Nat.eq_of_testBit_eq fun j => ?_
  rw [setb_bit]
  split
  · rename_i e; rw [e, Nat.testBit_lt_two_pow h]
  · rfl
theorem setb0_le (V i : Nat) : setb V i false ≤ V := andn_le _ _
theorem setb1_le (V i : Nat) : V ≤ setb V i true := Nat.left_le_or
theorem setb1_pow (V i : Nat) : 2 ^ i ≤ setb V i true := Nat.right_le_or
/-- How many words it has when the bit is set. -/
theorem setb1_nlen (V i : Nat) : nlen BW (setb V i true) = max (nlen BW V) (i / 64 + 1) := by
  refine eq_of_le_iff fun m => ?_
  rw [nlen_le_iff BW_one, Nat.max_le, nlen_le_iff BW_one, BW_pow]
  constructor
  · intro h
    refine ⟨Nat.lt_of_le_of_lt (setb1_le V i) h, ?_⟩
    have h1 := Nat.lt_of_le_of_lt (setb1_pow V i) h
    rw [Nat.pow_lt_pow_iff_right (by omega)] at h1
    omega
  · rintro ⟨h1, h2⟩
    exact Nat.or_lt_two_pow h1 (Nat.pow_lt_pow_right (by omega) (by omega))

end Go.Proofs.YtidifjmjbfhpaaaDoor
