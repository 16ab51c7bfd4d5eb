/- Bits in two's complement: sums of powers of two, a number told by its bits: plain numbers, no program. -/
import Derived.Test.YtidifjmjbfhpaaaDoorPlain
namespace Go.Proofs.YtidifjmjbfhpaaaDoor
set_option linter.unusedVariables false
set_option maxRecDepth 20000
set_option linter.unusedSimpArgs false

/-- Bit i of a number with its sign, in two's complement. -/
def tb (neg : Bool) (V i : Nat) : Bool := if neg then !(V - 1).testBit i else V.testBit i

/-- The number with just the bits below n at which p holds. -/
def bsum (p : Nat → Bool) : Nat → Nat
  | 0 => 0
  | n + 1 => bsum p n + if p n then 2 ^ n else 0

theorem bsum_lt (p : Nat → Bool) : ∀ n, bsum p n < 2 ^ n
  | 0 => by simp [bsum]
  | n + 1 => by
    have := bsum_lt p n
    rw [Nat.pow_succ]
    show bsum p n + (if p n then 2 ^ n else 0) < _
    split <;> omega

theorem bsum_bit (p : Nat → Bool) : ∀ n i, (bsum p n).testBit i = (decide (i < n) && p i)
  | 0, i => by simp [bsum]
  | n + 1, i => by
    have hl := bsum_lt p n
    show (bsum p n + (if p n then 2 ^ n else 0)).testBit i = _
    cases hp : p n with
    | false =>
      simp only [Bool.false_eq_true, if_false, Nat.add_zero]
      rw [bsum_bit p n i]
      by_cases h : i = n
      · subst h; simp [hp]
      · have : decide (i < n) = decide (i < n + 1) := by simp only [decide_eq_decide]; omega
        rw [this]
    | true =>
      simp only [if_true]
      rw [Nat.add_comm]
      rcases Nat.lt_trichotomy i n with h | h | h
      · rw [Nat.testBit_two_pow_add_gt h, bsum_bit p n i]
        have : decide (i < n) = decide (i < n + 1) := by simp only [decide_eq_decide]; omega
        rw [this]
      · subst h
        rw [Nat.testBit_two_pow_add_eq, Nat.testBit_lt_two_pow hl, hp]
        simp
      · rw [Nat.testBit_lt_two_pow]
        · simp; omega
        · have h2 : 2 ^ (n + 1) ≤ 2 ^ i := Nat.pow_le_pow_right (by omega) (by omega)
          rw [Nat.pow_succ] at h2
          omega

theorem tb_high (neg : Bool) (V i : Nat) (h : V < 2 ^ i) : tb neg V i = neg := by
  cases neg
  · exact Nat.testBit_lt_two_pow h
  · show (!(V - 1).testBit i) = true
    rw [Nat.testBit_lt_two_pow (by omega)]; rfl

theorem tb_unique {n1 n2 : Bool} {V1 V2 : Nat} (h1 : n1 = true → 1 ≤ V1) (h2 : n2 = true → 1 ≤ V2) (h : ∀ i, tb n1 V1 i = tb n2 V2 i) : n1 = n2 ∧ V1 = V2 := by
  have hn : n1 = n2 := by
    have e := h (V1 + V2)
    rw [tb_high n1 V1 (V1 + V2) (Nat.lt_of_lt_of_le (Nat.lt_two_pow_self (n := V1)) (Nat.pow_le_pow_right (by omega) (by omega))), tb_high n2 V2 (V1 + V2) (Nat.lt_of_lt_of_le (Nat.lt_two_pow_self (n := V2)) (Nat.pow_le_pow_right (by omega) (by omega)))] at e
    exact e
  subst hn
  refine ⟨rfl, ?_⟩
  cases n1
  · exact Nat.eq_of_testBit_eq h
  · have e : V1 - 1 = V2 - 1 := Nat.eq_of_testBit_eq fun i => by
      have := h i
      simpa [tb] using this
    have := h1 rfl
    have := h2 rfl
    omega

/-- The number whose bits in two's complement are 'at', which is 'neg' from s on. -/
theorem joined_bits (f : Nat → Bool) (neg : Bool) (s : Nat) (hs : ∀ i, s ≤ i → f i = neg) :
    (∀ i, tb neg (bsum (fun i => f i != neg) s + if neg then 1 else 0) i = f i) ∧ bsum (fun i => f i != neg) s + (if neg then 1 else 0) ≤ 2 ^ s := by
  have hl := bsum_lt (fun i => f i != neg) s
  refine ⟨fun i => ?_, by split <;> omega⟩
  cases neg with
  | false =>
    simp only [Bool.false_eq_true, if_false, Nat.add_zero]
    show (bsum _ s).testBit i = f i
    rw [bsum_bit]
    by_cases h : i < s
    · simp [h]
    · rw [hs i (by omega)]; simp
  | true =>
    simp only [if_true]
    show (!(bsum _ s + 1 - 1).testBit i) = f i
    rw [Nat.add_sub_cancel, bsum_bit]
    by_cases h : i < s
    · simp [h]
    · rw [hs i (by omega)]; simp [h]

end Go.Proofs.YtidifjmjbfhpaaaDoor
