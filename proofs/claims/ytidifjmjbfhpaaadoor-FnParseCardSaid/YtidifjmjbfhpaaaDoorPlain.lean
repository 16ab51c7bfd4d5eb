/- Numbers by their digits, in plain Lean: the value of a row of digits, the digits of a value, how many digits a value has. No program in sight. -/
namespace Go.Proofs.YtidifjmjbfhpaaaDoor
set_option linter.unusedVariables false
set_option maxRecDepth 20000
set_option linter.unusedSimpArgs false

/-- The length without zeros at the end. -/
def clen (f : Nat → Nat) : Nat → Nat
  | 0 => 0
  | n + 1 => if f n = 0 then clen f n else n + 1

theorem clen_le (f : Nat → Nat) (n : Nat) : clen f n ≤ n := by
  induction n with
  | zero => exact Nat.le_refl 0
  | succ n ih => unfold clen; split <;> omega

theorem clen_zero (f : Nat → Nat) (n : Nat) (h : f n = 0) : clen f (n + 1) = clen f n := by rw [clen, if_pos h]
theorem clen_some (f : Nat → Nat) (n : Nat) (h : f n ≠ 0) : clen f (n + 1) = n + 1 := by rw [clen, if_neg h]

theorem clen_le_iff (f : Nat → Nat) (n m : Nat) : clen f n ≤ m ↔ ∀ i, m ≤ i → i < n → f i = 0 := by
  induction n with
  | zero => simp [clen]
  | succ n ih =>
    by_cases h : f n = 0
    · rw [clen_zero f n h, ih]
      constructor
      · intro H i h1 h2
        by_cases e : i = n
        · rw [e]; exact h
        · exact H i h1 (by omega)
      · intro H i h1 h2; exact H i h1 (by omega)
    · rw [clen_some f n h]
      constructor
      · intro H i h1 h2; omega
      · intro H
        by_cases e : m ≤ n
        · exact absurd (H n e (by omega)) h
        · omega

/-- The value of n digits, the lowest first, in base B. -/
def val (B : Nat) (f : Nat → Nat) : Nat → Nat
  | 0 => 0
  | n + 1 => val B f n + f n * B ^ n

/-- Digit i of a value. -/
def dig (B V i : Nat) : Nat := V / B ^ i % B

theorem dig_lt {B : Nat} (hB : 0 < B) (V i : Nat) : dig B V i < B := Nat.mod_lt _ hB

theorem val_congr {B : Nat} {f g : Nat → Nat} {n : Nat} (h : ∀ i, i < n → f i = g i) : val B f n = val B g n := by
  induction n with
  | zero => rfl
  | succ n ih => simp only [val]; rw [ih fun i hi => h i (by omega), h n (by omega)]

theorem val_lt {B : Nat} {f : Nat → Nat} {n : Nat} (h : ∀ i, i < n → f i < B) : val B f n < B ^ n := by
  induction n with
  | zero => simp [val]
  | succ n ih =>
    have h1 := ih fun i hi => h i (by omega)
    have h2 := h n (by omega)
    have h3 : (f n + 1) * B ^ n ≤ B * B ^ n := Nat.mul_le_mul_right _ h2
    simp only [val, Nat.pow_succ]
    rw [Nat.add_mul, Nat.one_mul] at h3
    rw [Nat.mul_comm (B ^ n) B]
    omega

theorem val_dig {B : Nat} {f : Nat → Nat} {n : Nat} (h : ∀ i, i < n → f i < B) {i : Nat} (hi : i < n) : dig B (val B f n) i = f i := by
  induction n with
  | zero => omega
  | succ n ih =>
    have hB : 0 < B := Nat.lt_of_le_of_lt (Nat.zero_le _) (h n (by omega))
    by_cases e : i = n
    · subst e
      have hv := val_lt fun j hj => h j (Nat.lt_succ_of_lt hj)
      have hp : 0 < B ^ i := Nat.pow_pos hB
      unfold dig
      simp only [val]
      rw [Nat.add_mul_div_right _ _ hp, Nat.div_eq_of_lt hv, Nat.zero_add]
      exact Nat.mod_eq_of_lt (h i (by omega))
    · have hi' : i < n := by omega
      rw [← ih (fun j hj => h j (by omega)) hi']
      unfold dig
      simp only [val]
      have e1 : B ^ n = B ^ i * (B * B ^ (n - i - 1)) := by
        rw [← Nat.pow_succ', ← Nat.pow_add]; congr 1; omega
      have hp : 0 < B ^ i := Nat.pow_pos hB
      rw [e1, ← Nat.mul_assoc, Nat.mul_comm (f n) (B ^ i), Nat.mul_assoc, Nat.add_mul_div_left _ _ hp, ← Nat.mul_assoc, Nat.mul_comm (f n) B, Nat.mul_assoc, Nat.add_mul_mod_self_left]

theorem dig_of_lt {B V i : Nat} (h : V < B ^ i) : dig B V i = 0 := by
  unfold dig; rw [Nat.div_eq_of_lt h, Nat.zero_mod]

theorem val_of_dig {B : Nat} (hB : 0 < B) (V n : Nat) : val B (dig B V) n = V % B ^ n := by
  induction n with
  | zero => simp [val, Nat.mod_one]
  | succ n ih => simp only [val, ih, dig]; rw [Nat.pow_succ, Nat.mod_mul, Nat.mul_comm (B ^ n)]

theorem lt_pow_self' {B : Nat} (hB : 1 < B) (V : Nat) : V < B ^ V := Nat.lt_pow_self hB

theorem pow_le_pow' {B m n : Nat} (hB : 0 < B) (h : m ≤ n) : B ^ m ≤ B ^ n := Nat.pow_le_pow_right hB h

theorem val_drop {B : Nat} {f : Nat → Nat} {m n : Nat} (hm : m ≤ n) (h : ∀ i, m ≤ i → i < n → f i = 0) : val B f n = val B f m := by
  induction n with
  | zero => have : m = 0 := by omega
            rw [this]
  | succ n ih =>
    by_cases e : m = n + 1
    · rw [e]
    · simp only [val]
      rw [h n (by omega) (by omega), Nat.zero_mul, Nat.add_zero]
      exact ih (by omega) fun i h1 h2 => h i h1 (by omega)

/-- How many digits a value has. -/
def nlen (B V : Nat) : Nat := clen (dig B V) V

theorem nlen_le_iff {B : Nat} (hB : 1 < B) (V n : Nat) : nlen B V ≤ n ↔ V < B ^ n := by
  unfold nlen
  rw [clen_le_iff]
  constructor
  · intro H
    by_cases e : n ≤ V
    · have h1 := val_of_dig (B := B) (by omega) V V
      rw [Nat.mod_eq_of_lt (lt_pow_self' hB V), val_drop e H] at h1
      have h2 := val_lt (B := B) (f := dig B V) (n := n) fun i _ => dig_lt (by omega) V i
      omega
    · exact Nat.lt_of_lt_of_le (lt_pow_self' hB V) (pow_le_pow' (by omega) (by omega))
  · intro H i h1 _
    exact dig_of_lt (Nat.lt_of_lt_of_le H (pow_le_pow' (by omega) h1))

theorem lt_pow_nlen {B : Nat} (hB : 1 < B) (V : Nat) : V < B ^ nlen B V := (nlen_le_iff hB V _).1 (Nat.le_refl _)

theorem nlen_eq_zero {B : Nat} (hB : 1 < B) (V : Nat) : nlen B V = 0 ↔ V = 0 := by
  have := nlen_le_iff hB V 0
  simp only [Nat.pow_zero] at this
  omega

/-- Two numbers are one if at most the same numbers bound them. -/
theorem eq_of_le_iff {a b : Nat} (h : ∀ n, a ≤ n ↔ b ≤ n) : a = b := by
  have h1 := (h b).2 (Nat.le_refl _)
  have h2 := (h a).1 (Nat.le_refl _)
  omega

/-- What is left of a row of digits without the zeros at its end is as long as its value. -/
theorem clen_val {B : Nat} (hB : 1 < B) {f : Nat → Nat} {n : Nat} (h : ∀ i, i < n → f i < B) : clen f n = nlen B (val B f n) := by
  refine eq_of_le_iff fun m => ?_
  rw [nlen_le_iff hB, clen_le_iff]
  by_cases e : m ≤ n
  · constructor
    · intro H; rw [val_drop e H]; exact val_lt fun i hi => h i (by omega)
    · intro H i h1 h2
      rw [← val_dig h h2]
      exact dig_of_lt (Nat.lt_of_lt_of_le H (pow_le_pow' (by omega) h1))
  · constructor
    · intro _; exact Nat.lt_of_lt_of_le (val_lt h) (pow_le_pow' (by omega) (by omega))
    · intro _ i h1 h2; omega

theorem val_nlen {B : Nat} (hB : 1 < B) (V : Nat) : val B (dig B V) (nlen B V) = V := by
  rw [val_of_dig (by omega), Nat.mod_eq_of_lt (lt_pow_nlen hB V)]

theorem nlen_mono {B : Nat} (hB : 1 < B) {V W : Nat} (h : V ≤ W) : nlen B V ≤ nlen B W :=
  (nlen_le_iff hB V _).2 (Nat.lt_of_le_of_lt h (lt_pow_nlen hB W))

theorem dig_top {B : Nat} (hB : 1 < B) {V : Nat} (h : V ≠ 0) : dig B V (nlen B V - 1) ≠ 0 := by
  intro e
  have h1 := mt (nlen_eq_zero hB V).1 h
  have h2 : nlen B V ≤ nlen B V - 1 := by
    rw [nlen_le_iff hB]
    have h3 := lt_pow_nlen hB V
    have h4 : nlen B V = nlen B V - 1 + 1 := by omega
    rw [h4, Nat.pow_succ] at h3
    have hp : 0 < B ^ (nlen B V - 1) := Nat.pow_pos (by omega)
    unfold dig at e
    have h5 : V / B ^ (nlen B V - 1) < B := Nat.div_lt_of_lt_mul h3
    rw [Nat.mod_eq_of_lt h5] at e
    rcases Nat.div_eq_zero_iff.1 e with h6 | h6
    · omega
    · exact h6
  omega

/-- The digits by which two values differ. -/
theorem eq_of_dig {B : Nat} (hB : 1 < B) {V W : Nat} (hl : nlen B V = nlen B W) (h : ∀ i, i < nlen B V → dig B V i = dig B W i) : V = W := by
  rw [← val_nlen hB V, ← val_nlen hB W, ← hl]
  exact val_congr h

/-- Bigger digits: base B ^ k. -/
theorem nlen_pow {B : Nat} (hB : 1 < B) (k : Nat) (hk : 0 < k) (V n : Nat) : nlen (B ^ k) V ≤ n ↔ nlen B V ≤ k * n := by
  rw [nlen_le_iff (Nat.one_lt_pow (by omega) hB), nlen_le_iff hB, Nat.pow_mul]

theorem val_head (B : Nat) (f : Nat → Nat) (n : Nat) : val B f (n + 1) = f 0 + B * val B (fun i => f (i + 1)) n := by
  induction n with
  | zero => simp [val]
  | succ n ih =>
    rw [val, ih]
    simp only [val]
    rw [Nat.mul_add, Nat.pow_succ, Nat.add_assoc]
    congr 2
    rw [Nat.mul_comm (B ^ n) B, ← Nat.mul_assoc, ← Nat.mul_assoc, Nat.mul_comm B (f (n + 1))]

theorem val_split (B : Nat) (f : Nat → Nat) (m n : Nat) : val B f (m + n) = val B f m + B ^ m * val B (fun i => f (m + i)) n := by
  induction n with
  | zero => simp [val]
  | succ n ih =>
    rw [← Nat.add_assoc, val, ih]
    simp only [val]
    rw [Nat.mul_add, Nat.pow_add, Nat.add_assoc]
    congr 2
    rw [← Nat.mul_assoc, ← Nat.mul_assoc, Nat.mul_comm (B ^ m) (f (m + n))]

/-- A digit in base B ^ k is made of k digits in base B. -/
theorem dig_pow {B : Nat} (hB : 0 < B) (k V i : Nat) : dig (B ^ k) V i = val B (fun t => dig B V (k * i + t)) k := by
  have h : (fun t => dig B V (k * i + t)) = dig B (V / B ^ (k * i)) := by
    funext t
    unfold dig
    rw [Nat.pow_add, Nat.div_div_eq_div_mul]
  rw [h, val_of_dig hB]
  unfold dig
  rw [Nat.pow_mul]

/-- The base of the words of 64 bits. -/
def BW : Nat := 2 ^ 64
theorem BW_eq : BW = 18446744073709551616 := rfl
theorem BW_one : 1 < BW := by rw [BW_eq]; omega
theorem BW_pos : 0 < BW := by rw [BW_eq]; omega
theorem dig_BW (V i : Nat) : dig BW V i < 18446744073709551616 := dig_lt BW_pos V i

/-- Digits taken together, k at a time. -/
theorem val_group (B k : Nat) (g : Nat → Nat) (m : Nat) : val (B ^ k) (fun j => val B (fun t => g (k * j + t)) k) m = val B g (k * m) := by
  induction m with
  | zero => rfl
  | succ m ih =>
    rw [Nat.mul_succ, val_split B g, ← ih, val, Nat.pow_mul, Nat.mul_comm ((B ^ k) ^ m)]

/-- The number of n bytes, the highest first. -/
def bval (f : Nat → Nat) (n : Nat) : Nat := val 256 (fun k => f (n - 1 - k)) n

theorem bval_lt {f : Nat → Nat} (hf : ∀ i, f i < 256) (n : Nat) : bval f n < 256 ^ n := val_lt fun i _ => hf _
theorem bval_eight (g : Nat → Nat) : bval g 8 = g 7 + 256 * g 6 + 65536 * g 5 + 16777216 * g 4 + 4294967296 * (g 3 + 256 * g 2 + 65536 * g 1 + 16777216 * g 0) := by
  simp [bval, val]; omega

end Go.Proofs.YtidifjmjbfhpaaaDoor
