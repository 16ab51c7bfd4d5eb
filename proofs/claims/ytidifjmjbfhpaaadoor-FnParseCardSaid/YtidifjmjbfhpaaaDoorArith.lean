/- Sums and differences digit by digit, in whatever base: plain numbers, no program. -/
import Derived.Test.YtidifjmjbfhpaaaDoorPlain
namespace Go.Proofs.YtidifjmjbfhpaaaDoor
set_option linter.unusedVariables false
set_option maxRecDepth 20000
set_option linter.unusedSimpArgs false

/-- The carry into place i of the sum of two rows of digits. -/
def car (B : Nat) (f g : Nat → Nat) : Nat → Nat
  | 0 => 0
  | i + 1 => (f i + g i + car B f g i) / B
/-- The sum's digit at place i. -/
def adg (B : Nat) (f g : Nat → Nat) (i : Nat) : Nat := (f i + g i + car B f g i) % B

theorem car_le {B : Nat} (hB : 0 < B) {f g : Nat → Nat} : ∀ n, (∀ i, i < n → f i < B) → (∀ i, i < n → g i < B) → car B f g n ≤ 1
  | 0, _, _ => by simp [car]
  | n + 1, hf, hg => by
    have h := car_le hB n (fun i hi => hf i (by omega)) (fun i hi => hg i (by omega))
    have h1 := hf n (by omega)
    have h2 := hg n (by omega)
    have : (f n + g n + car B f g n) / B < 2 := (Nat.div_lt_iff_lt_mul hB).2 (by omega)
    show (f n + g n + car B f g n) / B ≤ 1
    omega

theorem add_law (B : Nat) (f g : Nat → Nat) : ∀ n, val B (adg B f g) n + car B f g n * B ^ n = val B f n + val B g n
  | 0 => by simp [val, car]
  | n + 1 => by
    have ih := add_law B f g n
    have h := Nat.mod_add_div (f n + g n + car B f g n) B
    simp only [val]
    show _ + adg B f g n * B ^ n + (f n + g n + car B f g n) / B * B ^ (n + 1) = _
    rw [show adg B f g n = (f n + g n + car B f g n) % B from rfl]
    generalize hq : (f n + g n + car B f g n) / B = q at *
    generalize hr : (f n + g n + car B f g n) % B = r at *
    have e : r * B ^ n + q * B ^ (n + 1) = f n * B ^ n + g n * B ^ n + car B f g n * B ^ n := by
      rw [Nat.pow_succ, show q * (B ^ n * B) = B * q * B ^ n by rw [Nat.mul_comm (B ^ n), ← Nat.mul_assoc, Nat.mul_comm q], ← Nat.add_mul, h, Nat.add_mul, Nat.add_mul]
    omega

theorem add_digits {B : Nat} (hB : 1 < B) {V U n : Nat} (hV : V < B ^ n) (hU : U < B ^ n) :
    (∀ i, i < n → adg B (dig B V) (dig B U) i = dig B (V + U) i) ∧ car B (dig B V) (dig B U) n = dig B (V + U) n ∧ V + U < B ^ (n + 1) := by
  have hB0 : 0 < B := by omega
  have law := add_law B (dig B V) (dig B U) n
  rw [val_of_dig hB0, val_of_dig hB0, Nat.mod_eq_of_lt hV, Nat.mod_eq_of_lt hU] at law
  have hlt : ∀ i, i < n → adg B (dig B V) (dig B U) i < B := fun i _ => Nat.mod_lt _ hB0
  have hc := car_le hB0 (f := dig B V) (g := dig B U) n (fun i _ => dig_lt hB0 V i) (fun i _ => dig_lt hB0 U i)
  have hvl := val_lt hlt
  generalize car B (dig B V) (dig B U) n = c at *
  have hsum : V + U < B ^ (n + 1) := by
    have : 2 * B ^ n ≤ B ^ (n + 1) := by rw [Nat.pow_succ, Nat.mul_comm]; exact Nat.mul_le_mul_left _ hB
    omega
  refine ⟨fun i hi => ?_, ?_, hsum⟩
  · rw [← val_dig hlt hi]
    have e : val B (adg B (dig B V) (dig B U)) n = (V + U) % B ^ n := by
      rw [← law, Nat.add_mul_mod_self_right, Nat.mod_eq_of_lt hvl]
    rw [e, ← val_of_dig hB0 (V + U) n, val_dig (fun i _ => dig_lt hB0 _ i) hi]
  · unfold dig
    have e : (V + U) / B ^ n = c := by
      rw [← law, Nat.add_mul_div_right _ _ (Nat.pow_pos hB0), Nat.div_eq_of_lt hvl, Nat.zero_add]
    rw [e, Nat.mod_eq_of_lt (by omega)]

/-- The borrow into place i of the difference of two rows of digits. -/
def bor (f g : Nat → Nat) : Nat → Nat
  | 0 => 0
  | i + 1 => if f i < g i + bor f g i then 1 else 0
/-- The difference's digit at place i. -/
def sdg (B : Nat) (f g : Nat → Nat) (i : Nat) : Nat := (f i + B - g i - bor f g i) % B

theorem bor_le (f g : Nat → Nat) : ∀ n, bor f g n ≤ 1
  | 0 => by simp [bor]
  | n + 1 => by show (if _ then _ else _) ≤ _; split <;> omega

theorem sdg_eq {B : Nat} {f g : Nat → Nat} {n : Nat} (hf : f n < B) (hg : g n < B) : f n + bor f g (n + 1) * B = g n + bor f g n + sdg B f g n := by
  have hb := bor_le f g n
  show f n + (if f n < g n + bor f g n then 1 else 0) * B = _
  unfold sdg
  split
  · rw [Nat.mod_eq_of_lt (by omega)]; omega
  · rw [show f n + B - g n - bor f g n = f n - g n - bor f g n + B by omega, Nat.add_mod_right, Nat.mod_eq_of_lt (by omega)]; omega

theorem sub_law {B : Nat} (f g : Nat → Nat) : ∀ n, (∀ i, i < n → f i < B) → (∀ i, i < n → g i < B) → val B f n + bor f g n * B ^ n = val B g n + val B (sdg B f g) n
  | 0, _, _ => by simp [val, bor]
  | n + 1, hf, hg => by
    have ih := sub_law f g n (fun i hi => hf i (by omega)) (fun i hi => hg i (by omega))
    have h := sdg_eq (hf n (by omega)) (hg n (by omega))
    simp only [val]
    have e : f n * B ^ n + bor f g (n + 1) * B ^ (n + 1) = g n * B ^ n + bor f g n * B ^ n + sdg B f g n * B ^ n := by
      rw [Nat.pow_succ, Nat.mul_comm (B ^ n), ← Nat.mul_assoc, ← Nat.add_mul, h, Nat.add_mul, Nat.add_mul]
    omega

theorem sub_digits {B : Nat} (hB : 1 < B) {V U n : Nat} (hV : V < B ^ n) (hU : U ≤ V) :
    (∀ i, i < n → sdg B (dig B V) (dig B U) i = dig B (V - U) i) ∧ bor (dig B V) (dig B U) n = 0 := by
  have hB0 : 0 < B := by omega
  have law := sub_law (B := B) (dig B V) (dig B U) n (fun i _ => dig_lt hB0 V i) (fun i _ => dig_lt hB0 U i)
  rw [val_of_dig hB0, val_of_dig hB0, Nat.mod_eq_of_lt hV, Nat.mod_eq_of_lt (Nat.lt_of_le_of_lt hU hV)] at law
  have hlt : ∀ i, i < n → sdg B (dig B V) (dig B U) i < B := fun i _ => Nat.mod_lt _ hB0
  have hb := bor_le (dig B V) (dig B U) n
  have hvl := val_lt hlt
  generalize bor (dig B V) (dig B U) n = c at *
  have hc : c = 0 := by
    rcases Nat.lt_or_ge c 1 with h | h
    · omega
    · have : c = 1 := by omega
      subst this
      omega
  subst hc
  refine ⟨fun i hi => ?_, rfl⟩
  rw [← val_dig hlt hi, show val B (sdg B (dig B V) (dig B U)) n = V - U by omega]

theorem nlen_sub {B : Nat} (hB : 1 < B) (V U : Nat) : nlen B (V - U) ≤ nlen B V := nlen_mono hB (Nat.sub_le _ _)

end Go.Proofs.YtidifjmjbfhpaaaDoor
