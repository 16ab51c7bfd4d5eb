/- (nat).bit: a bit of a natural number. (*Int).Bit: a bit in two's complement. -/
import Derived.Test.YtidifjmjbfhpaaaDoorNatSub
import Derived.Test.YtidifjmjbfhpaaaDoorBitsPlain
import Derived.Test.YtidifjmjbfhpaaaDoorOf
namespace Go.Proofs.YtidifjmjbfhpaaaDoor
set_option linter.unusedVariables false
set_option maxRecDepth 20000
set_option linter.unusedSimpArgs false
open Go.RowKit

theorem word_bit2 (V i j : Nat) (hj : j < 64) : (dig BW V i).testBit j = V.testBit (64 * i + j) := by
  unfold dig
  rw [show (BW : Nat) ^ i = 2 ^ (64 * i) by rw [Nat.pow_mul]; rfl, show (BW : Nat) = 2 ^ 64 from rfl, Nat.testBit_mod_two_pow, Nat.testBit_div_two_pow]
  simp [hj, Nat.add_comm]

theorem and_one_word (x i : Nat) (hx : x < 18446744073709551616) : bits .and .u64 ((x : Int) / 2 ^ i) 1 = ((x / 2 ^ i % 2 : Nat) : Int) := by
  have h1 : ((x : Int) / 2 ^ i) = ((x / 2 ^ i : Nat) : Int) := by rw [Int.natCast_ediv, Int.natCast_pow]; rfl
  have h2 : x / 2 ^ i ≤ x := Nat.div_le_self _ _
  rw [h1]
  generalize x / 2 ^ i = q at *
  have := bits_mask .u64 64 (by decide) wraps_u64 1 (by omega) ((q : Nat) : Int) (by omega) (by omega)
  simp at this ⊢
  exact this

/-- A bit as a number. -/
def b01 (b : Bool) : Nat := if b then 1 else 0

theorem natBit_any (ao : Option Addr) (V cap i : Nat) (w : World) (hn : nlen BW V ≤ cap) (hb : nlen BW V ≤ 1000000000000) (hi : i ≤ 1000000000000) (hrd : Reads w .u64 ao (nlen BW V) (dig BW V)) :
    Calls Tryd.prog 59 #[.slice ao (nlen BW V) cap, .int .u64 i] w fun e w' => e = .returned (.int .u64 ((b01 (V.testBit i) : Nat) : Int)) ∧ w = w' := by
  have hVl := lt_pow_nlen BW_one V
  obtain ⟨n, hnn⟩ : ∃ n, n = nlen BW V := ⟨_, rfl⟩
  rw [← hnn] at hn hb hrd hVl ⊢
  obtain ⟨r, hr⟩ : ∃ r, r = b01 (V.testBit i) := ⟨_, rfl⟩
  rw [← hr]
  obtain ⟨q, hq⟩ : ∃ q, q = i / 64 := ⟨_, rfl⟩
  obtain ⟨k, hk⟩ : ∃ q, q = i % 64 := ⟨_, rfl⟩
  have hqi : (i : Int) / 64 = ((q : Nat) : Int) := by rw [hq]; omega
  have hki : (i : Int) % 64 = ((k : Nat) : Int) := by rw [hk]; omega
  have hk64 : k < 64 := by rw [hk]; exact Nat.mod_lt _ (by omega)
  have hnw : IntKind.u64.wrap (n : Int) = (n : Int) := by rw [IntKind.wrap_u64]; omega
  by_cases h : q < n
  · obtain ⟨b, o, rfl, hcell⟩ := hrd q h
    have hd := dig_BW V q
    have hbit := word_bit2 V q k hk64
    rw [show 64 * q + k = i by omega] at hbit
    obtain ⟨d, hdd⟩ : ∃ d, d = dig BW V q := ⟨_, rfl⟩
    rw [← hdd] at hcell hd hbit
    have hand := and_one_word d k hd
    have hx : d / 2 ^ k % 2 = r := by
      rw [hr, ← hbit, Nat.testBit_eq_decide_div_mod_eq]
      unfold b01
      by_cases h1 : d / 2 ^ k % 2 = 1
      · rw [h1]; rfl
      · rw [if_neg (by simpa using h1)]; omega
    rw [hx] at hand
    have hr1 : r ≤ 1 := by rw [hr]; unfold b01; split <;> omega
    have hwr : IntKind.u64.wrap (r : Int) = (r : Int) := by rw [IntKind.wrap_u64]; omega
    clear hx hbit hdd hrd hnn hr hVl hq hk
    go_enter Tryd.func59, Tryd.ntmps59
    go_wp2
    go_ret
    exact ⟨rfl, rfl⟩
  · have hz : r = 0 := by
      rw [hr, Nat.testBit_lt_two_pow]
      · rfl
      · refine Nat.lt_of_lt_of_le hVl ?_
        rw [show (BW : Nat) ^ n = 2 ^ (64 * n) by rw [Nat.pow_mul]; rfl]
        exact Nat.pow_le_pow_right (by omega) (by omega)
    subst hz
    clear hr hnn hrd hVl hq hk
    have hge : (n : Int) ≤ (q : Int) := by omega
    go_enter Tryd.func59, Tryd.ntmps59
    go_wp2
    go_ret
    exact ⟨rfl, rfl⟩

end Go.Proofs.YtidifjmjbfhpaaaDoor
