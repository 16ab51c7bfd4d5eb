/- (nat).bit: a bit of a natural number. (*Int).Bit: a bit in two's complement. -/
/- (*Int).Bit: a bit in two's complement. -/
import Derived.Test.YtidifjmjbfhpaaaDoorNatSub
import Derived.Test.YtidifjmjbfhpaaaDoorBitsPlain
import Derived.Test.YtidifjmjbfhpaaaDoorOf
namespace Go.Proofs.YtidifjmjbfhpaaaDoor
set_option linter.unusedVariables false
set_option maxRecDepth 20000
set_option linter.unusedSimpArgs false
open Go.RowKit

theorem word_bit2 (V i j : Nat) (hj : j < 64) : (dig BW V i).testBit j = V.testBit (64 * i + j) := by
  unfold dig
  rw [show (BW : Nat) ^ i = 2 ^ (64 * i) by rw [Nat.pow_mul]; rfl, show (BW : Nat) = 2 ^ 64 from rfl, Nat.testBit_mod_two_pow, Nat.testBit_div_two_pow]
  simp [hj, Nat.add_comm]

theorem and_one_word (x i : Nat) (hx : x < 18446744073709551616) : bits .and .u64 ((x : Int) / 2 ^ i) 1 = ((x / 2 ^ i % 2 : Nat) : Int) := by
  have h1 : ((x : Int) / 2 ^ i) = ((x / 2 ^ i : Nat) : Int) := by rw [Int.natCast_ediv, Int.natCast_pow]; rfl
  have h2 : x / 2 ^ i ≤ x := Nat.div_le_self _ _
  rw [h1]
  generalize x / 2 ^ i = q at *
  have := bits_mask .u64 64 (by decide) wraps_u64 1 (by omega) ((q : Nat) : Int) (by omega) (by omega)
  simp at this ⊢
  exact this

/-- A bit as a number. -/
def b01 (b : Bool) : Nat := if b then 1 else 0

theorem natBit_any (ao : Option Addr) (V cap i : Nat) (w : World) (hn : nlen BW V ≤ cap) (hb : nlen BW V ≤ 1000000000000) (hi : i ≤ 1000000000000) (hrd : Reads w .u64 ao (nlen BW V) (dig BW V)) :
    Calls Tryd.prog 59 #[.slice ao (nlen BW V) cap, .int .u64 i] w fun e w' => e = .returned (.int .u64 ((b01 (V.testBit i) : Nat) : Int)) ∧ w = w' := by
  have hVl := lt_pow_nlen BW_one V
  obtain ⟨n, hnn⟩ : ∃ n, n = nlen BW V := ⟨_, rfl⟩
  rw [← hnn] at hn hb hrd hVl ⊢
  obtain ⟨r, hr⟩ : ∃ r, r = b01 (V.testBit i) := ⟨_, rfl⟩
  rw [← hr]
  obtain ⟨q, hq⟩ : ∃ q, q = i / 64 := ⟨_, rfl⟩
  obtain ⟨k, hk⟩ : ∃ q, q = i % 64 := ⟨_, rfl⟩
  have hqi : (i : Int) / 64 = ((q : Nat) : Int) := by rw [hq]; omega
  have hki : (i : Int) % 64 = ((k : Nat) : Int) := by rw [hk]; omega
  have hk64 : k < 64 := by rw [hk]; exact Nat.mod_lt _ (by omega)
  have hnw : IntKind.u64.wrap (n : Int) = (n : Int) := by rw [IntKind.wrap_u64]; omega
  by_cases h : q < n
  · obtain ⟨b, o, rfl, hcell⟩ := hrd q h
    have hd := dig_BW V q
    have hbit := word_bit2 V q k hk64
    rw [show 64 * q + k = i by omega] at hbit
    obtain ⟨d, hdd⟩ : ∃ d, d = dig BW V q := ⟨_, rfl⟩
    rw [← hdd] at hcell hd hbit
    have hand := and_one_word d k hd
    have hx : d / 2 ^ k % 2 = r := by
      rw [hr, ← hbit, Nat.testBit_eq_decide_div_mod_eq]
      unfold b01
      by_cases h1 : d / 2 ^ k % 2 = 1
      · rw [h1]; rfl
      · rw [if_neg (by simpa using h1)]; omega
    rw [hx] at hand
    have hr1 : r ≤ 1 := by rw [hr]; unfold b01; split <;> omega
    have hwr : IntKind.u64.wrap (r : Int) = (r : Int) := by rw [IntKind.wrap_u64]; omega
    clear hx hbit hdd hrd hnn hr hVl hq hk
    go_enter Tryd.func59, Tryd.ntmps59
    go_wp2
    go_ret
    exact ⟨rfl, rfl⟩
  · have hz : r = 0 := by
      rw [hr, Nat.testBit_lt_two_pow]
      · rfl
      · refine Nat.lt_of_lt_of_le hVl ?_
        rw [show (BW : Nat) ^ n = 2 ^ (64 * n) by rw [Nat.pow_mul]; rfl]
        exact Nat.pow_le_pow_right (by omega) (by omega)
    subst hz
    clear hr hnn hrd hVl hq hk
    have hge : (n : Int) ≤ (q : Int) := by omega
    go_enter Tryd.func59, Tryd.ntmps59
    go_wp2
    go_ret
    exact ⟨rfl, rfl⟩

end Go.Proofs.YtidifjmjbfhpaaaDoor
namespace Go.Proofs.YtidifjmjbfhpaaaDoor
set_option linter.unusedVariables false
set_option linter.unusedSimpArgs false
open Go.RowKit

/-- big.natOne is a slice of one word, 1. -/
def One (w : World) : Prop := ∃ (ay : Option Addr) (cy : Nat), 1 ≤ cy ∧ w.cell? ⟨0, 0, none⟩ = some (.slice ay 1 cy) ∧ Reads w .u64 ay 1 (fun _ => 1)
theorem One.below {w w' : World} (h : One w) (hb : Below w.heap.size w w') : One w' := by
  obtain ⟨ay, cy, h1, h2, h3⟩ := h
  exact ⟨ay, cy, h1, by rw [hb.cell (World.block_lt_of_cell? _ _ h2)]; exact h2, h3.below hb⟩

theorem tb_zero (neg : Bool) (V : Nat) (h : neg = true → 1 ≤ V) : tb neg V 0 = V.testBit 0 := by
  cases neg
  · rfl
  · have := h rfl
    show (!(V - 1).testBit 0) = V.testBit 0
    rw [Nat.testBit_zero, Nat.testBit_zero]
    rcases Nat.mod_two_eq_zero_or_one V with h | h
    · rw [h, show (V - 1) % 2 = 1 by omega]; rfl
    · rw [h, show (V - 1) % 2 = 0 by omega]; rfl

theorem reads_own_blocks {w : World} {base n c : Nat} {ao : Option Addr} {e : TypeId} {f : Nat → Nat} (own : Own w base e .u64 (.slice ao n c) n f) : ∀ a, ao = some a → ∃ c t, w.heap[a.block]? = some (.cells c t (0, 0)) := by
  rintro a rfl
  rcases own.2 with ⟨h, _⟩ | ⟨g, cap, cur, h, hb, hg, _⟩
  · simp at h
  · simp at h
    obtain ⟨rfl, rfl⟩ := h
    exact ⟨_, _, hg⟩

set_option maxHeartbeats 1000000 in
theorem intBit_any (p base V i : Nat) (neg : Bool) (v : Value) (w : World) (hV : neg = true → 1 ≤ V) (hb : nlen BW V ≤ 2147483647) (hi : i ≤ 1000000000000) (h : Pair w p 72 (.bool neg) v) (own : Own w base 83 .u64 v (nlen BW V) (dig BW V)) (hone : One w) :
    Calls Tryd.prog 32 #[.pointer (some ⟨p, 0, none⟩), .int .i64 i] w fun e w' => e = .returned (.int .u64 ((b01 (tb neg V i) : Nat) : Int)) ∧ Below w.heap.size w w' := by
  obtain ⟨az, cz, rfl, hle, hcm, hrd, hlt⟩ := own.parts
  have c0 := h.cell0
  have c1 := h.cell1
  have hwi : IntKind.u64.wrap (i : Int) = (i : Int) := by rw [IntKind.wrap_u64]; omega
  have hw1 : ∀ b, IntKind.u64.wrap ((b01 b : Nat) : Int) = ((b01 b : Nat) : Int) := fun b => by cases b <;> rfl
  by_cases h0 : i = 0
  · subst h0
    have ht := tb_zero neg V hV
    have hz := nlen_eq_zero BW_one V
    obtain ⟨n, hnn⟩ : ∃ n, n = nlen BW V := ⟨_, rfl⟩
    rw [← hnn] at c1 hz hrd
    by_cases hn0 : n = 0
    · have hr : b01 (tb neg V 0) = 0 := by rw [ht, hz.1 hn0]; rfl
      rw [hr]
      subst hn0
      clear ht hz hrd hnn own hlt
      go_enter Tryd.func32, Tryd.ntmps32
      go_wp2
      go_ret
      exact ⟨rfl, Below.refl _ _⟩
    · obtain ⟨b, o, rfl, hcell⟩ := hrd 0 (by omega)
      have hd := dig_BW V 0
      have hbit := word_bit2 V 0 0 (by omega)
      obtain ⟨d, hdd⟩ : ∃ d, d = dig BW V 0 := ⟨_, rfl⟩
      rw [← hdd] at hcell hd hbit
      have hand := and_one_word d 0 hd
      simp only [Int.pow_zero, Int.ediv_one, Nat.pow_zero, Nat.div_one] at hand
      rw [Nat.add_zero] at hcell
      have hr : d % 2 = b01 (tb neg V 0) := by
        rw [ht, ← show d.testBit 0 = V.testBit 0 from hbit, Nat.testBit_zero]
        unfold b01
        rcases Nat.mod_two_eq_zero_or_one d with h | h <;> rw [h] <;> rfl
      rw [hr] at hand
      have hnpos : decide ((0 : Int) < (n : Int)) = true := by simp; omega
      have hwr := hw1 (tb neg V 0)
      obtain ⟨r, hrr⟩ : ∃ r, r = b01 (tb neg V 0) := ⟨_, rfl⟩
      rw [← hrr] at hand hwr ⊢
      clear ht hz hrd hnn own hlt hbit hdd hr hrr
      go_enter Tryd.func32, Tryd.ntmps32
      go_wp2
      go_ret
      exact ⟨rfl, Below.refl _ _⟩
  · have hi0 : ((i : Int) == 0) = false := by simp; omega
    have hil : decide ((i : Int) < 0) = false := by simp
    cases neg with
    | false =>
      have K := Lib.hid (natBit_any az V cz i w hle (by omega) hi hrd)
      have hb2 : tb false V i = V.testBit i := rfl
      rw [hb2]
      clear own hlt hrd hone h hV
      go_enter Tryd.func32, Tryd.ntmps32
      go_wp2_with fail
      refine K.out.mono ?_
      rintro e w1 ⟨rfl, rfl⟩
      have hwr := hw1 (V.testBit i)
      go_wp2
      go_ret
      exact ⟨rfl, Below.refl _ _⟩
    | true =>
      have hV1 := hV rfl
      obtain ⟨ay, cy, hcy, hg0, hry⟩ := hone
      have KS := Lib.hid (natSub1_any az ay V cz cy w.drew hV1 hle hcy hb hrd hry (reads_own_blocks own))
      have hb2 : tb true V i = !(V - 1).testBit i := rfl
      rw [hb2]
      have hsn : nlen BW (V - 1) ≤ nlen BW V := nlen_mono BW_one (Nat.sub_le _ _)
      have HP := Lib.hid h
      clear own hlt hrd hry h hV
      obtain ⟨n, hnn⟩ : ∃ n, n = nlen BW V := ⟨_, rfl⟩
      rw [← hnn] at c1 KS hsn hb
      clear hnn hle
      go_enter Tryd.func32, Tryd.ntmps32
      go_wp2_with fail
      have keepS : ∀ w', Below w.drew.heap.size w.drew w' → w'.cell? ⟨p, 1, none⟩ = some (.slice az n cz) ∧ w'.cell? ⟨0, 0, none⟩ = some (.slice ay 1 cy) := fun w' hb' => ⟨by rw [hb'.cell (World.block_lt_of_cell? _ _ c1)]; exact c1, by rw [hb'.cell (World.block_lt_of_cell? _ _ hg0)]; exact hg0⟩
      have KEEP := Lib.hid keepS
      clear keepS
      go_region_held3 (fun w' => w'.cell? ⟨p, 1, none⟩ = some (.slice az n cz) ∧ w'.cell? ⟨0, 0, none⟩ = some (.slice ay 1 cy)) (first | exact ⟨c1, hg0⟩ | exact k2) (first | (go_simp; go_at_call 58; refine KS.out.mono ?_; rintro e w2 ⟨v2, rfl, own2, b2⟩; obtain ⟨a2, c2, rfl, hle2, hcm2, hrd2, hlt2⟩ := own2.parts; have k2 := KEEP.out _ b2; go_wp2_with fail))
      have KB := Lib.hid (natBit_any a2 (V - 1) c2 i w2 hle2 (by omega) hi hrd2)
      have B2 := Lib.hid (show Below w.heap.size w w2 from ⟨b2.os, b2.tape, b2.output, b2.size, b2.block⟩)
      clear own2 hrd2 hlt2 k2 b2 KS KEEP
      go_wp2_with fail
      refine KB.out.mono ?_
      rintro e w3 ⟨rfl, rfl⟩
      obtain ⟨bb, hbb⟩ : ∃ b, b = (V - 1).testBit i := ⟨_, rfl⟩
      rw [← hbb]
      have hx0 : bits .xor .u64 0 1 = 1 := by rfl
      have hx1 : bits .xor .u64 1 1 = 0 := by rfl
      have HBB := Lib.hid hbb
      clear hbb hb2 KB
      cases bb
      all_goals
        simp only [b01]
        go_wp2
        go_ret
        exact ⟨by rw [← HBB.out]; rfl, B2.out⟩

end Go.Proofs.YtidifjmjbfhpaaaDoor
