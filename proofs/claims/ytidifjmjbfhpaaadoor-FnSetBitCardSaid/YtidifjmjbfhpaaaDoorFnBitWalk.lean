/- laws.FnBit returns true, whatever Number and index it is called with. -/
import Derived.Test.YtidifjmjbfhpaaaDoorBitIt
import Derived.Test.YtidifjmjbfhpaaaDoorJoinedAll
namespace Go.Proofs.YtidifjmjbfhpaaaDoor
set_option linter.unusedVariables false
set_option maxRecDepth 20000
set_option linter.unusedSimpArgs false
open Go.RowKit

/-- The table of 'and'. -/
def andT : Nat → Bool := fun j => match j with
  | 3 => true
  | _ => false

theorem and_bits (na : Bool) (V k j : Nat) : jat andT na V false (2 ^ k) j = (tb na V j && decide (j = k)) := by
  unfold jat
  have h : tb false (2 ^ k) j = decide (j = k) := by
    show (2 ^ k).testBit j = _
    rw [Nat.testBit_two_pow]
    simp only [decide_eq_decide]
    exact eq_comm
  rw [h]
  cases tb na V j <;> cases decide (j = k) <;> rfl

/-- What 'and' with one bit comes to. -/
theorem and_one_bit {na neg : Bool} {V k R : Nat} (hR : ∀ i, tb neg R i = jat andT na V false (2 ^ k) i) (hp : neg = true → 1 ≤ R) : (R ≠ 0) ↔ tb na V k = true := by
  have hb : ∀ i, tb neg R i = (tb na V i && decide (i = k)) := fun i => by rw [hR, and_bits]
  have hn : neg = false := by
    have h1 := hb (R + k + 1)
    rw [tb_high neg R (R + k + 1) (Nat.lt_of_lt_of_le (Nat.lt_two_pow_self (n := R)) (Nat.pow_le_pow_right (by omega) (by omega)))] at h1
    rw [h1]
    simp
    intro _
    omega
  subst hn
  constructor
  · intro h
    cases ht : tb na V k with
    | true => rfl
    | false =>
      refine absurd (Nat.eq_of_testBit_eq fun i => ?_) h
      have := hb i
      rw [Nat.zero_testBit]
      show tb false R i = false
      rw [this]
      by_cases hik : i = k
      · rw [hik, ht]; rfl
      · simp [hik]
  · intro h e
    have := hb k
    rw [h, e] at this
    simp [tb] at this

set_option maxHeartbeats 1000000 in
theorem fnBit_walk (ix : Nat) (hix : ix ≤ 65535) (neg : Bool) (ao : Option Addr) (n cap : Nat) (f : Nat → Nat) (hf : ∀ i, f i < BW) (w : World) (hn : n ≤ cap) (hcap : cap ≤ 9223372036854775807) (hrd : Reads w .u64 ao n f) (hone : One w) :
    Calls Tryd.prog 4 #[.agg #[.bool neg, .slice ao n cap], .int .u16 ix] w fun e w' => e = .returned (.bool true) ∧ Below w.heap.size w w' := by
  have hnot : ∀ (x : Bool) (w : World), (Op.unary .not (.bool x)).run Tryd.prog w = .ok (.bool (!x)) w := fun _ _ => rfl
  have hfld := field_nat
  obtain ⟨W, hW⟩ : ∃ W, W = w.alloc (.cells #[.bool neg, .slice ao n cap] 24) := ⟨_, rfl⟩
  have S0 : Below w.heap.size w W ∧ ArgAt W w.heap.size neg ao n cap f := by rw [hW]; exact ⟨(Below.refl _ _).alloc (Nat.le_refl _) _, ArgAt.new hrd⟩
  have KF := Lib.hid (fits_any neg ao n cap W (by omega))
  have F0 := Lib.hid S0
  rw [hW] at KF
  have HW := Lib.hid hW
  have HO := Lib.hid hone
  clear hrd S0 hW hone
  by_cases h1 : n ≤ 2147483647
  · rw [show decide (n ≤ 2147483647) = true by simpa using h1] at KF
    go_enter Tryd.func4, Tryd.ntmps4
    go_wp2_with fail
    refine KF.out.mono ?_
    rw [← HW.out]
    rintro e w1 ⟨rfl, bel1⟩
    have S1 := And.intro (below_trans F0.out.1 bel1) (F0.out.2.below bel1)
    have c0 := S1.2.1.cell0
    have c1 := S1.2.1.cell1
    have KB := Lib.hid (big_any neg ao n cap 20 w1 (by omega))
    have F1 := Lib.hid S1
    clear bel1 KF S1
    by_cases h2 : 20 < n
    · rw [show decide ((20 : Int) < (n : Int)) = true by simp; omega] at KB
      go_wp2_with fail
      refine KB.out.mono ?_
      rintro e w2 ⟨rfl, bel2⟩
      have F2 := Lib.hid (below_trans F1.out.1 bel2)
      clear bel2 KB
      go_wp2
      go_ret
      exact ⟨rfl, F2.out⟩
    · rw [show decide ((20 : Int) < (n : Int)) = false by simp; omega] at KB
      go_wp2_with fail
      refine KB.out.mono ?_
      rintro e w2 ⟨rfl, bel2⟩
      have S2 := And.intro (below_trans F1.out.1 bel2) (F1.out.2.below bel2)
      clear c0 c1
      have c0 := S2.2.1.cell0
      have c1 := S2.2.1.cell1
      obtain ⟨k, hk⟩ : ∃ k, k = ix % 3001 := ⟨_, rfl⟩
      have hk3 : k ≤ 3000 := by rw [hk]; have := Nat.mod_lt ix (show 0 < 3001 by omega); omega
      have hki : (ix : Int) % 3001 = ((k : Nat) : Int) := by rw [hk]; omega
      have KI := implBit_any neg ao n cap k f (fun i _ => hf i) w2 (by omega) hn (by omega) S2.2.2 (HO.out.below S2.1)
      obtain ⟨V, hV⟩ : ∃ V, V = val BW f n := ⟨_, rfl⟩
      rw [← hV] at KI
      have hVn : nlen BW V ≤ n := by rw [nlen_le_iff BW_one, hV]; exact val_lt fun i _ => hf i
      have hL16 : nlen 65536 V ≤ 4 * n := by
        have := nlen_pow (B := 65536) (by omega) 4 (by omega) V n
        exact this.1 hVn
      obtain ⟨sg, hsg⟩ : ∃ s, s = sgn neg V := ⟨_, rfl⟩
      rw [← hsg] at KI
      have hsp : sg = true → 1 ≤ V := fun h => sgn_pos neg V (by rw [← hsg]; exact h)
      obtain ⟨bt, hbt⟩ : ∃ b, b = tb sg V k := ⟨_, rfl⟩
      rw [← hbt] at KI
      have KI' := Lib.hid KI
      have F2 := Lib.hid S2
      have HV := Lib.hid (And.intro hV (And.intro hsg hbt))
      clear bel2 KB S2 hV hsg hbt hk KI
      go_wp2_with fail
      refine KI'.out.mono ?_
      rintro e w3 ⟨rfl, bel3⟩
      have S3 := And.intro (below_trans F2.out.1 bel3) (F2.out.2.below bel3)
      clear c0 c1
      have c0 := S3.2.1.cell0
      have c1 := S3.2.1.cell1
      have KN := in_any neg ao n cap f (fun i _ => hf i) w3 hn h1 S3.2.2
      rw [← HV.out.1, show (neg && decide (V ≠ 0)) = sg from HV.out.2.1.symm] at KN
      have KN' := Lib.hid KN
      have F3 := Lib.hid S3
      clear bel3 S3 KI' KN
      go_wp2_with fail
      refine KN'.out.mono ?_
      rintro e w4 ⟨va, rfl, own4, bel4⟩
      obtain ⟨aa, ca, rfl, hle4, hcm4, hrd4, hlt4⟩ := own4.parts
      have F4 := Lib.hid (And.intro (below_trans F3.out.1 bel4) hrd4)
      have KB2 := Lib.hid (specBit_any k w4 (by omega))
      clear own4 bel4 hlt4 hrd4 KN' c0 c1
      go_wp2_with fail
      refine KB2.out.mono ?_
      rintro e w5 ⟨vb, rfl, own5, bel5⟩
      obtain ⟨ab, cb, rfl, hle5, hcm5, hrd5, hlt5⟩ := own5.parts
      have hl2 := nlen_two_pow k
      have KJ := Lib.hid (show Calls Tryd.prog 16 #[.agg #[.bool sg, .slice aa (nlen 65536 V) ca], .agg #[.bool false, .slice ab (nlen 65536 (2 ^ k)) cb], .agg #[.bool false, .bool false, .bool false, .bool true]] w5 (JPost andT sg V false (2 ^ k) w5) from
        joined_any andT sg aa V ca false ab (2 ^ k) cb w5 (F4.out.2.below bel5) hrd5 hsp (fun h => by cases h) hle4 hle5 (by omega) (by omega))
      have F5 := Lib.hid (below_trans F4.out.1 bel5)
      clear own5 bel5 hlt5 hrd5 KB2 hl2
      go_wp2_with fail
      refine KJ.out.mono ?_
      rintro e w6 ⟨nj, vj, R, rfl, own6, bel6, hpj, hbits, hRl⟩
      obtain ⟨aj, cj, rfl, hle6, hcm6, hrd6, hlt6⟩ := own6.parts
      have hR := and_one_bit hbits hpj
      rw [← HV.out.2.2] at hR
      have hlz := nlen_eq_zero (B := 65536) (by omega) R
      have F6 := Lib.hid (below_trans F5.out bel6)
      obtain ⟨N, hN⟩ : ∃ N, N = nlen 65536 R := ⟨_, rfl⟩
      rw [← hN] at hlz ⊢
      have B6 := Lib.hid (fun v : Array Value => F6.out.alloc F6.out.size (.cells v 29))
      clear own6 bel6 hlt6 hrd6 KJ hpj hbits hRl hN
      cases bt with
      | true =>
        have hNp : 0 < N := by
          rcases Nat.eq_zero_or_pos N with h | h
          · exact absurd (hlz.1 h) (hR.2 rfl)
          · exact h
        have hNi : decide ((0 : Int) < (N : Int)) = true := by simp; omega
        clear hlz hR
        simp only [b01, if_true]
        go_wp2
        go_ret
        exact ⟨rfl, B6.out _⟩
      | false =>
        have hN0 : N = 0 := by
          refine hlz.2 ?_
          rcases Nat.eq_zero_or_pos R with h | h
          · exact h
          · exact absurd (hR.1 (by omega)) (by simp)
        subst hN0
        clear hlz hR
        go_wp2
        go_ret
        exact ⟨rfl, B6.out _⟩
  · rw [show decide (n ≤ 2147483647) = false by simp; omega] at KF
    go_enter Tryd.func4, Tryd.ntmps4
    go_wp2_with fail
    refine KF.out.mono ?_
    rw [← HW.out]
    rintro e w1 ⟨rfl, bel1⟩
    have F1 := Lib.hid (below_trans F0.out.1 bel1)
    clear bel1 KF
    go_wp2
    go_ret
    exact ⟨rfl, F1.out⟩

end Go.Proofs.YtidifjmjbfhpaaaDoor
