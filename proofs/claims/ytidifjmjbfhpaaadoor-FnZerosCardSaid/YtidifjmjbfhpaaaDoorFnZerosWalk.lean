/- laws.FnZeros returns true, whatever Number it is called with. -/
import Derived.Test.YtidifjmjbfhpaaaDoorBase
import Derived.Test.YtidifjmjbfhpaaaDoorSpecSmall
import Derived.Test.YtidifjmjbfhpaaaDoorSpecBits
import Derived.Test.YtidifjmjbfhpaaaDoorZeros
namespace Go.Proofs.YtidifjmjbfhpaaaDoor
set_option linter.unusedVariables false
set_option maxRecDepth 20000
set_option linter.unusedSimpArgs false
open Go.RowKit

set_option maxHeartbeats 400000 in
theorem fnZeros_walk (neg : Bool) (ao : Option Addr) (n cap : Nat) (f : Nat → Nat) (hf : ∀ i, f i < BW) (w : World) (hn : n ≤ cap) (hcap : cap ≤ 9223372036854775807) (hrd : Reads w .u64 ao n f) (hT : Tab w) :
    Calls Tryd.prog 3 #[.agg #[.bool neg, .slice ao n cap]] w fun e w' => e = .returned (.bool true) ∧ Below w.heap.size w w' := by
  have hnot : ∀ (x : Bool) (w : World), (Op.unary .not (.bool x)).run Tryd.prog w = .ok (.bool (!x)) w := fun _ _ => rfl
  have hfld := field_nat
  obtain ⟨W, hW⟩ : ∃ W, W = w.alloc (.cells #[.bool neg, .slice ao n cap] 24) := ⟨_, rfl⟩
  have S0 : Below w.heap.size w W ∧ ArgAt W w.heap.size neg ao n cap f := by rw [hW]; exact ⟨(Below.refl _ _).alloc (Nat.le_refl _) _, ArgAt.new hrd⟩
  have KF := Lib.hid (fits_any neg ao n cap W (by omega))
  have F0 := Lib.hid S0
  rw [hW] at KF
  have HW := Lib.hid hW
  have HT := Lib.hid hT
  clear hrd S0 hW hT
  by_cases h1 : n ≤ 2147483647
  · rw [show decide (n ≤ 2147483647) = true by simpa using h1] at KF
    go_enter Tryd.func3, Tryd.ntmps3
    go_wp2_with fail
    refine KF.out.mono ?_
    rw [← HW.out]
    rintro e w1 ⟨rfl, bel1⟩
    have S1 := And.intro (below_trans F0.out.1 bel1) (F0.out.2.below bel1)
    have c0 := S1.2.1.cell0
    have c1 := S1.2.1.cell1
    obtain ⟨V, hV⟩ : ∃ V, V = val BW f n := ⟨_, rfl⟩
    have KI := Lib.hid (in_any neg ao n cap f (fun i _ => hf i) w1 hn h1 S1.2.2)
    rw [← hV] at KI
    obtain ⟨sg, hsg⟩ : ∃ sg, sg = (neg && decide (V ≠ 0)) := ⟨_, rfl⟩
    rw [← hsg] at KI
    have F1 := Lib.hid S1
    have HV := Lib.hid hV
    have hL : nlen 65536 V ≤ 4 * n := by
      have := nlen_pow (B := 65536) (by omega) 4 (by omega) V n
      refine this.1 ?_
      rw [nlen_le_iff (by omega), hV]
      exact val_lt fun i _ => hf i
    have hlz := nlen_eq_zero (B := 65536) (by omega) V
    obtain ⟨N, hN⟩ : ∃ N, N = nlen 65536 V := ⟨_, rfl⟩
    rw [← hN] at hL hlz KI
    clear bel1 KF S1 hV hsg
    go_wp2_with fail
    refine KI.out.mono ?_
    rintro e w2 ⟨va, rfl, own2, bel2⟩
    obtain ⟨aa, ca, rfl, hle2, hcm2, hrd2, hlt2⟩ := own2.parts
    have S2 := And.intro (below_trans F1.out.1 bel2) (F1.out.2.below bel2)
    clear c0 c1
    obtain ⟨W3, hW3⟩ : ∃ W, W = w2.alloc (.cells #[.bool sg, .slice aa N ca] 29) := ⟨_, rfl⟩
    have b3 : Below w2.heap.size w2 W3 := by rw [hW3]; exact (Below.refl _ _).alloc (Nat.le_refl _) _
    have hv3 : Pair W3 w2.heap.size 29 (.bool sg) (.slice aa N ca) := by rw [hW3]; exact Pair.new _ _ _ _
    have S3 := And.intro (below_trans S2.1 b3) (And.intro (S2.2.below b3) (And.intro hv3 (hrd2.below b3)))
    have c0 := S3.2.1.1.cell0
    have c1 := S3.2.1.1.cell1
    rw [hW3] at c0 c1
    have KB := Lib.hid (big_any neg ao n cap 60 W3 (by omega))
    have HW3 := Lib.hid hW3
    have HN := Lib.hid hN
    have F3 := Lib.hid S3
    have hlt := F1.out.2.1.lt
    have hs2 := S2.1.size
    clear own2 hrd2 hlt2 S2 b3 hv3 S3 bel2 KI hN
    by_cases h2 : 60 < n
    · rw [show decide ((60 : Int) < (n : Int)) = true by simp; omega] at KB
      go_wp2_with fail
      rw [← HW3.out]
      refine KB.out.mono ?_
      rintro e w4 ⟨rfl, bel4⟩
      have S4 := And.intro (below_trans F3.out.1 bel4) (F3.out.2.1.below bel4)
      clear c0 c1
      have c0 := S4.2.1.cell0
      have c1 := S4.2.1.cell1
      have KB2 := Lib.hid (big_any neg ao n cap 60 w4 (by omega))
      rw [show decide ((60 : Int) < (n : Int)) = true by simp; omega] at KB2
      have F4 := Lib.hid S4
      clear S4 bel4 KB
      go_wp2_with fail
      refine KB2.out.mono ?_
      rintro e w5 ⟨rfl, bel5⟩
      have F5 := Lib.hid (below_trans F4.out.1 bel5)
      clear bel5 KB2
      go_wp2
      go_ret
      exact ⟨rfl, F5.out⟩
    · rw [show decide ((60 : Int) < (n : Int)) = false by simp; omega] at KB
      go_wp2_with fail
      rw [← HW3.out]
      refine KB.out.mono ?_
      rintro e w4 ⟨rfl, bel4⟩
      have S4 := And.intro (below_trans F3.out.1 bel4) (And.intro (F3.out.2.1.below bel4) (And.intro (F3.out.2.2.1.below bel4 F3.out.2.2.1.lt) (F3.out.2.2.2.below bel4)))
      clear c0 c1
      have c0 := S4.2.1.1.cell0
      have c1 := S4.2.1.1.cell1
      have c3 := S4.2.2.1.cell1
      have hT4 := HT.out.below S4.1
      by_cases h0 : N = 0
      · have KB2 := Lib.hid (big_any neg ao n cap 60 w4 (by omega))
        rw [show decide ((60 : Int) < (n : Int)) = false by simp; omega] at KB2
        have hV0 := Lib.hid (hlz.1 h0)
        have F4 := Lib.hid (And.intro S4.1 (And.intro S4.2.1 hT4))
        clear S4 bel4 KB hlz hT4
        subst h0
        go_wp2_with fail
        refine KB2.out.mono ?_
        rintro e w5 ⟨rfl, bel5⟩
        have S5 := And.intro (below_trans F4.out.1 bel5) (F4.out.2.1.below bel5)
        clear c0 c1 c3
        have c0 := S5.2.1.cell0
        have c1 := S5.2.1.cell1
        have KZ := Lib.hid (implZeros_any neg ao n cap f (fun i _ => hf i) w5 hn (by omega) S5.2.2 (F4.out.2.2.below bel5))
        have F5 := Lib.hid S5.1
        clear S5 bel5 KB2
        go_wp2_with fail
        refine KZ.out.mono ?_
        rintro e w6 ⟨t, rfl, ht0, _, _, bel6⟩
        rw [← HV.out] at ht0
        obtain rfl := ht0 hV0.out
        have F6 := Lib.hid (below_trans F5.out bel6)
        clear bel6 KZ ht0
        go_wp2
        go_ret
        exact ⟨rfl, F6.out⟩
      · have hN0 : ((N : Int) == 0) = false := by simp; omega
        have KH := Lib.hid (fun i hi => has_any aa V ca i w4 (by rw [← HN.out]; exact hle2) (by rw [← HN.out]; omega) hi (by rw [← HN.out]; exact S4.2.2.2))
        rw [← HN.out] at KH
        have hV0 : V ≠ 0 := fun h => h0 (hlz.2 h)
        obtain ⟨t, ht, htl⟩ := tz_exists V (16 * N) hV0 (by
          rw [Nat.pow_mul, show (2 : Nat) ^ 16 = 65536 from rfl, HN.out]
          exact lt_pow_nlen (by omega) V)
        have KZ := Lib.hid (implZeros_any neg ao n cap f (fun i _ => hf i) w4 hn (by omega) S4.2.1.2 hT4)
        have F4 := Lib.hid S4.1
        have HTZ := Lib.hid ht
        have HV0 := Lib.hid hV0
        clear S4 bel4 KB hlz hT4 ht hV0 h0
        go_wp2_with fail
        go_loop [4] (fun tv => ∃ i : Nat, i ≤ t ∧ tv = .int .i64 i) (fun tv => t - (intOf tv).toNat)
        case atStart => exact ⟨0, by omega, by go_num⟩
        case round =>
          obtain ⟨i, hi, rfl⟩ := hrel
          by_cases hit : i = t
          · subst hit
            have K1 := Lib.hid (KH.out i (by omega))
            rw [HTZ.out.1] at K1
            go_wp2_with fail
            refine K1.out.mono ?_
            rintro e w5 ⟨rfl, rfl⟩
            go_wp2_with fail
            refine KZ.out.mono ?_
            rintro e w6 ⟨t', rfl, _, ht', _, bel6⟩
            rw [← HV.out] at ht'
            obtain rfl := tz_unique (ht' HV0.out) HTZ.out
            have F6 := Lib.hid (below_trans F4.out bel6)
            have hw : IntKind.u64.wrap (t' : Int) = (t' : Int) := by rw [IntKind.wrap_u64]; omega
            have hd : ((t' : Int) == (t' : Int)) = true := by simp
            clear bel6 KZ ht'
            go_wp2
            go_ret
            exact ⟨rfl, F6.out⟩
          · have K1 := Lib.hid (KH.out i (by omega))
            rw [HTZ.out.2 i (by omega)] at K1
            go_wp2_with fail
            refine K1.out.mono ?_
            rintro e w5 ⟨rfl, rfl⟩
            go_wp2
            go_round
            case rel => exact ⟨i + 1, by omega, by go_num⟩
            case measure => simp [intOf]; omega
  · rw [show decide (n ≤ 2147483647) = false by simp; omega] at KF
    go_enter Tryd.func3, Tryd.ntmps3
    go_wp2_with fail
    refine KF.out.mono ?_
    rw [← HW.out]
    rintro e w1 ⟨rfl, bel1⟩
    have F1 := Lib.hid (below_trans F0.out.1 bel1)
    clear bel1 KF
    go_wp2
    go_ret
    exact ⟨rfl, F1.out⟩

end Go.Proofs.YtidifjmjbfhpaaaDoor
