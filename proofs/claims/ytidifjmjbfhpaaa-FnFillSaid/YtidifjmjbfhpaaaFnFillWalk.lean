/- laws.FnFill returns true, whatever Number and size it is called with. -/
import Derived.Test.YtidifjmjbfhpaaaFnBytesWalk
import Derived.Test.YtidifjmjbfhpaaaImplFill
namespace Go.Proofs.Ytidifjmjbfhpaaa
set_option linter.unusedVariables false
set_option linter.unusedSimpArgs false
open Go.RowKit

set_option maxHeartbeats 400000 in
theorem fnFill_walk (N : Nat) (hN : N ≤ 255) (neg : Bool) (ao : Option Addr) (n cap : Nat) (f : Nat → Nat) (hf : ∀ i, f i < BW) (w : World) (hn : n ≤ cap) (hcap : cap ≤ 9223372036854775807) (hrd : Reads w .u64 ao n f) :
    Calls Try.prog 5 #[.agg #[.bool neg, .slice ao n cap], .int .u8 N] w fun e w' => e = .returned (.bool true) ∧ Below w.heap.size w w' := by
  have hnot : ∀ (x : Bool) (w : World), (Op.unary .not (.bool x)).run Try.prog w = .ok (.bool (!x)) w := fun _ _ => rfl
  have hfld := field_nat
  obtain ⟨W, hW⟩ : ∃ W, W = w.alloc (.cells #[.bool neg, .slice ao n cap] 26) := ⟨_, rfl⟩
  have S0 : Below w.heap.size w W ∧ ArgAt W w.heap.size neg ao n cap f := by rw [hW]; exact ⟨(Below.refl _ _).alloc (Nat.le_refl _) _, ArgAt.new hrd⟩
  have KF := Lib.hid (fits_any neg ao n cap W (by omega))
  have F0 := Lib.hid S0
  rw [hW] at KF
  have HW := Lib.hid hW
  clear hrd S0 hW
  by_cases h1 : n ≤ 2147483647
  · rw [show decide (n ≤ 2147483647) = true by simpa using h1] at KF
    go_enter Try.func5, Try.ntmps5
    go_wp2_with fail
    refine KF.out.mono ?_
    rw [← HW.out]
    rintro e w1 ⟨rfl, bel1⟩
    have S1 := And.intro (below_trans F0.out.1 bel1) (F0.out.2.below bel1)
    have c0 := S1.2.1.cell0
    have c1 := S1.2.1.cell1
    have KB := Lib.hid (big_any neg ao n cap 100 w1 (by omega))
    have F1 := Lib.hid S1
    clear bel1 KF S1
    by_cases h2 : 100 < n
    · rw [show decide ((100 : Int) < (n : Int)) = true by simp; omega] at KB
      go_wp2_with fail
      refine KB.out.mono ?_
      rintro e w2 ⟨rfl, bel2⟩
      have F2 := Lib.hid (below_trans F1.out.1 bel2)
      clear bel2 KB
      go_wp2
      go_ret
      exact ⟨rfl, F2.out⟩
    · rw [show decide ((100 : Int) < (n : Int)) = false by simp; omega] at KB
      go_wp2_with fail
      refine KB.out.mono ?_
      rintro e w2 ⟨rfl, bel2⟩
      have S2 := And.intro (below_trans F1.out.1 bel2) (F1.out.2.below bel2)
      clear c0 c1
      have c0 := S2.2.1.cell0
      have c1 := S2.2.1.cell1
      obtain ⟨V, hV⟩ : ∃ V, V = val BW f n := ⟨_, rfl⟩
      have hVn : nlen BW V ≤ n := by rw [nlen_le_iff BW_one, hV]; exact val_lt fun i _ => hf i
      have hL16 : nlen 65536 V ≤ 4 * n := by
        have := nlen_pow (B := 65536) (by omega) 4 (by omega) V n
        exact this.1 hVn
      have KI := Lib.hid (in_any neg ao n cap f (fun i _ => hf i) w2 hn h1 S2.2.2)
      rw [← hV] at KI
      have F2 := Lib.hid S2
      have HV := Lib.hid hV
      clear bel2 KB S2 hV
      go_wp2_with fail
      refine KI.out.mono ?_
      rintro e w3 ⟨va, rfl, own3, bel3⟩
      obtain ⟨aa, ca, rfl, hle3, hcm3, hrd3, hlt3⟩ := own3.parts
      have S3 := And.intro (below_trans F2.out.1 bel3) (F2.out.2.below bel3)
      clear c0 c1
      have c0 := S3.2.1.cell0
      have c1 := S3.2.1.cell1
      have KY := Lib.hid (implFill_any neg ao n cap N f (fun i _ => hf i) w3 (by omega) hn (by omega) S3.2.2)
      rw [← HV.out] at KY
      have F3 := Lib.hid (And.intro S3.1 hrd3)
      clear own3 bel3 hlt3 hrd3 S3 KI
      have hL2 : nlen 2 V ≤ 64 * n := by
        have := nlen_pow (B := 2) (by omega) 64 (by omega) V n
        exact this.1 hVn
      have hfit : nlen 2 V ≤ 8 * N ↔ V < 256 ^ N := by
        rw [nlen_le_iff (by omega), Nat.pow_mul]
      have hw8 : IntKind.i64.wrap (8 * (N : Int)) = 8 * (N : Int) := by rw [IntKind.wrap_i64]; omega
      go_wp2_with fail
      refine KY.out.mono ?_
      rintro e w4 ⟨(⟨hlo, vg, rfl, own4⟩ | ⟨hhi, rfl⟩), bel4⟩
      · obtain ⟨ag, cg, rfl, hle4, hcm4, hrd4, hlt4⟩ := own4.parts
        have KL := Lib.hid (len_any aa V ca w4 hle3 (by omega) (F3.out.2.below bel4))
        have KO := Lib.hid (ofBytes_any ag N cg _ (fun i => dig_lt (by omega) V _) w4 hle4 (by omega) hrd4)
        rw [bval_dig_any hlo] at KO
        have F4 := Lib.hid (And.intro (below_trans F3.out.1 bel4) (F3.out.2.below bel4))
        clear own4 bel4 hlt4 hrd4 KY c0 c1 F3
        have ht : decide (8 * (N : Int) < ((nlen 2 V : Nat) : Int)) = false := by
          have := hfit.2 hlo
          simp; omega
        obtain ⟨l2, hl2⟩ : ∃ l, l = nlen 2 V := ⟨_, rfl⟩
        rw [← hl2] at KL ht
        have hd : ((N : Int) == (N : Int)) = true := by simp
        clear hL2 hl2 hfit hlo
        go_wp2_with fail
        refine KL.out.mono ?_
        rintro e w5 ⟨rfl, rfl⟩
        go_wp2_with fail
        refine KO.out.mono ?_
        rintro e w5 ⟨vo, rfl, own5, bel5⟩
        obtain ⟨a5, c5, rfl, hle5, hcm5, hrd5, hlt5⟩ := own5.parts
        have KC := Lib.hid (cmp_any a5 aa V V c5 ca w5 hle5 (by omega) hle3 (by omega) hrd5 (F4.out.2.below bel5))
        have F5 := Lib.hid (below_trans F4.out.1 bel5)
        clear own5 bel5 hlt5 hrd5 KO KL
        go_wp2_with fail
        refine KC.out.mono ?_
        rintro e w6 ⟨r, rfl, hr, _, q, rfl⟩
        obtain rfl : r = 0 := by simpa using hr
        clear hr KC
        go_wp2
        go_ret
        exact ⟨rfl, Below.drewN' F5.out q⟩
      · have KL := Lib.hid (len_any aa V ca w4 hle3 (by omega) (F3.out.2.below bel4))
        have F4 := Lib.hid (below_trans F3.out.1 bel4)
        have ht : decide (8 * (N : Int) < ((nlen 2 V : Nat) : Int)) = true := by
          have : ¬ nlen 2 V ≤ 8 * N := fun h => by have := hfit.1 h; omega
          simp; omega
        obtain ⟨l2, hl2⟩ : ∃ l, l = nlen 2 V := ⟨_, rfl⟩
        rw [← hl2] at KL ht
        clear bel4 KY c0 c1 F3 hL2 hl2 hfit hhi
        go_wp2_with fail
        refine KL.out.mono ?_
        rintro e w5 ⟨rfl, rfl⟩
        go_wp2
        go_ret
        exact ⟨rfl, F4.out⟩
  · rw [show decide (n ≤ 2147483647) = false by simp; omega] at KF
    go_enter Try.func5, Try.ntmps5
    go_wp2_with fail
    refine KF.out.mono ?_
    rw [← HW.out]
    rintro e w1 ⟨rfl, bel1⟩
    have F1 := Lib.hid (below_trans F0.out.1 bel1)
    clear bel1 KF
    go_wp2
    go_ret
    exact ⟨rfl, F1.out⟩

end Go.Proofs.Ytidifjmjbfhpaaa
