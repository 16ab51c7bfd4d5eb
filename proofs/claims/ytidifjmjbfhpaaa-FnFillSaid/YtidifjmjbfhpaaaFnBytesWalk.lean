/- laws.FnBytes returns true, whatever Number it is called with. -/
import Derived.Test.YtidifjmjbfhpaaaBase
import Derived.Test.YtidifjmjbfhpaaaSpecSmall
import Derived.Test.YtidifjmjbfhpaaaSpecBits
import Derived.Test.YtidifjmjbfhpaaaImplBytes
import Derived.Test.YtidifjmjbfhpaaaOfBytes
namespace Go.Proofs.Ytidifjmjbfhpaaa
set_option linter.unusedVariables false
set_option linter.unusedSimpArgs false
open Go.RowKit

theorem bval_dig (V : Nat) : bval (fun i => dig 256 V (nlen 256 V - 1 - i)) (nlen 256 V) = V := by
  unfold bval
  refine Eq.trans (val_congr fun k hk => ?_) (val_nlen (by omega) V)
  exact congrArg (dig 256 V) (by omega)
theorem bval_dig_any {V N : Nat} (h : V < 256 ^ N) : bval (fun i => dig 256 V (N - 1 - i)) N = V := by
  unfold bval
  refine Eq.trans (b := val 256 (dig 256 V) N) (val_congr fun k hk => ?_) ?_
  · exact congrArg (dig 256 V) (by omega)
  · rw [val_of_dig (by omega), Nat.mod_eq_of_lt h]
theorem len_bytes (V : Nat) : (nlen 2 V + 7) / 8 = nlen 256 V := by
  refine eq_of_le_iff fun m => ?_
  have := nlen_pow (B := 2) (by omega) 8 (by omega) V m
  rw [show (2 : Nat) ^ 8 = 256 from rfl] at this
  rw [this]; omega

set_option maxHeartbeats 400000 in
theorem fnBytes_walk (neg : Bool) (ao : Option Addr) (n cap : Nat) (f : Nat → Nat) (hf : ∀ i, f i < BW) (w : World) (hn : n ≤ cap) (hcap : cap ≤ 9223372036854775807) (hrd : Reads w .u64 ao n f) :
    Calls Try.prog 4 #[.agg #[.bool neg, .slice ao n cap]] w fun e w' => e = .returned (.bool true) ∧ Below w.heap.size w w' := by
  have hnot : ∀ (x : Bool) (w : World), (Op.unary .not (.bool x)).run Try.prog w = .ok (.bool (!x)) w := fun _ _ => rfl
  have hfld := field_nat
  obtain ⟨W, hW⟩ : ∃ W, W = w.alloc (.cells #[.bool neg, .slice ao n cap] 26) := ⟨_, rfl⟩
  have S0 : Below w.heap.size w W ∧ ArgAt W w.heap.size neg ao n cap f := by rw [hW]; exact ⟨(Below.refl _ _).alloc (Nat.le_refl _) _, ArgAt.new hrd⟩
  have KF := Lib.hid (fits_any neg ao n cap W (by omega))
  have F0 := Lib.hid S0
  rw [hW] at KF
  have HW := Lib.hid hW
  clear hrd S0 hW
  by_cases h1 : n ≤ 2147483647
  · rw [show decide (n ≤ 2147483647) = true by simpa using h1] at KF
    go_enter Try.func4, Try.ntmps4
    go_wp2_with fail
    refine KF.out.mono ?_
    rw [← HW.out]
    rintro e w1 ⟨rfl, bel1⟩
    have S1 := And.intro (below_trans F0.out.1 bel1) (F0.out.2.below bel1)
    have c0 := S1.2.1.cell0
    have c1 := S1.2.1.cell1
    have KB := Lib.hid (big_any neg ao n cap 100 w1 (by omega))
    have F1 := Lib.hid S1
    clear bel1 KF S1
    by_cases h2 : 100 < n
    · rw [show decide ((100 : Int) < (n : Int)) = true by simp; omega] at KB
      go_wp2_with fail
      refine KB.out.mono ?_
      rintro e w2 ⟨rfl, bel2⟩
      have F2 := Lib.hid (below_trans F1.out.1 bel2)
      clear bel2 KB
      go_wp2
      go_ret
      exact ⟨rfl, F2.out⟩
    · rw [show decide ((100 : Int) < (n : Int)) = false by simp; omega] at KB
      go_wp2_with fail
      refine KB.out.mono ?_
      rintro e w2 ⟨rfl, bel2⟩
      have S2 := And.intro (below_trans F1.out.1 bel2) (F1.out.2.below bel2)
      clear c0 c1
      have c0 := S2.2.1.cell0
      have c1 := S2.2.1.cell1
      obtain ⟨V, hV⟩ : ∃ V, V = val BW f n := ⟨_, rfl⟩
      have hVn : nlen BW V ≤ n := by rw [nlen_le_iff BW_one, hV]; exact val_lt fun i _ => hf i
      have hL16 : nlen 65536 V ≤ 4 * n := by
        have := nlen_pow (B := 65536) (by omega) 4 (by omega) V n
        exact this.1 hVn
      have KI := Lib.hid (in_any neg ao n cap f (fun i _ => hf i) w2 hn h1 S2.2.2)
      rw [← hV] at KI
      have F2 := Lib.hid S2
      have HV := Lib.hid hV
      clear bel2 KB S2 hV
      go_wp2_with fail
      refine KI.out.mono ?_
      rintro e w3 ⟨va, rfl, own3, bel3⟩
      obtain ⟨aa, ca, rfl, hle3, hcm3, hrd3, hlt3⟩ := own3.parts
      have S3 := And.intro (below_trans F2.out.1 bel3) (F2.out.2.below bel3)
      clear c0 c1
      have c0 := S3.2.1.cell0
      have c1 := S3.2.1.cell1
      have KY := Lib.hid (implBytes_any neg ao n cap f (fun i _ => hf i) w3 hn (by omega) S3.2.2)
      rw [← HV.out] at KY
      have F3 := Lib.hid (And.intro S3.1 hrd3)
      clear own3 bel3 hlt3 hrd3 S3 KI
      go_wp2_with fail
      refine KY.out.mono ?_
      rintro e w4 ⟨vg, rfl, own4, bel4⟩
      obtain ⟨ag, cg, rfl, hle4, hcm4, hrd4, hlt4⟩ := own4.parts
      have hL8 : nlen 256 V ≤ 8 * n := by
        have := nlen_pow (B := 256) (by omega) 8 (by omega) V n
        exact this.1 hVn
      have KL := Lib.hid (len_any aa V ca w4 hle3 (by omega) (F3.out.2.below bel4))
      have KO := Lib.hid (ofBytes_any ag (nlen 256 V) cg _ (fun i => dig_lt (by omega) V _) w4 hle4 (by omega) hrd4)
      rw [bval_dig] at KO
      have F4 := Lib.hid (And.intro (below_trans F3.out.1 bel4) (F3.out.2.below bel4))
      clear own4 bel4 hlt4 hrd4 KY c0 c1 F3
      have hL2 : nlen 2 V ≤ 64 * n := by
        have := nlen_pow (B := 2) (by omega) 64 (by omega) V n
        exact this.1 hVn
      have hq : ((nlen 2 V : Nat) : Int) + 7 ≤ 1000000 := by omega
      have hlb := len_bytes V
      have hq2 : (((nlen 2 V : Nat) : Int) + 7) / 8 = ((nlen 256 V : Nat) : Int) := by omega
      obtain ⟨l2, hl2⟩ : ∃ l, l = nlen 2 V := ⟨_, rfl⟩
      obtain ⟨l8, hl8⟩ : ∃ l, l = nlen 256 V := ⟨_, rfl⟩
      rw [← hl2] at KL hq hq2
      rw [← hl8] at KO hq2 hL8 hle4 ⊢
      have hd : ((l8 : Int) == (l8 : Int)) = true := by simp
      clear hlb hL2 hl2 hl8
      go_wp2_with fail
      refine KL.out.mono ?_
      rintro e w5 ⟨rfl, rfl⟩
      go_wp2_with fail
      refine KO.out.mono ?_
      rintro e w5 ⟨vo, rfl, own5, bel5⟩
      obtain ⟨a5, c5, rfl, hle5, hcm5, hrd5, hlt5⟩ := own5.parts
      have KC := Lib.hid (cmp_any a5 aa V V c5 ca w5 hle5 (by omega) hle3 (by omega) hrd5 (F4.out.2.below bel5))
      have F5 := Lib.hid (below_trans F4.out.1 bel5)
      clear own5 bel5 hlt5 hrd5 KO KL
      go_wp2_with fail
      refine KC.out.mono ?_
      rintro e w6 ⟨r, rfl, hr, _, q, rfl⟩
      obtain rfl : r = 0 := by simpa using hr
      clear hr KC
      go_wp2
      go_ret
      exact ⟨rfl, Below.drewN' F5.out q⟩
  · rw [show decide (n ≤ 2147483647) = false by simp; omega] at KF
    go_enter Try.func4, Try.ntmps4
    go_wp2_with fail
    refine KF.out.mono ?_
    rw [← HW.out]
    rintro e w1 ⟨rfl, bel1⟩
    have F1 := Lib.hid (below_trans F0.out.1 bel1)
    clear bel1 KF
    go_wp2
    go_ret
    exact ⟨rfl, F1.out⟩

end Go.Proofs.Ytidifjmjbfhpaaa
