/- laws.FnNotNot returns true, whatever Number it is called with. (Printed by fnnotnot.py.) -/
import Derived.Test.YtidifjmjbfhpaaaDoorNow
import Derived.Test.YtidifjmjbfhpaaaDoorRegs
import Derived.Deep.Cut
namespace Go.Proofs.YtidifjmjbfhpaaaDoor
set_option linter.unusedVariables false
set_option maxRecDepth 20000
set_option linter.unusedSimpArgs false
open Go.RowKit

set_option maxHeartbeats 10000000 in
theorem fnNotNot_walk (na : Bool) (ax : Option Addr) (nx cx : Nat) (fx : Nat → Nat) (hfx : ∀ i, fx i < BW) (w : World) (hxc : nx ≤ cx) (hcx : cx ≤ 9223372036854775807) (hrx : Reads w .u64 ax nx fx) (hone : One w) :
    Calls Tryd.prog 9 #[.agg #[.bool na, .slice ax nx cx]] w fun e w' => e = .returned (.bool true) ∧ Below w.heap.size w w' := by
  have hnot : ∀ (x : Bool) (w : World), (Op.unary .not (.bool x)).run Tryd.prog w = .ok (.bool (!x)) w := fun _ _ => rfl
  have hfld := field_nat
  obtain ⟨W1, HW1⟩ : ∃ W, Hid (W = w.alloc (.cells #[.bool na, .slice ax nx cx] 24)) := ⟨_, Lib.hid rfl⟩
  have b2 : Below w.heap.size w W1 := by rw [HW1.out]; exact (Below.refl _ w).alloc (Nat.le_refl _) _
  have a2 : ArgAt W1 w.heap.size na ax nx cx fx := ⟨by rw [HW1.out]; exact Pair.new w _ _ _, hrx.below b2⟩
  have F0 := Lib.hid (And.intro b2 a2)
  have HO := Lib.hid hone
  clear hrx hone b2 a2
  by_cases h1 : nx ≤ 2147483647
  · by_cases h3 : 20 < nx
    · have KX := Lib.hid (fun u => show Calls Tryd.prog 10 #[.agg #[.bool na, .slice ax nx cx]] u fun e w' => e = .returned (.bool true) ∧ Below u.heap.size u w' from by have := fits_any na ax nx cx u (by omega); rwa [show decide (nx ≤ 2147483647) = true by simp; omega] at this)
      have BX := Lib.hid (fun u => show Calls Tryd.prog 12 #[.agg #[.bool na, .slice ax nx cx], .int .i64 20] u fun e w' => e = .returned (.bool true) ∧ Below u.heap.size u w' from by have := big_any na ax nx cx 20 u (by omega); rwa [show decide ((20 : Int) < (nx : Int)) = true by simp; omega] at this)
      go_enter Tryd.func9, Tryd.ntmps9
      go_wp2_with fail
      rw [← HW1.out]
      refine (KX.out _).mono ?_
      rintro e w3 ⟨rfl, b3⟩
      have d3 := below_trans F0.out.1 b3
      have a3 := F0.out.2.below b3
      clear b3
      have c0 := a3.1.cell0
      have c1 := a3.1.cell1
      go_wp2_with fail
      refine (BX.out _).mono ?_
      rintro e w4 ⟨rfl, b4⟩
      have d4 := below_trans d3 b4
      have a4 := a3.below b4
      clear b4 c0 c1 d3 a3
      have DD := Lib.hid d4
      clear d4 a4
      go_wp2
      go_ret
      exact ⟨rfl, DD.out⟩
    · have KX := Lib.hid (fun u => show Calls Tryd.prog 10 #[.agg #[.bool na, .slice ax nx cx]] u fun e w' => e = .returned (.bool true) ∧ Below u.heap.size u w' from by have := fits_any na ax nx cx u (by omega); rwa [show decide (nx ≤ 2147483647) = true by simp; omega] at this)
      have BX := Lib.hid (fun u => show Calls Tryd.prog 12 #[.agg #[.bool na, .slice ax nx cx], .int .i64 20] u fun e w' => e = .returned (.bool false) ∧ Below u.heap.size u w' from by have := big_any na ax nx cx 20 u (by omega); rwa [show decide ((20 : Int) < (nx : Int)) = false by simp; omega] at this)
      go_enter Tryd.func9, Tryd.ntmps9
      go_wp2_with fail
      rw [← HW1.out]
      refine (KX.out _).mono ?_
      rintro e w3 ⟨rfl, b3⟩
      have d3 := below_trans F0.out.1 b3
      have a3 := F0.out.2.below b3
      clear b3
      have c0 := a3.1.cell0
      have c1 := a3.1.cell1
      go_wp2_with fail
      refine (BX.out _).mono ?_
      rintro e w4 ⟨rfl, b4⟩
      have d4 := below_trans d3 b4
      have a4 := a3.below b4
      clear b4 c0 c1 d3 a3
      have c0 := a4.1.cell0
      have c1 := a4.1.cell1
      have hVn : nlen BW (val BW fx nx) ≤ nx := by rw [nlen_le_iff BW_one]; exact val_lt fun i _ => hfx i
      obtain ⟨A, hA⟩ : ∃ A : Bool × Nat, Hid (A = (sgn na (val BW fx nx), val BW fx nx)) := ⟨_, Lib.hid rfl⟩
      have hA1 : A.1 = true → 1 ≤ A.2 := by rw [hA.out]; exact sgn_pos na _
      have hA2 : nlen BW A.2 ≤ 20 := by rw [hA.out]; exact Nat.le_trans hVn (by omega)
      have hA3 : nlen 65536 A.2 ≤ 80 := (nlen_pow (B := 65536) (by omega) 4 (by omega) A.2 20).1 hA2
      obtain ⟨R, hR⟩ : ∃ R : Bool × Nat, Hid (R = opR 4 A.1 A.2 false 0) := ⟨_, Lib.hid rfl⟩
      have hR1 : R.1 = true → 1 ≤ R.2 := by rw [hR.out]; exact opR_pos 4 _ _ _ _
      have hR2 : nlen BW R.2 ≤ 200000000 := by
        rw [hR.out]
        have := opR_nlen 4 A.1 A.2 false 0
        have h0 : nlen BW 0 = 0 := (nlen_eq_zero (by unfold BW; omega) 0).2 rfl
        omega
      have hRA : opR 4 R.1 R.2 false 0 = A := by rw [hR.out]; exact not_not A.1 A.2 hA1
      have HH := Lib.hid (And.intro hA1 (And.intro hA2 (And.intro hA3 (And.intro hR1 (And.intro hR2 hRA)))))
      have KIN := Lib.hid (in_raw na ax nx cx fx A (fun i _ => hfx i) w4 hxc (by omega) a4.2 (by rw [hA.out]))
      have KNOT := Lib.hid (fun (u : World) (hu : Below w4.heap.size w4 u) => not_raw na ax nx cx fx R (fun i _ => hfx i) u hxc (by omega) (a4.below hu).2 (HO.out.below (below_trans d4 hu)) (by rw [hR.out, hA.out]))
      clear hVn hA1 hA2 hA3 hR1 hR2 hRA
      go_wp2_with fail
      refine KIN.out.mono ?_
      rintro e w5 ⟨aa, ca, rfl, n5, b5⟩
      obtain ⟨W6, HW6⟩ : ∃ W, Hid (W = w5.alloc (.cells #[.bool A.1, .slice aa (nlen 65536 A.2) ca] 29)) := ⟨_, Lib.hid rfl⟩
      have b6 : Below w5.heap.size w5 W6 := by rw [HW6.out]; exact (Below.refl _ w5).alloc (Nat.le_refl _) _
      obtain ⟨p3, hp3⟩ : ∃ p, Hid (p = w5.heap.size) := ⟨_, Lib.hid rfl⟩
      have P3 : Pair W6 p3 29 (.bool A.1) (.slice aa (nlen 65536 A.2) ca) := by rw [hp3.out, HW6.out]; exact Pair.new w5 _ _ _
      have d6 := below_trans b5 b6
      have n6 := n5.below b6
      have a6 := a4.below d6
      have K6 := Lib.hid (KNOT.out W6 d6)
      clear b5 b6 n5 c0 c1
      have c0 := a6.1.cell0
      have c1 := a6.1.cell1
      go_upto_region 6 with fail
      rw [← HW6.out, ← hp3.out]
      go_wp2_with fail
      refine K6.out.mono ?_
      rintro e w6 ⟨a8, c8, rfl, n8, b7⟩
      obtain ⟨W7, HW7⟩ : ∃ W, Hid (W = w6.alloc (.cells #[.bool R.1, .slice a8 (nlen BW R.2) c8] 24)) := ⟨_, Lib.hid rfl⟩
      have b8 : Below w6.heap.size w6 W7 := by rw [HW7.out]; exact (Below.refl _ w6).alloc (Nat.le_refl _) _
      obtain ⟨p4, hp4⟩ : ∃ p, Hid (p = w6.heap.size) := ⟨_, Lib.hid rfl⟩
      have P4 : Pair W7 p4 24 (.bool R.1) (.slice a8 (nlen BW R.2) c8) := by rw [hp4.out, HW7.out]; exact Pair.new w6 _ _ _
      have b9 := below_trans b7 b8
      have P3 := P3.below b9 P3.lt
      have n6 := n6.below b9
      have n8 := n8.below b8
      have d7 := below_trans d6 b9
      have D7 := Lib.hid (below_trans d4 d7)
      clear c0 c1 a6 b7 b8 b9 d6 d7 a4 d4
      have KS := Lib.hid (show ∀ u, Below W7.heap.size W7 u → u.cell? ⟨p3, 0, none⟩ = some (.bool A.1) ∧ u.cell? ⟨p3, 1, none⟩ = some (.slice aa (nlen 65536 A.2) ca) from fun u hu => ⟨(P3.below hu P3.lt).cell0, (P3.below hu P3.lt).cell1⟩)
      have KF := Lib.hid (show ∀ u, Below W7.heap.size W7 u → NatAt u A.2 aa ca ∧ NumAt u R a8 c8 ∧ Pair u p3 29 (.bool A.1) (.slice aa (nlen 65536 A.2) ca) ∧ Pair u p4 24 (.bool R.1) (.slice a8 (nlen BW R.2) c8) from fun u hu => ⟨n6.below hu, n8.below hu, P3.below hu P3.lt, P4.below hu P4.lt⟩)
      clear P3 P4 n6 n8
      obtain ⟨one, hone⟩ : ∃ k : Nat, Hid (k = 1) := ⟨_, Lib.hid rfl⟩
      have KSM := Lib.hid (show ∀ u, Calls Tryd.prog 26 #[.int .i64 1] u (NatP one u) from fun u => by rw [hone.out]; exact small_now 1 u (by omega))
      go_upto_region 7 with fail
      rw [← HW7.out, ← hp4.out]
      go_cut [5] from 6 (fun s5 wc => ∃ p5 aw cw, s5 = .pointer (some ⟨p5, 0, none⟩) ∧ Pair wc p5 29 (.bool R.1) (.slice aw (nlen 65536 R.2) cw) ∧ NatAt wc R.2 aw cw ∧ Below W7.heap.size W7 wc)
      case first =>
        clear KIN KNOT K6 F0
        obtain ⟨s, V⟩ := A
        cases s
        · obtain ⟨z, hz⟩ : ∃ z, Hid (z = decide (0 < nlen 65536 V)) := ⟨_, Lib.hid rfl⟩
          have HN := Lib.hid (show nlen 65536 V ≤ 1000000000000 ∧ nlen 65536 one ≤ 1000000000000 ∧ R = plusR z V true one from ⟨Nat.le_trans HH.out.2.2.1 (by omega), by rw [hone.out]; exact Nat.le_trans ((nlen_le_iff (by omega) 1 1).2 (by omega)) (by omega), by
            rw [hone.out, hR.out, ← plus_not false V HH.out.1]
            have := nlen_eq_zero (B := 65536) (by omega) V
            rw [hz.out, show decide (0 < nlen 65536 V) = (!false && decide (V ≠ 0)) by simp only [Bool.not_false, Bool.true_and, decide_eq_decide]; omega]⟩)
          have hz2 := hz.out.symm
          refine reg_begin (fun u => Below W7.heap.size W7 u) 16 17 #[false, false, false, false, false, false, false, false, false, false, false, false, false, false, false, false, false] (by kernel_rfl) rfl rfl ⟨rfl, rfl, rfl, Nat.le_refl _, fun _ _ => rfl⟩ ?_
          obtain ⟨y0, hy0⟩ : ∃ y, Hid (y = W7.drew) := ⟨_, Lib.hid rfl⟩
          have d0 : Below W7.heap.size W7 y0 := by rw [hy0.out]; exact ⟨rfl, rfl, rfl, Nat.le_refl _, fun _ _ => rfl⟩
          rw [← hy0.out]
          refine reg_take 0 [16] (l := #[true, false, false, false, false, false, false, false, false, false, false, false, false, false, false, false, false]) rfl rfl rfl (by kernel_rfl) (by kernel_rfl) (by kernel_rfl) (by kernel_rfl) (fun _ _ _ h => h) (v := .pointer (some ⟨p3, 0, none⟩)) (.inl ⟨by kernel_rfl, ?_⟩) d0 ?_
          · intro w' hb; have hq := KS.out w' hb; have h1 := hq.1; have h2 := hq.2; clear hq; go_simp
          simp only [Act.put, List.setIfInBounds_toArray, List.set_cons_zero, List.set_cons_succ]
          refine reg_take 1 [16] (l := #[true, true, false, false, false, false, false, false, false, false, false, false, false, false, false, false, false]) rfl rfl rfl (by kernel_rfl) (by kernel_rfl) (by kernel_rfl) (by kernel_rfl) (fun _ _ _ h => h) (v := .bool false) (.inl ⟨by kernel_rfl, ?_⟩) d0 ?_
          · intro w' hb; have hq := KS.out w' hb; have h1 := hq.1; have h2 := hq.2; clear hq; go_simp
          simp only [Act.put, List.setIfInBounds_toArray, List.set_cons_zero, List.set_cons_succ]
          refine reg_take 2 [16] (l := #[true, true, true, false, false, false, false, false, false, false, false, false, false, false, false, false, false]) rfl rfl rfl (by kernel_rfl) (by kernel_rfl) (by kernel_rfl) (by kernel_rfl) (fun _ _ _ h => h) (v := .bool true) (.inl ⟨by kernel_rfl, ?_⟩) d0 ?_
          · intro w' hb; have hq := KS.out w' hb; have h1 := hq.1; have h2 := hq.2; clear hq; go_simp
          simp only [Act.put, List.setIfInBounds_toArray, List.set_cons_zero, List.set_cons_succ]
          refine reg_take 3 [16] (l := #[true, true, true, true, false, false, false, false, false, false, false, false, false, false, false, false, false]) rfl rfl rfl (by kernel_rfl) (by kernel_rfl) (by kernel_rfl) (by kernel_rfl) (fun _ _ _ h => h) (v := .bool true) (.inl ⟨by kernel_rfl, ?_⟩) d0 ?_
          · intro w' hb; have hq := KS.out w' hb; have h1 := hq.1; have h2 := hq.2; clear hq; go_simp
          simp only [Act.put, List.setIfInBounds_toArray, List.set_cons_zero, List.set_cons_succ]
          refine reg_take 4 [16] (l := #[true, true, true, true, true, false, false, false, false, false, false, false, false, false, false, false, false]) rfl rfl rfl (by kernel_rfl) (by kernel_rfl) (by kernel_rfl) (by kernel_rfl) (fun _ _ _ h => h) (v := .pointer (some ⟨p3, 1, none⟩)) (.inl ⟨by kernel_rfl, ?_⟩) d0 ?_
          · intro w' hb; have hq := KS.out w' hb; have h1 := hq.1; have h2 := hq.2; clear hq; go_simp
          simp only [Act.put, List.setIfInBounds_toArray, List.set_cons_zero, List.set_cons_succ]
          refine reg_take 5 [16] (l := #[true, true, true, true, true, true, false, false, false, false, false, false, false, false, false, false, false]) rfl rfl rfl (by kernel_rfl) (by kernel_rfl) (by kernel_rfl) (by kernel_rfl) (fun _ _ _ h => h) (v := .slice aa (nlen 65536 V) ca) (.inl ⟨by kernel_rfl, ?_⟩) d0 ?_
          · intro w' hb; have hq := KS.out w' hb; have h1 := hq.1; have h2 := hq.2; clear hq; go_simp
          simp only [Act.put, List.setIfInBounds_toArray, List.set_cons_zero, List.set_cons_succ]
          refine reg_take 6 [16] (l := #[true, true, true, true, true, true, true, false, false, false, false, false, false, false, false, false, false]) rfl rfl rfl (by kernel_rfl) (by kernel_rfl) (by kernel_rfl) (by kernel_rfl) (fun _ _ _ h => h) (v := .int .i64 (nlen 65536 V : Nat)) (.inl ⟨by kernel_rfl, ?_⟩) d0 ?_
          · intro w' hb; have hq := KS.out w' hb; have h1 := hq.1; have h2 := hq.2; clear hq; go_simp
          simp only [Act.put, List.setIfInBounds_toArray, List.set_cons_zero, List.set_cons_succ]
          refine reg_take 7 [16] (l := #[true, true, true, true, true, true, true, true, false, false, false, false, false, false, false, false, false]) rfl rfl rfl (by kernel_rfl) (by kernel_rfl) (by kernel_rfl) (by kernel_rfl) (fun _ _ _ h => h) (v := .bool z) (.inl ⟨by kernel_rfl, ?_⟩) d0 ?_
          · intro w' hb; have hq := KS.out w' hb; have h1 := hq.1; have h2 := hq.2; clear hq; go_simp
          simp only [Act.put, List.setIfInBounds_toArray, List.set_cons_zero, List.set_cons_succ]
          refine reg_take 8 [16] (l := #[true, true, true, true, true, true, true, true, true, false, false, false, false, false, false, false, false]) rfl rfl rfl (by kernel_rfl) (by kernel_rfl) (by kernel_rfl) (by kernel_rfl) (fun _ _ _ h => h) (v := .bool z) (.inl ⟨by kernel_rfl, ?_⟩) d0 ?_
          · intro w' hb; have hq := KS.out w' hb; have h1 := hq.1; have h2 := hq.2; clear hq; go_simp
          simp only [Act.put, List.setIfInBounds_toArray, List.set_cons_zero, List.set_cons_succ]
          refine reg_take 9 [16] (l := #[true, true, true, true, true, true, true, true, true, true, false, false, false, false, false, false, false]) rfl rfl rfl (by kernel_rfl) (by kernel_rfl) (by kernel_rfl) (by kernel_rfl) (fun _ _ _ h => h) (v := .pointer (some ⟨p3, 1, none⟩)) (.inl ⟨by kernel_rfl, ?_⟩) d0 ?_
          · intro w' hb; have hq := KS.out w' hb; have h1 := hq.1; have h2 := hq.2; clear hq; go_simp
          simp only [Act.put, List.setIfInBounds_toArray, List.set_cons_zero, List.set_cons_succ]
          refine reg_take 10 [16] (l := #[true, true, true, true, true, true, true, true, true, true, true, false, false, false, false, false, false]) rfl rfl rfl (by kernel_rfl) (by kernel_rfl) (by kernel_rfl) (by kernel_rfl) (fun _ _ _ h => h) (v := .slice aa (nlen 65536 V) ca) (.inl ⟨by kernel_rfl, ?_⟩) d0 ?_
          · intro w' hb; have hq := KS.out w' hb; have h1 := hq.1; have h2 := hq.2; clear hq; go_simp
          simp only [Act.put, List.setIfInBounds_toArray, List.set_cons_zero, List.set_cons_succ]
          refine reg_take 11 [16] (l := #[true, true, true, true, true, true, true, true, true, true, true, true, false, false, false, false, false]) rfl rfl rfl (by kernel_rfl) (by kernel_rfl) (by kernel_rfl) (by kernel_rfl) (fun _ _ _ h => h) (v := .agg #[.bool z, .slice aa (nlen 65536 V) ca]) (.inl ⟨by kernel_rfl, ?_⟩) d0 ?_
          · intro w' hb; have hq := KS.out w' hb; have h1 := hq.1; have h2 := hq.2; clear hq; go_simp
          simp only [Act.put, List.setIfInBounds_toArray, List.set_cons_zero, List.set_cons_succ]
          refine reg_two (j := 12) (k := 15) (l := #[true, true, true, true, true, true, true, true, true, true, true, true, true, false, false, false, false]) (m := #[true, true, true, true, true, true, true, true, true, true, true, true, false, false, false, true, false]) rfl rfl (by kernel_rfl) rfl rfl ?_ ?_
          · refine reg_call (by kernel_rfl) (KSM.out y0) (by go_simp) ?_
            rintro e y1 ⟨a12, c12, rfl, n12, b1⟩
            have d1 := below_trans d0 b1
            refine ⟨_, rfl, d1, ?_⟩
            clear b1
            simp only [Act.put, List.setIfInBounds_toArray, List.set_cons_zero, List.set_cons_succ]
            refine reg_take 13 [16] (l := #[true, true, true, true, true, true, true, true, true, true, true, true, true, true, false, false, false]) rfl rfl rfl (by kernel_rfl) (by kernel_rfl) (by kernel_rfl) (by kernel_rfl) (fun _ _ _ h => h) (v := .agg #[.bool true, .slice a12 (nlen 65536 one) c12]) (.inl ⟨by kernel_rfl, ?_⟩) d1 ?_
            · intro w' hb; have hq := KS.out w' hb; have h1 := hq.1; have h2 := hq.2; clear hq; go_simp
            simp only [Act.put, List.setIfInBounds_toArray, List.set_cons_zero, List.set_cons_succ]
            refine reg_two (j := 14) (k := 15) (l := #[true, true, true, true, true, true, true, true, true, true, true, true, true, true, true, false, false]) (m := #[true, true, true, true, true, true, true, true, true, true, true, true, true, true, false, true, false]) rfl rfl (by kernel_rfl) rfl rfl ?_ ?_
            · refine reg_call (by kernel_rfl) (plus_now z true V one aa a12 ca c12 R y1 HN.out.1 HN.out.2.1 ((KF.out _ d1).1) n12 HN.out.2.2) (by go_simp) ?_
              rintro e y2 ⟨a14, c14, rfl, n14, b2⟩
              have d2 := below_trans d1 b2
              have n12 := n12.below b2
              refine ⟨_, rfl, d2, ?_⟩
              clear b2
              simp only [Act.put, List.setIfInBounds_toArray, List.set_cons_zero, List.set_cons_succ]
              refine reg_one (j := 15) (l := #[true, true, true, true, true, true, true, true, true, true, true, true, true, true, true, true, false]) rfl (by kernel_rfl) rfl ?_
              obtain ⟨y3, hy3⟩ : ∃ W, Hid (W = y2.alloc (.cells #[.bool false, .slice none 0 0] 29)) := ⟨_, Lib.hid rfl⟩
              have b3 : Below y2.heap.size y2 y3 := by rw [hy3.out]; exact (Below.refl _ y2).alloc (Nat.le_refl _) _
              have d3 := below_trans d2 b3
              obtain ⟨pP5, hpP5⟩ : ∃ p, Hid (p = y2.heap.size) := ⟨_, Lib.hid rfl⟩
              have P5 : Pair y3 pP5 29 (.bool false) (.slice none 0 0) := by rw [hpP5.out, hy3.out]; exact Pair.new y2 _ _ _
              have lP5 : W7.heap.size ≤ pP5 := by rw [hpP5.out]; exact d2.size
              have n12 := n12.below b3
              have n14 := n14.below b3
              refine reg_mem (v := .pointer (some ⟨pP5, 0, none⟩)) (w' := y3) (by kernel_rfl) ?_ d3 ?_
              · intro K' hk; go_simp; rw [← hy3.out, ← hpP5.out]; exact hk
              clear b3
              simp only [Act.put, List.setIfInBounds_toArray, List.set_cons_zero, List.set_cons_succ]
              refine reg_one (j := 16) (l := #[true, true, true, true, true, true, true, true, true, true, true, true, true, true, true, true, true]) rfl (by kernel_rfl) rfl ?_
              have x0 := P5.cell0
              have x1 := P5.cell1
              have x2 := P5.free 0
              have x3 := P5.free 1
              obtain ⟨y4, hy4⟩ : ∃ W, Hid (W = put2 y3 pP5 (.bool R.1) (.slice a14 (nlen 65536 R.2) c14)) := ⟨_, Lib.hid rfl⟩
              have d4 : Below W7.heap.size W7 y4 := by rw [hy4.out]; exact below_put2 d3 lP5 _ _
              refine reg_mem (v := undef) (w' := y4) (by kernel_rfl) ?_ d4 ?_
              · intro K' hk; rw [hy4.out] at hk; go_simp; exact hk
              clear x0 x1 x2 x3
              simp only [Act.put, List.setIfInBounds_toArray, List.set_cons_zero, List.set_cons_succ]
              have n12 := n12.put2 P5 (.bool R.1) (.slice a14 (nlen 65536 R.2) c14)
              rw [← hy4.out] at n12
              have n14 := n14.put2 P5 (.bool R.1) (.slice a14 (nlen 65536 R.2) c14)
              rw [← hy4.out] at n14
              have P5 := P5.put2 (.bool R.1) (.slice a14 (nlen 65536 R.2) c14)
              rw [← hy4.out] at P5
              refine until_done (by kernel_rfl) ?_ _
              go_wp2_with fail
              go_meet
              exact ⟨_, _, _, rfl, P5, n14, d4⟩
            · obtain ⟨y2, hy2⟩ : ∃ W, Hid (W = y1.alloc (.cells #[.bool false, .slice none 0 0] 29)) := ⟨_, Lib.hid rfl⟩
              have b2 : Below y1.heap.size y1 y2 := by rw [hy2.out]; exact (Below.refl _ y1).alloc (Nat.le_refl _) _
              have d2 := below_trans d1 b2
              obtain ⟨pP5, hpP5⟩ : ∃ p, Hid (p = y1.heap.size) := ⟨_, Lib.hid rfl⟩
              have P5 : Pair y2 pP5 29 (.bool false) (.slice none 0 0) := by rw [hpP5.out, hy2.out]; exact Pair.new y1 _ _ _
              have lP5 : W7.heap.size ≤ pP5 := by rw [hpP5.out]; exact d1.size
              have n12 := n12.below b2
              refine reg_mem (v := .pointer (some ⟨pP5, 0, none⟩)) (w' := y2) (by kernel_rfl) ?_ d2 ?_
              · intro K' hk; go_simp; rw [← hy2.out, ← hpP5.out]; exact hk
              clear b2
              simp only [Act.put, List.setIfInBounds_toArray, List.set_cons_zero, List.set_cons_succ]
              refine reg_one (j := 14) (l := #[true, true, true, true, true, true, true, true, true, true, true, true, true, true, true, true, false]) rfl (by kernel_rfl) rfl ?_
              refine reg_call (by kernel_rfl) (plus_now z true V one aa a12 ca c12 R y2 HN.out.1 HN.out.2.1 ((KF.out _ d2).1) n12 HN.out.2.2) (by go_simp) ?_
              rintro e y3 ⟨a14, c14, rfl, n14, b3⟩
              have d3 := below_trans d2 b3
              have n12 := n12.below b3
              have P5 := P5.below b3 P5.lt
              refine ⟨_, rfl, d3, ?_⟩
              clear b3
              simp only [Act.put, List.setIfInBounds_toArray, List.set_cons_zero, List.set_cons_succ]
              refine reg_one (j := 16) (l := #[true, true, true, true, true, true, true, true, true, true, true, true, true, true, true, true, true]) rfl (by kernel_rfl) rfl ?_
              have x0 := P5.cell0
              have x1 := P5.cell1
              have x2 := P5.free 0
              have x3 := P5.free 1
              obtain ⟨y4, hy4⟩ : ∃ W, Hid (W = put2 y3 pP5 (.bool R.1) (.slice a14 (nlen 65536 R.2) c14)) := ⟨_, Lib.hid rfl⟩
              have d4 : Below W7.heap.size W7 y4 := by rw [hy4.out]; exact below_put2 d3 lP5 _ _
              refine reg_mem (v := undef) (w' := y4) (by kernel_rfl) ?_ d4 ?_
              · intro K' hk; rw [hy4.out] at hk; go_simp; exact hk
              clear x0 x1 x2 x3
              simp only [Act.put, List.setIfInBounds_toArray, List.set_cons_zero, List.set_cons_succ]
              have n12 := n12.put2 P5 (.bool R.1) (.slice a14 (nlen 65536 R.2) c14)
              rw [← hy4.out] at n12
              have n14 := n14.put2 P5 (.bool R.1) (.slice a14 (nlen 65536 R.2) c14)
              rw [← hy4.out] at n14
              have P5 := P5.put2 (.bool R.1) (.slice a14 (nlen 65536 R.2) c14)
              rw [← hy4.out] at P5
              refine until_done (by kernel_rfl) ?_ _
              go_wp2_with fail
              go_meet
              exact ⟨_, _, _, rfl, P5, n14, d4⟩
          · obtain ⟨y1, hy1⟩ : ∃ W, Hid (W = y0.alloc (.cells #[.bool false, .slice none 0 0] 29)) := ⟨_, Lib.hid rfl⟩
            have b1 : Below y0.heap.size y0 y1 := by rw [hy1.out]; exact (Below.refl _ y0).alloc (Nat.le_refl _) _
            have d1 := below_trans d0 b1
            obtain ⟨pP5, hpP5⟩ : ∃ p, Hid (p = y0.heap.size) := ⟨_, Lib.hid rfl⟩
            have P5 : Pair y1 pP5 29 (.bool false) (.slice none 0 0) := by rw [hpP5.out, hy1.out]; exact Pair.new y0 _ _ _
            have lP5 : W7.heap.size ≤ pP5 := by rw [hpP5.out]; exact d0.size
            refine reg_mem (v := .pointer (some ⟨pP5, 0, none⟩)) (w' := y1) (by kernel_rfl) ?_ d1 ?_
            · intro K' hk; go_simp; rw [← hy1.out, ← hpP5.out]; exact hk
            clear b1
            simp only [Act.put, List.setIfInBounds_toArray, List.set_cons_zero, List.set_cons_succ]
            refine reg_one (j := 12) (l := #[true, true, true, true, true, true, true, true, true, true, true, true, true, false, false, true, false]) rfl (by kernel_rfl) rfl ?_
            refine reg_call (by kernel_rfl) (KSM.out y1) (by go_simp) ?_
            rintro e y2 ⟨a12, c12, rfl, n12, b2⟩
            have d2 := below_trans d1 b2
            have P5 := P5.below b2 P5.lt
            refine ⟨_, rfl, d2, ?_⟩
            clear b2
            simp only [Act.put, List.setIfInBounds_toArray, List.set_cons_zero, List.set_cons_succ]
            refine reg_take 13 [16] (l := #[true, true, true, true, true, true, true, true, true, true, true, true, true, true, false, true, false]) rfl rfl rfl (by kernel_rfl) (by kernel_rfl) (by kernel_rfl) (by kernel_rfl) (fun _ _ _ h => h) (v := .agg #[.bool true, .slice a12 (nlen 65536 one) c12]) (.inl ⟨by kernel_rfl, ?_⟩) d2 ?_
            · intro w' hb; have hq := KS.out w' hb; have h1 := hq.1; have h2 := hq.2; clear hq; go_simp
            simp only [Act.put, List.setIfInBounds_toArray, List.set_cons_zero, List.set_cons_succ]
            refine reg_one (j := 14) (l := #[true, true, true, true, true, true, true, true, true, true, true, true, true, true, true, true, false]) rfl (by kernel_rfl) rfl ?_
            refine reg_call (by kernel_rfl) (plus_now z true V one aa a12 ca c12 R y2 HN.out.1 HN.out.2.1 ((KF.out _ d2).1) n12 HN.out.2.2) (by go_simp) ?_
            rintro e y3 ⟨a14, c14, rfl, n14, b3⟩
            have d3 := below_trans d2 b3
            have P5 := P5.below b3 P5.lt
            have n12 := n12.below b3
            refine ⟨_, rfl, d3, ?_⟩
            clear b3
            simp only [Act.put, List.setIfInBounds_toArray, List.set_cons_zero, List.set_cons_succ]
            refine reg_one (j := 16) (l := #[true, true, true, true, true, true, true, true, true, true, true, true, true, true, true, true, true]) rfl (by kernel_rfl) rfl ?_
            have x0 := P5.cell0
            have x1 := P5.cell1
            have x2 := P5.free 0
            have x3 := P5.free 1
            obtain ⟨y4, hy4⟩ : ∃ W, Hid (W = put2 y3 pP5 (.bool R.1) (.slice a14 (nlen 65536 R.2) c14)) := ⟨_, Lib.hid rfl⟩
            have d4 : Below W7.heap.size W7 y4 := by rw [hy4.out]; exact below_put2 d3 lP5 _ _
            refine reg_mem (v := undef) (w' := y4) (by kernel_rfl) ?_ d4 ?_
            · intro K' hk; rw [hy4.out] at hk; go_simp; exact hk
            clear x0 x1 x2 x3
            simp only [Act.put, List.setIfInBounds_toArray, List.set_cons_zero, List.set_cons_succ]
            have n12 := n12.put2 P5 (.bool R.1) (.slice a14 (nlen 65536 R.2) c14)
            rw [← hy4.out] at n12
            have n14 := n14.put2 P5 (.bool R.1) (.slice a14 (nlen 65536 R.2) c14)
            rw [← hy4.out] at n14
            have P5 := P5.put2 (.bool R.1) (.slice a14 (nlen 65536 R.2) c14)
            rw [← hy4.out] at P5
            refine until_done (by kernel_rfl) ?_ _
            go_wp2_with fail
            go_meet
            exact ⟨_, _, _, rfl, P5, n14, d4⟩
        · have HN := Lib.hid (show nlen 65536 V ≤ 1000000000000 ∧ nlen 65536 one ≤ 1000000000000 ∧ R = plusR false V true one from ⟨Nat.le_trans HH.out.2.2.1 (by omega), by rw [hone.out]; exact Nat.le_trans ((nlen_le_iff (by omega) 1 1).2 (by omega)) (by omega), by rw [hone.out, hR.out, ← plus_not true V HH.out.1]; rfl⟩)
          refine reg_begin (fun u => Below W7.heap.size W7 u) 16 17 #[false, false, false, false, false, false, false, false, false, false, false, false, false, false, false, false, false] (by kernel_rfl) rfl rfl ⟨rfl, rfl, rfl, Nat.le_refl _, fun _ _ => rfl⟩ ?_
          obtain ⟨y0, hy0⟩ : ∃ y, Hid (y = W7.drew) := ⟨_, Lib.hid rfl⟩
          have d0 : Below W7.heap.size W7 y0 := by rw [hy0.out]; exact ⟨rfl, rfl, rfl, Nat.le_refl _, fun _ _ => rfl⟩
          rw [← hy0.out]
          refine reg_take 0 [16] (l := #[true, false, false, false, false, false, false, false, false, false, false, false, false, false, false, false, false]) rfl rfl rfl (by kernel_rfl) (by kernel_rfl) (by kernel_rfl) (by kernel_rfl) (fun _ _ _ h => h) (v := .pointer (some ⟨p3, 0, none⟩)) (.inl ⟨by kernel_rfl, ?_⟩) d0 ?_
          · intro w' hb; have hq := KS.out w' hb; have h1 := hq.1; have h2 := hq.2; clear hq; go_simp
          simp only [Act.put, List.setIfInBounds_toArray, List.set_cons_zero, List.set_cons_succ]
          refine reg_take 1 [16] (l := #[true, true, false, false, false, false, false, false, false, false, false, false, false, false, false, false, false]) rfl rfl rfl (by kernel_rfl) (by kernel_rfl) (by kernel_rfl) (by kernel_rfl) (fun _ _ _ h => h) (v := .bool true) (.inl ⟨by kernel_rfl, ?_⟩) d0 ?_
          · intro w' hb; have hq := KS.out w' hb; have h1 := hq.1; have h2 := hq.2; clear hq; go_simp
          simp only [Act.put, List.setIfInBounds_toArray, List.set_cons_zero, List.set_cons_succ]
          refine reg_take 2 [16] (l := #[true, true, true, false, false, false, false, false, false, false, false, false, false, false, false, false, false]) rfl rfl rfl (by kernel_rfl) (by kernel_rfl) (by kernel_rfl) (by kernel_rfl) (fun _ _ _ h => h) (v := .bool false) (.inl ⟨by kernel_rfl, ?_⟩) d0 ?_
          · intro w' hb; have hq := KS.out w' hb; have h1 := hq.1; have h2 := hq.2; clear hq; go_simp
          simp only [Act.put, List.setIfInBounds_toArray, List.set_cons_zero, List.set_cons_succ]
          refine reg_take 3 [16] (l := #[true, true, true, true, false, false, false, false, false, false, false, false, false, false, false, false, false]) rfl rfl rfl (by kernel_rfl) (by kernel_rfl) (by kernel_rfl) (by kernel_rfl) (fun _ _ _ h => h) (v := .bool false) (.inl ⟨by kernel_rfl, ?_⟩) d0 ?_
          · intro w' hb; have hq := KS.out w' hb; have h1 := hq.1; have h2 := hq.2; clear hq; go_simp
          simp only [Act.put, List.setIfInBounds_toArray, List.set_cons_zero, List.set_cons_succ]
          refine reg_take 4 [16] (l := #[true, true, true, true, true, false, false, false, false, false, false, false, false, false, false, false, false]) rfl rfl rfl (by kernel_rfl) (by kernel_rfl) (by kernel_rfl) (by kernel_rfl) (fun _ _ _ h => h) (v := undef) (.inr ⟨by kernel_rfl, rfl⟩) d0 ?_
          simp only [Act.put, List.setIfInBounds_toArray, List.set_cons_zero, List.set_cons_succ]
          refine reg_take 5 [16] (l := #[true, true, true, true, true, true, false, false, false, false, false, false, false, false, false, false, false]) rfl rfl rfl (by kernel_rfl) (by kernel_rfl) (by kernel_rfl) (by kernel_rfl) (fun _ _ _ h => h) (v := undef) (.inr ⟨by kernel_rfl, rfl⟩) d0 ?_
          simp only [Act.put, List.setIfInBounds_toArray, List.set_cons_zero, List.set_cons_succ]
          refine reg_take 6 [16] (l := #[true, true, true, true, true, true, true, false, false, false, false, false, false, false, false, false, false]) rfl rfl rfl (by kernel_rfl) (by kernel_rfl) (by kernel_rfl) (by kernel_rfl) (fun _ _ _ h => h) (v := undef) (.inr ⟨by kernel_rfl, rfl⟩) d0 ?_
          simp only [Act.put, List.setIfInBounds_toArray, List.set_cons_zero, List.set_cons_succ]
          refine reg_take 7 [16] (l := #[true, true, true, true, true, true, true, true, false, false, false, false, false, false, false, false, false]) rfl rfl rfl (by kernel_rfl) (by kernel_rfl) (by kernel_rfl) (by kernel_rfl) (fun _ _ _ h => h) (v := undef) (.inr ⟨by kernel_rfl, rfl⟩) d0 ?_
          simp only [Act.put, List.setIfInBounds_toArray, List.set_cons_zero, List.set_cons_succ]
          refine reg_take 8 [16] (l := #[true, true, true, true, true, true, true, true, true, false, false, false, false, false, false, false, false]) rfl rfl rfl (by kernel_rfl) (by kernel_rfl) (by kernel_rfl) (by kernel_rfl) (fun _ _ _ h => h) (v := .bool false) (.inl ⟨by kernel_rfl, ?_⟩) d0 ?_
          · intro w' hb; have hq := KS.out w' hb; have h1 := hq.1; have h2 := hq.2; clear hq; go_simp
          simp only [Act.put, List.setIfInBounds_toArray, List.set_cons_zero, List.set_cons_succ]
          refine reg_take 9 [16] (l := #[true, true, true, true, true, true, true, true, true, true, false, false, false, false, false, false, false]) rfl rfl rfl (by kernel_rfl) (by kernel_rfl) (by kernel_rfl) (by kernel_rfl) (fun _ _ _ h => h) (v := .pointer (some ⟨p3, 1, none⟩)) (.inl ⟨by kernel_rfl, ?_⟩) d0 ?_
          · intro w' hb; have hq := KS.out w' hb; have h1 := hq.1; have h2 := hq.2; clear hq; go_simp
          simp only [Act.put, List.setIfInBounds_toArray, List.set_cons_zero, List.set_cons_succ]
          refine reg_take 10 [16] (l := #[true, true, true, true, true, true, true, true, true, true, true, false, false, false, false, false, false]) rfl rfl rfl (by kernel_rfl) (by kernel_rfl) (by kernel_rfl) (by kernel_rfl) (fun _ _ _ h => h) (v := .slice aa (nlen 65536 V) ca) (.inl ⟨by kernel_rfl, ?_⟩) d0 ?_
          · intro w' hb; have hq := KS.out w' hb; have h1 := hq.1; have h2 := hq.2; clear hq; go_simp
          simp only [Act.put, List.setIfInBounds_toArray, List.set_cons_zero, List.set_cons_succ]
          refine reg_take 11 [16] (l := #[true, true, true, true, true, true, true, true, true, true, true, true, false, false, false, false, false]) rfl rfl rfl (by kernel_rfl) (by kernel_rfl) (by kernel_rfl) (by kernel_rfl) (fun _ _ _ h => h) (v := .agg #[.bool false, .slice aa (nlen 65536 V) ca]) (.inl ⟨by kernel_rfl, ?_⟩) d0 ?_
          · intro w' hb; have hq := KS.out w' hb; have h1 := hq.1; have h2 := hq.2; clear hq; go_simp
          simp only [Act.put, List.setIfInBounds_toArray, List.set_cons_zero, List.set_cons_succ]
          refine reg_two (j := 12) (k := 15) (l := #[true, true, true, true, true, true, true, true, true, true, true, true, true, false, false, false, false]) (m := #[true, true, true, true, true, true, true, true, true, true, true, true, false, false, false, true, false]) rfl rfl (by kernel_rfl) rfl rfl ?_ ?_
          · refine reg_call (by kernel_rfl) (KSM.out y0) (by go_simp) ?_
            rintro e y1 ⟨a12, c12, rfl, n12, b1⟩
            have d1 := below_trans d0 b1
            refine ⟨_, rfl, d1, ?_⟩
            clear b1
            simp only [Act.put, List.setIfInBounds_toArray, List.set_cons_zero, List.set_cons_succ]
            refine reg_take 13 [16] (l := #[true, true, true, true, true, true, true, true, true, true, true, true, true, true, false, false, false]) rfl rfl rfl (by kernel_rfl) (by kernel_rfl) (by kernel_rfl) (by kernel_rfl) (fun _ _ _ h => h) (v := .agg #[.bool true, .slice a12 (nlen 65536 one) c12]) (.inl ⟨by kernel_rfl, ?_⟩) d1 ?_
            · intro w' hb; have hq := KS.out w' hb; have h1 := hq.1; have h2 := hq.2; clear hq; go_simp
            simp only [Act.put, List.setIfInBounds_toArray, List.set_cons_zero, List.set_cons_succ]
            refine reg_two (j := 14) (k := 15) (l := #[true, true, true, true, true, true, true, true, true, true, true, true, true, true, true, false, false]) (m := #[true, true, true, true, true, true, true, true, true, true, true, true, true, true, false, true, false]) rfl rfl (by kernel_rfl) rfl rfl ?_ ?_
            · refine reg_call (by kernel_rfl) (plus_now false true V one aa a12 ca c12 R y1 HN.out.1 HN.out.2.1 ((KF.out _ d1).1) n12 HN.out.2.2) (by go_simp) ?_
              rintro e y2 ⟨a14, c14, rfl, n14, b2⟩
              have d2 := below_trans d1 b2
              have n12 := n12.below b2
              refine ⟨_, rfl, d2, ?_⟩
              clear b2
              simp only [Act.put, List.setIfInBounds_toArray, List.set_cons_zero, List.set_cons_succ]
              refine reg_one (j := 15) (l := #[true, true, true, true, true, true, true, true, true, true, true, true, true, true, true, true, false]) rfl (by kernel_rfl) rfl ?_
              obtain ⟨y3, hy3⟩ : ∃ W, Hid (W = y2.alloc (.cells #[.bool false, .slice none 0 0] 29)) := ⟨_, Lib.hid rfl⟩
              have b3 : Below y2.heap.size y2 y3 := by rw [hy3.out]; exact (Below.refl _ y2).alloc (Nat.le_refl _) _
              have d3 := below_trans d2 b3
              obtain ⟨pP5, hpP5⟩ : ∃ p, Hid (p = y2.heap.size) := ⟨_, Lib.hid rfl⟩
              have P5 : Pair y3 pP5 29 (.bool false) (.slice none 0 0) := by rw [hpP5.out, hy3.out]; exact Pair.new y2 _ _ _
              have lP5 : W7.heap.size ≤ pP5 := by rw [hpP5.out]; exact d2.size
              have n12 := n12.below b3
              have n14 := n14.below b3
              refine reg_mem (v := .pointer (some ⟨pP5, 0, none⟩)) (w' := y3) (by kernel_rfl) ?_ d3 ?_
              · intro K' hk; go_simp; rw [← hy3.out, ← hpP5.out]; exact hk
              clear b3
              simp only [Act.put, List.setIfInBounds_toArray, List.set_cons_zero, List.set_cons_succ]
              refine reg_one (j := 16) (l := #[true, true, true, true, true, true, true, true, true, true, true, true, true, true, true, true, true]) rfl (by kernel_rfl) rfl ?_
              have x0 := P5.cell0
              have x1 := P5.cell1
              have x2 := P5.free 0
              have x3 := P5.free 1
              obtain ⟨y4, hy4⟩ : ∃ W, Hid (W = put2 y3 pP5 (.bool R.1) (.slice a14 (nlen 65536 R.2) c14)) := ⟨_, Lib.hid rfl⟩
              have d4 : Below W7.heap.size W7 y4 := by rw [hy4.out]; exact below_put2 d3 lP5 _ _
              refine reg_mem (v := undef) (w' := y4) (by kernel_rfl) ?_ d4 ?_
              · intro K' hk; rw [hy4.out] at hk; go_simp; exact hk
              clear x0 x1 x2 x3
              simp only [Act.put, List.setIfInBounds_toArray, List.set_cons_zero, List.set_cons_succ]
              have n12 := n12.put2 P5 (.bool R.1) (.slice a14 (nlen 65536 R.2) c14)
              rw [← hy4.out] at n12
              have n14 := n14.put2 P5 (.bool R.1) (.slice a14 (nlen 65536 R.2) c14)
              rw [← hy4.out] at n14
              have P5 := P5.put2 (.bool R.1) (.slice a14 (nlen 65536 R.2) c14)
              rw [← hy4.out] at P5
              refine until_done (by kernel_rfl) ?_ _
              go_wp2_with fail
              go_meet
              exact ⟨_, _, _, rfl, P5, n14, d4⟩
            · obtain ⟨y2, hy2⟩ : ∃ W, Hid (W = y1.alloc (.cells #[.bool false, .slice none 0 0] 29)) := ⟨_, Lib.hid rfl⟩
              have b2 : Below y1.heap.size y1 y2 := by rw [hy2.out]; exact (Below.refl _ y1).alloc (Nat.le_refl _) _
              have d2 := below_trans d1 b2
              obtain ⟨pP5, hpP5⟩ : ∃ p, Hid (p = y1.heap.size) := ⟨_, Lib.hid rfl⟩
              have P5 : Pair y2 pP5 29 (.bool false) (.slice none 0 0) := by rw [hpP5.out, hy2.out]; exact Pair.new y1 _ _ _
              have lP5 : W7.heap.size ≤ pP5 := by rw [hpP5.out]; exact d1.size
              have n12 := n12.below b2
              refine reg_mem (v := .pointer (some ⟨pP5, 0, none⟩)) (w' := y2) (by kernel_rfl) ?_ d2 ?_
              · intro K' hk; go_simp; rw [← hy2.out, ← hpP5.out]; exact hk
              clear b2
              simp only [Act.put, List.setIfInBounds_toArray, List.set_cons_zero, List.set_cons_succ]
              refine reg_one (j := 14) (l := #[true, true, true, true, true, true, true, true, true, true, true, true, true, true, true, true, false]) rfl (by kernel_rfl) rfl ?_
              refine reg_call (by kernel_rfl) (plus_now false true V one aa a12 ca c12 R y2 HN.out.1 HN.out.2.1 ((KF.out _ d2).1) n12 HN.out.2.2) (by go_simp) ?_
              rintro e y3 ⟨a14, c14, rfl, n14, b3⟩
              have d3 := below_trans d2 b3
              have n12 := n12.below b3
              have P5 := P5.below b3 P5.lt
              refine ⟨_, rfl, d3, ?_⟩
              clear b3
              simp only [Act.put, List.setIfInBounds_toArray, List.set_cons_zero, List.set_cons_succ]
              refine reg_one (j := 16) (l := #[true, true, true, true, true, true, true, true, true, true, true, true, true, true, true, true, true]) rfl (by kernel_rfl) rfl ?_
              have x0 := P5.cell0
              have x1 := P5.cell1
              have x2 := P5.free 0
              have x3 := P5.free 1
              obtain ⟨y4, hy4⟩ : ∃ W, Hid (W = put2 y3 pP5 (.bool R.1) (.slice a14 (nlen 65536 R.2) c14)) := ⟨_, Lib.hid rfl⟩
              have d4 : Below W7.heap.size W7 y4 := by rw [hy4.out]; exact below_put2 d3 lP5 _ _
              refine reg_mem (v := undef) (w' := y4) (by kernel_rfl) ?_ d4 ?_
              · intro K' hk; rw [hy4.out] at hk; go_simp; exact hk
              clear x0 x1 x2 x3
              simp only [Act.put, List.setIfInBounds_toArray, List.set_cons_zero, List.set_cons_succ]
              have n12 := n12.put2 P5 (.bool R.1) (.slice a14 (nlen 65536 R.2) c14)
              rw [← hy4.out] at n12
              have n14 := n14.put2 P5 (.bool R.1) (.slice a14 (nlen 65536 R.2) c14)
              rw [← hy4.out] at n14
              have P5 := P5.put2 (.bool R.1) (.slice a14 (nlen 65536 R.2) c14)
              rw [← hy4.out] at P5
              refine until_done (by kernel_rfl) ?_ _
              go_wp2_with fail
              go_meet
              exact ⟨_, _, _, rfl, P5, n14, d4⟩
          · obtain ⟨y1, hy1⟩ : ∃ W, Hid (W = y0.alloc (.cells #[.bool false, .slice none 0 0] 29)) := ⟨_, Lib.hid rfl⟩
            have b1 : Below y0.heap.size y0 y1 := by rw [hy1.out]; exact (Below.refl _ y0).alloc (Nat.le_refl _) _
            have d1 := below_trans d0 b1
            obtain ⟨pP5, hpP5⟩ : ∃ p, Hid (p = y0.heap.size) := ⟨_, Lib.hid rfl⟩
            have P5 : Pair y1 pP5 29 (.bool false) (.slice none 0 0) := by rw [hpP5.out, hy1.out]; exact Pair.new y0 _ _ _
            have lP5 : W7.heap.size ≤ pP5 := by rw [hpP5.out]; exact d0.size
            refine reg_mem (v := .pointer (some ⟨pP5, 0, none⟩)) (w' := y1) (by kernel_rfl) ?_ d1 ?_
            · intro K' hk; go_simp; rw [← hy1.out, ← hpP5.out]; exact hk
            clear b1
            simp only [Act.put, List.setIfInBounds_toArray, List.set_cons_zero, List.set_cons_succ]
            refine reg_one (j := 12) (l := #[true, true, true, true, true, true, true, true, true, true, true, true, true, false, false, true, false]) rfl (by kernel_rfl) rfl ?_
            refine reg_call (by kernel_rfl) (KSM.out y1) (by go_simp) ?_
            rintro e y2 ⟨a12, c12, rfl, n12, b2⟩
            have d2 := below_trans d1 b2
            have P5 := P5.below b2 P5.lt
            refine ⟨_, rfl, d2, ?_⟩
            clear b2
            simp only [Act.put, List.setIfInBounds_toArray, List.set_cons_zero, List.set_cons_succ]
            refine reg_take 13 [16] (l := #[true, true, true, true, true, true, true, true, true, true, true, true, true, true, false, true, false]) rfl rfl rfl (by kernel_rfl) (by kernel_rfl) (by kernel_rfl) (by kernel_rfl) (fun _ _ _ h => h) (v := .agg #[.bool true, .slice a12 (nlen 65536 one) c12]) (.inl ⟨by kernel_rfl, ?_⟩) d2 ?_
            · intro w' hb; have hq := KS.out w' hb; have h1 := hq.1; have h2 := hq.2; clear hq; go_simp
            simp only [Act.put, List.setIfInBounds_toArray, List.set_cons_zero, List.set_cons_succ]
            refine reg_one (j := 14) (l := #[true, true, true, true, true, true, true, true, true, true, true, true, true, true, true, true, false]) rfl (by kernel_rfl) rfl ?_
            refine reg_call (by kernel_rfl) (plus_now false true V one aa a12 ca c12 R y2 HN.out.1 HN.out.2.1 ((KF.out _ d2).1) n12 HN.out.2.2) (by go_simp) ?_
            rintro e y3 ⟨a14, c14, rfl, n14, b3⟩
            have d3 := below_trans d2 b3
            have P5 := P5.below b3 P5.lt
            have n12 := n12.below b3
            refine ⟨_, rfl, d3, ?_⟩
            clear b3
            simp only [Act.put, List.setIfInBounds_toArray, List.set_cons_zero, List.set_cons_succ]
            refine reg_one (j := 16) (l := #[true, true, true, true, true, true, true, true, true, true, true, true, true, true, true, true, true]) rfl (by kernel_rfl) rfl ?_
            have x0 := P5.cell0
            have x1 := P5.cell1
            have x2 := P5.free 0
            have x3 := P5.free 1
            obtain ⟨y4, hy4⟩ : ∃ W, Hid (W = put2 y3 pP5 (.bool R.1) (.slice a14 (nlen 65536 R.2) c14)) := ⟨_, Lib.hid rfl⟩
            have d4 : Below W7.heap.size W7 y4 := by rw [hy4.out]; exact below_put2 d3 lP5 _ _
            refine reg_mem (v := undef) (w' := y4) (by kernel_rfl) ?_ d4 ?_
            · intro K' hk; rw [hy4.out] at hk; go_simp; exact hk
            clear x0 x1 x2 x3
            simp only [Act.put, List.setIfInBounds_toArray, List.set_cons_zero, List.set_cons_succ]
            have n12 := n12.put2 P5 (.bool R.1) (.slice a14 (nlen 65536 R.2) c14)
            rw [← hy4.out] at n12
            have n14 := n14.put2 P5 (.bool R.1) (.slice a14 (nlen 65536 R.2) c14)
            rw [← hy4.out] at n14
            have P5 := P5.put2 (.bool R.1) (.slice a14 (nlen 65536 R.2) c14)
            rw [← hy4.out] at P5
            refine until_done (by kernel_rfl) ?_ _
            go_wp2_with fail
            go_meet
            exact ⟨_, _, _, rfl, P5, n14, d4⟩
      case rest =>
      obtain ⟨p5, aw, cw, rfl, P5, n14, d8⟩ := hcut
      have k8 := KF.out _ d8
      clear KS
      have KS := Lib.hid (show ∀ u, Below wc.heap.size wc u → u.cell? ⟨p4, 0, none⟩ = some (.bool R.1) ∧ u.cell? ⟨p4, 1, none⟩ = some (.slice a8 (nlen BW R.2) c8) ∧ u.cell? ⟨p5, 0, none⟩ = some (.bool R.1) ∧ u.cell? ⟨p5, 1, none⟩ = some (.slice aw (nlen 65536 R.2) cw) ∧ u.cell? ⟨p3, 0, none⟩ = some (.bool A.1) ∧ u.cell? ⟨p3, 1, none⟩ = some (.slice aa (nlen 65536 A.2) ca) from fun u hu =>
        ⟨(k8.2.2.2.below hu k8.2.2.2.lt).cell0, (k8.2.2.2.below hu k8.2.2.2.lt).cell1, (P5.below hu P5.lt).cell0, (P5.below hu P5.lt).cell1, (k8.2.2.1.below hu k8.2.2.1.lt).cell0, (k8.2.2.1.below hu k8.2.2.1.lt).cell1⟩)
      have KG := Lib.hid (show ∀ u, Below wc.heap.size wc u → NumAt u R a8 c8 ∧ NatAt u R.2 aw cw ∧ NatAt u A.2 aa ca ∧ One u ∧ Below w.heap.size w u from fun u hu => by
        have d := below_trans (below_trans D7.out d8) hu
        exact ⟨k8.2.1.below hu, n14.below hu, k8.1.below hu, HO.out.below d, d⟩)
      clear k8 P5 n14 d8 KF KIN KNOT K6 F0
      go_upto_region 8 with fail
      refine reg_begin (fun u => Below wc.heap.size wc u) 10 11 #[false, false, false, false, false, false, false, false, false, false, false] (by kernel_rfl) rfl rfl ⟨rfl, rfl, rfl, Nat.le_refl _, fun _ _ => rfl⟩ ?_
      obtain ⟨y0, hy0⟩ : ∃ y, Hid (y = wc.drew) := ⟨_, Lib.hid rfl⟩
      have d0 : Below wc.heap.size wc y0 := by rw [hy0.out]; exact ⟨rfl, rfl, rfl, Nat.le_refl _, fun _ _ => rfl⟩
      rw [← hy0.out]
      refine reg_take 0 [10] (l := #[true, false, false, false, false, false, false, false, false, false, false]) rfl rfl rfl (by kernel_rfl) (by kernel_rfl) (by kernel_rfl) (by kernel_rfl) (fun _ _ _ h => h) (v := .agg #[.bool R.1, .slice a8 (nlen BW R.2) c8]) (.inl ⟨by kernel_rfl, ?_⟩) d0 ?_
      · intro w' hb; have hq := KS.out w' hb; have h1 := hq.1; have h2 := hq.2.1; have h3 := hq.2.2.1; have h4 := hq.2.2.2.1; have h5 := hq.2.2.2.2.1; have h6 := hq.2.2.2.2.2; clear hq; go_simp
      simp only [Act.put, List.setIfInBounds_toArray, List.set_cons_zero, List.set_cons_succ]
      refine reg_take 1 [10] (l := #[true, true, false, false, false, false, false, false, false, false, false]) rfl rfl rfl (by kernel_rfl) (by kernel_rfl) (by kernel_rfl) (by kernel_rfl) (fun _ _ _ h => h) (v := .agg #[.bool R.1, .slice aw (nlen 65536 R.2) cw]) (.inl ⟨by kernel_rfl, ?_⟩) d0 ?_
      · intro w' hb; have hq := KS.out w' hb; have h1 := hq.1; have h2 := hq.2.1; have h3 := hq.2.2.1; have h4 := hq.2.2.2.1; have h5 := hq.2.2.2.2.1; have h6 := hq.2.2.2.2.2; clear hq; go_simp
      simp only [Act.put, List.setIfInBounds_toArray, List.set_cons_zero, List.set_cons_succ]
      refine reg_one (j := 2) (l := #[true, true, true, false, false, false, false, false, false, false, false]) rfl (by kernel_rfl) rfl ?_
      refine reg_call (by kernel_rfl) (is_now R R a8 aw c8 cw y0 HH.out.2.2.2.1 HH.out.2.2.2.2.1 (KG.out _ d0).1 (KG.out _ d0).2.1 rfl) (by go_simp) ?_
      rintro e y1 ⟨rfl, b1⟩
      have d1 := below_trans d0 b1
      refine ⟨_, rfl, d1, ?_⟩
      clear b1
      simp only [Act.put, List.setIfInBounds_toArray, List.set_cons_zero, List.set_cons_succ]
      refine reg_take 3 [10] (l := #[true, true, true, true, false, false, false, false, false, false, false]) rfl rfl rfl (by kernel_rfl) (by kernel_rfl) (by kernel_rfl) (by kernel_rfl) (fun _ _ _ h => h) (v := .bool true) (.inl ⟨by kernel_rfl, ?_⟩) d1 ?_
      · intro w' hb; have hq := KS.out w' hb; have h1 := hq.1; have h2 := hq.2.1; have h3 := hq.2.2.1; have h4 := hq.2.2.2.1; have h5 := hq.2.2.2.2.1; have h6 := hq.2.2.2.2.2; clear hq; go_simp
      simp only [Act.put, List.setIfInBounds_toArray, List.set_cons_zero, List.set_cons_succ]
      refine reg_take 4 [10] (l := #[true, true, true, true, true, false, false, false, false, false, false]) rfl rfl rfl (by kernel_rfl) (by kernel_rfl) (by kernel_rfl) (by kernel_rfl) (fun _ _ _ h => h) (v := .agg #[.bool R.1, .slice a8 (nlen BW R.2) c8]) (.inl ⟨by kernel_rfl, ?_⟩) d1 ?_
      · intro w' hb; have hq := KS.out w' hb; have h1 := hq.1; have h2 := hq.2.1; have h3 := hq.2.2.1; have h4 := hq.2.2.2.1; have h5 := hq.2.2.2.2.1; have h6 := hq.2.2.2.2.2; clear hq; go_simp
      simp only [Act.put, List.setIfInBounds_toArray, List.set_cons_zero, List.set_cons_succ]
      refine reg_take 5 [10] (l := #[true, true, true, true, true, true, false, false, false, false, false]) rfl rfl rfl (by kernel_rfl) (by kernel_rfl) (by kernel_rfl) (by kernel_rfl) (fun _ _ _ h => h) (v := .agg #[.bool false, .slice none 0 0]) (.inl ⟨by kernel_rfl, ?_⟩) d1 ?_
      · intro w' hb; have hq := KS.out w' hb; have h1 := hq.1; have h2 := hq.2.1; have h3 := hq.2.2.1; have h4 := hq.2.2.2.1; have h5 := hq.2.2.2.2.1; have h6 := hq.2.2.2.2.2; clear hq; go_simp
      simp only [Act.put, List.setIfInBounds_toArray, List.set_cons_zero, List.set_cons_succ]
      refine reg_take 7 [10] (l := #[true, true, true, true, true, true, false, true, false, false, false]) rfl rfl rfl (by kernel_rfl) (by kernel_rfl) (by kernel_rfl) (by kernel_rfl) (fun _ _ _ h => h) (v := .agg #[.bool A.1, .slice aa (nlen 65536 A.2) ca]) (.inl ⟨by kernel_rfl, ?_⟩) d1 ?_
      · intro w' hb; have hq := KS.out w' hb; have h1 := hq.1; have h2 := hq.2.1; have h3 := hq.2.2.1; have h4 := hq.2.2.2.1; have h5 := hq.2.2.2.2.1; have h6 := hq.2.2.2.2.2; clear hq; go_simp
      simp only [Act.put, List.setIfInBounds_toArray, List.set_cons_zero, List.set_cons_succ]
      refine reg_one (j := 6) (l := #[true, true, true, true, true, true, true, true, false, false, false]) rfl (by kernel_rfl) rfl ?_
      refine reg_call (by kernel_rfl) (not_num R a8 c8 A y1 HH.out.2.2.2.1 HH.out.2.2.2.2.1 (KG.out _ d1).1 (KG.out _ d1).2.2.2.1 HH.out.2.2.2.2.2.symm) (by go_simp) ?_
      rintro e y2 ⟨a37, c37, rfl, n37, b2⟩
      have d2 := below_trans d1 b2
      refine ⟨_, rfl, d2, ?_⟩
      clear b2
      simp only [Act.put, List.setIfInBounds_toArray, List.set_cons_zero, List.set_cons_succ]
      refine reg_one (j := 8) (l := #[true, true, true, true, true, true, true, true, true, false, false]) rfl (by kernel_rfl) rfl ?_
      refine reg_call (by kernel_rfl) (is_now A A a37 aa c37 ca y2 HH.out.1 (Nat.le_trans HH.out.2.1 (by omega)) n37 (KG.out _ d2).2.2.1 rfl) (by go_simp) ?_
      rintro e y3 ⟨rfl, b3⟩
      have d3 := below_trans d2 b3
      have n37 := n37.below b3
      refine ⟨_, rfl, d3, ?_⟩
      clear b3
      simp only [Act.put, List.setIfInBounds_toArray, List.set_cons_zero, List.set_cons_succ]
      refine reg_take 9 [10] (l := #[true, true, true, true, true, true, true, true, true, true, false]) rfl rfl rfl (by kernel_rfl) (by kernel_rfl) (by kernel_rfl) (by kernel_rfl) (fun _ _ _ h => h) (v := .bool true) (.inl ⟨by kernel_rfl, ?_⟩) d3 ?_
      · intro w' hb; have hq := KS.out w' hb; have h1 := hq.1; have h2 := hq.2.1; have h3 := hq.2.2.1; have h4 := hq.2.2.2.1; have h5 := hq.2.2.2.2.1; have h6 := hq.2.2.2.2.2; clear hq; go_simp
      simp only [Act.put, List.setIfInBounds_toArray, List.set_cons_zero, List.set_cons_succ]
      refine reg_one (j := 10) (l := #[true, true, true, true, true, true, true, true, true, true, true]) rfl (by kernel_rfl) rfl ?_
      refine reg_mem (v := .bool true) (w' := y3) (by kernel_rfl) (by intro K' hk; go_simp; exact hk) d3 ?_
      simp only [Act.put, List.setIfInBounds_toArray, List.set_cons_zero, List.set_cons_succ]
      refine until_done (by kernel_rfl) ?_ _
      have DD := Lib.hid (KG.out _ d3).2.2.2.2
      go_wp2
      go_ret
      exact ⟨rfl, DD.out⟩
  · have KX := Lib.hid (fun u => show Calls Tryd.prog 10 #[.agg #[.bool na, .slice ax nx cx]] u fun e w' => e = .returned (.bool false) ∧ Below u.heap.size u w' from by have := fits_any na ax nx cx u (by omega); rwa [show decide (nx ≤ 2147483647) = false by simp; omega] at this)
    go_enter Tryd.func9, Tryd.ntmps9
    go_wp2_with fail
    rw [← HW1.out]
    refine (KX.out _).mono ?_
    rintro e w3 ⟨rfl, b3⟩
    have d3 := below_trans F0.out.1 b3
    have a3 := F0.out.2.below b3
    clear b3
    have DD := Lib.hid d3
    clear d3 a3
    go_wp2
    go_ret
    exact ⟨rfl, DD.out⟩

end Go.Proofs.YtidifjmjbfhpaaaDoor
