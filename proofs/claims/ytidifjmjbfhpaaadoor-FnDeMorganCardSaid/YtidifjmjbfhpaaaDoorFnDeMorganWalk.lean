/- laws.FnDeMorgan returns true, whatever Numbers it is called with. (Printed by fndemorgan.py.) -/
import Derived.Test.YtidifjmjbfhpaaaDoorNow
import Derived.Test.YtidifjmjbfhpaaaDoorSumBits
import Derived.Test.YtidifjmjbfhpaaaDoorRegs
import Derived.Deep.Cut
namespace Go.Proofs.YtidifjmjbfhpaaaDoor
set_option linter.unusedVariables false
set_option maxRecDepth 20000
set_option linter.unusedSimpArgs false
open Go.RowKit

set_option maxHeartbeats 20000000 in
theorem fnDeMorgan_walk (na nb : Bool) (ax ay : Option Addr) (nx cx ny cy : Nat) (fx fy : Nat → Nat) (hfx : ∀ i, fx i < BW) (hfy : ∀ i, fy i < BW) (w : World) (hxc : nx ≤ cx) (hyc : ny ≤ cy) (hcx : cx ≤ 9223372036854775807) (hcy : cy ≤ 9223372036854775807)
    (hrx : Reads w .u64 ax nx fx) (hry : Reads w .u64 ay ny fy) (hone : One w) :
    Calls Tryd.prog 8 #[.agg #[.bool na, .slice ax nx cx], .agg #[.bool nb, .slice ay ny cy]] w fun e w' => e = .returned (.bool true) ∧ Below w.heap.size w w' := by
  have hnot : ∀ (x : Bool) (w : World), (Op.unary .not (.bool x)).run Tryd.prog w = .ok (.bool (!x)) w := fun _ _ => rfl
  have hfld := field_nat
  obtain ⟨W1, HW1⟩ : ∃ W, Hid (W = w.alloc (.cells #[.bool na, .slice ax nx cx] 24)) := ⟨_, Lib.hid rfl⟩
  obtain ⟨W2, HW2⟩ : ∃ W, Hid (W = W1.alloc (.cells #[.bool nb, .slice ay ny cy] 24)) := ⟨_, Lib.hid rfl⟩
  have s1 : W1.heap.size = w.heap.size + 1 := by rw [HW1.out]; simp
  have b2 : Below w.heap.size w W2 := by rw [HW2.out, HW1.out]; exact ((Below.refl _ w).alloc (Nat.le_refl _) _).alloc (by simp) _
  have a2 : Args2 W2 w.heap.size (w.heap.size + 1) na ax nx cx fx nb ay ny cy fy := by
    refine ⟨⟨?_, hrx.below b2⟩, ⟨?_, hry.below b2⟩⟩
    · rw [HW2.out, HW1.out]; exact (Pair.new w _ _ _).alloc _
    · rw [HW2.out, ← s1]; exact Pair.new W1 _ _ _
  have F0 := Lib.hid (And.intro b2 a2)
  have HO := Lib.hid hone
  clear hrx hry hone b2 a2 s1
  by_cases h1 : nx ≤ 2147483647
  · by_cases h2 : ny ≤ 2147483647
    · by_cases h3 : 20 < nx
      · have KX := Lib.hid (fun u => show Calls Tryd.prog 10 #[.agg #[.bool na, .slice ax nx cx]] u fun e w' => e = .returned (.bool true) ∧ Below u.heap.size u w' from by have := fits_any na ax nx cx u (by omega); rwa [show decide (nx ≤ 2147483647) = true by simp; omega] at this)
        have KY := Lib.hid (fun u => show Calls Tryd.prog 10 #[.agg #[.bool nb, .slice ay ny cy]] u fun e w' => e = .returned (.bool true) ∧ Below u.heap.size u w' from by have := fits_any nb ay ny cy u (by omega); rwa [show decide (ny ≤ 2147483647) = true by simp; omega] at this)
        have BX := Lib.hid (fun u => show Calls Tryd.prog 12 #[.agg #[.bool na, .slice ax nx cx], .int .i64 20] u fun e w' => e = .returned (.bool true) ∧ Below u.heap.size u w' from by have := big_any na ax nx cx 20 u (by omega); rwa [show decide ((20 : Int) < (nx : Int)) = true by simp; omega] at this)
        go_enter Tryd.func8, Tryd.ntmps8
        go_wp2_with fail
        rw [← HW1.out, ← HW2.out]
        refine (KX.out _).mono ?_
        rintro e w3 ⟨rfl, b3⟩
        have d3 := below_trans F0.out.1 b3
        have a3 := F0.out.2.below b3
        clear b3
        have c0 := a3.1.1.cell0
        have c1 := a3.1.1.cell1
        have c2 := a3.2.1.cell0
        have c3 := a3.2.1.cell1
        go_wp2_with fail
        refine (KY.out _).mono ?_
        rintro e w4 ⟨rfl, b4⟩
        have d4 := below_trans d3 b4
        have a4 := a3.below b4
        clear b4 c0 c1 c2 c3 d3 a3
        have c0 := a4.1.1.cell0
        have c1 := a4.1.1.cell1
        have c2 := a4.2.1.cell0
        have c3 := a4.2.1.cell1
        go_wp2_with fail
        refine (BX.out _).mono ?_
        rintro e w5 ⟨rfl, b5⟩
        have d5 := below_trans d4 b5
        have a5 := a4.below b5
        clear b5 c0 c1 c2 c3 d4 a4
        have DD := Lib.hid d5
        clear d5 a5
        go_wp2
        go_ret
        exact ⟨rfl, DD.out⟩
      · by_cases h4 : 20 < ny
        · have KX := Lib.hid (fun u => show Calls Tryd.prog 10 #[.agg #[.bool na, .slice ax nx cx]] u fun e w' => e = .returned (.bool true) ∧ Below u.heap.size u w' from by have := fits_any na ax nx cx u (by omega); rwa [show decide (nx ≤ 2147483647) = true by simp; omega] at this)
          have KY := Lib.hid (fun u => show Calls Tryd.prog 10 #[.agg #[.bool nb, .slice ay ny cy]] u fun e w' => e = .returned (.bool true) ∧ Below u.heap.size u w' from by have := fits_any nb ay ny cy u (by omega); rwa [show decide (ny ≤ 2147483647) = true by simp; omega] at this)
          have BX := Lib.hid (fun u => show Calls Tryd.prog 12 #[.agg #[.bool na, .slice ax nx cx], .int .i64 20] u fun e w' => e = .returned (.bool false) ∧ Below u.heap.size u w' from by have := big_any na ax nx cx 20 u (by omega); rwa [show decide ((20 : Int) < (nx : Int)) = false by simp; omega] at this)
          have BY := Lib.hid (fun u => show Calls Tryd.prog 12 #[.agg #[.bool nb, .slice ay ny cy], .int .i64 20] u fun e w' => e = .returned (.bool true) ∧ Below u.heap.size u w' from by have := big_any nb ay ny cy 20 u (by omega); rwa [show decide ((20 : Int) < (ny : Int)) = true by simp; omega] at this)
          go_enter Tryd.func8, Tryd.ntmps8
          go_wp2_with fail
          rw [← HW1.out, ← HW2.out]
          refine (KX.out _).mono ?_
          rintro e w3 ⟨rfl, b3⟩
          have d3 := below_trans F0.out.1 b3
          have a3 := F0.out.2.below b3
          clear b3
          have c0 := a3.1.1.cell0
          have c1 := a3.1.1.cell1
          have c2 := a3.2.1.cell0
          have c3 := a3.2.1.cell1
          go_wp2_with fail
          refine (KY.out _).mono ?_
          rintro e w4 ⟨rfl, b4⟩
          have d4 := below_trans d3 b4
          have a4 := a3.below b4
          clear b4 c0 c1 c2 c3 d3 a3
          have c0 := a4.1.1.cell0
          have c1 := a4.1.1.cell1
          have c2 := a4.2.1.cell0
          have c3 := a4.2.1.cell1
          go_wp2_with fail
          refine (BX.out _).mono ?_
          rintro e w5 ⟨rfl, b5⟩
          have d5 := below_trans d4 b5
          have a5 := a4.below b5
          clear b5 c0 c1 c2 c3 d4 a4
          have c0 := a5.1.1.cell0
          have c1 := a5.1.1.cell1
          have c2 := a5.2.1.cell0
          have c3 := a5.2.1.cell1
          go_wp2_with fail
          refine (BY.out _).mono ?_
          rintro e w6 ⟨rfl, b6⟩
          have d6 := below_trans d5 b6
          have a6 := a5.below b6
          clear b6 c0 c1 c2 c3 d5 a5
          have DD := Lib.hid d6
          clear d6 a6
          go_wp2
          go_ret
          exact ⟨rfl, DD.out⟩
        · have KX := Lib.hid (fun u => show Calls Tryd.prog 10 #[.agg #[.bool na, .slice ax nx cx]] u fun e w' => e = .returned (.bool true) ∧ Below u.heap.size u w' from by have := fits_any na ax nx cx u (by omega); rwa [show decide (nx ≤ 2147483647) = true by simp; omega] at this)
          have KY := Lib.hid (fun u => show Calls Tryd.prog 10 #[.agg #[.bool nb, .slice ay ny cy]] u fun e w' => e = .returned (.bool true) ∧ Below u.heap.size u w' from by have := fits_any nb ay ny cy u (by omega); rwa [show decide (ny ≤ 2147483647) = true by simp; omega] at this)
          have BX := Lib.hid (fun u => show Calls Tryd.prog 12 #[.agg #[.bool na, .slice ax nx cx], .int .i64 20] u fun e w' => e = .returned (.bool false) ∧ Below u.heap.size u w' from by have := big_any na ax nx cx 20 u (by omega); rwa [show decide ((20 : Int) < (nx : Int)) = false by simp; omega] at this)
          have BY := Lib.hid (fun u => show Calls Tryd.prog 12 #[.agg #[.bool nb, .slice ay ny cy], .int .i64 20] u fun e w' => e = .returned (.bool false) ∧ Below u.heap.size u w' from by have := big_any nb ay ny cy 20 u (by omega); rwa [show decide ((20 : Int) < (ny : Int)) = false by simp; omega] at this)
          go_enter Tryd.func8, Tryd.ntmps8
          go_wp2_with fail
          rw [← HW1.out, ← HW2.out]
          refine (KX.out _).mono ?_
          rintro e w3 ⟨rfl, b3⟩
          have d3 := below_trans F0.out.1 b3
          have a3 := F0.out.2.below b3
          clear b3
          have c0 := a3.1.1.cell0
          have c1 := a3.1.1.cell1
          have c2 := a3.2.1.cell0
          have c3 := a3.2.1.cell1
          go_wp2_with fail
          refine (KY.out _).mono ?_
          rintro e w4 ⟨rfl, b4⟩
          have d4 := below_trans d3 b4
          have a4 := a3.below b4
          clear b4 c0 c1 c2 c3 d3 a3
          have c0 := a4.1.1.cell0
          have c1 := a4.1.1.cell1
          have c2 := a4.2.1.cell0
          have c3 := a4.2.1.cell1
          go_wp2_with fail
          refine (BX.out _).mono ?_
          rintro e w5 ⟨rfl, b5⟩
          have d5 := below_trans d4 b5
          have a5 := a4.below b5
          clear b5 c0 c1 c2 c3 d4 a4
          have c0 := a5.1.1.cell0
          have c1 := a5.1.1.cell1
          have c2 := a5.2.1.cell0
          have c3 := a5.2.1.cell1
          go_wp2_with fail
          refine (BY.out _).mono ?_
          rintro e w6 ⟨rfl, b6⟩
          have d6 := below_trans d5 b6
          have a6 := a5.below b6
          clear b6 c0 c1 c2 c3 d5 a5
          have c0 := a6.1.1.cell0
          have c1 := a6.1.1.cell1
          have c2 := a6.2.1.cell0
          have c3 := a6.2.1.cell1
          have hVn : nlen BW (val BW fx nx) ≤ 20 := by rw [nlen_le_iff BW_one]; exact Nat.lt_of_lt_of_le (val_lt fun i _ => hfx i) (Nat.pow_le_pow_right (by unfold BW; omega) (by omega))
          have hUn : nlen BW (val BW fy ny) ≤ 20 := by rw [nlen_le_iff BW_one]; exact Nat.lt_of_lt_of_le (val_lt fun i _ => hfy i) (Nat.pow_le_pow_right (by unfold BW; omega) (by omega))
          obtain ⟨X, hX⟩ : ∃ Z : Bool × Nat, Hid (Z = (sgn na (val BW fx nx), val BW fx nx)) := ⟨_, Lib.hid rfl⟩
          obtain ⟨Y, hY⟩ : ∃ Z : Bool × Nat, Hid (Z = (sgn nb (val BW fy ny), val BW fy ny)) := ⟨_, Lib.hid rfl⟩
          obtain ⟨A, hA⟩ : ∃ Z : Bool × Nat, Hid (Z = opR 0 X.1 X.2 Y.1 Y.2) := ⟨_, Lib.hid rfl⟩
          obtain ⟨O, hO⟩ : ∃ Z : Bool × Nat, Hid (Z = opR 1 X.1 X.2 Y.1 Y.2) := ⟨_, Lib.hid rfl⟩
          obtain ⟨XO, hXO⟩ : ∃ Z : Bool × Nat, Hid (Z = opR 2 X.1 X.2 Y.1 Y.2) := ⟨_, Lib.hid rfl⟩
          obtain ⟨NX, hNX⟩ : ∃ Z : Bool × Nat, Hid (Z = opR 4 X.1 X.2 false 0) := ⟨_, Lib.hid rfl⟩
          obtain ⟨NY, hNY⟩ : ∃ Z : Bool × Nat, Hid (Z = opR 4 Y.1 Y.2 false 0) := ⟨_, Lib.hid rfl⟩
          obtain ⟨T, hT⟩ : ∃ Z : Bool × Nat, Hid (Z = opR 1 NX.1 NX.2 NY.1 NY.2) := ⟨_, Lib.hid rfl⟩
          obtain ⟨S1, hS1⟩ : ∃ Z : Bool × Nat, Hid (Z = plusR A.1 A.2 O.1 O.2) := ⟨_, Lib.hid rfl⟩
          obtain ⟨S2, hS2⟩ : ∃ Z : Bool × Nat, Hid (Z = plusR X.1 X.2 Y.1 Y.2) := ⟨_, Lib.hid rfl⟩
          have PX := Lib.hid (show X.1 = true → 1 ≤ X.2 by rw [hX.out]; exact sgn_pos na _)
          have PY := Lib.hid (show Y.1 = true → 1 ≤ Y.2 by rw [hY.out]; exact sgn_pos nb _)
          have PA := Lib.hid (show A.1 = true → 1 ≤ A.2 by rw [hA.out]; exact opR_pos _ _ _ _ _)
          have PO := Lib.hid (show O.1 = true → 1 ≤ O.2 by rw [hO.out]; exact opR_pos _ _ _ _ _)
          have PXO := Lib.hid (show XO.1 = true → 1 ≤ XO.2 by rw [hXO.out]; exact opR_pos _ _ _ _ _)
          have PNX := Lib.hid (show NX.1 = true → 1 ≤ NX.2 by rw [hNX.out]; exact opR_pos _ _ _ _ _)
          have PNY := Lib.hid (show NY.1 = true → 1 ≤ NY.2 by rw [hNY.out]; exact opR_pos _ _ _ _ _)
          have PT := Lib.hid (show T.1 = true → 1 ≤ T.2 by rw [hT.out]; exact opR_pos _ _ _ _ _)
          have h00 : nlen BW 0 = 0 := (nlen_eq_zero (by unfold BW; omega) 0).2 rfl
          have LX := Lib.hid (show nlen BW X.2 ≤ 20 by rw [hX.out]; exact hVn)
          have LY := Lib.hid (show nlen BW Y.2 ≤ 20 by rw [hY.out]; exact hUn)
          have LA := Lib.hid (show nlen BW A.2 ≤ 200000000 by have q1 := opR_nlen 0 X.1 X.2 Y.1 Y.2; have q2 := LX.out; have q3 := LY.out; rw [hA.out]; omega)
          have LO := Lib.hid (show nlen BW O.2 ≤ 200000000 by have q1 := opR_nlen 1 X.1 X.2 Y.1 Y.2; have q2 := LX.out; have q3 := LY.out; rw [hO.out]; omega)
          have LXO := Lib.hid (show nlen BW XO.2 ≤ 200000000 by have q1 := opR_nlen 2 X.1 X.2 Y.1 Y.2; have q2 := LX.out; have q3 := LY.out; rw [hXO.out]; omega)
          have LNX := Lib.hid (show nlen BW NX.2 ≤ 200 by have q1 := opR_nlen 4 X.1 X.2 false 0; have q2 := LX.out; rw [hNX.out]; omega)
          have LNY := Lib.hid (show nlen BW NY.2 ≤ 200 by have q1 := opR_nlen 4 Y.1 Y.2 false 0; have q2 := LY.out; rw [hNY.out]; omega)
          have LT := Lib.hid (show nlen BW T.2 ≤ 200000000 by have q1 := opR_nlen 1 NX.1 NX.2 NY.1 NY.2; have q2 := LNX.out; have q3 := LNY.out; rw [hT.out]; omega)
          have LNX' := Lib.hid (show nlen BW NX.2 ≤ 200000000 from Nat.le_trans LNX.out (by omega))
          have LNY' := Lib.hid (show nlen BW NY.2 ≤ 200000000 from Nat.le_trans LNY.out (by omega))
          have D16 := Lib.hid (show ∀ V : Nat, nlen BW V ≤ 200000000 → nlen 65536 V ≤ 1000000000000 from fun V hV => Nat.le_trans ((nlen_pow (B := 65536) (by omega) 4 (by omega) V 200000000).1 hV) (by omega))
          have HTA := Lib.hid (show A = opR 4 T.1 T.2 false 0 by rw [hT.out, hNX.out, hNY.out, hA.out]; exact (deMorgan X.1 X.2 Y.1 Y.2).symm)
          have HXO := Lib.hid (show XO = opR 3 O.1 O.2 A.1 A.2 by rw [hXO.out, hO.out, hA.out]; exact (xorOrAnd X.1 X.2 Y.1 Y.2).symm)
          have HSS := Lib.hid (show S1.2 = S2.2 by rw [hS1.out, hS2.out, hA.out, hO.out]; exact sumLaw X.1 X.2 Y.1 Y.2 PX.out PY.out)
          have LS2 := Lib.hid (show nlen 65536 S2.2 ≤ 1000000000000 by
            refine D16.out _ ?_
            have q1 := (nlen_le_iff BW_one X.2 20).1 LX.out
            have q2 := (nlen_le_iff BW_one Y.2 20).1 LY.out
            have q3 : S2.2 ≤ X.2 + Y.2 := by rw [hS2.out, plus_size]; split <;> (try split) <;> omega
            have q4 : BW ^ 20 + BW ^ 20 ≤ BW ^ 21 := by unfold BW; decide
            have q5 : S2.2 < BW ^ 20 + BW ^ 20 := by omega
            exact Nat.le_trans ((nlen_le_iff BW_one S2.2 21).2 (Nat.lt_of_lt_of_le q5 q4)) (by omega))
          have LS1 := Lib.hid (show nlen 65536 S1.2 ≤ 1000000000000 by rw [HSS.out]; exact LS2.out)
          have KB := Lib.hid (show ∀ u, Below w6.heap.size w6 u → Args2 u w.heap.size (w.heap.size + 1) na ax nx cx fx nb ay ny cy fy ∧ One u ∧ Below w.heap.size w u from fun u hu => ⟨a6.below hu, HO.out.below (below_trans d6 hu), below_trans d6 hu⟩)
          have KB0 := Lib.hid (show ∀ u, Below w6.heap.size w6 u → Calls Tryd.prog 23 #[.int .i64 0, .agg #[.bool na, .slice ax nx cx], .agg #[.bool nb, .slice ay ny cy]] u (NumP A u) from fun u hu => bits_raw 0 (by omega) na nb ax ay nx cx ny cy fx fy A (fun i _ => hfx i) (fun i _ => hfy i) u hxc hyc (by omega) (by omega) (KB.out u hu).1.1.2 (KB.out u hu).1.2.2 (KB.out u hu).2.1 (by rw [hA.out, hX.out, hY.out]))
          have KB1 := Lib.hid (show ∀ u, Below w6.heap.size w6 u → Calls Tryd.prog 23 #[.int .i64 1, .agg #[.bool na, .slice ax nx cx], .agg #[.bool nb, .slice ay ny cy]] u (NumP O u) from fun u hu => bits_raw 1 (by omega) na nb ax ay nx cx ny cy fx fy O (fun i _ => hfx i) (fun i _ => hfy i) u hxc hyc (by omega) (by omega) (KB.out u hu).1.1.2 (KB.out u hu).1.2.2 (KB.out u hu).2.1 (by rw [hO.out, hX.out, hY.out]))
          have KB2 := Lib.hid (show ∀ u, Below w6.heap.size w6 u → Calls Tryd.prog 23 #[.int .i64 2, .agg #[.bool na, .slice ax nx cx], .agg #[.bool nb, .slice ay ny cy]] u (NumP XO u) from fun u hu => bits_raw 2 (by omega) na nb ax ay nx cx ny cy fx fy XO (fun i _ => hfx i) (fun i _ => hfy i) u hxc hyc (by omega) (by omega) (KB.out u hu).1.1.2 (KB.out u hu).1.2.2 (KB.out u hu).2.1 (by rw [hXO.out, hX.out, hY.out]))
          have KNX := Lib.hid (show ∀ u, Below w6.heap.size w6 u → Calls Tryd.prog 23 #[.int .i64 4, .agg #[.bool na, .slice ax nx cx], .agg #[.bool false, .slice none 0 0]] u (NumP NX u) from fun u hu => not_raw na ax nx cx fx NX (fun i _ => hfx i) u hxc (by omega) (KB.out u hu).1.1.2 (KB.out u hu).2.1 (by rw [hNX.out, hX.out]))
          have KNY := Lib.hid (show ∀ u, Below w6.heap.size w6 u → Calls Tryd.prog 23 #[.int .i64 4, .agg #[.bool nb, .slice ay ny cy], .agg #[.bool false, .slice none 0 0]] u (NumP NY u) from fun u hu => not_raw nb ay ny cy fy NY (fun i _ => hfy i) u hyc (by omega) (KB.out u hu).1.2.2 (KB.out u hu).2.1 (by rw [hNY.out, hY.out]))
          have KIX := Lib.hid (show ∀ u, Below w6.heap.size w6 u → Calls Tryd.prog 11 #[.agg #[.bool na, .slice ax nx cx]] u (IntP X u) from fun u hu => in_raw na ax nx cx fx X (fun i _ => hfx i) u hxc (by omega) (KB.out u hu).1.1.2 (by rw [hX.out]))
          have KIY := Lib.hid (show ∀ u, Below w6.heap.size w6 u → Calls Tryd.prog 11 #[.agg #[.bool nb, .slice ay ny cy]] u (IntP Y u) from fun u hu => in_raw nb ay ny cy fy Y (fun i _ => hfy i) u hyc (by omega) (KB.out u hu).1.2.2 (by rw [hY.out]))
          obtain ⟨W6, HW6⟩ : ∃ W, Hid (W = w6.alloc (.cells #[.bool false, .slice none 0 0] 24)) := ⟨_, Lib.hid rfl⟩
          have b6 : Below w6.heap.size w6 W6 := by rw [HW6.out]; exact (Below.refl _ w6).alloc (Nat.le_refl _) _
          obtain ⟨p5, hp5⟩ : ∃ p, Hid (p = w6.heap.size) := ⟨_, Lib.hid rfl⟩
          have P5 : Pair W6 p5 24 (.bool false) (.slice none 0 0) := by rw [hp5.out, HW6.out]; exact Pair.new w6 _ _ _
          have DW := Lib.hid b6
          have K5 := Lib.hid (show ∀ u, Below W6.heap.size W6 u → Pair u p5 24 (.bool false) (.slice none 0 0) from fun u hu => P5.below hu P5.lt)
          clear hVn hUn h00 d6 a6 b6 P5
          go_upto_region 6 with fail
          clear c0 c1 c2 c3
          rw [← HW6.out, ← hp5.out]
          have KS := Lib.hid (show ∀ u, Below W6.heap.size W6 u → u.cell? ⟨w.heap.size, 0, none⟩ = some (.bool na) ∧ u.cell? ⟨w.heap.size, 1, none⟩ = some (.slice ax nx cx) ∧ u.cell? ⟨w.heap.size + 1, 0, none⟩ = some (.bool nb) ∧ u.cell? ⟨w.heap.size + 1, 1, none⟩ = some (.slice ay ny cy) from fun u hu => by
            have q := (KB.out u (below_trans DW.out hu)).1
            exact ⟨q.1.1.cell0, q.1.1.cell1, q.2.1.cell0, q.2.1.cell1⟩)
          go_cut [6, 7] from 10 (fun s6 s7 wc => ∃ p6 p7 a6 c6 a7 c7, s6 = .pointer (some ⟨p6, 0, none⟩) ∧ s7 = .pointer (some ⟨p7, 0, none⟩) ∧ Pair wc p6 24 (.bool A.1) (.slice a6 (nlen BW A.2) c6) ∧ Pair wc p7 24 (.bool O.1) (.slice a7 (nlen BW O.2) c7) ∧ NumAt wc A a6 c6 ∧ NumAt wc O a7 c7 ∧ Below W6.heap.size W6 wc)
          case first =>
            refine reg_begin (fun u => Below W6.heap.size W6 u) 9 10 #[false, false, false, false, false, false, false, false, false, false] (by kernel_rfl) rfl rfl ⟨rfl, rfl, rfl, Nat.le_refl _, fun _ _ => rfl⟩ ?_
            obtain ⟨y0, hy0⟩ : ∃ y, Hid (y = W6.drew) := ⟨_, Lib.hid rfl⟩
            have d0 : Below W6.heap.size W6 y0 := by rw [hy0.out]; exact ⟨rfl, rfl, rfl, Nat.le_refl _, fun _ _ => rfl⟩
            rw [← hy0.out]
            refine reg_take 0 [9] (l := #[true, false, false, false, false, false, false, false, false, false]) rfl rfl rfl (by kernel_rfl) (by kernel_rfl) (by kernel_rfl) (by kernel_rfl) (fun _ _ _ h => h) (v := .agg #[.bool na, .slice ax nx cx]) (.inl ⟨by kernel_rfl, ?_⟩) d0 ?_
            · intro w' hb; have hq := KS.out w' hb; have h1 := hq.1; have h2 := hq.2.1; have h3 := hq.2.2.1; have h4 := hq.2.2.2; clear hq; go_simp
            simp only [Act.put, List.setIfInBounds_toArray, List.set_cons_zero, List.set_cons_succ]
            refine reg_take 1 [9] (l := #[true, true, false, false, false, false, false, false, false, false]) rfl rfl rfl (by kernel_rfl) (by kernel_rfl) (by kernel_rfl) (by kernel_rfl) (fun _ _ _ h => h) (v := .agg #[.bool nb, .slice ay ny cy]) (.inl ⟨by kernel_rfl, ?_⟩) d0 ?_
            · intro w' hb; have hq := KS.out w' hb; have h1 := hq.1; have h2 := hq.2.1; have h3 := hq.2.2.1; have h4 := hq.2.2.2; clear hq; go_simp
            simp only [Act.put, List.setIfInBounds_toArray, List.set_cons_zero, List.set_cons_succ]
            refine reg_take 3 [9] (l := #[true, true, false, true, false, false, false, false, false, false]) rfl rfl rfl (by kernel_rfl) (by kernel_rfl) (by kernel_rfl) (by kernel_rfl) (fun _ _ _ h => h) (v := .agg #[.bool na, .slice ax nx cx]) (.inl ⟨by kernel_rfl, ?_⟩) d0 ?_
            · intro w' hb; have hq := KS.out w' hb; have h1 := hq.1; have h2 := hq.2.1; have h3 := hq.2.2.1; have h4 := hq.2.2.2; clear hq; go_simp
            simp only [Act.put, List.setIfInBounds_toArray, List.set_cons_zero, List.set_cons_succ]
            refine reg_take 4 [9] (l := #[true, true, false, true, true, false, false, false, false, false]) rfl rfl rfl (by kernel_rfl) (by kernel_rfl) (by kernel_rfl) (by kernel_rfl) (fun _ _ _ h => h) (v := .agg #[.bool nb, .slice ay ny cy]) (.inl ⟨by kernel_rfl, ?_⟩) d0 ?_
            · intro w' hb; have hq := KS.out w' hb; have h1 := hq.1; have h2 := hq.2.1; have h3 := hq.2.2.1; have h4 := hq.2.2.2; clear hq; go_simp
            simp only [Act.put, List.setIfInBounds_toArray, List.set_cons_zero, List.set_cons_succ]
            refine reg_three (j := 2) (k := 6) (i := 7) (l := #[true, true, true, true, true, false, false, false, false, false]) (m := #[true, true, false, true, true, false, true, false, false, false]) (n := #[true, true, false, true, true, false, false, true, false, false]) rfl rfl rfl (by kernel_rfl) rfl rfl rfl ?_ ?_ ?_
            · refine reg_call (by kernel_rfl) (KB0.out y0 (below_trans DW.out d0)) (by go_simp) ?_
              rintro e y1 ⟨a2, c2, rfl, n2, b1⟩
              have d1 := below_trans d0 b1
              refine ⟨_, rfl, d1, ?_⟩
              clear b1
              simp only [Act.put, List.setIfInBounds_toArray, List.set_cons_zero, List.set_cons_succ]
              refine reg_three (j := 5) (k := 6) (i := 7) (l := #[true, true, true, true, true, true, false, false, false, false]) (m := #[true, true, true, true, true, false, true, false, false, false]) (n := #[true, true, true, true, true, false, false, true, false, false]) rfl rfl rfl (by kernel_rfl) rfl rfl rfl ?_ ?_ ?_
              · refine reg_call (by kernel_rfl) (KB1.out y1 (below_trans DW.out d1)) (by go_simp) ?_
                rintro e y2 ⟨a5, c5, rfl, n5, b2⟩
                have d2 := below_trans d1 b2
                have n2 := n2.below b2
                refine ⟨_, rfl, d2, ?_⟩
                clear b2
                simp only [Act.put, List.setIfInBounds_toArray, List.set_cons_zero, List.set_cons_succ]
                refine reg_two (j := 6) (k := 7) (l := #[true, true, true, true, true, true, true, false, false, false]) (m := #[true, true, true, true, true, true, false, true, false, false]) rfl rfl (by kernel_rfl) rfl rfl ?_ ?_
                · obtain ⟨y3, hy3⟩ : ∃ W, Hid (W = y2.alloc (.cells #[.bool false, .slice none 0 0] 24)) := ⟨_, Lib.hid rfl⟩
                  have b3 : Below y2.heap.size y2 y3 := by rw [hy3.out]; exact (Below.refl _ y2).alloc (Nat.le_refl _) _
                  have d3 := below_trans d2 b3
                  obtain ⟨pP6, hpP6⟩ : ∃ p, Hid (p = y2.heap.size) := ⟨_, Lib.hid rfl⟩
                  have P6 : Pair y3 pP6 24 (.bool false) (.slice none 0 0) := by rw [hpP6.out, hy3.out]; exact Pair.new y2 _ _ _
                  have lP6 : W6.heap.size ≤ pP6 := by rw [hpP6.out]; exact d2.size
                  have n2 := n2.below b3
                  have n5 := n5.below b3
                  refine reg_mem (v := .pointer (some ⟨pP6, 0, none⟩)) (w' := y3) (by kernel_rfl) ?_ d3 ?_
                  · intro K' hk; go_simp; rw [← hy3.out, ← hpP6.out]; exact hk
                  clear b3
                  simp only [Act.put, List.setIfInBounds_toArray, List.set_cons_zero, List.set_cons_succ]
                  refine reg_one (j := 7) (l := #[true, true, true, true, true, true, true, true, false, false]) rfl (by kernel_rfl) rfl ?_
                  obtain ⟨y4, hy4⟩ : ∃ W, Hid (W = y3.alloc (.cells #[.bool false, .slice none 0 0] 24)) := ⟨_, Lib.hid rfl⟩
                  have b4 : Below y3.heap.size y3 y4 := by rw [hy4.out]; exact (Below.refl _ y3).alloc (Nat.le_refl _) _
                  have d4 := below_trans d3 b4
                  obtain ⟨pP7, hpP7⟩ : ∃ p, Hid (p = y3.heap.size) := ⟨_, Lib.hid rfl⟩
                  have P7 : Pair y4 pP7 24 (.bool false) (.slice none 0 0) := by rw [hpP7.out, hy4.out]; exact Pair.new y3 _ _ _
                  have lP7 : W6.heap.size ≤ pP7 := by rw [hpP7.out]; exact d3.size
                  have neP6P7 : pP6 ≠ pP7 := by rw [hpP7.out]; exact Nat.ne_of_lt P6.lt
                  have neP7P6 := neP6P7.symm
                  have n2 := n2.below b4
                  have n5 := n5.below b4
                  have P6 := P6.below b4 P6.lt
                  refine reg_mem (v := .pointer (some ⟨pP7, 0, none⟩)) (w' := y4) (by kernel_rfl) ?_ d4 ?_
                  · intro K' hk; go_simp; rw [← hy4.out, ← hpP7.out]; exact hk
                  clear b4
                  simp only [Act.put, List.setIfInBounds_toArray, List.set_cons_zero, List.set_cons_succ]
                  refine reg_one (j := 8) (l := #[true, true, true, true, true, true, true, true, true, false]) rfl (by kernel_rfl) rfl ?_
                  have x0 := P6.cell0
                  have x1 := P6.cell1
                  have x2 := P6.free 0
                  have x3 := P6.free 1
                  obtain ⟨y5, hy5⟩ : ∃ W, Hid (W = put2 y4 pP6 (.bool A.1) (.slice a2 (nlen BW A.2) c2)) := ⟨_, Lib.hid rfl⟩
                  have d5 : Below W6.heap.size W6 y5 := by rw [hy5.out]; exact below_put2 d4 lP6 _ _
                  refine reg_mem (v := undef) (w' := y5) (by kernel_rfl) ?_ d5 ?_
                  · intro K' hk; rw [hy5.out] at hk; go_simp; exact hk
                  clear x0 x1 x2 x3
                  simp only [Act.put, List.setIfInBounds_toArray, List.set_cons_zero, List.set_cons_succ]
                  have n2 := n2.put2 P6 (.bool A.1) (.slice a2 (nlen BW A.2) c2)
                  rw [← hy5.out] at n2
                  have n5 := n5.put2 P6 (.bool A.1) (.slice a2 (nlen BW A.2) c2)
                  rw [← hy5.out] at n5
                  have P7 := P7.put2o (.bool A.1) (.slice a2 (nlen BW A.2) c2) neP7P6
                  rw [← hy5.out] at P7
                  have P6 := P6.put2 (.bool A.1) (.slice a2 (nlen BW A.2) c2)
                  rw [← hy5.out] at P6
                  refine reg_one (j := 9) (l := #[true, true, true, true, true, true, true, true, true, true]) rfl (by kernel_rfl) rfl ?_
                  have x0 := P7.cell0
                  have x1 := P7.cell1
                  have x2 := P7.free 0
                  have x3 := P7.free 1
                  obtain ⟨y6, hy6⟩ : ∃ W, Hid (W = put2 y5 pP7 (.bool O.1) (.slice a5 (nlen BW O.2) c5)) := ⟨_, Lib.hid rfl⟩
                  have d6 : Below W6.heap.size W6 y6 := by rw [hy6.out]; exact below_put2 d5 lP7 _ _
                  refine reg_mem (v := undef) (w' := y6) (by kernel_rfl) ?_ d6 ?_
                  · intro K' hk; rw [hy6.out] at hk; go_simp; exact hk
                  clear x0 x1 x2 x3
                  simp only [Act.put, List.setIfInBounds_toArray, List.set_cons_zero, List.set_cons_succ]
                  have n2 := n2.put2 P7 (.bool O.1) (.slice a5 (nlen BW O.2) c5)
                  rw [← hy6.out] at n2
                  have n5 := n5.put2 P7 (.bool O.1) (.slice a5 (nlen BW O.2) c5)
                  rw [← hy6.out] at n5
                  have P6 := P6.put2o (.bool O.1) (.slice a5 (nlen BW O.2) c5) neP6P7
                  rw [← hy6.out] at P6
                  have P7 := P7.put2 (.bool O.1) (.slice a5 (nlen BW O.2) c5)
                  rw [← hy6.out] at P7
                  refine until_done (by kernel_rfl) ?_ _
                  go_wp2_with fail
                  go_meet
                  exact ⟨_, _, _, _, _, _, rfl, rfl, P6, P7, n2, n5, d6⟩
                · obtain ⟨y3, hy3⟩ : ∃ W, Hid (W = y2.alloc (.cells #[.bool false, .slice none 0 0] 24)) := ⟨_, Lib.hid rfl⟩
                  have b3 : Below y2.heap.size y2 y3 := by rw [hy3.out]; exact (Below.refl _ y2).alloc (Nat.le_refl _) _
                  have d3 := below_trans d2 b3
                  obtain ⟨pP7, hpP7⟩ : ∃ p, Hid (p = y2.heap.size) := ⟨_, Lib.hid rfl⟩
                  have P7 : Pair y3 pP7 24 (.bool false) (.slice none 0 0) := by rw [hpP7.out, hy3.out]; exact Pair.new y2 _ _ _
                  have lP7 : W6.heap.size ≤ pP7 := by rw [hpP7.out]; exact d2.size
                  have n2 := n2.below b3
                  have n5 := n5.below b3
                  refine reg_mem (v := .pointer (some ⟨pP7, 0, none⟩)) (w' := y3) (by kernel_rfl) ?_ d3 ?_
                  · intro K' hk; go_simp; rw [← hy3.out, ← hpP7.out]; exact hk
                  clear b3
                  simp only [Act.put, List.setIfInBounds_toArray, List.set_cons_zero, List.set_cons_succ]
                  refine reg_one (j := 6) (l := #[true, true, true, true, true, true, true, true, false, false]) rfl (by kernel_rfl) rfl ?_
                  obtain ⟨y4, hy4⟩ : ∃ W, Hid (W = y3.alloc (.cells #[.bool false, .slice none 0 0] 24)) := ⟨_, Lib.hid rfl⟩
                  have b4 : Below y3.heap.size y3 y4 := by rw [hy4.out]; exact (Below.refl _ y3).alloc (Nat.le_refl _) _
                  have d4 := below_trans d3 b4
                  obtain ⟨pP6, hpP6⟩ : ∃ p, Hid (p = y3.heap.size) := ⟨_, Lib.hid rfl⟩
                  have P6 : Pair y4 pP6 24 (.bool false) (.slice none 0 0) := by rw [hpP6.out, hy4.out]; exact Pair.new y3 _ _ _
                  have lP6 : W6.heap.size ≤ pP6 := by rw [hpP6.out]; exact d3.size
                  have neP7P6 : pP7 ≠ pP6 := by rw [hpP6.out]; exact Nat.ne_of_lt P7.lt
                  have neP6P7 := neP7P6.symm
                  have n2 := n2.below b4
                  have n5 := n5.below b4
                  have P7 := P7.below b4 P7.lt
                  refine reg_mem (v := .pointer (some ⟨pP6, 0, none⟩)) (w' := y4) (by kernel_rfl) ?_ d4 ?_
                  · intro K' hk; go_simp; rw [← hy4.out, ← hpP6.out]; exact hk
                  clear b4
                  simp only [Act.put, List.setIfInBounds_toArray, List.set_cons_zero, List.set_cons_succ]
                  refine reg_one (j := 8) (l := #[true, true, true, true, true, true, true, true, true, false]) rfl (by kernel_rfl) rfl ?_
                  have x0 := P6.cell0
                  have x1 := P6.cell1
                  have x2 := P6.free 0
                  have x3 := P6.free 1
                  obtain ⟨y5, hy5⟩ : ∃ W, Hid (W = put2 y4 pP6 (.bool A.1) (.slice a2 (nlen BW A.2) c2)) := ⟨_, Lib.hid rfl⟩
                  have d5 : Below W6.heap.size W6 y5 := by rw [hy5.out]; exact below_put2 d4 lP6 _ _
                  refine reg_mem (v := undef) (w' := y5) (by kernel_rfl) ?_ d5 ?_
                  · intro K' hk; rw [hy5.out] at hk; go_simp; exact hk
                  clear x0 x1 x2 x3
                  simp only [Act.put, List.setIfInBounds_toArray, List.set_cons_zero, List.set_cons_succ]
                  have n2 := n2.put2 P6 (.bool A.1) (.slice a2 (nlen BW A.2) c2)
                  rw [← hy5.out] at n2
                  have n5 := n5.put2 P6 (.bool A.1) (.slice a2 (nlen BW A.2) c2)
                  rw [← hy5.out] at n5
                  have P7 := P7.put2o (.bool A.1) (.slice a2 (nlen BW A.2) c2) neP7P6
                  rw [← hy5.out] at P7
                  have P6 := P6.put2 (.bool A.1) (.slice a2 (nlen BW A.2) c2)
                  rw [← hy5.out] at P6
                  refine reg_one (j := 9) (l := #[true, true, true, true, true, true, true, true, true, true]) rfl (by kernel_rfl) rfl ?_
                  have x0 := P7.cell0
                  have x1 := P7.cell1
                  have x2 := P7.free 0
                  have x3 := P7.free 1
                  obtain ⟨y6, hy6⟩ : ∃ W, Hid (W = put2 y5 pP7 (.bool O.1) (.slice a5 (nlen BW O.2) c5)) := ⟨_, Lib.hid rfl⟩
                  have d6 : Below W6.heap.size W6 y6 := by rw [hy6.out]; exact below_put2 d5 lP7 _ _
                  refine reg_mem (v := undef) (w' := y6) (by kernel_rfl) ?_ d6 ?_
                  · intro K' hk; rw [hy6.out] at hk; go_simp; exact hk
                  clear x0 x1 x2 x3
                  simp only [Act.put, List.setIfInBounds_toArray, List.set_cons_zero, List.set_cons_succ]
                  have n2 := n2.put2 P7 (.bool O.1) (.slice a5 (nlen BW O.2) c5)
                  rw [← hy6.out] at n2
                  have n5 := n5.put2 P7 (.bool O.1) (.slice a5 (nlen BW O.2) c5)
                  rw [← hy6.out] at n5
                  have P6 := P6.put2o (.bool O.1) (.slice a5 (nlen BW O.2) c5) neP6P7
                  rw [← hy6.out] at P6
                  have P7 := P7.put2 (.bool O.1) (.slice a5 (nlen BW O.2) c5)
                  rw [← hy6.out] at P7
                  refine until_done (by kernel_rfl) ?_ _
                  go_wp2_with fail
                  go_meet
                  exact ⟨_, _, _, _, _, _, rfl, rfl, P6, P7, n2, n5, d6⟩
              · obtain ⟨y2, hy2⟩ : ∃ W, Hid (W = y1.alloc (.cells #[.bool false, .slice none 0 0] 24)) := ⟨_, Lib.hid rfl⟩
                have b2 : Below y1.heap.size y1 y2 := by rw [hy2.out]; exact (Below.refl _ y1).alloc (Nat.le_refl _) _
                have d2 := below_trans d1 b2
                obtain ⟨pP6, hpP6⟩ : ∃ p, Hid (p = y1.heap.size) := ⟨_, Lib.hid rfl⟩
                have P6 : Pair y2 pP6 24 (.bool false) (.slice none 0 0) := by rw [hpP6.out, hy2.out]; exact Pair.new y1 _ _ _
                have lP6 : W6.heap.size ≤ pP6 := by rw [hpP6.out]; exact d1.size
                have n2 := n2.below b2
                refine reg_mem (v := .pointer (some ⟨pP6, 0, none⟩)) (w' := y2) (by kernel_rfl) ?_ d2 ?_
                · intro K' hk; go_simp; rw [← hy2.out, ← hpP6.out]; exact hk
                clear b2
                simp only [Act.put, List.setIfInBounds_toArray, List.set_cons_zero, List.set_cons_succ]
                refine reg_two (j := 5) (k := 7) (l := #[true, true, true, true, true, true, true, false, false, false]) (m := #[true, true, true, true, true, false, true, true, false, false]) rfl rfl (by kernel_rfl) rfl rfl ?_ ?_
                · refine reg_call (by kernel_rfl) (KB1.out y2 (below_trans DW.out d2)) (by go_simp) ?_
                  rintro e y3 ⟨a5, c5, rfl, n5, b3⟩
                  have d3 := below_trans d2 b3
                  have n2 := n2.below b3
                  have P6 := P6.below b3 P6.lt
                  refine ⟨_, rfl, d3, ?_⟩
                  clear b3
                  simp only [Act.put, List.setIfInBounds_toArray, List.set_cons_zero, List.set_cons_succ]
                  refine reg_one (j := 7) (l := #[true, true, true, true, true, true, true, true, false, false]) rfl (by kernel_rfl) rfl ?_
                  obtain ⟨y4, hy4⟩ : ∃ W, Hid (W = y3.alloc (.cells #[.bool false, .slice none 0 0] 24)) := ⟨_, Lib.hid rfl⟩
                  have b4 : Below y3.heap.size y3 y4 := by rw [hy4.out]; exact (Below.refl _ y3).alloc (Nat.le_refl _) _
                  have d4 := below_trans d3 b4
                  obtain ⟨pP7, hpP7⟩ : ∃ p, Hid (p = y3.heap.size) := ⟨_, Lib.hid rfl⟩
                  have P7 : Pair y4 pP7 24 (.bool false) (.slice none 0 0) := by rw [hpP7.out, hy4.out]; exact Pair.new y3 _ _ _
                  have lP7 : W6.heap.size ≤ pP7 := by rw [hpP7.out]; exact d3.size
                  have neP6P7 : pP6 ≠ pP7 := by rw [hpP7.out]; exact Nat.ne_of_lt P6.lt
                  have neP7P6 := neP6P7.symm
                  have n2 := n2.below b4
                  have P6 := P6.below b4 P6.lt
                  have n5 := n5.below b4
                  refine reg_mem (v := .pointer (some ⟨pP7, 0, none⟩)) (w' := y4) (by kernel_rfl) ?_ d4 ?_
                  · intro K' hk; go_simp; rw [← hy4.out, ← hpP7.out]; exact hk
                  clear b4
                  simp only [Act.put, List.setIfInBounds_toArray, List.set_cons_zero, List.set_cons_succ]
                  refine reg_one (j := 8) (l := #[true, true, true, true, true, true, true, true, true, false]) rfl (by kernel_rfl) rfl ?_
                  have x0 := P6.cell0
                  have x1 := P6.cell1
                  have x2 := P6.free 0
                  have x3 := P6.free 1
                  obtain ⟨y5, hy5⟩ : ∃ W, Hid (W = put2 y4 pP6 (.bool A.1) (.slice a2 (nlen BW A.2) c2)) := ⟨_, Lib.hid rfl⟩
                  have d5 : Below W6.heap.size W6 y5 := by rw [hy5.out]; exact below_put2 d4 lP6 _ _
                  refine reg_mem (v := undef) (w' := y5) (by kernel_rfl) ?_ d5 ?_
                  · intro K' hk; rw [hy5.out] at hk; go_simp; exact hk
                  clear x0 x1 x2 x3
                  simp only [Act.put, List.setIfInBounds_toArray, List.set_cons_zero, List.set_cons_succ]
                  have n2 := n2.put2 P6 (.bool A.1) (.slice a2 (nlen BW A.2) c2)
                  rw [← hy5.out] at n2
                  have n5 := n5.put2 P6 (.bool A.1) (.slice a2 (nlen BW A.2) c2)
                  rw [← hy5.out] at n5
                  have P7 := P7.put2o (.bool A.1) (.slice a2 (nlen BW A.2) c2) neP7P6
                  rw [← hy5.out] at P7
                  have P6 := P6.put2 (.bool A.1) (.slice a2 (nlen BW A.2) c2)
                  rw [← hy5.out] at P6
                  refine reg_one (j := 9) (l := #[true, true, true, true, true, true, true, true, true, true]) rfl (by kernel_rfl) rfl ?_
                  have x0 := P7.cell0
                  have x1 := P7.cell1
                  have x2 := P7.free 0
                  have x3 := P7.free 1
                  obtain ⟨y6, hy6⟩ : ∃ W, Hid (W = put2 y5 pP7 (.bool O.1) (.slice a5 (nlen BW O.2) c5)) := ⟨_, Lib.hid rfl⟩
                  have d6 : Below W6.heap.size W6 y6 := by rw [hy6.out]; exact below_put2 d5 lP7 _ _
                  refine reg_mem (v := undef) (w' := y6) (by kernel_rfl) ?_ d6 ?_
                  · intro K' hk; rw [hy6.out] at hk; go_simp; exact hk
                  clear x0 x1 x2 x3
                  simp only [Act.put, List.setIfInBounds_toArray, List.set_cons_zero, List.set_cons_succ]
                  have n2 := n2.put2 P7 (.bool O.1) (.slice a5 (nlen BW O.2) c5)
                  rw [← hy6.out] at n2
                  have P6 := P6.put2o (.bool O.1) (.slice a5 (nlen BW O.2) c5) neP6P7
                  rw [← hy6.out] at P6
                  have n5 := n5.put2 P7 (.bool O.1) (.slice a5 (nlen BW O.2) c5)
                  rw [← hy6.out] at n5
                  have P7 := P7.put2 (.bool O.1) (.slice a5 (nlen BW O.2) c5)
                  rw [← hy6.out] at P7
                  refine until_done (by kernel_rfl) ?_ _
                  go_wp2_with fail
                  go_meet
                  exact ⟨_, _, _, _, _, _, rfl, rfl, P6, P7, n2, n5, d6⟩
                · obtain ⟨y3, hy3⟩ : ∃ W, Hid (W = y2.alloc (.cells #[.bool false, .slice none 0 0] 24)) := ⟨_, Lib.hid rfl⟩
                  have b3 : Below y2.heap.size y2 y3 := by rw [hy3.out]; exact (Below.refl _ y2).alloc (Nat.le_refl _) _
                  have d3 := below_trans d2 b3
                  obtain ⟨pP7, hpP7⟩ : ∃ p, Hid (p = y2.heap.size) := ⟨_, Lib.hid rfl⟩
                  have P7 : Pair y3 pP7 24 (.bool false) (.slice none 0 0) := by rw [hpP7.out, hy3.out]; exact Pair.new y2 _ _ _
                  have lP7 : W6.heap.size ≤ pP7 := by rw [hpP7.out]; exact d2.size
                  have neP6P7 : pP6 ≠ pP7 := by rw [hpP7.out]; exact Nat.ne_of_lt P6.lt
                  have neP7P6 := neP6P7.symm
                  have n2 := n2.below b3
                  have P6 := P6.below b3 P6.lt
                  refine reg_mem (v := .pointer (some ⟨pP7, 0, none⟩)) (w' := y3) (by kernel_rfl) ?_ d3 ?_
                  · intro K' hk; go_simp; rw [← hy3.out, ← hpP7.out]; exact hk
                  clear b3
                  simp only [Act.put, List.setIfInBounds_toArray, List.set_cons_zero, List.set_cons_succ]
                  refine reg_one (j := 5) (l := #[true, true, true, true, true, true, true, true, false, false]) rfl (by kernel_rfl) rfl ?_
                  refine reg_call (by kernel_rfl) (KB1.out y3 (below_trans DW.out d3)) (by go_simp) ?_
                  rintro e y4 ⟨a5, c5, rfl, n5, b4⟩
                  have d4 := below_trans d3 b4
                  have n2 := n2.below b4
                  have P6 := P6.below b4 P6.lt
                  have P7 := P7.below b4 P7.lt
                  refine ⟨_, rfl, d4, ?_⟩
                  clear b4
                  simp only [Act.put, List.setIfInBounds_toArray, List.set_cons_zero, List.set_cons_succ]
                  refine reg_one (j := 8) (l := #[true, true, true, true, true, true, true, true, true, false]) rfl (by kernel_rfl) rfl ?_
                  have x0 := P6.cell0
                  have x1 := P6.cell1
                  have x2 := P6.free 0
                  have x3 := P6.free 1
                  obtain ⟨y5, hy5⟩ : ∃ W, Hid (W = put2 y4 pP6 (.bool A.1) (.slice a2 (nlen BW A.2) c2)) := ⟨_, Lib.hid rfl⟩
                  have d5 : Below W6.heap.size W6 y5 := by rw [hy5.out]; exact below_put2 d4 lP6 _ _
                  refine reg_mem (v := undef) (w' := y5) (by kernel_rfl) ?_ d5 ?_
                  · intro K' hk; rw [hy5.out] at hk; go_simp; exact hk
                  clear x0 x1 x2 x3
                  simp only [Act.put, List.setIfInBounds_toArray, List.set_cons_zero, List.set_cons_succ]
                  have n2 := n2.put2 P6 (.bool A.1) (.slice a2 (nlen BW A.2) c2)
                  rw [← hy5.out] at n2
                  have P7 := P7.put2o (.bool A.1) (.slice a2 (nlen BW A.2) c2) neP7P6
                  rw [← hy5.out] at P7
                  have n5 := n5.put2 P6 (.bool A.1) (.slice a2 (nlen BW A.2) c2)
                  rw [← hy5.out] at n5
                  have P6 := P6.put2 (.bool A.1) (.slice a2 (nlen BW A.2) c2)
                  rw [← hy5.out] at P6
                  refine reg_one (j := 9) (l := #[true, true, true, true, true, true, true, true, true, true]) rfl (by kernel_rfl) rfl ?_
                  have x0 := P7.cell0
                  have x1 := P7.cell1
                  have x2 := P7.free 0
                  have x3 := P7.free 1
                  obtain ⟨y6, hy6⟩ : ∃ W, Hid (W = put2 y5 pP7 (.bool O.1) (.slice a5 (nlen BW O.2) c5)) := ⟨_, Lib.hid rfl⟩
                  have d6 : Below W6.heap.size W6 y6 := by rw [hy6.out]; exact below_put2 d5 lP7 _ _
                  refine reg_mem (v := undef) (w' := y6) (by kernel_rfl) ?_ d6 ?_
                  · intro K' hk; rw [hy6.out] at hk; go_simp; exact hk
                  clear x0 x1 x2 x3
                  simp only [Act.put, List.setIfInBounds_toArray, List.set_cons_zero, List.set_cons_succ]
                  have n2 := n2.put2 P7 (.bool O.1) (.slice a5 (nlen BW O.2) c5)
                  rw [← hy6.out] at n2
                  have P6 := P6.put2o (.bool O.1) (.slice a5 (nlen BW O.2) c5) neP6P7
                  rw [← hy6.out] at P6
                  have n5 := n5.put2 P7 (.bool O.1) (.slice a5 (nlen BW O.2) c5)
                  rw [← hy6.out] at n5
                  have P7 := P7.put2 (.bool O.1) (.slice a5 (nlen BW O.2) c5)
                  rw [← hy6.out] at P7
                  refine until_done (by kernel_rfl) ?_ _
                  go_wp2_with fail
                  go_meet
                  exact ⟨_, _, _, _, _, _, rfl, rfl, P6, P7, n2, n5, d6⟩
              · obtain ⟨y2, hy2⟩ : ∃ W, Hid (W = y1.alloc (.cells #[.bool false, .slice none 0 0] 24)) := ⟨_, Lib.hid rfl⟩
                have b2 : Below y1.heap.size y1 y2 := by rw [hy2.out]; exact (Below.refl _ y1).alloc (Nat.le_refl _) _
                have d2 := below_trans d1 b2
                obtain ⟨pP7, hpP7⟩ : ∃ p, Hid (p = y1.heap.size) := ⟨_, Lib.hid rfl⟩
                have P7 : Pair y2 pP7 24 (.bool false) (.slice none 0 0) := by rw [hpP7.out, hy2.out]; exact Pair.new y1 _ _ _
                have lP7 : W6.heap.size ≤ pP7 := by rw [hpP7.out]; exact d1.size
                have n2 := n2.below b2
                refine reg_mem (v := .pointer (some ⟨pP7, 0, none⟩)) (w' := y2) (by kernel_rfl) ?_ d2 ?_
                · intro K' hk; go_simp; rw [← hy2.out, ← hpP7.out]; exact hk
                clear b2
                simp only [Act.put, List.setIfInBounds_toArray, List.set_cons_zero, List.set_cons_succ]
                refine reg_two (j := 5) (k := 6) (l := #[true, true, true, true, true, true, false, true, false, false]) (m := #[true, true, true, true, true, false, true, true, false, false]) rfl rfl (by kernel_rfl) rfl rfl ?_ ?_
                · refine reg_call (by kernel_rfl) (KB1.out y2 (below_trans DW.out d2)) (by go_simp) ?_
                  rintro e y3 ⟨a5, c5, rfl, n5, b3⟩
                  have d3 := below_trans d2 b3
                  have n2 := n2.below b3
                  have P7 := P7.below b3 P7.lt
                  refine ⟨_, rfl, d3, ?_⟩
                  clear b3
                  simp only [Act.put, List.setIfInBounds_toArray, List.set_cons_zero, List.set_cons_succ]
                  refine reg_one (j := 6) (l := #[true, true, true, true, true, true, true, true, false, false]) rfl (by kernel_rfl) rfl ?_
                  obtain ⟨y4, hy4⟩ : ∃ W, Hid (W = y3.alloc (.cells #[.bool false, .slice none 0 0] 24)) := ⟨_, Lib.hid rfl⟩
                  have b4 : Below y3.heap.size y3 y4 := by rw [hy4.out]; exact (Below.refl _ y3).alloc (Nat.le_refl _) _
                  have d4 := below_trans d3 b4
                  obtain ⟨pP6, hpP6⟩ : ∃ p, Hid (p = y3.heap.size) := ⟨_, Lib.hid rfl⟩
                  have P6 : Pair y4 pP6 24 (.bool false) (.slice none 0 0) := by rw [hpP6.out, hy4.out]; exact Pair.new y3 _ _ _
                  have lP6 : W6.heap.size ≤ pP6 := by rw [hpP6.out]; exact d3.size
                  have neP7P6 : pP7 ≠ pP6 := by rw [hpP6.out]; exact Nat.ne_of_lt P7.lt
                  have neP6P7 := neP7P6.symm
                  have n2 := n2.below b4
                  have P7 := P7.below b4 P7.lt
                  have n5 := n5.below b4
                  refine reg_mem (v := .pointer (some ⟨pP6, 0, none⟩)) (w' := y4) (by kernel_rfl) ?_ d4 ?_
                  · intro K' hk; go_simp; rw [← hy4.out, ← hpP6.out]; exact hk
                  clear b4
                  simp only [Act.put, List.setIfInBounds_toArray, List.set_cons_zero, List.set_cons_succ]
                  refine reg_one (j := 8) (l := #[true, true, true, true, true, true, true, true, true, false]) rfl (by kernel_rfl) rfl ?_
                  have x0 := P6.cell0
                  have x1 := P6.cell1
                  have x2 := P6.free 0
                  have x3 := P6.free 1
                  obtain ⟨y5, hy5⟩ : ∃ W, Hid (W = put2 y4 pP6 (.bool A.1) (.slice a2 (nlen BW A.2) c2)) := ⟨_, Lib.hid rfl⟩
                  have d5 : Below W6.heap.size W6 y5 := by rw [hy5.out]; exact below_put2 d4 lP6 _ _
                  refine reg_mem (v := undef) (w' := y5) (by kernel_rfl) ?_ d5 ?_
                  · intro K' hk; rw [hy5.out] at hk; go_simp; exact hk
                  clear x0 x1 x2 x3
                  simp only [Act.put, List.setIfInBounds_toArray, List.set_cons_zero, List.set_cons_succ]
                  have n2 := n2.put2 P6 (.bool A.1) (.slice a2 (nlen BW A.2) c2)
                  rw [← hy5.out] at n2
                  have P7 := P7.put2o (.bool A.1) (.slice a2 (nlen BW A.2) c2) neP7P6
                  rw [← hy5.out] at P7
                  have n5 := n5.put2 P6 (.bool A.1) (.slice a2 (nlen BW A.2) c2)
                  rw [← hy5.out] at n5
                  have P6 := P6.put2 (.bool A.1) (.slice a2 (nlen BW A.2) c2)
                  rw [← hy5.out] at P6
                  refine reg_one (j := 9) (l := #[true, true, true, true, true, true, true, true, true, true]) rfl (by kernel_rfl) rfl ?_
                  have x0 := P7.cell0
                  have x1 := P7.cell1
                  have x2 := P7.free 0
                  have x3 := P7.free 1
                  obtain ⟨y6, hy6⟩ : ∃ W, Hid (W = put2 y5 pP7 (.bool O.1) (.slice a5 (nlen BW O.2) c5)) := ⟨_, Lib.hid rfl⟩
                  have d6 : Below W6.heap.size W6 y6 := by rw [hy6.out]; exact below_put2 d5 lP7 _ _
                  refine reg_mem (v := undef) (w' := y6) (by kernel_rfl) ?_ d6 ?_
                  · intro K' hk; rw [hy6.out] at hk; go_simp; exact hk
                  clear x0 x1 x2 x3
                  simp only [Act.put, List.setIfInBounds_toArray, List.set_cons_zero, List.set_cons_succ]
                  have n2 := n2.put2 P7 (.bool O.1) (.slice a5 (nlen BW O.2) c5)
                  rw [← hy6.out] at n2
                  have n5 := n5.put2 P7 (.bool O.1) (.slice a5 (nlen BW O.2) c5)
                  rw [← hy6.out] at n5
                  have P6 := P6.put2o (.bool O.1) (.slice a5 (nlen BW O.2) c5) neP6P7
                  rw [← hy6.out] at P6
                  have P7 := P7.put2 (.bool O.1) (.slice a5 (nlen BW O.2) c5)
                  rw [← hy6.out] at P7
                  refine until_done (by kernel_rfl) ?_ _
                  go_wp2_with fail
                  go_meet
                  exact ⟨_, _, _, _, _, _, rfl, rfl, P6, P7, n2, n5, d6⟩
                · obtain ⟨y3, hy3⟩ : ∃ W, Hid (W = y2.alloc (.cells #[.bool false, .slice none 0 0] 24)) := ⟨_, Lib.hid rfl⟩
                  have b3 : Below y2.heap.size y2 y3 := by rw [hy3.out]; exact (Below.refl _ y2).alloc (Nat.le_refl _) _
                  have d3 := below_trans d2 b3
                  obtain ⟨pP6, hpP6⟩ : ∃ p, Hid (p = y2.heap.size) := ⟨_, Lib.hid rfl⟩
                  have P6 : Pair y3 pP6 24 (.bool false) (.slice none 0 0) := by rw [hpP6.out, hy3.out]; exact Pair.new y2 _ _ _
                  have lP6 : W6.heap.size ≤ pP6 := by rw [hpP6.out]; exact d2.size
                  have neP7P6 : pP7 ≠ pP6 := by rw [hpP6.out]; exact Nat.ne_of_lt P7.lt
                  have neP6P7 := neP7P6.symm
                  have n2 := n2.below b3
                  have P7 := P7.below b3 P7.lt
                  refine reg_mem (v := .pointer (some ⟨pP6, 0, none⟩)) (w' := y3) (by kernel_rfl) ?_ d3 ?_
                  · intro K' hk; go_simp; rw [← hy3.out, ← hpP6.out]; exact hk
                  clear b3
                  simp only [Act.put, List.setIfInBounds_toArray, List.set_cons_zero, List.set_cons_succ]
                  refine reg_one (j := 5) (l := #[true, true, true, true, true, true, true, true, false, false]) rfl (by kernel_rfl) rfl ?_
                  refine reg_call (by kernel_rfl) (KB1.out y3 (below_trans DW.out d3)) (by go_simp) ?_
                  rintro e y4 ⟨a5, c5, rfl, n5, b4⟩
                  have d4 := below_trans d3 b4
                  have n2 := n2.below b4
                  have P7 := P7.below b4 P7.lt
                  have P6 := P6.below b4 P6.lt
                  refine ⟨_, rfl, d4, ?_⟩
                  clear b4
                  simp only [Act.put, List.setIfInBounds_toArray, List.set_cons_zero, List.set_cons_succ]
                  refine reg_one (j := 8) (l := #[true, true, true, true, true, true, true, true, true, false]) rfl (by kernel_rfl) rfl ?_
                  have x0 := P6.cell0
                  have x1 := P6.cell1
                  have x2 := P6.free 0
                  have x3 := P6.free 1
                  obtain ⟨y5, hy5⟩ : ∃ W, Hid (W = put2 y4 pP6 (.bool A.1) (.slice a2 (nlen BW A.2) c2)) := ⟨_, Lib.hid rfl⟩
                  have d5 : Below W6.heap.size W6 y5 := by rw [hy5.out]; exact below_put2 d4 lP6 _ _
                  refine reg_mem (v := undef) (w' := y5) (by kernel_rfl) ?_ d5 ?_
                  · intro K' hk; rw [hy5.out] at hk; go_simp; exact hk
                  clear x0 x1 x2 x3
                  simp only [Act.put, List.setIfInBounds_toArray, List.set_cons_zero, List.set_cons_succ]
                  have n2 := n2.put2 P6 (.bool A.1) (.slice a2 (nlen BW A.2) c2)
                  rw [← hy5.out] at n2
                  have P7 := P7.put2o (.bool A.1) (.slice a2 (nlen BW A.2) c2) neP7P6
                  rw [← hy5.out] at P7
                  have n5 := n5.put2 P6 (.bool A.1) (.slice a2 (nlen BW A.2) c2)
                  rw [← hy5.out] at n5
                  have P6 := P6.put2 (.bool A.1) (.slice a2 (nlen BW A.2) c2)
                  rw [← hy5.out] at P6
                  refine reg_one (j := 9) (l := #[true, true, true, true, true, true, true, true, true, true]) rfl (by kernel_rfl) rfl ?_
                  have x0 := P7.cell0
                  have x1 := P7.cell1
                  have x2 := P7.free 0
                  have x3 := P7.free 1
                  obtain ⟨y6, hy6⟩ : ∃ W, Hid (W = put2 y5 pP7 (.bool O.1) (.slice a5 (nlen BW O.2) c5)) := ⟨_, Lib.hid rfl⟩
                  have d6 : Below W6.heap.size W6 y6 := by rw [hy6.out]; exact below_put2 d5 lP7 _ _
                  refine reg_mem (v := undef) (w' := y6) (by kernel_rfl) ?_ d6 ?_
                  · intro K' hk; rw [hy6.out] at hk; go_simp; exact hk
                  clear x0 x1 x2 x3
                  simp only [Act.put, List.setIfInBounds_toArray, List.set_cons_zero, List.set_cons_succ]
                  have n2 := n2.put2 P7 (.bool O.1) (.slice a5 (nlen BW O.2) c5)
                  rw [← hy6.out] at n2
                  have P6 := P6.put2o (.bool O.1) (.slice a5 (nlen BW O.2) c5) neP6P7
                  rw [← hy6.out] at P6
                  have n5 := n5.put2 P7 (.bool O.1) (.slice a5 (nlen BW O.2) c5)
                  rw [← hy6.out] at n5
                  have P7 := P7.put2 (.bool O.1) (.slice a5 (nlen BW O.2) c5)
                  rw [← hy6.out] at P7
                  refine until_done (by kernel_rfl) ?_ _
                  go_wp2_with fail
                  go_meet
                  exact ⟨_, _, _, _, _, _, rfl, rfl, P6, P7, n2, n5, d6⟩
            · obtain ⟨y1, hy1⟩ : ∃ W, Hid (W = y0.alloc (.cells #[.bool false, .slice none 0 0] 24)) := ⟨_, Lib.hid rfl⟩
              have b1 : Below y0.heap.size y0 y1 := by rw [hy1.out]; exact (Below.refl _ y0).alloc (Nat.le_refl _) _
              have d1 := below_trans d0 b1
              obtain ⟨pP6, hpP6⟩ : ∃ p, Hid (p = y0.heap.size) := ⟨_, Lib.hid rfl⟩
              have P6 : Pair y1 pP6 24 (.bool false) (.slice none 0 0) := by rw [hpP6.out, hy1.out]; exact Pair.new y0 _ _ _
              have lP6 : W6.heap.size ≤ pP6 := by rw [hpP6.out]; exact d0.size
              refine reg_mem (v := .pointer (some ⟨pP6, 0, none⟩)) (w' := y1) (by kernel_rfl) ?_ d1 ?_
              · intro K' hk; go_simp; rw [← hy1.out, ← hpP6.out]; exact hk
              clear b1
              simp only [Act.put, List.setIfInBounds_toArray, List.set_cons_zero, List.set_cons_succ]
              refine reg_two (j := 2) (k := 7) (l := #[true, true, true, true, true, false, true, false, false, false]) (m := #[true, true, false, true, true, false, true, true, false, false]) rfl rfl (by kernel_rfl) rfl rfl ?_ ?_
              · refine reg_call (by kernel_rfl) (KB0.out y1 (below_trans DW.out d1)) (by go_simp) ?_
                rintro e y2 ⟨a2, c2, rfl, n2, b2⟩
                have d2 := below_trans d1 b2
                have P6 := P6.below b2 P6.lt
                refine ⟨_, rfl, d2, ?_⟩
                clear b2
                simp only [Act.put, List.setIfInBounds_toArray, List.set_cons_zero, List.set_cons_succ]
                refine reg_two (j := 5) (k := 7) (l := #[true, true, true, true, true, true, true, false, false, false]) (m := #[true, true, true, true, true, false, true, true, false, false]) rfl rfl (by kernel_rfl) rfl rfl ?_ ?_
                · refine reg_call (by kernel_rfl) (KB1.out y2 (below_trans DW.out d2)) (by go_simp) ?_
                  rintro e y3 ⟨a5, c5, rfl, n5, b3⟩
                  have d3 := below_trans d2 b3
                  have P6 := P6.below b3 P6.lt
                  have n2 := n2.below b3
                  refine ⟨_, rfl, d3, ?_⟩
                  clear b3
                  simp only [Act.put, List.setIfInBounds_toArray, List.set_cons_zero, List.set_cons_succ]
                  refine reg_one (j := 7) (l := #[true, true, true, true, true, true, true, true, false, false]) rfl (by kernel_rfl) rfl ?_
                  obtain ⟨y4, hy4⟩ : ∃ W, Hid (W = y3.alloc (.cells #[.bool false, .slice none 0 0] 24)) := ⟨_, Lib.hid rfl⟩
                  have b4 : Below y3.heap.size y3 y4 := by rw [hy4.out]; exact (Below.refl _ y3).alloc (Nat.le_refl _) _
                  have d4 := below_trans d3 b4
                  obtain ⟨pP7, hpP7⟩ : ∃ p, Hid (p = y3.heap.size) := ⟨_, Lib.hid rfl⟩
                  have P7 : Pair y4 pP7 24 (.bool false) (.slice none 0 0) := by rw [hpP7.out, hy4.out]; exact Pair.new y3 _ _ _
                  have lP7 : W6.heap.size ≤ pP7 := by rw [hpP7.out]; exact d3.size
                  have neP6P7 : pP6 ≠ pP7 := by rw [hpP7.out]; exact Nat.ne_of_lt P6.lt
                  have neP7P6 := neP6P7.symm
                  have P6 := P6.below b4 P6.lt
                  have n2 := n2.below b4
                  have n5 := n5.below b4
                  refine reg_mem (v := .pointer (some ⟨pP7, 0, none⟩)) (w' := y4) (by kernel_rfl) ?_ d4 ?_
                  · intro K' hk; go_simp; rw [← hy4.out, ← hpP7.out]; exact hk
                  clear b4
                  simp only [Act.put, List.setIfInBounds_toArray, List.set_cons_zero, List.set_cons_succ]
                  refine reg_one (j := 8) (l := #[true, true, true, true, true, true, true, true, true, false]) rfl (by kernel_rfl) rfl ?_
                  have x0 := P6.cell0
                  have x1 := P6.cell1
                  have x2 := P6.free 0
                  have x3 := P6.free 1
                  obtain ⟨y5, hy5⟩ : ∃ W, Hid (W = put2 y4 pP6 (.bool A.1) (.slice a2 (nlen BW A.2) c2)) := ⟨_, Lib.hid rfl⟩
                  have d5 : Below W6.heap.size W6 y5 := by rw [hy5.out]; exact below_put2 d4 lP6 _ _
                  refine reg_mem (v := undef) (w' := y5) (by kernel_rfl) ?_ d5 ?_
                  · intro K' hk; rw [hy5.out] at hk; go_simp; exact hk
                  clear x0 x1 x2 x3
                  simp only [Act.put, List.setIfInBounds_toArray, List.set_cons_zero, List.set_cons_succ]
                  have n2 := n2.put2 P6 (.bool A.1) (.slice a2 (nlen BW A.2) c2)
                  rw [← hy5.out] at n2
                  have n5 := n5.put2 P6 (.bool A.1) (.slice a2 (nlen BW A.2) c2)
                  rw [← hy5.out] at n5
                  have P7 := P7.put2o (.bool A.1) (.slice a2 (nlen BW A.2) c2) neP7P6
                  rw [← hy5.out] at P7
                  have P6 := P6.put2 (.bool A.1) (.slice a2 (nlen BW A.2) c2)
                  rw [← hy5.out] at P6
                  refine reg_one (j := 9) (l := #[true, true, true, true, true, true, true, true, true, true]) rfl (by kernel_rfl) rfl ?_
                  have x0 := P7.cell0
                  have x1 := P7.cell1
                  have x2 := P7.free 0
                  have x3 := P7.free 1
                  obtain ⟨y6, hy6⟩ : ∃ W, Hid (W = put2 y5 pP7 (.bool O.1) (.slice a5 (nlen BW O.2) c5)) := ⟨_, Lib.hid rfl⟩
                  have d6 : Below W6.heap.size W6 y6 := by rw [hy6.out]; exact below_put2 d5 lP7 _ _
                  refine reg_mem (v := undef) (w' := y6) (by kernel_rfl) ?_ d6 ?_
                  · intro K' hk; rw [hy6.out] at hk; go_simp; exact hk
                  clear x0 x1 x2 x3
                  simp only [Act.put, List.setIfInBounds_toArray, List.set_cons_zero, List.set_cons_succ]
                  have P6 := P6.put2o (.bool O.1) (.slice a5 (nlen BW O.2) c5) neP6P7
                  rw [← hy6.out] at P6
                  have n2 := n2.put2 P7 (.bool O.1) (.slice a5 (nlen BW O.2) c5)
                  rw [← hy6.out] at n2
                  have n5 := n5.put2 P7 (.bool O.1) (.slice a5 (nlen BW O.2) c5)
                  rw [← hy6.out] at n5
                  have P7 := P7.put2 (.bool O.1) (.slice a5 (nlen BW O.2) c5)
                  rw [← hy6.out] at P7
                  refine until_done (by kernel_rfl) ?_ _
                  go_wp2_with fail
                  go_meet
                  exact ⟨_, _, _, _, _, _, rfl, rfl, P6, P7, n2, n5, d6⟩
                · obtain ⟨y3, hy3⟩ : ∃ W, Hid (W = y2.alloc (.cells #[.bool false, .slice none 0 0] 24)) := ⟨_, Lib.hid rfl⟩
                  have b3 : Below y2.heap.size y2 y3 := by rw [hy3.out]; exact (Below.refl _ y2).alloc (Nat.le_refl _) _
                  have d3 := below_trans d2 b3
                  obtain ⟨pP7, hpP7⟩ : ∃ p, Hid (p = y2.heap.size) := ⟨_, Lib.hid rfl⟩
                  have P7 : Pair y3 pP7 24 (.bool false) (.slice none 0 0) := by rw [hpP7.out, hy3.out]; exact Pair.new y2 _ _ _
                  have lP7 : W6.heap.size ≤ pP7 := by rw [hpP7.out]; exact d2.size
                  have neP6P7 : pP6 ≠ pP7 := by rw [hpP7.out]; exact Nat.ne_of_lt P6.lt
                  have neP7P6 := neP6P7.symm
                  have P6 := P6.below b3 P6.lt
                  have n2 := n2.below b3
                  refine reg_mem (v := .pointer (some ⟨pP7, 0, none⟩)) (w' := y3) (by kernel_rfl) ?_ d3 ?_
                  · intro K' hk; go_simp; rw [← hy3.out, ← hpP7.out]; exact hk
                  clear b3
                  simp only [Act.put, List.setIfInBounds_toArray, List.set_cons_zero, List.set_cons_succ]
                  refine reg_one (j := 5) (l := #[true, true, true, true, true, true, true, true, false, false]) rfl (by kernel_rfl) rfl ?_
                  refine reg_call (by kernel_rfl) (KB1.out y3 (below_trans DW.out d3)) (by go_simp) ?_
                  rintro e y4 ⟨a5, c5, rfl, n5, b4⟩
                  have d4 := below_trans d3 b4
                  have P6 := P6.below b4 P6.lt
                  have n2 := n2.below b4
                  have P7 := P7.below b4 P7.lt
                  refine ⟨_, rfl, d4, ?_⟩
                  clear b4
                  simp only [Act.put, List.setIfInBounds_toArray, List.set_cons_zero, List.set_cons_succ]
                  refine reg_one (j := 8) (l := #[true, true, true, true, true, true, true, true, true, false]) rfl (by kernel_rfl) rfl ?_
                  have x0 := P6.cell0
                  have x1 := P6.cell1
                  have x2 := P6.free 0
                  have x3 := P6.free 1
                  obtain ⟨y5, hy5⟩ : ∃ W, Hid (W = put2 y4 pP6 (.bool A.1) (.slice a2 (nlen BW A.2) c2)) := ⟨_, Lib.hid rfl⟩
                  have d5 : Below W6.heap.size W6 y5 := by rw [hy5.out]; exact below_put2 d4 lP6 _ _
                  refine reg_mem (v := undef) (w' := y5) (by kernel_rfl) ?_ d5 ?_
                  · intro K' hk; rw [hy5.out] at hk; go_simp; exact hk
                  clear x0 x1 x2 x3
                  simp only [Act.put, List.setIfInBounds_toArray, List.set_cons_zero, List.set_cons_succ]
                  have n2 := n2.put2 P6 (.bool A.1) (.slice a2 (nlen BW A.2) c2)
                  rw [← hy5.out] at n2
                  have P7 := P7.put2o (.bool A.1) (.slice a2 (nlen BW A.2) c2) neP7P6
                  rw [← hy5.out] at P7
                  have n5 := n5.put2 P6 (.bool A.1) (.slice a2 (nlen BW A.2) c2)
                  rw [← hy5.out] at n5
                  have P6 := P6.put2 (.bool A.1) (.slice a2 (nlen BW A.2) c2)
                  rw [← hy5.out] at P6
                  refine reg_one (j := 9) (l := #[true, true, true, true, true, true, true, true, true, true]) rfl (by kernel_rfl) rfl ?_
                  have x0 := P7.cell0
                  have x1 := P7.cell1
                  have x2 := P7.free 0
                  have x3 := P7.free 1
                  obtain ⟨y6, hy6⟩ : ∃ W, Hid (W = put2 y5 pP7 (.bool O.1) (.slice a5 (nlen BW O.2) c5)) := ⟨_, Lib.hid rfl⟩
                  have d6 : Below W6.heap.size W6 y6 := by rw [hy6.out]; exact below_put2 d5 lP7 _ _
                  refine reg_mem (v := undef) (w' := y6) (by kernel_rfl) ?_ d6 ?_
                  · intro K' hk; rw [hy6.out] at hk; go_simp; exact hk
                  clear x0 x1 x2 x3
                  simp only [Act.put, List.setIfInBounds_toArray, List.set_cons_zero, List.set_cons_succ]
                  have P6 := P6.put2o (.bool O.1) (.slice a5 (nlen BW O.2) c5) neP6P7
                  rw [← hy6.out] at P6
                  have n2 := n2.put2 P7 (.bool O.1) (.slice a5 (nlen BW O.2) c5)
                  rw [← hy6.out] at n2
                  have n5 := n5.put2 P7 (.bool O.1) (.slice a5 (nlen BW O.2) c5)
                  rw [← hy6.out] at n5
                  have P7 := P7.put2 (.bool O.1) (.slice a5 (nlen BW O.2) c5)
                  rw [← hy6.out] at P7
                  refine until_done (by kernel_rfl) ?_ _
                  go_wp2_with fail
                  go_meet
                  exact ⟨_, _, _, _, _, _, rfl, rfl, P6, P7, n2, n5, d6⟩
              · obtain ⟨y2, hy2⟩ : ∃ W, Hid (W = y1.alloc (.cells #[.bool false, .slice none 0 0] 24)) := ⟨_, Lib.hid rfl⟩
                have b2 : Below y1.heap.size y1 y2 := by rw [hy2.out]; exact (Below.refl _ y1).alloc (Nat.le_refl _) _
                have d2 := below_trans d1 b2
                obtain ⟨pP7, hpP7⟩ : ∃ p, Hid (p = y1.heap.size) := ⟨_, Lib.hid rfl⟩
                have P7 : Pair y2 pP7 24 (.bool false) (.slice none 0 0) := by rw [hpP7.out, hy2.out]; exact Pair.new y1 _ _ _
                have lP7 : W6.heap.size ≤ pP7 := by rw [hpP7.out]; exact d1.size
                have neP6P7 : pP6 ≠ pP7 := by rw [hpP7.out]; exact Nat.ne_of_lt P6.lt
                have neP7P6 := neP6P7.symm
                have P6 := P6.below b2 P6.lt
                refine reg_mem (v := .pointer (some ⟨pP7, 0, none⟩)) (w' := y2) (by kernel_rfl) ?_ d2 ?_
                · intro K' hk; go_simp; rw [← hy2.out, ← hpP7.out]; exact hk
                clear b2
                simp only [Act.put, List.setIfInBounds_toArray, List.set_cons_zero, List.set_cons_succ]
                refine reg_one (j := 2) (l := #[true, true, true, true, true, false, true, true, false, false]) rfl (by kernel_rfl) rfl ?_
                refine reg_call (by kernel_rfl) (KB0.out y2 (below_trans DW.out d2)) (by go_simp) ?_
                rintro e y3 ⟨a2, c2, rfl, n2, b3⟩
                have d3 := below_trans d2 b3
                have P6 := P6.below b3 P6.lt
                have P7 := P7.below b3 P7.lt
                refine ⟨_, rfl, d3, ?_⟩
                clear b3
                simp only [Act.put, List.setIfInBounds_toArray, List.set_cons_zero, List.set_cons_succ]
                refine reg_one (j := 5) (l := #[true, true, true, true, true, true, true, true, false, false]) rfl (by kernel_rfl) rfl ?_
                refine reg_call (by kernel_rfl) (KB1.out y3 (below_trans DW.out d3)) (by go_simp) ?_
                rintro e y4 ⟨a5, c5, rfl, n5, b4⟩
                have d4 := below_trans d3 b4
                have P6 := P6.below b4 P6.lt
                have P7 := P7.below b4 P7.lt
                have n2 := n2.below b4
                refine ⟨_, rfl, d4, ?_⟩
                clear b4
                simp only [Act.put, List.setIfInBounds_toArray, List.set_cons_zero, List.set_cons_succ]
                refine reg_one (j := 8) (l := #[true, true, true, true, true, true, true, true, true, false]) rfl (by kernel_rfl) rfl ?_
                have x0 := P6.cell0
                have x1 := P6.cell1
                have x2 := P6.free 0
                have x3 := P6.free 1
                obtain ⟨y5, hy5⟩ : ∃ W, Hid (W = put2 y4 pP6 (.bool A.1) (.slice a2 (nlen BW A.2) c2)) := ⟨_, Lib.hid rfl⟩
                have d5 : Below W6.heap.size W6 y5 := by rw [hy5.out]; exact below_put2 d4 lP6 _ _
                refine reg_mem (v := undef) (w' := y5) (by kernel_rfl) ?_ d5 ?_
                · intro K' hk; rw [hy5.out] at hk; go_simp; exact hk
                clear x0 x1 x2 x3
                simp only [Act.put, List.setIfInBounds_toArray, List.set_cons_zero, List.set_cons_succ]
                have P7 := P7.put2o (.bool A.1) (.slice a2 (nlen BW A.2) c2) neP7P6
                rw [← hy5.out] at P7
                have n2 := n2.put2 P6 (.bool A.1) (.slice a2 (nlen BW A.2) c2)
                rw [← hy5.out] at n2
                have n5 := n5.put2 P6 (.bool A.1) (.slice a2 (nlen BW A.2) c2)
                rw [← hy5.out] at n5
                have P6 := P6.put2 (.bool A.1) (.slice a2 (nlen BW A.2) c2)
                rw [← hy5.out] at P6
                refine reg_one (j := 9) (l := #[true, true, true, true, true, true, true, true, true, true]) rfl (by kernel_rfl) rfl ?_
                have x0 := P7.cell0
                have x1 := P7.cell1
                have x2 := P7.free 0
                have x3 := P7.free 1
                obtain ⟨y6, hy6⟩ : ∃ W, Hid (W = put2 y5 pP7 (.bool O.1) (.slice a5 (nlen BW O.2) c5)) := ⟨_, Lib.hid rfl⟩
                have d6 : Below W6.heap.size W6 y6 := by rw [hy6.out]; exact below_put2 d5 lP7 _ _
                refine reg_mem (v := undef) (w' := y6) (by kernel_rfl) ?_ d6 ?_
                · intro K' hk; rw [hy6.out] at hk; go_simp; exact hk
                clear x0 x1 x2 x3
                simp only [Act.put, List.setIfInBounds_toArray, List.set_cons_zero, List.set_cons_succ]
                have P6 := P6.put2o (.bool O.1) (.slice a5 (nlen BW O.2) c5) neP6P7
                rw [← hy6.out] at P6
                have n2 := n2.put2 P7 (.bool O.1) (.slice a5 (nlen BW O.2) c5)
                rw [← hy6.out] at n2
                have n5 := n5.put2 P7 (.bool O.1) (.slice a5 (nlen BW O.2) c5)
                rw [← hy6.out] at n5
                have P7 := P7.put2 (.bool O.1) (.slice a5 (nlen BW O.2) c5)
                rw [← hy6.out] at P7
                refine until_done (by kernel_rfl) ?_ _
                go_wp2_with fail
                go_meet
                exact ⟨_, _, _, _, _, _, rfl, rfl, P6, P7, n2, n5, d6⟩
            · obtain ⟨y1, hy1⟩ : ∃ W, Hid (W = y0.alloc (.cells #[.bool false, .slice none 0 0] 24)) := ⟨_, Lib.hid rfl⟩
              have b1 : Below y0.heap.size y0 y1 := by rw [hy1.out]; exact (Below.refl _ y0).alloc (Nat.le_refl _) _
              have d1 := below_trans d0 b1
              obtain ⟨pP7, hpP7⟩ : ∃ p, Hid (p = y0.heap.size) := ⟨_, Lib.hid rfl⟩
              have P7 : Pair y1 pP7 24 (.bool false) (.slice none 0 0) := by rw [hpP7.out, hy1.out]; exact Pair.new y0 _ _ _
              have lP7 : W6.heap.size ≤ pP7 := by rw [hpP7.out]; exact d0.size
              refine reg_mem (v := .pointer (some ⟨pP7, 0, none⟩)) (w' := y1) (by kernel_rfl) ?_ d1 ?_
              · intro K' hk; go_simp; rw [← hy1.out, ← hpP7.out]; exact hk
              clear b1
              simp only [Act.put, List.setIfInBounds_toArray, List.set_cons_zero, List.set_cons_succ]
              refine reg_two (j := 2) (k := 6) (l := #[true, true, true, true, true, false, false, true, false, false]) (m := #[true, true, false, true, true, false, true, true, false, false]) rfl rfl (by kernel_rfl) rfl rfl ?_ ?_
              · refine reg_call (by kernel_rfl) (KB0.out y1 (below_trans DW.out d1)) (by go_simp) ?_
                rintro e y2 ⟨a2, c2, rfl, n2, b2⟩
                have d2 := below_trans d1 b2
                have P7 := P7.below b2 P7.lt
                refine ⟨_, rfl, d2, ?_⟩
                clear b2
                simp only [Act.put, List.setIfInBounds_toArray, List.set_cons_zero, List.set_cons_succ]
                refine reg_two (j := 5) (k := 6) (l := #[true, true, true, true, true, true, false, true, false, false]) (m := #[true, true, true, true, true, false, true, true, false, false]) rfl rfl (by kernel_rfl) rfl rfl ?_ ?_
                · refine reg_call (by kernel_rfl) (KB1.out y2 (below_trans DW.out d2)) (by go_simp) ?_
                  rintro e y3 ⟨a5, c5, rfl, n5, b3⟩
                  have d3 := below_trans d2 b3
                  have P7 := P7.below b3 P7.lt
                  have n2 := n2.below b3
                  refine ⟨_, rfl, d3, ?_⟩
                  clear b3
                  simp only [Act.put, List.setIfInBounds_toArray, List.set_cons_zero, List.set_cons_succ]
                  refine reg_one (j := 6) (l := #[true, true, true, true, true, true, true, true, false, false]) rfl (by kernel_rfl) rfl ?_
                  obtain ⟨y4, hy4⟩ : ∃ W, Hid (W = y3.alloc (.cells #[.bool false, .slice none 0 0] 24)) := ⟨_, Lib.hid rfl⟩
                  have b4 : Below y3.heap.size y3 y4 := by rw [hy4.out]; exact (Below.refl _ y3).alloc (Nat.le_refl _) _
                  have d4 := below_trans d3 b4
                  obtain ⟨pP6, hpP6⟩ : ∃ p, Hid (p = y3.heap.size) := ⟨_, Lib.hid rfl⟩
                  have P6 : Pair y4 pP6 24 (.bool false) (.slice none 0 0) := by rw [hpP6.out, hy4.out]; exact Pair.new y3 _ _ _
                  have lP6 : W6.heap.size ≤ pP6 := by rw [hpP6.out]; exact d3.size
                  have neP7P6 : pP7 ≠ pP6 := by rw [hpP6.out]; exact Nat.ne_of_lt P7.lt
                  have neP6P7 := neP7P6.symm
                  have P7 := P7.below b4 P7.lt
                  have n2 := n2.below b4
                  have n5 := n5.below b4
                  refine reg_mem (v := .pointer (some ⟨pP6, 0, none⟩)) (w' := y4) (by kernel_rfl) ?_ d4 ?_
                  · intro K' hk; go_simp; rw [← hy4.out, ← hpP6.out]; exact hk
                  clear b4
                  simp only [Act.put, List.setIfInBounds_toArray, List.set_cons_zero, List.set_cons_succ]
                  refine reg_one (j := 8) (l := #[true, true, true, true, true, true, true, true, true, false]) rfl (by kernel_rfl) rfl ?_
                  have x0 := P6.cell0
                  have x1 := P6.cell1
                  have x2 := P6.free 0
                  have x3 := P6.free 1
                  obtain ⟨y5, hy5⟩ : ∃ W, Hid (W = put2 y4 pP6 (.bool A.1) (.slice a2 (nlen BW A.2) c2)) := ⟨_, Lib.hid rfl⟩
                  have d5 : Below W6.heap.size W6 y5 := by rw [hy5.out]; exact below_put2 d4 lP6 _ _
                  refine reg_mem (v := undef) (w' := y5) (by kernel_rfl) ?_ d5 ?_
                  · intro K' hk; rw [hy5.out] at hk; go_simp; exact hk
                  clear x0 x1 x2 x3
                  simp only [Act.put, List.setIfInBounds_toArray, List.set_cons_zero, List.set_cons_succ]
                  have P7 := P7.put2o (.bool A.1) (.slice a2 (nlen BW A.2) c2) neP7P6
                  rw [← hy5.out] at P7
                  have n2 := n2.put2 P6 (.bool A.1) (.slice a2 (nlen BW A.2) c2)
                  rw [← hy5.out] at n2
                  have n5 := n5.put2 P6 (.bool A.1) (.slice a2 (nlen BW A.2) c2)
                  rw [← hy5.out] at n5
                  have P6 := P6.put2 (.bool A.1) (.slice a2 (nlen BW A.2) c2)
                  rw [← hy5.out] at P6
                  refine reg_one (j := 9) (l := #[true, true, true, true, true, true, true, true, true, true]) rfl (by kernel_rfl) rfl ?_
                  have x0 := P7.cell0
                  have x1 := P7.cell1
                  have x2 := P7.free 0
                  have x3 := P7.free 1
                  obtain ⟨y6, hy6⟩ : ∃ W, Hid (W = put2 y5 pP7 (.bool O.1) (.slice a5 (nlen BW O.2) c5)) := ⟨_, Lib.hid rfl⟩
                  have d6 : Below W6.heap.size W6 y6 := by rw [hy6.out]; exact below_put2 d5 lP7 _ _
                  refine reg_mem (v := undef) (w' := y6) (by kernel_rfl) ?_ d6 ?_
                  · intro K' hk; rw [hy6.out] at hk; go_simp; exact hk
                  clear x0 x1 x2 x3
                  simp only [Act.put, List.setIfInBounds_toArray, List.set_cons_zero, List.set_cons_succ]
                  have n2 := n2.put2 P7 (.bool O.1) (.slice a5 (nlen BW O.2) c5)
                  rw [← hy6.out] at n2
                  have n5 := n5.put2 P7 (.bool O.1) (.slice a5 (nlen BW O.2) c5)
                  rw [← hy6.out] at n5
                  have P6 := P6.put2o (.bool O.1) (.slice a5 (nlen BW O.2) c5) neP6P7
                  rw [← hy6.out] at P6
                  have P7 := P7.put2 (.bool O.1) (.slice a5 (nlen BW O.2) c5)
                  rw [← hy6.out] at P7
                  refine until_done (by kernel_rfl) ?_ _
                  go_wp2_with fail
                  go_meet
                  exact ⟨_, _, _, _, _, _, rfl, rfl, P6, P7, n2, n5, d6⟩
                · obtain ⟨y3, hy3⟩ : ∃ W, Hid (W = y2.alloc (.cells #[.bool false, .slice none 0 0] 24)) := ⟨_, Lib.hid rfl⟩
                  have b3 : Below y2.heap.size y2 y3 := by rw [hy3.out]; exact (Below.refl _ y2).alloc (Nat.le_refl _) _
                  have d3 := below_trans d2 b3
                  obtain ⟨pP6, hpP6⟩ : ∃ p, Hid (p = y2.heap.size) := ⟨_, Lib.hid rfl⟩
                  have P6 : Pair y3 pP6 24 (.bool false) (.slice none 0 0) := by rw [hpP6.out, hy3.out]; exact Pair.new y2 _ _ _
                  have lP6 : W6.heap.size ≤ pP6 := by rw [hpP6.out]; exact d2.size
                  have neP7P6 : pP7 ≠ pP6 := by rw [hpP6.out]; exact Nat.ne_of_lt P7.lt
                  have neP6P7 := neP7P6.symm
                  have P7 := P7.below b3 P7.lt
                  have n2 := n2.below b3
                  refine reg_mem (v := .pointer (some ⟨pP6, 0, none⟩)) (w' := y3) (by kernel_rfl) ?_ d3 ?_
                  · intro K' hk; go_simp; rw [← hy3.out, ← hpP6.out]; exact hk
                  clear b3
                  simp only [Act.put, List.setIfInBounds_toArray, List.set_cons_zero, List.set_cons_succ]
                  refine reg_one (j := 5) (l := #[true, true, true, true, true, true, true, true, false, false]) rfl (by kernel_rfl) rfl ?_
                  refine reg_call (by kernel_rfl) (KB1.out y3 (below_trans DW.out d3)) (by go_simp) ?_
                  rintro e y4 ⟨a5, c5, rfl, n5, b4⟩
                  have d4 := below_trans d3 b4
                  have P7 := P7.below b4 P7.lt
                  have n2 := n2.below b4
                  have P6 := P6.below b4 P6.lt
                  refine ⟨_, rfl, d4, ?_⟩
                  clear b4
                  simp only [Act.put, List.setIfInBounds_toArray, List.set_cons_zero, List.set_cons_succ]
                  refine reg_one (j := 8) (l := #[true, true, true, true, true, true, true, true, true, false]) rfl (by kernel_rfl) rfl ?_
                  have x0 := P6.cell0
                  have x1 := P6.cell1
                  have x2 := P6.free 0
                  have x3 := P6.free 1
                  obtain ⟨y5, hy5⟩ : ∃ W, Hid (W = put2 y4 pP6 (.bool A.1) (.slice a2 (nlen BW A.2) c2)) := ⟨_, Lib.hid rfl⟩
                  have d5 : Below W6.heap.size W6 y5 := by rw [hy5.out]; exact below_put2 d4 lP6 _ _
                  refine reg_mem (v := undef) (w' := y5) (by kernel_rfl) ?_ d5 ?_
                  · intro K' hk; rw [hy5.out] at hk; go_simp; exact hk
                  clear x0 x1 x2 x3
                  simp only [Act.put, List.setIfInBounds_toArray, List.set_cons_zero, List.set_cons_succ]
                  have P7 := P7.put2o (.bool A.1) (.slice a2 (nlen BW A.2) c2) neP7P6
                  rw [← hy5.out] at P7
                  have n2 := n2.put2 P6 (.bool A.1) (.slice a2 (nlen BW A.2) c2)
                  rw [← hy5.out] at n2
                  have n5 := n5.put2 P6 (.bool A.1) (.slice a2 (nlen BW A.2) c2)
                  rw [← hy5.out] at n5
                  have P6 := P6.put2 (.bool A.1) (.slice a2 (nlen BW A.2) c2)
                  rw [← hy5.out] at P6
                  refine reg_one (j := 9) (l := #[true, true, true, true, true, true, true, true, true, true]) rfl (by kernel_rfl) rfl ?_
                  have x0 := P7.cell0
                  have x1 := P7.cell1
                  have x2 := P7.free 0
                  have x3 := P7.free 1
                  obtain ⟨y6, hy6⟩ : ∃ W, Hid (W = put2 y5 pP7 (.bool O.1) (.slice a5 (nlen BW O.2) c5)) := ⟨_, Lib.hid rfl⟩
                  have d6 : Below W6.heap.size W6 y6 := by rw [hy6.out]; exact below_put2 d5 lP7 _ _
                  refine reg_mem (v := undef) (w' := y6) (by kernel_rfl) ?_ d6 ?_
                  · intro K' hk; rw [hy6.out] at hk; go_simp; exact hk
                  clear x0 x1 x2 x3
                  simp only [Act.put, List.setIfInBounds_toArray, List.set_cons_zero, List.set_cons_succ]
                  have n2 := n2.put2 P7 (.bool O.1) (.slice a5 (nlen BW O.2) c5)
                  rw [← hy6.out] at n2
                  have P6 := P6.put2o (.bool O.1) (.slice a5 (nlen BW O.2) c5) neP6P7
                  rw [← hy6.out] at P6
                  have n5 := n5.put2 P7 (.bool O.1) (.slice a5 (nlen BW O.2) c5)
                  rw [← hy6.out] at n5
                  have P7 := P7.put2 (.bool O.1) (.slice a5 (nlen BW O.2) c5)
                  rw [← hy6.out] at P7
                  refine until_done (by kernel_rfl) ?_ _
                  go_wp2_with fail
                  go_meet
                  exact ⟨_, _, _, _, _, _, rfl, rfl, P6, P7, n2, n5, d6⟩
              · obtain ⟨y2, hy2⟩ : ∃ W, Hid (W = y1.alloc (.cells #[.bool false, .slice none 0 0] 24)) := ⟨_, Lib.hid rfl⟩
                have b2 : Below y1.heap.size y1 y2 := by rw [hy2.out]; exact (Below.refl _ y1).alloc (Nat.le_refl _) _
                have d2 := below_trans d1 b2
                obtain ⟨pP6, hpP6⟩ : ∃ p, Hid (p = y1.heap.size) := ⟨_, Lib.hid rfl⟩
                have P6 : Pair y2 pP6 24 (.bool false) (.slice none 0 0) := by rw [hpP6.out, hy2.out]; exact Pair.new y1 _ _ _
                have lP6 : W6.heap.size ≤ pP6 := by rw [hpP6.out]; exact d1.size
                have neP7P6 : pP7 ≠ pP6 := by rw [hpP6.out]; exact Nat.ne_of_lt P7.lt
                have neP6P7 := neP7P6.symm
                have P7 := P7.below b2 P7.lt
                refine reg_mem (v := .pointer (some ⟨pP6, 0, none⟩)) (w' := y2) (by kernel_rfl) ?_ d2 ?_
                · intro K' hk; go_simp; rw [← hy2.out, ← hpP6.out]; exact hk
                clear b2
                simp only [Act.put, List.setIfInBounds_toArray, List.set_cons_zero, List.set_cons_succ]
                refine reg_one (j := 2) (l := #[true, true, true, true, true, false, true, true, false, false]) rfl (by kernel_rfl) rfl ?_
                refine reg_call (by kernel_rfl) (KB0.out y2 (below_trans DW.out d2)) (by go_simp) ?_
                rintro e y3 ⟨a2, c2, rfl, n2, b3⟩
                have d3 := below_trans d2 b3
                have P7 := P7.below b3 P7.lt
                have P6 := P6.below b3 P6.lt
                refine ⟨_, rfl, d3, ?_⟩
                clear b3
                simp only [Act.put, List.setIfInBounds_toArray, List.set_cons_zero, List.set_cons_succ]
                refine reg_one (j := 5) (l := #[true, true, true, true, true, true, true, true, false, false]) rfl (by kernel_rfl) rfl ?_
                refine reg_call (by kernel_rfl) (KB1.out y3 (below_trans DW.out d3)) (by go_simp) ?_
                rintro e y4 ⟨a5, c5, rfl, n5, b4⟩
                have d4 := below_trans d3 b4
                have P7 := P7.below b4 P7.lt
                have P6 := P6.below b4 P6.lt
                have n2 := n2.below b4
                refine ⟨_, rfl, d4, ?_⟩
                clear b4
                simp only [Act.put, List.setIfInBounds_toArray, List.set_cons_zero, List.set_cons_succ]
                refine reg_one (j := 8) (l := #[true, true, true, true, true, true, true, true, true, false]) rfl (by kernel_rfl) rfl ?_
                have x0 := P6.cell0
                have x1 := P6.cell1
                have x2 := P6.free 0
                have x3 := P6.free 1
                obtain ⟨y5, hy5⟩ : ∃ W, Hid (W = put2 y4 pP6 (.bool A.1) (.slice a2 (nlen BW A.2) c2)) := ⟨_, Lib.hid rfl⟩
                have d5 : Below W6.heap.size W6 y5 := by rw [hy5.out]; exact below_put2 d4 lP6 _ _
                refine reg_mem (v := undef) (w' := y5) (by kernel_rfl) ?_ d5 ?_
                · intro K' hk; rw [hy5.out] at hk; go_simp; exact hk
                clear x0 x1 x2 x3
                simp only [Act.put, List.setIfInBounds_toArray, List.set_cons_zero, List.set_cons_succ]
                have P7 := P7.put2o (.bool A.1) (.slice a2 (nlen BW A.2) c2) neP7P6
                rw [← hy5.out] at P7
                have n2 := n2.put2 P6 (.bool A.1) (.slice a2 (nlen BW A.2) c2)
                rw [← hy5.out] at n2
                have n5 := n5.put2 P6 (.bool A.1) (.slice a2 (nlen BW A.2) c2)
                rw [← hy5.out] at n5
                have P6 := P6.put2 (.bool A.1) (.slice a2 (nlen BW A.2) c2)
                rw [← hy5.out] at P6
                refine reg_one (j := 9) (l := #[true, true, true, true, true, true, true, true, true, true]) rfl (by kernel_rfl) rfl ?_
                have x0 := P7.cell0
                have x1 := P7.cell1
                have x2 := P7.free 0
                have x3 := P7.free 1
                obtain ⟨y6, hy6⟩ : ∃ W, Hid (W = put2 y5 pP7 (.bool O.1) (.slice a5 (nlen BW O.2) c5)) := ⟨_, Lib.hid rfl⟩
                have d6 : Below W6.heap.size W6 y6 := by rw [hy6.out]; exact below_put2 d5 lP7 _ _
                refine reg_mem (v := undef) (w' := y6) (by kernel_rfl) ?_ d6 ?_
                · intro K' hk; rw [hy6.out] at hk; go_simp; exact hk
                clear x0 x1 x2 x3
                simp only [Act.put, List.setIfInBounds_toArray, List.set_cons_zero, List.set_cons_succ]
                have P6 := P6.put2o (.bool O.1) (.slice a5 (nlen BW O.2) c5) neP6P7
                rw [← hy6.out] at P6
                have n2 := n2.put2 P7 (.bool O.1) (.slice a5 (nlen BW O.2) c5)
                rw [← hy6.out] at n2
                have n5 := n5.put2 P7 (.bool O.1) (.slice a5 (nlen BW O.2) c5)
                rw [← hy6.out] at n5
                have P7 := P7.put2 (.bool O.1) (.slice a5 (nlen BW O.2) c5)
                rw [← hy6.out] at P7
                refine until_done (by kernel_rfl) ?_ _
                go_wp2_with fail
                go_meet
                exact ⟨_, _, _, _, _, _, rfl, rfl, P6, P7, n2, n5, d6⟩
          case rest =>
          obtain ⟨p6, p7, a6, c6, a7, c7, rfl, rfl, P6, P7, n6, n7, d6⟩ := hcut
          obtain ⟨W7, HW7⟩ : ∃ W, Hid (W = wc) := ⟨_, Lib.hid rfl⟩
          rw [← HW7.out] at P6 P7 n6 n7 d6 ⊢
          have DW7 := Lib.hid (below_trans DW.out d6)
          have K7 := Lib.hid (show ∀ u, Below W7.heap.size W7 u → Pair u p6 24 (.bool A.1) (.slice a6 (nlen BW A.2) c6) ∧ Pair u p7 24 (.bool O.1) (.slice a7 (nlen BW O.2) c7) ∧ NumAt u A a6 c6 ∧ NumAt u O a7 c7 ∧ Pair u p5 24 (.bool false) (.slice none 0 0) from fun u hu => ⟨P6.below hu P6.lt, P7.below hu P7.lt, n6.below hu, n7.below hu, K5.out u (below_trans d6 hu)⟩)
          clear P6 P7 n6 n7 d6 KS DW HW7
          have DW := DW7
          go_upto_region 7 with fail
          have KS := Lib.hid (show ∀ u, Below W7.heap.size W7 u → u.cell? ⟨w.heap.size, 0, none⟩ = some (.bool na) ∧ u.cell? ⟨w.heap.size, 1, none⟩ = some (.slice ax nx cx) ∧ u.cell? ⟨w.heap.size + 1, 0, none⟩ = some (.bool nb) ∧ u.cell? ⟨w.heap.size + 1, 1, none⟩ = some (.slice ay ny cy) ∧ u.cell? ⟨p5, 0, none⟩ = some (.bool false) ∧ u.cell? ⟨p5, 1, none⟩ = some (.slice none 0 0) from fun u hu => by
            have q := (KB.out u (below_trans DW.out hu)).1
            have q2 := (K7.out u hu).2.2.2.2
            exact ⟨q.1.1.cell0, q.1.1.cell1, q.2.1.cell0, q.2.1.cell1, q2.cell0, q2.cell1⟩)
          go_cut [8] from 10 (fun s8 wc => ∃ p8 a8 c8, s8 = .pointer (some ⟨p8, 0, none⟩) ∧ Pair wc p8 24 (.bool A.1) (.slice a8 (nlen BW A.2) c8) ∧ NumAt wc A a8 c8 ∧ Below W7.heap.size W7 wc)
          case first =>
            refine reg_begin (fun u => Below W7.heap.size W7 u) 10 11 #[false, false, false, false, false, false, false, false, false, false, false] (by kernel_rfl) rfl rfl ⟨rfl, rfl, rfl, Nat.le_refl _, fun _ _ => rfl⟩ ?_
            obtain ⟨y0, hy0⟩ : ∃ y, Hid (y = W7.drew) := ⟨_, Lib.hid rfl⟩
            have d0 : Below W7.heap.size W7 y0 := by rw [hy0.out]; exact ⟨rfl, rfl, rfl, Nat.le_refl _, fun _ _ => rfl⟩
            rw [← hy0.out]
            refine reg_take 0 [10] (l := #[true, false, false, false, false, false, false, false, false, false, false]) rfl rfl rfl (by kernel_rfl) (by kernel_rfl) (by kernel_rfl) (by kernel_rfl) (fun _ _ _ h => h) (v := .agg #[.bool na, .slice ax nx cx]) (.inl ⟨by kernel_rfl, ?_⟩) d0 ?_
            · intro w' hb; have hq := KS.out w' hb; have h1 := hq.1; have h2 := hq.2.1; have h3 := hq.2.2.1; have h4 := hq.2.2.2.1; have h5 := hq.2.2.2.2.1; have h6 := hq.2.2.2.2.2; clear hq; go_simp
            simp only [Act.put, List.setIfInBounds_toArray, List.set_cons_zero, List.set_cons_succ]
            refine reg_take 1 [10] (l := #[true, true, false, false, false, false, false, false, false, false, false]) rfl rfl rfl (by kernel_rfl) (by kernel_rfl) (by kernel_rfl) (by kernel_rfl) (fun _ _ _ h => h) (v := .agg #[.bool false, .slice none 0 0]) (.inl ⟨by kernel_rfl, ?_⟩) d0 ?_
            · intro w' hb; have hq := KS.out w' hb; have h1 := hq.1; have h2 := hq.2.1; have h3 := hq.2.2.1; have h4 := hq.2.2.2.1; have h5 := hq.2.2.2.2.1; have h6 := hq.2.2.2.2.2; clear hq; go_simp
            simp only [Act.put, List.setIfInBounds_toArray, List.set_cons_zero, List.set_cons_succ]
            refine reg_take 3 [10] (l := #[true, true, false, true, false, false, false, false, false, false, false]) rfl rfl rfl (by kernel_rfl) (by kernel_rfl) (by kernel_rfl) (by kernel_rfl) (fun _ _ _ h => h) (v := .agg #[.bool nb, .slice ay ny cy]) (.inl ⟨by kernel_rfl, ?_⟩) d0 ?_
            · intro w' hb; have hq := KS.out w' hb; have h1 := hq.1; have h2 := hq.2.1; have h3 := hq.2.2.1; have h4 := hq.2.2.2.1; have h5 := hq.2.2.2.2.1; have h6 := hq.2.2.2.2.2; clear hq; go_simp
            simp only [Act.put, List.setIfInBounds_toArray, List.set_cons_zero, List.set_cons_succ]
            refine reg_take 4 [10] (l := #[true, true, false, true, true, false, false, false, false, false, false]) rfl rfl rfl (by kernel_rfl) (by kernel_rfl) (by kernel_rfl) (by kernel_rfl) (fun _ _ _ h => h) (v := .agg #[.bool false, .slice none 0 0]) (.inl ⟨by kernel_rfl, ?_⟩) d0 ?_
            · intro w' hb; have hq := KS.out w' hb; have h1 := hq.1; have h2 := hq.2.1; have h3 := hq.2.2.1; have h4 := hq.2.2.2.1; have h5 := hq.2.2.2.2.1; have h6 := hq.2.2.2.2.2; clear hq; go_simp
            simp only [Act.put, List.setIfInBounds_toArray, List.set_cons_zero, List.set_cons_succ]
            refine reg_take 7 [10] (l := #[true, true, false, true, true, false, false, true, false, false, false]) rfl rfl rfl (by kernel_rfl) (by kernel_rfl) (by kernel_rfl) (by kernel_rfl) (fun _ _ _ h => h) (v := .agg #[.bool false, .slice none 0 0]) (.inl ⟨by kernel_rfl, ?_⟩) d0 ?_
            · intro w' hb; have hq := KS.out w' hb; have h1 := hq.1; have h2 := hq.2.1; have h3 := hq.2.2.1; have h4 := hq.2.2.2.1; have h5 := hq.2.2.2.2.1; have h6 := hq.2.2.2.2.2; clear hq; go_simp
            simp only [Act.put, List.setIfInBounds_toArray, List.set_cons_zero, List.set_cons_succ]
            refine reg_two (j := 2) (k := 9) (l := #[true, true, true, true, true, false, false, true, false, false, false]) (m := #[true, true, false, true, true, false, false, true, false, true, false]) rfl rfl (by kernel_rfl) rfl rfl ?_ ?_
            · refine reg_call (by kernel_rfl) (KNX.out y0 (below_trans DW.out d0)) (by go_simp) ?_
              rintro e y1 ⟨a2, c2, rfl, n2, b1⟩
              have d1 := below_trans d0 b1
              refine ⟨_, rfl, d1, ?_⟩
              clear b1
              simp only [Act.put, List.setIfInBounds_toArray, List.set_cons_zero, List.set_cons_succ]
              refine reg_two (j := 5) (k := 9) (l := #[true, true, true, true, true, true, false, true, false, false, false]) (m := #[true, true, true, true, true, false, false, true, false, true, false]) rfl rfl (by kernel_rfl) rfl rfl ?_ ?_
              · refine reg_call (by kernel_rfl) (KNY.out y1 (below_trans DW.out d1)) (by go_simp) ?_
                rintro e y2 ⟨a5, c5, rfl, n5, b2⟩
                have d2 := below_trans d1 b2
                have n2 := n2.below b2
                refine ⟨_, rfl, d2, ?_⟩
                clear b2
                simp only [Act.put, List.setIfInBounds_toArray, List.set_cons_zero, List.set_cons_succ]
                refine reg_two (j := 6) (k := 9) (l := #[true, true, true, true, true, true, true, true, false, false, false]) (m := #[true, true, true, true, true, true, false, true, false, true, false]) rfl rfl (by kernel_rfl) rfl rfl ?_ ?_
                · refine reg_call (by kernel_rfl) (bits_num 1 (by omega) NX NY a2 a5 c2 c5 T y2 PNX.out PNY.out LNX'.out LNY'.out n2 n5 (KB.out _ (below_trans DW.out d2)).2.1 hT.out) (by go_simp) ?_
                  rintro e y3 ⟨atT, ct, rfl, nt, b3⟩
                  have d3 := below_trans d2 b3
                  have n2 := n2.below b3
                  have n5 := n5.below b3
                  refine ⟨_, rfl, d3, ?_⟩
                  clear b3
                  simp only [Act.put, List.setIfInBounds_toArray, List.set_cons_zero, List.set_cons_succ]
                  refine reg_two (j := 8) (k := 9) (l := #[true, true, true, true, true, true, true, true, true, false, false]) (m := #[true, true, true, true, true, true, true, true, false, true, false]) rfl rfl (by kernel_rfl) rfl rfl ?_ ?_
                  · refine reg_call (by kernel_rfl) (not_num T atT ct A y3 PT.out LT.out nt (KB.out _ (below_trans DW.out d3)).2.1 HTA.out) (by go_simp) ?_
                    rintro e y4 ⟨az, cz, rfl, nz, b4⟩
                    have d4 := below_trans d3 b4
                    have n2 := n2.below b4
                    have n5 := n5.below b4
                    have nt := nt.below b4
                    refine ⟨_, rfl, d4, ?_⟩
                    clear b4
                    simp only [Act.put, List.setIfInBounds_toArray, List.set_cons_zero, List.set_cons_succ]
                    refine reg_one (j := 9) (l := #[true, true, true, true, true, true, true, true, true, true, false]) rfl (by kernel_rfl) rfl ?_
                    obtain ⟨y5, hy5⟩ : ∃ W, Hid (W = y4.alloc (.cells #[.bool false, .slice none 0 0] 24)) := ⟨_, Lib.hid rfl⟩
                    have b5 : Below y4.heap.size y4 y5 := by rw [hy5.out]; exact (Below.refl _ y4).alloc (Nat.le_refl _) _
                    have d5 := below_trans d4 b5
                    obtain ⟨pP8, hpP8⟩ : ∃ p, Hid (p = y4.heap.size) := ⟨_, Lib.hid rfl⟩
                    have P8 : Pair y5 pP8 24 (.bool false) (.slice none 0 0) := by rw [hpP8.out, hy5.out]; exact Pair.new y4 _ _ _
                    have lP8 : W7.heap.size ≤ pP8 := by rw [hpP8.out]; exact d4.size
                    have n2 := n2.below b5
                    have n5 := n5.below b5
                    have nt := nt.below b5
                    have nz := nz.below b5
                    refine reg_mem (v := .pointer (some ⟨pP8, 0, none⟩)) (w' := y5) (by kernel_rfl) ?_ d5 ?_
                    · intro K' hk; go_simp; rw [← hy5.out, ← hpP8.out]; exact hk
                    clear b5
                    simp only [Act.put, List.setIfInBounds_toArray, List.set_cons_zero, List.set_cons_succ]
                    refine reg_one (j := 10) (l := #[true, true, true, true, true, true, true, true, true, true, true]) rfl (by kernel_rfl) rfl ?_
                    have x0 := P8.cell0
                    have x1 := P8.cell1
                    have x2 := P8.free 0
                    have x3 := P8.free 1
                    obtain ⟨y6, hy6⟩ : ∃ W, Hid (W = put2 y5 pP8 (.bool A.1) (.slice az (nlen BW A.2) cz)) := ⟨_, Lib.hid rfl⟩
                    have d6 : Below W7.heap.size W7 y6 := by rw [hy6.out]; exact below_put2 d5 lP8 _ _
                    refine reg_mem (v := undef) (w' := y6) (by kernel_rfl) ?_ d6 ?_
                    · intro K' hk; rw [hy6.out] at hk; go_simp; exact hk
                    clear x0 x1 x2 x3
                    simp only [Act.put, List.setIfInBounds_toArray, List.set_cons_zero, List.set_cons_succ]
                    have n2 := n2.put2 P8 (.bool A.1) (.slice az (nlen BW A.2) cz)
                    rw [← hy6.out] at n2
                    have n5 := n5.put2 P8 (.bool A.1) (.slice az (nlen BW A.2) cz)
                    rw [← hy6.out] at n5
                    have nt := nt.put2 P8 (.bool A.1) (.slice az (nlen BW A.2) cz)
                    rw [← hy6.out] at nt
                    have nz := nz.put2 P8 (.bool A.1) (.slice az (nlen BW A.2) cz)
                    rw [← hy6.out] at nz
                    have P8 := P8.put2 (.bool A.1) (.slice az (nlen BW A.2) cz)
                    rw [← hy6.out] at P8
                    refine until_done (by kernel_rfl) ?_ _
                    go_wp2_with fail
                    go_meet
                    exact ⟨_, _, _, rfl, P8, nz, d6⟩
                  · obtain ⟨y4, hy4⟩ : ∃ W, Hid (W = y3.alloc (.cells #[.bool false, .slice none 0 0] 24)) := ⟨_, Lib.hid rfl⟩
                    have b4 : Below y3.heap.size y3 y4 := by rw [hy4.out]; exact (Below.refl _ y3).alloc (Nat.le_refl _) _
                    have d4 := below_trans d3 b4
                    obtain ⟨pP8, hpP8⟩ : ∃ p, Hid (p = y3.heap.size) := ⟨_, Lib.hid rfl⟩
                    have P8 : Pair y4 pP8 24 (.bool false) (.slice none 0 0) := by rw [hpP8.out, hy4.out]; exact Pair.new y3 _ _ _
                    have lP8 : W7.heap.size ≤ pP8 := by rw [hpP8.out]; exact d3.size
                    have n2 := n2.below b4
                    have n5 := n5.below b4
                    have nt := nt.below b4
                    refine reg_mem (v := .pointer (some ⟨pP8, 0, none⟩)) (w' := y4) (by kernel_rfl) ?_ d4 ?_
                    · intro K' hk; go_simp; rw [← hy4.out, ← hpP8.out]; exact hk
                    clear b4
                    simp only [Act.put, List.setIfInBounds_toArray, List.set_cons_zero, List.set_cons_succ]
                    refine reg_one (j := 8) (l := #[true, true, true, true, true, true, true, true, true, true, false]) rfl (by kernel_rfl) rfl ?_
                    refine reg_call (by kernel_rfl) (not_num T atT ct A y4 PT.out LT.out nt (KB.out _ (below_trans DW.out d4)).2.1 HTA.out) (by go_simp) ?_
                    rintro e y5 ⟨az, cz, rfl, nz, b5⟩
                    have d5 := below_trans d4 b5
                    have n2 := n2.below b5
                    have n5 := n5.below b5
                    have nt := nt.below b5
                    have P8 := P8.below b5 P8.lt
                    refine ⟨_, rfl, d5, ?_⟩
                    clear b5
                    simp only [Act.put, List.setIfInBounds_toArray, List.set_cons_zero, List.set_cons_succ]
                    refine reg_one (j := 10) (l := #[true, true, true, true, true, true, true, true, true, true, true]) rfl (by kernel_rfl) rfl ?_
                    have x0 := P8.cell0
                    have x1 := P8.cell1
                    have x2 := P8.free 0
                    have x3 := P8.free 1
                    obtain ⟨y6, hy6⟩ : ∃ W, Hid (W = put2 y5 pP8 (.bool A.1) (.slice az (nlen BW A.2) cz)) := ⟨_, Lib.hid rfl⟩
                    have d6 : Below W7.heap.size W7 y6 := by rw [hy6.out]; exact below_put2 d5 lP8 _ _
                    refine reg_mem (v := undef) (w' := y6) (by kernel_rfl) ?_ d6 ?_
                    · intro K' hk; rw [hy6.out] at hk; go_simp; exact hk
                    clear x0 x1 x2 x3
                    simp only [Act.put, List.setIfInBounds_toArray, List.set_cons_zero, List.set_cons_succ]
                    have n2 := n2.put2 P8 (.bool A.1) (.slice az (nlen BW A.2) cz)
                    rw [← hy6.out] at n2
                    have n5 := n5.put2 P8 (.bool A.1) (.slice az (nlen BW A.2) cz)
                    rw [← hy6.out] at n5
                    have nt := nt.put2 P8 (.bool A.1) (.slice az (nlen BW A.2) cz)
                    rw [← hy6.out] at nt
                    have nz := nz.put2 P8 (.bool A.1) (.slice az (nlen BW A.2) cz)
                    rw [← hy6.out] at nz
                    have P8 := P8.put2 (.bool A.1) (.slice az (nlen BW A.2) cz)
                    rw [← hy6.out] at P8
                    refine until_done (by kernel_rfl) ?_ _
                    go_wp2_with fail
                    go_meet
                    exact ⟨_, _, _, rfl, P8, nz, d6⟩
                · obtain ⟨y3, hy3⟩ : ∃ W, Hid (W = y2.alloc (.cells #[.bool false, .slice none 0 0] 24)) := ⟨_, Lib.hid rfl⟩
                  have b3 : Below y2.heap.size y2 y3 := by rw [hy3.out]; exact (Below.refl _ y2).alloc (Nat.le_refl _) _
                  have d3 := below_trans d2 b3
                  obtain ⟨pP8, hpP8⟩ : ∃ p, Hid (p = y2.heap.size) := ⟨_, Lib.hid rfl⟩
                  have P8 : Pair y3 pP8 24 (.bool false) (.slice none 0 0) := by rw [hpP8.out, hy3.out]; exact Pair.new y2 _ _ _
                  have lP8 : W7.heap.size ≤ pP8 := by rw [hpP8.out]; exact d2.size
                  have n2 := n2.below b3
                  have n5 := n5.below b3
                  refine reg_mem (v := .pointer (some ⟨pP8, 0, none⟩)) (w' := y3) (by kernel_rfl) ?_ d3 ?_
                  · intro K' hk; go_simp; rw [← hy3.out, ← hpP8.out]; exact hk
                  clear b3
                  simp only [Act.put, List.setIfInBounds_toArray, List.set_cons_zero, List.set_cons_succ]
                  refine reg_one (j := 6) (l := #[true, true, true, true, true, true, true, true, false, true, false]) rfl (by kernel_rfl) rfl ?_
                  refine reg_call (by kernel_rfl) (bits_num 1 (by omega) NX NY a2 a5 c2 c5 T y3 PNX.out PNY.out LNX'.out LNY'.out n2 n5 (KB.out _ (below_trans DW.out d3)).2.1 hT.out) (by go_simp) ?_
                  rintro e y4 ⟨atT, ct, rfl, nt, b4⟩
                  have d4 := below_trans d3 b4
                  have n2 := n2.below b4
                  have n5 := n5.below b4
                  have P8 := P8.below b4 P8.lt
                  refine ⟨_, rfl, d4, ?_⟩
                  clear b4
                  simp only [Act.put, List.setIfInBounds_toArray, List.set_cons_zero, List.set_cons_succ]
                  refine reg_one (j := 8) (l := #[true, true, true, true, true, true, true, true, true, true, false]) rfl (by kernel_rfl) rfl ?_
                  refine reg_call (by kernel_rfl) (not_num T atT ct A y4 PT.out LT.out nt (KB.out _ (below_trans DW.out d4)).2.1 HTA.out) (by go_simp) ?_
                  rintro e y5 ⟨az, cz, rfl, nz, b5⟩
                  have d5 := below_trans d4 b5
                  have n2 := n2.below b5
                  have n5 := n5.below b5
                  have P8 := P8.below b5 P8.lt
                  have nt := nt.below b5
                  refine ⟨_, rfl, d5, ?_⟩
                  clear b5
                  simp only [Act.put, List.setIfInBounds_toArray, List.set_cons_zero, List.set_cons_succ]
                  refine reg_one (j := 10) (l := #[true, true, true, true, true, true, true, true, true, true, true]) rfl (by kernel_rfl) rfl ?_
                  have x0 := P8.cell0
                  have x1 := P8.cell1
                  have x2 := P8.free 0
                  have x3 := P8.free 1
                  obtain ⟨y6, hy6⟩ : ∃ W, Hid (W = put2 y5 pP8 (.bool A.1) (.slice az (nlen BW A.2) cz)) := ⟨_, Lib.hid rfl⟩
                  have d6 : Below W7.heap.size W7 y6 := by rw [hy6.out]; exact below_put2 d5 lP8 _ _
                  refine reg_mem (v := undef) (w' := y6) (by kernel_rfl) ?_ d6 ?_
                  · intro K' hk; rw [hy6.out] at hk; go_simp; exact hk
                  clear x0 x1 x2 x3
                  simp only [Act.put, List.setIfInBounds_toArray, List.set_cons_zero, List.set_cons_succ]
                  have n2 := n2.put2 P8 (.bool A.1) (.slice az (nlen BW A.2) cz)
                  rw [← hy6.out] at n2
                  have n5 := n5.put2 P8 (.bool A.1) (.slice az (nlen BW A.2) cz)
                  rw [← hy6.out] at n5
                  have nt := nt.put2 P8 (.bool A.1) (.slice az (nlen BW A.2) cz)
                  rw [← hy6.out] at nt
                  have nz := nz.put2 P8 (.bool A.1) (.slice az (nlen BW A.2) cz)
                  rw [← hy6.out] at nz
                  have P8 := P8.put2 (.bool A.1) (.slice az (nlen BW A.2) cz)
                  rw [← hy6.out] at P8
                  refine until_done (by kernel_rfl) ?_ _
                  go_wp2_with fail
                  go_meet
                  exact ⟨_, _, _, rfl, P8, nz, d6⟩
              · obtain ⟨y2, hy2⟩ : ∃ W, Hid (W = y1.alloc (.cells #[.bool false, .slice none 0 0] 24)) := ⟨_, Lib.hid rfl⟩
                have b2 : Below y1.heap.size y1 y2 := by rw [hy2.out]; exact (Below.refl _ y1).alloc (Nat.le_refl _) _
                have d2 := below_trans d1 b2
                obtain ⟨pP8, hpP8⟩ : ∃ p, Hid (p = y1.heap.size) := ⟨_, Lib.hid rfl⟩
                have P8 : Pair y2 pP8 24 (.bool false) (.slice none 0 0) := by rw [hpP8.out, hy2.out]; exact Pair.new y1 _ _ _
                have lP8 : W7.heap.size ≤ pP8 := by rw [hpP8.out]; exact d1.size
                have n2 := n2.below b2
                refine reg_mem (v := .pointer (some ⟨pP8, 0, none⟩)) (w' := y2) (by kernel_rfl) ?_ d2 ?_
                · intro K' hk; go_simp; rw [← hy2.out, ← hpP8.out]; exact hk
                clear b2
                simp only [Act.put, List.setIfInBounds_toArray, List.set_cons_zero, List.set_cons_succ]
                refine reg_one (j := 5) (l := #[true, true, true, true, true, true, false, true, false, true, false]) rfl (by kernel_rfl) rfl ?_
                refine reg_call (by kernel_rfl) (KNY.out y2 (below_trans DW.out d2)) (by go_simp) ?_
                rintro e y3 ⟨a5, c5, rfl, n5, b3⟩
                have d3 := below_trans d2 b3
                have n2 := n2.below b3
                have P8 := P8.below b3 P8.lt
                refine ⟨_, rfl, d3, ?_⟩
                clear b3
                simp only [Act.put, List.setIfInBounds_toArray, List.set_cons_zero, List.set_cons_succ]
                refine reg_one (j := 6) (l := #[true, true, true, true, true, true, true, true, false, true, false]) rfl (by kernel_rfl) rfl ?_
                refine reg_call (by kernel_rfl) (bits_num 1 (by omega) NX NY a2 a5 c2 c5 T y3 PNX.out PNY.out LNX'.out LNY'.out n2 n5 (KB.out _ (below_trans DW.out d3)).2.1 hT.out) (by go_simp) ?_
                rintro e y4 ⟨atT, ct, rfl, nt, b4⟩
                have d4 := below_trans d3 b4
                have n2 := n2.below b4
                have P8 := P8.below b4 P8.lt
                have n5 := n5.below b4
                refine ⟨_, rfl, d4, ?_⟩
                clear b4
                simp only [Act.put, List.setIfInBounds_toArray, List.set_cons_zero, List.set_cons_succ]
                refine reg_one (j := 8) (l := #[true, true, true, true, true, true, true, true, true, true, false]) rfl (by kernel_rfl) rfl ?_
                refine reg_call (by kernel_rfl) (not_num T atT ct A y4 PT.out LT.out nt (KB.out _ (below_trans DW.out d4)).2.1 HTA.out) (by go_simp) ?_
                rintro e y5 ⟨az, cz, rfl, nz, b5⟩
                have d5 := below_trans d4 b5
                have n2 := n2.below b5
                have P8 := P8.below b5 P8.lt
                have n5 := n5.below b5
                have nt := nt.below b5
                refine ⟨_, rfl, d5, ?_⟩
                clear b5
                simp only [Act.put, List.setIfInBounds_toArray, List.set_cons_zero, List.set_cons_succ]
                refine reg_one (j := 10) (l := #[true, true, true, true, true, true, true, true, true, true, true]) rfl (by kernel_rfl) rfl ?_
                have x0 := P8.cell0
                have x1 := P8.cell1
                have x2 := P8.free 0
                have x3 := P8.free 1
                obtain ⟨y6, hy6⟩ : ∃ W, Hid (W = put2 y5 pP8 (.bool A.1) (.slice az (nlen BW A.2) cz)) := ⟨_, Lib.hid rfl⟩
                have d6 : Below W7.heap.size W7 y6 := by rw [hy6.out]; exact below_put2 d5 lP8 _ _
                refine reg_mem (v := undef) (w' := y6) (by kernel_rfl) ?_ d6 ?_
                · intro K' hk; rw [hy6.out] at hk; go_simp; exact hk
                clear x0 x1 x2 x3
                simp only [Act.put, List.setIfInBounds_toArray, List.set_cons_zero, List.set_cons_succ]
                have n2 := n2.put2 P8 (.bool A.1) (.slice az (nlen BW A.2) cz)
                rw [← hy6.out] at n2
                have n5 := n5.put2 P8 (.bool A.1) (.slice az (nlen BW A.2) cz)
                rw [← hy6.out] at n5
                have nt := nt.put2 P8 (.bool A.1) (.slice az (nlen BW A.2) cz)
                rw [← hy6.out] at nt
                have nz := nz.put2 P8 (.bool A.1) (.slice az (nlen BW A.2) cz)
                rw [← hy6.out] at nz
                have P8 := P8.put2 (.bool A.1) (.slice az (nlen BW A.2) cz)
                rw [← hy6.out] at P8
                refine until_done (by kernel_rfl) ?_ _
                go_wp2_with fail
                go_meet
                exact ⟨_, _, _, rfl, P8, nz, d6⟩
            · obtain ⟨y1, hy1⟩ : ∃ W, Hid (W = y0.alloc (.cells #[.bool false, .slice none 0 0] 24)) := ⟨_, Lib.hid rfl⟩
              have b1 : Below y0.heap.size y0 y1 := by rw [hy1.out]; exact (Below.refl _ y0).alloc (Nat.le_refl _) _
              have d1 := below_trans d0 b1
              obtain ⟨pP8, hpP8⟩ : ∃ p, Hid (p = y0.heap.size) := ⟨_, Lib.hid rfl⟩
              have P8 : Pair y1 pP8 24 (.bool false) (.slice none 0 0) := by rw [hpP8.out, hy1.out]; exact Pair.new y0 _ _ _
              have lP8 : W7.heap.size ≤ pP8 := by rw [hpP8.out]; exact d0.size
              refine reg_mem (v := .pointer (some ⟨pP8, 0, none⟩)) (w' := y1) (by kernel_rfl) ?_ d1 ?_
              · intro K' hk; go_simp; rw [← hy1.out, ← hpP8.out]; exact hk
              clear b1
              simp only [Act.put, List.setIfInBounds_toArray, List.set_cons_zero, List.set_cons_succ]
              refine reg_one (j := 2) (l := #[true, true, true, true, true, false, false, true, false, true, false]) rfl (by kernel_rfl) rfl ?_
              refine reg_call (by kernel_rfl) (KNX.out y1 (below_trans DW.out d1)) (by go_simp) ?_
              rintro e y2 ⟨a2, c2, rfl, n2, b2⟩
              have d2 := below_trans d1 b2
              have P8 := P8.below b2 P8.lt
              refine ⟨_, rfl, d2, ?_⟩
              clear b2
              simp only [Act.put, List.setIfInBounds_toArray, List.set_cons_zero, List.set_cons_succ]
              refine reg_one (j := 5) (l := #[true, true, true, true, true, true, false, true, false, true, false]) rfl (by kernel_rfl) rfl ?_
              refine reg_call (by kernel_rfl) (KNY.out y2 (below_trans DW.out d2)) (by go_simp) ?_
              rintro e y3 ⟨a5, c5, rfl, n5, b3⟩
              have d3 := below_trans d2 b3
              have P8 := P8.below b3 P8.lt
              have n2 := n2.below b3
              refine ⟨_, rfl, d3, ?_⟩
              clear b3
              simp only [Act.put, List.setIfInBounds_toArray, List.set_cons_zero, List.set_cons_succ]
              refine reg_one (j := 6) (l := #[true, true, true, true, true, true, true, true, false, true, false]) rfl (by kernel_rfl) rfl ?_
              refine reg_call (by kernel_rfl) (bits_num 1 (by omega) NX NY a2 a5 c2 c5 T y3 PNX.out PNY.out LNX'.out LNY'.out n2 n5 (KB.out _ (below_trans DW.out d3)).2.1 hT.out) (by go_simp) ?_
              rintro e y4 ⟨atT, ct, rfl, nt, b4⟩
              have d4 := below_trans d3 b4
              have P8 := P8.below b4 P8.lt
              have n2 := n2.below b4
              have n5 := n5.below b4
              refine ⟨_, rfl, d4, ?_⟩
              clear b4
              simp only [Act.put, List.setIfInBounds_toArray, List.set_cons_zero, List.set_cons_succ]
              refine reg_one (j := 8) (l := #[true, true, true, true, true, true, true, true, true, true, false]) rfl (by kernel_rfl) rfl ?_
              refine reg_call (by kernel_rfl) (not_num T atT ct A y4 PT.out LT.out nt (KB.out _ (below_trans DW.out d4)).2.1 HTA.out) (by go_simp) ?_
              rintro e y5 ⟨az, cz, rfl, nz, b5⟩
              have d5 := below_trans d4 b5
              have P8 := P8.below b5 P8.lt
              have n2 := n2.below b5
              have n5 := n5.below b5
              have nt := nt.below b5
              refine ⟨_, rfl, d5, ?_⟩
              clear b5
              simp only [Act.put, List.setIfInBounds_toArray, List.set_cons_zero, List.set_cons_succ]
              refine reg_one (j := 10) (l := #[true, true, true, true, true, true, true, true, true, true, true]) rfl (by kernel_rfl) rfl ?_
              have x0 := P8.cell0
              have x1 := P8.cell1
              have x2 := P8.free 0
              have x3 := P8.free 1
              obtain ⟨y6, hy6⟩ : ∃ W, Hid (W = put2 y5 pP8 (.bool A.1) (.slice az (nlen BW A.2) cz)) := ⟨_, Lib.hid rfl⟩
              have d6 : Below W7.heap.size W7 y6 := by rw [hy6.out]; exact below_put2 d5 lP8 _ _
              refine reg_mem (v := undef) (w' := y6) (by kernel_rfl) ?_ d6 ?_
              · intro K' hk; rw [hy6.out] at hk; go_simp; exact hk
              clear x0 x1 x2 x3
              simp only [Act.put, List.setIfInBounds_toArray, List.set_cons_zero, List.set_cons_succ]
              have n2 := n2.put2 P8 (.bool A.1) (.slice az (nlen BW A.2) cz)
              rw [← hy6.out] at n2
              have n5 := n5.put2 P8 (.bool A.1) (.slice az (nlen BW A.2) cz)
              rw [← hy6.out] at n5
              have nt := nt.put2 P8 (.bool A.1) (.slice az (nlen BW A.2) cz)
              rw [← hy6.out] at nt
              have nz := nz.put2 P8 (.bool A.1) (.slice az (nlen BW A.2) cz)
              rw [← hy6.out] at nz
              have P8 := P8.put2 (.bool A.1) (.slice az (nlen BW A.2) cz)
              rw [← hy6.out] at P8
              refine until_done (by kernel_rfl) ?_ _
              go_wp2_with fail
              go_meet
              exact ⟨_, _, _, rfl, P8, nz, d6⟩
          case rest =>
          obtain ⟨p8, a8, c8, rfl, P8, n8, d8⟩ := hcut
          obtain ⟨W8, HW8⟩ : ∃ W, Hid (W = wc) := ⟨_, Lib.hid rfl⟩
          rw [← HW8.out] at P8 n8 d8 ⊢
          have DW8 := Lib.hid (below_trans DW.out d8)
          have K8 := Lib.hid (show ∀ u, Below W8.heap.size W8 u → Pair u p6 24 (.bool A.1) (.slice a6 (nlen BW A.2) c6) ∧ Pair u p7 24 (.bool O.1) (.slice a7 (nlen BW O.2) c7) ∧ NumAt u A a6 c6 ∧ NumAt u O a7 c7 ∧ Pair u p8 24 (.bool A.1) (.slice a8 (nlen BW A.2) c8) ∧ NumAt u A a8 c8 from fun u hu => by
            have q := K7.out u (below_trans d8 hu)
            exact ⟨q.1, q.2.1, q.2.2.1, q.2.2.2.1, P8.below hu P8.lt, n8.below hu⟩)
          clear P8 n8 d8 KS DW HW8 K7 DW7 K5
          have DW := DW8
          go_upto_region 8 with fail
          have KS := Lib.hid (show ∀ u, Below W8.heap.size W8 u → u.cell? ⟨p6, 0, none⟩ = some (.bool A.1) ∧ u.cell? ⟨p6, 1, none⟩ = some (.slice a6 (nlen BW A.2) c6) ∧ u.cell? ⟨p7, 0, none⟩ = some (.bool O.1) ∧ u.cell? ⟨p7, 1, none⟩ = some (.slice a7 (nlen BW O.2) c7) from fun u hu => by
            have q := K8.out u hu
            exact ⟨q.1.cell0, q.1.cell1, q.2.1.cell0, q.2.1.cell1⟩)
          go_cut [9] from 10 (fun s9 wc => ∃ p9 a9 c9, s9 = .pointer (some ⟨p9, 0, none⟩) ∧ Pair wc p9 29 (.bool S1.1) (.slice a9 (nlen 65536 S1.2) c9) ∧ NatAt wc S1.2 a9 c9 ∧ Below W8.heap.size W8 wc)
          case first =>
            refine reg_begin (fun u => Below W8.heap.size W8 u) 6 7 #[false, false, false, false, false, false, false] (by kernel_rfl) rfl rfl ⟨rfl, rfl, rfl, Nat.le_refl _, fun _ _ => rfl⟩ ?_
            obtain ⟨y0, hy0⟩ : ∃ y, Hid (y = W8.drew) := ⟨_, Lib.hid rfl⟩
            have d0 : Below W8.heap.size W8 y0 := by rw [hy0.out]; exact ⟨rfl, rfl, rfl, Nat.le_refl _, fun _ _ => rfl⟩
            rw [← hy0.out]
            refine reg_take 0 [6] (l := #[true, false, false, false, false, false, false]) rfl rfl rfl (by kernel_rfl) (by kernel_rfl) (by kernel_rfl) (by kernel_rfl) (fun _ _ _ h => h) (v := .agg #[.bool A.1, .slice a6 (nlen BW A.2) c6]) (.inl ⟨by kernel_rfl, ?_⟩) d0 ?_
            · intro w' hb; have hq := KS.out w' hb; have h1 := hq.1; have h2 := hq.2.1; have h3 := hq.2.2.1; have h4 := hq.2.2.2; clear hq; go_simp
            simp only [Act.put, List.setIfInBounds_toArray, List.set_cons_zero, List.set_cons_succ]
            refine reg_take 2 [6] (l := #[true, false, true, false, false, false, false]) rfl rfl rfl (by kernel_rfl) (by kernel_rfl) (by kernel_rfl) (by kernel_rfl) (fun _ _ _ h => h) (v := .agg #[.bool O.1, .slice a7 (nlen BW O.2) c7]) (.inl ⟨by kernel_rfl, ?_⟩) d0 ?_
            · intro w' hb; have hq := KS.out w' hb; have h1 := hq.1; have h2 := hq.2.1; have h3 := hq.2.2.1; have h4 := hq.2.2.2; clear hq; go_simp
            simp only [Act.put, List.setIfInBounds_toArray, List.set_cons_zero, List.set_cons_succ]
            refine reg_two (j := 1) (k := 5) (l := #[true, true, true, false, false, false, false]) (m := #[true, false, true, false, false, true, false]) rfl rfl (by kernel_rfl) rfl rfl ?_ ?_
            · refine reg_call (by kernel_rfl) (in_num A a6 c6 y0 PA.out LA.out (K8.out _ d0).2.2.1) (by go_simp) ?_
              rintro e y1 ⟨a1, c1, rfl, n1, b1⟩
              have d1 := below_trans d0 b1
              refine ⟨_, rfl, d1, ?_⟩
              clear b1
              simp only [Act.put, List.setIfInBounds_toArray, List.set_cons_zero, List.set_cons_succ]
              refine reg_two (j := 3) (k := 5) (l := #[true, true, true, true, false, false, false]) (m := #[true, true, true, false, false, true, false]) rfl rfl (by kernel_rfl) rfl rfl ?_ ?_
              · refine reg_call (by kernel_rfl) (in_num O a7 c7 y1 PO.out LO.out (K8.out _ d1).2.2.2.1) (by go_simp) ?_
                rintro e y2 ⟨a3, c3, rfl, n3, b2⟩
                have d2 := below_trans d1 b2
                have n1 := n1.below b2
                refine ⟨_, rfl, d2, ?_⟩
                clear b2
                simp only [Act.put, List.setIfInBounds_toArray, List.set_cons_zero, List.set_cons_succ]
                refine reg_two (j := 4) (k := 5) (l := #[true, true, true, true, true, false, false]) (m := #[true, true, true, true, false, true, false]) rfl rfl (by kernel_rfl) rfl rfl ?_ ?_
                · refine reg_call (by kernel_rfl) (plus_now A.1 O.1 A.2 O.2 a1 a3 c1 c3 S1 y2 (D16.out _ LA.out) (D16.out _ LO.out) n1 n3 hS1.out) (by go_simp) ?_
                  rintro e y3 ⟨a4, c4, rfl, n4, b3⟩
                  have d3 := below_trans d2 b3
                  have n1 := n1.below b3
                  have n3 := n3.below b3
                  refine ⟨_, rfl, d3, ?_⟩
                  clear b3
                  simp only [Act.put, List.setIfInBounds_toArray, List.set_cons_zero, List.set_cons_succ]
                  refine reg_one (j := 5) (l := #[true, true, true, true, true, true, false]) rfl (by kernel_rfl) rfl ?_
                  obtain ⟨y4, hy4⟩ : ∃ W, Hid (W = y3.alloc (.cells #[.bool false, .slice none 0 0] 29)) := ⟨_, Lib.hid rfl⟩
                  have b4 : Below y3.heap.size y3 y4 := by rw [hy4.out]; exact (Below.refl _ y3).alloc (Nat.le_refl _) _
                  have d4 := below_trans d3 b4
                  obtain ⟨pP9, hpP9⟩ : ∃ p, Hid (p = y3.heap.size) := ⟨_, Lib.hid rfl⟩
                  have P9 : Pair y4 pP9 29 (.bool false) (.slice none 0 0) := by rw [hpP9.out, hy4.out]; exact Pair.new y3 _ _ _
                  have lP9 : W8.heap.size ≤ pP9 := by rw [hpP9.out]; exact d3.size
                  have n1 := n1.below b4
                  have n3 := n3.below b4
                  have n4 := n4.below b4
                  refine reg_mem (v := .pointer (some ⟨pP9, 0, none⟩)) (w' := y4) (by kernel_rfl) ?_ d4 ?_
                  · intro K' hk; go_simp; rw [← hy4.out, ← hpP9.out]; exact hk
                  clear b4
                  simp only [Act.put, List.setIfInBounds_toArray, List.set_cons_zero, List.set_cons_succ]
                  refine reg_one (j := 6) (l := #[true, true, true, true, true, true, true]) rfl (by kernel_rfl) rfl ?_
                  have x0 := P9.cell0
                  have x1 := P9.cell1
                  have x2 := P9.free 0
                  have x3 := P9.free 1
                  obtain ⟨y5, hy5⟩ : ∃ W, Hid (W = put2 y4 pP9 (.bool S1.1) (.slice a4 (nlen 65536 S1.2) c4)) := ⟨_, Lib.hid rfl⟩
                  have d5 : Below W8.heap.size W8 y5 := by rw [hy5.out]; exact below_put2 d4 lP9 _ _
                  refine reg_mem (v := undef) (w' := y5) (by kernel_rfl) ?_ d5 ?_
                  · intro K' hk; rw [hy5.out] at hk; go_simp; exact hk
                  clear x0 x1 x2 x3
                  simp only [Act.put, List.setIfInBounds_toArray, List.set_cons_zero, List.set_cons_succ]
                  have n1 := n1.put2 P9 (.bool S1.1) (.slice a4 (nlen 65536 S1.2) c4)
                  rw [← hy5.out] at n1
                  have n3 := n3.put2 P9 (.bool S1.1) (.slice a4 (nlen 65536 S1.2) c4)
                  rw [← hy5.out] at n3
                  have n4 := n4.put2 P9 (.bool S1.1) (.slice a4 (nlen 65536 S1.2) c4)
                  rw [← hy5.out] at n4
                  have P9 := P9.put2 (.bool S1.1) (.slice a4 (nlen 65536 S1.2) c4)
                  rw [← hy5.out] at P9
                  refine until_done (by kernel_rfl) ?_ _
                  go_wp2_with fail
                  go_meet
                  exact ⟨_, _, _, rfl, P9, n4, d5⟩
                · obtain ⟨y3, hy3⟩ : ∃ W, Hid (W = y2.alloc (.cells #[.bool false, .slice none 0 0] 29)) := ⟨_, Lib.hid rfl⟩
                  have b3 : Below y2.heap.size y2 y3 := by rw [hy3.out]; exact (Below.refl _ y2).alloc (Nat.le_refl _) _
                  have d3 := below_trans d2 b3
                  obtain ⟨pP9, hpP9⟩ : ∃ p, Hid (p = y2.heap.size) := ⟨_, Lib.hid rfl⟩
                  have P9 : Pair y3 pP9 29 (.bool false) (.slice none 0 0) := by rw [hpP9.out, hy3.out]; exact Pair.new y2 _ _ _
                  have lP9 : W8.heap.size ≤ pP9 := by rw [hpP9.out]; exact d2.size
                  have n1 := n1.below b3
                  have n3 := n3.below b3
                  refine reg_mem (v := .pointer (some ⟨pP9, 0, none⟩)) (w' := y3) (by kernel_rfl) ?_ d3 ?_
                  · intro K' hk; go_simp; rw [← hy3.out, ← hpP9.out]; exact hk
                  clear b3
                  simp only [Act.put, List.setIfInBounds_toArray, List.set_cons_zero, List.set_cons_succ]
                  refine reg_one (j := 4) (l := #[true, true, true, true, true, true, false]) rfl (by kernel_rfl) rfl ?_
                  refine reg_call (by kernel_rfl) (plus_now A.1 O.1 A.2 O.2 a1 a3 c1 c3 S1 y3 (D16.out _ LA.out) (D16.out _ LO.out) n1 n3 hS1.out) (by go_simp) ?_
                  rintro e y4 ⟨a4, c4, rfl, n4, b4⟩
                  have d4 := below_trans d3 b4
                  have n1 := n1.below b4
                  have n3 := n3.below b4
                  have P9 := P9.below b4 P9.lt
                  refine ⟨_, rfl, d4, ?_⟩
                  clear b4
                  simp only [Act.put, List.setIfInBounds_toArray, List.set_cons_zero, List.set_cons_succ]
                  refine reg_one (j := 6) (l := #[true, true, true, true, true, true, true]) rfl (by kernel_rfl) rfl ?_
                  have x0 := P9.cell0
                  have x1 := P9.cell1
                  have x2 := P9.free 0
                  have x3 := P9.free 1
                  obtain ⟨y5, hy5⟩ : ∃ W, Hid (W = put2 y4 pP9 (.bool S1.1) (.slice a4 (nlen 65536 S1.2) c4)) := ⟨_, Lib.hid rfl⟩
                  have d5 : Below W8.heap.size W8 y5 := by rw [hy5.out]; exact below_put2 d4 lP9 _ _
                  refine reg_mem (v := undef) (w' := y5) (by kernel_rfl) ?_ d5 ?_
                  · intro K' hk; rw [hy5.out] at hk; go_simp; exact hk
                  clear x0 x1 x2 x3
                  simp only [Act.put, List.setIfInBounds_toArray, List.set_cons_zero, List.set_cons_succ]
                  have n1 := n1.put2 P9 (.bool S1.1) (.slice a4 (nlen 65536 S1.2) c4)
                  rw [← hy5.out] at n1
                  have n3 := n3.put2 P9 (.bool S1.1) (.slice a4 (nlen 65536 S1.2) c4)
                  rw [← hy5.out] at n3
                  have n4 := n4.put2 P9 (.bool S1.1) (.slice a4 (nlen 65536 S1.2) c4)
                  rw [← hy5.out] at n4
                  have P9 := P9.put2 (.bool S1.1) (.slice a4 (nlen 65536 S1.2) c4)
                  rw [← hy5.out] at P9
                  refine until_done (by kernel_rfl) ?_ _
                  go_wp2_with fail
                  go_meet
                  exact ⟨_, _, _, rfl, P9, n4, d5⟩
              · obtain ⟨y2, hy2⟩ : ∃ W, Hid (W = y1.alloc (.cells #[.bool false, .slice none 0 0] 29)) := ⟨_, Lib.hid rfl⟩
                have b2 : Below y1.heap.size y1 y2 := by rw [hy2.out]; exact (Below.refl _ y1).alloc (Nat.le_refl _) _
                have d2 := below_trans d1 b2
                obtain ⟨pP9, hpP9⟩ : ∃ p, Hid (p = y1.heap.size) := ⟨_, Lib.hid rfl⟩
                have P9 : Pair y2 pP9 29 (.bool false) (.slice none 0 0) := by rw [hpP9.out, hy2.out]; exact Pair.new y1 _ _ _
                have lP9 : W8.heap.size ≤ pP9 := by rw [hpP9.out]; exact d1.size
                have n1 := n1.below b2
                refine reg_mem (v := .pointer (some ⟨pP9, 0, none⟩)) (w' := y2) (by kernel_rfl) ?_ d2 ?_
                · intro K' hk; go_simp; rw [← hy2.out, ← hpP9.out]; exact hk
                clear b2
                simp only [Act.put, List.setIfInBounds_toArray, List.set_cons_zero, List.set_cons_succ]
                refine reg_one (j := 3) (l := #[true, true, true, true, false, true, false]) rfl (by kernel_rfl) rfl ?_
                refine reg_call (by kernel_rfl) (in_num O a7 c7 y2 PO.out LO.out (K8.out _ d2).2.2.2.1) (by go_simp) ?_
                rintro e y3 ⟨a3, c3, rfl, n3, b3⟩
                have d3 := below_trans d2 b3
                have n1 := n1.below b3
                have P9 := P9.below b3 P9.lt
                refine ⟨_, rfl, d3, ?_⟩
                clear b3
                simp only [Act.put, List.setIfInBounds_toArray, List.set_cons_zero, List.set_cons_succ]
                refine reg_one (j := 4) (l := #[true, true, true, true, true, true, false]) rfl (by kernel_rfl) rfl ?_
                refine reg_call (by kernel_rfl) (plus_now A.1 O.1 A.2 O.2 a1 a3 c1 c3 S1 y3 (D16.out _ LA.out) (D16.out _ LO.out) n1 n3 hS1.out) (by go_simp) ?_
                rintro e y4 ⟨a4, c4, rfl, n4, b4⟩
                have d4 := below_trans d3 b4
                have n1 := n1.below b4
                have P9 := P9.below b4 P9.lt
                have n3 := n3.below b4
                refine ⟨_, rfl, d4, ?_⟩
                clear b4
                simp only [Act.put, List.setIfInBounds_toArray, List.set_cons_zero, List.set_cons_succ]
                refine reg_one (j := 6) (l := #[true, true, true, true, true, true, true]) rfl (by kernel_rfl) rfl ?_
                have x0 := P9.cell0
                have x1 := P9.cell1
                have x2 := P9.free 0
                have x3 := P9.free 1
                obtain ⟨y5, hy5⟩ : ∃ W, Hid (W = put2 y4 pP9 (.bool S1.1) (.slice a4 (nlen 65536 S1.2) c4)) := ⟨_, Lib.hid rfl⟩
                have d5 : Below W8.heap.size W8 y5 := by rw [hy5.out]; exact below_put2 d4 lP9 _ _
                refine reg_mem (v := undef) (w' := y5) (by kernel_rfl) ?_ d5 ?_
                · intro K' hk; rw [hy5.out] at hk; go_simp; exact hk
                clear x0 x1 x2 x3
                simp only [Act.put, List.setIfInBounds_toArray, List.set_cons_zero, List.set_cons_succ]
                have n1 := n1.put2 P9 (.bool S1.1) (.slice a4 (nlen 65536 S1.2) c4)
                rw [← hy5.out] at n1
                have n3 := n3.put2 P9 (.bool S1.1) (.slice a4 (nlen 65536 S1.2) c4)
                rw [← hy5.out] at n3
                have n4 := n4.put2 P9 (.bool S1.1) (.slice a4 (nlen 65536 S1.2) c4)
                rw [← hy5.out] at n4
                have P9 := P9.put2 (.bool S1.1) (.slice a4 (nlen 65536 S1.2) c4)
                rw [← hy5.out] at P9
                refine until_done (by kernel_rfl) ?_ _
                go_wp2_with fail
                go_meet
                exact ⟨_, _, _, rfl, P9, n4, d5⟩
            · obtain ⟨y1, hy1⟩ : ∃ W, Hid (W = y0.alloc (.cells #[.bool false, .slice none 0 0] 29)) := ⟨_, Lib.hid rfl⟩
              have b1 : Below y0.heap.size y0 y1 := by rw [hy1.out]; exact (Below.refl _ y0).alloc (Nat.le_refl _) _
              have d1 := below_trans d0 b1
              obtain ⟨pP9, hpP9⟩ : ∃ p, Hid (p = y0.heap.size) := ⟨_, Lib.hid rfl⟩
              have P9 : Pair y1 pP9 29 (.bool false) (.slice none 0 0) := by rw [hpP9.out, hy1.out]; exact Pair.new y0 _ _ _
              have lP9 : W8.heap.size ≤ pP9 := by rw [hpP9.out]; exact d0.size
              refine reg_mem (v := .pointer (some ⟨pP9, 0, none⟩)) (w' := y1) (by kernel_rfl) ?_ d1 ?_
              · intro K' hk; go_simp; rw [← hy1.out, ← hpP9.out]; exact hk
              clear b1
              simp only [Act.put, List.setIfInBounds_toArray, List.set_cons_zero, List.set_cons_succ]
              refine reg_one (j := 1) (l := #[true, true, true, false, false, true, false]) rfl (by kernel_rfl) rfl ?_
              refine reg_call (by kernel_rfl) (in_num A a6 c6 y1 PA.out LA.out (K8.out _ d1).2.2.1) (by go_simp) ?_
              rintro e y2 ⟨a1, c1, rfl, n1, b2⟩
              have d2 := below_trans d1 b2
              have P9 := P9.below b2 P9.lt
              refine ⟨_, rfl, d2, ?_⟩
              clear b2
              simp only [Act.put, List.setIfInBounds_toArray, List.set_cons_zero, List.set_cons_succ]
              refine reg_one (j := 3) (l := #[true, true, true, true, false, true, false]) rfl (by kernel_rfl) rfl ?_
              refine reg_call (by kernel_rfl) (in_num O a7 c7 y2 PO.out LO.out (K8.out _ d2).2.2.2.1) (by go_simp) ?_
              rintro e y3 ⟨a3, c3, rfl, n3, b3⟩
              have d3 := below_trans d2 b3
              have P9 := P9.below b3 P9.lt
              have n1 := n1.below b3
              refine ⟨_, rfl, d3, ?_⟩
              clear b3
              simp only [Act.put, List.setIfInBounds_toArray, List.set_cons_zero, List.set_cons_succ]
              refine reg_one (j := 4) (l := #[true, true, true, true, true, true, false]) rfl (by kernel_rfl) rfl ?_
              refine reg_call (by kernel_rfl) (plus_now A.1 O.1 A.2 O.2 a1 a3 c1 c3 S1 y3 (D16.out _ LA.out) (D16.out _ LO.out) n1 n3 hS1.out) (by go_simp) ?_
              rintro e y4 ⟨a4, c4, rfl, n4, b4⟩
              have d4 := below_trans d3 b4
              have P9 := P9.below b4 P9.lt
              have n1 := n1.below b4
              have n3 := n3.below b4
              refine ⟨_, rfl, d4, ?_⟩
              clear b4
              simp only [Act.put, List.setIfInBounds_toArray, List.set_cons_zero, List.set_cons_succ]
              refine reg_one (j := 6) (l := #[true, true, true, true, true, true, true]) rfl (by kernel_rfl) rfl ?_
              have x0 := P9.cell0
              have x1 := P9.cell1
              have x2 := P9.free 0
              have x3 := P9.free 1
              obtain ⟨y5, hy5⟩ : ∃ W, Hid (W = put2 y4 pP9 (.bool S1.1) (.slice a4 (nlen 65536 S1.2) c4)) := ⟨_, Lib.hid rfl⟩
              have d5 : Below W8.heap.size W8 y5 := by rw [hy5.out]; exact below_put2 d4 lP9 _ _
              refine reg_mem (v := undef) (w' := y5) (by kernel_rfl) ?_ d5 ?_
              · intro K' hk; rw [hy5.out] at hk; go_simp; exact hk
              clear x0 x1 x2 x3
              simp only [Act.put, List.setIfInBounds_toArray, List.set_cons_zero, List.set_cons_succ]
              have n1 := n1.put2 P9 (.bool S1.1) (.slice a4 (nlen 65536 S1.2) c4)
              rw [← hy5.out] at n1
              have n3 := n3.put2 P9 (.bool S1.1) (.slice a4 (nlen 65536 S1.2) c4)
              rw [← hy5.out] at n3
              have n4 := n4.put2 P9 (.bool S1.1) (.slice a4 (nlen 65536 S1.2) c4)
              rw [← hy5.out] at n4
              have P9 := P9.put2 (.bool S1.1) (.slice a4 (nlen 65536 S1.2) c4)
              rw [← hy5.out] at P9
              refine until_done (by kernel_rfl) ?_ _
              go_wp2_with fail
              go_meet
              exact ⟨_, _, _, rfl, P9, n4, d5⟩
          case rest =>
          obtain ⟨p9, a9, c9, rfl, P9, n9, d9⟩ := hcut
          obtain ⟨W9, HW9⟩ : ∃ W, Hid (W = wc) := ⟨_, Lib.hid rfl⟩
          rw [← HW9.out] at P9 n9 d9 ⊢
          have DW9 := Lib.hid (below_trans DW.out d9)
          have K9 := Lib.hid (show ∀ u, Below W9.heap.size W9 u → NumAt u A a6 c6 ∧ NumAt u O a7 c7 ∧ NumAt u A a8 c8 ∧ NatAt u S1.2 a9 c9 from fun u hu => by
            have q := K8.out u (below_trans d9 hu)
            exact ⟨q.2.2.1, q.2.2.2.1, q.2.2.2.2.2, n9.below hu⟩)
          have KT := Lib.hid (show ∀ u, Below W9.heap.size W9 u → u.cell? ⟨p6, 0, none⟩ = some (.bool A.1) ∧ u.cell? ⟨p6, 1, none⟩ = some (.slice a6 (nlen BW A.2) c6) ∧ u.cell? ⟨p7, 0, none⟩ = some (.bool O.1) ∧ u.cell? ⟨p7, 1, none⟩ = some (.slice a7 (nlen BW O.2) c7) ∧ u.cell? ⟨p8, 0, none⟩ = some (.bool A.1) ∧ u.cell? ⟨p8, 1, none⟩ = some (.slice a8 (nlen BW A.2) c8) ∧ u.cell? ⟨p9, 1, none⟩ = some (.slice a9 (nlen 65536 S1.2) c9) ∧ u.cell? ⟨w.heap.size, 0, none⟩ = some (.bool na) ∧ u.cell? ⟨w.heap.size, 1, none⟩ = some (.slice ax nx cx) ∧ u.cell? ⟨w.heap.size + 1, 0, none⟩ = some (.bool nb) ∧ u.cell? ⟨w.heap.size + 1, 1, none⟩ = some (.slice ay ny cy) from fun u hu => by
            have q := K8.out u (below_trans d9 hu)
            have q2 := (KB.out u (below_trans DW9.out hu)).1
            exact ⟨q.1.cell0, q.1.cell1, q.2.1.cell0, q.2.1.cell1, q.2.2.2.2.1.cell0, q.2.2.2.2.1.cell1, (P9.below hu P9.lt).cell1, q2.1.1.cell0, q2.1.1.cell1, q2.2.1.cell0, q2.2.1.cell1⟩)
          clear P9 n9 d9 KS DW HW9 K8 DW8
          have DW := DW9
          have KS := KT
          go_upto_region 9 with fail
          refine reg_begin (fun u => Below W9.heap.size W9 u) 26 27 #[false, false, false, false, false, false, false, false, false, false, false, false, false, false, false, false, false, false, false, false, false, false, false, false, false, false, false] (by kernel_rfl) rfl rfl ⟨rfl, rfl, rfl, Nat.le_refl _, fun _ _ => rfl⟩ ?_
          obtain ⟨y0, hy0⟩ : ∃ y, Hid (y = W9.drew) := ⟨_, Lib.hid rfl⟩
          have d0 : Below W9.heap.size W9 y0 := by rw [hy0.out]; exact ⟨rfl, rfl, rfl, Nat.le_refl _, fun _ _ => rfl⟩
          rw [← hy0.out]
          refine reg_take 0 [26] (l := #[true, false, false, false, false, false, false, false, false, false, false, false, false, false, false, false, false, false, false, false, false, false, false, false, false, false, false]) rfl rfl rfl (by kernel_rfl) (by kernel_rfl) (by kernel_rfl) (by kernel_rfl) (fun _ _ _ h => h) (v := .agg #[.bool A.1, .slice a8 (nlen BW A.2) c8]) (.inl ⟨by kernel_rfl, ?_⟩) d0 ?_
          · intro w' hb; have hq := KS.out w' hb; have h1 := hq.1; have h2 := hq.2.1; have h3 := hq.2.2.1; have h4 := hq.2.2.2.1; have h5 := hq.2.2.2.2.1; have h6 := hq.2.2.2.2.2.1; have h7 := hq.2.2.2.2.2.2.1; have h8 := hq.2.2.2.2.2.2.2.1; have h9 := hq.2.2.2.2.2.2.2.2.1; have h10 := hq.2.2.2.2.2.2.2.2.2.1; have h11 := hq.2.2.2.2.2.2.2.2.2.2; clear hq; go_simp
          simp only [Act.put, List.setIfInBounds_toArray, List.set_cons_zero, List.set_cons_succ]
          refine reg_take 1 [26] (l := #[true, true, false, false, false, false, false, false, false, false, false, false, false, false, false, false, false, false, false, false, false, false, false, false, false, false, false]) rfl rfl rfl (by kernel_rfl) (by kernel_rfl) (by kernel_rfl) (by kernel_rfl) (fun _ _ _ h => h) (v := .agg #[.bool A.1, .slice a6 (nlen BW A.2) c6]) (.inl ⟨by kernel_rfl, ?_⟩) d0 ?_
          · intro w' hb; have hq := KS.out w' hb; have h1 := hq.1; have h2 := hq.2.1; have h3 := hq.2.2.1; have h4 := hq.2.2.2.1; have h5 := hq.2.2.2.2.1; have h6 := hq.2.2.2.2.2.1; have h7 := hq.2.2.2.2.2.2.1; have h8 := hq.2.2.2.2.2.2.2.1; have h9 := hq.2.2.2.2.2.2.2.2.1; have h10 := hq.2.2.2.2.2.2.2.2.2.1; have h11 := hq.2.2.2.2.2.2.2.2.2.2; clear hq; go_simp
          simp only [Act.put, List.setIfInBounds_toArray, List.set_cons_zero, List.set_cons_succ]
          refine reg_one (j := 2) (l := #[true, true, true, false, false, false, false, false, false, false, false, false, false, false, false, false, false, false, false, false, false, false, false, false, false, false, false]) rfl (by kernel_rfl) rfl ?_
          refine reg_call (by kernel_rfl) (in_num A a6 c6 y0 PA.out LA.out (K9.out _ d0).1) (by go_simp) ?_
          rintro e y1 ⟨a2, c2, rfl, n2, b1⟩
          have d1 := below_trans d0 b1
          refine ⟨_, rfl, d1, ?_⟩
          clear b1
          simp only [Act.put, List.setIfInBounds_toArray, List.set_cons_zero, List.set_cons_succ]
          refine reg_one (j := 3) (l := #[true, true, true, true, false, false, false, false, false, false, false, false, false, false, false, false, false, false, false, false, false, false, false, false, false, false, false]) rfl (by kernel_rfl) rfl ?_
          refine reg_call (by kernel_rfl) (is_now A A a8 a2 c8 c2 y1 PA.out LA.out (K9.out _ d1).2.2.1 n2 rfl) (by go_simp) ?_
          rintro e y2 ⟨rfl, b2⟩
          have d2 := below_trans d1 b2
          have n2 := n2.below b2
          refine ⟨_, rfl, d2, ?_⟩
          clear b2
          simp only [Act.put, List.setIfInBounds_toArray, List.set_cons_zero, List.set_cons_succ]
          refine reg_take 4 [26] (l := #[true, true, true, true, true, false, false, false, false, false, false, false, false, false, false, false, false, false, false, false, false, false, false, false, false, false, false]) rfl rfl rfl (by kernel_rfl) (by kernel_rfl) (by kernel_rfl) (by kernel_rfl) (fun _ _ _ h => h) (v := .bool true) (.inl ⟨by kernel_rfl, ?_⟩) d2 ?_
          · intro w' hb; have hq := KS.out w' hb; have h1 := hq.1; have h2 := hq.2.1; have h3 := hq.2.2.1; have h4 := hq.2.2.2.1; have h5 := hq.2.2.2.2.1; have h6 := hq.2.2.2.2.2.1; have h7 := hq.2.2.2.2.2.2.1; have h8 := hq.2.2.2.2.2.2.2.1; have h9 := hq.2.2.2.2.2.2.2.2.1; have h10 := hq.2.2.2.2.2.2.2.2.2.1; have h11 := hq.2.2.2.2.2.2.2.2.2.2; clear hq; go_simp
          simp only [Act.put, List.setIfInBounds_toArray, List.set_cons_zero, List.set_cons_succ]
          refine reg_take 5 [26] (l := #[true, true, true, true, true, true, false, false, false, false, false, false, false, false, false, false, false, false, false, false, false, false, false, false, false, false, false]) rfl rfl rfl (by kernel_rfl) (by kernel_rfl) (by kernel_rfl) (by kernel_rfl) (fun _ _ _ h => h) (v := .agg #[.bool na, .slice ax nx cx]) (.inl ⟨by kernel_rfl, ?_⟩) d2 ?_
          · intro w' hb; have hq := KS.out w' hb; have h1 := hq.1; have h2 := hq.2.1; have h3 := hq.2.2.1; have h4 := hq.2.2.2.1; have h5 := hq.2.2.2.2.1; have h6 := hq.2.2.2.2.2.1; have h7 := hq.2.2.2.2.2.2.1; have h8 := hq.2.2.2.2.2.2.2.1; have h9 := hq.2.2.2.2.2.2.2.2.1; have h10 := hq.2.2.2.2.2.2.2.2.2.1; have h11 := hq.2.2.2.2.2.2.2.2.2.2; clear hq; go_simp
          simp only [Act.put, List.setIfInBounds_toArray, List.set_cons_zero, List.set_cons_succ]
          refine reg_take 6 [26] (l := #[true, true, true, true, true, true, true, false, false, false, false, false, false, false, false, false, false, false, false, false, false, false, false, false, false, false, false]) rfl rfl rfl (by kernel_rfl) (by kernel_rfl) (by kernel_rfl) (by kernel_rfl) (fun _ _ _ h => h) (v := .agg #[.bool nb, .slice ay ny cy]) (.inl ⟨by kernel_rfl, ?_⟩) d2 ?_
          · intro w' hb; have hq := KS.out w' hb; have h1 := hq.1; have h2 := hq.2.1; have h3 := hq.2.2.1; have h4 := hq.2.2.2.1; have h5 := hq.2.2.2.2.1; have h6 := hq.2.2.2.2.2.1; have h7 := hq.2.2.2.2.2.2.1; have h8 := hq.2.2.2.2.2.2.2.1; have h9 := hq.2.2.2.2.2.2.2.2.1; have h10 := hq.2.2.2.2.2.2.2.2.2.1; have h11 := hq.2.2.2.2.2.2.2.2.2.2; clear hq; go_simp
          simp only [Act.put, List.setIfInBounds_toArray, List.set_cons_zero, List.set_cons_succ]
          refine reg_take 8 [26] (l := #[true, true, true, true, true, true, true, false, true, false, false, false, false, false, false, false, false, false, false, false, false, false, false, false, false, false, false]) rfl rfl rfl (by kernel_rfl) (by kernel_rfl) (by kernel_rfl) (by kernel_rfl) (fun _ _ _ h => h) (v := .agg #[.bool O.1, .slice a7 (nlen BW O.2) c7]) (.inl ⟨by kernel_rfl, ?_⟩) d2 ?_
          · intro w' hb; have hq := KS.out w' hb; have h1 := hq.1; have h2 := hq.2.1; have h3 := hq.2.2.1; have h4 := hq.2.2.2.1; have h5 := hq.2.2.2.2.1; have h6 := hq.2.2.2.2.2.1; have h7 := hq.2.2.2.2.2.2.1; have h8 := hq.2.2.2.2.2.2.2.1; have h9 := hq.2.2.2.2.2.2.2.2.1; have h10 := hq.2.2.2.2.2.2.2.2.2.1; have h11 := hq.2.2.2.2.2.2.2.2.2.2; clear hq; go_simp
          simp only [Act.put, List.setIfInBounds_toArray, List.set_cons_zero, List.set_cons_succ]
          refine reg_take 9 [26] (l := #[true, true, true, true, true, true, true, false, true, true, false, false, false, false, false, false, false, false, false, false, false, false, false, false, false, false, false]) rfl rfl rfl (by kernel_rfl) (by kernel_rfl) (by kernel_rfl) (by kernel_rfl) (fun _ _ _ h => h) (v := .agg #[.bool A.1, .slice a6 (nlen BW A.2) c6]) (.inl ⟨by kernel_rfl, ?_⟩) d2 ?_
          · intro w' hb; have hq := KS.out w' hb; have h1 := hq.1; have h2 := hq.2.1; have h3 := hq.2.2.1; have h4 := hq.2.2.2.1; have h5 := hq.2.2.2.2.1; have h6 := hq.2.2.2.2.2.1; have h7 := hq.2.2.2.2.2.2.1; have h8 := hq.2.2.2.2.2.2.2.1; have h9 := hq.2.2.2.2.2.2.2.2.1; have h10 := hq.2.2.2.2.2.2.2.2.2.1; have h11 := hq.2.2.2.2.2.2.2.2.2.2; clear hq; go_simp
          simp only [Act.put, List.setIfInBounds_toArray, List.set_cons_zero, List.set_cons_succ]
          refine reg_one (j := 7) (l := #[true, true, true, true, true, true, true, true, true, true, false, false, false, false, false, false, false, false, false, false, false, false, false, false, false, false, false]) rfl (by kernel_rfl) rfl ?_
          refine reg_call (by kernel_rfl) (KB2.out y2 (below_trans DW.out d2)) (by go_simp) ?_
          rintro e y3 ⟨av, cv, rfl, nv, b3⟩
          have d3 := below_trans d2 b3
          have n2 := n2.below b3
          refine ⟨_, rfl, d3, ?_⟩
          clear b3
          simp only [Act.put, List.setIfInBounds_toArray, List.set_cons_zero, List.set_cons_succ]
          refine reg_one (j := 10) (l := #[true, true, true, true, true, true, true, true, true, true, true, false, false, false, false, false, false, false, false, false, false, false, false, false, false, false, false]) rfl (by kernel_rfl) rfl ?_
          refine reg_call (by kernel_rfl) (bits_num 3 (by omega) O A a7 a6 c7 c6 XO y3 PO.out PA.out LO.out LA.out (K9.out _ d3).2.1 (K9.out _ d3).1 (KB.out _ (below_trans DW.out d3)).2.1 HXO.out) (by go_simp) ?_
          rintro e y4 ⟨az, cz, rfl, nz, b4⟩
          have d4 := below_trans d3 b4
          have n2 := n2.below b4
          have nv := nv.below b4
          refine ⟨_, rfl, d4, ?_⟩
          clear b4
          simp only [Act.put, List.setIfInBounds_toArray, List.set_cons_zero, List.set_cons_succ]
          refine reg_one (j := 11) (l := #[true, true, true, true, true, true, true, true, true, true, true, true, false, false, false, false, false, false, false, false, false, false, false, false, false, false, false]) rfl (by kernel_rfl) rfl ?_
          refine reg_call (by kernel_rfl) (in_num XO az cz y4 PXO.out LXO.out nz) (by go_simp) ?_
          rintro e y5 ⟨ai, ci, rfl, ni, b5⟩
          have d5 := below_trans d4 b5
          have n2 := n2.below b5
          have nv := nv.below b5
          have nz := nz.below b5
          refine ⟨_, rfl, d5, ?_⟩
          clear b5
          simp only [Act.put, List.setIfInBounds_toArray, List.set_cons_zero, List.set_cons_succ]
          refine reg_one (j := 12) (l := #[true, true, true, true, true, true, true, true, true, true, true, true, true, false, false, false, false, false, false, false, false, false, false, false, false, false, false]) rfl (by kernel_rfl) rfl ?_
          refine reg_call (by kernel_rfl) (is_now XO XO av ai cv ci y5 PXO.out LXO.out nv ni rfl) (by go_simp) ?_
          rintro e y6 ⟨rfl, b6⟩
          have d6 := below_trans d5 b6
          have n2 := n2.below b6
          have nv := nv.below b6
          have nz := nz.below b6
          have ni := ni.below b6
          refine ⟨_, rfl, d6, ?_⟩
          clear b6
          simp only [Act.put, List.setIfInBounds_toArray, List.set_cons_zero, List.set_cons_succ]
          refine reg_take 13 [26] (l := #[true, true, true, true, true, true, true, true, true, true, true, true, true, true, false, false, false, false, false, false, false, false, false, false, false, false, false]) rfl rfl rfl (by kernel_rfl) (by kernel_rfl) (by kernel_rfl) (by kernel_rfl) (fun _ _ _ h => h) (v := .bool true) (.inl ⟨by kernel_rfl, ?_⟩) d6 ?_
          · intro w' hb; have hq := KS.out w' hb; have h1 := hq.1; have h2 := hq.2.1; have h3 := hq.2.2.1; have h4 := hq.2.2.2.1; have h5 := hq.2.2.2.2.1; have h6 := hq.2.2.2.2.2.1; have h7 := hq.2.2.2.2.2.2.1; have h8 := hq.2.2.2.2.2.2.2.1; have h9 := hq.2.2.2.2.2.2.2.2.1; have h10 := hq.2.2.2.2.2.2.2.2.2.1; have h11 := hq.2.2.2.2.2.2.2.2.2.2; clear hq; go_simp
          simp only [Act.put, List.setIfInBounds_toArray, List.set_cons_zero, List.set_cons_succ]
          refine reg_take 14 [26] (l := #[true, true, true, true, true, true, true, true, true, true, true, true, true, true, true, false, false, false, false, false, false, false, false, false, false, false, false]) rfl rfl rfl (by kernel_rfl) (by kernel_rfl) (by kernel_rfl) (by kernel_rfl) (fun _ _ _ h => h) (v := .bool true) (.inl ⟨by kernel_rfl, ?_⟩) d6 ?_
          · intro w' hb; have hq := KS.out w' hb; have h1 := hq.1; have h2 := hq.2.1; have h3 := hq.2.2.1; have h4 := hq.2.2.2.1; have h5 := hq.2.2.2.2.1; have h6 := hq.2.2.2.2.2.1; have h7 := hq.2.2.2.2.2.2.1; have h8 := hq.2.2.2.2.2.2.2.1; have h9 := hq.2.2.2.2.2.2.2.2.1; have h10 := hq.2.2.2.2.2.2.2.2.2.1; have h11 := hq.2.2.2.2.2.2.2.2.2.2; clear hq; go_simp
          simp only [Act.put, List.setIfInBounds_toArray, List.set_cons_zero, List.set_cons_succ]
          refine reg_take 15 [26] (l := #[true, true, true, true, true, true, true, true, true, true, true, true, true, true, true, true, false, false, false, false, false, false, false, false, false, false, false]) rfl rfl rfl (by kernel_rfl) (by kernel_rfl) (by kernel_rfl) (by kernel_rfl) (fun _ _ _ h => h) (v := .pointer (some ⟨p9, 1, none⟩)) (.inl ⟨by kernel_rfl, ?_⟩) d6 ?_
          · intro w' hb; have hq := KS.out w' hb; have h1 := hq.1; have h2 := hq.2.1; have h3 := hq.2.2.1; have h4 := hq.2.2.2.1; have h5 := hq.2.2.2.2.1; have h6 := hq.2.2.2.2.2.1; have h7 := hq.2.2.2.2.2.2.1; have h8 := hq.2.2.2.2.2.2.2.1; have h9 := hq.2.2.2.2.2.2.2.2.1; have h10 := hq.2.2.2.2.2.2.2.2.2.1; have h11 := hq.2.2.2.2.2.2.2.2.2.2; clear hq; go_simp
          simp only [Act.put, List.setIfInBounds_toArray, List.set_cons_zero, List.set_cons_succ]
          refine reg_take 16 [26] (l := #[true, true, true, true, true, true, true, true, true, true, true, true, true, true, true, true, true, false, false, false, false, false, false, false, false, false, false]) rfl rfl rfl (by kernel_rfl) (by kernel_rfl) (by kernel_rfl) (by kernel_rfl) (fun _ _ _ h => h) (v := .slice a9 (nlen 65536 S1.2) c9) (.inl ⟨by kernel_rfl, ?_⟩) d6 ?_
          · intro w' hb; have hq := KS.out w' hb; have h1 := hq.1; have h2 := hq.2.1; have h3 := hq.2.2.1; have h4 := hq.2.2.2.1; have h5 := hq.2.2.2.2.1; have h6 := hq.2.2.2.2.2.1; have h7 := hq.2.2.2.2.2.2.1; have h8 := hq.2.2.2.2.2.2.2.1; have h9 := hq.2.2.2.2.2.2.2.2.1; have h10 := hq.2.2.2.2.2.2.2.2.2.1; have h11 := hq.2.2.2.2.2.2.2.2.2.2; clear hq; go_simp
          simp only [Act.put, List.setIfInBounds_toArray, List.set_cons_zero, List.set_cons_succ]
          refine reg_take 17 [26] (l := #[true, true, true, true, true, true, true, true, true, true, true, true, true, true, true, true, true, true, false, false, false, false, false, false, false, false, false]) rfl rfl rfl (by kernel_rfl) (by kernel_rfl) (by kernel_rfl) (by kernel_rfl) (fun _ _ _ h => h) (v := .agg #[.bool na, .slice ax nx cx]) (.inl ⟨by kernel_rfl, ?_⟩) d6 ?_
          · intro w' hb; have hq := KS.out w' hb; have h1 := hq.1; have h2 := hq.2.1; have h3 := hq.2.2.1; have h4 := hq.2.2.2.1; have h5 := hq.2.2.2.2.1; have h6 := hq.2.2.2.2.2.1; have h7 := hq.2.2.2.2.2.2.1; have h8 := hq.2.2.2.2.2.2.2.1; have h9 := hq.2.2.2.2.2.2.2.2.1; have h10 := hq.2.2.2.2.2.2.2.2.2.1; have h11 := hq.2.2.2.2.2.2.2.2.2.2; clear hq; go_simp
          simp only [Act.put, List.setIfInBounds_toArray, List.set_cons_zero, List.set_cons_succ]
          refine reg_take 19 [26] (l := #[true, true, true, true, true, true, true, true, true, true, true, true, true, true, true, true, true, true, false, true, false, false, false, false, false, false, false]) rfl rfl rfl (by kernel_rfl) (by kernel_rfl) (by kernel_rfl) (by kernel_rfl) (fun _ _ _ h => h) (v := .agg #[.bool nb, .slice ay ny cy]) (.inl ⟨by kernel_rfl, ?_⟩) d6 ?_
          · intro w' hb; have hq := KS.out w' hb; have h1 := hq.1; have h2 := hq.2.1; have h3 := hq.2.2.1; have h4 := hq.2.2.2.1; have h5 := hq.2.2.2.2.1; have h6 := hq.2.2.2.2.2.1; have h7 := hq.2.2.2.2.2.2.1; have h8 := hq.2.2.2.2.2.2.2.1; have h9 := hq.2.2.2.2.2.2.2.2.1; have h10 := hq.2.2.2.2.2.2.2.2.2.1; have h11 := hq.2.2.2.2.2.2.2.2.2.2; clear hq; go_simp
          simp only [Act.put, List.setIfInBounds_toArray, List.set_cons_zero, List.set_cons_succ]
          refine reg_one (j := 18) (l := #[true, true, true, true, true, true, true, true, true, true, true, true, true, true, true, true, true, true, true, true, false, false, false, false, false, false, false]) rfl (by kernel_rfl) rfl ?_
          refine reg_call (by kernel_rfl) (KIX.out y6 (below_trans DW.out d6)) (by go_simp) ?_
          rintro e y7 ⟨aj, cj, rfl, nj, b7⟩
          have d7 := below_trans d6 b7
          have n2 := n2.below b7
          have nv := nv.below b7
          have nz := nz.below b7
          have ni := ni.below b7
          refine ⟨_, rfl, d7, ?_⟩
          clear b7
          simp only [Act.put, List.setIfInBounds_toArray, List.set_cons_zero, List.set_cons_succ]
          refine reg_one (j := 20) (l := #[true, true, true, true, true, true, true, true, true, true, true, true, true, true, true, true, true, true, true, true, true, false, false, false, false, false, false]) rfl (by kernel_rfl) rfl ?_
          refine reg_call (by kernel_rfl) (KIY.out y7 (below_trans DW.out d7)) (by go_simp) ?_
          rintro e y8 ⟨ak, ck, rfl, nk, b8⟩
          have d8 := below_trans d7 b8
          have n2 := n2.below b8
          have nv := nv.below b8
          have nz := nz.below b8
          have ni := ni.below b8
          have nj := nj.below b8
          refine ⟨_, rfl, d8, ?_⟩
          clear b8
          simp only [Act.put, List.setIfInBounds_toArray, List.set_cons_zero, List.set_cons_succ]
          refine reg_one (j := 21) (l := #[true, true, true, true, true, true, true, true, true, true, true, true, true, true, true, true, true, true, true, true, true, true, false, false, false, false, false]) rfl (by kernel_rfl) rfl ?_
          refine reg_call (by kernel_rfl) (plus_now X.1 Y.1 X.2 Y.2 aj ak cj ck S2 y8 (D16.out _ (Nat.le_trans LX.out (by omega))) (D16.out _ (Nat.le_trans LY.out (by omega))) nj nk hS2.out) (by go_simp) ?_
          rintro e y9 ⟨aS, cs, rfl, ns, b9⟩
          have d9 := below_trans d8 b9
          have n2 := n2.below b9
          have nv := nv.below b9
          have nz := nz.below b9
          have ni := ni.below b9
          have nj := nj.below b9
          have nk := nk.below b9
          refine ⟨_, rfl, d9, ?_⟩
          clear b9
          simp only [Act.put, List.setIfInBounds_toArray, List.set_cons_zero, List.set_cons_succ]
          refine reg_take 22 [26] (l := #[true, true, true, true, true, true, true, true, true, true, true, true, true, true, true, true, true, true, true, true, true, true, true, false, false, false, false]) rfl rfl rfl (by kernel_rfl) (by kernel_rfl) (by kernel_rfl) (by kernel_rfl) (fun _ _ _ h => h) (v := .slice aS (nlen 65536 S2.2) cs) (.inl ⟨by kernel_rfl, ?_⟩) d9 ?_
          · intro w' hb; have hq := KS.out w' hb; have h1 := hq.1; have h2 := hq.2.1; have h3 := hq.2.2.1; have h4 := hq.2.2.2.1; have h5 := hq.2.2.2.2.1; have h6 := hq.2.2.2.2.2.1; have h7 := hq.2.2.2.2.2.2.1; have h8 := hq.2.2.2.2.2.2.2.1; have h9 := hq.2.2.2.2.2.2.2.2.1; have h10 := hq.2.2.2.2.2.2.2.2.2.1; have h11 := hq.2.2.2.2.2.2.2.2.2.2; clear hq; go_simp
          simp only [Act.put, List.setIfInBounds_toArray, List.set_cons_zero, List.set_cons_succ]
          refine reg_one (j := 23) (l := #[true, true, true, true, true, true, true, true, true, true, true, true, true, true, true, true, true, true, true, true, true, true, true, true, false, false, false]) rfl (by kernel_rfl) rfl ?_
          refine reg_call (by kernel_rfl) (cmp_now S1.2 S2.2 a9 aS c9 cs y9 LS1.out LS2.out (K9.out _ d9).2.2.2 ns HSS.out) (by go_simp) ?_
          rintro e y10 ⟨rfl, b10⟩
          have d10 := below_trans d9 b10
          have n2 := n2.below b10
          have nv := nv.below b10
          have nz := nz.below b10
          have ni := ni.below b10
          have nj := nj.below b10
          have nk := nk.below b10
          have ns := ns.below b10
          refine ⟨_, rfl, d10, ?_⟩
          clear b10
          simp only [Act.put, List.setIfInBounds_toArray, List.set_cons_zero, List.set_cons_succ]
          refine reg_take 24 [26] (l := #[true, true, true, true, true, true, true, true, true, true, true, true, true, true, true, true, true, true, true, true, true, true, true, true, true, false, false]) rfl rfl rfl (by kernel_rfl) (by kernel_rfl) (by kernel_rfl) (by kernel_rfl) (fun _ _ _ h => h) (v := .bool true) (.inl ⟨by kernel_rfl, ?_⟩) d10 ?_
          · intro w' hb; have hq := KS.out w' hb; have h1 := hq.1; have h2 := hq.2.1; have h3 := hq.2.2.1; have h4 := hq.2.2.2.1; have h5 := hq.2.2.2.2.1; have h6 := hq.2.2.2.2.2.1; have h7 := hq.2.2.2.2.2.2.1; have h8 := hq.2.2.2.2.2.2.2.1; have h9 := hq.2.2.2.2.2.2.2.2.1; have h10 := hq.2.2.2.2.2.2.2.2.2.1; have h11 := hq.2.2.2.2.2.2.2.2.2.2; clear hq; go_simp
          simp only [Act.put, List.setIfInBounds_toArray, List.set_cons_zero, List.set_cons_succ]
          refine reg_take 25 [26] (l := #[true, true, true, true, true, true, true, true, true, true, true, true, true, true, true, true, true, true, true, true, true, true, true, true, true, true, false]) rfl rfl rfl (by kernel_rfl) (by kernel_rfl) (by kernel_rfl) (by kernel_rfl) (fun _ _ _ h => h) (v := .bool true) (.inl ⟨by kernel_rfl, ?_⟩) d10 ?_
          · intro w' hb; have hq := KS.out w' hb; have h1 := hq.1; have h2 := hq.2.1; have h3 := hq.2.2.1; have h4 := hq.2.2.2.1; have h5 := hq.2.2.2.2.1; have h6 := hq.2.2.2.2.2.1; have h7 := hq.2.2.2.2.2.2.1; have h8 := hq.2.2.2.2.2.2.2.1; have h9 := hq.2.2.2.2.2.2.2.2.1; have h10 := hq.2.2.2.2.2.2.2.2.2.1; have h11 := hq.2.2.2.2.2.2.2.2.2.2; clear hq; go_simp
          simp only [Act.put, List.setIfInBounds_toArray, List.set_cons_zero, List.set_cons_succ]
          refine reg_one (j := 26) (l := #[true, true, true, true, true, true, true, true, true, true, true, true, true, true, true, true, true, true, true, true, true, true, true, true, true, true, true]) rfl (by kernel_rfl) rfl ?_
          refine reg_mem (v := .bool true) (w' := y10) (by kernel_rfl) (by intro K' hk; go_simp; exact hk) d10 ?_
          simp only [Act.put, List.setIfInBounds_toArray, List.set_cons_zero, List.set_cons_succ]
          refine until_done (by kernel_rfl) ?_ _
          have DD := Lib.hid (KB.out _ (below_trans DW.out d10)).2.2
          go_wp2
          go_ret
          exact ⟨rfl, DD.out⟩
    · have KX := Lib.hid (fun u => show Calls Tryd.prog 10 #[.agg #[.bool na, .slice ax nx cx]] u fun e w' => e = .returned (.bool true) ∧ Below u.heap.size u w' from by have := fits_any na ax nx cx u (by omega); rwa [show decide (nx ≤ 2147483647) = true by simp; omega] at this)
      have KY := Lib.hid (fun u => show Calls Tryd.prog 10 #[.agg #[.bool nb, .slice ay ny cy]] u fun e w' => e = .returned (.bool false) ∧ Below u.heap.size u w' from by have := fits_any nb ay ny cy u (by omega); rwa [show decide (ny ≤ 2147483647) = false by simp; omega] at this)
      go_enter Tryd.func8, Tryd.ntmps8
      go_wp2_with fail
      rw [← HW1.out, ← HW2.out]
      refine (KX.out _).mono ?_
      rintro e w3 ⟨rfl, b3⟩
      have d3 := below_trans F0.out.1 b3
      have a3 := F0.out.2.below b3
      clear b3
      have c0 := a3.1.1.cell0
      have c1 := a3.1.1.cell1
      have c2 := a3.2.1.cell0
      have c3 := a3.2.1.cell1
      go_wp2_with fail
      refine (KY.out _).mono ?_
      rintro e w4 ⟨rfl, b4⟩
      have d4 := below_trans d3 b4
      have a4 := a3.below b4
      clear b4 c0 c1 c2 c3 d3 a3
      have DD := Lib.hid d4
      clear d4 a4
      go_wp2
      go_ret
      exact ⟨rfl, DD.out⟩
  · have KX := Lib.hid (fun u => show Calls Tryd.prog 10 #[.agg #[.bool na, .slice ax nx cx]] u fun e w' => e = .returned (.bool false) ∧ Below u.heap.size u w' from by have := fits_any na ax nx cx u (by omega); rwa [show decide (nx ≤ 2147483647) = false by simp; omega] at this)
    go_enter Tryd.func8, Tryd.ntmps8
    go_wp2_with fail
    rw [← HW1.out, ← HW2.out]
    refine (KX.out _).mono ?_
    rintro e w3 ⟨rfl, b3⟩
    have d3 := below_trans F0.out.1 b3
    have a3 := F0.out.2.below b3
    clear b3
    have DD := Lib.hid d3
    clear d3 a3
    go_wp2
    go_ret
    exact ⟨rfl, DD.out⟩

end Go.Proofs.YtidifjmjbfhpaaaDoor
