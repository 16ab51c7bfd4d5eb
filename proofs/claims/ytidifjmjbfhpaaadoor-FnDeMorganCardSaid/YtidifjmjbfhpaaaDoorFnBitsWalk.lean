/- laws.FnBits returns true, whatever operation and Numbers it is called with. -/
import Derived.Test.YtidifjmjbfhpaaaDoorImplBits
import Derived.Test.YtidifjmjbfhpaaaDoorKept
import Derived.Test.YtidifjmjbfhpaaaDoorJoins
import Derived.Test.YtidifjmjbfhpaaaDoorSpecBits
import Derived.Laws.Tables
import Derived.Deep.WholeRow
namespace Go.Proofs.YtidifjmjbfhpaaaDoor
set_option linter.unusedVariables false
set_option maxRecDepth 20000
set_option linter.unusedSimpArgs false
open Go.RowKit

theorem implBits_any (k : Nat) (hk : k < 5) (na nb : Bool) (ax ay : Option Addr) (nx cx ny cy : Nat) (fx fy : Nat → Nat) (hfx : ∀ i, i < nx → fx i < BW) (hfy : ∀ i, i < ny → fy i < BW) (w : World) (hxc : nx ≤ cx) (hyc : ny ≤ cy) (hxm : nx ≤ 200000000) (hym : ny ≤ 200000000)
    (hrx : Reads w .u64 ax nx fx) (hry : Reads w .u64 ay ny fy) (hone : One w) :
    Calls Tryd.prog 23 #[.int .i64 k, .agg #[.bool na, .slice ax nx cx], .agg #[.bool nb, .slice ay ny cy]] w (BitsPost k (sgn na (val BW fx nx)) (val BW fx nx) (sgn nb (val BW fy ny)) (val BW fy ny) w) := by
  have hk5 : k = 0 ∨ k = 1 ∨ k = 2 ∨ k = 3 ∨ k = 4 := by omega
  rcases hk5 with rfl | rfl | rfl | rfl | rfl
  · exact implBits_0 na nb ax ay nx cx ny cy fx fy hfx hfy w hxc hyc hxm hym hrx hry hone
  · exact implBits_1 na nb ax ay nx cx ny cy fx fy hfx hfy w hxc hyc hxm hym hrx hry hone
  · exact implBits_2 na nb ax ay nx cx ny cy fx fy hfx hfy w hxc hyc hxm hym hrx hry hone
  · exact implBits_3 na nb ax ay nx cx ny cy fx fy hfx hfy w hxc hyc hxm hym hrx hry hone
  · exact implBits_4 na nb ax ay nx cx ny cy fx fy hfx hfy w hxc hyc hxm hym hrx hry hone

/-- Two Numbers lie in two blocks. -/
def Args2 (w : World) (p q : Nat) (na : Bool) (ax : Option Addr) (nx cx : Nat) (fx : Nat → Nat) (nb : Bool) (ay : Option Addr) (ny cy : Nat) (fy : Nat → Nat) : Prop :=
  ArgAt w p na ax nx cx fx ∧ ArgAt w q nb ay ny cy fy
theorem Args2.below {w w' : World} {p q : Nat} {na nb : Bool} {ax ay : Option Addr} {nx cx ny cy : Nat} {fx fy : Nat → Nat} (h : Args2 w p q na ax nx cx fx nb ay ny cy fy) (hb : Below w.heap.size w w') : Args2 w' p q na ax nx cx fx nb ay ny cy fy :=
  ⟨h.1.below hb, h.2.below hb⟩

theorem size_tab : (Tryd.prog.info? 51).map (·.size) = some 20 := by kernel_rfl

theorem keep_tab {W : World} {p q t : Nat} {na nb : Bool} {ax ay : Option Addr} {nx cx ny cy : Nat} {fx fy : Nat → Nat} {cs : Array Value} {T : TypeId} (h : Args2 W p q na ax nx cx fx nb ay ny cy fy) (ht : W.heap[t]? = some (.cells cs T (0, 0))) :
    ∀ u, Below W.heap.size W u → u.cell? ⟨p, 0, none⟩ = some (.bool na) ∧ u.cell? ⟨p, 1, none⟩ = some (.slice ax nx cx) ∧ u.cell? ⟨q, 0, none⟩ = some (.bool nb) ∧ u.cell? ⟨q, 1, none⟩ = some (.slice ay ny cy) ∧ ∀ (j : Nat) (v : Value), cs[j]? = some v → u.cell? ⟨t, j, none⟩ = some v := fun u hu =>
  ⟨(h.below hu).1.1.cell0, (h.below hu).1.1.cell1, (h.below hu).2.1.cell0, (h.below hu).2.1.cell1, fun j v hv => by
    have h2 : u.heap[t]? = some (.cells cs T (0, 0)) := by rw [hu.block _ (lt_of_block ht)]; exact ht
    simp [World.cell?, h2, hv]⟩

theorem opIs {k nR Rj : Nat} {sx sy nn nj : Bool} {V U R : Nat} (hk : k < 5) (hnn : nn = (opR k sx V sy U).1) (hR : R = (opR k sx V sy U).2) (hn : nR = nlen BW R) (hbits : ∀ i, tb nj Rj i = jat (opT k) sx V sy U i) (hp : nj = true → 1 ≤ Rj) : Same nn nR (dig BW R) nj Rj ∧ nlen 65536 Rj ≤ 4 * nR := by
  obtain ⟨h1, h2⟩ := tb_unique (opR_pos k sx V sy U) hp (fun i => by rw [hbits, opR_bits k hk])
  rw [← hnn] at h1
  rw [← hR] at h2
  subst hn h2
  refine ⟨same_of_eq h1 rfl hp, ?_⟩
  exact (nlen_pow (B := 65536) (by omega) 4 (by omega) R _).1 (Nat.le_refl (nlen BW R))

set_option maxHeartbeats 1000000 in
theorem fnBits_walk (ix : Nat) (hix : ix ≤ 255) (na nb : Bool) (ax ay : Option Addr) (nx cx ny cy : Nat) (fx fy : Nat → Nat) (hfx : ∀ i, fx i < BW) (hfy : ∀ i, fy i < BW) (w : World) (hxc : nx ≤ cx) (hyc : ny ≤ cy) (hcx : cx ≤ 9223372036854775807) (hcy : cy ≤ 9223372036854775807)
    (hrx : Reads w .u64 ax nx fx) (hry : Reads w .u64 ay ny fy) (hone : One w) :
    Calls Tryd.prog 7 #[.int .u8 ix, .agg #[.bool na, .slice ax nx cx], .agg #[.bool nb, .slice ay ny cy]] w fun e w' => e = .returned (.bool true) ∧ Below w.heap.size w w' := by
  have hnot : ∀ (x : Bool) (w : World), (Op.unary .not (.bool x)).run Tryd.prog w = .ok (.bool (!x)) w := fun _ _ => rfl
  have hfld := field_nat
  obtain ⟨W1, HW1⟩ : ∃ W, Hid (W = w.alloc (.cells #[.bool na, .slice ax nx cx] 24)) := ⟨_, Lib.hid rfl⟩
  obtain ⟨W2, HW2⟩ : ∃ W, Hid (W = W1.alloc (.cells #[.bool nb, .slice ay ny cy] 24)) := ⟨_, Lib.hid rfl⟩
  have s1 : W1.heap.size = w.heap.size + 1 := by rw [HW1.out]; simp
  have b2 : Below w.heap.size w W2 := by rw [HW2.out, HW1.out]; exact ((Below.refl _ w).alloc (Nat.le_refl _) _).alloc (by simp) _
  have a2 : Args2 W2 w.heap.size (w.heap.size + 1) na ax nx cx fx nb ay ny cy fy := by
    refine ⟨⟨?_, hrx.below b2⟩, ⟨?_, hry.below b2⟩⟩
    · rw [HW2.out, HW1.out]; exact (Pair.new w _ _ _).alloc _
    · rw [HW2.out, ← s1]; exact Pair.new W1 _ _ _
  have F0 := Lib.hid (And.intro b2 a2)
  have HO := Lib.hid hone
  clear hrx hry hone b2 a2 s1
  by_cases h1 : nx ≤ 2147483647
  · by_cases h2 : ny ≤ 2147483647
    · by_cases h3 : 20 < nx
      · have KX := Lib.hid (fun u => show Calls Tryd.prog 10 #[.agg #[.bool na, .slice ax nx cx]] u fun e w' => e = .returned (.bool true) ∧ Below u.heap.size u w' from by have := fits_any na ax nx cx u (by omega); rwa [show decide (nx ≤ 2147483647) = true by simp; omega] at this)
        have KY := Lib.hid (fun u => show Calls Tryd.prog 10 #[.agg #[.bool nb, .slice ay ny cy]] u fun e w' => e = .returned (.bool true) ∧ Below u.heap.size u w' from by have := fits_any nb ay ny cy u (by omega); rwa [show decide (ny ≤ 2147483647) = true by simp; omega] at this)
        have BX := Lib.hid (fun u => show Calls Tryd.prog 12 #[.agg #[.bool na, .slice ax nx cx], .int .i64 20] u fun e w' => e = .returned (.bool true) ∧ Below u.heap.size u w' from by have := big_any na ax nx cx 20 u (by omega); rwa [show decide ((20 : Int) < (nx : Int)) = true by simp; omega] at this)
        go_enter Tryd.func7, Tryd.ntmps7
        go_wp2_with fail
        rw [← HW1.out, ← HW2.out]
        refine (KX.out _).mono ?_
        rintro e w3 ⟨rfl, b3⟩
        have d3 := below_trans F0.out.1 b3
        have a3 := F0.out.2.below b3
        clear b3
        have c0 := a3.1.1.cell0
        have c1 := a3.1.1.cell1
        have c2 := a3.2.1.cell0
        have c3 := a3.2.1.cell1
        go_wp2_with fail
        refine (KY.out _).mono ?_
        rintro e w4 ⟨rfl, b4⟩
        have d4 := below_trans d3 b4
        have a4 := a3.below b4
        clear b4 c0 c1 c2 c3 d3 a3
        have c0 := a4.1.1.cell0
        have c1 := a4.1.1.cell1
        have c2 := a4.2.1.cell0
        have c3 := a4.2.1.cell1
        go_wp2_with fail
        refine (BX.out _).mono ?_
        rintro e w5 ⟨rfl, b5⟩
        have d5 := below_trans d4 b5
        have a5 := a4.below b5
        clear b5 c0 c1 c2 c3 d4 a4
        have DD := Lib.hid d5
        clear d5 a5
        go_wp2
        go_ret
        exact ⟨rfl, DD.out⟩
      · by_cases h4 : 20 < ny
        · have KX := Lib.hid (fun u => show Calls Tryd.prog 10 #[.agg #[.bool na, .slice ax nx cx]] u fun e w' => e = .returned (.bool true) ∧ Below u.heap.size u w' from by have := fits_any na ax nx cx u (by omega); rwa [show decide (nx ≤ 2147483647) = true by simp; omega] at this)
          have KY := Lib.hid (fun u => show Calls Tryd.prog 10 #[.agg #[.bool nb, .slice ay ny cy]] u fun e w' => e = .returned (.bool true) ∧ Below u.heap.size u w' from by have := fits_any nb ay ny cy u (by omega); rwa [show decide (ny ≤ 2147483647) = true by simp; omega] at this)
          have BX := Lib.hid (fun u => show Calls Tryd.prog 12 #[.agg #[.bool na, .slice ax nx cx], .int .i64 20] u fun e w' => e = .returned (.bool false) ∧ Below u.heap.size u w' from by have := big_any na ax nx cx 20 u (by omega); rwa [show decide ((20 : Int) < (nx : Int)) = false by simp; omega] at this)
          have BY := Lib.hid (fun u => show Calls Tryd.prog 12 #[.agg #[.bool nb, .slice ay ny cy], .int .i64 20] u fun e w' => e = .returned (.bool true) ∧ Below u.heap.size u w' from by have := big_any nb ay ny cy 20 u (by omega); rwa [show decide ((20 : Int) < (ny : Int)) = true by simp; omega] at this)
          go_enter Tryd.func7, Tryd.ntmps7
          go_wp2_with fail
          rw [← HW1.out, ← HW2.out]
          refine (KX.out _).mono ?_
          rintro e w3 ⟨rfl, b3⟩
          have d3 := below_trans F0.out.1 b3
          have a3 := F0.out.2.below b3
          clear b3
          have c0 := a3.1.1.cell0
          have c1 := a3.1.1.cell1
          have c2 := a3.2.1.cell0
          have c3 := a3.2.1.cell1
          go_wp2_with fail
          refine (KY.out _).mono ?_
          rintro e w4 ⟨rfl, b4⟩
          have d4 := below_trans d3 b4
          have a4 := a3.below b4
          clear b4 c0 c1 c2 c3 d3 a3
          have c0 := a4.1.1.cell0
          have c1 := a4.1.1.cell1
          have c2 := a4.2.1.cell0
          have c3 := a4.2.1.cell1
          go_wp2_with fail
          refine (BX.out _).mono ?_
          rintro e w5 ⟨rfl, b5⟩
          have d5 := below_trans d4 b5
          have a5 := a4.below b5
          clear b5 c0 c1 c2 c3 d4 a4
          have c0 := a5.1.1.cell0
          have c1 := a5.1.1.cell1
          have c2 := a5.2.1.cell0
          have c3 := a5.2.1.cell1
          go_wp2_with fail
          refine (BY.out _).mono ?_
          rintro e w6 ⟨rfl, b6⟩
          have d6 := below_trans d5 b6
          have a6 := a5.below b6
          clear b6 c0 c1 c2 c3 d5 a5
          have DD := Lib.hid d6
          clear d6 a6
          go_wp2
          go_ret
          exact ⟨rfl, DD.out⟩
        · have KX := Lib.hid (fun u => show Calls Tryd.prog 10 #[.agg #[.bool na, .slice ax nx cx]] u fun e w' => e = .returned (.bool true) ∧ Below u.heap.size u w' from by have := fits_any na ax nx cx u (by omega); rwa [show decide (nx ≤ 2147483647) = true by simp; omega] at this)
          have KY := Lib.hid (fun u => show Calls Tryd.prog 10 #[.agg #[.bool nb, .slice ay ny cy]] u fun e w' => e = .returned (.bool true) ∧ Below u.heap.size u w' from by have := fits_any nb ay ny cy u (by omega); rwa [show decide (ny ≤ 2147483647) = true by simp; omega] at this)
          have BX := Lib.hid (fun u => show Calls Tryd.prog 12 #[.agg #[.bool na, .slice ax nx cx], .int .i64 20] u fun e w' => e = .returned (.bool false) ∧ Below u.heap.size u w' from by have := big_any na ax nx cx 20 u (by omega); rwa [show decide ((20 : Int) < (nx : Int)) = false by simp; omega] at this)
          have BY := Lib.hid (fun u => show Calls Tryd.prog 12 #[.agg #[.bool nb, .slice ay ny cy], .int .i64 20] u fun e w' => e = .returned (.bool false) ∧ Below u.heap.size u w' from by have := big_any nb ay ny cy 20 u (by omega); rwa [show decide ((20 : Int) < (ny : Int)) = false by simp; omega] at this)
          go_enter Tryd.func7, Tryd.ntmps7
          go_wp2_with fail
          rw [← HW1.out, ← HW2.out]
          refine (KX.out _).mono ?_
          rintro e w3 ⟨rfl, b3⟩
          have d3 := below_trans F0.out.1 b3
          have a3 := F0.out.2.below b3
          clear b3
          have c0 := a3.1.1.cell0
          have c1 := a3.1.1.cell1
          have c2 := a3.2.1.cell0
          have c3 := a3.2.1.cell1
          go_wp2_with fail
          refine (KY.out _).mono ?_
          rintro e w4 ⟨rfl, b4⟩
          have d4 := below_trans d3 b4
          have a4 := a3.below b4
          clear b4 c0 c1 c2 c3 d3 a3
          have c0 := a4.1.1.cell0
          have c1 := a4.1.1.cell1
          have c2 := a4.2.1.cell0
          have c3 := a4.2.1.cell1
          go_wp2_with fail
          refine (BX.out _).mono ?_
          rintro e w5 ⟨rfl, b5⟩
          have d5 := below_trans d4 b5
          have a5 := a4.below b5
          clear b5 c0 c1 c2 c3 d4 a4
          have c0 := a5.1.1.cell0
          have c1 := a5.1.1.cell1
          have c2 := a5.2.1.cell0
          have c3 := a5.2.1.cell1
          go_wp2_with fail
          refine (BY.out _).mono ?_
          rintro e w6 ⟨rfl, b6⟩
          have d6 := below_trans d5 b6
          have a6 := a5.below b6
          clear b6 c0 c1 c2 c3 d5 a5
          have c0 := a6.1.1.cell0
          have c1 := a6.1.1.cell1
          have c2 := a6.2.1.cell0
          have c3 := a6.2.1.cell1
          have hVn : nlen BW (val BW fx nx) ≤ nx := by rw [nlen_le_iff BW_one]; exact val_lt fun i _ => hfx i
          have hUn : nlen BW (val BW fy ny) ≤ ny := by rw [nlen_le_iff BW_one]; exact val_lt fun i _ => hfy i
          have hsx := sgn_pos na (val BW fx nx)
          have hsy := sgn_pos nb (val BW fy ny)
          obtain ⟨W7, hW7⟩ : ∃ W, W = w6.alloc (.cells #[.bool false, .bool false, .bool false, .bool true, .bool false, .bool true, .bool true, .bool true, .bool false, .bool true, .bool true, .bool false, .bool false, .bool false, .bool true, .bool false, .bool true, .bool true, .bool false, .bool false] 51) := ⟨_, rfl⟩
          have b67 : Below w6.heap.size w6 W7 := by rw [hW7]; exact (Below.refl _ w6).alloc (Nat.le_refl _) _
          have hpt : W7.heap[w6.heap.size]? = some (.cells #[.bool false, .bool false, .bool false, .bool true, .bool false, .bool true, .bool true, .bool true, .bool false, .bool true, .bool true, .bool false, .bool false, .bool false, .bool true, .bool false, .bool true, .bool true, .bool false, .bool false] 51 (0, 0)) := by rw [hW7]; exact heap_alloc_new w6 _
          have a7 := a6.below b67
          have d7 := below_trans d6 b67
          have o7 := HO.out.below d7
          have bdr : Below W7.heap.size W7 W7.drew := ⟨rfl, rfl, rfl, Nat.le_refl _, fun _ _ => rfl⟩
          have KIX := in_kept na ax nx cx fx (fun i _ => hfx i) W7 hxc h1 a7.1.2
          have KIY := in_kept nb ay ny cy fy (fun i _ => hfy i) W7 hyc h2 a7.2.2
          have KB0 := implBits_0 na nb ax ay nx cx ny cy fx fy (fun i _ => hfx i) (fun i _ => hfy i) W7.drew hxc hyc (by omega) (by omega) a7.1.2 a7.2.2 o7
          have KB1 := implBits_1 na nb ax ay nx cx ny cy fx fy (fun i _ => hfx i) (fun i _ => hfy i) W7.drew hxc hyc (by omega) (by omega) a7.1.2 a7.2.2 o7
          have KB2 := implBits_2 na nb ax ay nx cx ny cy fx fy (fun i _ => hfx i) (fun i _ => hfy i) W7.drew hxc hyc (by omega) (by omega) a7.1.2 a7.2.2 o7
          have KB3 := implBits_3 na nb ax ay nx cx ny cy fx fy (fun i _ => hfx i) (fun i _ => hfy i) W7.drew hxc hyc (by omega) (by omega) a7.1.2 a7.2.2 o7
          have KB4 := implBits_4 na nb ax ay nx cx ny cy fx fy (fun i _ => hfx i) (fun i _ => hfy i) W7.drew hxc hyc (by omega) (by omega) a7.1.2 a7.2.2 o7
          obtain ⟨V, hV⟩ : ∃ V, V = val BW fx nx := ⟨_, rfl⟩
          obtain ⟨U, hU⟩ : ∃ U, U = val BW fy ny := ⟨_, rfl⟩
          rw [← hV] at KIX hVn hsx
          rw [← hU] at KIY hUn hsy
          rw [← hV, ← hU] at KB0 KB1 KB2 KB3 KB4
          have hL16 : nlen 65536 V ≤ 4 * nx := (nlen_pow (B := 65536) (by omega) 4 (by omega) V nx).1 hVn
          have hM16 : nlen 65536 U ≤ 4 * ny := (nlen_pow (B := 65536) (by omega) 4 (by omega) U ny).1 hUn
          obtain ⟨sx, hsx'⟩ : ∃ s, s = sgn na V := ⟨_, rfl⟩
          obtain ⟨sy, hsy'⟩ : ∃ s, s = sgn nb U := ⟨_, rfl⟩
          rw [← hsx'] at KIX hsx
          rw [← hsy'] at KIY hsy
          rw [← hsx', ← hsy'] at KB0 KB1 KB2 KB3 KB4
          have KEEP := Lib.hid (keep_tab a7 hpt)
          have KIX' := Lib.hid KIX
          have KIY' := Lib.hid KIY
          have KJ := Lib.hid (fun (T : Nat → Bool) (aa ab : Option Addr) (ca cb : Nat) (u : World) (ha : nlen 65536 V ≤ ca) (hb : nlen 65536 U ≤ cb) (hra : Reads u .i64 aa (nlen 65536 V) (dig 65536 V)) (hrb : Reads u .i64 ab (nlen 65536 U) (dig 65536 U)) =>
            joined_any T sx aa V ca sy ab U cb u hra hrb hsx hsy ha hb (by omega) (by omega))
          have HB := Lib.hid (And.intro KB0 (And.intro KB1 (And.intro KB2 (And.intro KB3 KB4))))
          have D7 := Lib.hid d7
          have HW7 := Lib.hid hW7
          have hN := fun k => opR_nlen k sx V sy U
          have HN := Lib.hid (fun k => show nlen BW (opR k sx V sy U).2 ≤ 100 by have := hN k; omega)
          have hix5 : ix % 5 = 0 ∨ ix % 5 = 1 ∨ ix % 5 = 2 ∨ ix % 5 = 3 ∨ ix % 5 = 4 := by omega
          clear KB0 KB1 KB2 KB3 KB4 KIX KIY hVn hUn hsx hsy hV hU hsx' hsy' hW7 b67 hpt a7 d7 o7 d6 a6 hL16 hM16 hN
          rcases hix5 with hm | hm | hm | hm | hm
          · have hki : (ix : Int) % 5 = 0 := by omega
            clear hm
            obtain ⟨RR, hRR⟩ : ∃ R, R = opR 0 sx V sy U := ⟨_, rfl⟩
            have KB : Hid (Calls Tryd.prog 23 #[.int .i64 0, .agg #[.bool na, .slice ax nx cx], .agg #[.bool nb, .slice ay ny cy]] W7.drew (fun e w' => ∃ v, e = .returned (.agg #[.bool RR.1, v]) ∧ Own w' W7.drew.heap.size 32 .u64 v (nlen BW RR.2) (dig BW RR.2) ∧ Below W7.drew.heap.size W7.drew w')) := Lib.hid (by rw [hRR]; exact HB.out.1)
            have hRn : nlen BW RR.2 ≤ 100 := by rw [hRR]; exact HN.out 0
            have K7 := Lib.hid (show ∀ u, Below W7.heap.size W7 u → u.cell? ⟨w.heap.size, 0, none⟩ = some (.bool na) ∧ u.cell? ⟨w.heap.size, 1, none⟩ = some (.slice ax nx cx) ∧ u.cell? ⟨w.heap.size + 1, 0, none⟩ = some (.bool nb) ∧ u.cell? ⟨w.heap.size + 1, 1, none⟩ = some (.slice ay ny cy) ∧ u.cell? ⟨w6.heap.size, 0, none⟩ = some (.bool false) ∧ u.cell? ⟨w6.heap.size, 1, none⟩ = some (.bool false) ∧ u.cell? ⟨w6.heap.size, 2, none⟩ = some (.bool false) ∧ u.cell? ⟨w6.heap.size, 3, none⟩ = some (.bool true) from fun u hu => by
              obtain ⟨e1, e2, e3, e4, e5⟩ := KEEP.out u hu
              exact ⟨e1, e2, e3, e4, e5 0 _ rfl, e5 1 _ rfl, e5 2 _ rfl, e5 3 _ rfl⟩)
            have HRR := Lib.hid hRR
            have KJK := Lib.hid (fun (aa ab : Option Addr) (ca cb : Nat) (u : World) (ha : nlen 65536 V ≤ ca) (hb : nlen 65536 U ≤ cb) (hra : Reads u .i64 aa (nlen 65536 V) (dig 65536 V)) (hrb : Reads u .i64 ab (nlen 65536 U) (dig 65536 U)) =>
              show Calls Tryd.prog 16 #[.agg #[.bool sx, .slice aa (nlen 65536 V) ca], .agg #[.bool sy, .slice ab (nlen 65536 U) cb], .agg #[.bool false, .bool false, .bool false, .bool true]] u (JPost (opT 0) sx V sy U u) from KJ.out (opT 0) aa ab ca cb u ha hb hra hrb)
            have k0 := K7.out W7 (Below.refl _ _)
            clear hRR
            go_wp2_with (refine wpList_store_row rfl 51 (.tmp 7) (.tmp 28) rfl w6.heap.size #[.bool false, .bool false, .bool false, .bool true, .bool false, .bool true, .bool true, .bool true, .bool false, .bool true, .bool true, .bool false, .bool false, .bool false, .bool true, .bool false, .bool true, .bool true, .bool false, .bool false] rfl rfl 51 _ (heap_alloc_new w6 _) ?_ ?_ ?_ ?_; (exact size_tab); rfl; (simp [Value.oneCell']); (rw [World.setRow_alloc_new]))
            rw [← HW7.out]
            go_region_held3 (fun u => u.cell? ⟨w.heap.size, 0, none⟩ = some (.bool na) ∧ u.cell? ⟨w.heap.size, 1, none⟩ = some (.slice ax nx cx) ∧ u.cell? ⟨w.heap.size + 1, 0, none⟩ = some (.bool nb) ∧ u.cell? ⟨w.heap.size + 1, 1, none⟩ = some (.slice ay ny cy) ∧ u.cell? ⟨w6.heap.size, 0, none⟩ = some (.bool false) ∧ u.cell? ⟨w6.heap.size, 1, none⟩ = some (.bool false) ∧ u.cell? ⟨w6.heap.size, 2, none⟩ = some (.bool false) ∧ u.cell? ⟨w6.heap.size, 3, none⟩ = some (.bool true)) (first | exact k0 | exact k8 | exact k9 | exact k10 | exact k11 | exact k12) (first
              | (go_simp; go_at_call 23; (with_reducible refine KB.out.mono ?_); rintro e w8 ⟨v8, rfl, own8, b8⟩; obtain ⟨a8, c8, rfl, hle8, hcm8, hrd8, hlt8⟩ := own8.parts; have d8 := below_trans bdr b8; have k8 := K7.out _ d8; clear own8 hlt8 b8; go_wp2_with fail)
              | (go_simp; go_at_call 11; (with_reducible refine (KIX'.out _ d8).mono ?_); rintro e w9 ⟨aa, ca, rfl, hla, ra, b9, d9⟩; have k9 := K7.out _ d9; go_wp2_with fail)
              | (go_simp; go_at_call 11; (with_reducible refine (KIY'.out _ d9).mono ?_); rintro e w10 ⟨ab, cb, rfl, hlb, rb, b10, d10⟩; have k10 := K7.out _ d10; go_wp2_with fail)
              | (go_simp; go_at_call 16; (with_reducible refine (KJK.out aa ab ca cb w10 hla hlb (ra w10 b10) (rb w10 (Below.refl _ _))).mono ?_); rintro e w11 ⟨nj, vj, Rj, rfl, own11, b11, hpj, hbits, hRl⟩; obtain ⟨aj, cj, rfl, hle11, hcm11, hrd11, hlt11⟩ := own11.parts; have d11 := below_trans d10 b11; have k11 := K7.out _ d11; have HOP := Lib.hid (opIs (k := 0) (R := RR.2) (nn := RR.1) (by omega) (by rw [HRR.out]) (by rw [HRR.out]) rfl hbits hpj); clear hlt11 own11 hbits hpj hRl; go_wp2_with fail)
              | (go_simp; go_at_call 19; refine (is_yes RR.1 nj a8 aj (nlen BW RR.2) c8 Rj cj (dig BW RR.2) w11 (by omega) hle11 ?_ (hrd8.below (below_trans (below_trans b9 b10) b11)) hrd11 HOP.out.1).mono ?_; (exact Nat.le_trans HOP.out.2 (by omega)); rintro e w12 ⟨rfl, b12⟩; have d12 := below_trans d11 b12; have k12 := K7.out _ d12; go_wp2_with fail))
            have DD := Lib.hid (below_trans D7.out d12)
            clear hrd11 hrd8 k0 k8 k9 k10 k11 k12 b9 b10 b11 b12 d8 d9 d10 d11 d12 ra rb
            go_wp2
            go_ret
            exact ⟨rfl, DD.out⟩
          · have hki : (ix : Int) % 5 = 1 := by omega
            clear hm
            obtain ⟨RR, hRR⟩ : ∃ R, R = opR 1 sx V sy U := ⟨_, rfl⟩
            have KB : Hid (Calls Tryd.prog 23 #[.int .i64 1, .agg #[.bool na, .slice ax nx cx], .agg #[.bool nb, .slice ay ny cy]] W7.drew (fun e w' => ∃ v, e = .returned (.agg #[.bool RR.1, v]) ∧ Own w' W7.drew.heap.size 32 .u64 v (nlen BW RR.2) (dig BW RR.2) ∧ Below W7.drew.heap.size W7.drew w')) := Lib.hid (by rw [hRR]; exact HB.out.2.1)
            have hRn : nlen BW RR.2 ≤ 100 := by rw [hRR]; exact HN.out 1
            have K7 := Lib.hid (show ∀ u, Below W7.heap.size W7 u → u.cell? ⟨w.heap.size, 0, none⟩ = some (.bool na) ∧ u.cell? ⟨w.heap.size, 1, none⟩ = some (.slice ax nx cx) ∧ u.cell? ⟨w.heap.size + 1, 0, none⟩ = some (.bool nb) ∧ u.cell? ⟨w.heap.size + 1, 1, none⟩ = some (.slice ay ny cy) ∧ u.cell? ⟨w6.heap.size, 4, none⟩ = some (.bool false) ∧ u.cell? ⟨w6.heap.size, 5, none⟩ = some (.bool true) ∧ u.cell? ⟨w6.heap.size, 6, none⟩ = some (.bool true) ∧ u.cell? ⟨w6.heap.size, 7, none⟩ = some (.bool true) from fun u hu => by
              obtain ⟨e1, e2, e3, e4, e5⟩ := KEEP.out u hu
              exact ⟨e1, e2, e3, e4, e5 4 _ rfl, e5 5 _ rfl, e5 6 _ rfl, e5 7 _ rfl⟩)
            have HRR := Lib.hid hRR
            have KJK := Lib.hid (fun (aa ab : Option Addr) (ca cb : Nat) (u : World) (ha : nlen 65536 V ≤ ca) (hb : nlen 65536 U ≤ cb) (hra : Reads u .i64 aa (nlen 65536 V) (dig 65536 V)) (hrb : Reads u .i64 ab (nlen 65536 U) (dig 65536 U)) =>
              show Calls Tryd.prog 16 #[.agg #[.bool sx, .slice aa (nlen 65536 V) ca], .agg #[.bool sy, .slice ab (nlen 65536 U) cb], .agg #[.bool false, .bool true, .bool true, .bool true]] u (JPost (opT 1) sx V sy U u) from KJ.out (opT 1) aa ab ca cb u ha hb hra hrb)
            have k0 := K7.out W7 (Below.refl _ _)
            clear hRR
            go_wp2_with (refine wpList_store_row rfl 51 (.tmp 7) (.tmp 28) rfl w6.heap.size #[.bool false, .bool false, .bool false, .bool true, .bool false, .bool true, .bool true, .bool true, .bool false, .bool true, .bool true, .bool false, .bool false, .bool false, .bool true, .bool false, .bool true, .bool true, .bool false, .bool false] rfl rfl 51 _ (heap_alloc_new w6 _) ?_ ?_ ?_ ?_; (exact size_tab); rfl; (simp [Value.oneCell']); (rw [World.setRow_alloc_new]))
            rw [← HW7.out]
            go_region_held3 (fun u => u.cell? ⟨w.heap.size, 0, none⟩ = some (.bool na) ∧ u.cell? ⟨w.heap.size, 1, none⟩ = some (.slice ax nx cx) ∧ u.cell? ⟨w.heap.size + 1, 0, none⟩ = some (.bool nb) ∧ u.cell? ⟨w.heap.size + 1, 1, none⟩ = some (.slice ay ny cy) ∧ u.cell? ⟨w6.heap.size, 4, none⟩ = some (.bool false) ∧ u.cell? ⟨w6.heap.size, 5, none⟩ = some (.bool true) ∧ u.cell? ⟨w6.heap.size, 6, none⟩ = some (.bool true) ∧ u.cell? ⟨w6.heap.size, 7, none⟩ = some (.bool true)) (first | exact k0 | exact k8 | exact k9 | exact k10 | exact k11 | exact k12) (first
              | (go_simp; go_at_call 23; (with_reducible refine KB.out.mono ?_); rintro e w8 ⟨v8, rfl, own8, b8⟩; obtain ⟨a8, c8, rfl, hle8, hcm8, hrd8, hlt8⟩ := own8.parts; have d8 := below_trans bdr b8; have k8 := K7.out _ d8; clear own8 hlt8 b8; go_wp2_with fail)
              | (go_simp; go_at_call 11; (with_reducible refine (KIX'.out _ d8).mono ?_); rintro e w9 ⟨aa, ca, rfl, hla, ra, b9, d9⟩; have k9 := K7.out _ d9; go_wp2_with fail)
              | (go_simp; go_at_call 11; (with_reducible refine (KIY'.out _ d9).mono ?_); rintro e w10 ⟨ab, cb, rfl, hlb, rb, b10, d10⟩; have k10 := K7.out _ d10; go_wp2_with fail)
              | (go_simp; go_at_call 16; (with_reducible refine (KJK.out aa ab ca cb w10 hla hlb (ra w10 b10) (rb w10 (Below.refl _ _))).mono ?_); rintro e w11 ⟨nj, vj, Rj, rfl, own11, b11, hpj, hbits, hRl⟩; obtain ⟨aj, cj, rfl, hle11, hcm11, hrd11, hlt11⟩ := own11.parts; have d11 := below_trans d10 b11; have k11 := K7.out _ d11; have HOP := Lib.hid (opIs (k := 1) (R := RR.2) (nn := RR.1) (by omega) (by rw [HRR.out]) (by rw [HRR.out]) rfl hbits hpj); clear hlt11 own11 hbits hpj hRl; go_wp2_with fail)
              | (go_simp; go_at_call 19; refine (is_yes RR.1 nj a8 aj (nlen BW RR.2) c8 Rj cj (dig BW RR.2) w11 (by omega) hle11 ?_ (hrd8.below (below_trans (below_trans b9 b10) b11)) hrd11 HOP.out.1).mono ?_; (exact Nat.le_trans HOP.out.2 (by omega)); rintro e w12 ⟨rfl, b12⟩; have d12 := below_trans d11 b12; have k12 := K7.out _ d12; go_wp2_with fail))
            have DD := Lib.hid (below_trans D7.out d12)
            clear hrd11 hrd8 k0 k8 k9 k10 k11 k12 b9 b10 b11 b12 d8 d9 d10 d11 d12 ra rb
            go_wp2
            go_ret
            exact ⟨rfl, DD.out⟩
          · have hki : (ix : Int) % 5 = 2 := by omega
            clear hm
            obtain ⟨RR, hRR⟩ : ∃ R, R = opR 2 sx V sy U := ⟨_, rfl⟩
            have KB : Hid (Calls Tryd.prog 23 #[.int .i64 2, .agg #[.bool na, .slice ax nx cx], .agg #[.bool nb, .slice ay ny cy]] W7.drew (fun e w' => ∃ v, e = .returned (.agg #[.bool RR.1, v]) ∧ Own w' W7.drew.heap.size 32 .u64 v (nlen BW RR.2) (dig BW RR.2) ∧ Below W7.drew.heap.size W7.drew w')) := Lib.hid (by rw [hRR]; exact HB.out.2.2.1)
            have hRn : nlen BW RR.2 ≤ 100 := by rw [hRR]; exact HN.out 2
            have K7 := Lib.hid (show ∀ u, Below W7.heap.size W7 u → u.cell? ⟨w.heap.size, 0, none⟩ = some (.bool na) ∧ u.cell? ⟨w.heap.size, 1, none⟩ = some (.slice ax nx cx) ∧ u.cell? ⟨w.heap.size + 1, 0, none⟩ = some (.bool nb) ∧ u.cell? ⟨w.heap.size + 1, 1, none⟩ = some (.slice ay ny cy) ∧ u.cell? ⟨w6.heap.size, 8, none⟩ = some (.bool false) ∧ u.cell? ⟨w6.heap.size, 9, none⟩ = some (.bool true) ∧ u.cell? ⟨w6.heap.size, 10, none⟩ = some (.bool true) ∧ u.cell? ⟨w6.heap.size, 11, none⟩ = some (.bool false) from fun u hu => by
              obtain ⟨e1, e2, e3, e4, e5⟩ := KEEP.out u hu
              exact ⟨e1, e2, e3, e4, e5 8 _ rfl, e5 9 _ rfl, e5 10 _ rfl, e5 11 _ rfl⟩)
            have HRR := Lib.hid hRR
            have KJK := Lib.hid (fun (aa ab : Option Addr) (ca cb : Nat) (u : World) (ha : nlen 65536 V ≤ ca) (hb : nlen 65536 U ≤ cb) (hra : Reads u .i64 aa (nlen 65536 V) (dig 65536 V)) (hrb : Reads u .i64 ab (nlen 65536 U) (dig 65536 U)) =>
              show Calls Tryd.prog 16 #[.agg #[.bool sx, .slice aa (nlen 65536 V) ca], .agg #[.bool sy, .slice ab (nlen 65536 U) cb], .agg #[.bool false, .bool true, .bool true, .bool false]] u (JPost (opT 2) sx V sy U u) from KJ.out (opT 2) aa ab ca cb u ha hb hra hrb)
            have k0 := K7.out W7 (Below.refl _ _)
            clear hRR
            go_wp2_with (refine wpList_store_row rfl 51 (.tmp 7) (.tmp 28) rfl w6.heap.size #[.bool false, .bool false, .bool false, .bool true, .bool false, .bool true, .bool true, .bool true, .bool false, .bool true, .bool true, .bool false, .bool false, .bool false, .bool true, .bool false, .bool true, .bool true, .bool false, .bool false] rfl rfl 51 _ (heap_alloc_new w6 _) ?_ ?_ ?_ ?_; (exact size_tab); rfl; (simp [Value.oneCell']); (rw [World.setRow_alloc_new]))
            rw [← HW7.out]
            go_region_held3 (fun u => u.cell? ⟨w.heap.size, 0, none⟩ = some (.bool na) ∧ u.cell? ⟨w.heap.size, 1, none⟩ = some (.slice ax nx cx) ∧ u.cell? ⟨w.heap.size + 1, 0, none⟩ = some (.bool nb) ∧ u.cell? ⟨w.heap.size + 1, 1, none⟩ = some (.slice ay ny cy) ∧ u.cell? ⟨w6.heap.size, 8, none⟩ = some (.bool false) ∧ u.cell? ⟨w6.heap.size, 9, none⟩ = some (.bool true) ∧ u.cell? ⟨w6.heap.size, 10, none⟩ = some (.bool true) ∧ u.cell? ⟨w6.heap.size, 11, none⟩ = some (.bool false)) (first | exact k0 | exact k8 | exact k9 | exact k10 | exact k11 | exact k12) (first
              | (go_simp; go_at_call 23; (with_reducible refine KB.out.mono ?_); rintro e w8 ⟨v8, rfl, own8, b8⟩; obtain ⟨a8, c8, rfl, hle8, hcm8, hrd8, hlt8⟩ := own8.parts; have d8 := below_trans bdr b8; have k8 := K7.out _ d8; clear own8 hlt8 b8; go_wp2_with fail)
              | (go_simp; go_at_call 11; (with_reducible refine (KIX'.out _ d8).mono ?_); rintro e w9 ⟨aa, ca, rfl, hla, ra, b9, d9⟩; have k9 := K7.out _ d9; go_wp2_with fail)
              | (go_simp; go_at_call 11; (with_reducible refine (KIY'.out _ d9).mono ?_); rintro e w10 ⟨ab, cb, rfl, hlb, rb, b10, d10⟩; have k10 := K7.out _ d10; go_wp2_with fail)
              | (go_simp; go_at_call 16; (with_reducible refine (KJK.out aa ab ca cb w10 hla hlb (ra w10 b10) (rb w10 (Below.refl _ _))).mono ?_); rintro e w11 ⟨nj, vj, Rj, rfl, own11, b11, hpj, hbits, hRl⟩; obtain ⟨aj, cj, rfl, hle11, hcm11, hrd11, hlt11⟩ := own11.parts; have d11 := below_trans d10 b11; have k11 := K7.out _ d11; have HOP := Lib.hid (opIs (k := 2) (R := RR.2) (nn := RR.1) (by omega) (by rw [HRR.out]) (by rw [HRR.out]) rfl hbits hpj); clear hlt11 own11 hbits hpj hRl; go_wp2_with fail)
              | (go_simp; go_at_call 19; refine (is_yes RR.1 nj a8 aj (nlen BW RR.2) c8 Rj cj (dig BW RR.2) w11 (by omega) hle11 ?_ (hrd8.below (below_trans (below_trans b9 b10) b11)) hrd11 HOP.out.1).mono ?_; (exact Nat.le_trans HOP.out.2 (by omega)); rintro e w12 ⟨rfl, b12⟩; have d12 := below_trans d11 b12; have k12 := K7.out _ d12; go_wp2_with fail))
            have DD := Lib.hid (below_trans D7.out d12)
            clear hrd11 hrd8 k0 k8 k9 k10 k11 k12 b9 b10 b11 b12 d8 d9 d10 d11 d12 ra rb
            go_wp2
            go_ret
            exact ⟨rfl, DD.out⟩
          · have hki : (ix : Int) % 5 = 3 := by omega
            clear hm
            obtain ⟨RR, hRR⟩ : ∃ R, R = opR 3 sx V sy U := ⟨_, rfl⟩
            have KB : Hid (Calls Tryd.prog 23 #[.int .i64 3, .agg #[.bool na, .slice ax nx cx], .agg #[.bool nb, .slice ay ny cy]] W7.drew (fun e w' => ∃ v, e = .returned (.agg #[.bool RR.1, v]) ∧ Own w' W7.drew.heap.size 32 .u64 v (nlen BW RR.2) (dig BW RR.2) ∧ Below W7.drew.heap.size W7.drew w')) := Lib.hid (by rw [hRR]; exact HB.out.2.2.2.1)
            have hRn : nlen BW RR.2 ≤ 100 := by rw [hRR]; exact HN.out 3
            have K7 := Lib.hid (show ∀ u, Below W7.heap.size W7 u → u.cell? ⟨w.heap.size, 0, none⟩ = some (.bool na) ∧ u.cell? ⟨w.heap.size, 1, none⟩ = some (.slice ax nx cx) ∧ u.cell? ⟨w.heap.size + 1, 0, none⟩ = some (.bool nb) ∧ u.cell? ⟨w.heap.size + 1, 1, none⟩ = some (.slice ay ny cy) ∧ u.cell? ⟨w6.heap.size, 12, none⟩ = some (.bool false) ∧ u.cell? ⟨w6.heap.size, 13, none⟩ = some (.bool false) ∧ u.cell? ⟨w6.heap.size, 14, none⟩ = some (.bool true) ∧ u.cell? ⟨w6.heap.size, 15, none⟩ = some (.bool false) from fun u hu => by
              obtain ⟨e1, e2, e3, e4, e5⟩ := KEEP.out u hu
              exact ⟨e1, e2, e3, e4, e5 12 _ rfl, e5 13 _ rfl, e5 14 _ rfl, e5 15 _ rfl⟩)
            have HRR := Lib.hid hRR
            have KJK := Lib.hid (fun (aa ab : Option Addr) (ca cb : Nat) (u : World) (ha : nlen 65536 V ≤ ca) (hb : nlen 65536 U ≤ cb) (hra : Reads u .i64 aa (nlen 65536 V) (dig 65536 V)) (hrb : Reads u .i64 ab (nlen 65536 U) (dig 65536 U)) =>
              show Calls Tryd.prog 16 #[.agg #[.bool sx, .slice aa (nlen 65536 V) ca], .agg #[.bool sy, .slice ab (nlen 65536 U) cb], .agg #[.bool false, .bool false, .bool true, .bool false]] u (JPost (opT 3) sx V sy U u) from KJ.out (opT 3) aa ab ca cb u ha hb hra hrb)
            have k0 := K7.out W7 (Below.refl _ _)
            clear hRR
            go_wp2_with (refine wpList_store_row rfl 51 (.tmp 7) (.tmp 28) rfl w6.heap.size #[.bool false, .bool false, .bool false, .bool true, .bool false, .bool true, .bool true, .bool true, .bool false, .bool true, .bool true, .bool false, .bool false, .bool false, .bool true, .bool false, .bool true, .bool true, .bool false, .bool false] rfl rfl 51 _ (heap_alloc_new w6 _) ?_ ?_ ?_ ?_; (exact size_tab); rfl; (simp [Value.oneCell']); (rw [World.setRow_alloc_new]))
            rw [← HW7.out]
            go_region_held3 (fun u => u.cell? ⟨w.heap.size, 0, none⟩ = some (.bool na) ∧ u.cell? ⟨w.heap.size, 1, none⟩ = some (.slice ax nx cx) ∧ u.cell? ⟨w.heap.size + 1, 0, none⟩ = some (.bool nb) ∧ u.cell? ⟨w.heap.size + 1, 1, none⟩ = some (.slice ay ny cy) ∧ u.cell? ⟨w6.heap.size, 12, none⟩ = some (.bool false) ∧ u.cell? ⟨w6.heap.size, 13, none⟩ = some (.bool false) ∧ u.cell? ⟨w6.heap.size, 14, none⟩ = some (.bool true) ∧ u.cell? ⟨w6.heap.size, 15, none⟩ = some (.bool false)) (first | exact k0 | exact k8 | exact k9 | exact k10 | exact k11 | exact k12) (first
              | (go_simp; go_at_call 23; (with_reducible refine KB.out.mono ?_); rintro e w8 ⟨v8, rfl, own8, b8⟩; obtain ⟨a8, c8, rfl, hle8, hcm8, hrd8, hlt8⟩ := own8.parts; have d8 := below_trans bdr b8; have k8 := K7.out _ d8; clear own8 hlt8 b8; go_wp2_with fail)
              | (go_simp; go_at_call 11; (with_reducible refine (KIX'.out _ d8).mono ?_); rintro e w9 ⟨aa, ca, rfl, hla, ra, b9, d9⟩; have k9 := K7.out _ d9; go_wp2_with fail)
              | (go_simp; go_at_call 11; (with_reducible refine (KIY'.out _ d9).mono ?_); rintro e w10 ⟨ab, cb, rfl, hlb, rb, b10, d10⟩; have k10 := K7.out _ d10; go_wp2_with fail)
              | (go_simp; go_at_call 16; (with_reducible refine (KJK.out aa ab ca cb w10 hla hlb (ra w10 b10) (rb w10 (Below.refl _ _))).mono ?_); rintro e w11 ⟨nj, vj, Rj, rfl, own11, b11, hpj, hbits, hRl⟩; obtain ⟨aj, cj, rfl, hle11, hcm11, hrd11, hlt11⟩ := own11.parts; have d11 := below_trans d10 b11; have k11 := K7.out _ d11; have HOP := Lib.hid (opIs (k := 3) (R := RR.2) (nn := RR.1) (by omega) (by rw [HRR.out]) (by rw [HRR.out]) rfl hbits hpj); clear hlt11 own11 hbits hpj hRl; go_wp2_with fail)
              | (go_simp; go_at_call 19; refine (is_yes RR.1 nj a8 aj (nlen BW RR.2) c8 Rj cj (dig BW RR.2) w11 (by omega) hle11 ?_ (hrd8.below (below_trans (below_trans b9 b10) b11)) hrd11 HOP.out.1).mono ?_; (exact Nat.le_trans HOP.out.2 (by omega)); rintro e w12 ⟨rfl, b12⟩; have d12 := below_trans d11 b12; have k12 := K7.out _ d12; go_wp2_with fail))
            have DD := Lib.hid (below_trans D7.out d12)
            clear hrd11 hrd8 k0 k8 k9 k10 k11 k12 b9 b10 b11 b12 d8 d9 d10 d11 d12 ra rb
            go_wp2
            go_ret
            exact ⟨rfl, DD.out⟩
          · have hki : (ix : Int) % 5 = 4 := by omega
            clear hm
            obtain ⟨RR, hRR⟩ : ∃ R, R = opR 4 sx V sy U := ⟨_, rfl⟩
            have KB : Hid (Calls Tryd.prog 23 #[.int .i64 4, .agg #[.bool na, .slice ax nx cx], .agg #[.bool nb, .slice ay ny cy]] W7.drew (fun e w' => ∃ v, e = .returned (.agg #[.bool RR.1, v]) ∧ Own w' W7.drew.heap.size 32 .u64 v (nlen BW RR.2) (dig BW RR.2) ∧ Below W7.drew.heap.size W7.drew w')) := Lib.hid (by rw [hRR]; exact HB.out.2.2.2.2)
            have hRn : nlen BW RR.2 ≤ 100 := by rw [hRR]; exact HN.out 4
            have K7 := Lib.hid (show ∀ u, Below W7.heap.size W7 u → u.cell? ⟨w.heap.size, 0, none⟩ = some (.bool na) ∧ u.cell? ⟨w.heap.size, 1, none⟩ = some (.slice ax nx cx) ∧ u.cell? ⟨w.heap.size + 1, 0, none⟩ = some (.bool nb) ∧ u.cell? ⟨w.heap.size + 1, 1, none⟩ = some (.slice ay ny cy) ∧ u.cell? ⟨w6.heap.size, 16, none⟩ = some (.bool true) ∧ u.cell? ⟨w6.heap.size, 17, none⟩ = some (.bool true) ∧ u.cell? ⟨w6.heap.size, 18, none⟩ = some (.bool false) ∧ u.cell? ⟨w6.heap.size, 19, none⟩ = some (.bool false) from fun u hu => by
              obtain ⟨e1, e2, e3, e4, e5⟩ := KEEP.out u hu
              exact ⟨e1, e2, e3, e4, e5 16 _ rfl, e5 17 _ rfl, e5 18 _ rfl, e5 19 _ rfl⟩)
            have HRR := Lib.hid hRR
            have KJK := Lib.hid (fun (aa ab : Option Addr) (ca cb : Nat) (u : World) (ha : nlen 65536 V ≤ ca) (hb : nlen 65536 U ≤ cb) (hra : Reads u .i64 aa (nlen 65536 V) (dig 65536 V)) (hrb : Reads u .i64 ab (nlen 65536 U) (dig 65536 U)) =>
              show Calls Tryd.prog 16 #[.agg #[.bool sx, .slice aa (nlen 65536 V) ca], .agg #[.bool sy, .slice ab (nlen 65536 U) cb], .agg #[.bool true, .bool true, .bool false, .bool false]] u (JPost (opT 4) sx V sy U u) from KJ.out (opT 4) aa ab ca cb u ha hb hra hrb)
            have k0 := K7.out W7 (Below.refl _ _)
            clear hRR
            go_wp2_with (refine wpList_store_row rfl 51 (.tmp 7) (.tmp 28) rfl w6.heap.size #[.bool false, .bool false, .bool false, .bool true, .bool false, .bool true, .bool true, .bool true, .bool false, .bool true, .bool true, .bool false, .bool false, .bool false, .bool true, .bool false, .bool true, .bool true, .bool false, .bool false] rfl rfl 51 _ (heap_alloc_new w6 _) ?_ ?_ ?_ ?_; (exact size_tab); rfl; (simp [Value.oneCell']); (rw [World.setRow_alloc_new]))
            rw [← HW7.out]
            go_region_held3 (fun u => u.cell? ⟨w.heap.size, 0, none⟩ = some (.bool na) ∧ u.cell? ⟨w.heap.size, 1, none⟩ = some (.slice ax nx cx) ∧ u.cell? ⟨w.heap.size + 1, 0, none⟩ = some (.bool nb) ∧ u.cell? ⟨w.heap.size + 1, 1, none⟩ = some (.slice ay ny cy) ∧ u.cell? ⟨w6.heap.size, 16, none⟩ = some (.bool true) ∧ u.cell? ⟨w6.heap.size, 17, none⟩ = some (.bool true) ∧ u.cell? ⟨w6.heap.size, 18, none⟩ = some (.bool false) ∧ u.cell? ⟨w6.heap.size, 19, none⟩ = some (.bool false)) (first | exact k0 | exact k8 | exact k9 | exact k10 | exact k11 | exact k12) (first
              | (go_simp; go_at_call 23; (with_reducible refine KB.out.mono ?_); rintro e w8 ⟨v8, rfl, own8, b8⟩; obtain ⟨a8, c8, rfl, hle8, hcm8, hrd8, hlt8⟩ := own8.parts; have d8 := below_trans bdr b8; have k8 := K7.out _ d8; clear own8 hlt8 b8; go_wp2_with fail)
              | (go_simp; go_at_call 11; (with_reducible refine (KIX'.out _ d8).mono ?_); rintro e w9 ⟨aa, ca, rfl, hla, ra, b9, d9⟩; have k9 := K7.out _ d9; go_wp2_with fail)
              | (go_simp; go_at_call 11; (with_reducible refine (KIY'.out _ d9).mono ?_); rintro e w10 ⟨ab, cb, rfl, hlb, rb, b10, d10⟩; have k10 := K7.out _ d10; go_wp2_with fail)
              | (go_simp; go_at_call 16; (with_reducible refine (KJK.out aa ab ca cb w10 hla hlb (ra w10 b10) (rb w10 (Below.refl _ _))).mono ?_); rintro e w11 ⟨nj, vj, Rj, rfl, own11, b11, hpj, hbits, hRl⟩; obtain ⟨aj, cj, rfl, hle11, hcm11, hrd11, hlt11⟩ := own11.parts; have d11 := below_trans d10 b11; have k11 := K7.out _ d11; have HOP := Lib.hid (opIs (k := 4) (R := RR.2) (nn := RR.1) (by omega) (by rw [HRR.out]) (by rw [HRR.out]) rfl hbits hpj); clear hlt11 own11 hbits hpj hRl; go_wp2_with fail)
              | (go_simp; go_at_call 19; refine (is_yes RR.1 nj a8 aj (nlen BW RR.2) c8 Rj cj (dig BW RR.2) w11 (by omega) hle11 ?_ (hrd8.below (below_trans (below_trans b9 b10) b11)) hrd11 HOP.out.1).mono ?_; (exact Nat.le_trans HOP.out.2 (by omega)); rintro e w12 ⟨rfl, b12⟩; have d12 := below_trans d11 b12; have k12 := K7.out _ d12; go_wp2_with fail))
            have DD := Lib.hid (below_trans D7.out d12)
            clear hrd11 hrd8 k0 k8 k9 k10 k11 k12 b9 b10 b11 b12 d8 d9 d10 d11 d12 ra rb
            go_wp2
            go_ret
            exact ⟨rfl, DD.out⟩
    · have KX := Lib.hid (fun u => show Calls Tryd.prog 10 #[.agg #[.bool na, .slice ax nx cx]] u fun e w' => e = .returned (.bool true) ∧ Below u.heap.size u w' from by have := fits_any na ax nx cx u (by omega); rwa [show decide (nx ≤ 2147483647) = true by simp; omega] at this)
      have KY := Lib.hid (fun u => show Calls Tryd.prog 10 #[.agg #[.bool nb, .slice ay ny cy]] u fun e w' => e = .returned (.bool false) ∧ Below u.heap.size u w' from by have := fits_any nb ay ny cy u (by omega); rwa [show decide (ny ≤ 2147483647) = false by simp; omega] at this)
      go_enter Tryd.func7, Tryd.ntmps7
      go_wp2_with fail
      rw [← HW1.out, ← HW2.out]
      refine (KX.out _).mono ?_
      rintro e w3 ⟨rfl, b3⟩
      have d3 := below_trans F0.out.1 b3
      have a3 := F0.out.2.below b3
      clear b3
      have c0 := a3.1.1.cell0
      have c1 := a3.1.1.cell1
      have c2 := a3.2.1.cell0
      have c3 := a3.2.1.cell1
      go_wp2_with fail
      refine (KY.out _).mono ?_
      rintro e w4 ⟨rfl, b4⟩
      have d4 := below_trans d3 b4
      have a4 := a3.below b4
      clear b4 c0 c1 c2 c3 d3 a3
      have DD := Lib.hid d4
      clear d4 a4
      go_wp2
      go_ret
      exact ⟨rfl, DD.out⟩
  · have KX := Lib.hid (fun u => show Calls Tryd.prog 10 #[.agg #[.bool na, .slice ax nx cx]] u fun e w' => e = .returned (.bool false) ∧ Below u.heap.size u w' from by have := fits_any na ax nx cx u (by omega); rwa [show decide (nx ≤ 2147483647) = false by simp; omega] at this)
    go_enter Tryd.func7, Tryd.ntmps7
    go_wp2_with fail
    rw [← HW1.out, ← HW2.out]
    refine (KX.out _).mono ?_
    rintro e w3 ⟨rfl, b3⟩
    have d3 := below_trans F0.out.1 b3
    have a3 := F0.out.2.below b3
    clear b3
    have DD := Lib.hid d3
    clear d3 a3
    go_wp2
    go_ret
    exact ⟨rfl, DD.out⟩

end Go.Proofs.YtidifjmjbfhpaaaDoor
