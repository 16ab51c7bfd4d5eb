/- spec.Sub, spec.Small, spec.Bit: a difference, small numbers, two to a power. -/
/- spec.Small and spec.Bit: a small number, two to a power; spec.sign: a number with a sign. -/
/- spec.bit: a bit of a number in two's complement; the closure in spec.Joined. -/
import Derived.Test.YtidifjmjbfhpaaaDoorSpecArith
import Derived.Test.YtidifjmjbfhpaaaDoorBitsPlain
import Derived.Test.YtidifjmjbfhpaaaDoorSpecBits
import Derived.Test.YtidifjmjbfhpaaaDoorSpecSmall
import Derived.Deep.RegionHeld3
namespace Go.Proofs.YtidifjmjbfhpaaaDoor
set_option linter.unusedVariables false
set_option maxRecDepth 20000
set_option linter.unusedSimpArgs false
set_option maxRecDepth 20000
open Go.RowKit

set_option maxHeartbeats 1000000 in
theorem specSub_any (aa ab : Option Addr) (V U ca cb : Nat) (w : World) (hUV : U ≤ V) (ha : nlen 65536 V ≤ ca) (hb : nlen 65536 U ≤ cb) (hna : nlen 65536 V ≤ 1000000000000)
    (hrda : Reads w .i64 aa (nlen 65536 V) (dig 65536 V)) (hrdb : Reads w .i64 ab (nlen 65536 U) (dig 65536 U)) :
    Calls Tryd.prog 52 #[.slice aa (nlen 65536 V) ca, .slice ab (nlen 65536 U) cb] w fun e w' => ∃ v, e = .returned v ∧ Own w' w.heap.size 3 .i64 v (nlen 65536 (V - U)) (dig 65536 (V - U)) ∧ Below w.heap.size w w' := by
  obtain ⟨i0, hi, hz0, hz1, hz2⟩ := info_parts info_int
  have hVl := lt_pow_nlen (B := 65536) (by omega) V
  have hUl := lt_pow_nlen (B := 65536) (by omega) U
  have hnm := nlen_mono (B := 65536) (by omega) hUV
  obtain ⟨n, hn⟩ : ∃ n, n = nlen 65536 V := ⟨_, rfl⟩
  obtain ⟨m, hm⟩ : ∃ m, m = nlen 65536 U := ⟨_, rfl⟩
  rw [← hn] at ha hna hrda hVl hnm ⊢
  rw [← hm] at hb hrdb hUl hnm ⊢
  have R := Lib.hid (And.intro hrda (And.intro hrdb (And.intro hVl hUl)))
  have HU := Lib.hid hUV
  clear hrda hrdb hVl hUl hn hm hUV
  have own0 := Own.empty w w.heap.size 3 .i64 (sdg 65536 (dig 65536 V) (dig 65536 U)) (Nat.le_refl _)
  have bel0 : Below w.heap.size w (w.alloc (.cells #[] 3)) := (Below.refl _ _).alloc (Nat.le_refl _) _
  have O0 := Lib.hid (And.intro own0 bel0)
  clear own0 bel0
  go_enter Tryd.func52, Tryd.ntmps52
  go_wp2
  go_loopw [5, 6, 12] (fun v tc ti wr => ∃ i : Nat, i ≤ n ∧ ti = .int .i64 i ∧ tc = .int .i64 ((bor (dig 65536 V) (dig 65536 U) i : Nat) : Int) ∧ Own wr w.heap.size 3 .i64 v i (sdg 65536 (dig 65536 V) (dig 65536 U)) ∧ Below w.heap.size w wr) (fun _ _ ti _ => n - (intOf ti).toNat)
  case atStart => exact ⟨0, Nat.zero_le _, rfl, rfl, O0.out.1, O0.out.2⟩
  case round =>
    obtain ⟨i, hin, rfl, rfl, own, bel⟩ := hrel
    have hsz := bel.size
    by_cases h1 : i < n
    · have hbor := bor_le (dig 65536 V) (dig 65536 U) i
      have d1l := dig_lt (B := 65536) (by omega) V i
      have d2l := dig_lt (B := 65536) (by omega) U i
      have hsd : sdg 65536 (dig 65536 V) (dig 65536 U) i = (dig 65536 V i + 65536 - dig 65536 U i - bor (dig 65536 V) (dig 65536 U) i) % 65536 := rfl
      have hb2 : bor (dig 65536 V) (dig 65536 U) (i + 1) = if dig 65536 V i < dig 65536 U i + bor (dig 65536 V) (dig 65536 U) i then 1 else 0 := rfl
      obtain ⟨c, hc⟩ : ∃ c, c = bor (dig 65536 V) (dig 65536 U) i := ⟨_, rfl⟩
      obtain ⟨d1, hd1⟩ : ∃ d, d = dig 65536 V i := ⟨_, rfl⟩
      obtain ⟨d2, hd2⟩ : ∃ d, d = dig 65536 U i := ⟨_, rfl⟩
      rw [← hc, ← hd1, ← hd2] at hsd hb2
      rw [← hc] at hbor ⊢
      rw [← hd1] at d1l
      rw [← hd2] at d2l
      have G := Lib.hid (And.intro own (And.intro bel (And.intro hsd (And.intro hb2 (And.intro hd1 hd2)))))
      clear own bel hsd hb2 hd1 hd2 hc O0
      obtain ⟨ba, oa, rfl, hca0⟩ := R.out.1 i h1
      have hca := (G.out.2.1.cell (World.block_lt_of_cell? _ _ hca0)).trans hca0
      rw [← G.out.2.2.2.2.1] at hca
      clear hca0
      by_cases h2 : i < m
      · obtain ⟨bb, ob, rfl, hcb0⟩ := R.out.2.1 i h2
        have hcb := (G.out.2.1.cell (World.block_lt_of_cell? _ _ hcb0)).trans hcb0
        rw [← G.out.2.2.2.2.2] at hcb
        clear hcb0
        by_cases h3 : d1 < d2 + c
        · obtain ⟨y, hy⟩ : ∃ y : Nat, y = d1 + 65536 - d2 - c := ⟨_, rfl⟩
          have hval : (d1 : Int) - (c : Int) - (d2 : Int) + 65536 = ((y : Nat) : Int) := by omega
          have ht : decide ((d1 : Int) - (c : Int) - (d2 : Int) < 0) = true := by simp; omega
          have hsy : (d1 + 65536 - d2 - c) % 65536 = y := by rw [hy, Nat.mod_eq_of_lt (by omega)]
          have hbn : (if d1 < d2 + c then 1 else 0) = 1 := if_pos h3
          have HY := Lib.hid (And.intro hsy hbn)
          clear hy hsy hbn
          go_wp2_with (at_builtin; refine wpList_append_int wr rfl _ _ 27 rfl w.heap.size 3 i0 .i64 8 Tryd.underlying27 hi hz0 hz1 hz2 _ i _ rfl (by exact G.out.1) y rfl (by omega) (by omega) hsz ?_)
          intro v' w1 own1 bel1
          have own2 : Own w1 w.heap.size 3 .i64 v' (i + 1) (sdg 65536 (dig 65536 V) (dig 65536 U)) := own1.congr fun j hj => by
            unfold upd; split
            · rename_i e; rw [e, G.out.2.2.1, HY.out.1]
            · rfl
          have F := Lib.hid (And.intro own2 (G.out.2.1.trans bel1))
          clear own1 own2 bel1
          go_wp2_with fail
          go_roundw
          case rel =>
            go_light
            exact ⟨i + 1, by omega, by go_num, by rw [G.out.2.2.2.1, HY.out.2]; rfl, F.out.1, F.out.2⟩
          case measure => simp [intOf]; omega
        · obtain ⟨y, hy⟩ : ∃ y : Nat, y = d1 - d2 - c := ⟨_, rfl⟩
          have hval : (d1 : Int) - (c : Int) - (d2 : Int) = ((y : Nat) : Int) := by omega
          have hsy : (d1 + 65536 - d2 - c) % 65536 = y := by rw [show d1 + 65536 - d2 - c = y + 65536 by omega, Nat.add_mod_right, Nat.mod_eq_of_lt (by omega)]
          have hbn : (if d1 < d2 + c then 1 else 0) = 0 := if_neg h3
          have HY := Lib.hid (And.intro hsy hbn)
          clear hy hsy hbn
          go_wp2_with (at_builtin; refine wpList_append_int wr rfl _ _ 27 rfl w.heap.size 3 i0 .i64 8 Tryd.underlying27 hi hz0 hz1 hz2 _ i _ rfl (by exact G.out.1) y rfl (by omega) (by omega) hsz ?_)
          intro v' w1 own1 bel1
          have own2 : Own w1 w.heap.size 3 .i64 v' (i + 1) (sdg 65536 (dig 65536 V) (dig 65536 U)) := own1.congr fun j hj => by
            unfold upd; split
            · rename_i e; rw [e, G.out.2.2.1, HY.out.1]
            · rfl
          have F := Lib.hid (And.intro own2 (G.out.2.1.trans bel1))
          clear own1 own2 bel1
          go_wp2_with fail
          go_roundw
          case rel =>
            go_light
            exact ⟨i + 1, by omega, by go_num, by rw [G.out.2.2.2.1, HY.out.2]; rfl, F.out.1, F.out.2⟩
          case measure => simp [intOf]; omega
      · have hz2' : d2 = 0 := by rw [G.out.2.2.2.2.2]; exact dig_of_lt (Nat.lt_of_lt_of_le R.out.2.2.2 (Nat.pow_le_pow_right (by omega) (by omega)))
        subst hz2'
        by_cases h3 : d1 < 0 + c
        · obtain ⟨y, hy⟩ : ∃ y : Nat, y = d1 + 65536 - 0 - c := ⟨_, rfl⟩
          have hval : (d1 : Int) - (c : Int) + 65536 = ((y : Nat) : Int) := by omega
          have ht : decide ((d1 : Int) - (c : Int) < 0) = true := by simp; omega
          have hsy : (d1 + 65536 - 0 - c) % 65536 = y := by rw [hy, Nat.mod_eq_of_lt (by omega)]
          have hbn : (if d1 < 0 + c then 1 else 0) = 1 := if_pos h3
          have HY := Lib.hid (And.intro hsy hbn)
          clear hy hsy hbn
          go_wp2_with (at_builtin; refine wpList_append_int wr rfl _ _ 27 rfl w.heap.size 3 i0 .i64 8 Tryd.underlying27 hi hz0 hz1 hz2 _ i _ rfl (by exact G.out.1) y rfl (by omega) (by omega) hsz ?_)
          intro v' w1 own1 bel1
          have own2 : Own w1 w.heap.size 3 .i64 v' (i + 1) (sdg 65536 (dig 65536 V) (dig 65536 U)) := own1.congr fun j hj => by
            unfold upd; split
            · rename_i e; rw [e, G.out.2.2.1, HY.out.1]
            · rfl
          have F := Lib.hid (And.intro own2 (G.out.2.1.trans bel1))
          clear own1 own2 bel1
          go_wp2_with fail
          go_roundw
          case rel =>
            go_light
            exact ⟨i + 1, by omega, by go_num, by rw [G.out.2.2.2.1, HY.out.2]; rfl, F.out.1, F.out.2⟩
          case measure => simp [intOf]; omega
        · obtain ⟨y, hy⟩ : ∃ y : Nat, y = d1 - 0 - c := ⟨_, rfl⟩
          have hval : (d1 : Int) - (c : Int) = ((y : Nat) : Int) := by omega
          have hsy : (d1 + 65536 - 0 - c) % 65536 = y := by rw [show d1 + 65536 - 0 - c = y + 65536 by omega, Nat.add_mod_right, Nat.mod_eq_of_lt (by omega)]
          have hbn : (if d1 < 0 + c then 1 else 0) = 0 := if_neg h3
          have HY := Lib.hid (And.intro hsy hbn)
          clear hy hsy hbn
          go_wp2_with (at_builtin; refine wpList_append_int wr rfl _ _ 27 rfl w.heap.size 3 i0 .i64 8 Tryd.underlying27 hi hz0 hz1 hz2 _ i _ rfl (by exact G.out.1) y rfl (by omega) (by omega) hsz ?_)
          intro v' w1 own1 bel1
          have own2 : Own w1 w.heap.size 3 .i64 v' (i + 1) (sdg 65536 (dig 65536 V) (dig 65536 U)) := own1.congr fun j hj => by
            unfold upd; split
            · rename_i e; rw [e, G.out.2.2.1, HY.out.1]
            · rfl
          have F := Lib.hid (And.intro own2 (G.out.2.1.trans bel1))
          clear own1 own2 bel1
          go_wp2_with fail
          go_roundw
          case rel =>
            go_light
            exact ⟨i + 1, by omega, by go_num, by rw [G.out.2.2.2.1, HY.out.2]; rfl, F.out.1, F.out.2⟩
          case measure => simp [intOf]; omega
    · obtain rfl : i = n := by omega
      have HD := Lib.hid (sub_digits (B := 65536) (by omega) R.out.2.2.1 HU.out)
      have own2 : Own wr w.heap.size 3 .i64 _ i (dig 65536 (V - U)) := own.congr fun j hj => HD.out.1 j hj
      obtain ⟨a3, c3, rfl, hle3, hcm3, hrd3, hlt3⟩ := own2.parts
      have F := Lib.hid (And.intro (own_cut (B := 65536) (by omega) own2 (fun j _ => dig_lt (by omega) _ j) (by rw [val_of_dig (by omega), Nat.mod_eq_of_lt (Nat.lt_of_le_of_lt (Nat.sub_le _ _) R.out.2.2.1)])) bel)
      have K := Lib.hid (cut_any a3 i c3 (dig 65536 (V - U)) wr hle3 (by omega) hrd3)
      clear own own2 bel hrd3 hlt3 O0
      go_wp2_with fail
      refine K.out.mono ?_
      rintro e w2 ⟨rfl, rfl⟩
      go_wp2
      go_ret
      exact ⟨_, rfl, F.out.1, F.out.2⟩

end Go.Proofs.YtidifjmjbfhpaaaDoor
namespace Go.Proofs.YtidifjmjbfhpaaaDoor
set_option linter.unusedVariables false
set_option linter.unusedSimpArgs false
set_option maxRecDepth 20000
open Go.RowKit

theorem div_pow_step (V i : Nat) : V / 65536 ^ i / 65536 = V / 65536 ^ (i + 1) := by
  rw [Nat.div_div_eq_div_mul, Nat.pow_succ]

set_option maxHeartbeats 400000 in
theorem specSmall_any (V : Nat) (w : World) (hV : V ≤ 1000000) :
    Calls Tryd.prog 26 #[.int .i64 V] w fun e w' => ∃ v, e = .returned v ∧ Own w' w.heap.size 3 .i64 v (nlen 65536 V) (dig 65536 V) ∧ Below w.heap.size w w' := by
  obtain ⟨i0, hi, hz0, hz1, hz2⟩ := info_parts info_int
  have own0 := Own.empty w w.heap.size 3 .i64 (dig 65536 V) (Nat.le_refl _)
  have bel0 : Below w.heap.size w (w.alloc (.cells #[] 3)) := (Below.refl _ _).alloc (Nat.le_refl _) _
  have O0 := Lib.hid (And.intro own0 bel0)
  have hle : nlen 65536 V ≤ 2 := by rw [nlen_le_iff (by omega)]; omega
  have hq : ∀ i, V / 65536 ^ i = 0 ↔ nlen 65536 V ≤ i := fun i => by
    rw [nlen_le_iff (by omega), Nat.div_eq_zero_iff]
    have : (65536 : Nat) ^ i ≠ 0 := Nat.ne_of_gt (Nat.pow_pos (by omega))
    simp [this]
  have hdl : ∀ i, V / 65536 ^ i ≤ V := fun i => Nat.div_le_self _ _
  have hdv : Hid (∀ i, V / 65536 ^ i / 65536 = V / 65536 ^ (i + 1)) := Lib.hid (div_pow_step V)
  obtain ⟨N, hN⟩ : ∃ N, N = nlen 65536 V := ⟨_, rfl⟩
  obtain ⟨q, hqd⟩ : ∃ q : Nat → Nat, ∀ i, q i = V / 65536 ^ i := ⟨_, fun _ => rfl⟩
  have hd : Hid (∀ i, dig 65536 V i = q i % 65536) := Lib.hid fun i => by rw [hqd]; rfl
  have hdv2 : Hid (∀ i, q i / 65536 = q (i + 1)) := Lib.hid fun i => by rw [hqd, hqd, hdv.out]
  have hq2 : ∀ i, q i = 0 ↔ N ≤ i := fun i => by rw [hqd, hN]; exact hq i
  have hql : ∀ i, q i ≤ V := fun i => by rw [hqd]; exact hdl i
  have hq0 : q 0 = V := by rw [hqd]; simp
  rw [← hN] at hle ⊢
  have HQ := Lib.hid (And.intro hq2 hql)
  have HQ0 := Lib.hid hq0
  clear own0 bel0 hq hdl hdv hqd hq2 hql hq0 hN
  go_enter Tryd.func26, Tryd.ntmps26
  go_wp2
  go_loopw [0, 3] (fun t v wr => ∃ i : Nat, i ≤ N ∧ t = .int .i64 ((q i : Nat) : Int) ∧ Own wr w.heap.size 3 .i64 v i (dig 65536 V) ∧ Below w.heap.size w wr) (fun t _ _ => (intOf t).toNat)
  case atStart => exact ⟨0, Nat.zero_le _, by rw [HQ0.out], O0.out.1, O0.out.2⟩
  case round =>
    obtain ⟨i, hiN, rfl, own, bel⟩ := hrel
    have hsz := bel.size
    have hx0 := HQ.out.1 i
    have hxl := HQ.out.2 i
    have hdi := hd.out i
    have hdn := hdv2.out i
    obtain ⟨x, hx⟩ : ∃ x, x = q i := ⟨_, rfl⟩
    rw [← hx] at hx0 hxl hdi hdn ⊢
    have G := Lib.hid (And.intro own bel)
    clear own bel O0
    by_cases h0 : x = 0
    · have hNi : i = N := by have := hx0.1 h0; omega
      subst h0
      subst hNi
      clear hx0 hdi hdn hx
      go_wp2
      go_ret
      exact ⟨_, rfl, G.out.1, G.out.2⟩
    · have hlt : i < N := by
        refine Nat.lt_of_not_le fun h => h0 (hx0.2 h)
      obtain ⟨y, hy⟩ : ∃ y, y = x % 65536 := ⟨_, rfl⟩
      obtain ⟨x2, hx2⟩ : ∃ y, y = x / 65536 := ⟨_, rfl⟩
      have hmod : (x : Int) % 65536 = ((y : Nat) : Int) := by rw [hy]; omega
      have hdiv : (x : Int) / 65536 = ((x2 : Nat) : Int) := by rw [hx2]; omega
      have hpos : decide ((0 : Int) < (x : Int)) = true := by simp; omega
      have hx2l : x2 < x := by rw [hx2]; omega
      rw [← hy] at hdi
      rw [← hx2] at hdn
      have HY := Lib.hid (And.intro hdi hdn)
      clear hdi hdn hx hx0 hy hx2
      go_wp2_with (at_builtin; refine wpList_append_int wr rfl _ _ 27 rfl w.heap.size 3 i0 .i64 8 Tryd.underlying27 hi hz0 hz1 hz2 _ i _ rfl (by exact G.out.1) y rfl (by omega) (by omega) hsz ?_)
      intro v' w1 own1 bel1
      have own2 : Own w1 w.heap.size 3 .i64 v' (i + 1) (dig 65536 V) := own1.congr fun j hj => by
        unfold upd; split
        · rename_i e; rw [e, HY.out.1]
        · rfl
      have F := Lib.hid (And.intro own2 (G.out.2.trans bel1))
      clear own1 own2 bel1
      go_wp2_with fail
      go_roundw
      case rel =>
        go_light
        exact ⟨i + 1, by omega, by rw [HY.out.2], F.out.1, F.out.2⟩
      case measure => simp [intOf]; omega

theorem nlen_two_pow (i : Nat) : nlen 65536 (2 ^ i) = i / 16 + 1 := by
  refine eq_of_le_iff fun m => ?_
  rw [nlen_le_iff (by omega), show (65536 : Nat) ^ m = 2 ^ (16 * m) by rw [Nat.pow_mul], Nat.pow_lt_pow_iff_right (by omega)]
  omega
theorem dig_two_pow (i j : Nat) (hj : j < i / 16 + 1) : dig 65536 (2 ^ i) j = if j = i / 16 then 2 ^ (i % 16) else 0 := by
  unfold dig
  rw [show (65536 : Nat) ^ j = 2 ^ (16 * j) by rw [Nat.pow_mul], Nat.pow_div (by omega) (by omega)]
  split
  · rename_i h
    rw [show i - 16 * j = i % 16 by omega]
    exact Nat.mod_eq_of_lt (Nat.lt_of_lt_of_le (Nat.pow_lt_pow_right (by omega) (Nat.mod_lt i (by omega))) (by omega))
  · rename_i h
    rw [show i - 16 * j = 16 + (i - 16 * j - 16) by omega, Nat.pow_add]
    exact Nat.mul_mod_right _ _


theorem specBit_any (i : Nat) (w : World) (hi2 : i ≤ 1000000) :
    Calls Tryd.prog 17 #[.int .i64 i] w fun e w' => ∃ v, e = .returned v ∧ Own w' w.heap.size 3 .i64 v (nlen 65536 (2 ^ i)) (dig 65536 (2 ^ i)) ∧ Below w.heap.size w w' := by
  obtain ⟨i0, hi, hz0, hz1, hz2⟩ := info_parts info_int
  have hl := nlen_two_pow i
  have hd := dig_two_pow i
  rw [hl]
  obtain ⟨q, hq⟩ : ∃ q, q = i / 16 := ⟨_, rfl⟩
  obtain ⟨r, hr⟩ : ∃ q, q = i % 16 := ⟨_, rfl⟩
  have hr16 : r < 16 := by rw [hr]; exact Nat.mod_lt _ (by omega)
  have hqi : (i : Int) / 16 = ((q : Nat) : Int) := by rw [hq]; omega
  have hri : (i : Int) % 16 = ((r : Nat) : Int) := by rw [hr]; omega
  have hqb : q ≤ 1000000 := by omega
  rw [← hq] at hd ⊢
  rw [← hr] at hd
  have hp : (2 : Nat) ^ r ≤ 2 ^ 15 := Nat.pow_le_pow_right (by omega) (by omega)
  have HD := Lib.hid hd
  clear hd hl hq hr
  go_enter Tryd.func17, Tryd.ntmps17
  go_wp2_with (at_make; refine wpList_make_room _ rfl _ _ 27 rfl w.heap.size 3 i0 .i64 Tryd.underlying27 hi hz0 hz1 .i64 .i64 ((q : Int) + 1) ((q : Int) + 1) (q + 1) (q + 1) rfl rfl rfl rfl (Nat.le_refl _) (by rw [hz2]; omega) (by omega) (Nat.le_refl _) ?_; intro w1 own1 gr1; have c1 := own1.cell q (by omega); have f1 := own1.free q)
  have hw : wrap64 ((2 : Int) ^ r) = ((2 ^ r : Nat) : Int) := by
    have e : ((2 : Int) ^ r) = ((2 ^ r : Nat) : Int) := by rw [Int.natCast_pow]; rfl
    rw [e]
    generalize 2 ^ r = P at *
    unfold wrap64
    omega
  rw [hw]
  go_ret
  refine ⟨_, rfl, (own1.stored q (2 ^ r)).congr fun j hj => ?_, ((Below.refl _ w).grown gr1 (Nat.le_refl _) (by simp)).setCell (Nat.le_refl _) _⟩
  rw [HD.out j hj]
  rfl

theorem specSign_any (neg : Bool) (ao : Option Addr) (n c : Nat) (w : World) :
    Calls Tryd.prog 37 #[.bool neg, .slice ao n c] w fun e w' => e = .returned (.agg #[.bool (neg && decide (n ≠ 0)), .slice ao n c]) ∧ Below w.heap.size w w' := by
  have b0 := Lib.hid (fun v : Array Value => (Below.refl w.heap.size w).alloc (Nat.le_refl _) (.cells v 29))
  cases neg
  · go_enter Tryd.func37, Tryd.ntmps37
    go_wp2_with fail
    refine bodyPost_ret (v := .agg #[.bool false, .slice ao n c]) (by simp [results, Tryd.results37, go_sem]) rfl ?_
    exact ⟨rfl, b0.out _⟩
  · cases n with
    | zero =>
      go_enter Tryd.func37, Tryd.ntmps37
      go_wp2_with fail
      refine bodyPost_ret (v := .agg #[.bool false, .slice ao 0 c]) (by simp [results, Tryd.results37, go_sem]) rfl ?_
      exact ⟨rfl, b0.out _⟩
    | succ n =>
      have ht : (0 : Int) < (n : Int) + 1 := by omega
      go_enter Tryd.func37, Tryd.ntmps37
      go_wp2_with fail
      refine bodyPost_ret (v := .agg #[.bool true, .slice ao (n + 1) c]) (by simp [results, Tryd.results37, go_sem]) rfl ?_
      exact ⟨by simp, b0.out _⟩

end Go.Proofs.YtidifjmjbfhpaaaDoor
namespace Go.Proofs.YtidifjmjbfhpaaaDoor
set_option linter.unusedVariables false
set_option linter.unusedSimpArgs false
set_option maxRecDepth 20000
open Go.RowKit

theorem below_of_drew' {w w' : World} (h : Below w.drew.heap.size w.drew w') : Below w.heap.size w w' := ⟨h.os, h.tape, h.output, h.size, h.block⟩

set_option maxHeartbeats 1000000 in
theorem specBit2_any (neg : Bool) (aa : Option Addr) (V ca i : Nat) (w : World) (hV : neg = true → 1 ≤ V) (ha : nlen 65536 V ≤ ca) (hna : nlen 65536 V ≤ 1000000000000) (hi1 : i ≤ 1000000000000) (hrd : Reads w .i64 aa (nlen 65536 V) (dig 65536 V)) :
    Calls Tryd.prog 35 #[.agg #[.bool neg, .slice aa (nlen 65536 V) ca], .int .i64 i] w fun e w' => e = .returned (.bool (tb neg V i)) ∧ Below w.heap.size w w' := by
  have hnot : ∀ (x : Bool) (w : World), (Op.unary .not (.bool x)).run Tryd.prog w = .ok (.bool (!x)) w := fun _ _ => rfl
  obtain ⟨W, hW⟩ : ∃ W, W = w.alloc (.cells #[.bool neg, .slice aa (nlen 65536 V) ca] 29) := ⟨_, rfl⟩
  have b0 : Below w.heap.size w W := by rw [hW]; exact (Below.refl _ _).alloc (Nat.le_refl _) _
  have p0 : Pair W w.heap.size 29 (.bool neg) (.slice aa (nlen 65536 V) ca) := by rw [hW]; exact Pair.new _ _ _ _
  have r0 := hrd.below b0
  have c0 := p0.cell0
  have c1 := p0.cell1
  have HW := Lib.hid hW
  have F0 := Lib.hid (And.intro b0 (And.intro p0 r0))
  cases neg with
  | false =>
    have KH := Lib.hid (has_any aa V ca i W ha (by omega) (by omega) r0)
    obtain ⟨n, hn⟩ : ∃ n, n = nlen 65536 V := ⟨_, rfl⟩
    rw [← hn] at KH HW c1 ⊢
    clear F0 p0 r0 hrd hW b0 hV hn ha hna
    rw [HW.out] at c0 c1
    have B0 := Lib.hid (show Below w.heap.size w W by rw [HW.out]; exact (Below.refl _ _).alloc (Nat.le_refl _) _)
    go_enter Tryd.func35, Tryd.ntmps35
    go_wp2_with fail
    rw [← HW.out]
    refine KH.out.mono ?_
    rintro e w1 ⟨rfl, rfl⟩
    go_wp2
    go_ret
    exact ⟨rfl, B0.out⟩
  | true =>
    have hV1 := hV rfl
    have HK : Hid (∀ w', Below W.heap.size W w' → w'.cell? ⟨w.heap.size, 1, none⟩ = some (.slice aa (nlen 65536 V) ca) ∧ Reads w' .i64 aa (nlen 65536 V) (dig 65536 V)) := Lib.hid fun w' hb => ⟨(p0.below hb p0.lt).cell1, r0.below hb⟩
    have hN1 : nlen 65536 1 ≤ 1 := by rw [nlen_le_iff (by omega)]; omega
    have hNs : nlen 65536 (V - 1) ≤ nlen 65536 V := nlen_mono (by omega) (Nat.sub_le _ _)
    obtain ⟨n, hn⟩ : ∃ n, n = nlen 65536 V := ⟨_, rfl⟩
    rw [← hn] at HK HW c1 ha hna hNs ⊢
    have HN := Lib.hid hn
    have hlt := p0.lt
    have cW := c1
    clear F0 p0 r0 hrd hW b0 hV hn
    rw [HW.out] at c0 c1
    have B0 := Lib.hid (show Below w.heap.size w W by rw [HW.out]; exact (Below.refl _ _).alloc (Nat.le_refl _) _)
    go_enter Tryd.func35, Tryd.ntmps35
    go_wp2_with fail
    rw [← HW.out]
    clear c0 c1
    go_region_held3 (fun w' => w'.cell? ⟨w.heap.size, 1, none⟩ = some (.slice aa n ca)) (first | exact cW | exact c2 | exact c3 | exact c4) (first
      | (go_simp; go_at_call 26; refine (specSmall_any 1 _ (by omega)).mono ?_; rintro e w1 ⟨v1, rfl, own1, bel1⟩; obtain ⟨a1, k1, rfl, hle1, hcm1, hrd1, hlt1⟩ := own1.parts; have b1 := below_of_drew' bel1; have c2 := (HK.out _ b1).1; have r2 := (HK.out _ b1).2; clear own1 hlt1 bel1; go_wp2_with fail)
      | (go_simp; go_at_call 52; rw [HN.out]; refine (specSub_any aa a1 V 1 ca k1 _ hV1 (by rw [← HN.out]; exact ha) hle1 (by rw [← HN.out]; exact hna) (by rw [← HN.out]; exact r2) hrd1).mono ?_; rintro e w2 ⟨v2, rfl, own2, bel2⟩; obtain ⟨a2, k2, rfl, hle2, hcm2, hrd2, hlt2⟩ := own2.parts; have b2 := below_trans b1 bel2; have c3 := (HK.out _ b2).1; clear own2 hlt2 bel2 r2 hrd1; go_wp2_with fail)
      | (go_simp; go_at_call 14; refine (has_any a2 (V - 1) k2 i _ hle2 (by omega) (by omega) hrd2).mono ?_; rintro e w3 ⟨rfl, rfl⟩; have c4 := c3; go_wp2_with fail))
    go_wp2
    go_ret
    exact ⟨rfl, below_trans B0.out b2⟩

end Go.Proofs.YtidifjmjbfhpaaaDoor
