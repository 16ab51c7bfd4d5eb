/- spec.Small and spec.Bit: a small number, two to a power; spec.sign: a number with a sign. -/
import Derived.Test.YtidifjmjbfhpaaaDoorSpecArith
namespace Go.Proofs.YtidifjmjbfhpaaaDoor
set_option linter.unusedVariables false
set_option maxRecDepth 20000
set_option linter.unusedSimpArgs false
open Go.RowKit

theorem div_pow_step (V i : Nat) : V / 65536 ^ i / 65536 = V / 65536 ^ (i + 1) := by
  rw [Nat.div_div_eq_div_mul, Nat.pow_succ]

set_option maxHeartbeats 400000 in
theorem specSmall_any (V : Nat) (w : World) (hV : V ≤ 1000000) :
    Calls Tryd.prog 26 #[.int .i64 V] w fun e w' => ∃ v, e = .returned v ∧ Own w' w.heap.size 3 .i64 v (nlen 65536 V) (dig 65536 V) ∧ Below w.heap.size w w' := by
  obtain ⟨i0, hi, hz0, hz1, hz2⟩ := info_parts info_int
  have own0 := Own.empty w w.heap.size 3 .i64 (dig 65536 V) (Nat.le_refl _)
  have bel0 : Below w.heap.size w (w.alloc (.cells #[] 3)) := (Below.refl _ _).alloc (Nat.le_refl _) _
  have O0 := Lib.hid (And.intro own0 bel0)
  have hle : nlen 65536 V ≤ 2 := by rw [nlen_le_iff (by omega)]; omega
  have hq : ∀ i, V / 65536 ^ i = 0 ↔ nlen 65536 V ≤ i := fun i => by
    rw [nlen_le_iff (by omega), Nat.div_eq_zero_iff]
    have : (65536 : Nat) ^ i ≠ 0 := Nat.ne_of_gt (Nat.pow_pos (by omega))
    simp [this]
  have hdl : ∀ i, V / 65536 ^ i ≤ V := fun i => Nat.div_le_self _ _
  have hdv : Hid (∀ i, V / 65536 ^ i / 65536 = V / 65536 ^ (i + 1)) := Lib.hid (div_pow_step V)
  obtain ⟨N, hN⟩ : ∃ N, N = nlen 65536 V := ⟨_, rfl⟩
  obtain ⟨q, hqd⟩ : ∃ q : Nat → Nat, ∀ i, q i = V / 65536 ^ i := ⟨_, fun _ => rfl⟩
  have hd : Hid (∀ i, dig 65536 V i = q i % 65536) := Lib.hid fun i => by rw [hqd]; rfl
  have hdv2 : Hid (∀ i, q i / 65536 = q (i + 1)) := Lib.hid fun i => by rw [hqd, hqd, hdv.out]
  have hq2 : ∀ i, q i = 0 ↔ N ≤ i := fun i => by rw [hqd, hN]; exact hq i
  have hql : ∀ i, q i ≤ V := fun i => by rw [hqd]; exact hdl i
  have hq0 : q 0 = V := by rw [hqd]; simp
  rw [← hN] at hle ⊢
  have HQ := Lib.hid (And.intro hq2 hql)
  have HQ0 := Lib.hid hq0
  clear own0 bel0 hq hdl hdv hqd hq2 hql hq0 hN
  go_enter Tryd.func26, Tryd.ntmps26
  go_wp2
  go_loopw [0, 3] (fun t v wr => ∃ i : Nat, i ≤ N ∧ t = .int .i64 ((q i : Nat) : Int) ∧ Own wr w.heap.size 3 .i64 v i (dig 65536 V) ∧ Below w.heap.size w wr) (fun t _ _ => (intOf t).toNat)
  case atStart => exact ⟨0, Nat.zero_le _, by rw [HQ0.out], O0.out.1, O0.out.2⟩
  case round =>
    obtain ⟨i, hiN, rfl, own, bel⟩ := hrel
    have hsz := bel.size
    have hx0 := HQ.out.1 i
    have hxl := HQ.out.2 i
    have hdi := hd.out i
    have hdn := hdv2.out i
    obtain ⟨x, hx⟩ : ∃ x, x = q i := ⟨_, rfl⟩
    rw [← hx] at hx0 hxl hdi hdn ⊢
    have G := Lib.hid (And.intro own bel)
    clear own bel O0
    by_cases h0 : x = 0
    · have hNi : i = N := by have := hx0.1 h0; omega
      subst h0
      subst hNi
      clear hx0 hdi hdn hx
      go_wp2
      go_ret
      exact ⟨_, rfl, G.out.1, G.out.2⟩
    · have hlt : i < N := by
        refine Nat.lt_of_not_le fun h => h0 (hx0.2 h)
      obtain ⟨y, hy⟩ : ∃ y, y = x % 65536 := ⟨_, rfl⟩
      obtain ⟨x2, hx2⟩ : ∃ y, y = x / 65536 := ⟨_, rfl⟩
      have hmod : (x : Int) % 65536 = ((y : Nat) : Int) := by rw [hy]; omega
      have hdiv : (x : Int) / 65536 = ((x2 : Nat) : Int) := by rw [hx2]; omega
      have hpos : decide ((0 : Int) < (x : Int)) = true := by simp; omega
      have hx2l : x2 < x := by rw [hx2]; omega
      rw [← hy] at hdi
      rw [← hx2] at hdn
      have HY := Lib.hid (And.intro hdi hdn)
      clear hdi hdn hx hx0 hy hx2
      go_wp2_with (at_builtin; refine wpList_append_int wr rfl _ _ 27 rfl w.heap.size 3 i0 .i64 8 Tryd.underlying27 hi hz0 hz1 hz2 _ i _ rfl (by exact G.out.1) y rfl (by omega) (by omega) hsz ?_)
      intro v' w1 own1 bel1
      have own2 : Own w1 w.heap.size 3 .i64 v' (i + 1) (dig 65536 V) := own1.congr fun j hj => by
        unfold upd; split
        · rename_i e; rw [e, HY.out.1]
        · rfl
      have F := Lib.hid (And.intro own2 (G.out.2.trans bel1))
      clear own1 own2 bel1
      go_wp2_with fail
      go_roundw
      case rel =>
        go_light
        exact ⟨i + 1, by omega, by rw [HY.out.2], F.out.1, F.out.2⟩
      case measure => simp [intOf]; omega

theorem nlen_two_pow (i : Nat) : nlen 65536 (2 ^ i) = i / 16 + 1 := by
  refine eq_of_le_iff fun m => ?_
  rw [nlen_le_iff (by omega), show (65536 : Nat) ^ m = 2 ^ (16 * m) by rw [Nat.pow_mul], Nat.pow_lt_pow_iff_right (by omega)]
  omega
theorem dig_two_pow (i j : Nat) (hj : j < i / 16 + 1) : dig 65536 (2 ^ i) j = if j = i / 16 then 2 ^ (i % 16) else 0 := by
  unfold dig
  rw [show (65536 : Nat) ^ j = 2 ^ (16 * j) by rw [Nat.pow_mul], Nat.pow_div (by omega) (by omega)]
  split
  · rename_i h
    rw [show i - 16 * j = i % 16 by omega]
    exact Nat.mod_eq_of_lt (Nat.lt_of_lt_of_le (Nat.pow_lt_pow_right (by omega) (Nat.mod_lt i (by omega))) (by omega))
  · rename_i h
    rw [show i - 16 * j = 16 + (i - 16 * j - 16) by omega, Nat.pow_add]
    exact Nat.mul_mod_right _ _


theorem specBit_any (i : Nat) (w : World) (hi2 : i ≤ 1000000) :
    Calls Tryd.prog 17 #[.int .i64 i] w fun e w' => ∃ v, e = .returned v ∧ Own w' w.heap.size 3 .i64 v (nlen 65536 (2 ^ i)) (dig 65536 (2 ^ i)) ∧ Below w.heap.size w w' := by
  obtain ⟨i0, hi, hz0, hz1, hz2⟩ := info_parts info_int
  have hl := nlen_two_pow i
  have hd := dig_two_pow i
  rw [hl]
  obtain ⟨q, hq⟩ : ∃ q, q = i / 16 := ⟨_, rfl⟩
  obtain ⟨r, hr⟩ : ∃ q, q = i % 16 := ⟨_, rfl⟩
  have hr16 : r < 16 := by rw [hr]; exact Nat.mod_lt _ (by omega)
  have hqi : (i : Int) / 16 = ((q : Nat) : Int) := by rw [hq]; omega
  have hri : (i : Int) % 16 = ((r : Nat) : Int) := by rw [hr]; omega
  have hqb : q ≤ 1000000 := by omega
  rw [← hq] at hd ⊢
  rw [← hr] at hd
  have hp : (2 : Nat) ^ r ≤ 2 ^ 15 := Nat.pow_le_pow_right (by omega) (by omega)
  have HD := Lib.hid hd
  clear hd hl hq hr
  go_enter Tryd.func17, Tryd.ntmps17
  go_wp2_with (at_make; refine wpList_make_room _ rfl _ _ 27 rfl w.heap.size 3 i0 .i64 Tryd.underlying27 hi hz0 hz1 .i64 .i64 ((q : Int) + 1) ((q : Int) + 1) (q + 1) (q + 1) rfl rfl rfl rfl (Nat.le_refl _) (by rw [hz2]; omega) (by omega) (Nat.le_refl _) ?_; intro w1 own1 gr1; have c1 := own1.cell q (by omega); have f1 := own1.free q)
  have hw : wrap64 ((2 : Int) ^ r) = ((2 ^ r : Nat) : Int) := by
    have e : ((2 : Int) ^ r) = ((2 ^ r : Nat) : Int) := by rw [Int.natCast_pow]; rfl
    rw [e]
    generalize 2 ^ r = P at *
    unfold wrap64
    omega
  rw [hw]
  go_ret
  refine ⟨_, rfl, (own1.stored q (2 ^ r)).congr fun j hj => ?_, ((Below.refl _ w).grown gr1 (Nat.le_refl _) (by simp)).setCell (Nat.le_refl _) _⟩
  rw [HD.out j hj]
  rfl

theorem specSign_any (neg : Bool) (ao : Option Addr) (n c : Nat) (w : World) :
    Calls Tryd.prog 37 #[.bool neg, .slice ao n c] w fun e w' => e = .returned (.agg #[.bool (neg && decide (n ≠ 0)), .slice ao n c]) ∧ Below w.heap.size w w' := by
  have b0 := Lib.hid (fun v : Array Value => (Below.refl w.heap.size w).alloc (Nat.le_refl _) (.cells v 29))
  cases neg
  · go_enter Tryd.func37, Tryd.ntmps37
    go_wp2_with fail
    refine bodyPost_ret (v := .agg #[.bool false, .slice ao n c]) (by simp [results, Tryd.results37, go_sem]) rfl ?_
    exact ⟨rfl, b0.out _⟩
  · cases n with
    | zero =>
      go_enter Tryd.func37, Tryd.ntmps37
      go_wp2_with fail
      refine bodyPost_ret (v := .agg #[.bool false, .slice ao 0 c]) (by simp [results, Tryd.results37, go_sem]) rfl ?_
      exact ⟨rfl, b0.out _⟩
    | succ n =>
      have ht : (0 : Int) < (n : Int) + 1 := by omega
      go_enter Tryd.func37, Tryd.ntmps37
      go_wp2_with fail
      refine bodyPost_ret (v := .agg #[.bool true, .slice ao (n + 1) c]) (by simp [results, Tryd.results37, go_sem]) rfl ?_
      exact ⟨by simp, b0.out _⟩

end Go.Proofs.YtidifjmjbfhpaaaDoor
