/- spec.Sub, spec.Small, spec.Bit: a difference, small numbers, two to a power. -/
import Derived.Test.YtidifjmjbfhpaaaDoorSpecArith
namespace Go.Proofs.YtidifjmjbfhpaaaDoor
set_option linter.unusedVariables false
set_option maxRecDepth 20000
set_option linter.unusedSimpArgs false
open Go.RowKit

set_option maxHeartbeats 1000000 in
theorem specSub_any (aa ab : Option Addr) (V U ca cb : Nat) (w : World) (hUV : U ≤ V) (ha : nlen 65536 V ≤ ca) (hb : nlen 65536 U ≤ cb) (hna : nlen 65536 V ≤ 1000000000000)
    (hrda : Reads w .i64 aa (nlen 65536 V) (dig 65536 V)) (hrdb : Reads w .i64 ab (nlen 65536 U) (dig 65536 U)) :
    Calls Tryd.prog 52 #[.slice aa (nlen 65536 V) ca, .slice ab (nlen 65536 U) cb] w fun e w' => ∃ v, e = .returned v ∧ Own w' w.heap.size 3 .i64 v (nlen 65536 (V - U)) (dig 65536 (V - U)) ∧ Below w.heap.size w w' := by
  obtain ⟨i0, hi, hz0, hz1, hz2⟩ := info_parts info_int
  have hVl := lt_pow_nlen (B := 65536) (by omega) V
  have hUl := lt_pow_nlen (B := 65536) (by omega) U
  have hnm := nlen_mono (B := 65536) (by omega) hUV
  obtain ⟨n, hn⟩ : ∃ n, n = nlen 65536 V := ⟨_, rfl⟩
  obtain ⟨m, hm⟩ : ∃ m, m = nlen 65536 U := ⟨_, rfl⟩
  rw [← hn] at ha hna hrda hVl hnm ⊢
  rw [← hm] at hb hrdb hUl hnm ⊢
  have R := Lib.hid (And.intro hrda (And.intro hrdb (And.intro hVl hUl)))
  have HU := Lib.hid hUV
  clear hrda hrdb hVl hUl hn hm hUV
  have own0 := Own.empty w w.heap.size 3 .i64 (sdg 65536 (dig 65536 V) (dig 65536 U)) (Nat.le_refl _)
  have bel0 : Below w.heap.size w (w.alloc (.cells #[] 3)) := (Below.refl _ _).alloc (Nat.le_refl _) _
  have O0 := Lib.hid (And.intro own0 bel0)
  clear own0 bel0
  go_enter Tryd.func52, Tryd.ntmps52
  go_wp2
  go_loopw [5, 6, 12] (fun v tc ti wr => ∃ i : Nat, i ≤ n ∧ ti = .int .i64 i ∧ tc = .int .i64 ((bor (dig 65536 V) (dig 65536 U) i : Nat) : Int) ∧ Own wr w.heap.size 3 .i64 v i (sdg 65536 (dig 65536 V) (dig 65536 U)) ∧ Below w.heap.size w wr) (fun _ _ ti _ => n - (intOf ti).toNat)
  case atStart => exact ⟨0, Nat.zero_le _, rfl, rfl, O0.out.1, O0.out.2⟩
  case round =>
    obtain ⟨i, hin, rfl, rfl, own, bel⟩ := hrel
    have hsz := bel.size
    by_cases h1 : i < n
    · have hbor := bor_le (dig 65536 V) (dig 65536 U) i
      have d1l := dig_lt (B := 65536) (by omega) V i
      have d2l := dig_lt (B := 65536) (by omega) U i
      have hsd : sdg 65536 (dig 65536 V) (dig 65536 U) i = (dig 65536 V i + 65536 - dig 65536 U i - bor (dig 65536 V) (dig 65536 U) i) % 65536 := rfl
      have hb2 : bor (dig 65536 V) (dig 65536 U) (i + 1) = if dig 65536 V i < dig 65536 U i + bor (dig 65536 V) (dig 65536 U) i then 1 else 0 := rfl
      obtain ⟨c, hc⟩ : ∃ c, c = bor (dig 65536 V) (dig 65536 U) i := ⟨_, rfl⟩
      obtain ⟨d1, hd1⟩ : ∃ d, d = dig 65536 V i := ⟨_, rfl⟩
      obtain ⟨d2, hd2⟩ : ∃ d, d = dig 65536 U i := ⟨_, rfl⟩
      rw [← hc, ← hd1, ← hd2] at hsd hb2
      rw [← hc] at hbor ⊢
      rw [← hd1] at d1l
      rw [← hd2] at d2l
      have G := Lib.hid (And.intro own (And.intro bel (And.intro hsd (And.intro hb2 (And.intro hd1 hd2)))))
      clear own bel hsd hb2 hd1 hd2 hc O0
      obtain ⟨ba, oa, rfl, hca0⟩ := R.out.1 i h1
      have hca := (G.out.2.1.cell (World.block_lt_of_cell? _ _ hca0)).trans hca0
      rw [← G.out.2.2.2.2.1] at hca
      clear hca0
      by_cases h2 : i < m
      · obtain ⟨bb, ob, rfl, hcb0⟩ := R.out.2.1 i h2
        have hcb := (G.out.2.1.cell (World.block_lt_of_cell? _ _ hcb0)).trans hcb0
        rw [← G.out.2.2.2.2.2] at hcb
        clear hcb0
        by_cases h3 : d1 < d2 + c
        · obtain ⟨y, hy⟩ : ∃ y : Nat, y = d1 + 65536 - d2 - c := ⟨_, rfl⟩
          have hval : (d1 : Int) - (c : Int) - (d2 : Int) + 65536 = ((y : Nat) : Int) := by omega
          have ht : decide ((d1 : Int) - (c : Int) - (d2 : Int) < 0) = true := by simp; omega
          have hsy : (d1 + 65536 - d2 - c) % 65536 = y := by rw [hy, Nat.mod_eq_of_lt (by omega)]
          have hbn : (if d1 < d2 + c then 1 else 0) = 1 := if_pos h3
          have HY := Lib.hid (And.intro hsy hbn)
          clear hy hsy hbn
          go_wp2_with (at_builtin; refine wpList_append_int wr rfl _ _ 27 rfl w.heap.size 3 i0 .i64 8 Tryd.underlying27 hi hz0 hz1 hz2 _ i _ rfl (by exact G.out.1) y rfl (by omega) (by omega) hsz ?_)
          intro v' w1 own1 bel1
          have own2 : Own w1 w.heap.size 3 .i64 v' (i + 1) (sdg 65536 (dig 65536 V) (dig 65536 U)) := own1.congr fun j hj => by
            unfold upd; split
            · rename_i e; rw [e, G.out.2.2.1, HY.out.1]
            · rfl
          have F := Lib.hid (And.intro own2 (G.out.2.1.trans bel1))
          clear own1 own2 bel1
          go_wp2_with fail
          go_roundw
          case rel =>
            go_light
            exact ⟨i + 1, by omega, by go_num, by rw [G.out.2.2.2.1, HY.out.2]; rfl, F.out.1, F.out.2⟩
          case measure => simp [intOf]; omega
        · obtain ⟨y, hy⟩ : ∃ y : Nat, y = d1 - d2 - c := ⟨_, rfl⟩
          have hval : (d1 : Int) - (c : Int) - (d2 : Int) = ((y : Nat) : Int) := by omega
          have hsy : (d1 + 65536 - d2 - c) % 65536 = y := by rw [show d1 + 65536 - d2 - c = y + 65536 by omega, Nat.add_mod_right, Nat.mod_eq_of_lt (by omega)]
          have hbn : (if d1 < d2 + c then 1 else 0) = 0 := if_neg h3
          have HY := Lib.hid (And.intro hsy hbn)
          clear hy hsy hbn
          go_wp2_with (at_builtin; refine wpList_append_int wr rfl _ _ 27 rfl w.heap.size 3 i0 .i64 8 Tryd.underlying27 hi hz0 hz1 hz2 _ i _ rfl (by exact G.out.1) y rfl (by omega) (by omega) hsz ?_)
          intro v' w1 own1 bel1
          have own2 : Own w1 w.heap.size 3 .i64 v' (i + 1) (sdg 65536 (dig 65536 V) (dig 65536 U)) := own1.congr fun j hj => by
            unfold upd; split
            · rename_i e; rw [e, G.out.2.2.1, HY.out.1]
            · rfl
          have F := Lib.hid (And.intro own2 (G.out.2.1.trans bel1))
          clear own1 own2 bel1
          go_wp2_with fail
          go_roundw
          case rel =>
            go_light
            exact ⟨i + 1, by omega, by go_num, by rw [G.out.2.2.2.1, HY.out.2]; rfl, F.out.1, F.out.2⟩
          case measure => simp [intOf]; omega
      · have hz2' : d2 = 0 := by rw [G.out.2.2.2.2.2]; exact dig_of_lt (Nat.lt_of_lt_of_le R.out.2.2.2 (Nat.pow_le_pow_right (by omega) (by omega)))
        subst hz2'
        by_cases h3 : d1 < 0 + c
        · obtain ⟨y, hy⟩ : ∃ y : Nat, y = d1 + 65536 - 0 - c := ⟨_, rfl⟩
          have hval : (d1 : Int) - (c : Int) + 65536 = ((y : Nat) : Int) := by omega
          have ht : decide ((d1 : Int) - (c : Int) < 0) = true := by simp; omega
          have hsy : (d1 + 65536 - 0 - c) % 65536 = y := by rw [hy, Nat.mod_eq_of_lt (by omega)]
          have hbn : (if d1 < 0 + c then 1 else 0) = 1 := if_pos h3
          have HY := Lib.hid (And.intro hsy hbn)
          clear hy hsy hbn
          go_wp2_with (at_builtin; refine wpList_append_int wr rfl _ _ 27 rfl w.heap.size 3 i0 .i64 8 Tryd.underlying27 hi hz0 hz1 hz2 _ i _ rfl (by exact G.out.1) y rfl (by omega) (by omega) hsz ?_)
          intro v' w1 own1 bel1
          have own2 : Own w1 w.heap.size 3 .i64 v' (i + 1) (sdg 65536 (dig 65536 V) (dig 65536 U)) := own1.congr fun j hj => by
            unfold upd; split
            · rename_i e; rw [e, G.out.2.2.1, HY.out.1]
            · rfl
          have F := Lib.hid (And.intro own2 (G.out.2.1.trans bel1))
          clear own1 own2 bel1
          go_wp2_with fail
          go_roundw
          case rel =>
            go_light
            exact ⟨i + 1, by omega, by go_num, by rw [G.out.2.2.2.1, HY.out.2]; rfl, F.out.1, F.out.2⟩
          case measure => simp [intOf]; omega
        · obtain ⟨y, hy⟩ : ∃ y : Nat, y = d1 - 0 - c := ⟨_, rfl⟩
          have hval : (d1 : Int) - (c : Int) = ((y : Nat) : Int) := by omega
          have hsy : (d1 + 65536 - 0 - c) % 65536 = y := by rw [show d1 + 65536 - 0 - c = y + 65536 by omega, Nat.add_mod_right, Nat.mod_eq_of_lt (by omega)]
          have hbn : (if d1 < 0 + c then 1 else 0) = 0 := if_neg h3
          have HY := Lib.hid (And.intro hsy hbn)
          clear hy hsy hbn
          go_wp2_with (at_builtin; refine wpList_append_int wr rfl _ _ 27 rfl w.heap.size 3 i0 .i64 8 Tryd.underlying27 hi hz0 hz1 hz2 _ i _ rfl (by exact G.out.1) y rfl (by omega) (by omega) hsz ?_)
          intro v' w1 own1 bel1
          have own2 : Own w1 w.heap.size 3 .i64 v' (i + 1) (sdg 65536 (dig 65536 V) (dig 65536 U)) := own1.congr fun j hj => by
            unfold upd; split
            · rename_i e; rw [e, G.out.2.2.1, HY.out.1]
            · rfl
          have F := Lib.hid (And.intro own2 (G.out.2.1.trans bel1))
          clear own1 own2 bel1
          go_wp2_with fail
          go_roundw
          case rel =>
            go_light
            exact ⟨i + 1, by omega, by go_num, by rw [G.out.2.2.2.1, HY.out.2]; rfl, F.out.1, F.out.2⟩
          case measure => simp [intOf]; omega
    · obtain rfl : i = n := by omega
      have HD := Lib.hid (sub_digits (B := 65536) (by omega) R.out.2.2.1 HU.out)
      have own2 : Own wr w.heap.size 3 .i64 _ i (dig 65536 (V - U)) := own.congr fun j hj => HD.out.1 j hj
      obtain ⟨a3, c3, rfl, hle3, hcm3, hrd3, hlt3⟩ := own2.parts
      have F := Lib.hid (And.intro (own_cut (B := 65536) (by omega) own2 (fun j _ => dig_lt (by omega) _ j) (by rw [val_of_dig (by omega), Nat.mod_eq_of_lt (Nat.lt_of_le_of_lt (Nat.sub_le _ _) R.out.2.2.1)])) bel)
      have K := Lib.hid (cut_any a3 i c3 (dig 65536 (V - U)) wr hle3 (by omega) hrd3)
      clear own own2 bel hrd3 hlt3 O0
      go_wp2_with fail
      refine K.out.mono ?_
      rintro e w2 ⟨rfl, rfl⟩
      go_wp2
      go_ret
      exact ⟨_, rfl, F.out.1, F.out.2⟩

end Go.Proofs.YtidifjmjbfhpaaaDoor
