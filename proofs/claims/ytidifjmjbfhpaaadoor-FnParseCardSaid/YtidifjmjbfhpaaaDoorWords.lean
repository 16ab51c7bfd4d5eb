/- spec.Words: the words of 64 bits of a number by its digits of 16. -/
import Derived.Test.YtidifjmjbfhpaaaDoorBase
import Derived.Test.YtidifjmjbfhpaaaDoorInfo
import Derived.BigRegion
namespace Go.Proofs.YtidifjmjbfhpaaaDoor
set_option linter.unusedVariables false
set_option maxRecDepth 20000
set_option linter.unusedSimpArgs false
open Go.RowKit

/-- The words of the first i digits. -/
def wpart (d : Nat → Nat) (i : Nat) : Nat → Nat := fun j => val 65536 (fun t => if 4 * j + t < i then d (4 * j + t) else 0) 4

theorem wpart_lt (d : Nat → Nat) (i j n : Nat) (hd : ∀ i, i < n → d i < 65536) (hi : i ≤ n) : wpart d i j < BW := by
  have := val_lt (B := 65536) (f := fun t => if 4 * j + t < i then d (4 * j + t) else 0) (n := 4) fun t _ => by
    split
    · exact hd _ (by omega)
    · omega
  exact this
/-- The word that digit i goes into, before and behind it. -/
theorem wpart_step (d : Nat → Nat) (i n : Nat) (hd : ∀ i, i < n → d i < 65536) (hi : i < n) :
    wpart d i (i / 4) < 2 ^ (16 * (i % 4)) ∧ (∀ j, upd (wpart d i) (i / 4) (wpart d i (i / 4) + d i * 2 ^ (16 * (i % 4))) j = wpart d (i + 1) j) := by
  have e1 : wpart d i (i / 4) = val 65536 (fun t => d (4 * (i / 4) + t)) (i % 4) := by
    unfold wpart
    rw [val_drop (m := i % 4) (by omega) fun t h1 h2 => by rw [if_neg (by omega)]]
    exact val_congr fun t ht => by rw [if_pos (by omega)]
  constructor
  · rw [e1, Nat.pow_mul]
    exact val_lt fun t ht => hd _ (by omega)
  · intro j
    by_cases e : j = i / 4
    · subst e
      have e2 : wpart d (i + 1) (i / 4) = val 65536 (fun t => d (4 * (i / 4) + t)) (i % 4 + 1) := by
        unfold wpart
        rw [val_drop (m := i % 4 + 1) (by omega) fun t h1 h2 => by rw [if_neg (by omega)]]
        exact val_congr fun t ht => by rw [if_pos (by omega)]
      rw [upd_same, e1, e2]
      simp only [val]
      rw [show 4 * (i / 4) + i % 4 = i by omega, show (65536 : Nat) ^ (i % 4) = 2 ^ (16 * (i % 4)) by rw [Nat.pow_mul]]
    · rw [upd_other _ _ e]
      unfold wpart
      refine val_congr fun t ht => ?_
      by_cases h : 4 * j + t < i
      · rw [if_pos h, if_pos (by omega)]
      · rw [if_neg h, if_neg (by omega)]
theorem wpart_zero (d : Nat → Nat) (i j : Nat) (h : i ≤ 4 * j) : wpart d i j = 0 := by
  unfold wpart
  rw [val_drop (m := 0) (by omega) fun t h1 h2 => by rw [if_neg (by omega)]]
  rfl

theorem words_rel (d : Nat → Nat) (i n g c x y base : Nat) (wr w : World) (hd : ∀ i, i < n → d i < 65536) (hi : i < n) (hx : x = wpart d i (i / 4)) (hy : y = d i)
    (own : Own wr base 32 .u64 (.slice (some ⟨g, 0, none⟩) (i / 4 + 1) c) (i / 4 + 1) (wpart d i)) (bel : Below w.heap.size w wr) (hg : w.heap.size ≤ g) :
    Own (wr.setCell ⟨g, i / 4, none⟩ (.int .u64 (bits .or .u64 (x : Int) (IntKind.u64.wrap ((y : Int) * 2 ^ (16 * (i % 4))))))).drew base 32 .u64 (.slice (some ⟨g, 0, none⟩) (i / 4 + 1) c) (i / 4 + 1) (wpart d (i + 1)) ∧
    Below w.heap.size w (wr.setCell ⟨g, i / 4, none⟩ (.int .u64 (bits .or .u64 (x : Int) (IntKind.u64.wrap ((y : Int) * 2 ^ (16 * (i % 4))))))).drew := by
  obtain ⟨h1, h2⟩ := wpart_step d i n hd hi
  have hyd := hd i hi
  have hp : y * 2 ^ (16 * (i % 4)) < 18446744073709551616 := by
    have h1 : 2 ^ (16 * (i % 4)) ≤ 2 ^ 48 := Nat.pow_le_pow_right (by omega) (by omega)
    have h2 : y * 2 ^ (16 * (i % 4)) ≤ 65535 * 2 ^ 48 := Nat.mul_le_mul (by omega) h1
    omega
  have hj := or_u64_join x y (16 * (i % 4)) (by rw [hx]; exact h1) (by omega) hp
  refine ⟨?_, Below.drew (bel.setCell hg _)⟩
  rw [hj]
  exact ((own.stored (i / 4) (x + y * 2 ^ (16 * (i % 4)))).drew).congr fun j _ => by rw [← h2 j, ← hx, ← hy]

set_option maxHeartbeats 1000000 in
theorem words_walk (ao : Option Addr) (n cap : Nat) (d : Nat → Nat) (hd : ∀ i, i < n → d i < 65536) (w : World) (hn : n ≤ cap) (hb : n ≤ 9223372036854775807) (hm : n ≤ 17179869184) (hrd : Reads w .i64 ao n d) :
    Calls Tryd.prog 41 #[.slice ao n cap] w fun e w' => ∃ v, e = .returned v ∧ Own w' w.heap.size 32 .u64 v ((n + 3) / 4) (wpart d n) ∧ Below w.heap.size w w' := by
  obtain ⟨i0, hi, hz0, hz1, hz2⟩ := info_parts info_uint
  have O0 := Lib.hid (And.intro (Own.empty w w.heap.size 32 .u64 (wpart d 0) (Nat.le_refl _)) ((Below.refl w.heap.size w).alloc (Nat.le_refl _) (.cells #[] 32)))
  go_enter Tryd.func41, Tryd.ntmps41
  go_wp2
  go_loopw [3, 9] (fun v t wr => ∃ i : Nat, i ≤ n ∧ t = .int .i64 i ∧ Own wr w.heap.size 32 .u64 v ((i + 3) / 4) (wpart d i) ∧ Below w.heap.size w wr) (fun _ t _ => n - (intOf t).toNat)
  case atStart => exact ⟨0, Nat.zero_le _, rfl, O0.out.1, O0.out.2⟩
  case round =>
    obtain ⟨i, hin, rfl, own, bel⟩ := hrel
    have hsz := bel.size
    by_cases hlt : i < n
    · obtain ⟨b, o, rfl, hcell0⟩ := hrd i hlt
      have hcell := (bel.cell (World.block_lt_of_cell? _ _ hcell0)).trans hcell0
      have hbw := World.block_lt_of_cell? _ _ hcell0
      have hdi := hd i hlt
      obtain ⟨y, hy⟩ : ∃ y, y = d i := ⟨_, rfl⟩
      rw [← hy] at hcell hdi
      have HY := Lib.hid hy
      have HD := Lib.hid hd
      clear hcell0 hrd hy hd O0
      by_cases h4 : i % 4 = 0
      · have hq : ((i : Int) % 4 == 0) = true := by simp; omega
        have OWN := Lib.hid own
        have BEL := Lib.hid bel
        clear own bel
        go_wp2_with (at_builtin; refine wpList_append_own _ rfl _ _ 22 rfl w.heap.size 32 i0 (.int .u64 0) 1 8 Tryd.underlying22 hi hz0 hz1 hz2 rfl (by decide) _ _ _ rfl (OWN.out.alloc _) ⟨wr.heap.size, 0, none⟩ 1 1 [.int .u64 0] rfl rfl (cell_one_new _ _ _) (by simp [Value.oneCell']) (by unfold maxLen; omega) (by omega) (by simp; omega) ?_)
        intro v' w1 hown' hgrow _
        have own' : Own w1 w.heap.size 32 .u64 v' ((i + 3) / 4 + 1) (wpart d i) := (Own.snoc hown').congr fun j hj => by
          unfold upd; split
          · rename_i e; rw [e, wpart_zero _ _ _ (by omega)]
          · rfl
        have bel' : Below w.heap.size w w1 := (BEL.out.alloc (by omega) _).grown hgrow (by simp; omega) (fun k hk => (OWN.out.lt k hk).1)
        rw [show (i + 3) / 4 + 1 = i / 4 + 1 by omega] at own'
        rw [show (i + 3) / 4 + 1 = i / 4 + 1 by omega] at hown'
        have hcell' : w1.cell? ⟨b, o + i, none⟩ = some (.int .i64 y) := (hgrow.cell (by rw [World.cell?_alloc_past _ _ _ (by omega)]; exact hcell) (by intro h; have := (OWN.out.lt b h.symm).1; omega))
        rcases own'.shape with ⟨rfl, h0⟩ | ⟨g, c, rfl, hg1, hg2, hg3, hg4⟩
        · omega
        · have hold : w1.cell? ⟨g, i / 4, none⟩ = some (.int .u64 0) := by
            have := own'.cell (i / 4) (by omega)
            rw [wpart_zero _ _ _ (by omega)] at this
            exact this
          have hfree := own'.free (i / 4)
          have r := words_rel d i n g c 0 y w.heap.size w1 w HD.out hlt (by rw [wpart_zero _ _ _ (by omega)]) HY.out own' bel' hg1
          have hw : IntKind.u64.wrap ((y : Int) * 2 ^ (16 * (i % 4))) = (y : Int) := by
            rw [h4, Nat.mul_zero, Int.pow_zero, Int.mul_one, IntKind.wrap_u64]; omega
          rw [hw, Int.natCast_zero] at r
          have R := Lib.hid r
          clear r hw
          clear own' bel' hown' hgrow OWN BEL hcell
          go_wp2
          go_region
          go_wp2
          go_roundw
          case rel =>
            go_light
            refine ⟨i + 1, by omega, by go_num, ?_, R.out.2⟩
            rw [show (i + 1 + 3) / 4 = i / 4 + 1 by omega]
            exact R.out.1
          case measure => simp [intOf]; omega
      · have hq : ((i : Int) % 4 == 0) = false := by simp; omega
        rcases own.shape with ⟨rfl, h0⟩ | ⟨g, c, rfl, hg1, hg2, hg3, hg4⟩
        · omega
        · rw [show (i + 3) / 4 = i / 4 + 1 by omega] at own ⊢
          obtain ⟨x, hx⟩ : ∃ x, x = wpart d i (i / 4) := ⟨_, rfl⟩
          have hold : wr.cell? ⟨g, i / 4, none⟩ = some (.int .u64 x) := by rw [hx]; exact own.cell _ (by omega)
          have hfree := own.free (i / 4)
          have R := Lib.hid (words_rel d i n g c x y w.heap.size wr w HD.out hlt hx HY.out own bel hg1)
          clear own bel hx
          go_wp2
          go_region
          go_wp2
          go_roundw
          case rel =>
            go_light
            refine ⟨i + 1, by omega, by go_num, ?_, R.out.2⟩
            rw [show (i + 1 + 3) / 4 = i / 4 + 1 by omega]
            exact R.out.1
          case measure => simp [intOf]; omega
    · obtain rfl : i = n := by omega
      have OWN := Lib.hid own
      have BEL := Lib.hid bel
      clear own bel
      go_wp2
      go_ret
      exact ⟨_, rfl, OWN.out, BEL.out⟩

theorem val_wpart (d : Nat → Nat) (n : Nat) : val BW (wpart d n) ((n + 3) / 4) = val 65536 d n := by
  have h := val_group 65536 4 (fun i => if i < n then d i else 0) ((n + 3) / 4)
  have h2 : val 65536 (fun i => if i < n then d i else 0) (4 * ((n + 3) / 4)) = val 65536 d n := by
    rw [val_drop (m := n) (by omega) fun i h1 h2 => by rw [if_neg (by omega)]]
    exact val_congr fun i hi => by rw [if_pos hi]
  rw [← h2]
  exact h

/-- spec.Words of the digits of a number: its words, in new memory. -/
theorem words_any (ao : Option Addr) (V cap : Nat) (w : World) (hn : nlen 65536 V ≤ cap) (hm : nlen 65536 V ≤ 17179869184) (hrd : Reads w .i64 ao (nlen 65536 V) (dig 65536 V)) :
    Calls Tryd.prog 41 #[.slice ao (nlen 65536 V) cap] w fun e w' => ∃ v, e = .returned v ∧ Own w' w.heap.size 32 .u64 v (nlen BW V) (dig BW V) ∧ Below w.heap.size w w' := by
  have hd : ∀ i, i < nlen 65536 V → dig 65536 V i < 65536 := fun i _ => dig_lt (by omega) V i
  refine (words_walk ao _ cap _ hd w hn (by omega) hm hrd).mono fun e w' ⟨v, he, hown, hbel⟩ => ⟨_, he, ?_, hbel⟩
  have hv : val BW (wpart (dig 65536 V) (nlen 65536 V)) ((nlen 65536 V + 3) / 4) = V := by rw [val_wpart, val_nlen (by omega)]
  have hl : (nlen 65536 V + 3) / 4 = nlen BW V := by
    refine eq_of_le_iff fun m => ?_
    have := nlen_pow (B := 65536) (by omega) 4 (by omega) V m
    have e : (65536 : Nat) ^ 4 = BW := rfl
    rw [e] at this
    rw [this]; omega
  rw [hl] at hown
  refine hown.congr fun i hi => ?_
  have h3 := val_dig (B := BW) (f := wpart (dig 65536 V) (nlen 65536 V)) (n := (nlen 65536 V + 3) / 4) (fun j _ => wpart_lt _ _ _ _ hd (Nat.le_refl _)) (i := i) (by omega)
  rw [hv] at h3
  exact h3.symm

end Go.Proofs.YtidifjmjbfhpaaaDoor
