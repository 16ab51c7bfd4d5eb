/- spec.Of: the digits of 16 bits of the number of words. -/
import Derived.Test.YtidifjmjbfhpaaaDoorBase
import Derived.Test.YtidifjmjbfhpaaaDoorInfo
import Derived.Test.YtidifjmjbfhpaaaDoorCut
namespace Go.Proofs.YtidifjmjbfhpaaaDoor
set_option linter.unusedVariables false
set_option maxRecDepth 20000
set_option linter.unusedSimpArgs false
open Go.RowKit

/-- Four digits a word. -/
def quarters (f : Nat → Nat) : Nat → Nat := fun j => f (j / 4) / 2 ^ (16 * (j % 4)) % 65536

theorem and_quarter (x i : Nat) (hx : x < 18446744073709551616) : bits .and .u64 ((x : Int) / 2 ^ i) 65535 = ((x / 2 ^ i % 65536 : Nat) : Int) := by
  have h1 : ((x : Int) / 2 ^ i) = ((x / 2 ^ i : Nat) : Int) := by rw [Int.natCast_ediv, Int.natCast_pow]; rfl
  have h2 : x / 2 ^ i ≤ x := Nat.div_le_self _ _
  rw [h1]
  generalize x / 2 ^ i = q at *
  have := bits_mask .u64 64 (by decide) wraps_u64 16 (by omega) ((q : Nat) : Int) (by omega) (by omega)
  simp at this ⊢
  exact this

set_option maxHeartbeats 1000000 in
theorem specOf_walk (ao : Option Addr) (n cap : Nat) (f : Nat → Nat) (hf : ∀ i, i < n → f i < 18446744073709551616) (w : World) (hn : n ≤ cap) (hb : n ≤ 2147483647) (hrd : Reads w .u64 ao n f) :
    Calls Tryd.prog 27 #[.slice ao n cap] w fun e w' => ∃ v, e = .returned v ∧ Own w' w.heap.size 3 .i64 v (clen (quarters f) (4 * n)) (quarters f) ∧ Below w.heap.size w w' := by
  obtain ⟨i0, hi, hz0, hz1, hz2⟩ := info_parts info_int
  go_enter Tryd.func27, Tryd.ntmps27
  go_wp2
  have own0 := Own.empty w w.heap.size 3 .i64 (quarters f) (Nat.le_refl _)
  have bel0 : Below w.heap.size w (w.alloc (.cells #[] 3)) := (Below.refl _ _).alloc (Nat.le_refl _) _
  have O0 := Lib.hid (And.intro own0 bel0)
  clear own0 bel0
  go_loopw [3, 10] (fun v t wr => ∃ i : Nat, i ≤ n ∧ t = .int .i64 i ∧ Own wr w.heap.size 3 .i64 v (4 * i) (quarters f) ∧ Below w.heap.size w wr) (fun _ t _ => n - (intOf t).toNat)
  case atStart => exact ⟨0, Nat.zero_le _, rfl, O0.out.1, O0.out.2⟩
  case round =>
    obtain ⟨i, hin, rfl, own, bel⟩ := hrel
    by_cases hlt : i < n
    · obtain ⟨b, o, rfl, hcell0⟩ := hrd i hlt
      have hcell := (bel.cell (World.block_lt_of_cell? _ _ hcell0)).trans hcell0
      have hfi := hf i hlt
      obtain ⟨x, hx⟩ : ∃ x, x = f i := ⟨_, rfl⟩
      rw [← hx] at hcell hfi
      have HX := Lib.hid hx
      have OWN := Lib.hid own
      have BEL := Lib.hid bel
      obtain ⟨wo, hwo⟩ : ∃ wo : World, wo = wr := ⟨_, rfl⟩
      subst hwo
      clear own bel hcell0 hrd hx hf O0
      go_wp2
      go_loopw [3, 14] (fun v t wr => ∃ k : Nat, k ≤ 4 ∧ t = .int .i64 k ∧ Own wr w.heap.size 3 .i64 v (4 * i + k) (quarters f) ∧ Below w.heap.size w wr) (fun _ t _ => 4 - (intOf t).toNat)
      case atStart => exact ⟨0, by omega, rfl, OWN.out, BEL.out⟩
      case round =>
        clear OWN BEL
        obtain ⟨k, hk4, rfl, own, bel⟩ := hrel
        have hsz := bel.size
        by_cases hk : k < 4
        · obtain ⟨y, hy⟩ : ∃ y, y = quarters f (4 * i + k) := ⟨_, rfl⟩
          have hq : x / 2 ^ (16 * k) % 65536 = y := by
            rw [hy]
            unfold quarters
            rw [show (4 * i + k) / 4 = i by omega, show (4 * i + k) % 4 = k by omega, HX.out]
          have hand : bits .and .u64 ((x : Int) / 2 ^ (16 * k)) 65535 = (y : Int) := by
            rw [← hq]; exact and_quarter x (16 * k) hfi
          have hy2 : y < 65536 := by rw [← hq]; exact Nat.mod_lt _ (by omega)
          have HY := Lib.hid hy
          have OWN := Lib.hid own
          have BEL := Lib.hid bel
          clear own bel hq hy
          go_wp2_with (at_builtin; refine wpList_append_own _ rfl _ _ 27 rfl w.heap.size 3 i0 (.int .i64 0) 1 8 Tryd.underlying27 hi hz0 hz1 hz2 rfl (by decide) _ _ _ rfl (OWN.out.alloc _) ⟨wr.heap.size, 0, none⟩ 1 1 [.int .i64 y] rfl rfl (cell_one_new _ _ _) (by simp [Value.oneCell']) (by unfold maxLen; omega) (by omega) (by simp; omega) ?_)
          intro v' w1 hown' hgrow _
          have own' : Own w1 w.heap.size 3 .i64 v' (4 * i + k + 1) (quarters f) := (Own.snoc hown').congr fun j hj => by
            unfold upd; split
            · rename_i e; rw [e, HY.out]
            · rfl
          have bel' : Below w.heap.size w w1 := (BEL.out.alloc (by omega) _).grown hgrow (by simp; omega) (fun k hk => (OWN.out.lt k hk).1)
          have OB := Lib.hid (And.intro own' bel')
          clear own' bel' hown' hgrow OWN BEL
          go_wp2_with fail
          go_roundw
          case rel =>
            go_light
            exact ⟨k + 1, by omega, by go_num, OB.out.1, OB.out.2⟩
          case measure => simp [intOf]; omega
        · obtain rfl : k = 4 := by omega
          have OWN := Lib.hid own
          have BEL := Lib.hid bel
          clear own bel
          go_wp2_with fail
          go_roundw
          case rel =>
            go_light
            exact ⟨i + 1, by omega, by go_num, OWN.out, BEL.out⟩
          case measure => simp [intOf]; omega
    · obtain rfl : i = n := by omega
      obtain ⟨ao2, c2, rfl, hle, hcm, hrd2, hlt2⟩ := own.parts
      have OWN := Lib.hid own
      have BEL := Lib.hid bel
      clear own bel hlt2 hrd O0
      go_wp2_with fail
      refine (cut_any _ _ _ _ _ hle (by omega) hrd2).mono ?_
      rintro e w' ⟨rfl, rfl⟩
      clear hrd2
      go_wp2
      go_ret
      exact ⟨_, rfl, OWN.out.cut (clen_le _ _), BEL.out⟩

theorem val_quarters {f : Nat → Nat} {n : Nat} (hf : ∀ i, i < n → f i < BW) : val 65536 (quarters f) (4 * n) = val BW f n := by
  have h := val_group 65536 4 (quarters f) n
  rw [← h]
  refine val_congr fun j hj => ?_
  have h1 : (fun t => quarters f (4 * j + t)) = fun t => f (j + t / 4) / 2 ^ (16 * (t % 4)) % 65536 := by
    funext t
    unfold quarters
    rw [show (4 * j + t) / 4 = j + t / 4 by omega, show (4 * j + t) % 4 = t % 4 by omega]
  rw [h1]
  have h2 : val 65536 (fun t => f (j + t / 4) / 2 ^ (16 * (t % 4)) % 65536) 4 = val 65536 (dig 65536 (f j)) 4 := by
    refine val_congr fun t ht => ?_
    unfold dig
    rw [show t / 4 = 0 by omega, show t % 4 = t by omega, Nat.add_zero, show (65536 : Nat) ^ t = 2 ^ (16 * t) by rw [Nat.pow_mul]]
  rw [h2, val_of_dig (by omega)]
  exact Nat.mod_eq_of_lt (hf j hj)

/-- spec.Of: the digits, of 16 bits, of the number of the words, in new memory. -/
theorem specOf_any (ao : Option Addr) (n cap : Nat) (f : Nat → Nat) (hf : ∀ i, i < n → f i < BW) (w : World) (hn : n ≤ cap) (hb : n ≤ 2147483647) (hrd : Reads w .u64 ao n f) :
    Calls Tryd.prog 27 #[.slice ao n cap] w fun e w' => ∃ v, e = .returned v ∧ Own w' w.heap.size 3 .i64 v (nlen 65536 (val BW f n)) (dig 65536 (val BW f n)) ∧ Below w.heap.size w w' := by
  refine (specOf_walk ao n cap f hf w hn hb hrd).mono fun e w' ⟨v, he, hown, hbel⟩ => ⟨_, he, ?_, hbel⟩
  have hl : ∀ i, i < 4 * n → quarters f i < 65536 := fun i _ => Nat.mod_lt _ (by omega)
  have hv := val_quarters hf
  have hc := clen_val (B := 65536) (by omega) hl
  rw [hv] at hc
  rw [hc] at hown
  refine hown.congr fun i hi => ?_
  rw [← hv]
  refine (val_dig hl ?_).symm
  have := clen_le (quarters f) (4 * n)
  omega

end Go.Proofs.YtidifjmjbfhpaaaDoor
