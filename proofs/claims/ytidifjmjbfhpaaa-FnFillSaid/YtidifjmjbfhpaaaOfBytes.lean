/- spec.OfBytes: the digits of 16 bits of the number of bytes, the highest first. -/
import Derived.Test.YtidifjmjbfhpaaaBase
import Derived.Test.YtidifjmjbfhpaaaInfo
import Derived.Test.YtidifjmjbfhpaaaCut
import Derived.BigRegion
import Derived.Deep.Light
namespace Go.Proofs.Ytidifjmjbfhpaaa
set_option linter.unusedVariables false
set_option linter.unusedSimpArgs false
open Go.RowKit

/-- The bytes from the lowest on, of a row of n bytes with the highest first; from byte m on (the lower ones not yet). -/
def rev (f : Nat → Nat) (n m : Nat) : Nat → Nat := fun k => if m ≤ k ∧ k < n then f (n - 1 - k) else 0
/-- Two bytes a digit. -/
def pairs (g : Nat → Nat) : Nat → Nat := fun j => g (2 * j) + 256 * g (2 * j + 1)

theorem rev_lt {f : Nat → Nat} (hf : ∀ i, f i < 256) (n m k : Nat) : rev f n m k < 256 := by
  unfold rev; split
  · exact hf _
  · omega
theorem rev_step (f : Nat → Nat) {n j : Nat} (hj : j < n) (k : Nat) : rev f n j k = if k = j then f (n - 1 - j) else rev f n (j + 1) k := by
  unfold rev
  by_cases e : k = j
  · subst e; rw [if_pos ⟨Nat.le_refl _, hj⟩, if_pos rfl]
  · rw [if_neg e]
    by_cases h : j + 1 ≤ k ∧ k < n
    · rw [if_pos h, if_pos ⟨by omega, h.2⟩]
    · rw [if_neg h, if_neg (by omega)]
theorem rev_low (f : Nat → Nat) (n j k : Nat) (h : k < j) : rev f n j k = 0 := by
  unfold rev; rw [if_neg (by omega)]

theorem pairs_even (f : Nat → Nat) (hf : ∀ i, f i < 256) {n j : Nat} (hj : j < n) (h2 : j % 2 = 0) :
    (∃ r, pairs (rev f n (j + 1)) (j / 2) = 256 * r ∧ r < 256) ∧ ∀ q, pairs (rev f n j) q = upd (pairs (rev f n (j + 1))) (j / 2) (pairs (rev f n (j + 1)) (j / 2) + f (n - 1 - j)) q := by
  constructor
  · refine ⟨rev f n (j + 1) (2 * (j / 2) + 1), ?_, rev_lt hf _ _ _⟩
    unfold pairs
    rw [rev_low f n (j + 1) (2 * (j / 2)) (by omega), Nat.zero_add]
  · intro q
    unfold upd
    by_cases e : q = j / 2
    · subst e
      rw [if_pos rfl]
      unfold pairs
      rw [rev_step f hj (2 * (j / 2)), if_pos (by omega), rev_step f hj (2 * (j / 2) + 1), if_neg (by omega), rev_low f n (j + 1) (2 * (j / 2)) (by omega)]
      omega
    · rw [if_neg e]
      unfold pairs
      rw [rev_step f hj (2 * q), if_neg (by omega), rev_step f hj (2 * q + 1), if_neg (by omega)]
theorem pairs_odd (f : Nat → Nat) {n j : Nat} (hj : j < n) (h2 : j % 2 = 1) :
    pairs (rev f n (j + 1)) (j / 2) = 0 ∧ ∀ q, pairs (rev f n j) q = upd (pairs (rev f n (j + 1))) (j / 2) (f (n - 1 - j) * 256) q := by
  constructor
  · unfold pairs
    rw [rev_low f n (j + 1) (2 * (j / 2)) (by omega), rev_low f n (j + 1) (2 * (j / 2) + 1) (by omega)]
  · intro q
    unfold upd
    by_cases e : q = j / 2
    · subst e
      rw [if_pos rfl]
      unfold pairs
      rw [rev_step f hj (2 * (j / 2)), if_neg (by omega), rev_step f hj (2 * (j / 2) + 1), if_pos (by omega), rev_low f n (j + 1) (2 * (j / 2)) (by omega)]
      omega
    · rw [if_neg e]
      unfold pairs
      rw [rev_step f hj (2 * q), if_neg (by omega), rev_step f hj (2 * q + 1), if_neg (by omega)]
theorem or_i64_even (x y r : Nat) (hx : x = 256 * r) (hr : r < 256) (hy : y < 256) : bits .or .i64 (x : Int) (y : Int) = ((x + y : Nat) : Int) := by
  have := bits_join .i64 63 (by decide) (fun n h0 h1 => by rw [IntKind.wrap_i64]; omega) 8 (x : Int) (y : Int) (by omega) (by omega) (by omega) (by omega) (by omega) (by omega)
  rw [this]; omega
theorem or_i64_odd (y : Nat) (hy : y < 256) : bits .or .i64 0 ((y : Int) * 256) = ((y * 256 : Nat) : Int) := by
  have := bits_join_low .i64 63 (by decide) (fun n h0 h1 => by rw [IntKind.wrap_i64]; omega) 8 0 ((y : Int) * 256) (by omega) (by omega) (by omega) (by omega) (by omega) (by omega)
  rw [this]; omega

set_option maxHeartbeats 400000 in
theorem ofBytes_walk (ao : Option Addr) (n cap : Nat) (f : Nat → Nat) (hf : ∀ i, f i < 256) (w : World) (hn : n ≤ cap) (hb : n ≤ 2147483647)
    (hrd : Reads w .u8 ao n f) :
    Calls Try.prog 8 #[.slice ao n cap] w fun e w' => ∃ ao c, e = .returned (.slice ao (clen (pairs (rev f n 0)) ((n+1)/2)) c) ∧ Own w' w.heap.size 3 .i64 (.slice ao (clen (pairs (rev f n 0)) ((n+1)/2)) c) (clen (pairs (rev f n 0)) ((n+1)/2)) (pairs (rev f n 0)) ∧ Below w.heap.size w w' := by
  obtain ⟨i0, hi, hz0, hz1, hz2⟩ := info_parts info_int
  have hN : (((n : Int) + 1) / 2) = (((n + 1) / 2 : Nat) : Int) := by omega
  have HN := Lib.hid hN
  clear hN
  go_enter Try.func8, Try.ntmps8
  go_wp2_with (at_make; go_loud (refine wpList_make_full _ rfl (.tmp 9) (.tmp 9) 29 rfl w.heap.size 3 i0 (.int .i64 0) 1 Try.underlying29 hi hz0 hz1 .i64 .i64 (((n : Int) + 1) / 2) (((n : Int) + 1) / 2) ((n+1)/2) rfl rfl HN.out HN.out (by rw [hz2]; omega) (by unfold maxLen; omega) (Nat.le_refl _) ?_); intro w1 hown1 hgrow1)
  have own1 : Own w1 w.heap.size 3 .i64 (.slice (some ⟨w.heap.size, 0, none⟩) ((n+1)/2) ((n+1)/2)) ((n+1)/2) (pairs (rev f n n)) :=
    (Own.made hown1).congr fun i hi => by unfold pairs rev; rw [if_neg (by omega), if_neg (by omega)]
  have bel1 : Below w.heap.size w w1 := (Below.refl _ _).grown hgrow1 (Nat.le_refl _) (by simp)
  clear hown1 hgrow1
  go_loopw [13] (fun t wr => ∃ i : Nat, i ≤ n ∧ t = .int .i64 i ∧ Own wr w.heap.size 3 .i64 (.slice (some ⟨w.heap.size, 0, none⟩) ((n+1)/2) ((n+1)/2)) ((n+1)/2) (pairs (rev f n (n - i))) ∧ Below w.heap.size w wr)
     (fun t _ => n - (intOf t).toNat)
  case atStart => exact ⟨0, Nat.zero_le _, rfl, own1, bel1⟩
  case round =>
    clear own1 bel1
    obtain ⟨i, hin, rfl, own, bel⟩ := hrel
    by_cases hlt : i < n
    · obtain ⟨j, hj⟩ : ∃ j : Nat, (n : Int) - 1 - (i : Int) = (j : Int) := ⟨n - 1 - i, by omega⟩
      have hjn : j < n := by omega
      obtain ⟨b, o, rfl, hcell0⟩ := hrd i hlt
      have hcell : wr.cell? ⟨b, o + i, none⟩ = some (.int .u8 (f i)) := (bel.cell (World.block_lt_of_cell? _ _ hcell0)).trans hcell0
      clear hcell0
      obtain ⟨x, hx⟩ : ∃ x, x = pairs (rev f n (n-i)) (j/2) := ⟨_, rfl⟩
      have hold : wr.cell? ⟨w.heap.size, j/2, none⟩ = some (.int .i64 x) := by rw [hx]; exact own.cell _ (by omega)
      have hfree := own.free (j/2)
      have hfi := hf i
      obtain ⟨y, hy⟩ : ∃ y, y = f i := ⟨_, rfl⟩
      rw [← hy] at hcell hfi
      have HX := Lib.hid hx
      have HY := Lib.hid hy
      clear hx hy hrd
      have OWN := Lib.hid own
      clear own
      have hij : n - i = j + 1 := by omega
      have hij' : n - (i + 1) = j := by omega
      have hfj : f i = f (n - 1 - j) := by congr 1; omega
      have HIJ := Lib.hid (And.intro hij (And.intro hij' hfj))
      clear hij hij' hfj
      by_cases hpar : j % 2 = 0
      · have hm : (j : Int) % 2 = 0 := by omega
        have hbor : bits .or .i64 (x : Int) (y : Int) = ((x + y : Nat) : Int) := by
          obtain ⟨r, h1, h2⟩ := (pairs_even f hf hjn hpar).1
          exact or_i64_even x y r (by rw [HX.out, HIJ.out.1]; exact h1) h2 hfi
        have hxx : (x : Int) + (y : Int) = ((x + y : Nat) : Int) := by omega
        have HXX := Lib.hid hxx
        clear hxx
        go_wp2
        go_region
        go_wp2
        go_roundw
        case rel =>
          go_light
          refine ⟨i + 1, by omega, by go_num, ?_, Below.drew (bel.setCell (Nat.le_refl _) _)⟩
          rw [HXX.out]
          refine ((OWN.out.stored (j / 2) (x + y)).drew).congr fun q _ => ?_
          rw [HIJ.out.2.1, (pairs_even f hf hjn hpar).2 q, HIJ.out.1, HX.out, HY.out, HIJ.out.1, HIJ.out.2.2]
        case measure => simp [intOf]; omega
      · have hm : (j : Int) % 2 = 1 := by omega
        have hx0 : x = 0 := by rw [HX.out, HIJ.out.1]; exact (pairs_odd f hjn (by omega)).1
        subst hx0
        have hbor := or_i64_odd y hfi
        have hxx : (y : Int) * 256 = ((y * 256 : Nat) : Int) := by omega
        have HXX := Lib.hid hxx
        clear hxx
        go_wp2
        go_region
        go_wp2
        go_roundw
        case rel =>
          go_light
          refine ⟨i + 1, by omega, by go_num, ?_, Below.drew (bel.setCell (Nat.le_refl _) _)⟩
          rw [HXX.out]
          refine ((OWN.out.stored (j / 2) (y * 256)).drew).congr fun q _ => ?_
          rw [HIJ.out.2.1, (pairs_odd f hjn (by omega)).2 q, HIJ.out.1, HY.out, HIJ.out.2.2]
        case measure => simp [intOf]; omega
    · obtain rfl : i = n := by omega
      obtain ⟨ao2, c, hv, hle, hcm, hrd2, _⟩ := own.parts
      rw [Nat.sub_self] at own hrd2
      simp at hv
      obtain ⟨rfl, rfl⟩ := hv
      go_wp2_with fail
      refine (cut_any _ _ _ _ _ (Nat.le_refl _) (by omega) hrd2).mono ?_
      rintro e w' ⟨rfl, rfl⟩
      have OWN := Lib.hid own
      have BEL := Lib.hid bel
      clear own bel hrd2 hrd
      go_wp2
      go_ret
      exact ⟨_, _, rfl, OWN.out.cut (clen_le _ _), BEL.out⟩

theorem pairs_lt {g : Nat → Nat} (hg : ∀ i, g i < 256) (j : Nat) : pairs g j < 65536 := by
  have h1 := hg (2 * j)
  have h2 := hg (2 * j + 1)
  unfold pairs; omega
theorem val_pairs (g : Nat → Nat) (m : Nat) : val 65536 (pairs g) m = val 256 g (2 * m) := by
  induction m with
  | zero => rfl
  | succ m ih =>
    rw [show 2 * (m + 1) = 2 * m + 1 + 1 by omega]
    simp only [val, ih, pairs]
    rw [show (65536 : Nat) = 256 ^ 2 by rfl, ← Nat.pow_mul, Nat.pow_succ 256 (2 * m), Nat.add_mul, Nat.add_assoc]
    congr 2
    rw [Nat.mul_assoc, Nat.mul_comm 256, Nat.mul_assoc]

theorem val_rev (f : Nat → Nat) (n m : Nat) (h : n ≤ m) : val 256 (rev f n 0) m = bval f n := by
  rw [val_drop h fun i h1 _ => by unfold rev; rw [if_neg (by omega)]]
  exact val_congr fun i hi => by unfold rev; rw [if_pos ⟨by omega, hi⟩]

/-- spec.OfBytes: the digits, of 16 bits, of the number of the bytes, in new memory. -/
theorem ofBytes_any (ao : Option Addr) (n cap : Nat) (f : Nat → Nat) (hf : ∀ i, f i < 256) (w : World) (hn : n ≤ cap) (hb : n ≤ 2147483647)
    (hrd : Reads w .u8 ao n f) :
    Calls Try.prog 8 #[.slice ao n cap] w fun e w' => ∃ v, e = .returned v ∧ Own w' w.heap.size 3 .i64 v (nlen 65536 (bval f n)) (dig 65536 (bval f n)) ∧ Below w.heap.size w w' := by
  refine (ofBytes_walk ao n cap f hf w hn hb hrd).mono fun e w' ⟨ao', c, he, hown, hbel⟩ => ⟨_, he, ?_, hbel⟩
  have hl : ∀ i, i < (n + 1) / 2 → pairs (rev f n 0) i < 65536 := fun i _ => pairs_lt (rev_lt hf n 0) i
  have hv : val 65536 (pairs (rev f n 0)) ((n + 1) / 2) = bval f n := by rw [val_pairs, val_rev _ _ _ (by omega)]
  have hc := clen_val (B := 65536) (by omega) hl
  rw [hv] at hc
  rw [hc] at hown ⊢
  refine hown.congr fun i hi => ?_
  rw [← hv]
  refine (val_dig hl ?_).symm
  have := clen_le (pairs (rev f n 0)) ((n + 1) / 2)
  omega

end Go.Proofs.Ytidifjmjbfhpaaa
