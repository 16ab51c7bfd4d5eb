/- big.subVW: a word taken from a row of words. -/
import Derived.Test.YtidifjmjbfhpaaaDoorCopyRow
import Derived.Deep.RegionHeld3
namespace Go.Proofs.YtidifjmjbfhpaaaDoor
set_option linter.unusedVariables false
set_option maxRecDepth 20000
set_option linter.unusedSimpArgs false
open Go.RowKit

/-- One digit, the lowest. -/
def low (y : Nat) : Nat → Nat := fun j => if j = 0 then y else 0

theorem bor_rest {f : Nat → Nat} {y i : Nat} (hi : 1 ≤ i) (h : bor f (low y) i = 0) : ∀ j, i ≤ j → bor f (low y) j = 0 := by
  intro j hj
  induction j with
  | zero => omega
  | succ j ih =>
    by_cases e : i = j + 1
    · rw [← e]; exact h
    · have hb := ih (by omega)
      show (if f j < low y j + bor f (low y) j then 1 else 0) = 0
      rw [hb, show low y j = 0 from if_neg (by omega)]
      simp

theorem sdg_rest {f : Nat → Nat} {y i : Nat} (hi : 1 ≤ i) (h : bor f (low y) i = 0) (j : Nat) (hj : i ≤ j) (hf : f j < BW) : sdg BW f (low y) j = f j := by
  unfold sdg
  rw [bor_rest hi h j hj, show low y j = 0 from if_neg (by omega), Nat.sub_zero, Nat.sub_zero, Nat.add_mod_right, Nat.mod_eq_of_lt hf]

theorem updr_cat (F : Nat → Nat) (o : Nat) (s h : Nat → Nat) (i n : Nat) (hin : i ≤ n) (hs : ∀ j, i ≤ j → j < n → h (j - i) = s j) (j : Nat) :
    updr (updr F o s i) (o + i) h (n - i) j = updr F o s n j := by
  unfold updr
  by_cases h1 : o + i ≤ j ∧ j < o + i + (n - i)
  · rw [if_pos h1, if_pos (by omega), ← hs (j - o) (by omega) (by omega)]
    congr 1; omega
  · rw [if_neg h1]
    by_cases h2 : o ≤ j ∧ j < o + i
    · rw [if_pos h2, if_pos (by omega)]
    · rw [if_neg h2, if_neg (by omega)]

theorem own_store_first {w : World} {base g N c0 o d0 : Nat} {e : TypeId} {F s : Nat → Nat} (own : Own w base e .u64 (.slice (some ⟨g, 0, none⟩) N c0) N F) (hd : d0 = s 0) :
    Own (w.setCell ⟨g, o, none⟩ (.int .u64 d0)) base e .u64 (.slice (some ⟨g, 0, none⟩) N c0) N (updr F o s 1) :=
  (own.stored o d0).congr fun j _ => by
    have h := updr_succ F o s 0 d0 hd j
    rw [← h, Nat.add_zero]
    unfold upd
    split
    · rfl
    · rw [updr_zero]
theorem own_block {w : World} {base g N c0 : Nat} {e : TypeId} {k : IntKind} {F : Nat → Nat} (own : Own w base e k (.slice (some ⟨g, 0, none⟩) N c0) N F) : ∃ c, w.heap[g]? = some (.cells c e (0, 0)) := by
  rcases own.2 with ⟨h', _⟩ | ⟨g', cap', cur, h', hb, hg, _⟩
  · simp at h'
  · simp only [Value.slice.injEq, Option.some.injEq, Addr.mk.injEq, and_true, true_and] at h'
    obtain ⟨rfl, rfl⟩ := h'
    exact ⟨_, hg⟩
theorem reads_if {w : World} {k : IntKind} {a b : Option Addr} {n : Nat} {f : Nat → Nat} {c : Prop} [Decidable c] (h : Reads w k b n f) (hc : 0 < n → ¬ c) : Reads w k (if c then a else b) n f := by
  intro i hi
  rw [if_neg (hc (by omega))]
  exact h i hi
theorem reads_from {w : World} {k : IntKind} {b o n : Nat} {f : Nat → Nat} (h : Reads w k (some ⟨b, o, none⟩) n f) (i : Nat) (hi : i ≤ n) : Reads w k (some ⟨b, o + i, none⟩) (n - i) (fun j => f (i + j)) := by
  intro j hj
  have := h.cellAt (i := i + j) (by omega)
  exact ⟨b, o + i, rfl, by rw [Nat.add_assoc]; exact this⟩

set_option maxHeartbeats 1000000 in
theorem subVW_any (base g o n N cz c0 y : Nat) (F : Nat → Nat) (ax : Option Addr) (cx : Nat) (f : Nat → Nat) (w : World) (hn1 : 1 ≤ n) (hn : n ≤ 100000000000) (hoN : o + n ≤ N) (hcz : n ≤ cz) (hcx : n ≤ cx) (hy : y < BW)
    (own : Own w base 83 .u64 (.slice (some ⟨g, 0, none⟩) N c0) N F) (hf : ∀ i, i < n → f i < BW)
    (hrdx : Reads w .u64 ax n f) (hxg : ∀ a, ax = some a → a.block ≠ g) (hxb : ∀ a, ax = some a → ∃ c t, w.heap[a.block]? = some (.cells c t (0, 0))) :
    Calls Tryd.prog 78 #[.slice (some ⟨g, o, none⟩) n cz, .slice ax n cx, .int .u64 y] w fun e w' => e = .returned (.int .u64 ((bor f (low y) n : Nat) : Int)) ∧ Own w' base 83 .u64 (.slice (some ⟨g, 0, none⟩) N c0) N (updr F o (sdg BW f (low y)) n) ∧ w.grownBy w' (some g) := by
  obtain ⟨j0, hj0, hjz0, hjz1, hjz2⟩ := info_parts info_Word
  obtain ⟨bx, ox, rfl, hcx0⟩ := hrdx 0 (by omega)
  obtain ⟨ccx, tx, hbx⟩ := hxb _ rfl
  have hgx : bx ≠ g := hxg _ rfl
  have hb0 : bor f (low y) 0 = 0 := rfl
  have hb1 : bor f (low y) 1 = if f 0 < y + 0 then 1 else 0 := rfl
  have hs0 : sdg BW f (low y) 0 = (f 0 + BW - y - 0) % BW := rfl
  have K0 := bitsSub_any (f 0) y 0 (sdg BW f (low y) 0) (bor f (low y) 1) (by omega) (hf 0 (by omega)) hy hs0 hb1 w
  have hc0 := own.cell o (by omega)
  have hfz := own.free o
  obtain ⟨x0, hx0⟩ : ∃ x, x = f 0 := ⟨_, rfl⟩
  obtain ⟨d0, hd0⟩ : ∃ x, x = sdg BW f (low y) 0 := ⟨_, rfl⟩
  obtain ⟨b1, hb1'⟩ : ∃ x, x = bor f (low y) 1 := ⟨_, rfl⟩
  rw [← hx0, ← hd0, ← hb1'] at K0
  rw [← hx0, Nat.add_zero] at hcx0
  have hd0l : d0 < BW := by rw [hd0]; exact Nat.mod_lt _ BW_pos
  rw [BW_eq] at hd0l
  have hb1l : b1 ≤ 1 := by rw [hb1']; exact bor_le _ _ _
  have w4 : IntKind.u64.wrap (d0 : Int) = (d0 : Int) := by rw [IntKind.wrap_u64]; omega
  have w5 : IntKind.u64.wrap (b1 : Int) = (b1 : Int) := by rw [IntKind.wrap_u64]; omega
  have hyw : IntKind.u64.wrap (y : Int) = (y : Int) := by rw [IntKind.wrap_u64]; rw [BW_eq] at hy; omega
  have G := Lib.hid (And.intro own (And.intro hrdx (And.intro hf (And.intro hd0 (And.intro hb1' hbx)))))
  have KK := Lib.hid (show Calls Tryd.prog 85 #[.int .u64 x0, .int .u64 y, .int .u64 0] w fun e w' => e = .returned (.tuple #[.int .u64 d0, .int .u64 b1]) ∧ w' = w from K0)
  have hn0 : ((n : Int) == 0) = false := by simp; omega
  clear own hrdx hf hxg hxb hb0 hb1 hs0 K0 hx0 hd0 hb1' hy hbx
  by_cases hb : b1 = 0
  · subst hb
    go_enter Tryd.func78, Tryd.ntmps78
    go_wp2_with fail
    refine KK.out.mono ?_
    rintro e w1 ⟨rfl, rfl⟩
    go_wp2_with fail
    obtain ⟨W2, hW2⟩ : ∃ W, W = w1.setCell ⟨g, o, none⟩ (.int .u64 d0) := ⟨_, rfl⟩
    have own2 : Own W2 base 83 .u64 (.slice (some ⟨g, 0, none⟩) N c0) N (updr F o (sdg BW f (low y)) 1) := by
      rw [hW2]; exact own_store_first G.out.1 G.out.2.2.2.1
    have gr2 : w1.grownBy W2 (some g) := by rw [hW2]; exact grown_setCell w1 ⟨g, o, none⟩ _
    have hbx2 : W2.heap[bx]? = some (.cells ccx tx (0, 0)) := by rw [gr2.block bx (lt_of_block G.out.2.2.2.2.2) (by simpa using hgx)]; exact G.out.2.2.2.2.2
    obtain ⟨cg2, hbg2⟩ := own_block own2
    have hneq : ∀ x, (binOp .neq 116 (.pointer (some ⟨g, o, none⟩)) (.pointer (some ⟨bx, ox, none⟩))).run Tryd.prog (W2.drewN x) = .ok (.bool true) (W2.drewN x) := fun x =>
      run_neq_ptr_other (W2.drewN x) Tryd.underlying116 hj0 (by rw [hjz1]; omega) (fun e => by injection e with e1; exact hgx e1.symm) hbg2 hbx2
    have hrd2 : Reads W2 .u64 (some ⟨bx, ox, none⟩) n f := G.out.2.1.grown gr2 (by intro a ha; cases ha; simpa using hgx)
    have HW2 := Lib.hid hW2
    have G2 := Lib.hid (And.intro own2 (And.intro gr2 hrd2))
    rw [← hW2]
    clear hW2 own2 gr2 hrd2 hbx2 hbg2 hc0 hfz hcx0 KK
    go_quiet (fail)
    go_wp2_with fail
    have hrow := (G2.out.1.drewN nq).drew
    have hsrc := reads_from (w := (W2.drewN nq).drew) G2.out.2.2 1 hn1
    have hszW : (Tryd.prog.info? 83).map (·.size) = some 1 := by rw [hj0]; simp [hjz1]
    have hn1i : (1 : Int) ≤ (n : Int) := by omega
    go_region_law (refine step_copy_row rfl (.tmp 40) (.tmp 42) 69 69 rfl 83 Tryd.underlying69 hszW _ _ _ _ _ _ rfl rfl base .u64 g N c0 _ hrow (o + 1) (n - 1) _ (by omega) (by omega) (by intro h; exact if_neg (by omega)) (reads_if hsrc (fun h => by omega)) (by omega) ?_; intro w9 own9 gr9)
    have FF := Lib.hid (And.intro (own9.congr (g := updr F o (sdg BW f (low y)) n) fun j _ => updr_cat F o (sdg BW f (low y)) _ 1 n hn1 (fun j hj1 hj2 => by rw [sdg_rest (Nat.le_refl 1) G.out.2.2.2.2.1.symm j hj1 (G.out.2.2.1 j hj2), show 1 + (j - 1) = j by omega]) j) (grown_trans (grown_trans G2.out.2.1 (grown_drewN W2 (nq + 1) _)) gr9))
    have HB := Lib.hid (bor_rest (Nat.le_refl 1) G.out.2.2.2.2.1.symm n hn1)
    clear own9 gr9 hrow hsrc hneq
    go_wp2
    all_goals go_ret
    all_goals exact ⟨by rw [HB.out]; rfl, FF.out.1, FF.out.2⟩
  · obtain rfl : b1 = 1 := by omega
    have hcell : ∀ wr i, w.grownBy wr (some g) → i < n → wr.cell? ⟨bx, ox + i, none⟩ = some (.int .u64 (f i)) := fun wr i hg hi => by
      have h := G.out.2.1.cellAt hi
      exact (World.cell?_of_block (w := w) (hg.block bx (World.block_lt_of_cell? _ _ h) (by simpa using hgx))).trans h
    have HC := Lib.hid hcell
    clear hcell
    go_enter Tryd.func78, Tryd.ntmps78
    go_wp2_with fail
    refine KK.out.mono ?_
    rintro e w1 ⟨rfl, rfl⟩
    have O1 := Lib.hid (And.intro (own_store_first (o := o) (d0 := d0) G.out.1 G.out.2.2.2.1) (grown_setCell w1 ⟨g, o, none⟩ (.int .u64 d0)))
    clear KK
    go_wp2
    go_loopw [9] (fun t wr => ∃ i : Nat, 1 ≤ i ∧ i ≤ n ∧ t = .int .i64 i ∧ Own wr base 83 .u64 (.slice (some ⟨g, 0, none⟩) N c0) N (updr F o (sdg BW f (low y)) i) ∧ w1.grownBy wr (some g) ∧ Hid (bor f (low y) i = 1)) (fun t _ => n - (intOf t).toNat)
    case atStart => exact ⟨1, Nat.le_refl _, hn1, rfl, O1.out.1, O1.out.2, Lib.hid G.out.2.2.2.2.1.symm⟩
    case round =>
      obtain ⟨i, hi1, hin, rfl, own, gr, hbi⟩ := hrel
      clear O1
      by_cases h1 : i < n
      · have hci := HC.out wr i gr h1
        have hfi := G.out.2.2.1 i h1
        have hlow : low y i = 0 := if_neg (by omega)
        have hbn : bor f (low y) (i + 1) = if f i < low y i + bor f (low y) i then 1 else 0 := rfl
        have hsi : sdg BW f (low y) i = (f i + BW - low y i - bor f (low y) i) % BW := rfl
        rw [hlow, hbi.out] at hbn hsi
        obtain ⟨x, hx⟩ : ∃ x, x = f i := ⟨_, rfl⟩
        rw [← hx] at hci hfi hbn hsi
        rw [BW_eq] at hfi
        have hc := own.cell (o + i) (by omega)
        have hfz := own.free (o + i)
        by_cases hx0 : x = 0
        · subst hx0
          have hbn2 : Hid (bor f (low y) (i + 1) = 1) := Lib.hid hbn
          have hs2 : Hid (18446744073709551615 = sdg BW f (low y) i) := Lib.hid (by rw [hsi]; rfl)
          have F2 := Lib.hid (And.intro own gr)
          clear own gr hbn hsi hx
          go_wp2
          go_roundw
          case rel =>
            go_light
            refine ⟨i + 1, by omega, by omega, by go_num, ?_, grown_trans F2.out.2 (grown_setCell _ ⟨g, o + i, none⟩ _), hbn2⟩
            exact (F2.out.1.stored (o + i) 18446744073709551615).congr fun j _ => updr_succ _ _ _ _ _ hs2.out j
          case measure => simp [intOf]; omega
        · have hbn2 : bor f (low y) (i + 1) = 0 := by rw [hbn, if_neg (by omega)]
          have hs2 : x - 1 = sdg BW f (low y) i := by rw [hsi, BW_eq, show x + 18446744073709551616 - 0 - 1 = x - 1 + 18446744073709551616 by omega, Nat.add_mod_right, Nat.mod_eq_of_lt (by omega)]
          have hxs : ((x : Int) - 1) = ((x - 1 : Nat) : Int) := by omega
          have hxd : ((x : Int) == 0) = false := by simp; omega
          have hsum : IntKind.i64.wrap ((i : Int) + 1) = (i : Int) + 1 := by rw [IntKind.wrap_i64]; omega
          have hsub : IntKind.u64.wrap ((x : Int) - 1) = ((x - 1 : Nat) : Int) := by rw [IntKind.wrap_u64]; omega
          have HS := Lib.hid (And.intro hbn2 hs2)
          have F2 := Lib.hid (And.intro own gr)
          clear own gr hbn hsi hx hbn2 hs2 hxs
          go_wp2_with fail
          obtain ⟨W2, hW2⟩ : ∃ W, W = wr.setCell ⟨g, o + i, none⟩ (.int .u64 ((x - 1 : Nat) : Int)) := ⟨_, rfl⟩
          have own2 : Own W2 base 83 .u64 (.slice (some ⟨g, 0, none⟩) N c0) N (updr F o (sdg BW f (low y)) (i + 1)) := by
            rw [hW2]; exact (F2.out.1.stored (o + i) (x - 1)).congr fun j _ => updr_succ _ _ _ _ _ HS.out.2 j
          have gr2 : w1.grownBy W2 (some g) := by rw [hW2]; exact grown_trans F2.out.2 (grown_setCell wr ⟨g, o + i, none⟩ _)
          have hbx2 : W2.heap[bx]? = some (.cells ccx tx (0, 0)) := by rw [gr2.block bx (lt_of_block G.out.2.2.2.2.2) (by simpa using hgx)]; exact G.out.2.2.2.2.2
          obtain ⟨cg2, hbg2⟩ := own_block own2
          have hneq : ∀ x, (binOp .neq 116 (.pointer (some ⟨g, o, none⟩)) (.pointer (some ⟨bx, ox, none⟩))).run Tryd.prog (W2.drewN x) = .ok (.bool true) (W2.drewN x) := fun x =>
            run_neq_ptr_other (W2.drewN x) Tryd.underlying116 hj0 (by rw [hjz1]; omega) (fun e => by injection e with e1; exact hgx e1.symm) hbg2 hbx2
          have hrd2 : Reads W2 .u64 (some ⟨bx, ox, none⟩) n f := G.out.2.1.grown gr2 (by intro a ha; cases ha; simpa using hgx)
          have G2 := Lib.hid (And.intro own2 (And.intro gr2 hrd2))
          rw [← hW2]
          clear hW2 own2 gr2 hrd2 hbx2 hbg2 hc hfz hci hc0 hcx0 F2
          go_quiet (fail)
          go_wp2_with fail
          have hrow := (G2.out.1.drewN nq).drew
          have hsrc := reads_from (w := (W2.drewN nq).drew) G2.out.2.2 (i + 1) (by omega)
          have hszW : (Tryd.prog.info? 83).map (·.size) = some 1 := by rw [hj0]; simp [hjz1]
          have hi1i : (i : Int) + 1 ≤ (n : Int) := by omega
          have hi0i : (0 : Int) ≤ (i : Int) + 1 := by omega
          go_region_held3 (fun _ => True) (trivial) (first | (refine step_copy_row rfl (.tmp 69) (.tmp 73) 69 69 rfl 83 Tryd.underlying69 hszW _ _ _ _ _ _ rfl rfl base .u64 g N c0 _ hrow (o + (i + 1)) (n - (i + 1)) _ (by omega) (by omega) (by intro h; exact if_neg (by omega)) (reads_if hsrc (fun h => by omega)) (by omega) ?_; intro w9 own9 gr9))
          have FF := Lib.hid (And.intro (own9.congr (g := updr F o (sdg BW f (low y)) n) fun j _ => updr_cat F o (sdg BW f (low y)) _ (i + 1) n h1 (fun j hj1 hj2 => by rw [sdg_rest (by omega) HS.out.1 j hj1 (G.out.2.2.1 j hj2), show i + 1 + (j - (i + 1)) = j by omega]) j) (grown_trans (grown_trans G2.out.2.1 (grown_drewN W2 (nq + 1) _)) gr9))
          have HB := Lib.hid (bor_rest (show 1 ≤ i + 1 by omega) HS.out.1 n h1)
          clear own9 gr9 hrow hsrc hneq
          go_wp2
          all_goals go_ret
          all_goals exact ⟨by rw [HB.out]; rfl, FF.out.1, FF.out.2⟩
      · obtain rfl : i = n := by omega
        have F2 := Lib.hid (And.intro own gr)
        clear own gr
        go_wp2
        go_ret
        exact ⟨by rw [hbi.out]; rfl, F2.out.1, F2.out.2⟩

end Go.Proofs.YtidifjmjbfhpaaaDoor
