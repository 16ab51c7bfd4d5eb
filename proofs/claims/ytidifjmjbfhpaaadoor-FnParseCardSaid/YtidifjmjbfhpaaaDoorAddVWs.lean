/- big.addVW: a word added to a row of words, into another row. -/
/- big.addVW in place: a word added to a row of words. -/
import Derived.Test.YtidifjmjbfhpaaaDoorCarries
import Derived.Test.YtidifjmjbfhpaaaDoorSubVW
import Derived.Lib.Builder
namespace Go.Proofs.YtidifjmjbfhpaaaDoor
set_option linter.unusedVariables false
set_option maxRecDepth 20000
set_option linter.unusedSimpArgs false
set_option maxRecDepth 20000
open Go.RowKit

theorem car_rest {f : Nat → Nat} {y i n : Nat} (hf : ∀ j, j < n → f j < BW) (hi : 1 ≤ i) (h : car BW f (low y) i = 0) : ∀ j, i ≤ j → j ≤ n → car BW f (low y) j = 0 := by
  intro j hj hjn
  induction j with
  | zero => omega
  | succ j ih =>
    by_cases e : i = j + 1
    · rw [← e]; exact h
    · have hb := ih (by omega) (by omega)
      show (f j + low y j + car BW f (low y) j) / BW = 0
      rw [hb, show low y j = 0 from if_neg (by omega), Nat.add_zero]
      exact Nat.div_eq_of_lt (hf j (by omega))

theorem adg_rest {f : Nat → Nat} {y i n : Nat} (hf : ∀ j, j < n → f j < BW) (hi : 1 ≤ i) (h : car BW f (low y) i = 0) (j : Nat) (hj : i ≤ j) (hjn : j < n) : adg BW f (low y) j = f j := by
  show (f j + low y j + car BW f (low y) j) % BW = f j
  rw [car_rest hf hi h j hj (by omega), show low y j = 0 from if_neg (by omega), Nat.add_zero]
  exact Nat.mod_eq_of_lt (hf j hjn)

set_option maxHeartbeats 1000000 in
theorem addVW_far (base g o n N cz c0 y : Nat) (F : Nat → Nat) (ax : Option Addr) (cx : Nat) (f : Nat → Nat) (w : World) (hn1 : 1 ≤ n) (hn : n ≤ 100000000000) (hoN : o + n ≤ N) (hcz : n ≤ cz) (hcx : n ≤ cx) (hy : y < BW)
    (own : Own w base 83 .u64 (.slice (some ⟨g, 0, none⟩) N c0) N F) (hf : ∀ i, i < n → f i < BW)
    (hrdx : Reads w .u64 ax n f) (hxg : ∀ a, ax = some a → a.block ≠ g) (hxb : ∀ a, ax = some a → ∃ c t, w.heap[a.block]? = some (.cells c t (0, 0))) :
    Calls Tryd.prog 80 #[.slice (some ⟨g, o, none⟩) n cz, .slice ax n cx, .int .u64 y] w fun e w' => e = .returned (.int .u64 ((car BW f (low y) n : Nat) : Int)) ∧ Own w' base 83 .u64 (.slice (some ⟨g, 0, none⟩) N c0) N (updr F o (adg BW f (low y)) n) ∧ w.grownBy w' (some g) := by
  obtain ⟨j0, hj0, hjz0, hjz1, hjz2⟩ := info_parts info_Word
  obtain ⟨bx, ox, rfl, hcx0⟩ := hrdx 0 (by omega)
  obtain ⟨ccx, tx, hbx⟩ := hxb _ rfl
  have hgx : bx ≠ g := hxg _ rfl
  have hb0 : car BW f (low y) 0 = 0 := rfl
  have hb1 : car BW f (low y) 1 = (f 0 + y + 0) / BW := rfl
  have hs0 : adg BW f (low y) 0 = (f 0 + y + 0) % BW := rfl
  have K0 := bitsAdd_any (f 0) y 0 (adg BW f (low y) 0) (car BW f (low y) 1) (by omega) (hf 0 (by omega)) hy hs0 hb1 w
  have hc0 := own.cell o (by omega)
  have hfz := own.free o
  obtain ⟨x0, hx0⟩ : ∃ x, x = f 0 := ⟨_, rfl⟩
  obtain ⟨d0, hd0⟩ : ∃ x, x = adg BW f (low y) 0 := ⟨_, rfl⟩
  obtain ⟨b1, hb1'⟩ : ∃ x, x = car BW f (low y) 1 := ⟨_, rfl⟩
  rw [← hx0, ← hd0, ← hb1'] at K0
  rw [← hx0, Nat.add_zero] at hcx0
  have hd0l : d0 < BW := by rw [hd0]; exact Nat.mod_lt _ BW_pos
  rw [BW_eq] at hd0l
  have hb1l : b1 ≤ 1 := by rw [hb1']; exact car_le BW_pos 1 (fun j hj => hf j (by omega)) (fun j hj => by rw [show j = 0 by omega]; exact hy)
  have w4 : IntKind.u64.wrap (d0 : Int) = (d0 : Int) := by rw [IntKind.wrap_u64]; omega
  have w5 : IntKind.u64.wrap (b1 : Int) = (b1 : Int) := by rw [IntKind.wrap_u64]; omega
  have hyw : IntKind.u64.wrap (y : Int) = (y : Int) := by rw [IntKind.wrap_u64]; rw [BW_eq] at hy; omega
  have G := Lib.hid (And.intro own (And.intro hrdx (And.intro hf (And.intro hd0 (And.intro hb1' hbx)))))
  have KK := Lib.hid (show Calls Tryd.prog 87 #[.int .u64 x0, .int .u64 y, .int .u64 0] w fun e w' => e = .returned (.tuple #[.int .u64 d0, .int .u64 b1]) ∧ w' = w from K0)
  have hn0 : ((n : Int) == 0) = false := by simp; omega
  clear own hrdx hf hxg hxb hb0 hb1 hs0 K0 hx0 hd0 hb1' hy hbx
  by_cases hb : b1 = 0
  · subst hb
    go_enter Tryd.func80, Tryd.ntmps80
    go_wp2_with fail
    refine KK.out.mono ?_
    rintro e w1 ⟨rfl, rfl⟩
    go_wp2_with fail
    obtain ⟨W2, hW2⟩ : ∃ W, W = w1.setCell ⟨g, o, none⟩ (.int .u64 d0) := ⟨_, rfl⟩
    have own2 : Own W2 base 83 .u64 (.slice (some ⟨g, 0, none⟩) N c0) N (updr F o (adg BW f (low y)) 1) := by
      rw [hW2]; exact own_store_first G.out.1 G.out.2.2.2.1
    have gr2 : w1.grownBy W2 (some g) := by rw [hW2]; exact grown_setCell w1 ⟨g, o, none⟩ _
    have hbx2 : W2.heap[bx]? = some (.cells ccx tx (0, 0)) := by rw [gr2.block bx (lt_of_block G.out.2.2.2.2.2) (by simpa using hgx)]; exact G.out.2.2.2.2.2
    obtain ⟨cg2, hbg2⟩ := own_block own2
    have hneq : ∀ x, (binOp .neq 116 (.pointer (some ⟨g, o, none⟩)) (.pointer (some ⟨bx, ox, none⟩))).run Tryd.prog (W2.drewN x) = .ok (.bool true) (W2.drewN x) := fun x =>
      run_neq_ptr_other (W2.drewN x) Tryd.underlying116 hj0 (by rw [hjz1]; omega) (fun e => by injection e with e1; exact hgx e1.symm) hbg2 hbx2
    have hrd2 : Reads W2 .u64 (some ⟨bx, ox, none⟩) n f := G.out.2.1.grown gr2 (by intro a ha; cases ha; simpa using hgx)
    have HW2 := Lib.hid hW2
    have G2 := Lib.hid (And.intro own2 (And.intro gr2 hrd2))
    rw [← hW2]
    clear hW2 own2 gr2 hrd2 hbx2 hbg2 hc0 hfz hcx0 KK
    go_quiet (fail)
    go_wp2_with fail
    have hrow := (G2.out.1.drewN nq).drew
    have hsrc := reads_from (w := (W2.drewN nq).drew) G2.out.2.2 1 hn1
    have hszW : (Tryd.prog.info? 83).map (·.size) = some 1 := by rw [hj0]; simp [hjz1]
    have hn1i : (1 : Int) ≤ (n : Int) := by omega
    go_region_law (refine step_copy_row rfl (.tmp 40) (.tmp 42) 69 69 rfl 83 Tryd.underlying69 hszW _ _ _ _ _ _ rfl rfl base .u64 g N c0 _ hrow (o + 1) (n - 1) _ (by omega) (by omega) (by intro h; exact if_neg (by omega)) (reads_if hsrc (fun h => by omega)) (by omega) ?_; intro w9 own9 gr9)
    have FF := Lib.hid (And.intro (own9.congr (g := updr F o (adg BW f (low y)) n) fun j _ => updr_cat F o (adg BW f (low y)) _ 1 n hn1 (fun j hj1 hj2 => by rw [adg_rest G.out.2.2.1 (Nat.le_refl 1) G.out.2.2.2.2.1.symm j hj1 hj2, show 1 + (j - 1) = j by omega]) j) (grown_trans (grown_trans G2.out.2.1 (grown_drewN W2 (nq + 1) _)) gr9))
    have HB := Lib.hid (car_rest G.out.2.2.1 (Nat.le_refl 1) G.out.2.2.2.2.1.symm n hn1 (Nat.le_refl n))
    clear own9 gr9 hrow hsrc hneq
    go_wp2
    all_goals go_ret
    all_goals exact ⟨by rw [HB.out]; rfl, FF.out.1, FF.out.2⟩
  · obtain rfl : b1 = 1 := by omega
    have hcell : ∀ wr i, w.grownBy wr (some g) → i < n → wr.cell? ⟨bx, ox + i, none⟩ = some (.int .u64 (f i)) := fun wr i hg hi => by
      have h := G.out.2.1.cellAt hi
      exact (World.cell?_of_block (w := w) (hg.block bx (World.block_lt_of_cell? _ _ h) (by simpa using hgx))).trans h
    have HC := Lib.hid hcell
    clear hcell
    go_enter Tryd.func80, Tryd.ntmps80
    go_wp2_with fail
    refine KK.out.mono ?_
    rintro e w1 ⟨rfl, rfl⟩
    have O1 := Lib.hid (And.intro (own_store_first (o := o) (d0 := d0) G.out.1 G.out.2.2.2.1) (grown_setCell w1 ⟨g, o, none⟩ (.int .u64 d0)))
    clear KK
    go_wp2
    go_loopw [9] (fun t wr => ∃ i : Nat, 1 ≤ i ∧ i ≤ n ∧ t = .int .i64 i ∧ Own wr base 83 .u64 (.slice (some ⟨g, 0, none⟩) N c0) N (updr F o (adg BW f (low y)) i) ∧ w1.grownBy wr (some g) ∧ Hid (car BW f (low y) i = 1)) (fun t _ => n - (intOf t).toNat)
    case atStart => exact ⟨1, Nat.le_refl _, hn1, rfl, O1.out.1, O1.out.2, Lib.hid G.out.2.2.2.2.1.symm⟩
    case round =>
      obtain ⟨i, hi1, hin, rfl, own, gr, hbi⟩ := hrel
      clear O1
      by_cases h1 : i < n
      · have hci := HC.out wr i gr h1
        have hfi := G.out.2.2.1 i h1
        have hlow : low y i = 0 := if_neg (by omega)
        have hbn : car BW f (low y) (i + 1) = (f i + low y i + car BW f (low y) i) / BW := rfl
        have hsi : adg BW f (low y) i = (f i + low y i + car BW f (low y) i) % BW := rfl
        rw [hlow, hbi.out] at hbn hsi
        obtain ⟨x, hx⟩ : ∃ x, x = f i := ⟨_, rfl⟩
        rw [← hx] at hci hfi hbn hsi
        rw [BW_eq] at hfi
        have hc := own.cell (o + i) (by omega)
        have hfz := own.free (o + i)
        by_cases hx0 : x = 18446744073709551615
        · subst hx0
          have hbn2 : Hid (car BW f (low y) (i + 1) = 1) := Lib.hid hbn
          have hs2 : Hid (0 = adg BW f (low y) i) := Lib.hid (by rw [hsi]; rfl)
          have F2 := Lib.hid (And.intro own gr)
          clear own gr hbn hsi hx
          go_wp2
          go_roundw
          case rel =>
            go_light
            refine ⟨i + 1, by omega, by omega, by go_num, ?_, grown_trans F2.out.2 (grown_setCell _ ⟨g, o + i, none⟩ _), hbn2⟩
            exact (F2.out.1.stored (o + i) 0).congr fun j _ => updr_succ _ _ _ _ _ hs2.out j
          case measure => simp [intOf]; omega
        · have hbn2 : car BW f (low y) (i + 1) = 0 := by rw [hbn, BW_eq]; exact Nat.div_eq_of_lt (by omega)
          have hs2 : x + 1 = adg BW f (low y) i := by rw [hsi, BW_eq, Nat.add_zero, Nat.mod_eq_of_lt (by omega)]
          have hxd : ((x : Int) == 18446744073709551615) = false := by simp; omega
          have hsum : IntKind.i64.wrap ((i : Int) + 1) = (i : Int) + 1 := by rw [IntKind.wrap_i64]; omega
          have hsub : IntKind.u64.wrap ((x : Int) + 1) = ((x + 1 : Nat) : Int) := by rw [IntKind.wrap_u64]; omega
          have HS := Lib.hid (And.intro hbn2 hs2)
          have F2 := Lib.hid (And.intro own gr)
          clear own gr hbn hsi hx hbn2 hs2
          go_wp2_with fail
          obtain ⟨W2, hW2⟩ : ∃ W, W = wr.setCell ⟨g, o + i, none⟩ (.int .u64 ((x : Int) + 1)) := ⟨_, rfl⟩
          have own2 : Own W2 base 83 .u64 (.slice (some ⟨g, 0, none⟩) N c0) N (updr F o (adg BW f (low y)) (i + 1)) := by
            rw [hW2, show ((x : Int) + 1) = ((x + 1 : Nat) : Int) by omega]; exact (F2.out.1.stored (o + i) (x + 1)).congr fun j _ => updr_succ _ _ _ _ _ HS.out.2 j
          have gr2 : w1.grownBy W2 (some g) := by rw [hW2]; exact grown_trans F2.out.2 (grown_setCell wr ⟨g, o + i, none⟩ _)
          have hbx2 : W2.heap[bx]? = some (.cells ccx tx (0, 0)) := by rw [gr2.block bx (lt_of_block G.out.2.2.2.2.2) (by simpa using hgx)]; exact G.out.2.2.2.2.2
          obtain ⟨cg2, hbg2⟩ := own_block own2
          have hneq : ∀ x, (binOp .neq 116 (.pointer (some ⟨g, o, none⟩)) (.pointer (some ⟨bx, ox, none⟩))).run Tryd.prog (W2.drewN x) = .ok (.bool true) (W2.drewN x) := fun x =>
            run_neq_ptr_other (W2.drewN x) Tryd.underlying116 hj0 (by rw [hjz1]; omega) (fun e => by injection e with e1; exact hgx e1.symm) hbg2 hbx2
          have hrd2 : Reads W2 .u64 (some ⟨bx, ox, none⟩) n f := G.out.2.1.grown gr2 (by intro a ha; cases ha; simpa using hgx)
          have G2 := Lib.hid (And.intro own2 (And.intro gr2 hrd2))
          rw [← hW2]
          clear hW2 own2 gr2 hrd2 hbx2 hbg2 hc hfz hci hc0 hcx0 F2
          go_quiet (fail)
          go_wp2_with fail
          have hrow := (G2.out.1.drewN nq).drew
          have hsrc := reads_from (w := (W2.drewN nq).drew) G2.out.2.2 (i + 1) (by omega)
          have hszW : (Tryd.prog.info? 83).map (·.size) = some 1 := by rw [hj0]; simp [hjz1]
          have hi1i : (i : Int) + 1 ≤ (n : Int) := by omega
          have hi0i : (0 : Int) ≤ (i : Int) + 1 := by omega
          go_region_held3 (fun _ => True) (trivial) (first | (refine step_copy_row rfl (.tmp 69) (.tmp 73) 69 69 rfl 83 Tryd.underlying69 hszW _ _ _ _ _ _ rfl rfl base .u64 g N c0 _ hrow (o + (i + 1)) (n - (i + 1)) _ (by omega) (by omega) (by intro h; exact if_neg (by omega)) (reads_if hsrc (fun h => by omega)) (by omega) ?_; intro w9 own9 gr9))
          have FF := Lib.hid (And.intro (own9.congr (g := updr F o (adg BW f (low y)) n) fun j _ => updr_cat F o (adg BW f (low y)) _ (i + 1) n h1 (fun j hj1 hj2 => by rw [adg_rest G.out.2.2.1 (show 1 ≤ i + 1 by omega) HS.out.1 j hj1 hj2, show i + 1 + (j - (i + 1)) = j by omega]) j) (grown_trans (grown_trans G2.out.2.1 (grown_drewN W2 (nq + 1) _)) gr9))
          have HB := Lib.hid (car_rest G.out.2.2.1 (show 1 ≤ i + 1 by omega) HS.out.1 n h1 (Nat.le_refl n))
          clear own9 gr9 hrow hsrc hneq
          go_wp2
          all_goals go_ret
          all_goals exact ⟨by rw [HB.out]; rfl, FF.out.1, FF.out.2⟩
      · obtain rfl : i = n := by omega
        have F2 := Lib.hid (And.intro own gr)
        clear own gr
        go_wp2
        go_ret
        exact ⟨by rw [hbi.out]; rfl, F2.out.1, F2.out.2⟩

end Go.Proofs.YtidifjmjbfhpaaaDoor
namespace Go.Proofs.YtidifjmjbfhpaaaDoor
set_option linter.unusedVariables false
set_option linter.unusedSimpArgs false
set_option maxRecDepth 20000
open Go.RowKit

theorem updr_self (F : Nat → Nat) (o : Nat) (s : Nat → Nat) (i n : Nat) (hin : i ≤ n) (hs : ∀ j, i ≤ j → j < n → F (o + j) = s j) (j : Nat) : updr F o s i j = updr F o s n j := by
  unfold updr
  by_cases h1 : o ≤ j ∧ j < o + i
  · rw [if_pos h1, if_pos (by omega)]
  · rw [if_neg h1]
    by_cases h2 : o ≤ j ∧ j < o + n
    · rw [if_pos h2, ← hs (j - o) (by omega) (by omega), show o + (j - o) = j by omega]
    · rw [if_neg h2]

set_option maxHeartbeats 1000000 in
theorem addVW_self (base g o n N cz c0 y : Nat) (F : Nat → Nat) (cx : Nat) (f : Nat → Nat) (w : World) (hn1 : 1 ≤ n) (hn : n ≤ 100000000000) (hoN : o + n ≤ N) (hcz : n ≤ cz) (hcx : n ≤ cx) (hy : y < BW)
    (own : Own w base 83 .u64 (.slice (some ⟨g, 0, none⟩) N c0) N F) (hf : ∀ i, i < n → f i < BW)
    (hfe : ∀ i, i < n → f i = F (o + i)) :
    Calls Tryd.prog 80 #[.slice (some ⟨g, o, none⟩) n cz, .slice (some ⟨g, o, none⟩) n cx, .int .u64 y] w fun e w' => e = .returned (.int .u64 ((car BW f (low y) n : Nat) : Int)) ∧ Own w' base 83 .u64 (.slice (some ⟨g, 0, none⟩) N c0) N (updr F o (adg BW f (low y)) n) ∧ w.grownBy w' (some g) := by
  obtain ⟨j0, hj0, hjz0, hjz1, hjz2⟩ := info_parts info_Word
  have hb0 : car BW f (low y) 0 = 0 := rfl
  have hb1 : car BW f (low y) 1 = (f 0 + y + 0) / BW := rfl
  have hs0 : adg BW f (low y) 0 = (f 0 + y + 0) % BW := rfl
  have K0 := bitsAdd_any (f 0) y 0 (adg BW f (low y) 0) (car BW f (low y) 1) (by omega) (hf 0 (by omega)) hy hs0 hb1 w
  have hc0 := own.cell o (by omega)
  have hfz := own.free o
  obtain ⟨x0, hx0⟩ : ∃ x, x = f 0 := ⟨_, rfl⟩
  obtain ⟨d0, hd0⟩ : ∃ x, x = adg BW f (low y) 0 := ⟨_, rfl⟩
  obtain ⟨b1, hb1'⟩ : ∃ x, x = car BW f (low y) 1 := ⟨_, rfl⟩
  rw [← hx0, ← hd0, ← hb1'] at K0
  rw [show F o = x0 by rw [hx0, hfe 0 (by omega), Nat.add_zero]] at hc0
  have hd0l : d0 < BW := by rw [hd0]; exact Nat.mod_lt _ BW_pos
  rw [BW_eq] at hd0l
  have hb1l : b1 ≤ 1 := by rw [hb1']; exact car_le BW_pos 1 (fun j hj => hf j (by omega)) (fun j hj => by rw [show j = 0 by omega]; exact hy)
  have w4 : IntKind.u64.wrap (d0 : Int) = (d0 : Int) := by rw [IntKind.wrap_u64]; omega
  have w5 : IntKind.u64.wrap (b1 : Int) = (b1 : Int) := by rw [IntKind.wrap_u64]; omega
  have hyw : IntKind.u64.wrap (y : Int) = (y : Int) := by rw [IntKind.wrap_u64]; rw [BW_eq] at hy; omega
  have G := Lib.hid (And.intro own (And.intro hfe (And.intro hf (And.intro hd0 hb1'))))
  have KK := Lib.hid (show Calls Tryd.prog 87 #[.int .u64 x0, .int .u64 y, .int .u64 0] w fun e w' => e = .returned (.tuple #[.int .u64 d0, .int .u64 b1]) ∧ w' = w from K0)
  have hn0 : ((n : Int) == 0) = false := by simp; omega
  clear own hfe hf hb0 hb1 hs0 K0 hx0 hd0 hb1' hy
  by_cases hb : b1 = 0
  · subst hb
    go_enter Tryd.func80, Tryd.ntmps80
    go_wp2_with fail
    refine KK.out.mono ?_
    rintro e w1 ⟨rfl, rfl⟩
    go_wp2_with fail
    obtain ⟨W2, hW2⟩ : ∃ W, W = w1.setCell ⟨g, o, none⟩ (.int .u64 d0) := ⟨_, rfl⟩
    have own2 : Own W2 base 83 .u64 (.slice (some ⟨g, 0, none⟩) N c0) N (updr F o (adg BW f (low y)) 1) := by
      rw [hW2]; exact own_store_first G.out.1 G.out.2.2.2.1
    have gr2 : w1.grownBy W2 (some g) := by rw [hW2]; exact grown_setCell w1 ⟨g, o, none⟩ _
    have hneq := fun x => Lib.run_neq_ptr_same (P := Tryd.prog) (W2.drewN x) (tp := 116) ⟨g, o, none⟩ Tryd.underlying116 hj0
    have FF := Lib.hid (And.intro (own2.congr (g := updr F o (adg BW f (low y)) n) fun j _ => updr_self F o (adg BW f (low y)) 1 n hn1 (fun j hj1 hj2 => by rw [adg_rest G.out.2.2.1 (Nat.le_refl 1) G.out.2.2.2.2.symm j hj1 hj2, G.out.2.1 j hj2]) j) gr2)
    have HB := Lib.hid (car_rest G.out.2.2.1 (Nat.le_refl 1) G.out.2.2.2.2.symm n hn1 (Nat.le_refl n))
    rw [← hW2]
    clear hW2 own2 gr2 hc0 hfz KK
    go_quiet (fail)
    go_wp2
    go_ret
    exact ⟨by rw [HB.out]; rfl, FF.out.1, grown_trans FF.out.2 (grown_drewN W2 nq _)⟩
  · obtain rfl : b1 = 1 := by omega
    go_enter Tryd.func80, Tryd.ntmps80
    go_wp2_with fail
    refine KK.out.mono ?_
    rintro e w1 ⟨rfl, rfl⟩
    have O1 := Lib.hid (And.intro (own_store_first (o := o) (d0 := d0) G.out.1 G.out.2.2.2.1) (grown_setCell w1 ⟨g, o, none⟩ (.int .u64 d0)))
    clear KK
    go_wp2
    go_loopw [9] (fun t wr => ∃ i : Nat, 1 ≤ i ∧ i ≤ n ∧ t = .int .i64 i ∧ Own wr base 83 .u64 (.slice (some ⟨g, 0, none⟩) N c0) N (updr F o (adg BW f (low y)) i) ∧ w1.grownBy wr (some g) ∧ Hid (car BW f (low y) i = 1)) (fun t _ => n - (intOf t).toNat)
    case atStart => exact ⟨1, Nat.le_refl _, hn1, rfl, O1.out.1, O1.out.2, Lib.hid G.out.2.2.2.2.symm⟩
    case round =>
      obtain ⟨i, hi1, hin, rfl, own, gr, hbi⟩ := hrel
      clear O1
      by_cases h1 : i < n
      · have hfi := G.out.2.2.1 i h1
        have hlow : low y i = 0 := if_neg (by omega)
        have hbn : car BW f (low y) (i + 1) = (f i + low y i + car BW f (low y) i) / BW := rfl
        have hsi : adg BW f (low y) i = (f i + low y i + car BW f (low y) i) % BW := rfl
        rw [hlow, hbi.out] at hbn hsi
        obtain ⟨x, hx⟩ : ∃ x, x = f i := ⟨_, rfl⟩
        rw [← hx] at hfi hbn hsi
        rw [BW_eq] at hfi
        have hc := own.cell (o + i) (by omega)
        rw [show updr F o (adg BW f (low y)) i (o + i) = x by rw [hx, G.out.2.1 i h1]; unfold updr; rw [if_neg (by omega)]] at hc
        have hfz := own.free (o + i)
        by_cases hx0 : x = 18446744073709551615
        · subst hx0
          have hbn2 : Hid (car BW f (low y) (i + 1) = 1) := Lib.hid hbn
          have hs2 : Hid (0 = adg BW f (low y) i) := Lib.hid (by rw [hsi]; rfl)
          have F2 := Lib.hid (And.intro own gr)
          clear own gr hbn hsi hx
          go_wp2
          go_roundw
          case rel =>
            go_light
            refine ⟨i + 1, by omega, by omega, by go_num, ?_, grown_trans F2.out.2 (grown_setCell _ ⟨g, o + i, none⟩ _), hbn2⟩
            exact (F2.out.1.stored (o + i) 0).congr fun j _ => updr_succ _ _ _ _ _ hs2.out j
          case measure => simp [intOf]; omega
        · have hbn2 : car BW f (low y) (i + 1) = 0 := by rw [hbn, BW_eq]; exact Nat.div_eq_of_lt (by omega)
          have hs2 : x + 1 = adg BW f (low y) i := by rw [hsi, BW_eq, Nat.add_zero, Nat.mod_eq_of_lt (by omega)]
          have hxd : ((x : Int) == 18446744073709551615) = false := by simp; omega
          have hsum : IntKind.i64.wrap ((i : Int) + 1) = (i : Int) + 1 := by rw [IntKind.wrap_i64]; omega
          have hsub : IntKind.u64.wrap ((x : Int) + 1) = ((x + 1 : Nat) : Int) := by rw [IntKind.wrap_u64]; omega
          have HS := Lib.hid (And.intro hbn2 hs2)
          have F2 := Lib.hid (And.intro own gr)
          clear own gr hbn hsi hx hbn2 hs2
          go_wp2_with fail
          obtain ⟨W2, hW2⟩ : ∃ W, W = wr.setCell ⟨g, o + i, none⟩ (.int .u64 ((x : Int) + 1)) := ⟨_, rfl⟩
          have own2 : Own W2 base 83 .u64 (.slice (some ⟨g, 0, none⟩) N c0) N (updr F o (adg BW f (low y)) (i + 1)) := by
            rw [hW2, show ((x : Int) + 1) = ((x + 1 : Nat) : Int) by omega]; exact (F2.out.1.stored (o + i) (x + 1)).congr fun j _ => updr_succ _ _ _ _ _ HS.out.2 j
          have gr2 : w1.grownBy W2 (some g) := by rw [hW2]; exact grown_trans F2.out.2 (grown_setCell wr ⟨g, o + i, none⟩ _)
          have hneq := fun x => Lib.run_neq_ptr_same (P := Tryd.prog) (W2.drewN x) (tp := 116) ⟨g, o, none⟩ Tryd.underlying116 hj0
          have FF := Lib.hid (And.intro (own2.congr (g := updr F o (adg BW f (low y)) n) fun j _ => updr_self F o (adg BW f (low y)) (i + 1) n h1 (fun j hj1 hj2 => by rw [adg_rest G.out.2.2.1 (show 1 ≤ i + 1 by omega) HS.out.1 j hj1 hj2, G.out.2.1 j hj2]) j) gr2)
          have HB := Lib.hid (car_rest G.out.2.2.1 (show 1 ≤ i + 1 by omega) HS.out.1 n h1 (Nat.le_refl n))
          rw [← hW2]
          clear hW2 own2 gr2 hc hfz hc0 F2
          go_quiet (fail)
          go_wp2
          go_ret
          exact ⟨by rw [HB.out]; rfl, FF.out.1, grown_trans FF.out.2 (grown_drewN W2 nq _)⟩
      · obtain rfl : i = n := by omega
        have F2 := Lib.hid (And.intro own gr)
        clear own gr
        go_wp2
        go_ret
        exact ⟨by rw [hbi.out]; rfl, F2.out.1, F2.out.2⟩

end Go.Proofs.YtidifjmjbfhpaaaDoor
