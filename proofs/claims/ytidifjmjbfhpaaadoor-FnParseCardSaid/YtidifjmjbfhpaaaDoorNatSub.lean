/- (nat).sub of one: a natural number that is one less, in new memory. -/
import Derived.Test.YtidifjmjbfhpaaaDoorSubVW
import Derived.Test.YtidifjmjbfhpaaaDoorMake
import Derived.Test.YtidifjmjbfhpaaaDoorNorm
import Derived.Test.YtidifjmjbfhpaaaDoorSpecArith
namespace Go.Proofs.YtidifjmjbfhpaaaDoor
set_option linter.unusedVariables false
set_option maxRecDepth 20000
set_option linter.unusedSimpArgs false
open Go.RowKit

theorem updr_in (F : Nat → Nat) (o : Nat) (s : Nat → Nat) (n j : Nat) (h1 : o ≤ j) (h2 : j < o + n) : updr F o s n j = s (j - o) := by unfold updr; rw [if_pos ⟨h1, h2⟩]

theorem low_one : low 1 = dig BW 1 := by
  funext j
  unfold low dig
  by_cases h : j = 0
  · subst h; rw [if_pos rfl, BW_eq]
  · rw [if_neg h, Nat.div_eq_of_lt (Nat.one_lt_pow h BW_one)]; rfl

theorem bor_shift (f : Nat → Nat) (y : Nat) : ∀ j, bor f (low y) (1 + (j + 1)) = bor (fun i => f (1 + i)) (low (bor f (low y) 1)) (j + 1)
  | 0 => by
    show (if f 1 < low y 1 + bor f (low y) 1 then 1 else 0) = if f (1 + 0) < low (bor f (low y) 1) 0 + 0 then 1 else 0
    rw [show low y 1 = 0 from rfl, show ∀ c, low c 0 = c from fun _ => rfl, Nat.add_zero, Nat.zero_add, Nat.add_zero]
  | j + 1 => by
    have ih := bor_shift f y j
    show (if f (1 + (j + 1)) < low y (1 + (j + 1)) + bor f (low y) (1 + (j + 1)) then 1 else 0) = if f (1 + (j + 1)) < low (bor f (low y) 1) (j + 1) + bor (fun i => f (1 + i)) (low (bor f (low y) 1)) (j + 1) then 1 else 0
    rw [ih, show low y (1 + (j + 1)) = 0 from if_neg (by omega), show ∀ c, low c (j + 1) = 0 from fun _ => if_neg (by omega)]

theorem sdg_shift (f : Nat → Nat) (y j : Nat) : sdg BW (fun i => f (1 + i)) (low (bor f (low y) 1)) j = sdg BW f (low y) (1 + j) := by
  cases j with
  | zero =>
    show (f (1 + 0) + BW - low (bor f (low y) 1) 0 - 0) % BW = (f (1 + 0) + BW - low y (1 + 0) - bor f (low y) (1 + 0)) % BW
    rw [show ∀ c, low c 0 = c from fun _ => rfl, show low y (1 + 0) = 0 from rfl, Nat.sub_zero, Nat.sub_zero]
  | succ j =>
    unfold sdg
    rw [bor_shift, show low y (1 + (j + 1)) = 0 from if_neg (by omega), show ∀ c, low c (j + 1) = 0 from fun _ => if_neg (by omega)]

set_option maxHeartbeats 1000000 in
theorem natSub1_any (ax ay : Option Addr) (V cx cy : Nat) (w : World) (hV : 1 ≤ V) (hcx : nlen BW V ≤ cx) (hcy : 1 ≤ cy) (hn : nlen BW V ≤ 2147483647)
    (hrdx : Reads w .u64 ax (nlen BW V) (dig BW V)) (hrdy : Reads w .u64 ay 1 (fun _ => 1)) (hxb : ∀ a, ax = some a → ∃ c t, w.heap[a.block]? = some (.cells c t (0, 0))) :
    Calls Tryd.prog 58 #[.slice none 0 0, .slice ax (nlen BW V) cx, .slice ay 1 cy] w fun e w' => ∃ v, e = .returned v ∧ Own w' w.heap.size 83 .u64 v (nlen BW (V - 1)) (dig BW (V - 1)) ∧ Below w.heap.size w w' := by
  have hVl := lt_pow_nlen BW_one V
  have hn1 : 1 ≤ nlen BW V := by
    refine Nat.one_le_iff_ne_zero.2 fun h => ?_
    have := (nlen_eq_zero BW_one V).1 h
    omega
  have hsd := sub_digits BW_one hVl hV
  rw [← low_one] at hsd
  obtain ⟨n, hnn⟩ : ∃ n, n = nlen BW V := ⟨_, rfl⟩
  rw [← hnn] at hVl hn1 hsd hcx hn hrdx ⊢
  have KM := Lib.hid (make_nil n w hn)
  have hrdy1 : Reads w .u64 ay 1 (low 1) := hrdy.congr fun i hi => by rw [show i = 0 by omega]; rfl
  have G := Lib.hid (And.intro hrdx (And.intro hrdy1 (And.intro hxb (And.intro hsd hVl))))
  clear hrdx hrdy hrdy1 hxb hsd hVl hnn
  have hn0 : ((n : Int) == 0) = false := by simp; omega
  have hnl : decide ((n : Int) < 1) = false := by simp; omega
  go_enter Tryd.func58, Tryd.ntmps58
  go_wp2_with fail
  refine KM.out.mono ?_
  rintro e w1 ⟨v, rfl, own1, b1⟩
  rcases own1.shape with ⟨rfl, h0⟩ | ⟨g, c, rfl, hbg, hgl, hnc, hcb⟩
  · omega
  have hxg : ∀ a, ax = some a → a.block ≠ g := by
    intro a ha e
    obtain ⟨cc, t, h⟩ := G.out.2.2.1 a ha
    have := lt_of_block h
    omega
  have hyg : ∀ a, ay = some a → a.block ≠ g := by
    intro a ha e
    obtain ⟨b, o, h1, h2⟩ := G.out.2.1 0 (by omega)
    rw [ha] at h1
    cases h1
    have h3 : b < w.heap.size := World.block_lt_of_cell? _ _ h2
    simp at e
    omega
  have rx1 := G.out.1.below b1
  have ry1 := G.out.2.1.below b1
  have hxb1 : ∀ a, ax = some a → ∃ c t, w1.heap[a.block]? = some (.cells c t (0, 0)) := by
    intro a ha
    obtain ⟨cc, t, h⟩ := G.out.2.2.1 a ha
    exact ⟨cc, t, by rw [b1.block _ (lt_of_block h)]; exact h⟩
  have KV := Lib.hid (subVV_any w.heap.size g 0 1 n c c (fun _ => 0) ax ay cx cy (dig BW V) (low 1) w1.drew (by omega) (by omega) own1.drew (fun i _ => dig_lt BW_pos V i) (fun i hi => by rw [show i = 0 by omega]; exact BW_one) (by intro i hi; exact rx1 i (by omega)) ry1 hxg hyg)
  have F1 := Lib.hid (And.intro b1 (And.intro rx1 (And.intro hxg hxb1)))
  have hn1i : (1 : Int) ≤ (n : Int) := by omega
  have hci : (1 : Int) ≤ (c : Int) := by omega
  have hcxi : (1 : Int) ≤ (cx : Int) := by omega
  have hcyi : (1 : Int) ≤ (cy : Int) := by omega
  clear own1 b1 rx1 ry1 hxg hyg hxb1 KM
  go_wp2_with fail
  go_region_held3 (fun _ => True) (trivial) (first | (go_simp; go_at_call 77; refine KV.out.mono ?_; rintro e w2 ⟨rfl, own2, gr2⟩; go_wp2_with fail))
  have F2 := Lib.hid (And.intro own2 gr2)
  clear own2 gr2 KV
  have hfin : ∀ (w3 : World) (F : Nat → Nat), Own w3 w.heap.size 83 .u64 (.slice (some ⟨g, 0, none⟩) n c) n F → w1.grownBy w3 (some g) → (∀ j, j < n → F j = dig BW (V - 1) j) →
      Own w3 w.heap.size 83 .u64 (.slice (some ⟨g, 0, none⟩) (clen F n) c) (nlen BW (V - 1)) (dig BW (V - 1)) ∧ Below w.heap.size w w3 := by
    intro w3 F ow gr hF
    refine ⟨own_cut BW_one ow (fun j hj => by rw [hF j hj]; exact dig_lt BW_pos _ _) ?_, F1.out.1.grown gr F1.out.1.size (fun k hk => by cases hk; exact hbg)⟩
    rw [val_congr hF, val_of_dig BW_pos, Nat.mod_eq_of_lt (Nat.lt_of_le_of_lt (Nat.sub_le _ _) G.out.2.2.2.2)]
  have HFIN := Lib.hid hfin
  clear hfin
  by_cases h1 : n = 1
  · subst h1
    have hb : bor (dig BW V) (low 1) 1 = 0 := G.out.2.2.2.1.2
    rw [hb]
    have HF := Lib.hid (HFIN.out w2 _ F2.out.1 (grown_trans (show w1.grownBy w1.drew (some g) from grown_drewN w1 1 _) F2.out.2) (fun j hj => by
      rw [show j = 0 by omega, updr_in _ _ _ _ _ (Nat.le_refl 0) (by omega), Nat.sub_zero]
      exact G.out.2.2.2.1.1 0 (by omega)))
    have KN := Lib.hid (norm_any (some ⟨g, 0, none⟩) 1 c _ w2 hnc (by omega) (Reads.of_own F2.out.1))
    clear hb
    go_wp2_with fail
    refine KN.out.mono ?_
    rintro e w3 ⟨rfl, rfl⟩
    go_wp2
    go_ret
    exact ⟨_, rfl, HF.out.1, HF.out.2⟩
  · obtain ⟨bx, ox, rfl, _⟩ := G.out.1 0 (by omega)
    have hb1 := bor_le (dig BW V) (low 1) 1
    have hsh := sdg_shift (dig BW V) 1
    have hbs : bor (fun i => dig BW V (1 + i)) (low (bor (dig BW V) (low 1) 1)) (n - 1) = 0 := by
      have h := bor_shift (dig BW V) 1 (n - 2)
      rw [show n - 2 + 1 = n - 1 by omega, show 1 + (n - 1) = n by omega] at h
      rw [← h]; exact G.out.2.2.2.1.2
    have hgr2 : w1.grownBy w2 (some g) := grown_trans (show w1.grownBy w1.drew (some g) from grown_drewN w1 1 _) F2.out.2
    have hgx : bx ≠ g := F1.out.2.2.1 _ rfl
    have rx2 : Reads w2 .u64 (some ⟨bx, ox, none⟩) n (dig BW V) := F1.out.2.1.grown hgr2 (by intro a ha; cases ha; simpa using hgx)
    obtain ⟨cc, t, hbx⟩ := F1.out.2.2.2 _ rfl
    have hbx2 : w2.heap[bx]? = some (.cells cc t (0, 0)) := by rw [hgr2.block bx (lt_of_block hbx) (by simpa using hgx)]; exact hbx
    have KW := subVW_any w.heap.size g 1 (n - 1) n (c - 1) c (bor (dig BW V) (low 1) 1) _ (some ⟨bx, ox + 1, none⟩) (cx - 1) (fun i => dig BW V (1 + i)) w2.drew (by omega) (by omega) (by omega) (by omega) (by omega) (Nat.lt_of_le_of_lt hb1 BW_one) F2.out.1.drew (fun i _ => dig_lt BW_pos V _) (reads_from (w := w2.drew) rx2 1 hn1) (by intro a ha; cases ha; exact hgx) (by intro a ha; cases ha; exact ⟨cc, t, hbx2⟩)
    rw [hbs] at KW
    obtain ⟨bb, hbb⟩ : ∃ b, b = bor (dig BW V) (low 1) 1 := ⟨_, rfl⟩
    rw [← hbb] at KW hsh hb1
    rw [← hbb]
    have KW' := Lib.hid KW
    have hc1 : ¬ (c = 1) := by omega
    have hcx1 : ¬ (cx = 1) := by omega
    have HG2 := Lib.hid hgr2
    have HSH := Lib.hid hsh
    clear KW hbs hgr2 rx2 hbx hbx2 hsh hbb
    go_wp2_with fail
    go_region_held3 (fun _ => True) (trivial) (first | (go_simp; go_at_call 78; refine KW'.out.mono ?_; rintro e w4 ⟨rfl, own4, gr4⟩; go_wp2_with fail))
    have gr4' : w1.grownBy w4 (some g) := grown_trans HG2.out (grown_trans (show w2.grownBy w2.drew (some g) from grown_drewN w2 1 _) gr4)
    have HF := Lib.hid (HFIN.out w4 _ own4 gr4' (fun j hj => by
      by_cases hj0 : j = 0
      · rw [hj0]
        have e1 : updr (updr (fun x => 0) 0 (sdg BW (dig BW V) (low 1)) 1) 1 (sdg BW (fun i => dig BW V (1 + i)) (low bb)) (n - 1) 0 = updr (fun x => 0) 0 (sdg BW (dig BW V) (low 1)) 1 0 := by
          conv => lhs; unfold updr
          rw [if_neg (by omega)]
          rfl
        rw [e1, updr_in _ _ _ _ _ (Nat.le_refl 0) (by omega), Nat.sub_zero]
        exact G.out.2.2.2.1.1 0 (by omega)
      · rw [updr_in _ _ _ _ _ (show 1 ≤ j by omega) (by omega), HSH.out, show 1 + (j - 1) = j by omega]
        exact G.out.2.2.2.1.1 j hj))
    have KN := Lib.hid (norm_any (some ⟨g, 0, none⟩) n c _ w4 hnc (by omega) (Reads.of_own own4))
    clear own4 gr4 gr4' KW'
    go_wp2_with fail
    refine KN.out.mono ?_
    rintro e w3 ⟨rfl, rfl⟩
    go_wp2
    go_ret
    exact ⟨_, rfl, HF.out.1, HF.out.2⟩

end Go.Proofs.YtidifjmjbfhpaaaDoor
