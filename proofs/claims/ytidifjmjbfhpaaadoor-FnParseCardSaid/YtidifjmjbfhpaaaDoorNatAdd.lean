/- (nat).add of one: a natural number that is one more, into a new row or in place. -/
import Derived.Test.YtidifjmjbfhpaaaDoorAddVWs
import Derived.Test.YtidifjmjbfhpaaaDoorNatSetBit
namespace Go.Proofs.YtidifjmjbfhpaaaDoor
set_option linter.unusedVariables false
set_option maxRecDepth 20000
set_option linter.unusedSimpArgs false
open Go.RowKit

theorem updr_out (F : Nat → Nat) (o : Nat) (s : Nat → Nat) (n j : Nat) (h : ¬ (o ≤ j ∧ j < o + n)) : updr F o s n j = F j := by unfold updr; rw [if_neg h]

theorem car_shift (f : Nat → Nat) (y : Nat) : ∀ j, car BW f (low y) (1 + (j + 1)) = car BW (fun i => f (1 + i)) (low (car BW f (low y) 1)) (j + 1)
  | 0 => by
    show (f 1 + low y 1 + car BW f (low y) 1) / BW = (f (1 + 0) + low (car BW f (low y) 1) 0 + 0) / BW
    rw [show low y 1 = 0 from rfl, show ∀ c, low c 0 = c from fun _ => rfl, Nat.add_zero, Nat.add_zero, Nat.add_zero]
  | j + 1 => by
    have ih := car_shift f y j
    show (f (1 + (j + 1)) + low y (1 + (j + 1)) + car BW f (low y) (1 + (j + 1))) / BW = (f (1 + (j + 1)) + low (car BW f (low y) 1) (j + 1) + car BW (fun i => f (1 + i)) (low (car BW f (low y) 1)) (j + 1)) / BW
    rw [ih, show low y (1 + (j + 1)) = 0 from if_neg (by omega), show ∀ c, low c (j + 1) = 0 from fun _ => if_neg (by omega)]

theorem adg_shift (f : Nat → Nat) (y j : Nat) : adg BW (fun i => f (1 + i)) (low (car BW f (low y) 1)) j = adg BW f (low y) (1 + j) := by
  cases j with
  | zero =>
    show (f (1 + 0) + low (car BW f (low y) 1) 0 + 0) % BW = (f (1 + 0) + low y (1 + 0) + car BW f (low y) (1 + 0)) % BW
    rw [show ∀ c, low c 0 = c from fun _ => rfl, show low y (1 + 0) = 0 from rfl, Nat.add_zero, Nat.add_zero, Nat.add_zero]
  | succ j =>
    unfold adg
    rw [car_shift, show low y (1 + (j + 1)) = 0 from if_neg (by omega), show ∀ c, low c (j + 1) = 0 from fun _ => if_neg (by omega)]

theorem addVW_either (base g o n N cz c0 y : Nat) (F : Nat → Nat) (ax : Option Addr) (cx : Nat) (f : Nat → Nat) (w : World) (hn1 : 1 ≤ n) (hn : n ≤ 100000000000) (hoN : o + n ≤ N) (hcz : n ≤ cz) (hcx : n ≤ cx) (hy : y < BW)
    (own : Own w base 83 .u64 (.slice (some ⟨g, 0, none⟩) N c0) N F) (hf : ∀ i, i < n → f i < BW)
    (hx : (Reads w .u64 ax n f ∧ (∀ a, ax = some a → a.block ≠ g) ∧ ∀ a, ax = some a → ∃ c t, w.heap[a.block]? = some (.cells c t (0, 0))) ∨ (ax = some ⟨g, o, none⟩ ∧ ∀ i, i < n → f i = F (o + i))) :
    Calls Tryd.prog 80 #[.slice (some ⟨g, o, none⟩) n cz, .slice ax n cx, .int .u64 y] w fun e w' => e = .returned (.int .u64 ((car BW f (low y) n : Nat) : Int)) ∧ Own w' base 83 .u64 (.slice (some ⟨g, 0, none⟩) N c0) N (updr F o (adg BW f (low y)) n) ∧ w.grownBy w' (some g) := by
  rcases hx with ⟨h1, h2, h3⟩ | ⟨rfl, h⟩
  · exact addVW_far base g o n N cz c0 y F ax cx f w hn1 hn hoN hcz hcx hy own hf h1 h2 h3
  · exact addVW_self base g o n N cz c0 y F cx f w hn1 hn hoN hcz hcx hy own hf h

/-- How x lies beside the row that is written: elsewhere, or at its head. -/
def Beside (w : World) (g : Nat) (F : Nat → Nat) (ax : Option Addr) (n : Nat) (f : Nat → Nat) : Prop :=
  (Reads w .u64 ax n f ∧ (∀ a, ax = some a → a.block ≠ g) ∧ ∀ a, ax = some a → ∃ c t, w.heap[a.block]? = some (.cells c t (0, 0))) ∨ (ax = some ⟨g, 0, none⟩ ∧ ∀ i, i < n → f i = F i)

theorem Beside.of_make {w w1 : World} {g n cx m c base : Nat} {F f0 f : Nat → Nat} {v : Value} {ax : Option Addr} (hrd : Reads w .u64 ax n f) (hxb : ∀ a, ax = some a → ∃ c t, w.heap[a.block]? = some (.cells c t (0, 0))) (hx : v = .slice none 0 0 ∨ v = .slice ax n cx)
    (hn : n ≤ c) (own : Own w1 base 83 .u64 (.slice (some ⟨g, 0, none⟩) c c) c F) (bel : Below w.heap.size w w1) (hor : (w1 = w ∧ v = .slice (some ⟨g, 0, none⟩) m c ∧ ∀ j, j < m → F j = f0 j) ∨ g = w.heap.size) : Beside w1 g F ax n f := by
  rcases hor with ⟨rfl, hv, hF⟩ | hg
  · rcases hx with h | h
    · rw [h] at hv; simp at hv
    · rw [h] at hv
      simp at hv
      obtain ⟨rfl, _⟩ := hv
      refine .inr ⟨rfl, fun i hi => ?_⟩
      have h1 := hrd.cellAt hi
      have h2 := own.cell i (by omega)
      rw [Nat.zero_add, h2] at h1
      injection h1 with h1
      injection h1 with _ h1
      omega
  · refine .inl ⟨hrd.below bel, fun a ha e => ?_, fun a ha => ?_⟩
    · obtain ⟨cc, t, h⟩ := hxb a ha
      have := lt_of_block h
      omega
    · obtain ⟨cc, t, h⟩ := hxb a ha
      exact ⟨cc, t, by rw [bel.block _ (lt_of_block h)]; exact h⟩

set_option maxHeartbeats 1000000 in
theorem natAdd1_some (v : Value) (ax ay : Option Addr) (V cx cy n base m : Nat) (f0 : Nat → Nat) (w : World) (hroom : Room w base v m f0) (hb : base ≤ w.heap.size) (hnV : nlen BW V = n) (hn1 : 1 ≤ n) (hn : n ≤ 2147483646) (hcx : n ≤ cx) (hcy : 1 ≤ cy)
    (hrdx : Reads w .u64 ax n (dig BW V)) (hrdy : Reads w .u64 ay 1 (fun _ => 1)) (hxb : ∀ a, ax = some a → ∃ c t, w.heap[a.block]? = some (.cells c t (0, 0))) (hyb : ∀ a, ay = some a → a.block < base) (hx : v = .slice none 0 0 ∨ v = .slice ax n cx) :
    Calls Tryd.prog 63 #[v, .slice ax n cx, .slice ay 1 cy] w (SetBitPost base (V + 1) w) := by
  have hVl := lt_pow_nlen BW_one V
  rw [hnV] at hVl
  have had := add_digits BW_one hVl (show 1 < BW ^ n from Nat.one_lt_pow (by omega) BW_one)
  rw [← low_one] at had
  have KM := Lib.hid (make_room v base m (n + 1) f0 w hroom hb (by omega) (by omega))
  have hrdy1 : Reads w .u64 ay 1 (low 1) := hrdy.congr fun i hi => by rw [show i = 0 by omega]; rfl
  have G := Lib.hid (And.intro hrdx (And.intro hrdy1 (And.intro hxb (And.intro had (And.intro hyb (And.intro hx hb))))))
  clear hroom hrdx hrdy hrdy1 hxb had hyb hVl hx hnV hb
  have hn0 : ((n : Int) == 0) = false := by simp; omega
  have hnl : decide ((n : Int) < 1) = false := by simp; omega
  go_enter Tryd.func63, Tryd.ntmps63
  go_wp2_with fail
  refine KM.out.mono ?_
  rintro e w1 ⟨g, c, F0, rfl, hnc, h1c, hc4, own1, b1, hor⟩
  have hbg := (own1.lt g rfl).1
  have BX := Lib.hid (Beside.of_make G.out.1 G.out.2.2.1 G.out.2.2.2.2.2.1 (show n ≤ c by omega) own1 b1 hor)
  have hyg : ∀ a, ay = some a → a.block ≠ g := fun a ha e => by
    have := G.out.2.2.2.2.1 a ha
    omega
  have ry1 := G.out.2.1.below b1
  have KV := Lib.hid (addVV_any base g 0 1 c c c F0 ax ay cx cy (dig BW V) (low 1) w1.drew (by omega) (by omega) own1.drew (fun i _ => dig_lt BW_pos V i) (fun i hi => by rw [show i = 0 by omega]; exact BW_one)
    (by
      rcases BX.out with ⟨h1, h2, _⟩ | ⟨h1, h2⟩
      · exact .inl ⟨fun i hi => h1 i (by omega), h2⟩
      · exact .inr ⟨h1, fun i hi => by rw [h2 i (by omega), Nat.zero_add]⟩) ry1 hyg)
  have F1 := Lib.hid (And.intro b1 (And.intro hyg hbg))
  have hn1i : (1 : Int) ≤ (n : Int) := by omega
  have hci : (1 : Int) ≤ (c : Int) := by omega
  have hcxi : (1 : Int) ≤ (cx : Int) := by omega
  have hcyi : (1 : Int) ≤ (cy : Int) := by omega
  clear own1 b1 ry1 hyg KM hor
  go_wp2_with fail
  go_region_held3 (fun _ => True) (trivial) (first | (go_simp; go_at_call 79; refine KV.out.mono ?_; rintro e w2 ⟨rfl, own2, gr2⟩; go_wp2_with fail))
  have F2 := Lib.hid (And.intro own2 gr2)
  clear own2 gr2 KV
  have hfin : ∀ (w3 : World) (F : Nat → Nat), Own w3 base 83 .u64 (.slice (some ⟨g, 0, none⟩) c c) c F → w1.grownBy w3 (some g) → (∀ j, j < n + 1 → F j = dig BW (V + 1) j) →
      Room w3 base (.slice (some ⟨g, 0, none⟩) (clen F (n + 1)) c) (nlen BW (V + 1)) (dig BW (V + 1)) ∧ Below base w w3 := by
    intro w3 F ow gr hF
    have hlen := row_clen G.out.2.2.2.1.2.2 hF
    have hle := clen_le F (n + 1)
    refine ⟨?_, below_of_both F1.out.1 G.out.2.2.2.2.2.2 gr F1.out.2.2⟩
    rw [← hlen]
    exact Room.of (by omega) h1c hc4 ow (fun j hj => hF j (by omega))
  have HFIN := Lib.hid hfin
  clear hfin
  have hgr2 : w1.grownBy w2 (some g) := grown_trans (show w1.grownBy w1.drew (some g) from grown_drewN w1 1 _) F2.out.2
  have HG2 := Lib.hid hgr2
  clear hgr2
  by_cases h1 : n = 1
  · subst h1
    obtain ⟨x, hx⟩ : ∃ x, x = car BW (dig BW V) (low 1) 1 := ⟨_, rfl⟩
    rw [← hx]
    have hfz := F2.out.1.free 1
    have hcl := F2.out.1.cell 1 (by omega)
    have own3 := F2.out.1.stored 1 x
    have HF := Lib.hid (HFIN.out _ _ own3 (grown_trans HG2.out (grown_setCell w2 ⟨g, 1, none⟩ (.int .u64 x))) (fun j hj => by
      by_cases hj0 : j = 0
      · rw [hj0, upd_other _ _ (by omega), updr_in _ _ _ _ _ (Nat.le_refl 0) (by omega), Nat.sub_zero]
        exact G.out.2.2.2.1.1 0 (by omega)
      · rw [show j = 1 by omega, upd_same, hx]
        exact G.out.2.2.2.1.2.1))
    have KN := Lib.hid (norm_any (some ⟨g, 0, none⟩) 2 c _ _ hnc (by omega) (Reads.of_own (own3.take hnc)))
    clear own3 hx
    go_wp2_with fail
    refine KN.out.mono ?_
    rintro e w3 ⟨rfl, rfl⟩
    go_wp2
    go_ret
    exact ⟨_, rfl, HF.out.1, HF.out.2⟩
  · obtain ⟨bx, ox, hax, _⟩ : ∃ bx ox, ax = some ⟨bx, ox, none⟩ ∧ True := by
      obtain ⟨bx, ox, h, _⟩ := G.out.1 0 (by omega)
      exact ⟨bx, ox, h, trivial⟩
    have hc1 := car_le BW_pos (f := dig BW V) (g := low 1) 1 (fun j _ => dig_lt BW_pos V j) (fun j hj => by rw [show j = 0 by omega]; exact BW_one)
    have hsh := adg_shift (dig BW V) 1
    have hcs : car BW (fun i => dig BW V (1 + i)) (low (car BW (dig BW V) (low 1) 1)) (n - 1) = dig BW (V + 1) n := by
      have h := car_shift (dig BW V) 1 (n - 2)
      rw [show n - 2 + 1 = n - 1 by omega, show 1 + (n - 1) = n by omega] at h
      rw [← h]; exact G.out.2.2.2.1.2.1
    have KW := addVW_either base g 1 (n - 1) c (c - 1) c (car BW (dig BW V) (low 1) 1) _ (some ⟨bx, ox + 1, none⟩) (cx - 1) (fun i => dig BW V (1 + i)) w2.drew (by omega) (by omega) (by omega) (by omega) (by omega) (Nat.lt_of_le_of_lt hc1 BW_one) F2.out.1.drew (fun i _ => dig_lt BW_pos V _)
      (by
        rcases BX.out with ⟨h1, h2, h3⟩ | ⟨h1, h2⟩
        · refine .inl ⟨?_, ?_, ?_⟩
          · have rx2 : Reads w2 .u64 ax n (dig BW V) := h1.grown HG2.out (by intro a ha; have := h2 a ha; simpa using this)
            rw [hax] at rx2
            exact reads_from (w := w2.drew) rx2 1 hn1
          · intro a ha; cases ha; exact h2 ⟨bx, ox, none⟩ hax
          · intro a ha
            cases ha
            obtain ⟨cc, t, h⟩ := h3 ⟨bx, ox, none⟩ hax
            exact ⟨cc, t, by show w2.heap[bx]? = _; rw [HG2.out.block bx (lt_of_block h) (by have := h2 ⟨bx, ox, none⟩ hax; simpa using this)]; exact h⟩
        · rw [hax] at h1
          cases h1
          refine .inr ⟨rfl, fun i hi => ?_⟩
          show dig BW V (1 + i) = updr F0 0 _ 1 (1 + i)
          rw [h2 (1 + i) (by omega)]
          unfold updr
          rw [if_neg (by omega)])
    rw [hcs] at KW
    obtain ⟨bb, hbb⟩ : ∃ b, b = car BW (dig BW V) (low 1) 1 := ⟨_, rfl⟩
    rw [← hbb] at KW hsh hc1
    rw [← hbb]
    obtain ⟨x, hx⟩ : ∃ x, x = dig BW (V + 1) n := ⟨_, rfl⟩
    rw [← hx] at KW
    have KW' := Lib.hid KW
    have hcc1 : ¬ (c = 1) := by omega
    have hnci : (n : Int) ≤ (c : Int) := by omega
    have hcx1 : ¬ (cx = 1) := by omega
    have HSH := Lib.hid hsh
    have HX := Lib.hid hx
    subst hax
    clear KW hsh hbb hcs hx
    go_wp2_with fail
    go_region_held3 (fun _ => True) (trivial) (first | (go_simp; go_at_call 80; refine KW'.out.mono ?_; rintro e w4 ⟨rfl, own4, gr4⟩; go_wp2_with fail))
    have gr4' : w1.grownBy w4 (some g) := grown_trans HG2.out (grown_trans (show w2.grownBy w2.drew (some g) from grown_drewN w2 1 _) gr4)
    have hfz := own4.free n
    have hcl := own4.cell n (by omega)
    have own5 := own4.stored n x
    have HF := Lib.hid (HFIN.out _ _ own5 (grown_trans gr4' (grown_setCell w4 ⟨g, n, none⟩ (.int .u64 x))) (fun j hj => by
      by_cases hjn : j = n
      · rw [hjn, upd_same, HX.out]
      rw [upd_other _ _ hjn]
      by_cases hj0 : j = 0
      · rw [hj0, updr_out _ _ _ _ _ (by omega), updr_in _ _ _ _ _ (Nat.le_refl 0) (by omega), Nat.sub_zero]
        exact G.out.2.2.2.1.1 0 (by omega)
      · rw [updr_in _ _ _ _ _ (show 1 ≤ j by omega) (by omega), HSH.out, show 1 + (j - 1) = j by omega]
        exact G.out.2.2.2.1.1 j (by omega)))
    have KN := Lib.hid (norm_any (some ⟨g, 0, none⟩) (n + 1) c _ _ hnc (by omega) (Reads.of_own (own5.take hnc)))
    clear own4 gr4 gr4' own5 KW'
    go_wp2_with fail
    refine KN.out.mono ?_
    rintro e w3 ⟨rfl, rfl⟩
    go_wp2
    go_ret
    exact ⟨_, rfl, HF.out.1, HF.out.2⟩

theorem natSet_one (v : Value) (ay : Option Addr) (cy base m : Nat) (f0 : Nat → Nat) (w : World) (hroom : Room w base v m f0) (hb : base ≤ w.heap.size) (hrdy : Reads w .u64 ay 1 (dig BW 1)) :
    Calls Tryd.prog 75 #[v, .slice ay 1 cy] w (SetBitPost base 1 w) := by
  have KM := Lib.hid (make_room v base m 1 f0 w hroom hb (by omega) (by omega))
  have G := Lib.hid (And.intro hrdy hb)
  clear hroom hrdy hb
  go_enter Tryd.func75, Tryd.ntmps75
  go_wp2_with fail
  refine KM.out.mono ?_
  rintro e w1 ⟨g, c, F, rfl, hnc, h1c, hc4, own1, bel1, hor⟩
  obtain ⟨w2, hcopy, own2, gr2⟩ := run_copy_room w1 70 70 83 Tryd.underlying70 info_Word_size base .u64 g c c F own1 0 1 1 c 1 cy (some ⟨g, 0, none⟩) ay (dig BW 1) rfl (fun _ => rfl) (G.out.1.below bel1) (by omega)
  have G2 := Lib.hid (And.intro own2 (And.intro gr2 bel1))
  clear own2 gr2 bel1 own1 hor KM
  go_wp2_with (simp only [hcopy])
  go_ret
  have hg := (G2.out.1.lt g rfl).1
  refine ⟨_, rfl, ?_, below_of_both G2.out.2.2 G.out.2 G2.out.2.1 hg⟩
  have h1 : nlen BW 1 = 1 := by
    refine eq_of_le_iff fun m => ?_
    rw [nlen_le_iff BW_one]
    constructor
    · intro h
      refine Nat.lt_of_not_le fun h' => ?_
      have : m = 0 := by omega
      subst this
      simp at h
    · intro h
      exact Nat.one_lt_pow (by omega) BW_one
  rw [h1]
  exact Room.of hnc h1c hc4 G2.out.1 (fun j hj => by rw [updr_in _ _ _ _ _ (Nat.zero_le j) (by omega), Nat.sub_zero])

theorem natAdd_zero (v : Value) (ax ay : Option Addr) (cx cy base m : Nat) (f0 : Nat → Nat) (w : World) (hroom : Room w base v m f0) (hb : base ≤ w.heap.size) (hrdy : Reads w .u64 ay 1 (dig BW 1)) :
    Calls Tryd.prog 63 #[v, .slice ay 1 cy, .slice ax 0 cx] w (SetBitPost base 1 w) := by
  have K := Lib.hid (natSet_one v ay cy base m f0 w hroom hb hrdy)
  clear hroom hb hrdy
  go_enter Tryd.func63, Tryd.ntmps63
  go_wp2_with fail
  refine K.out.mono ?_
  rintro e w1 ⟨v1, rfl, h1, h2⟩
  have F := Lib.hid (And.intro h1 h2)
  clear h1 h2 K
  go_wp2
  go_ret
  exact ⟨_, rfl, F.out.1, F.out.2⟩

/-- (nat).add of one, x the receiver itself or the receiver nil. -/
theorem natAdd1_any (v : Value) (ax ay : Option Addr) (V cx cy base m : Nat) (f0 : Nat → Nat) (w : World) (hroom : Room w base v m f0) (hb : base ≤ w.heap.size) (hn : nlen BW V ≤ 2147483646) (hcx : nlen BW V ≤ cx) (hcy : 1 ≤ cy)
    (hrdx : Reads w .u64 ax (nlen BW V) (dig BW V)) (hrdy : Reads w .u64 ay 1 (fun _ => 1)) (hxb : ∀ a, ax = some a → ∃ c t, w.heap[a.block]? = some (.cells c t (0, 0))) (hyb : ∀ a, ay = some a → a.block < base) (hx : v = .slice none 0 0 ∨ v = .slice ax (nlen BW V) cx) :
    Calls Tryd.prog 63 #[v, .slice ax (nlen BW V) cx, .slice ay 1 cy] w (SetBitPost base (V + 1) w) := by
  by_cases h0 : nlen BW V = 0
  · have hV : V = 0 := (nlen_eq_zero BW_one V).1 h0
    subst hV
    rw [h0]
    have K := Lib.hid (natAdd_zero v ax ay cx cy base m f0 w hroom hb (hrdy.congr fun i hi => by rw [show i = 0 by omega, ← low_one]; rfl))
    clear hroom hb hn hcx hrdx hrdy hxb hyb hx h0
    go_enter Tryd.func63, Tryd.ntmps63
    go_wp2_with fail
    refine K.out.mono ?_
    rintro e w1 ⟨v1, rfl, h1, h2⟩
    have F := Lib.hid (And.intro h1 h2)
    clear h1 h2 K
    go_wp2
    go_ret
    exact ⟨_, rfl, F.out.1, F.out.2⟩
  · exact natAdd1_some v ax ay V cx cy _ base m f0 w hroom hb rfl (by omega) hn hcx hcy hrdx hrdy hxb hyb hx

end Go.Proofs.YtidifjmjbfhpaaaDoor
