/- (nat).setBit: a bit of a natural number set or taken away, into a new row or in place. -/
import Derived.Test.YtidifjmjbfhpaaaDoorCopyRoom
import Derived.Test.YtidifjmjbfhpaaaDoorWordBits
import Derived.Test.YtidifjmjbfhpaaaDoorNorm
import Derived.Test.YtidifjmjbfhpaaaDoorBitAt
namespace Go.Proofs.YtidifjmjbfhpaaaDoor
set_option linter.unusedVariables false
set_option maxRecDepth 20000
set_option linter.unusedSimpArgs false
open Go.RowKit

theorem make_none (ao : Option Addr) (m c : Nat) (w : World) (hc : c ≤ 9223372036854775807) :
    Calls Tryd.prog 76 #[.slice ao m c, .int .i64 0] w fun e w' => e = .returned (.slice ao 0 c) ∧ w = w' := by
  have h0 : (0 : Int) ≤ (c : Int) := by omega
  go_enter Tryd.func76, Tryd.ntmps76
  go_wp2
  go_ret
  exact ⟨rfl, rfl⟩

def SetBitPost (base V : Nat) (w : World) (e : Ending) (w' : World) : Prop :=
  ∃ v, e = .returned v ∧ Room w' base v (nlen BW V) (dig BW V) ∧ Below base w w'

theorem row_clen {F : Nat → Nat} {n V : Nat} (hV : V < BW ^ n) (hF : ∀ j, j < n → F j = dig BW V j) : clen F n = nlen BW V := by
  rw [clen_val BW_one (fun j hj => by rw [hF j hj]; exact dig_lt BW_pos _ _), val_congr hF, val_of_dig BW_pos, Nat.mod_eq_of_lt hV]

theorem info_Word_size : (Tryd.prog.info? 83).map (·.size) = some 1 := by
  obtain ⟨j0, hj0, hjz0, hjz1, hjz2⟩ := info_parts info_Word
  rw [hj0]; simp [hjz1]

theorem row_setb {F : Nat → Nat} {V i q N X : Nat} {b : Bool} (hq : q = i / 64) (hF : ∀ j, j < N → F j = dig BW V j) (hX : X = dig BW (setb V i b) q) : ∀ j, j < N → upd F q X j = dig BW (setb V i b) j := by
  intro j hj
  by_cases h : j = q
  · rw [h, upd_same, hX]
  · rw [upd_other _ _ h, hF j hj, setb_dig V i b j (by rw [← hq]; exact h)]

theorem below_of_both {base : Nat} {w w1 w2 : World} {g : Nat} (h1 : Below w.heap.size w w1) (hb : base ≤ w.heap.size) (h2 : w1.grownBy w2 (some g)) (hg : base ≤ g) : Below base w w2 :=
  (h1.mono hb).grown h2 (Nat.le_trans hb h1.size) (fun k hk => by cases hk; exact hg)

set_option maxHeartbeats 1000000 in
/-- The bit is there: its word is turned in a row of n words. -/
theorem setBit_in (b : Bool) (v : Value) (ax : Option Addr) (V cx i q k n base m : Nat) (f0 : Nat → Nat) (w : World) (hroom : Room w base v m f0) (hb : base ≤ w.heap.size) (hnV : nlen BW V = n) (hq : q = i / 64) (hk : k = i % 64) (hqn : q < n) (hn2 : n ≤ 2147483647) (hi : i ≤ 1000000000000)
    (hrd : Reads w .u64 ax n (dig BW V)) :
    Calls Tryd.prog 62 #[v, .slice ax n cx, .int .u64 i, .int .u64 ((b01 b : Nat) : Int)] w (SetBitPost base (setb V i b) w) := by
  have KM := Lib.hid (make_room v base m n f0 w hroom hb (by omega) hn2)
  have hqi : (i : Int) / 64 = ((q : Nat) : Int) := by omega
  have hki : (i : Int) % 64 = ((k : Nat) : Int) := by omega
  have hk64 : k < 64 := by omega
  have hlt : ¬ ((n : Int) ≤ (q : Int)) := by omega
  have hp : (2 : Nat) ^ k < 18446744073709551616 := by
    have : (2 : Nat) ^ k ≤ 2 ^ 63 := Nat.pow_le_pow_right (by omega) (by omega)
    omega
  obtain ⟨P, hP⟩ : ∃ P, P = 2 ^ k := ⟨_, rfl⟩
  have hpi : ((2 : Int) ^ k) = ((P : Nat) : Int) := by rw [hP, Int.natCast_pow]; rfl
  rw [← hP] at hp
  have hdl := dig_BW V q
  have G := Lib.hid (And.intro hrd (And.intro hnV (And.intro hq (And.intro hk (And.intro hb hP)))))
  clear hroom hrd hnV hb hq hk hP
  cases b with
  | false =>
    simp only [b01]
    go_enter Tryd.func62, Tryd.ntmps62
    go_wp2_with fail
    refine KM.out.mono ?_
    rintro e w1 ⟨g, c, F, rfl, hnc, h1c, hc4, own1, bel1, hor⟩
    have hrd1 : Reads w1 .u64 ax n (dig BW V) := G.out.1.below bel1
    obtain ⟨w2, hcopy, own2, gr2⟩ := run_copy_room w1 70 70 83 Tryd.underlying70 info_Word_size base .u64 g c c F own1 0 n n c n cx (some ⟨g, 0, none⟩) ax (dig BW V) (Nat.min_self n) (fun _ => rfl) hrd1 (by omega)
    have hcell := own2.cell q (by omega)
    have hfz := own2.free q
    rw [updr_in _ _ _ _ _ (Nat.zero_le q) (by omega), Nat.sub_zero] at hcell
    obtain ⟨d, hd⟩ : ∃ d, d = dig BW V q := ⟨_, rfl⟩
    rw [← hd] at hcell hdl
    have hand := bits_andNot_u64_nat d P hdl hp
    have G2 := Lib.hid (And.intro own2 (And.intro gr2 (And.intro bel1 hd)))
    have hli : IntKind.u64.wrap ((1 : Int) * 2 ^ k) = ((P : Nat) : Int) := by rw [Int.one_mul, hpi, IntKind.wrap_u64]; omega
    clear own2 gr2 bel1 hd hrd1 own1 hor KM
    go_wp2_with (simp only [hcopy])
    have own3 := G2.out.1.stored q (andn d P)
    have hF3 := row_setb (F := updr F 0 (dig BW V) n) (V := V) (i := i) (b := false) (N := n) (X := andn d P) G.out.2.2.1 (fun j hj => by rw [updr_in _ _ _ _ _ (Nat.zero_le j) (by omega), Nat.sub_zero]) (by rw [G.out.2.2.1, setb_dig0, G2.out.2.2.2, G.out.2.2.2.2.2, G.out.2.2.1, G.out.2.2.2.1])
    have hlen := row_clen (Nat.lt_of_le_of_lt (setb0_le V i) (by rw [← G.out.2.1]; exact lt_pow_nlen BW_one V)) hF3
    have KN := Lib.hid (norm_any (some ⟨g, 0, none⟩) n c _ _ hnc (by omega) (Reads.of_own (own3.take hnc)))
    have HF := Lib.hid (And.intro own3 (And.intro hF3 hlen))
    clear own3 hF3 hlen hcopy
    refine KN.out.mono ?_
    rintro e w4 ⟨rfl, rfl⟩
    go_wp2
    go_ret
    have hg := (HF.out.1.lt g rfl).1
    refine ⟨_, rfl, ?_, below_of_both G2.out.2.2.1 G.out.2.2.2.2.1 (grown_trans G2.out.2.1 (grown_setCell w2 ⟨g, q, none⟩ _)) hg⟩
    rw [HF.out.2.2]
    refine Room.of ?_ h1c hc4 HF.out.1 (fun j hj => HF.out.2.1 j ?_)
    all_goals
      rw [← HF.out.2.2] at *
      have := clen_le (upd (updr F 0 (dig BW V) n) q (andn d P)) n
      omega
  | true =>
    simp only [b01]
    go_enter Tryd.func62, Tryd.ntmps62
    go_wp2_with fail
    refine KM.out.mono ?_
    rintro e w1 ⟨g, c, F, rfl, hnc, h1c, hc4, own1, bel1, hor⟩
    have hrd1 : Reads w1 .u64 ax n (dig BW V) := G.out.1.below bel1
    obtain ⟨w2, hcopy, own2, gr2⟩ := run_copy_room w1 70 70 83 Tryd.underlying70 info_Word_size base .u64 g c c F own1 0 n n c n cx (some ⟨g, 0, none⟩) ax (dig BW V) (Nat.min_self n) (fun _ => rfl) hrd1 (by omega)
    have hcell := own2.cell q (by omega)
    have hfz := own2.free q
    rw [updr_in _ _ _ _ _ (Nat.zero_le q) (by omega), Nat.sub_zero] at hcell
    obtain ⟨d, hd⟩ : ∃ d, d = dig BW V q := ⟨_, rfl⟩
    rw [← hd] at hcell hdl
    have hand := bits_or_u64_nat d P hdl hp
    have G2 := Lib.hid (And.intro own2 (And.intro gr2 (And.intro bel1 hd)))
    have hli : IntKind.u64.wrap ((1 : Int) * 2 ^ k) = ((P : Nat) : Int) := by rw [Int.one_mul, hpi, IntKind.wrap_u64]; omega
    have own3 := own2.stored q (d ||| P)
    have hF3 := row_setb (F := updr F 0 (dig BW V) n) (V := V) (i := i) (b := true) (N := n) (X := d ||| P) G.out.2.2.1 (fun j hj => by rw [updr_in _ _ _ _ _ (Nat.zero_le j) (by omega), Nat.sub_zero]) (by rw [G.out.2.2.1, setb_dig1, G2.out.2.2.2, G.out.2.2.2.2.2, G.out.2.2.1, G.out.2.2.2.1])
    have hlen : nlen BW (setb V i true) = n := by rw [setb1_nlen, G.out.2.1, ← G.out.2.2.1]; omega
    have HF := Lib.hid (And.intro own3 (And.intro hF3 hlen))
    clear own2 gr2 bel1 hd hrd1 own1 hor KM own3 hF3 hlen
    go_wp2_with (simp only [hcopy])
    go_ret
    have hg := (HF.out.1.lt g rfl).1
    refine ⟨_, rfl, ?_, below_of_both G2.out.2.2.1 G.out.2.2.2.2.1 (grown_trans G2.out.2.1 (grown_setCell w2 ⟨g, q, none⟩ _)) hg⟩
    rw [HF.out.2.2]
    exact Room.of hnc h1c hc4 HF.out.1 HF.out.2.1

/-- The bit lies above and is taken away: a copy. -/
theorem setBit_above0 (v : Value) (ax : Option Addr) (V cx i q n base m : Nat) (f0 : Nat → Nat) (w : World) (hroom : Room w base v m f0) (hb : base ≤ w.heap.size) (hnV : nlen BW V = n) (hq : q = i / 64) (hqn : n ≤ q) (hn2 : n ≤ 2147483647) (hi : i ≤ 1000000000000)
    (hrd : Reads w .u64 ax n (dig BW V)) :
    Calls Tryd.prog 62 #[v, .slice ax n cx, .int .u64 i, .int .u64 0] w (SetBitPost base V w) := by
  have hqi : (i : Int) / 64 = ((q : Nat) : Int) := by omega
  have hge : (n : Int) ≤ (q : Int) := by omega
  by_cases hn : n = 0
  · subst hn
    have hV0 : V = 0 := (nlen_eq_zero BW_one V).1 hnV
    obtain ⟨ao, m', c, rfl, hc, hpost⟩ : ∃ ao m' c, v = .slice ao m' c ∧ c ≤ 9223372036854775807 ∧ Room w base (.slice ao 0 c) 0 (dig BW V) := by
      rcases hroom with ⟨rfl, _⟩ | ⟨g, c, F, rfl, h1, h2, h3, own, hF⟩
      · exact ⟨none, 0, 0, rfl, by omega, Room.nil _ _ _⟩
      · exact ⟨_, _, c, rfl, by omega, Room.of (Nat.zero_le _) h2 h3 own (fun j hj => by omega)⟩
    have KM := Lib.hid (make_none ao m' c w hc)
    have hcopy := fun ty => run_copy_none (P := Tryd.prog) w 70 70 ty 83 ao ax 0 c 0 cx Tryd.underlying70 info_Word_size rfl
    have HP := Lib.hid (And.intro hpost hnV)
    clear hroom hrd hpost hnV hb hq hV0
    go_enter Tryd.func62, Tryd.ntmps62
    go_wp2_with fail
    refine KM.out.mono ?_
    rintro e w1 ⟨rfl, rfl⟩
    clear KM
    go_wp2_with (simp only [hcopy])
    go_ret
    exact ⟨_, rfl, by rw [HP.out.2]; exact HP.out.1, Below.refl _ _⟩
  · have KM := Lib.hid (make_room v base m n f0 w hroom hb (by omega) hn2)
    have G := Lib.hid (And.intro hrd (And.intro hnV hb))
    clear hroom hrd hnV hb hq
    go_enter Tryd.func62, Tryd.ntmps62
    go_wp2_with fail
    refine KM.out.mono ?_
    rintro e w1 ⟨g, c, F, rfl, hnc, h1c, hc4, own1, bel1, hor⟩
    have hrd1 : Reads w1 .u64 ax n (dig BW V) := G.out.1.below bel1
    obtain ⟨w2, hcopy, own2, gr2⟩ := run_copy_room w1 70 70 83 Tryd.underlying70 info_Word_size base .u64 g c c F own1 0 n n c n cx (some ⟨g, 0, none⟩) ax (dig BW V) (Nat.min_self n) (fun _ => rfl) hrd1 (by omega)
    have G2 := Lib.hid (And.intro own2 (And.intro gr2 bel1))
    clear own2 gr2 bel1 hrd1 own1 hor KM
    go_wp2_with (simp only [hcopy])
    go_ret
    have hg := (G2.out.1.lt g rfl).1
    refine ⟨_, rfl, ?_, below_of_both G2.out.2.2 G.out.2.2 G2.out.2.1 hg⟩
    rw [G.out.2.1]
    exact Room.of hnc h1c hc4 G2.out.1 (fun j hj => by rw [updr_in _ _ _ _ _ (Nat.zero_le j) (by omega), Nat.sub_zero])

set_option maxHeartbeats 1000000 in
/-- The bit lies above and is set: words 0 between. -/
theorem setBit_above1 (v : Value) (ax : Option Addr) (V cx i q k n base m : Nat) (f0 : Nat → Nat) (w : World) (hroom : Room w base v m f0) (hb : base ≤ w.heap.size) (hnV : nlen BW V = n) (hq : q = i / 64) (hk : k = i % 64) (hqn : n ≤ q) (hn2 : q ≤ 2147483646) (hi : i ≤ 1000000000000)
    (hrd : Reads w .u64 ax n (dig BW V)) (hx : v = .slice none 0 0 ∨ v = .slice ax n cx) :
    Calls Tryd.prog 62 #[v, .slice ax n cx, .int .u64 i, .int .u64 1] w (SetBitPost base (setb V i true) w) := by
  have KM := Lib.hid (make_room v base m (q + 1) f0 w hroom hb (by omega) (by omega))
  have hqi : (i : Int) / 64 = ((q : Nat) : Int) := by omega
  have hki : (i : Int) % 64 = ((k : Nat) : Int) := by omega
  have hk64 : k < 64 := by omega
  have hge : (n : Int) ≤ (q : Int) := by omega
  have hp : (2 : Nat) ^ k < 18446744073709551616 := by
    have : (2 : Nat) ^ k ≤ 2 ^ 63 := Nat.pow_le_pow_right (by omega) (by omega)
    omega
  obtain ⟨P, hP⟩ : ∃ P, P = 2 ^ k := ⟨_, rfl⟩
  have hpi : ((2 : Int) ^ k) = ((P : Nat) : Int) := by rw [hP, Int.natCast_pow]; rfl
  rw [← hP] at hp
  have hVl := lt_pow_nlen BW_one V
  rw [hnV] at hVl
  have G := Lib.hid (And.intro hrd (And.intro hnV (And.intro hq (And.intro hk (And.intro hb (And.intro hP (And.intro hx hVl)))))))
  clear hroom hrd hnV hb hq hk hP hx hVl
  go_enter Tryd.func62, Tryd.ntmps62
  go_wp2_with fail
  refine KM.out.mono ?_
  rintro e w1 ⟨g, c, F, rfl, hnc, h1c, hc4, own1, bel1, hor⟩
  obtain ⟨w2, hclear, own2, gr2⟩ := run_clear_room w1 70 83 Tryd.underlying70 zero_Word base g c c F own1 n (q + 1 - n) (c - n) (by omega) (by omega)
  have hrd2 : Reads w2 .u64 ax n (dig BW V) := by
    rcases hor with ⟨rfl, hv, hF⟩ | hg
    · intro j hj
      obtain ⟨b, o, ha, hcell⟩ := G.out.1 j hj
      have hvx : (⟨b, o, none⟩ : Addr) = ⟨g, 0, none⟩ := by
        rcases G.out.2.2.2.2.2.2.1 with h | h
        · rw [h] at hv; simp at hv
        · rw [h, ha] at hv; simp at hv; simp [hv]
      injection hvx with h1 h2
      subst h1 h2
      refine ⟨b, 0, ha, ?_⟩
      have h3 := own1.cell j (by omega)
      have h4 := own2.cell j (by omega)
      rw [Nat.zero_add] at hcell ⊢
      rw [h4, ← hcell, h3]
      unfold updr
      rw [if_neg (by omega)]
    · by_cases hn0 : 0 < n
      · refine (G.out.1.below bel1).grown gr2 ?_
        intro a ha e
        cases e
        obtain ⟨b, o, h1, h2⟩ := G.out.1.lt hn0
        rw [h1] at ha
        cases ha
        simp at hg
        omega
      · intro j hj
        omega
  obtain ⟨w3, hcopy, own3, gr3⟩ := run_copy_room w2 70 70 83 Tryd.underlying70 info_Word_size base .u64 g c c _ own2 0 n (q + 1) c n cx (some ⟨g, 0, none⟩) ax (dig BW V) (Nat.min_eq_left (by omega)) (fun _ => rfl) hrd2 (by omega)
  have hF2 : ∀ j, j < q + 1 → updr (updr F n (fun _ => 0) (q + 1 - n)) 0 (dig BW V) n j = dig BW V j := by
    intro j hj
    by_cases h : j < n
    · rw [updr_in _ _ _ _ _ (Nat.zero_le j) (by omega), Nat.sub_zero]
    · unfold updr
      rw [if_neg (by omega), if_pos (by omega), dig_of_lt (Nat.lt_of_lt_of_le G.out.2.2.2.2.2.2.2 (Nat.pow_le_pow_right BW_pos (by omega)))]
  have hcell := own3.cell q (by omega)
  have hfz := own3.free q
  have hd0 : dig BW V q = 0 := dig_of_lt (Nat.lt_of_lt_of_le G.out.2.2.2.2.2.2.2 (Nat.pow_le_pow_right BW_pos hqn))
  rw [hF2 q (by omega), hd0] at hcell
  have hand : bits .or .u64 0 (P : Int) = ((P : Nat) : Int) := by
    have := bits_or_u64_nat 0 P (by omega) hp
    rw [Nat.zero_or] at this
    exact this
  have hli : IntKind.u64.wrap ((1 : Int) * 2 ^ k) = ((P : Nat) : Int) := by rw [Int.one_mul, hpi, IntKind.wrap_u64]; omega
  have own4 := own3.stored q P
  have hF3 := row_setb (V := V) (i := i) (b := true) (N := q + 1) (X := P) G.out.2.2.1 hF2 (by rw [G.out.2.2.1, setb_dig1, ← G.out.2.2.1, hd0, Nat.zero_or, G.out.2.2.2.2.2.1, G.out.2.2.2.1])
  have hlen : nlen BW (setb V i true) = q + 1 := by rw [setb1_nlen, G.out.2.1, ← G.out.2.2.1]; omega
  have hg := (own4.lt g rfl).1
  have HF := Lib.hid (And.intro own4 (And.intro hF3 (And.intro hlen (below_of_both bel1 G.out.2.2.2.2.1 (grown_trans gr2 (grown_trans gr3 (grown_setCell w3 ⟨g, q, none⟩ (.int .u64 P)))) hg))))
  have hcn : ¬ (c = n) := by omega
  have hsub : ((q : Int) + 1 - (n : Int)).toNat = q + 1 - n := by omega
  clear own2 gr2 bel1 hrd2 own1 hor KM own3 gr3 own4 hF3 hlen hF2 hd0 hg
  go_wp2_with (first | simp only [hcopy] | simp only [hclear])
  go_ret
  refine ⟨_, rfl, ?_, HF.out.2.2.2⟩
  rw [HF.out.2.2.1]
  exact Room.of hnc h1c hc4 HF.out.1 HF.out.2.1

/-- A bit that is none: it panics. -/
theorem setBit_bad (v : Value) (ax : Option Addr) (cx i n b : Nat) (w : World) (hb : 2 ≤ b) :
    Calls Tryd.prog 62 #[v, .slice ax n cx, .int .u64 i, .int .u64 b] w fun e w' => (∃ T x, e = .panicked [{ v := .iface T x, recovered := false }]) ∧ w' = w := by
  have h0 : ((b : Int) == 0) = false := by simp; omega
  have h1 : ((b : Int) == 1) = false := by simp; omega
  have hb' : 2 ≤ (b : Int) := by omega
  go_enter Tryd.func62, Tryd.ntmps62
  go_wp2
  exact ⟨rfl, ⟨_, _, rfl⟩, rfl⟩

/-- (nat).setBit, x the receiver itself or the receiver nil. -/
theorem natSetBit_any (b : Bool) (v : Value) (ax : Option Addr) (V cx i base m : Nat) (f0 : Nat → Nat) (w : World) (hroom : Room w base v m f0) (hb : base ≤ w.heap.size) (hn2 : nlen BW V ≤ 2147483647) (hi : i ≤ 100000000)
    (hrd : Reads w .u64 ax (nlen BW V) (dig BW V)) (hx : v = .slice none 0 0 ∨ v = .slice ax (nlen BW V) cx) :
    Calls Tryd.prog 62 #[v, .slice ax (nlen BW V) cx, .int .u64 i, .int .u64 ((b01 b : Nat) : Int)] w (SetBitPost base (setb V i b) w) := by
  by_cases h : i / 64 < nlen BW V
  · exact setBit_in b v ax V cx i _ _ _ base m f0 w hroom hb rfl rfl rfl h hn2 (by omega) hrd
  · cases b with
    | false =>
      rw [setb0_none V i (Nat.lt_of_lt_of_le (lt_pow_nlen BW_one V) (by rw [BW_pow]; exact Nat.pow_le_pow_right (by omega) (by omega)))]
      exact setBit_above0 v ax V cx i _ _ base m f0 w hroom hb rfl rfl (by omega) hn2 (by omega) hrd
    | true => exact setBit_above1 v ax V cx i _ _ _ base m f0 w hroom hb rfl rfl rfl (by omega) (by omega) (by omega) hrd hx

end Go.Proofs.YtidifjmjbfhpaaaDoor
