/- spec.Read: the number of a text. -/
import Derived.Test.YtidifjmjbfhpaaaDoorParseText
import Derived.Test.YtidifjmjbfhpaaaDoorSpecMul
import Derived.Deep.Cut
import Derived.Deep.CutBlock
import Derived.Deep.CutRange
namespace Go.Proofs.YtidifjmjbfhpaaaDoor
set_option linter.unusedVariables false
set_option maxRecDepth 20000
set_option linter.unusedSimpArgs false
open Go.RowKit

theorem chr_extract (s : ByteArray) (h : 1 ≤ s.size) (i : Nat) (hi : i < s.size - 1) : chr (s.extract 1 s.size) i = chr s (1 + i) := by
  unfold chr
  have h1 : i < (s.extract 1 s.size).size := by simp; omega
  have h2 : 1 + i < s.size := by omega
  rw [dif_pos h1, dif_pos h2, ByteArray.getElem_extract]

theorem nlen_one65536 {y : Nat} (h1 : 1 ≤ y) (h2 : y < 65536) : nlen 65536 y = 1 := by
  refine eq_of_le_iff fun m => ?_
  rw [nlen_le_iff (by omega)]
  constructor
  · intro h'
    refine Nat.lt_of_not_le fun h'' => ?_
    obtain rfl : m = 0 := by omega
    simp at h'
    omega
  · intro h'
    exact Nat.lt_of_lt_of_le (by simpa using h2) (Nat.pow_le_pow_right (by omega) h')

theorem pv_nlen16 {d : Nat → Nat} {b k : Nat} (hb : b ≤ 62) (h : ∀ j, j < k → d j < b) : nlen 65536 (pv d b k) ≤ k := by
  rw [nlen_le_iff (by omega)]
  exact Nat.lt_of_lt_of_le (pv_lt h) (Nat.pow_le_pow_left (by omega) k)

def ReadPost (s : ByteArray) (b : Nat) (w : World) (e : Ending) (w' : World) : Prop :=
  ∃ (neg : Bool) (V : Nat) (v : Value) (fine : Bool), e = .returned (.tuple #[.agg #[.bool neg, v], .bool fine]) ∧ (fine = true ↔ GoodText s b) ∧ (GoodText s b → neg = sgn (sgnNeg s) (textVal s b) ∧ V = textVal s b) ∧ (¬ GoodText s b → neg = false ∧ V = 0) ∧
    Own w' w.heap.size 3 .i64 v (nlen 65536 V) (dig 65536 V) ∧ nlen 65536 V ≤ 1500 ∧ Below w.heap.size w w'

set_option maxHeartbeats 4000000 in
theorem specRead_any (s : ByteArray) (b : Nat) (w : World) (hs : s.size ≤ 1500) (hb : 2 ≤ b) (hb2 : b ≤ 62) :
    Calls Tryd.prog 21 #[.string s, .int .i64 b] w (ReadPost s b w) := by
  obtain ⟨o, ho⟩ : ∃ o, Hid (o = sgnOff s) := ⟨_, Lib.hid rfl⟩
  obtain ⟨neg, hneg⟩ : ∃ o, Hid (o = sgnNeg s) := ⟨_, Lib.hid rfl⟩
  obtain ⟨t, ht⟩ : ∃ t, Hid (t = if o = 1 then s.extract 1 s.size else s) := ⟨_, Lib.hid rfl⟩
  obtain ⟨m, hm⟩ : ∃ m, Hid (m = s.size - o) := ⟨_, Lib.hid rfl⟩
  have hos : o ≤ s.size := by rw [ho.out]; exact sgnOff_le s
  have ho1 : o ≤ 1 := by rw [ho.out]; unfold sgnOff; split <;> omega
  have hts : t.size = m := by
    rw [ht.out, hm.out]
    split
    · rename_i h; rw [h]; simp
    · rw [show o = 0 by omega]; rfl
  have hm1 : m ≤ 1500 := by rw [hm.out]; omega
  have HT := Lib.hid (show ∀ i, i < m → chr t i = chr s (o + i) by
    intro i hi
    rw [ht.out]
    have := hm.out
    split
    · rename_i h; rw [h]; exact chr_extract s (by omega) i (by omega)
    · rw [show o = 0 by omega, Nat.zero_add])
  have HIX := Lib.hid (show ∀ (i : Nat) (w : World), i < m → (Instr.index 9 (.string t) (.int .i64 (i : Int))).run Tryd.prog w = .ok (.int .u8 (chr t i)) w from fun i w hi => run_index_chr 9 t .i64 (i : Int) i Tryd.underlying9 (by omega) rfl)
  have hix0 : ∀ w, 0 < s.size → (Instr.index 9 (.string s) (.int .i64 0)).run Tryd.prog w = .ok (.int .u8 (chr s 0)) w := fun w h => run_index_chr 9 s .i64 0 0 Tryd.underlying9 h rfl
  obtain ⟨c0, hc0⟩ : ∃ c, Hid (c = chr s 0) := ⟨_, Lib.hid rfl⟩
  rw [← hc0.out] at hix0
  have HX0 := Lib.hid hix0
  have hts1 : t.size ≤ 1500 := by omega
  have HTS := Lib.hid hts
  clear hix0 hts
  obtain ⟨W1, HW1⟩ : ∃ W, Hid (W = w.alloc (.cells #[.bool false, .slice none 0 0] 29)) := ⟨_, Lib.hid rfl⟩
  have b1 : Below w.heap.size w W1 := by rw [HW1.out]; exact (Below.refl _ w).alloc (Nat.le_refl _) _
  have P1 : Pair W1 w.heap.size 29 (.bool false) (.slice none 0 0) := by rw [HW1.out]; exact Pair.new w _ _ _
  have F1 := Lib.hid (And.intro b1 P1)
  clear b1 P1
  obtain ⟨p4, hp4⟩ : ∃ p, Hid (p = w.heap.size) := ⟨_, Lib.hid rfl⟩
  go_enter Tryd.func21, Tryd.ntmps21
  go_upto_region 1 with fail
  rw [← HW1.out, ← hp4.out]
  go_cut [6] from 10 to 17 (fun t6 wn => t6 = .bool neg ∧ wn = W1)
  case first =>
    by_cases h0 : 0 < s.size
    · have hix := fun w => HX0.out w h0
      have hgt : decide ((0 : Int) < (s.size : Int)) = true := by simp; omega
      by_cases h45 : c0 = 45
      · have hng : neg = true := by rw [hneg.out]; unfold sgnNeg; simp [h0, ← hc0.out, h45]
        subst hng
        subst h45
        go_wp2_with fail
        go_meet
        exact ⟨rfl, rfl⟩
      · have hng : neg = false := by rw [hneg.out]; unfold sgnNeg; simp [← hc0.out, h45]
        subst hng
        have t45 : ((c0 : Int) == 45) = false := by simp; omega
        go_wp2_with fail
        go_meet
        exact ⟨rfl, rfl⟩
    · have hng : neg = false := by rw [hneg.out]; unfold sgnNeg; rw [decide_eq_false h0]; rfl
      have hgt : decide ((0 : Int) < (s.size : Int)) = false := decide_eq_false (by omega)
      subst hng
      go_wp2_with fail
      go_meet
      exact ⟨rfl, rfl⟩
  case rest =>
  obtain ⟨rfl, rfl⟩ := hcut
  go_upto_region 2 with fail
  go_cut [28] from 18 to 28 (fun t28 wn => t28 = .bool (decide (o = 1)) ∧ wn = wc)
  case first =>
    by_cases h0 : 0 < s.size
    · have hix := fun w => HX0.out w h0
      have hgt : decide ((0 : Int) < (s.size : Int)) = true := by simp; omega
      by_cases h45 : c0 = 45
      · have hng : neg = true := by rw [hneg.out]; unfold sgnNeg; simp [h0, ← hc0.out, h45]
        have ho2 := Lib.hid (show decide (o = 1) = true by rw [ho.out]; unfold sgnOff; rw [if_pos ⟨h0, .inl (by rw [← hc0.out, h45])⟩]; rfl)
        subst hng
        subst h45
        go_wp2_with fail
        go_meet
        exact ⟨by rw [ho2.out], rfl⟩
      · have hng : neg = false := by rw [hneg.out]; unfold sgnNeg; simp [← hc0.out, h45]
        subst hng
        by_cases h43 : c0 = 43
        · have ho2 := Lib.hid (show decide (o = 1) = true by rw [ho.out]; unfold sgnOff; rw [if_pos ⟨h0, .inr (by rw [← hc0.out, h43])⟩]; rfl)
          subst h43
          go_wp2_with fail
          go_meet
          exact ⟨by rw [ho2.out], rfl⟩
        · have ho2 := Lib.hid (show decide (o = 1) = false by
            rw [ho.out]; unfold sgnOff; rw [if_neg]
            · rfl
            rintro ⟨_, h | h⟩
            · exact h45 (by rw [hc0.out, h])
            · exact h43 (by rw [hc0.out, h]))
          have t43 : ((c0 : Int) == 43) = false := by simp; omega
          go_wp2_with fail
          go_meet
          exact ⟨by rw [ho2.out], rfl⟩
    · have hng : neg = false := by rw [hneg.out]; unfold sgnNeg; rw [decide_eq_false h0]; rfl
      have hgt : decide ((0 : Int) < (s.size : Int)) = false := decide_eq_false (by omega)
      have ho2 := Lib.hid (show decide (o = 1) = false by
        rw [ho.out]; unfold sgnOff; rw [if_neg]
        · rfl
        · exact fun h => h0 h.1)
      subst hng
      go_wp2_with fail
      go_meet
      exact ⟨by rw [ho2.out], rfl⟩
  case rest =>
  obtain ⟨rfl, rfl⟩ := hcut
  go_upto_if 28 with fail
  go_cut [0] from 18 to 30 (fun t0 wn => t0 = .string t ∧ wn = wc)
  case first =>
    by_cases h1 : o = 1
    · have ho2 : decide (o = 1) = true := by simp [h1]
      have ht2 : t = s.extract 1 s.size := by rw [ht.out, if_pos h1]
      rw [ho2]
      have hsz : (1 : Int) ≤ (s.size : Int) := by omega
      have HT2 := Lib.hid ht2
      clear ht2 h1
      go_wp2_with fail
      go_meet
      exact ⟨by rw [HT2.out], rfl⟩
    · have ho2 : decide (o = 1) = false := by simp [h1]
      have ht2 : t = s := by rw [ht.out, if_neg h1]
      rw [ho2]
      have HT2 := Lib.hid ht2
      clear ht2 h1
      go_wp2_with fail
      go_meet
      exact ⟨by rw [HT2.out], rfl⟩
  case rest =>
  obtain ⟨rfl, rfl⟩ := hcut
  have hd : ∀ i, i < m → dgt (chr t i) b = dgs s o b i := fun i hi => by rw [HT.out i hi]; rfl
  have HD := Lib.hid hd
  have hbs := F1.out.1.size
  have O0 := Lib.hid (Own.empty wc wc.heap.size 3 .i64 (fun _ => 0) (Nat.le_refl _))
  have B0 := Lib.hid ((Below.refl wc.heap.size wc).alloc (Nat.le_refl _) (.cells #[] 3))
  have HW1 := HW1
  clear hd HT HX0 ht ho1
  go_wp2_with fail
  rw [HTS.out]
  go_loopw [7, 34] (fun v ti wr => ∃ (i : Nat) (x : Value), x = v ∧ i ≤ m ∧ ti = .int .i64 i ∧ (∀ j, j < i → dgs s o b j < b) ∧ Own wr wc.heap.size 3 .i64 x (nlen 65536 (pv (dgs s o b) b i)) (dig 65536 (pv (dgs s o b) b i)) ∧ Below wc.heap.size wc wr) (fun _ ti _ => m - (intOf ti).toNat)
  case atStart =>
    refine ⟨0, _, rfl, Nat.zero_le _, rfl, fun j hj => absurd hj (Nat.not_lt_zero j), ?_, B0.out⟩
    rw [show pv (dgs s o b) b 0 = 0 from rfl, (nlen_eq_zero (by omega) 0).2 rfl]
    exact O0.out.congr fun j hj => absurd hj (Nat.not_lt_zero j)
  case round =>
    obtain ⟨i, x, rfl, him, rfl, hval, own, bel⟩ := hrel
    have P4 : Pair wr p4 29 (.bool false) (.slice none 0 0) := by
      rw [hp4.out]
      exact F1.out.2.below bel F1.out.2.lt
    have q0 := P4.cell0
    have q1 := P4.cell1
    have q2 := P4.free 0
    have q3 := P4.free 1
    have hp4l : w.heap.size ≤ p4 := by rw [hp4.out]; exact Nat.le_refl _
    have hnl : nlen 65536 (pv (dgs s o b) b i) ≤ i := pv_nlen16 hb2 hval
    obtain ⟨ao, c, rfl, hle, hcm, hrd, hlt⟩ := own.parts
    have hfin : ∀ (u : World) (x y : Value), wr.heap.size ≤ u.heap.size → Below w.heap.size w u → Below w.heap.size w ((u.setCell ⟨p4, 0, none⟩ x).setCell ⟨p4, 1, none⟩ y) := fun u x y _ h => (h.setCell (p := ⟨p4, 0, none⟩) hp4l x).setCell (p := ⟨p4, 1, none⟩) hp4l y
    have HFIN := Lib.hid hfin
    have G := Lib.hid (And.intro own (And.intro (below_trans F1.out.1 bel) (And.intro hval (And.intro hnl (And.intro hrd bel)))))
    clear own bel hval hnl hrd hlt hcm P4 hfin
    by_cases h1 : i < m
    · have hix := fun w => HIX.out i w h1
      have hchl := chr_lt t i
      obtain ⟨ch, hch⟩ : ∃ c, Hid (c = chr t i) := ⟨_, Lib.hid rfl⟩
      obtain ⟨D, hD⟩ : ∃ D, Hid (D = dgs s o b i) := ⟨_, Lib.hid rfl⟩
      have hDd : dgt (chr t i) b = D := by rw [hD.out]; exact HD.out i h1
      rw [← hch.out] at hix hchl hDd
      have hfig : fig ch b = if D < b then (D : Int) else -1 := by unfold fig; rw [hDd]
      have KF := figure_any ch b wr hchl hb hb2
      rw [hfig] at KF
      clear hfig hDd
      by_cases hv : D < b
      · rw [if_pos hv] at KF
        have tD : ¬ ((D : Int) < 0) := by omega
        have KF' := Lib.hid KF
        have KS := Lib.hid (specSmall_any b wr (by omega))
        have KS2 := Lib.hid (fun w => specSmall_any D w (by omega))
        clear KF q0 q1 q2 q3
        go_wp2_with fail
        refine KF'.out.mono ?_
        rintro e w1 ⟨rfl, hw1⟩
        rw [hw1]
        clear hw1
        go_wp2_with fail
        refine KS.out.mono ?_
        rintro e w2 ⟨v2, rfl, own2, b2⟩
        have hnb := nlen_one65536 (y := b) (by omega) (by omega)
        rw [hnb] at own2
        obtain ⟨ab, cb, rfl, hle2, _, hrd2, _⟩ := own2.parts
        have hdb : dig 65536 b 0 = b := by unfold dig; rw [Nat.pow_zero, Nat.div_one]; omega
        have KMul := Lib.hid (specMul1_any ao ab (pv (dgs s o b) b i) c cb b w2 hle hle2 (by have := G.out.2.2.2.1; omega) (by omega) (G.out.2.2.2.2.1.below b2) (hrd2.congr fun j hj => by rw [show j = 0 by omega]; exact hdb))
        have B2 := Lib.hid b2
        clear own2 hrd2 b2 hnb hdb KS KF'
        go_wp2_with fail
        refine KMul.out.mono ?_
        rintro e w3 ⟨v3, rfl, own3, b3⟩
        obtain ⟨a3, c3, rfl, hle3, _, hrd3, _⟩ := own3.parts
        have F3 := Lib.hid (And.intro hrd3 b3)
        clear own3 hrd3 b3 KMul
        go_wp2_with fail
        refine (KS2.out _).mono ?_
        rintro e w4 ⟨v4, rfl, own4, b4⟩
        obtain ⟨a4, c4, rfl, hle4, _, hrd4, _⟩ := own4.parts
        have hn3 : nlen 65536 (pv (dgs s o b) b i * b) ≤ 1501 := by
          have h1 : pv (dgs s o b) b i * b < 65536 ^ (i + 1) := by
            rw [Nat.pow_succ]
            exact Nat.mul_lt_mul_of_lt_of_le (Nat.lt_of_lt_of_le (pv_lt G.out.2.2.1) (Nat.pow_le_pow_left (by omega) i)) (by omega) (by omega)
          have := (nlen_le_iff (B := 65536) (by omega) _ (i + 1)).2 h1
          omega
        have hn4 : nlen 65536 D ≤ 1 := (nlen_le_iff (B := 65536) (by omega) _ 1).2 (by omega)
        have KAdd := Lib.hid (specAdd_any a3 a4 (pv (dgs s o b) b i * b) D c3 c4 w4 hle3 hle4 (by omega) (by omega) (F3.out.1.below b4) hrd4)
        have B4 := Lib.hid b4
        clear own4 hrd4 b4 hn3 hn4 hle3 hle4 hle2
        go_wp2_with fail
        refine KAdd.out.mono ?_
        rintro e w5 ⟨v5, rfl, own5, b5⟩
        have F5 := Lib.hid (And.intro own5 b5)
        clear own5 b5 KAdd
        go_wp2
        go_roundw
        case rel =>
          go_light
          have hbel := below_trans (below_trans (below_trans (below_trans G.out.2.2.2.2.2 B2.out) F3.out.2) B4.out) F5.out.2
          have hbel4 := below_trans (below_trans (below_trans G.out.2.2.2.2.2 B2.out) F3.out.2) B4.out
          refine ⟨i + 1, _, rfl, by omega, by go_num, fun j hj => ?_, ?_, hbel⟩
          · by_cases hji : j < i
            · exact G.out.2.2.1 j hji
            · rw [show j = i by omega, ← hD.out]; exact hv
          · rw [show pv (dgs s o b) b (i + 1) = pv (dgs s o b) b i * b + D by rw [hD.out]; rfl]
            exact F5.out.1.base_le hbel4.size
        case measure => simp [intOf]; omega
      · rw [if_neg hv] at KF
        have KF' := Lib.hid KF
        clear KF
        go_wp2_with fail
        refine KF'.out.mono ?_
        rintro e w1 ⟨rfl, hw1⟩
        rw [hw1]
        clear hw1
        go_wp2
        refine bodyPost_ret (v := .tuple #[.agg #[.bool false, .slice none 0 0], .bool false]) (by simp [results, Tryd.results21, go_sem, q0, q1, q2, q3]) rfl ?_
        have hng : ¬ GoodText s b := fun h => hv (by rw [hD.out, ho.out]; exact h.2 i (by have h1' := h1; rw [hm.out, ho.out] at h1'; exact h1'))
        refine ⟨false, 0, _, false, rfl, ⟨(fun h => by cases h), fun h => absurd h hng⟩, fun h => absurd h hng, fun _ => ⟨rfl, rfl⟩, ?_, ?_, HFIN.out wr _ _ (Nat.le_refl _) G.out.2.1⟩
        · rw [(nlen_eq_zero (by omega) 0).2 rfl]; exact Own.nil _ _ _ _ _
        · rw [(nlen_eq_zero (by omega) 0).2 rfl]; omega
    · obtain rfl : i = m := by omega
      obtain ⟨V, hV⟩ : ∃ V, Hid (V = pv (dgs s o b) b i) := ⟨_, Lib.hid rfl⟩
      have G2 := G
      rw [← hV.out] at G2
      rw [← hV.out] at hle
      rw [← hV.out]
      obtain ⟨n, hn⟩ : ∃ n, Hid (n = nlen 65536 V) := ⟨_, Lib.hid rfl⟩
      have G3 := G2.out
      rw [← hn.out] at G3 hle
      rw [← hn.out]
      have KSg := Lib.hid (specSign_any neg ao n c wr)
      have HG3 := Lib.hid G3
      have hts0 : (t.size : Int) = (i : Int) := by rw [HTS.out]
      clear G G2 G3 q0 q1 q2 q3
      go_wp2_with fail
      refine KSg.out.mono ?_
      rintro e w2 ⟨rfl, b2⟩
      have P4 : Pair w2 p4 29 (.bool false) (.slice none 0 0) := by
        rw [hp4.out]
        exact F1.out.2.below (below_trans HG3.out.2.2.2.2.2 b2) F1.out.2.lt
      have q0 := P4.cell0
      have q1 := P4.cell1
      have q2 := P4.free 0
      have q3 := P4.free 1
      have F2 := Lib.hid b2
      obtain ⟨ng, hng⟩ : ∃ x, Hid (x = (neg && decide (n ≠ 0))) := ⟨_, Lib.hid rfl⟩
      rw [← hng.out]
      obtain ⟨fn, hfn⟩ : ∃ x, Hid (x = decide (0 < i)) := ⟨_, Lib.hid rfl⟩
      have hdec : decide ((0 : Int) < (i : Int)) = fn := by rw [hfn.out]; simp
      clear b2 KSg P4
      go_wp2
      refine bodyPost_ret (v := .tuple #[.agg #[.bool ng, .slice ao n c], .bool fn]) (by simp [results, Tryd.results21, go_sem, q0, q1, q2, q3]; exact hfn.out.symm) rfl ?_
      have hio : i = s.size - sgnOff s := by rw [hm.out, ho.out]
      have hgood : GoodText s b ↔ 0 < i := by
        constructor
        · intro h
          have := h.1
          omega
        · intro h
          refine ⟨by omega, fun j hj => ?_⟩
          rw [← ho.out]
          exact HG3.out.2.2.1 j (by omega)
      have hVt : V = textVal s b := by
        unfold textVal
        rw [hV.out, ← ho.out, show s.size - o = i by rw [hm.out]]
      refine ⟨ng, V, _, fn, rfl, ?_, fun hg => ⟨?_, hVt⟩, fun hg => ?_, ?_, ?_, ?_⟩
      · rw [hgood, hfn.out]; simp
      · rw [hng.out, hneg.out, hn.out, ← hVt]
        unfold sgn
        congr 1
        simp [nlen_eq_zero]
      · have h0 : i = 0 := by
          rcases Nat.eq_zero_or_pos i with h | h
          · exact h
          · exact absurd (hgood.2 h) hg
        have hV0 : V = 0 := by rw [hV.out, h0]; rfl
        refine ⟨?_, hV0⟩
        rw [hng.out, hn.out, hV0, (nlen_eq_zero (by omega) 0).2 rfl]
        simp
      · rw [← hn.out]
        refine (HG3.out.1.kept (grown_trans (grown_of_below F2.out (some p4)) (grown_trans (grown_setCell w2 ⟨p4, 0, none⟩ _) (grown_setCell _ ⟨p4, 1, none⟩ _))) ?_).base_le hbs
        rcases hao : (Value.slice ao n c).ownBlock with _ | g
        · exact .inl rfl
        · refine .inr ?_
          have h2 := (HG3.out.1.lt g hao).1
          have h3 := F1.out.2.lt
          have h4 := hp4.out
          intro e
          cases e
          omega
      · rw [← hn.out]; have := HG3.out.2.2.2.1; omega
      · exact HFIN.out w2 _ _ F2.out.size (below_trans HG3.out.2.1 F2.out)

end Go.Proofs.YtidifjmjbfhpaaaDoor
