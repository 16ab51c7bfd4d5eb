/- (nat).scan in a base that packs into words (2, 4, 16): the number of the digits that stand ahead. -/
import Derived.Test.YtidifjmjbfhpaaaDoorNatScanG
import Derived.Test.YtidifjmjbfhpaaaDoorTurnRow
import Derived.Test.YtidifjmjbfhpaaaDoorSpecArith
namespace Go.Proofs.YtidifjmjbfhpaaaDoor
set_option linter.unusedVariables false
set_option maxRecDepth 20000
set_option linter.unusedSimpArgs false
open Go.RowKit

def ZP (base : Nat) (s : ByteArray) (o b : Nat) (wr : World) (z : Value) (P : Nat) : Prop :=
  (z = .slice none 0 0 ∧ P = 0) ∨ ∃ g c q f, z = .slice (some ⟨g, 0, none⟩) q c ∧ 1 ≤ q ∧ q ≤ P ∧ Own wr base 83 .u64 (.slice (some ⟨g, 0, none⟩) q c) q f ∧ (∀ j, j < q → f j < BW) ∧ pv f BW q = pv (dgs s o b) b P
section
variable {base : Nat} {s : ByteArray} {o b p : Nat} {wr wr' : World} {z : Value} {P : Nat}
theorem ZP.start (base : Nat) (s : ByteArray) (o b : Nat) (wr : World) : ZP base s o b wr (.slice none 0 0) 0 := .inl ⟨rfl, rfl⟩
theorem ZP.zero (h : ZP base s o b wr z 0) : z = .slice none 0 0 := by
  rcases h with h | ⟨g, c, q, f, _, h1, h2, _⟩
  · exact h.1
  · omega
theorem ZP.row (h : ZP base s o b wr z P) (hP : P ≠ 0) : ∃ g c q f, z = .slice (some ⟨g, 0, none⟩) q c ∧ 1 ≤ q ∧ q ≤ P ∧ Own wr base 83 .u64 (.slice (some ⟨g, 0, none⟩) q c) q f ∧ (∀ j, j < q → f j < BW) ∧ pv f BW q = pv (dgs s o b) b P := by
  rcases h with h | h
  · exact absurd h.2 hP
  · exact h
theorem ZP.own (h : ZP base s o b wr z P) : ∃ q f, Own wr base 83 .u64 z q f ∧ q ≤ P ∧ (∀ j, j < q → f j < BW) ∧ pv f BW q = pv (dgs s o b) b P := by
  rcases h with ⟨rfl, rfl⟩ | ⟨g, c, q, f, rfl, h1, h2, h3, h4, h5⟩
  · exact ⟨0, fun _ => 0, Own.nil _ _ _ _ _, Nat.le_refl _, fun j hj => absurd hj (Nat.not_lt_zero j), rfl⟩
  · exact ⟨q, f, h3, h2, h4, h5⟩
theorem own_some {e : TypeId} {k : IntKind} {n : Nat} {f : Nat → Nat} (h : Own wr base e k z n f) (hn : 1 ≤ n) : ∃ g c, z = .slice (some ⟨g, 0, none⟩) n c := by
  rcases h.shape with ⟨_, h0⟩ | ⟨g, c, rfl, _⟩
  · omega
  · exact ⟨g, c, rfl⟩
theorem ZP.of {q : Nat} {f : Nat → Nat} (h : Own wr base 83 .u64 z q f) (h1 : 1 ≤ q) (h2 : q ≤ P) (hf : ∀ j, j < q → f j < BW) (hv : pv f BW q = pv (dgs s o b) b P) : ZP base s o b wr z P := by
  obtain ⟨g, c, rfl⟩ := own_some h h1
  exact .inr ⟨g, c, q, f, rfl, h1, h2, h, hf, hv⟩
theorem ZP.kept (h : ZP base s o b wr z P) (hg : wr.grownBy wr' (some p)) (hp : p < base) : ZP base s o b wr' z P := by
  rcases h with h | ⟨g, c, q, f, rfl, h1, h2, own, h4, h5⟩
  · exact .inl h
  · refine .inr ⟨g, c, q, f, rfl, h1, h2, own.kept hg (.inr ?_), h4, h5⟩
    have := (own.lt g rfl).1
    intro e
    have e2 : some g = some p := e
    cases e2
    omega
theorem grown_own {w a b : World} {p g : Nat} (h : w.grownBy a (some p)) (hg : a.grownBy b (some g)) (hb : w.heap.size ≤ g) : w.grownBy b (some p) :=
  ⟨hg.os.trans h.os, hg.tape.trans h.tape, hg.output.trans h.output, Nat.le_trans h.size hg.size, fun k hk hne => (hg.block k (Nat.lt_of_lt_of_le hk h.size) (by intro e; cases e; omega)).trans (h.block k hk hne)⟩
end

theorem reverse_nil (w : World) : Calls Tryd.prog 97 #[.slice none 0 0] w fun e w' => e = .returned (.tuple #[]) ∧ w' = w := by
  go_enter Tryd.func97, Tryd.ntmps97
  go_wp2
  refine wp_loop_rounds 1 ?_
  rw [rounds_succ]
  go_wp2
  refine bodyPost_end (results_none rfl _ _ _) rfl ?_
  exact ⟨rfl, rfl⟩

set_option maxHeartbeats 40000000 in
theorem natScanP_any (p o b N e2 : Nat) (s : ByteArray) (a : Addr) (nd : Value) (w : World) (h : Rd w p s o) (ho : o ≤ s.size) (hs : s.size ≤ 1500) (hb : 2 ≤ b) (hb2 : b ≤ 62)
    (hway : (b = 2 ∧ N = 64) ∨ (b = 4 ∧ N = 32) ∨ (b = 16 ∧ N = 16)) (hBN : BW = b ^ N) (hbe : b = 2 ^ e2) (heN : e2 * N = 64) (hN1 : 1 ≤ N) (hN2 : N ≤ 64)
    (he : Glob w 1 (eof a)) (hn : Glob w 5 nd) (hp : 5 < p) :
    Calls Tryd.prog 89 #[.slice none 0 0, rdr p, .int .i64 b, .bool false] w (ScanPost p o b s nd w) := by
  obtain ⟨i0, hi0, hz0, hz1, hz2⟩ := info_parts info_Word
  have KR := Lib.hid (readByte_look p o s (eof a) w h ho he (by omega) (by omega))
  have HE := Lib.hid (And.intro he (And.intro hn h.lt))
  have hb0 : ((b : Int) == 0) = false := by simp; omega
  have HW := Lib.hid hway
  have HB := Lib.hid (And.intro hBN (And.intro hbe heN))
  have HBW := Lib.hid (show b ^ N ≤ BW by omega)
  clear h he hn hway hBN hbe heN
  unfold rdr
  go_enter Tryd.func89, Tryd.ntmps89
  go_wp2_with fail
  refine KR.out.mono ?_
  rintro e w1 ⟨ch, er, rfl, look, gr1⟩
  have F1 := Lib.hid (And.intro look gr1)
  clear look gr1 KR
  go_upto_block 1 with fail
  go_cut [18, 19] from 112 to 117 (fun t18 t19 wn => t18 = .int .u64 0 ∧ t19 = .int .i64 N ∧ wn = w1)
  case first =>
    rcases HW.out with ⟨rfl, rfl⟩ | ⟨rfl, rfl⟩ | ⟨rfl, rfl⟩
    all_goals
      clear HW HB HBW
      go_wp2_with fail
      go_meet
      exact ⟨rfl, rfl, rfl⟩
  case rest =>
  obtain ⟨rfl, rfl, rfl⟩ := hcut
  clear HW
  go_upto_block 2 with fail
  go_cut [0, 10, 11, 13, 14, 20, 21, 22] from 118 to 206 (fun z cnt er pr inv di i dp wr => ∃ (k P I DI x : Nat) (zv erv : Value), zv = z ∧ erv = er ∧ cnt = .int .i64 k ∧ k = P + I ∧ I < N ∧ di = .int .u64 DI ∧ i = .int .i64 I ∧ (x = 46 ∨ x = 48) ∧ pr = .int .i32 x ∧ inv = .bool false ∧ dp = .int .i64 (-1) ∧ Digits s o b P I DI ∧ ZP w.heap.size s o b wr z P ∧ ScanEnd p s (eof a) o b k er wr ∧ w.grownBy wr (some p))
  case first =>
    go_wp2_with fail
    go_loopw [0, 3, 10, 11, 13, 14, 15, 20, 21, 22] (fun z fr cnt er pr inv chv di i dp wr => ∃ (k P I DI x ch : Nat) (zv : Value), zv = z ∧ fr = .bool false ∧ chv = .int .u8 ch ∧ cnt = .int .i64 k ∧ k = P + I ∧ I < N ∧ di = .int .u64 DI ∧ i = .int .i64 I ∧ (x = 46 ∨ x = 48) ∧ pr = .int .i32 x ∧ inv = .bool false ∧ dp = .int .i64 (-1) ∧ Digits s o b P I DI ∧ ZP w.heap.size s o b wr z P ∧ Look p s (eof a) (o + k) ch er wr ∧ w.grownBy wr (some p)) (fun _ _ cnt _ _ _ _ _ _ _ _ => s.size - (intOf cnt).toNat)
    case atStart => exact ⟨0, 0, 0, 0, 46, ch, _, rfl, rfl, rfl, rfl, rfl, hN1, rfl, rfl, .inl rfl, rfl, rfl, rfl, ⟨by omega, fun j hj => absurd hj (Nat.not_lt_zero _), rfl⟩, ZP.start _ _ _ _ _, F1.out.1, F1.out.2⟩
    case round =>
      obtain ⟨k, P, I, DI, x, ch, z, rfl, rfl, rfl, rfl, hkP, hI, rfl, rfl, hx, rfl, rfl, rfl, dg, zr, look, gr⟩ := hrel
      have HkP := Lib.hid hkP
      have hkl : o + k ≤ s.size := by rw [hkP]; exact dg.1
      clear hkP
      rcases look with ⟨hlt, rfl, rfl, rd⟩ | ⟨hend, rfl, rfl, rd⟩
      · have hch := chr_lt s (o + k)
        obtain ⟨ch, hchh⟩ : ∃ c, Hid (c = chr s (o + k)) := ⟨_, Lib.hid rfl⟩
        obtain ⟨D, HD⟩ : ∃ D, Hid (D = dgs s o b k) := ⟨_, Lib.hid rfl⟩
        have hw := dgt_ways ch b
        have hD2 : dgt ch b = D := by rw [HD.out, hchh.out]; rfl
        rw [hD2] at hw
        rw [← hchh.out] at hch
        have HW := Lib.hid hw
        have hDl : D ≤ 63 := by rw [← hD2]; exact dgt_lt ch b hch
        have G := Lib.hid (And.intro trivial (And.intro dg (And.intro zr (And.intro rd gr))))
        rw [← hchh.out]
        clear hw hD2 dg zr rd gr hchh
        go_upto_region 47 with fail
        go_cut [124] from 120 to 124 (fun t wc => t = .bool false ∧ wc = wr)
        case first =>
          by_cases h46 : ch = 46
          · subst h46
            go_wp2_with fail
            go_meet
            exact ⟨rfl, rfl⟩
          · have t46 : ((ch : Int) == 46) = false := by simp; omega
            go_wp2_with fail
            go_meet
            exact ⟨rfl, rfl⟩
        case rest =>
        obtain ⟨rfl, rfl⟩ := hcut
        go_upto_region 53 with fail
        go_cut [133] from 128 to 133 (fun t wn => t = .bool false ∧ wn = wc)
        case first =>
          by_cases h95 : ch = 95
          · subst h95
            go_wp2_with fail
            go_meet
            exact ⟨rfl, rfl⟩
          · have t95 : ((ch : Int) == 95) = false := by simp; omega
            go_wp2_with fail
            go_meet
            exact ⟨rfl, rfl⟩
        case rest =>
        obtain ⟨rfl, rfl⟩ := hcut
        go_upto_block 4 with fail
        go_cut [23] from 136 to 173 (fun t wn => t = .int .u64 D ∧ wn = wc)
        case first =>
          rcases HW.out with ⟨g1, g2, g3⟩ | ⟨g1, g2, g3⟩ | ⟨g1, g2, g4, g3⟩ | ⟨g1, g2, g4, g3⟩ | ⟨g1, g3⟩
          · have ev : (ch : Int) - 48 = (D : Int) := by omega
            clear g3
            go_wp2_with fail
            go_meet
            exact ⟨rfl, rfl⟩
          · have ev : (ch : Int) - 97 + 10 = (D : Int) := by omega
            clear g3
            go_wp2_with fail
            go_meet
            exact ⟨rfl, rfl⟩
          · have ev : (ch : Int) - 65 + 10 = (D : Int) := by omega
            clear g3
            go_wp2_with fail
            go_meet
            exact ⟨rfl, rfl⟩
          · have ev : (ch : Int) - 65 + 36 = (D : Int) := by omega
            clear g3
            go_wp2_with fail
            go_meet
            exact ⟨rfl, rfl⟩
          · subst g3
            rcases g1 with g1 | ⟨g1, g2⟩ | ⟨g1, g2⟩ | g1
            all_goals
              go_wp2_with fail
              go_meet
              exact ⟨rfl, rfl⟩
        case rest =>
        obtain ⟨rfl, rfl⟩ := hcut
        by_cases hv : D < b
        · have hmore := G.out.2.1.more (show o + (P + I) < s.size by have := HkP.out; omega) (by rw [HD.out, HkP.out]) hv
          have hdl := hmore.lt
          have hpow : b ^ (I + 1) ≤ b ^ N := Nat.pow_le_pow_right (by omega) (by omega)
          obtain ⟨M, HM⟩ : ∃ M, Hid (M = DI * b) := ⟨_, Lib.hid rfl⟩
          rw [← HM.out] at hdl
          have HM2 := Lib.hid (show M + D < b ^ N by omega)
          have hMD : M + D < 18446744073709551616 := by have h1 := HM2.out; have h2 := HBW.out; rw [BW_eq] at h2; omega
          have e1 : (DI : Int) * (b : Int) = (M : Int) := by rw [HM.out, Int.natCast_mul]
          have ew : IntKind.u64.wrap (M : Int) = (M : Int) := by rw [IntKind.wrap_u64]; omega
          have ew2 : IntKind.u64.wrap ((M : Int) + (D : Int)) = ((M + D : Nat) : Int) := by rw [IntKind.wrap_u64]; omega
          have tv : ¬ ((b : Int) ≤ (D : Int)) := by omega
          have tv2 : ¬ (b ≤ D) := by omega
          have HMM := Lib.hid hmore
          have G := Lib.hid (And.intro G.out.1 (And.intro G.out.2.1 (And.intro G.out.2.2.1 (And.intro G.out.2.2.2.1 (And.intro G.out.2.2.2.2 (And.intro HMM.out trivial))))))
          clear hdl hpow hmore HMM
          by_cases hfull : I + 1 = N
          · have tI : ((I : Int) + 1 == (N : Int)) = true := by simp; omega
            obtain ⟨q, f, own0, hq, hf, hpv⟩ := G.out.2.2.1.own
            have hszw := G.out.2.2.2.2.1.size
            have H0 := Lib.hid (And.intro own0 (And.intro hf hpv))
            clear own0 hf hpv
            go_wp2_with (at_builtin; refine wpList_append_int wc rfl _ _ 70 rfl w.heap.size 83 i0 .u64 8 Tryd.underlying70 hi0 hz0 hz1 hz2 _ q _ rfl (by exact H0.out.1) (M + D) rfl (by have := G.out.2.1.1; omega) (by have := G.out.2.1.1; omega) hszw ?_)
            intro v2 w2 own2 bel2
            have gr2 : w.grownBy w2 (some p) := grown_below G.out.2.2.2.2.1 bel2
            have rd2 : Rd w2 p s (o + (k + 1)) := G.out.2.2.2.1.below bel2 HE.out.2.2
            have room2 : ZP w.heap.size s o b w2 v2 (P + N) := by
              have h1 := (G.out.2.2.2.2.2.1).full
              have h2 := HB.out.1
              refine ZP.of own2 (by omega) (by omega) (fun j hj => ?_) ?_
              · unfold upd
                split
                · have := HBW.out; have := HM2.out; omega
                · exact H0.out.2.1 j (by omega)
              · show pv (upd f q (M + D)) BW q * BW + upd f q (M + D) q = _
                rw [upd_same, pv_congr (d' := f) (fun j hj => upd_other _ _ (by omega)), H0.out.2.2, show P + N = P + (I + 1) by omega, h1.2, show b ^ (I + 1) = BW by rw [h2, hfull], ← HM.out]
            clear own2 bel2 H0
            have KR2 := Lib.hid (readByte_look p (o + (k + 1)) s (eof a) w2 rd2 (by omega) (HE.out.1.grown gr2 (by omega)) (by omega) (by omega))
            have F2 := Lib.hid (And.intro room2 gr2)
            clear room2 rd2 gr2
            go_wp2_with fail
            refine KR2.out.mono ?_
            rintro e w3 ⟨ch3, er3, rfl, look3, gr3⟩
            have room3 := F2.out.1.kept gr3 HE.out.2.2
            have F3 := Lib.hid (And.intro room3 (And.intro look3 (grown_trans F2.out.2 gr3)))
            clear look3 gr3 room3 KR2
            go_wp2
            go_roundw
            case rel =>
              go_light
              have hkP := HkP.out
              exact ⟨k + 1, P + N, 0, 0, 48, ch3, _, rfl, rfl, rfl, by first | rfl | go_num, by omega, by omega, by first | rfl | go_num, by first | rfl | go_num, .inr rfl, rfl, rfl, rfl, (by have h1 := (G.out.2.2.2.2.2.1).full; rw [show P + N = P + (I + 1) by omega]; exact h1.1), F3.out.1, F3.out.2.1, F3.out.2.2⟩
            case measure => simp [intOf]; omega
          · have tI : ((I : Int) + 1 == (N : Int)) = false := by simp; omega
            have gr2 := G.out.2.2.2.2.1
            have rd2 : Rd wc p s (o + (k + 1)) := G.out.2.2.2.1
            have room2 := G.out.2.2.1
            have KR2 := Lib.hid (readByte_look p (o + (k + 1)) s (eof a) wc rd2 (by omega) (HE.out.1.grown gr2 (by omega)) (by omega) (by omega))
            have F2 := Lib.hid (And.intro room2 gr2)
            clear room2 rd2 gr2
            go_wp2_with fail
            refine KR2.out.mono ?_
            rintro e w3 ⟨ch3, er3, rfl, look3, gr3⟩
            have room3 := F2.out.1.kept gr3 HE.out.2.2
            have F3 := Lib.hid (And.intro room3 (And.intro look3 (grown_trans F2.out.2 gr3)))
            clear look3 gr3 room3 KR2
            go_wp2
            go_roundw
            case rel =>
              go_light
              have hkP := HkP.out
              exact ⟨k + 1, P, I + 1, M + D, 48, ch3, _, rfl, rfl, rfl, by first | rfl | go_num, by omega, by omega, by first | rfl | go_num, by first | rfl | go_num, .inr rfl, rfl, rfl, rfl, (by have h1 := G.out.2.2.2.2.2.1; rw [← HM.out] at h1; exact h1), F3.out.1, F3.out.2.1, F3.out.2.2⟩
            case measure => simp [intOf]; omega
        · have tv : (b : Int) ≤ (D : Int) := by omega
          have KU := Lib.hid (unreadByte_any p (o + k) s wc G.out.2.2.2.1 (by omega))
          go_wp2_with fail
          refine KU.out.mono ?_
          rintro e w2 ⟨rfl, rd2, gr2⟩
          have room2 := G.out.2.2.1.kept gr2 HE.out.2.2
          have F2 := Lib.hid (And.intro rd2 (And.intro room2 (grown_trans G.out.2.2.2.2 gr2)))
          clear rd2 room2 gr2 KU
          go_wp2_with fail
          go_meet
          case rel =>
            go_light
            exact ⟨k, P, I, DI, x, _, _, rfl, rfl, rfl, HkP.out, hI, rfl, rfl, hx, rfl, rfl, rfl, G.out.2.1, F2.out.2.1, .inr ⟨hlt, by rw [← HD.out]; exact hv, rfl, F2.out.1⟩, F2.out.2.2⟩
      · have F := Lib.hid (And.intro dg (And.intro zr (And.intro rd gr)))
        clear dg zr rd gr
        unfold eof
        go_wp2_with fail
        go_meet
        case rel =>
          go_light
          exact ⟨k, P, I, DI, x, _, _, rfl, rfl, rfl, HkP.out, hI, rfl, rfl, hx, rfl, rfl, rfl, F.out.1, F.out.2.1, .inl ⟨hend, rfl, F.out.2.2.1⟩, F.out.2.2.2⟩
  case rest =>
  obtain ⟨k, P, I, DI, x, z, er, rfl, rfl, rfl, hkP, hI, rfl, rfl, hx, rfl, rfl, rfl, dg, zr, hse, gr⟩ := hcut
  have c1 := HE.out.1.grown gr (by omega)
  have c5 := HE.out.2.1.grown gr (by omega)
  unfold Glob eof at c1
  unfold Glob at c5
  have tx : ((x : Int) == 95) = false := by rcases hx with rfl | rfl <;> rfl
  have hse2 : (er = eof a ∨ er = .nilIface) ∧ (o + k < s.size → ¬ dgs s o b k < b) ∧ Rd wc p s (o + k) := by
    rcases hse with ⟨h1, h2, h3⟩ | ⟨h1, h2, h3, h4⟩
    · exact ⟨.inl h2, fun h => absurd h (by omega), by rw [h1]; exact h3⟩
    · exact ⟨.inr h3, fun _ => h2, h4⟩
  have hkl : o + k ≤ s.size := by rw [hkP]; exact dg.1
  have HkP := Lib.hid hkP
  clear hkP
  have F := Lib.hid (And.intro hse2.2.1 (And.intro hse2.2.2 (And.intro dg (And.intro zr gr))))
  have hs1 := eql_same a
  have hs2 := eql_nil a
  have her := hse2.1
  clear hse hse2 dg zr gr
  rcases her with rfl | rfl
  · unfold eof
    by_cases hk0 : k = 0
    · obtain rfl : k = 0 := hk0
      obtain ⟨rfl, rfl⟩ : P = 0 ∧ I = 0 := by have := HkP.out; omega
      obtain rfl : z = .slice none 0 0 := F.out.2.2.2.1.zero
      have KV := Lib.hid (reverse_nil wc)
      have KN := Lib.hid (norm_none none 0 wc)
      go_wp2_with fail
      refine KV.out.mono ?_
      rintro e w2 ⟨rfl, rfl⟩
      go_wp2_with fail
      refine KN.out.mono ?_
      rintro e w2 ⟨rfl, rfl⟩
      go_wp2
      refine bodyPost_ret (v := .tuple #[.slice none 0 0, .int .i64 b, .int .i64 (0 : Nat), nd]) (by simp [results, Tryd.results89, go_sem]) rfl ?_
      refine ⟨0, _, hkl, fun j hj => absurd hj (Nat.not_lt_zero j), F.out.1, by rw [if_pos rfl], ?_, F.out.2.1, F.out.2.2.2.2⟩
      rw [show pv (dgs s o b) b 0 = 0 from rfl, (nlen_eq_zero BW_one 0).2 rfl]
      exact Own.nil _ _ _ _ _
    · by_cases hI0 : I = 0
      · have tk : ((k : Int) == 0) = false := by simp; omega
        obtain rfl : I = 0 := hI0
        obtain rfl : k = P := by have := HkP.out; omega
        obtain ⟨g, c, q, f0, rfl, hq1, hqP, ownA, hfA, hvA⟩ := F.out.2.2.2.1.row hk0
        have HQ := Lib.hid (show q ≤ 1500 by omega)
        have grA := F.out.2.2.2.2
        have rdA := Lib.hid F.out.2.1
        have hbg := (ownA.lt g rfl).1
        have KV := Lib.hid (reverse_any w.heap.size g q c f0 wc (by have := HQ.out; omega) ownA)
        have HA := Lib.hid (And.intro ownA (And.intro grA (And.intro hfA (And.intro hvA hbg))))
        clear ownA grA hfA hvA hbg
        go_wp2_with fail
        refine KV.out.mono ?_
        rintro e w3 ⟨rfl, own3, gr3⟩
        have gr3' := grown_own HA.out.2.1 gr3 HA.out.2.2.2.2
        have hle3 : q ≤ c := by
          obtain ⟨a', c', h1, h2, _⟩ := own3.parts
          cases h1
          exact h2
        have hc3 : c ≤ 9223372036854775807 := by
          obtain ⟨a', c', h1, _, h2, _⟩ := own3.parts
          cases h1
          exact h2
        have KN := Lib.hid (norm_any (some ⟨g, 0, none⟩) (q) c _ w3 hle3 (by have := HQ.out; omega) (Reads.of_own own3))
        have own4 := own_cut BW_one own3 (fun j hj => HA.out.2.2.1 (q - 1 - j) (by omega)) (show val BW _ (q) = _ by rw [val_rev, HA.out.2.2.2.1])
        have rd3 := rdA.out.grown gr3 (by intro e; cases e; have := HA.out.2.2.2.2; have := HE.out.2.2; omega)
        have H4 := Lib.hid (And.intro own4 (And.intro gr3' rd3))
        clear own3 gr3 gr3' own4 rd3 KV
        go_wp2_with fail
        refine KN.out.mono ?_
        rintro e w4 ⟨rfl, rfl⟩
        go_wp2
        refine bodyPost_ret (v := .tuple #[.slice (some ⟨g, 0, none⟩) (clen (fun j => f0 (q - 1 - j)) q) c, .int .i64 b, .int .i64 ((k : Nat)), .nilIface]) (by simp [results, Tryd.results89, go_sem]) rfl ?_
        exact ⟨k, _, hkl, fun j hj => F.out.2.2.1.2.1 j (by omega), F.out.1, by rw [if_neg hk0], H4.out.1, H4.out.2.2, H4.out.2.1⟩
      · have tk : ((k : Int) == 0) = false := by simp; omega
        have tI : (0 : Int) < (I : Int) := by omega
        obtain ⟨q, f, own0, hq, hf, hpv⟩ := F.out.2.2.2.1.own
        have hszw := F.out.2.2.2.2.size
        have HQ := Lib.hid (show q + 1 ≤ 1500 by have := HkP.out; omega)
        obtain ⟨r, hr⟩ : ∃ r, Hid (r = N - I) := ⟨_, Lib.hid rfl⟩
        have hr1 : 1 ≤ r := by have := hr.out; omega
        have hr2 : r ≤ 63 := by have := hr.out; omega
        have hrI : I + r = N := by have := hr.out; omega
        have esub : (N : Int) - (I : Int) = (r : Int) := by omega
        have hyl : b ^ r < BW := Nat.lt_of_lt_of_le ((Nat.pow_lt_pow_iff_right (by omega)).2 (show r < N by omega)) HBW.out
        obtain ⟨y, hy⟩ : ∃ y, Hid (y = b ^ r) := ⟨_, Lib.hid rfl⟩
        have KP := Lib.hid (pow_any b r y wc (by rw [BW_eq]; omega) (by omega) (by rw [hy.out, Nat.mod_eq_of_lt hyl]))
        have hdl := F.out.2.2.1.lt
        have hbp : b ^ I * b ^ r = BW := by rw [← Nat.pow_add, hrI, ← HB.out.1]
        have hy0 : 0 < b ^ r := Nat.pow_pos (by omega)
        obtain ⟨M, hM⟩ : ∃ M, Hid (M = DI * y) := ⟨_, Lib.hid rfl⟩
        have hMl : M < BW := by rw [hM.out, hy.out, ← hbp]; exact Nat.mul_lt_mul_of_pos_right hdl hy0
        have eM : (DI : Int) * (y : Int) = (M : Int) := by rw [hM.out, Int.natCast_mul]
        have hMl2 := hMl
        rw [BW_eq] at hMl2
        have eMw : IntKind.u64.wrap (M : Int) = (M : Int) := by rw [IntKind.wrap_u64]; omega
        have hvv : pv f BW q * BW + M = pv (dgs s o b) b k * y := by
          rw [hpv, HkP.out, F.out.2.2.1.full.2, hM.out, Nat.add_mul, Nat.mul_assoc, hy.out, hbp]
        obtain ⟨S, hS⟩ : ∃ S, Hid (S = r * e2) := ⟨_, Lib.hid rfl⟩
        have eS : (r : Int) * (e2 : Int) = (S : Int) := by rw [hS.out, Int.natCast_mul]
        have he2 : 1 ≤ e2 := by
          rcases Nat.eq_zero_or_pos e2 with h | h
          · have := HB.out.2.2; rw [h] at this; omega
          · exact h
        have hSl : S + e2 ≤ 64 := by
          have h1 : (r + 1) * e2 ≤ N * e2 := Nat.mul_le_mul_right e2 (by omega)
          rw [Nat.mul_comm N, HB.out.2.2, Nat.add_mul, Nat.one_mul, ← hS.out] at h1
          exact h1
        have hS1 : 1 ≤ S := by rw [hS.out]; exact Nat.mul_pos hr1 he2
        have hyS : y = 2 ^ S := by rw [hy.out, hS.out, HB.out.2.1, ← Nat.pow_mul, Nat.mul_comm]
        have hq64 : (64 : Int) / (N : Int) = (e2 : Int) := by
          have h1 : (64 : Int) = (e2 : Int) * (N : Int) := by rw [← Int.natCast_mul, HB.out.2.2]; rfl
          rw [h1, Int.mul_ediv_cancel _ (by omega)]
        have hN0 : ((N : Int) == 0) = false := by simp; omega
        have H0 := Lib.hid (And.intro own0 (And.intro hf (And.intro hpv (And.intro hvv (And.intro hyS hMl)))))
        clear own0 hf hpv hvv hyS hMl hyl hdl hbp hy0 hrI
        go_wp2_with fail
        refine KP.out.mono ?_
        rintro e w2' ⟨rfl, hww⟩
        rw [hww]
        clear hww
        go_wp2_with (at_builtin; refine wpList_append_int wc rfl _ _ 70 rfl w.heap.size 83 i0 .u64 8 Tryd.underlying70 hi0 hz0 hz1 hz2 _ q _ rfl (by exact H0.out.1) M rfl (by have := HQ.out; omega) (by have := HQ.out; omega) hszw ?_)
        intro v2 w2 own2 bel2
        obtain ⟨g, c, rfl⟩ := own_some own2 (by omega)
        obtain ⟨f0, hf0⟩ : ∃ f0, f0 = upd f q M := ⟨_, rfl⟩
        rw [← hf0] at own2
        have ownA := own2
        have hfA : ∀ j, j < q + 1 → f0 j < BW := fun j hj => by
          rw [hf0]
          unfold upd
          split
          · exact H0.out.2.2.2.2.2
          · exact H0.out.2.1 j (by omega)
        have hvA : pv f0 BW (q + 1) = pv (dgs s o b) b k * y := by
          rw [hf0]
          show pv (upd f q M) BW q * BW + upd f q M q = _
          rw [upd_same, pv_congr (d' := f) (fun j hj => upd_other _ _ (by omega)), H0.out.2.2.2.1]
        have grA := grown_below F.out.2.2.2.2 bel2
        have rdA := Lib.hid (F.out.2.1.below bel2 HE.out.2.2)
        clear own2 bel2 hf0 KP
        have hbg := (ownA.lt g rfl).1
        have KV := Lib.hid (reverse_any w.heap.size g (q + 1) c f0 w2 (by have := HQ.out; omega) ownA)
        have HA := Lib.hid (And.intro ownA (And.intro grA (And.intro hfA (And.intro hvA hbg))))
        clear ownA grA hfA hvA hbg
        go_wp2_with fail
        refine KV.out.mono ?_
        rintro e w3 ⟨rfl, own3, gr3⟩
        have gr3' := grown_own HA.out.2.1 gr3 HA.out.2.2.2.2
        have hle3 : (q + 1) ≤ c := by
          obtain ⟨a', c', h1, h2, _⟩ := own3.parts
          cases h1
          exact h2
        have hc3 : c ≤ 9223372036854775807 := by
          obtain ⟨a', c', h1, _, h2, _⟩ := own3.parts
          cases h1
          exact h2
        have KN := Lib.hid (norm_any (some ⟨g, 0, none⟩) ((q + 1)) c _ w3 hle3 (by have := HQ.out; omega) (Reads.of_own own3))
        have own4 := own_cut BW_one own3 (fun j hj => HA.out.2.2.1 ((q + 1) - 1 - j) (by omega)) (show val BW _ ((q + 1)) = _ by rw [val_rev, HA.out.2.2.2.1])
        have rd3 := rdA.out.grown gr3 (by intro e; cases e; have := HA.out.2.2.2.2; have := HE.out.2.2; omega)
        have hcl : clen (fun j => f0 (q + 1 - 1 - j)) (q + 1) = nlen BW (pv (dgs s o b) b k * y) := by
          rw [clen_val BW_one (fun j hj => HA.out.2.2.1 (q + 1 - 1 - j) (by omega)), val_rev, HA.out.2.2.2.1]
        have HC := Lib.hid hcl
        have H4 := Lib.hid (And.intro own4 (And.intro gr3' rd3))
        clear hcl own3 gr3 gr3' own4 rd3 KV
        go_wp2_with fail
        refine KN.out.mono ?_
        rintro e w4 ⟨rfl, rfl⟩
        obtain ⟨m, hm⟩ : ∃ m, Hid (m = nlen BW (pv (dgs s o b) b k * y)) := ⟨_, Lib.hid rfl⟩
        have HO4 := H4.out.1
        rw [HC.out, ← hm.out] at HO4
        rw [HC.out, ← hm.out]
        have hmq : m ≤ q + 1 := by rw [hm.out, ← HC.out]; exact clen_le _ _
        have KS := Lib.hid (rsh_any w.heap.size g m c S (pv (dgs s o b) b k * y) w3 hm.out (by have := HQ.out; omega) (by omega) hc3 hS1 (by omega) HO4)
        clear HO4
        go_wp2_with fail
        refine KS.out.mono ?_
        rintro e w5 ⟨v5, rfl, own5, gr5⟩
        have hdiv : pv (dgs s o b) b k * y / 2 ^ S = pv (dgs s o b) b k := by rw [H0.out.2.2.2.2.1]; exact Nat.mul_div_cancel _ (Nat.pow_pos (by omega))
        rw [hdiv] at own5
        have H5 := Lib.hid (And.intro own5 (And.intro (grown_own H4.out.2.1 gr5 HA.out.2.2.2.2) (H4.out.2.2.grown gr5 (by intro e; cases e; have := HA.out.2.2.2.2; have := HE.out.2.2; omega))))
        clear own5 gr5 KS hdiv
        go_wp2
        refine bodyPost_ret (v := .tuple #[v5, .int .i64 b, .int .i64 ((k : Nat)), .nilIface]) (by simp [results, Tryd.results89, go_sem]) rfl ?_
        exact ⟨k, _, hkl, fun j hj => F.out.2.2.1.2.1 j (by have := HkP.out; omega), F.out.1, by rw [if_neg hk0], H5.out.1, H5.out.2.2, H5.out.2.1⟩
  · by_cases hk0 : k = 0
    · obtain rfl : k = 0 := hk0
      obtain ⟨rfl, rfl⟩ : P = 0 ∧ I = 0 := by have := HkP.out; omega
      obtain rfl : z = .slice none 0 0 := F.out.2.2.2.1.zero
      have KV := Lib.hid (reverse_nil wc)
      have KN := Lib.hid (norm_none none 0 wc)
      go_wp2_with fail
      refine KV.out.mono ?_
      rintro e w2 ⟨rfl, rfl⟩
      go_wp2_with fail
      refine KN.out.mono ?_
      rintro e w2 ⟨rfl, rfl⟩
      go_wp2
      refine bodyPost_ret (v := .tuple #[.slice none 0 0, .int .i64 b, .int .i64 (0 : Nat), nd]) (by simp [results, Tryd.results89, go_sem]) rfl ?_
      refine ⟨0, _, hkl, fun j hj => absurd hj (Nat.not_lt_zero j), F.out.1, by rw [if_pos rfl], ?_, F.out.2.1, F.out.2.2.2.2⟩
      rw [show pv (dgs s o b) b 0 = 0 from rfl, (nlen_eq_zero BW_one 0).2 rfl]
      exact Own.nil _ _ _ _ _
    · by_cases hI0 : I = 0
      · have tk : ((k : Int) == 0) = false := by simp; omega
        obtain rfl : I = 0 := hI0
        obtain rfl : k = P := by have := HkP.out; omega
        obtain ⟨g, c, q, f0, rfl, hq1, hqP, ownA, hfA, hvA⟩ := F.out.2.2.2.1.row hk0
        have HQ := Lib.hid (show q ≤ 1500 by omega)
        have grA := F.out.2.2.2.2
        have rdA := Lib.hid F.out.2.1
        have hbg := (ownA.lt g rfl).1
        have KV := Lib.hid (reverse_any w.heap.size g q c f0 wc (by have := HQ.out; omega) ownA)
        have HA := Lib.hid (And.intro ownA (And.intro grA (And.intro hfA (And.intro hvA hbg))))
        clear ownA grA hfA hvA hbg
        go_wp2_with fail
        refine KV.out.mono ?_
        rintro e w3 ⟨rfl, own3, gr3⟩
        have gr3' := grown_own HA.out.2.1 gr3 HA.out.2.2.2.2
        have hle3 : q ≤ c := by
          obtain ⟨a', c', h1, h2, _⟩ := own3.parts
          cases h1
          exact h2
        have hc3 : c ≤ 9223372036854775807 := by
          obtain ⟨a', c', h1, _, h2, _⟩ := own3.parts
          cases h1
          exact h2
        have KN := Lib.hid (norm_any (some ⟨g, 0, none⟩) (q) c _ w3 hle3 (by have := HQ.out; omega) (Reads.of_own own3))
        have own4 := own_cut BW_one own3 (fun j hj => HA.out.2.2.1 (q - 1 - j) (by omega)) (show val BW _ (q) = _ by rw [val_rev, HA.out.2.2.2.1])
        have rd3 := rdA.out.grown gr3 (by intro e; cases e; have := HA.out.2.2.2.2; have := HE.out.2.2; omega)
        have H4 := Lib.hid (And.intro own4 (And.intro gr3' rd3))
        clear own3 gr3 gr3' own4 rd3 KV
        go_wp2_with fail
        refine KN.out.mono ?_
        rintro e w4 ⟨rfl, rfl⟩
        go_wp2
        refine bodyPost_ret (v := .tuple #[.slice (some ⟨g, 0, none⟩) (clen (fun j => f0 (q - 1 - j)) q) c, .int .i64 b, .int .i64 ((k : Nat)), .nilIface]) (by simp [results, Tryd.results89, go_sem]) rfl ?_
        exact ⟨k, _, hkl, fun j hj => F.out.2.2.1.2.1 j (by omega), F.out.1, by rw [if_neg hk0], H4.out.1, H4.out.2.2, H4.out.2.1⟩
      · have tk : ((k : Int) == 0) = false := by simp; omega
        have tI : (0 : Int) < (I : Int) := by omega
        obtain ⟨q, f, own0, hq, hf, hpv⟩ := F.out.2.2.2.1.own
        have hszw := F.out.2.2.2.2.size
        have HQ := Lib.hid (show q + 1 ≤ 1500 by have := HkP.out; omega)
        obtain ⟨r, hr⟩ : ∃ r, Hid (r = N - I) := ⟨_, Lib.hid rfl⟩
        have hr1 : 1 ≤ r := by have := hr.out; omega
        have hr2 : r ≤ 63 := by have := hr.out; omega
        have hrI : I + r = N := by have := hr.out; omega
        have esub : (N : Int) - (I : Int) = (r : Int) := by omega
        have hyl : b ^ r < BW := Nat.lt_of_lt_of_le ((Nat.pow_lt_pow_iff_right (by omega)).2 (show r < N by omega)) HBW.out
        obtain ⟨y, hy⟩ : ∃ y, Hid (y = b ^ r) := ⟨_, Lib.hid rfl⟩
        have KP := Lib.hid (pow_any b r y wc (by rw [BW_eq]; omega) (by omega) (by rw [hy.out, Nat.mod_eq_of_lt hyl]))
        have hdl := F.out.2.2.1.lt
        have hbp : b ^ I * b ^ r = BW := by rw [← Nat.pow_add, hrI, ← HB.out.1]
        have hy0 : 0 < b ^ r := Nat.pow_pos (by omega)
        obtain ⟨M, hM⟩ : ∃ M, Hid (M = DI * y) := ⟨_, Lib.hid rfl⟩
        have hMl : M < BW := by rw [hM.out, hy.out, ← hbp]; exact Nat.mul_lt_mul_of_pos_right hdl hy0
        have eM : (DI : Int) * (y : Int) = (M : Int) := by rw [hM.out, Int.natCast_mul]
        have hMl2 := hMl
        rw [BW_eq] at hMl2
        have eMw : IntKind.u64.wrap (M : Int) = (M : Int) := by rw [IntKind.wrap_u64]; omega
        have hvv : pv f BW q * BW + M = pv (dgs s o b) b k * y := by
          rw [hpv, HkP.out, F.out.2.2.1.full.2, hM.out, Nat.add_mul, Nat.mul_assoc, hy.out, hbp]
        obtain ⟨S, hS⟩ : ∃ S, Hid (S = r * e2) := ⟨_, Lib.hid rfl⟩
        have eS : (r : Int) * (e2 : Int) = (S : Int) := by rw [hS.out, Int.natCast_mul]
        have he2 : 1 ≤ e2 := by
          rcases Nat.eq_zero_or_pos e2 with h | h
          · have := HB.out.2.2; rw [h] at this; omega
          · exact h
        have hSl : S + e2 ≤ 64 := by
          have h1 : (r + 1) * e2 ≤ N * e2 := Nat.mul_le_mul_right e2 (by omega)
          rw [Nat.mul_comm N, HB.out.2.2, Nat.add_mul, Nat.one_mul, ← hS.out] at h1
          exact h1
        have hS1 : 1 ≤ S := by rw [hS.out]; exact Nat.mul_pos hr1 he2
        have hyS : y = 2 ^ S := by rw [hy.out, hS.out, HB.out.2.1, ← Nat.pow_mul, Nat.mul_comm]
        have hq64 : (64 : Int) / (N : Int) = (e2 : Int) := by
          have h1 : (64 : Int) = (e2 : Int) * (N : Int) := by rw [← Int.natCast_mul, HB.out.2.2]; rfl
          rw [h1, Int.mul_ediv_cancel _ (by omega)]
        have hN0 : ((N : Int) == 0) = false := by simp; omega
        have H0 := Lib.hid (And.intro own0 (And.intro hf (And.intro hpv (And.intro hvv (And.intro hyS hMl)))))
        clear own0 hf hpv hvv hyS hMl hyl hdl hbp hy0 hrI
        go_wp2_with fail
        refine KP.out.mono ?_
        rintro e w2' ⟨rfl, hww⟩
        rw [hww]
        clear hww
        go_wp2_with (at_builtin; refine wpList_append_int wc rfl _ _ 70 rfl w.heap.size 83 i0 .u64 8 Tryd.underlying70 hi0 hz0 hz1 hz2 _ q _ rfl (by exact H0.out.1) M rfl (by have := HQ.out; omega) (by have := HQ.out; omega) hszw ?_)
        intro v2 w2 own2 bel2
        obtain ⟨g, c, rfl⟩ := own_some own2 (by omega)
        obtain ⟨f0, hf0⟩ : ∃ f0, f0 = upd f q M := ⟨_, rfl⟩
        rw [← hf0] at own2
        have ownA := own2
        have hfA : ∀ j, j < q + 1 → f0 j < BW := fun j hj => by
          rw [hf0]
          unfold upd
          split
          · exact H0.out.2.2.2.2.2
          · exact H0.out.2.1 j (by omega)
        have hvA : pv f0 BW (q + 1) = pv (dgs s o b) b k * y := by
          rw [hf0]
          show pv (upd f q M) BW q * BW + upd f q M q = _
          rw [upd_same, pv_congr (d' := f) (fun j hj => upd_other _ _ (by omega)), H0.out.2.2.2.1]
        have grA := grown_below F.out.2.2.2.2 bel2
        have rdA := Lib.hid (F.out.2.1.below bel2 HE.out.2.2)
        clear own2 bel2 hf0 KP
        have hbg := (ownA.lt g rfl).1
        have KV := Lib.hid (reverse_any w.heap.size g (q + 1) c f0 w2 (by have := HQ.out; omega) ownA)
        have HA := Lib.hid (And.intro ownA (And.intro grA (And.intro hfA (And.intro hvA hbg))))
        clear ownA grA hfA hvA hbg
        go_wp2_with fail
        refine KV.out.mono ?_
        rintro e w3 ⟨rfl, own3, gr3⟩
        have gr3' := grown_own HA.out.2.1 gr3 HA.out.2.2.2.2
        have hle3 : (q + 1) ≤ c := by
          obtain ⟨a', c', h1, h2, _⟩ := own3.parts
          cases h1
          exact h2
        have hc3 : c ≤ 9223372036854775807 := by
          obtain ⟨a', c', h1, _, h2, _⟩ := own3.parts
          cases h1
          exact h2
        have KN := Lib.hid (norm_any (some ⟨g, 0, none⟩) ((q + 1)) c _ w3 hle3 (by have := HQ.out; omega) (Reads.of_own own3))
        have own4 := own_cut BW_one own3 (fun j hj => HA.out.2.2.1 ((q + 1) - 1 - j) (by omega)) (show val BW _ ((q + 1)) = _ by rw [val_rev, HA.out.2.2.2.1])
        have rd3 := rdA.out.grown gr3 (by intro e; cases e; have := HA.out.2.2.2.2; have := HE.out.2.2; omega)
        have hcl : clen (fun j => f0 (q + 1 - 1 - j)) (q + 1) = nlen BW (pv (dgs s o b) b k * y) := by
          rw [clen_val BW_one (fun j hj => HA.out.2.2.1 (q + 1 - 1 - j) (by omega)), val_rev, HA.out.2.2.2.1]
        have HC := Lib.hid hcl
        have H4 := Lib.hid (And.intro own4 (And.intro gr3' rd3))
        clear hcl own3 gr3 gr3' own4 rd3 KV
        go_wp2_with fail
        refine KN.out.mono ?_
        rintro e w4 ⟨rfl, rfl⟩
        obtain ⟨m, hm⟩ : ∃ m, Hid (m = nlen BW (pv (dgs s o b) b k * y)) := ⟨_, Lib.hid rfl⟩
        have HO4 := H4.out.1
        rw [HC.out, ← hm.out] at HO4
        rw [HC.out, ← hm.out]
        have hmq : m ≤ q + 1 := by rw [hm.out, ← HC.out]; exact clen_le _ _
        have KS := Lib.hid (rsh_any w.heap.size g m c S (pv (dgs s o b) b k * y) w3 hm.out (by have := HQ.out; omega) (by omega) hc3 hS1 (by omega) HO4)
        clear HO4
        go_wp2_with fail
        refine KS.out.mono ?_
        rintro e w5 ⟨v5, rfl, own5, gr5⟩
        have hdiv : pv (dgs s o b) b k * y / 2 ^ S = pv (dgs s o b) b k := by rw [H0.out.2.2.2.2.1]; exact Nat.mul_div_cancel _ (Nat.pow_pos (by omega))
        rw [hdiv] at own5
        have H5 := Lib.hid (And.intro own5 (And.intro (grown_own H4.out.2.1 gr5 HA.out.2.2.2.2) (H4.out.2.2.grown gr5 (by intro e; cases e; have := HA.out.2.2.2.2; have := HE.out.2.2; omega))))
        clear own5 gr5 KS hdiv
        go_wp2
        refine bodyPost_ret (v := .tuple #[v5, .int .i64 b, .int .i64 ((k : Nat)), .nilIface]) (by simp [results, Tryd.results89, go_sem]) rfl ?_
        exact ⟨k, _, hkl, fun j hj => F.out.2.2.1.2.1 j (by have := HkP.out; omega), F.out.1, by rw [if_neg hk0], H5.out.1, H5.out.2.2, H5.out.2.1⟩

end Go.Proofs.YtidifjmjbfhpaaaDoor
