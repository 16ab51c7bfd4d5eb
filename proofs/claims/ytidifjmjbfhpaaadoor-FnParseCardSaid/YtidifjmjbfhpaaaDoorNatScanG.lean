/- (nat).scan in a base that does not pack into words: the number of the digits that stand ahead. -/
import Derived.Test.YtidifjmjbfhpaaaDoorParseText
import Derived.Test.YtidifjmjbfhpaaaDoorMulRow
import Derived.Deep.Cut
import Derived.Deep.CutBlock
import Derived.Deep.CutRange
import Derived.LaidEql
namespace Go.Proofs.YtidifjmjbfhpaaaDoor
set_option linter.unusedVariables false
set_option maxRecDepth 20000
set_option linter.unusedSimpArgs false
open Go.RowKit

def eof (a : Addr) : Value := .iface 143 (.pointer (some a))
theorem comp_errp : (Tryd.prog.info? 143).map (·.comparable) = some true := by kernel_rfl
theorem size_err : (Tryd.prog.info? 160).map (·.size) = some 1 := by kernel_rfl
theorem eql_same (a : Addr) (w : World) : (binOp .eql 103 (.iface 143 (.pointer (some a))) (.iface 143 (.pointer (some a)))).run Tryd.prog w = .ok (.bool true) w := by
  obtain ⟨i, hi, hcmp⟩ := Option.map_eq_some_iff.1 comp_errp
  obtain ⟨j, hj, _⟩ := Option.map_eq_some_iff.1 size_err
  exact run_eql_iface_ptr_same w a Tryd.underlying103 Tryd.underlying143 hi hcmp hj
theorem eql_nil (a : Addr) (w : World) : (binOp .eql 103 .nilIface (.iface 143 (.pointer (some a)))).run Tryd.prog w = .ok (.bool false) w :=
  run_eql_iface_nil_left w _ _ Tryd.underlying103

/-- What (nat).scan answers and leaves. -/
def ScanPost (p o b : Nat) (s : ByteArray) (nd : Value) (w : World) (e : Ending) (w' : World) : Prop :=
  ∃ K v, o + K ≤ s.size ∧ (∀ j, j < K → dgs s o b j < b) ∧ (o + K < s.size → ¬ dgs s o b K < b) ∧ e = .returned (.tuple #[v, .int .i64 b, .int .i64 K, if K = 0 then nd else .nilIface]) ∧
    Own w' w.heap.size 83 .u64 v (nlen BW (pv (dgs s o b) b K)) (dig BW (pv (dgs s o b) b K)) ∧ Rd w' p s (o + K) ∧ w.grownBy w' (some p)

/-- P + i digits have been read, the last i of which lie in di. -/
def Digits (s : ByteArray) (o b P i : Nat) (di : Nat) : Prop := o + (P + i) ≤ s.size ∧ (∀ j, j < P + i → dgs s o b j < b) ∧ di = pv (fun t => dgs s o b (P + t)) b i

theorem Digits.lt {s : ByteArray} {o b P i di : Nat} (h : Digits s o b P i di) : di < b ^ i := by
  rw [h.2.2]; exact pv_lt fun j hj => h.2.1 (P + j) (by omega)
theorem Digits.more {s : ByteArray} {o b P i di D : Nat} (h : Digits s o b P i di) (hk : o + (P + i) < s.size) (hD : D = dgs s o b (P + i)) (hv : D < b) : Digits s o b P (i + 1) (di * b + D) :=
  ⟨by omega, fun j hj => by
    by_cases h1 : j < P + i
    · exact h.2.1 j h1
    · rw [show j = P + i by omega, ← hD]; exact hv, by rw [h.2.2, hD]; rfl⟩
theorem Digits.full {s : ByteArray} {o b P i di : Nat} (h : Digits s o b P i di) : Digits s o b (P + i) 0 0 ∧ pv (dgs s o b) b (P + i) = pv (dgs s o b) b P * b ^ i + di :=
  ⟨⟨h.1, h.2.1, rfl⟩, by rw [pv_split, h.2.2]⟩

/-- What is known behind the loop. -/
def ScanEnd (p : Nat) (s : ByteArray) (ev : Value) (o b k : Nat) (er : Value) (w : World) : Prop :=
  (o + k = s.size ∧ er = ev ∧ Rd w p s s.size) ∨ (o + k < s.size ∧ ¬ dgs s o b k < b ∧ er = .nilIface ∧ Rd w p s (o + k))

def ZG (base : Nat) (s : ByteArray) (o b : Nat) (wr : World) (z : Value) (P : Nat) : Prop := Room wr base z (nlen BW (pv (dgs s o b) b P)) (dig BW (pv (dgs s o b) b P))
theorem ZG.start (base : Nat) (s : ByteArray) (o b : Nat) (wr : World) : ZG base s o b wr (.slice none 0 0) 0 := by
  unfold ZG
  rw [show pv (dgs s o b) b 0 = 0 from rfl, (nlen_eq_zero BW_one 0).2 rfl]
  exact Room.nil _ _ _
theorem ZG.kept {base : Nat} {s : ByteArray} {o b p : Nat} {wr wr' : World} {z : Value} {P : Nat} (h : ZG base s o b wr z P) (hg : wr.grownBy wr' (some p)) (hp : p < base) : ZG base s o b wr' z P := by
  unfold ZG at h ⊢
  rcases h with h | ⟨g, c, F, rfl, h1, h2, h3, own, hF⟩
  · exact .inl h
  · refine .inr ⟨g, c, F, rfl, h1, h2, h3, own.kept hg (.inr ?_), hF⟩
    have := (own.lt g rfl).1
    intro e
    have e2 : some g = some p := e
    cases e2
    omega
theorem grown_below {w wr wr' : World} {p : Nat} (hg : w.grownBy wr (some p)) (hb : Below w.heap.size wr wr') : w.grownBy wr' (some p) :=
  ⟨hb.os.trans hg.os, hb.tape.trans hg.tape, hb.output.trans hg.output, Nat.le_trans hg.size hb.size, fun k hk hne => (hb.block k hk).trans (hg.block k hk hne)⟩

set_option maxHeartbeats 40000000 in
theorem natScanG_any (p o b : Nat) (s : ByteArray) (a : Addr) (nd : Value) (w : World) (h : Rd w p s o) (ho : o ≤ s.size) (hs : s.size ≤ 1500) (hb : 2 ≤ b) (hb2 : b ≤ 62) (hb3 : b ≠ 2) (hb4 : b ≠ 4) (hb16 : b ≠ 16)
    (he : Glob w 1 (eof a)) (hn : Glob w 5 nd) (hp : 5 < p) :
    Calls Tryd.prog 89 #[.slice none 0 0, rdr p, .int .i64 b, .bool false] w (ScanPost p o b s nd w) := by
  have KR := Lib.hid (readByte_look p o s (eof a) w h ho he (by omega) (by omega))
  have KM := Lib.hid (fun w => maxPow_any b w hb (by omega))
  have HE := Lib.hid (And.intro he (And.intro hn h.lt))
  have hb0 : ((b : Int) == 0) = false := by simp; omega
  have e2 : ((b : Int) == 2) = false := by simp; omega
  have e4 : ((b : Int) == 4) = false := by simp; omega
  have e16 : ((b : Int) == 16) = false := by simp; omega
  clear h he hn
  unfold rdr
  go_enter Tryd.func89, Tryd.ntmps89
  go_wp2_with fail
  refine KR.out.mono ?_
  rintro e w1 ⟨ch, er, rfl, look, gr1⟩
  have F1 := Lib.hid (And.intro look gr1)
  clear look gr1 KR
  go_wp2_with fail
  refine (KM.out _).mono ?_
  rintro e w1 ⟨⟨N, bn, rfl, hbn, hN1, hN2, hbnl⟩, rfl⟩
  have hbn0 : bn ≠ 0 := by rw [hbn]; exact Nat.ne_of_gt (Nat.pow_pos (by omega))
  have HB := Lib.hid (And.intro hbn hbnl)
  clear hbn hbnl
  have tb : ((bn : Int) == 0) = false := by simp; omega
  have HBW := Lib.hid (show b ^ N ≤ BW by have := HB.out.1; have := HB.out.2; omega)
  go_upto_block 2 with fail
  go_cut [0, 10, 11, 13, 14, 20, 21, 22] from 118 to 206 (fun z cnt er pr inv di i dp wr => ∃ (k P I DI x : Nat) (zv erv : Value), zv = z ∧ erv = er ∧ cnt = .int .i64 k ∧ k = P + I ∧ I < N ∧ di = .int .u64 DI ∧ i = .int .i64 I ∧ (x = 46 ∨ x = 48) ∧ pr = .int .i32 x ∧ inv = .bool false ∧ dp = .int .i64 (-1) ∧ Digits s o b P I DI ∧ ZG w.heap.size s o b wr z P ∧ ScanEnd p s (eof a) o b k er wr ∧ w.grownBy wr (some p))
  case first =>
    go_wp2_with fail
    go_loopw [0, 3, 10, 11, 13, 14, 15, 20, 21, 22] (fun z fr cnt er pr inv chv di i dp wr => ∃ (k P I DI x ch : Nat) (zv : Value), zv = z ∧ fr = .bool false ∧ chv = .int .u8 ch ∧ cnt = .int .i64 k ∧ k = P + I ∧ I < N ∧ di = .int .u64 DI ∧ i = .int .i64 I ∧ (x = 46 ∨ x = 48) ∧ pr = .int .i32 x ∧ inv = .bool false ∧ dp = .int .i64 (-1) ∧ Digits s o b P I DI ∧ ZG w.heap.size s o b wr z P ∧ Look p s (eof a) (o + k) ch er wr ∧ w.grownBy wr (some p)) (fun _ _ cnt _ _ _ _ _ _ _ _ => s.size - (intOf cnt).toNat)
    case atStart => exact ⟨0, 0, 0, 0, 46, ch, _, rfl, rfl, rfl, rfl, rfl, hN1, rfl, rfl, .inl rfl, rfl, rfl, rfl, ⟨by omega, fun j hj => absurd hj (Nat.not_lt_zero _), rfl⟩, ZG.start _ _ _ _ _, F1.out.1, F1.out.2⟩
    case round =>
      obtain ⟨k, P, I, DI, x, ch, z, rfl, rfl, rfl, rfl, hkP, hI, rfl, rfl, hx, rfl, rfl, rfl, dg, zr, look, gr⟩ := hrel
      have HkP := Lib.hid hkP
      have hkl : o + k ≤ s.size := by rw [hkP]; exact dg.1
      clear hkP
      rcases look with ⟨hlt, rfl, rfl, rd⟩ | ⟨hend, rfl, rfl, rd⟩
      · have hch := chr_lt s (o + k)
        obtain ⟨ch, hchh⟩ : ∃ c, Hid (c = chr s (o + k)) := ⟨_, Lib.hid rfl⟩
        obtain ⟨D, HD⟩ : ∃ D, Hid (D = dgs s o b k) := ⟨_, Lib.hid rfl⟩
        have hw := dgt_ways ch b
        have hD2 : dgt ch b = D := by rw [HD.out, hchh.out]; rfl
        rw [hD2] at hw
        rw [← hchh.out] at hch
        have HW := Lib.hid hw
        have hDl : D ≤ 63 := by rw [← hD2]; exact dgt_lt ch b hch
        have G := Lib.hid (And.intro trivial (And.intro dg (And.intro zr (And.intro rd gr))))
        rw [← hchh.out]
        clear hw hD2 dg zr rd gr hchh
        go_upto_region 47 with fail
        go_cut [124] from 120 to 124 (fun t wc => t = .bool false ∧ wc = wr)
        case first =>
          by_cases h46 : ch = 46
          · subst h46
            go_wp2_with fail
            go_meet
            exact ⟨rfl, rfl⟩
          · have t46 : ((ch : Int) == 46) = false := by simp; omega
            go_wp2_with fail
            go_meet
            exact ⟨rfl, rfl⟩
        case rest =>
        obtain ⟨rfl, rfl⟩ := hcut
        go_upto_region 53 with fail
        go_cut [133] from 128 to 133 (fun t wn => t = .bool false ∧ wn = wc)
        case first =>
          by_cases h95 : ch = 95
          · subst h95
            go_wp2_with fail
            go_meet
            exact ⟨rfl, rfl⟩
          · have t95 : ((ch : Int) == 95) = false := by simp; omega
            go_wp2_with fail
            go_meet
            exact ⟨rfl, rfl⟩
        case rest =>
        obtain ⟨rfl, rfl⟩ := hcut
        go_upto_block 4 with fail
        go_cut [23] from 136 to 173 (fun t wn => t = .int .u64 D ∧ wn = wc)
        case first =>
          rcases HW.out with ⟨g1, g2, g3⟩ | ⟨g1, g2, g3⟩ | ⟨g1, g2, g4, g3⟩ | ⟨g1, g2, g4, g3⟩ | ⟨g1, g3⟩
          · have ev : (ch : Int) - 48 = (D : Int) := by omega
            clear g3
            go_wp2_with fail
            go_meet
            exact ⟨rfl, rfl⟩
          · have ev : (ch : Int) - 97 + 10 = (D : Int) := by omega
            clear g3
            go_wp2_with fail
            go_meet
            exact ⟨rfl, rfl⟩
          · have ev : (ch : Int) - 65 + 10 = (D : Int) := by omega
            clear g3
            go_wp2_with fail
            go_meet
            exact ⟨rfl, rfl⟩
          · have ev : (ch : Int) - 65 + 36 = (D : Int) := by omega
            clear g3
            go_wp2_with fail
            go_meet
            exact ⟨rfl, rfl⟩
          · subst g3
            rcases g1 with g1 | ⟨g1, g2⟩ | ⟨g1, g2⟩ | g1
            all_goals
              go_wp2_with fail
              go_meet
              exact ⟨rfl, rfl⟩
        case rest =>
        obtain ⟨rfl, rfl⟩ := hcut
        by_cases hv : D < b
        · have hmore := G.out.2.1.more (show o + (P + I) < s.size by have := HkP.out; omega) (by rw [HD.out, HkP.out]) hv
          have hdl := hmore.lt
          have hpow : b ^ (I + 1) ≤ b ^ N := Nat.pow_le_pow_right (by omega) (by omega)
          obtain ⟨M, HM⟩ : ∃ M, Hid (M = DI * b) := ⟨_, Lib.hid rfl⟩
          rw [← HM.out] at hdl
          have HM2 := Lib.hid (show M + D < b ^ N by omega)
          have hMD : M + D < 18446744073709551616 := by have h1 := HM2.out; have h2 := HBW.out; rw [BW_eq] at h2; omega
          have e1 : (DI : Int) * (b : Int) = (M : Int) := by rw [HM.out, Int.natCast_mul]
          have ew : IntKind.u64.wrap (M : Int) = (M : Int) := by rw [IntKind.wrap_u64]; omega
          have ew2 : IntKind.u64.wrap ((M : Int) + (D : Int)) = ((M + D : Nat) : Int) := by rw [IntKind.wrap_u64]; omega
          have tv : ¬ ((b : Int) ≤ (D : Int)) := by omega
          have tv2 : ¬ (b ≤ D) := by omega
          have HMM := Lib.hid hmore
          have G := Lib.hid (And.intro G.out.1 (And.intro G.out.2.1 (And.intro G.out.2.2.1 (And.intro G.out.2.2.2.1 (And.intro G.out.2.2.2.2 (And.intro HMM.out trivial))))))
          clear hdl hpow hmore HMM
          by_cases hfull : I + 1 = N
          · have tI : ((I : Int) + 1 == (N : Int)) = true := by simp; omega
            have KA := Lib.hid (mulAddWW_any z (pv (dgs s o b) b P) bn (M + D) w.heap.size wc G.out.2.2.1 G.out.2.2.2.2.1.size (Nat.le_trans (pv_nlen hb2 (fun j hj => G.out.2.1.2.1 j (by omega))) (by have := G.out.2.1.1; omega)) hbn0 HB.out.2 (by have := HBW.out; have := HM2.out; omega))
            go_wp2_with fail
            refine KA.out.mono ?_
            rintro e w2 ⟨v2, rfl, room2', bel2⟩
            have gr2 : w.grownBy w2 (some p) := grown_below G.out.2.2.2.2.1 bel2
            have rd2 : Rd w2 p s (o + (k + 1)) := G.out.2.2.2.1.below bel2 HE.out.2.2
            have room2 : ZG w.heap.size s o b w2 v2 (P + N) := by
              unfold ZG
              have h1 := (G.out.2.2.2.2.2.1).full
              have h2 := HB.out.1
              rw [show P + N = P + (I + 1) by omega, h1.2, show b ^ (I + 1) = bn by rw [h2, hfull], ← HM.out]
              exact room2'
            clear room2' bel2 KA
            have KR2 := Lib.hid (readByte_look p (o + (k + 1)) s (eof a) w2 rd2 (by omega) (HE.out.1.grown gr2 (by omega)) (by omega) (by omega))
            have F2 := Lib.hid (And.intro room2 gr2)
            clear room2 rd2 gr2
            go_wp2_with fail
            refine KR2.out.mono ?_
            rintro e w3 ⟨ch3, er3, rfl, look3, gr3⟩
            have room3 := F2.out.1.kept gr3 HE.out.2.2
            have F3 := Lib.hid (And.intro room3 (And.intro look3 (grown_trans F2.out.2 gr3)))
            clear look3 gr3 room3 KR2
            go_wp2
            go_roundw
            case rel =>
              go_light
              have hkP := HkP.out
              exact ⟨k + 1, P + N, 0, 0, 48, ch3, _, rfl, rfl, rfl, by first | rfl | go_num, by omega, by omega, by first | rfl | go_num, by first | rfl | go_num, .inr rfl, rfl, rfl, rfl, (by have h1 := (G.out.2.2.2.2.2.1).full; rw [show P + N = P + (I + 1) by omega]; exact h1.1), F3.out.1, F3.out.2.1, F3.out.2.2⟩
            case measure => simp [intOf]; omega
          · have tI : ((I : Int) + 1 == (N : Int)) = false := by simp; omega
            have gr2 := G.out.2.2.2.2.1
            have rd2 : Rd wc p s (o + (k + 1)) := G.out.2.2.2.1
            have room2 := G.out.2.2.1
            have KR2 := Lib.hid (readByte_look p (o + (k + 1)) s (eof a) wc rd2 (by omega) (HE.out.1.grown gr2 (by omega)) (by omega) (by omega))
            have F2 := Lib.hid (And.intro room2 gr2)
            clear room2 rd2 gr2
            go_wp2_with fail
            refine KR2.out.mono ?_
            rintro e w3 ⟨ch3, er3, rfl, look3, gr3⟩
            have room3 := F2.out.1.kept gr3 HE.out.2.2
            have F3 := Lib.hid (And.intro room3 (And.intro look3 (grown_trans F2.out.2 gr3)))
            clear look3 gr3 room3 KR2
            go_wp2
            go_roundw
            case rel =>
              go_light
              have hkP := HkP.out
              exact ⟨k + 1, P, I + 1, M + D, 48, ch3, _, rfl, rfl, rfl, by first | rfl | go_num, by omega, by omega, by first | rfl | go_num, by first | rfl | go_num, .inr rfl, rfl, rfl, rfl, (by have h1 := G.out.2.2.2.2.2.1; rw [← HM.out] at h1; exact h1), F3.out.1, F3.out.2.1, F3.out.2.2⟩
            case measure => simp [intOf]; omega
        · have tv : (b : Int) ≤ (D : Int) := by omega
          have KU := Lib.hid (unreadByte_any p (o + k) s wc G.out.2.2.2.1 (by omega))
          go_wp2_with fail
          refine KU.out.mono ?_
          rintro e w2 ⟨rfl, rd2, gr2⟩
          have room2 := G.out.2.2.1.kept gr2 HE.out.2.2
          have F2 := Lib.hid (And.intro rd2 (And.intro room2 (grown_trans G.out.2.2.2.2 gr2)))
          clear rd2 room2 gr2 KU
          go_wp2_with fail
          go_meet
          case rel =>
            go_light
            exact ⟨k, P, I, DI, x, _, _, rfl, rfl, rfl, HkP.out, hI, rfl, rfl, hx, rfl, rfl, rfl, G.out.2.1, F2.out.2.1, .inr ⟨hlt, by rw [← HD.out]; exact hv, rfl, F2.out.1⟩, F2.out.2.2⟩
      · have F := Lib.hid (And.intro dg (And.intro zr (And.intro rd gr)))
        clear dg zr rd gr
        unfold eof
        go_wp2_with fail
        go_meet
        case rel =>
          go_light
          exact ⟨k, P, I, DI, x, _, _, rfl, rfl, rfl, HkP.out, hI, rfl, rfl, hx, rfl, rfl, rfl, F.out.1, F.out.2.1, .inl ⟨hend, rfl, F.out.2.2.1⟩, F.out.2.2.2⟩
  case rest =>
  obtain ⟨k, P, I, DI, x, z, er, rfl, rfl, rfl, hkP, hI, rfl, rfl, hx, rfl, rfl, rfl, dg, zr, hse, gr⟩ := hcut
  have c1 := HE.out.1.grown gr (by omega)
  have c5 := HE.out.2.1.grown gr (by omega)
  unfold Glob eof at c1
  unfold Glob at c5
  have tx : ((x : Int) == 95) = false := by rcases hx with rfl | rfl <;> rfl
  have hse2 : (er = eof a ∨ er = .nilIface) ∧ (o + k < s.size → ¬ dgs s o b k < b) ∧ Rd wc p s (o + k) := by
    rcases hse with ⟨h1, h2, h3⟩ | ⟨h1, h2, h3, h4⟩
    · exact ⟨.inl h2, fun h => absurd h (by omega), by rw [h1]; exact h3⟩
    · exact ⟨.inr h3, fun _ => h2, h4⟩
  have hkl : o + k ≤ s.size := by rw [hkP]; exact dg.1
  have HkP := Lib.hid hkP
  clear hkP
  have F := Lib.hid (And.intro hse2.2.1 (And.intro hse2.2.2 (And.intro dg (And.intro zr gr))))
  have hs1 := eql_same a
  have hs2 := eql_nil a
  have her := hse2.1
  clear hse hse2 dg zr gr
  rcases her with rfl | rfl
  · unfold eof
    by_cases hk0 : k = 0
    · obtain rfl : k = 0 := hk0
      obtain ⟨rfl, rfl⟩ : P = 0 ∧ I = 0 := by have := HkP.out; omega
      go_wp2
      refine bodyPost_ret (v := .tuple #[z, .int .i64 b, .int .i64 (0 : Nat), nd]) (by simp [results, Tryd.results89, go_sem]) rfl ?_
      exact ⟨0, _, hkl, fun j hj => absurd hj (Nat.not_lt_zero j), F.out.1, by rw [if_pos rfl], F.out.2.2.2.1.own, F.out.2.1, F.out.2.2.2.2⟩
    · by_cases hI0 : I = 0
      · have tk : ((k : Int) == 0) = false := by simp; omega
        obtain rfl : I = 0 := hI0
        obtain rfl : k = P := by have := HkP.out; omega
        go_wp2
        refine bodyPost_ret (v := .tuple #[z, .int .i64 b, .int .i64 ((k : Nat)), .nilIface]) (by simp [results, Tryd.results89, go_sem]) rfl ?_
        exact ⟨k, _, hkl, fun j hj => F.out.2.2.1.2.1 j (by omega), F.out.1, by rw [if_neg hk0], F.out.2.2.2.1.own, F.out.2.1, F.out.2.2.2.2⟩
      · have tk : ((k : Int) == 0) = false := by simp; omega
        have tI : (0 : Int) < (I : Int) := by omega
        have hyl : b ^ I < BW := Nat.lt_of_lt_of_le ((Nat.pow_lt_pow_iff_right (by omega)).2 hI) HBW.out
        obtain ⟨y, hy⟩ : ∃ y, Hid (y = b ^ I) := ⟨_, Lib.hid rfl⟩
        have KP := Lib.hid (pow_any b I y wc (by rw [BW_eq]; omega) (by omega) (by rw [hy.out, Nat.mod_eq_of_lt hyl]))
        have hdl := F.out.2.2.1.lt
        have hy0 : y ≠ 0 := by rw [hy.out]; exact Nat.ne_of_gt (Nat.pow_pos (by omega))
        rw [← hy.out] at hyl hdl
        have KA := Lib.hid (mulAddWW_any z (pv (dgs s o b) b P) y DI w.heap.size wc F.out.2.2.2.1 F.out.2.2.2.2.size (Nat.le_trans (pv_nlen hb2 (fun j hj => F.out.2.2.1.2.1 j (by omega))) (by have := F.out.2.2.1.1; omega)) hy0 hyl (by omega))
        clear hyl hdl
        go_wp2_with fail
        refine KP.out.mono ?_
        rintro e w2 ⟨rfl, rfl⟩
        go_wp2_with fail
        refine KA.out.mono ?_
        rintro e w2 ⟨v2, rfl, room2, bel2⟩
        have hfin : Room w2 w.heap.size v2 (nlen BW (pv (dgs s o b) b k)) (dig BW (pv (dgs s o b) b k)) := by
          rw [HkP.out, F.out.2.2.1.full.2, ← hy.out]
          exact room2
        have H := Lib.hid (And.intro hfin (And.intro bel2 (grown_below F.out.2.2.2.2 bel2)))
        clear hfin room2 bel2 KA KP
        go_wp2
        refine bodyPost_ret (v := .tuple #[v2, .int .i64 b, .int .i64 ((k : Nat)), .nilIface]) (by simp [results, Tryd.results89, go_sem]) rfl ?_
        exact ⟨k, _, hkl, fun j hj => F.out.2.2.1.2.1 j (by have := HkP.out; omega), F.out.1, by rw [if_neg hk0], H.out.1.own, F.out.2.1.below H.out.2.1 HE.out.2.2, H.out.2.2⟩
  · by_cases hk0 : k = 0
    · obtain rfl : k = 0 := hk0
      obtain ⟨rfl, rfl⟩ : P = 0 ∧ I = 0 := by have := HkP.out; omega
      go_wp2
      refine bodyPost_ret (v := .tuple #[z, .int .i64 b, .int .i64 (0 : Nat), nd]) (by simp [results, Tryd.results89, go_sem]) rfl ?_
      exact ⟨0, _, hkl, fun j hj => absurd hj (Nat.not_lt_zero j), F.out.1, by rw [if_pos rfl], F.out.2.2.2.1.own, F.out.2.1, F.out.2.2.2.2⟩
    · by_cases hI0 : I = 0
      · have tk : ((k : Int) == 0) = false := by simp; omega
        obtain rfl : I = 0 := hI0
        obtain rfl : k = P := by have := HkP.out; omega
        go_wp2
        refine bodyPost_ret (v := .tuple #[z, .int .i64 b, .int .i64 ((k : Nat)), .nilIface]) (by simp [results, Tryd.results89, go_sem]) rfl ?_
        exact ⟨k, _, hkl, fun j hj => F.out.2.2.1.2.1 j (by omega), F.out.1, by rw [if_neg hk0], F.out.2.2.2.1.own, F.out.2.1, F.out.2.2.2.2⟩
      · have tk : ((k : Int) == 0) = false := by simp; omega
        have tI : (0 : Int) < (I : Int) := by omega
        have hyl : b ^ I < BW := Nat.lt_of_lt_of_le ((Nat.pow_lt_pow_iff_right (by omega)).2 hI) HBW.out
        obtain ⟨y, hy⟩ : ∃ y, Hid (y = b ^ I) := ⟨_, Lib.hid rfl⟩
        have KP := Lib.hid (pow_any b I y wc (by rw [BW_eq]; omega) (by omega) (by rw [hy.out, Nat.mod_eq_of_lt hyl]))
        have hdl := F.out.2.2.1.lt
        have hy0 : y ≠ 0 := by rw [hy.out]; exact Nat.ne_of_gt (Nat.pow_pos (by omega))
        rw [← hy.out] at hyl hdl
        have KA := Lib.hid (mulAddWW_any z (pv (dgs s o b) b P) y DI w.heap.size wc F.out.2.2.2.1 F.out.2.2.2.2.size (Nat.le_trans (pv_nlen hb2 (fun j hj => F.out.2.2.1.2.1 j (by omega))) (by have := F.out.2.2.1.1; omega)) hy0 hyl (by omega))
        clear hyl hdl
        go_wp2_with fail
        refine KP.out.mono ?_
        rintro e w2 ⟨rfl, rfl⟩
        go_wp2_with fail
        refine KA.out.mono ?_
        rintro e w2 ⟨v2, rfl, room2, bel2⟩
        have hfin : Room w2 w.heap.size v2 (nlen BW (pv (dgs s o b) b k)) (dig BW (pv (dgs s o b) b k)) := by
          rw [HkP.out, F.out.2.2.1.full.2, ← hy.out]
          exact room2
        have H := Lib.hid (And.intro hfin (And.intro bel2 (grown_below F.out.2.2.2.2 bel2)))
        clear hfin room2 bel2 KA KP
        go_wp2
        refine bodyPost_ret (v := .tuple #[v2, .int .i64 b, .int .i64 ((k : Nat)), .nilIface]) (by simp [results, Tryd.results89, go_sem]) rfl ?_
        exact ⟨k, _, hkl, fun j hj => F.out.2.2.1.2.1 j (by have := HkP.out; omega), F.out.1, by rw [if_neg hk0], H.out.1.own, F.out.2.1.below H.out.2.1 HE.out.2.2, H.out.2.2⟩

end Go.Proofs.YtidifjmjbfhpaaaDoor
