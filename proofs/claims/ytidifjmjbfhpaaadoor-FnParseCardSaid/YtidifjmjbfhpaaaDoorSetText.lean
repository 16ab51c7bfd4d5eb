/- (*Int).scan, setFromScanner, SetString: the number of a text, or nil. -/
/- (*Int).setFromScanner, SetString: the number of a text, or nil. -/
import Derived.Test.YtidifjmjbfhpaaaDoorNatScanP
import Derived.Test.YtidifjmjbfhpaaaDoorParseText
namespace Go.Proofs.YtidifjmjbfhpaaaDoor
set_option linter.unusedVariables false
set_option maxRecDepth 20000
set_option linter.unusedSimpArgs false
open Go.RowKit

theorem natScan_any (p o b : Nat) (s : ByteArray) (a : Addr) (nd : Value) (w : World) (h : Rd w p s o) (ho : o ≤ s.size) (hs : s.size ≤ 1500) (hb : 2 ≤ b) (hb2 : b ≤ 62)
    (he : Glob w 1 (eof a)) (hn : Glob w 5 nd) (hp : 5 < p) :
    Calls Tryd.prog 89 #[.slice none 0 0, rdr p, .int .i64 b, .bool false] w (ScanPost p o b s nd w) := by
  by_cases h2 : b = 2
  · subst h2
    exact natScanP_any p o 2 64 1 s a nd w h ho hs hb hb2 (.inl ⟨rfl, rfl⟩) (by rw [BW_eq]) (by decide) (by decide) (by omega) (by omega) he hn hp
  by_cases h4 : b = 4
  · subst h4
    exact natScanP_any p o 4 32 2 s a nd w h ho hs hb hb2 (.inr (.inl ⟨rfl, rfl⟩)) (by rw [BW_eq]) (by decide) (by decide) (by omega) (by omega) he hn hp
  by_cases h16 : b = 16
  · subst h16
    exact natScanP_any p o 16 16 4 s a nd w h ho hs hb hb2 (.inr (.inr ⟨rfl, rfl⟩)) (by rw [BW_eq]) (by decide) (by decide) (by omega) (by omega) he hn hp
  exact natScanG_any p o b s a nd w h ho hs hb hb2 h2 h4 h16 he hn hp

/-- What (*Int).scan answers: nil and an error, or the Int and what stands in it. -/
def IntScanPost (B p q b : Nat) (s : ByteArray) (w : World) (e : Ending) (w' : World) : Prop :=
  Below B w w' ∧
  ((∃ (n : Int) (a : Addr), e = .returned (.tuple #[.pointer none, .int .i64 n, eof a]) ∧ ¬ GoodText s b) ∨
   (∃ K v, e = .returned (.tuple #[.pointer (some ⟨q, 0, none⟩), .int .i64 b, .nilIface]) ∧ 0 < K ∧ sgnOff s + K ≤ s.size ∧ (∀ j, j < K → dgs s (sgnOff s) b j < b) ∧ (sgnOff s + K < s.size → ¬ dgs s (sgnOff s) b K < b) ∧
     Pair w' q 72 (.bool (sgn (sgnNeg s) (pv (dgs s (sgnOff s) b) b K))) v ∧ Own w' w.heap.size 83 .u64 v (nlen BW (pv (dgs s (sgnOff s) b) b K)) (dig BW (pv (dgs s (sgnOff s) b) b K)) ∧ Rd w' p s (sgnOff s + K)))

theorem below_of_grown {B p : Nat} {w w' : World} (h : w.grownBy w' (some p)) (hB : B ≤ w.heap.size) (hp : B ≤ p) : Below B w w' :=
  (Below.refl B w).grown h hB (fun k hk => by cases hk; exact hp)

set_option maxHeartbeats 4000000 in
theorem intScan_any (B p q b : Nat) (s : ByteArray) (a a2 : Addr) (w : World) (h : Rd w p s 0) (hz : Pair w q 72 (.bool false) (.slice none 0 0)) (hs : s.size ≤ 1500) (hb : 2 ≤ b) (hb2 : b ≤ 62)
    (he : Glob w 1 (eof a)) (hn : Glob w 5 (eof a2)) (hp : 5 < p) (hpq : p ≠ q) (hBp : B ≤ p) (hBq : B ≤ q) :
    Calls Tryd.prog 81 #[.pointer (some ⟨q, 0, none⟩), rdr p, .int .i64 b] w (IntScanPost B p q b s w) := by
  have hBw : B ≤ w.heap.size := Nat.le_trans hBp (Nat.le_of_lt h.lt)
  by_cases h0 : s.size = 0
  · have K := Lib.hid (scanSign_empty p s (eof a) w h h0 he (by omega) ⟨a, rfl⟩)
    have H := Lib.hid (And.intro hBw (And.intro hBp (show ¬ GoodText s b from fun h => by have := h.1; omega)))
    clear h hz he hn h0
    unfold rdr
    unfold rdr eof at K
    go_enter Tryd.func81, Tryd.ntmps81
    go_wp2_with fail
    refine K.out.mono ?_
    rintro e w1 ⟨rfl, gr⟩
    have G := Lib.hid gr
    clear gr K
    go_wp2
    go_ret3
    exact ⟨below_of_grown G.out H.out.1 H.out.2.1, .inl ⟨_, a, rfl, H.out.2.2⟩⟩
  have K := Lib.hid (scanSign_some p s w h (by omega) (by omega))
  obtain ⟨neg, hneg⟩ : ∃ n, Hid (n = sgnNeg s) := ⟨_, Lib.hid rfl⟩
  obtain ⟨o, hoo⟩ : ∃ n, Hid (n = sgnOff s) := ⟨_, Lib.hid rfl⟩
  have hos : o ≤ s.size := by rw [hoo.out]; exact sgnOff_le s
  rw [← hneg.out, ← hoo.out] at K
  have H := Lib.hid (And.intro hBw (And.intro hBp (And.intro hBq (And.intro hz (And.intro he (And.intro hn hpq))))))
  clear h hz he hn hBp hBq hBw
  unfold rdr
  unfold rdr at K
  go_enter Tryd.func81, Tryd.ntmps81
  go_wp2_with fail
  refine K.out.mono ?_
  rintro e w1 ⟨rfl, rd1, gr1⟩
  have KN := natScan_any p o b s a (eof a2) w1 rd1 hos hs hb hb2 (H.out.2.2.2.2.1.grown gr1 (by omega)) (H.out.2.2.2.2.2.1.grown gr1 (by omega)) hp
  have z1 := H.out.2.2.2.1.grown gr1 (by have := H.out.2.2.2.2.2.2; intro e; cases e; exact this rfl)
  unfold rdr at KN
  have KN' := Lib.hid KN
  have G1 := Lib.hid (And.intro z1 gr1)
  have c0 := z1.cell0
  have c1 := z1.cell1
  clear rd1 gr1 KN z1 K
  go_wp2_with fail
  refine KN'.out.mono ?_
  rintro e w2 ⟨K, v, hK1, hK2, hK3, rfl, own, rd2, gr2⟩
  have z2 := G1.out.1.grown gr2 (by have := H.out.2.2.2.2.2.2; intro e; cases e; exact this rfl)
  obtain ⟨ao, c, rfl, hle, hcm, hrd, hlt⟩ := own.parts
  have c20 := z2.cell0
  have c21 := z2.cell1
  have f0 := z2.free 0
  have f1 := z2.free 1
  obtain ⟨V, hV⟩ : ∃ V, Hid (V = pv (dgs s o b) b K) := ⟨_, Lib.hid rfl⟩
  rw [← hV.out] at own
  rw [← hV.out]
  obtain ⟨n, hnn⟩ : ∃ n, Hid (n = nlen BW V) := ⟨_, Lib.hid rfl⟩
  rw [← hnn.out]
  have hnb : n ≤ K := by rw [hnn.out, hV.out]; exact pv_nlen hb2 hK2
  have F := Lib.hid (And.intro z2 (And.intro own (And.intro rd2 (And.intro (grown_trans G1.out.2 gr2) (And.intro hK1 (And.intro hK2 hK3))))))
  clear z2 own rd2 gr2 hK1 hK2 hK3 hrd hlt hle hcm c0 c1 KN'
  by_cases hk0 : K = 0
  · subst hk0
    rw [if_pos rfl]
    unfold eof
    go_wp2
    go_ret3
    refine ⟨?_, .inl ⟨_, a2, rfl, ?_⟩⟩
    · exact (below_of_grown F.out.2.2.2.1 H.out.1 H.out.2.1).grown (grown_setCell _ ⟨q, 1, none⟩ _) (Nat.le_trans H.out.1 F.out.2.2.2.1.size) (fun k hk => by cases hk; exact H.out.2.2.1)
    · rintro ⟨g1, g2⟩
      rw [← hoo.out] at g1 g2
      exact F.out.2.2.2.2.2.2 (by omega) (g2 0 (by omega))
  · rw [if_neg hk0]
    have hfin : ∀ (w3 : World) (B0 : Bool), B0 = sgn (sgnNeg s) V → w3 = (w2.setCell ⟨q, 1, none⟩ (.slice ao n c)).setCell ⟨q, 0, none⟩ (.bool B0) → IntScanPost B p q b s w (.returned (.tuple #[.pointer (some ⟨q, 0, none⟩), .int .i64 b, .nilIface])) w3 := by
      rintro w3 B0 hB0 rfl
      have gq : w2.grownBy ((w2.setCell ⟨q, 1, none⟩ (.slice ao n c)).setCell ⟨q, 0, none⟩ (.bool B0)) (some q) := grown_trans (grown_setCell w2 ⟨q, 1, none⟩ _) (grown_setCell _ ⟨q, 0, none⟩ _)
      refine ⟨(below_of_grown F.out.2.2.2.1 H.out.1 H.out.2.1).grown gq (Nat.le_trans H.out.1 F.out.2.2.2.1.size) (fun k hk => by cases hk; exact H.out.2.2.1), .inr ⟨K, .slice ao n c, rfl, by omega, ?_, ?_, ?_, ?_, ?_, ?_⟩⟩
      · rw [← hoo.out]; exact F.out.2.2.2.2.1
      · rw [← hoo.out]; exact F.out.2.2.2.2.2.1
      · rw [← hoo.out]; exact F.out.2.2.2.2.2.2
      · rw [← hoo.out, ← hV.out, ← hB0]
        exact (F.out.1.set1 _).set0 _
      · rw [← hoo.out, ← hV.out]
        have own := F.out.2.1
        rw [← hnn.out] at own ⊢
        refine (own.kept gq ?_).base_le (World.grownBy.size G1.out.2)
        rcases hao : (Value.slice ao n c).ownBlock with _ | g
        · exact .inl rfl
        · refine .inr ?_
          have h1 := (own.lt g hao).1
          have h2 := G1.out.1.lt
          intro e
          cases e
          omega
      · rw [← hoo.out]
        exact F.out.2.2.1.grown gq (by have := H.out.2.2.2.2.2.2; intro e; cases e; exact this rfl)
    have HFIN := Lib.hid hfin
    clear hfin
    by_cases hn0 : n = 0
    · have hB := Lib.hid (show false = sgn (sgnNeg s) V by
        have : V = 0 := (nlen_eq_zero BW_one V).1 (by rw [← hnn.out]; exact hn0)
        unfold sgn
        simp [this])
      subst hn0
      go_wp2
      go_ret3
      exact HFIN.out _ false hB.out rfl
    · have hB := Lib.hid (show neg = sgn (sgnNeg s) V by
        have : V ≠ 0 := fun h => hn0 (by rw [hnn.out]; exact (nlen_eq_zero BW_one V).2 h)
        unfold sgn
        simp [this, hneg.out])
      have hgt : decide ((0 : Int) < (n : Int)) = true := by simp; omega
      go_wp2
      go_ret3
      exact HFIN.out _ neg hB.out rfl

end Go.Proofs.YtidifjmjbfhpaaaDoor
namespace Go.Proofs.YtidifjmjbfhpaaaDoor
set_option linter.unusedVariables false
set_option linter.unusedSimpArgs false
open Go.RowKit

theorem neq_same (a : Addr) (w : World) : (binOp .neq 103 (.iface 143 (.pointer (some a))) (.iface 143 (.pointer (some a)))).run Tryd.prog w = .ok (.bool false) w := by
  obtain ⟨i, hi, hcmp⟩ := Option.map_eq_some_iff.1 comp_errp
  obtain ⟨j, hj, _⟩ := Option.map_eq_some_iff.1 size_err
  simp only [binOp]
  simp [Op.equal, Op.maxDepth, run_equalIn_iface_ptr_same w 9998 a Tryd.underlying103 Tryd.underlying143 hi hcmp hj]
theorem neq_nil (a : Addr) (w : World) : (binOp .neq 103 .nilIface (.iface 143 (.pointer (some a)))).run Tryd.prog w = .ok (.bool true) w := by
  have h : ∀ d : Nat, (Op.equalIn (d + 1) 103 .nilIface (.iface 143 (.pointer (some a)))).run Tryd.prog w = .ok false w := fun d => by simp [Op.equalIn, run_underlying Tryd.underlying103]
  simp only [binOp]
  simp [Op.equal, Op.maxDepth, h 9999]

/-- What setFromScanner and SetString answer. -/
def SetPost (B q b : Nat) (s : ByteArray) (w : World) (e : Ending) (w' : World) : Prop :=
  Below B w w' ∧ ((e = .returned (.tuple #[.pointer none, .bool false]) ∧ ¬ GoodText s b) ∨
    (e = .returned (.tuple #[.pointer (some ⟨q, 0, none⟩), .bool true]) ∧ GoodText s b ∧ IntNew w' B q (sgn (sgnNeg s) (textVal s b)) (textVal s b)))

theorem below_trans' {B p : Nat} {w w1 w2 : World} (h : Below B w w1) (hg : w1.grownBy w2 (some p)) (hB : B ≤ w.heap.size) (hp : B ≤ p) : Below B w w2 :=
  h.grown hg (Nat.le_trans hB h.size) (fun k hk => by cases hk; exact hp)

set_option maxHeartbeats 4000000 in
theorem setFrom_any (B p q b : Nat) (s : ByteArray) (a a2 : Addr) (w : World) (h : Rd w p s 0) (hz : Pair w q 72 (.bool false) (.slice none 0 0)) (hs : s.size ≤ 1500) (hb : 2 ≤ b) (hb2 : b ≤ 62)
    (he : Glob w 1 (eof a)) (hn : Glob w 5 (eof a2)) (h5 : 5 < B) (hpq : p ≠ q) (hBp : B ≤ p) (hBq : B ≤ q) :
    Calls Tryd.prog 64 #[.pointer (some ⟨q, 0, none⟩), rdr p, .int .i64 b] w (SetPost B q b s w) := by
  have K := intScan_any B p q b s a a2 w h hz hs hb hb2 he hn (by omega) hpq hBp hBq
  have H := Lib.hid (And.intro he (And.intro h.lt hpq))
  have hBw : B ≤ w.heap.size := Nat.le_trans hBp (Nat.le_of_lt h.lt)
  clear h hz he hn hpq
  unfold rdr at *
  have K' := Lib.hid K
  clear K
  go_enter Tryd.func64, Tryd.ntmps64
  go_wp2_with fail
  refine K'.out.mono ?_
  rintro e w1 ⟨bel, ⟨n, a', rfl, hng⟩ | ⟨K, v, rfl, hK0, hK1, hK2, hK3, hp, own, rd⟩⟩
  · have F := Lib.hid (And.intro bel hng)
    clear bel hng K'
    unfold eof
    go_wp2
    go_ret2
    exact ⟨F.out.1, .inl ⟨rfl, F.out.2⟩⟩
  · have KR := Lib.hid (readByte_look p (sgnOff s + K) s (eof a) w1 rd hK1 (H.out.1.below bel (by omega)) (by omega) (by omega))
    have F := Lib.hid (And.intro bel (And.intro hK0 (And.intro hK1 (And.intro hK2 (And.intro hK3 (And.intro hp own))))))
    clear bel hK0 hK1 hK2 hK3 hp own rd K'
    go_wp2_with fail
    refine KR.out.mono ?_
    rintro e w2 ⟨ch, er, rfl, look, gr⟩
    have c1 := (H.out.1.below F.out.1 (show 1 < B by omega)).grown gr (by omega)
    unfold Glob eof at c1
    have hs1 := neq_same a
    have hs2 := neq_nil a
    have bel2 := below_trans' F.out.1 gr hBw hBp
    have F2 := Lib.hid (And.intro bel2 gr)
    clear gr bel2 KR
    rcases look with ⟨h1, h2, rfl, h4⟩ | ⟨h1, h2, rfl, h4⟩
    · have F3 := Lib.hid (And.intro h1 h4)
      clear h1 h2 h4
      go_wp2
      go_ret2
      refine ⟨F2.out.1, .inl ⟨rfl, fun hg => ?_⟩⟩
      exact F.out.2.2.2.2.1 F3.out.1 (hg.2 K (by have := F3.out.1; omega))
    · have F3 := Lib.hid (And.intro h1 h4)
      clear h1 h2 h4
      unfold eof
      go_wp2
      go_ret2
      have hKm : K = s.size - sgnOff s := by have := F3.out.1; omega
      have hpv : pv (dgs s (sgnOff s) b) b K = textVal s b := by unfold textVal; rw [hKm]
      have hp := F.out.2.2.2.2.2.1
      have own := F.out.2.2.2.2.2.2
      rw [hpv] at hp own
      refine ⟨F2.out.1, .inr ⟨rfl, ⟨by have := F3.out.1; have := F.out.2.1; omega, fun j hj => F.out.2.2.2.1 j (by omega)⟩, v, hp.grown F2.out.2 ?_, ?_⟩⟩
      · have := H.out.2.2; intro e; cases e; exact this rfl
      · refine (own.kept F2.out.2 ?_).base_le hBw
        rcases hao : v.ownBlock with _ | g
        · exact .inl rfl
        · refine .inr ?_
          have h1 := (own.lt g hao).1
          have h2 := H.out.2.1
          intro e
          cases e
          omega

theorem setString_any (B q b : Nat) (s : ByteArray) (a a2 : Addr) (w : World) (hz : Pair w q 72 (.bool false) (.slice none 0 0)) (hs : s.size ≤ 1500) (hb : 2 ≤ b) (hb2 : b ≤ 62)
    (he : Glob w 1 (eof a)) (hn : Glob w 5 (eof a2)) (h5 : 5 < B) (hBq : B ≤ q) :
    Calls Tryd.prog 43 #[.pointer (some ⟨q, 0, none⟩), .string s, .int .i64 b] w (SetPost B q b s w) := by
  have KN := Lib.hid (newReader_any s w)
  have hBw : B ≤ w.heap.size := Nat.le_trans hBq (Nat.le_of_lt hz.lt)
  have H := Lib.hid (And.intro hz (And.intro he hn))
  clear hz he hn
  have hmi : ∀ (T : TypeId) (v : Value) (w : World), True := fun _ _ _ => trivial
  go_enter Tryd.func43, Tryd.ntmps43
  go_wp2_with fail
  refine KN.out.mono ?_
  rintro e w1 ⟨rfl, rd, bel⟩
  have hlt := H.out.1.lt
  have KS := setFrom_any B w.heap.size q b s a a2 w1 rd (H.out.1.below bel hlt) hs hb hb2 (H.out.2.1.below bel (by omega)) (H.out.2.2.below bel (by omega)) h5 (by omega) hBw hBq
  unfold rdr at KS
  have KS' := Lib.hid KS
  have F := Lib.hid bel
  clear rd bel KS KN
  go_wp2_with fail
  refine KS'.out.mono ?_
  rintro e w2 ⟨bel2, ⟨rfl, hng⟩ | ⟨rfl, hg, hi⟩⟩
  · have F2 := Lib.hid (And.intro ((F.out.mono hBw).trans bel2) hng)
    clear bel2 hng KS'
    go_wp2
    go_ret2
    exact ⟨F2.out.1, .inl ⟨rfl, F2.out.2⟩⟩
  · have F2 := Lib.hid (And.intro ((F.out.mono hBw).trans bel2) (And.intro hg hi))
    clear bel2 hg hi KS'
    go_wp2
    go_ret2
    exact ⟨F2.out.1, .inr ⟨rfl, F2.out.2.1, F2.out.2.2⟩⟩

end Go.Proofs.YtidifjmjbfhpaaaDoor
