/- laws.FnSetBit returns true, whatever Number, index and bit it is called with. -/
import Derived.Test.YtidifjmjbfhpaaaDoorImplSetBit
import Derived.Test.YtidifjmjbfhpaaaDoorFnBitWalk
import Derived.Test.YtidifjmjbfhpaaaDoorIs
namespace Go.Proofs.YtidifjmjbfhpaaaDoor
set_option linter.unusedVariables false
set_option maxRecDepth 20000
set_option linter.unusedSimpArgs false
open Go.RowKit

/-- The tables: or; and of the turned. -/
def setT (b : Bool) : Nat → Bool := fun j => match j with
  | 0 => false
  | 1 => b
  | 2 => true
  | _ => b

theorem setT_bits (b na : Bool) (V k j : Nat) : jat (setT b) na V false (2 ^ k) j = if j = k then b else tb na V j := by
  unfold jat
  have h : tb false (2 ^ k) j = decide (j = k) := by
    show (2 ^ k).testBit j = _
    rw [Nat.testBit_two_pow]
    simp only [decide_eq_decide]
    exact eq_comm
  rw [h]
  by_cases hj : j = k
  · simp only [hj, decide_true, if_true]
    cases tb na V k <;> cases b <;> rfl
  · simp only [hj, decide_false, if_false]
    cases tb na V j <;> cases b <;> rfl

/-- What is told is what is joined. -/
theorem setI_same {b na neg : Bool} {V k R : Nat} (hR : ∀ i, tb neg R i = jat (setT b) na V false (2 ^ k) i) (hp : neg = true → 1 ≤ R) : na = neg ∧ setI na V k b = R :=
  tb_unique (setI_pos na V k b) hp (fun i => by rw [hR, setT_bits, setI_bit])

theorem same_of_eq {xn vn : Bool} {R R' : Nat} (h1 : xn = vn) (h2 : R = R') (hp : vn = true → 1 ≤ R') : Same xn (nlen BW R) (dig BW R) vn R' := by
  subst h1 h2
  refine ⟨rfl, ?_, fun _ _ => rfl⟩
  cases xn
  · rfl
  · have := hp rfl
    simp; omega

theorem setIs {bb nn nj : Bool} {V k R nR Rj : Nat} (hR : R = setI nn V k bb) (hn : nR = nlen BW R) (hbits : ∀ i, tb nj Rj i = jat (setT bb) nn V false (2 ^ k) i) (hp : nj = true → 1 ≤ Rj) : Same nn nR (dig BW R) nj Rj ∧ nlen 65536 Rj ≤ 4 * nR := by
  obtain ⟨h1, h2⟩ := setI_same hbits hp
  rw [← hR] at h2
  subst hn h2
  refine ⟨same_of_eq h1 rfl hp, ?_⟩
  exact (nlen_pow (B := 65536) (by omega) 4 (by omega) R _).1 (Nat.le_refl (nlen BW R))

theorem is_yes (xn vn : Bool) (ax av : Option Addr) (nx cx V cv : Nat) (fx : Nat → Nat) (w : World) (hbx : nx ≤ 2147483647) (hnv : nlen 65536 V ≤ cv) (hmv : nlen 65536 V ≤ 17179869184)
    (hx : Reads w .u64 ax nx fx) (hv : Reads w .i64 av (nlen 65536 V) (dig 65536 V)) (hs : Same xn nx fx vn V) :
    Calls Tryd.prog 19 #[.agg #[.bool xn, .slice ax nx cx], .agg #[.bool vn, .slice av (nlen 65536 V) cv]] w fun e w' => e = .returned (.bool true) ∧ Below w.heap.size w w' :=
  (is_any xn vn ax av nx cx V cv fx w hbx hnv hmv hx hv).mono fun e w' ⟨r, he, hr, bel⟩ => ⟨by rw [he, hr.2 hs], bel⟩

def InPost (w0 : World) (sg : Bool) (V : Nat) (W : World) (e : Ending) (w' : World) : Prop :=
  ∃ aa ca, e = .returned (.agg #[.bool sg, .slice aa (nlen 65536 V) ca]) ∧ nlen 65536 V ≤ ca ∧ (∀ W', Below w'.heap.size w' W' → Reads W' .i64 aa (nlen 65536 V) (dig 65536 V)) ∧ Below W.heap.size W w' ∧ Below w0.heap.size w0 w'

theorem in_kept (neg : Bool) (ao : Option Addr) (n cap : Nat) (f : Nat → Nat) (hf : ∀ i, i < n → f i < BW) (w0 : World) (hn : n ≤ cap) (hb : n ≤ 2147483647) (hrd : Reads w0 .u64 ao n f) (W : World) (hW : Below w0.heap.size w0 W) :
    Calls Tryd.prog 11 #[.agg #[.bool neg, .slice ao n cap]] W (InPost w0 (sgn neg (val BW f n)) (val BW f n) W) := by
  refine (in_any neg ao n cap f hf W hn hb (hrd.below hW)).mono ?_
  rintro e w' ⟨v, rfl, own, bel⟩
  obtain ⟨aa, ca, rfl, hle, hcm, hrd', hlt⟩ := own.parts
  exact ⟨aa, ca, rfl, hle, fun W' h => hrd'.below h, bel, below_trans hW bel⟩

def BitPost (w0 : World) (V : Nat) (W : World) (e : Ending) (w' : World) : Prop :=
  ∃ aa ca, e = .returned (.slice aa (nlen 65536 V) ca) ∧ nlen 65536 V ≤ ca ∧ (∀ W', Below w'.heap.size w' W' → Reads W' .i64 aa (nlen 65536 V) (dig 65536 V)) ∧ Below W.heap.size W w' ∧ Below w0.heap.size w0 w'

theorem bit_kept (k : Nat) (hk : k ≤ 1000000) (w0 W : World) (hW : Below w0.heap.size w0 W) : Calls Tryd.prog 17 #[.int .i64 k] W (BitPost w0 (2 ^ k) W) := by
  refine (specBit_any k W hk).mono ?_
  rintro e w' ⟨v, rfl, own, bel⟩
  obtain ⟨aa, ca, rfl, hle, hcm, hrd', hlt⟩ := own.parts
  exact ⟨aa, ca, rfl, hle, fun W' h => hrd'.below h, bel, below_trans hW bel⟩

set_option maxHeartbeats 1000000 in
theorem fnSetBit_walk (ix b : Nat) (hix : ix ≤ 65535) (hb : b < 256) (neg : Bool) (ao : Option Addr) (n cap : Nat) (f : Nat → Nat) (hf : ∀ i, f i < BW) (w : World) (hn : n ≤ cap) (hcap : cap ≤ 9223372036854775807) (hrd : Reads w .u64 ao n f) (hone : One w) :
    Calls Tryd.prog 5 #[.agg #[.bool neg, .slice ao n cap], .int .u16 ix, .int .u8 b] w fun e w' => e = .returned (.bool true) ∧ Below w.heap.size w w' := by
  have hnot : ∀ (x : Bool) (w : World), (Op.unary .not (.bool x)).run Tryd.prog w = .ok (.bool (!x)) w := fun _ _ => rfl
  have hfld := field_nat
  obtain ⟨W, hW⟩ : ∃ W, W = w.alloc (.cells #[.bool neg, .slice ao n cap] 24) := ⟨_, rfl⟩
  have S0 : Below w.heap.size w W ∧ ArgAt W w.heap.size neg ao n cap f := by rw [hW]; exact ⟨(Below.refl _ _).alloc (Nat.le_refl _) _, ArgAt.new hrd⟩
  have KF := Lib.hid (fits_any neg ao n cap W (by omega))
  have F0 := Lib.hid S0
  rw [hW] at KF
  have HW := Lib.hid hW
  have HO := Lib.hid hone
  clear hrd S0 hW hone
  by_cases h1 : n ≤ 2147483647
  · rw [show decide (n ≤ 2147483647) = true by simpa using h1] at KF
    go_enter Tryd.func5, Tryd.ntmps5
    go_wp2_with fail
    refine KF.out.mono ?_
    rw [← HW.out]
    rintro e w1 ⟨rfl, bel1⟩
    have S1 := And.intro (below_trans F0.out.1 bel1) (F0.out.2.below bel1)
    have c0 := S1.2.1.cell0
    have c1 := S1.2.1.cell1
    have KB := Lib.hid (big_any neg ao n cap 20 w1 (by omega))
    have F1 := Lib.hid S1
    clear bel1 KF S1
    by_cases h2 : 20 < n
    · rw [show decide ((20 : Int) < (n : Int)) = true by simp; omega] at KB
      go_wp2_with fail
      refine KB.out.mono ?_
      rintro e w2 ⟨rfl, bel2⟩
      have F2 := Lib.hid (below_trans F1.out.1 bel2)
      clear bel2 KB
      go_wp2
      go_ret
      exact ⟨rfl, F2.out⟩
    · rw [show decide ((20 : Int) < (n : Int)) = false by simp; omega] at KB
      go_wp2_with fail
      refine KB.out.mono ?_
      rintro e w2 ⟨rfl, bel2⟩
      have S2 := And.intro (below_trans F1.out.1 bel2) (F1.out.2.below bel2)
      clear c0 c1
      have c0 := S2.2.1.cell0
      have c1 := S2.2.1.cell1
      obtain ⟨k, hk⟩ : ∃ k, k = ix % 3001 := ⟨_, rfl⟩
      have hk3 : k ≤ 3000 := by rw [hk]; have := Nat.mod_lt ix (show 0 < 3001 by omega); omega
      have hki : (ix : Int) % 3001 = ((k : Nat) : Int) := by rw [hk]; omega
      have hwb : IntKind.u64.wrap (b : Int) = (b : Int) := by rw [IntKind.wrap_u64]; omega
      have KI := implSetBit_any neg ao n cap k b f (fun i _ => hf i) w2 (by omega) hb hn (by omega) S2.2.2 (HO.out.below S2.1)
      have KNB := in_kept neg ao n cap f (fun i _ => hf i)
      obtain ⟨V, hV⟩ : ∃ V, V = val BW f n := ⟨_, rfl⟩
      rw [← hV] at KI KNB
      have hVn : nlen BW V ≤ n := by rw [nlen_le_iff BW_one, hV]; exact val_lt fun i _ => hf i
      have hL16 : nlen 65536 V ≤ 4 * n := by
        have := nlen_pow (B := 65536) (by omega) 4 (by omega) V n
        exact this.1 hVn
      obtain ⟨sg, hsg⟩ : ∃ s, s = sgn neg V := ⟨_, rfl⟩
      rw [← hsg] at KI KNB
      have hsp : sg = true → 1 ≤ V := fun h => sgn_pos neg V (by rw [← hsg]; exact h)
      have KI' := Lib.hid KI
      have KNB' := Lib.hid KNB
      have F2 := Lib.hid S2
      clear bel2 KB S2 hV hsg hk KI KNB
      go_wp2_with fail
      refine KI'.out.mono ?_
      rintro e w3 ⟨nn, R, v, c, rfl, own, bel3, hor⟩
      obtain ⟨a3, c3, rfl, hle3, hcm3, hrd3, hlt3⟩ := own.parts
      have S3 := And.intro (below_trans F2.out.1 bel3) (F2.out.2.below bel3)
      clear c0 c1
      rcases hor with ⟨hb1, rfl, rfl, hR⟩ | ⟨hb2, rfl, _, rfl⟩
      · have hgt : decide ((1 : Int) < (b : Int)) = false := by simp; omega
        obtain ⟨bb, hbb⟩ : ∃ bb : Bool, bb = (b == 1) := ⟨_, rfl⟩
        rw [← hbb] at hR
        have heq : ((b : Int) == 1) = bb := by
          rw [hbb]
          have : b = 0 ∨ b = 1 := by omega
          rcases this with rfl | rfl <;> rfl
        have hRn : nlen BW R ≤ 100000 := by
          have := setI_nlen nn V k bb
          rw [← hR] at this
          omega
        obtain ⟨W4, hW4⟩ : ∃ W, W = (w3.alloc (.cells #[.bool nn, .slice a3 (nlen BW R) c3] 24)).alloc (.cells #[.bool false, .bool bb, .bool true, .bool bb] 40) := ⟨_, rfl⟩
        have b34 : Below w3.heap.size w3 W4 := by rw [hW4]; exact ((Below.refl _ w3).alloc (Nat.le_refl _) _).alloc (by simp) _
        have hpz : Pair W4 w3.heap.size 24 (.bool nn) (.slice a3 (nlen BW R) c3) := by rw [hW4]; exact (Pair.new w3 _ _ _).alloc _
        have hpt : W4.heap[w3.heap.size + 1]? = some (.cells #[.bool false, .bool bb, .bool true, .bool bb] 40 (0, 0)) := by
          have h := heap_alloc_new (w3.alloc (.cells #[.bool nn, .slice a3 (nlen BW R) c3] 24)) (.cells #[.bool false, .bool bb, .bool true, .bool bb] 40)
          rw [hW4]
          simpa using h
        have S4 := And.intro (below_trans S3.1 b34) (S3.2.below b34)
        have S5 := And.intro hpz (And.intro hpt (hrd3.below b34))
        have hb1' : b = 0 ∨ b = 1 := by omega
        obtain ⟨nR, hnR⟩ : ∃ x, x = nlen BW R := ⟨_, rfl⟩
        rw [← hnR] at hRn S5 hle3 hW4 ⊢
        have F4 := Lib.hid (And.intro S4 (And.intro S5 (And.intro hR hnR)))
        have HW4 := Lib.hid hW4
        clear own hrd3 hlt3 S3 KI' bel3 b34 hpz hpt S4 S5 hR hnR hW4 F2 F1 F0 HW
        have hc0 := F4.out.1.2.1.cell0
        have hc1 := F4.out.1.2.1.cell1
        have hz0 := F4.out.2.1.1.cell0
        have hz1 := F4.out.2.1.1.cell1
        obtain ⟨q0, q1, q2, q3⟩ := four_cell F4.out.2.1.2.1
        have bdr : Below W4.heap.size W4 W4.drew := ⟨rfl, rfl, rfl, Nat.le_refl _, fun _ _ => rfl⟩
        have KN := KNB'.out W4 hn h1 F4.out.1.2.2 _ bdr
        have KN' := Lib.hid KN
        have KEEP := Lib.hid (show ∀ u, Below W4.heap.size W4 u → u.cell? ⟨w.heap.size, 0, none⟩ = some (.bool neg) ∧ u.cell? ⟨w.heap.size, 1, none⟩ = some (.slice ao n cap) ∧ u.cell? ⟨w3.heap.size, 0, none⟩ = some (.bool nn) ∧ u.cell? ⟨w3.heap.size, 1, none⟩ = some (.slice a3 nR c3) ∧ u.cell? ⟨w3.heap.size + 1, 0, none⟩ = some (.bool false) ∧ u.cell? ⟨w3.heap.size + 1, 1, none⟩ = some (.bool bb) ∧ u.cell? ⟨w3.heap.size + 1, 2, none⟩ = some (.bool true) ∧ u.cell? ⟨w3.heap.size + 1, 3, none⟩ = some (.bool bb) from fun u hu => by
          have h4 := four_cell (show u.heap[w3.heap.size + 1]? = _ by rw [hu.block _ (lt_of_block F4.out.2.1.2.1)]; exact F4.out.2.1.2.1)
          exact ⟨(F4.out.1.2.below hu).1.cell0, (F4.out.1.2.below hu).1.cell1, (F4.out.2.1.1.below hu F4.out.2.1.1.lt).cell0, (F4.out.2.1.1.below hu F4.out.2.1.1.lt).cell1, h4.1, h4.2.1, h4.2.2.1, h4.2.2.2⟩)
        have hl2 := nlen_two_pow k
        have KJ := Lib.hid (fun (aa ab : Option Addr) (ca cb : Nat) (u : World) (ha : nlen 65536 V ≤ ca) (hb : nlen 65536 (2 ^ k) ≤ cb) (hra : Reads u .i64 aa (nlen 65536 V) (dig 65536 V)) (hrb : Reads u .i64 ab (nlen 65536 (2 ^ k)) (dig 65536 (2 ^ k))) =>
          show Calls Tryd.prog 16 #[.agg #[.bool nn, .slice aa (nlen 65536 V) ca], .agg #[.bool false, .slice ab (nlen 65536 (2 ^ k)) cb], .agg #[.bool false, .bool bb, .bool true, .bool bb]] u (JPost (setT bb) nn V false (2 ^ k) u) from
            joined_any (setT bb) nn aa V ca false ab (2 ^ k) cb u hra hrb hsp (fun h => by cases h) ha hb (by omega) (by omega))
        clear KN hl2 bdr KNB'
        rcases hb1' with rfl | rfl
        · have heq' : bb = _ := heq.symm
          simp only [Int.natCast_zero, Int.natCast_one, Int.reduceBEq] at heq'
          subst heq'
          clear heq hbb
          go_wp2_with fail
          rw [← HW4.out]
          go_region_held3 (fun u => u.cell? ⟨w.heap.size, 0, none⟩ = some (.bool neg) ∧ u.cell? ⟨w.heap.size, 1, none⟩ = some (.slice ao n cap) ∧ u.cell? ⟨w3.heap.size, 0, none⟩ = some (.bool nn) ∧ u.cell? ⟨w3.heap.size, 1, none⟩ = some (.slice a3 nR c3) ∧ u.cell? ⟨w3.heap.size + 1, 0, none⟩ = some (.bool false) ∧ u.cell? ⟨w3.heap.size + 1, 1, none⟩ = some (.bool false) ∧ u.cell? ⟨w3.heap.size + 1, 2, none⟩ = some (.bool true) ∧ u.cell? ⟨w3.heap.size + 1, 3, none⟩ = some (.bool false)) (first | exact ⟨hc0, hc1, hz0, hz1, q0, q1, q2, q3⟩ | exact k5 | exact k7 | exact k8 | exact k9) (first
            | (go_simp; go_at_call 11; refine KN'.out.mono ?_; rintro e w5 ⟨aa, ca, rfl, hla, ra, b5, d5⟩; have k5 := KEEP.out _ d5; go_wp2_with fail)
            | (go_simp; go_at_call 17; refine (bit_kept k (by omega) W4 _ d5).mono ?_; rintro e w6 ⟨ab, cb, rfl, hlb, rb, b6, d6⟩; have k7 := KEEP.out _ d6; go_wp2_with fail)
            | (go_simp; go_at_call 16; refine (KJ.out aa ab ca cb w6 hla hlb (ra w6 b6) (rb w6 (Below.refl _ _))).mono ?_; rintro e w7 ⟨nj, vj, Rj, rfl, own7, b7, hpj, hbits, hRl⟩; obtain ⟨aj, cj, rfl, hle7, hcm7, hrd7, hlt7⟩ := own7.parts; have d7 := below_trans d6 b7; have k8 := KEEP.out _ d7; clear hlt7; go_wp2_with fail)
            | (go_simp; go_at_call 19; refine (is_yes nn nj a3 aj nR c3 Rj cj (dig BW R) w7 (by omega) hle7 ?_ (F4.out.2.1.2.2.below d7) hrd7 (setIs F4.out.2.2.1 F4.out.2.2.2 hbits hpj).1).mono ?_; (exact Nat.le_trans (setIs F4.out.2.2.1 F4.out.2.2.2 hbits hpj).2 (by omega)); rintro e w8 ⟨rfl, b8⟩; have d8 := below_trans d7 b8; have k9 := KEEP.out _ d8; go_wp2_with fail))
          have DD := Lib.hid (below_trans F4.out.1.1 d8)
          clear own7 hrd7 hbits hRl k5 k7 k8 k9
          go_wp2
          go_ret
          exact ⟨rfl, DD.out⟩
        · have heq' : bb = _ := heq.symm
          simp only [Int.natCast_zero, Int.natCast_one, Int.reduceBEq] at heq'
          subst heq'
          clear heq hbb
          go_wp2_with fail
          rw [← HW4.out]
          go_region_held3 (fun u => u.cell? ⟨w.heap.size, 0, none⟩ = some (.bool neg) ∧ u.cell? ⟨w.heap.size, 1, none⟩ = some (.slice ao n cap) ∧ u.cell? ⟨w3.heap.size, 0, none⟩ = some (.bool nn) ∧ u.cell? ⟨w3.heap.size, 1, none⟩ = some (.slice a3 nR c3) ∧ u.cell? ⟨w3.heap.size + 1, 0, none⟩ = some (.bool false) ∧ u.cell? ⟨w3.heap.size + 1, 1, none⟩ = some (.bool true) ∧ u.cell? ⟨w3.heap.size + 1, 2, none⟩ = some (.bool true) ∧ u.cell? ⟨w3.heap.size + 1, 3, none⟩ = some (.bool true)) (first | exact ⟨hc0, hc1, hz0, hz1, q0, q1, q2, q3⟩ | exact k5 | exact k7 | exact k8 | exact k9) (first
            | (go_simp; go_at_call 11; refine KN'.out.mono ?_; rintro e w5 ⟨aa, ca, rfl, hla, ra, b5, d5⟩; have k5 := KEEP.out _ d5; go_wp2_with fail)
            | (go_simp; go_at_call 17; refine (bit_kept k (by omega) W4 _ d5).mono ?_; rintro e w6 ⟨ab, cb, rfl, hlb, rb, b6, d6⟩; have k7 := KEEP.out _ d6; go_wp2_with fail)
            | (go_simp; go_at_call 16; refine (KJ.out aa ab ca cb w6 hla hlb (ra w6 b6) (rb w6 (Below.refl _ _))).mono ?_; rintro e w7 ⟨nj, vj, Rj, rfl, own7, b7, hpj, hbits, hRl⟩; obtain ⟨aj, cj, rfl, hle7, hcm7, hrd7, hlt7⟩ := own7.parts; have d7 := below_trans d6 b7; have k8 := KEEP.out _ d7; clear hlt7; go_wp2_with fail)
            | (go_simp; go_at_call 19; refine (is_yes nn nj a3 aj nR c3 Rj cj (dig BW R) w7 (by omega) hle7 ?_ (F4.out.2.1.2.2.below d7) hrd7 (setIs F4.out.2.2.1 F4.out.2.2.2 hbits hpj).1).mono ?_; (exact Nat.le_trans (setIs F4.out.2.2.1 F4.out.2.2.2 hbits hpj).2 (by omega)); rintro e w8 ⟨rfl, b8⟩; have d8 := below_trans d7 b8; have k9 := KEEP.out _ d8; go_wp2_with fail))
          have DD := Lib.hid (below_trans F4.out.1.1 d8)
          clear own7 hrd7 hbits hRl k5 k7 k8 k9
          go_wp2
          go_ret
          exact ⟨rfl, DD.out⟩
      · have hgt : decide ((1 : Int) < (b : Int)) = true := by simp; omega
        have B3 := Lib.hid (fun v : Array Value => S3.1.alloc S3.1.size (.cells v 24))
        clear own hrd3 hlt3 S3 KI' bel3
        go_wp2
        go_ret
        exact ⟨rfl, B3.out _⟩
  · rw [show decide (n ≤ 2147483647) = false by simp; omega] at KF
    go_enter Tryd.func5, Tryd.ntmps5
    go_wp2_with fail
    refine KF.out.mono ?_
    rw [← HW.out]
    rintro e w1 ⟨rfl, bel1⟩
    have F1 := Lib.hid (below_trans F0.out.1 bel1)
    clear bel1 KF
    go_wp2
    go_ret
    exact ⟨rfl, F1.out⟩

end Go.Proofs.YtidifjmjbfhpaaaDoor
