/- spec.Has, spec.Len, spec.Cmp: a bit of a number, how many bits it has, two numbers compared. -/
import Derived.Test.YtidifjmjbfhpaaaDoorBase
import Derived.Test.YtidifjmjbfhpaaaDoorInfo
namespace Go.Proofs.YtidifjmjbfhpaaaDoor
set_option linter.unusedVariables false
set_option maxRecDepth 20000
set_option linter.unusedSimpArgs false
open Go.RowKit

theorem bit_of_dig (V i : Nat) : (dig 65536 V (i / 16) / 2 ^ (i % 16) % 2 = 1) ↔ V.testBit i = true := by
  have e : dig 65536 V (i / 16) / 2 ^ (i % 16) % 2 = V / 2 ^ i % 2 := by
    unfold dig
    have e1 : (65536 : Nat) ^ (i / 16) = 2 ^ (16 * (i / 16)) := by rw [Nat.pow_mul]
    have e2 : (65536 : Nat) = 2 ^ (i % 16) * (2 * 2 ^ (15 - i % 16)) := by
      rw [← Nat.pow_succ', ← Nat.pow_add, show i % 16 + (15 - i % 16 + 1) = 16 by omega]
    have e3 : ∀ x : Nat, x % 65536 / 2 ^ (i % 16) % 2 = x / 2 ^ (i % 16) % 2 := by
      intro x
      rw [e2, Nat.mod_mul_right_div_self, Nat.mod_mul_right_mod]
    rw [e3, e1, Nat.div_div_eq_div_mul, ← Nat.pow_add, show 16 * (i / 16) + i % 16 = i by omega]
  rw [e, Nat.testBit_eq_decide_div_mod_eq]
  simp

theorem bit_high {V i : Nat} (h : nlen 65536 V ≤ i / 16) : V.testBit i = false := by
  have h1 := lt_pow_nlen (B := 65536) (by omega) V
  refine Nat.testBit_lt_two_pow (Nat.lt_of_lt_of_le h1 ?_)
  have e : (65536 : Nat) ^ nlen 65536 V = 2 ^ (16 * nlen 65536 V) := by rw [Nat.pow_mul]
  rw [e]
  exact Nat.pow_le_pow_right (by omega) (by omega)

theorem and_one_i64 (d i : Nat) (hd : d < 65536) : bits .and .i64 ((d : Int) / 2 ^ i) 1 = ((d / 2 ^ i % 2 : Nat) : Int) := by
  have h1 : ((d : Int) / 2 ^ i) = ((d / 2 ^ i : Nat) : Int) := by rw [Int.natCast_ediv, Int.natCast_pow]; rfl
  have h2 : d / 2 ^ i ≤ d := Nat.div_le_self _ _
  rw [h1]
  generalize d / 2 ^ i = q at *
  have := bits_mask .i64 63 (by decide) (fun n h0 h1 => by rw [IntKind.wrap_i64]; omega) 1 (by omega) (q : Int) (by omega) (by omega)
  simp at this ⊢
  exact this

theorem has_any (aa : Option Addr) (V ca i : Nat) (w : World) (hn : nlen 65536 V ≤ ca) (hb : nlen 65536 V ≤ 4000000000000000000) (hi : i ≤ 4000000000000000000) (hrd : Reads w .i64 aa (nlen 65536 V) (dig 65536 V)) :
    Calls Tryd.prog 14 #[.slice aa (nlen 65536 V) ca, .int .i64 i] w fun e w' => e = .returned (.bool (V.testBit i)) ∧ w = w' := by
  obtain ⟨n, hnn⟩ : ∃ n, n = nlen 65536 V := ⟨_, rfl⟩
  rw [← hnn] at hn hb hrd ⊢
  obtain ⟨r, hr⟩ : ∃ r, r = V.testBit i := ⟨_, rfl⟩
  rw [← hr]
  by_cases h : i / 16 < n
  · obtain ⟨b, o, rfl, hcell⟩ := hrd (i / 16) h
    have hd := dig_lt (B := 65536) (by omega) V (i / 16)
    have hbit := bit_of_dig V i
    obtain ⟨d, hdd⟩ : ∃ d, d = dig 65536 V (i / 16) := ⟨_, rfl⟩
    rw [← hdd] at hcell hd hbit
    have hand := and_one_i64 d (i % 16) hd
    obtain ⟨x, hx⟩ : ∃ x, x = d / 2 ^ (i % 16) % 2 := ⟨_, rfl⟩
    rw [← hx] at hand hbit
    have hx2 : ((x : Int) == 1) = r := by
      rw [hr]
      by_cases hx1 : x = 1
      · rw [hbit.1 hx1, hx1]; rfl
      · have : V.testBit i = false := by
          cases hv : V.testBit i
          · rfl
          · exact absurd (hbit.2 hv) hx1
        rw [this]; simp; omega
    clear hx hbit hr hdd hrd hnn
    go_enter Tryd.func14, Tryd.ntmps14
    go_wp2
    go_ret
    exact ⟨rfl, rfl⟩
  · have hz : r = false := by rw [hr]; exact bit_high (by omega)
    subst hz
    clear hr hnn hrd
    have hlt : ¬ ((i : Int) / 16) < (n : Int) := by omega
    go_enter Tryd.func14, Tryd.ntmps14
    go_wp2
    go_ret
    exact ⟨rfl, rfl⟩

/-- A number below two to the n+1 whose bit n is not set is below two to the n. -/
theorem lt_of_bit {V n : Nat} (h : V < 2 ^ (n + 1)) (hb : V.testBit n = false) : V < 2 ^ n := by
  refine Nat.lt_of_not_le fun hge => ?_
  have h1 : V / 2 ^ n = 1 := by
    have h2 : V / 2 ^ n < 2 := Nat.div_lt_of_lt_mul (by rw [← Nat.pow_succ]; exact h)
    have h3 : 1 ≤ V / 2 ^ n := (Nat.le_div_iff_mul_le (Nat.two_pow_pos n)).2 (by omega)
    omega
  rw [Nat.testBit_eq_decide_div_mod_eq, h1] at hb
  simp at hb
theorem bit_top {V n : Nat} (h : nlen 2 V = n + 1) : V.testBit n = true := by
  cases hv : V.testBit n
  · have h1 : V < 2 ^ (n + 1) := by rw [← h]; exact lt_pow_nlen (by omega) V
    have := (nlen_le_iff (B := 2) (by omega) V n).2 (lt_of_bit h1 hv)
    omega
  · rfl

theorem len_any (aa : Option Addr) (V ca : Nat) (w : World) (hn : nlen 65536 V ≤ ca) (hb : nlen 65536 V ≤ 100000000000000000) (hrd : Reads w .i64 aa (nlen 65536 V) (dig 65536 V)) :
    Calls Tryd.prog 33 #[.slice aa (nlen 65536 V) ca] w fun e w' => e = .returned (.int .i64 ((nlen 2 V : Nat) : Int)) ∧ w = w' := by
  have hnot : ∀ (x : Bool) (w : World), (Op.unary .not (.bool x)).run Tryd.prog w = .ok (.bool (!x)) w := fun _ _ => rfl
  have hle : nlen 2 V ≤ 16 * nlen 65536 V := by
    have h := nlen_pow (B := 2) (by omega) 16 (by omega) V (nlen 65536 V)
    rw [show (2 : Nat) ^ 16 = 65536 from rfl] at h
    exact h.1 (Nat.le_refl _)
  obtain ⟨m, hm⟩ : ∃ m, m = nlen 2 V := ⟨_, rfl⟩
  have K : ∀ i : Nat, i ≤ 4000000000000000000 → Calls Tryd.prog 14 #[.slice aa (nlen 65536 V) ca, .int .i64 i] w fun e w' => e = .returned (.bool (V.testBit i)) ∧ w = w' := fun i hi => has_any aa V ca i w hn (by omega) hi hrd
  obtain ⟨n, hnn⟩ : ∃ n, n = nlen 65536 V := ⟨_, rfl⟩
  rw [← hm] at hle ⊢
  rw [← hnn] at hn hb K hle ⊢
  have HM := Lib.hid hm
  have KK := Lib.hid K
  clear hrd hm hnn K
  go_enter Tryd.func33, Tryd.ntmps33
  go_wp2
  go_loop [3] (fun t => ∃ k : Nat, k ≤ 16 * n ∧ m ≤ k ∧ t = .int .i64 k) (fun t => (intOf t).toNat)
  case atStart => exact ⟨16 * n, Nat.le_refl _, hle, by go_num⟩
  case round =>
    obtain ⟨k, hk, hmk, rfl⟩ := hrel
    cases k with
    | zero =>
      have hm0 : m = 0 := by omega
      subst hm0
      go_wp2
      go_ret
      exact ⟨rfl, rfl⟩
    | succ k =>
      go_wp2_with fail
      refine (KK.out k (by omega)).mono ?_
      rintro e w' ⟨rfl, rfl⟩
      cases hb : V.testBit k with
      | false =>
        have hmk2 : m ≤ k := by
          rw [HM.out]
          refine (nlen_le_iff (by omega) V k).2 (lt_of_bit ?_ hb)
          exact (nlen_le_iff (by omega) V (k + 1)).1 (by rw [← HM.out]; exact hmk)
        clear hb
        go_wp2
        go_round
        case rel => exact ⟨k, by omega, hmk2, by go_num⟩
        case measure => simp [intOf]
      | true =>
        have hmk2 : m = k + 1 := by
          have h1 : ¬ m ≤ k := by
            intro h
            rw [HM.out, nlen_le_iff (by omega)] at h
            rw [Nat.testBit_lt_two_pow h] at hb
            cases hb
          omega
        subst hmk2
        clear hb
        go_wp2
        go_ret
        exact ⟨rfl, rfl⟩

/-- Two rows of digits compared from the top. -/
theorem cmp_top {B : Nat} {V U n i : Nat} (hB : 0 < B) (h : ∀ j, i < j → j < n → dig B V j = dig B U j) (hi : i < n) (hV : V < B ^ n) (hU : U < B ^ n) (hd : dig B V i < dig B U i) : V < U := by
  have e : ∀ X, X < B ^ n → X / B ^ (i + 1) = val B (fun t => dig B X (i + 1 + t)) (n - (i + 1)) := by
    intro X hX
    have h1 : (fun t => dig B X (i + 1 + t)) = dig B (X / B ^ (i + 1)) := by
      funext t; unfold dig; rw [Nat.pow_add, Nat.div_div_eq_div_mul]
    rw [h1, val_of_dig hB, Nat.mod_eq_of_lt]
    refine Nat.div_lt_of_lt_mul ?_
    rw [← Nat.pow_add, show i + 1 + (n - (i + 1)) = n by omega]; exact hX
  have e1 : V / B ^ (i + 1) = U / B ^ (i + 1) := by
    rw [e V hV, e U hU]
    exact val_congr fun t ht => h _ (by omega) (by omega)
  have hp : 0 < B ^ i := Nat.pow_pos hB
  have a1 : V / B ^ i = B * (V / B ^ (i + 1)) + dig B V i := by
    unfold dig; rw [Nat.pow_succ, ← Nat.div_div_eq_div_mul]; exact (Nat.div_add_mod _ _).symm
  have a2 : U / B ^ i = B * (U / B ^ (i + 1)) + dig B U i := by
    unfold dig; rw [Nat.pow_succ, ← Nat.div_div_eq_div_mul]; exact (Nat.div_add_mod _ _).symm
  have a3 : V / B ^ i < U / B ^ i := by rw [a1, a2, e1]; omega
  refine Nat.lt_of_not_le fun hge => ?_
  have := Nat.div_le_div_right (c := B ^ i) hge
  omega

/-- spec.Cmp: below 0, 0, or above 0. -/
theorem cmp_any (aa ab : Option Addr) (V U ca cb : Nat) (w : World) (hna : nlen 65536 V ≤ ca) (hba : nlen 65536 V ≤ 100000000000000000) (hnb : nlen 65536 U ≤ cb) (hbb : nlen 65536 U ≤ 100000000000000000)
    (ha : Reads w .i64 aa (nlen 65536 V) (dig 65536 V)) (hb : Reads w .i64 ab (nlen 65536 U) (dig 65536 U)) :
    Calls Tryd.prog 25 #[.slice aa (nlen 65536 V) ca, .slice ab (nlen 65536 U) cb] w fun e w' => ∃ r : Int, e = .returned (.int .i64 r) ∧ (r = 0 ↔ V = U) ∧ (0 ≤ r ↔ U ≤ V) ∧ ∃ q, w' = w.drewN q := by
  have hlt : nlen 65536 V < nlen 65536 U → V < U := fun h => Nat.lt_of_not_le fun hge => by have := nlen_mono (B := 65536) (by omega) hge; omega
  have hgt : nlen 65536 U < nlen 65536 V → U < V := fun h => Nat.lt_of_not_le fun hge => by have := nlen_mono (B := 65536) (by omega) hge; omega
  obtain ⟨n, hn⟩ : ∃ n, n = nlen 65536 V := ⟨_, rfl⟩
  obtain ⟨m, hm⟩ : ∃ m, m = nlen 65536 U := ⟨_, rfl⟩
  rw [← hn, ← hm] at hlt hgt
  rw [← hn] at ha hna hba ⊢
  rw [← hm] at hb hnb hbb ⊢
  have HN := Lib.hid (And.intro hn hm)
  clear hn hm
  by_cases hnm : n = m
  · subst hnm
    have hd : ((n : Int) != (n : Int)) = false := by simp
    have HA := Lib.hid ha
    have HB := Lib.hid hb
    clear ha hb hlt hgt
    go_enter Tryd.func25, Tryd.ntmps25
    go_wp2
    go_loopw [5] (fun t wr => ∃ i q : Nat, i ≤ n ∧ t = .int .i64 ((i : Int) - 1) ∧ wr = w.drewN q ∧ ∀ j, i ≤ j → j < n → dig 65536 V j = dig 65536 U j) (fun t _ => (intOf t + 1).toNat)
    case atStart => exact ⟨n, 0, Nat.le_refl _, rfl, rfl, fun j h1 h2 => by omega⟩
    case round =>
      obtain ⟨i, q, hin, rfl, rfl, hall⟩ := hrel
      cases i with
      | zero =>
        have heq : V = U := by
          have h1 := HN.out
          refine eq_of_dig (B := 65536) (by omega) (by rw [← h1.1, ← h1.2]) fun j hj => hall j (Nat.zero_le _) (by rw [h1.1]; exact hj)
        have HE := Lib.hid heq
        clear heq hall
        go_wp2
        go_ret
        exact ⟨0, rfl, ⟨fun _ => HE.out, fun _ => rfl⟩, ⟨fun _ => by rw [HE.out]; exact Nat.le_refl _, fun _ => Int.le_refl _⟩, _, rfl⟩
      | succ i =>
        obtain ⟨b, o, rfl, hca⟩ := HA.out i (by omega)
        obtain ⟨b2, o2, rfl, hcb⟩ := HB.out i (by omega)
        have hda := dig_lt (B := 65536) (by omega) V i
        have hdb := dig_lt (B := 65536) (by omega) U i
        have hin2 : i < n := by omega
        obtain ⟨x, hx⟩ : ∃ x, x = dig 65536 V i := ⟨_, rfl⟩
        obtain ⟨y, hy⟩ : ∃ y, y = dig 65536 U i := ⟨_, rfl⟩
        rw [← hx] at hca hda
        rw [← hy] at hcb hdb
        have HXY := Lib.hid (And.intro hx hy)
        have HALL := Lib.hid hall
        clear hx hy hall
        have hii : ((i : Int) + 1 - 1) = (i : Int) := by omega
        by_cases hxy : x = y
        · have hd2 : ((x : Int) != (y : Int)) = false := by simp [hxy]
          have HE := Lib.hid hxy
          clear hxy
          go_wp2
          go_quiet (fail)
          go_wp2
          go_roundw
          case rel =>
            go_light
            refine ⟨i, _, by omega, by go_num, rfl, fun j h1 h2 => ?_⟩
            by_cases e : j = i
            · rw [e, ← HXY.out.1, ← HXY.out.2]; exact HE.out
            · exact HALL.out j (by omega) h2
          case measure => simp [intOf]
        · have hd2 : ((x : Int) != (y : Int)) = true := by simp; omega
          have hvu : (x < y → V < U) ∧ (y < x → U < V) := by
            have h1 := HN.out
            have hV : V < 65536 ^ n := by rw [h1.1]; exact lt_pow_nlen (by omega) V
            have hU : U < 65536 ^ n := by rw [h1.2]; exact lt_pow_nlen (by omega) U
            have hh : ∀ j, i < j → j < n → dig 65536 V j = dig 65536 U j := fun j h1 h2 => HALL.out j (by omega) h2
            exact ⟨fun h => cmp_top (by omega) hh hin2 hV hU (by rw [← HXY.out.1, ← HXY.out.2]; exact h), fun h => cmp_top (by omega) (fun j h1 h2 => (hh j h1 h2).symm) hin2 hU hV (by rw [← HXY.out.1, ← HXY.out.2]; exact h)⟩
          have HVU := Lib.hid hvu
          clear hvu
          go_wp2
          go_quiet (fail)
          go_wp2
          go_quiet (fail)
          go_wp2
          go_ret
          go_light
          have h1 := HVU.out
          refine ⟨_, rfl, ?_, ?_, _, by rw [World.drewN_drewN, World.drewN_drewN]⟩
          · by_cases hl : x < y
            · have := h1.1 hl; omega
            · have := h1.2 (by omega); omega
          · by_cases hl : x < y
            · have := h1.1 hl; omega
            · have := h1.2 (by omega); omega
  · have hd : ((n : Int) != (m : Int)) = true := by simp; omega
    have HL := Lib.hid (And.intro hlt hgt)
    clear hlt hgt ha hb
    go_enter Tryd.func25, Tryd.ntmps25
    go_wp2
    go_ret
    go_light
    have h1 := HL.out
    refine ⟨_, rfl, ?_, ?_, 0, rfl⟩
    · by_cases hl : n < m
      · have := h1.1 hl; omega
      · have := h1.2 (by omega); omega
    · by_cases hl : n < m
      · have := h1.1 hl; omega
      · have := h1.2 (by omega); omega

end Go.Proofs.YtidifjmjbfhpaaaDoor
