/- (nat).bytes: the bytes of a number into a row of zeros, the highest first; or a panic where it doesn't fit. -/
import Derived.Test.YtidifjmjbfhpaaaBase
import Derived.Test.YtidifjmjbfhpaaaInfo
namespace Go.Proofs.Ytidifjmjbfhpaaa
set_option linter.unusedVariables false
set_option linter.unusedSimpArgs false
open Go.RowKit

/-- A row of N bytes behind t of the lowest ones. -/
def bpart (V N t : Nat) : Nat → Nat := fun i => if N - 1 - i < t ∧ i < N then dig 256 V (N - 1 - i) else 0

theorem bpart_step (V N t : Nat) (h : t < N) (i : Nat) : upd (bpart V N t) (N - 1 - t) (dig 256 V t) i = bpart V N (t + 1) i := by
  unfold upd bpart
  by_cases e : i = N - 1 - t
  · subst e
    rw [if_pos rfl, if_pos (by omega)]
    congr 1; omega
  · rw [if_neg e]
    by_cases h2 : N - 1 - i < t ∧ i < N
    · rw [if_pos h2, if_pos (by omega)]
    · rw [if_neg h2, if_neg (by omega)]
theorem bpart_full (V N t : Nat) (h : N ≤ t) (i : Nat) : bpart V N (t + 1) i = bpart V N t i := by
  unfold bpart
  by_cases h2 : N - 1 - i < t ∧ i < N
  · rw [if_pos h2, if_pos (by omega)]
  · rw [if_neg h2, if_neg (by omega)]

/-- Byte j of word k. -/
theorem byte_of_word (V k j : Nat) (hj : j < 8) : dig BW V k / 256 ^ j % 256 = dig 256 V (8 * k + j) := by
  unfold dig
  have e : BW = 256 ^ 8 := rfl
  rw [e, ← Nat.pow_mul]
  have e2 : (256 : Nat) ^ 8 = 256 ^ j * (256 * 256 ^ (7 - j)) := by
    rw [← Nat.pow_succ', ← Nat.pow_add]; congr 1; omega
  rw [e2, Nat.mod_mul_right_div_self, Nat.mod_mul_right_mod, Nat.div_div_eq_div_mul, ← Nat.pow_add]

/-- What fits has no byte beyond; what doesn't has one. -/
theorem dig_beyond {V N : Nat} (h : V < 256 ^ N) (t : Nat) (ht : N ≤ t) : dig 256 V t = 0 :=
  dig_of_lt (Nat.lt_of_lt_of_le h (Nat.pow_le_pow_right (by omega) ht))
theorem fits_of_zeros {V N m : Nat} (hV : V < BW ^ m) (h : ∀ t, N ≤ t → t < 8 * m → dig 256 V t = 0) : V < 256 ^ N := by
  rw [← nlen_le_iff (by omega)]
  have h1 : nlen 256 V ≤ 8 * m := by
    rw [nlen_le_iff (by omega), Nat.pow_mul]; exact hV
  have h2 : V = val 256 (dig 256 V) (8 * m) := by
    rw [val_of_dig (by omega), Nat.mod_eq_of_lt]; rw [Nat.pow_mul]; exact hV
  rw [nlen_le_iff (by omega)]
  by_cases e : N ≤ 8 * m
  · rw [h2, val_drop e h]; exact val_lt fun i _ => dig_lt (by omega) V i
  · exact Nat.lt_of_lt_of_le (by rw [Nat.pow_mul]; exact hV) (Nat.pow_le_pow_right (by omega) (Nat.le_of_lt (Nat.lt_of_not_le e)))

def BytesPost (w : World) (base g N c V : Nat) (e : Ending) (w' : World) : Prop :=
  (V < 256 ^ N ∧ e = .returned (.int .i64 ((N - nlen 256 V : Nat) : Int)) ∧ Own w' base 5 .u8 (.slice (some ⟨g, 0, none⟩) N c) N (fun i => dig 256 V (N - 1 - i)) ∧ w.grownBy w' (some g)) ∨
  (256 ^ N ≤ V ∧ (∃ T x, e = .panicked [{ v := .iface T x, recovered := false }]) ∧ w.grownBy w' (some g))

set_option maxHeartbeats 2000000 in
theorem natBytes_any (az : Option Addr) (m cz V base g N c : Nat) (w : World) (hz : m ≤ cz) (hm : m ≤ 2147483647) (hN : N ≤ 2147483647) (hV : V < BW ^ m)
    (hrd : Reads w .u64 az m (dig BW V)) (hne : ∀ a, az = some a → a.block ≠ g) (own : Own w base 5 .u8 (.slice (some ⟨g, 0, none⟩) N c) N (fun _ => 0)) :
    Calls Try.prog 33 #[.slice az m cz, .slice (some ⟨g, 0, none⟩) N c] w (BytesPost w base g N c V) := by
  have own0 : Own w base 5 .u8 (.slice (some ⟨g, 0, none⟩) N c) N (bpart V N 0) := own.congr fun i _ => by unfold bpart; rw [if_neg (by omega)]
  have O0 := Lib.hid own0
  clear own own0
  go_enter Try.func33, Try.ntmps33
  go_wp2
  go_loopw [4, 12] (fun ti tk wr => ∃ k : Nat, k ≤ m ∧ tk = .int .i64 k ∧ ti = .int .i64 ((N : Int) - 8 * (k : Int)) ∧ Own wr base 5 .u8 (.slice (some ⟨g, 0, none⟩) N c) N (bpart V N (8 * k)) ∧ w.grownBy wr (some g) ∧ ∀ t, N ≤ t → t < 8 * k → dig 256 V t = 0) (fun _ tk _ => m - (intOf tk).toNat)
  case atStart => exact ⟨0, Nat.zero_le _, rfl, by simp, O0.out, World.grownBy.refl _ _, fun t h1 h2 => by omega⟩
  case round =>
    obtain ⟨k, hk, rfl, rfl, own, gr, hzs⟩ := hrel
    by_cases hlt : k < m
    · obtain ⟨b, o, rfl, hc0⟩ := hrd k hlt
      have hcell := gr.cell hc0 (by intro h; exact hne _ rfl (by simpa using h))
      obtain ⟨x, hx⟩ : ∃ x, x = dig BW V k := ⟨_, rfl⟩
      have hx2 : x < 18446744073709551616 := by rw [hx]; exact dig_BW V k
      rw [← hx] at hcell
      have HX := Lib.hid hx
      have OWN := Lib.hid own
      have GR := Lib.hid gr
      have HZ := Lib.hid hzs
      clear own gr hzs hx hc0 hrd hne O0
      obtain ⟨wo, hwo⟩ : ∃ wo : World, wo = wr := ⟨_, rfl⟩
      subst hwo
      go_wp2
      go_loopw [4, 6, 7] (fun ti td tj wr => ∃ j : Nat, j ≤ 8 ∧ tj = .int .i64 j ∧ ti = .int .i64 ((N : Int) - 8 * (k : Int) - (j : Int)) ∧ td = .int .u64 ((x / 256 ^ j : Nat) : Int) ∧ Own wr base 5 .u8 (.slice (some ⟨g, 0, none⟩) N c) N (bpart V N (8 * k + j)) ∧ w.grownBy wr (some g) ∧ ∀ t, N ≤ t → t < 8 * k + j → dig 256 V t = 0) (fun _ _ tj _ => 8 - (intOf tj).toNat)
      case atStart => exact ⟨0, by omega, rfl, by simp, by simp, OWN.out, GR.out, HZ.out⟩
      case round =>
        clear OWN GR HZ
        obtain ⟨j, hj8, rfl, rfl, rfl, own, gr, hzs⟩ := hrel
        by_cases hj : j < 8
        · obtain ⟨y, hy⟩ : ∃ y, y = x / 256 ^ j := ⟨_, rfl⟩
          have hyx : y ≤ x := by rw [hy]; exact Nat.div_le_self _ _
          rw [← hy]
          have HY := Lib.hid hy
          have OWN := Lib.hid own
          have GR := Lib.hid gr
          have HZ := Lib.hid hzs
          clear own gr hzs hy
          have hyd : y % 256 = dig 256 V (8 * k + j) := by rw [HY.out, HX.out]; exact byte_of_word V k j hj
          have hyn : y / 256 = x / 256 ^ (j + 1) := by rw [HY.out, Nat.div_div_eq_div_mul, Nat.pow_succ]
          have HYD := Lib.hid (And.intro hyd hyn)
          clear hyd hyn
          by_cases ht : 8 * k + j < N
          · have hold : wr.cell? ⟨g, N - 8 * k - j - 1, none⟩ = some (.int .u8 (bpart V N (8 * k + j) (N - 8 * k - j - 1) : Nat)) := OWN.out.cell _ (by omega)
            have hfree := OWN.out.free (N - 8 * k - j - 1)
            obtain ⟨z, hz⟩ : ∃ z, z = bpart V N (8 * k + j) (N - 8 * k - j - 1) := ⟨_, rfl⟩
            rw [← hz] at hold
            clear hz
            go_wp2
            go_roundw
            case rel =>
              go_light
              have e : N - 8 * k - j - 1 = N - 1 - (8 * k + j) := by omega
              refine ⟨j + 1, by omega, by go_num, by go_num, ?_, ?_, grown_trans GR.out (grown_setCell _ ⟨g, _, none⟩ _), fun t h1 h2 => HZ.out t h1 (by omega)⟩
              · rw [← HYD.out.2]; go_num
              · have e3 : ((y : Int) % 256) = ((dig 256 V (8 * k + j) : Nat) : Int) := by rw [← HYD.out.1]; omega
                rw [e3, e, show 8 * k + (j + 1) = 8 * k + j + 1 by omega]
                exact (OWN.out.stored _ _).congr fun i _ => bpart_step V N _ ht i
            case measure => simp [intOf]; omega
          · by_cases h0 : y % 256 = 0
            · have hd : ((y : Int) % 256 != 0) = false := by simp; omega
              go_wp2
              go_roundw
              case rel =>
                go_light
                refine ⟨j + 1, by omega, by go_num, by go_num, ?_, ?_, GR.out, fun t h1 h2 => ?_⟩
                · rw [← HYD.out.2]; go_num
                · rw [show 8 * k + (j + 1) = 8 * k + j + 1 by omega]
                  exact OWN.out.congr fun i _ => (bpart_full V N _ (by omega) i).symm
                · by_cases e : t = 8 * k + j
                  · rw [e, ← HYD.out.1]; exact h0
                  · exact HZ.out t h1 (by omega)
              case measure => simp [intOf]; omega
            · have hd : ((y : Int) % 256 != 0) = true := by simp; omega
              have hbig : 256 ^ N ≤ V := by
                refine Nat.le_of_not_lt fun h => h0 ?_
                rw [HYD.out.1]; exact dig_beyond h _ (by omega)
              have HB := Lib.hid hbig
              clear hbig
              go_wp2
              exact ⟨rfl, .inr ⟨HB.out, ⟨_, _, rfl⟩, GR.out⟩⟩
        · obtain rfl : j = 8 := by omega
          have OWN := Lib.hid own
          have GR := Lib.hid gr
          have HZ := Lib.hid hzs
          clear own gr hzs
          go_wp2
          go_roundw
          case rel =>
            go_light
            exact ⟨k + 1, by omega, by go_num, by go_num, OWN.out, GR.out, HZ.out⟩
          case measure => simp [intOf]; omega
    · obtain rfl : k = m := by omega
      have hfit : V < 256 ^ N := fits_of_zeros hV hzs
      have hfull : ∀ i, i < N → bpart V N (8 * k) i = dig 256 V (N - 1 - i) := by
        intro i hi
        unfold bpart
        by_cases h : N - 1 - i < 8 * k
        · rw [if_pos ⟨h, hi⟩]
        · rw [if_neg (by omega)]
          refine (dig_of_lt (Nat.lt_of_lt_of_le (show V < 256 ^ (8 * k) by rw [Nat.pow_mul]; exact hV) (Nat.pow_le_pow_right (by omega) (by omega)))).symm
      have own2 := own.congr hfull
      have hlen : nlen 256 V ≤ N := (nlen_le_iff (by omega) V N).2 hfit
      have HFIT := Lib.hid hfit
      have GR := Lib.hid gr
      have OWN := Lib.hid own2
      have hl8 : nlen 256 V ≤ 8 * k := by rw [nlen_le_iff (by omega), Nat.pow_mul]; exact hV
      obtain ⟨q, hq⟩ : ∃ q, q = N - nlen 256 V := ⟨_, rfl⟩
      have hqN : q ≤ N := by omega
      have hqk : (N : Int) - 8 * (k : Int) ≤ (q : Int) := by omega
      have hzero : ∀ i, i < q → dig 256 V (N - 1 - i) = 0 := fun i hi => dig_beyond (lt_pow_nlen (by omega) V) _ (by omega)
      have hnz : q < N → dig 256 V (N - 1 - q) ≠ 0 := by
        intro h
        have h1 : V ≠ 0 := by
          intro e; have := (nlen_eq_zero (B := 256) (by omega) V).2 e; omega
        have := dig_top (B := 256) (by omega) h1
        rwa [show N - 1 - q = nlen 256 V - 1 by omega]
      have HQ := Lib.hid (And.intro hq (And.intro hzero hnz))
      clear own own2 gr hzs hfull hfit hrd O0 hlen hl8 hq hzero hnz
      rcases Nat.lt_or_ge N (8 * k) with hneg | hneg
      all_goals
        go_wp2
        go_loop [4] (fun ti => ∃ i : Nat, i ≤ q ∧ ti = .int .i64 i) (fun ti => N - (intOf ti).toNat)
        case atStart =>
          first
          | exact ⟨0, by omega, rfl⟩
          | exact ⟨N - 8 * k, by omega, by go_num⟩
        case round =>
          obtain ⟨i, hiq, rfl⟩ := hrel
          by_cases hlt2 : i < N
          · obtain ⟨y, hy⟩ : ∃ y, y = dig 256 V (N - 1 - i) := ⟨_, rfl⟩
            have hcell : wr.cell? ⟨g, i, none⟩ = some (.int .u8 y) := by rw [hy]; exact OWN.out.cell i hlt2
            have HY := Lib.hid hy
            clear hy
            by_cases hiq2 : i < q
            · have hy0 : y = 0 := by rw [HY.out]; exact HQ.out.2.1 i hiq2
              have hd : ((y : Int) == 0) = true := by simp [hy0]
              clear hy0
              go_wp2
              go_round
              case rel => go_light; exact ⟨i + 1, by omega, by go_num⟩
              case measure => simp [intOf]; omega
            · obtain rfl : i = q := by omega
              have hy0 : y ≠ 0 := by rw [HY.out]; exact HQ.out.2.2 hlt2
              have hd : ((y : Int) == 0) = false := by simp; omega
              clear hy0
              go_wp2
              go_ret
              exact .inl ⟨HFIT.out, ret_int (by rw [← HQ.out.1]), OWN.out, GR.out⟩
          · obtain rfl : i = q := by omega
            go_wp2
            go_ret
            exact .inl ⟨HFIT.out, ret_int (by rw [← HQ.out.1]), OWN.out, GR.out⟩

end Go.Proofs.Ytidifjmjbfhpaaa
