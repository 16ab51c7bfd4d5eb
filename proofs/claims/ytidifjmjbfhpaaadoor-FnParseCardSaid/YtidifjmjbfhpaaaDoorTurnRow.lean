/- slices.Reverse of a row of words of the call's own. -/
/- rshVU, (nat).rsh in place, by less than a word. -/
import Derived.Test.YtidifjmjbfhpaaaDoorRow
import Derived.Test.YtidifjmjbfhpaaaDoorRows
import Derived.Test.YtidifjmjbfhpaaaDoorCopyRow
import Derived.BigRegion
import Derived.Test.YtidifjmjbfhpaaaDoorNorm
import Derived.Test.YtidifjmjbfhpaaaDoorRooms
import Derived.Laws.Bits64b
namespace Go.Proofs.YtidifjmjbfhpaaaDoor
set_option linter.unusedVariables false
set_option maxRecDepth 20000
set_option linter.unusedSimpArgs false
open Go.RowKit

/-- f, of whose n places i on either side have changed their ends. -/
def rev (f : Nat → Nat) (n i j : Nat) : Nat := if j < i ∨ (n - i ≤ j ∧ j < n) then f (n - 1 - j) else f j

theorem rev_succ {f : Nat → Nat} {n i k xi xk : Nat} (h : 2 * i + 1 < n) (hk : k = n - 1 - i) (hxi : xi = rev f n i i) (hxk : xk = rev f n i k) (j : Nat) : upd (upd (rev f n i) i xk) k xi j = rev f n (i + 1) j := by
  have e1 : xi = f i := by rw [hxi]; unfold rev; rw [if_neg (by omega)]
  have e2 : xk = f k := by rw [hxk]; unfold rev; rw [if_neg (by omega)]
  by_cases h1 : j = k
  · rw [h1, upd_same, e1]
    unfold rev
    rw [if_pos (by omega), show n - 1 - k = i by omega]
  rw [upd_other _ _ h1]
  by_cases h2 : j = i
  · rw [h2, upd_same, e2, hk]
    unfold rev
    rw [if_pos (by omega)]
  rw [upd_other _ _ h2]
  unfold rev
  by_cases h3 : j < i ∨ (n - i ≤ j ∧ j < n)
  · rw [if_pos h3, if_pos (by omega)]
  · rw [if_neg h3, if_neg (by omega)]

set_option maxHeartbeats 1000000 in
theorem reverse_any (base g n cz : Nat) (f : Nat → Nat) (w : World) (hn : n ≤ 100000000000)
    (own : Own w base 83 .u64 (.slice (some ⟨g, 0, none⟩) n cz) n f) :
    Calls Tryd.prog 97 #[.slice (some ⟨g, 0, none⟩) n cz] w fun e w' => e = .returned (.tuple #[]) ∧ Own w' base 83 .u64 (.slice (some ⟨g, 0, none⟩) n cz) n (fun j => f (n - 1 - j)) ∧ w.grownBy w' (some g) := by
  have O0 := Lib.hid own
  clear own
  go_enter Tryd.func97, Tryd.ntmps97
  go_wp2
  go_loopw [2, 3] (fun ti tj wr => ∃ i : Nat, 2 * i ≤ n ∧ ti = .int .i64 i ∧ tj = .int .i64 ((n : Int) - 1 - i) ∧ Own wr base 83 .u64 (.slice (some ⟨g, 0, none⟩) n cz) n (rev f n i) ∧ w.grownBy wr (some g)) (fun ti _ _ => n - (intOf ti).toNat)
  case atStart =>
    refine ⟨0, by omega, rfl, by simp, O0.out.congr fun j hj => ?_, World.grownBy.refl _ _⟩
    unfold rev
    rw [if_neg (by omega)]
  case round =>
    obtain ⟨i, hin, rfl, rfl, own, gr⟩ := hrel
    by_cases h1 : 2 * i + 1 < n
    · obtain ⟨k, hk⟩ : ∃ k, k = n - 1 - i := ⟨_, rfl⟩
      have ek : (n : Int) - 1 - (i : Int) = (k : Int) := by omega
      have hik : i < k := by omega
      have hkn : k < n := by omega
      have hlt : (i : Int) < (k : Int) := by omega
      have ci := own.cell i (by omega)
      have ck := own.cell k (by omega)
      have fi := own.free i
      have fk := own.free k
      have G := Lib.hid (And.intro own (And.intro gr hk))
      rw [ek]
      clear own gr hk ek
      obtain ⟨xi, hxi⟩ : ∃ x, Hid (x = rev f n i i) := ⟨_, Lib.hid rfl⟩
      obtain ⟨xk, hxk⟩ : ∃ x, Hid (x = rev f n i k) := ⟨_, Lib.hid rfl⟩
      rw [← hxi.out] at ci
      rw [← hxk.out] at ck
      go_wp2
      go_region
      have F := Lib.hid (And.intro hxi.out hxk.out)
      clear hxi hxk
      go_wp2
      go_roundw
      case rel =>
        go_light
        have hk3 := G.out.2.2
        refine ⟨i + 1, by omega, by go_num, by go_num, ?_, ?_⟩
        · exact (((G.out.1.stored i xk).stored k xi).congr fun j _ => rev_succ h1 G.out.2.2 F.out.1 F.out.2 j).drew
        · exact grown_trans (grown_trans (grown_trans G.out.2.1 (grown_setCell _ ⟨g, i, none⟩ _)) (grown_setCell _ ⟨g, k, none⟩ _)) (grown_drewN _ 1 _)
      case measure => simp [intOf]; omega
    · have hge : ((i : Int) < (n : Int) - 1 - (i : Int)) = False := by simp; omega
      have G := Lib.hid (And.intro own gr)
      clear own gr O0
      go_wp2
      refine bodyPost_end (results_none rfl _ _ _) rfl ?_
      refine ⟨rfl, G.out.1.congr fun j hj => ?_, G.out.2⟩
      unfold rev
      by_cases h3 : j < i ∨ (n - i ≤ j ∧ j < n)
      · rw [if_pos h3]
      · rw [if_neg h3, show n - 1 - j = j by omega]

end Go.Proofs.YtidifjmjbfhpaaaDoor
namespace Go.Proofs.YtidifjmjbfhpaaaDoor
set_option linter.unusedVariables false
set_option linter.unusedSimpArgs false
open Go.RowKit

/-- Word j behind a shift to the right. -/
def shw (f : Nat → Nat) (n s j : Nat) : Nat := f j / 2 ^ s + (if j + 1 < n then f (j + 1) % 2 ^ s * 2 ^ (64 - s) else 0)
/-- The row of which i words have been shifted. -/
def shrow (f : Nat → Nat) (n s i j : Nat) : Nat := if j < i then shw f n s j else f j

theorem shr_nat (a s : Nat) : (a : Int) / 2 ^ s = ((a / 2 ^ s : Nat) : Int) := by simp
theorem shl_nat (b s r : Nat) (h : s + r = 64) : IntKind.u64.wrap ((b : Int) * 2 ^ r) = ((b % 2 ^ s * 2 ^ r : Nat) : Int) := by
  have e : (b : Int) * 2 ^ r = ((b * 2 ^ r : Nat) : Int) := by simp
  have e2 : (18446744073709551616 : Nat) = 2 ^ s * 2 ^ r := by rw [← Nat.pow_add, h]
  rw [e, IntKind.wrap_u64]
  have e3 : ((b * 2 ^ r : Nat) : Int) % 18446744073709551616 = ((b * 2 ^ r % 18446744073709551616 : Nat) : Int) := by simp
  rw [e3, e2, Nat.mul_mod_mul_right]
theorem or_shift (a b s r : Nat) (h : s + r = 64) (ha : a < 18446744073709551616) : bits .or .u64 ((a : Int) / 2 ^ s) (IntKind.u64.wrap ((b : Int) * 2 ^ r)) = ((a / 2 ^ s + b % 2 ^ s * 2 ^ r : Nat) : Int) := by
  have e2 : (18446744073709551616 : Nat) = 2 ^ s * 2 ^ r := by rw [← Nat.pow_add, h]
  have hs : 0 < 2 ^ s := Nat.pow_pos (by omega)
  have hr : 0 < 2 ^ r := Nat.pow_pos (by omega)
  have h2 : IntKind.u64.wrap ((b : Int) * 2 ^ r) = IntKind.u64.wrap (((b % 2 ^ s : Nat) : Int) * 2 ^ r) := by
    rw [shl_nat b s r h, shl_nat (b % 2 ^ s) s r h, Nat.mod_mod]
  have hd : a / 2 ^ s < 2 ^ r := by
    rw [e2] at ha
    exact Nat.div_lt_of_lt_mul ha
  have hx : b % 2 ^ s * 2 ^ r < 18446744073709551616 := by
    rw [e2]
    exact Nat.mul_lt_mul_of_pos_right (Nat.mod_lt _ hs) hr
  rw [h2, shr_nat]
  exact or_u64_join _ _ r hd (by omega) hx

theorem rshVUg_any (base g n cz cx s : Nat) (f : Nat → Nat) (w : World) (hn : n ≤ 100000000000) (hn1 : 1 ≤ n) (hs : 1 ≤ s) (hs2 : s ≤ 63) (hcx : n ≤ cx) (hf : ∀ j, f j < BW)
    (own : Own w base 83 .u64 (.slice (some ⟨g, 0, none⟩) n cz) n f) :
    Calls Tryd.prog 105 #[.slice (some ⟨g, 0, none⟩) n cz, .slice (some ⟨g, 0, none⟩) n cx, .int .u64 s] w fun e w' => (∃ v, e = .returned v) ∧ Own w' base 83 .u64 (.slice (some ⟨g, 0, none⟩) n cz) n (shw f n s) ∧ w.grownBy w' (some g) := by
  have O0 := Lib.hid own
  have HF := Lib.hid hf
  have c0 := own.cell 0 (by omega)
  obtain ⟨f0, hf0⟩ : ∃ x, Hid (x = f 0) := ⟨_, Lib.hid rfl⟩
  rw [← hf0.out] at c0
  have hs0 : ((s : Int) == 0) = false := by simp; omega
  have hn0 : ((n : Int) == 0) = false := by simp; omega
  obtain ⟨r, hr⟩ : ∃ r, r = 64 - s := ⟨_, rfl⟩
  have hand1 : bits .and .u64 (s : Int) 63 = (s : Int) := by
    have h := bits_and_u64_nat s 63 (by omega) (by omega)
    rw [Nat.and_two_pow_sub_one_eq_mod s 6, Nat.mod_eq_of_lt (by omega)] at h
    exact h
  have hand2 : bits .and .u64 (r : Int) 63 = (r : Int) := by
    have h := bits_and_u64_nat r 63 (by omega) (by omega)
    rw [Nat.and_two_pow_sub_one_eq_mod r 6, Nat.mod_eq_of_lt (by omega)] at h
    exact h
  have hsub : (64 : Int) - (s : Int) = (r : Int) := by omega
  have HR := Lib.hid hr
  clear own hf hr
  go_enter Tryd.func105, Tryd.ntmps105
  go_wp2
  go_loopw [8] (fun ti wr => ∃ k : Nat, k + 1 ≤ n ∧ ti = .int .i64 ((k : Int) + 1) ∧ Own wr base 83 .u64 (.slice (some ⟨g, 0, none⟩) n cz) n (shrow f n s k) ∧ w.grownBy wr (some g)) (fun ti _ => n - (intOf ti).toNat)
  case atStart =>
    refine ⟨0, by omega, by simp, O0.out.congr fun j hj => ?_, World.grownBy.refl _ _⟩
    unfold shrow
    rw [if_neg (by omega)]
  case round =>
    obtain ⟨k, hk, rfl, own, gr⟩ := hrel
    by_cases h1 : k + 1 < n
    · have ci := own.cell k (by omega)
      have ck := own.cell (k + 1) (by omega)
      have e1 : shrow f n s k k = f k := by unfold shrow; rw [if_neg (Nat.lt_irrefl k)]
      have e2 : shrow f n s k (k + 1) = f (k + 1) := by unfold shrow; rw [if_neg (by omega)]
      rw [e1] at ci
      rw [e2] at ck
      have fi := own.free k
      have hal := HF.out k
      have hbl := HF.out (k + 1)
      obtain ⟨a, ha⟩ : ∃ x, Hid (x = f k) := ⟨_, Lib.hid rfl⟩
      obtain ⟨b, hb⟩ : ∃ x, Hid (x = f (k + 1)) := ⟨_, Lib.hid rfl⟩
      rw [← ha.out] at ci hal
      rw [← hb.out] at ck hbl
      rw [BW_eq] at hal hbl
      have hlt : (k : Int) + 1 < (n : Int) := by omega
      obtain ⟨y, hy⟩ : ∃ y, Hid (y = shw f n s k) := ⟨_, Lib.hid rfl⟩
      have hor : bits .or .u64 ((a : Int) / 2 ^ s) (IntKind.u64.wrap ((b : Int) * 2 ^ r)) = (y : Int) := by
        have hrr := HR.out
        rw [or_shift a b s r (by omega) hal, hy.out]
        unfold shw
        rw [if_pos h1, ha.out, hb.out, hrr]
      have G := Lib.hid (And.intro own gr)
      clear own gr e1 e2 O0
      go_wp2
      go_region
      go_wp2
      go_roundw
      case rel =>
        go_light
        refine ⟨k + 1, by omega, by go_num, ?_, grown_trans (grown_trans G.out.2 (grown_setCell _ ⟨g, k, none⟩ _)) (grown_drewN _ 1 _)⟩
        exact ((G.out.1.stored k y).congr fun j _ => by
          unfold upd shrow
          by_cases hj : j = k
          · rw [if_pos hj, if_pos (by omega), hj, hy.out]
          · rw [if_neg hj]
            by_cases hj2 : j < k
            · rw [if_pos hj2, if_pos (by omega)]
            · rw [if_neg hj2, if_neg (by omega)]).drew
      case measure => simp [intOf]; omega
    · obtain ⟨m, rfl⟩ : ∃ m, n = m + 1 := ⟨n - 1, by omega⟩
      obtain rfl : k = m := by omega
      have ci := own.cell k (by omega)
      have e1 : shrow f (k + 1) s k k = f k := by unfold shrow; rw [if_neg (Nat.lt_irrefl k)]
      rw [e1] at ci
      have fi := own.free k
      have hal := HF.out k
      obtain ⟨a, ha⟩ : ∃ x, Hid (x = f k) := ⟨_, Lib.hid rfl⟩
      rw [← ha.out] at ci hal
      rw [BW_eq] at hal
      obtain ⟨y, hy⟩ : ∃ y, Hid (y = shw f (k + 1) s k) := ⟨_, Lib.hid rfl⟩
      have hsh : (a : Int) / 2 ^ s = (y : Int) := by
        rw [shr_nat, hy.out]
        unfold shw
        rw [if_neg (Nat.lt_irrefl _), ha.out, Nat.add_zero]
      have G := Lib.hid (And.intro own gr)
      clear own gr e1 O0
      go_wp2
      go_ret
      refine ⟨⟨_, rfl⟩, ?_, grown_trans G.out.2 (grown_setCell _ ⟨g, k, none⟩ _)⟩
      exact (G.out.1.stored k y).congr fun j hj => by
        unfold upd shrow
        by_cases hjk : j = k
        · rw [if_pos hjk, hjk, hy.out]
        · rw [if_neg hjk, if_pos (by omega)]

theorem rshVU_any (base g n cz cx s : Nat) (f : Nat → Nat) (w : World) (hn : n ≤ 100000000000) (hn1 : 1 ≤ n) (hs : 1 ≤ s) (hs2 : s ≤ 63) (hcx : n ≤ cx) (hf : ∀ j, f j < BW)
    (own : Own w base 83 .u64 (.slice (some ⟨g, 0, none⟩) n cz) n f) :
    Calls Tryd.prog 103 #[.slice (some ⟨g, 0, none⟩) n cz, .slice (some ⟨g, 0, none⟩) n cx, .int .u64 s] w fun e w' => (∃ v, e = .returned v) ∧ Own w' base 83 .u64 (.slice (some ⟨g, 0, none⟩) n cz) n (shw f n s) ∧ w.grownBy w' (some g) := by
  have K := Lib.hid (rshVUg_any base g n cz cx s f w hn hn1 hs hs2 hcx hf own)
  clear own hf
  go_enter Tryd.func103, Tryd.ntmps103
  go_wp2_with fail
  refine K.out.mono ?_
  rintro e w' ⟨⟨v, rfl⟩, h1, h2⟩
  have G := Lib.hid (And.intro h1 h2)
  clear h1 h2 K
  go_wp2
  go_ret
  exact ⟨⟨_, rfl⟩, G.out.1, G.out.2⟩

theorem shw_dig (V n s j : Nat) (hs2 : s ≤ 63) (hV : V < BW ^ n) : shw (dig BW V) n s j = dig BW (V / 2 ^ s) j := by
  have e2 : BW = 2 ^ s * 2 ^ (64 - s) := by rw [← Nat.pow_add, show s + (64 - s) = 64 by omega]; rfl
  have hs : 0 < 2 ^ s := Nat.pow_pos (by omega)
  have hr : 0 < 2 ^ (64 - s) := Nat.pow_pos (by omega)
  have h1 : shw (dig BW V) n s j = dig BW V j / 2 ^ s + dig BW V (j + 1) % 2 ^ s * 2 ^ (64 - s) := by
    unfold shw
    split
    · rfl
    · rw [dig_of_lt (i := j + 1) (Nat.lt_of_lt_of_le hV (Nat.pow_le_pow_right BW_pos (by omega)))]
      simp
  rw [h1]
  show V / BW ^ j % BW / 2 ^ s + V / BW ^ (j + 1) % BW % 2 ^ s * 2 ^ (64 - s) = V / 2 ^ s / BW ^ j % BW
  rw [Nat.div_div_eq_div_mul V (2 ^ s), Nat.mul_comm (2 ^ s), ← Nat.div_div_eq_div_mul, Nat.pow_succ, ← Nat.div_div_eq_div_mul]
  generalize V / BW ^ j = A
  rw [e2]
  generalize 2 ^ s = p at *
  generalize 2 ^ (64 - s) = q at *
  have ha : A % (p * q) / p = A / p % q := by rw [Nat.mod_mul_right_div_self]
  rw [ha, Nat.mod_mul_right_mod, ← Nat.div_div_eq_div_mul, Nat.mul_comm p q, Nat.mod_mul, Nat.mul_comm q]

theorem rsh_any (base g m c s V : Nat) (w : World) (hm : m = nlen BW V) (hmb : m ≤ 1000000000) (hmc : m ≤ c) (hc : c ≤ 9223372036854775807) (hs : 1 ≤ s) (hs2 : s ≤ 63)
    (own : Own w base 83 .u64 (.slice (some ⟨g, 0, none⟩) m c) m (dig BW V)) :
    Calls Tryd.prog 98 #[.slice (some ⟨g, 0, none⟩) m c, .slice (some ⟨g, 0, none⟩) m c, .int .u64 s] w fun e w' => ∃ v, e = .returned v ∧ Own w' base 83 .u64 v (nlen BW (V / 2 ^ s)) (dig BW (V / 2 ^ s)) ∧ w.grownBy w' (some g) := by
  have hs0 : ((s : Int) == 0) = false := by simp; omega
  have hq : (s : Int) / 64 = 0 := by omega
  have hr : (s : Int) % 64 = (s : Int) := by omega
  by_cases h0 : m = 0
  · have hV : V = 0 := (nlen_eq_zero BW_one V).1 (by omega)
    subst hV
    subst h0
    have hz : nlen BW (0 / 2 ^ s) = 0 := by rw [Nat.zero_div]; exact (nlen_eq_zero BW_one 0).2 rfl
    have G := Lib.hid (And.intro own hz)
    clear own hz hm
    go_enter Tryd.func98, Tryd.ntmps98
    go_wp2
    go_ret
    refine ⟨_, rfl, ?_, World.grownBy.refl _ _⟩
    rw [G.out.2]
    exact G.out.1.congr fun j hj => absurd hj (Nat.not_lt_zero j)
  · have hVl := lt_pow_nlen BW_one V
    rw [← hm] at hVl
    have hle : ((m : Int) ≤ 0) = False := by simp; omega
    have KM := Lib.hid (make_reuse g m c m w hmc hc)
    have KR := Lib.hid (rshVU_any base g m c c s (dig BW V) w (by omega) (by omega) hs hs2 hmc (fun j => dig_lt BW_pos V j) own)
    have HV := Lib.hid hVl
    clear own hVl hm
    go_enter Tryd.func98, Tryd.ntmps98
    go_wp2_with fail
    refine KM.out.mono ?_
    rintro e w1 ⟨rfl, rfl⟩
    go_wp2_with fail
    refine KR.out.mono ?_
    rintro e w1 ⟨⟨v, rfl⟩, own1, gr1⟩
    have own2 : Own w1 base 83 .u64 (.slice (some ⟨g, 0, none⟩) m c) m (dig BW (V / 2 ^ s)) := own1.congr fun j _ => shw_dig V m s j hs2 HV.out
    have KN := Lib.hid (norm_any (some ⟨g, 0, none⟩) m c _ w1 hmc (by omega) (Reads.of_own own2))
    have F := Lib.hid (And.intro own2 gr1)
    clear own1 own2 gr1 KM KR
    go_wp2_with fail
    refine KN.out.mono ?_
    rintro e w2 ⟨rfl, rfl⟩
    go_wp2
    go_ret
    refine ⟨_, rfl, ?_, F.out.2⟩
    have hlen : clen (dig BW (V / 2 ^ s)) m = nlen BW (V / 2 ^ s) := by
      rw [clen_val BW_one (fun j _ => dig_lt BW_pos _ _), val_of_dig BW_pos, Nat.mod_eq_of_lt (Nat.lt_of_le_of_lt (Nat.div_le_self _ _) HV.out)]
    have hcl := clen_le (dig BW (V / 2 ^ s)) m
    rw [← hlen]
    exact F.out.1.cut hcl

end Go.Proofs.YtidifjmjbfhpaaaDoor
