/- maxPow, pow: powers of a word. -/
/- math/bits.Mul64, Mul; mulAddWWW: the product of two words and a word more. -/
/- mulAddVWW: a row of words times a word, and a word more, into a row of the call's own (another row, or in place). -/
/- (nat).setWord, (nat).mulAddWW: z*y + r of a receiver that is x itself. -/
import Derived.Test.YtidifjmjbfhpaaaDoorBase
import Derived.Test.YtidifjmjbfhpaaaDoorRows
import Derived.Test.YtidifjmjbfhpaaaDoorSpecBits
import Derived.Test.YtidifjmjbfhpaaaDoorCarries
import Derived.Lib.Mul64
import Derived.Laws.Bits64b
import Derived.Test.YtidifjmjbfhpaaaDoorNatAdd
namespace Go.Proofs.YtidifjmjbfhpaaaDoor
set_option linter.unusedVariables false
set_option maxRecDepth 20000
set_option linter.unusedSimpArgs false
open Go.RowKit

theorem maxPow_any (b : Nat) (w : World) (h2 : 2 ≤ b) (h3 : b ≤ 1000) :
    Calls Tryd.prog 94 #[.int .u64 b] w fun e w' => (∃ N P : Nat, e = .returned (.tuple #[.int .u64 P, .int .i64 N]) ∧ P = b ^ N ∧ 1 ≤ N ∧ N ≤ 63 ∧ P < BW) ∧ w' = w := by
  have hd : (18446744073709551615 : Int) / (b : Int) = ((18446744073709551615 / b : Nat) : Int) := by simp
  obtain ⟨M, hM⟩ : ∃ M, Hid (M = 18446744073709551615 / b) := ⟨_, Lib.hid rfl⟩
  have hM2 : M * b ≤ 18446744073709551615 := by rw [hM.out]; exact Nat.div_mul_le_self _ _
  have hM3 : M ≤ 18446744073709551615 := by rw [hM.out]; exact Nat.div_le_self _ _
  rw [← hM.out] at hd
  have hb0 : ((b : Int) == 0) = false := by simp; omega
  have hwd : IntKind.u64.wrap (M : Int) = (M : Int) := by rw [IntKind.wrap_u64]; omega
  have HM := Lib.hid hM2
  have HB := Lib.hid h2
  clear hM2
  go_enter Tryd.func94, Tryd.ntmps94
  go_wp2
  go_loop [2, 3] (fun tp tn => ∃ k P : Nat, tp = .int .u64 P ∧ tn = .int .i64 k ∧ P = b ^ k ∧ 1 ≤ k ∧ k ≤ 63 ∧ P < 18446744073709551616) (fun _ tn => 64 - (intOf tn).toNat)
  case atStart => exact ⟨1, b, rfl, rfl, by simp, by omega, by omega, by omega⟩
  case round =>
    obtain ⟨k, P, rfl, rfl, hP, hk, hk2, hPB⟩ := hrel
    have H := Lib.hid hP
    clear hP
    by_cases h : P ≤ M
    · have hm : P * b ≤ 18446744073709551615 := Nat.le_trans (Nat.mul_le_mul_right b h) HM.out
      obtain ⟨R, hR⟩ : ∃ R, Hid (R = P * b) := ⟨_, Lib.hid rfl⟩
      have e1 : (P : Int) * (b : Int) = (R : Int) := by rw [hR.out, Int.natCast_mul]
      rw [← hR.out] at hm
      have hw : IntKind.u64.wrap (R : Int) = (R : Int) := by rw [IntKind.wrap_u64]; omega
      go_wp2
      go_round
      case rel =>
        have hRk : R = b ^ (k + 1) := by rw [hR.out, H.out, Nat.pow_succ]
        refine ⟨k + 1, R, by first | rfl | go_num, by go_num, hRk, by omega, ?_, by omega⟩
        have h5 : 2 ^ (k + 1) ≤ b ^ (k + 1) := Nat.pow_le_pow_left HB.out _
        rw [← hRk] at h5
        refine Nat.le_of_lt_succ ((Nat.pow_lt_pow_iff_right (a := 2) (by omega)).1 (Nat.lt_of_le_of_lt h5 ?_))
        exact Nat.lt_of_le_of_lt hm (by decide)
      case measure => simp [intOf]; omega
    · go_wp2
      go_ret2
      exact ⟨⟨k, P, rfl, H.out, hk, hk2, hPB⟩, rfl⟩

theorem pow_any (x n V : Nat) (w : World) (hx : x < BW) (hn : n ≤ 1000) (hV : V = x ^ n % BW) :
    Calls Tryd.prog 96 #[.int .u64 x, .int .i64 n] w fun e w' => e = .returned (.int .u64 V) ∧ w' = w := by
  have HV := Lib.hid hV
  clear hV
  go_enter Tryd.func96, Tryd.ntmps96
  go_wp2
  go_loop [0, 1, 4] (fun tx tn tp => ∃ X m P : Nat, tx = .int .u64 X ∧ tn = .int .i64 m ∧ tp = .int .u64 P ∧ m ≤ 1000 ∧ X < BW ∧ P < BW ∧ P * X ^ m % BW = x ^ n % BW) (fun _ tn _ => (intOf tn).toNat)
  case atStart => exact ⟨x, n, 1, rfl, rfl, rfl, hn, hx, by rw [BW_eq]; omega, by rw [Nat.one_mul]⟩
  case round =>
    obtain ⟨X, m, P, rfl, rfl, rfl, hm, hX, hP, hI⟩ := hrel
    have H := Lib.hid hI
    clear hI
    rw [BW_eq] at hX hP
    by_cases h0 : m = 0
    · subst h0
      go_wp2
      go_ret
      have := H.out
      rw [Nat.pow_zero, Nat.mul_one, Nat.mod_eq_of_lt (by rw [BW_eq]; exact hP), ← HV.out] at this
      subst this
      exact ⟨rfl, rfl⟩
    · have hgt : ((m : Int) > 0) = True := by simp; omega
      obtain ⟨Y, hY⟩ : ∃ R, Hid (R = X * X % 18446744073709551616) := ⟨_, Lib.hid rfl⟩
      have eY : IntKind.u64.wrap ((X : Int) * (X : Int)) = (Y : Int) := by rw [← Int.natCast_mul, IntKind.wrap_u64, hY.out]; omega
      have hYl : Y < BW := by rw [hY.out, ← BW_eq]; exact Nat.mod_lt _ BW_pos
      have HYl := Lib.hid hYl
      clear hYl
      have hpow : X ^ m = (X * X) ^ (m / 2) * X ^ (m % 2) := by
        rw [← Nat.pow_two, ← Nat.pow_mul, ← Nat.pow_add, Nat.div_add_mod]
      have HP := Lib.hid hpow
      clear hpow
      have hY2 := Lib.hid (show Y = X * X % BW by rw [hY.out, BW_eq])
      have hand0 : bits .and .i64 (m : Int) 1 = ((m % 2 : Nat) : Int) := by have := and_one_i64 m 0 (by omega); simpa using this
      by_cases h1 : m % 2 = 1
      · have hand : bits .and .i64 (m : Int) 1 = 1 := by rw [hand0, h1]; rfl
        obtain ⟨Z, hZ⟩ : ∃ R, Hid (R = P * X % 18446744073709551616) := ⟨_, Lib.hid rfl⟩
        have eZ : IntKind.u64.wrap ((P : Int) * (X : Int)) = (Z : Int) := by rw [← Int.natCast_mul, IntKind.wrap_u64, hZ.out]; omega
        have hZl := Lib.hid (show Z < BW by rw [hZ.out, ← BW_eq]; exact Nat.mod_lt _ BW_pos)
        have hZ2 := Lib.hid (show Z = P * X % BW by rw [hZ.out, BW_eq])
        have h1' := Lib.hid h1
        clear h1 hand0
        go_wp2
        go_round
        case rel =>
          refine ⟨Y, m / 2, Z, rfl, by go_num, rfl, by omega, HYl.out, hZl.out, ?_⟩
          rw [← H.out, HP.out, h1'.out, Nat.pow_one, hZ2.out, hY2.out]
          rw [Nat.mul_mod, Nat.mod_mod, Nat.pow_mod, Nat.mod_mod, ← Nat.pow_mod, ← Nat.mul_mod, Nat.mul_assoc, Nat.mul_comm X]
        case measure => simp [intOf]; omega
      · have hand : bits .and .i64 (m : Int) 1 = 0 := by rw [hand0]; omega
        have h1' := Lib.hid (show m % 2 = 0 by omega)
        clear h1 hand0
        go_wp2
        go_round
        case rel =>
          refine ⟨Y, m / 2, P, rfl, by go_num, rfl, by omega, HYl.out, by rw [BW_eq]; omega, ?_⟩
          rw [← H.out, HP.out, h1'.out, Nat.pow_zero, Nat.mul_one, hY2.out, Nat.mul_mod, Nat.pow_mod, Nat.mod_mod, ← Nat.pow_mod, ← Nat.mul_mod]
        case measure => simp [intOf]; omega

end Go.Proofs.YtidifjmjbfhpaaaDoor
namespace Go.Proofs.YtidifjmjbfhpaaaDoor
set_option linter.unusedVariables false
set_option linter.unusedSimpArgs false
open Go.RowKit

theorem maskN (a : Nat) (ha : a < 18446744073709551616) : bits .and .u64 (a : Int) 4294967295 = ((a % 4294967296 : Nat) : Int) := by
  have h := bits_and_u64_nat a 4294967295 ha (by omega)
  have e : a &&& 4294967295 = a % 4294967296 := Nat.and_two_pow_sub_one_eq_mod a 32
  rw [e] at h
  exact h
theorem divN (a : Nat) : (a : Int) / 4294967296 = ((a / 4294967296 : Nat) : Int) := by omega
theorem mulN (a b : Nat) : (a : Int) * (b : Int) = ((a * b : Nat) : Int) := (Int.natCast_mul a b).symm
theorem addN (a b : Nat) : (a : Int) + (b : Int) = ((a + b : Nat) : Int) := (Int.natCast_add a b).symm
theorem wrapN (a : Nat) (ha : a < 18446744073709551616) : IntKind.u64.wrap (a : Int) = (a : Int) := by rw [IntKind.wrap_u64]; omega
theorem wrapM (a : Nat) : IntKind.u64.wrap (a : Int) = ((a % 18446744073709551616 : Nat) : Int) := by rw [IntKind.wrap_u64]; omega

set_option maxHeartbeats 1000000 in
theorem mul64_any (x y : Nat) (hx : x < 18446744073709551616) (hy : y < 18446744073709551616) (w : World) :
    Calls Tryd.prog 109 #[.int .u64 x, .int .u64 y] w fun e w' => e = .returned (.tuple #[.int .u64 ((x * y / 18446744073709551616 : Nat) : Int), .int .u64 ((x * y % 18446744073709551616 : Nat) : Int)]) ∧ w' = w := by
  obtain ⟨bd, bt, bw, hhi⟩ := Lib.mul64_hi x y hx hy
  have ba := Lib.half_mul_le (a := x / 4294967296) (b := y / 4294967296) (by omega) (by omega)
  have bb := Lib.half_mul_le (a := x / 4294967296) (b := y % 4294967296) (by omega) (by omega)
  have bc := Lib.half_mul_le (a := x % 4294967296) (b := y / 4294967296) (by omega) (by omega)
  have ba' : x / 4294967296 * (y / 4294967296) < 18446744073709551616 := by omega
  have bb' : x / 4294967296 * (y % 4294967296) < 18446744073709551616 := by omega
  have bc' : x % 4294967296 * (y / 4294967296) < 18446744073709551616 := by omega
  have bh1 : x / 4294967296 * (y / 4294967296) + (x / 4294967296 * (y % 4294967296) + x % 4294967296 * (y % 4294967296) / 4294967296) / 4294967296 < 18446744073709551616 := by omega
  have bh : x / 4294967296 * (y / 4294967296) + (x / 4294967296 * (y % 4294967296) + x % 4294967296 * (y % 4294967296) / 4294967296) / 4294967296 + ((x / 4294967296 * (y % 4294967296) + x % 4294967296 * (y % 4294967296) / 4294967296) % 4294967296 + x % 4294967296 * (y / 4294967296)) / 4294967296 < 18446744073709551616 := by omega
  go_enter Tryd.func109, Tryd.ntmps109
  go_wp2
  simp only [maskN x hx, maskN y hy, divN, mulN, addN, wrapN _ bd, wrapN _ bb', wrapN _ bt, maskN _ bt, wrapN _ bc', wrapN _ bw, wrapN _ ba', wrapN _ bh1, wrapN _ bh, wrapM (x * y)]
  rw [hhi]
  go_ret2
  exact ⟨rfl, rfl⟩

theorem bitsMul_any (x y h l : Nat) (hx : x < BW) (hy : y < BW) (hh : h = x * y / BW) (hl : l = x * y % BW) (w : World) :
    Calls Tryd.prog 107 #[.int .u64 x, .int .u64 y] w fun e w' => e = .returned (.tuple #[.int .u64 h, .int .u64 l]) ∧ w' = w := by
  have K : Calls Tryd.prog 109 #[.int .u64 x, .int .u64 y] w fun e w' => e = .returned (.tuple #[.int .u64 h, .int .u64 l]) ∧ w' = w := by
    rw [hh, hl, BW_eq]
    exact mul64_any x y hx hy w
  have H := Lib.hid K
  clear K hh hl
  go_enter Tryd.func107, Tryd.ntmps107
  go_wp2_with fail
  refine H.out.mono ?_
  rintro e w' ⟨rfl, rfl⟩
  go_wp2
  go_ret2
  exact ⟨rfl, rfl⟩

theorem mulAddWWW_any (x y c h l : Nat) (hx : x < BW) (hy : y < BW) (hc : c < BW) (hh : h = (x * y + c) / BW) (hl : l = (x * y + c) % BW) (w : World) :
    Calls Tryd.prog 106 #[.int .u64 x, .int .u64 y, .int .u64 c] w fun e w' => e = .returned (.tuple #[.int .u64 h, .int .u64 l]) ∧ w' = w := by
  obtain ⟨h0, hh0⟩ : ∃ a, a = x * y / BW := ⟨_, rfl⟩
  obtain ⟨l0, hl0⟩ : ∃ a, a = x * y % BW := ⟨_, rfl⟩
  obtain ⟨cc, hcc⟩ : ∃ a, a = (l0 + c + 0) / BW := ⟨_, rfl⟩
  have hxy : x * y ≤ (BW - 1) * (BW - 1) := Nat.mul_le_mul (by omega) (by omega)
  have hl2 : l = (l0 + c + 0) % BW := by rw [hl, hl0]; simp [Nat.add_mod]
  have hll : l0 < BW := by rw [hl0]; exact Nat.mod_lt _ BW_pos
  have e0 : x * y = BW * h0 + l0 := by rw [hh0, hl0]; exact (Nat.div_add_mod _ _).symm
  have hsum : h = h0 + cc := by
    rw [hh, hcc, e0, Nat.add_assoc, Nat.mul_add_div BW_pos]; simp
  have hhb : h < 18446744073709551616 := by
    rw [hh, ← BW_eq]
    refine Nat.div_lt_of_lt_mul ?_
    rw [BW_eq] at *
    omega
  have K1 := Lib.hid (bitsMul_any x y h0 l0 hx hy hh0 hl0 w)
  have K2 := Lib.hid (bitsAdd_any l0 c 0 l cc (by omega) hll hc hl2 hcc w)
  have wh : IntKind.u64.wrap ((h0 : Int) + (cc : Int)) = (h : Int) := by rw [hsum, IntKind.wrap_u64]; omega
  clear hh0 hl0 hcc hl2 e0 hsum hh hl hxy
  go_enter Tryd.func106, Tryd.ntmps106
  go_wp2_with fail
  refine K1.out.mono ?_
  rintro e w' ⟨rfl, rfl⟩
  go_wp2_with fail
  refine K2.out.mono ?_
  rintro e w' ⟨rfl, rfl⟩
  go_wp2
  go_ret2
  exact ⟨rfl, rfl⟩

end Go.Proofs.YtidifjmjbfhpaaaDoor
namespace Go.Proofs.YtidifjmjbfhpaaaDoor
set_option linter.unusedVariables false
set_option linter.unusedSimpArgs false
open Go.RowKit

/-- The carry behind i words of f * y + r, and the words. -/
def mcar (f : Nat → Nat) (y r : Nat) : Nat → Nat
  | 0 => r
  | i + 1 => (f i * y + mcar f y r i) / BW
def mdg (f : Nat → Nat) (y r i : Nat) : Nat := (f i * y + mcar f y r i) % BW

theorem mcar_lt {f : Nat → Nat} {y r : Nat} (hy : y < BW) (hr : r < BW) : ∀ i, (∀ j, j < i → f j < BW) → mcar f y r i < BW
  | 0, _ => hr
  | i + 1, hf => by
    have h1 := mcar_lt hy hr i (fun j hj => hf j (by omega))
    have h2 : f i * y ≤ (BW - 1) * (BW - 1) := Nat.mul_le_mul (by have := hf i (by omega); omega) (by omega)
    show (f i * y + mcar f y r i) / BW < BW
    refine Nat.div_lt_of_lt_mul ?_
    rw [BW_eq] at *
    omega

theorem mul_law (f : Nat → Nat) (y r : Nat) : ∀ n, val BW (mdg f y r) n + BW ^ n * mcar f y r n = val BW f n * y + r
  | 0 => by simp [val, mcar]
  | n + 1 => by
    have h := mul_law f y r n
    have e : mdg f y r n + BW * mcar f y r (n + 1) = f n * y + mcar f y r n := by
      show (f n * y + mcar f y r n) % BW + BW * ((f n * y + mcar f y r n) / BW) = _
      exact Nat.mod_add_div _ _
    show val BW (mdg f y r) n + mdg f y r n * BW ^ n + BW ^ (n + 1) * mcar f y r (n + 1) = (val BW f n + f n * BW ^ n) * y + r
    rw [Nat.mul_comm _ (BW ^ n), Nat.mul_comm (f n) (BW ^ n), Nat.pow_succ, Nat.mul_assoc (BW ^ n) BW, Nat.add_assoc, ← Nat.mul_add, e, Nat.add_mul, Nat.mul_add, Nat.mul_assoc]
    omega

set_option maxHeartbeats 1000000 in
theorem mulAddVWWg_any (base g o n N cz c0 y r : Nat) (F : Nat → Nat) (ax : Option Addr) (cx : Nat) (f : Nat → Nat) (w : World) (hn : n ≤ 100000000000) (hoN : o + n ≤ N)
    (own : Own w base 83 .u64 (.slice (some ⟨g, 0, none⟩) N c0) N F) (hf : ∀ i, i < n → f i < BW) (hy : y < BW) (hr : r < BW)
    (hx : (Reads w .u64 ax n f ∧ ∀ a, ax = some a → a.block ≠ g) ∨ (ax = some ⟨g, o, none⟩ ∧ ∀ i, i < n → f i = F (o + i))) :
    Calls Tryd.prog 104 #[.slice (some ⟨g, o, none⟩) n cz, .slice ax n cx, .int .u64 y, .int .u64 r] w fun e w' => e = .returned (.int .u64 ((mcar f y r n : Nat) : Int)) ∧ Own w' base 83 .u64 (.slice (some ⟨g, 0, none⟩) N c0) N (updr F o (mdg f y r) n) ∧ w.grownBy w' (some g) := by
  have R := Lib.hid (And.intro hx hf)
  have O0 := Lib.hid (show Own w base 83 .u64 (.slice (some ⟨g, 0, none⟩) N c0) N (updr F o (mdg f y r) 0) from own.congr fun j _ => (updr_zero _ _ _ _).symm)
  clear hx hf own
  go_enter Tryd.func104, Tryd.ntmps104
  go_wp2
  go_loopw [8, 19] (fun tc ti wr => ∃ i : Nat, i ≤ n ∧ ti = .int .i64 i ∧ tc = .int .u64 ((mcar f y r i : Nat) : Int) ∧ Own wr base 83 .u64 (.slice (some ⟨g, 0, none⟩) N c0) N (updr F o (mdg f y r) i) ∧ w.grownBy wr (some g)) (fun _ ti _ => n - (intOf ti).toNat)
  case atStart => exact ⟨0, Nat.zero_le _, rfl, rfl, O0.out, World.grownBy.refl _ _⟩
  case round =>
    obtain ⟨i, hin, rfl, rfl, own, gr⟩ := hrel
    by_cases h1 : i < n
    · have hb := mcar_lt (f := f) hy hr i (fun j hj => R.out.2 j (by omega))
      have hb2' := mcar_lt (f := f) hy hr (i + 1) (fun j hj => R.out.2 j (by omega))
      have hbn : mcar f y r (i + 1) = (f i * y + mcar f y r i) / BW := rfl
      have hsd : mdg f y r i = (f i * y + mcar f y r i) % BW := rfl
      obtain ⟨bx, ox, hax, hcx⟩ : ∃ bx ox, ax = some ⟨bx, ox, none⟩ ∧ wr.cell? ⟨bx, ox + i, none⟩ = some (.int .u64 (f i)) := by
        rcases R.out.1 with ⟨hr, hxg⟩ | ⟨hax, hfe⟩
        · obtain ⟨bx, ox, hax, hcx0⟩ := hr i h1
          exact ⟨bx, ox, hax, (World.cell?_of_block (w := w) (gr.block bx (World.block_lt_of_cell? _ _ hcx0) (by have := hxg _ hax; simpa using this))).trans hcx0⟩
        · refine ⟨g, o, hax, ?_⟩
          rw [own.cell (o + i) (by omega), hfe i h1]
          unfold updr
          rw [if_neg (by omega)]
      have K := mulAddWWW_any (f i) y (mcar f y r i) (mcar f y r (i + 1)) (mdg f y r i) (R.out.2 i h1) hy hb hbn hsd wr
      obtain ⟨b, hbb⟩ : ∃ b, b = mcar f y r i := ⟨_, rfl⟩
      obtain ⟨x, hx⟩ : ∃ b, b = f i := ⟨_, rfl⟩
      obtain ⟨d, hd⟩ : ∃ b, b = mdg f y r i := ⟨_, rfl⟩
      obtain ⟨b2, hb2⟩ : ∃ b, b = mcar f y r (i + 1) := ⟨_, rfl⟩
      rw [← hbb, ← hx, ← hd, ← hb2] at K
      rw [← hx] at hcx
      rw [← hbb]
      have hc := own.cell (o + i) (by omega)
      have hfz := own.free (o + i)
      have G := Lib.hid (And.intro own (And.intro gr (And.intro hd hb2)))
      have K' := Lib.hid K
      subst hax
      clear K own gr hbn hsd hb hb2' hbb hx hd hb2 O0
      go_wp2_with fail
      refine K'.out.mono ?_
      rintro e w' ⟨rfl, rfl⟩
      go_wp2
      go_roundw
      case rel =>
        go_light
        refine ⟨i + 1, by omega, by go_num, by rw [← G.out.2.2.2], ?_, grown_trans G.out.2.1 (grown_setCell _ ⟨g, o + i, none⟩ _)⟩
        exact (G.out.1.stored (o + i) d).congr fun j _ => updr_succ _ _ _ _ _ G.out.2.2.1 j
      case measure => simp [intOf]; omega
    · obtain rfl : i = n := by omega
      have G := Lib.hid (And.intro own gr)
      clear own gr O0
      go_wp2
      go_ret
      exact ⟨rfl, G.out.1, G.out.2⟩

theorem mulAddVWW_any (base g o n N cz c0 y r : Nat) (F : Nat → Nat) (ax : Option Addr) (cx : Nat) (f : Nat → Nat) (w : World) (hn : n ≤ 100000000000) (hoN : o + n ≤ N)
    (own : Own w base 83 .u64 (.slice (some ⟨g, 0, none⟩) N c0) N F) (hf : ∀ i, i < n → f i < BW) (hy : y < BW) (hr : r < BW)
    (hx : (Reads w .u64 ax n f ∧ ∀ a, ax = some a → a.block ≠ g) ∨ (ax = some ⟨g, o, none⟩ ∧ ∀ i, i < n → f i = F (o + i))) :
    Calls Tryd.prog 100 #[.slice (some ⟨g, o, none⟩) n cz, .slice ax n cx, .int .u64 y, .int .u64 r] w fun e w' => e = .returned (.int .u64 ((mcar f y r n : Nat) : Int)) ∧ Own w' base 83 .u64 (.slice (some ⟨g, 0, none⟩) N c0) N (updr F o (mdg f y r) n) ∧ w.grownBy w' (some g) := by
  have K := Lib.hid (mulAddVWWg_any base g o n N cz c0 y r F ax cx f w hn hoN own hf hy hr hx)
  clear own hf hx
  go_enter Tryd.func100, Tryd.ntmps100
  go_wp2_with fail
  refine K.out.mono ?_
  rintro e w' ⟨rfl, h1, h2⟩
  have G := Lib.hid (And.intro h1 h2)
  clear h1 h2 K
  go_wp2
  go_ret
  exact ⟨rfl, G.out.1, G.out.2⟩

end Go.Proofs.YtidifjmjbfhpaaaDoor
namespace Go.Proofs.YtidifjmjbfhpaaaDoor
set_option linter.unusedVariables false
set_option linter.unusedSimpArgs false
open Go.RowKit

theorem nlen_word {r : Nat} (h0 : r ≠ 0) (h : r < BW) : nlen BW r = 1 := by
  refine eq_of_le_iff fun m => ?_
  rw [nlen_le_iff BW_one]
  constructor
  · intro h'
    refine Nat.lt_of_not_le fun h'' => ?_
    obtain rfl : m = 0 := by omega
    simp at h'
    exact h0 h'
  · intro h'
    exact Nat.lt_of_lt_of_le (by simpa using h) (Nat.pow_le_pow_right BW_pos h')

theorem setWord_any (v : Value) (base m r : Nat) (f0 : Nat → Nat) (w : World) (hroom : Room w base v m f0) (hb : base ≤ w.heap.size) (hr : r < BW) :
    Calls Tryd.prog 99 #[v, .int .u64 r] w (SetBitPost base r w) := by
  by_cases h0 : r = 0
  · subst h0
    have hz : nlen BW 0 = 0 := (nlen_eq_zero BW_one 0).2 rfl
    rcases hroom with ⟨rfl, rfl⟩ | ⟨g, c, F, rfl, hmc, h1, hc, own, hF⟩
    · clear hr
      have HZ := Lib.hid hz
      clear hz
      go_enter Tryd.func99, Tryd.ntmps99
      go_wp2
      go_ret
      refine ⟨_, rfl, ?_, Below.refl _ _⟩
      rw [HZ.out]
      exact Room.nil _ _ _
    · have G := Lib.hid (And.intro own hF)
      have HZ := Lib.hid hz
      clear hz own hF hr
      go_enter Tryd.func99, Tryd.ntmps99
      go_wp2
      go_ret
      refine ⟨_, rfl, ?_, Below.refl _ _⟩
      rw [HZ.out]
      exact Room.of (Nat.zero_le _) h1 hc G.out.1 (fun j hj => absurd hj (Nat.not_lt_zero j))
  · have KM := Lib.hid (make_room v base m 1 f0 w hroom hb (by omega) (by omega))
    have G := Lib.hid (And.intro hb (And.intro (nlen_word h0 hr) hr))
    have hne : ((r : Int) == 0) = false := by simp; omega
    clear hroom hb hr
    go_enter Tryd.func99, Tryd.ntmps99
    go_wp2_with fail
    refine KM.out.mono ?_
    rintro e w1 ⟨g, c, F, rfl, hnc, h1c, hc4, own1, bel1, hor⟩
    have hfz := own1.free 0
    have hcl := own1.cell 0 (by omega)
    have own2 := own1.stored 0 r
    have hbg := (own1.lt g rfl).1
    have HF := Lib.hid (And.intro own2 (And.intro bel1 hbg))
    clear own1 own2 bel1 hor KM hbg
    go_wp2
    go_ret
    refine ⟨_, rfl, ?_, below_of_both HF.out.2.1 G.out.1 (grown_setCell w1 ⟨g, 0, none⟩ (.int .u64 r)) HF.out.2.2⟩
    rw [G.out.2.1]
    refine Room.of hnc h1c hc4 HF.out.1 (fun j hj => ?_)
    obtain rfl : j = 0 := by omega
    rw [upd_same]
    show r = r / BW ^ 0 % BW
    rw [Nat.pow_zero, Nat.div_one, Nat.mod_eq_of_lt G.out.2.2]

theorem mul_row {V y r n : Nat} (hV : V < BW ^ n) (hy : y < BW) (hr : r < BW) :
    (∀ j, j < n → mdg (dig BW V) y r j = dig BW (V * y + r) j) ∧ mcar (dig BW V) y r n = dig BW (V * y + r) n ∧ V * y + r < BW ^ (n + 1) := by
  have hf : ∀ j, dig BW V j < BW := fun j => dig_lt BW_pos V j
  have hc := mcar_lt (f := dig BW V) hy hr n (fun j _ => hf j)
  have hT : ∀ j, j < n + 1 → (fun j => if j < n then mdg (dig BW V) y r j else mcar (dig BW V) y r n) j < BW := by
    intro j hj
    show (if j < n then _ else _) < BW
    split
    · exact Nat.mod_lt _ BW_pos
    · exact hc
  have hval : val BW (fun j => if j < n then mdg (dig BW V) y r j else mcar (dig BW V) y r n) (n + 1) = V * y + r := by
    have h1 : val BW (fun j => if j < n then mdg (dig BW V) y r j else mcar (dig BW V) y r n) n = val BW (mdg (dig BW V) y r) n := val_congr fun j hj => if_pos hj
    have h2 := mul_law (dig BW V) y r n
    rw [val_of_dig BW_pos, Nat.mod_eq_of_lt hV] at h2
    show val BW _ n + (if n < n then _ else _) * BW ^ n = _
    rw [h1, if_neg (Nat.lt_irrefl n), Nat.mul_comm, h2]
  refine ⟨fun j hj => ?_, ?_, ?_⟩
  · have := val_dig hT (i := j) (by omega)
    rw [hval] at this
    rw [this, if_pos hj]
  · have := val_dig hT (i := n) (by omega)
    rw [hval] at this
    rw [this, if_neg (Nat.lt_irrefl n)]
  · rw [← hval]; exact val_lt hT

set_option maxHeartbeats 1000000 in
theorem mulAddWW_some (g c n V y r base : Nat) (F0 : Nat → Nat) (w : World) (hnV : nlen BW V = n) (hn1 : 1 ≤ n) (hn : n ≤ 2147483646) (hb : base ≤ w.heap.size) (hnc : n ≤ c) (h1c : 1 ≤ c) (hc4 : c ≤ 4000000000)
    (own : Own w base 83 .u64 (.slice (some ⟨g, 0, none⟩) c c) c F0) (hF : ∀ j, j < n → F0 j = dig BW V j) (hy0 : y ≠ 0) (hy : y < BW) (hr : r < BW) :
    Calls Tryd.prog 95 #[.slice (some ⟨g, 0, none⟩) n c, .slice (some ⟨g, 0, none⟩) n c, .int .u64 y, .int .u64 r] w (SetBitPost base (V * y + r) w) := by
  have hVl := lt_pow_nlen BW_one V
  rw [hnV] at hVl
  have had := mul_row hVl hy hr
  have hroom : Room w base (.slice (some ⟨g, 0, none⟩) n c) n (dig BW V) := Room.of hnc h1c hc4 own hF
  have KM := Lib.hid (make_room _ base n (n + 1) (dig BW V) w hroom hb (by omega) (by omega))
  have hgl := (own.lt g rfl).2
  have rd : Reads w .u64 (some ⟨g, 0, none⟩) n (dig BW V) := (Reads.of_own (own.take hnc)).congr hF
  have G := Lib.hid (And.intro rd (And.intro hgl (And.intro had hb)))
  clear hroom own hF had rd hVl hnV hb hgl
  have hn0 : ((n : Int) == 0) = false := by simp; omega
  have hy00 : ((y : Int) == 0) = false := by simp; omega
  go_enter Tryd.func95, Tryd.ntmps95
  go_wp2_with fail
  refine KM.out.mono ?_
  rintro e w1 ⟨g1, c1, F1, rfl, hnc1, h1c1, hc41, own1, b1, hor⟩
  have hbg := (own1.lt g1 rfl).1
  have hX : (Reads w1 .u64 (some ⟨g, 0, none⟩) n (dig BW V) ∧ ∀ a : Addr, (some ⟨g, 0, none⟩ : Option Addr) = some a → a.block ≠ g1) ∨ ((some ⟨g, 0, none⟩ : Option Addr) = some ⟨g1, 0, none⟩ ∧ ∀ i, i < n → dig BW V i = F1 (0 + i)) := by
    rcases hor with ⟨rfl, hv, hF1⟩ | hg
    · simp at hv
      obtain ⟨rfl, _⟩ := hv
      exact .inr ⟨rfl, fun i hi => by rw [Nat.zero_add]; exact (hF1 i hi).symm⟩
    · refine .inl ⟨G.out.1.below b1, ?_⟩
      rintro a ha
      cases ha
      have := G.out.2.1
      show g ≠ g1
      omega
  have KV := Lib.hid (mulAddVWW_any base g1 0 n c1 c1 c1 y r F1 (some ⟨g, 0, none⟩) c (dig BW V) w1 (by omega) (by omega) own1 (fun i _ => dig_lt BW_pos V i) hy hr hX)
  have F := Lib.hid (And.intro b1 hbg)
  have hnc1i : (n : Int) ≤ (c1 : Int) := by omega
  clear own1 b1 KM hor hX
  go_wp2_with fail
  refine KV.out.mono ?_
  rintro e w2 ⟨rfl, own2, gr2⟩
  obtain ⟨x, hx⟩ : ∃ x, x = mcar (dig BW V) y r n := ⟨_, rfl⟩
  rw [← hx]
  have hfz := own2.free n
  have hcl := own2.cell n (by omega)
  have own3 := own2.stored n x
  have hF3 : ∀ j, j < n + 1 → upd (updr F1 0 (mdg (dig BW V) y r) n) n x j = dig BW (V * y + r) j := by
    intro j hj
    by_cases hjn : j = n
    · rw [hjn, upd_same, hx]; exact G.out.2.2.1.2.1
    · rw [upd_other _ _ hjn, updr_in _ _ _ _ _ (Nat.zero_le j) (by omega), Nat.sub_zero]
      exact G.out.2.2.1.1 j (by omega)
  have KN := Lib.hid (norm_any (some ⟨g1, 0, none⟩) (n + 1) c1 _ _ hnc1 (by omega) (Reads.of_own (own3.take hnc1)))
  have F3 := Lib.hid (And.intro own3 (And.intro hF3 gr2))
  clear own2 own3 gr2 hF3 KV hx
  go_wp2_with fail
  refine KN.out.mono ?_
  rintro e w3 ⟨rfl, rfl⟩
  go_wp2
  go_ret
  refine ⟨_, rfl, ?_, below_of_both F.out.1 G.out.2.2.2 (grown_trans F3.out.2.2 (grown_setCell w2 ⟨g1, n, none⟩ (.int .u64 x))) F.out.2⟩
  have hlen := row_clen G.out.2.2.1.2.2 F3.out.2.1
  have hle := clen_le (upd (updr F1 0 (mdg (dig BW V) y r) n) n x) (n + 1)
  rw [← hlen]
  exact Room.of (by omega) h1c1 hc41 F3.out.1 (fun j hj => F3.out.2.1 j (by omega))

theorem mulAddWW_zero (v : Value) (y r base : Nat) (f0 : Nat → Nat) (w : World) (hroom : Room w base v 0 f0) (hb : base ≤ w.heap.size) (hr : r < BW) :
    Calls Tryd.prog 95 #[v, v, .int .u64 y, .int .u64 r] w (SetBitPost base r w) := by
  have K := Lib.hid (setWord_any v base 0 r f0 w hroom hb hr)
  have hv : v = .slice none 0 0 ∨ ∃ g c, v = .slice (some ⟨g, 0, none⟩) 0 c := by
    rcases hroom with ⟨rfl, _⟩ | ⟨g, c, F, rfl, _⟩
    · exact .inl rfl
    · exact .inr ⟨g, c, rfl⟩
  clear hroom hb hr
  rcases hv with rfl | ⟨g, c, rfl⟩
  · go_enter Tryd.func95, Tryd.ntmps95
    go_wp2_with fail
    refine K.out.mono ?_
    rintro e w1 ⟨v1, rfl, h1, h2⟩
    have F := Lib.hid (And.intro h1 h2)
    clear h1 h2 K
    go_wp2
    go_ret
    exact ⟨_, rfl, F.out.1, F.out.2⟩
  · go_enter Tryd.func95, Tryd.ntmps95
    go_wp2_with fail
    refine K.out.mono ?_
    rintro e w1 ⟨v1, rfl, h1, h2⟩
    have F := Lib.hid (And.intro h1 h2)
    clear h1 h2 K
    go_wp2
    go_ret
    exact ⟨_, rfl, F.out.1, F.out.2⟩

/-- (nat).mulAddWW of a receiver that is x itself. -/
theorem mulAddWW_any (v : Value) (V y r base : Nat) (w : World) (hroom : Room w base v (nlen BW V) (dig BW V)) (hb : base ≤ w.heap.size) (hn : nlen BW V ≤ 2147483646) (hy0 : y ≠ 0) (hy : y < BW) (hr : r < BW) :
    Calls Tryd.prog 95 #[v, v, .int .u64 y, .int .u64 r] w (SetBitPost base (V * y + r) w) := by
  by_cases h0 : nlen BW V = 0
  · have hV : V = 0 := (nlen_eq_zero BW_one V).1 h0
    subst hV
    rw [h0] at hroom
    rw [Nat.zero_mul, Nat.zero_add]
    exact mulAddWW_zero v y r base _ w hroom hb hr
  · rcases hroom with ⟨rfl, h⟩ | ⟨g, c, F, rfl, hnc, h1c, hc4, own, hF⟩
    · exact absurd h h0
    · exact mulAddWW_some g c _ V y r base F w rfl (by omega) hn hb hnc h1c hc4 own hF hy0 hy hr

end Go.Proofs.YtidifjmjbfhpaaaDoor
