/- How many bits from the lowest on are 0: math/bits.TrailingZeros64 by its table, (nat).trailingZeroBits, (*Int).TrailingZeroBits, impl.Zeros. -/
import Derived.Test.YtidifjmjbfhpaaaDoorBase
import Derived.Test.YtidifjmjbfhpaaaDoorInfo
import Derived.Test.YtidifjmjbfhpaaaDoorOf
import Derived.Test.YtidifjmjbfhpaaaDoorSpecSmall
import Derived.Shelf.Spec.TrailingZeros
namespace Go.Proofs.YtidifjmjbfhpaaaDoor
set_option linter.unusedVariables false
set_option maxRecDepth 20000
set_option linter.unusedSimpArgs false
open Go.RowKit

/-- Bit t is the lowest that is set. -/
def IsTz (V t : Nat) : Prop := V.testBit t = true ∧ ∀ j, j < t → V.testBit j = false

theorem word_bit (V i j : Nat) (hj : j < 64) : (dig BW V i).testBit j = V.testBit (64 * i + j) := by
  unfold dig
  rw [show (BW : Nat) ^ i = 2 ^ (64 * i) by rw [Nat.pow_mul]; rfl, show (BW : Nat) = 2 ^ 64 from rfl, Nat.testBit_mod_two_pow, Nat.testBit_div_two_pow]
  simp [hj, Nat.add_comm]

theorem ctz_tz (x : Nat) (h0 : x ≠ 0) (h : x < 2 ^ 64) : IsTz x (Lib.ctz 64 x) ∧ Lib.ctz 64 x < 64 := by
  obtain ⟨m, hm, hk⟩ := Lib.ctzFrom_spec 64 x (by omega) h
  have e : Lib.ctz 64 x = Lib.ctzFrom 64 x := by simp [Lib.ctz, h0]
  rw [e]
  generalize Lib.ctzFrom 64 x = k at *
  refine ⟨⟨?_, fun j hj => ?_⟩, hk⟩
  · rw [hm, Nat.mul_comm, Nat.testBit_mul_two_pow]; simp
  · rw [hm, Nat.mul_comm, Nat.testBit_mul_two_pow]; simp; omega

theorem tz_words (V i : Nat) (hz : ∀ j, j < i → dig BW V j = 0) (hx : dig BW V i ≠ 0) : IsTz V (64 * i + Lib.ctz 64 (dig BW V i)) ∧ Lib.ctz 64 (dig BW V i) < 64 := by
  obtain ⟨⟨h1, h2⟩, h3⟩ := ctz_tz (dig BW V i) hx (dig_BW V i)
  refine ⟨⟨?_, fun j hj => ?_⟩, h3⟩
  · rw [← word_bit V i _ h3]; exact h1
  · by_cases hi : j < 64 * i
    · have := word_bit V (j / 64) (j % 64) (Nat.mod_lt _ (by omega))
      rw [hz (j / 64) (by omega)] at this
      rw [show 64 * (j / 64) + j % 64 = j by omega] at this
      rw [← this]; simp
    · have := word_bit V i (j - 64 * i) (by omega)
      rw [show 64 * i + (j - 64 * i) = j by omega] at this
      rw [← this]; exact h2 _ (by omega)

theorem tz_exists (V f : Nat) (h0 : V ≠ 0) (h : V < 2 ^ f) : ∃ t, IsTz V t ∧ t < f := by
  obtain ⟨m, hm, hk⟩ := Lib.ctzFrom_spec f V (by omega) h
  generalize Lib.ctzFrom f V = k at *
  refine ⟨k, ⟨?_, fun j hj => ?_⟩, hk⟩
  · rw [hm, Nat.mul_comm, Nat.testBit_mul_two_pow]; simp
  · rw [hm, Nat.mul_comm, Nat.testBit_mul_two_pow]; simp; omega
theorem tz_unique {V s t : Nat} (hs : IsTz V s) (ht : IsTz V t) : s = t := by
  rcases Nat.lt_trichotomy s t with h | h | h
  · have := ht.2 s h; rw [hs.1] at this; cases this
  · exact h
  · have := hs.2 t h; rw [ht.1] at this; cases this

/-- math/bits.deBruijn64tab as the row lists it. -/
def Tab (w : World) : Prop := ∀ j, j < 64 → w.cell? ⟨3, j, none⟩ = some (.int .u8 (Lib.deBruijn64tab.getD j 0))
theorem Tab.below {w w' : World} (h : Tab w) (hb : Below w.heap.size w w') : Tab w' := by
  intro j hj
  rw [hb.cell (World.block_lt_of_cell? _ _ (h j hj))]
  exact h j hj

theorem tz64_core (x k idx : Nat) (w : World) (hx1 : ((x : Int) == 0) = false)
    (key : IntKind.u64.wrap (bits BinOp.and IntKind.u64 (x : Int) (IntKind.u64.wrap (-(x : Int))) * 285870213051353865) / 288230376151711744 = (idx : Int))
    (hi : idx < 64) (hk : k < 64) (hcell : w.cell? ⟨3, idx, none⟩ = some (.int .u8 k)) :
    Calls Tryd.prog 83 #[.int .u64 x] w fun e w' => e = .returned (.int .i64 k) ∧ w' = w := by
  go_enter Tryd.func83, Tryd.ntmps83
  go_wp2_with (simp only [key])
  go_ret
  exact ⟨rfl, rfl⟩

theorem tz64_any (x : Nat) (hx0 : x ≠ 0) (hx : x < 18446744073709551616) (w : World) (hT : Tab w) :
    Calls Tryd.prog 83 #[.int .u64 x] w fun e w' => e = .returned (.int .i64 (Lib.ctz 64 x)) ∧ w' = w := by
  obtain ⟨hlow, hk⟩ := Lib.lowest_bit 64 x hx0 hx
  obtain ⟨hi, htab⟩ := Lib.deBruijn64_at _ hk
  have hcell := hT _ hi
  rw [htab] at hcell
  exact tz64_core x _ _ w (by simp; omega) (tz64_key x _ hx hx0 hlow) hi hk hcell

theorem tz_any (x : Nat) (hx0 : x ≠ 0) (hx : x < BW) (w : World) (hT : Tab w) :
    Calls Tryd.prog 74 #[.int .u64 x] w fun e w' => e = .returned (.int .i64 (Lib.ctz 64 x)) ∧ w' = w := by
  have K := Lib.hid (tz64_any x hx0 (by rw [BW_eq] at hx; exact hx) w hT)
  have hw : IntKind.u64.wrap (x : Int) = (x : Int) := by rw [IntKind.wrap_u64]; rw [BW_eq] at hx; omega
  clear hx hx0 hT
  go_enter Tryd.func74, Tryd.ntmps74
  go_wp2_with fail
  refine K.out.mono ?_
  rintro e w' ⟨rfl, rfl⟩
  go_wp2
  go_ret
  exact ⟨rfl, rfl⟩

/-- (nat).trailingZeroBits. -/
theorem natTz_any (ao : Option Addr) (V cap : Nat) (w : World) (hn : nlen BW V ≤ cap) (hb : nlen BW V ≤ 100000000000000000) (hrd : Reads w .u64 ao (nlen BW V) (dig BW V)) (hT : Tab w) :
    Calls Tryd.prog 56 #[.slice ao (nlen BW V) cap] w fun e w' => ∃ t : Nat, e = .returned (.int .u64 t) ∧ (V = 0 → t = 0) ∧ (V ≠ 0 → IsTz V t) ∧ t ≤ 64 * nlen BW V ∧ w = w' := by
  have hz := nlen_eq_zero BW_one V
  have htop : V ≠ 0 → dig BW V (nlen BW V - 1) ≠ 0 := fun h => dig_top BW_one h
  obtain ⟨n, hnn⟩ : ∃ n, n = nlen BW V := ⟨_, rfl⟩
  rw [← hnn] at hn hb hrd hz htop ⊢
  by_cases h0 : n = 0
  · subst h0
    have hV := hz.1 rfl
    clear hz htop hrd hnn
    go_enter Tryd.func56, Tryd.ntmps56
    go_wp2
    go_ret
    exact ⟨0, rfl, fun _ => rfl, fun h => absurd hV h, by omega, rfl⟩
  · obtain ⟨b, o, rfl, _⟩ := hrd 0 (by omega)
    have H := Lib.hid (And.intro hrd (And.intro hT (And.intro (htop (fun e => h0 (hz.2 e))) hz)))
    have KT := Lib.hid (fun (x : Nat) (hx0 : x ≠ 0) (hx : x < BW) => tz_any x hx0 hx w hT)
    clear hrd htop hz hT hnn
    have hn0 : ((n : Int) == 0) = false := by simp; omega
    go_enter Tryd.func56, Tryd.ntmps56
    go_wp2
    go_loop [3] (fun t => ∃ i : Nat, i < n ∧ t = .int .u64 i ∧ Hid (∀ j, j < i → dig BW V j = 0)) (fun t => n - (intOf t).toNat)
    case atStart => exact ⟨0, by omega, by go_num, Lib.hid (fun j hj => by omega)⟩
    case round =>
      obtain ⟨i, hi, rfl, hz⟩ := hrel
      have hc := H.out.1.cellAt hi
      obtain ⟨d, hd⟩ : ∃ d, d = dig BW V i := ⟨_, rfl⟩
      rw [← hd] at hc
      have hdl : d < BW := by rw [hd]; exact dig_BW V i
      by_cases hd0 : d = 0
      · subst hd0
        have hi1 : i + 1 < n := by
          refine Nat.lt_of_le_of_ne hi fun e => ?_
          have := H.out.2.2.1
          rw [show n - 1 = i by omega] at this
          exact this hd.symm
        have hz2 : Hid (∀ j, j < i + 1 → dig BW V j = 0) := Lib.hid fun j hj => by
          by_cases hji : j = i
          · rw [hji]; exact hd.symm
          · exact hz.out j (by omega)
        clear hz hd hdl
        go_wp2
        go_round
        case rel => exact ⟨i + 1, hi1, by go_num, hz2⟩
        case measure => simp [intOf]; omega
      · have hk := tz_words V i hz.out (by rw [← hd]; exact hd0)
        rw [← hd] at hk
        have K := Lib.hid (KT.out d hd0 hdl)
        obtain ⟨k, hkk⟩ : ∃ k, k = Lib.ctz 64 d := ⟨_, rfl⟩
        rw [← hkk] at hk K
        have hk3 := hk.2
        have HK := Lib.hid hk.1
        have hd1 : ((d : Int) == 0) = false := by simp; omega
        clear hz hd hdl hk hkk hd0
        go_wp2_with fail
        refine K.out.mono ?_
        rintro e w' ⟨rfl, rfl⟩
        go_wp2
        go_ret
        refine ⟨64 * i + k, ?_, fun h => ?_, fun _ => HK.out, by omega, rfl⟩
        · go_num
        · have := H.out.2.2.2.2 h; omega

def TzPost (w : World) (V : Nat) (e : Ending) (w' : World) : Prop :=
  ∃ t : Nat, e = .returned (.int .u64 t) ∧ (V = 0 → t = 0) ∧ (V ≠ 0 → IsTz V t) ∧ t ≤ 64 * nlen BW V ∧ Below w.heap.size w w'

theorem intTz_any (p base V : Nat) (neg : Bool) (v : Value) (w : World) (hb : nlen BW V ≤ 100000000000000000) (h : Pair w p 72 (.bool neg) v) (own : Own w base 83 .u64 v (nlen BW V) (dig BW V)) (hT : Tab w) :
    Calls Tryd.prog 29 #[.pointer (some ⟨p, 0, none⟩)] w (TzPost w V) := by
  obtain ⟨az, cz, rfl, hle, hcm, hrd, hlt⟩ := own.parts
  have c1 := h.cell1
  have K := Lib.hid (natTz_any az V cz w hle hb hrd hT)
  clear own hrd hlt hT h
  go_enter Tryd.func29, Tryd.ntmps29
  go_wp2_with fail
  refine K.out.mono ?_
  rintro e w' ⟨t, rfl, h1, h2, h3, rfl⟩
  have F := Lib.hid (show TzPost w V (.returned (.int .u64 t)) w from ⟨t, rfl, h1, h2, h3, Below.refl _ _⟩)
  clear h1 h2 h3 K
  go_wp2
  go_ret
  exact F.out

theorem implZeros_any (neg : Bool) (ao : Option Addr) (n cap : Nat) (f : Nat → Nat) (hf : ∀ i, i < n → f i < BW) (w : World) (hn : n ≤ cap) (hb : n ≤ 200000000) (hrd : Reads w .u64 ao n f) (hT : Tab w) :
    Calls Tryd.prog 13 #[.agg #[.bool neg, .slice ao n cap]] w (TzPost w (val BW f n)) := by
  obtain ⟨W, hW⟩ : ∃ W, W = w.alloc (.cells #[.bool neg, .slice ao n cap] 24) := ⟨_, rfl⟩
  have b0 : Below w.heap.size w W := by rw [hW]; exact (Below.refl _ _).alloc (Nat.le_refl _) _
  have K := Lib.hid (of_any neg ao n cap f hf W hn (by omega) (hrd.below b0))
  have hVn : nlen BW (val BW f n) ≤ n := by rw [nlen_le_iff BW_one]; exact val_lt hf
  obtain ⟨V, hV⟩ : ∃ V, V = val BW f n := ⟨_, rfl⟩
  rw [← hV] at K hVn ⊢
  have HT := Lib.hid (hT.below b0)
  have B0 := Lib.hid b0
  have HW := Lib.hid hW
  clear hrd hT b0 hW hV hf
  go_enter Tryd.func13, Tryd.ntmps13
  go_wp2_with fail
  rw [← HW.out]
  refine K.out.mono ?_
  rintro e w1 ⟨p, rfl, ⟨_, v, hp, own⟩, bel⟩
  have K2 := Lib.hid (intTz_any p _ V _ v w1 (by omega) hp own (HT.out.below bel))
  have B1 := Lib.hid (below_trans B0.out bel)
  clear hp own bel K
  go_wp2_with fail
  refine K2.out.mono ?_
  rintro e w2 ⟨t, rfl, h1, h2, h3, bel⟩
  have F := Lib.hid (show TzPost w V (.returned (.int .u64 t)) w2 from ⟨t, rfl, h1, h2, h3, below_trans B1.out bel⟩)
  clear h1 h2 h3 K2 bel
  go_wp2
  go_ret
  exact F.out

end Go.Proofs.YtidifjmjbfhpaaaDoor
