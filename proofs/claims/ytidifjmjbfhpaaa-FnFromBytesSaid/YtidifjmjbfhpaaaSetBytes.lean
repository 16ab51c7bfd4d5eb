/- (nat).setBytes of a nil slice: the words of the number of bytes, in new memory. -/
import Derived.Test.YtidifjmjbfhpaaaBase
import Derived.Test.YtidifjmjbfhpaaaInfo
import Derived.Test.YtidifjmjbfhpaaaMake
import Derived.Test.YtidifjmjbfhpaaaNorm
import Derived.Test.YtidifjmjbfhpaaaBe
import Derived.Test.YtidifjmjbfhpaaaOfBytes
namespace Go.Proofs.Ytidifjmjbfhpaaa
set_option linter.unusedVariables false
set_option linter.unusedSimpArgs false
open Go.RowKit

/-- Eight bytes a word. -/
def eights (g : Nat → Nat) : Nat → Nat := fun k => val 256 (fun t => g (8 * k + t)) 8
/-- The first k words of them. -/
def upTo (g : Nat → Nat) (k : Nat) : Nat → Nat := fun j => if j < k then g j else 0

theorem eights_word (f : Nat → Nat) {n k : Nat} (h : 8 * k + 8 ≤ n) : bval (fun i => f (n - 8 * k - 8 + i)) 8 = eights (rev f n 0) k := by
  refine val_congr fun t ht => ?_
  unfold rev
  rw [if_pos ⟨Nat.zero_le _, by omega⟩]
  exact congrArg f (by omega)
theorem upTo_step (e : Nat → Nat) (k j : Nat) : upd (upTo e k) k (e k) j = upTo e (k + 1) j := by
  unfold upd upTo
  by_cases h : j = k
  · subst h; rw [if_pos rfl, if_pos (by omega)]
  · rw [if_neg h]
    by_cases h2 : j < k
    · rw [if_pos h2, if_pos (by omega)]
    · rw [if_neg h2, if_neg (by omega)]

set_option maxHeartbeats 1000000 in
theorem setBytes_walk (ao : Option Addr) (n m cap : Nat) (f : Nat → Nat) (hf : ∀ i, f i < 256) (w : World) (hn : n ≤ cap) (hb : n ≤ 2147483647) (hm1 : n ≤ 8 * m) (hm2 : 8 * m < n + 8)
    (hrd : Reads w .u8 ao n f) :
    Calls Try.prog 30 #[.slice none 0 0, .slice ao n cap] w fun e w' => ∃ ao c, e = .returned (.slice ao (clen (eights (rev f n 0)) m) c) ∧ Own w' w.heap.size 62 .u64 (.slice ao (clen (eights (rev f n 0)) m) c) (clen (eights (rev f n 0)) m) (eights (rev f n 0)) ∧ Below w.heap.size w w' := by
  have hN : (((n : Int) + 8 - 1) / 8) = (m : Int) := by omega
  go_enter Try.func30, Try.ntmps30
  go_wp2_with fail
  refine (make_nil m _ (by omega)).mono ?_
  rintro e w1 ⟨v, rfl, own, bel⟩
  rcases own.shape with ⟨rfl, h0⟩ | ⟨g, zc, rfl, hg1, hg2, hg3, hg4⟩
  · have : n = 0 := by omega
    subst this
    subst h0
    clear own hrd
    have BEL := Lib.hid bel
    clear bel hm1 hm2 hN
    go_wp2_with fail
    refine wp_loop_rounds 1 ?_
    rw [rounds_succ]
    go_wp2_with fail
    refine (norm_none none 0 _).mono ?_
    rintro e w' ⟨rfl, rfl⟩
    go_wp2
    go_ret
    exact ⟨_, _, rfl, Own.nil _ _ _ _ _, BEL.out⟩
  · have hN' := Lib.hid hN
    clear hN
    have OWN := Lib.hid own
    clear own
    go_wp2_with fail
    go_loopw [5, 6] (fun ti tk wr => ∃ k : Nat, 8 * k ≤ n ∧ ti = .int .i64 ((n - 8 * k : Nat) : Int) ∧ tk = .int .i64 k ∧ Own wr w.heap.size 62 .u64 (.slice (some ⟨g, 0, none⟩) m zc) m (upTo (eights (rev f n 0)) k) ∧ Below w.heap.size w wr)
      (fun ti _ _ => (intOf ti).toNat)
    case atStart => exact ⟨0, Nat.zero_le _, rfl, rfl, OWN.out.congr fun i hi => by simp [upTo], bel⟩
    case round =>
      clear OWN bel
      obtain ⟨k, hk, rfl, rfl, own, bel⟩ := hrel
      by_cases h8 : 8 ≤ n - 8 * k
      · obtain ⟨b, o, rfl, _⟩ := hrd 0 (by omega)
        have hcell : ∀ i, i < 8 → wr.cell? ⟨b, o + (n - 8 * k - 8) + i, none⟩ = some (.int .u8 (f (n - 8 * k - 8 + i))) := by
          intro i hi
          obtain ⟨b', o', h1, h2⟩ := hrd (n - 8 * k - 8 + i) (by omega)
          obtain ⟨rfl⟩ := h1
          rw [← Nat.add_assoc] at h2
          exact (bel.cell (World.block_lt_of_cell? _ _ h2)).trans h2
        have K := Lib.hid (beWord_any b (o + (n - 8 * k - 8)) (cap - (n - 8 * k - 8)) (fun i => f (n - 8 * k - 8 + i)) (fun i => hf _) wr (by omega) hcell)
        have hfree := own.free k
        obtain ⟨x, hx⟩ : ∃ x, x = upTo (eights (rev f n 0)) k k := ⟨_, rfl⟩
        have hold : wr.cell? ⟨g, k, none⟩ = some (.int .u64 x) := by rw [hx]; exact own.cell _ (by omega)
        have OWN := Lib.hid own
        clear own hcell hrd hx
        go_wp2_with fail
        rw [show n - 8 * k - (n - 8 * k - 8) = 8 by omega]
        refine K.out.mono ?_
        rintro e w' ⟨rfl, nq, rfl⟩
        go_wp2
        go_roundw
        case rel =>
          go_light
          refine ⟨k + 1, by omega, by go_num, by go_num, ?_, (Below.drewN' bel nq).setCell hg1 _⟩
          rw [eights_word f (by omega)]
          exact ((OWN.out.drewN nq).stored k _).congr fun j _ => upTo_step _ k j
        case measure => simp [intOf]; omega
      · by_cases h0 : n - 8 * k = 0
        · have hmk : m = k := by omega
          subst hmk
          have hfin : ∀ j, j < m → upTo (eights (rev f n 0)) m j = eights (rev f n 0) j := fun j hj => by unfold upTo; rw [if_pos hj]
          have own2 := own.congr hfin
          obtain ⟨ao2, c2, hv, hle, hcm, hrd2, _⟩ := own2.parts
          simp at hv
          obtain ⟨rfl, rfl⟩ := hv
          rw [h0]
          have OWN := Lib.hid own2
          clear own own2 hrd h0 h8 hfin
          go_wp2_with fail
          refine (norm_any _ _ _ _ _ hle (by omega) hrd2).mono ?_
          rintro e w' ⟨rfl, rfl⟩
          have BEL := Lib.hid bel
          clear bel hrd2
          go_wp2
          go_ret
          exact ⟨_, _, rfl, OWN.out.cut (clen_le _ _), BEL.out⟩
        · obtain ⟨r, hr⟩ : ∃ r, r = n - 8 * k := ⟨_, rfl⟩
          obtain ⟨b, o, rfl, _⟩ := hrd 0 (by omega)
          have hcell : ∀ i, i < r → wr.cell? ⟨b, o + i, none⟩ = some (.int .u8 (f i)) := by
            intro i hi
            obtain ⟨b', o', h1, h2⟩ := hrd i (by omega)
            obtain ⟨rfl⟩ := h1
            exact (bel.cell (World.block_lt_of_cell? _ _ h2)).trans h2
          rw [← hr] at h8 h0 ⊢
          have HR := Lib.hid hr
          have hr1 : r + 8 * k ≤ n := by omega
          have hr2 : n ≤ r + 8 * k := by omega
          have OWN := Lib.hid own
          have hpos : (0 : Int) < (r : Int) := by omega
          clear own hrd hr
          go_wp2
          go_loop [5, 7, 8] (fun ti td ts => ∃ q t : Nat, q + t = r ∧ ti = .int .i64 q ∧ td = .int .u64 ((val 256 (fun u => f (r - 1 - u)) t : Nat) : Int) ∧ ts = .int .u64 (8 * (t : Int))) (fun ti _ _ => (intOf ti).toNat)
          case atStart => exact ⟨r, 0, rfl, rfl, rfl, rfl⟩
          case round =>
            obtain ⟨q, t, hqt, rfl, rfl, rfl⟩ := hrel
            have hq2 : q ≤ 7 := by omega
            have ht2 : t ≤ 7 := by omega
            have HQT := Lib.hid hqt
            clear hqt
            cases q with
            | zero => 
              have hm0 : 0 < m := by omega
              have hfree := OWN.out.free (m - 1)
              obtain ⟨x, hx⟩ : ∃ x, x = upTo (eights (rev f n 0)) k (m - 1) := ⟨_, rfl⟩
              have hold : wr.cell? ⟨g, m - 1, none⟩ = some (.int .u64 x) := by rw [hx]; exact OWN.out.cell _ (by omega)
              clear hx hcell
              have hkm : m = k + 1 := by omega
              have hfin : ∀ j, j < m → upd (upTo (eights (rev f n 0)) k) (m - 1) (val 256 (fun u => f (r - 1 - u)) t) j = eights (rev f n 0) j := by
                intro j hj
                have h1 := HR.out
                have h2 := HQT.out
                have hmk : m - 1 = k := by omega
                rw [hmk]
                by_cases e : j = k
                · subst e; rw [upd_same]
                  have ht : t = r := by omega
                  subst ht
                  unfold eights
                  refine Eq.trans ?_ (val_drop (B := 256) (f := fun u => rev f n 0 (8 * j + u)) (m := t) (n := 8) (by omega) fun i h3 h4 => by unfold rev; rw [if_neg (by omega)]).symm
                  refine val_congr fun u hu => ?_
                  unfold rev
                  rw [if_pos ⟨by omega, by omega⟩]
                  exact congrArg f (by omega)
                · rw [upd_other _ _ e]; unfold upTo; rw [if_pos (by omega)]
              have own2 := (OWN.out.stored (m - 1) (val 256 (fun u => f (r - 1 - u)) t)).congr hfin
              have OWN2 := Lib.hid own2
              have BEL := Lib.hid (bel.setCell (p := ⟨g, m - 1, none⟩) hg1 (.int .u64 ((val 256 (fun u => f (r - 1 - u)) t : Nat) : Int)))
              clear own2 OWN hkm hfin bel
              go_wp2_with fail
              obtain ⟨ao2, c2, hv, hle, hcm, hrd2, _⟩ := OWN2.out.parts
              simp at hv
              obtain ⟨rfl, rfl⟩ := hv
              refine (norm_any _ _ _ _ _ hle (by omega) hrd2).mono ?_
              rintro e w' ⟨rfl, rfl⟩
              clear hrd2
              go_wp2
              go_ret
              exact ⟨_, _, rfl, OWN2.out.cut (clen_le _ _), BEL.out⟩
            | succ q =>
              have hc1 := hcell q (by have := HQT.out; omega)
              obtain ⟨y, hy⟩ : ∃ y, y = f q := ⟨_, rfl⟩
              rw [← hy] at hc1
              have hy2 : y < 256 := by rw [hy]; exact hf q
              obtain ⟨d, hd⟩ : ∃ d, d = val 256 (fun u => f (r - 1 - u)) t := ⟨_, rfl⟩
              rw [← hd]
              have HY := Lib.hid hy
              have HD := Lib.hid hd
              have hqn : q < n := by have := HQT.out; have := HR.out; omega
              clear hcell hy hd
              go_wp2_with fail
              go_round
              case rel =>
                go_light
                have hd2 : d < 2 ^ (8 * t) := by
                  rw [HD.out, Nat.pow_mul]; exact val_lt fun i _ => hf _
                have hp : y * 2 ^ (8 * t) < 18446744073709551616 := by
                  have h1 : 2 ^ (8 * t) ≤ 2 ^ 56 := Nat.pow_le_pow_right (by omega) (by omega)
                  have h2 : y * 2 ^ (8 * t) ≤ 255 * 2 ^ 56 := Nat.mul_le_mul (by omega) h1
                  omega
                have hj := or_u64_join d y (8 * t) hd2 (by omega) hp
                have hq := HQT.out
                refine ⟨q, t + 1, by omega, rfl, ?_, by go_num⟩
                rw [hj, HD.out, HY.out]
                simp only [val]
                rw [show r - 1 - t = q by omega, Nat.pow_mul]
              case measure => simp [intOf]

theorem eights_lt {g : Nat → Nat} (hg : ∀ i, g i < 256) (j : Nat) : eights g j < BW := by
  have := val_lt (B := 256) (f := fun t => g (8 * j + t)) (n := 8) fun i _ => hg _
  exact this
theorem val_eights (g : Nat → Nat) (m : Nat) : val BW (eights g) m = val 256 g (8 * m) := val_group 256 8 g m

/-- (nat).setBytes of a nil slice: the words of the number of the bytes, in new memory. -/
theorem setBytes_any (ao : Option Addr) (n cap : Nat) (f : Nat → Nat) (hf : ∀ i, f i < 256) (w : World) (hn : n ≤ cap) (hb : n ≤ 2147483647)
    (hrd : Reads w .u8 ao n f) :
    Calls Try.prog 30 #[.slice none 0 0, .slice ao n cap] w fun e w' => ∃ v, e = .returned v ∧ Own w' w.heap.size 62 .u64 v (nlen BW (bval f n)) (dig BW (bval f n)) ∧ Below w.heap.size w w' := by
  refine (setBytes_walk ao n ((n + 7) / 8) cap f hf w hn hb (by omega) (by omega) hrd).mono fun e w' ⟨ao', c, he, hown, hbel⟩ => ⟨_, he, ?_, hbel⟩
  have hl : ∀ i, i < (n + 7) / 8 → eights (rev f n 0) i < BW := fun i _ => eights_lt (rev_lt hf n 0) i
  have hv : val BW (eights (rev f n 0)) ((n + 7) / 8) = bval f n := by rw [val_eights, val_rev _ _ _ (by omega)]
  have hc := clen_val BW_one hl
  rw [hv] at hc
  rw [hc] at hown ⊢
  refine hown.congr fun i hi => ?_
  rw [← hv]
  refine (val_dig hl ?_).symm
  have := clen_le (eights (rev f n 0)) ((n + 7) / 8)
  omega

end Go.Proofs.Ytidifjmjbfhpaaa
