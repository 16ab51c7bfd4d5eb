/- spec.Mul by a number of one digit. -/
import Derived.Test.YtidifjmjbfhpaaaDoorSpecSums
import Derived.LoopN
namespace Go.Proofs.YtidifjmjbfhpaaaDoor
set_option linter.unusedVariables false
set_option maxRecDepth 20000
set_option linter.unusedSimpArgs false
open Go.RowKit

/-- The carry behind i digits of f * y, and the digits. -/
def kcar (f : Nat → Nat) (y : Nat) : Nat → Nat
  | 0 => 0
  | i + 1 => (f i * y + kcar f y i) / 65536
def kdg (f : Nat → Nat) (y i : Nat) : Nat := (f i * y + kcar f y i) % 65536
def krow (f : Nat → Nat) (y i j : Nat) : Nat := if j < i then kdg f y j else if j = i then kcar f y i else 0

theorem kcar_lt {f : Nat → Nat} {y : Nat} (hy : y < 65536) (hf : ∀ j, f j < 65536) : ∀ i, kcar f y i < 65536
  | 0 => by show 0 < _; omega
  | i + 1 => by
    have h1 := kcar_lt hy hf i
    have h2 : f i * y ≤ 65535 * 65535 := Nat.mul_le_mul (by have := hf i; omega) (by omega)
    show (f i * y + kcar f y i) / 65536 < 65536
    refine Nat.div_lt_of_lt_mul ?_
    omega

theorem kmul_law (f : Nat → Nat) (y : Nat) : ∀ n, val 65536 (kdg f y) n + 65536 ^ n * kcar f y n = val 65536 f n * y
  | 0 => by simp [val, kcar]
  | n + 1 => by
    have h := kmul_law f y n
    have e : kdg f y n + 65536 * kcar f y (n + 1) = f n * y + kcar f y n := by
      show (f n * y + kcar f y n) % 65536 + 65536 * ((f n * y + kcar f y n) / 65536) = _
      exact Nat.mod_add_div _ _
    show val 65536 (kdg f y) n + kdg f y n * 65536 ^ n + 65536 ^ (n + 1) * kcar f y (n + 1) = (val 65536 f n + f n * 65536 ^ n) * y
    rw [Nat.mul_comm _ (65536 ^ n), Nat.mul_comm (f n) (65536 ^ n), Nat.pow_succ, Nat.mul_assoc (65536 ^ n) 65536, Nat.add_assoc, ← Nat.mul_add, e, Nat.add_mul, Nat.mul_add, Nat.mul_assoc]
    omega

theorem krow_val (f : Nat → Nat) (y n : Nat) : val 65536 (krow f y n) (n + 1) = val 65536 f n * y := by
  have h1 : val 65536 (krow f y n) n = val 65536 (kdg f y) n := val_congr fun j hj => by unfold krow; rw [if_pos hj]
  have h2 : krow f y n n = kcar f y n := by unfold krow; rw [if_neg (Nat.lt_irrefl n), if_pos rfl]
  show val 65536 (krow f y n) n + krow f y n n * 65536 ^ n = _
  rw [h1, h2, Nat.mul_comm, kmul_law]

theorem krow_lt {f : Nat → Nat} {y n : Nat} (hy : y < 65536) (hf : ∀ j, f j < 65536) (j : Nat) : krow f y n j < 65536 := by
  unfold krow
  split
  · exact Nat.mod_lt _ (by omega)
  · split
    · exact kcar_lt hy hf n
    · omega

theorem krow_succ {f : Nat → Nat} {y i s q : Nat} (hs : s = (f i * y + kcar f y i) % 65536) (hq : q = (f i * y + kcar f y i) / 65536) (j : Nat) : upd (upd (krow f y i) i s) (i + 1) q j = krow f y (i + 1) j := by
  by_cases h1 : j = i + 1
  · subst h1
    rw [upd_same]
    unfold krow
    rw [if_neg (Nat.lt_irrefl _), if_pos rfl, hq]
    rfl
  rw [upd_other _ _ h1]
  by_cases h2 : j = i
  · subst h2
    rw [upd_same]
    unfold krow
    rw [if_pos (Nat.lt_succ_self _), hs]
    rfl
  rw [upd_other _ _ h2]
  unfold krow
  by_cases h3 : j < i
  · rw [if_pos h3, if_pos (by omega)]
  · rw [if_neg h3, if_neg h2, if_neg (by omega), if_neg h1]

set_option maxHeartbeats 1000000 in
theorem specMul1_any (aa ab : Option Addr) (V ca cb y : Nat) (w : World) (ha : nlen 65536 V ≤ ca) (hb : 1 ≤ cb) (hna : nlen 65536 V ≤ 1000000000) (hy : y < 65536)
    (hrda : Reads w .i64 aa (nlen 65536 V) (dig 65536 V)) (hrdb : Reads w .i64 ab 1 (fun _ => y)) :
    Calls Tryd.prog 46 #[.slice aa (nlen 65536 V) ca, .slice ab 1 cb] w fun e w' => ∃ v, e = .returned v ∧ Own w' w.heap.size 3 .i64 v (nlen 65536 (V * y)) (dig 65536 (V * y)) ∧ Below w.heap.size w w' := by
  obtain ⟨i0, hi, hz0, hz1, hz2⟩ := info_parts info_int
  have hVv : val 65536 (dig 65536 V) (nlen 65536 V) = V := val_nlen (by omega) V
  obtain ⟨n, hn⟩ : ∃ n, n = nlen 65536 V := ⟨_, rfl⟩
  rw [← hn] at ha hna hrda hVv ⊢
  obtain ⟨f, hf⟩ : ∃ f, f = dig 65536 V := ⟨_, rfl⟩
  rw [← hf] at hrda hVv
  have hfl : ∀ j, f j < 65536 := fun j => by rw [hf]; exact dig_lt (by omega) _ _
  have R := Lib.hid (And.intro hrda (And.intro hrdb (And.intro hVv hfl)))
  clear hrda hrdb hVv hfl hn hf
  go_enter Tryd.func46, Tryd.ntmps46
  go_wp2_with (at_make; refine wpList_make_room _ rfl (.tmp 15) (.tmp 15) 27 rfl w.heap.size 3 i0 .i64 Tryd.underlying27 hi hz0 hz1 .i64 .i64 ((n : Int) + 1) ((n : Int) + 1) (n + 1) (n + 1) rfl rfl (by omega) (by omega) (by omega) (by rw [hz2]; omega) (by omega) (Nat.le_refl _) ?_; intro w1 hown1 hgrow1)
  obtain ⟨g, hg⟩ : ∃ g, g = w.heap.size := ⟨_, rfl⟩
  have O0 := Lib.hid (And.intro (show Own w1 w.heap.size 3 .i64 (.slice (some ⟨g, 0, none⟩) (n + 1) (n + 1)) (n + 1) (krow f y 0) from by
    rw [hg]
    exact hown1.congr fun j _ => by
      unfold krow
      rw [if_neg (Nat.not_lt_zero j)]
      split <;> rfl) (And.intro hgrow1 hg))
  clear hown1 hgrow1
  rw [← hg]
  clear hg
  go_loopw [19] (fun ti wr => ∃ i : Nat, i ≤ n ∧ ti = .int .i64 i ∧ Own wr w.heap.size 3 .i64 (.slice (some ⟨g, 0, none⟩) (n + 1) (n + 1)) (n + 1) (krow f y i) ∧ Below w.heap.size w wr) (fun ti _ => n - (intOf ti).toNat)
  case atStart => exact ⟨0, Nat.zero_le _, rfl, O0.out.1, (Below.refl _ _).grown O0.out.2.1 (Nat.le_refl _) (by simp)⟩
  case round =>
    obtain ⟨i, hin, rfl, own, bel⟩ := hrel
    by_cases h1 : i < n
    · obtain ⟨ba, oa, rfl, hca0⟩ := R.out.1 i h1
      obtain ⟨bb, ob, rfl, hcb0⟩ := R.out.2.1 0 (by omega)
      have hca := (bel.cell (World.block_lt_of_cell? _ _ hca0)).trans hca0
      have hcb := (bel.cell (World.block_lt_of_cell? _ _ hcb0)).trans hcb0
      rw [Nat.add_zero] at hcb
      obtain ⟨x, hx⟩ : ∃ x, x = f i := ⟨_, rfl⟩
      obtain ⟨c, hc⟩ : ∃ x, x = kcar f y i := ⟨_, rfl⟩
      have hxl : x < 65536 := by rw [hx]; exact R.out.2.2.2 i
      have hcl : c < 65536 := by rw [hc]; exact kcar_lt hy R.out.2.2.2 i
      have hPl : x * y ≤ 65535 * 65535 := Nat.mul_le_mul (by omega) (by omega)
      obtain ⟨P, hP⟩ : ∃ x', x' = x * y := ⟨_, rfl⟩
      have eP : (x : Int) * (y : Int) = (P : Int) := by rw [hP, Int.natCast_mul]
      rw [← hP] at hPl
      obtain ⟨s, hs⟩ : ∃ s, s = (c + P) % 65536 := ⟨_, rfl⟩
      obtain ⟨q, hq⟩ : ∃ s, s = (c + P) / 65536 := ⟨_, rfl⟩
      have hmod : ((c : Int) + (P : Int)) % 65536 = (s : Int) := by omega
      have hdiv : ((c : Int) + (P : Int)) / 65536 = (q : Int) := by omega
      have hout0 := own.cell i (by omega)
      have hout1 := own.cell (i + 1) (by omega)
      have hki : krow f y i i = c := by unfold krow; rw [if_neg (Nat.lt_irrefl i), if_pos rfl, hc]
      rw [hki] at hout0
      have hf0 := own.free i
      have hf1 := own.free (i + 1)
      rw [← hx] at hca
      have own3 : Own ((wr.setCell ⟨g, i, none⟩ (.int .i64 s)).setCell ⟨g, i + 1, none⟩ (.int .i64 q)) w.heap.size 3 .i64 (.slice (some ⟨g, 0, none⟩) (n + 1) (n + 1)) (n + 1) (krow f y (i + 1)) :=
        ((own.stored i s).stored (i + 1) q).congr fun j _ => krow_succ (by rw [hs, hP, hx, hc, Nat.add_comm]) (by rw [hq, hP, hx, hc, Nat.add_comm]) j
      have bel3 : Below w.heap.size w ((wr.setCell ⟨g, i, none⟩ (.int .i64 s)).setCell ⟨g, i + 1, none⟩ (.int .i64 q)) :=
        (bel.setCell (p := ⟨g, i, none⟩) (by show _ ≤ g; have := O0.out.2.2; omega) _).setCell (p := ⟨g, i + 1, none⟩) (by show _ ≤ g; have := O0.out.2.2; omega) _
      have G := Lib.hid (And.intro own3 bel3)
      have hcap : (i : Int) + 1 < (n : Int) + 1 := by omega
      clear own bel own3 bel3 hca0 hcb0 hx hc hP hs hq hki O0
      go_wp2
      refine wp_loop_rounds 2 ?_
      rw [rounds_succ]
      go_wp2
      rw [rounds_succ]
      go_wp2
      go_roundw
      case rel =>
        go_light
        exact ⟨i + 1, by omega, by go_num, G.out.1, G.out.2⟩
      case measure => simp [intOf]; omega
    · obtain rfl : i = n := by omega
      have KC := Lib.hid (cut_any (some ⟨g, 0, none⟩) (i + 1) (i + 1) _ wr (Nat.le_refl _) (by omega) (Reads.of_own own))
      have F := Lib.hid (And.intro own bel)
      clear own bel O0
      go_wp2_with fail
      refine KC.out.mono ?_
      rintro e w2 ⟨rfl, rfl⟩
      go_wp2
      go_ret
      refine ⟨_, rfl, ?_, F.out.2⟩
      exact own_cut (B := 65536) (by omega) F.out.1 (fun j _ => krow_lt hy R.out.2.2.2 j) (by rw [krow_val, R.out.2.2.1])

end Go.Proofs.YtidifjmjbfhpaaaDoor
