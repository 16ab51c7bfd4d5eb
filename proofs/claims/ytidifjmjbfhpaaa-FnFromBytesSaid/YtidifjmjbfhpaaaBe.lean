/- bigEndianWord and what it calls: the number of eight bytes, the highest first. -/
import Derived.Test.YtidifjmjbfhpaaaBase
import Derived.Test.YtidifjmjbfhpaaaRows
namespace Go.Proofs.Ytidifjmjbfhpaaa
set_option linter.unusedVariables false
set_option linter.unusedSimpArgs false
open Go.RowKit

theorem be32_any (b o n cap : Nat) (y0 y1 y2 y3 : Nat) (w : World) (hn : 4 ≤ n)
    (h0 : y0 < 256) (h1 : y1 < 256) (h2 : y2 < 256) (h3 : y3 < 256)
    (c0 : w.cell? ⟨b, o, none⟩ = some (.int .u8 y0)) (c1 : w.cell? ⟨b, o + 1, none⟩ = some (.int .u8 y1)) (c2 : w.cell? ⟨b, o + 2, none⟩ = some (.int .u8 y2)) (c3 : w.cell? ⟨b, o + 3, none⟩ = some (.int .u8 y3)) :
    Calls Try.prog 40 #[.slice (some ⟨b, o, none⟩) n cap] w fun e w' => e = .returned (.int .u32 ((y3 + 256 * y2 + 65536 * y1 + 16777216 * y0 : Nat) : Int)) ∧ ∃ nq, w' = w.drewN nq := by
  have q0 : 0 < n := by omega
  have q1 : (1 : Int) < (n : Int) := by omega
  have q2 : (2 : Int) < (n : Int) := by omega
  have q3 : (3 : Int) < (n : Int) := by omega
  go_enter Try.func40, Try.ntmps40
  go_wp2
  go_quiet (fail)
  go_wp2
  go_ret
  go_light
  refine ⟨ret_int ?_, _, rfl⟩
  simp (disch := omega) only [u32_wrap_id, u32_or8, u32_or16, u32_or24]
  omega

theorem be64_any (b o cap : Nat) (y0 y1 y2 y3 y4 y5 y6 y7 : Nat) (w : World) (hcap : 8 ≤ cap)
    (h0 : y0 < 256) (h1 : y1 < 256) (h2 : y2 < 256) (h3 : y3 < 256) (h4 : y4 < 256) (h5 : y5 < 256) (h6 : y6 < 256) (h7 : y7 < 256)
    (c0 : w.cell? ⟨b, o, none⟩ = some (.int .u8 y0)) (c1 : w.cell? ⟨b, o + 1, none⟩ = some (.int .u8 y1)) (c2 : w.cell? ⟨b, o + 2, none⟩ = some (.int .u8 y2)) (c3 : w.cell? ⟨b, o + 3, none⟩ = some (.int .u8 y3))
    (c4 : w.cell? ⟨b, o + 4, none⟩ = some (.int .u8 y4)) (c5 : w.cell? ⟨b, o + 5, none⟩ = some (.int .u8 y5)) (c6 : w.cell? ⟨b, o + 6, none⟩ = some (.int .u8 y6)) (c7 : w.cell? ⟨b, o + 7, none⟩ = some (.int .u8 y7)) :
    Calls Try.prog 39 #[.slice (some ⟨b, o, none⟩) 8 cap] w fun e w' => e = .returned (.int .u64 ((y7 + 256 * y6 + 65536 * y5 + 16777216 * y4 + 4294967296 * (y3 + 256 * y2 + 65536 * y1 + 16777216 * y0) : Nat) : Int)) ∧ ∃ nq, w' = w.drewN nq := by
  have hne : ¬ cap = 4 := by omega
  go_enter Try.func39, Try.ntmps39
  have k1 : ∀ x : Nat, Calls Try.prog 40 #[.slice (some ⟨b, o, none⟩) 8 cap] (w.drewN x) fun e w' => e = .returned (.int .u32 ((y3 + 256 * y2 + 65536 * y1 + 16777216 * y0 : Nat) : Int)) ∧ ∃ nq, w' = w.drewN nq := fun x =>
    Calls.quiet_of (be32_any b o 8 cap y0 y1 y2 y3 (w.drewN x) (by omega) h0 h1 h2 h3 c0 c1 c2 c3)
  have k2 : ∀ x : Nat, Calls Try.prog 40 #[.slice (some ⟨b, o + 4, none⟩) 4 (cap - 4)] (w.drewN x) fun e w' => e = .returned (.int .u32 ((y7 + 256 * y6 + 65536 * y5 + 16777216 * y4 : Nat) : Int)) ∧ ∃ nq, w' = w.drewN nq := fun x =>
    Calls.quiet_of (be32_any b (o + 4) 4 (cap - 4) y4 y5 y6 y7 (w.drewN x) (by omega) h4 h5 h6 h7 c4 c5 c6 c7)
  have K1 := Lib.hid k1
  have K2 := Lib.hid k2
  clear k1 k2
  go_wp2
  go_quiet ((first | (go_at_call 40; with_reducible exact K1.out _) | (go_at_call 40; with_reducible exact K2.out _)))
  go_wp2
  go_ret
  go_light
  refine ⟨ret_int ?_, _, rfl⟩
  rw [bits_join .u64 64 (by decide) wraps_u64 32 _ _ (by omega) (by omega) (by omega) (by omega) (by omega) (by omega)]
  omega

/-- bigEndianWord: the number of the first eight bytes, the highest first. -/
theorem beWord_any (b o cap : Nat) (g : Nat → Nat) (hg : ∀ i, g i < 256) (w : World) (hcap : 8 ≤ cap)
    (c : ∀ i, i < 8 → w.cell? ⟨b, o + i, none⟩ = some (.int .u8 (g i))) :
    Calls Try.prog 36 #[.slice (some ⟨b, o, none⟩) 8 cap] w fun e w' => e = .returned (.int .u64 ((bval g 8 : Nat) : Int)) ∧ ∃ nq, w' = w.drewN nq := by
  have k := be64_any b o cap (g 0) (g 1) (g 2) (g 3) (g 4) (g 5) (g 6) (g 7) w hcap (hg _) (hg _) (hg _) (hg _) (hg _) (hg _) (hg _) (hg _)
    (c 0 (by omega)) (c 1 (by omega)) (c 2 (by omega)) (c 3 (by omega)) (c 4 (by omega)) (c 5 (by omega)) (c 6 (by omega)) (c 7 (by omega))
  rw [← bval_eight g] at k
  have K := Lib.hid k
  clear k c hg
  go_enter Try.func36, Try.ntmps36
  go_wp2_with fail
  refine K.out.mono ?_
  rintro e w' ⟨rfl, nq, rfl⟩
  go_wp2
  go_ret
  exact ⟨rfl, _, rfl⟩

end Go.Proofs.Ytidifjmjbfhpaaa
