/- (nat).norm: the same slice, without words 0 at its end. -/
import Derived.Test.YtidifjmjbfhpaaaDoorBase
import Derived.Test.YtidifjmjbfhpaaaDoorRows
namespace Go.Proofs.YtidifjmjbfhpaaaDoor
set_option linter.unusedVariables false
set_option maxRecDepth 20000
set_option linter.unusedSimpArgs false
open Go.RowKit

theorem norm_some (b o n cap : Nat) (f : Nat → Nat) (w : World) (hn : n ≤ cap) (hb : n ≤ 9223372036854775807)
    (hc : ∀ i, i < n → w.cell? ⟨b, o + i, none⟩ = some (.int .u64 (f i))) :
    Calls Tryd.prog 72 #[.slice (some ⟨b, o, none⟩) n cap] w fun e w' => e = .returned (.slice (some ⟨b, o, none⟩) (clen f n) cap) ∧ w = w' := by
  go_enter Tryd.func72, Tryd.ntmps72
  go_wp2
  go_loop [3] (fun t => ∃ k : Nat, k ≤ n ∧ t = .int .i64 k ∧ clen f k = clen f n) (fun t => (intOf t).toNat)
  case atStart => exact ⟨n, Nat.le_refl _, rfl, rfl⟩
  case round =>
    obtain ⟨k, hk, rfl, hcl⟩ := hrel
    cases k with
    | zero =>
      go_wp2
      go_ret
      exact ⟨ret_slice hcl, rfl⟩
    | succ k =>
      have hcell := hc k (by omega)
      by_cases h0 : f k = 0
      · have hd : ((f k : Int) == 0) = true := by simp [h0]
        have H0 := Lib.hid h0
        clear h0
        go_wp2
        go_round
        case rel => exact ⟨k, by omega, by go_num, by rw [← hcl, clen_zero _ _ H0.out]⟩
        case measure => simp [intOf]
      · have hd : ((f k : Int) == 0) = false := by simp; omega
        have hcl2 : clen f n = k + 1 := by rw [← hcl, clen_some _ _ h0]
        have H := Lib.hid hcl2
        clear hcl2
        go_wp2
        go_ret
        exact ⟨ret_slice H.out.symm, rfl⟩

theorem norm_none (ao : Option Addr) (cap : Nat) (w : World) :
    Calls Tryd.prog 72 #[.slice ao 0 cap] w fun e w' => e = .returned (.slice ao 0 cap) ∧ w = w' := by
  go_enter Tryd.func72, Tryd.ntmps72
  go_wp2
  refine wp_loop_rounds 1 ?_
  rw [rounds_succ]
  go_wp2
  go_ret
  exact ⟨rfl, rfl⟩

/-- (nat).norm of a slice whose words are f 0, f 1, ..: the same slice, shorter by the zeros at its end; nothing turns. -/
theorem norm_any (ao : Option Addr) (n cap : Nat) (f : Nat → Nat) (w : World) (hn : n ≤ cap) (hb : n ≤ 9223372036854775807) (hr : Reads w .u64 ao n f) :
    Calls Tryd.prog 72 #[.slice ao n cap] w fun e w' => e = .returned (.slice ao (clen f n) cap) ∧ w = w' := by
  cases n with
  | zero => exact norm_none ao cap w
  | succ n =>
    obtain ⟨b, o, rfl, _⟩ := hr n (by omega)
    refine norm_some b o (n + 1) cap f w hn hb fun i hi => ?_
    obtain ⟨b', o', h1, h2⟩ := hr i hi
    obtain ⟨rfl⟩ := h1
    exact h2

end Go.Proofs.YtidifjmjbfhpaaaDoor
