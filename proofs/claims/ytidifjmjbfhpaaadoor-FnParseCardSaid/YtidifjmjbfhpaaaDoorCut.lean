/- spec.cut: the same slice, without digits 0 at its end. -/
import Derived.Test.YtidifjmjbfhpaaaDoorBase
import Derived.Test.YtidifjmjbfhpaaaDoorRows
namespace Go.Proofs.YtidifjmjbfhpaaaDoor
set_option linter.unusedVariables false
set_option maxRecDepth 20000
set_option linter.unusedSimpArgs false
open Go.RowKit

set_option maxHeartbeats 400000 in
theorem cut_some (b o n cap : Nat) (f : Nat → Nat) (w : World) (hn : n ≤ cap) (hb : n ≤ 9223372036854775807)
    (hc : ∀ i, i < n → w.cell? ⟨b, o + i, none⟩ = some (.int .i64 (f i))) :
    Calls Tryd.prog 53 #[.slice (some ⟨b, o, none⟩) n cap] w fun e w' => e = .returned (.slice (some ⟨b, o, none⟩) (clen f n) cap) ∧ w = w' := by
  go_enter Tryd.func53, Tryd.ntmps53
  go_wp2
  go_loop [0] (fun t => ∃ k : Nat, k ≤ n ∧ t = .slice (some ⟨b, o, none⟩) k cap ∧ clen f k = clen f n) (fun t => match t with | .slice _ k _ => k | _ => 0)
  case atStart => exact ⟨n, Nat.le_refl _, rfl, rfl⟩
  case round =>
    obtain ⟨k, hk, rfl, hcl⟩ := hrel
    cases k with
    | zero =>
      go_wp2
      go_ret
      exact ⟨ret_slice hcl, rfl⟩
    | succ k =>
      have hcell := hc k (by omega)
      by_cases h0 : f k = 0
      · have hd : ((f k : Int) == 0) = true := by simp [h0]
        have H0 := Lib.hid h0
        clear h0
        go_wp2
        go_round
        case rel => exact ⟨k, by omega, rfl, by rw [← hcl, clen_zero _ _ H0.out]⟩
        case measure => simp
      · have hd : ((f k : Int) == 0) = false := by simp; omega
        go_wp2
        go_ret
        exact ⟨ret_slice (by rw [← hcl, clen_some _ _ h0]), rfl⟩

theorem cut_none (ao : Option Addr) (cap : Nat) (w : World) :
    Calls Tryd.prog 53 #[.slice ao 0 cap] w fun e w' => e = .returned (.slice ao 0 cap) ∧ w = w' := by
  go_enter Tryd.func53, Tryd.ntmps53
  go_wp2
  refine wp_loop_rounds 1 ?_
  rw [rounds_succ]
  go_wp2
  go_ret
  exact ⟨rfl, rfl⟩

/-- spec.cut of a slice whose digits are f 0, f 1, ..: the same slice, shorter by the zeros at its end; nothing turns. -/
theorem cut_any (ao : Option Addr) (n cap : Nat) (f : Nat → Nat) (w : World) (hn : n ≤ cap) (hb : n ≤ 9223372036854775807) (hr : Reads w .i64 ao n f) :
    Calls Tryd.prog 53 #[.slice ao n cap] w fun e w' => e = .returned (.slice ao (clen f n) cap) ∧ w = w' := by
  cases n with
  | zero => exact cut_none ao cap w
  | succ n =>
    obtain ⟨b, o, rfl, _⟩ := hr n (by omega)
    refine cut_some b o (n + 1) cap f w hn hb fun i hi => ?_
    obtain ⟨b', o', h1, h2⟩ := hr i hi
    obtain ⟨rfl⟩ := h1
    exact h2

end Go.Proofs.YtidifjmjbfhpaaaDoor
