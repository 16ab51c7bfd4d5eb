/- The small methods of *Int: SetBytes, SetBits, Bits, Sign, Set and Neg of a number by itself. -/
import Derived.Test.YtidifjmjbfhpaaaDoorBase
import Derived.Test.YtidifjmjbfhpaaaDoorInfo
import Derived.Test.YtidifjmjbfhpaaaDoorNorm
import Derived.Lib.Builder
namespace Go.Proofs.YtidifjmjbfhpaaaDoor
set_option linter.unusedVariables false
set_option maxRecDepth 20000
set_option linter.unusedSimpArgs false
open Go.RowKit

theorem sign_any (p : Nat) (neg : Bool) (ao : Option Addr) (n cap : Nat) (w : World) (h : Pair w p 72 (.bool neg) (.slice ao n cap)) :
    Calls Tryd.prog 66 #[.pointer (some ⟨p, 0, none⟩)] w fun e w' => e = .returned (.int .i64 (if n = 0 then 0 else if neg then -1 else 1)) ∧ w = w' := by
  have h0 := h.cell0
  have h1 := h.cell1
  cases n with
  | zero =>
    go_enter Tryd.func66, Tryd.ntmps66
    go_wp2
    go_ret
    exact ⟨rfl, rfl⟩
  | succ n =>
    have hn : ((n : Int) + 1 == 0) = false := by simp; omega
    cases neg
    all_goals
      go_enter Tryd.func66, Tryd.ntmps66
      go_wp2
      go_ret
      exact ⟨rfl, rfl⟩

theorem bits_any (p : Nat) (a v : Value) (w : World) (h : Pair w p 72 a v) :
    Calls Tryd.prog 67 #[.pointer (some ⟨p, 0, none⟩)] w fun e w' => e = .returned v ∧ w = w' := by
  have h1 := h.cell1
  go_enter Tryd.func67, Tryd.ntmps67
  go_wp2
  go_ret
  exact ⟨rfl, rfl⟩

theorem setBits_any (p : Nat) (a v0 : Value) (ao : Option Addr) (n cap : Nat) (f : Nat → Nat) (w : World) (h : Pair w p 72 a v0) (hn : n ≤ cap) (hb : n ≤ 9223372036854775807) (hr : Reads w .u64 ao n f) :
    Calls Tryd.prog 54 #[.pointer (some ⟨p, 0, none⟩), .slice ao n cap] w fun e w' => e = .returned (.pointer (some ⟨p, 0, none⟩)) ∧ Pair w' p 72 (.bool false) (.slice ao (clen f n) cap) ∧ w.grownBy w' (some p) := by
  have h0 := h.cell0
  have h1 := h.cell1
  have f0 := h.free 0
  have f1 := h.free 1
  go_enter Tryd.func54, Tryd.ntmps54
  go_wp2_with fail
  refine (norm_any _ _ _ f _ hn hb hr).mono ?_
  rintro e w' ⟨rfl, rfl⟩
  clear hr
  have g1 := (h.set1 (.slice ao (clen f n) cap)).set0 (.bool false)
  have g2 := grown_trans (grown_setCell w ⟨p, 1, none⟩ (.slice ao (clen f n) cap)) (grown_setCell _ ⟨p, 0, none⟩ (.bool false))
  have G1 := Lib.hid (And.intro g1 g2)
  clear g1 g2 h
  go_wp2
  go_ret
  exact ⟨rfl, G1.out.1, G1.out.2⟩

theorem set_self (p : Nat) (w : World) :
    Calls Tryd.prog 73 #[.pointer (some ⟨p, 0, none⟩), .pointer (some ⟨p, 0, none⟩)] w fun e w' => e = .returned (.pointer (some ⟨p, 0, none⟩)) ∧ w = w' := by
  obtain ⟨j, hj⟩ : ∃ j, Tryd.prog.info? 72 = some j := Option.isSome_iff_exists.1 (by kernel_rfl)
  have hq := fun w => Lib.run_neq_ptr_same (P := Tryd.prog) w (tp := 58) ⟨p, 0, none⟩ Tryd.underlying58 hj
  go_enter Tryd.func73, Tryd.ntmps73
  go_wp2
  go_ret
  exact ⟨rfl, rfl⟩

theorem neg_self (p : Nat) (neg : Bool) (ao : Option Addr) (n cap : Nat) (w : World) (h : Pair w p 72 (.bool neg) (.slice ao n cap)) :
    Calls Tryd.prog 55 #[.pointer (some ⟨p, 0, none⟩), .pointer (some ⟨p, 0, none⟩)] w fun e w' => e = .returned (.pointer (some ⟨p, 0, none⟩)) ∧ Pair w' p 72 (.bool (decide (0 < n) && !neg)) (.slice ao n cap) ∧ w.grownBy w' (some p) := by
  have h0 := h.cell0
  have h1 := h.cell1
  have f0 := h.free 0
  have hnot : ∀ (x : Bool) (w : World), (Op.unary .not (.bool x)).run Tryd.prog w = .ok (.bool (!x)) w := fun _ _ => rfl
  have g1 := h.set0 (.bool (decide (0 < n) && !neg))
  have g2 := grown_setCell w ⟨p, 0, none⟩ (.bool (decide (0 < n) && !neg))
  have G1 := Lib.hid (And.intro g1 g2)
  clear g1 g2 h
  by_cases hn : 0 < n
  · rw [show decide (0 < n) = true by simpa using hn, Bool.true_and] at G1 ⊢
    have hd : (0 : Int) < (n : Int) := by omega
    go_enter Tryd.func55, Tryd.ntmps55
    go_wp2_with fail
    refine (set_self p _).mono ?_
    rintro e w' ⟨rfl, rfl⟩
    go_wp2
    go_ret
    exact ⟨rfl, G1.out.1, G1.out.2⟩
  · obtain rfl : n = 0 := by omega
    go_enter Tryd.func55, Tryd.ntmps55
    go_wp2_with fail
    refine (set_self p _).mono ?_
    rintro e w' ⟨rfl, rfl⟩
    go_wp2
    go_ret
    exact ⟨rfl, G1.out.1, G1.out.2⟩

end Go.Proofs.YtidifjmjbfhpaaaDoor
