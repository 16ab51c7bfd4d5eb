/- spec.IsNat: whether a Number is a natural number, as it is told. -/
import Derived.Test.YtidifjmjbfhpaaaBase
import Derived.Test.YtidifjmjbfhpaaaIs
namespace Go.Proofs.Ytidifjmjbfhpaaa
set_option linter.unusedVariables false
set_option linter.unusedSimpArgs false
open Go.RowKit

theorem isNat_any (xn : Bool) (ax av : Option Addr) (nx cx V cv : Nat) (fx : Nat → Nat) (w : World) (hbx : nx ≤ 2147483647) (hnv : nlen 65536 V ≤ cv) (hmv : nlen 65536 V ≤ 17179869184)
    (hx : Reads w .u64 ax nx fx) (hv : Reads w .i64 av (nlen 65536 V) (dig 65536 V)) :
    Calls Try.prog 6 #[.agg #[.bool xn, .slice ax nx cx], .slice av (nlen 65536 V) cv] w fun e w' => ∃ r : Bool, e = .returned (.bool r) ∧ (r = true ↔ Same xn nx fx false V) ∧ Below w.heap.size w w' := by
  have b0 := (Below.refl w.heap.size w).alloc (Nat.le_refl _) (.cells #[.bool xn, .slice ax nx cx] 26)
  have K := Lib.hid (is_any xn false ax av nx cx V cv fx _ hbx hnv hmv (hx.below b0) (hv.below b0))
  have B0 := Lib.hid b0
  clear hx hv b0
  go_enter Try.func6, Try.ntmps6
  go_wp2_with fail
  refine K.out.mono ?_
  rintro e w1 ⟨r, rfl, hr, bel⟩
  have F := Lib.hid (And.intro hr (B0.out.trans (bel.mono (by simp))))
  clear hr bel K
  go_wp2
  go_ret
  exact ⟨_, rfl, F.out.1, F.out.2⟩

end Go.Proofs.Ytidifjmjbfhpaaa
