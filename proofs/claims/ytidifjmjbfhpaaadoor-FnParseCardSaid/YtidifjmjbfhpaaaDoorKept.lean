/- spec.Is, spec.In, spec.Bit: contracts for regions that hold several calls. -/
import Derived.Test.YtidifjmjbfhpaaaDoorIs
import Derived.Test.YtidifjmjbfhpaaaDoorIntNew
import Derived.Test.YtidifjmjbfhpaaaDoorSpecSmall
import Derived.Test.YtidifjmjbfhpaaaDoorSpecSums
namespace Go.Proofs.YtidifjmjbfhpaaaDoor
set_option linter.unusedVariables false
set_option maxRecDepth 20000
set_option linter.unusedSimpArgs false
open Go.RowKit

theorem same_of_eq {xn vn : Bool} {R R' : Nat} (h1 : xn = vn) (h2 : R = R') (hp : vn = true → 1 ≤ R') : Same xn (nlen BW R) (dig BW R) vn R' := by
  subst h1 h2
  refine ⟨rfl, ?_, fun _ _ => rfl⟩
  cases xn
  · rfl
  · have := hp rfl
    simp; omega

theorem is_yes (xn vn : Bool) (ax av : Option Addr) (nx cx V cv : Nat) (fx : Nat → Nat) (w : World) (hbx : nx ≤ 2147483647) (hnv : nlen 65536 V ≤ cv) (hmv : nlen 65536 V ≤ 17179869184)
    (hx : Reads w .u64 ax nx fx) (hv : Reads w .i64 av (nlen 65536 V) (dig 65536 V)) (hs : Same xn nx fx vn V) :
    Calls Tryd.prog 19 #[.agg #[.bool xn, .slice ax nx cx], .agg #[.bool vn, .slice av (nlen 65536 V) cv]] w fun e w' => e = .returned (.bool true) ∧ Below w.heap.size w w' :=
  (is_any xn vn ax av nx cx V cv fx w hbx hnv hmv hx hv).mono fun e w' ⟨r, he, hr, bel⟩ => ⟨by rw [he, hr.2 hs], bel⟩

def InPost (w0 : World) (sg : Bool) (V : Nat) (W : World) (e : Ending) (w' : World) : Prop :=
  ∃ aa ca, e = .returned (.agg #[.bool sg, .slice aa (nlen 65536 V) ca]) ∧ nlen 65536 V ≤ ca ∧ (∀ W', Below w'.heap.size w' W' → Reads W' .i64 aa (nlen 65536 V) (dig 65536 V)) ∧ Below W.heap.size W w' ∧ Below w0.heap.size w0 w'

theorem in_kept (neg : Bool) (ao : Option Addr) (n cap : Nat) (f : Nat → Nat) (hf : ∀ i, i < n → f i < BW) (w0 : World) (hn : n ≤ cap) (hb : n ≤ 2147483647) (hrd : Reads w0 .u64 ao n f) (W : World) (hW : Below w0.heap.size w0 W) :
    Calls Tryd.prog 11 #[.agg #[.bool neg, .slice ao n cap]] W (InPost w0 (sgn neg (val BW f n)) (val BW f n) W) := by
  refine (in_any neg ao n cap f hf W hn hb (hrd.below hW)).mono ?_
  rintro e w' ⟨v, rfl, own, bel⟩
  obtain ⟨aa, ca, rfl, hle, hcm, hrd', hlt⟩ := own.parts
  exact ⟨aa, ca, rfl, hle, fun W' h => hrd'.below h, bel, below_trans hW bel⟩

def BitPost (w0 : World) (V : Nat) (W : World) (e : Ending) (w' : World) : Prop :=
  ∃ aa ca, e = .returned (.slice aa (nlen 65536 V) ca) ∧ nlen 65536 V ≤ ca ∧ (∀ W', Below w'.heap.size w' W' → Reads W' .i64 aa (nlen 65536 V) (dig 65536 V)) ∧ Below W.heap.size W w' ∧ Below w0.heap.size w0 w'

theorem bit_kept (k : Nat) (hk : k ≤ 1000000) (w0 W : World) (hW : Below w0.heap.size w0 W) : Calls Tryd.prog 17 #[.int .i64 k] W (BitPost w0 (2 ^ k) W) := by
  refine (specBit_any k W hk).mono ?_
  rintro e w' ⟨v, rfl, own, bel⟩
  obtain ⟨aa, ca, rfl, hle, hcm, hrd', hlt⟩ := own.parts
  exact ⟨aa, ca, rfl, hle, fun W' h => hrd'.below h, bel, below_trans hW bel⟩

end Go.Proofs.YtidifjmjbfhpaaaDoor
