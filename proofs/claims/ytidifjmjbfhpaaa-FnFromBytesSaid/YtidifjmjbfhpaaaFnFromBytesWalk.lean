/- laws.FnFromBytes returns true, whatever bytes it is called with. -/
import Derived.Test.YtidifjmjbfhpaaaBase
import Derived.Test.YtidifjmjbfhpaaaIsNat
import Derived.Test.YtidifjmjbfhpaaaFromBytes
import Derived.Test.YtidifjmjbfhpaaaOfBytes
namespace Go.Proofs.Ytidifjmjbfhpaaa
set_option linter.unusedVariables false
set_option linter.unusedSimpArgs false
open Go.RowKit

theorem fnFromBytes_walk (ao : Option Addr) (n cap : Nat) (f : Nat → Nat) (hf : ∀ i, f i < 256) (w : World) (hn : n ≤ cap) (hnil : ao = none → cap = 0) (hcap : cap ≤ 9223372036854775807) (hrd : Reads w .u8 ao n f) :
    Calls Try.prog 3 #[.slice ao n cap] w fun e w' => e = .returned (.bool true) ∧ Below w.heap.size w w' := by
  by_cases h1 : 2147483647 < n
  · have hd : (2147483647 : Int) < (n : Int) := by omega
    clear hrd
    go_enter Try.func3, Try.ntmps3
    go_wp2
    go_ret
    exact ⟨rfl, Below.refl _ _⟩
  · by_cases h2 : 800 < n
    · have hd : (800 : Int) < (n : Int) := by omega
      have hd1 : ¬ (2147483647 : Int) < (n : Int) := by omega
      clear hrd
      go_enter Try.func3, Try.ntmps3
      go_wp2
      go_ret
      exact ⟨rfl, Below.refl _ _⟩
    · have hd : ¬ (800 : Int) < (n : Int) := by omega
      have hd1 : ¬ (2147483647 : Int) < (n : Int) := by omega
      have K1 := Lib.hid (fromBytes_any ao n cap f hf w hn hnil (by omega) hrd)
      have HRD := Lib.hid hrd
      clear hrd
      go_enter Try.func3, Try.ntmps3
      go_wp2_with fail
      refine K1.out.mono ?_
      rintro e w1 ⟨v1, rfl, own1, bel1⟩
      have K2 := Lib.hid (ofBytes_any ao n cap f hf w1 hn (by omega) (HRD.out.below bel1))
      obtain ⟨a1, c1, rfl, hle1, hcm1, hrd1, hlt1⟩ := own1.parts
      have F1 := Lib.hid (And.intro own1 bel1)
      have HRD1 := Lib.hid hrd1
      clear own1 bel1 hlt1 hrd1 K1
      go_wp2_with fail
      refine K2.out.mono ?_
      rintro e w2 ⟨v2, rfl, own2, bel2⟩
      obtain ⟨a2, c2, rfl, hle2, hcm2, hrd2, hlt2⟩ := own2.parts
      have hlt : bval f n < 256 ^ n := bval_lt hf n
      have hl1 : nlen BW (bval f n) ≤ n := by
        rw [nlen_le_iff BW_one]; exact Nat.lt_of_lt_of_le hlt (Nat.pow_le_pow_left (by rw [BW_eq]; omega) n)
      have hl2 : nlen 65536 (bval f n) ≤ n := by
        rw [nlen_le_iff (by omega)]; exact Nat.lt_of_lt_of_le hlt (Nat.pow_le_pow_left (by omega) n)
      have K3 := Lib.hid (isNat_any false a1 a2 (nlen BW (bval f n)) c1 (bval f n) c2 (dig BW (bval f n)) w2 (by omega) hle2 (by omega) (HRD1.out.below bel2) hrd2)
      have F2 := Lib.hid (F1.out.2.trans (bel2.mono F1.out.2.size))
      clear own2 bel2 hlt2 hrd2 K2
      go_wp2_with fail
      refine K3.out.mono ?_
      rintro e w3 ⟨r, rfl, hr, bel3⟩
      obtain rfl : r = true := hr.2 ⟨rfl, rfl, fun i _ => rfl⟩
      have F3 := Lib.hid (F2.out.trans (bel3.mono F2.out.size))
      clear hr bel3 K3
      go_wp2
      go_ret
      exact ⟨rfl, F3.out⟩

end Go.Proofs.Ytidifjmjbfhpaaa
