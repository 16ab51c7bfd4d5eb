/- spec.Joined: two numbers joined bit by bit, in two's complement, by a table; its closure. -/
import Derived.Test.YtidifjmjbfhpaaaDoorSpecBit2
namespace Go.Proofs.YtidifjmjbfhpaaaDoor
set_option linter.unusedVariables false
set_option maxRecDepth 20000
set_option linter.unusedSimpArgs false
open Go.RowKit

/-- What the table gives at bit i of two numbers. -/
def jat (T : Nat → Bool) (na : Bool) (V : Nat) (nb : Bool) (U i : Nat) : Bool := T ((if tb na V i then 2 else 0) + (if tb nb U i then 1 else 0))

/-- Two numbers and a table lie in three blocks. -/
def JArgs (w : World) (pa pb pt : Nat) (T : Nat → Bool) (na : Bool) (aa : Option Addr) (V ca : Nat) (nb : Bool) (ab : Option Addr) (U cb : Nat) : Prop :=
  Pair w pa 29 (.bool na) (.slice aa (nlen 65536 V) ca) ∧ Pair w pb 29 (.bool nb) (.slice ab (nlen 65536 U) cb) ∧
  w.heap[pt]? = some (.cells #[.bool (T 0), .bool (T 1), .bool (T 2), .bool (T 3)] 40 (0, 0)) ∧ Reads w .i64 aa (nlen 65536 V) (dig 65536 V) ∧ Reads w .i64 ab (nlen 65536 U) (dig 65536 U)

theorem JArgs.below {w w' : World} {pa pb pt : Nat} {T : Nat → Bool} {na : Bool} {aa : Option Addr} {V ca : Nat} {nb : Bool} {ab : Option Addr} {U cb : Nat}
    (h : JArgs w pa pb pt T na aa V ca nb ab U cb) (hb : Below w.heap.size w w') : JArgs w' pa pb pt T na aa V ca nb ab U cb :=
  ⟨h.1.below hb h.1.lt, h.2.1.below hb h.2.1.lt, by rw [hb.block pt (lt_of_block h.2.2.1)]; exact h.2.2.1, h.2.2.2.1.below hb, h.2.2.2.2.below hb⟩

theorem four_cell {w : World} {p : Nat} {a b c d : Value} {t : TypeId} (h : w.heap[p]? = some (.cells #[a, b, c, d] t (0, 0))) :
    w.cell? ⟨p, 0, none⟩ = some a ∧ w.cell? ⟨p, 1, none⟩ = some b ∧ w.cell? ⟨p, 2, none⟩ = some c ∧ w.cell? ⟨p, 3, none⟩ = some d := by
  simp [World.cell?, h]

set_option maxHeartbeats 1000000 in
theorem joinedAt_any (pa pb pt : Nat) (T : Nat → Bool) (na : Bool) (aa : Option Addr) (V ca : Nat) (nb : Bool) (ab : Option Addr) (U cb i : Nat) (w : World)
    (h : JArgs w pa pb pt T na aa V ca nb ab U cb) (hV : na = true → 1 ≤ V) (hU : nb = true → 1 ≤ U) (ha : nlen 65536 V ≤ ca) (hb : nlen 65536 U ≤ cb) (hna : nlen 65536 V ≤ 1000000000000) (hnb : nlen 65536 U ≤ 1000000000000) (hi : i ≤ 1000000000000) :
    Calls Tryd.prog 34 #[.int .i64 i, .pointer (some ⟨pa, 0, none⟩), .pointer (some ⟨pb, 0, none⟩), .pointer (some ⟨pt, 0, none⟩)] w fun e w' => e = .returned (.bool (jat T na V nb U i)) ∧ Below w.heap.size w w' := by
  have c0 := h.1.cell0
  have c1 := h.1.cell1
  have KA := Lib.hid (specBit2_any na aa V ca i w hV ha hna hi h.2.2.2.1)
  have KB := Lib.hid (fun w' (hb' : Below w.heap.size w w') => specBit2_any nb ab U cb i w' hU hb hnb hi (h.below hb').2.2.2.2)
  have H := Lib.hid h
  have hj : jat T na V nb U i = T ((if tb na V i then 2 else 0) + (if tb nb U i then 1 else 0)) := rfl
  have HJ := Lib.hid hj
  clear h hj
  go_enter Tryd.func34, Tryd.ntmps34
  go_wp2_with fail
  refine KA.out.mono ?_
  rintro e w1 ⟨rfl, b1⟩
  have d0 := (H.out.below b1).2.1.cell0
  have d1 := (H.out.below b1).2.1.cell1
  have K2 := Lib.hid (KB.out w1 b1)
  have B1 := Lib.hid b1
  clear c0 c1 KA KB b1
  cases ha1 : tb na V i
  all_goals
    go_wp2_with fail
    refine K2.out.mono ?_
    rintro e w2 ⟨rfl, b2⟩
    have b3 := below_trans B1.out b2
    obtain ⟨q0, q1, q2, q3⟩ := four_cell (H.out.below b3).2.2.1
    have B3 := Lib.hid b3
    clear b2 b3 K2 d0 d1
    cases hb1 : tb nb U i
    all_goals
      go_wp2
      go_ret
      exact ⟨by rw [HJ.out, ha1, hb1]; rfl, B3.out⟩

end Go.Proofs.YtidifjmjbfhpaaaDoor
