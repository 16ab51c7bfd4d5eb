/- spec.Is: whether a Number is a value, as it is told; spec.IsNat. -/
import Derived.Test.YtidifjmjbfhpaaaDoorBase
import Derived.Test.YtidifjmjbfhpaaaDoorInfo
import Derived.Test.YtidifjmjbfhpaaaDoorWords
import Derived.BigRegion
namespace Go.Proofs.YtidifjmjbfhpaaaDoor
set_option linter.unusedVariables false
set_option maxRecDepth 20000
set_option linter.unusedSimpArgs false
open Go.RowKit

/-- What spec.Is tells of words f 0, f 1, .. (n of them), a sign, and a value with its sign. -/
def Same (xn : Bool) (n : Nat) (f : Nat → Nat) (vn : Bool) (V : Nat) : Prop := n = nlen BW V ∧ xn = (vn && decide (V ≠ 0)) ∧ ∀ i, i < n → f i = dig BW V i

set_option maxHeartbeats 1000000 in
theorem is_any (xn vn : Bool) (ax av : Option Addr) (nx cx V cv : Nat) (fx : Nat → Nat) (w : World) (hbx : nx ≤ 2147483647) (hnv : nlen 65536 V ≤ cv) (hmv : nlen 65536 V ≤ 17179869184)
    (hx : Reads w .u64 ax nx fx) (hv : Reads w .i64 av (nlen 65536 V) (dig 65536 V)) :
    Calls Tryd.prog 19 #[.agg #[.bool xn, .slice ax nx cx], .agg #[.bool vn, .slice av (nlen 65536 V) cv]] w fun e w' => ∃ r : Bool, e = .returned (.bool r) ∧ (r = true ↔ Same xn nx fx vn V) ∧ Below w.heap.size w w' := by
  obtain ⟨W0, hW0⟩ : ∃ W0, W0 = (w.alloc (.cells #[.bool xn, .slice ax nx cx] 24)).alloc (.cells #[.bool vn, .slice av (nlen 65536 V) cv] 29) := ⟨_, rfl⟩
  have bel0 : Below w.heap.size w W0 := by rw [hW0]; exact ((Below.refl _ _).alloc (Nat.le_refl _) _).alloc (by simp) _
  have p1 : Pair W0 w.heap.size 24 (.bool xn) (.slice ax nx cx) := by rw [hW0]; exact (Pair.new w _ _ _).alloc _
  have p2 : Pair W0 (w.heap.size + 1) 29 (.bool vn) (.slice av (nlen 65536 V) cv) := by rw [hW0]; have := Pair.new (w.alloc (.cells #[.bool xn, .slice ax nx cx] 24)) 29 (.bool vn) (.slice av (nlen 65536 V) cv); simpa using this
  have hsz : W0.heap.size = w.heap.size + 2 := by rw [hW0]; simp
  have K := Lib.hid (words_any av V cv W0 hnv hmv (hv.below bel0))
  rw [hW0] at K
  have HW := Lib.hid hW0
  have F0 := Lib.hid (And.intro bel0 (And.intro p1 (And.intro p2 hsz)))
  clear bel0 p1 p2 hW0 hsz
  go_enter Tryd.func19, Tryd.ntmps19
  go_wp2_with fail
  refine K.out.mono ?_
  rw [← HW.out]
  rintro e w1 ⟨v, rfl, own, bel⟩
  obtain ⟨bel0, p1, p2, hsz⟩ := F0.out
  have p1 := p1.below bel (by omega)
  have p2 := p2.below bel (by omega)
  have hbel : Below w.heap.size w w1 := bel0.trans (bel.mono (by omega))
  have hx1 := hx.below hbel
  obtain ⟨aw, cw, rfl, hle, hcm, hw1, _⟩ := own.parts
  have c10 := p1.cell0
  have c11 := p1.cell1
  have c20 := p2.cell0
  obtain ⟨m, hm⟩ : ∃ m, m = nlen BW V := ⟨_, rfl⟩
  rw [← hm] at own hle hw1 ⊢
  have HX1 := Lib.hid hx1
  have HW1 := Lib.hid hw1
  have BEL := Lib.hid hbel
  have HM := Lib.hid hm
  have hv0 : (0 < m) ↔ V ≠ 0 := by rw [hm]; have := nlen_eq_zero BW_one V; omega
  have HV0 := Lib.hid hv0
  clear own bel bel0 p1 p2 hx hv hx1 hw1 hbel hm hv0 K F0
  by_cases hlen : nx = m
  · have hd : ((nx : Int) != (m : Int)) = false := by simp [hlen]
    subst hlen
    have hfin : ∀ (r : Bool), xn = (vn && decide (0 < nx)) → ((r = true) ↔ ∀ i, i < nx → fx i = dig BW V i) → ((r = true) ↔ Same xn nx fx vn V) := by
      intro r h1 h2
      rw [h2]
      unfold Same
      have e : decide (0 < nx) = decide (V ≠ 0) := decide_eq_decide.2 HV0.out
      rw [← e]
      exact ⟨fun h => ⟨HM.out, h1, h⟩, fun h => h.2.2⟩
    have hnot : xn ≠ (vn && decide (0 < nx)) → ((false = true) ↔ Same xn nx fx vn V) := by
      intro h1
      have e : decide (0 < nx) = decide (V ≠ 0) := decide_eq_decide.2 HV0.out
      rw [e] at h1
      exact ⟨fun h => Bool.noConfusion h, fun h => absurd h.2.1 h1⟩
    have HF := Lib.hid (And.intro hfin hnot)
    clear hfin hnot
    rcases (show (0 < nx ∧ decide (0 < nx) = true) ∨ (¬ 0 < nx ∧ decide (0 < nx) = false) by by_cases h : 0 < nx <;> simp [h]) with ⟨h0, hz⟩ | ⟨h0, hz⟩
    all_goals
      cases xn
      all_goals
        cases vn
        all_goals
          go_wp2
          first
          | (go_ret
             refine ⟨false, rfl, HF.out.2 ?_, BEL.out⟩
             simp [hz])
          | (go_loopw [30] (fun t wr => ∃ i q : Nat, i ≤ nx ∧ t = .int .i64 i ∧ wr = w1.drewN q ∧ ∀ j, j < i → fx j = dig BW V j) (fun t _ => nx - (intOf t).toNat)
             case atStart => exact ⟨0, 0, by omega, rfl, rfl, fun j hj => by omega⟩
             case round =>
               obtain ⟨i, q, hin, rfl, rfl, hall⟩ := hrel
               by_cases hlt : i < nx
               · obtain ⟨b, o, rfl, hcx⟩ := HX1.out i hlt
                 obtain ⟨b2, o2, rfl, hcw⟩ := HW1.out i hlt
                 obtain ⟨x, hx⟩ : ∃ x, x = fx i := ⟨_, rfl⟩
                 obtain ⟨y, hy⟩ : ∃ y, y = dig BW V i := ⟨_, rfl⟩
                 rw [← hx] at hcx
                 rw [← hy] at hcw
                 have HXY := Lib.hid (And.intro hx hy)
                 have HALL := Lib.hid hall
                 clear hx hy hall
                 by_cases hxy : x = y
                 · have hd2 : ((x : Int) != (y : Int)) = false := by simp [hxy]
                   have HE := Lib.hid hxy
                   clear hxy
                   go_wp2
                   go_quiet (fail)
                   go_wp2
                   go_roundw
                   case rel =>
                     go_light
                     refine ⟨i + 1, _, by omega, by go_num, rfl, fun j hj => ?_⟩
                     by_cases e : j = i
                     · rw [e, ← HXY.out.1, ← HXY.out.2]; exact HE.out
                     · exact HALL.out j (by omega)
                   case measure => simp [intOf]; omega
                 · have hd2 : ((x : Int) != (y : Int)) = true := by simp; omega
                   go_wp2
                   go_quiet (fail)
                   go_wp2
                   go_ret
                   go_light
                   refine ⟨false, rfl, HF.out.1 _ (by simp [hz]) ⟨fun h => Bool.noConfusion h, fun h => ?_⟩, Below.drewN' (Below.drewN' BEL.out _) _⟩
                   exact absurd (by rw [HXY.out.1, HXY.out.2]; exact h i hlt) hxy
               · obtain rfl : i = nx := by omega
                 have HALL := Lib.hid hall
                 clear hall
                 go_wp2
                 go_ret
                 go_light
                 exact ⟨true, rfl, HF.out.1 _ (by simp [hz]) ⟨fun _ => HALL.out, fun _ => rfl⟩, Below.drewN' BEL.out _⟩)
  · have hd : ((nx : Int) != (m : Int)) = true := by simp; omega
    go_wp2
    go_ret
    exact ⟨false, rfl, ⟨fun h => Bool.noConfusion h, fun h => absurd (h.1.trans HM.out.symm) hlen⟩, BEL.out⟩

end Go.Proofs.YtidifjmjbfhpaaaDoor
