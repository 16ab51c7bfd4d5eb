/- The small functions of the reference and of the laws: zzFits1, big, In, Has, Len, Cmp. -/
import Derived.Test.YtidifjmjbfhpaaaDoorBase
import Derived.Test.YtidifjmjbfhpaaaDoorInfo
import Derived.Test.YtidifjmjbfhpaaaDoorSpecOf
namespace Go.Proofs.YtidifjmjbfhpaaaDoor
set_option linter.unusedVariables false
set_option maxRecDepth 20000
set_option linter.unusedSimpArgs false
open Go.RowKit

/-- A Number that came in, boxed at block p: its sign, its words f 0, f 1, .. -/
def ArgAt (w : World) (p : Nat) (neg : Bool) (ao : Option Addr) (n cap : Nat) (f : Nat → Nat) : Prop :=
  Pair w p 24 (.bool neg) (.slice ao n cap) ∧ Reads w .u64 ao n f
theorem ArgAt.below {w w' : World} {p : Nat} {neg : Bool} {ao : Option Addr} {n cap : Nat} {f : Nat → Nat} (h : ArgAt w p neg ao n cap f) (hb : Below w.heap.size w w') : ArgAt w' p neg ao n cap f :=
  ⟨h.1.below hb h.1.lt, h.2.below hb⟩
theorem ArgAt.new {w : World} {neg : Bool} {ao : Option Addr} {n cap : Nat} {f : Nat → Nat} (h : Reads w .u64 ao n f) : ArgAt (w.alloc (.cells #[.bool neg, .slice ao n cap] 24)) w.heap.size neg ao n cap f :=
  ⟨Pair.new w _ _ _, h.below ((Below.refl _ _).alloc (Nat.le_refl _) _)⟩
theorem below_trans {w w1 w2 : World} (h : Below w.heap.size w w1) (k : Below w1.heap.size w1 w2) : Below w.heap.size w w2 := h.trans (k.mono h.size)

theorem field_nat (a : Value) (ao : Option Addr) (n c : Nat) (w : World) : (Instr.field 29 (.agg #[a, .slice ao n c]) 1).run Tryd.prog w = .ok (.slice ao n c) w := by kernel_rfl
theorem field_neg (a : Bool) (b : Value) (w : World) : (Instr.field 29 (.agg #[.bool a, b]) 0).run Tryd.prog w = .ok (.bool a) w := by kernel_rfl

theorem fits_any (neg : Bool) (ao : Option Addr) (n cap : Nat) (w : World) (hb : n ≤ 9223372036854775807) :
    Calls Tryd.prog 10 #[.agg #[.bool neg, .slice ao n cap]] w fun e w' => e = .returned (.bool (decide (n ≤ 2147483647))) ∧ Below w.heap.size w w' := by
  have b0 := Lib.hid ((Below.refl w.heap.size w).alloc (Nat.le_refl _) (.cells #[.bool neg, .slice ao n cap] 24))
  by_cases h : 2147483647 < n
  · have hd : (2147483647 : Int) < (n : Int) := by omega
    have hr : decide (n ≤ 2147483647) = false := by simp; omega
    rw [hr]
    go_enter Tryd.func10, Tryd.ntmps10
    go_wp2
    go_ret
    exact ⟨rfl, b0.out⟩
  · have hd : ¬ (2147483647 : Int) < (n : Int) := by omega
    have hr : decide (n ≤ 2147483647) = true := by simp; omega
    rw [hr]
    go_enter Tryd.func10, Tryd.ntmps10
    go_wp2
    go_ret
    exact ⟨rfl, b0.out⟩

theorem big_any (neg : Bool) (ao : Option Addr) (n cap : Nat) (m : Int) (w : World) (hb : n ≤ 9223372036854775807) :
    Calls Tryd.prog 12 #[.agg #[.bool neg, .slice ao n cap], .int .i64 m] w fun e w' => e = .returned (.bool (decide (m < (n : Int)))) ∧ Below w.heap.size w w' := by
  have b0 := Lib.hid ((Below.refl w.heap.size w).alloc (Nat.le_refl _) (.cells #[.bool neg, .slice ao n cap] 24))
  go_enter Tryd.func12, Tryd.ntmps12
  go_wp2
  go_ret
  exact ⟨rfl, b0.out⟩

theorem in_any (neg : Bool) (ao : Option Addr) (n cap : Nat) (f : Nat → Nat) (hf : ∀ i, i < n → f i < BW) (w : World) (hn : n ≤ cap) (hb : n ≤ 2147483647) (hrd : Reads w .u64 ao n f) :
    Calls Tryd.prog 11 #[.agg #[.bool neg, .slice ao n cap]] w fun e w' => ∃ v, e = .returned (.agg #[.bool (neg && decide (val BW f n ≠ 0)), v]) ∧ Own w' w.heap.size 3 .i64 v (nlen 65536 (val BW f n)) (dig 65536 (val BW f n)) ∧ Below w.heap.size w w' := by
  obtain ⟨W, hW⟩ : ∃ W, W = (w.alloc (.cells #[.bool neg, .slice ao n cap] 24)).alloc (.cells #[.bool false, .slice none 0 0] 29) := ⟨_, rfl⟩
  have b0 : Below w.heap.size w W := by rw [hW]; exact ((Below.refl _ _).alloc (Nat.le_refl _) _).alloc (by simp) _
  have p0 : Pair W w.heap.size 24 (.bool neg) (.slice ao n cap) := by rw [hW]; exact (Pair.new w _ _ _).alloc _
  have p1 : Pair W (w.heap.size + 1) 29 (.bool false) (.slice none 0 0) := by rw [hW]; have := Pair.new (w.alloc (.cells #[.bool neg, .slice ao n cap] 24)) 29 (.bool false) (.slice none 0 0); simpa using this
  have hsz : W.heap.size = w.heap.size + 2 := by rw [hW]; simp
  obtain ⟨V, hV⟩ : ∃ V, V = val BW f n := ⟨_, rfl⟩
  have K := Lib.hid (specOf_any ao n cap f hf W hn hb (hrd.below b0))
  rw [← hV] at K ⊢
  rw [hW] at K
  have HW := Lib.hid hW
  have F0 := Lib.hid (And.intro b0 (And.intro p0 (And.intro p1 hsz)))
  have HV := Lib.hid hV
  have hv0 : (0 < nlen 65536 V) ↔ V ≠ 0 := by have := nlen_eq_zero (B := 65536) (by omega) V; omega
  have HV0 := Lib.hid hv0
  have hlen : nlen 65536 V ≤ 4 * n := by
    rw [nlen_le_iff (by omega), Nat.pow_mul, hV]; exact val_lt hf
  clear b0 p0 p1 hW hsz hrd hV hv0
  go_enter Tryd.func11, Tryd.ntmps11
  go_wp2_with fail
  refine K.out.mono ?_
  rw [← HW.out]
  rintro e w1 ⟨v, rfl, own, bel⟩
  obtain ⟨b0, p0, p1, hsz⟩ := F0.out
  replace p0 := p0.below bel (by omega)
  replace p1 := p1.below bel (by omega)
  obtain ⟨av, cv, rfl, hle, hcm, _, hlt⟩ := own.parts
  have c00 := p0.cell0
  have c10 := p1.cell0
  have c11 := p1.cell1
  have f10 := p1.free 0
  have f11 := p1.free 1
  have hl1 := p1.lt
  have OWN := Lib.hid own
  have BEL := Lib.hid (b0.trans (bel.mono (by omega)))
  have HSZ := Lib.hid hsz
  clear own bel b0 p0 p1 K hsz
  have hfin : ∀ r : Bool, r = (neg && decide (V ≠ 0)) → ∃ v, Ending.returned (.agg #[.bool r, .slice av (nlen 65536 V) cv]) = .returned (.agg #[.bool (neg && decide (V ≠ 0)), v]) ∧ Own ((w1.setCell ⟨w.heap.size + 1, 0, none⟩ (.bool r)).setCell ⟨w.heap.size + 1, 1, none⟩ (.slice av (nlen 65536 V) cv)) w.heap.size 3 .i64 v (nlen 65536 V) (dig 65536 V) ∧ Below w.heap.size w ((w1.setCell ⟨w.heap.size + 1, 0, none⟩ (.bool r)).setCell ⟨w.heap.size + 1, 1, none⟩ (.slice av (nlen 65536 V) cv)) := by
    intro r hr
    refine ⟨_, by rw [hr], (Own.kept ?_ (grown_trans (grown_setCell _ ⟨w.heap.size + 1, 0, none⟩ _) (grown_setCell _ ⟨w.heap.size + 1, 1, none⟩ _)) ?_), (BEL.out.setCell (p := ⟨w.heap.size + 1, 0, none⟩) (Nat.le_succ _) _).setCell (p := ⟨w.heap.size + 1, 1, none⟩) (Nat.le_succ _) _⟩
    · exact OWN.out.base_le (by have := HSZ.out; omega)
    · rcases hv : (Value.slice av (nlen 65536 V) cv).ownBlock with _ | k
      · exact .inl rfl
      · right; intro e; have := (hlt k hv).1; have := HSZ.out; simp at e; omega
  have HF := Lib.hid hfin
  clear hfin hlt
  rcases Nat.eq_zero_or_pos (nlen 65536 V) with h0 | h0
  · cases neg
    all_goals
      have hd : decide (V ≠ 0) = false := decide_eq_false (fun h => by have := HV0.out.2 h; omega)
      have hz : ¬ (0 : Int) < ((nlen 65536 V : Nat) : Int) := by omega
      have hz2 : decide (0 < nlen 65536 V) = false := by simp; omega
      have HD := Lib.hid hd
      clear hd
      have H0 := Lib.hid h0
      clear h0
      go_wp2
      refine bodyPost_ret (v := .agg #[.bool false, .slice av (nlen 65536 V) cv]) (by simp [results, Tryd.results11, go_sem, f10, f11, c10, c11]) rfl ?_
      exact HF.out false (by rw [HD.out]; rfl)
  · cases neg
    all_goals
      have hd : decide (V ≠ 0) = true := decide_eq_true (HV0.out.1 h0)
      have hz : (0 : Int) < ((nlen 65536 V : Nat) : Int) := by omega
      have hz2 : decide (0 < nlen 65536 V) = true := by simp; omega
      have HD := Lib.hid hd
      clear hd
      go_wp2
      first
      | (refine bodyPost_ret (v := .agg #[.bool false, .slice av (nlen 65536 V) cv]) (by simp [results, Tryd.results11, go_sem, f10, f11, c10, c11]) rfl ?_
         exact HF.out false (by rw [HD.out]; rfl))
      | (refine bodyPost_ret (v := .agg #[.bool true, .slice av (nlen 65536 V) cv]) (by simp [results, Tryd.results11, go_sem, f10, f11, c10, c11]) rfl ?_
         exact HF.out true (by rw [HD.out]; rfl))

end Go.Proofs.YtidifjmjbfhpaaaDoor
