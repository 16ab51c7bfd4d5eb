/- impl.answer: what an Int tells. -/
import Derived.Test.YtidifjmjbfhpaaaDoorTold
import Derived.Test.YtidifjmjbfhpaaaDoorIntSetBit
namespace Go.Proofs.YtidifjmjbfhpaaaDoor
set_option linter.unusedVariables false
set_option maxRecDepth 20000
set_option linter.unusedSimpArgs false
open Go.RowKit

/-- A Number as a value: sign and words, the words the call's own. -/
def NumVal (w : World) (base : Nat) (neg : Bool) (V : Nat) (x : Value) : Prop := ∃ v, x = .agg #[.bool neg, v] ∧ Own w base 32 .u64 v (nlen BW V) (dig BW V)

theorem told_new (p base : Nat) (neg : Bool) (R : Nat) (w : World) (hR : neg = true → 1 ≤ R) (hb : nlen BW R ≤ 2147483647) (h : IntNew w base p neg R) :
    Calls Tryd.prog 44 #[.pointer (some ⟨p, 0, none⟩)] w fun e w' => ∃ x, e = .returned x ∧ NumVal w' w.heap.size neg R x ∧ Below w.heap.size w w' := by
  obtain ⟨v, hp, own⟩ := h
  obtain ⟨a, c, rfl, hle, hcm, hrd, hlt⟩ := own.parts
  refine (told_any p neg a (nlen BW R) c (dig BW R) w hle hb hp hrd).mono ?_
  rintro e w' ⟨v, rfl, own', bel⟩
  refine ⟨_, rfl, ⟨v, ?_, own'⟩, bel⟩
  have : (neg && decide (0 < nlen BW R)) = neg := by
    cases neg
    · rfl
    · have := mt (nlen_eq_zero BW_one R).1 (by have := hR rfl; omega)
      simp; omega
  rw [this]

def AnsPost (neg : Bool) (R : Nat) (w : World) (e : Ending) (w' : World) : Prop := ∃ v, e = .returned (.tuple #[.agg #[.bool neg, v], .int .i64 0]) ∧ Own w' w.heap.size 32 .u64 v (nlen BW R) (dig BW R) ∧ Below w.heap.size w w'

set_option maxHeartbeats 1000000 in
theorem answer_any (p base : Nat) (neg : Bool) (R : Nat) (w : World) (hR : neg = true → 1 ≤ R) (hb : nlen BW R ≤ 2147483647) (h : IntNew w base p neg R) :
    Calls Tryd.prog 61 #[.pointer (some ⟨p, 0, none⟩)] w (AnsPost neg R w) := by
  obtain ⟨v0, hp0, own0⟩ := h
  obtain ⟨W, hW⟩ : ∃ W, W = w.alloc (.cells #[.bool false, .slice none 0 0] 24) := ⟨_, rfl⟩
  have hI : IntNew W base p neg R := by rw [hW]; exact ⟨v0, hp0.alloc _, own0.alloc _⟩
  have K := Lib.hid (told_new p base neg R W hR hb hI)
  have hs : W.heap.size = w.heap.size + 1 := by rw [hW]; simp
  have P := Lib.hid (show Pair W w.heap.size 24 (.bool false) (.slice none 0 0) by rw [hW]; exact Pair.new _ _ _ _)
  have B0 := Lib.hid (show Below w.heap.size w W by rw [hW]; exact (Below.refl _ _).alloc (Nat.le_refl _) _)
  have HW := Lib.hid hW
  have HS := Lib.hid hs
  clear hp0 own0 hI hW hs
  go_enter Tryd.func61, Tryd.ntmps61
  go_wp2_with fail
  rw [← HW.out]
  refine K.out.mono ?_
  rintro e w2 ⟨x, rfl, ⟨v, rfl, own2⟩, bel2⟩
  obtain ⟨a2, c2, rfl, hle2, hcm2, hrd2, hlt2⟩ := own2.parts
  have p2 := P.out.below bel2 P.out.lt
  have d0 := p2.cell0
  have d1 := p2.cell1
  have f0 := p2.free 0
  have f1 := p2.free 1
  have hws := HS.out
  have hne : ∀ k, (Value.slice a2 (nlen BW R) c2).ownBlock = some k → k ≠ w.heap.size := fun k hk e => by
    have := (own2.lt k hk).1
    omega
  have G := Lib.hid (And.intro own2 (And.intro (below_trans B0.out bel2) hne))
  clear own2 bel2 p2 hrd2 hlt2 K hws hne
  obtain ⟨n, hn⟩ : ∃ n, n = nlen BW R := ⟨_, rfl⟩
  rw [← hn] at G ⊢
  have HN := Lib.hid hn
  clear hn
  go_wp2
  refine bodyPost_ret (v := .tuple #[.agg #[.bool neg, .slice a2 n c2], .int .i64 0]) (by simp [results, Tryd.results61, go_sem, d0, d1, f0, f1]) rfl ?_
  refine ⟨_, rfl, ?_, (G.out.2.1.setCell (Nat.le_refl _) _).setCell (Nat.le_refl _) _⟩
  have own := G.out.1.kept (grown_trans (grown_setCell w2 ⟨w.heap.size, 0, none⟩ (.bool neg)) (grown_setCell _ ⟨w.heap.size, 1, none⟩ (.slice a2 n c2))) (by
    cases hk : (Value.slice a2 n c2).ownBlock with
    | none => exact .inl rfl
    | some k => exact .inr fun e => G.out.2.2 k hk (by simpa using e))
  rw [HN.out] at own ⊢
  exact own.base_le (by rw [HS.out]; omega)

end Go.Proofs.YtidifjmjbfhpaaaDoor
