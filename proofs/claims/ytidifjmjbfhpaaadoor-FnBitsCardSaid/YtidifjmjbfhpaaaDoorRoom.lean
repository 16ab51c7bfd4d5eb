/- A receiver: nil, or a row of the call's own whose whole room is known to be integers. (nat).make of a receiver. -/
import Derived.Test.YtidifjmjbfhpaaaDoorMakeRoom
namespace Go.Proofs.YtidifjmjbfhpaaaDoor
set_option linter.unusedVariables false
set_option maxRecDepth 20000
set_option linter.unusedSimpArgs false
open Go.RowKit

/-- v is nil, or n integers f 0, f 1, .. at the head of a row of the call's own. -/
def Room (w : World) (base : Nat) (v : Value) (n : Nat) (f : Nat → Nat) : Prop :=
  (v = .slice none 0 0 ∧ n = 0) ∨ ∃ g c F, v = .slice (some ⟨g, 0, none⟩) n c ∧ n ≤ c ∧ 1 ≤ c ∧ c ≤ 4000000000 ∧ Own w base 83 .u64 (.slice (some ⟨g, 0, none⟩) c c) c F ∧ ∀ j, j < n → F j = f j

theorem Room.nil (w : World) (base : Nat) (f : Nat → Nat) : Room w base (.slice none 0 0) 0 f := .inl ⟨rfl, rfl⟩
theorem Room.own {w : World} {base n : Nat} {v : Value} {f : Nat → Nat} (h : Room w base v n f) : Own w base 83 .u64 v n f := by
  rcases h with ⟨rfl, rfl⟩ | ⟨g, c, F, rfl, hn, _, _, own, hF⟩
  · exact Own.nil _ _ _ _ _
  · exact (own.take hn).congr hF
theorem Room.of {w : World} {base n g c : Nat} {F f : Nat → Nat} (hn : n ≤ c) (h1 : 1 ≤ c) (hc : c ≤ 4000000000) (own : Own w base 83 .u64 (.slice (some ⟨g, 0, none⟩) c c) c F) (hF : ∀ j, j < n → F j = f j) :
    Room w base (.slice (some ⟨g, 0, none⟩) n c) n f := .inr ⟨g, c, F, rfl, hn, h1, hc, own, hF⟩
theorem Room.base_le {w : World} {base base' n : Nat} {v : Value} {f : Nat → Nat} (h : Room w base v n f) (hb : base' ≤ base) : Room w base' v n f := by
  rcases h with h | ⟨g, c, F, rfl, hn, h1, hc, own, hF⟩
  · exact .inl h
  · exact .inr ⟨g, c, F, rfl, hn, h1, hc, own.base_le hb, hF⟩

def MakePost (base m n : Nat) (v : Value) (f : Nat → Nat) (w : World) (e : Ending) (w' : World) : Prop :=
  ∃ g c F, e = .returned (.slice (some ⟨g, 0, none⟩) n c) ∧ n ≤ c ∧ 1 ≤ c ∧ c ≤ 4000000000 ∧ Own w' base 83 .u64 (.slice (some ⟨g, 0, none⟩) c c) c F ∧ Below w.heap.size w w' ∧
    ((w' = w ∧ v = .slice (some ⟨g, 0, none⟩) m c ∧ ∀ j, j < m → F j = f j) ∨ g = w.heap.size)

theorem make_room (v : Value) (base m n : Nat) (f : Nat → Nat) (w : World) (h : Room w base v m f) (hb : base ≤ w.heap.size) (hn : 1 ≤ n) (hnb : n ≤ 2147483647) :
    Calls Tryd.prog 76 #[v, .int .i64 n] w (MakePost base m n v f w) := by
  rcases h with ⟨rfl, rfl⟩ | ⟨g, c, F, rfl, hmc, h1, hc, own, hF⟩
  · refine (make_new n w hn hnb).mono ?_
    rintro e w' ⟨c, rfl, h1, h2, own, bel⟩
    exact ⟨_, c, _, rfl, h1, by omega, by omega, own.base_le hb, bel, .inr rfl⟩
  · by_cases hnc : n ≤ c
    · refine (make_reuse g m c n w hnc (by omega)).mono ?_
      rintro e w' ⟨rfl, rfl⟩
      exact ⟨g, c, F, rfl, hnc, h1, hc, own, Below.refl _ _, .inl ⟨rfl, rfl, hF⟩⟩
    · refine (make_grow g m c n w hmc (by omega) hnb h1).mono ?_
      rintro e w' ⟨c', rfl, h3, h4, own', bel⟩
      exact ⟨_, c', _, rfl, h3, by omega, by omega, own'.base_le hb, bel, .inr rfl⟩

end Go.Proofs.YtidifjmjbfhpaaaDoor
