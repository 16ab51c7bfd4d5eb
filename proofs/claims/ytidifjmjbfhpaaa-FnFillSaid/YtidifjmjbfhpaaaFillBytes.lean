/- (*Int).FillBytes into a row of the call's own. -/
import Derived.Test.YtidifjmjbfhpaaaBase
import Derived.Test.YtidifjmjbfhpaaaInfo
import Derived.Test.YtidifjmjbfhpaaaNatBytes
namespace Go.Proofs.Ytidifjmjbfhpaaa
set_option linter.unusedVariables false
set_option linter.unusedSimpArgs false
open Go.RowKit

/-- 'clear(x)', x a row of integers of the call's own. -/
theorem run_clear_own {P : Program} (w : World) (t e ty : TypeId) (k : IntKind) (ht : P.underlying t = some (.slice e)) (hv : ∀ w, (zeroValue e).run P w = .ok (.int k 0) w) (base g N c : Nat) (f : Nat → Nat)
    (own : Own w base e k (.slice (some ⟨g, 0, none⟩) N c) N f) :
    ∃ w', (Builtin.clear_ #[t] ty #[.slice (some ⟨g, 0, none⟩) N c]).run P w = .ok (.tuple #[]) w' ∧ Own w' base e k (.slice (some ⟨g, 0, none⟩) N c) N (fun _ => 0) ∧ w.grownBy w' (some g) := by
  cases N with
  | zero =>
    refine ⟨w, ?_, own.congr fun i hi => by omega, World.grownBy.refl _ _⟩
    simp [Builtin.clear_, run_underlying ht]
  | succ N =>
    rcases own.2 with ⟨h', _⟩ | ⟨g', cap', cur, h', hb, hg, hnc, hcm, hcs, htake⟩
    · simp at h'
    · simp only [Value.slice.injEq, Option.some.injEq, Addr.mk.injEq, and_true, true_and] at h'
      obtain ⟨rfl, rfl⟩ := h'
      have hz : (Builtin.zeroCells (Value.int k 0).cells (N + 1)).toList = List.replicate (N + 1) (Value.int k 0) := by
        have h1 := toList_madeCells_one (Value.int k 0) (N + 1)
        apply List.ext_getElem?
        intro j
        by_cases hj : j < N + 1
        · simp [Builtin.zeroCells, hj, Value.cells, Nat.mod_one]
        · simp [Builtin.zeroCells, hj, Value.cells]
      have hst := run_storeCells_at P g 0 e (List.replicate (N + 1) (Value.int k 0)) 0 cur w hg (by simp; omega) (fun v hv => by rw [List.eq_of_mem_replicate hv]; rfl)
      simp only [Nat.add_zero, Nat.zero_add, List.take_zero, List.nil_append, List.length_replicate] at hst
      refine ⟨w.setRow g (List.replicate (N + 1) (Value.int k 0) ++ List.drop (N + 1) cur.toList).toArray, ?_, ⟨by simp [L_length], .inr ⟨g, c, _, rfl, hb, setRow_heap w g cur _ e _ hg, hnc, hcm, ?_, ?_⟩⟩, ⟨rfl, rfl, rfl, by simp, fun k _ hk => setRow_other w g k _ (fun e => hk (by simp [e]))⟩⟩
      · simp [Builtin.clear_, run_underlying ht, hv, hz, hst]
      · simp; omega
      · rw [← L_zero]
        simp

theorem zero_u8 (w : World) : (zeroValue 5).run Try.prog w = .ok (.int .u8 0) w := by kernel_rfl

def FillPost (w : World) (base g N c V : Nat) (e : Ending) (w' : World) : Prop :=
  (V < 256 ^ N ∧ e = .returned (.slice (some ⟨g, 0, none⟩) N c) ∧ Own w' base 5 .u8 (.slice (some ⟨g, 0, none⟩) N c) N (fun i => dig 256 V (N - 1 - i)) ∧ w.grownBy w' (some g)) ∨
  (256 ^ N ≤ V ∧ (∃ T x, e = .panicked [{ v := .iface T x, recovered := false }]) ∧ w.grownBy w' (some g))

theorem fillBytes_any (p base bi g N c V : Nat) (neg : Bool) (v : Value) (w : World) (hm : nlen BW V ≤ 200000000) (hN : N ≤ 2147483647) (h : Pair w p 49 (.bool neg) v) (ownv : Own w bi 62 .u64 v (nlen BW V) (dig BW V))
    (f : Nat → Nat) (own : Own w base 5 .u8 (.slice (some ⟨g, 0, none⟩) N c) N f) (hpg : p ≠ g) (hvg : v.ownBlock ≠ some g) :
    Calls Try.prog 26 #[.pointer (some ⟨p, 0, none⟩), .slice (some ⟨g, 0, none⟩) N c] w (FillPost w base g N c V) := by
  obtain ⟨w1, hrun, own1, gr1⟩ := run_clear_own (P := Try.prog) w 22 5 0 .u8 Try.underlying22 zero_u8 base g N c f own
  obtain ⟨az, cz, rfl, hle, hcm, hrd, hlt⟩ := ownv.parts
  have hV := lt_pow_nlen BW_one V
  have p1 := h.grown gr1 (by simpa using hpg)
  have hne : ∀ a, az = some a → a.block ≠ g := by
    intro a ha e
    exact hvg (by rw [ha]; simp [Value.ownBlock, e])
  have hrd1 := hrd.grown gr1 (by intro a ha; simpa using hne a ha)
  have c1 := p1.cell1
  have K := Lib.hid (natBytes_any az (nlen BW V) cz V base g N c w1 hle (by omega) hN hV hrd1 hne own1)
  have G1 := Lib.hid gr1
  clear own own1 gr1 hrd hrd1 hlt p1 h hne hvg ownv hV
  go_enter Try.func26, Try.ntmps26
  go_wp2_with fail
  refine K.out.mono ?_
  rintro e w2 (⟨hfit, rfl, own2, gr2⟩ | ⟨hbig, ⟨T, x, rfl⟩, gr2⟩)
  · have F := Lib.hid (And.intro hfit (And.intro own2 (grown_trans G1.out gr2)))
    clear hfit own2 gr2 K
    go_wp2
    go_ret
    exact .inl ⟨F.out.1, rfl, F.out.2.1, F.out.2.2⟩
  · have F := Lib.hid (And.intro hbig (grown_trans G1.out gr2))
    clear hbig gr2 K
    go_wp2
    exact ⟨rfl, .inr ⟨F.out.1, ⟨_, _, rfl⟩, F.out.2⟩⟩

end Go.Proofs.Ytidifjmjbfhpaaa
