/- 'copy' and 'clear' of integers in a row of the call's own, as plain steps. -/
import Derived.Test.YtidifjmjbfhpaaaDoorCopyRow
import Derived.Test.YtidifjmjbfhpaaaDoorRooms
import Derived.Lib.SliceRun
namespace Go.Proofs.YtidifjmjbfhpaaaDoor
set_option linter.unusedVariables false
set_option maxRecDepth 20000
set_option linter.unusedSimpArgs false
open Go.RowKit

/-- A row of the call's own with other integers from off on. -/
theorem own_splice {w : World} {base : Nat} {elem : TypeId} {k : IntKind} {g N c0 : Nat} {F : Nat → Nat} (own : Own w base elem k (.slice (some ⟨g, 0, none⟩) N c0) N F) (off n : Nat) (h : Nat → Nat) (hfit : off + n ≤ N)
    : ∃ cur : Array Value, w.heap[g]? = some (.cells cur elem (0, 0)) ∧ off + n ≤ cur.size ∧ Own (w.setRow g (cur.toList.take off ++ L k h n ++ cur.toList.drop (off + n)).toArray) base elem k (.slice (some ⟨g, 0, none⟩) N c0) N (updr F off h n) := by
  rcases own.2 with ⟨h', _⟩ | ⟨g', cap', cur, h', hb, hg, hnc, hcm, hcs, htake⟩
  · simp at h'
  · simp only [Value.slice.injEq, Option.some.injEq, Addr.mk.injEq, and_true, true_and] at h'
    obtain ⟨rfl, rfl⟩ := h'
    rw [Nat.mul_one] at htake
    have hcur : cur.toList = L k F N ++ cur.toList.drop N := by rw [← htake, List.take_append_drop]
    have hlN : N ≤ cur.toList.length := by
      have := congrArg List.length htake
      rw [L_length] at this
      simp at this ⊢
      omega
    refine ⟨cur, hg, by simp at hlN; omega, by rw [L_length, Nat.mul_one], .inr ⟨g, c0, _, rfl, hb, setRow_heap w g cur _ elem _ hg, hnc, hcm, ?_, ?_⟩⟩
    · have hs := hcs
      simp [L_length] at hs hlN ⊢
      omega
    · have := splice_L k F h N off n (cur.toList.drop N) hfit
      rw [← hcur] at this
      unfold splice at this
      rw [L_length] at this
      rw [Nat.mul_one, ← this, List.append_assoc]

theorem run_copy_room {P : Program} (w : World) (dT sT elem : TypeId) (hu : P.underlying dT = some (.slice elem)) (hsz : (P.info? elem).map (·.size) = some 1) (base : Nat) (k : IntKind) (g N c0 : Nat) (F : Nat → Nat)
    (own : Own w base elem k (.slice (some ⟨g, 0, none⟩) N c0) N F) (off n dLen dCap sLen sCap : Nat) (dp sp : Option Addr) (h : Nat → Nat) (hmin : Nat.min sLen dLen = n)
    (hpos : 0 < n → dp = some ⟨g, off, none⟩) (hrd : Reads w k sp n h) (hfit : off + n ≤ N) :
    ∃ w', (∀ ty, (Builtin.copy_ #[dT, sT] ty #[.slice dp dLen dCap, .slice sp sLen sCap]).run P w = .ok (goInt n) w') ∧ Own w' base elem k (.slice (some ⟨g, 0, none⟩) N c0) N (updr F off h n) ∧ w.grownBy w' (some g) := by
  by_cases h0 : n = 0
  · subst h0
    exact ⟨w, fun ty => run_copy_none w dT sT ty elem dp sp dLen dCap sLen sCap hu hsz hmin, own.congr fun j _ => (updr_zero _ _ _ _).symm, World.grownBy.refl _ _⟩
  · obtain ⟨b, ob, rfl, _⟩ := hrd 0 (by omega)
    obtain rfl := hpos (by omega)
    obtain ⟨cur, hg, hfit', own'⟩ := own_splice own off n h hfit
    have hrun := fun ty => run_copy_row (P := P) w dT sT ty elem g off dLen dCap ⟨b, ob, none⟩ sLen sCap cur elem (L k h n) hu hsz hg (by rw [L_length]; exact hmin.symm) hrd.news (by rw [L_length]; exact hfit') (L_oneCell _ _ _)
    simp only [L_length] at hrun
    exact ⟨_, hrun, own', ⟨rfl, rfl, rfl, by simp [World.setRow], fun k' hk hne => setRow_other w g k' _ (fun e => hne (by rw [e]))⟩⟩

theorem run_clear_room {P : Program} (w : World) (t elem : TypeId) (ht : P.underlying t = some (.slice elem)) (hv : ∀ w, (zeroValue elem).run P w = .ok (.int .u64 0) w) (base : Nat) (g N c0 : Nat) (F : Nat → Nat)
    (own : Own w base elem .u64 (.slice (some ⟨g, 0, none⟩) N c0) N F) (off n cap : Nat) (hn : 0 < n) (hfit : off + n ≤ N) :
    ∃ w', (∀ ty, (Builtin.clear_ #[t] ty #[.slice (some ⟨g, off, none⟩) n cap]).run P w = .ok (.tuple #[]) w') ∧ Own w' base elem .u64 (.slice (some ⟨g, 0, none⟩) N c0) N (updr F off (fun _ => 0) n) ∧ w.grownBy w' (some g) := by
  obtain ⟨cur, hg, hfit', own'⟩ := own_splice own off n (fun _ => 0) hfit
  have hzc : (Builtin.zeroCells (Value.int .u64 0).cells n).toList = L .u64 (fun _ => 0) n := by
    rw [← L_zero]
    have hz : (Value.int IntKind.u64 0).cells = #[.int .u64 0] := rfl
    rw [hz]
    simp [Builtin.zeroCells]
    apply List.ext_getElem
    · simp
    · intro i h1 h2
      simp [Nat.mod_one]
  have hst := run_storeCells_at P g off elem (L .u64 (fun _ => 0) n) 0 cur w hg (by rw [L_length]; omega) (L_oneCell _ _ _)
  simp only [Nat.add_zero, L_length] at hst
  refine ⟨_, fun ty => ?_, own', ⟨rfl, rfl, rfl, by simp [World.setRow], fun k' hk hne => setRow_other w g k' _ (fun e => hne (by rw [e]))⟩⟩
  obtain ⟨m, rfl⟩ : ∃ m, n = m + 1 := ⟨n - 1, by omega⟩
  simp [Builtin.clear_, run_underlying ht, hv, hzc, hst]

theorem zero_Word (w : World) : (zeroValue 83).run Tryd.prog w = .ok (.int .u64 0) w := by kernel_rfl

end Go.Proofs.YtidifjmjbfhpaaaDoor
