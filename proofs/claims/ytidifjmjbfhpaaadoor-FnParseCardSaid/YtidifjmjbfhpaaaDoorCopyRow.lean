/- 'copy' of integers into a row of the call's own; two pointers into two blocks held against each other. -/
import Derived.Test.YtidifjmjbfhpaaaDoorBase
import Derived.Test.YtidifjmjbfhpaaaDoorCarries
import Derived.Laws.CopyOwn
import Derived.LaidEqlPtr
namespace Go.Proofs.YtidifjmjbfhpaaaDoor
set_option linter.unusedVariables false
set_option maxRecDepth 20000
set_option linter.unusedSimpArgs false
open Go.RowKit

theorem run_neq_ptr_other {P : Program} (w : World) {tp te : TypeId} {j : TypeInfo} {a b : Addr} {ca cb : Array Value} {ta tb : TypeId} (hp : P.underlying tp = some (.pointer te)) (hte : P.info? te = some j) (hsz : j.size ≠ 0)
    (hne : a ≠ b) (ha : w.heap[a.block]? = some (.cells ca ta (0, 0))) (hb : w.heap[b.block]? = some (.cells cb tb (0, 0))) :
    (binOp .neq tp (.pointer (some a)) (.pointer (some b))).run P w = .ok (.bool true) w := by
  have h : ∀ d : Nat, (Op.equalIn (d + 1) tp (.pointer (some a)) (.pointer (some b))).run P w = .ok false w := fun d => by
    simp [Op.equalIn, run_underlying hp, sizeOf, typeInfo, hte, hsz, run_sameAddr_other w hne ha hb]
  simp only [binOp]
  simp [Op.equal, Op.maxDepth, h 9999]

theorem splice_L (k : IntKind) (F h : Nat → Nat) (N off n : Nat) (tail : List Value) (hfit : off + n ≤ N) : (splice (L k F N ++ tail) off (L k h n)).take N = L k (updr F off h n) N := by
  apply List.ext_getElem?
  intro j
  unfold splice
  by_cases hj : j < N
  · rw [List.getElem?_take, if_pos hj, L_get _ _ _ _ hj]
    unfold updr
    by_cases h1 : j < off
    · rw [if_neg (by omega), List.getElem?_append_left (by simp [L_length]; omega), List.getElem?_take, if_pos h1, List.getElem?_append_left (by rw [L_length]; exact hj), L_get _ _ _ _ hj]
    · have hlen : (List.take off (L k F N ++ tail)).length = off := by simp [L_length]; omega
      rw [List.getElem?_append_right (by omega), hlen]
      by_cases h2 : j < off + n
      · rw [if_pos (by omega), List.getElem?_append_left (by rw [L_length]; omega), L_get _ _ _ _ (by omega)]
      · rw [if_neg (by omega), List.getElem?_append_right (by rw [L_length]; omega), L_length, List.getElem?_drop, List.getElem?_append_left (by rw [L_length]; omega), L_get _ _ _ _ (by omega)]
        rw [show off + n + (j - off - n) = j by omega]
  · rw [List.getElem?_eq_none (by simp; omega), List.getElem?_eq_none (by rw [L_length]; omega)]

/-- 'copy(z[..], x)' as one step of a region that draws, z in a row of the call's own. -/
theorem step_copy_row {P : Program} {ops : Array Oper} {o : Oper} {a : Act} {w : World} {K : Act → World → Prop} {Q : Exit → Act → World → Prop} {E : Prop} (hgd : o.guard = none) (d s : Operand) (dT sT : TypeId)
    (ho : o.op = .call { callee := .builtin .copy, args := #[d, s], argTypes := #[dT, sT] }) (elem : TypeId) (hu : P.underlying dT = some (.slice elem)) (hsz : (P.info? elem).map (·.size) = some 1)
    (dp sp : Option Addr) (dLen dCap sLen sCap : Nat) (hd : a.eval d = .slice dp dLen dCap) (hs : a.eval s = .slice sp sLen sCap)
    (base : Nat) (k : IntKind) (g N c0 : Nat) (F : Nat → Nat) (own : Own w base elem k (.slice (some ⟨g, 0, none⟩) N c0) N F) (off n : Nat) (h : Nat → Nat) (hdl : dLen = n) (hsl : sLen = n)
    (hpos : 0 < n → dp = some ⟨g, off, none⟩) (hrd : Reads w k sp n h) (hfit : off + n ≤ N)
    (hK : ∀ w', Own w' base elem k (.slice (some ⟨g, 0, none⟩) N c0) N (updr F off h n) → w.grownBy w' (some g) → K (a.put o.dst (goInt n)) w') :
    if Region.wanted o (yielded ops a.tmps) = true then Oper.wp P o a w K Q else E := by
  rcases own.2 with ⟨h', _⟩ | ⟨g', cap', cur, h', hb, hg, hnc, hcm, hcs, htake⟩
  · simp at h'
  · simp only [Value.slice.injEq, Option.some.injEq, Addr.mk.injEq, and_true, true_and] at h'
    obtain ⟨rfl, rfl⟩ := h'
    rw [Nat.mul_one] at htake
    have hcur : cur.toList = L k F N ++ cur.toList.drop N := by rw [← htake, List.take_append_drop]
    have hg2 : w.heap[g]? = some (.cells (cur.toList.toArray) elem (0, 0)) := by rw [hg]
    have hlN : N ≤ cur.toList.length := by
      have := congrArg List.length htake
      rw [L_length] at this
      simp at this ⊢
      omega
    have hw : Region.wanted o (yielded ops a.tmps) = true := by simp [Region.wanted, hgd]
    rw [if_pos hw]
    rw [hdl] at hd
    rw [hsl] at hs
    have hrow : ∀ w', w'.heap[g]? = some (.cells (splice cur.toList off (L k h n)).toArray elem (0, 0)) → n = (L k h n).length → Own w' base elem k (.slice (some ⟨g, 0, none⟩) N c0) N (updr F off h n) := by
      intro w' hw' _
      refine ⟨by rw [L_length]; omega, .inr ⟨g, c0, _, rfl, hb, hw', hnc, hcm, ?_, ?_⟩⟩
      · have := length_splice cur.toList off (L k h n) (by rw [L_length]; omega)
        simp at this ⊢
        omega
      · rw [Nat.mul_one, ← splice_L k F h N off n (cur.toList.drop N) hfit, ← hcur]
    by_cases h0 : n = 0
    · subst h0
      have hrun := run_copy_none (P := P) w dT sT o.type elem dp sp 0 dCap 0 sCap hu hsz (by simp)
      unfold Oper.wp
      simp [execOp, ho, resolve, invoke, builtin, hd, hs, hrun, Result.andThen]
      exact hK w (own.congr fun j _ => (updr_zero _ _ _ _).symm) (World.grownBy.refl _ _)
    · obtain ⟨b, ob, rfl, _⟩ := hrd 0 (by omega)
      obtain rfl := hpos (by omega)
      have hrun := run_copy_row (P := P) w dT sT o.type elem g off n dCap ⟨b, ob, none⟩ n sCap cur elem (L k h n) hu hsz hg (by rw [L_length]; simp) hrd.news (by rw [L_length]; simpa using Nat.le_trans hfit hlN) (L_oneCell _ _ _)
      unfold Oper.wp
      simp [execOp, ho, resolve, invoke, builtin, hd, hs, hrun, Result.andThen]
      rw [L_length]
      refine hK _ (hrow _ ?_ (L_length _ _ _).symm) ⟨rfl, rfl, rfl, by simp [World.setRow], fun k' hk hne => setRow_other w g k' _ (fun e => hne (by rw [e]))⟩
      rw [setRow_heap w g cur _ elem _ hg]
      simp [splice, L_length]

end Go.Proofs.YtidifjmjbfhpaaaDoor
