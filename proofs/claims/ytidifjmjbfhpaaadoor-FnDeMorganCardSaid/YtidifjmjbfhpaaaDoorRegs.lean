/- A region that draws its order: the rules of Orders with the numbers that have come up written out anew at each step (small terms walk faster). -/
import Derived.Test.YtidifjmjbfhpaaaDoorOrders
namespace Go.Proofs.YtidifjmjbfhpaaaDoor
set_option linter.unusedVariables false
set_option maxRecDepth 20000

section
variable {P : Program} {ops : Array Oper} {Q : Exit → Act → World → Prop} {md : Region.Mode} {S : World → Prop} {e i : Nat}

theorem reg_begin (S : World → Prop) (e n : Nat) (l : Array Bool) {id : Nat} {a : Act} {w : World} (hm : P.follows .mixedOrders = true) (hn : ops.size = n) (hl : Array.replicate n false = l) (hS : S w.drew)
    (h : anyUntil P .any ops Q S e n l a w.drew) : (Code.region id ops true).wp P Q a w := by
  subst hn hl
  exact region_until S e hm hS h

theorem reg_take {v : Value} {oi : Oper} {fuel : Nat} {listed l : Array Bool} {a : Act} {w : World} (i : Nat) (C : List Nat) (hl : listed.setIfInBounds i true = l) (hi : ops.toList[i]? = some oi) (heC : C.contains e = true)
    (hs : Region.noSelect ops = true) (hf : Region.free md ops listed i = true) (hr : (Region.ready md ops listed).contains i = true) (hw : waits md ops C i listed = true)
    (hQ : ∀ c a w, Q (.panic c) (a.put oi.dst v) w → Q (.panic c) a w) (hy : YieldsIf P ops S oi v a) (hS : S w)
    (h : anyUntil P md ops Q S e fuel l (a.put oi.dst v) w) : anyUntil P md ops Q S e (fuel + 1) listed a w := by
  subst hl
  rw [Array.getElem?_toList] at hi
  exact until_take i C hi heC hs hf hr hw hQ hy hS h

/-- What one of those that may come up leaves to be shown. -/
def RegOp (P : Program) (md : Region.Mode) (ops : Array Oper) (Q : Exit → Act → World → Prop) (S : World → Prop) (e fuel j : Nat) (o : Oper) (l : Array Bool) (a : Act) (w : World) : Prop :=
  ∀ K' : Act → World → Prop, Shut (∀ a w, (j ≠ e → S w) → anyUntil P md ops Q S e fuel l a w → K' a w) → if Region.wanted o (yielded ops a.tmps) = true then Oper.wp P o a w K' Q else K' (a.put o.dst undef) w

theorem reg_one {j : Nat} {o : Oper} {fuel : Nat} {listed l : Array Bool} {a : Act} {w : World} (hl : listed.setIfInBounds j true = l) (hr : Region.ready md ops listed = [j]) (ho : ops.toList[j]? = some o)
    (h : RegOp P md ops Q S e fuel j o l a w) : anyUntil P md ops Q S e (fuel + 1) listed a w := by
  subst hl
  rw [Array.getElem?_toList] at ho
  exact until_one hr ho h

theorem reg_two {j k : Nat} {oj ok : Oper} {fuel : Nat} {listed l m : Array Bool} {a : Act} {w : World} (hl : listed.setIfInBounds j true = l) (hm : listed.setIfInBounds k true = m) (hr : Region.ready md ops listed = [j, k]) (hoj : ops.toList[j]? = some oj) (hok : ops.toList[k]? = some ok)
    (h1 : RegOp P md ops Q S e fuel j oj l a w) (h2 : RegOp P md ops Q S e fuel k ok m a w) : anyUntil P md ops Q S e (fuel + 1) listed a w := by
  subst hl hm
  rw [Array.getElem?_toList] at hoj hok
  exact until_two hr hoj hok h1 h2

theorem reg_three {j k i : Nat} {oj ok oi : Oper} {fuel : Nat} {listed l m n : Array Bool} {a : Act} {w : World} (hl : listed.setIfInBounds j true = l) (hm : listed.setIfInBounds k true = m) (hn : listed.setIfInBounds i true = n) (hr : Region.ready md ops listed = [j, k, i]) (hoj : ops.toList[j]? = some oj) (hok : ops.toList[k]? = some ok) (hoi : ops.toList[i]? = some oi)
    (h1 : RegOp P md ops Q S e fuel j oj l a w) (h2 : RegOp P md ops Q S e fuel k ok m a w) (h3 : RegOp P md ops Q S e fuel i oi n a w) : anyUntil P md ops Q S e (fuel + 1) listed a w := by
  subst hl hm hn
  rw [Array.getElem?_toList] at hoj hok hoi
  exact until_three hr hoj hok hoi h1 h2 h3

/-- An operation that makes memory or stores. -/
theorem reg_mem {j : Nat} {o : Oper} {fuel : Nat} {l : Array Bool} {a : Act} {w w' : World} {v : Value} (hw : Region.wanted o (yielded ops a.tmps) = true) (h0 : ∀ K' : Act → World → Prop, K' (a.put o.dst v) w' → Oper.wp P o a w K' Q) (hS : S w')
    (h : anyUntil P md ops Q S e fuel l (a.put o.dst v) w') : RegOp P md ops Q S e fuel j o l a w := by
  intro K' hK
  rw [if_pos hw]
  exact h0 K' (hK.out _ _ (fun _ => hS) h)

/-- A call. -/
theorem reg_call {j : Nat} {o : Oper} {fuel : Nat} {l : Array Bool} {a : Act} {w : World} {f : FuncId} {args : Array Value} {Post : Ending → World → Prop} (hw : Region.wanted o (yielded ops a.tmps) = true) (hc : Calls P f args w Post)
    (hrun : (execOp a.eval o).run P w = .ok (.enter f args) w) (h : ∀ e' w', Post e' w' → ∃ v, e' = .returned v ∧ S w' ∧ anyUntil P md ops Q S e fuel l (a.put o.dst v) w') : RegOp P md ops Q S e fuel j o l a w := by
  intro K' hK
  rw [if_pos hw]
  unfold Oper.wp
  rw [hrun, Oper.upon_enter]
  refine hc.mono ?_
  intro e' w' hp
  obtain ⟨v, rfl, hS, h'⟩ := h e' w' hp
  exact hK.out _ _ (fun _ => hS) h'

end
end Go.Proofs.YtidifjmjbfhpaaaDoor
