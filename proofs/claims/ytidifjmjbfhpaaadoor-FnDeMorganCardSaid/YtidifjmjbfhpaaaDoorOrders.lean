/- A region that draws its order and stores, last of all, to a cell that it loads: the loads may be taken first, the condition on the world being asked only till that store. -/
/- A region that draws its order: one of three may come up. -/
import Derived.OrdersHeld
import Derived.Deep.RegionHeld
namespace Go.Proofs.YtidifjmjbfhpaaaDoor
set_option linter.unusedVariables false
set_option maxRecDepth 20000
set_option linter.unusedSimpArgs false

section
variable {P : Program} {ops : Array Oper} {Q : Exit → Act → World → Prop} {md : Region.Mode} {S : World → Prop} {e i : Nat}

/-- Whatever order is picked from here on, and S holds behind each operation that is carried out, number e aside. -/
def anyUntil (P : Program) (md : Region.Mode) (ops : Array Oper) (Q : Exit → Act → World → Prop) (S : World → Prop) (e : Nat) : Nat → Array Bool → Act → World → Prop
  | 0, listed, a, w => Region.ready md ops listed = [] ∧ Q .normal a w
  | fuel + 1, listed, a, w =>
    (Region.ready md ops listed = [] → Q .normal a w) ∧
    ∀ j ∈ Region.ready md ops listed, wpOp P ops Q j (fun a' w' => (j ≠ e → S w') ∧ anyUntil P md ops Q S e fuel (listed.setIfInBounds j true) a' w') a w

theorem any_of_until : ∀ (fuel : Nat) (listed : Array Bool) (a : Act) (w : World), anyUntil P md ops Q S e fuel listed a w → wpAny P md ops Q fuel listed a w
  | 0, _, _, _, h => h
  | fuel + 1, _, _, _, h => ⟨h.1, fun j hj => wpOp_mono (fun a' w' h' => any_of_until fuel _ a' w' h'.2) (h.2 j hj)⟩

/-- The operations C, none of which has come up, wait for number i, each at once or through another of them. -/
def Waits (md : Region.Mode) (ops : Array Oper) (C : List Nat) (i : Nat) (listed : Array Bool) : Prop :=
  ∀ x ∈ C, listed.getD x true = false ∧ ∃ o, ops[x]? = some o ∧ ∃ d ∈ o.after, Region.binds md d = true ∧ (d.on = i ∨ d.on ∈ C)

/-- The same, to be reckoned. -/
def waits (md : Region.Mode) (ops : Array Oper) (C : List Nat) (i : Nat) (listed : Array Bool) : Bool :=
  C.all fun x => !listed.getD x true && match ops[x]? with
    | some o => o.after.any fun d => Region.binds md d && (d.on == i || C.contains d.on)
    | none => false

theorem waits_spec {C : List Nat} {listed : Array Bool} (h : waits md ops C i listed = true) : Waits md ops C i listed := by
  intro x hx
  have h1 := (List.all_eq_true.1 h) x hx
  simp only [Bool.and_eq_true, Bool.not_eq_true'] at h1
  refine ⟨h1.1, ?_⟩
  cases ho : ops[x]? with
  | none => rw [ho] at h1; simp at h1
  | some o =>
    rw [ho] at h1
    obtain ⟨d, hd, hb⟩ := Array.any_eq_true'.1 h1.2
    simp only [Bool.and_eq_true, Bool.or_eq_true, beq_iff_eq, List.contains_iff_mem] at hb
    exact ⟨o, rfl, d, hd, hb.1, hb.2⟩

theorem unlisted {listed : Array Bool} {x : Nat} (h : listed.getD x true = false) : listed.getD x false = false := by
  rcases Nat.lt_or_ge x listed.size with h' | h'
  · simp [h'] at h ⊢; exact h
  · simp [Array.getElem?_eq_none h'] at h

theorem waits_not {C : List Nat} {listed : Array Bool} {j : Nat} (h : Waits md ops C i listed) (hi : listed.getD i true = false) (hj : j ∈ Region.ready md ops listed) : j ∉ C := by
  intro hC
  obtain ⟨_, o, ho, d, hd, hb, hon⟩ := h j hC
  obtain ⟨_, o', ho', hall⟩ := mem_ready.1 hj
  rw [ho] at ho'
  cases ho'
  have h1 := hall d hd hb
  have h2 : listed.getD d.on true = false := by
    rcases hon with h3 | h3
    · rw [h3]; exact hi
    · exact (h _ h3).1
  rw [unlisted h2] at h1
  cases h1

theorem Waits.step {C : List Nat} {listed : Array Bool} {j : Nat} (h : Waits md ops C i listed) (hj : j ∉ C) : Waits md ops C i (listed.setIfInBounds j true) := by
  intro x hx
  obtain ⟨h1, h2⟩ := h x hx
  refine ⟨?_, h2⟩
  rw [getD_set_ne true (fun q : j = x => hj (by rw [q]; exact hx))]
  exact h1

theorem until_first {C : List Nat} {oi : Oper} {v : Value} (heC : e ∈ C) (hi : ops[i]? = some oi) (hsel : ∀ (j : Nat) (o : Oper) cs b, ops[j]? = some o → o.op ≠ .select cs b)
    (hQ : ∀ c a w, Q (.panic c) (a.put oi.dst v) w → Q (.panic c) a w) :
    ∀ (fuel : Nat) (listed : Array Bool) (a : Act) (w : World),
      (∀ j oj, ops[j]? = some oj → j ≠ i → listed.getD j true = false → (∀ d ∈ oj.after, Region.binds md d = true → d.on ≠ i) → oi.apart ops oj = true) →
      i ∈ Region.ready md ops listed → Waits md ops C i listed → YieldsIf P ops S oi v a → S w →
      anyUntil P md ops Q S e fuel (listed.setIfInBounds i true) (a.put oi.dst v) w → anyUntil P md ops Q S e (fuel + 1) listed a w := by
  intro fuel
  induction fuel with
  | zero =>
    intro listed a w _ hr hw hy hS H
    refine ⟨fun h => (by rw [h] at hr; cases hr), fun j hj => ?_⟩
    by_cases hji : j = i
    · subst hji; exact hy.wpOp hi hS ⟨fun _ => hS, H⟩
    · have := ready_mono hj hji
      rw [H.1] at this
      cases this
  | succ fuel ih =>
    intro listed a w hfree hr hw hy hS H
    refine ⟨fun h => (by rw [h] at hr; cases hr), fun j hj => ?_⟩
    by_cases hji : j = i
    · subst hji; exact hy.wpOp hi hS ⟨fun _ => hS, H⟩
    · have h1 := H.2 j (ready_mono hj hji)
      have hiun := (mem_ready.1 hr).1
      have hjC := waits_not hw hiun hj
      have hje : j ≠ e := fun h => hjC (h ▸ heC)
      obtain ⟨hjun, oj, hoj, hall⟩ := mem_ready.1 hj
      have hnot : ∀ d ∈ oj.after, Region.binds md d = true → d.on ≠ i := fun d hd hb heq => by
        have h1 := hall d hd hb
        rw [heq, unlisted hiun] at h1
        cases h1
      have h2 := wpOp_putIf hoj (hfree j oj hoj hji hjun hnot) (fun cs b => hsel i oi cs b hi) (fun cs b => hsel j oj cs b hoj) hQ hy h1
      have hfree' : ∀ k ok, ops[k]? = some ok → k ≠ i → (listed.setIfInBounds j true).getD k true = false →
          (∀ d ∈ ok.after, Region.binds md d = true → d.on ≠ i) → oi.apart ops ok = true := fun k ok hk hki hun hno => by
        refine hfree k ok hk hki ?_ hno
        by_cases hjk : j = k
        · subst hjk; exact hjun
        · rw [getD_set_ne true hjk] at hun; exact hun
      refine wpOp_mono (fun a' w' h3 => ⟨fun _ => h3.2.1 hje, ih (listed.setIfInBounds j true) a' w' hfree' (ready_mono hr (Ne.symm hji)) (hw.step hjC) h3.1 (h3.2.1 hje) ?_⟩) h2
      rw [Array.setIfInBounds_comm _ _ hji]
      exact h3.2.2

/-- Take number i first. -/
theorem until_take {v : Value} {oi : Oper} {fuel : Nat} {listed : Array Bool} {a : Act} {w : World} (i : Nat) (C : List Nat) (hi : ops[i]? = some oi) (heC : C.contains e = true)
    (hs : Region.noSelect ops = true) (hf : Region.free md ops listed i = true) (hr : (Region.ready md ops listed).contains i = true) (hw : waits md ops C i listed = true)
    (hQ : ∀ c a w, Q (.panic c) (a.put oi.dst v) w → Q (.panic c) a w) (hy : YieldsIf P ops S oi v a) (hS : S w)
    (h : anyUntil P md ops Q S e fuel (listed.setIfInBounds i true) (a.put oi.dst v) w) : anyUntil P md ops Q S e (fuel + 1) listed a w :=
  until_first (by simpa using heC) hi (Region.noSelect_spec hs) hQ fuel listed a w (Region.free_spec hi hf) (by simpa using hr) (waits_spec hw) hy hS h

theorem until_done {listed : Array Bool} {a : Act} {w : World} (hr : Region.ready md ops listed = []) (h : Q .normal a w) : ∀ fuel, anyUntil P md ops Q S e fuel listed a w
  | 0 => ⟨hr, h⟩
  | _ + 1 => ⟨fun _ => h, by rw [hr]; simp⟩

/-- The beginning. -/
theorem region_until (S : World → Prop) (e : Nat) {id : Nat} {a : Act} {w : World} (hm : P.follows .mixedOrders = true) (hS : S w.drew)
    (h : anyUntil P .any ops Q S e ops.size (Array.replicate ops.size false) a w.drew) : (Code.region id ops true).wp P Q a w :=
  wp_region_any hm (any_of_until _ _ _ _ h)

/-- One operation alone may come up. -/
theorem until_one {j : Nat} {o : Oper} {fuel : Nat} {listed : Array Bool} {a : Act} {w : World} (hr : Region.ready md ops listed = [j]) (ho : ops[j]? = some o)
    (h : ∀ K' : Act → World → Prop, Shut (∀ a w, (j ≠ e → S w) → anyUntil P md ops Q S e fuel (listed.setIfInBounds j true) a w → K' a w) → if Region.wanted o (yielded ops a.tmps) = true then Oper.wp P o a w K' Q else K' (a.put o.dst undef) w) :
    anyUntil P md ops Q S e (fuel + 1) listed a w := by
  refine ⟨fun h0 => (by rw [hr] at h0; cases h0), fun k hk => ?_⟩
  rw [hr] at hk
  simp at hk
  subst hk
  exact wpOp_step ho (fun K' hK => h K' (fun a w h1 h2 => hK a w ⟨h1, h2⟩))

/-- One of two. -/
theorem until_two {j k : Nat} {oj ok : Oper} {fuel : Nat} {listed : Array Bool} {a : Act} {w : World} (hr : Region.ready md ops listed = [j, k]) (hoj : ops[j]? = some oj) (hok : ops[k]? = some ok)
    (h1 : ∀ K' : Act → World → Prop, Shut (∀ a w, (j ≠ e → S w) → anyUntil P md ops Q S e fuel (listed.setIfInBounds j true) a w → K' a w) → if Region.wanted oj (yielded ops a.tmps) = true then Oper.wp P oj a w K' Q else K' (a.put oj.dst undef) w)
    (h2 : ∀ K' : Act → World → Prop, Shut (∀ a w, (k ≠ e → S w) → anyUntil P md ops Q S e fuel (listed.setIfInBounds k true) a w → K' a w) → if Region.wanted ok (yielded ops a.tmps) = true then Oper.wp P ok a w K' Q else K' (a.put ok.dst undef) w) :
    anyUntil P md ops Q S e (fuel + 1) listed a w := by
  refine ⟨fun h0 => (by rw [hr] at h0; cases h0), fun l hl => ?_⟩
  rw [hr] at hl
  simp at hl
  rcases hl with rfl | rfl
  · exact wpOp_step hoj (fun K' hK => h1 K' (fun a w h1 h2 => hK a w ⟨h1, h2⟩))
  · exact wpOp_step hok (fun K' hK => h2 K' (fun a w h1 h2 => hK a w ⟨h1, h2⟩))

end
end Go.Proofs.YtidifjmjbfhpaaaDoor
namespace Go.Proofs.YtidifjmjbfhpaaaDoor
set_option linter.unusedVariables false

section
variable {P : Program} {ops : Array Oper} {Q : Exit → Act → World → Prop} {md : Region.Mode} {S : World → Prop} {e : Nat}

theorem until_three {j k l : Nat} {oj ok ol : Oper} {fuel : Nat} {listed : Array Bool} {a : Act} {w : World} (hr : Region.ready md ops listed = [j, k, l]) (hoj : ops[j]? = some oj) (hok : ops[k]? = some ok) (hol : ops[l]? = some ol)
    (h1 : ∀ K' : Act → World → Prop, Shut (∀ a w, (j ≠ e → S w) → anyUntil P md ops Q S e fuel (listed.setIfInBounds j true) a w → K' a w) → if Region.wanted oj (yielded ops a.tmps) = true then Oper.wp P oj a w K' Q else K' (a.put oj.dst undef) w)
    (h2 : ∀ K' : Act → World → Prop, Shut (∀ a w, (k ≠ e → S w) → anyUntil P md ops Q S e fuel (listed.setIfInBounds k true) a w → K' a w) → if Region.wanted ok (yielded ops a.tmps) = true then Oper.wp P ok a w K' Q else K' (a.put ok.dst undef) w)
    (h3 : ∀ K' : Act → World → Prop, Shut (∀ a w, (l ≠ e → S w) → anyUntil P md ops Q S e fuel (listed.setIfInBounds l true) a w → K' a w) → if Region.wanted ol (yielded ops a.tmps) = true then Oper.wp P ol a w K' Q else K' (a.put ol.dst undef) w) :
    anyUntil P md ops Q S e (fuel + 1) listed a w := by
  refine ⟨fun h0 => (by rw [hr] at h0; cases h0), fun m hm => ?_⟩
  rw [hr] at hm
  simp at hm
  rcases hm with rfl | rfl | rfl
  · exact wpOp_step hoj (fun K' hK => h1 K' (fun a w h1 h2 => hK a w ⟨h1, h2⟩))
  · exact wpOp_step hok (fun K' hK => h2 K' (fun a w h1 h2 => hK a w ⟨h1, h2⟩))
  · exact wpOp_step hol (fun K' hK => h3 K' (fun a w h1 h2 => hK a w ⟨h1, h2⟩))

end
end Go.Proofs.YtidifjmjbfhpaaaDoor
