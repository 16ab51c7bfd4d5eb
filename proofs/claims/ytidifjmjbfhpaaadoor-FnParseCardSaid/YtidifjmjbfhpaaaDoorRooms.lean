/- (nat).make of a nil slice and of a row of the call's own: the whole room is known to be integers. -/
/- A receiver: nil, or a row of the call's own whose whole room is known to be integers. (nat).make of a receiver. -/
import Derived.Test.YtidifjmjbfhpaaaDoorMake
namespace Go.Proofs.YtidifjmjbfhpaaaDoor
set_option linter.unusedVariables false
set_option maxRecDepth 20000
set_option linter.unusedSimpArgs false
open Go.RowKit

/-- 'make([]T, l, c)': the zeros of its whole room. -/
theorem wpList_make_all {P : Program} (w : World) {ops : Array Oper} {rest : List Oper} {o : Oper} {a : Act} {Q : Exit → Act → World → Prop}
    (hg : o.guard = none) (lo co : Operand) (t : TypeId) (hop : o.op = Op.makeSlice t lo co)
    (base : Nat) (e : TypeId) (i : TypeInfo) (k : IntKind) (h1 : P.underlying t = some (.slice e)) (h2 : P.info? e = some i) (h3 : i.zero = some (.int k 0)) (h4 : i.size = 1)
    (kl kc : IntKind) (A C : Int) (l c : Nat) (hl : a.eval lo = .int kl A) (hc : a.eval co = .int kc C) (hA : A = (l : Int)) (hC : C = (c : Int)) (hlc : l ≤ c) (b2 : i.bytes * c ≤ 281474976710656) (b3 : c ≤ 9223372036854775807) (b4 : base ≤ w.heap.size)
    (hK : ∀ w', Own w' base e k (.slice (some ⟨w.heap.size, 0, none⟩) c c) c (fun _ => 0) → w.grownBy w' none → wpList P ops Q rest (a.put o.dst (.slice (some ⟨w.heap.size, 0, none⟩) l c)) w') :
    wpList P ops Q (o :: rest) a w := by
  refine wpList_plain hg fun K hK' => ?_
  have hb' : (i.bytes : Int) * (c : Int) ≤ 281474976710656 := by
    have h : ((i.bytes * c : Nat) : Int) ≤ 281474976710656 := by omega
    rwa [Int.natCast_mul] at h
  have hr := run_make (P := P) w t e i (.int k 0) h1 h2 h3 kl kc l c (by omega) (by omega) hb' (by omega)
  subst hA
  subst hC
  simp only [Int.toNat_natCast] at hr
  unfold Oper.wp
  simp [execOp, hop, hl, hc, hr, Result.andThen]
  refine hK' _ _ (hK _ ?_ (World.grownBy_alloc w _ none))
  refine ⟨by simp [L_length], .inr ⟨w.heap.size, c, _, rfl, b4, heap_alloc_new w _, Nat.le_refl _, by unfold maxLen; omega, by rw [h4]; exact size_madeCells _ _, ?_⟩⟩
  rw [h4, Nat.mul_one]
  have e1 : (madeCells (Value.int k 0).cells c).toList = List.replicate c (Value.int k 0) := toList_madeCells_one _ _
  rw [e1, L_zero, L_take _ _ (Nat.le_refl _)]

theorem make_new (n : Nat) (w : World) (hn : 1 ≤ n) (hb : n ≤ 2147483647) :
    Calls Tryd.prog 76 #[.slice none 0 0, .int .i64 n] w fun e w' => ∃ c, e = .returned (.slice (some ⟨w.heap.size, 0, none⟩) n c) ∧ n ≤ c ∧ c ≤ n + 4 ∧ Own w' w.heap.size 83 .u64 (.slice (some ⟨w.heap.size, 0, none⟩) c c) c (fun _ => 0) ∧ Below w.heap.size w w' := by
  obtain ⟨i0, hi, hz0, hz1, hz2⟩ := info_parts info_Word
  match n, hn, hb with
  | 1, _, _ =>
    go_enter Tryd.func76, Tryd.ntmps76
    go_wp2_with (at_make; refine wpList_make_all _ rfl _ _ 70 rfl w.heap.size 83 i0 .u64 Tryd.underlying70 hi hz0 hz1 .i64 .i64 1 1 1 1 rfl rfl rfl rfl (by omega) (by rw [hz2]; omega) (by omega) (Nat.le_refl _) ?_; intro w1 hown1 hgrow1)
    go_ret
    exact ⟨1, rfl, by omega, by omega, hown1, (Below.refl _ _).grown hgrow1 (Nat.le_refl _) (by simp)⟩
  | n + 2, _, hb =>
    have hne : ((n : Int) + 2 == 1) = false := by simp; omega
    go_enter Tryd.func76, Tryd.ntmps76
    go_wp2_with (at_make; refine wpList_make_all _ rfl (.tmp 15) (.tmp 17) 70 rfl w.heap.size 83 i0 .u64 Tryd.underlying70 hi hz0 hz1 .i64 .i64 ((n : Int) + 2) ((n : Int) + 2 + 4) (n + 2) (n + 6) rfl rfl (by omega) (by omega) (by omega) (by rw [hz2]; omega) (by omega) (Nat.le_refl _) ?_; intro w1 hown1 hgrow1)
    go_ret
    exact ⟨n + 6, rfl, by omega, by omega, hown1, (Below.refl _ _).grown hgrow1 (Nat.le_refl _) (by simp)⟩

/-- A row that has room is taken again. -/
theorem make_reuse (g m c n : Nat) (w : World) (hnc : n ≤ c) (hc : c ≤ 9223372036854775807) :
    Calls Tryd.prog 76 #[.slice (some ⟨g, 0, none⟩) m c, .int .i64 n] w fun e w' => e = .returned (.slice (some ⟨g, 0, none⟩) n c) ∧ w = w' := by
  go_enter Tryd.func76, Tryd.ntmps76
  go_wp2
  go_ret
  exact ⟨rfl, rfl⟩

theorem make_grow (g m c n : Nat) (w : World) (hmc : m ≤ c) (hcn : c < n) (hb : n ≤ 2147483647) (hm : 1 ≤ c) :
    Calls Tryd.prog 76 #[.slice (some ⟨g, 0, none⟩) m c, .int .i64 n] w fun e w' => ∃ c', e = .returned (.slice (some ⟨w.heap.size, 0, none⟩) n c') ∧ n ≤ c' ∧ c' ≤ n + 4 ∧ Own w' w.heap.size 83 .u64 (.slice (some ⟨w.heap.size, 0, none⟩) c' c') c' (fun _ => 0) ∧ Below w.heap.size w w' := by
  obtain ⟨i0, hi, hz0, hz1, hz2⟩ := info_parts info_Word
  match n, hcn, hb with
  | 0, h, _ => omega
  | 1, h, _ => omega
  | n + 2, hcn, hb =>
    have hne : ((n : Int) + 2 == 1) = false := by simp; omega
    have hlt : ¬ ((n : Int) + 2 ≤ (c : Int)) := by omega
    go_enter Tryd.func76, Tryd.ntmps76
    go_wp2_with (at_make; refine wpList_make_all _ rfl (.tmp 15) (.tmp 17) 70 rfl w.heap.size 83 i0 .u64 Tryd.underlying70 hi hz0 hz1 .i64 .i64 ((n : Int) + 2) ((n : Int) + 2 + 4) (n + 2) (n + 6) rfl rfl (by omega) (by omega) (by omega) (by rw [hz2]; omega) (by omega) (Nat.le_refl _) ?_; intro w1 hown1 hgrow1)
    go_ret
    exact ⟨n + 6, rfl, by omega, by omega, hown1, (Below.refl _ _).grown hgrow1 (Nat.le_refl _) (by simp)⟩

end Go.Proofs.YtidifjmjbfhpaaaDoor
namespace Go.Proofs.YtidifjmjbfhpaaaDoor
set_option linter.unusedVariables false
set_option linter.unusedSimpArgs false
open Go.RowKit

/-- v is nil, or n integers f 0, f 1, .. at the head of a row of the call's own. -/
def Room (w : World) (base : Nat) (v : Value) (n : Nat) (f : Nat → Nat) : Prop :=
  (v = .slice none 0 0 ∧ n = 0) ∨ ∃ g c F, v = .slice (some ⟨g, 0, none⟩) n c ∧ n ≤ c ∧ 1 ≤ c ∧ c ≤ 4000000000 ∧ Own w base 83 .u64 (.slice (some ⟨g, 0, none⟩) c c) c F ∧ ∀ j, j < n → F j = f j

theorem Room.nil (w : World) (base : Nat) (f : Nat → Nat) : Room w base (.slice none 0 0) 0 f := .inl ⟨rfl, rfl⟩
theorem Room.own {w : World} {base n : Nat} {v : Value} {f : Nat → Nat} (h : Room w base v n f) : Own w base 83 .u64 v n f := by
  rcases h with ⟨rfl, rfl⟩ | ⟨g, c, F, rfl, hn, _, _, own, hF⟩
  · exact Own.nil _ _ _ _ _
  · exact (own.take hn).congr hF
theorem Room.of {w : World} {base n g c : Nat} {F f : Nat → Nat} (hn : n ≤ c) (h1 : 1 ≤ c) (hc : c ≤ 4000000000) (own : Own w base 83 .u64 (.slice (some ⟨g, 0, none⟩) c c) c F) (hF : ∀ j, j < n → F j = f j) :
    Room w base (.slice (some ⟨g, 0, none⟩) n c) n f := .inr ⟨g, c, F, rfl, hn, h1, hc, own, hF⟩
theorem Room.base_le {w : World} {base base' n : Nat} {v : Value} {f : Nat → Nat} (h : Room w base v n f) (hb : base' ≤ base) : Room w base' v n f := by
  rcases h with h | ⟨g, c, F, rfl, hn, h1, hc, own, hF⟩
  · exact .inl h
  · exact .inr ⟨g, c, F, rfl, hn, h1, hc, own.base_le hb, hF⟩

def MakePost (base m n : Nat) (v : Value) (f : Nat → Nat) (w : World) (e : Ending) (w' : World) : Prop :=
  ∃ g c F, e = .returned (.slice (some ⟨g, 0, none⟩) n c) ∧ n ≤ c ∧ 1 ≤ c ∧ c ≤ 4000000000 ∧ Own w' base 83 .u64 (.slice (some ⟨g, 0, none⟩) c c) c F ∧ Below w.heap.size w w' ∧
    ((w' = w ∧ v = .slice (some ⟨g, 0, none⟩) m c ∧ ∀ j, j < m → F j = f j) ∨ g = w.heap.size)

theorem make_room (v : Value) (base m n : Nat) (f : Nat → Nat) (w : World) (h : Room w base v m f) (hb : base ≤ w.heap.size) (hn : 1 ≤ n) (hnb : n ≤ 2147483647) :
    Calls Tryd.prog 76 #[v, .int .i64 n] w (MakePost base m n v f w) := by
  rcases h with ⟨rfl, rfl⟩ | ⟨g, c, F, rfl, hmc, h1, hc, own, hF⟩
  · refine (make_new n w hn hnb).mono ?_
    rintro e w' ⟨c, rfl, h1, h2, own, bel⟩
    exact ⟨_, c, _, rfl, h1, by omega, by omega, own.base_le hb, bel, .inr rfl⟩
  · by_cases hnc : n ≤ c
    · refine (make_reuse g m c n w hnc (by omega)).mono ?_
      rintro e w' ⟨rfl, rfl⟩
      exact ⟨g, c, F, rfl, hnc, h1, hc, own, Below.refl _ _, .inl ⟨rfl, rfl, hF⟩⟩
    · refine (make_grow g m c n w hmc (by omega) hnb h1).mono ?_
      rintro e w' ⟨c', rfl, h3, h4, own', bel⟩
      exact ⟨_, c', _, rfl, h3, by omega, by omega, own'.base_le hb, bel, .inr rfl⟩

end Go.Proofs.YtidifjmjbfhpaaaDoor
