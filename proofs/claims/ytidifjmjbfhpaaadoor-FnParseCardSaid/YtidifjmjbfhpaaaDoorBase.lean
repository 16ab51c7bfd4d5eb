/- Small words and lemmas on rows of integers in memory: what a slice of integers reads as, and what stays as it was. Nothing here speaks of the program. -/
import Derived.WalkKit
import Derived.WalkSpells
import Derived.WalkLawsBesides
import Derived.BigQuiet
import Derived.Deep.QuietTactic
import Derived.Lib.Hide
import Derived.Deep.RegionWith
import Derived.Deep.Light
import Derived.Laws.AppendOwnNone
import Derived.Lib.EndianBits
import Derived.Test.YtidifjmjbfhpaaaDoorPlain
namespace Go.Proofs.YtidifjmjbfhpaaaDoor
set_option linter.unusedVariables false
set_option maxRecDepth 20000
set_option linter.unusedSimpArgs false
open Go.RowKit

/-- The first n cells of a slice's array hold f 0, f 1, .. -/
def Reads (w : World) (k : IntKind) (ao : Option Addr) (n : Nat) (f : Nat → Nat) : Prop :=
  ∀ i, i < n → ∃ b o, ao = some ⟨b, o, none⟩ ∧ w.cell? ⟨b, o + i, none⟩ = some (.int k (f i))

/-- A row of integers as values. -/
def L (k : IntKind) (f : Nat → Nat) (n : Nat) : List Value := (List.range n).map fun i => Value.int k (f i)

theorem L_length (k : IntKind) (f : Nat → Nat) (n : Nat) : (L k f n).length = n := by simp [L]
theorem L_get (k : IntKind) (f : Nat → Nat) (n i : Nat) (h : i < n) : (L k f n)[i]? = some (.int k (f i)) := by simp [L, h]
theorem L_congr {k : IntKind} {f g : Nat → Nat} {n : Nat} (h : ∀ i, i < n → f i = g i) : L k f n = L k g n := by
  unfold L; refine List.map_congr_left fun i hi => ?_; rw [h i (by simpa using hi)]
theorem L_take (k : IntKind) (f : Nat → Nat) {m n : Nat} (h : m ≤ n) : (L k f n).take m = L k f m := by
  unfold L; rw [← List.map_take, List.take_range, Nat.min_eq_left h]
theorem L_snoc (k : IntKind) (f : Nat → Nat) (n : Nat) : L k f (n + 1) = L k f n ++ [.int k (f n)] := by simp [L, List.range_succ]
theorem L_oneCell (k : IntKind) (f : Nat → Nat) (n : Nat) : ∀ u ∈ L k f n, u.oneCell' = true := by
  intro u hu
  obtain ⟨_, _, rfl⟩ := List.mem_map.1 hu
  rfl
theorem L_zero (k : IntKind) (n : Nat) : List.replicate n (Value.int k 0) = L k (fun _ => 0) n := by
  refine List.ext_getElem? fun i => ?_
  by_cases h : i < n
  · rw [L_get _ _ _ _ h]; simp [h]
  · rw [List.getElem?_eq_none (by simp; omega), List.getElem?_eq_none (by rw [L_length]; omega)]

/-- One place of a row anew. -/
def upd (f : Nat → Nat) (j x : Nat) : Nat → Nat := fun i => if i = j then x else f i
theorem upd_same (f : Nat → Nat) (j x : Nat) : upd f j x j = x := by simp [upd]
theorem upd_other (f : Nat → Nat) {j i : Nat} (x : Nat) (h : i ≠ j) : upd f j x i = f i := by simp [upd, h]
theorem L_set (k : IntKind) (f : Nat → Nat) (n j x : Nat) : (L k f n).set j (.int k x) = L k (upd f j x) n := by
  apply List.ext_getElem?
  intro i
  by_cases hi : i < n
  · rw [L_get _ _ _ _ hi, List.getElem?_set]
    by_cases e : j = i
    · subst e; simp [L_length, hi, upd]
    · rw [if_neg e, L_get _ _ _ _ hi, upd_other _ _ (fun h => e h.symm)]
  · rw [List.getElem?_eq_none (by simp [L_length]; omega), List.getElem?_eq_none (by simp [L_length]; omega)]

/-- v is a slice of n integers f 0, f 1, .. that lies in a block of the call's own, from its head on (or nil, of none). -/
def Own (w : World) (base : Nat) (e : TypeId) (k : IntKind) (v : Value) (n : Nat) (f : Nat → Nat) : Prop := w.ownsRow base e 1 v n (L k f n)

theorem Own.nil (w : World) (base : Nat) (e : TypeId) (k : IntKind) (f : Nat → Nat) : Own w base e k (.slice none 0 0) 0 f := World.ownsRow_nil w base e 1

section
variable {w w' : World} {base : Nat} {e : TypeId} {k : IntKind} {v : Value} {n : Nat} {f g : Nat → Nat}

theorem Own.congr (h : Own w base e k v n f) (hf : ∀ i, i < n → f i = g i) : Own w base e k v n g := by
  unfold Own at *; rwa [← L_congr hf]

theorem Own.kept {row : Option Nat} (h : Own w base e k v n f) (hg : w.grownBy w' row) (hne : v.ownBlock = none ∨ v.ownBlock ≠ row) : Own w' base e k v n f :=
  World.ownsRow.kept h hg hne
theorem Own.alloc (h : Own w base e k v n f) (o : Obj) : Own (w.alloc o) base e k v n f := World.ownsRow.alloc h o
theorem Own.drew (h : Own w base e k v n f) : Own w.drew base e k v n f := World.ownsRow.drew h

theorem Own.drewN (h : Own w base e k v n f) (m : Nat) : Own (w.drewN m) base e k v n f := h
theorem Below.drewN' {B : Nat} {a w : World} (h : Below B a w) (m : Nat) : Below B a (w.drewN m) := ⟨h.os, h.tape, h.output, h.size, h.block⟩

/-- What is owned stays owned where nothing from its block on is turned. -/
theorem Own.below {B : Nat} (h : Own w base e k v n f) (hb : Below B w w') (hB : ∀ b, v.ownBlock = some b → b < B) : Own w' base e k v n f := by
  refine ⟨h.1, ?_⟩
  rcases h.2 with hn | ⟨g, cap, cur, rfl, hbg, hgg, rest⟩
  · exact .inl hn
  · exact .inr ⟨g, cap, cur, rfl, hbg, by rw [hb.block g (hB g rfl)]; exact hgg, rest⟩

theorem Own.base_le {base' : Nat} (h : Own w base e k v n f) (hb : base' ≤ base) : Own w base' e k v n f := by
  refine ⟨h.1, ?_⟩
  rcases h.2 with hn | ⟨g, cap, cur, hv, hbg, rest⟩
  · exact .inl hn
  · exact .inr ⟨g, cap, cur, hv, Nat.le_trans hb hbg, rest⟩

theorem Own.shape (h : Own w base e k v n f) : (v = .slice none 0 0 ∧ n = 0) ∨ ∃ g cap, v = .slice (some ⟨g, 0, none⟩) n cap ∧ base ≤ g ∧ g < w.heap.size ∧ n ≤ cap ∧ cap ≤ 9223372036854775807 := by
  rcases h.2 with hn | ⟨g, cap, cur, rfl, hbg, hgg, h1, h2, _⟩
  · exact .inl hn
  · exact .inr ⟨g, cap, rfl, hbg, lt_of_block hgg, h1, by unfold maxLen at h2; omega⟩

/-- The slice's address, length and capacity, without the two cases. -/
theorem Own.parts (h : Own w base e k v n f) : ∃ ao cap, v = .slice ao n cap ∧ n ≤ cap ∧ cap ≤ 9223372036854775807 ∧ Reads w k ao n f ∧ (∀ b, v.ownBlock = some b → base ≤ b ∧ b < w.heap.size) := by
  rcases h.shape with ⟨rfl, rfl⟩ | ⟨g, cap, rfl, h1, h2, h3, h4⟩
  · exact ⟨none, 0, rfl, Nat.le_refl _, by omega, fun i hi => by omega, fun b hb => by simp [Value.ownBlock] at hb⟩
  · refine ⟨some ⟨g, 0, none⟩, cap, rfl, h3, h4, fun i hi => ⟨g, 0, rfl, ?_⟩, fun b hb => by simp [Value.ownBlock] at hb; subst hb; exact ⟨h1, h2⟩⟩
    have := World.ownsRow.cellAt h i (by omega)
    rw [Nat.zero_add, this, L_get _ _ _ _ hi]

theorem Own.lt (h : Own w base e k v n f) : ∀ b, v.ownBlock = some b → base ≤ b ∧ b < w.heap.size := by
  obtain ⟨_, _, _, _, _, _, h⟩ := h.parts; exact h

section
variable {gb cap : Nat}
theorem Own.cell (h : Own w base e k (.slice (some ⟨gb, 0, none⟩) n cap) n f) (i : Nat) (hi : i < n) : w.cell? ⟨gb, i, none⟩ = some (.int k (f i)) := by
  rw [World.ownsRow.cellAt h i (by omega), L_get _ _ _ _ hi]
theorem Own.free (h : Own w base e k (.slice (some ⟨gb, 0, none⟩) n cap) n f) (i : Nat) : w.frozen? ⟨gb, i, none⟩ = false := World.ownsRow.frozenAt h i
theorem Own.stored (h : Own w base e k (.slice (some ⟨gb, 0, none⟩) n cap) n f) (j x : Nat) :
    Own (w.setCell ⟨gb, j, none⟩ (.int k x)) base e k (.slice (some ⟨gb, 0, none⟩) n cap) n (upd f j x) := by
  have := (World.ownsRow.stored h j (.int k x)).1
  rw [L_set] at this
  exact this
theorem Own.take {m : Nat} (h : Own w base e k (.slice (some ⟨gb, 0, none⟩) n cap) n f) (hm : m ≤ n) : Own w base e k (.slice (some ⟨gb, 0, none⟩) m cap) m f := by
  refine ⟨by simp [L_length], ?_⟩
  rcases h.2 with ⟨h', _⟩ | ⟨g', cap', cur, h', hb, hg, hnc, hcm, hcs, htake⟩
  · simp at h'
  · simp only [Value.slice.injEq, Option.some.injEq, Addr.mk.injEq, and_true, true_and] at h'
    obtain ⟨rfl, rfl⟩ := h'
    refine .inr ⟨gb, cap, cur, rfl, hb, hg, by omega, hcm, hcs, ?_⟩
    rw [Nat.mul_one] at htake ⊢
    rw [← L_take k f hm, ← htake, List.take_take, Nat.min_eq_left hm]
end

theorem Own.cut {ao : Option Addr} {cap m : Nat} (h : Own w base e k (.slice ao n cap) n f) (hm : m ≤ n) : Own w base e k (.slice ao m cap) m f := by
  rcases h.shape with ⟨h1, h2⟩ | ⟨g, cap', h1, _⟩
  · simp at h1
    obtain ⟨rfl, h3, rfl⟩ := h1
    have : m = 0 := by omega
    subst this
    exact Own.nil _ _ _ _ _
  · simp at h1
    obtain ⟨rfl, rfl⟩ := h1
    exact h.take hm

/-- 'T{}': a slice of no elements in a new block. -/
theorem Own.empty (w : World) (base : Nat) (e : TypeId) (k : IntKind) (f : Nat → Nat) (hb : base ≤ w.heap.size) : Own (w.alloc (.cells #[] e)) base e k (.slice (some ⟨w.heap.size, 0, none⟩) 0 0) 0 f :=
  World.ownsRow_made w #[] 0 hb (by simp [maxLen]) (by simp)

/-- Behind a make. -/
theorem Own.made (h : w.ownsRow base e 1 v n (madeCells (Value.int k 0).cells (n * 1)).toList) : Own w base e k v n (fun _ => 0) := by
  unfold Own
  rw [← L_zero]
  have h2 : (madeCells (Value.int k 0).cells (n * 1)).toList = List.replicate n (Value.int k 0) := by
    rw [Nat.mul_one]; exact toList_madeCells_one _ _
  rwa [h2] at h

/-- One integer more at its end: out of the law on append. -/
theorem Own.snoc {x : Nat} (h : w.ownsRow base e 1 v (n + 1) (L k f n ++ [.int k x])) : Own w base e k v (n + 1) (upd f n x) := by
  unfold Own
  rw [L_snoc, upd_same, L_congr (g := f) fun i hi => upd_other f x (by omega)]
  exact h
end

/-- 'make([]T, l, c)' of integers, l and c variables: l zeros are owned, with room for c. -/
theorem wpList_make_room {P : Program} (w : World) {ops : Array Oper} {rest : List Oper} {o : Oper} {a : Act} {Q : Exit → Act → World → Prop}
    (hg : o.guard = none) (lo co : Operand) (t : TypeId) (hop : o.op = Op.makeSlice t lo co)
    (base : Nat) (e : TypeId) (i : TypeInfo) (k : IntKind) (h1 : P.underlying t = some (.slice e)) (h2 : P.info? e = some i) (h3 : i.zero = some (.int k 0)) (h4 : i.size = 1)
    (kl kc : IntKind) (A C : Int) (l c : Nat) (hl : a.eval lo = .int kl A) (hc : a.eval co = .int kc C) (hA : A = (l : Int)) (hC : C = (c : Int)) (hlc : l ≤ c) (b2 : i.bytes * c ≤ 281474976710656) (b3 : c ≤ 9223372036854775807) (b4 : base ≤ w.heap.size)
    (hK : ∀ w', Own w' base e k (.slice (some ⟨w.heap.size, 0, none⟩) l c) l (fun _ => 0) → w.grownBy w' none → wpList P ops Q rest (a.put o.dst (.slice (some ⟨w.heap.size, 0, none⟩) l c)) w') :
    wpList P ops Q (o :: rest) a w := by
  refine wpList_plain hg fun K hK' => ?_
  have hb' : (i.bytes : Int) * (c : Int) ≤ 281474976710656 := by
    have h : ((i.bytes * c : Nat) : Int) ≤ 281474976710656 := by omega
    rwa [Int.natCast_mul] at h
  have hr := run_make (P := P) w t e i (.int k 0) h1 h2 h3 kl kc l c (by omega) (by omega) hb' (by omega)
  subst hA
  subst hC
  simp only [Int.toNat_natCast] at hr
  unfold Oper.wp
  simp [execOp, hop, hl, hc, hr, Result.andThen]
  refine hK' _ _ (hK _ ?_ (World.grownBy_alloc w _ none))
  refine ⟨by simp [L_length], .inr ⟨w.heap.size, c, _, rfl, b4, heap_alloc_new w _, hlc, by unfold maxLen; omega, by rw [h4]; exact size_madeCells _ _, ?_⟩⟩
  rw [h4, Nat.mul_one, Nat.mul_one]
  have e1 : (madeCells (Value.int k 0).cells c).toList = List.replicate c (Value.int k 0) := toList_madeCells_one _ _
  rw [e1, L_zero, L_take _ _ hlc]

/-- 'd | x << i' on words, nothing lost: a sum. -/
theorem nat_or_join (d x i : Nat) (hd : d < 2 ^ i) : d ||| x * 2 ^ i = d + x * 2 ^ i := by
  have := Nat.two_pow_add_eq_or_of_lt hd x
  rw [Nat.or_comm, Nat.mul_comm x, ← this, Nat.add_comm]
theorem or_u64_join (d x i : Nat) (hd : d < 2 ^ i) (hi : i ≤ 64) (hx : x * 2 ^ i < 18446744073709551616) :
    bits .or .u64 (d : Int) (IntKind.u64.wrap ((x : Int) * 2 ^ i)) = ((d + x * 2 ^ i : Nat) : Int) := by
  have e : IntKind.u64.wrap ((x : Int) * 2 ^ i) = ((x * 2 ^ i : Nat) : Int) := by
    have h : ((x : Int) * 2 ^ i) = ((x * 2 ^ i : Nat) : Int) := by rw [Int.natCast_mul, Int.natCast_pow]; rfl
    rw [h, IntKind.wrap_u64]; omega
  have h1 : 2 ^ i ≤ 2 ^ 64 := Nat.pow_le_pow_right (by omega) hi
  rw [e, bits_or_u64_nat _ _ (by omega) hx, nat_or_join d x i hd]

/-- A block of two cells (a struct of two fields of one cell each). -/
def Pair (w : World) (p : Nat) (T : TypeId) (a b : Value) : Prop := w.heap[p]? = some (.cells #[a, b] T (0, 0))

section
variable {w w' : World} {p : Nat} {T : TypeId} {a b : Value}
theorem Pair.lt (h : Pair w p T a b) : p < w.heap.size := lt_of_block h
theorem Pair.cell0 (h : Pair w p T a b) : w.cell? ⟨p, 0, none⟩ = some a := by unfold Pair at h; simp [World.cell?, h]
theorem Pair.cell1 (h : Pair w p T a b) : w.cell? ⟨p, 1, none⟩ = some b := by unfold Pair at h; simp [World.cell?, h]
theorem Pair.free (h : Pair w p T a b) (i : Nat) : w.frozen? ⟨p, i, none⟩ = false := by unfold Pair at h; simp [World.frozen?, h]
theorem Pair.set0 (h : Pair w p T a b) (u : Value) : Pair (w.setCell ⟨p, 0, none⟩ u) p T u b := by
  have := heap_setCell_same w p 0 #[a, b] T u h
  simpa [Pair] using this
theorem Pair.set1 (h : Pair w p T a b) (u : Value) : Pair (w.setCell ⟨p, 1, none⟩ u) p T a u := by
  have := heap_setCell_same w p 1 #[a, b] T u h
  simpa [Pair] using this
theorem Pair.setOther (h : Pair w p T a b) {x : Addr} (hx : p ≠ x.block) (u : Value) : Pair (w.setCell x u) p T a b := by
  unfold Pair; rw [Below.heap_setCell _ _ _ _ hx]; exact h
theorem Pair.below {B : Nat} (h : Pair w p T a b) (hb : Below B w w') (hp : p < B) : Pair w' p T a b := by
  unfold Pair; rw [hb.block p hp]; exact h
theorem Pair.grown {row : Option Nat} (h : Pair w p T a b) (hg : w.grownBy w' row) (hp : some p ≠ row) : Pair w' p T a b := by
  unfold Pair; rw [hg.block p h.lt hp]; exact h
theorem Pair.new (w : World) (T : TypeId) (a b : Value) : Pair (w.alloc (.cells #[a, b] T)) w.heap.size T a b := heap_alloc_new w _
theorem Pair.alloc (h : Pair w p T a b) (o : Obj) : Pair (w.alloc o) p T a b := by
  unfold Pair; rw [Below.heap_alloc _ _ _ h.lt]; exact h
theorem Pair.drew (h : Pair w p T a b) : Pair w.drew p T a b := h
theorem Pair.drewN (h : Pair w p T a b) (m : Nat) : Pair (w.drewN m) p T a b := h
end

theorem grown_trans {w w1 w2 : World} {row : Option Nat} (h : w.grownBy w1 row) (k : w1.grownBy w2 row) : w.grownBy w2 row :=
  ⟨k.os.trans h.os, k.tape.trans h.tape, k.output.trans h.output, Nat.le_trans h.size k.size, fun i hi hr => (k.block i (Nat.lt_of_lt_of_le hi h.size) hr).trans (h.block i hi hr)⟩
/-- Where nothing that was there has turned, nothing but one block has. -/
theorem grown_of_below {w w' : World} (h : Below w.heap.size w w') (row : Option Nat) : w.grownBy w' row := ⟨h.os, h.tape, h.output, h.size, fun k hk _ => h.block k hk⟩
theorem grown_setCell (w : World) (a : Addr) (u : Value) : w.grownBy (w.setCell a u) (some a.block) :=
  ⟨rfl, rfl, rfl, by simp [World.setCell], fun k _ hk => Below.heap_setCell _ _ _ _ (fun e => hk (by rw [e]))⟩
theorem grown_drewN (w : World) (m : Nat) (row : Option Nat) : w.grownBy (w.drewN m) row := ⟨rfl, rfl, rfl, Nat.le_refl _, fun _ _ _ => rfl⟩
theorem below_grown_new {B : Nat} {w w1 w2 : World} {p : Nat} (h : Below B w w1) (hg : w1.grownBy w2 (some p)) (hB : B ≤ w1.heap.size) (hp : B ≤ p) : Below B w w2 :=
  h.grown hg hB (fun k e => by simp at e; omega)
theorem Reads.of_own {w : World} {base n : Nat} {e : TypeId} {k : IntKind} {ao : Option Addr} {cap : Nat} {f : Nat → Nat} (h : Own w base e k (.slice ao n cap) n f) : Reads w k ao n f := by
  obtain ⟨ao', cap', hv, _, _, h, _⟩ := h.parts
  simp at hv; obtain ⟨rfl, rfl⟩ := hv; exact h
theorem Reads.lt {w : World} {k : IntKind} {ao : Option Addr} {n : Nat} {f : Nat → Nat} (h : Reads w k ao n f) (hn : 0 < n) : ∃ b o, ao = some ⟨b, o, none⟩ ∧ b < w.heap.size := by
  obtain ⟨b, o, h1, h2⟩ := h 0 hn
  exact ⟨b, o, h1, World.block_lt_of_cell? _ _ h2⟩
/-- What could be read can be read still where nothing that was there has turned. -/
theorem Reads.below {w w' : World} {k : IntKind} {ao : Option Addr} {n : Nat} {f : Nat → Nat} (h : Reads w k ao n f) (hb : Below w.heap.size w w') : Reads w' k ao n f := by
  intro i hi
  obtain ⟨b, o, h1, h2⟩ := h i hi
  exact ⟨b, o, h1, (hb.cell (World.block_lt_of_cell? _ _ h2)).trans h2⟩
theorem Reads.below' {B : Nat} {w w' : World} {k : IntKind} {ao : Option Addr} {n : Nat} {f : Nat → Nat} (h : Reads w k ao n f) (hb : Below B w w') (hB : ∀ a, ao = some a → a.block < B) : Reads w' k ao n f := by
  intro i hi
  obtain ⟨b, o, h1, h2⟩ := h i hi
  exact ⟨b, o, h1, (hb.cell (p := ⟨b, o + i, none⟩) (show b < B from hB _ h1)).trans h2⟩
theorem Reads.grown {w w' : World} {row : Option Nat} {k : IntKind} {ao : Option Addr} {n : Nat} {f : Nat → Nat} (h : Reads w k ao n f) (hg : w.grownBy w' row) (hr : ∀ a, ao = some a → some a.block ≠ row) : Reads w' k ao n f := by
  intro i hi
  obtain ⟨b, o, h1, h2⟩ := h i hi
  exact ⟨b, o, h1, hg.cell h2 (show some b ≠ row from hr _ h1)⟩
theorem Reads.congr {w : World} {k : IntKind} {ao : Option Addr} {n : Nat} {f g : Nat → Nat} (h : Reads w k ao n f) (hf : ∀ i, i < n → f i = g i) : Reads w k ao n g := by
  intro i hi
  obtain ⟨b, o, h1, h2⟩ := h i hi
  exact ⟨b, o, h1, by rw [← hf i hi]; exact h2⟩
/-- What an append reads of a source. -/
theorem Reads.news {w : World} {k : IntKind} {a : Addr} {n : Nat} {f : Nat → Nat} (h : Reads w k (some a) n f) : ∀ j u, (L k f n)[j]? = some u → w.cell? (a.add j) = some u := by
  intro j u hu
  by_cases hj : j < n
  · obtain ⟨b, o, h1, h2⟩ := h j hj
    simp at h1
    subst h1
    rw [L_get _ _ _ _ hj] at hu
    simp at hu
    rw [← hu, Addr.add_lit]; exact h2
  · rw [List.getElem?_eq_none (by rw [L_length]; omega)] at hu; cases hu
/-- The cells, where there is one. -/
theorem Reads.cellAt {w : World} {k : IntKind} {n b o : Nat} {f : Nat → Nat} (h : Reads w k (some ⟨b, o, none⟩) n f) {i : Nat} (hi : i < n) : w.cell? ⟨b, o + i, none⟩ = some (.int k (f i)) := by
  obtain ⟨b', o', h1, h2⟩ := h i hi
  obtain ⟨rfl⟩ := h1
  exact h2

/-- One row behind another. -/
def cat (f : Nat → Nat) (n : Nat) (g : Nat → Nat) : Nat → Nat := fun i => if i < n then f i else g (i - n)
theorem L_cat (k : IntKind) (f g : Nat → Nat) (n m : Nat) : L k f n ++ L k g m = L k (cat f n g) (n + m) := by
  apply List.ext_getElem?
  intro i
  by_cases h : i < n + m
  · rw [L_get _ _ _ _ h]
    unfold cat
    by_cases h1 : i < n
    · rw [if_pos h1, List.getElem?_append_left (by rw [L_length]; exact h1), L_get _ _ _ _ h1]
    · rw [if_neg h1, List.getElem?_append_right (by rw [L_length]; omega), L_length, L_get _ _ _ _ (by omega)]
  · rw [List.getElem?_eq_none (by rw [List.length_append, L_length, L_length]; omega), List.getElem?_eq_none (by rw [L_length]; omega)]

/-- 'append(x, y...)' of integers, x nil or the call's own, y whatever slice. -/
theorem wpList_append_slice {P : Program} {w : World} {ops : Array Oper} {rest : List Oper} {o : Oper} {a : Act} {Q : Exit → Act → World → Prop} (hgd : o.guard = none) (s x : Operand) (t : TypeId)
    (ho : o.op = .call { callee := .builtin .append, args := #[s, x], argTypes := #[t, t] })
    (base : Nat) (e : TypeId) (i : TypeInfo) (k : IntKind) (bytes : Nat) (ht : P.underlying t = some (.slice e)) (hi : P.info? e = some i) (hz : i.zero = some (.int k 0)) (hsize : i.size = 1) (hby : i.bytes = bytes)
    (v : Value) (n : Nat) (f : Nat → Nat) (hs : a.eval s = v) (hown : Own w base e k v n f)
    (ao : Option Addr) (m c : Nat) (g : Nat → Nat) (hx : a.eval x = .slice ao m c) (hnil : ao = none → m = 0 ∧ c = 0) (hrd : Reads w k ao m g)
    (h63 : n + m ≤ 9223372036854775807) (hbytes : (n + m) * bytes ≤ 140737488355328) (hbase : base ≤ w.heap.size)
    (h : ∀ v' w', Own w' base e k v' (n + m) (cat f n g) → w.grownBy w' v.ownBlock → wpList P ops Q rest (a.put o.dst v') w') : wpList P ops Q (o :: rest) a w := by
  cases ao with
  | none =>
    obtain ⟨rfl, rfl⟩ := hnil rfl
    refine wpList_append_own_none hgd s x t ho base e i 1 ht hi v n (L k f n) hs hown hx (h v w (Own.congr hown fun j hj => ?_) (World.grownBy.refl _ _))
    unfold cat; rw [if_pos (by omega)]
  | some ad =>
    refine wpList_append_own _ hgd s x t ho base e i (.int k 0) 1 bytes ht hi hz hsize hby rfl (by decide) v n (L k f n) hs hown ad m c (L k g m) hx (by rw [L_length]; omega) hrd.news (L_oneCell _ _ _) (by unfold maxLen; omega) hbytes hbase ?_
    intro v' w' h1 h2 _
    rw [L_cat] at h1
    exact h v' w' h1 h2

theorem ret_int {k : IntKind} {a b : Int} (h : a = b) : Ending.returned (.int k a) = .returned (.int k b) := by rw [h]
theorem ret_bool {a b : Bool} (h : a = b) : Ending.returned (.bool a) = .returned (.bool b) := by rw [h]
theorem ret_slice {ao : Option Addr} {a b c : Nat} (h : a = b) : Ending.returned (.slice ao a c) = .returned (.slice ao b c) := by rw [h]

end Go.Proofs.YtidifjmjbfhpaaaDoor
