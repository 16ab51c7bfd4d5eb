/- impl.answered and impl.SetBit. -/
import Derived.Test.YtidifjmjbfhpaaaDoorSetBitIt
import Derived.Test.YtidifjmjbfhpaaaDoorGuardedAns
namespace Go.Proofs.YtidifjmjbfhpaaaDoor
set_option linter.unusedVariables false
set_option maxRecDepth 20000
set_option linter.unusedSimpArgs false
open Go.RowKit

def AnsGPost (w : World) (po pc : Nat) (sg : Bool) (V i b : Nat) (e : Ending) (w' : World) : Prop :=
  (b ≤ 1 ∧ e = .returned (.bool false) ∧ (∃ v, Pair w' po 24 (.bool sg) v ∧ Own w' w.heap.size 32 .u64 v (nlen BW (setI sg V i (b == 1))) (dig BW (setI sg V i (b == 1)))) ∧ w'.heap[pc]? = some (.cells #[.int .i64 0] 3 (0, 0)) ∧ grown2 w w' po pc) ∨
  (2 ≤ b ∧ e = .returned (.bool true) ∧ Below w.heap.size w w')

theorem ans_guarded (pf po pc px pi pb i b n cz : Nat) (neg : Bool) (az : Option Addr) (f : Nat → Nat) (hf : ∀ i, i < n → f i < BW) (w : World) (hi : i ≤ 100000000) (hb : b < 256) (hle : n ≤ cz) (hm : n ≤ 200000000)
    (hfn : w.cell? ⟨pf, 0, none⟩ = some (.func (.func 39) #[] #[.pointer (some ⟨px, 0, none⟩), .pointer (some ⟨pi, 0, none⟩), .pointer (some ⟨pb, 0, none⟩)]))
    (hout : Pair w po 24 (.bool false) (.slice none 0 0)) (hcode : w.heap[pc]? = some (.cells #[.int .i64 0] 3 (0, 0))) (hoc : po ≠ pc)
    (hnum : Pair w px 24 (.bool neg) (.slice az n cz)) (hpi : w.cell? ⟨pi, 0, none⟩ = some (.int .i64 i)) (hpb : w.cell? ⟨pb, 0, none⟩ = some (.int .u64 b)) (hrd : Reads w .u64 az n f) (hone : One w) :
    Calls Tryd.prog 30 #[.func (.func 60) #[] #[.pointer (some ⟨pf, 0, none⟩), .pointer (some ⟨po, 0, none⟩), .pointer (some ⟨pc, 0, none⟩)]] w (AnsGPost w po pc (sgn neg (val BW f n)) (val BW f n) i b) := by
  obtain ⟨W, hW⟩ : ∃ W, W = w.alloc (.cells #[.bool false] 4) := ⟨_, rfl⟩
  have hs : W.heap.size = w.heap.size + 1 := by rw [hW]; simp
  have ha : W.heap[w.heap.size]? = some (.cells #[.bool false] 4 (0, 0)) := by rw [hW]; exact heap_alloc_new w _
  have b0 : Below w.heap.size w W := by rw [hW]; exact (Below.refl _ w).alloc (Nat.le_refl _) _
  have hpo := hout.lt
  have hpc := lt_of_block hcode
  have hK := ansIt_any pf po pc px pi pb i b n cz neg az f hf W hi hb hle hm (by rw [b0.cell (World.block_lt_of_cell? _ _ hfn)]; exact hfn) (hout.below b0 hpo) (by rw [b0.block pc hpc]; exact hcode) hoc (hnum.below b0 hnum.lt) (by rw [b0.cell (World.block_lt_of_cell? _ _ hpi)]; exact hpi) (by rw [b0.cell (World.block_lt_of_cell? _ _ hpb)]; exact hpb) (hrd.below b0) (hone.below b0)
  have hG : Guardable w.heap.size (AnsItRes W po pc (sgn neg (val BW f n)) (val BW f n) i b) := by
    rintro e w1 (⟨_, rfl, _, _, g⟩ | ⟨_, he, bel⟩)
    · exact ⟨.inl rfl, by rw [g.2.2.2.2 w.heap.size (by omega) (by omega) (by omega)]; exact ha⟩
    · exact ⟨.inr he, by rw [bel.block _ (by omega)]; exact ha⟩
  rw [hW] at hK
  refine (guarded_ans _ w _ hK (by rw [← hW]; exact hG)).mono ?_
  rw [← hW]
  rintro e w' ⟨e1, w1, hr, he, gr⟩
  rcases hr with ⟨hb1, rfl, ⟨v, hv, own⟩, hc, g⟩ | ⟨hb2, ⟨T, x, rfl⟩, bel⟩
  · rcases he with ⟨_, rfl⟩ | ⟨⟨ch, hch⟩, _⟩
    · have hpv : v.ownBlock = none ∨ v.ownBlock ≠ some w.heap.size := by
        cases hk : v.ownBlock with
        | none => exact .inl rfl
        | some k =>
          refine .inr fun e => ?_
          have := (own.lt k hk).1
          have e2 : k = w.heap.size := by simpa using e
          omega
      refine .inl ⟨hb1, rfl, ⟨v, hv.grown gr (by simp; omega), (own.kept gr hpv).base_le (by omega)⟩, by rw [gr.block pc (lt_of_block hc) (by simp; omega)]; exact hc, ?_⟩
      have hg1 := g.2.2.2.1
      refine ⟨gr.os.trans (g.1.trans b0.os), gr.tape.trans (g.2.1.trans b0.tape), gr.output.trans (g.2.2.1.trans b0.output), ?_, fun k hk h1 h2 => ?_⟩
      · have := gr.size; omega
      · rw [gr.block k (by omega) (by simp; omega), g.2.2.2.2 k (by omega) h1 h2, b0.block k hk]
    · cases hch
  · rcases he with ⟨he, _⟩ | ⟨_, rfl⟩
    · cases he
    · have hg1 := bel.size
      refine .inr ⟨hb2, rfl, gr.os.trans (bel.os.trans b0.os), gr.tape.trans (bel.tape.trans b0.tape), gr.output.trans (bel.output.trans b0.output), ?_, fun k hk => ?_⟩
      · have := gr.size; omega
      · rw [gr.block k (by omega) (by simp; omega), bel.block k (by omega), b0.block k hk]

def AnsweredPost (w : World) (sg : Bool) (V i b : Nat) (e : Ending) (w' : World) : Prop :=
  ∃ (nn : Bool) (R : Nat) (v : Value) (c : Int), e = .returned (.tuple #[.agg #[.bool nn, v], .int .i64 c]) ∧ Own w' w.heap.size 32 .u64 v (nlen BW R) (dig BW R) ∧ Below w.heap.size w w' ∧ ((b ≤ 1 ∧ c = 0 ∧ nn = sg ∧ R = setI sg V i (b == 1)) ∨ (2 ≤ b ∧ c = 2 ∧ nn = false ∧ R = 0))

set_option maxHeartbeats 1000000 in
theorem answered_any (px pi pb i b n cz : Nat) (neg : Bool) (az : Option Addr) (f : Nat → Nat) (hf : ∀ i, i < n → f i < BW) (w : World) (hi : i ≤ 100000000) (hb : b < 256) (hle : n ≤ cz) (hm : n ≤ 200000000)
    (hnum : Pair w px 24 (.bool neg) (.slice az n cz)) (hpi : w.cell? ⟨pi, 0, none⟩ = some (.int .i64 i)) (hpb : w.cell? ⟨pb, 0, none⟩ = some (.int .u64 b)) (hrd : Reads w .u64 az n f) (hone : One w) :
    Calls Tryd.prog 38 #[.func (.func 39) #[] #[.pointer (some ⟨px, 0, none⟩), .pointer (some ⟨pi, 0, none⟩), .pointer (some ⟨pb, 0, none⟩)]] w (AnsweredPost w (sgn neg (val BW f n)) (val BW f n) i b) := by
  have hmf : ∀ (fn : Fn) (first cap : Array Value) (w : World), (Instr.makeFunc fn first cap).run Tryd.prog w = .ok (.func fn first cap) w := fun _ _ _ _ => rfl
  obtain ⟨W1, HW1⟩ : ∃ W, Hid (W = w.alloc (.cells #[.func (.func 39) #[] #[.pointer (some ⟨px, 0, none⟩), .pointer (some ⟨pi, 0, none⟩), .pointer (some ⟨pb, 0, none⟩)]] 74)) := ⟨_, Lib.hid rfl⟩
  obtain ⟨W2, HW2⟩ : ∃ W, Hid (W = W1.alloc (.cells #[.bool false, .slice none 0 0] 24)) := ⟨_, Lib.hid rfl⟩
  obtain ⟨W3, HW3⟩ : ∃ W, Hid (W = W2.alloc (.cells #[.bool false, .slice none 0 0] 24)) := ⟨_, Lib.hid rfl⟩
  obtain ⟨W4, HW4⟩ : ∃ W, Hid (W = W3.alloc (.cells #[.int .i64 0] 3)) := ⟨_, Lib.hid rfl⟩
  have s1 : W1.heap.size = w.heap.size + 1 := by rw [HW1.out]; simp
  have s2 : W2.heap.size = w.heap.size + 2 := by rw [HW2.out]; simp [s1]
  have s3 : W3.heap.size = w.heap.size + 3 := by rw [HW3.out]; simp [s2]
  have s4 : W4.heap.size = w.heap.size + 4 := by rw [HW4.out]; simp [s3]
  have b1 : Below w.heap.size w W1 := by rw [HW1.out]; exact (Below.refl _ w).alloc (Nat.le_refl _) _
  have b2 : Below w.heap.size w W2 := by rw [HW2.out]; exact b1.alloc b1.size _
  have b3 : Below w.heap.size w W3 := by rw [HW3.out]; exact b2.alloc b2.size _
  have b4 : Below w.heap.size w W4 := by rw [HW4.out]; exact b3.alloc b3.size _
  have hfn1 : W1.heap[w.heap.size]? = some (.cells #[.func (.func 39) #[] #[.pointer (some ⟨px, 0, none⟩), .pointer (some ⟨pi, 0, none⟩), .pointer (some ⟨pb, 0, none⟩)]] 74 (0, 0)) := by rw [HW1.out]; exact heap_alloc_new w _
  have hfn4 : W4.heap[w.heap.size]? = some (.cells #[.func (.func 39) #[] #[.pointer (some ⟨px, 0, none⟩), .pointer (some ⟨pi, 0, none⟩), .pointer (some ⟨pb, 0, none⟩)]] 74 (0, 0)) := by
    rw [HW4.out, Below.heap_alloc _ _ _ (by omega), HW3.out, Below.heap_alloc _ _ _ (by omega), HW2.out, Below.heap_alloc _ _ _ (by omega)]; exact hfn1
  have hres : Pair W4 (w.heap.size + 1) 24 (.bool false) (.slice none 0 0) := by
    rw [HW4.out, HW3.out, HW2.out, ← s1]; exact ((Pair.new W1 _ _ _).alloc _).alloc _
  have hout : Pair W4 (w.heap.size + 2) 24 (.bool false) (.slice none 0 0) := by
    rw [HW4.out, HW3.out, ← s2]; exact (Pair.new W2 _ _ _).alloc _
  have hcode : W4.heap[w.heap.size + 3]? = some (.cells #[.int .i64 0] 3 (0, 0)) := by rw [HW4.out, ← s3]; exact heap_alloc_new W3 _
  have KG := Lib.hid (ans_guarded w.heap.size (w.heap.size + 2) (w.heap.size + 3) px pi pb i b n cz neg az f hf W4 hi hb hle hm (cell_of_one hfn4) hout hcode (by omega) (hnum.below b4 hnum.lt) (by rw [b4.cell (World.block_lt_of_cell? _ _ hpi)]; exact hpi) (by rw [b4.cell (World.block_lt_of_cell? _ _ hpb)]; exact hpb) (hrd.below b4) (hone.below b4))
  have B4 := Lib.hid (And.intro b4 (And.intro hres s4))
  obtain ⟨V, hV⟩ : ∃ V, V = val BW f n := ⟨_, rfl⟩
  rw [← hV] at KG ⊢
  obtain ⟨sg, hsg⟩ : ∃ s, s = sgn neg V := ⟨_, rfl⟩
  rw [← hsg] at KG ⊢
  clear b1 b2 b3 b4 hnum hpi hpb hrd hf hm hle hone hV hsg hout hcode hres hfn1 hfn4 s1 s2 s3 s4
  go_enter Tryd.func38, Tryd.ntmps38
  go_wp2_with fail
  rw [← HW1.out, ← HW2.out, ← HW3.out, ← HW4.out]
  refine KG.out.mono ?_
  rintro e w5 (⟨hb1, rfl, ⟨v, hv, own⟩, hc, g⟩ | ⟨hb2, rfl, bel⟩)
  · obtain ⟨a5, c5, rfl, hle5, hcm5, hrd5, hlt5⟩ := own.parts
    have hres5 : Pair w5 (w.heap.size + 1) 24 (.bool false) (.slice none 0 0) := by
      unfold Pair
      rw [g.2.2.2.2 (w.heap.size + 1) B4.out.2.1.lt (by omega) (by omega)]
      exact B4.out.2.1
    obtain ⟨R, hR⟩ : ∃ R, R = setI sg V i (b == 1) := ⟨_, rfl⟩
    rw [← hR] at hv own hle5 hrd5 hlt5
    obtain ⟨nR, hnR⟩ : ∃ x, x = nlen BW R := ⟨_, rfl⟩
    rw [← hnR] at hv own hle5 hrd5 hlt5
    have c50 : w5.cell? ⟨w.heap.size + 1 + 1, 0, none⟩ = some (.bool sg) := hv.cell0
    have c51 : w5.cell? ⟨w.heap.size + 1 + 1, 1, none⟩ = some (.slice a5 nR c5) := hv.cell1
    have c52 : w5.cell? ⟨w.heap.size + 1 + 1 + 1, 0, none⟩ = some (.int .i64 0) := cell_of_one hc
    have r0 := hres5.cell0
    have r1 := hres5.cell1
    have f0 := hres5.free 0
    have f1 := hres5.free 1
    have hb5 : Below w.heap.size w w5 := ⟨g.1.trans B4.out.1.os, g.2.1.trans B4.out.1.tape, g.2.2.1.trans B4.out.1.output, Nat.le_trans B4.out.1.size g.2.2.2.1, fun k hk => (g.2.2.2.2 k (Nat.lt_of_lt_of_le hk B4.out.1.size) (by omega) (by omega)).trans (B4.out.1.block k hk)⟩
    have HH := Lib.hid (And.intro hb1 (And.intro own (And.intro hb5 (And.intro hR hnR))))
    have HRES := Lib.hid hres5
    clear hb1 own hb5 hR hnR hres5 hv hc g hlt5 hrd5 KG
    go_wp2_with fail
    go_region
    go_wp2_with fail
    refine bodyPost_ret (v := .tuple #[.agg #[.bool sg, .slice a5 nR c5], .int .i64 0]) (by simp [results, Tryd.results38, go_sem, r0, r1, f0, f1]) rfl ?_
    obtain ⟨h1, h2, h3, h4, h5⟩ := HH.out
    have hb := (h3.setCell (p := ⟨w.heap.size + 1, 0, none⟩) (Nat.le_succ _) (.bool sg)).setCell (p := ⟨w.heap.size + 1, 1, none⟩) (Nat.le_succ _) (.slice a5 nR c5)
    have hs4 := B4.out.2.2
    refine ⟨sg, R, .slice a5 nR c5, 0, rfl, ?_, ⟨hb.os, hb.tape, hb.output, hb.size, hb.block⟩, .inl ⟨h1, rfl, rfl, h4⟩⟩
    rw [← h5]
    have own := h2.kept (grown_trans (grown_setCell w5 ⟨w.heap.size + 1, 0, none⟩ (.bool sg)) (grown_setCell _ ⟨w.heap.size + 1, 1, none⟩ (.slice a5 nR c5))) (by
      cases hk : (Value.slice a5 nR c5).ownBlock with
      | none => exact .inl rfl
      | some k =>
        refine .inr fun e => ?_
        have := (h2.lt k hk).1
        have e2 : k = w.heap.size + 1 := by simpa using e
        omega)
    exact Own.drew (own.base_le (by omega))
  · have hres5 : Pair w5 (w.heap.size + 1) 24 (.bool false) (.slice none 0 0) := B4.out.2.1.below bel B4.out.2.1.lt
    have r0 := hres5.cell0
    have r1 := hres5.cell1
    have f0 := hres5.free 0
    have f1 := hres5.free 1
    have hb5 : Below w.heap.size w w5 := B4.out.1.trans (bel.mono B4.out.1.size)
    have HH := Lib.hid (And.intro hb2 hb5)
    clear hb2 bel hb5 hres5 KG
    go_wp2_with fail
    refine bodyPost_ret (v := .tuple #[.agg #[.bool false, .slice none 0 0], .int .i64 2]) (by simp [results, Tryd.results38, go_sem, r0, r1, f0, f1]) rfl ?_
    refine ⟨false, 0, .slice none 0 0, 2, rfl, ?_, (HH.out.2.setCell (Nat.le_succ _) _).setCell (Nat.le_succ _) _, .inr ⟨HH.out.1, rfl, rfl, rfl⟩⟩
    rw [show nlen BW 0 = 0 from rfl]
    exact Own.nil _ _ _ _ _

set_option maxHeartbeats 1000000 in
/-- impl.SetBit. -/
theorem implSetBit_any (neg : Bool) (az : Option Addr) (n cz i b : Nat) (f : Nat → Nat) (hf : ∀ i, i < n → f i < BW) (w : World) (hi : i ≤ 100000000) (hb : b < 256) (hle : n ≤ cz) (hm : n ≤ 200000000) (hrd : Reads w .u64 az n f) (hone : One w) :
    Calls Tryd.prog 18 #[.agg #[.bool neg, .slice az n cz], .int .i64 i, .int .u64 b] w (AnsweredPost w (sgn neg (val BW f n)) (val BW f n) i b) := by
  have hmf : ∀ (fn : Fn) (first cap : Array Value) (w : World), (Instr.makeFunc fn first cap).run Tryd.prog w = .ok (.func fn first cap) w := fun _ _ _ _ => rfl
  obtain ⟨W1, HW1⟩ : ∃ W, Hid (W = w.alloc (.cells #[.bool neg, .slice az n cz] 24)) := ⟨_, Lib.hid rfl⟩
  obtain ⟨W2, HW2⟩ : ∃ W, Hid (W = W1.alloc (.cells #[.int .i64 i] 3)) := ⟨_, Lib.hid rfl⟩
  obtain ⟨W3, HW3⟩ : ∃ W, Hid (W = W2.alloc (.cells #[.int .u64 b] 32)) := ⟨_, Lib.hid rfl⟩
  obtain ⟨W4, HW4⟩ : ∃ W, Hid (W = W3.alloc (.cells #[.bool false, .slice none 0 0] 24)) := ⟨_, Lib.hid rfl⟩
  have s1 : W1.heap.size = w.heap.size + 1 := by rw [HW1.out]; simp
  have s2 : W2.heap.size = w.heap.size + 2 := by rw [HW2.out]; simp [s1]
  have s3 : W3.heap.size = w.heap.size + 3 := by rw [HW3.out]; simp [s2]
  have s4 : W4.heap.size = w.heap.size + 4 := by rw [HW4.out]; simp [s3]
  have b1 : Below w.heap.size w W1 := by rw [HW1.out]; exact (Below.refl _ w).alloc (Nat.le_refl _) _
  have b2 : Below w.heap.size w W2 := by rw [HW2.out]; exact b1.alloc b1.size _
  have b3 : Below w.heap.size w W3 := by rw [HW3.out]; exact b2.alloc b2.size _
  have b4 : Below w.heap.size w W4 := by rw [HW4.out]; exact b3.alloc b3.size _
  have hnum : Pair W4 w.heap.size 24 (.bool neg) (.slice az n cz) := by
    rw [HW4.out, HW3.out, HW2.out, HW1.out]; exact (((Pair.new w _ _ _).alloc _).alloc _).alloc _
  have hsz2 : W2.heap[w.heap.size + 1]? = some (.cells #[.int .i64 i] 3 (0, 0)) := by rw [HW2.out, ← s1]; exact heap_alloc_new W1 _
  have hsz4 : W4.heap[w.heap.size + 1]? = some (.cells #[.int .i64 i] 3 (0, 0)) := by rw [HW4.out, Below.heap_alloc _ _ _ (by omega), HW3.out, Below.heap_alloc _ _ _ (by omega)]; exact hsz2
  have hbt3 : W3.heap[w.heap.size + 2]? = some (.cells #[.int .u64 b] 32 (0, 0)) := by rw [HW3.out, ← s2]; exact heap_alloc_new W2 _
  have hbt4 : W4.heap[w.heap.size + 2]? = some (.cells #[.int .u64 b] 32 (0, 0)) := by rw [HW4.out, Below.heap_alloc _ _ _ (by omega)]; exact hbt3
  have hres : Pair W4 (w.heap.size + 3) 24 (.bool false) (.slice none 0 0) := by rw [HW4.out, ← s3]; exact Pair.new W3 _ _ _
  have KG := Lib.hid (answered_any w.heap.size (w.heap.size + 1) (w.heap.size + 2) i b n cz neg az f hf W4 hi hb hle hm hnum (cell_of_one hsz4) (cell_of_one hbt4) (hrd.below b4) (hone.below b4))
  have B4 := Lib.hid (And.intro b4 (And.intro hres s4))
  obtain ⟨V, hV⟩ : ∃ V, V = val BW f n := ⟨_, rfl⟩
  rw [← hV] at KG ⊢
  obtain ⟨sg, hsg⟩ : ∃ s, s = sgn neg V := ⟨_, rfl⟩
  rw [← hsg] at KG ⊢
  clear b1 b2 b3 b4 hnum hrd hf hm hle hone hV hsg hres hsz2 hsz4 hbt3 hbt4 s1 s2 s3 s4
  go_enter Tryd.func18, Tryd.ntmps18
  go_wp2_with fail
  rw [← HW1.out, ← HW2.out, ← HW3.out, ← HW4.out]
  refine KG.out.mono ?_
  rintro e w5 ⟨nn, R, v, c, rfl, own, bel, hor⟩
  obtain ⟨a5, c5, rfl, hle5, hcm5, hrd5, hlt5⟩ := own.parts
  have hres5 : Pair w5 (w.heap.size + 1 + 1 + 1) 24 (.bool false) (.slice none 0 0) := B4.out.2.1.below bel B4.out.2.1.lt
  have r0 := hres5.cell0
  have r1 := hres5.cell1
  have f0 := hres5.free 0
  have f1 := hres5.free 1
  have HH := Lib.hid (And.intro own (And.intro (B4.out.1.trans (bel.mono B4.out.1.size)) hor))
  clear own bel hor hrd5 hlt5 hres5 KG
  obtain ⟨nR, hnR⟩ : ∃ x, x = nlen BW R := ⟨_, rfl⟩
  rw [← hnR] at hle5 HH ⊢
  have HN := Lib.hid hnR
  clear hnR
  go_wp2_with fail
  refine bodyPost_ret (v := .tuple #[.agg #[.bool nn, .slice a5 nR c5], .int .i64 c]) (by simp [results, Tryd.results18, go_sem, r0, r1, f0, f1]) rfl ?_
  obtain ⟨h1, h3, h4⟩ := HH.out
  have hs4 := B4.out.2.2
  refine ⟨nn, R, .slice a5 nR c5, c, rfl, ?_, (h3.setCell (p := ⟨w.heap.size + 1 + 1 + 1, 0, none⟩) (by show w.heap.size ≤ w.heap.size + 1 + 1 + 1; omega) _).setCell (p := ⟨w.heap.size + 1 + 1 + 1, 1, none⟩) (by show w.heap.size ≤ w.heap.size + 1 + 1 + 1; omega) _, h4⟩
  rw [← HN.out]
  have own := h1.kept (grown_trans (grown_setCell w5 ⟨w.heap.size + 1 + 1 + 1, 0, none⟩ (.bool nn)) (grown_setCell _ ⟨w.heap.size + 1 + 1 + 1, 1, none⟩ (.slice a5 nR c5))) (by
    cases hk : (Value.slice a5 nR c5).ownBlock with
    | none => exact .inl rfl
    | some k =>
      refine .inr fun e => ?_
      have := (h1.lt k hk).1
      have e2 : k = w.heap.size + 1 + 1 + 1 := by simpa using e
      omega)
  exact own.base_le (by omega)

end Go.Proofs.YtidifjmjbfhpaaaDoor
