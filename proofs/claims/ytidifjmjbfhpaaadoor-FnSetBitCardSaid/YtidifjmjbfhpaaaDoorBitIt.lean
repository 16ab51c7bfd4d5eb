/- The closure in impl.Bit, and impl.Bit. -/
import Derived.Test.YtidifjmjbfhpaaaDoorIntBit
import Derived.Test.YtidifjmjbfhpaaaDoorGuardedBit
import Derived.Test.YtidifjmjbfhpaaaDoorSpecSmall
import Derived.Deep.RegionHeld3
namespace Go.Proofs.YtidifjmjbfhpaaaDoor
set_option linter.unusedVariables false
set_option maxRecDepth 20000
set_option linter.unusedSimpArgs false
open Go.RowKit

theorem below_of_drew {w w' : World} (h : Below w.drew.heap.size w.drew w') : Below w.heap.size w w' := ⟨h.os, h.tape, h.output, h.size, h.block⟩

/-- The sign that an Int of a Number has. -/
def sgn (neg : Bool) (V : Nat) : Bool := neg && decide (V ≠ 0)
theorem sgn_pos (neg : Bool) (V : Nat) (h : sgn neg V = true) : 1 ≤ V := by
  unfold sgn at h
  simp at h
  omega

def BitItPost (w : World) (po : Nat) (b : Bool) (e : Ending) (w' : World) : Prop :=
  e = .returned (.tuple #[]) ∧ w'.heap[po]? = some (.cells #[.int .u64 ((b01 b : Nat) : Int)] 32 (0, 0)) ∧ w.grownBy w' (some po)

set_option maxHeartbeats 1000000 in
theorem bitIt_any (px pi po i n cz : Nat) (neg : Bool) (az : Option Addr) (f : Nat → Nat) (hf : ∀ i, i < n → f i < BW) (w : World) (hi : i ≤ 1000000000000) (hle : n ≤ cz) (hm : n ≤ 200000000)
    (hnum : Pair w px 24 (.bool neg) (.slice az n cz)) (hpi : w.cell? ⟨pi, 0, none⟩ = some (.int .i64 i)) (hout : w.heap[po]? = some (.cells #[.int .u64 0] 32 (0, 0))) (hrd : Reads w .u64 az n f) (hone : One w) (hxo : po ≠ px) (hio : po ≠ pi) :
    Calls Tryd.prog 31 #[.pointer (some ⟨px, 0, none⟩), .pointer (some ⟨pi, 0, none⟩), .pointer (some ⟨po, 0, none⟩)] w (BitItPost w po (tb (sgn neg (val BW f n)) (val BW f n) i)) := by
  have hVn : nlen BW (val BW f n) ≤ n := by rw [nlen_le_iff BW_one]; exact val_lt fun i hi => hf i hi
  have c2 := hnum.cell0
  have c3 := hnum.cell1
  have hpo := lt_of_block hout
  have KO := Lib.hid (of_any neg az n cz f hf w.drew hle (by omega) hrd)
  obtain ⟨V, hVd⟩ : ∃ V, V = val BW f n := ⟨_, rfl⟩
  rw [← hVd] at KO hVn ⊢
  have HO := Lib.hid hout
  have HONE := Lib.hid hone
  have KEEP := Lib.hid (show ∀ W, Below w.drew.heap.size w.drew W → W.cell? ⟨px, 0, none⟩ = some (.bool neg) ∧ W.cell? ⟨px, 1, none⟩ = some (.slice az n cz) ∧ W.cell? ⟨pi, 0, none⟩ = some (.int .i64 i) from fun W hW =>
    ⟨(hnum.below (below_of_drew hW) hnum.lt).cell0, (hnum.below (below_of_drew hW) hnum.lt).cell1, by rw [hW.cell (World.block_lt_of_cell? _ _ hpi)]; exact hpi⟩)
  clear hrd hf hnum hVd hout hone
  go_enter Tryd.func31, Tryd.ntmps31
  go_region_held3 (fun W => W.cell? ⟨px, 0, none⟩ = some (.bool neg) ∧ W.cell? ⟨px, 1, none⟩ = some (.slice az n cz) ∧ W.cell? ⟨pi, 0, none⟩ = some (.int .i64 i)) (first | exact ⟨c2, c3, hpi⟩ | exact k1 | exact k2 | exact ⟨(World.cell?_setCell_far _ _ _ _ hxo).trans k2.1, (World.cell?_setCell_far _ _ _ _ hxo).trans k2.2.1, (World.cell?_setCell_far _ _ _ _ hio).trans k2.2.2⟩) (first
    | (go_simp; go_at_call 28; refine KO.out.mono ?_; rintro e w1 ⟨p, rfl, ⟨hp0, v1, hp1, own1⟩, b1⟩; have k1 := KEEP.out _ b1; go_wp2_with fail)
    | (go_simp; go_at_call 32; refine (intBit_any p _ V i (sgn neg V) v1 w1 (sgn_pos neg V) (by omega) hi hp1 own1 (HONE.out.below (below_of_drew b1))).mono ?_; rintro e w2 ⟨rfl, b2⟩; have b2' := b1.trans (b2.mono b1.size); have k2 := KEEP.out _ b2'; have blk := (below_of_drew b2').block po hpo; have cpo := cell_of_one (blk.trans HO.out); have fpo := free_of_one (blk.trans HO.out); go_wp2_with fail))
  have hblk := blk.trans HO.out
  refine bodyPost_end (v := .tuple #[]) (by simp [results, Tryd.results31, go_sem]) rfl ?_
  exact ⟨rfl, one_setCell hblk, grown_trans (grown_of_below (below_of_drew b2') _) (grown_setCell w2 ⟨po, 0, none⟩ _)⟩

theorem bitIt_guardable (w : World) (po p : Nat) (b : Bool) (hp : p ≠ po) (hb : w.heap[p]? = some (.cells #[.bool false] 4 (0, 0))) : Guardable p (BitItPost w po b) := by
  intro e w1 ⟨he, _, gr⟩
  subst he
  exact ⟨.inl rfl, by rw [gr.block p (lt_of_block hb) (by simpa using hp)]; exact hb⟩

theorem bit_guarded (w : World) (px pi po i n cz : Nat) (neg : Bool) (az : Option Addr) (f : Nat → Nat) (hf : ∀ i, i < n → f i < BW) (hi : i ≤ 1000000000000) (hle : n ≤ cz) (hm : n ≤ 200000000)
    (hnum : Pair w px 24 (.bool neg) (.slice az n cz)) (hpi : w.cell? ⟨pi, 0, none⟩ = some (.int .i64 i)) (hout : w.heap[po]? = some (.cells #[.int .u64 0] 32 (0, 0))) (hrd : Reads w .u64 az n f) (hone : One w) (hxo : po ≠ px) (hio : po ≠ pi) :
    Calls Tryd.prog 30 #[.func (.func 31) #[] #[.pointer (some ⟨px, 0, none⟩), .pointer (some ⟨pi, 0, none⟩), .pointer (some ⟨po, 0, none⟩)]] w fun e w' =>
      e = .returned (.bool false) ∧ w'.heap[po]? = some (.cells #[.int .u64 ((b01 (tb (sgn neg (val BW f n)) (val BW f n) i) : Nat) : Int)] 32 (0, 0)) ∧ w.grownBy w' (some po) := by
  have hpo := lt_of_block hout
  have ha : (w.alloc (.cells #[.bool false] 4)).heap[w.heap.size]? = some (.cells #[.bool false] 4 (0, 0)) := heap_alloc_new w _
  have g0 := World.grownBy_alloc w (.cells #[.bool false] 4) (some po)
  have b0 := (Below.refl w.heap.size w).alloc (Nat.le_refl _) (.cells #[.bool false] 4)
  have hK := bitIt_any px pi po i n cz neg az f hf (w.alloc (.cells #[.bool false] 4)) hi hle hm (hnum.alloc _) (by rw [World.cell?_alloc_some _ _ _ (by rw [hpi]; rfl)]; exact hpi) (by rw [Below.heap_alloc _ _ _ hpo]; exact hout) (hrd.below b0) (hone.below b0) hxo hio
  refine (guarded_bit _ w _ hK (bitIt_guardable _ po _ _ (by omega) ha)).mono ?_
  rintro e w' ⟨e1, w1, ⟨rfl, hblk, gr1⟩, he, gr⟩
  rcases he with ⟨_, rfl⟩ | ⟨⟨ch, hch⟩, _⟩
  · have h3 := g0.size
    have h4 := gr1.size
    simp at h3 h4
    refine ⟨rfl, by rw [gr.block po (lt_of_block hblk) (by simp; omega)]; exact hblk, gr.os.trans (gr1.os.trans g0.os), gr.tape.trans (gr1.tape.trans g0.tape), gr.output.trans (gr1.output.trans g0.output), ?_, fun k hk hne => ?_⟩
    · have := gr.size; omega
    · rw [gr.block k (by omega) (by simp; omega), gr1.block k (by simp; omega) hne, g0.block k hk hne]
  · cases hch

set_option maxHeartbeats 1000000 in
/-- impl.Bit: a bit in two's complement, and no panic. -/
theorem implBit_any (neg : Bool) (az : Option Addr) (n cz i : Nat) (f : Nat → Nat) (hf : ∀ i, i < n → f i < BW) (w : World) (hi : i ≤ 1000000000000) (hle : n ≤ cz) (hm : n ≤ 200000000) (hrd : Reads w .u64 az n f) (hone : One w) :
    Calls Tryd.prog 15 #[.agg #[.bool neg, .slice az n cz], .int .i64 i] w fun e w' =>
      e = .returned (.tuple #[.int .u64 ((b01 (tb (sgn neg (val BW f n)) (val BW f n) i) : Nat) : Int), .int .i64 0]) ∧ Below w.heap.size w w' := by
  have hmf : ∀ (fn : Fn) (first cap : Array Value) (w : World), (Instr.makeFunc fn first cap).run Tryd.prog w = .ok (.func fn first cap) w := fun _ _ _ _ => rfl
  obtain ⟨W1, HW1⟩ : ∃ W, Hid (W = w.alloc (.cells #[.bool neg, .slice az n cz] 24)) := ⟨_, Lib.hid rfl⟩
  obtain ⟨W2, HW2⟩ : ∃ W, Hid (W = W1.alloc (.cells #[.int .i64 i] 3)) := ⟨_, Lib.hid rfl⟩
  obtain ⟨W3, HW3⟩ : ∃ W, Hid (W = W2.alloc (.cells #[.int .u64 0] 32)) := ⟨_, Lib.hid rfl⟩
  have s1 : W1.heap.size = w.heap.size + 1 := by rw [HW1.out]; simp
  have s2 : W2.heap.size = w.heap.size + 2 := by rw [HW2.out]; simp [s1]
  have s3 : W3.heap.size = w.heap.size + 3 := by rw [HW3.out]; simp [s2]
  have b1 : Below w.heap.size w W1 := by rw [HW1.out]; exact (Below.refl _ w).alloc (Nat.le_refl _) _
  have b2 : Below w.heap.size w W2 := by rw [HW2.out]; exact b1.alloc b1.size _
  have b3 : Below w.heap.size w W3 := by rw [HW3.out]; exact b2.alloc b2.size _
  have hnum : Pair W3 w.heap.size 24 (.bool neg) (.slice az n cz) := by
    rw [HW3.out, HW2.out, HW1.out]; exact ((Pair.new w _ _ _).alloc _).alloc _
  have hsz : W2.heap[w.heap.size + 1]? = some (.cells #[.int .i64 i] 3 (0, 0)) := by rw [HW2.out, ← s1]; exact heap_alloc_new W1 _
  have hsz3 : W3.heap[w.heap.size + 1]? = some (.cells #[.int .i64 i] 3 (0, 0)) := by rw [HW3.out, Below.heap_alloc _ _ _ (by omega)]; exact hsz
  have hout : W3.heap[w.heap.size + 2]? = some (.cells #[.int .u64 0] 32 (0, 0)) := by rw [HW3.out, ← s2]; exact heap_alloc_new W2 _
  have KG := Lib.hid (bit_guarded W3 w.heap.size (w.heap.size + 1) (w.heap.size + 2) i n cz neg az f hf hi hle hm hnum (cell_of_one hsz3) hout (hrd.below b3) (hone.below b3) (by omega) (by omega))
  have B3 := Lib.hid b3
  obtain ⟨r, hr⟩ : ∃ r, r = b01 (tb (sgn neg (val BW f n)) (val BW f n) i) := ⟨_, rfl⟩
  rw [← hr] at KG ⊢
  clear b1 b2 b3 hnum hsz hsz3 hout hrd hf hm hle hone hr
  go_enter Tryd.func15, Tryd.ntmps15
  go_wp2_with fail
  rw [← HW1.out, ← HW2.out, ← HW3.out]
  refine KG.out.mono ?_
  rintro e w4 ⟨rfl, hblk, gr⟩
  have B4 := Lib.hid (B3.out.grown gr B3.out.size (fun k hk => by cases hk; omega))
  have c4 := cell_of_one hblk
  clear hblk gr KG
  go_wp2
  go_ret2
  exact ⟨rfl, B4.out⟩

end Go.Proofs.YtidifjmjbfhpaaaDoor
