/- impl.Fill: the bytes of a number, so many; the answer 2 where they are too few. -/
import Derived.Test.YtidifjmjbfhpaaaFillIt
import Derived.Test.YtidifjmjbfhpaaaGuardedFill
namespace Go.Proofs.Ytidifjmjbfhpaaa
set_option linter.unusedVariables false
set_option linter.unusedSimpArgs false
open Go.RowKit

theorem fillIt_guardable (w : World) (po N V p : Nat) (hp : p ≠ po) (hb : w.heap[p]? = some (.cells #[.bool false] 4 (0, 0))) : Guardable p (FillItPost w po N V) := by
  intro e w1 h
  rcases h with ⟨_, rfl, _, gr⟩ | ⟨_, ⟨T, x, rfl⟩, gr⟩
  · exact ⟨.inl rfl, by rw [gr.block p (lt_of_block hb) (by simpa using hp)]; exact hb⟩
  · exact ⟨.inr ⟨_, _, rfl⟩, by rw [gr.block p (lt_of_block hb) (by simpa using hp)]; exact hb⟩

/-- What the guarded call comes to: whether it panicked, and what 'out' then holds. -/
theorem fill_guarded (w : World) (po px ps N n cz : Nat) (neg : Bool) (az : Option Addr) (f : Nat → Nat) (hf : ∀ i, i < n → f i < BW) (hN : N ≤ 2147483647) (hle : n ≤ cz) (hm : n ≤ 200000000)
    (hout : w.heap[po]? = some (.cells #[.slice none 0 0] 22 (0, 0))) (hnum : Pair w px 26 (.bool neg) (.slice az n cz)) (hps : w.cell? ⟨ps, 0, none⟩ = some (.int .i64 N)) (hrd : Reads w .u64 az n f) :
    Calls Try.prog 24 #[.func (.func 25) #[] #[.pointer (some ⟨po, 0, none⟩), .pointer (some ⟨px, 0, none⟩), .pointer (some ⟨ps, 0, none⟩)]] w fun e w' =>
      ((val BW f n < 256 ^ N ∧ e = .returned (.bool false) ∧ ∃ v, w'.heap[po]? = some (.cells #[v] 22 (0, 0)) ∧ Own w' w.heap.size 5 .u8 v N (fun i => dig 256 (val BW f n) (N - 1 - i))) ∨
       (256 ^ N ≤ val BW f n ∧ e = .returned (.bool true))) ∧ w.grownBy w' (some po) := by
  have hpo := lt_of_block hout
  have ha : (w.alloc (.cells #[.bool false] 4)).heap[w.heap.size]? = some (.cells #[.bool false] 4 (0, 0)) := heap_alloc_new w _
  have g0 := World.grownBy_alloc w (.cells #[.bool false] 4) (some po)
  have hK := fillIt_any po px ps N n cz neg az f hf (w.alloc (.cells #[.bool false] 4)) hN hle hm (by rw [Below.heap_alloc _ _ _ hpo]; exact hout) (hnum.alloc _) (by rw [World.cell?_alloc_some _ _ _ (by rw [hps]; rfl)]; exact hps) (hrd.below ((Below.refl _ w).alloc (Nat.le_refl _) _))
  refine (guarded_fill _ w _ hK (fillIt_guardable _ po N _ _ (by omega) ha)).mono ?_
  rintro e w' ⟨e1, w1, hR, he, gr⟩
  have gw : ∀ w1 : World, (w.alloc (.cells #[.bool false] 4)).grownBy w1 (some po) → w1.grownBy w' (some w.heap.size) → w.grownBy w' (some po) := by
    intro w1 h1 h2
    have h3 := g0.size
    have h4 := h1.size
    simp at h3 h4
    refine ⟨h2.os.trans (h1.os.trans g0.os), h2.tape.trans (h1.tape.trans g0.tape), h2.output.trans (h1.output.trans g0.output), ?_, fun k hk hne => ?_⟩
    · have := h2.size; omega
    · rw [h2.block k (by omega) (by simp; omega), h1.block k (by simp; omega) hne, g0.block k hk hne]
  rcases hR with ⟨hfit, rfl, ⟨v, hblk, own⟩, gr1⟩ | ⟨hbig, ⟨T, x, rfl⟩, gr1⟩
  · rcases he with ⟨_, rfl⟩ | ⟨⟨ch, hch⟩, _⟩
    · refine ⟨.inl ⟨hfit, rfl, v, ?_, ?_⟩, gw w1 gr1 gr⟩
      · rw [gr.block po (lt_of_block hblk) (by simp; omega)]; exact hblk
      · refine (own.kept gr ?_).base_le (by simp)
        rcases hv : v.ownBlock with _ | k
        · exact .inl rfl
        · right; intro h
          have := (own.lt k hv).1
          simp at h this
          omega
    · cases hch
  · rcases he with ⟨h, _⟩ | ⟨_, rfl⟩
    · cases h
    · exact ⟨.inr ⟨hbig, rfl⟩, gw w1 gr1 gr⟩


set_option maxHeartbeats 1000000 in
theorem implFill_any (neg : Bool) (az : Option Addr) (n cz N : Nat) (f : Nat → Nat) (hf : ∀ i, i < n → f i < BW) (w : World) (hN : N ≤ 10000) (hle : n ≤ cz) (hm : n ≤ 200000000) (hrd : Reads w .u64 az n f) :
    Calls Try.prog 15 #[.agg #[.bool neg, .slice az n cz], .int .i64 N] w fun e w' =>
      ((val BW f n < 256 ^ N ∧ ∃ v, e = .returned (.tuple #[v, .int .i64 0]) ∧ Own w' w.heap.size 5 .u8 v N (fun i => dig 256 (val BW f n) (N - 1 - i))) ∨
       (256 ^ N ≤ val BW f n ∧ e = .returned (.tuple #[.slice none 0 0, .int .i64 2]))) ∧ Below w.heap.size w w' := by
  have hmf : ∀ (fn : Fn) (first cap : Array Value) (w : World), (Instr.makeFunc fn first cap).run Try.prog w = .ok (.func fn first cap) w := fun _ _ _ _ => rfl
  obtain ⟨W1, HW1⟩ : ∃ W, Hid (W = w.alloc (.cells #[.bool neg, .slice az n cz] 26)) := ⟨_, Lib.hid rfl⟩
  obtain ⟨W2, HW2⟩ : ∃ W, Hid (W = W1.alloc (.cells #[.int .i64 N] 3)) := ⟨_, Lib.hid rfl⟩
  obtain ⟨W3, HW3⟩ : ∃ W, Hid (W = W2.alloc (.cells #[.slice none 0 0] 22)) := ⟨_, Lib.hid rfl⟩
  have s1 : W1.heap.size = w.heap.size + 1 := by rw [HW1.out]; simp
  have s2 : W2.heap.size = w.heap.size + 2 := by rw [HW2.out]; simp [s1]
  have s3 : W3.heap.size = w.heap.size + 3 := by rw [HW3.out]; simp [s2]
  have b1 : Below w.heap.size w W1 := by rw [HW1.out]; exact (Below.refl _ w).alloc (Nat.le_refl _) _
  have b2 : Below w.heap.size w W2 := by rw [HW2.out]; exact b1.alloc b1.size _
  have b3 : Below w.heap.size w W3 := by rw [HW3.out]; exact b2.alloc b2.size _
  have hnum : Pair W3 w.heap.size 26 (.bool neg) (.slice az n cz) := by
    rw [HW3.out, HW2.out, HW1.out]; exact ((Pair.new w _ _ _).alloc _).alloc _
  have hsz : W2.heap[w.heap.size + 1]? = some (.cells #[.int .i64 N] 3 (0, 0)) := by rw [HW2.out, ← s1]; exact heap_alloc_new W1 _
  have hsz3 : W3.heap[w.heap.size + 1]? = some (.cells #[.int .i64 N] 3 (0, 0)) := by rw [HW3.out, Below.heap_alloc _ _ _ (by omega)]; exact hsz
  have hout : W3.heap[w.heap.size + 2]? = some (.cells #[.slice none 0 0] 22 (0, 0)) := by rw [HW3.out, ← s2]; exact heap_alloc_new W2 _
  have c2 := cell_of_one hsz
  have KG := Lib.hid (fill_guarded W3 (w.heap.size + 2) w.heap.size (w.heap.size + 1) N n cz neg az f hf (by omega) hle hm hout hnum (cell_of_one hsz3) (hrd.below b3))
  have B3 := Lib.hid b3
  have t1 : decide ((N : Int) < 0) = false := by simp
  have t2 : decide ((10000 : Int) < (N : Int)) = false := by simp; omega
  obtain ⟨V, HV⟩ : ∃ V, Hid (V = val BW f n) := ⟨_, Lib.hid rfl⟩
  rw [← HV.out] at KG ⊢
  clear b1 b2 b3 hnum hsz hsz3 hout hrd hf hN hm hle
  go_enter Try.func15, Try.ntmps15
  go_wp2_with fail
  rw [← HW1.out, ← HW2.out, ← HW3.out]
  refine KG.out.mono ?_
  rintro e w4 ⟨(⟨hfit, rfl, v, hblk, own⟩ | ⟨hbig, rfl⟩), gr⟩
  · have B4 := Lib.hid (B3.out.grown gr B3.out.size (fun k hk => by cases hk; omega))
    have c4 := cell_of_one hblk
    obtain ⟨a3, c3', rfl, _, _, _, _⟩ := own.parts
    have F4 := Lib.hid (And.intro hfit (own.base_le (base' := w.heap.size) (by omega)))
    clear hblk own gr hfit KG
    go_wp2
    go_ret2
    exact ⟨.inl ⟨F4.out.1, _, rfl, F4.out.2⟩, B4.out⟩
  · have B4 := Lib.hid (B3.out.grown gr B3.out.size (fun k hk => by cases hk; omega))
    have F4 := Lib.hid hbig
    clear gr hbig KG
    go_wp2
    go_ret2
    exact ⟨.inr ⟨F4.out, rfl⟩, B4.out⟩

end Go.Proofs.Ytidifjmjbfhpaaa
