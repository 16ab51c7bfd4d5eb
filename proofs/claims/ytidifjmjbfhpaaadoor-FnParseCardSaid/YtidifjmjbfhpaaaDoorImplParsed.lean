/- impl.guarded of the closure in impl.Parse: whether the call panicked. -/
/- The closure in impl.Parse: a text is read. -/
/- impl.Parse: the number of a text, or that it is none. -/
import Derived.Test.YtidifjmjbfhpaaaDoorGuardedBit
import Derived.Test.YtidifjmjbfhpaaaDoorSetText
import Derived.RegionTactic
import Derived.BigRegion
namespace Go.Proofs.YtidifjmjbfhpaaaDoor
set_option linter.unusedVariables false
set_option maxRecDepth 20000
set_option linter.unusedSimpArgs false
open Go.RowKit

set_option maxHeartbeats 1000000 in
theorem guarded_parse (caps : Array Value) (w : World) (R : Ending → World → Prop) (hK : Calls Tryd.prog 42 caps (w.alloc (.cells #[.bool false] 4)) R) (hR : Guardable w.heap.size R) :
    Calls Tryd.prog 30 #[.func (.func 42) #[] caps] w (GuardedPost R w.heap.size) := by
  have hmf : ∀ (fn : Fn) (first cap : Array Value) (w : World), (Instr.makeFunc fn first cap).run Tryd.prog w = .ok (.func fn first cap) w := fun _ _ _ _ => rfl
  have K := Lib.hid hK
  have HR := Lib.hid hR
  clear hK hR
  go_enter_defers Tryd.func30, Tryd.ntmps30
  go_wp2_with fail
  refine K.out.mono ?_
  intro e w1 hr
  obtain ⟨h1, hblk⟩ := HR.out e w1 hr
  have c0 := cell_of_one hblk
  have f0 := free_of_one hblk
  have hl := lt_of_block hblk
  rcases h1 with rfl | ⟨T, x, rfl⟩
  · have R1 := Lib.hid hr
    clear hr K HR hblk
    go_wp2
    refine leaves_cons (f := 57) (args := #[.pointer (some ⟨w.heap.size, 0, none⟩)]) (by simp) (by simp [go_sem]) ?_
    refine (catch_idle ⟨w.heap.size, 0, none⟩ false _ ?_ ?_).mono ?_
    · simp [go_sem, c0, hl]
    · simp [go_sem, f0]
    rintro e u' w'' ⟨rfl, rfl, rfl⟩
    simp [Leaves, settle, results, Tryd.results30, go_sem, c0, f0]
    exact ⟨_, w1, R1.out, .inl ⟨rfl, rfl⟩, grown_trans (grown_setCell w1 ⟨w.heap.size, 0, none⟩ _) (grown_setCell _ ⟨w.heap.size, 0, none⟩ _)⟩
  · have R1 := Lib.hid hr
    clear hr K HR hblk
    go_wp2
    refine leaves_cons (f := 57) (args := #[.pointer (some ⟨w.heap.size, 0, none⟩)]) (by simp) (by simp [go_sem]) ?_
    refine (catch_panicking ⟨w.heap.size, 0, none⟩ false _ _ [] _ ?_ ?_).mono ?_
    · exact c0
    · exact f0
    rintro e u' w'' ⟨rfl, rfl, rfl⟩
    simp [Leaves, settle, results, Tryd.results30, go_sem, c0, f0]
    exact ⟨_, w1, R1.out, .inr ⟨⟨_, rfl⟩, rfl⟩, grown_setCell w1 ⟨w.heap.size, 0, none⟩ _⟩

end Go.Proofs.YtidifjmjbfhpaaaDoor
namespace Go.Proofs.YtidifjmjbfhpaaaDoor
set_option linter.unusedVariables false
set_option linter.unusedSimpArgs false
open Go.RowKit

/-- All that was is as it was, two blocks aside. -/
def Kept2 (po pk : Nat) (w w' : World) : Prop := w'.os = w.os ∧ w'.tape = w.tape ∧ w'.output = w.output ∧ w.heap.size ≤ w'.heap.size ∧ ∀ k, k < w.heap.size → k ≠ po → k ≠ pk → w'.heap[k]? = w.heap[k]?
theorem Kept2.of_below {po pk : Nat} {w w' : World} (h : Below w.heap.size w w') : Kept2 po pk w w' := ⟨h.os, h.tape, h.output, h.size, fun k hk _ _ => h.block k hk⟩
theorem Kept2.grown0 {po pk : Nat} {w w1 w2 : World} (h : Kept2 po pk w w1) (hg : w1.grownBy w2 (some po)) : Kept2 po pk w w2 :=
  ⟨hg.os.trans h.1, hg.tape.trans h.2.1, hg.output.trans h.2.2.1, Nat.le_trans h.2.2.2.1 hg.size, fun k hk h1 h2 => (hg.block k (Nat.lt_of_lt_of_le hk h.2.2.2.1) (by intro e; cases e; exact h1 rfl)).trans (h.2.2.2.2 k hk h1 h2)⟩
theorem Kept2.grown1 {po pk : Nat} {w w1 w2 : World} (h : Kept2 po pk w w1) (hg : w1.grownBy w2 (some pk)) : Kept2 po pk w w2 :=
  ⟨hg.os.trans h.1, hg.tape.trans h.2.1, hg.output.trans h.2.2.1, Nat.le_trans h.2.2.2.1 hg.size, fun k hk h1 h2 => (hg.block k (Nat.lt_of_lt_of_le hk h.2.2.2.1) (by intro e; cases e; exact h2 rfl)).trans (h.2.2.2.2 k hk h1 h2)⟩

def ParseItPost (w : World) (po pk b : Nat) (s : ByteArray) (e : Ending) (w' : World) : Prop :=
  e = .returned (.tuple #[]) ∧ Kept2 po pk w w' ∧
  ((¬ GoodText s b ∧ Pair w' po 24 (.bool false) (.slice none 0 0) ∧ w'.heap[pk]? = some (.cells #[.bool false] 4 (0, 0))) ∨
   (GoodText s b ∧ ∃ v, Pair w' po 24 (.bool (sgn (sgnNeg s) (textVal s b))) v ∧ Own w' w.heap.size 32 .u64 v (nlen BW (textVal s b)) (dig BW (textVal s b)) ∧ w'.heap[pk]? = some (.cells #[.bool true] 4 (0, 0))))

theorem textVal_nlen {s : ByteArray} {b : Nat} (hb : b ≤ 62) (hs : s.size ≤ 1500) (h : GoodText s b) : nlen BW (textVal s b) ≤ 1500 := by
  have := pv_nlen (k := s.size - sgnOff s) hb h.2
  unfold textVal
  omega

set_option maxHeartbeats 4000000 in
theorem parseIt_any (bs bb po pk b : Nat) (s : ByteArray) (a a2 : Addr) (w : World) (hs : s.size ≤ 1500) (hb : 2 ≤ b) (hb2 : b ≤ 62)
    (hbs : w.cell? ⟨bs, 0, none⟩ = some (.string s)) (hbb : w.cell? ⟨bb, 0, none⟩ = some (.int .i64 b)) (hpo : Pair w po 24 (.bool false) (.slice none 0 0)) (hpk : w.heap[pk]? = some (.cells #[.bool false] 4 (0, 0)))
    (he : Glob w 1 (eof a)) (hn : Glob w 5 (eof a2)) (h5 : 5 < w.heap.size) (hne : po ≠ pk) :
    Calls Tryd.prog 42 #[.pointer (some ⟨bs, 0, none⟩), .pointer (some ⟨bb, 0, none⟩), .pointer (some ⟨po, 0, none⟩), .pointer (some ⟨pk, 0, none⟩)] w (ParseItPost w po pk b s) := by
  obtain ⟨W1, HW1⟩ : ∃ W, Hid (W = w.alloc (.cells #[.bool false, .slice none 0 0] 72)) := ⟨_, Lib.hid rfl⟩
  have b1 : Below w.heap.size w W1 := by rw [HW1.out]; exact (Below.refl _ w).alloc (Nat.le_refl _) _
  have P1 : Pair W1 w.heap.size 72 (.bool false) (.slice none 0 0) := by rw [HW1.out]; exact Pair.new w _ _ _
  have k1 : W1.cell? ⟨bs, 0, none⟩ = some (.string s) := by rw [b1.cell (World.block_lt_of_cell? _ _ hbs)]; exact hbs
  have k2 : W1.cell? ⟨bb, 0, none⟩ = some (.int .i64 b) := by rw [b1.cell (World.block_lt_of_cell? _ _ hbb)]; exact hbb
  have KS := Lib.hid (setString_any w.heap.size w.heap.size b s a a2 W1 P1 hs hb hb2 (he.below b1 (by omega)) (hn.below b1 (by omega)) h5 (Nat.le_refl _))
  have H := Lib.hid (And.intro b1 (And.intro hpo (And.intro hpk hne)))
  have hpol := hpo.lt
  have hpkl := lt_of_block hpk
  rw [HW1.out] at k1 k2
  clear b1 P1 hpo hpk he hn hbs hbb
  go_enter Tryd.func42, Tryd.ntmps42
  go_wp2_with fail
  rw [← HW1.out]
  refine KS.out.mono ?_
  rintro e w2 ⟨bel, ⟨rfl, hng⟩ | ⟨rfl, hg, hi⟩⟩
  · have bel2 := H.out.1.trans bel
    have F := Lib.hid (And.intro bel2 hng)
    clear bel bel2 hng KS k1 k2
    go_wp2
    refine bodyPost_end (v := .tuple #[]) (by simp [results, Tryd.results42, go_sem]) rfl ?_
    exact ⟨rfl, Kept2.of_below F.out.1, .inl ⟨F.out.2, H.out.2.1.below F.out.1 hpol, (F.out.1.block pk hpkl).trans H.out.2.2.1⟩⟩
  · have bel2 := H.out.1.trans bel
    have KT := Lib.hid (told_new w.heap.size w.heap.size (sgn (sgnNeg s) (textVal s b)) (textVal s b) w2 (sgn_pos _ _) (by have := textVal_nlen hb2 hs hg; omega) hi)
    have F := Lib.hid (And.intro bel2 hg)
    clear bel bel2 hg hi KS k1 k2
    obtain ⟨V, hV⟩ : ∃ V, Hid (V = textVal s b) := ⟨_, Lib.hid rfl⟩
    obtain ⟨ng, hng⟩ : ∃ V, Hid (V = sgn (sgnNeg s) (textVal s b)) := ⟨_, Lib.hid rfl⟩
    rw [← hng.out, ← hV.out] at KT
    go_wp2_with fail
    refine KT.out.mono ?_
    rintro e w3 ⟨x, rfl, ⟨v, rfl, own⟩, b3⟩
    obtain ⟨ao, c, rfl, _⟩ := own.parts
    obtain ⟨n, hn⟩ : ∃ n, Hid (n = nlen BW V) := ⟨_, Lib.hid rfl⟩
    have P3 : Pair w3 po 24 (.bool false) (.slice none 0 0) := (H.out.2.1.below F.out.1 hpol).below b3 (Nat.lt_of_lt_of_le hpol F.out.1.size)
    have K3 : w3.heap[pk]? = some (.cells #[.bool false] 4 (0, 0)) := (b3.block pk (Nat.lt_of_lt_of_le hpkl F.out.1.size)).trans ((F.out.1.block pk hpkl).trans H.out.2.2.1)
    rw [← hn.out] at own
    rw [← hn.out]
    have q0 := P3.cell0
    have q1 := P3.cell1
    have q2 := P3.free 0
    have q3 := P3.free 1
    have q4 := cell_of_one K3
    have q5 := free_of_one K3
    have hne' := hne.symm
    have G := Lib.hid (And.intro own (And.intro P3 (And.intro K3 b3)))
    clear own P3 K3 b3 KT
    go_wp2
    refine bodyPost_end (v := .tuple #[]) (by simp [results, Tryd.results42, go_sem]) rfl ?_
    have g1 : w3.grownBy ((w3.setCell ⟨po, 0, none⟩ (.bool ng)).setCell ⟨po, 1, none⟩ (.slice ao n c)) (some po) := grown_trans (grown_setCell w3 ⟨po, 0, none⟩ _) (grown_setCell _ ⟨po, 1, none⟩ _)
    have g2 : ((w3.setCell ⟨po, 0, none⟩ (.bool ng)).setCell ⟨po, 1, none⟩ (.slice ao n c)).grownBy (((w3.setCell ⟨po, 0, none⟩ (.bool ng)).setCell ⟨po, 1, none⟩ (.slice ao n c)).setCell ⟨pk, 0, none⟩ (.bool true)) (some pk) := grown_setCell _ ⟨pk, 0, none⟩ _
    have hsz : w.heap.size ≤ w2.heap.size := F.out.1.size
    have K4 : ((w3.setCell ⟨po, 0, none⟩ (.bool ng)).setCell ⟨po, 1, none⟩ (.slice ao n c)).heap[pk]? = some (.cells #[.bool false] 4 (0, 0)) := (g1.block pk (lt_of_block G.out.2.2.1) (by intro e; cases e; exact hne rfl)).trans G.out.2.2.1
    refine ⟨rfl, ((Kept2.of_below (po := po) (pk := pk) (F.out.1.trans (G.out.2.2.2.mono F.out.1.size))).grown0 g1).grown1 g2, .inr ⟨F.out.2, .slice ao n c, ?_, ?_, one_setCell K4⟩⟩
    · rw [← hng.out]
      exact ((G.out.2.1.set0 _).set1 _).setOther (x := ⟨pk, 0, none⟩) hne _
    · rw [← hV.out, ← hn.out]
      have own := G.out.1
      have hb : ∀ g, (Value.slice ao n c).ownBlock = some g → w.heap.size ≤ g := fun g hg => Nat.le_trans hsz (own.lt g hg).1
      refine ((own.kept g1 ?_).kept g2 ?_).base_le hsz
      · rcases hao : (Value.slice ao n c).ownBlock with _ | g
        · exact .inl rfl
        · exact .inr (by intro e; have := hb g hao; cases e; omega)
      · rcases hao : (Value.slice ao n c).ownBlock with _ | g
        · exact .inl rfl
        · exact .inr (by intro e; have := hb g hao; cases e; omega)

theorem parseIt_guardable (w : World) (po pk b p : Nat) (s : ByteArray) (hp : p ≠ po) (hp2 : p ≠ pk) (hb : w.heap[p]? = some (.cells #[.bool false] 4 (0, 0))) : Guardable p (ParseItPost w po pk b s) := by
  intro e w1 ⟨he, k, _⟩
  subst he
  exact ⟨.inl rfl, (k.2.2.2.2 p (lt_of_block hb) hp hp2).trans hb⟩

end Go.Proofs.YtidifjmjbfhpaaaDoor
namespace Go.Proofs.YtidifjmjbfhpaaaDoor
set_option linter.unusedVariables false
set_option linter.unusedSimpArgs false
open Go.RowKit

theorem parse_guarded (bs bb po pk b : Nat) (s : ByteArray) (a a2 : Addr) (w : World) (hs : s.size ≤ 1500) (hb : 2 ≤ b) (hb2 : b ≤ 62)
    (hbs : w.cell? ⟨bs, 0, none⟩ = some (.string s)) (hbb : w.cell? ⟨bb, 0, none⟩ = some (.int .i64 b)) (hpo : Pair w po 24 (.bool false) (.slice none 0 0)) (hpk : w.heap[pk]? = some (.cells #[.bool false] 4 (0, 0)))
    (he : Glob w 1 (eof a)) (hn : Glob w 5 (eof a2)) (h5 : 5 < w.heap.size) (hne : po ≠ pk) :
    Calls Tryd.prog 30 #[.func (.func 42) #[] #[.pointer (some ⟨bs, 0, none⟩), .pointer (some ⟨bb, 0, none⟩), .pointer (some ⟨po, 0, none⟩), .pointer (some ⟨pk, 0, none⟩)]] w fun e w' =>
      e = .returned (.bool false) ∧ ParseItPost w po pk b s (.returned (.tuple #[])) w' := by
  have hpol := hpo.lt
  have hpkl := lt_of_block hpk
  have ha : (w.alloc (.cells #[.bool false] 4)).heap[w.heap.size]? = some (.cells #[.bool false] 4 (0, 0)) := heap_alloc_new w _
  have b0 := (Below.refl w.heap.size w).alloc (Nat.le_refl _) (.cells #[.bool false] 4)
  have hK := parseIt_any bs bb po pk b s a a2 (w.alloc (.cells #[.bool false] 4)) hs hb hb2 (by rw [b0.cell (World.block_lt_of_cell? _ _ hbs)]; exact hbs) (by rw [b0.cell (World.block_lt_of_cell? _ _ hbb)]; exact hbb) (hpo.below b0 hpol) ((b0.block pk hpkl).trans hpk) (he.below b0 (by omega)) (hn.below b0 (by omega)) (by have := b0.size; omega) hne
  refine (guarded_parse _ w _ hK (parseIt_guardable _ po pk b _ s (by omega) (by omega) ha)).mono ?_
  rintro e w' ⟨e1, w1, ⟨rfl, hk, hp⟩, he, gr⟩
  rcases he with ⟨_, rfl⟩ | ⟨⟨ch, hch⟩, _⟩
  · have h4 := hk.2.2.2.1
    simp at h4
    refine ⟨rfl, rfl, ⟨gr.os.trans (hk.1.trans b0.os), gr.tape.trans (hk.2.1.trans b0.tape), gr.output.trans (hk.2.2.1.trans b0.output), by have := gr.size; omega, fun k hkl h1 h2 => ?_⟩, ?_⟩
    · rw [gr.block k (by omega) (by simp; omega), hk.2.2.2.2 k (by simp; omega) h1 h2, b0.block k hkl]
    · rcases hp with ⟨h1, h2, h3⟩ | ⟨h1, v, h2, h3, h5⟩
      · exact .inl ⟨h1, h2.grown gr (by intro e; cases e; omega), (gr.block pk (lt_of_block h3) (by intro e; cases e; omega)).trans h3⟩
      · refine .inr ⟨h1, v, h2.grown gr (by intro e; cases e; omega), (h3.kept gr ?_).base_le b0.size, (gr.block pk (lt_of_block h5) (by intro e; cases e; omega)).trans h5⟩
        rcases hao : v.ownBlock with _ | g
        · exact .inl rfl
        · refine .inr ?_
          have hg := (h3.lt g hao).1
          simp at hg
          intro e
          cases e
          omega
  · cases hch

def ParsePost (s : ByteArray) (b : Nat) (w : World) (e : Ending) (w' : World) : Prop :=
  ∃ (neg : Bool) (V : Nat) (v : Value) (ok : Bool), e = .returned (.tuple #[.agg #[.bool neg, v], .bool ok]) ∧ (ok = true ↔ GoodText s b) ∧ (GoodText s b → neg = sgn (sgnNeg s) (textVal s b) ∧ V = textVal s b) ∧ (¬ GoodText s b → neg = false ∧ V = 0) ∧
    Own w' w.heap.size 32 .u64 v (nlen BW V) (dig BW V) ∧ nlen BW V ≤ 1500 ∧ Below w.heap.size w w'

set_option maxHeartbeats 4000000 in
theorem implParse_any (s : ByteArray) (b : Nat) (a a2 : Addr) (w : World) (hs : s.size ≤ 1500) (hb : 2 ≤ b) (hb2 : b ≤ 62) (he : Glob w 1 (eof a)) (hn : Glob w 5 (eof a2)) (h5 : 5 < w.heap.size) :
    Calls Tryd.prog 20 #[.string s, .int .i64 b] w (ParsePost s b w) := by
  have hmf : ∀ (fn : Fn) (first cap : Array Value) (w : World), (Instr.makeFunc fn first cap).run Tryd.prog w = .ok (.func fn first cap) w := fun _ _ _ _ => rfl
  obtain ⟨W1, HW1⟩ : ∃ W, Hid (W = w.alloc (.cells #[.string s] 9)) := ⟨_, Lib.hid rfl⟩
  obtain ⟨W2, HW2⟩ : ∃ W, Hid (W = W1.alloc (.cells #[.int .i64 b] 3)) := ⟨_, Lib.hid rfl⟩
  obtain ⟨W3, HW3⟩ : ∃ W, Hid (W = W2.alloc (.cells #[.bool false, .slice none 0 0] 24)) := ⟨_, Lib.hid rfl⟩
  obtain ⟨W4, HW4⟩ : ∃ W, Hid (W = W3.alloc (.cells #[.bool false, .slice none 0 0] 24)) := ⟨_, Lib.hid rfl⟩
  obtain ⟨W5, HW5⟩ : ∃ W, Hid (W = W4.alloc (.cells #[.bool false] 4)) := ⟨_, Lib.hid rfl⟩
  have s1 : W1.heap.size = w.heap.size + 1 := by rw [HW1.out]; simp
  have s2 : W2.heap.size = w.heap.size + 2 := by rw [HW2.out]; simp [s1]
  have s3 : W3.heap.size = w.heap.size + 3 := by rw [HW3.out]; simp [s2]
  have s4 : W4.heap.size = w.heap.size + 4 := by rw [HW4.out]; simp [s3]
  have s5 : W5.heap.size = w.heap.size + 5 := by rw [HW5.out]; simp [s4]
  have b1 : Below w.heap.size w W1 := by rw [HW1.out]; exact (Below.refl _ w).alloc (Nat.le_refl _) _
  have b2 : Below w.heap.size w W2 := by rw [HW2.out]; exact b1.alloc b1.size _
  have b3 : Below w.heap.size w W3 := by rw [HW3.out]; exact b2.alloc b2.size _
  have b4 : Below w.heap.size w W4 := by rw [HW4.out]; exact b3.alloc b3.size _
  have b5 : Below w.heap.size w W5 := by rw [HW5.out]; exact b4.alloc b4.size _
  have e1 : W5.heap[w.heap.size]? = some (.cells #[.string s] 9 (0, 0)) := by
    rw [HW5.out, Below.heap_alloc _ _ _ (by omega), HW4.out, Below.heap_alloc _ _ _ (by omega), HW3.out, Below.heap_alloc _ _ _ (by omega), HW2.out, Below.heap_alloc _ _ _ (by omega), HW1.out]; exact heap_alloc_new w _
  have e2 : W5.heap[w.heap.size + 1]? = some (.cells #[.int .i64 b] 3 (0, 0)) := by
    rw [HW5.out, Below.heap_alloc _ _ _ (by omega), HW4.out, Below.heap_alloc _ _ _ (by omega), HW3.out, Below.heap_alloc _ _ _ (by omega), HW2.out, ← s1]; exact heap_alloc_new W1 _
  have e3 : Pair W5 (w.heap.size + 2) 24 (.bool false) (.slice none 0 0) := by
    unfold Pair
    rw [HW5.out, Below.heap_alloc _ _ _ (by omega), HW4.out, Below.heap_alloc _ _ _ (by omega), HW3.out, ← s2]; exact heap_alloc_new W2 _
  have e4 : Pair W5 (w.heap.size + 3) 24 (.bool false) (.slice none 0 0) := by
    unfold Pair
    rw [HW5.out, Below.heap_alloc _ _ _ (by omega), HW4.out, ← s3]; exact heap_alloc_new W3 _
  have e5 : W5.heap[w.heap.size + 4]? = some (.cells #[.bool false] 4 (0, 0)) := by rw [HW5.out, ← s4]; exact heap_alloc_new W4 _
  have KG := Lib.hid (parse_guarded w.heap.size (w.heap.size + 1) (w.heap.size + 3) (w.heap.size + 4) b s a a2 W5 hs hb hb2 (cell_of_one e1) (cell_of_one e2) e4 e5 (he.below b5 (by omega)) (hn.below b5 (by omega)) (by omega) (by omega))
  have H := Lib.hid (And.intro b5 e3)
  clear he hn b1 b2 b3 b4 b5 e1 e2 e3 e4 e5
  go_enter Tryd.func20, Tryd.ntmps20
  go_wp2_with fail
  rw [← HW1.out, ← HW2.out, ← HW3.out, ← HW4.out, ← HW5.out]
  refine KG.out.mono ?_
  rintro e w6 ⟨rfl, _, hk, hp⟩
  have hu : ∃ (ng : Bool) (V : Nat) (v : Value) (ok : Bool), Pair w6 (w.heap.size + 3) 24 (.bool ng) v ∧ Own w6 W5.heap.size 32 .u64 v (nlen BW V) (dig BW V) ∧ nlen BW V ≤ 1500 ∧ w6.heap[w.heap.size + 4]? = some (.cells #[.bool ok] 4 (0, 0)) ∧
      (ok = true ↔ GoodText s b) ∧ (GoodText s b → ng = sgn (sgnNeg s) (textVal s b) ∧ V = textVal s b) ∧ (¬ GoodText s b → ng = false ∧ V = 0) := by
    rcases hp with ⟨h1, h2, h3⟩ | ⟨h1, v, h2, h3, h4⟩
    · have hz : nlen BW 0 = 0 := (nlen_eq_zero BW_one 0).2 rfl
      refine ⟨false, 0, _, false, h2, ?_, ?_, h3, ⟨(fun h => by cases h), fun h => absurd h h1⟩, fun h => absurd h h1, fun _ => ⟨rfl, rfl⟩⟩
      · rw [hz]; exact Own.nil _ _ _ _ _
      · rw [hz]; omega
    · exact ⟨_, textVal s b, v, true, h2, h3, textVal_nlen hb2 hs h1, h4, ⟨fun _ => h1, fun _ => rfl⟩, fun _ => ⟨rfl, rfl⟩, fun h => absurd h1 h⟩
  obtain ⟨ng, V, v, ok, hP, own, hnl, hok, i1, i2, i3⟩ := hu
  obtain ⟨ao, c, rfl, _⟩ := own.parts
  obtain ⟨n, hn⟩ : ∃ n, Hid (n = nlen BW V) := ⟨_, Lib.hid rfl⟩
  rw [← hn.out] at own hP hnl
  have hP2 : Pair w6 (w.heap.size + 2) 24 (.bool false) (.slice none 0 0) := by
    unfold Pair
    rw [hk.2.2.2.2 (w.heap.size + 2) (by omega) (by omega) (by omega)]
    exact H.out.2
  have hbel : Below w.heap.size w w6 := ⟨hk.1.trans H.out.1.os, hk.2.1.trans H.out.1.tape, hk.2.2.1.trans H.out.1.output, by have := hk.2.2.2.1; omega, fun k hkl => (hk.2.2.2.2 k (by omega) (by omega) (by omega)).trans (H.out.1.block k hkl)⟩
  have q0 := hP.cell0
  have q1 := hP.cell1
  have q4 := cell_of_one hok
  have r0 := hP2.cell0
  have r1 := hP2.cell1
  have r2 := hP2.free 0
  have r3 := hP2.free 1
  have G := Lib.hid (And.intro own (And.intro hnl (And.intro i1 (And.intro i2 (And.intro i3 hbel)))))
  clear own hnl i1 i2 i3 hbel hP hok hk hp hP2 KG
  go_wp2
  go_region
  go_wp2
  refine bodyPost_ret (v := .tuple #[.agg #[.bool ng, .slice ao n c], .bool ok]) (by simp [results, Tryd.results20, go_sem, r0, r1, r2, r3]) rfl ?_
  have g2 : w6.grownBy ((w6.setCell ⟨w.heap.size + 2, 0, none⟩ (.bool ng)).setCell ⟨w.heap.size + 2, 1, none⟩ (.slice ao n c)).drew (some (w.heap.size + 2)) := grown_trans (grown_trans (grown_setCell w6 ⟨w.heap.size + 2, 0, none⟩ _) (grown_setCell _ ⟨w.heap.size + 2, 1, none⟩ _)) (grown_drewN _ 1 _)
  refine ⟨ng, V, _, ok, rfl, G.out.2.2.1, G.out.2.2.2.1, G.out.2.2.2.2.1, ?_, ?_, G.out.2.2.2.2.2.grown g2 G.out.2.2.2.2.2.size (fun k hk => by cases hk; omega)⟩
  · rw [← hn.out]
    refine (G.out.1.kept g2 ?_).base_le (by omega)
    rcases hao : (Value.slice ao n c).ownBlock with _ | g
    · exact .inl rfl
    · refine .inr ?_
      have := (G.out.1.lt g hao).1
      intro e
      cases e
      omega
  · rw [← hn.out]; exact G.out.2.1

end Go.Proofs.YtidifjmjbfhpaaaDoor
