/- The closure in impl.SetBit: an Int with a bit set or taken away; or a panic. -/
import Derived.Test.YtidifjmjbfhpaaaDoorIntSetBit
import Derived.Test.YtidifjmjbfhpaaaDoorAnswer
namespace Go.Proofs.YtidifjmjbfhpaaaDoor
set_option linter.unusedVariables false
set_option maxRecDepth 20000
set_option linter.unusedSimpArgs false
open Go.RowKit

theorem IntNew.base_le {w : World} {base base' p : Nat} {neg : Bool} {V : Nat} (h : IntNew w base p neg V) (hb : base' ≤ base) : IntNew w base' p neg V := by
  obtain ⟨v, h1, h2⟩ := h
  exact ⟨v, h1, h2.base_le hb⟩

def ItPost (w : World) (neg : Bool) (R : Nat) (e : Ending) (w' : World) : Prop := ∃ p, e = .returned (.pointer (some ⟨p, 0, none⟩)) ∧ IntNew w' w.heap.size p neg R ∧ Below w.heap.size w w'
/-- What the closure comes to: an Int, or a panic where the bit is none. -/
def SetBitRes (w : World) (sg : Bool) (V i b : Nat) (e : Ending) (w' : World) : Prop := (b ≤ 1 ∧ ItPost w sg (setI sg V i (b == 1)) e w') ∨ (2 ≤ b ∧ PanicPost w e w')

theorem setBit_at (w W : World) (pz px base V i b : Nat) (sg : Bool) (v : Value) (hbel : Below w.heap.size w W) (hpz : w.heap.size ≤ pz) (hV1 : sg = true → 1 ≤ V) (hb3 : b < 256) (hb : nlen BW V ≤ 2147483640) (hi : i ≤ 100000000)
    (hz : Pair W pz 72 (.bool false) (.slice none 0 0)) (h : Pair W px 72 (.bool sg) v) (own : Own W base 83 .u64 v (nlen BW V) (dig BW V)) (hone : One W) :
    Calls Tryd.prog 40 #[.pointer (some ⟨pz, 0, none⟩), .pointer (some ⟨px, 0, none⟩), .int .i64 i, .int .u64 b] W (SetBitRes w sg V i b) := by
  have hsz := hbel.size
  have good : ∀ bb : Bool, Calls Tryd.prog 40 #[.pointer (some ⟨pz, 0, none⟩), .pointer (some ⟨px, 0, none⟩), .int .i64 i, .int .u64 ((b01 bb : Nat) : Int)] W (ItPost w sg (setI sg V i bb)) := fun bb => by
    refine (intSetBit_any pz px base V i sg bb v W hV1 hb hi hz h own hone).mono ?_
    rintro e w' ⟨he, hn, gr⟩
    exact ⟨pz, he, hn.base_le hsz, hbel.grown gr hsz (fun k hk => by cases hk; exact hpz)⟩
  by_cases h0 : b = 0
  · subst h0
    exact (good false).mono fun e w' h => .inl ⟨by omega, h⟩
  by_cases h1 : b = 1
  · subst h1
    exact (good true).mono fun e w' h => .inl ⟨by omega, h⟩
  · refine (intSetBit_bad pz px base V i b sg v W hV1 (by omega) hb3 hb hi hz h own hone).mono ?_
    rintro e w' ⟨he, bel⟩
    exact .inr ⟨by omega, he, below_trans hbel bel⟩

set_option maxHeartbeats 1000000 in
theorem setBitIt_any (px pi pb i b n cz : Nat) (neg : Bool) (az : Option Addr) (f : Nat → Nat) (hf : ∀ i, i < n → f i < BW) (w : World) (hi : i ≤ 100000000) (hb : b < 256) (hle : n ≤ cz) (hm : n ≤ 200000000)
    (hnum : Pair w px 24 (.bool neg) (.slice az n cz)) (hpi : w.cell? ⟨pi, 0, none⟩ = some (.int .i64 i)) (hpb : w.cell? ⟨pb, 0, none⟩ = some (.int .u64 b)) (hrd : Reads w .u64 az n f) (hone : One w) :
    Calls Tryd.prog 39 #[.pointer (some ⟨px, 0, none⟩), .pointer (some ⟨pi, 0, none⟩), .pointer (some ⟨pb, 0, none⟩)] w (SetBitRes w (sgn neg (val BW f n)) (val BW f n) i b) := by
  have hVn : nlen BW (val BW f n) ≤ n := by rw [nlen_le_iff BW_one]; exact val_lt fun i hi => hf i hi
  have c2 := hnum.cell0
  have c3 := hnum.cell1
  have HS := Lib.hid (show ∀ W, Below w.heap.size w W → W.cell? ⟨px, 0, none⟩ = some (.bool neg) ∧ W.cell? ⟨px, 1, none⟩ = some (.slice az n cz) ∧ W.cell? ⟨pi, 0, none⟩ = some (.int .i64 i) ∧ W.cell? ⟨pb, 0, none⟩ = some (.int .u64 b) from fun W hW => ⟨(hnum.below hW hnum.lt).cell0, (hnum.below hW hnum.lt).cell1, by rw [hW.cell (World.block_lt_of_cell? _ _ hpi)]; exact hpi, by rw [hW.cell (World.block_lt_of_cell? _ _ hpb)]; exact hpb⟩)
  have HF := Lib.hid (And.intro hf (And.intro hrd hone))
  clear hrd hf hnum hone
  go_enter Tryd.func39, Tryd.ntmps39
  go_wp2_with fail
  refine region_until (fun w' => w'.cell? ⟨px, 0, none⟩ = some (.bool neg) ∧ w'.cell? ⟨px, 1, none⟩ = some (.slice az n cz) ∧ w'.cell? ⟨pi, 0, none⟩ = some (.int .i64 i) ∧ w'.cell? ⟨pb, 0, none⟩ = some (.int .u64 b)) 6 (by kernel_rfl) ⟨c2, c3, hpi, hpb⟩ ?_
  refine until_take 1 [6, 5, 2] rfl rfl (by kernel_rfl) (by kernel_rfl) (by kernel_rfl) (by kernel_rfl) (fun _ _ _ h => h) (v := .agg #[.bool neg, .slice az n cz]) (.inl ⟨by rfl, ?_⟩) ⟨c2, c3, hpi, hpb⟩ ?_
  · rintro w' ⟨h1, h2, h3, h4⟩; go_simp
  simp only [Act.put, List.setIfInBounds_toArray, List.set_cons_zero, List.set_cons_succ]
  refine until_take 3 [6, 5] rfl rfl (by kernel_rfl) (by kernel_rfl) (by kernel_rfl) (by kernel_rfl) (fun _ _ _ h => h) (v := .int .i64 i) (.inl ⟨by rfl, ?_⟩) ⟨c2, c3, hpi, hpb⟩ ?_
  · rintro w' ⟨h1, h2, h3, h4⟩; go_simp
  simp only [Act.put, List.setIfInBounds_toArray, List.set_cons_zero, List.set_cons_succ]
  refine until_take 4 [6, 5] rfl rfl (by kernel_rfl) (by kernel_rfl) (by kernel_rfl) (by kernel_rfl) (fun _ _ _ h => h) (v := .int .u64 b) (.inl ⟨by rfl, ?_⟩) ⟨c2, c3, hpi, hpb⟩ ?_
  · rintro w' ⟨h1, h2, h3, h4⟩; go_simp
  simp only [Act.put, List.setIfInBounds_toArray, List.set_cons_zero, List.set_cons_succ]
  refine until_two (j := 0) (k := 2) (by kernel_rfl) rfl rfl (fun K hK => ?_) (fun K hK => ?_)
  go_simp
  have bA : Below w.heap.size w (w.drew.alloc (.cells #[.bool false, .slice none 0 0] 72)) := below_of_drew ((Below.refl _ w.drew).alloc (Nat.le_refl _) _)
  have pA : Pair (w.drew.alloc (.cells #[.bool false, .slice none 0 0] 72)) w.heap.size 72 (.bool false) (.slice none 0 0) := Pair.new w.drew _ _ _
  refine hK.out _ _ (fun _ => HS.out _ bA) ?_
  clear hK K
  refine until_one (j := 2) (by kernel_rfl) rfl (fun K hK => ?_)
  go_simp
  go_at_call 28
  refine (of_any neg az n cz f HF.out.1 _ hle (by omega) (HF.out.2.1.below bA)).mono ?_
  rintro e w1 ⟨p, rfl, ⟨hp0, v1, hp1, own1⟩, b1⟩
  have bB := below_trans bA b1
  have KF := Lib.hid (setBit_at w w1 w.heap.size p _ (val BW f n) i b (sgn neg (val BW f n)) v1 bB (Nat.le_refl _) (sgn_pos neg _) hb (by omega) hi (pA.below b1 pA.lt) hp1 own1 (HF.out.2.2.below bB))
  refine hK.out _ _ (fun _ => HS.out _ bB) ?_
  clear hK K bA pA bB b1 hp1 own1 hp0
  revert KF
  generalize w.heap.size = g
  intro KF
  rotate_left 1
  go_simp
  go_at_call 28
  refine (of_any neg az n cz f HF.out.1 w.drew hle (by omega) HF.out.2.1).mono ?_
  rintro e w0 ⟨p, rfl, ⟨hp0, v1, hp1, own1⟩, b1⟩
  have bB := below_of_drew b1
  refine hK.out _ _ (fun _ => HS.out _ bB) ?_
  clear hK K
  refine until_one (j := 0) (by kernel_rfl) rfl (fun K hK => ?_)
  go_simp
  have bC := bB.alloc bB.size (.cells #[.bool false, .slice none 0 0] 72)
  have KF := Lib.hid (setBit_at w (w0.alloc (.cells #[.bool false, .slice none 0 0] 72)) w0.heap.size p _ (val BW f n) i b (sgn neg (val BW f n)) v1 bC bB.size (sgn_pos neg _) hb (by omega) hi (Pair.new _ _ _ _) (hp1.alloc _) (own1.alloc _) (HF.out.2.2.below bC))
  refine hK.out _ _ (fun _ => HS.out _ bC) ?_
  clear hK K bB bC b1 hp1 own1 hp0
  revert KF
  generalize w0.alloc _ = w1
  generalize w0.heap.size = g
  intro KF
  all_goals
    refine until_one (j := 5) (by kernel_rfl) rfl (fun K hK => ?_)
    go_simp
    go_at_call 40
    refine KF.out.mono ?_
    rintro e w2 (⟨hb1, p2, rfl, hn2, bel2⟩ | ⟨hb2, ⟨T, x, rfl⟩, bel2⟩)
    · have G := Lib.hid (And.intro hb1 (And.intro hn2 bel2))
      refine hK.out _ _ (fun _ => HS.out _ bel2) ?_
      clear hK K KF hb1 hn2 bel2
      refine until_one (j := 6) (by kernel_rfl) rfl (fun K hK => ?_)
      go_simp
      refine hK.out _ _ (fun h => absurd rfl h) ?_
      refine until_done (by kernel_rfl) ?_ _
      clear hK K
      go_wp2
      go_ret
      exact .inl ⟨G.out.1, _, rfl, G.out.2.1, G.out.2.2⟩
    · exact ⟨rfl, .inr ⟨hb2, ⟨_, _, rfl⟩, bel2⟩⟩

/-- Two blocks aside all is as it was. -/
def grown2 (w w' : World) (a b : Nat) : Prop := w'.os = w.os ∧ w'.tape = w.tape ∧ w'.output = w.output ∧ w.heap.size ≤ w'.heap.size ∧ ∀ k, k < w.heap.size → k ≠ a → k ≠ b → w'.heap[k]? = w.heap[k]?

theorem grown2_of_below {w w' : World} (h : Below w.heap.size w w') (a b : Nat) : grown2 w w' a b := ⟨h.os, h.tape, h.output, h.size, fun k hk _ _ => h.block k hk⟩
theorem grown2.step {w w1 w2 : World} {a b x : Nat} (h : grown2 w w1 a b) (hx : x = a ∨ x = b) (g : w1.grownBy w2 (some x)) : grown2 w w2 a b :=
  ⟨g.os.trans h.1, g.tape.trans h.2.1, g.output.trans h.2.2.1, Nat.le_trans h.2.2.2.1 g.size, fun k hk ha hb => (g.block k (Nat.lt_of_lt_of_le hk h.2.2.2.1) (by rcases hx with rfl | rfl <;> simpa)).trans (h.2.2.2.2 k hk ha hb)⟩

/-- What the closure in 'answered' leaves. -/
def AnsItPost (w : World) (po pc : Nat) (neg : Bool) (R : Nat) (e : Ending) (w' : World) : Prop :=
  e = .returned (.tuple #[]) ∧ (∃ v, Pair w' po 24 (.bool neg) v ∧ Own w' w.heap.size 32 .u64 v (nlen BW R) (dig BW R)) ∧ w'.heap[pc]? = some (.cells #[.int .i64 0] 3 (0, 0)) ∧ grown2 w w' po pc
def AnsItRes (w : World) (po pc : Nat) (sg : Bool) (V i b : Nat) (e : Ending) (w' : World) : Prop :=
  (b ≤ 1 ∧ AnsItPost w po pc sg (setI sg V i (b == 1)) e w') ∨ (2 ≤ b ∧ PanicPost w e w')

theorem setI_pos (neg : Bool) (V i : Nat) (b : Bool) (h : neg = true) : 1 ≤ setI neg V i b := by subst h; show 1 ≤ _ + 1; omega
theorem setI_nlen (neg : Bool) (V i : Nat) (b : Bool) : nlen BW (setI neg V i b) ≤ nlen BW V + i / 64 + 2 := by
  cases neg
  · have := setb_nlen V i b; show nlen BW (setb V i b) ≤ _; omega
  · have h1 := setb_nlen (V - 1) i (!b)
    have h2 := nlen_succ_le (setb (V - 1) i (!b))
    have h3 : nlen BW (V - 1) ≤ nlen BW V := nlen_mono BW_one (Nat.sub_le _ _)
    show nlen BW (setb (V - 1) i (!b) + 1) ≤ _
    omega

set_option maxHeartbeats 1000000 in
theorem ansIt_any (pf po pc px pi pb i b n cz : Nat) (neg : Bool) (az : Option Addr) (f : Nat → Nat) (hf : ∀ i, i < n → f i < BW) (w : World) (hi : i ≤ 100000000) (hb : b < 256) (hle : n ≤ cz) (hm : n ≤ 200000000)
    (hfn : w.cell? ⟨pf, 0, none⟩ = some (.func (.func 39) #[] #[.pointer (some ⟨px, 0, none⟩), .pointer (some ⟨pi, 0, none⟩), .pointer (some ⟨pb, 0, none⟩)]))
    (hout : Pair w po 24 (.bool false) (.slice none 0 0)) (hcode : w.heap[pc]? = some (.cells #[.int .i64 0] 3 (0, 0))) (hoc : po ≠ pc)
    (hnum : Pair w px 24 (.bool neg) (.slice az n cz)) (hpi : w.cell? ⟨pi, 0, none⟩ = some (.int .i64 i)) (hpb : w.cell? ⟨pb, 0, none⟩ = some (.int .u64 b)) (hrd : Reads w .u64 az n f) (hone : One w) :
    Calls Tryd.prog 60 #[.pointer (some ⟨pf, 0, none⟩), .pointer (some ⟨po, 0, none⟩), .pointer (some ⟨pc, 0, none⟩)] w (AnsItRes w po pc (sgn neg (val BW f n)) (val BW f n) i b) := by
  have hVn : nlen BW (val BW f n) ≤ n := by rw [nlen_le_iff BW_one]; exact val_lt fun i hi => hf i hi
  have K := Lib.hid (setBitIt_any px pi pb i b n cz neg az f hf w hi hb hle hm hnum hpi hpb hrd hone)
  have H := Lib.hid (And.intro hout hcode)
  have hsp := sgn_pos neg (val BW f n)
  obtain ⟨V, hV⟩ : ∃ V, V = val BW f n := ⟨_, rfl⟩
  rw [← hV] at K hVn hsp ⊢
  obtain ⟨sg, hsg⟩ : ∃ s, s = sgn neg V := ⟨_, rfl⟩
  rw [← hsg] at K hsp ⊢
  have hR := setI_nlen sg V i (b == 1)
  have hRp := setI_pos sg V i (b == 1)
  obtain ⟨R, hRd⟩ : ∃ R, R = setI sg V i (b == 1) := ⟨_, rfl⟩
  rw [← hRd] at hR hRp
  have HR := Lib.hid (And.intro hRd hRp)
  have hRn : nlen BW R ≤ 2147483647 := by omega
  clear hf hout hcode hnum hpi hpb hrd hone hV hsg hsp hRd hRp hR
  go_enter Tryd.func60, Tryd.ntmps60
  go_wp2_with fail
  refine K.out.mono ?_
  rintro e w1 (⟨hb1, p, rfl, hn1, bel1⟩ | ⟨hb2, ⟨T, x, rfl⟩, bel2⟩)
  · rw [← HR.out.1] at hn1
    have KA := Lib.hid (answer_any p w.heap.size sg R w1 HR.out.2 hRn hn1)
    have G := Lib.hid (And.intro hb1 bel1)
    clear hb1 bel1 hn1 K
    go_wp2_with fail
    refine KA.out.mono ?_
    rintro e w2 ⟨v, rfl, own2, bel2⟩
    obtain ⟨a2, c2, rfl, hle2, hcm2, hrd2, hlt2⟩ := own2.parts
    have b2 := below_trans G.out.2 bel2
    have po2 := H.out.1.below b2 H.out.1.lt
    have pc2 : w2.heap[pc]? = some (.cells #[.int .i64 0] 3 (0, 0)) := by rw [b2.block pc (lt_of_block H.out.2)]; exact H.out.2
    have d0 := po2.cell0
    have d1 := po2.cell1
    have f0 := po2.free 0
    have f1 := po2.free 1
    have e0 := cell_of_one pc2
    have e1 := free_of_one pc2
    have G2 := Lib.hid (And.intro own2 (And.intro b2 (And.intro po2 (And.intro pc2 G.out.2.size))))
    clear own2 b2 po2 pc2 hrd2 hlt2 bel2 KA
    go_wp2
    refine bodyPost_end (v := .tuple #[]) (by simp [results, Tryd.results60, go_sem]) rfl ?_
    refine .inl ⟨G.out.1, ?_⟩
    rw [← HR.out.1]
    have hlo := H.out.1.lt
    have hlc := lt_of_block H.out.2
    have hg := G2.out.2.2.2.2
    have keep : ∀ (u u' : World) (x : Nat), x < w.heap.size → u.grownBy u' (some x) → Own u w1.heap.size 32 .u64 (.slice a2 (nlen BW R) c2) (nlen BW R) (dig BW R) → Own u' w1.heap.size 32 .u64 (.slice a2 (nlen BW R) c2) (nlen BW R) (dig BW R) := fun u u' x hx g o => o.kept g (by
      cases hk : (Value.slice a2 (nlen BW R) c2).ownBlock with
      | none => exact .inl rfl
      | some k =>
        refine .inr fun e => ?_
        have := (o.lt k hk).1
        have e2 : k = x := by simpa using e
        omega)
    refine ⟨rfl, ⟨_, ((G2.out.2.2.1.set0 (.bool sg)).set1 (.slice a2 (nlen BW R) c2)).setOther (x := ⟨pc, 0, none⟩) hoc _, ?_⟩, ?_, ?_⟩
    · exact (keep _ _ pc hlc (grown_setCell _ ⟨pc, 0, none⟩ _) (keep _ _ po hlo (grown_setCell _ ⟨po, 1, none⟩ _) (keep _ _ po hlo (grown_setCell _ ⟨po, 0, none⟩ _) G2.out.1))).base_le hg
    · refine one_setCell (v := .int .i64 0) ?_
      rw [Below.heap_setCell _ _ _ _ (fun e => hoc e.symm), Below.heap_setCell _ _ _ _ (fun e => hoc e.symm)]
      exact G2.out.2.2.2.1
    · exact (((grown2_of_below G2.out.2.1 po pc).step (.inl rfl) (grown_setCell _ ⟨po, 0, none⟩ _)).step (.inl rfl) (grown_setCell _ ⟨po, 1, none⟩ _)).step (.inr rfl) (grown_setCell _ ⟨pc, 0, none⟩ _)
  · have B2 := Lib.hid (And.intro hb2 bel2)
    clear hb2 bel2 K
    go_wp2
    exact ⟨rfl, .inr ⟨B2.out.1, ⟨_, _, rfl⟩, B2.out.2⟩⟩

end Go.Proofs.YtidifjmjbfhpaaaDoor
