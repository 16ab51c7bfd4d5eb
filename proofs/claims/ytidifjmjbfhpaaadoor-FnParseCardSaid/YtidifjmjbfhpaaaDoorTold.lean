/- impl.told: the number that an Int has. -/
import Derived.Test.YtidifjmjbfhpaaaDoorBase
import Derived.Test.YtidifjmjbfhpaaaDoorInfo
import Derived.Test.YtidifjmjbfhpaaaDoorIntA
import Derived.Test.YtidifjmjbfhpaaaDoorOf
namespace Go.Proofs.YtidifjmjbfhpaaaDoor
set_option linter.unusedVariables false
set_option maxRecDepth 20000
set_option linter.unusedSimpArgs false
open Go.RowKit

set_option maxHeartbeats 1000000 in
theorem told_any (p : Nat) (neg : Bool) (ao : Option Addr) (n cap : Nat) (f : Nat → Nat) (w : World) (hn : n ≤ cap) (hb : n ≤ 2147483647) (h : Pair w p 72 (.bool neg) (.slice ao n cap)) (hrd : Reads w .u64 ao n f) :
    Calls Tryd.prog 44 #[.pointer (some ⟨p, 0, none⟩)] w fun e w' => ∃ v, e = .returned (.agg #[.bool (neg && decide (0 < n)), v]) ∧ Own w' w.heap.size 32 .u64 v n f ∧ Below w.heap.size w w' := by
  obtain ⟨i0, hi, hz0, hz1, hz2⟩ := info_parts info_uint
  have hpl := h.lt
  have K1 := Lib.hid (sign_any p neg ao n cap (w.alloc (.cells #[.bool false, .slice none 0 0] 24)) (h.alloc _))
  obtain ⟨s, hs⟩ : ∃ s : Int, s = (if n = 0 then 0 else if neg then -1 else 1) := ⟨_, rfl⟩
  rw [← hs] at K1
  have hs2 : decide (s < 0) = (neg && decide (0 < n)) := by
    rw [hs]
    by_cases h0 : n = 0
    · simp [h0]
    · rw [if_neg h0]; cases neg <;> simp <;> omega
  obtain ⟨sg, hsg⟩ : ∃ sg : Bool, sg = (neg && decide (0 < n)) := ⟨_, rfl⟩
  rw [← hsg] at hs2 ⊢
  clear hs hsg
  have HRD := Lib.hid hrd
  have H := Lib.hid h
  clear hrd h
  go_enter Tryd.func44, Tryd.ntmps44
  go_wp2_with fail
  refine K1.out.mono ?_
  rintro e w1 ⟨rfl, rfl⟩
  go_wp2_with fail
  refine (bits_any p (.bool neg) (.slice ao n cap) _ ((H.out.alloc _).alloc _)).mono ?_
  rintro e w1 ⟨rfl, rfl⟩
  have B0 := Lib.hid (((Below.refl w.heap.size w).alloc (Nat.le_refl _) (.cells #[.bool false, .slice none 0 0] 24)).alloc (by simp) (.cells #[.bool sg, .slice none 0 0] 24))
  have P0 := Lib.hid (And.intro ((Pair.new w 24 (.bool false) (.slice none 0 0)).alloc (.cells #[.bool sg, .slice none 0 0] 24)) (Pair.new (w.alloc (.cells #[.bool false, .slice none 0 0] 24)) 24 (.bool sg) (.slice none 0 0)))
  obtain ⟨W, hW⟩ : ∃ W, W = (w.alloc (.cells #[.bool false, .slice none 0 0] 24)).alloc (.cells #[.bool sg, .slice none 0 0] 24) := ⟨_, rfl⟩
  have hsz0 : W.heap.size = w.heap.size + 2 := by rw [hW]; simp
  rw [← hW] at B0 P0 ⊢
  simp only [World.size_alloc] at P0
  have hsz1 : w.heap.size + 2 ≤ W.heap.size := by omega
  clear hW hsz0
  go_wp2
  go_loopw [13] (fun t wr => ∃ (i : Nat) (vv : Value), i ≤ n ∧ t = .int .i64 i ∧ Pair wr (w.heap.size + 1) 24 (.bool sg) vv ∧ Own wr (w.heap.size + 2) 32 .u64 vv i f ∧ Below (w.heap.size + 1) W wr) (fun t _ => n - (intOf t).toNat)
  case atStart => exact ⟨0, _, Nat.zero_le _, rfl, P0.out.2, Own.nil _ _ _ _ _, Below.refl _ _⟩
  case round =>
    obtain ⟨i, vv, hin, rfl, hp, own, bel⟩ := hrel
    have hsz := bel.size
    by_cases hlt : i < n
    · obtain ⟨b, o, rfl, hcell0⟩ := HRD.out i hlt
      have hbw := World.block_lt_of_cell? _ _ hcell0
      have hcell : wr.cell? ⟨b, o + i, none⟩ = some (.int .u64 (f i)) := ((B0.out.trans (bel.mono (by omega))).cell (p := ⟨b, o + i, none⟩) hbw).trans hcell0
      have hc1 := hp.cell1
      have hf1 := hp.free 1
      have hplt := hp.lt
      have HP := Lib.hid hp
      have OWN := Lib.hid own
      have BEL := Lib.hid bel
      clear own bel hcell0 hp
      go_wp2_with (at_builtin; refine wpList_append_own _ rfl _ _ 22 rfl (w.heap.size + 2) 32 i0 (.int .u64 0) 1 8 Tryd.underlying22 hi hz0 hz1 hz2 rfl (by decide) _ _ _ rfl (OWN.out.alloc _) ⟨wr.heap.size, 0, none⟩ 1 1 [.int .u64 (f i)] rfl rfl (cell_one_new _ _ _) (by simp [Value.oneCell']) (by unfold maxLen; omega) (by omega) (by simp; omega) ?_)
      intro v' w1 hown' hgrow _
      have own' : Own w1 (w.heap.size + 2) 32 .u64 v' (i + 1) f := (Own.snoc hown').congr fun j hj => by
        unfold upd; split
        · rename_i e; rw [e]
        · rfl
      have bel' : Below (w.heap.size + 1) W w1 := (BEL.out.alloc (by omega) _).grown hgrow (by simp; omega) (fun k hk => by have := (OWN.out.lt k hk).1; omega)
      have hp' := (HP.out.alloc (.cells #[.int .u64 (f i)] 32)).grown hgrow (fun e => by have := (OWN.out.lt _ e.symm).1; omega)
      have hc1' := hp'.cell1
      have hf1' := hp'.free 1
      have own2 : Own (w1.setCell ⟨w.heap.size + 1, 1, none⟩ v') (w.heap.size + 2) 32 .u64 v' (i + 1) f :=
        own'.kept (grown_setCell _ _ _) (by
          rcases hv : v'.ownBlock with _ | k
          · exact .inl rfl
          · right; intro e; have := (own'.lt k hv).1; simp at e; omega)
      have OB := Lib.hid (And.intro own2 (And.intro (bel'.setCell (p := ⟨w.heap.size + 1, 1, none⟩) (Nat.le_refl _) v') (hp'.set1 v')))
      have hshape := own'.shape
      clear own' own2 bel' hown' hgrow OWN BEL hp' hc1 hf1 hcell
      rcases hshape with ⟨_, h0⟩ | ⟨g, c, rfl, hg1, hg2, hg3, hg4⟩
      · omega
      · go_wp2
        go_roundw
        case rel =>
          go_light
          exact ⟨i + 1, _, by omega, by go_num, OB.out.2.2, OB.out.1, OB.out.2.1⟩
        case measure => simp [intOf]; omega
    · obtain rfl : i = n := by omega
      obtain ⟨av, cv, rfl, hle, hcm, hrd2, hlt2⟩ := own.parts
      have hp0 := P0.out.1.below bel (by omega)
      have hc0 := hp.cell0
      have hc1 := hp.cell1
      have hd0 := hp0.cell0
      have hd1 := hp0.cell1
      have hf0 := hp0.free 0
      have hf1 := hp0.free 1
      have hplt := hp0.lt
      have OWN := Lib.hid own
      have BEL := Lib.hid (B0.out.trans (bel.mono (by omega)))
      clear own bel hrd2 hp hp0 hlt2
      go_wp2
      refine bodyPost_ret (v := .agg #[.bool sg, .slice av i cv]) (by simp [results, Tryd.results44, go_sem, hf0, hf1, hd0, hd1]) rfl ?_
      refine ⟨_, rfl, (Own.kept ?_ (grown_trans (grown_setCell _ ⟨w.heap.size, 0, none⟩ _) (grown_setCell _ ⟨w.heap.size, 1, none⟩ _)) ?_), (BEL.out.setCell (Nat.le_refl _) _).setCell (Nat.le_refl _) _⟩
      · exact OWN.out.base_le (by omega)
      · rcases hv : (Value.slice av i cv).ownBlock with _ | k
        · exact .inl rfl
        · right; intro e; have := (OWN.out.lt k hv).1; simp at e; omega

end Go.Proofs.YtidifjmjbfhpaaaDoor
