/- impl.of: a new Int of a Number. -/
import Derived.Test.YtidifjmjbfhpaaaDoorBase
import Derived.Test.YtidifjmjbfhpaaaDoorInfo
import Derived.Test.YtidifjmjbfhpaaaDoorIntA
namespace Go.Proofs.YtidifjmjbfhpaaaDoor
set_option linter.unusedVariables false
set_option maxRecDepth 20000
set_option linter.unusedSimpArgs false
open Go.RowKit

/-- A new Int at block p, its words in new memory. -/
def IntAt (w : World) (base p : Nat) (neg : Bool) (n : Nat) (f : Nat → Nat) : Prop :=
  base ≤ p ∧ ∃ v, Pair w p 72 (.bool neg) v ∧ Own w base 83 .u64 v n f

theorem own_pair_ne {w : World} {base n p : Nat} {k : IntKind} {v a b : Value} {f : Nat → Nat} {T e : TypeId} (hp : Pair w p T a b) (ho : Own w base e k v n f) (hT : T ≠ e) : v.ownBlock ≠ some p := by
  intro h
  rcases ho.2 with ⟨rfl, _⟩ | ⟨g, cap, cur, rfl, hbg, hgg, _⟩
  · simp [Value.ownBlock] at h
  · simp [Value.ownBlock] at h
    subst h
    unfold Pair at hp
    rw [hp] at hgg
    simp at hgg
    exact hT hgg.2

set_option maxHeartbeats 1000000 in
theorem of_walk (neg : Bool) (ao : Option Addr) (n cap : Nat) (f : Nat → Nat) (w : World) (hn : n ≤ cap) (hb : n ≤ 2147483647) (hrd : Reads w .u64 ao n f) :
    Calls Tryd.prog 28 #[.agg #[.bool neg, .slice ao n cap]] w fun e w' => ∃ p, e = .returned (.pointer (some ⟨p, 0, none⟩)) ∧ IntAt w' w.heap.size p (neg && decide (0 < clen f n)) (clen f n) f ∧ Below w.heap.size w w' := by
  obtain ⟨i0, hi, hz0, hz1, hz2⟩ := info_parts info_Word
  have bel0 : Below w.heap.size w (w.alloc (.cells #[.bool neg, .slice ao n cap] 24)) := (Below.refl _ _).alloc (Nat.le_refl _) _
  have BEL0 := Lib.hid bel0
  clear bel0
  go_enter Tryd.func28, Tryd.ntmps28
  go_wp2
  go_loopw [3, 10] (fun v t wr => ∃ i : Nat, i ≤ n ∧ t = .int .i64 i ∧ Own wr (w.heap.size + 1) 83 .u64 v i f ∧ Below (w.heap.size + 1) (w.alloc (.cells #[.bool neg, .slice ao n cap] 24)) wr) (fun _ t _ => n - (intOf t).toNat)
  case atStart => exact ⟨0, Nat.zero_le _, rfl, Own.nil _ _ _ _ _, Below.refl _ _⟩
  case round =>
    obtain ⟨i, hin, rfl, own, bel⟩ := hrel
    by_cases hlt : i < n
    · obtain ⟨b, o, rfl, hcell0⟩ := hrd i hlt
      have hbw := World.block_lt_of_cell? _ _ hcell0
      have hcell : wr.cell? ⟨b, o + i, none⟩ = some (.int .u64 (f i)) := (bel.cell (p := ⟨b, o + i, none⟩) (by simp at hbw ⊢; omega)).trans ((World.cell?_alloc_past _ _ _ hbw).trans hcell0)
      have hsz := bel.size
      have OWN := Lib.hid own
      have BEL := Lib.hid bel
      clear own bel hcell0 hrd
      go_wp2_with (at_builtin; refine wpList_append_own _ rfl _ _ 69 rfl (w.heap.size + 1) 83 i0 (.int .u64 0) 1 8 Tryd.underlying69 hi hz0 hz1 hz2 rfl (by decide) _ _ _ rfl (OWN.out.alloc _) ⟨wr.heap.size, 0, none⟩ 1 1 [.int .u64 (f i)] rfl rfl (cell_one_new _ _ _) (by simp [Value.oneCell']) (by unfold maxLen; omega) (by omega) (by simp at hsz ⊢; omega) ?_)
      intro v' w1 hown' hgrow _
      have own' : Own w1 (w.heap.size + 1) 83 .u64 v' (i + 1) f := (Own.snoc hown').congr fun j hj => by
        unfold upd; split
        · rename_i e; rw [e]
        · rfl
      have bel' : Below (w.heap.size + 1) (w.alloc (.cells #[.bool neg, .slice (some ⟨b, o, none⟩) n cap] 24)) w1 :=
        (BEL.out.alloc (by simp at hsz ⊢; omega) _).grown hgrow (by simp at hsz ⊢; omega) (fun k hk => (OWN.out.lt k hk).1)
      have OB := Lib.hid (And.intro own' bel')
      clear own' bel' hown' hgrow OWN BEL
      go_wp2
      go_roundw
      case rel =>
        go_light
        exact ⟨i + 1, by omega, by go_num, OB.out.1, OB.out.2⟩
      case measure => simp [intOf]; omega
    · obtain rfl : i = n := by omega
      obtain ⟨ao2, c2, rfl, hle, hcm, hrd2, hlt2⟩ := own.parts
      have hsz := bel.size
      simp at hsz
      have hbox : Pair wr w.heap.size 24 (.bool neg) (.slice ao i cap) := (Pair.new w _ _ _).below bel (by omega)
      have hnew := Pair.new wr 72 (.bool false) (.slice none 0 0)
      have own1 := own.alloc (.cells #[.bool false, .slice none 0 0] 72)
      have hbel1 : Below w.heap.size w (wr.alloc (.cells #[.bool false, .slice none 0 0] 72)) := ((BEL0.out).trans (bel.mono (by omega))).alloc (by omega) _
      have hbox1 := hbox.alloc (.cells #[.bool false, .slice none 0 0] 72)
      have K := Lib.hid (setBits_any wr.heap.size _ _ ao2 i c2 f _ hnew hle (by omega) (Reads.of_own own1))
      have FACTS := Lib.hid (And.intro own1 (And.intro hbel1 hbox1))
      have hlt3 := Lib.hid hlt2
      clear own bel hrd hrd2 hlt2 hbox hnew own1 hbel1 hbox1
      go_wp2_with fail
      refine K.out.mono ?_
      rintro e w2 ⟨rfl, hp2, hg2⟩
      obtain ⟨own1, hbel1, hbox1⟩ := FACTS.out
      have own2 := own1.kept hg2 (by
        rcases hv : (Value.slice ao2 i c2).ownBlock with _ | k
        · exact .inl rfl
        · right; intro h; have := (hlt3.out k hv).2; simp at h; omega)
      have own3 := (own2.cut (clen_le f i)).base_le (base' := w.heap.size) (by omega)
      have bel2 := below_grown_new hbel1 hg2 (by simp; omega) (by omega)
      have hbox2 := hbox1.grown hg2 (by simp; omega)
      have hc0 := hbox2.cell0
      have hpn : wr.heap.size < w2.heap.size := hp2.lt
      have P2 := Lib.hid hp2
      have F2 := Lib.hid (And.intro own3 bel2)
      clear hp2 own1 hbel1 hbox1 own2 own3 bel2 hbox2 hg2 K
      cases neg with
      | false =>
        go_wp2_with fail
        go_ret
        exact ⟨_, rfl, ⟨by omega, _, P2.out, F2.out.1⟩, F2.out.2⟩
      | true =>
        go_wp2_with fail
        refine (neg_self _ _ _ _ _ _ P2.out).mono ?_
        rintro e w3 ⟨rfl, hp3, hg3⟩
        have own4 := F2.out.1.kept hg3 (by
          rcases hv : (Value.slice ao2 (clen f i) c2).ownBlock with _ | k
          · exact .inl rfl
          · right; intro h; exact own_pair_ne P2.out F2.out.1 (by decide) (by rw [hv]; exact h))
        have bel3 := below_grown_new F2.out.2 hg3 (by omega) (by omega)
        have F3 := Lib.hid (And.intro own4 (And.intro bel3 hp3))
        clear own4 bel3 hp3 hg3
        go_wp2
        go_ret
        refine ⟨_, rfl, ⟨by omega, _, ?_, F3.out.1⟩, F3.out.2.1⟩
        simpa using F3.out.2.2

theorem IntAt.congr {w : World} {base p n : Nat} {neg : Bool} {f g : Nat → Nat} (h : IntAt w base p neg n f) (hf : ∀ i, i < n → f i = g i) : IntAt w base p neg n g := by
  obtain ⟨h1, v, h2, h3⟩ := h
  exact ⟨h1, v, h2, h3.congr hf⟩

/-- The number of a row of words. -/
theorem words_norm {f : Nat → Nat} {n : Nat} (h : ∀ i, i < n → f i < BW) : clen f n = nlen BW (val BW f n) ∧ ∀ i, i < nlen BW (val BW f n) → f i = dig BW (val BW f n) i := by
  have h1 := clen_val BW_one h
  refine ⟨h1, fun i hi => ?_⟩
  rw [← h1] at hi
  have := clen_le f n
  exact (val_dig h (by omega)).symm

/-- impl.of: a new Int of the number that the words have, negated with Neg (0 has no sign). -/
theorem of_any (neg : Bool) (ao : Option Addr) (n cap : Nat) (f : Nat → Nat) (hf : ∀ i, i < n → f i < BW) (w : World) (hn : n ≤ cap) (hb : n ≤ 2147483647) (hrd : Reads w .u64 ao n f) :
    Calls Tryd.prog 28 #[.agg #[.bool neg, .slice ao n cap]] w fun e w' => ∃ p, e = .returned (.pointer (some ⟨p, 0, none⟩)) ∧ IntAt w' w.heap.size p (neg && decide (val BW f n ≠ 0)) (nlen BW (val BW f n)) (dig BW (val BW f n)) ∧ Below w.heap.size w w' := by
  obtain ⟨h1, h2⟩ := words_norm hf
  refine (of_walk neg ao n cap f w hn hb hrd).mono fun e w' ⟨p, he, hi, hbel⟩ => ⟨p, he, ?_, hbel⟩
  rw [h1] at hi
  have e1 : decide (0 < nlen BW (val BW f n)) = decide (val BW f n ≠ 0) := by
    have := nlen_eq_zero BW_one (val BW f n)
    simp only [decide_eq_decide]; omega
  rw [e1] at hi
  exact hi.congr h2

end Go.Proofs.YtidifjmjbfhpaaaDoor
