/- impl.FromBytes: the number of bytes, as a Number. -/
import Derived.Test.YtidifjmjbfhpaaaBase
import Derived.Test.YtidifjmjbfhpaaaInfo
import Derived.Test.YtidifjmjbfhpaaaSetBytes
import Derived.Test.YtidifjmjbfhpaaaTold
import Derived.Laws.AppendOwnNone
namespace Go.Proofs.Ytidifjmjbfhpaaa
set_option linter.unusedVariables false
set_option linter.unusedSimpArgs false
open Go.RowKit

theorem intSetBytes_any (p : Nat) (a : Value) (ao : Option Addr) (n cap : Nat) (f : Nat → Nat) (hf : ∀ i, f i < 256) (w : World) (h : Pair w p 49 a (.slice none 0 0)) (hn : n ≤ cap) (hb : n ≤ 2147483647) (hrd : Reads w .u8 ao n f) :
    Calls Try.prog 18 #[.pointer (some ⟨p, 0, none⟩), .slice ao n cap] w fun e w' => e = .returned (.pointer (some ⟨p, 0, none⟩)) ∧ ∃ v, Pair w' p 49 (.bool false) v ∧ Own w' w.heap.size 62 .u64 v (nlen BW (bval f n)) (dig BW (bval f n)) ∧ w.grownBy w' (some p) := by
  have h0 := h.cell0
  have h1 := h.cell1
  have hpl := h.lt
  have K := Lib.hid (setBytes_any ao n cap f hf w hn hb hrd)
  have H := Lib.hid h
  clear hrd h
  go_enter Try.func18, Try.ntmps18
  go_wp2_with fail
  refine K.out.mono ?_
  rintro e w1 ⟨v, rfl, own, bel⟩
  have hp1 := H.out.below bel hpl
  obtain ⟨av, cv, rfl, hle, hcm, _, hlt⟩ := own.parts
  have c0 := hp1.cell0
  have c1 := hp1.cell1
  have f0 := hp1.free 0
  have f1 := hp1.free 1
  have g1 := grown_trans (grown_setCell w1 ⟨p, 1, none⟩ (.slice av (nlen BW (bval f n)) cv)) (grown_setCell _ ⟨p, 0, none⟩ (.bool false))
  have own2 := own.kept g1 (by
    rcases hv : (Value.slice av (nlen BW (bval f n)) cv).ownBlock with _ | k
    · exact .inl rfl
    · right; intro e; have := (hlt k hv).1; simp at e; omega)
  have F := Lib.hid (And.intro ((hp1.set1 (.slice av (nlen BW (bval f n)) cv)).set0 (.bool false)) (And.intro own2 (grown_trans (grown_of_below bel (some p)) g1)))
  clear own own2 bel hp1 g1 hlt h0 h1 K H
  go_wp2
  go_ret
  exact ⟨rfl, _, F.out.1, F.out.2.1, F.out.2.2⟩

theorem fromBytes_any (ao : Option Addr) (n cap : Nat) (f : Nat → Nat) (hf : ∀ i, f i < 256) (w : World) (hn : n ≤ cap) (hnil : ao = none → cap = 0) (hb : n ≤ 2147483647) (hrd : Reads w .u8 ao n f) :
    Calls Try.prog 7 #[.slice ao n cap] w fun e w' => ∃ v, e = .returned (.agg #[.bool false, v]) ∧ Own w' w.heap.size 59 .u64 v (nlen BW (bval f n)) (dig BW (bval f n)) ∧ Below w.heap.size w w' := by
  obtain ⟨i0, hi, hz0, hz1, hz2⟩ := info_parts info_u8
  obtain ⟨W, hW⟩ : ∃ W, W = (w.alloc (.cells #[.bool false, .slice none 0 0] 26)).alloc (.cells #[.bool false, .slice none 0 0] 49) := ⟨_, rfl⟩
  have P0 := Lib.hid (And.intro ((Pair.new w 26 (.bool false) (.slice none 0 0)).alloc (.cells #[.bool false, .slice none 0 0] 49)) (Pair.new (w.alloc (.cells #[.bool false, .slice none 0 0] 26)) 49 (.bool false) (.slice none 0 0)))
  have hbel0 : Below w.heap.size w W := by rw [hW]; exact ((Below.refl _ _).alloc (Nat.le_refl _) _).alloc (by simp) _
  have hsz : W.heap.size = w.heap.size + 2 := by rw [hW]; simp
  have hrdW := hrd.below hbel0
  have HRD := Lib.hid hrdW
  have B0 := Lib.hid hbel0
  rw [← hW] at P0
  simp only [World.size_alloc] at P0
  have HW := Lib.hid hW
  clear hrd hrdW hbel0 hW
  go_enter Try.func7, Try.ntmps7
  go_wp2_with (at_builtin; rw [← HW.out]; refine wpList_append_slice rfl _ _ 22 rfl (w.heap.size + 2) 5 i0 .u8 1 Try.underlying22 hi hz0 hz1 hz2 (.slice none 0 0) 0 f rfl (Own.nil _ _ _ _ _) ao n cap f rfl (fun h => by have := hnil h; omega) HRD.out (by omega) (by omega) (by omega) ?_)
  intro v1 w1 own1 grown1
  replace own1 := own1.congr (g := f) fun j _ => by simp [cat]
  obtain ⟨a1, c1, rfl, hle1, hcm1, hrd1, hlt1⟩ := own1.parts
  have bel1 : Below (w.heap.size + 2) W w1 := (Below.refl _ _).grown grown1 (by omega) (fun k hk => by simp [Value.ownBlock] at hk)
  have p1 := P0.out.2.below bel1 (by omega)
  have q1 := P0.out.1.below bel1 (by omega)
  have K := Lib.hid (intSetBytes_any (w.heap.size + 1) _ a1 n c1 f hf w1 p1 hle1 hb hrd1)
  have F := Lib.hid (And.intro q1 bel1)
  have hs1 := bel1.size
  clear own1 hlt1 bel1 p1 q1 grown1 hrd1
  go_wp2_with fail
  refine K.out.mono ?_
  rintro e w2 ⟨rfl, v2, p2, own2, gr2⟩
  obtain ⟨q1, bel1⟩ := F.out
  have q2 := q1.grown gr2 (by simp)
  have bel2 : Below (w.heap.size + 1) W w2 := below_grown_new (bel1.mono (by omega)) gr2 (by omega) (by omega)
  obtain ⟨a2, c2, rfl, hle2, hcm2, hrd2, hlt2⟩ := own2.parts
  have hlen : nlen BW (bval f n) ≤ 2147483647 := by
    have h1 : bval f n < 256 ^ n := bval_lt hf n
    have h2 : nlen BW (bval f n) ≤ n := by
      rw [nlen_le_iff BW_one]
      exact Nat.lt_of_lt_of_le h1 (Nat.pow_le_pow_left (by rw [BW_eq]; omega) n)
    omega
  have K2 := Lib.hid (told_any (w.heap.size + 1) false a2 _ c2 _ w2 hle2 hlen p2 hrd2)
  have F2 := Lib.hid (And.intro q2 bel2)
  have hs2 := bel2.size
  clear own2 hrd2 hlt2 p2 q2 q1 bel1 bel2 gr2 F K
  go_wp2_with fail
  refine K2.out.mono ?_
  rintro e w3 ⟨v3, rfl, own3, bel3⟩
  obtain ⟨q2, bel2⟩ := F2.out
  have q3 := q2.below bel3 (by omega)
  have c0 := q3.cell0
  have c1' := q3.cell1
  have f0 := q3.free 0
  have f1 := q3.free 1
  have hl3 := q3.lt
  have bel4 : Below w.heap.size w w3 := (B0.out.trans (bel2.mono (by omega))).trans (bel3.mono (by omega))
  obtain ⟨a3, c3, rfl, hle3, hcm3, hrd3, hlt3⟩ := own3.parts
  have OWN := Lib.hid own3
  have BEL := Lib.hid bel4
  clear own3 hrd3 bel4 bel3 bel2 q2 q3 K2 F2
  go_wp2
  refine bodyPost_ret (v := .agg #[.bool false, .slice a3 (nlen BW (bval f n)) c3]) (by simp [results, Try.results7, go_sem, f0, f1, c0, c1']) rfl ?_
  refine ⟨_, rfl, (Own.kept ?_ (grown_trans (grown_setCell _ ⟨w.heap.size, 0, none⟩ _) (grown_setCell _ ⟨w.heap.size, 1, none⟩ _)) ?_), (BEL.out.setCell (Nat.le_refl _) _).setCell (Nat.le_refl _) _⟩
  · exact OWN.out.base_le (by omega)
  · rcases hv : (Value.slice a3 (nlen BW (bval f n)) c3).ownBlock with _ | k
    · exact .inl rfl
    · right; intro e; have := (hlt3 k hv).1; simp at e; omega

end Go.Proofs.Ytidifjmjbfhpaaa
