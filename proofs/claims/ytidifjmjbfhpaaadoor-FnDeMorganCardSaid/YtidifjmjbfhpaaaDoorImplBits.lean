/- impl.Bits: And, Or, Xor, AndNot, Not of two Numbers. (Printed by implbits.py.) -/
import Derived.Test.YtidifjmjbfhpaaaDoorIntOpsA
import Derived.Test.YtidifjmjbfhpaaaDoorIntOpsB
import Derived.Test.YtidifjmjbfhpaaaDoorBitOps
import Derived.Test.YtidifjmjbfhpaaaDoorOf
import Derived.Deep.RegionHeld3
namespace Go.Proofs.YtidifjmjbfhpaaaDoor
set_option linter.unusedVariables false
set_option maxRecDepth 20000
set_option linter.unusedSimpArgs false
open Go.RowKit

theorem of_new (neg : Bool) (ao : Option Addr) (n cap : Nat) (f : Nat → Nat) (hf : ∀ i, i < n → f i < BW) (w : World) (hn : n ≤ cap) (hb : n ≤ 2147483647) (hrd : Reads w .u64 ao n f) :
    Calls Tryd.prog 28 #[.agg #[.bool neg, .slice ao n cap]] w fun e w' => ∃ p, e = .returned (.pointer (some ⟨p, 0, none⟩)) ∧ IntNew w' w.heap.size p (sgn neg (val BW f n)) (val BW f n) ∧ Below w.heap.size w w' := by
  refine (of_any neg ao n cap f hf w hn hb hrd).mono ?_
  rintro e w' ⟨p, rfl, ⟨_, v, h1, h2⟩, bel⟩
  exact ⟨p, rfl, ⟨v, h1, h2⟩, bel⟩

theorem IntNew.below {w w' : World} {base p : Nat} {neg : Bool} {V : Nat} (h : IntNew w base p neg V) (hb : Below w.heap.size w w') : IntNew w' base p neg V := by
  obtain ⟨v, h1, h2⟩ := h
  exact ⟨v, h1.below hb h1.lt, h2.below hb (fun b hb' => (h2.lt b hb').2)⟩

def BitsPost (k : Nat) (sx : Bool) (V : Nat) (sy : Bool) (U : Nat) (w : World) (e : Ending) (w' : World) : Prop :=
  ∃ v, e = .returned (.agg #[.bool (opR k sx V sy U).1, v]) ∧ Own w' w.heap.size 32 .u64 v (nlen BW (opR k sx V sy U).2) (dig BW (opR k sx V sy U).2) ∧ Below w.heap.size w w'

theorem keepTwo {W : World} {p q : Nat} {a b c d : Value} (h1 : Pair W p 24 a b) (h2 : Pair W q 24 c d) : ∀ u, Below W.heap.size W u → u.cell? ⟨p, 0, none⟩ = some a ∧ u.cell? ⟨p, 1, none⟩ = some b ∧ u.cell? ⟨q, 0, none⟩ = some c ∧ u.cell? ⟨q, 1, none⟩ = some d := fun u hu =>
  ⟨(h1.below hu h1.lt).cell0, (h1.below hu h1.lt).cell1, (h2.below hu h2.lt).cell0, (h2.below hu h2.lt).cell1⟩
theorem keepBox {W u u' : World} {p q z : Nat} {a b c d : Value} (h : ∀ u, Below W.heap.size W u → u.cell? ⟨p, 0, none⟩ = some a ∧ u.cell? ⟨p, 1, none⟩ = some b ∧ u.cell? ⟨q, 0, none⟩ = some c ∧ u.cell? ⟨q, 1, none⟩ = some d) (hu : Below W.heap.size W u) (g : u.grownBy u' (some z)) (hl : z < W.heap.size ∧ p ≠ z ∧ q ≠ z) :
    u'.cell? ⟨p, 0, none⟩ = some a ∧ u'.cell? ⟨p, 1, none⟩ = some b ∧ u'.cell? ⟨q, 0, none⟩ = some c ∧ u'.cell? ⟨q, 1, none⟩ = some d := by
  obtain ⟨h1, h2, h3, h4⟩ := h u hu
  exact ⟨g.cell h1 (by simpa using hl.2.1), g.cell h2 (by simpa using hl.2.1), g.cell h3 (by simpa using hl.2.2), g.cell h4 (by simpa using hl.2.2)⟩

theorem intAnd_any (pz px py b1 b2 V U : Nat) (sx sy : Bool) (w : World) (hV : sx = true → 1 ≤ V) (hU : sy = true → 1 ≤ U) (hbV : nlen BW V ≤ 2000000000) (hbU : nlen BW U ≤ 2000000000)
    (hz : Pair w pz 72 (.bool false) (.slice none 0 0)) (hx : IntNew w b1 px sx V) (hy : IntNew w b2 py sy U) (hone : One w) :
    Calls Tryd.prog 47 #[.pointer (some ⟨pz, 0, none⟩), .pointer (some ⟨px, 0, none⟩), .pointer (some ⟨py, 0, none⟩)] w (IntPost pz (opR 0 sx V sy U).1 (opR 0 sx V sy U).2 w) := by
  obtain ⟨vx, hx, ox⟩ := hx
  obtain ⟨vy, hy, oy⟩ := hy
  cases sx <;> cases sy
  · exact intAnd_ff pz px py b1 b2 V U vx vy w hV hU hbV hbU hz hx hy ox oy hone
  · exact intAnd_ft pz px py b1 b2 V U vx vy w hV hU hbV hbU hz hx hy ox oy hone
  · exact intAnd_tf pz px py b1 b2 V U vx vy w hV hU hbV hbU hz hx hy ox oy hone
  · exact intAnd_tt pz px py b1 b2 V U vx vy w hV hU hbV hbU hz hx hy ox oy hone

theorem intOr_any (pz px py b1 b2 V U : Nat) (sx sy : Bool) (w : World) (hV : sx = true → 1 ≤ V) (hU : sy = true → 1 ≤ U) (hbV : nlen BW V ≤ 2000000000) (hbU : nlen BW U ≤ 2000000000)
    (hz : Pair w pz 72 (.bool false) (.slice none 0 0)) (hx : IntNew w b1 px sx V) (hy : IntNew w b2 py sy U) (hone : One w) :
    Calls Tryd.prog 48 #[.pointer (some ⟨pz, 0, none⟩), .pointer (some ⟨px, 0, none⟩), .pointer (some ⟨py, 0, none⟩)] w (IntPost pz (opR 1 sx V sy U).1 (opR 1 sx V sy U).2 w) := by
  obtain ⟨vx, hx, ox⟩ := hx
  obtain ⟨vy, hy, oy⟩ := hy
  cases sx <;> cases sy
  · exact intOr_ff pz px py b1 b2 V U vx vy w hV hU hbV hbU hz hx hy ox oy hone
  · exact intOr_ft pz px py b1 b2 V U vx vy w hV hU hbV hbU hz hx hy ox oy hone
  · exact intOr_tf pz px py b1 b2 V U vx vy w hV hU hbV hbU hz hx hy ox oy hone
  · exact intOr_tt pz px py b1 b2 V U vx vy w hV hU hbV hbU hz hx hy ox oy hone

theorem intXor_any (pz px py b1 b2 V U : Nat) (sx sy : Bool) (w : World) (hV : sx = true → 1 ≤ V) (hU : sy = true → 1 ≤ U) (hbV : nlen BW V ≤ 2000000000) (hbU : nlen BW U ≤ 2000000000)
    (hz : Pair w pz 72 (.bool false) (.slice none 0 0)) (hx : IntNew w b1 px sx V) (hy : IntNew w b2 py sy U) (hone : One w) :
    Calls Tryd.prog 49 #[.pointer (some ⟨pz, 0, none⟩), .pointer (some ⟨px, 0, none⟩), .pointer (some ⟨py, 0, none⟩)] w (IntPost pz (opR 2 sx V sy U).1 (opR 2 sx V sy U).2 w) := by
  obtain ⟨vx, hx, ox⟩ := hx
  obtain ⟨vy, hy, oy⟩ := hy
  cases sx <;> cases sy
  · exact intXor_ff pz px py b1 b2 V U vx vy w hV hU hbV hbU hz hx hy ox oy hone
  · exact intXor_ft pz px py b1 b2 V U vx vy w hV hU hbV hbU hz hx hy ox oy hone
  · exact intXor_tf pz px py b1 b2 V U vx vy w hV hU hbV hbU hz hx hy ox oy hone
  · exact intXor_tt pz px py b1 b2 V U vx vy w hV hU hbV hbU hz hx hy ox oy hone

theorem intAndNot_any (pz px py b1 b2 V U : Nat) (sx sy : Bool) (w : World) (hV : sx = true → 1 ≤ V) (hU : sy = true → 1 ≤ U) (hbV : nlen BW V ≤ 2000000000) (hbU : nlen BW U ≤ 2000000000)
    (hz : Pair w pz 72 (.bool false) (.slice none 0 0)) (hx : IntNew w b1 px sx V) (hy : IntNew w b2 py sy U) (hone : One w) :
    Calls Tryd.prog 50 #[.pointer (some ⟨pz, 0, none⟩), .pointer (some ⟨px, 0, none⟩), .pointer (some ⟨py, 0, none⟩)] w (IntPost pz (opR 3 sx V sy U).1 (opR 3 sx V sy U).2 w) := by
  obtain ⟨vx, hx, ox⟩ := hx
  obtain ⟨vy, hy, oy⟩ := hy
  cases sx <;> cases sy
  · exact intAndNot_ff pz px py b1 b2 V U vx vy w hV hU hbV hbU hz hx hy ox oy hone
  · exact intAndNot_ft pz px py b1 b2 V U vx vy w hV hU hbV hbU hz hx hy ox oy hone
  · exact intAndNot_tf pz px py b1 b2 V U vx vy w hV hU hbV hbU hz hx hy ox oy hone
  · exact intAndNot_tt pz px py b1 b2 V U vx vy w hV hU hbV hbU hz hx hy ox oy hone

theorem intNot_any (pz px b1 V : Nat) (sx : Bool) (sy : Bool) (U : Nat) (w : World) (hV : sx = true → 1 ≤ V) (hbV : nlen BW V ≤ 2000000000)
    (hz : Pair w pz 72 (.bool false) (.slice none 0 0)) (hx : IntNew w b1 px sx V) (hone : One w) :
    Calls Tryd.prog 51 #[.pointer (some ⟨pz, 0, none⟩), .pointer (some ⟨px, 0, none⟩)] w (IntPost pz (opR 4 sx V sy U).1 (opR 4 sx V sy U).2 w) := by
  obtain ⟨vx, hx, ox⟩ := hx
  cases sx
  · exact intNot_f pz px b1 V vx w hV hbV hz hx ox hone
  · exact intNot_t pz px b1 V vx w hV hbV hz hx ox hone

set_option maxHeartbeats 1000000 in
theorem implBits_0 (na nb : Bool) (ax ay : Option Addr) (nx cx ny cy : Nat) (fx fy : Nat → Nat) (hfx : ∀ i, i < nx → fx i < BW) (hfy : ∀ i, i < ny → fy i < BW) (w : World) (hxc : nx ≤ cx) (hyc : ny ≤ cy) (hxm : nx ≤ 200000000) (hym : ny ≤ 200000000)
    (hrx : Reads w .u64 ax nx fx) (hry : Reads w .u64 ay ny fy) (hone : One w) :
    Calls Tryd.prog 23 #[.int .i64 0, .agg #[.bool na, .slice ax nx cx], .agg #[.bool nb, .slice ay ny cy]] w (BitsPost 0 (sgn na (val BW fx nx)) (val BW fx nx) (sgn nb (val BW fy ny)) (val BW fy ny) w) := by
  obtain ⟨W1, HW1⟩ : ∃ W, Hid (W = w.alloc (.cells #[.bool na, .slice ax nx cx] 24)) := ⟨_, Lib.hid rfl⟩
  obtain ⟨W2, HW2⟩ : ∃ W, Hid (W = W1.alloc (.cells #[.bool nb, .slice ay ny cy] 24)) := ⟨_, Lib.hid rfl⟩
  obtain ⟨W3, HW3⟩ : ∃ W, Hid (W = W2.alloc (.cells #[.bool false, .slice none 0 0] 24)) := ⟨_, Lib.hid rfl⟩
  obtain ⟨W4, HW4⟩ : ∃ W, Hid (W = W3.alloc (.cells #[.bool false, .slice none 0 0] 72)) := ⟨_, Lib.hid rfl⟩
  have s1 : W1.heap.size = w.heap.size + 1 := by rw [HW1.out]; simp
  have s2 : W2.heap.size = w.heap.size + 1 + 1 := by rw [HW2.out]; simp [s1]
  have s3 : W3.heap.size = w.heap.size + 1 + 1 + 1 := by rw [HW3.out]; simp [s2]
  have s4 : W4.heap.size = w.heap.size + 4 := by rw [HW4.out]; simp [s3]
  have b1 : Below w.heap.size w W1 := by rw [HW1.out]; exact (Below.refl _ w).alloc (Nat.le_refl _) _
  have b2 : Below w.heap.size w W2 := by rw [HW2.out]; exact b1.alloc b1.size _
  have b3 : Below w.heap.size w W3 := by rw [HW3.out]; exact b2.alloc b2.size _
  have b4 : Below w.heap.size w W4 := by rw [HW4.out]; exact b3.alloc b3.size _
  have hpx : Pair W4 w.heap.size 24 (.bool na) (.slice ax nx cx) := by rw [HW4.out, HW3.out, HW2.out, HW1.out]; exact (((Pair.new w _ _ _).alloc _).alloc _).alloc _
  have hpy : Pair W4 (w.heap.size + 1) 24 (.bool nb) (.slice ay ny cy) := by rw [HW4.out, HW3.out, HW2.out, ← s1]; exact ((Pair.new W1 _ _ _).alloc _).alloc _
  have hres : Pair W4 (w.heap.size + 1 + 1) 24 (.bool false) (.slice none 0 0) := by rw [HW4.out, HW3.out, ← s2]; exact (Pair.new W2 _ _ _).alloc _
  have hz : Pair W4 (w.heap.size + 1 + 1 + 1) 72 (.bool false) (.slice none 0 0) := by rw [HW4.out, ← s3]; exact Pair.new W3 _ _ _
  have HS := Lib.hid (keepTwo hpx hpy)
  have OX := Lib.hid (fun u (h : Below W4.heap.size W4 u) => of_new na ax nx cx fx hfx u hxc (by omega) ((hrx.below b4).below h))
  have OY := Lib.hid (fun u (h : Below W4.heap.size W4 u) => of_new nb ay ny cy fy hfy u hyc (by omega) ((hry.below b4).below h))
  have hVn : nlen BW (val BW fx nx) ≤ nx := by rw [nlen_le_iff BW_one]; exact val_lt fun i hi => hfx i hi
  have hUn : nlen BW (val BW fy ny) ≤ ny := by rw [nlen_le_iff BW_one]; exact val_lt fun i hi => hfy i hi
  have hsx := sgn_pos na (val BW fx nx)
  have hsy := sgn_pos nb (val BW fy ny)
  obtain ⟨V, hV⟩ : ∃ V, V = val BW fx nx := ⟨_, rfl⟩
  obtain ⟨U, hU⟩ : ∃ U, U = val BW fy ny := ⟨_, rfl⟩
  rw [← hV] at OX hVn hsx ⊢
  rw [← hU] at OY hUn hsy ⊢
  obtain ⟨sx, hsx'⟩ : ∃ s, s = sgn na V := ⟨_, rfl⟩
  obtain ⟨sy, hsy'⟩ : ∃ s, s = sgn nb U := ⟨_, rfl⟩
  rw [← hsx'] at OX hsx ⊢
  rw [← hsy'] at OY hsy ⊢
  have HP := Lib.hid (And.intro hsx (And.intro hsy (And.intro (show nlen BW V ≤ 2000000000 by omega) (show nlen BW U ≤ 2000000000 by omega))))
  have hRn := opR_nlen 0 sx V sy U
  have HRn := Lib.hid (And.intro (show nlen BW (opR 0 sx V sy U).2 ≤ 2147483647 by omega) (opR_pos 0 sx V sy U))
  have HO := Lib.hid (hone.below b4)
  have HZ := Lib.hid hz
  have HB := Lib.hid (And.intro b4 (And.intro hres s4))
  have HL := Lib.hid (show w.heap.size + 1 + 1 + 1 < W4.heap.size ∧ w.heap.size ≠ w.heap.size + 1 + 1 + 1 ∧ w.heap.size + 1 ≠ w.heap.size + 1 + 1 + 1 from ⟨by omega, by omega, by omega⟩)
  have d4 : Below W4.heap.size W4 W4 := Below.refl _ W4
  have d0 : Below W4.heap.size W4 W4.drew := ⟨rfl, rfl, rfl, Nat.le_refl _, fun _ _ => rfl⟩
  have k0 := HS.out _ d4
  obtain ⟨c0, c1, c2, c3⟩ := k0
  have k0 := HS.out _ d4
  clear b1 b2 b3 b4 s1 s2 s3 s4 hpx hpy hres hz hrx hry hone hfx hfy hVn hUn hsx hsy hV hU hsx' hsy' hRn
  go_enter Tryd.func23, Tryd.ntmps23
  go_wp2_with fail
  rw [← HW1.out, ← HW2.out, ← HW3.out, ← HW4.out]
  go_region_held3 (fun u => u.cell? ⟨w.heap.size, 0, none⟩ = some (.bool na) ∧ u.cell? ⟨w.heap.size, 1, none⟩ = some (.slice ax nx cx) ∧ u.cell? ⟨w.heap.size + 1, 0, none⟩ = some (.bool nb) ∧ u.cell? ⟨w.heap.size + 1, 1, none⟩ = some (.slice ay ny cy)) (first | exact k0 | exact k5 | exact k6 | exact k7) (first
    | (go_simp; go_at_call 28; (with_reducible refine (OX.out _ d0).mono ?_); rintro e w5 ⟨p5, rfl, i5, b5⟩; have d5 := below_trans d0 b5; have k5 := HS.out _ d5; go_wp2_with fail)
    | (go_simp; go_at_call 28; (with_reducible refine (OY.out _ d5).mono ?_); rintro e w6 ⟨p6, rfl, i6, b6⟩; have d6 := below_trans d5 b6; have k6 := HS.out _ d6; go_wp2_with fail)
    | (go_simp; go_at_call 47; refine (intAnd_any (w.heap.size + 1 + 1 + 1) p5 p6 _ _ V U sx sy w6 HP.out.1 HP.out.2.1 HP.out.2.2.1 HP.out.2.2.2 (HZ.out.below d6 HZ.out.lt) (i5.below b6) i6 (HO.out.below d6)).mono ?_; rintro e w7 ⟨rfl, i7, g7⟩; have k7 := keepBox HS.out d6 g7 HL.out; go_wp2_with fail))
  have G7 := Lib.hid (And.intro i7 (And.intro d6 g7))
  clear i5 i6 i7 k0 k5 k6 k7 g7 d5 d6 d0 b5 b6 c0 c1 c2 c3
  obtain ⟨R, hR⟩ : ∃ R, R = opR 0 sx V sy U := ⟨_, rfl⟩
  rw [← hR] at G7 HRn
  have KT := Lib.hid (told_new (w.heap.size + 1 + 1 + 1) _ R.1 R.2 w7 HRn.out.2 HRn.out.1 G7.out.1)
  have HRR := Lib.hid hR
  clear hR
  go_wp2_with fail
  refine KT.out.mono ?_
  rintro e w8 ⟨x8, rfl, ⟨v8, rfl, own8⟩, b8⟩
  obtain ⟨a8, c8, rfl, hle8, hcm8, hrd8, hlt8⟩ := own8.parts
  have res7 : Pair w7 (w.heap.size + 1 + 1) 24 (.bool false) (.slice none 0 0) := (HB.out.2.1.below G7.out.2.1 HB.out.2.1.lt).grown G7.out.2.2 (by simp)
  have res8 := res7.below b8 res7.lt
  have r0 := res8.cell0
  have r1 := res8.cell1
  have f0 := res8.free 0
  have f1 := res8.free 1
  have hb8 : Below w.heap.size w w8 := ((HB.out.1.trans (G7.out.2.1.mono HB.out.1.size)).grown G7.out.2.2 (Nat.le_trans HB.out.1.size G7.out.2.1.size) (fun k hk => by cases hk; omega)).trans (b8.mono (Nat.le_trans (Nat.le_trans HB.out.1.size G7.out.2.1.size) G7.out.2.2.size))
  have hs7 : w.heap.size + 4 ≤ w7.heap.size := by have h1 := HB.out.2.2; have h2 := G7.out.2.1.size; have h3 := G7.out.2.2.size; omega
  have HH := Lib.hid (And.intro own8 (And.intro hb8 hs7))
  clear own8 hb8 hs7 hrd8 hlt8 res7 res8 b8 KT
  go_wp2_with fail
  refine bodyPost_ret (v := .agg #[.bool R.1, .slice a8 (nlen BW R.2) c8]) (by simp [results, Tryd.results23, go_sem, r0, r1, f0, f1]) rfl ?_
  obtain ⟨h1, h2, h3⟩ := HH.out
  have hle1 : w.heap.size ≤ w.heap.size + 1 + 1 := by omega
  have hb := (h2.setCell (p := ⟨w.heap.size + 1 + 1, 0, none⟩) hle1 (.bool R.1)).setCell (p := ⟨w.heap.size + 1 + 1, 1, none⟩) hle1 (.slice a8 (nlen BW R.2) c8)
  have own := h1.kept (grown_trans (grown_setCell w8 ⟨w.heap.size + 1 + 1, 0, none⟩ (.bool R.1)) (grown_setCell _ ⟨w.heap.size + 1 + 1, 1, none⟩ (.slice a8 (nlen BW R.2) c8))) (by
    cases hk : (Value.slice a8 (nlen BW R.2) c8).ownBlock with
    | none => exact .inl rfl
    | some k =>
      refine .inr fun e => ?_
      have := (h1.lt k hk).1
      have e2 : k = w.heap.size + 1 + 1 := by simpa using e
      omega)
  refine ⟨.slice a8 (nlen BW R.2) c8, by rw [← HRR.out], ?_, hb⟩
  rw [← HRR.out]
  exact own.base_le (by omega)

set_option maxHeartbeats 1000000 in
theorem implBits_1 (na nb : Bool) (ax ay : Option Addr) (nx cx ny cy : Nat) (fx fy : Nat → Nat) (hfx : ∀ i, i < nx → fx i < BW) (hfy : ∀ i, i < ny → fy i < BW) (w : World) (hxc : nx ≤ cx) (hyc : ny ≤ cy) (hxm : nx ≤ 200000000) (hym : ny ≤ 200000000)
    (hrx : Reads w .u64 ax nx fx) (hry : Reads w .u64 ay ny fy) (hone : One w) :
    Calls Tryd.prog 23 #[.int .i64 1, .agg #[.bool na, .slice ax nx cx], .agg #[.bool nb, .slice ay ny cy]] w (BitsPost 1 (sgn na (val BW fx nx)) (val BW fx nx) (sgn nb (val BW fy ny)) (val BW fy ny) w) := by
  obtain ⟨W1, HW1⟩ : ∃ W, Hid (W = w.alloc (.cells #[.bool na, .slice ax nx cx] 24)) := ⟨_, Lib.hid rfl⟩
  obtain ⟨W2, HW2⟩ : ∃ W, Hid (W = W1.alloc (.cells #[.bool nb, .slice ay ny cy] 24)) := ⟨_, Lib.hid rfl⟩
  obtain ⟨W3, HW3⟩ : ∃ W, Hid (W = W2.alloc (.cells #[.bool false, .slice none 0 0] 24)) := ⟨_, Lib.hid rfl⟩
  obtain ⟨W4, HW4⟩ : ∃ W, Hid (W = W3.alloc (.cells #[.bool false, .slice none 0 0] 72)) := ⟨_, Lib.hid rfl⟩
  have s1 : W1.heap.size = w.heap.size + 1 := by rw [HW1.out]; simp
  have s2 : W2.heap.size = w.heap.size + 1 + 1 := by rw [HW2.out]; simp [s1]
  have s3 : W3.heap.size = w.heap.size + 1 + 1 + 1 := by rw [HW3.out]; simp [s2]
  have s4 : W4.heap.size = w.heap.size + 4 := by rw [HW4.out]; simp [s3]
  have b1 : Below w.heap.size w W1 := by rw [HW1.out]; exact (Below.refl _ w).alloc (Nat.le_refl _) _
  have b2 : Below w.heap.size w W2 := by rw [HW2.out]; exact b1.alloc b1.size _
  have b3 : Below w.heap.size w W3 := by rw [HW3.out]; exact b2.alloc b2.size _
  have b4 : Below w.heap.size w W4 := by rw [HW4.out]; exact b3.alloc b3.size _
  have hpx : Pair W4 w.heap.size 24 (.bool na) (.slice ax nx cx) := by rw [HW4.out, HW3.out, HW2.out, HW1.out]; exact (((Pair.new w _ _ _).alloc _).alloc _).alloc _
  have hpy : Pair W4 (w.heap.size + 1) 24 (.bool nb) (.slice ay ny cy) := by rw [HW4.out, HW3.out, HW2.out, ← s1]; exact ((Pair.new W1 _ _ _).alloc _).alloc _
  have hres : Pair W4 (w.heap.size + 1 + 1) 24 (.bool false) (.slice none 0 0) := by rw [HW4.out, HW3.out, ← s2]; exact (Pair.new W2 _ _ _).alloc _
  have hz : Pair W4 (w.heap.size + 1 + 1 + 1) 72 (.bool false) (.slice none 0 0) := by rw [HW4.out, ← s3]; exact Pair.new W3 _ _ _
  have HS := Lib.hid (keepTwo hpx hpy)
  have OX := Lib.hid (fun u (h : Below W4.heap.size W4 u) => of_new na ax nx cx fx hfx u hxc (by omega) ((hrx.below b4).below h))
  have OY := Lib.hid (fun u (h : Below W4.heap.size W4 u) => of_new nb ay ny cy fy hfy u hyc (by omega) ((hry.below b4).below h))
  have hVn : nlen BW (val BW fx nx) ≤ nx := by rw [nlen_le_iff BW_one]; exact val_lt fun i hi => hfx i hi
  have hUn : nlen BW (val BW fy ny) ≤ ny := by rw [nlen_le_iff BW_one]; exact val_lt fun i hi => hfy i hi
  have hsx := sgn_pos na (val BW fx nx)
  have hsy := sgn_pos nb (val BW fy ny)
  obtain ⟨V, hV⟩ : ∃ V, V = val BW fx nx := ⟨_, rfl⟩
  obtain ⟨U, hU⟩ : ∃ U, U = val BW fy ny := ⟨_, rfl⟩
  rw [← hV] at OX hVn hsx ⊢
  rw [← hU] at OY hUn hsy ⊢
  obtain ⟨sx, hsx'⟩ : ∃ s, s = sgn na V := ⟨_, rfl⟩
  obtain ⟨sy, hsy'⟩ : ∃ s, s = sgn nb U := ⟨_, rfl⟩
  rw [← hsx'] at OX hsx ⊢
  rw [← hsy'] at OY hsy ⊢
  have HP := Lib.hid (And.intro hsx (And.intro hsy (And.intro (show nlen BW V ≤ 2000000000 by omega) (show nlen BW U ≤ 2000000000 by omega))))
  have hRn := opR_nlen 1 sx V sy U
  have HRn := Lib.hid (And.intro (show nlen BW (opR 1 sx V sy U).2 ≤ 2147483647 by omega) (opR_pos 1 sx V sy U))
  have HO := Lib.hid (hone.below b4)
  have HZ := Lib.hid hz
  have HB := Lib.hid (And.intro b4 (And.intro hres s4))
  have HL := Lib.hid (show w.heap.size + 1 + 1 + 1 < W4.heap.size ∧ w.heap.size ≠ w.heap.size + 1 + 1 + 1 ∧ w.heap.size + 1 ≠ w.heap.size + 1 + 1 + 1 from ⟨by omega, by omega, by omega⟩)
  have d4 : Below W4.heap.size W4 W4 := Below.refl _ W4
  have d0 : Below W4.heap.size W4 W4.drew := ⟨rfl, rfl, rfl, Nat.le_refl _, fun _ _ => rfl⟩
  have k0 := HS.out _ d4
  obtain ⟨c0, c1, c2, c3⟩ := k0
  have k0 := HS.out _ d4
  clear b1 b2 b3 b4 s1 s2 s3 s4 hpx hpy hres hz hrx hry hone hfx hfy hVn hUn hsx hsy hV hU hsx' hsy' hRn
  go_enter Tryd.func23, Tryd.ntmps23
  go_wp2_with fail
  rw [← HW1.out, ← HW2.out, ← HW3.out, ← HW4.out]
  go_region_held3 (fun u => u.cell? ⟨w.heap.size, 0, none⟩ = some (.bool na) ∧ u.cell? ⟨w.heap.size, 1, none⟩ = some (.slice ax nx cx) ∧ u.cell? ⟨w.heap.size + 1, 0, none⟩ = some (.bool nb) ∧ u.cell? ⟨w.heap.size + 1, 1, none⟩ = some (.slice ay ny cy)) (first | exact k0 | exact k5 | exact k6 | exact k7) (first
    | (go_simp; go_at_call 28; (with_reducible refine (OX.out _ d0).mono ?_); rintro e w5 ⟨p5, rfl, i5, b5⟩; have d5 := below_trans d0 b5; have k5 := HS.out _ d5; go_wp2_with fail)
    | (go_simp; go_at_call 28; (with_reducible refine (OY.out _ d5).mono ?_); rintro e w6 ⟨p6, rfl, i6, b6⟩; have d6 := below_trans d5 b6; have k6 := HS.out _ d6; go_wp2_with fail)
    | (go_simp; go_at_call 48; refine (intOr_any (w.heap.size + 1 + 1 + 1) p5 p6 _ _ V U sx sy w6 HP.out.1 HP.out.2.1 HP.out.2.2.1 HP.out.2.2.2 (HZ.out.below d6 HZ.out.lt) (i5.below b6) i6 (HO.out.below d6)).mono ?_; rintro e w7 ⟨rfl, i7, g7⟩; have k7 := keepBox HS.out d6 g7 HL.out; go_wp2_with fail))
  have G7 := Lib.hid (And.intro i7 (And.intro d6 g7))
  clear i5 i6 i7 k0 k5 k6 k7 g7 d5 d6 d0 b5 b6 c0 c1 c2 c3
  obtain ⟨R, hR⟩ : ∃ R, R = opR 1 sx V sy U := ⟨_, rfl⟩
  rw [← hR] at G7 HRn
  have KT := Lib.hid (told_new (w.heap.size + 1 + 1 + 1) _ R.1 R.2 w7 HRn.out.2 HRn.out.1 G7.out.1)
  have HRR := Lib.hid hR
  clear hR
  go_wp2_with fail
  refine KT.out.mono ?_
  rintro e w8 ⟨x8, rfl, ⟨v8, rfl, own8⟩, b8⟩
  obtain ⟨a8, c8, rfl, hle8, hcm8, hrd8, hlt8⟩ := own8.parts
  have res7 : Pair w7 (w.heap.size + 1 + 1) 24 (.bool false) (.slice none 0 0) := (HB.out.2.1.below G7.out.2.1 HB.out.2.1.lt).grown G7.out.2.2 (by simp)
  have res8 := res7.below b8 res7.lt
  have r0 := res8.cell0
  have r1 := res8.cell1
  have f0 := res8.free 0
  have f1 := res8.free 1
  have hb8 : Below w.heap.size w w8 := ((HB.out.1.trans (G7.out.2.1.mono HB.out.1.size)).grown G7.out.2.2 (Nat.le_trans HB.out.1.size G7.out.2.1.size) (fun k hk => by cases hk; omega)).trans (b8.mono (Nat.le_trans (Nat.le_trans HB.out.1.size G7.out.2.1.size) G7.out.2.2.size))
  have hs7 : w.heap.size + 4 ≤ w7.heap.size := by have h1 := HB.out.2.2; have h2 := G7.out.2.1.size; have h3 := G7.out.2.2.size; omega
  have HH := Lib.hid (And.intro own8 (And.intro hb8 hs7))
  clear own8 hb8 hs7 hrd8 hlt8 res7 res8 b8 KT
  go_wp2_with fail
  refine bodyPost_ret (v := .agg #[.bool R.1, .slice a8 (nlen BW R.2) c8]) (by simp [results, Tryd.results23, go_sem, r0, r1, f0, f1]) rfl ?_
  obtain ⟨h1, h2, h3⟩ := HH.out
  have hle1 : w.heap.size ≤ w.heap.size + 1 + 1 := by omega
  have hb := (h2.setCell (p := ⟨w.heap.size + 1 + 1, 0, none⟩) hle1 (.bool R.1)).setCell (p := ⟨w.heap.size + 1 + 1, 1, none⟩) hle1 (.slice a8 (nlen BW R.2) c8)
  have own := h1.kept (grown_trans (grown_setCell w8 ⟨w.heap.size + 1 + 1, 0, none⟩ (.bool R.1)) (grown_setCell _ ⟨w.heap.size + 1 + 1, 1, none⟩ (.slice a8 (nlen BW R.2) c8))) (by
    cases hk : (Value.slice a8 (nlen BW R.2) c8).ownBlock with
    | none => exact .inl rfl
    | some k =>
      refine .inr fun e => ?_
      have := (h1.lt k hk).1
      have e2 : k = w.heap.size + 1 + 1 := by simpa using e
      omega)
  refine ⟨.slice a8 (nlen BW R.2) c8, by rw [← HRR.out], ?_, hb⟩
  rw [← HRR.out]
  exact own.base_le (by omega)

set_option maxHeartbeats 1000000 in
theorem implBits_2 (na nb : Bool) (ax ay : Option Addr) (nx cx ny cy : Nat) (fx fy : Nat → Nat) (hfx : ∀ i, i < nx → fx i < BW) (hfy : ∀ i, i < ny → fy i < BW) (w : World) (hxc : nx ≤ cx) (hyc : ny ≤ cy) (hxm : nx ≤ 200000000) (hym : ny ≤ 200000000)
    (hrx : Reads w .u64 ax nx fx) (hry : Reads w .u64 ay ny fy) (hone : One w) :
    Calls Tryd.prog 23 #[.int .i64 2, .agg #[.bool na, .slice ax nx cx], .agg #[.bool nb, .slice ay ny cy]] w (BitsPost 2 (sgn na (val BW fx nx)) (val BW fx nx) (sgn nb (val BW fy ny)) (val BW fy ny) w) := by
  obtain ⟨W1, HW1⟩ : ∃ W, Hid (W = w.alloc (.cells #[.bool na, .slice ax nx cx] 24)) := ⟨_, Lib.hid rfl⟩
  obtain ⟨W2, HW2⟩ : ∃ W, Hid (W = W1.alloc (.cells #[.bool nb, .slice ay ny cy] 24)) := ⟨_, Lib.hid rfl⟩
  obtain ⟨W3, HW3⟩ : ∃ W, Hid (W = W2.alloc (.cells #[.bool false, .slice none 0 0] 24)) := ⟨_, Lib.hid rfl⟩
  obtain ⟨W4, HW4⟩ : ∃ W, Hid (W = W3.alloc (.cells #[.bool false, .slice none 0 0] 72)) := ⟨_, Lib.hid rfl⟩
  have s1 : W1.heap.size = w.heap.size + 1 := by rw [HW1.out]; simp
  have s2 : W2.heap.size = w.heap.size + 1 + 1 := by rw [HW2.out]; simp [s1]
  have s3 : W3.heap.size = w.heap.size + 1 + 1 + 1 := by rw [HW3.out]; simp [s2]
  have s4 : W4.heap.size = w.heap.size + 4 := by rw [HW4.out]; simp [s3]
  have b1 : Below w.heap.size w W1 := by rw [HW1.out]; exact (Below.refl _ w).alloc (Nat.le_refl _) _
  have b2 : Below w.heap.size w W2 := by rw [HW2.out]; exact b1.alloc b1.size _
  have b3 : Below w.heap.size w W3 := by rw [HW3.out]; exact b2.alloc b2.size _
  have b4 : Below w.heap.size w W4 := by rw [HW4.out]; exact b3.alloc b3.size _
  have hpx : Pair W4 w.heap.size 24 (.bool na) (.slice ax nx cx) := by rw [HW4.out, HW3.out, HW2.out, HW1.out]; exact (((Pair.new w _ _ _).alloc _).alloc _).alloc _
  have hpy : Pair W4 (w.heap.size + 1) 24 (.bool nb) (.slice ay ny cy) := by rw [HW4.out, HW3.out, HW2.out, ← s1]; exact ((Pair.new W1 _ _ _).alloc _).alloc _
  have hres : Pair W4 (w.heap.size + 1 + 1) 24 (.bool false) (.slice none 0 0) := by rw [HW4.out, HW3.out, ← s2]; exact (Pair.new W2 _ _ _).alloc _
  have hz : Pair W4 (w.heap.size + 1 + 1 + 1) 72 (.bool false) (.slice none 0 0) := by rw [HW4.out, ← s3]; exact Pair.new W3 _ _ _
  have HS := Lib.hid (keepTwo hpx hpy)
  have OX := Lib.hid (fun u (h : Below W4.heap.size W4 u) => of_new na ax nx cx fx hfx u hxc (by omega) ((hrx.below b4).below h))
  have OY := Lib.hid (fun u (h : Below W4.heap.size W4 u) => of_new nb ay ny cy fy hfy u hyc (by omega) ((hry.below b4).below h))
  have hVn : nlen BW (val BW fx nx) ≤ nx := by rw [nlen_le_iff BW_one]; exact val_lt fun i hi => hfx i hi
  have hUn : nlen BW (val BW fy ny) ≤ ny := by rw [nlen_le_iff BW_one]; exact val_lt fun i hi => hfy i hi
  have hsx := sgn_pos na (val BW fx nx)
  have hsy := sgn_pos nb (val BW fy ny)
  obtain ⟨V, hV⟩ : ∃ V, V = val BW fx nx := ⟨_, rfl⟩
  obtain ⟨U, hU⟩ : ∃ U, U = val BW fy ny := ⟨_, rfl⟩
  rw [← hV] at OX hVn hsx ⊢
  rw [← hU] at OY hUn hsy ⊢
  obtain ⟨sx, hsx'⟩ : ∃ s, s = sgn na V := ⟨_, rfl⟩
  obtain ⟨sy, hsy'⟩ : ∃ s, s = sgn nb U := ⟨_, rfl⟩
  rw [← hsx'] at OX hsx ⊢
  rw [← hsy'] at OY hsy ⊢
  have HP := Lib.hid (And.intro hsx (And.intro hsy (And.intro (show nlen BW V ≤ 2000000000 by omega) (show nlen BW U ≤ 2000000000 by omega))))
  have hRn := opR_nlen 2 sx V sy U
  have HRn := Lib.hid (And.intro (show nlen BW (opR 2 sx V sy U).2 ≤ 2147483647 by omega) (opR_pos 2 sx V sy U))
  have HO := Lib.hid (hone.below b4)
  have HZ := Lib.hid hz
  have HB := Lib.hid (And.intro b4 (And.intro hres s4))
  have HL := Lib.hid (show w.heap.size + 1 + 1 + 1 < W4.heap.size ∧ w.heap.size ≠ w.heap.size + 1 + 1 + 1 ∧ w.heap.size + 1 ≠ w.heap.size + 1 + 1 + 1 from ⟨by omega, by omega, by omega⟩)
  have d4 : Below W4.heap.size W4 W4 := Below.refl _ W4
  have d0 : Below W4.heap.size W4 W4.drew := ⟨rfl, rfl, rfl, Nat.le_refl _, fun _ _ => rfl⟩
  have k0 := HS.out _ d4
  obtain ⟨c0, c1, c2, c3⟩ := k0
  have k0 := HS.out _ d4
  clear b1 b2 b3 b4 s1 s2 s3 s4 hpx hpy hres hz hrx hry hone hfx hfy hVn hUn hsx hsy hV hU hsx' hsy' hRn
  go_enter Tryd.func23, Tryd.ntmps23
  go_wp2_with fail
  rw [← HW1.out, ← HW2.out, ← HW3.out, ← HW4.out]
  go_region_held3 (fun u => u.cell? ⟨w.heap.size, 0, none⟩ = some (.bool na) ∧ u.cell? ⟨w.heap.size, 1, none⟩ = some (.slice ax nx cx) ∧ u.cell? ⟨w.heap.size + 1, 0, none⟩ = some (.bool nb) ∧ u.cell? ⟨w.heap.size + 1, 1, none⟩ = some (.slice ay ny cy)) (first | exact k0 | exact k5 | exact k6 | exact k7) (first
    | (go_simp; go_at_call 28; (with_reducible refine (OX.out _ d0).mono ?_); rintro e w5 ⟨p5, rfl, i5, b5⟩; have d5 := below_trans d0 b5; have k5 := HS.out _ d5; go_wp2_with fail)
    | (go_simp; go_at_call 28; (with_reducible refine (OY.out _ d5).mono ?_); rintro e w6 ⟨p6, rfl, i6, b6⟩; have d6 := below_trans d5 b6; have k6 := HS.out _ d6; go_wp2_with fail)
    | (go_simp; go_at_call 49; refine (intXor_any (w.heap.size + 1 + 1 + 1) p5 p6 _ _ V U sx sy w6 HP.out.1 HP.out.2.1 HP.out.2.2.1 HP.out.2.2.2 (HZ.out.below d6 HZ.out.lt) (i5.below b6) i6 (HO.out.below d6)).mono ?_; rintro e w7 ⟨rfl, i7, g7⟩; have k7 := keepBox HS.out d6 g7 HL.out; go_wp2_with fail))
  have G7 := Lib.hid (And.intro i7 (And.intro d6 g7))
  clear i5 i6 i7 k0 k5 k6 k7 g7 d5 d6 d0 b5 b6 c0 c1 c2 c3
  obtain ⟨R, hR⟩ : ∃ R, R = opR 2 sx V sy U := ⟨_, rfl⟩
  rw [← hR] at G7 HRn
  have KT := Lib.hid (told_new (w.heap.size + 1 + 1 + 1) _ R.1 R.2 w7 HRn.out.2 HRn.out.1 G7.out.1)
  have HRR := Lib.hid hR
  clear hR
  go_wp2_with fail
  refine KT.out.mono ?_
  rintro e w8 ⟨x8, rfl, ⟨v8, rfl, own8⟩, b8⟩
  obtain ⟨a8, c8, rfl, hle8, hcm8, hrd8, hlt8⟩ := own8.parts
  have res7 : Pair w7 (w.heap.size + 1 + 1) 24 (.bool false) (.slice none 0 0) := (HB.out.2.1.below G7.out.2.1 HB.out.2.1.lt).grown G7.out.2.2 (by simp)
  have res8 := res7.below b8 res7.lt
  have r0 := res8.cell0
  have r1 := res8.cell1
  have f0 := res8.free 0
  have f1 := res8.free 1
  have hb8 : Below w.heap.size w w8 := ((HB.out.1.trans (G7.out.2.1.mono HB.out.1.size)).grown G7.out.2.2 (Nat.le_trans HB.out.1.size G7.out.2.1.size) (fun k hk => by cases hk; omega)).trans (b8.mono (Nat.le_trans (Nat.le_trans HB.out.1.size G7.out.2.1.size) G7.out.2.2.size))
  have hs7 : w.heap.size + 4 ≤ w7.heap.size := by have h1 := HB.out.2.2; have h2 := G7.out.2.1.size; have h3 := G7.out.2.2.size; omega
  have HH := Lib.hid (And.intro own8 (And.intro hb8 hs7))
  clear own8 hb8 hs7 hrd8 hlt8 res7 res8 b8 KT
  go_wp2_with fail
  refine bodyPost_ret (v := .agg #[.bool R.1, .slice a8 (nlen BW R.2) c8]) (by simp [results, Tryd.results23, go_sem, r0, r1, f0, f1]) rfl ?_
  obtain ⟨h1, h2, h3⟩ := HH.out
  have hle1 : w.heap.size ≤ w.heap.size + 1 + 1 := by omega
  have hb := (h2.setCell (p := ⟨w.heap.size + 1 + 1, 0, none⟩) hle1 (.bool R.1)).setCell (p := ⟨w.heap.size + 1 + 1, 1, none⟩) hle1 (.slice a8 (nlen BW R.2) c8)
  have own := h1.kept (grown_trans (grown_setCell w8 ⟨w.heap.size + 1 + 1, 0, none⟩ (.bool R.1)) (grown_setCell _ ⟨w.heap.size + 1 + 1, 1, none⟩ (.slice a8 (nlen BW R.2) c8))) (by
    cases hk : (Value.slice a8 (nlen BW R.2) c8).ownBlock with
    | none => exact .inl rfl
    | some k =>
      refine .inr fun e => ?_
      have := (h1.lt k hk).1
      have e2 : k = w.heap.size + 1 + 1 := by simpa using e
      omega)
  refine ⟨.slice a8 (nlen BW R.2) c8, by rw [← HRR.out], ?_, hb⟩
  rw [← HRR.out]
  exact own.base_le (by omega)

set_option maxHeartbeats 1000000 in
theorem implBits_3 (na nb : Bool) (ax ay : Option Addr) (nx cx ny cy : Nat) (fx fy : Nat → Nat) (hfx : ∀ i, i < nx → fx i < BW) (hfy : ∀ i, i < ny → fy i < BW) (w : World) (hxc : nx ≤ cx) (hyc : ny ≤ cy) (hxm : nx ≤ 200000000) (hym : ny ≤ 200000000)
    (hrx : Reads w .u64 ax nx fx) (hry : Reads w .u64 ay ny fy) (hone : One w) :
    Calls Tryd.prog 23 #[.int .i64 3, .agg #[.bool na, .slice ax nx cx], .agg #[.bool nb, .slice ay ny cy]] w (BitsPost 3 (sgn na (val BW fx nx)) (val BW fx nx) (sgn nb (val BW fy ny)) (val BW fy ny) w) := by
  obtain ⟨W1, HW1⟩ : ∃ W, Hid (W = w.alloc (.cells #[.bool na, .slice ax nx cx] 24)) := ⟨_, Lib.hid rfl⟩
  obtain ⟨W2, HW2⟩ : ∃ W, Hid (W = W1.alloc (.cells #[.bool nb, .slice ay ny cy] 24)) := ⟨_, Lib.hid rfl⟩
  obtain ⟨W3, HW3⟩ : ∃ W, Hid (W = W2.alloc (.cells #[.bool false, .slice none 0 0] 24)) := ⟨_, Lib.hid rfl⟩
  obtain ⟨W4, HW4⟩ : ∃ W, Hid (W = W3.alloc (.cells #[.bool false, .slice none 0 0] 72)) := ⟨_, Lib.hid rfl⟩
  have s1 : W1.heap.size = w.heap.size + 1 := by rw [HW1.out]; simp
  have s2 : W2.heap.size = w.heap.size + 1 + 1 := by rw [HW2.out]; simp [s1]
  have s3 : W3.heap.size = w.heap.size + 1 + 1 + 1 := by rw [HW3.out]; simp [s2]
  have s4 : W4.heap.size = w.heap.size + 4 := by rw [HW4.out]; simp [s3]
  have b1 : Below w.heap.size w W1 := by rw [HW1.out]; exact (Below.refl _ w).alloc (Nat.le_refl _) _
  have b2 : Below w.heap.size w W2 := by rw [HW2.out]; exact b1.alloc b1.size _
  have b3 : Below w.heap.size w W3 := by rw [HW3.out]; exact b2.alloc b2.size _
  have b4 : Below w.heap.size w W4 := by rw [HW4.out]; exact b3.alloc b3.size _
  have hpx : Pair W4 w.heap.size 24 (.bool na) (.slice ax nx cx) := by rw [HW4.out, HW3.out, HW2.out, HW1.out]; exact (((Pair.new w _ _ _).alloc _).alloc _).alloc _
  have hpy : Pair W4 (w.heap.size + 1) 24 (.bool nb) (.slice ay ny cy) := by rw [HW4.out, HW3.out, HW2.out, ← s1]; exact ((Pair.new W1 _ _ _).alloc _).alloc _
  have hres : Pair W4 (w.heap.size + 1 + 1) 24 (.bool false) (.slice none 0 0) := by rw [HW4.out, HW3.out, ← s2]; exact (Pair.new W2 _ _ _).alloc _
  have hz : Pair W4 (w.heap.size + 1 + 1 + 1) 72 (.bool false) (.slice none 0 0) := by rw [HW4.out, ← s3]; exact Pair.new W3 _ _ _
  have HS := Lib.hid (keepTwo hpx hpy)
  have OX := Lib.hid (fun u (h : Below W4.heap.size W4 u) => of_new na ax nx cx fx hfx u hxc (by omega) ((hrx.below b4).below h))
  have OY := Lib.hid (fun u (h : Below W4.heap.size W4 u) => of_new nb ay ny cy fy hfy u hyc (by omega) ((hry.below b4).below h))
  have hVn : nlen BW (val BW fx nx) ≤ nx := by rw [nlen_le_iff BW_one]; exact val_lt fun i hi => hfx i hi
  have hUn : nlen BW (val BW fy ny) ≤ ny := by rw [nlen_le_iff BW_one]; exact val_lt fun i hi => hfy i hi
  have hsx := sgn_pos na (val BW fx nx)
  have hsy := sgn_pos nb (val BW fy ny)
  obtain ⟨V, hV⟩ : ∃ V, V = val BW fx nx := ⟨_, rfl⟩
  obtain ⟨U, hU⟩ : ∃ U, U = val BW fy ny := ⟨_, rfl⟩
  rw [← hV] at OX hVn hsx ⊢
  rw [← hU] at OY hUn hsy ⊢
  obtain ⟨sx, hsx'⟩ : ∃ s, s = sgn na V := ⟨_, rfl⟩
  obtain ⟨sy, hsy'⟩ : ∃ s, s = sgn nb U := ⟨_, rfl⟩
  rw [← hsx'] at OX hsx ⊢
  rw [← hsy'] at OY hsy ⊢
  have HP := Lib.hid (And.intro hsx (And.intro hsy (And.intro (show nlen BW V ≤ 2000000000 by omega) (show nlen BW U ≤ 2000000000 by omega))))
  have hRn := opR_nlen 3 sx V sy U
  have HRn := Lib.hid (And.intro (show nlen BW (opR 3 sx V sy U).2 ≤ 2147483647 by omega) (opR_pos 3 sx V sy U))
  have HO := Lib.hid (hone.below b4)
  have HZ := Lib.hid hz
  have HB := Lib.hid (And.intro b4 (And.intro hres s4))
  have HL := Lib.hid (show w.heap.size + 1 + 1 + 1 < W4.heap.size ∧ w.heap.size ≠ w.heap.size + 1 + 1 + 1 ∧ w.heap.size + 1 ≠ w.heap.size + 1 + 1 + 1 from ⟨by omega, by omega, by omega⟩)
  have d4 : Below W4.heap.size W4 W4 := Below.refl _ W4
  have d0 : Below W4.heap.size W4 W4.drew := ⟨rfl, rfl, rfl, Nat.le_refl _, fun _ _ => rfl⟩
  have k0 := HS.out _ d4
  obtain ⟨c0, c1, c2, c3⟩ := k0
  have k0 := HS.out _ d4
  clear b1 b2 b3 b4 s1 s2 s3 s4 hpx hpy hres hz hrx hry hone hfx hfy hVn hUn hsx hsy hV hU hsx' hsy' hRn
  go_enter Tryd.func23, Tryd.ntmps23
  go_wp2_with fail
  rw [← HW1.out, ← HW2.out, ← HW3.out, ← HW4.out]
  go_region_held3 (fun u => u.cell? ⟨w.heap.size, 0, none⟩ = some (.bool na) ∧ u.cell? ⟨w.heap.size, 1, none⟩ = some (.slice ax nx cx) ∧ u.cell? ⟨w.heap.size + 1, 0, none⟩ = some (.bool nb) ∧ u.cell? ⟨w.heap.size + 1, 1, none⟩ = some (.slice ay ny cy)) (first | exact k0 | exact k5 | exact k6 | exact k7) (first
    | (go_simp; go_at_call 28; (with_reducible refine (OX.out _ d0).mono ?_); rintro e w5 ⟨p5, rfl, i5, b5⟩; have d5 := below_trans d0 b5; have k5 := HS.out _ d5; go_wp2_with fail)
    | (go_simp; go_at_call 28; (with_reducible refine (OY.out _ d5).mono ?_); rintro e w6 ⟨p6, rfl, i6, b6⟩; have d6 := below_trans d5 b6; have k6 := HS.out _ d6; go_wp2_with fail)
    | (go_simp; go_at_call 50; refine (intAndNot_any (w.heap.size + 1 + 1 + 1) p5 p6 _ _ V U sx sy w6 HP.out.1 HP.out.2.1 HP.out.2.2.1 HP.out.2.2.2 (HZ.out.below d6 HZ.out.lt) (i5.below b6) i6 (HO.out.below d6)).mono ?_; rintro e w7 ⟨rfl, i7, g7⟩; have k7 := keepBox HS.out d6 g7 HL.out; go_wp2_with fail))
  have G7 := Lib.hid (And.intro i7 (And.intro d6 g7))
  clear i5 i6 i7 k0 k5 k6 k7 g7 d5 d6 d0 b5 b6 c0 c1 c2 c3
  obtain ⟨R, hR⟩ : ∃ R, R = opR 3 sx V sy U := ⟨_, rfl⟩
  rw [← hR] at G7 HRn
  have KT := Lib.hid (told_new (w.heap.size + 1 + 1 + 1) _ R.1 R.2 w7 HRn.out.2 HRn.out.1 G7.out.1)
  have HRR := Lib.hid hR
  clear hR
  go_wp2_with fail
  refine KT.out.mono ?_
  rintro e w8 ⟨x8, rfl, ⟨v8, rfl, own8⟩, b8⟩
  obtain ⟨a8, c8, rfl, hle8, hcm8, hrd8, hlt8⟩ := own8.parts
  have res7 : Pair w7 (w.heap.size + 1 + 1) 24 (.bool false) (.slice none 0 0) := (HB.out.2.1.below G7.out.2.1 HB.out.2.1.lt).grown G7.out.2.2 (by simp)
  have res8 := res7.below b8 res7.lt
  have r0 := res8.cell0
  have r1 := res8.cell1
  have f0 := res8.free 0
  have f1 := res8.free 1
  have hb8 : Below w.heap.size w w8 := ((HB.out.1.trans (G7.out.2.1.mono HB.out.1.size)).grown G7.out.2.2 (Nat.le_trans HB.out.1.size G7.out.2.1.size) (fun k hk => by cases hk; omega)).trans (b8.mono (Nat.le_trans (Nat.le_trans HB.out.1.size G7.out.2.1.size) G7.out.2.2.size))
  have hs7 : w.heap.size + 4 ≤ w7.heap.size := by have h1 := HB.out.2.2; have h2 := G7.out.2.1.size; have h3 := G7.out.2.2.size; omega
  have HH := Lib.hid (And.intro own8 (And.intro hb8 hs7))
  clear own8 hb8 hs7 hrd8 hlt8 res7 res8 b8 KT
  go_wp2_with fail
  refine bodyPost_ret (v := .agg #[.bool R.1, .slice a8 (nlen BW R.2) c8]) (by simp [results, Tryd.results23, go_sem, r0, r1, f0, f1]) rfl ?_
  obtain ⟨h1, h2, h3⟩ := HH.out
  have hle1 : w.heap.size ≤ w.heap.size + 1 + 1 := by omega
  have hb := (h2.setCell (p := ⟨w.heap.size + 1 + 1, 0, none⟩) hle1 (.bool R.1)).setCell (p := ⟨w.heap.size + 1 + 1, 1, none⟩) hle1 (.slice a8 (nlen BW R.2) c8)
  have own := h1.kept (grown_trans (grown_setCell w8 ⟨w.heap.size + 1 + 1, 0, none⟩ (.bool R.1)) (grown_setCell _ ⟨w.heap.size + 1 + 1, 1, none⟩ (.slice a8 (nlen BW R.2) c8))) (by
    cases hk : (Value.slice a8 (nlen BW R.2) c8).ownBlock with
    | none => exact .inl rfl
    | some k =>
      refine .inr fun e => ?_
      have := (h1.lt k hk).1
      have e2 : k = w.heap.size + 1 + 1 := by simpa using e
      omega)
  refine ⟨.slice a8 (nlen BW R.2) c8, by rw [← HRR.out], ?_, hb⟩
  rw [← HRR.out]
  exact own.base_le (by omega)

set_option maxHeartbeats 1000000 in
theorem implBits_4 (na nb : Bool) (ax ay : Option Addr) (nx cx ny cy : Nat) (fx fy : Nat → Nat) (hfx : ∀ i, i < nx → fx i < BW) (hfy : ∀ i, i < ny → fy i < BW) (w : World) (hxc : nx ≤ cx) (hyc : ny ≤ cy) (hxm : nx ≤ 200000000) (hym : ny ≤ 200000000)
    (hrx : Reads w .u64 ax nx fx) (hry : Reads w .u64 ay ny fy) (hone : One w) :
    Calls Tryd.prog 23 #[.int .i64 4, .agg #[.bool na, .slice ax nx cx], .agg #[.bool nb, .slice ay ny cy]] w (BitsPost 4 (sgn na (val BW fx nx)) (val BW fx nx) (sgn nb (val BW fy ny)) (val BW fy ny) w) := by
  obtain ⟨W1, HW1⟩ : ∃ W, Hid (W = w.alloc (.cells #[.bool na, .slice ax nx cx] 24)) := ⟨_, Lib.hid rfl⟩
  obtain ⟨W2, HW2⟩ : ∃ W, Hid (W = W1.alloc (.cells #[.bool nb, .slice ay ny cy] 24)) := ⟨_, Lib.hid rfl⟩
  obtain ⟨W3, HW3⟩ : ∃ W, Hid (W = W2.alloc (.cells #[.bool false, .slice none 0 0] 24)) := ⟨_, Lib.hid rfl⟩
  obtain ⟨W4, HW4⟩ : ∃ W, Hid (W = W3.alloc (.cells #[.bool false, .slice none 0 0] 72)) := ⟨_, Lib.hid rfl⟩
  have s1 : W1.heap.size = w.heap.size + 1 := by rw [HW1.out]; simp
  have s2 : W2.heap.size = w.heap.size + 1 + 1 := by rw [HW2.out]; simp [s1]
  have s3 : W3.heap.size = w.heap.size + 1 + 1 + 1 := by rw [HW3.out]; simp [s2]
  have s4 : W4.heap.size = w.heap.size + 4 := by rw [HW4.out]; simp [s3]
  have b1 : Below w.heap.size w W1 := by rw [HW1.out]; exact (Below.refl _ w).alloc (Nat.le_refl _) _
  have b2 : Below w.heap.size w W2 := by rw [HW2.out]; exact b1.alloc b1.size _
  have b3 : Below w.heap.size w W3 := by rw [HW3.out]; exact b2.alloc b2.size _
  have b4 : Below w.heap.size w W4 := by rw [HW4.out]; exact b3.alloc b3.size _
  have hpx : Pair W4 w.heap.size 24 (.bool na) (.slice ax nx cx) := by rw [HW4.out, HW3.out, HW2.out, HW1.out]; exact (((Pair.new w _ _ _).alloc _).alloc _).alloc _
  have hpy : Pair W4 (w.heap.size + 1) 24 (.bool nb) (.slice ay ny cy) := by rw [HW4.out, HW3.out, HW2.out, ← s1]; exact ((Pair.new W1 _ _ _).alloc _).alloc _
  have hres : Pair W4 (w.heap.size + 1 + 1) 24 (.bool false) (.slice none 0 0) := by rw [HW4.out, HW3.out, ← s2]; exact (Pair.new W2 _ _ _).alloc _
  have hz : Pair W4 (w.heap.size + 1 + 1 + 1) 72 (.bool false) (.slice none 0 0) := by rw [HW4.out, ← s3]; exact Pair.new W3 _ _ _
  have HS := Lib.hid (keepTwo hpx hpy)
  have OX := Lib.hid (fun u (h : Below W4.heap.size W4 u) => of_new na ax nx cx fx hfx u hxc (by omega) ((hrx.below b4).below h))
  have OY := Lib.hid (fun u (h : Below W4.heap.size W4 u) => of_new nb ay ny cy fy hfy u hyc (by omega) ((hry.below b4).below h))
  have hVn : nlen BW (val BW fx nx) ≤ nx := by rw [nlen_le_iff BW_one]; exact val_lt fun i hi => hfx i hi
  have hUn : nlen BW (val BW fy ny) ≤ ny := by rw [nlen_le_iff BW_one]; exact val_lt fun i hi => hfy i hi
  have hsx := sgn_pos na (val BW fx nx)
  have hsy := sgn_pos nb (val BW fy ny)
  obtain ⟨V, hV⟩ : ∃ V, V = val BW fx nx := ⟨_, rfl⟩
  obtain ⟨U, hU⟩ : ∃ U, U = val BW fy ny := ⟨_, rfl⟩
  rw [← hV] at OX hVn hsx ⊢
  rw [← hU] at OY hUn hsy ⊢
  obtain ⟨sx, hsx'⟩ : ∃ s, s = sgn na V := ⟨_, rfl⟩
  obtain ⟨sy, hsy'⟩ : ∃ s, s = sgn nb U := ⟨_, rfl⟩
  rw [← hsx'] at OX hsx ⊢
  rw [← hsy'] at OY hsy ⊢
  have HP := Lib.hid (And.intro hsx (And.intro hsy (And.intro (show nlen BW V ≤ 2000000000 by omega) (show nlen BW U ≤ 2000000000 by omega))))
  have hRn := opR_nlen 4 sx V sy U
  have HRn := Lib.hid (And.intro (show nlen BW (opR 4 sx V sy U).2 ≤ 2147483647 by omega) (opR_pos 4 sx V sy U))
  have HO := Lib.hid (hone.below b4)
  have HZ := Lib.hid hz
  have HB := Lib.hid (And.intro b4 (And.intro hres s4))
  have HL := Lib.hid (show w.heap.size + 1 + 1 + 1 < W4.heap.size ∧ w.heap.size ≠ w.heap.size + 1 + 1 + 1 ∧ w.heap.size + 1 ≠ w.heap.size + 1 + 1 + 1 from ⟨by omega, by omega, by omega⟩)
  have d4 : Below W4.heap.size W4 W4 := Below.refl _ W4
  have d0 : Below W4.heap.size W4 W4.drew := ⟨rfl, rfl, rfl, Nat.le_refl _, fun _ _ => rfl⟩
  have k0 := HS.out _ d4
  obtain ⟨c0, c1, c2, c3⟩ := k0
  have k0 := HS.out _ d4
  clear b1 b2 b3 b4 s1 s2 s3 s4 hpx hpy hres hz hrx hry hone hfx hfy hVn hUn hsx hsy hV hU hsx' hsy' hRn
  go_enter Tryd.func23, Tryd.ntmps23
  go_wp2_with fail
  rw [← HW1.out, ← HW2.out, ← HW3.out, ← HW4.out]
  refine (OX.out _ d4).mono ?_
  rintro e w6 ⟨p6, rfl, i6, b6⟩
  have d6 := below_trans d4 b6
  clear c0 c1 c2 c3
  go_wp2_with fail
  refine (intNot_any (w.heap.size + 1 + 1 + 1) p6 _ V sx sy U w6 HP.out.1 HP.out.2.2.1 (HZ.out.below d6 HZ.out.lt) i6 (HO.out.below d6)).mono ?_
  rintro e w7 ⟨rfl, i7, g7⟩
  have G7 := Lib.hid (And.intro i7 (And.intro d6 g7))
  clear i6 i7 g7 d6 b6
  obtain ⟨R, hR⟩ : ∃ R, R = opR 4 sx V sy U := ⟨_, rfl⟩
  rw [← hR] at G7 HRn
  have KT := Lib.hid (told_new (w.heap.size + 1 + 1 + 1) _ R.1 R.2 w7 HRn.out.2 HRn.out.1 G7.out.1)
  have HRR := Lib.hid hR
  clear hR
  go_wp2_with fail
  refine KT.out.mono ?_
  rintro e w8 ⟨x8, rfl, ⟨v8, rfl, own8⟩, b8⟩
  obtain ⟨a8, c8, rfl, hle8, hcm8, hrd8, hlt8⟩ := own8.parts
  have res7 : Pair w7 (w.heap.size + 1 + 1) 24 (.bool false) (.slice none 0 0) := (HB.out.2.1.below G7.out.2.1 HB.out.2.1.lt).grown G7.out.2.2 (by simp)
  have res8 := res7.below b8 res7.lt
  have r0 := res8.cell0
  have r1 := res8.cell1
  have f0 := res8.free 0
  have f1 := res8.free 1
  have hb8 : Below w.heap.size w w8 := ((HB.out.1.trans (G7.out.2.1.mono HB.out.1.size)).grown G7.out.2.2 (Nat.le_trans HB.out.1.size G7.out.2.1.size) (fun k hk => by cases hk; omega)).trans (b8.mono (Nat.le_trans (Nat.le_trans HB.out.1.size G7.out.2.1.size) G7.out.2.2.size))
  have hs7 : w.heap.size + 4 ≤ w7.heap.size := by have h1 := HB.out.2.2; have h2 := G7.out.2.1.size; have h3 := G7.out.2.2.size; omega
  have HH := Lib.hid (And.intro own8 (And.intro hb8 hs7))
  clear own8 hb8 hs7 hrd8 hlt8 res7 res8 b8 KT
  go_wp2_with fail
  refine bodyPost_ret (v := .agg #[.bool R.1, .slice a8 (nlen BW R.2) c8]) (by simp [results, Tryd.results23, go_sem, r0, r1, f0, f1]) rfl ?_
  obtain ⟨h1, h2, h3⟩ := HH.out
  have hle1 : w.heap.size ≤ w.heap.size + 1 + 1 := by omega
  have hb := (h2.setCell (p := ⟨w.heap.size + 1 + 1, 0, none⟩) hle1 (.bool R.1)).setCell (p := ⟨w.heap.size + 1 + 1, 1, none⟩) hle1 (.slice a8 (nlen BW R.2) c8)
  have own := h1.kept (grown_trans (grown_setCell w8 ⟨w.heap.size + 1 + 1, 0, none⟩ (.bool R.1)) (grown_setCell _ ⟨w.heap.size + 1 + 1, 1, none⟩ (.slice a8 (nlen BW R.2) c8))) (by
    cases hk : (Value.slice a8 (nlen BW R.2) c8).ownBlock with
    | none => exact .inl rfl
    | some k =>
      refine .inr fun e => ?_
      have := (h1.lt k hk).1
      have e2 : k = w.heap.size + 1 + 1 := by simpa using e
      omega)
  refine ⟨.slice a8 (nlen BW R.2) c8, by rw [← HRR.out], ?_, hb⟩
  rw [← HRR.out]
  exact own.base_le (by omega)

end Go.Proofs.YtidifjmjbfhpaaaDoor
