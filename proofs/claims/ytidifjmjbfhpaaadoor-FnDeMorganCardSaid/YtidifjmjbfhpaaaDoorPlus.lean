/- spec.Plus: a sum of numbers with a sign. (Printed by plus.py.) -/
import Derived.Test.YtidifjmjbfhpaaaDoorSpecSums
import Derived.Test.YtidifjmjbfhpaaaDoorSpecSmall
import Derived.Test.YtidifjmjbfhpaaaDoorSpecBits
import Derived.Test.YtidifjmjbfhpaaaDoorOrders
namespace Go.Proofs.YtidifjmjbfhpaaaDoor
set_option linter.unusedVariables false
set_option maxRecDepth 20000
set_option linter.unusedSimpArgs false
open Go.RowKit

/-- The sum with its sign. -/
def plusR (a : Bool) (V : Nat) (b : Bool) (U : Nat) : Bool × Nat :=
  if a = b then (a && decide (V + U ≠ 0), V + U) else if U ≤ V then (a && decide (V - U ≠ 0), V - U) else (b && decide (U - V ≠ 0), U - V)

def PlusPost (s : Bool) (R : Nat) (w : World) (e : Ending) (w' : World) : Prop :=
  ∃ v, e = .returned (.agg #[.bool s, v]) ∧ Own w' w.heap.size 3 .i64 v (nlen 65536 R) (dig 65536 R) ∧ Below w.heap.size w w'

theorem keepInts {W : World} {p q : Nat} {a b c d : Value} (h1 : Pair W p 29 a b) (h2 : Pair W q 29 c d) : ∀ u, Below W.heap.size W u → u.cell? ⟨p, 0, none⟩ = some a ∧ u.cell? ⟨p, 1, none⟩ = some b ∧ u.cell? ⟨q, 0, none⟩ = some c ∧ u.cell? ⟨q, 1, none⟩ = some d := fun u hu =>
  ⟨(h1.below hu h1.lt).cell0, (h1.below hu h1.lt).cell1, (h2.below hu h2.lt).cell0, (h2.below hu h2.lt).cell1⟩

set_option maxHeartbeats 1000000 in
theorem specPlus_add (a b s : Bool) (aa ab : Option Addr) (V U R ca cb : Nat) (w : World) (hab : a = b) (hR : R = V + U) (hs : (a && decide (R ≠ 0)) = s) (ha : nlen 65536 V ≤ ca) (hb : nlen 65536 U ≤ cb) (hna : nlen 65536 V ≤ 1000000000000) (hnb : nlen 65536 U ≤ 1000000000000)
    (hrda : Reads w .i64 aa (nlen 65536 V) (dig 65536 V)) (hrdb : Reads w .i64 ab (nlen 65536 U) (dig 65536 U)) :
    Calls Tryd.prog 24 #[.agg #[.bool a, .slice aa (nlen 65536 V) ca], .agg #[.bool b, .slice ab (nlen 65536 U) cb]] w (PlusPost s R w) := by
  obtain ⟨W1, HW1⟩ : ∃ W, Hid (W = w.alloc (.cells #[.bool a, .slice aa (nlen 65536 V) ca] 29)) := ⟨_, Lib.hid rfl⟩
  obtain ⟨W2, HW2⟩ : ∃ W, Hid (W = W1.alloc (.cells #[.bool b, .slice ab (nlen 65536 U) cb] 29)) := ⟨_, Lib.hid rfl⟩
  obtain ⟨W3, HW3⟩ : ∃ W, Hid (W = W2.alloc (.cells #[.bool false, .slice none 0 0] 29)) := ⟨_, Lib.hid rfl⟩
  have s1 : W1.heap.size = w.heap.size + 1 := by rw [HW1.out]; simp
  have s2 : W2.heap.size = w.heap.size + 1 + 1 := by rw [HW2.out]; simp [s1]
  have s3 : W3.heap.size = w.heap.size + 3 := by rw [HW3.out]; simp [s2]
  have b1 : Below w.heap.size w W1 := by rw [HW1.out]; exact (Below.refl _ w).alloc (Nat.le_refl _) _
  have b2 : Below w.heap.size w W2 := by rw [HW2.out]; exact b1.alloc b1.size _
  have b3 : Below w.heap.size w W3 := by rw [HW3.out]; exact b2.alloc b2.size _
  have hpx : Pair W3 w.heap.size 29 (.bool a) (.slice aa (nlen 65536 V) ca) := by rw [HW3.out, HW2.out, HW1.out]; exact ((Pair.new w _ _ _).alloc _).alloc _
  have hpy : Pair W3 (w.heap.size + 1) 29 (.bool b) (.slice ab (nlen 65536 U) cb) := by rw [HW3.out, HW2.out, ← s1]; exact (Pair.new W1 _ _ _).alloc _
  have hres : Pair W3 (w.heap.size + 1 + 1) 29 (.bool false) (.slice none 0 0) := by rw [HW3.out, ← s2]; exact Pair.new W2 _ _ _
  have HS := Lib.hid (keepInts hpx hpy)
  have HR := Lib.hid hres
  have B4 := Lib.hid (And.intro b3 s3)
  have HRS := Lib.hid hs
  have ra := hrda.below b3
  have rb := hrdb.below b3
  clear s1 s2 s3 b1 b2 b3 hpx hpy hres hrda hrdb hs
  subst hab
  have KA := Lib.hid (show Calls Tryd.prog 36 #[.slice aa (nlen 65536 V) ca, .slice ab (nlen 65536 U) cb] W3.drew (fun e w' => ∃ v, e = .returned v ∧ Own w' W3.heap.size 3 .i64 v (nlen 65536 R) (dig 65536 R) ∧ Below W3.drew.heap.size W3.drew w') from by rw [hR]; exact specAdd_any aa ab V U ca cb W3.drew ha hb hna hnb ra rb)
  clear hR
  obtain ⟨n, hn⟩ : ∃ n, n = nlen 65536 V := ⟨_, rfl⟩
  obtain ⟨m, hm⟩ : ∃ m, m = nlen 65536 U := ⟨_, rfl⟩
  rw [← hn] at HS HW1 ⊢
  rw [← hm] at HS HW2 ⊢
  rw [← hn, ← hm] at KA
  clear hn hm ra rb ha hb hna hnb
  have d0 : Below W3.heap.size W3 W3 := Below.refl _ W3
  have k0 := HS.out _ d0
  obtain ⟨c0, c1, c2, c3⟩ := k0
  have k0 := HS.out _ d0
  have D0 := Lib.hid (show Below W3.heap.size W3 W3.drew from ⟨rfl, rfl, rfl, Nat.le_refl _, fun _ _ => rfl⟩)
  go_enter Tryd.func24, Tryd.ntmps24
  go_wp2_with fail
  rw [← HW1.out, ← HW2.out, ← HW3.out]
  refine region_until (fun u => u.cell? ⟨w.heap.size, 0, none⟩ = some (.bool a) ∧ u.cell? ⟨w.heap.size, 1, none⟩ = some (.slice aa n ca) ∧ u.cell? ⟨w.heap.size + 1, 0, none⟩ = some (.bool a) ∧ u.cell? ⟨w.heap.size + 1, 1, none⟩ = some (.slice ab m cb)) 8 (by kernel_rfl) k0 ?_
  refine until_take 0 [8] rfl rfl (by kernel_rfl) (by kernel_rfl) (by kernel_rfl) (by kernel_rfl) (fun _ _ _ h => h) (v := .pointer (some ⟨w.heap.size, 0, none⟩)) (.inl ⟨by rfl, ?_⟩) k0 ?_
  · rintro w' ⟨h1, h2, h3, h4⟩; go_simp
  simp only [Act.put, List.setIfInBounds_toArray, List.set_cons_zero, List.set_cons_succ]
  refine until_take 1 [8] rfl rfl (by kernel_rfl) (by kernel_rfl) (by kernel_rfl) (by kernel_rfl) (fun _ _ _ h => h) (v := .bool a) (.inl ⟨by rfl, ?_⟩) k0 ?_
  · rintro w' ⟨h1, h2, h3, h4⟩; go_simp
  simp only [Act.put, List.setIfInBounds_toArray, List.set_cons_zero, List.set_cons_succ]
  refine until_take 2 [8] rfl rfl (by kernel_rfl) (by kernel_rfl) (by kernel_rfl) (by kernel_rfl) (fun _ _ _ h => h) (v := .pointer (some ⟨w.heap.size, 1, none⟩)) (.inl ⟨by rfl, ?_⟩) k0 ?_
  · rintro w' ⟨h1, h2, h3, h4⟩; go_simp
  simp only [Act.put, List.setIfInBounds_toArray, List.set_cons_zero, List.set_cons_succ]
  refine until_take 3 [8] rfl rfl (by kernel_rfl) (by kernel_rfl) (by kernel_rfl) (by kernel_rfl) (fun _ _ _ h => h) (v := .slice aa n ca) (.inl ⟨by rfl, ?_⟩) k0 ?_
  · rintro w' ⟨h1, h2, h3, h4⟩; go_simp
  simp only [Act.put, List.setIfInBounds_toArray, List.set_cons_zero, List.set_cons_succ]
  refine until_take 4 [8] rfl rfl (by kernel_rfl) (by kernel_rfl) (by kernel_rfl) (by kernel_rfl) (fun _ _ _ h => h) (v := .pointer (some ⟨w.heap.size + 1, 1, none⟩)) (.inl ⟨by rfl, ?_⟩) k0 ?_
  · rintro w' ⟨h1, h2, h3, h4⟩; go_simp
  simp only [Act.put, List.setIfInBounds_toArray, List.set_cons_zero, List.set_cons_succ]
  refine until_take 5 [8] rfl rfl (by kernel_rfl) (by kernel_rfl) (by kernel_rfl) (by kernel_rfl) (fun _ _ _ h => h) (v := .slice ab m cb) (.inl ⟨by rfl, ?_⟩) k0 ?_
  · rintro w' ⟨h1, h2, h3, h4⟩; go_simp
  simp only [Act.put, List.setIfInBounds_toArray, List.set_cons_zero, List.set_cons_succ]
  refine until_one (j := 6) (by kernel_rfl) rfl (fun K hK => ?_)
  go_simp
  go_at_call 36
  refine KA.out.mono ?_
  rintro e w5 ⟨v5, rfl, own5, b5⟩
  obtain ⟨N, hN⟩ : ∃ N, Hid (N = nlen 65536 R) := ⟨_, Lib.hid rfl⟩
  rw [← hN.out] at own5
  obtain ⟨a5, c5, rfl, hle5, hcm5, hrd5, hlt5⟩ := own5.parts
  have d5 := D0.out.trans (b5.mono D0.out.size)
  refine hK.out _ _ (fun _ => HS.out _ d5) ?_
  clear hK K KA hrd5 hlt5
  obtain ⟨z, hz⟩ : ∃ z, Hid (z = decide (N ≠ 0)) := ⟨_, Lib.hid rfl⟩
  have KS := Lib.hid (specSign_any a a5 N c5 w5)
  rw [← hz.out] at KS
  refine until_one (j := 7) (by kernel_rfl) rfl (fun K hK => ?_)
  go_simp
  go_at_call 37
  refine KS.out.mono ?_
  rintro e w6 ⟨rfl, b6⟩
  have d6 := d5.trans (b6.mono d5.size)
  refine hK.out _ _ (fun _ => HS.out _ d6) ?_
  clear hK K KS
  have own6 := own5.below b6 (fun k hk => (own5.lt k hk).2)
  have res6 := HR.out.below d6 HR.out.lt
  have r0 := res6.cell0
  have r1 := res6.cell1
  have f0 := res6.free 0
  have f1 := res6.free 1
  have hb6 : Below w.heap.size w w6 := B4.out.1.trans (d6.mono B4.out.1.size)
  have hs5 : w.heap.size + 3 ≤ W3.heap.size := by rw [B4.out.2]; exact Nat.le_refl _
  have hd0 := D0.out.size
  have HH := Lib.hid (And.intro own6 (And.intro hb6 (And.intro hN.out hs5)))
  clear own5 own6 res6 hb6 hN b5 b6 d5 d6 hs5 hd0
  refine until_one (j := 8) (by kernel_rfl) rfl (fun K hK => ?_)
  go_simp
  refine hK.out _ _ (fun h => absurd rfl h) ?_
  refine until_done (by kernel_rfl) ?_ _
  clear hK K
  go_wp2_with fail
  refine bodyPost_ret (v := .agg #[.bool (a && z), .slice a5 N c5]) (by simp [results, Tryd.results24, go_sem, r0, r1, f0, f1]) rfl ?_
  obtain ⟨h1, h2, h3, h4⟩ := HH.out
  have hle1 : w.heap.size ≤ w.heap.size + 1 + 1 := by omega
  have hb := (h2.setCell (p := ⟨w.heap.size + 1 + 1, 0, none⟩) hle1 (.bool (a && z))).setCell (p := ⟨w.heap.size + 1 + 1, 1, none⟩) hle1 (.slice a5 N c5)
  have own := h1.kept (grown_trans (grown_setCell w6 ⟨w.heap.size + 1 + 1, 0, none⟩ (.bool (a && z))) (grown_setCell _ ⟨w.heap.size + 1 + 1, 1, none⟩ (.slice a5 N c5))) (by
    cases hk : (Value.slice a5 N c5).ownBlock with
    | none => exact .inl rfl
    | some k =>
      refine .inr fun e => ?_
      have := (h1.lt k hk).1
      have e2 : k = w.heap.size + 1 + 1 := by simpa using e
      omega)
  have hz2 : z = decide (R ≠ 0) := by
    rw [hz.out]
    have := nlen_eq_zero (B := 65536) (by omega) R
    rw [← h3] at this
    simp only [decide_eq_decide]
    omega
  refine ⟨.slice a5 N c5, by rw [hz2, HRS.out], ?_, hb⟩
  rw [← h3]
  exact own.base_le (by omega)

set_option maxHeartbeats 1000000 in
theorem specPlus_sub (a b s : Bool) (aa ab : Option Addr) (V U R ca cb : Nat) (w : World) (hab : a ≠ b) (hUV : U ≤ V) (hR : R = V - U) (hs : (a && decide (R ≠ 0)) = s) (ha : nlen 65536 V ≤ ca) (hb : nlen 65536 U ≤ cb) (hna : nlen 65536 V ≤ 1000000000000) (hnb : nlen 65536 U ≤ 1000000000000)
    (hrda : Reads w .i64 aa (nlen 65536 V) (dig 65536 V)) (hrdb : Reads w .i64 ab (nlen 65536 U) (dig 65536 U)) :
    Calls Tryd.prog 24 #[.agg #[.bool a, .slice aa (nlen 65536 V) ca], .agg #[.bool b, .slice ab (nlen 65536 U) cb]] w (PlusPost s R w) := by
  obtain ⟨W1, HW1⟩ : ∃ W, Hid (W = w.alloc (.cells #[.bool a, .slice aa (nlen 65536 V) ca] 29)) := ⟨_, Lib.hid rfl⟩
  obtain ⟨W2, HW2⟩ : ∃ W, Hid (W = W1.alloc (.cells #[.bool b, .slice ab (nlen 65536 U) cb] 29)) := ⟨_, Lib.hid rfl⟩
  obtain ⟨W3, HW3⟩ : ∃ W, Hid (W = W2.alloc (.cells #[.bool false, .slice none 0 0] 29)) := ⟨_, Lib.hid rfl⟩
  have s1 : W1.heap.size = w.heap.size + 1 := by rw [HW1.out]; simp
  have s2 : W2.heap.size = w.heap.size + 1 + 1 := by rw [HW2.out]; simp [s1]
  have s3 : W3.heap.size = w.heap.size + 3 := by rw [HW3.out]; simp [s2]
  have b1 : Below w.heap.size w W1 := by rw [HW1.out]; exact (Below.refl _ w).alloc (Nat.le_refl _) _
  have b2 : Below w.heap.size w W2 := by rw [HW2.out]; exact b1.alloc b1.size _
  have b3 : Below w.heap.size w W3 := by rw [HW3.out]; exact b2.alloc b2.size _
  have hpx : Pair W3 w.heap.size 29 (.bool a) (.slice aa (nlen 65536 V) ca) := by rw [HW3.out, HW2.out, HW1.out]; exact ((Pair.new w _ _ _).alloc _).alloc _
  have hpy : Pair W3 (w.heap.size + 1) 29 (.bool b) (.slice ab (nlen 65536 U) cb) := by rw [HW3.out, HW2.out, ← s1]; exact (Pair.new W1 _ _ _).alloc _
  have hres : Pair W3 (w.heap.size + 1 + 1) 29 (.bool false) (.slice none 0 0) := by rw [HW3.out, ← s2]; exact Pair.new W2 _ _ _
  have HS := Lib.hid (keepInts hpx hpy)
  have HR := Lib.hid hres
  have B4 := Lib.hid (And.intro b3 s3)
  have HRS := Lib.hid hs
  have ra := hrda.below b3
  have rb := hrdb.below b3
  clear s1 s2 s3 b1 b2 b3 hpx hpy hres hrda hrdb hs
  have hne : (a == b) = false := by cases a <;> cases b <;> simp_all
  have KC := Lib.hid (cmp_any aa ab V U ca cb W3 ha (by omega) hb (by omega) ra rb)
  have KB := Lib.hid (fun q => show Calls Tryd.prog 52 #[.slice aa (nlen 65536 V) ca, .slice ab (nlen 65536 U) cb] (W3.drewN q).drew (fun e w' => ∃ v, e = .returned v ∧ Own w' W3.heap.size 3 .i64 v (nlen 65536 R) (dig 65536 R) ∧ Below (W3.drewN q).drew.heap.size (W3.drewN q).drew w') from by rw [hR]; exact specSub_any aa ab V U ca cb (W3.drewN q).drew hUV ha hb hna ra rb)
  clear hR
  obtain ⟨n, hn⟩ : ∃ n, n = nlen 65536 V := ⟨_, rfl⟩
  obtain ⟨m, hm⟩ : ∃ m, m = nlen 65536 U := ⟨_, rfl⟩
  rw [← hn] at HS HW1 ⊢
  rw [← hm] at HS HW2 ⊢
  rw [← hn, ← hm] at KB KC
  clear hn hm ra rb ha hb hna hnb
  have d0 : Below W3.heap.size W3 W3 := Below.refl _ W3
  have k0 := HS.out _ d0
  obtain ⟨c0, c1, c2, c3⟩ := k0
  go_enter Tryd.func24, Tryd.ntmps24
  go_wp2_with fail
  rw [← HW1.out, ← HW2.out, ← HW3.out]
  refine KC.out.mono ?_
  rintro e w4 ⟨r, rfl, _, hr, q, rfl⟩
  have hrr : decide ((0 : Int) ≤ r) = true := by
    have := hr
    simp
    omega
  have d4 : Below W3.heap.size W3 (W3.drewN q) := ⟨rfl, rfl, rfl, Nat.le_refl _, fun _ _ => rfl⟩
  have k0 := HS.out _ d4
  have KA := Lib.hid (KB.out q)
  have D0 := Lib.hid (show Below W3.heap.size W3 (W3.drewN q).drew from ⟨rfl, rfl, rfl, Nat.le_refl _, fun _ _ => rfl⟩)
  clear hr KB KC d0 d4
  go_wp2_with fail
  refine region_until (fun u => u.cell? ⟨w.heap.size, 0, none⟩ = some (.bool a) ∧ u.cell? ⟨w.heap.size, 1, none⟩ = some (.slice aa n ca) ∧ u.cell? ⟨w.heap.size + 1, 0, none⟩ = some (.bool b) ∧ u.cell? ⟨w.heap.size + 1, 1, none⟩ = some (.slice ab m cb)) 8 (by kernel_rfl) k0 ?_
  refine until_take 0 [8] rfl rfl (by kernel_rfl) (by kernel_rfl) (by kernel_rfl) (by kernel_rfl) (fun _ _ _ h => h) (v := .pointer (some ⟨w.heap.size, 0, none⟩)) (.inl ⟨by rfl, ?_⟩) k0 ?_
  · rintro w' ⟨h1, h2, h3, h4⟩; go_simp
  simp only [Act.put, List.setIfInBounds_toArray, List.set_cons_zero, List.set_cons_succ]
  refine until_take 1 [8] rfl rfl (by kernel_rfl) (by kernel_rfl) (by kernel_rfl) (by kernel_rfl) (fun _ _ _ h => h) (v := .bool a) (.inl ⟨by rfl, ?_⟩) k0 ?_
  · rintro w' ⟨h1, h2, h3, h4⟩; go_simp
  simp only [Act.put, List.setIfInBounds_toArray, List.set_cons_zero, List.set_cons_succ]
  refine until_take 2 [8] rfl rfl (by kernel_rfl) (by kernel_rfl) (by kernel_rfl) (by kernel_rfl) (fun _ _ _ h => h) (v := .pointer (some ⟨w.heap.size, 1, none⟩)) (.inl ⟨by rfl, ?_⟩) k0 ?_
  · rintro w' ⟨h1, h2, h3, h4⟩; go_simp
  simp only [Act.put, List.setIfInBounds_toArray, List.set_cons_zero, List.set_cons_succ]
  refine until_take 3 [8] rfl rfl (by kernel_rfl) (by kernel_rfl) (by kernel_rfl) (by kernel_rfl) (fun _ _ _ h => h) (v := .slice aa n ca) (.inl ⟨by rfl, ?_⟩) k0 ?_
  · rintro w' ⟨h1, h2, h3, h4⟩; go_simp
  simp only [Act.put, List.setIfInBounds_toArray, List.set_cons_zero, List.set_cons_succ]
  refine until_take 4 [8] rfl rfl (by kernel_rfl) (by kernel_rfl) (by kernel_rfl) (by kernel_rfl) (fun _ _ _ h => h) (v := .pointer (some ⟨w.heap.size + 1, 1, none⟩)) (.inl ⟨by rfl, ?_⟩) k0 ?_
  · rintro w' ⟨h1, h2, h3, h4⟩; go_simp
  simp only [Act.put, List.setIfInBounds_toArray, List.set_cons_zero, List.set_cons_succ]
  refine until_take 5 [8] rfl rfl (by kernel_rfl) (by kernel_rfl) (by kernel_rfl) (by kernel_rfl) (fun _ _ _ h => h) (v := .slice ab m cb) (.inl ⟨by rfl, ?_⟩) k0 ?_
  · rintro w' ⟨h1, h2, h3, h4⟩; go_simp
  simp only [Act.put, List.setIfInBounds_toArray, List.set_cons_zero, List.set_cons_succ]
  refine until_one (j := 6) (by kernel_rfl) rfl (fun K hK => ?_)
  go_simp
  go_at_call 52
  refine KA.out.mono ?_
  rintro e w5 ⟨v5, rfl, own5, b5⟩
  obtain ⟨N, hN⟩ : ∃ N, Hid (N = nlen 65536 R) := ⟨_, Lib.hid rfl⟩
  rw [← hN.out] at own5
  obtain ⟨a5, c5, rfl, hle5, hcm5, hrd5, hlt5⟩ := own5.parts
  have d5 := D0.out.trans (b5.mono D0.out.size)
  refine hK.out _ _ (fun _ => HS.out _ d5) ?_
  clear hK K KA hrd5 hlt5
  obtain ⟨z, hz⟩ : ∃ z, Hid (z = decide (N ≠ 0)) := ⟨_, Lib.hid rfl⟩
  have KS := Lib.hid (specSign_any a a5 N c5 w5)
  rw [← hz.out] at KS
  refine until_one (j := 7) (by kernel_rfl) rfl (fun K hK => ?_)
  go_simp
  go_at_call 37
  refine KS.out.mono ?_
  rintro e w6 ⟨rfl, b6⟩
  have d6 := d5.trans (b6.mono d5.size)
  refine hK.out _ _ (fun _ => HS.out _ d6) ?_
  clear hK K KS
  have own6 := own5.below b6 (fun k hk => (own5.lt k hk).2)
  have res6 := HR.out.below d6 HR.out.lt
  have r0 := res6.cell0
  have r1 := res6.cell1
  have f0 := res6.free 0
  have f1 := res6.free 1
  have hb6 : Below w.heap.size w w6 := B4.out.1.trans (d6.mono B4.out.1.size)
  have hs5 : w.heap.size + 3 ≤ W3.heap.size := by rw [B4.out.2]; exact Nat.le_refl _
  have hd0 := D0.out.size
  have HH := Lib.hid (And.intro own6 (And.intro hb6 (And.intro hN.out hs5)))
  clear own5 own6 res6 hb6 hN b5 b6 d5 d6 hs5 hd0
  refine until_one (j := 8) (by kernel_rfl) rfl (fun K hK => ?_)
  go_simp
  refine hK.out _ _ (fun h => absurd rfl h) ?_
  refine until_done (by kernel_rfl) ?_ _
  clear hK K
  go_wp2_with fail
  refine bodyPost_ret (v := .agg #[.bool (a && z), .slice a5 N c5]) (by simp [results, Tryd.results24, go_sem, r0, r1, f0, f1]) rfl ?_
  obtain ⟨h1, h2, h3, h4⟩ := HH.out
  have hle1 : w.heap.size ≤ w.heap.size + 1 + 1 := by omega
  have hb := (h2.setCell (p := ⟨w.heap.size + 1 + 1, 0, none⟩) hle1 (.bool (a && z))).setCell (p := ⟨w.heap.size + 1 + 1, 1, none⟩) hle1 (.slice a5 N c5)
  have own := h1.kept (grown_trans (grown_setCell w6 ⟨w.heap.size + 1 + 1, 0, none⟩ (.bool (a && z))) (grown_setCell _ ⟨w.heap.size + 1 + 1, 1, none⟩ (.slice a5 N c5))) (by
    cases hk : (Value.slice a5 N c5).ownBlock with
    | none => exact .inl rfl
    | some k =>
      refine .inr fun e => ?_
      have := (h1.lt k hk).1
      have e2 : k = w.heap.size + 1 + 1 := by simpa using e
      omega)
  have hz2 : z = decide (R ≠ 0) := by
    rw [hz.out]
    have := nlen_eq_zero (B := 65536) (by omega) R
    rw [← h3] at this
    simp only [decide_eq_decide]
    omega
  refine ⟨.slice a5 N c5, by rw [hz2, HRS.out], ?_, hb⟩
  rw [← h3]
  exact own.base_le (by omega)

set_option maxHeartbeats 1000000 in
theorem specPlus_bus (a b s : Bool) (aa ab : Option Addr) (V U R ca cb : Nat) (w : World) (hab : a ≠ b) (hVU : ¬ U ≤ V) (hR : R = U - V) (hs : (b && decide (R ≠ 0)) = s) (ha : nlen 65536 V ≤ ca) (hb : nlen 65536 U ≤ cb) (hna : nlen 65536 V ≤ 1000000000000) (hnb : nlen 65536 U ≤ 1000000000000)
    (hrda : Reads w .i64 aa (nlen 65536 V) (dig 65536 V)) (hrdb : Reads w .i64 ab (nlen 65536 U) (dig 65536 U)) :
    Calls Tryd.prog 24 #[.agg #[.bool a, .slice aa (nlen 65536 V) ca], .agg #[.bool b, .slice ab (nlen 65536 U) cb]] w (PlusPost s R w) := by
  obtain ⟨W1, HW1⟩ : ∃ W, Hid (W = w.alloc (.cells #[.bool a, .slice aa (nlen 65536 V) ca] 29)) := ⟨_, Lib.hid rfl⟩
  obtain ⟨W2, HW2⟩ : ∃ W, Hid (W = W1.alloc (.cells #[.bool b, .slice ab (nlen 65536 U) cb] 29)) := ⟨_, Lib.hid rfl⟩
  obtain ⟨W3, HW3⟩ : ∃ W, Hid (W = W2.alloc (.cells #[.bool false, .slice none 0 0] 29)) := ⟨_, Lib.hid rfl⟩
  have s1 : W1.heap.size = w.heap.size + 1 := by rw [HW1.out]; simp
  have s2 : W2.heap.size = w.heap.size + 1 + 1 := by rw [HW2.out]; simp [s1]
  have s3 : W3.heap.size = w.heap.size + 3 := by rw [HW3.out]; simp [s2]
  have b1 : Below w.heap.size w W1 := by rw [HW1.out]; exact (Below.refl _ w).alloc (Nat.le_refl _) _
  have b2 : Below w.heap.size w W2 := by rw [HW2.out]; exact b1.alloc b1.size _
  have b3 : Below w.heap.size w W3 := by rw [HW3.out]; exact b2.alloc b2.size _
  have hpx : Pair W3 w.heap.size 29 (.bool a) (.slice aa (nlen 65536 V) ca) := by rw [HW3.out, HW2.out, HW1.out]; exact ((Pair.new w _ _ _).alloc _).alloc _
  have hpy : Pair W3 (w.heap.size + 1) 29 (.bool b) (.slice ab (nlen 65536 U) cb) := by rw [HW3.out, HW2.out, ← s1]; exact (Pair.new W1 _ _ _).alloc _
  have hres : Pair W3 (w.heap.size + 1 + 1) 29 (.bool false) (.slice none 0 0) := by rw [HW3.out, ← s2]; exact Pair.new W2 _ _ _
  have HS := Lib.hid (keepInts hpx hpy)
  have HR := Lib.hid hres
  have B4 := Lib.hid (And.intro b3 s3)
  have HRS := Lib.hid hs
  have ra := hrda.below b3
  have rb := hrdb.below b3
  clear s1 s2 s3 b1 b2 b3 hpx hpy hres hrda hrdb hs
  have hne : (a == b) = false := by cases a <;> cases b <;> simp_all
  have KC := Lib.hid (cmp_any aa ab V U ca cb W3 ha (by omega) hb (by omega) ra rb)
  have KB := Lib.hid (fun q => show Calls Tryd.prog 52 #[.slice ab (nlen 65536 U) cb, .slice aa (nlen 65536 V) ca] (W3.drewN q).drew (fun e w' => ∃ v, e = .returned v ∧ Own w' W3.heap.size 3 .i64 v (nlen 65536 R) (dig 65536 R) ∧ Below (W3.drewN q).drew.heap.size (W3.drewN q).drew w') from by rw [hR]; exact specSub_any ab aa U V cb ca (W3.drewN q).drew (by omega) hb ha hnb rb ra)
  clear hR
  obtain ⟨n, hn⟩ : ∃ n, n = nlen 65536 V := ⟨_, rfl⟩
  obtain ⟨m, hm⟩ : ∃ m, m = nlen 65536 U := ⟨_, rfl⟩
  rw [← hn] at HS HW1 ⊢
  rw [← hm] at HS HW2 ⊢
  rw [← hn, ← hm] at KB KC
  clear hn hm ra rb ha hb hna hnb
  have d0 : Below W3.heap.size W3 W3 := Below.refl _ W3
  have k0 := HS.out _ d0
  obtain ⟨c0, c1, c2, c3⟩ := k0
  go_enter Tryd.func24, Tryd.ntmps24
  go_wp2_with fail
  rw [← HW1.out, ← HW2.out, ← HW3.out]
  refine KC.out.mono ?_
  rintro e w4 ⟨r, rfl, _, hr, q, rfl⟩
  have hrr : decide ((0 : Int) ≤ r) = false := by
    have := hr
    simp
    omega
  have d4 : Below W3.heap.size W3 (W3.drewN q) := ⟨rfl, rfl, rfl, Nat.le_refl _, fun _ _ => rfl⟩
  have k0 := HS.out _ d4
  have KA := Lib.hid (KB.out q)
  have D0 := Lib.hid (show Below W3.heap.size W3 (W3.drewN q).drew from ⟨rfl, rfl, rfl, Nat.le_refl _, fun _ _ => rfl⟩)
  clear hr KB KC d0 d4
  go_wp2_with fail
  refine region_until (fun u => u.cell? ⟨w.heap.size, 0, none⟩ = some (.bool a) ∧ u.cell? ⟨w.heap.size, 1, none⟩ = some (.slice aa n ca) ∧ u.cell? ⟨w.heap.size + 1, 0, none⟩ = some (.bool b) ∧ u.cell? ⟨w.heap.size + 1, 1, none⟩ = some (.slice ab m cb)) 8 (by kernel_rfl) k0 ?_
  refine until_take 0 [8] rfl rfl (by kernel_rfl) (by kernel_rfl) (by kernel_rfl) (by kernel_rfl) (fun _ _ _ h => h) (v := .pointer (some ⟨w.heap.size + 1, 0, none⟩)) (.inl ⟨by rfl, ?_⟩) k0 ?_
  · rintro w' ⟨h1, h2, h3, h4⟩; go_simp
  simp only [Act.put, List.setIfInBounds_toArray, List.set_cons_zero, List.set_cons_succ]
  refine until_take 1 [8] rfl rfl (by kernel_rfl) (by kernel_rfl) (by kernel_rfl) (by kernel_rfl) (fun _ _ _ h => h) (v := .bool b) (.inl ⟨by rfl, ?_⟩) k0 ?_
  · rintro w' ⟨h1, h2, h3, h4⟩; go_simp
  simp only [Act.put, List.setIfInBounds_toArray, List.set_cons_zero, List.set_cons_succ]
  refine until_take 2 [8] rfl rfl (by kernel_rfl) (by kernel_rfl) (by kernel_rfl) (by kernel_rfl) (fun _ _ _ h => h) (v := .pointer (some ⟨w.heap.size + 1, 1, none⟩)) (.inl ⟨by rfl, ?_⟩) k0 ?_
  · rintro w' ⟨h1, h2, h3, h4⟩; go_simp
  simp only [Act.put, List.setIfInBounds_toArray, List.set_cons_zero, List.set_cons_succ]
  refine until_take 3 [8] rfl rfl (by kernel_rfl) (by kernel_rfl) (by kernel_rfl) (by kernel_rfl) (fun _ _ _ h => h) (v := .slice ab m cb) (.inl ⟨by rfl, ?_⟩) k0 ?_
  · rintro w' ⟨h1, h2, h3, h4⟩; go_simp
  simp only [Act.put, List.setIfInBounds_toArray, List.set_cons_zero, List.set_cons_succ]
  refine until_take 4 [8] rfl rfl (by kernel_rfl) (by kernel_rfl) (by kernel_rfl) (by kernel_rfl) (fun _ _ _ h => h) (v := .pointer (some ⟨w.heap.size, 1, none⟩)) (.inl ⟨by rfl, ?_⟩) k0 ?_
  · rintro w' ⟨h1, h2, h3, h4⟩; go_simp
  simp only [Act.put, List.setIfInBounds_toArray, List.set_cons_zero, List.set_cons_succ]
  refine until_take 5 [8] rfl rfl (by kernel_rfl) (by kernel_rfl) (by kernel_rfl) (by kernel_rfl) (fun _ _ _ h => h) (v := .slice aa n ca) (.inl ⟨by rfl, ?_⟩) k0 ?_
  · rintro w' ⟨h1, h2, h3, h4⟩; go_simp
  simp only [Act.put, List.setIfInBounds_toArray, List.set_cons_zero, List.set_cons_succ]
  refine until_one (j := 6) (by kernel_rfl) rfl (fun K hK => ?_)
  go_simp
  go_at_call 52
  refine KA.out.mono ?_
  rintro e w5 ⟨v5, rfl, own5, b5⟩
  obtain ⟨N, hN⟩ : ∃ N, Hid (N = nlen 65536 R) := ⟨_, Lib.hid rfl⟩
  rw [← hN.out] at own5
  obtain ⟨a5, c5, rfl, hle5, hcm5, hrd5, hlt5⟩ := own5.parts
  have d5 := D0.out.trans (b5.mono D0.out.size)
  refine hK.out _ _ (fun _ => HS.out _ d5) ?_
  clear hK K KA hrd5 hlt5
  obtain ⟨z, hz⟩ : ∃ z, Hid (z = decide (N ≠ 0)) := ⟨_, Lib.hid rfl⟩
  have KS := Lib.hid (specSign_any b a5 N c5 w5)
  rw [← hz.out] at KS
  refine until_one (j := 7) (by kernel_rfl) rfl (fun K hK => ?_)
  go_simp
  go_at_call 37
  refine KS.out.mono ?_
  rintro e w6 ⟨rfl, b6⟩
  have d6 := d5.trans (b6.mono d5.size)
  refine hK.out _ _ (fun _ => HS.out _ d6) ?_
  clear hK K KS
  have own6 := own5.below b6 (fun k hk => (own5.lt k hk).2)
  have res6 := HR.out.below d6 HR.out.lt
  have r0 := res6.cell0
  have r1 := res6.cell1
  have f0 := res6.free 0
  have f1 := res6.free 1
  have hb6 : Below w.heap.size w w6 := B4.out.1.trans (d6.mono B4.out.1.size)
  have hs5 : w.heap.size + 3 ≤ W3.heap.size := by rw [B4.out.2]; exact Nat.le_refl _
  have hd0 := D0.out.size
  have HH := Lib.hid (And.intro own6 (And.intro hb6 (And.intro hN.out hs5)))
  clear own5 own6 res6 hb6 hN b5 b6 d5 d6 hs5 hd0
  refine until_one (j := 8) (by kernel_rfl) rfl (fun K hK => ?_)
  go_simp
  refine hK.out _ _ (fun h => absurd rfl h) ?_
  refine until_done (by kernel_rfl) ?_ _
  clear hK K
  go_wp2_with fail
  refine bodyPost_ret (v := .agg #[.bool (b && z), .slice a5 N c5]) (by simp [results, Tryd.results24, go_sem, r0, r1, f0, f1]) rfl ?_
  obtain ⟨h1, h2, h3, h4⟩ := HH.out
  have hle1 : w.heap.size ≤ w.heap.size + 1 + 1 := by omega
  have hb := (h2.setCell (p := ⟨w.heap.size + 1 + 1, 0, none⟩) hle1 (.bool (b && z))).setCell (p := ⟨w.heap.size + 1 + 1, 1, none⟩) hle1 (.slice a5 N c5)
  have own := h1.kept (grown_trans (grown_setCell w6 ⟨w.heap.size + 1 + 1, 0, none⟩ (.bool (b && z))) (grown_setCell _ ⟨w.heap.size + 1 + 1, 1, none⟩ (.slice a5 N c5))) (by
    cases hk : (Value.slice a5 N c5).ownBlock with
    | none => exact .inl rfl
    | some k =>
      refine .inr fun e => ?_
      have := (h1.lt k hk).1
      have e2 : k = w.heap.size + 1 + 1 := by simpa using e
      omega)
  have hz2 : z = decide (R ≠ 0) := by
    rw [hz.out]
    have := nlen_eq_zero (B := 65536) (by omega) R
    rw [← h3] at this
    simp only [decide_eq_decide]
    omega
  refine ⟨.slice a5 N c5, by rw [hz2, HRS.out], ?_, hb⟩
  rw [← h3]
  exact own.base_le (by omega)

theorem specPlus_any (a b : Bool) (aa ab : Option Addr) (V U ca cb : Nat) (w : World) (ha : nlen 65536 V ≤ ca) (hb : nlen 65536 U ≤ cb) (hna : nlen 65536 V ≤ 1000000000000) (hnb : nlen 65536 U ≤ 1000000000000)
    (hrda : Reads w .i64 aa (nlen 65536 V) (dig 65536 V)) (hrdb : Reads w .i64 ab (nlen 65536 U) (dig 65536 U)) :
    Calls Tryd.prog 24 #[.agg #[.bool a, .slice aa (nlen 65536 V) ca], .agg #[.bool b, .slice ab (nlen 65536 U) cb]] w (PlusPost (plusR a V b U).1 (plusR a V b U).2 w) := by
  unfold plusR
  by_cases h : a = b
  · rw [if_pos h]
    exact specPlus_add a b _ aa ab V U _ ca cb w h rfl rfl ha hb hna hnb hrda hrdb
  · rw [if_neg h]
    by_cases h2 : U ≤ V
    · rw [if_pos h2]
      exact specPlus_sub a b _ aa ab V U _ ca cb w h h2 rfl rfl ha hb hna hnb hrda hrdb
    · rw [if_neg h2]
      exact specPlus_bus a b _ aa ab V U _ ca cb w h h2 rfl rfl ha hb hna hnb hrda hrdb

end Go.Proofs.YtidifjmjbfhpaaaDoor
