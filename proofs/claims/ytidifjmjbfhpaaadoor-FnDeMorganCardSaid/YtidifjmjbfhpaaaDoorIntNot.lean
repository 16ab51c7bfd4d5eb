/- (*Int).Not into a new Int; lemmas for the operations on two Ints. (Printed by intops.py.) -/
import Derived.Test.YtidifjmjbfhpaaaDoorNatAdd
import Derived.Test.YtidifjmjbfhpaaaDoorNatOps
import Derived.Test.YtidifjmjbfhpaaaDoorIntNew
import Derived.Test.YtidifjmjbfhpaaaDoorBitAt
import Derived.Test.YtidifjmjbfhpaaaDoorSpecSmall
import Derived.Test.YtidifjmjbfhpaaaDoorOrders
namespace Go.Proofs.YtidifjmjbfhpaaaDoor
set_option linter.unusedVariables false
set_option maxRecDepth 20000
set_option linter.unusedSimpArgs false
open Go.RowKit

theorem one_block {w : World} {a1 : Option Addr} {f : Nat → Nat} (h : Reads w .u64 a1 1 f) : ∀ a, a1 = some a → a.block < w.heap.size := fun a ha => by
  obtain ⟨b, o, h1, h2⟩ := h.lt (by omega)
  rw [ha] at h1
  cases h1
  exact h2

theorem keep2 {w : World} {pz px py : Nat} {na nb : Bool} {vx vy v1 : Value} (hz : Pair w pz 72 (.bool false) (.slice none 0 0)) (hx : Pair w px 72 (.bool na) vx) (hy : Pair w py 72 (.bool nb) vy) (hg : w.cell? ⟨0, 0, none⟩ = some v1) :
    ∀ u, Below w.heap.size w u → u.cell? ⟨pz, 1, none⟩ = some (.slice none 0 0) ∧ u.cell? ⟨px, 0, none⟩ = some (.bool na) ∧ u.cell? ⟨px, 1, none⟩ = some vx ∧ u.cell? ⟨py, 0, none⟩ = some (.bool nb) ∧ u.cell? ⟨py, 1, none⟩ = some vy ∧ u.cell? ⟨0, 0, none⟩ = some v1 := fun u hu =>
  ⟨(hz.below hu hz.lt).cell1, (hx.below hu hx.lt).cell0, (hx.below hu hx.lt).cell1, (hy.below hu hy.lt).cell0, (hy.below hu hy.lt).cell1, by rw [hu.cell (World.block_lt_of_cell? _ _ hg)]; exact hg⟩

theorem sub_at {w W : World} {ax a1 : Option Addr} {V cx c1 : Nat} (hV : 1 ≤ V) (hle : nlen BW V ≤ cx) (hc1 : 1 ≤ c1) (hb : nlen BW V ≤ 2000000000) (hrd : Reads w .u64 ax (nlen BW V) (dig BW V)) (hr1 : Reads w .u64 a1 1 (fun _ => 1))
    (hxb : ∀ a, ax = some a → ∃ c t, w.heap[a.block]? = some (.cells c t (0, 0))) (h : Below w.heap.size w W) :
    Calls Tryd.prog 58 #[.slice none 0 0, .slice ax (nlen BW V) cx, .slice a1 1 c1] W (NatPost (V - 1) W) :=
  natSub1_any ax a1 V cx c1 W hV hle hc1 (by omega) (hrd.below h) (hr1.below h) (fun a ha => by
    obtain ⟨c, t, hc⟩ := hxb a ha
    exact ⟨c, t, by rw [h.block _ (lt_of_block hc)]; exact hc⟩)

theorem keep1 {w : World} {pz px : Nat} {na : Bool} {vx v1 : Value} (hz : Pair w pz 72 (.bool false) (.slice none 0 0)) (hx : Pair w px 72 (.bool na) vx) (hg : w.cell? ⟨0, 0, none⟩ = some v1) :
    ∀ u, Below w.heap.size w u → u.cell? ⟨pz, 1, none⟩ = some (.slice none 0 0) ∧ u.cell? ⟨px, 0, none⟩ = some (.bool na) ∧ u.cell? ⟨px, 1, none⟩ = some vx ∧ u.cell? ⟨0, 0, none⟩ = some v1 := fun u hu =>
  ⟨(hz.below hu hz.lt).cell1, (hx.below hu hx.lt).cell0, (hx.below hu hx.lt).cell1, by rw [hu.cell (World.block_lt_of_cell? _ _ hg)]; exact hg⟩

theorem add_at {w : World} {ax a1 : Option Addr} {V cx c1 base : Nat} (hle : nlen BW V ≤ cx) (hc1 : 1 ≤ c1) (hb : nlen BW V ≤ 2000000000) (hrd : Reads w .u64 ax (nlen BW V) (dig BW V)) (hr1 : Reads w .u64 a1 1 (fun _ => 1))
    (hxb : ∀ a, ax = some a → ∃ c t, w.heap[a.block]? = some (.cells c t (0, 0))) :
    Calls Tryd.prog 63 #[.slice none 0 0, .slice ax (nlen BW V) cx, .slice a1 1 c1] w.drew (NatPost (V + 1) w.drew) := by
  refine (natAdd1_any (.slice none 0 0) ax a1 V cx c1 w.heap.size 0 (fun _ => 0) w.drew (Room.nil _ _ _) (Nat.le_refl _) (by omega) hle hc1 hrd hr1 hxb (one_block hr1) (.inl rfl)).mono ?_
  rintro e w' ⟨v, rfl, room, bel⟩
  exact ⟨v, rfl, room.own, bel⟩

theorem nlen_and_le (V U : Nat) : nlen BW (V &&& U) ≤ max (nlen BW V) (nlen BW U) := (nlen_le_iff BW_one _ _).2 (Nat.lt_of_le_of_lt Nat.and_le_left (lt_max_pow (U := U) rfl).1)
theorem nlen_or_le (V U : Nat) : nlen BW (V ||| U) ≤ max (nlen BW V) (nlen BW U) := (nlen_le_iff BW_one _ _).2 (or_lt rfl)
theorem nlen_xor_le (V U : Nat) : nlen BW (V ^^^ U) ≤ max (nlen BW V) (nlen BW U) := (nlen_le_iff BW_one _ _).2 (xor_lt rfl)
theorem nlen_andn_le (V U : Nat) : nlen BW (andn V U) ≤ max (nlen BW V) (nlen BW U) := (nlen_le_iff BW_one _ _).2 (Nat.lt_of_le_of_lt (andn_le V U) (lt_max_pow (U := U) rfl).1)

set_option maxHeartbeats 2000000 in
theorem intNot_t (pz px b1 V : Nat) (vx : Value) (w : World) (hV : true = true → 1 ≤ V) (hbV : nlen BW V ≤ 2000000000)
    (hz : Pair w pz 72 (.bool false) (.slice none 0 0)) (hx : Pair w px 72 (.bool true) vx) (ox : Own w b1 83 .u64 vx (nlen BW V) (dig BW V)) (hone : One w) :
    Calls Tryd.prog 51 #[.pointer (some ⟨pz, 0, none⟩), .pointer (some ⟨px, 0, none⟩)] w (IntPost pz false (V - 1) w) := by
  obtain ⟨ax, cx, rfl, hlex, hcmx, hrdx, hltx⟩ := ox.parts
  obtain ⟨a1, c1, hc1, hg1, hr1⟩ := hone
  have HS := Lib.hid (keep1 hz hx hg1)
  have HZ := Lib.hid hz
  have d1 : Below w.heap.size w w := Below.refl _ w
  have KOP := Lib.hid (sub_at (hV rfl) hlex hc1 hbV hrdx hr1 (reads_own_blocks ox) d1.drew)
  clear ox hrdx hr1 hltx hlex
  have k1 := HS.out _ d1
  clear hg1 hz hx
  obtain ⟨z1, x0, x1, hg1⟩ := k1
  have k1 := HS.out _ d1
  go_enter Tryd.func51, Tryd.ntmps51
  go_wp2_with fail
  refine region_until (fun u => u.cell? ⟨pz, 1, none⟩ = some (.slice none 0 0) ∧ u.cell? ⟨px, 0, none⟩ = some (.bool true) ∧ u.cell? ⟨px, 1, none⟩ = some (.slice ax (nlen BW V) cx) ∧ u.cell? ⟨0, 0, none⟩ = some (.slice a1 1 c1)) 13 (by kernel_rfl) k1 ?_
  refine until_take 0 [13] rfl rfl (by kernel_rfl) (by kernel_rfl) (by kernel_rfl) (by kernel_rfl) (fun _ _ _ h => h) (v := .pointer (some ⟨pz, 0, none⟩)) (.inl ⟨by rfl, ?_⟩) k1 ?_
  · rintro w' ⟨h1, h2, h3, h4⟩; go_simp
  simp only [Act.put, List.setIfInBounds_toArray, List.set_cons_zero, List.set_cons_succ]
  refine until_take 1 [13] rfl rfl (by kernel_rfl) (by kernel_rfl) (by kernel_rfl) (by kernel_rfl) (fun _ _ _ h => h) (v := .pointer (some ⟨pz, 0, none⟩)) (.inl ⟨by rfl, ?_⟩) k1 ?_
  · rintro w' ⟨h1, h2, h3, h4⟩; go_simp
  simp only [Act.put, List.setIfInBounds_toArray, List.set_cons_zero, List.set_cons_succ]
  refine until_take 2 [13] rfl rfl (by kernel_rfl) (by kernel_rfl) (by kernel_rfl) (by kernel_rfl) (fun _ _ _ h => h) (v := .pointer (some ⟨pz, 0, none⟩)) (.inl ⟨by rfl, ?_⟩) k1 ?_
  · rintro w' ⟨h1, h2, h3, h4⟩; go_simp
  simp only [Act.put, List.setIfInBounds_toArray, List.set_cons_zero, List.set_cons_succ]
  refine until_take 3 [13] rfl rfl (by kernel_rfl) (by kernel_rfl) (by kernel_rfl) (by kernel_rfl) (fun _ _ _ h => h) (v := .pointer (some ⟨pz, 1, none⟩)) (.inl ⟨by rfl, ?_⟩) k1 ?_
  · rintro w' ⟨h1, h2, h3, h4⟩; go_simp
  simp only [Act.put, List.setIfInBounds_toArray, List.set_cons_zero, List.set_cons_succ]
  refine until_take 4 [13] rfl rfl (by kernel_rfl) (by kernel_rfl) (by kernel_rfl) (by kernel_rfl) (fun _ _ _ h => h) (v := .slice none 0 0) (.inl ⟨by rfl, ?_⟩) k1 ?_
  · rintro w' ⟨h1, h2, h3, h4⟩; go_simp
  simp only [Act.put, List.setIfInBounds_toArray, List.set_cons_zero, List.set_cons_succ]
  refine until_take 5 [13] rfl rfl (by kernel_rfl) (by kernel_rfl) (by kernel_rfl) (by kernel_rfl) (fun _ _ _ h => h) (v := .pointer (some ⟨px, 0, none⟩)) (.inl ⟨by rfl, ?_⟩) k1 ?_
  · rintro w' ⟨h1, h2, h3, h4⟩; go_simp
  simp only [Act.put, List.setIfInBounds_toArray, List.set_cons_zero, List.set_cons_succ]
  refine until_take 6 [13] rfl rfl (by kernel_rfl) (by kernel_rfl) (by kernel_rfl) (by kernel_rfl) (fun _ _ _ h => h) (v := .pointer (some ⟨px, 0, none⟩)) (.inl ⟨by rfl, ?_⟩) k1 ?_
  · rintro w' ⟨h1, h2, h3, h4⟩; go_simp
  simp only [Act.put, List.setIfInBounds_toArray, List.set_cons_zero, List.set_cons_succ]
  refine until_take 7 [13] rfl rfl (by kernel_rfl) (by kernel_rfl) (by kernel_rfl) (by kernel_rfl) (fun _ _ _ h => h) (v := .pointer (some ⟨px, 1, none⟩)) (.inl ⟨by rfl, ?_⟩) k1 ?_
  · rintro w' ⟨h1, h2, h3, h4⟩; go_simp
  simp only [Act.put, List.setIfInBounds_toArray, List.set_cons_zero, List.set_cons_succ]
  refine until_take 8 [13] rfl rfl (by kernel_rfl) (by kernel_rfl) (by kernel_rfl) (by kernel_rfl) (fun _ _ _ h => h) (v := .slice ax (nlen BW V) cx) (.inl ⟨by rfl, ?_⟩) k1 ?_
  · rintro w' ⟨h1, h2, h3, h4⟩; go_simp
  simp only [Act.put, List.setIfInBounds_toArray, List.set_cons_zero, List.set_cons_succ]
  refine until_take 9 [13] rfl rfl (by kernel_rfl) (by kernel_rfl) (by kernel_rfl) (by kernel_rfl) (fun _ _ _ h => h) (v := .slice a1 1 c1) (.inl ⟨by rfl, ?_⟩) k1 ?_
  · rintro w' ⟨h1, h2, h3, h4⟩; go_simp
  simp only [Act.put, List.setIfInBounds_toArray, List.set_cons_zero, List.set_cons_succ]
  refine until_one (j := 10) (by kernel_rfl) rfl (fun K hK => ?_)
  go_simp
  go_at_call 58
  refine KOP.out.mono ?_
  rintro e w5 ⟨v5, rfl, own5, b5⟩
  obtain ⟨a5, c5, rfl, hle5, hcm5, hrd5, hlt5⟩ := own5.parts
  have d5 := below_trans d1.drew b5
  refine hK.out _ _ (fun _ => HS.out _ d5) ?_
  clear hK K KOP
  have hz9 := HZ.out.below d5 HZ.out.lt
  have fz := hz9.free 1
  have fz0 := hz9.free 0
  have z90 := hz9.cell0
  have z91 := hz9.cell1
  have R9 := Lib.hid (And.intro own5 (And.intro d5 hz9))
  clear own5 hrd5 hlt5 hz9
  refine until_one (j := 11) (by kernel_rfl) rfl (fun K hK => ?_)
  go_simp
  refine hK.out _ _ (fun _ => HS.out _ d5) ?_
  clear hK K
  refine until_one (j := 12) (by kernel_rfl) rfl (fun K hK => ?_)
  go_simp
  refine hK.out _ _ (fun _ => HS.out _ d5) ?_
  clear hK K
  refine until_one (j := 13) (by kernel_rfl) rfl (fun K hK => ?_)
  go_simp
  refine hK.out _ _ (fun h => absurd rfl h) ?_
  refine until_done (by kernel_rfl) ?_ _
  clear hK K
  go_wp2
  go_ret
  obtain ⟨h1, h2⟩ := IntNew.set (neg := false) R9.out.2.2 (R9.out.1.base_le (Nat.le_refl _)) (show pz < w.heap.size from HZ.out.lt)
  exact ⟨rfl, h1, grown_trans (grown_of_below R9.out.2.1 _) h2⟩

set_option maxHeartbeats 2000000 in
theorem intNot_f (pz px b1 V : Nat) (vx : Value) (w : World) (hV : false = true → 1 ≤ V) (hbV : nlen BW V ≤ 2000000000)
    (hz : Pair w pz 72 (.bool false) (.slice none 0 0)) (hx : Pair w px 72 (.bool false) vx) (ox : Own w b1 83 .u64 vx (nlen BW V) (dig BW V)) (hone : One w) :
    Calls Tryd.prog 51 #[.pointer (some ⟨pz, 0, none⟩), .pointer (some ⟨px, 0, none⟩)] w (IntPost pz true (V + 1) w) := by
  obtain ⟨ax, cx, rfl, hlex, hcmx, hrdx, hltx⟩ := ox.parts
  obtain ⟨a1, c1, hc1, hg1, hr1⟩ := hone
  have HS := Lib.hid (keep1 hz hx hg1)
  have HZ := Lib.hid hz
  have d1 : Below w.heap.size w w := Below.refl _ w
  have KOP := Lib.hid (add_at (base := w.heap.size) hlex hc1 hbV hrdx hr1 (reads_own_blocks ox))
  clear ox hrdx hr1 hltx hlex
  have k1 := HS.out _ d1
  clear hg1 hz hx
  obtain ⟨z1, x0, x1, hg1⟩ := k1
  have k1 := HS.out _ d1
  go_enter Tryd.func51, Tryd.ntmps51
  go_wp2_with fail
  refine region_until (fun u => u.cell? ⟨pz, 1, none⟩ = some (.slice none 0 0) ∧ u.cell? ⟨px, 0, none⟩ = some (.bool false) ∧ u.cell? ⟨px, 1, none⟩ = some (.slice ax (nlen BW V) cx) ∧ u.cell? ⟨0, 0, none⟩ = some (.slice a1 1 c1)) 13 (by kernel_rfl) k1 ?_
  refine until_take 0 [13] rfl rfl (by kernel_rfl) (by kernel_rfl) (by kernel_rfl) (by kernel_rfl) (fun _ _ _ h => h) (v := .pointer (some ⟨pz, 0, none⟩)) (.inl ⟨by rfl, ?_⟩) k1 ?_
  · rintro w' ⟨h1, h2, h3, h4⟩; go_simp
  simp only [Act.put, List.setIfInBounds_toArray, List.set_cons_zero, List.set_cons_succ]
  refine until_take 1 [13] rfl rfl (by kernel_rfl) (by kernel_rfl) (by kernel_rfl) (by kernel_rfl) (fun _ _ _ h => h) (v := .pointer (some ⟨pz, 0, none⟩)) (.inl ⟨by rfl, ?_⟩) k1 ?_
  · rintro w' ⟨h1, h2, h3, h4⟩; go_simp
  simp only [Act.put, List.setIfInBounds_toArray, List.set_cons_zero, List.set_cons_succ]
  refine until_take 2 [13] rfl rfl (by kernel_rfl) (by kernel_rfl) (by kernel_rfl) (by kernel_rfl) (fun _ _ _ h => h) (v := .pointer (some ⟨pz, 0, none⟩)) (.inl ⟨by rfl, ?_⟩) k1 ?_
  · rintro w' ⟨h1, h2, h3, h4⟩; go_simp
  simp only [Act.put, List.setIfInBounds_toArray, List.set_cons_zero, List.set_cons_succ]
  refine until_take 3 [13] rfl rfl (by kernel_rfl) (by kernel_rfl) (by kernel_rfl) (by kernel_rfl) (fun _ _ _ h => h) (v := .pointer (some ⟨pz, 1, none⟩)) (.inl ⟨by rfl, ?_⟩) k1 ?_
  · rintro w' ⟨h1, h2, h3, h4⟩; go_simp
  simp only [Act.put, List.setIfInBounds_toArray, List.set_cons_zero, List.set_cons_succ]
  refine until_take 4 [13] rfl rfl (by kernel_rfl) (by kernel_rfl) (by kernel_rfl) (by kernel_rfl) (fun _ _ _ h => h) (v := .slice none 0 0) (.inl ⟨by rfl, ?_⟩) k1 ?_
  · rintro w' ⟨h1, h2, h3, h4⟩; go_simp
  simp only [Act.put, List.setIfInBounds_toArray, List.set_cons_zero, List.set_cons_succ]
  refine until_take 5 [13] rfl rfl (by kernel_rfl) (by kernel_rfl) (by kernel_rfl) (by kernel_rfl) (fun _ _ _ h => h) (v := .pointer (some ⟨px, 0, none⟩)) (.inl ⟨by rfl, ?_⟩) k1 ?_
  · rintro w' ⟨h1, h2, h3, h4⟩; go_simp
  simp only [Act.put, List.setIfInBounds_toArray, List.set_cons_zero, List.set_cons_succ]
  refine until_take 6 [13] rfl rfl (by kernel_rfl) (by kernel_rfl) (by kernel_rfl) (by kernel_rfl) (fun _ _ _ h => h) (v := .pointer (some ⟨px, 0, none⟩)) (.inl ⟨by rfl, ?_⟩) k1 ?_
  · rintro w' ⟨h1, h2, h3, h4⟩; go_simp
  simp only [Act.put, List.setIfInBounds_toArray, List.set_cons_zero, List.set_cons_succ]
  refine until_take 7 [13] rfl rfl (by kernel_rfl) (by kernel_rfl) (by kernel_rfl) (by kernel_rfl) (fun _ _ _ h => h) (v := .pointer (some ⟨px, 1, none⟩)) (.inl ⟨by rfl, ?_⟩) k1 ?_
  · rintro w' ⟨h1, h2, h3, h4⟩; go_simp
  simp only [Act.put, List.setIfInBounds_toArray, List.set_cons_zero, List.set_cons_succ]
  refine until_take 8 [13] rfl rfl (by kernel_rfl) (by kernel_rfl) (by kernel_rfl) (by kernel_rfl) (fun _ _ _ h => h) (v := .slice ax (nlen BW V) cx) (.inl ⟨by rfl, ?_⟩) k1 ?_
  · rintro w' ⟨h1, h2, h3, h4⟩; go_simp
  simp only [Act.put, List.setIfInBounds_toArray, List.set_cons_zero, List.set_cons_succ]
  refine until_take 9 [13] rfl rfl (by kernel_rfl) (by kernel_rfl) (by kernel_rfl) (by kernel_rfl) (fun _ _ _ h => h) (v := .slice a1 1 c1) (.inl ⟨by rfl, ?_⟩) k1 ?_
  · rintro w' ⟨h1, h2, h3, h4⟩; go_simp
  simp only [Act.put, List.setIfInBounds_toArray, List.set_cons_zero, List.set_cons_succ]
  refine until_one (j := 10) (by kernel_rfl) rfl (fun K hK => ?_)
  go_simp
  go_at_call 63
  refine KOP.out.mono ?_
  rintro e w5 ⟨v5, rfl, own5, b5⟩
  obtain ⟨a5, c5, rfl, hle5, hcm5, hrd5, hlt5⟩ := own5.parts
  have d5 := below_trans d1.drew b5
  refine hK.out _ _ (fun _ => HS.out _ d5) ?_
  clear hK K KOP
  have hz9 := HZ.out.below d5 HZ.out.lt
  have fz := hz9.free 1
  have fz0 := hz9.free 0
  have z90 := hz9.cell0
  have z91 := hz9.cell1
  have R9 := Lib.hid (And.intro own5 (And.intro d5 hz9))
  clear own5 hrd5 hlt5 hz9
  refine until_one (j := 11) (by kernel_rfl) rfl (fun K hK => ?_)
  go_simp
  refine hK.out _ _ (fun _ => HS.out _ d5) ?_
  clear hK K
  refine until_one (j := 12) (by kernel_rfl) rfl (fun K hK => ?_)
  go_simp
  refine hK.out _ _ (fun _ => HS.out _ d5) ?_
  clear hK K
  refine until_one (j := 13) (by kernel_rfl) rfl (fun K hK => ?_)
  go_simp
  refine hK.out _ _ (fun h => absurd rfl h) ?_
  refine until_done (by kernel_rfl) ?_ _
  clear hK K
  go_wp2
  go_ret
  obtain ⟨h1, h2⟩ := IntNew.set (neg := true) R9.out.2.2 (R9.out.1.base_le (Nat.le_refl _)) (show pz < w.heap.size from HZ.out.lt)
  exact ⟨rfl, h1, grown_trans (grown_of_below R9.out.2.1 _) h2⟩

end Go.Proofs.YtidifjmjbfhpaaaDoor
