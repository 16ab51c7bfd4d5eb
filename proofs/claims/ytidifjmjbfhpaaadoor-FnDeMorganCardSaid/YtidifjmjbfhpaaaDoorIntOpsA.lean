/- (*Int).And and Or into a new Int, by the two signs. (Printed by intops.py.) -/
import Derived.Test.YtidifjmjbfhpaaaDoorIntNot
namespace Go.Proofs.YtidifjmjbfhpaaaDoor
set_option linter.unusedVariables false
set_option maxRecDepth 20000
set_option linter.unusedSimpArgs false
open Go.RowKit

set_option maxHeartbeats 2000000 in
theorem intAnd_ff (pz px py b1 b2 V U : Nat) (vx vy : Value) (w : World) (hV : false = true → 1 ≤ V) (hU : false = true → 1 ≤ U) (hbV : nlen BW V ≤ 2000000000) (hbU : nlen BW U ≤ 2000000000)
    (hz : Pair w pz 72 (.bool false) (.slice none 0 0)) (hx : Pair w px 72 (.bool false) vx) (hy : Pair w py 72 (.bool false) vy) (ox : Own w b1 83 .u64 vx (nlen BW V) (dig BW V)) (oy : Own w b2 83 .u64 vy (nlen BW U) (dig BW U)) (hone : One w) :
    Calls Tryd.prog 47 #[.pointer (some ⟨pz, 0, none⟩), .pointer (some ⟨px, 0, none⟩), .pointer (some ⟨py, 0, none⟩)] w (IntPost pz false ((V &&& U)) w) := by
  obtain ⟨ax, cx, rfl, hlex, hcmx, hrdx, hltx⟩ := ox.parts
  obtain ⟨ay, cy, rfl, hley, hcmy, hrdy, hlty⟩ := oy.parts
  obtain ⟨a1, c1, hc1, hg1, hr1⟩ := hone
  have HS := Lib.hid (keep2 hz hx hy hg1)
  have HO := Lib.hid (And.intro hr1 (one_block hr1))
  have HZ := Lib.hid hz
  have x0 := hx.cell0
  have y0 := hy.cell0
  have HR := Lib.hid (And.intro hrdx (And.intro hrdy (And.intro hlex hley)))
  clear ox oy hrdx hrdy hr1 hz hx hy hltx hlty hlex hley
  go_enter Tryd.func47, Tryd.ntmps47
  go_wp2_with fail
  go_quiet (fail)
  obtain ⟨w1, hw1⟩ : ∃ W, W = w.drewN nq := ⟨_, rfl⟩
  have d1 : Below w.heap.size w w1 := by rw [hw1]; exact ⟨rfl, rfl, rfl, Nat.le_refl _, fun _ _ => rfl⟩
  have k1 := HS.out _ d1
  rw [← hw1]
  clear hw1 x0 y0 hg1
  obtain ⟨z1, x0, x1, y0, y1, hg1⟩ := k1
  have k1 := HS.out _ d1
  have KOP := Lib.hid (natAnd_any ax ay V U cx cy w1.drew (by omega) (by omega) HR.out.2.2.1 HR.out.2.2.2 (HR.out.1.below d1.drew) (HR.out.2.1.below d1.drew))
  have hRb := nlen_and_le V U
  have HRB := Lib.hid (show nlen BW (V &&& U) ≤ 2147483646 by omega)
  clear hRb
  go_wp2_with fail
  refine region_until (fun u => u.cell? ⟨pz, 1, none⟩ = some (.slice none 0 0) ∧ u.cell? ⟨px, 0, none⟩ = some (.bool false) ∧ u.cell? ⟨px, 1, none⟩ = some (.slice ax (nlen BW V) cx) ∧ u.cell? ⟨py, 0, none⟩ = some (.bool false) ∧ u.cell? ⟨py, 1, none⟩ = some (.slice ay (nlen BW U) cy) ∧ u.cell? ⟨0, 0, none⟩ = some (.slice a1 1 c1)) 16 (by kernel_rfl) k1 ?_
  refine until_take 0 [16] rfl rfl (by kernel_rfl) (by kernel_rfl) (by kernel_rfl) (by kernel_rfl) (fun _ _ _ h => h) (v := .pointer (some ⟨pz, 0, none⟩)) (.inl ⟨by rfl, ?_⟩) k1 ?_
  · rintro w' ⟨h1, h2, h3, h4, h5, h6⟩; go_simp
  simp only [Act.put, List.setIfInBounds_toArray, List.set_cons_zero, List.set_cons_succ]
  refine until_take 1 [16] rfl rfl (by kernel_rfl) (by kernel_rfl) (by kernel_rfl) (by kernel_rfl) (fun _ _ _ h => h) (v := .pointer (some ⟨pz, 0, none⟩)) (.inl ⟨by rfl, ?_⟩) k1 ?_
  · rintro w' ⟨h1, h2, h3, h4, h5, h6⟩; go_simp
  simp only [Act.put, List.setIfInBounds_toArray, List.set_cons_zero, List.set_cons_succ]
  refine until_take 2 [16] rfl rfl (by kernel_rfl) (by kernel_rfl) (by kernel_rfl) (by kernel_rfl) (fun _ _ _ h => h) (v := .pointer (some ⟨pz, 0, none⟩)) (.inl ⟨by rfl, ?_⟩) k1 ?_
  · rintro w' ⟨h1, h2, h3, h4, h5, h6⟩; go_simp
  simp only [Act.put, List.setIfInBounds_toArray, List.set_cons_zero, List.set_cons_succ]
  refine until_take 3 [16] rfl rfl (by kernel_rfl) (by kernel_rfl) (by kernel_rfl) (by kernel_rfl) (fun _ _ _ h => h) (v := .pointer (some ⟨pz, 1, none⟩)) (.inl ⟨by rfl, ?_⟩) k1 ?_
  · rintro w' ⟨h1, h2, h3, h4, h5, h6⟩; go_simp
  simp only [Act.put, List.setIfInBounds_toArray, List.set_cons_zero, List.set_cons_succ]
  refine until_take 4 [16] rfl rfl (by kernel_rfl) (by kernel_rfl) (by kernel_rfl) (by kernel_rfl) (fun _ _ _ h => h) (v := .slice none 0 0) (.inl ⟨by rfl, ?_⟩) k1 ?_
  · rintro w' ⟨h1, h2, h3, h4, h5, h6⟩; go_simp
  simp only [Act.put, List.setIfInBounds_toArray, List.set_cons_zero, List.set_cons_succ]
  refine until_take 5 [16] rfl rfl (by kernel_rfl) (by kernel_rfl) (by kernel_rfl) (by kernel_rfl) (fun _ _ _ h => h) (v := .pointer (some ⟨px, 0, none⟩)) (.inl ⟨by rfl, ?_⟩) k1 ?_
  · rintro w' ⟨h1, h2, h3, h4, h5, h6⟩; go_simp
  simp only [Act.put, List.setIfInBounds_toArray, List.set_cons_zero, List.set_cons_succ]
  refine until_take 6 [16] rfl rfl (by kernel_rfl) (by kernel_rfl) (by kernel_rfl) (by kernel_rfl) (fun _ _ _ h => h) (v := .pointer (some ⟨px, 0, none⟩)) (.inl ⟨by rfl, ?_⟩) k1 ?_
  · rintro w' ⟨h1, h2, h3, h4, h5, h6⟩; go_simp
  simp only [Act.put, List.setIfInBounds_toArray, List.set_cons_zero, List.set_cons_succ]
  refine until_take 7 [16] rfl rfl (by kernel_rfl) (by kernel_rfl) (by kernel_rfl) (by kernel_rfl) (fun _ _ _ h => h) (v := .pointer (some ⟨px, 1, none⟩)) (.inl ⟨by rfl, ?_⟩) k1 ?_
  · rintro w' ⟨h1, h2, h3, h4, h5, h6⟩; go_simp
  simp only [Act.put, List.setIfInBounds_toArray, List.set_cons_zero, List.set_cons_succ]
  refine until_take 8 [16] rfl rfl (by kernel_rfl) (by kernel_rfl) (by kernel_rfl) (by kernel_rfl) (fun _ _ _ h => h) (v := .slice ax (nlen BW V) cx) (.inl ⟨by rfl, ?_⟩) k1 ?_
  · rintro w' ⟨h1, h2, h3, h4, h5, h6⟩; go_simp
  simp only [Act.put, List.setIfInBounds_toArray, List.set_cons_zero, List.set_cons_succ]
  refine until_take 9 [16] rfl rfl (by kernel_rfl) (by kernel_rfl) (by kernel_rfl) (by kernel_rfl) (fun _ _ _ h => h) (v := .pointer (some ⟨py, 0, none⟩)) (.inl ⟨by rfl, ?_⟩) k1 ?_
  · rintro w' ⟨h1, h2, h3, h4, h5, h6⟩; go_simp
  simp only [Act.put, List.setIfInBounds_toArray, List.set_cons_zero, List.set_cons_succ]
  refine until_take 10 [16] rfl rfl (by kernel_rfl) (by kernel_rfl) (by kernel_rfl) (by kernel_rfl) (fun _ _ _ h => h) (v := .pointer (some ⟨py, 0, none⟩)) (.inl ⟨by rfl, ?_⟩) k1 ?_
  · rintro w' ⟨h1, h2, h3, h4, h5, h6⟩; go_simp
  simp only [Act.put, List.setIfInBounds_toArray, List.set_cons_zero, List.set_cons_succ]
  refine until_take 11 [16] rfl rfl (by kernel_rfl) (by kernel_rfl) (by kernel_rfl) (by kernel_rfl) (fun _ _ _ h => h) (v := .pointer (some ⟨py, 1, none⟩)) (.inl ⟨by rfl, ?_⟩) k1 ?_
  · rintro w' ⟨h1, h2, h3, h4, h5, h6⟩; go_simp
  simp only [Act.put, List.setIfInBounds_toArray, List.set_cons_zero, List.set_cons_succ]
  refine until_take 12 [16] rfl rfl (by kernel_rfl) (by kernel_rfl) (by kernel_rfl) (by kernel_rfl) (fun _ _ _ h => h) (v := .slice ay (nlen BW U) cy) (.inl ⟨by rfl, ?_⟩) k1 ?_
  · rintro w' ⟨h1, h2, h3, h4, h5, h6⟩; go_simp
  simp only [Act.put, List.setIfInBounds_toArray, List.set_cons_zero, List.set_cons_succ]
  refine until_one (j := 13) (by kernel_rfl) rfl (fun K hK => ?_)
  go_simp
  go_at_call 69
  refine KOP.out.mono ?_
  rintro e w5 ⟨v5, rfl, own5, b5⟩
  obtain ⟨a5, c5, rfl, hle5, hcm5, hrd5, hlt5⟩ := own5.parts
  have d5 := below_trans d1.drew b5
  refine hK.out _ _ (fun _ => HS.out _ d5) ?_
  clear hK K KOP
  have hz9 := HZ.out.below d5 HZ.out.lt
  have fz := hz9.free 1
  have fz0 := hz9.free 0
  have z90 := hz9.cell0
  have z91 := hz9.cell1
  have R9 := Lib.hid (And.intro own5 (And.intro d5 hz9))
  clear own5 hrd5 hlt5 hz9
  refine until_one (j := 14) (by kernel_rfl) rfl (fun K hK => ?_)
  go_simp
  refine hK.out _ _ (fun _ => HS.out _ d5) ?_
  clear hK K
  refine until_one (j := 15) (by kernel_rfl) rfl (fun K hK => ?_)
  go_simp
  refine hK.out _ _ (fun _ => HS.out _ d5) ?_
  clear hK K
  refine until_one (j := 16) (by kernel_rfl) rfl (fun K hK => ?_)
  go_simp
  refine hK.out _ _ (fun h => absurd rfl h) ?_
  refine until_done (by kernel_rfl) ?_ _
  clear hK K
  go_wp2
  go_ret
  obtain ⟨h1, h2⟩ := IntNew.set (neg := false) R9.out.2.2 (R9.out.1.base_le (d1.size)) (show pz < w.heap.size from HZ.out.lt)
  exact ⟨rfl, h1, grown_trans (grown_of_below R9.out.2.1 _) h2⟩

set_option maxHeartbeats 2000000 in
theorem intAnd_tt (pz px py b1 b2 V U : Nat) (vx vy : Value) (w : World) (hV : true = true → 1 ≤ V) (hU : true = true → 1 ≤ U) (hbV : nlen BW V ≤ 2000000000) (hbU : nlen BW U ≤ 2000000000)
    (hz : Pair w pz 72 (.bool false) (.slice none 0 0)) (hx : Pair w px 72 (.bool true) vx) (hy : Pair w py 72 (.bool true) vy) (ox : Own w b1 83 .u64 vx (nlen BW V) (dig BW V)) (oy : Own w b2 83 .u64 vy (nlen BW U) (dig BW U)) (hone : One w) :
    Calls Tryd.prog 47 #[.pointer (some ⟨pz, 0, none⟩), .pointer (some ⟨px, 0, none⟩), .pointer (some ⟨py, 0, none⟩)] w (IntPost pz true (((V - 1) ||| (U - 1)) + 1) w) := by
  obtain ⟨ax, cx, rfl, hlex, hcmx, hrdx, hltx⟩ := ox.parts
  obtain ⟨ay, cy, rfl, hley, hcmy, hrdy, hlty⟩ := oy.parts
  obtain ⟨a1, c1, hc1, hg1, hr1⟩ := hone
  have HS := Lib.hid (keep2 hz hx hy hg1)
  have HO := Lib.hid (And.intro hr1 (one_block hr1))
  have HZ := Lib.hid hz
  have x0 := hx.cell0
  have y0 := hy.cell0
  have KX := Lib.hid (fun W (h : Below w.heap.size w W) => sub_at (hV rfl) hlex hc1 hbV hrdx hr1 (reads_own_blocks ox) h)
  have KY := Lib.hid (fun W (h : Below w.heap.size w W) => sub_at (hU rfl) hley hc1 hbU hrdy hr1 (reads_own_blocks oy) h)
  have HR := Lib.hid (And.intro hrdx (And.intro hrdy (And.intro hlex hley)))
  clear ox oy hrdx hrdy hr1 hz hx hy hltx hlty hlex hley
  go_enter Tryd.func47, Tryd.ntmps47
  go_wp2_with fail
  go_quiet (fail)
  obtain ⟨w1, hw1⟩ : ∃ W, W = w.drewN nq := ⟨_, rfl⟩
  have d1 : Below w.heap.size w w1 := by rw [hw1]; exact ⟨rfl, rfl, rfl, Nat.le_refl _, fun _ _ => rfl⟩
  have k1 := HS.out _ d1
  rw [← hw1]
  clear hw1 x0 y0 hg1
  obtain ⟨z1, x0, x1, y0, y1, hg1⟩ := k1
  have k1 := HS.out _ d1
  go_wp2_with fail
  go_region_held3 (fun u => u.cell? ⟨pz, 1, none⟩ = some (.slice none 0 0) ∧ u.cell? ⟨px, 0, none⟩ = some (.bool true) ∧ u.cell? ⟨px, 1, none⟩ = some (.slice ax (nlen BW V) cx) ∧ u.cell? ⟨py, 0, none⟩ = some (.bool true) ∧ u.cell? ⟨py, 1, none⟩ = some (.slice ay (nlen BW U) cy) ∧ u.cell? ⟨0, 0, none⟩ = some (.slice a1 1 c1)) (first | exact k1 | exact k2) (first | (go_simp; go_at_call 58; refine (KX.out _ d1.drew).mono ?_; rintro e w2 ⟨v2, rfl, own2, b2⟩; obtain ⟨a2, c2, rfl, hle2, hcm2, hrd2, hlt2⟩ := own2.parts; have d2 := below_trans d1.drew b2; have k2 := HS.out _ d2; go_wp2_with fail))
  obtain ⟨z1, x0, x1, y0, y1, hg1⟩ := k2
  have k2 := HS.out _ d2
  go_wp2_with fail
  go_region_held3 (fun u => u.cell? ⟨pz, 1, none⟩ = some (.slice none 0 0) ∧ u.cell? ⟨px, 0, none⟩ = some (.bool true) ∧ u.cell? ⟨px, 1, none⟩ = some (.slice ax (nlen BW V) cx) ∧ u.cell? ⟨py, 0, none⟩ = some (.bool true) ∧ u.cell? ⟨py, 1, none⟩ = some (.slice ay (nlen BW U) cy) ∧ u.cell? ⟨0, 0, none⟩ = some (.slice a1 1 c1)) (first | exact k2 | exact k3) (first | (go_simp; go_at_call 58; refine (KY.out _ d2.drew).mono ?_; rintro e w3 ⟨v3, rfl, own3, b3⟩; obtain ⟨a3, c3, rfl, hle3, hcm3, hrd3, hlt3⟩ := own3.parts; have d3 := below_trans d2.drew b3; have k3 := HS.out _ d3; go_wp2_with fail))
  obtain ⟨z1, x0, x1, y0, y1, hg1⟩ := k3
  have k3 := HS.out _ d3
  have b3' : Below w2.heap.size w2 w3 := below_of_drew b3
  have hn2 : nlen BW (V - 1) ≤ nlen BW V := nlen_mono BW_one (Nat.sub_le _ _)
  have hn3 : nlen BW (U - 1) ≤ nlen BW U := nlen_mono BW_one (Nat.sub_le _ _)
  have KOP := Lib.hid (natOr_any a2 a3 (V - 1) (U - 1) c2 c3 w3.drew (by omega) (by omega) hle2 hle3 (hrd2.below b3'.drew) hrd3)
  have hRb := nlen_or_le (V - 1) (U - 1)
  have HRB := Lib.hid (show nlen BW ((V - 1) ||| (U - 1)) ≤ 2147483646 by omega)
  clear hRb
  clear own2 hrd2 hlt2 hle2 hcm2 own3 hrd3 hlt3 hle3 hcm3 b3'
  clear hn2 hn3
  go_wp2_with fail
  refine region_until (fun u => u.cell? ⟨pz, 1, none⟩ = some (.slice none 0 0) ∧ u.cell? ⟨px, 0, none⟩ = some (.bool true) ∧ u.cell? ⟨px, 1, none⟩ = some (.slice ax (nlen BW V) cx) ∧ u.cell? ⟨py, 0, none⟩ = some (.bool true) ∧ u.cell? ⟨py, 1, none⟩ = some (.slice ay (nlen BW U) cy) ∧ u.cell? ⟨0, 0, none⟩ = some (.slice a1 1 c1)) 16 (by kernel_rfl) k3 ?_
  refine until_take 0 [16] rfl rfl (by kernel_rfl) (by kernel_rfl) (by kernel_rfl) (by kernel_rfl) (fun _ _ _ h => h) (v := .pointer (some ⟨pz, 0, none⟩)) (.inl ⟨by rfl, ?_⟩) k3 ?_
  · rintro w' ⟨h1, h2, h3, h4, h5, h6⟩; go_simp
  simp only [Act.put, List.setIfInBounds_toArray, List.set_cons_zero, List.set_cons_succ]
  refine until_take 1 [16] rfl rfl (by kernel_rfl) (by kernel_rfl) (by kernel_rfl) (by kernel_rfl) (fun _ _ _ h => h) (v := .pointer (some ⟨pz, 0, none⟩)) (.inl ⟨by rfl, ?_⟩) k3 ?_
  · rintro w' ⟨h1, h2, h3, h4, h5, h6⟩; go_simp
  simp only [Act.put, List.setIfInBounds_toArray, List.set_cons_zero, List.set_cons_succ]
  refine until_take 2 [16] rfl rfl (by kernel_rfl) (by kernel_rfl) (by kernel_rfl) (by kernel_rfl) (fun _ _ _ h => h) (v := .pointer (some ⟨pz, 0, none⟩)) (.inl ⟨by rfl, ?_⟩) k3 ?_
  · rintro w' ⟨h1, h2, h3, h4, h5, h6⟩; go_simp
  simp only [Act.put, List.setIfInBounds_toArray, List.set_cons_zero, List.set_cons_succ]
  refine until_take 3 [16] rfl rfl (by kernel_rfl) (by kernel_rfl) (by kernel_rfl) (by kernel_rfl) (fun _ _ _ h => h) (v := .pointer (some ⟨pz, 1, none⟩)) (.inl ⟨by rfl, ?_⟩) k3 ?_
  · rintro w' ⟨h1, h2, h3, h4, h5, h6⟩; go_simp
  simp only [Act.put, List.setIfInBounds_toArray, List.set_cons_zero, List.set_cons_succ]
  refine until_take 4 [16] rfl rfl (by kernel_rfl) (by kernel_rfl) (by kernel_rfl) (by kernel_rfl) (fun _ _ _ h => h) (v := .slice none 0 0) (.inl ⟨by rfl, ?_⟩) k3 ?_
  · rintro w' ⟨h1, h2, h3, h4, h5, h6⟩; go_simp
  simp only [Act.put, List.setIfInBounds_toArray, List.set_cons_zero, List.set_cons_succ]
  refine until_take 5 [16] rfl rfl (by kernel_rfl) (by kernel_rfl) (by kernel_rfl) (by kernel_rfl) (fun _ _ _ h => h) (v := .pointer (some ⟨pz, 0, none⟩)) (.inl ⟨by rfl, ?_⟩) k3 ?_
  · rintro w' ⟨h1, h2, h3, h4, h5, h6⟩; go_simp
  simp only [Act.put, List.setIfInBounds_toArray, List.set_cons_zero, List.set_cons_succ]
  refine until_take 6 [16] rfl rfl (by kernel_rfl) (by kernel_rfl) (by kernel_rfl) (by kernel_rfl) (fun _ _ _ h => h) (v := .pointer (some ⟨pz, 0, none⟩)) (.inl ⟨by rfl, ?_⟩) k3 ?_
  · rintro w' ⟨h1, h2, h3, h4, h5, h6⟩; go_simp
  simp only [Act.put, List.setIfInBounds_toArray, List.set_cons_zero, List.set_cons_succ]
  refine until_take 7 [16] rfl rfl (by kernel_rfl) (by kernel_rfl) (by kernel_rfl) (by kernel_rfl) (fun _ _ _ h => h) (v := .pointer (some ⟨pz, 1, none⟩)) (.inl ⟨by rfl, ?_⟩) k3 ?_
  · rintro w' ⟨h1, h2, h3, h4, h5, h6⟩; go_simp
  simp only [Act.put, List.setIfInBounds_toArray, List.set_cons_zero, List.set_cons_succ]
  refine until_take 8 [16] rfl rfl (by kernel_rfl) (by kernel_rfl) (by kernel_rfl) (by kernel_rfl) (fun _ _ _ h => h) (v := .slice none 0 0) (.inl ⟨by rfl, ?_⟩) k3 ?_
  · rintro w' ⟨h1, h2, h3, h4, h5, h6⟩; go_simp
  simp only [Act.put, List.setIfInBounds_toArray, List.set_cons_zero, List.set_cons_succ]
  refine until_take 9 [16] rfl rfl (by kernel_rfl) (by kernel_rfl) (by kernel_rfl) (by kernel_rfl) (fun _ _ _ h => h) (v := .slice a2 (nlen BW (V - 1)) c2) (.inl ⟨by rfl, ?_⟩) k3 ?_
  · rintro w' ⟨h1, h2, h3, h4, h5, h6⟩; go_simp
  simp only [Act.put, List.setIfInBounds_toArray, List.set_cons_zero, List.set_cons_succ]
  refine until_take 10 [16] rfl rfl (by kernel_rfl) (by kernel_rfl) (by kernel_rfl) (by kernel_rfl) (fun _ _ _ h => h) (v := .slice a3 (nlen BW (U - 1)) c3) (.inl ⟨by rfl, ?_⟩) k3 ?_
  · rintro w' ⟨h1, h2, h3, h4, h5, h6⟩; go_simp
  simp only [Act.put, List.setIfInBounds_toArray, List.set_cons_zero, List.set_cons_succ]
  refine until_take 12 [16] rfl rfl (by kernel_rfl) (by kernel_rfl) (by kernel_rfl) (by kernel_rfl) (fun _ _ _ h => h) (v := .slice a1 1 c1) (.inl ⟨by rfl, ?_⟩) k3 ?_
  · rintro w' ⟨h1, h2, h3, h4, h5, h6⟩; go_simp
  simp only [Act.put, List.setIfInBounds_toArray, List.set_cons_zero, List.set_cons_succ]
  refine until_one (j := 11) (by kernel_rfl) rfl (fun K hK => ?_)
  go_simp
  go_at_call 68
  refine KOP.out.mono ?_
  rintro e w5 ⟨v5, rfl, own5, b5⟩
  obtain ⟨a5, c5, rfl, hle5, hcm5, hrd5, hlt5⟩ := own5.parts
  have d5 := below_trans d3.drew b5
  refine hK.out _ _ (fun _ => HS.out _ d5) ?_
  clear hK K KOP
  have KA := Lib.hid (natAdd1_any (.slice none 0 0) a5 a1 ((V - 1) ||| (U - 1)) c5 c1 w5.heap.size 0 (fun _ => 0) w5 (Room.nil _ _ _) (Nat.le_refl _) HRB.out hle5 hc1 hrd5 (HO.out.1.below d5) (reads_own_blocks own5) (fun a ha => Nat.lt_of_lt_of_le (HO.out.2 a ha) d5.size) (.inl rfl))
  clear own5 hrd5 hlt5 b5 hle5
  refine until_one (j := 13) (by kernel_rfl) rfl (fun K hK => ?_)
  go_simp
  go_at_call 63
  refine KA.out.mono ?_
  rintro e w6 ⟨v6, rfl, room6, b6⟩
  have own6 := room6.own
  obtain ⟨a6, c6, rfl, hle6, hcm6, hrd6, hlt6⟩ := own6.parts
  have d6 := below_trans d5 b6
  refine hK.out _ _ (fun _ => HS.out _ d6) ?_
  clear hK K KA
  have hz9 := HZ.out.below d6 HZ.out.lt
  have fz := hz9.free 1
  have fz0 := hz9.free 0
  have z90 := hz9.cell0
  have z91 := hz9.cell1
  have R9 := Lib.hid (And.intro own6 (And.intro d6 hz9))
  clear own6 hrd6 hlt6 hz9
  refine until_one (j := 14) (by kernel_rfl) rfl (fun K hK => ?_)
  go_simp
  refine hK.out _ _ (fun _ => HS.out _ d6) ?_
  clear hK K
  refine until_one (j := 15) (by kernel_rfl) rfl (fun K hK => ?_)
  go_simp
  refine hK.out _ _ (fun _ => HS.out _ d6) ?_
  clear hK K
  refine until_one (j := 16) (by kernel_rfl) rfl (fun K hK => ?_)
  go_simp
  refine hK.out _ _ (fun h => absurd rfl h) ?_
  refine until_done (by kernel_rfl) ?_ _
  clear hK K
  go_wp2
  go_ret
  obtain ⟨h1, h2⟩ := IntNew.set (neg := true) R9.out.2.2 (R9.out.1.base_le (d5.size)) (show pz < w.heap.size from HZ.out.lt)
  exact ⟨rfl, h1, grown_trans (grown_of_below R9.out.2.1 _) h2⟩

set_option maxHeartbeats 2000000 in
theorem intAnd_ft (pz px py b1 b2 V U : Nat) (vx vy : Value) (w : World) (hV : false = true → 1 ≤ V) (hU : true = true → 1 ≤ U) (hbV : nlen BW V ≤ 2000000000) (hbU : nlen BW U ≤ 2000000000)
    (hz : Pair w pz 72 (.bool false) (.slice none 0 0)) (hx : Pair w px 72 (.bool false) vx) (hy : Pair w py 72 (.bool true) vy) (ox : Own w b1 83 .u64 vx (nlen BW V) (dig BW V)) (oy : Own w b2 83 .u64 vy (nlen BW U) (dig BW U)) (hone : One w) :
    Calls Tryd.prog 47 #[.pointer (some ⟨pz, 0, none⟩), .pointer (some ⟨px, 0, none⟩), .pointer (some ⟨py, 0, none⟩)] w (IntPost pz false ((andn V (U - 1))) w) := by
  obtain ⟨ax, cx, rfl, hlex, hcmx, hrdx, hltx⟩ := ox.parts
  obtain ⟨ay, cy, rfl, hley, hcmy, hrdy, hlty⟩ := oy.parts
  obtain ⟨a1, c1, hc1, hg1, hr1⟩ := hone
  have HS := Lib.hid (keep2 hz hx hy hg1)
  have HO := Lib.hid (And.intro hr1 (one_block hr1))
  have HZ := Lib.hid hz
  have x0 := hx.cell0
  have y0 := hy.cell0
  have KY := Lib.hid (fun W (h : Below w.heap.size w W) => sub_at (hU rfl) hley hc1 hbU hrdy hr1 (reads_own_blocks oy) h)
  have HR := Lib.hid (And.intro hrdx (And.intro hrdy (And.intro hlex hley)))
  clear ox oy hrdx hrdy hr1 hz hx hy hltx hlty hlex hley
  go_enter Tryd.func47, Tryd.ntmps47
  go_wp2_with fail
  go_quiet (fail)
  obtain ⟨w1, hw1⟩ : ∃ W, W = w.drewN nq := ⟨_, rfl⟩
  have d1 : Below w.heap.size w w1 := by rw [hw1]; exact ⟨rfl, rfl, rfl, Nat.le_refl _, fun _ _ => rfl⟩
  have k1 := HS.out _ d1
  rw [← hw1]
  clear hw1 x0 y0 hg1
  obtain ⟨z1, x0, x1, y0, y1, hg1⟩ := k1
  have k1 := HS.out _ d1
  go_wp2_with fail
  go_region_held3 (fun u => u.cell? ⟨pz, 1, none⟩ = some (.slice none 0 0) ∧ u.cell? ⟨px, 0, none⟩ = some (.bool false) ∧ u.cell? ⟨px, 1, none⟩ = some (.slice ax (nlen BW V) cx) ∧ u.cell? ⟨py, 0, none⟩ = some (.bool true) ∧ u.cell? ⟨py, 1, none⟩ = some (.slice ay (nlen BW U) cy) ∧ u.cell? ⟨0, 0, none⟩ = some (.slice a1 1 c1)) (first | exact k1 | exact k3) (first | (go_simp; go_at_call 58; refine (KY.out _ d1.drew).mono ?_; rintro e w3 ⟨v3, rfl, own3, b3⟩; obtain ⟨a3, c3, rfl, hle3, hcm3, hrd3, hlt3⟩ := own3.parts; have d3 := below_trans d1.drew b3; have k3 := HS.out _ d3; go_wp2_with fail))
  obtain ⟨z1, x0, x1, y0, y1, hg1⟩ := k3
  have k3 := HS.out _ d3
  have hn3 : nlen BW (U - 1) ≤ nlen BW U := nlen_mono BW_one (Nat.sub_le _ _)
  have KOP := Lib.hid (natAndNot_any ax a3 V (U - 1) cx c3 w3.drew (by omega) (by omega) HR.out.2.2.1 hle3 (HR.out.1.below d3.drew) hrd3)
  have hRb := nlen_andn_le V (U - 1)
  have HRB := Lib.hid (show nlen BW (andn V (U - 1)) ≤ 2147483646 by omega)
  clear hRb
  clear own3 hrd3 hlt3 hle3 hcm3
  clear hn3
  go_wp2_with fail
  refine region_until (fun u => u.cell? ⟨pz, 1, none⟩ = some (.slice none 0 0) ∧ u.cell? ⟨px, 0, none⟩ = some (.bool false) ∧ u.cell? ⟨px, 1, none⟩ = some (.slice ax (nlen BW V) cx) ∧ u.cell? ⟨py, 0, none⟩ = some (.bool true) ∧ u.cell? ⟨py, 1, none⟩ = some (.slice ay (nlen BW U) cy) ∧ u.cell? ⟨0, 0, none⟩ = some (.slice a1 1 c1)) 13 (by kernel_rfl) k3 ?_
  refine until_take 0 [13] rfl rfl (by kernel_rfl) (by kernel_rfl) (by kernel_rfl) (by kernel_rfl) (fun _ _ _ h => h) (v := .pointer (some ⟨pz, 0, none⟩)) (.inl ⟨by rfl, ?_⟩) k3 ?_
  · rintro w' ⟨h1, h2, h3, h4, h5, h6⟩; go_simp
  simp only [Act.put, List.setIfInBounds_toArray, List.set_cons_zero, List.set_cons_succ]
  refine until_take 1 [13] rfl rfl (by kernel_rfl) (by kernel_rfl) (by kernel_rfl) (by kernel_rfl) (fun _ _ _ h => h) (v := .pointer (some ⟨pz, 0, none⟩)) (.inl ⟨by rfl, ?_⟩) k3 ?_
  · rintro w' ⟨h1, h2, h3, h4, h5, h6⟩; go_simp
  simp only [Act.put, List.setIfInBounds_toArray, List.set_cons_zero, List.set_cons_succ]
  refine until_take 2 [13] rfl rfl (by kernel_rfl) (by kernel_rfl) (by kernel_rfl) (by kernel_rfl) (fun _ _ _ h => h) (v := .pointer (some ⟨pz, 0, none⟩)) (.inl ⟨by rfl, ?_⟩) k3 ?_
  · rintro w' ⟨h1, h2, h3, h4, h5, h6⟩; go_simp
  simp only [Act.put, List.setIfInBounds_toArray, List.set_cons_zero, List.set_cons_succ]
  refine until_take 3 [13] rfl rfl (by kernel_rfl) (by kernel_rfl) (by kernel_rfl) (by kernel_rfl) (fun _ _ _ h => h) (v := .pointer (some ⟨pz, 1, none⟩)) (.inl ⟨by rfl, ?_⟩) k3 ?_
  · rintro w' ⟨h1, h2, h3, h4, h5, h6⟩; go_simp
  simp only [Act.put, List.setIfInBounds_toArray, List.set_cons_zero, List.set_cons_succ]
  refine until_take 4 [13] rfl rfl (by kernel_rfl) (by kernel_rfl) (by kernel_rfl) (by kernel_rfl) (fun _ _ _ h => h) (v := .slice none 0 0) (.inl ⟨by rfl, ?_⟩) k3 ?_
  · rintro w' ⟨h1, h2, h3, h4, h5, h6⟩; go_simp
  simp only [Act.put, List.setIfInBounds_toArray, List.set_cons_zero, List.set_cons_succ]
  refine until_take 5 [13] rfl rfl (by kernel_rfl) (by kernel_rfl) (by kernel_rfl) (by kernel_rfl) (fun _ _ _ h => h) (v := .pointer (some ⟨px, 0, none⟩)) (.inl ⟨by rfl, ?_⟩) k3 ?_
  · rintro w' ⟨h1, h2, h3, h4, h5, h6⟩; go_simp
  simp only [Act.put, List.setIfInBounds_toArray, List.set_cons_zero, List.set_cons_succ]
  refine until_take 6 [13] rfl rfl (by kernel_rfl) (by kernel_rfl) (by kernel_rfl) (by kernel_rfl) (fun _ _ _ h => h) (v := .pointer (some ⟨px, 0, none⟩)) (.inl ⟨by rfl, ?_⟩) k3 ?_
  · rintro w' ⟨h1, h2, h3, h4, h5, h6⟩; go_simp
  simp only [Act.put, List.setIfInBounds_toArray, List.set_cons_zero, List.set_cons_succ]
  refine until_take 7 [13] rfl rfl (by kernel_rfl) (by kernel_rfl) (by kernel_rfl) (by kernel_rfl) (fun _ _ _ h => h) (v := .pointer (some ⟨px, 1, none⟩)) (.inl ⟨by rfl, ?_⟩) k3 ?_
  · rintro w' ⟨h1, h2, h3, h4, h5, h6⟩; go_simp
  simp only [Act.put, List.setIfInBounds_toArray, List.set_cons_zero, List.set_cons_succ]
  refine until_take 8 [13] rfl rfl (by kernel_rfl) (by kernel_rfl) (by kernel_rfl) (by kernel_rfl) (fun _ _ _ h => h) (v := .slice ax (nlen BW V) cx) (.inl ⟨by rfl, ?_⟩) k3 ?_
  · rintro w' ⟨h1, h2, h3, h4, h5, h6⟩; go_simp
  simp only [Act.put, List.setIfInBounds_toArray, List.set_cons_zero, List.set_cons_succ]
  refine until_take 9 [13] rfl rfl (by kernel_rfl) (by kernel_rfl) (by kernel_rfl) (by kernel_rfl) (fun _ _ _ h => h) (v := .slice a3 (nlen BW (U - 1)) c3) (.inl ⟨by rfl, ?_⟩) k3 ?_
  · rintro w' ⟨h1, h2, h3, h4, h5, h6⟩; go_simp
  simp only [Act.put, List.setIfInBounds_toArray, List.set_cons_zero, List.set_cons_succ]
  refine until_one (j := 10) (by kernel_rfl) rfl (fun K hK => ?_)
  go_simp
  go_at_call 70
  refine KOP.out.mono ?_
  rintro e w5 ⟨v5, rfl, own5, b5⟩
  obtain ⟨a5, c5, rfl, hle5, hcm5, hrd5, hlt5⟩ := own5.parts
  have d5 := below_trans d3.drew b5
  refine hK.out _ _ (fun _ => HS.out _ d5) ?_
  clear hK K KOP
  have hz9 := HZ.out.below d5 HZ.out.lt
  have fz := hz9.free 1
  have fz0 := hz9.free 0
  have z90 := hz9.cell0
  have z91 := hz9.cell1
  have R9 := Lib.hid (And.intro own5 (And.intro d5 hz9))
  clear own5 hrd5 hlt5 hz9
  refine until_one (j := 11) (by kernel_rfl) rfl (fun K hK => ?_)
  go_simp
  refine hK.out _ _ (fun _ => HS.out _ d5) ?_
  clear hK K
  refine until_one (j := 12) (by kernel_rfl) rfl (fun K hK => ?_)
  go_simp
  refine hK.out _ _ (fun _ => HS.out _ d5) ?_
  clear hK K
  refine until_one (j := 13) (by kernel_rfl) rfl (fun K hK => ?_)
  go_simp
  refine hK.out _ _ (fun h => absurd rfl h) ?_
  refine until_done (by kernel_rfl) ?_ _
  clear hK K
  go_wp2
  go_ret
  obtain ⟨h1, h2⟩ := IntNew.set (neg := false) R9.out.2.2 (R9.out.1.base_le (d3.size)) (show pz < w.heap.size from HZ.out.lt)
  exact ⟨rfl, h1, grown_trans (grown_of_below R9.out.2.1 _) h2⟩

set_option maxHeartbeats 2000000 in
theorem intAnd_tf (pz px py b1 b2 V U : Nat) (vx vy : Value) (w : World) (hV : true = true → 1 ≤ V) (hU : false = true → 1 ≤ U) (hbV : nlen BW V ≤ 2000000000) (hbU : nlen BW U ≤ 2000000000)
    (hz : Pair w pz 72 (.bool false) (.slice none 0 0)) (hx : Pair w px 72 (.bool true) vx) (hy : Pair w py 72 (.bool false) vy) (ox : Own w b1 83 .u64 vx (nlen BW V) (dig BW V)) (oy : Own w b2 83 .u64 vy (nlen BW U) (dig BW U)) (hone : One w) :
    Calls Tryd.prog 47 #[.pointer (some ⟨pz, 0, none⟩), .pointer (some ⟨px, 0, none⟩), .pointer (some ⟨py, 0, none⟩)] w (IntPost pz false ((andn U (V - 1))) w) := by
  obtain ⟨ax, cx, rfl, hlex, hcmx, hrdx, hltx⟩ := ox.parts
  obtain ⟨ay, cy, rfl, hley, hcmy, hrdy, hlty⟩ := oy.parts
  obtain ⟨a1, c1, hc1, hg1, hr1⟩ := hone
  have HS := Lib.hid (keep2 hz hx hy hg1)
  have HO := Lib.hid (And.intro hr1 (one_block hr1))
  have HZ := Lib.hid hz
  have x0 := hx.cell0
  have y0 := hy.cell0
  have KX := Lib.hid (fun W (h : Below w.heap.size w W) => sub_at (hV rfl) hlex hc1 hbV hrdx hr1 (reads_own_blocks ox) h)
  have HR := Lib.hid (And.intro hrdx (And.intro hrdy (And.intro hlex hley)))
  clear ox oy hrdx hrdy hr1 hz hx hy hltx hlty hlex hley
  go_enter Tryd.func47, Tryd.ntmps47
  go_wp2_with fail
  go_quiet (fail)
  obtain ⟨w1, hw1⟩ : ∃ W, W = w.drewN nq := ⟨_, rfl⟩
  have d1 : Below w.heap.size w w1 := by rw [hw1]; exact ⟨rfl, rfl, rfl, Nat.le_refl _, fun _ _ => rfl⟩
  have k1 := HS.out _ d1
  rw [← hw1]
  clear hw1 x0 y0 hg1
  obtain ⟨z1, x0, x1, y0, y1, hg1⟩ := k1
  have k1 := HS.out _ d1
  go_wp2_with fail
  go_region_held3 (fun u => u.cell? ⟨pz, 1, none⟩ = some (.slice none 0 0) ∧ u.cell? ⟨px, 0, none⟩ = some (.bool true) ∧ u.cell? ⟨px, 1, none⟩ = some (.slice ax (nlen BW V) cx) ∧ u.cell? ⟨py, 0, none⟩ = some (.bool false) ∧ u.cell? ⟨py, 1, none⟩ = some (.slice ay (nlen BW U) cy) ∧ u.cell? ⟨0, 0, none⟩ = some (.slice a1 1 c1)) (first | exact k1 | exact k2) (first | (go_simp; go_at_call 58; refine (KX.out _ d1.drew).mono ?_; rintro e w2 ⟨v2, rfl, own2, b2⟩; obtain ⟨a2, c2, rfl, hle2, hcm2, hrd2, hlt2⟩ := own2.parts; have d2 := below_trans d1.drew b2; have k2 := HS.out _ d2; go_wp2_with fail))
  obtain ⟨z1, x0, x1, y0, y1, hg1⟩ := k2
  have k2 := HS.out _ d2
  have hn2 : nlen BW (V - 1) ≤ nlen BW V := nlen_mono BW_one (Nat.sub_le _ _)
  have KOP := Lib.hid (natAndNot_any ay a2 U (V - 1) cy c2 w2.drew (by omega) (by omega) HR.out.2.2.2 hle2 (HR.out.2.1.below d2.drew) hrd2)
  have hRb := nlen_andn_le U (V - 1)
  have HRB := Lib.hid (show nlen BW (andn U (V - 1)) ≤ 2147483646 by omega)
  clear hRb
  clear own2 hrd2 hlt2 hle2 hcm2
  clear hn2
  go_wp2_with fail
  refine region_until (fun u => u.cell? ⟨pz, 1, none⟩ = some (.slice none 0 0) ∧ u.cell? ⟨px, 0, none⟩ = some (.bool true) ∧ u.cell? ⟨px, 1, none⟩ = some (.slice ax (nlen BW V) cx) ∧ u.cell? ⟨py, 0, none⟩ = some (.bool false) ∧ u.cell? ⟨py, 1, none⟩ = some (.slice ay (nlen BW U) cy) ∧ u.cell? ⟨0, 0, none⟩ = some (.slice a1 1 c1)) 13 (by kernel_rfl) k2 ?_
  refine until_take 0 [13] rfl rfl (by kernel_rfl) (by kernel_rfl) (by kernel_rfl) (by kernel_rfl) (fun _ _ _ h => h) (v := .pointer (some ⟨pz, 0, none⟩)) (.inl ⟨by rfl, ?_⟩) k2 ?_
  · rintro w' ⟨h1, h2, h3, h4, h5, h6⟩; go_simp
  simp only [Act.put, List.setIfInBounds_toArray, List.set_cons_zero, List.set_cons_succ]
  refine until_take 1 [13] rfl rfl (by kernel_rfl) (by kernel_rfl) (by kernel_rfl) (by kernel_rfl) (fun _ _ _ h => h) (v := .pointer (some ⟨pz, 0, none⟩)) (.inl ⟨by rfl, ?_⟩) k2 ?_
  · rintro w' ⟨h1, h2, h3, h4, h5, h6⟩; go_simp
  simp only [Act.put, List.setIfInBounds_toArray, List.set_cons_zero, List.set_cons_succ]
  refine until_take 2 [13] rfl rfl (by kernel_rfl) (by kernel_rfl) (by kernel_rfl) (by kernel_rfl) (fun _ _ _ h => h) (v := .pointer (some ⟨pz, 0, none⟩)) (.inl ⟨by rfl, ?_⟩) k2 ?_
  · rintro w' ⟨h1, h2, h3, h4, h5, h6⟩; go_simp
  simp only [Act.put, List.setIfInBounds_toArray, List.set_cons_zero, List.set_cons_succ]
  refine until_take 3 [13] rfl rfl (by kernel_rfl) (by kernel_rfl) (by kernel_rfl) (by kernel_rfl) (fun _ _ _ h => h) (v := .pointer (some ⟨pz, 1, none⟩)) (.inl ⟨by rfl, ?_⟩) k2 ?_
  · rintro w' ⟨h1, h2, h3, h4, h5, h6⟩; go_simp
  simp only [Act.put, List.setIfInBounds_toArray, List.set_cons_zero, List.set_cons_succ]
  refine until_take 4 [13] rfl rfl (by kernel_rfl) (by kernel_rfl) (by kernel_rfl) (by kernel_rfl) (fun _ _ _ h => h) (v := .slice none 0 0) (.inl ⟨by rfl, ?_⟩) k2 ?_
  · rintro w' ⟨h1, h2, h3, h4, h5, h6⟩; go_simp
  simp only [Act.put, List.setIfInBounds_toArray, List.set_cons_zero, List.set_cons_succ]
  refine until_take 5 [13] rfl rfl (by kernel_rfl) (by kernel_rfl) (by kernel_rfl) (by kernel_rfl) (fun _ _ _ h => h) (v := .pointer (some ⟨py, 0, none⟩)) (.inl ⟨by rfl, ?_⟩) k2 ?_
  · rintro w' ⟨h1, h2, h3, h4, h5, h6⟩; go_simp
  simp only [Act.put, List.setIfInBounds_toArray, List.set_cons_zero, List.set_cons_succ]
  refine until_take 6 [13] rfl rfl (by kernel_rfl) (by kernel_rfl) (by kernel_rfl) (by kernel_rfl) (fun _ _ _ h => h) (v := .pointer (some ⟨py, 0, none⟩)) (.inl ⟨by rfl, ?_⟩) k2 ?_
  · rintro w' ⟨h1, h2, h3, h4, h5, h6⟩; go_simp
  simp only [Act.put, List.setIfInBounds_toArray, List.set_cons_zero, List.set_cons_succ]
  refine until_take 7 [13] rfl rfl (by kernel_rfl) (by kernel_rfl) (by kernel_rfl) (by kernel_rfl) (fun _ _ _ h => h) (v := .pointer (some ⟨py, 1, none⟩)) (.inl ⟨by rfl, ?_⟩) k2 ?_
  · rintro w' ⟨h1, h2, h3, h4, h5, h6⟩; go_simp
  simp only [Act.put, List.setIfInBounds_toArray, List.set_cons_zero, List.set_cons_succ]
  refine until_take 8 [13] rfl rfl (by kernel_rfl) (by kernel_rfl) (by kernel_rfl) (by kernel_rfl) (fun _ _ _ h => h) (v := .slice ay (nlen BW U) cy) (.inl ⟨by rfl, ?_⟩) k2 ?_
  · rintro w' ⟨h1, h2, h3, h4, h5, h6⟩; go_simp
  simp only [Act.put, List.setIfInBounds_toArray, List.set_cons_zero, List.set_cons_succ]
  refine until_take 9 [13] rfl rfl (by kernel_rfl) (by kernel_rfl) (by kernel_rfl) (by kernel_rfl) (fun _ _ _ h => h) (v := .slice a2 (nlen BW (V - 1)) c2) (.inl ⟨by rfl, ?_⟩) k2 ?_
  · rintro w' ⟨h1, h2, h3, h4, h5, h6⟩; go_simp
  simp only [Act.put, List.setIfInBounds_toArray, List.set_cons_zero, List.set_cons_succ]
  refine until_one (j := 10) (by kernel_rfl) rfl (fun K hK => ?_)
  go_simp
  go_at_call 70
  refine KOP.out.mono ?_
  rintro e w5 ⟨v5, rfl, own5, b5⟩
  obtain ⟨a5, c5, rfl, hle5, hcm5, hrd5, hlt5⟩ := own5.parts
  have d5 := below_trans d2.drew b5
  refine hK.out _ _ (fun _ => HS.out _ d5) ?_
  clear hK K KOP
  have hz9 := HZ.out.below d5 HZ.out.lt
  have fz := hz9.free 1
  have fz0 := hz9.free 0
  have z90 := hz9.cell0
  have z91 := hz9.cell1
  have R9 := Lib.hid (And.intro own5 (And.intro d5 hz9))
  clear own5 hrd5 hlt5 hz9
  refine until_one (j := 11) (by kernel_rfl) rfl (fun K hK => ?_)
  go_simp
  refine hK.out _ _ (fun _ => HS.out _ d5) ?_
  clear hK K
  refine until_one (j := 12) (by kernel_rfl) rfl (fun K hK => ?_)
  go_simp
  refine hK.out _ _ (fun _ => HS.out _ d5) ?_
  clear hK K
  refine until_one (j := 13) (by kernel_rfl) rfl (fun K hK => ?_)
  go_simp
  refine hK.out _ _ (fun h => absurd rfl h) ?_
  refine until_done (by kernel_rfl) ?_ _
  clear hK K
  go_wp2
  go_ret
  obtain ⟨h1, h2⟩ := IntNew.set (neg := false) R9.out.2.2 (R9.out.1.base_le (d2.size)) (show pz < w.heap.size from HZ.out.lt)
  exact ⟨rfl, h1, grown_trans (grown_of_below R9.out.2.1 _) h2⟩

set_option maxHeartbeats 2000000 in
theorem intOr_ff (pz px py b1 b2 V U : Nat) (vx vy : Value) (w : World) (hV : false = true → 1 ≤ V) (hU : false = true → 1 ≤ U) (hbV : nlen BW V ≤ 2000000000) (hbU : nlen BW U ≤ 2000000000)
    (hz : Pair w pz 72 (.bool false) (.slice none 0 0)) (hx : Pair w px 72 (.bool false) vx) (hy : Pair w py 72 (.bool false) vy) (ox : Own w b1 83 .u64 vx (nlen BW V) (dig BW V)) (oy : Own w b2 83 .u64 vy (nlen BW U) (dig BW U)) (hone : One w) :
    Calls Tryd.prog 48 #[.pointer (some ⟨pz, 0, none⟩), .pointer (some ⟨px, 0, none⟩), .pointer (some ⟨py, 0, none⟩)] w (IntPost pz false ((V ||| U)) w) := by
  obtain ⟨ax, cx, rfl, hlex, hcmx, hrdx, hltx⟩ := ox.parts
  obtain ⟨ay, cy, rfl, hley, hcmy, hrdy, hlty⟩ := oy.parts
  obtain ⟨a1, c1, hc1, hg1, hr1⟩ := hone
  have HS := Lib.hid (keep2 hz hx hy hg1)
  have HO := Lib.hid (And.intro hr1 (one_block hr1))
  have HZ := Lib.hid hz
  have x0 := hx.cell0
  have y0 := hy.cell0
  have HR := Lib.hid (And.intro hrdx (And.intro hrdy (And.intro hlex hley)))
  clear ox oy hrdx hrdy hr1 hz hx hy hltx hlty hlex hley
  go_enter Tryd.func48, Tryd.ntmps48
  go_wp2_with fail
  go_quiet (fail)
  obtain ⟨w1, hw1⟩ : ∃ W, W = w.drewN nq := ⟨_, rfl⟩
  have d1 : Below w.heap.size w w1 := by rw [hw1]; exact ⟨rfl, rfl, rfl, Nat.le_refl _, fun _ _ => rfl⟩
  have k1 := HS.out _ d1
  rw [← hw1]
  clear hw1 x0 y0 hg1
  obtain ⟨z1, x0, x1, y0, y1, hg1⟩ := k1
  have k1 := HS.out _ d1
  have KOP := Lib.hid (natOr_any ax ay V U cx cy w1.drew (by omega) (by omega) HR.out.2.2.1 HR.out.2.2.2 (HR.out.1.below d1.drew) (HR.out.2.1.below d1.drew))
  have hRb := nlen_or_le V U
  have HRB := Lib.hid (show nlen BW (V ||| U) ≤ 2147483646 by omega)
  clear hRb
  go_wp2_with fail
  refine region_until (fun u => u.cell? ⟨pz, 1, none⟩ = some (.slice none 0 0) ∧ u.cell? ⟨px, 0, none⟩ = some (.bool false) ∧ u.cell? ⟨px, 1, none⟩ = some (.slice ax (nlen BW V) cx) ∧ u.cell? ⟨py, 0, none⟩ = some (.bool false) ∧ u.cell? ⟨py, 1, none⟩ = some (.slice ay (nlen BW U) cy) ∧ u.cell? ⟨0, 0, none⟩ = some (.slice a1 1 c1)) 16 (by kernel_rfl) k1 ?_
  refine until_take 0 [16] rfl rfl (by kernel_rfl) (by kernel_rfl) (by kernel_rfl) (by kernel_rfl) (fun _ _ _ h => h) (v := .pointer (some ⟨pz, 0, none⟩)) (.inl ⟨by rfl, ?_⟩) k1 ?_
  · rintro w' ⟨h1, h2, h3, h4, h5, h6⟩; go_simp
  simp only [Act.put, List.setIfInBounds_toArray, List.set_cons_zero, List.set_cons_succ]
  refine until_take 1 [16] rfl rfl (by kernel_rfl) (by kernel_rfl) (by kernel_rfl) (by kernel_rfl) (fun _ _ _ h => h) (v := .pointer (some ⟨pz, 0, none⟩)) (.inl ⟨by rfl, ?_⟩) k1 ?_
  · rintro w' ⟨h1, h2, h3, h4, h5, h6⟩; go_simp
  simp only [Act.put, List.setIfInBounds_toArray, List.set_cons_zero, List.set_cons_succ]
  refine until_take 2 [16] rfl rfl (by kernel_rfl) (by kernel_rfl) (by kernel_rfl) (by kernel_rfl) (fun _ _ _ h => h) (v := .pointer (some ⟨pz, 0, none⟩)) (.inl ⟨by rfl, ?_⟩) k1 ?_
  · rintro w' ⟨h1, h2, h3, h4, h5, h6⟩; go_simp
  simp only [Act.put, List.setIfInBounds_toArray, List.set_cons_zero, List.set_cons_succ]
  refine until_take 3 [16] rfl rfl (by kernel_rfl) (by kernel_rfl) (by kernel_rfl) (by kernel_rfl) (fun _ _ _ h => h) (v := .pointer (some ⟨pz, 1, none⟩)) (.inl ⟨by rfl, ?_⟩) k1 ?_
  · rintro w' ⟨h1, h2, h3, h4, h5, h6⟩; go_simp
  simp only [Act.put, List.setIfInBounds_toArray, List.set_cons_zero, List.set_cons_succ]
  refine until_take 4 [16] rfl rfl (by kernel_rfl) (by kernel_rfl) (by kernel_rfl) (by kernel_rfl) (fun _ _ _ h => h) (v := .slice none 0 0) (.inl ⟨by rfl, ?_⟩) k1 ?_
  · rintro w' ⟨h1, h2, h3, h4, h5, h6⟩; go_simp
  simp only [Act.put, List.setIfInBounds_toArray, List.set_cons_zero, List.set_cons_succ]
  refine until_take 5 [16] rfl rfl (by kernel_rfl) (by kernel_rfl) (by kernel_rfl) (by kernel_rfl) (fun _ _ _ h => h) (v := .pointer (some ⟨px, 0, none⟩)) (.inl ⟨by rfl, ?_⟩) k1 ?_
  · rintro w' ⟨h1, h2, h3, h4, h5, h6⟩; go_simp
  simp only [Act.put, List.setIfInBounds_toArray, List.set_cons_zero, List.set_cons_succ]
  refine until_take 6 [16] rfl rfl (by kernel_rfl) (by kernel_rfl) (by kernel_rfl) (by kernel_rfl) (fun _ _ _ h => h) (v := .pointer (some ⟨px, 0, none⟩)) (.inl ⟨by rfl, ?_⟩) k1 ?_
  · rintro w' ⟨h1, h2, h3, h4, h5, h6⟩; go_simp
  simp only [Act.put, List.setIfInBounds_toArray, List.set_cons_zero, List.set_cons_succ]
  refine until_take 7 [16] rfl rfl (by kernel_rfl) (by kernel_rfl) (by kernel_rfl) (by kernel_rfl) (fun _ _ _ h => h) (v := .pointer (some ⟨px, 1, none⟩)) (.inl ⟨by rfl, ?_⟩) k1 ?_
  · rintro w' ⟨h1, h2, h3, h4, h5, h6⟩; go_simp
  simp only [Act.put, List.setIfInBounds_toArray, List.set_cons_zero, List.set_cons_succ]
  refine until_take 8 [16] rfl rfl (by kernel_rfl) (by kernel_rfl) (by kernel_rfl) (by kernel_rfl) (fun _ _ _ h => h) (v := .slice ax (nlen BW V) cx) (.inl ⟨by rfl, ?_⟩) k1 ?_
  · rintro w' ⟨h1, h2, h3, h4, h5, h6⟩; go_simp
  simp only [Act.put, List.setIfInBounds_toArray, List.set_cons_zero, List.set_cons_succ]
  refine until_take 9 [16] rfl rfl (by kernel_rfl) (by kernel_rfl) (by kernel_rfl) (by kernel_rfl) (fun _ _ _ h => h) (v := .pointer (some ⟨py, 0, none⟩)) (.inl ⟨by rfl, ?_⟩) k1 ?_
  · rintro w' ⟨h1, h2, h3, h4, h5, h6⟩; go_simp
  simp only [Act.put, List.setIfInBounds_toArray, List.set_cons_zero, List.set_cons_succ]
  refine until_take 10 [16] rfl rfl (by kernel_rfl) (by kernel_rfl) (by kernel_rfl) (by kernel_rfl) (fun _ _ _ h => h) (v := .pointer (some ⟨py, 0, none⟩)) (.inl ⟨by rfl, ?_⟩) k1 ?_
  · rintro w' ⟨h1, h2, h3, h4, h5, h6⟩; go_simp
  simp only [Act.put, List.setIfInBounds_toArray, List.set_cons_zero, List.set_cons_succ]
  refine until_take 11 [16] rfl rfl (by kernel_rfl) (by kernel_rfl) (by kernel_rfl) (by kernel_rfl) (fun _ _ _ h => h) (v := .pointer (some ⟨py, 1, none⟩)) (.inl ⟨by rfl, ?_⟩) k1 ?_
  · rintro w' ⟨h1, h2, h3, h4, h5, h6⟩; go_simp
  simp only [Act.put, List.setIfInBounds_toArray, List.set_cons_zero, List.set_cons_succ]
  refine until_take 12 [16] rfl rfl (by kernel_rfl) (by kernel_rfl) (by kernel_rfl) (by kernel_rfl) (fun _ _ _ h => h) (v := .slice ay (nlen BW U) cy) (.inl ⟨by rfl, ?_⟩) k1 ?_
  · rintro w' ⟨h1, h2, h3, h4, h5, h6⟩; go_simp
  simp only [Act.put, List.setIfInBounds_toArray, List.set_cons_zero, List.set_cons_succ]
  refine until_one (j := 13) (by kernel_rfl) rfl (fun K hK => ?_)
  go_simp
  go_at_call 68
  refine KOP.out.mono ?_
  rintro e w5 ⟨v5, rfl, own5, b5⟩
  obtain ⟨a5, c5, rfl, hle5, hcm5, hrd5, hlt5⟩ := own5.parts
  have d5 := below_trans d1.drew b5
  refine hK.out _ _ (fun _ => HS.out _ d5) ?_
  clear hK K KOP
  have hz9 := HZ.out.below d5 HZ.out.lt
  have fz := hz9.free 1
  have fz0 := hz9.free 0
  have z90 := hz9.cell0
  have z91 := hz9.cell1
  have R9 := Lib.hid (And.intro own5 (And.intro d5 hz9))
  clear own5 hrd5 hlt5 hz9
  refine until_one (j := 14) (by kernel_rfl) rfl (fun K hK => ?_)
  go_simp
  refine hK.out _ _ (fun _ => HS.out _ d5) ?_
  clear hK K
  refine until_one (j := 15) (by kernel_rfl) rfl (fun K hK => ?_)
  go_simp
  refine hK.out _ _ (fun _ => HS.out _ d5) ?_
  clear hK K
  refine until_one (j := 16) (by kernel_rfl) rfl (fun K hK => ?_)
  go_simp
  refine hK.out _ _ (fun h => absurd rfl h) ?_
  refine until_done (by kernel_rfl) ?_ _
  clear hK K
  go_wp2
  go_ret
  obtain ⟨h1, h2⟩ := IntNew.set (neg := false) R9.out.2.2 (R9.out.1.base_le (d1.size)) (show pz < w.heap.size from HZ.out.lt)
  exact ⟨rfl, h1, grown_trans (grown_of_below R9.out.2.1 _) h2⟩

set_option maxHeartbeats 2000000 in
theorem intOr_tt (pz px py b1 b2 V U : Nat) (vx vy : Value) (w : World) (hV : true = true → 1 ≤ V) (hU : true = true → 1 ≤ U) (hbV : nlen BW V ≤ 2000000000) (hbU : nlen BW U ≤ 2000000000)
    (hz : Pair w pz 72 (.bool false) (.slice none 0 0)) (hx : Pair w px 72 (.bool true) vx) (hy : Pair w py 72 (.bool true) vy) (ox : Own w b1 83 .u64 vx (nlen BW V) (dig BW V)) (oy : Own w b2 83 .u64 vy (nlen BW U) (dig BW U)) (hone : One w) :
    Calls Tryd.prog 48 #[.pointer (some ⟨pz, 0, none⟩), .pointer (some ⟨px, 0, none⟩), .pointer (some ⟨py, 0, none⟩)] w (IntPost pz true (((V - 1) &&& (U - 1)) + 1) w) := by
  obtain ⟨ax, cx, rfl, hlex, hcmx, hrdx, hltx⟩ := ox.parts
  obtain ⟨ay, cy, rfl, hley, hcmy, hrdy, hlty⟩ := oy.parts
  obtain ⟨a1, c1, hc1, hg1, hr1⟩ := hone
  have HS := Lib.hid (keep2 hz hx hy hg1)
  have HO := Lib.hid (And.intro hr1 (one_block hr1))
  have HZ := Lib.hid hz
  have x0 := hx.cell0
  have y0 := hy.cell0
  have KX := Lib.hid (fun W (h : Below w.heap.size w W) => sub_at (hV rfl) hlex hc1 hbV hrdx hr1 (reads_own_blocks ox) h)
  have KY := Lib.hid (fun W (h : Below w.heap.size w W) => sub_at (hU rfl) hley hc1 hbU hrdy hr1 (reads_own_blocks oy) h)
  have HR := Lib.hid (And.intro hrdx (And.intro hrdy (And.intro hlex hley)))
  clear ox oy hrdx hrdy hr1 hz hx hy hltx hlty hlex hley
  go_enter Tryd.func48, Tryd.ntmps48
  go_wp2_with fail
  go_quiet (fail)
  obtain ⟨w1, hw1⟩ : ∃ W, W = w.drewN nq := ⟨_, rfl⟩
  have d1 : Below w.heap.size w w1 := by rw [hw1]; exact ⟨rfl, rfl, rfl, Nat.le_refl _, fun _ _ => rfl⟩
  have k1 := HS.out _ d1
  rw [← hw1]
  clear hw1 x0 y0 hg1
  obtain ⟨z1, x0, x1, y0, y1, hg1⟩ := k1
  have k1 := HS.out _ d1
  go_wp2_with fail
  go_region_held3 (fun u => u.cell? ⟨pz, 1, none⟩ = some (.slice none 0 0) ∧ u.cell? ⟨px, 0, none⟩ = some (.bool true) ∧ u.cell? ⟨px, 1, none⟩ = some (.slice ax (nlen BW V) cx) ∧ u.cell? ⟨py, 0, none⟩ = some (.bool true) ∧ u.cell? ⟨py, 1, none⟩ = some (.slice ay (nlen BW U) cy) ∧ u.cell? ⟨0, 0, none⟩ = some (.slice a1 1 c1)) (first | exact k1 | exact k2) (first | (go_simp; go_at_call 58; refine (KX.out _ d1.drew).mono ?_; rintro e w2 ⟨v2, rfl, own2, b2⟩; obtain ⟨a2, c2, rfl, hle2, hcm2, hrd2, hlt2⟩ := own2.parts; have d2 := below_trans d1.drew b2; have k2 := HS.out _ d2; go_wp2_with fail))
  obtain ⟨z1, x0, x1, y0, y1, hg1⟩ := k2
  have k2 := HS.out _ d2
  go_wp2_with fail
  go_region_held3 (fun u => u.cell? ⟨pz, 1, none⟩ = some (.slice none 0 0) ∧ u.cell? ⟨px, 0, none⟩ = some (.bool true) ∧ u.cell? ⟨px, 1, none⟩ = some (.slice ax (nlen BW V) cx) ∧ u.cell? ⟨py, 0, none⟩ = some (.bool true) ∧ u.cell? ⟨py, 1, none⟩ = some (.slice ay (nlen BW U) cy) ∧ u.cell? ⟨0, 0, none⟩ = some (.slice a1 1 c1)) (first | exact k2 | exact k3) (first | (go_simp; go_at_call 58; refine (KY.out _ d2.drew).mono ?_; rintro e w3 ⟨v3, rfl, own3, b3⟩; obtain ⟨a3, c3, rfl, hle3, hcm3, hrd3, hlt3⟩ := own3.parts; have d3 := below_trans d2.drew b3; have k3 := HS.out _ d3; go_wp2_with fail))
  obtain ⟨z1, x0, x1, y0, y1, hg1⟩ := k3
  have k3 := HS.out _ d3
  have b3' : Below w2.heap.size w2 w3 := below_of_drew b3
  have hn2 : nlen BW (V - 1) ≤ nlen BW V := nlen_mono BW_one (Nat.sub_le _ _)
  have hn3 : nlen BW (U - 1) ≤ nlen BW U := nlen_mono BW_one (Nat.sub_le _ _)
  have KOP := Lib.hid (natAnd_any a2 a3 (V - 1) (U - 1) c2 c3 w3.drew (by omega) (by omega) hle2 hle3 (hrd2.below b3'.drew) hrd3)
  have hRb := nlen_and_le (V - 1) (U - 1)
  have HRB := Lib.hid (show nlen BW ((V - 1) &&& (U - 1)) ≤ 2147483646 by omega)
  clear hRb
  clear own2 hrd2 hlt2 hle2 hcm2 own3 hrd3 hlt3 hle3 hcm3 b3'
  clear hn2 hn3
  go_wp2_with fail
  refine region_until (fun u => u.cell? ⟨pz, 1, none⟩ = some (.slice none 0 0) ∧ u.cell? ⟨px, 0, none⟩ = some (.bool true) ∧ u.cell? ⟨px, 1, none⟩ = some (.slice ax (nlen BW V) cx) ∧ u.cell? ⟨py, 0, none⟩ = some (.bool true) ∧ u.cell? ⟨py, 1, none⟩ = some (.slice ay (nlen BW U) cy) ∧ u.cell? ⟨0, 0, none⟩ = some (.slice a1 1 c1)) 16 (by kernel_rfl) k3 ?_
  refine until_take 0 [16] rfl rfl (by kernel_rfl) (by kernel_rfl) (by kernel_rfl) (by kernel_rfl) (fun _ _ _ h => h) (v := .pointer (some ⟨pz, 0, none⟩)) (.inl ⟨by rfl, ?_⟩) k3 ?_
  · rintro w' ⟨h1, h2, h3, h4, h5, h6⟩; go_simp
  simp only [Act.put, List.setIfInBounds_toArray, List.set_cons_zero, List.set_cons_succ]
  refine until_take 1 [16] rfl rfl (by kernel_rfl) (by kernel_rfl) (by kernel_rfl) (by kernel_rfl) (fun _ _ _ h => h) (v := .pointer (some ⟨pz, 0, none⟩)) (.inl ⟨by rfl, ?_⟩) k3 ?_
  · rintro w' ⟨h1, h2, h3, h4, h5, h6⟩; go_simp
  simp only [Act.put, List.setIfInBounds_toArray, List.set_cons_zero, List.set_cons_succ]
  refine until_take 2 [16] rfl rfl (by kernel_rfl) (by kernel_rfl) (by kernel_rfl) (by kernel_rfl) (fun _ _ _ h => h) (v := .pointer (some ⟨pz, 0, none⟩)) (.inl ⟨by rfl, ?_⟩) k3 ?_
  · rintro w' ⟨h1, h2, h3, h4, h5, h6⟩; go_simp
  simp only [Act.put, List.setIfInBounds_toArray, List.set_cons_zero, List.set_cons_succ]
  refine until_take 3 [16] rfl rfl (by kernel_rfl) (by kernel_rfl) (by kernel_rfl) (by kernel_rfl) (fun _ _ _ h => h) (v := .pointer (some ⟨pz, 1, none⟩)) (.inl ⟨by rfl, ?_⟩) k3 ?_
  · rintro w' ⟨h1, h2, h3, h4, h5, h6⟩; go_simp
  simp only [Act.put, List.setIfInBounds_toArray, List.set_cons_zero, List.set_cons_succ]
  refine until_take 4 [16] rfl rfl (by kernel_rfl) (by kernel_rfl) (by kernel_rfl) (by kernel_rfl) (fun _ _ _ h => h) (v := .slice none 0 0) (.inl ⟨by rfl, ?_⟩) k3 ?_
  · rintro w' ⟨h1, h2, h3, h4, h5, h6⟩; go_simp
  simp only [Act.put, List.setIfInBounds_toArray, List.set_cons_zero, List.set_cons_succ]
  refine until_take 5 [16] rfl rfl (by kernel_rfl) (by kernel_rfl) (by kernel_rfl) (by kernel_rfl) (fun _ _ _ h => h) (v := .pointer (some ⟨pz, 0, none⟩)) (.inl ⟨by rfl, ?_⟩) k3 ?_
  · rintro w' ⟨h1, h2, h3, h4, h5, h6⟩; go_simp
  simp only [Act.put, List.setIfInBounds_toArray, List.set_cons_zero, List.set_cons_succ]
  refine until_take 6 [16] rfl rfl (by kernel_rfl) (by kernel_rfl) (by kernel_rfl) (by kernel_rfl) (fun _ _ _ h => h) (v := .pointer (some ⟨pz, 0, none⟩)) (.inl ⟨by rfl, ?_⟩) k3 ?_
  · rintro w' ⟨h1, h2, h3, h4, h5, h6⟩; go_simp
  simp only [Act.put, List.setIfInBounds_toArray, List.set_cons_zero, List.set_cons_succ]
  refine until_take 7 [16] rfl rfl (by kernel_rfl) (by kernel_rfl) (by kernel_rfl) (by kernel_rfl) (fun _ _ _ h => h) (v := .pointer (some ⟨pz, 1, none⟩)) (.inl ⟨by rfl, ?_⟩) k3 ?_
  · rintro w' ⟨h1, h2, h3, h4, h5, h6⟩; go_simp
  simp only [Act.put, List.setIfInBounds_toArray, List.set_cons_zero, List.set_cons_succ]
  refine until_take 8 [16] rfl rfl (by kernel_rfl) (by kernel_rfl) (by kernel_rfl) (by kernel_rfl) (fun _ _ _ h => h) (v := .slice none 0 0) (.inl ⟨by rfl, ?_⟩) k3 ?_
  · rintro w' ⟨h1, h2, h3, h4, h5, h6⟩; go_simp
  simp only [Act.put, List.setIfInBounds_toArray, List.set_cons_zero, List.set_cons_succ]
  refine until_take 9 [16] rfl rfl (by kernel_rfl) (by kernel_rfl) (by kernel_rfl) (by kernel_rfl) (fun _ _ _ h => h) (v := .slice a2 (nlen BW (V - 1)) c2) (.inl ⟨by rfl, ?_⟩) k3 ?_
  · rintro w' ⟨h1, h2, h3, h4, h5, h6⟩; go_simp
  simp only [Act.put, List.setIfInBounds_toArray, List.set_cons_zero, List.set_cons_succ]
  refine until_take 10 [16] rfl rfl (by kernel_rfl) (by kernel_rfl) (by kernel_rfl) (by kernel_rfl) (fun _ _ _ h => h) (v := .slice a3 (nlen BW (U - 1)) c3) (.inl ⟨by rfl, ?_⟩) k3 ?_
  · rintro w' ⟨h1, h2, h3, h4, h5, h6⟩; go_simp
  simp only [Act.put, List.setIfInBounds_toArray, List.set_cons_zero, List.set_cons_succ]
  refine until_take 12 [16] rfl rfl (by kernel_rfl) (by kernel_rfl) (by kernel_rfl) (by kernel_rfl) (fun _ _ _ h => h) (v := .slice a1 1 c1) (.inl ⟨by rfl, ?_⟩) k3 ?_
  · rintro w' ⟨h1, h2, h3, h4, h5, h6⟩; go_simp
  simp only [Act.put, List.setIfInBounds_toArray, List.set_cons_zero, List.set_cons_succ]
  refine until_one (j := 11) (by kernel_rfl) rfl (fun K hK => ?_)
  go_simp
  go_at_call 69
  refine KOP.out.mono ?_
  rintro e w5 ⟨v5, rfl, own5, b5⟩
  obtain ⟨a5, c5, rfl, hle5, hcm5, hrd5, hlt5⟩ := own5.parts
  have d5 := below_trans d3.drew b5
  refine hK.out _ _ (fun _ => HS.out _ d5) ?_
  clear hK K KOP
  have KA := Lib.hid (natAdd1_any (.slice none 0 0) a5 a1 ((V - 1) &&& (U - 1)) c5 c1 w5.heap.size 0 (fun _ => 0) w5 (Room.nil _ _ _) (Nat.le_refl _) HRB.out hle5 hc1 hrd5 (HO.out.1.below d5) (reads_own_blocks own5) (fun a ha => Nat.lt_of_lt_of_le (HO.out.2 a ha) d5.size) (.inl rfl))
  clear own5 hrd5 hlt5 b5 hle5
  refine until_one (j := 13) (by kernel_rfl) rfl (fun K hK => ?_)
  go_simp
  go_at_call 63
  refine KA.out.mono ?_
  rintro e w6 ⟨v6, rfl, room6, b6⟩
  have own6 := room6.own
  obtain ⟨a6, c6, rfl, hle6, hcm6, hrd6, hlt6⟩ := own6.parts
  have d6 := below_trans d5 b6
  refine hK.out _ _ (fun _ => HS.out _ d6) ?_
  clear hK K KA
  have hz9 := HZ.out.below d6 HZ.out.lt
  have fz := hz9.free 1
  have fz0 := hz9.free 0
  have z90 := hz9.cell0
  have z91 := hz9.cell1
  have R9 := Lib.hid (And.intro own6 (And.intro d6 hz9))
  clear own6 hrd6 hlt6 hz9
  refine until_one (j := 14) (by kernel_rfl) rfl (fun K hK => ?_)
  go_simp
  refine hK.out _ _ (fun _ => HS.out _ d6) ?_
  clear hK K
  refine until_one (j := 15) (by kernel_rfl) rfl (fun K hK => ?_)
  go_simp
  refine hK.out _ _ (fun _ => HS.out _ d6) ?_
  clear hK K
  refine until_one (j := 16) (by kernel_rfl) rfl (fun K hK => ?_)
  go_simp
  refine hK.out _ _ (fun h => absurd rfl h) ?_
  refine until_done (by kernel_rfl) ?_ _
  clear hK K
  go_wp2
  go_ret
  obtain ⟨h1, h2⟩ := IntNew.set (neg := true) R9.out.2.2 (R9.out.1.base_le (d5.size)) (show pz < w.heap.size from HZ.out.lt)
  exact ⟨rfl, h1, grown_trans (grown_of_below R9.out.2.1 _) h2⟩

set_option maxHeartbeats 2000000 in
theorem intOr_ft (pz px py b1 b2 V U : Nat) (vx vy : Value) (w : World) (hV : false = true → 1 ≤ V) (hU : true = true → 1 ≤ U) (hbV : nlen BW V ≤ 2000000000) (hbU : nlen BW U ≤ 2000000000)
    (hz : Pair w pz 72 (.bool false) (.slice none 0 0)) (hx : Pair w px 72 (.bool false) vx) (hy : Pair w py 72 (.bool true) vy) (ox : Own w b1 83 .u64 vx (nlen BW V) (dig BW V)) (oy : Own w b2 83 .u64 vy (nlen BW U) (dig BW U)) (hone : One w) :
    Calls Tryd.prog 48 #[.pointer (some ⟨pz, 0, none⟩), .pointer (some ⟨px, 0, none⟩), .pointer (some ⟨py, 0, none⟩)] w (IntPost pz true ((andn (U - 1) V) + 1) w) := by
  obtain ⟨ax, cx, rfl, hlex, hcmx, hrdx, hltx⟩ := ox.parts
  obtain ⟨ay, cy, rfl, hley, hcmy, hrdy, hlty⟩ := oy.parts
  obtain ⟨a1, c1, hc1, hg1, hr1⟩ := hone
  have HS := Lib.hid (keep2 hz hx hy hg1)
  have HO := Lib.hid (And.intro hr1 (one_block hr1))
  have HZ := Lib.hid hz
  have x0 := hx.cell0
  have y0 := hy.cell0
  have KY := Lib.hid (fun W (h : Below w.heap.size w W) => sub_at (hU rfl) hley hc1 hbU hrdy hr1 (reads_own_blocks oy) h)
  have HR := Lib.hid (And.intro hrdx (And.intro hrdy (And.intro hlex hley)))
  clear ox oy hrdx hrdy hr1 hz hx hy hltx hlty hlex hley
  go_enter Tryd.func48, Tryd.ntmps48
  go_wp2_with fail
  go_quiet (fail)
  obtain ⟨w1, hw1⟩ : ∃ W, W = w.drewN nq := ⟨_, rfl⟩
  have d1 : Below w.heap.size w w1 := by rw [hw1]; exact ⟨rfl, rfl, rfl, Nat.le_refl _, fun _ _ => rfl⟩
  have k1 := HS.out _ d1
  rw [← hw1]
  clear hw1 x0 y0 hg1
  obtain ⟨z1, x0, x1, y0, y1, hg1⟩ := k1
  have k1 := HS.out _ d1
  go_wp2_with fail
  go_region_held3 (fun u => u.cell? ⟨pz, 1, none⟩ = some (.slice none 0 0) ∧ u.cell? ⟨px, 0, none⟩ = some (.bool false) ∧ u.cell? ⟨px, 1, none⟩ = some (.slice ax (nlen BW V) cx) ∧ u.cell? ⟨py, 0, none⟩ = some (.bool true) ∧ u.cell? ⟨py, 1, none⟩ = some (.slice ay (nlen BW U) cy) ∧ u.cell? ⟨0, 0, none⟩ = some (.slice a1 1 c1)) (first | exact k1 | exact k3) (first | (go_simp; go_at_call 58; refine (KY.out _ d1.drew).mono ?_; rintro e w3 ⟨v3, rfl, own3, b3⟩; obtain ⟨a3, c3, rfl, hle3, hcm3, hrd3, hlt3⟩ := own3.parts; have d3 := below_trans d1.drew b3; have k3 := HS.out _ d3; go_wp2_with fail))
  obtain ⟨z1, x0, x1, y0, y1, hg1⟩ := k3
  have k3 := HS.out _ d3
  have hn3 : nlen BW (U - 1) ≤ nlen BW U := nlen_mono BW_one (Nat.sub_le _ _)
  have KOP := Lib.hid (natAndNot_any a3 ax (U - 1) V c3 cx w3.drew (by omega) (by omega) hle3 HR.out.2.2.1 hrd3 (HR.out.1.below d3.drew))
  have hRb := nlen_andn_le (U - 1) V
  have HRB := Lib.hid (show nlen BW (andn (U - 1) V) ≤ 2147483646 by omega)
  clear hRb
  clear own3 hrd3 hlt3 hle3 hcm3
  clear hn3
  go_wp2_with fail
  refine region_until (fun u => u.cell? ⟨pz, 1, none⟩ = some (.slice none 0 0) ∧ u.cell? ⟨px, 0, none⟩ = some (.bool false) ∧ u.cell? ⟨px, 1, none⟩ = some (.slice ax (nlen BW V) cx) ∧ u.cell? ⟨py, 0, none⟩ = some (.bool true) ∧ u.cell? ⟨py, 1, none⟩ = some (.slice ay (nlen BW U) cy) ∧ u.cell? ⟨0, 0, none⟩ = some (.slice a1 1 c1)) 19 (by kernel_rfl) k3 ?_
  refine until_take 0 [19] rfl rfl (by kernel_rfl) (by kernel_rfl) (by kernel_rfl) (by kernel_rfl) (fun _ _ _ h => h) (v := .pointer (some ⟨pz, 0, none⟩)) (.inl ⟨by rfl, ?_⟩) k3 ?_
  · rintro w' ⟨h1, h2, h3, h4, h5, h6⟩; go_simp
  simp only [Act.put, List.setIfInBounds_toArray, List.set_cons_zero, List.set_cons_succ]
  refine until_take 1 [19] rfl rfl (by kernel_rfl) (by kernel_rfl) (by kernel_rfl) (by kernel_rfl) (fun _ _ _ h => h) (v := .pointer (some ⟨pz, 0, none⟩)) (.inl ⟨by rfl, ?_⟩) k3 ?_
  · rintro w' ⟨h1, h2, h3, h4, h5, h6⟩; go_simp
  simp only [Act.put, List.setIfInBounds_toArray, List.set_cons_zero, List.set_cons_succ]
  refine until_take 2 [19] rfl rfl (by kernel_rfl) (by kernel_rfl) (by kernel_rfl) (by kernel_rfl) (fun _ _ _ h => h) (v := .pointer (some ⟨pz, 0, none⟩)) (.inl ⟨by rfl, ?_⟩) k3 ?_
  · rintro w' ⟨h1, h2, h3, h4, h5, h6⟩; go_simp
  simp only [Act.put, List.setIfInBounds_toArray, List.set_cons_zero, List.set_cons_succ]
  refine until_take 3 [19] rfl rfl (by kernel_rfl) (by kernel_rfl) (by kernel_rfl) (by kernel_rfl) (fun _ _ _ h => h) (v := .pointer (some ⟨pz, 1, none⟩)) (.inl ⟨by rfl, ?_⟩) k3 ?_
  · rintro w' ⟨h1, h2, h3, h4, h5, h6⟩; go_simp
  simp only [Act.put, List.setIfInBounds_toArray, List.set_cons_zero, List.set_cons_succ]
  refine until_take 4 [19] rfl rfl (by kernel_rfl) (by kernel_rfl) (by kernel_rfl) (by kernel_rfl) (fun _ _ _ h => h) (v := .slice none 0 0) (.inl ⟨by rfl, ?_⟩) k3 ?_
  · rintro w' ⟨h1, h2, h3, h4, h5, h6⟩; go_simp
  simp only [Act.put, List.setIfInBounds_toArray, List.set_cons_zero, List.set_cons_succ]
  refine until_take 5 [19] rfl rfl (by kernel_rfl) (by kernel_rfl) (by kernel_rfl) (by kernel_rfl) (fun _ _ _ h => h) (v := .pointer (some ⟨pz, 0, none⟩)) (.inl ⟨by rfl, ?_⟩) k3 ?_
  · rintro w' ⟨h1, h2, h3, h4, h5, h6⟩; go_simp
  simp only [Act.put, List.setIfInBounds_toArray, List.set_cons_zero, List.set_cons_succ]
  refine until_take 6 [19] rfl rfl (by kernel_rfl) (by kernel_rfl) (by kernel_rfl) (by kernel_rfl) (fun _ _ _ h => h) (v := .pointer (some ⟨pz, 0, none⟩)) (.inl ⟨by rfl, ?_⟩) k3 ?_
  · rintro w' ⟨h1, h2, h3, h4, h5, h6⟩; go_simp
  simp only [Act.put, List.setIfInBounds_toArray, List.set_cons_zero, List.set_cons_succ]
  refine until_take 7 [19] rfl rfl (by kernel_rfl) (by kernel_rfl) (by kernel_rfl) (by kernel_rfl) (fun _ _ _ h => h) (v := .pointer (some ⟨pz, 1, none⟩)) (.inl ⟨by rfl, ?_⟩) k3 ?_
  · rintro w' ⟨h1, h2, h3, h4, h5, h6⟩; go_simp
  simp only [Act.put, List.setIfInBounds_toArray, List.set_cons_zero, List.set_cons_succ]
  refine until_take 8 [19] rfl rfl (by kernel_rfl) (by kernel_rfl) (by kernel_rfl) (by kernel_rfl) (fun _ _ _ h => h) (v := .slice none 0 0) (.inl ⟨by rfl, ?_⟩) k3 ?_
  · rintro w' ⟨h1, h2, h3, h4, h5, h6⟩; go_simp
  simp only [Act.put, List.setIfInBounds_toArray, List.set_cons_zero, List.set_cons_succ]
  refine until_take 9 [19] rfl rfl (by kernel_rfl) (by kernel_rfl) (by kernel_rfl) (by kernel_rfl) (fun _ _ _ h => h) (v := .slice a3 (nlen BW (U - 1)) c3) (.inl ⟨by rfl, ?_⟩) k3 ?_
  · rintro w' ⟨h1, h2, h3, h4, h5, h6⟩; go_simp
  simp only [Act.put, List.setIfInBounds_toArray, List.set_cons_zero, List.set_cons_succ]
  refine until_take 10 [19] rfl rfl (by kernel_rfl) (by kernel_rfl) (by kernel_rfl) (by kernel_rfl) (fun _ _ _ h => h) (v := .pointer (some ⟨px, 0, none⟩)) (.inl ⟨by rfl, ?_⟩) k3 ?_
  · rintro w' ⟨h1, h2, h3, h4, h5, h6⟩; go_simp
  simp only [Act.put, List.setIfInBounds_toArray, List.set_cons_zero, List.set_cons_succ]
  refine until_take 11 [19] rfl rfl (by kernel_rfl) (by kernel_rfl) (by kernel_rfl) (by kernel_rfl) (fun _ _ _ h => h) (v := .pointer (some ⟨px, 0, none⟩)) (.inl ⟨by rfl, ?_⟩) k3 ?_
  · rintro w' ⟨h1, h2, h3, h4, h5, h6⟩; go_simp
  simp only [Act.put, List.setIfInBounds_toArray, List.set_cons_zero, List.set_cons_succ]
  refine until_take 12 [19] rfl rfl (by kernel_rfl) (by kernel_rfl) (by kernel_rfl) (by kernel_rfl) (fun _ _ _ h => h) (v := .pointer (some ⟨px, 1, none⟩)) (.inl ⟨by rfl, ?_⟩) k3 ?_
  · rintro w' ⟨h1, h2, h3, h4, h5, h6⟩; go_simp
  simp only [Act.put, List.setIfInBounds_toArray, List.set_cons_zero, List.set_cons_succ]
  refine until_take 13 [19] rfl rfl (by kernel_rfl) (by kernel_rfl) (by kernel_rfl) (by kernel_rfl) (fun _ _ _ h => h) (v := .slice ax (nlen BW V) cx) (.inl ⟨by rfl, ?_⟩) k3 ?_
  · rintro w' ⟨h1, h2, h3, h4, h5, h6⟩; go_simp
  simp only [Act.put, List.setIfInBounds_toArray, List.set_cons_zero, List.set_cons_succ]
  refine until_take 15 [19] rfl rfl (by kernel_rfl) (by kernel_rfl) (by kernel_rfl) (by kernel_rfl) (fun _ _ _ h => h) (v := .slice a1 1 c1) (.inl ⟨by rfl, ?_⟩) k3 ?_
  · rintro w' ⟨h1, h2, h3, h4, h5, h6⟩; go_simp
  simp only [Act.put, List.setIfInBounds_toArray, List.set_cons_zero, List.set_cons_succ]
  refine until_one (j := 14) (by kernel_rfl) rfl (fun K hK => ?_)
  go_simp
  go_at_call 70
  refine KOP.out.mono ?_
  rintro e w5 ⟨v5, rfl, own5, b5⟩
  obtain ⟨a5, c5, rfl, hle5, hcm5, hrd5, hlt5⟩ := own5.parts
  have d5 := below_trans d3.drew b5
  refine hK.out _ _ (fun _ => HS.out _ d5) ?_
  clear hK K KOP
  have KA := Lib.hid (natAdd1_any (.slice none 0 0) a5 a1 (andn (U - 1) V) c5 c1 w5.heap.size 0 (fun _ => 0) w5 (Room.nil _ _ _) (Nat.le_refl _) HRB.out hle5 hc1 hrd5 (HO.out.1.below d5) (reads_own_blocks own5) (fun a ha => Nat.lt_of_lt_of_le (HO.out.2 a ha) d5.size) (.inl rfl))
  clear own5 hrd5 hlt5 b5 hle5
  refine until_one (j := 16) (by kernel_rfl) rfl (fun K hK => ?_)
  go_simp
  go_at_call 63
  refine KA.out.mono ?_
  rintro e w6 ⟨v6, rfl, room6, b6⟩
  have own6 := room6.own
  obtain ⟨a6, c6, rfl, hle6, hcm6, hrd6, hlt6⟩ := own6.parts
  have d6 := below_trans d5 b6
  refine hK.out _ _ (fun _ => HS.out _ d6) ?_
  clear hK K KA
  have hz9 := HZ.out.below d6 HZ.out.lt
  have fz := hz9.free 1
  have fz0 := hz9.free 0
  have z90 := hz9.cell0
  have z91 := hz9.cell1
  have R9 := Lib.hid (And.intro own6 (And.intro d6 hz9))
  clear own6 hrd6 hlt6 hz9
  refine until_one (j := 17) (by kernel_rfl) rfl (fun K hK => ?_)
  go_simp
  refine hK.out _ _ (fun _ => HS.out _ d6) ?_
  clear hK K
  refine until_one (j := 18) (by kernel_rfl) rfl (fun K hK => ?_)
  go_simp
  refine hK.out _ _ (fun _ => HS.out _ d6) ?_
  clear hK K
  refine until_one (j := 19) (by kernel_rfl) rfl (fun K hK => ?_)
  go_simp
  refine hK.out _ _ (fun h => absurd rfl h) ?_
  refine until_done (by kernel_rfl) ?_ _
  clear hK K
  go_wp2
  go_ret
  obtain ⟨h1, h2⟩ := IntNew.set (neg := true) R9.out.2.2 (R9.out.1.base_le (d5.size)) (show pz < w.heap.size from HZ.out.lt)
  exact ⟨rfl, h1, grown_trans (grown_of_below R9.out.2.1 _) h2⟩

set_option maxHeartbeats 2000000 in
theorem intOr_tf (pz px py b1 b2 V U : Nat) (vx vy : Value) (w : World) (hV : true = true → 1 ≤ V) (hU : false = true → 1 ≤ U) (hbV : nlen BW V ≤ 2000000000) (hbU : nlen BW U ≤ 2000000000)
    (hz : Pair w pz 72 (.bool false) (.slice none 0 0)) (hx : Pair w px 72 (.bool true) vx) (hy : Pair w py 72 (.bool false) vy) (ox : Own w b1 83 .u64 vx (nlen BW V) (dig BW V)) (oy : Own w b2 83 .u64 vy (nlen BW U) (dig BW U)) (hone : One w) :
    Calls Tryd.prog 48 #[.pointer (some ⟨pz, 0, none⟩), .pointer (some ⟨px, 0, none⟩), .pointer (some ⟨py, 0, none⟩)] w (IntPost pz true ((andn (V - 1) U) + 1) w) := by
  obtain ⟨ax, cx, rfl, hlex, hcmx, hrdx, hltx⟩ := ox.parts
  obtain ⟨ay, cy, rfl, hley, hcmy, hrdy, hlty⟩ := oy.parts
  obtain ⟨a1, c1, hc1, hg1, hr1⟩ := hone
  have HS := Lib.hid (keep2 hz hx hy hg1)
  have HO := Lib.hid (And.intro hr1 (one_block hr1))
  have HZ := Lib.hid hz
  have x0 := hx.cell0
  have y0 := hy.cell0
  have KX := Lib.hid (fun W (h : Below w.heap.size w W) => sub_at (hV rfl) hlex hc1 hbV hrdx hr1 (reads_own_blocks ox) h)
  have HR := Lib.hid (And.intro hrdx (And.intro hrdy (And.intro hlex hley)))
  clear ox oy hrdx hrdy hr1 hz hx hy hltx hlty hlex hley
  go_enter Tryd.func48, Tryd.ntmps48
  go_wp2_with fail
  go_quiet (fail)
  obtain ⟨w1, hw1⟩ : ∃ W, W = w.drewN nq := ⟨_, rfl⟩
  have d1 : Below w.heap.size w w1 := by rw [hw1]; exact ⟨rfl, rfl, rfl, Nat.le_refl _, fun _ _ => rfl⟩
  have k1 := HS.out _ d1
  rw [← hw1]
  clear hw1 x0 y0 hg1
  obtain ⟨z1, x0, x1, y0, y1, hg1⟩ := k1
  have k1 := HS.out _ d1
  go_wp2_with fail
  go_region_held3 (fun u => u.cell? ⟨pz, 1, none⟩ = some (.slice none 0 0) ∧ u.cell? ⟨px, 0, none⟩ = some (.bool true) ∧ u.cell? ⟨px, 1, none⟩ = some (.slice ax (nlen BW V) cx) ∧ u.cell? ⟨py, 0, none⟩ = some (.bool false) ∧ u.cell? ⟨py, 1, none⟩ = some (.slice ay (nlen BW U) cy) ∧ u.cell? ⟨0, 0, none⟩ = some (.slice a1 1 c1)) (first | exact k1 | exact k2) (first | (go_simp; go_at_call 58; refine (KX.out _ d1.drew).mono ?_; rintro e w2 ⟨v2, rfl, own2, b2⟩; obtain ⟨a2, c2, rfl, hle2, hcm2, hrd2, hlt2⟩ := own2.parts; have d2 := below_trans d1.drew b2; have k2 := HS.out _ d2; go_wp2_with fail))
  obtain ⟨z1, x0, x1, y0, y1, hg1⟩ := k2
  have k2 := HS.out _ d2
  have hn2 : nlen BW (V - 1) ≤ nlen BW V := nlen_mono BW_one (Nat.sub_le _ _)
  have KOP := Lib.hid (natAndNot_any a2 ay (V - 1) U c2 cy w2.drew (by omega) (by omega) hle2 HR.out.2.2.2 hrd2 (HR.out.2.1.below d2.drew))
  have hRb := nlen_andn_le (V - 1) U
  have HRB := Lib.hid (show nlen BW (andn (V - 1) U) ≤ 2147483646 by omega)
  clear hRb
  clear own2 hrd2 hlt2 hle2 hcm2
  clear hn2
  go_wp2_with fail
  refine region_until (fun u => u.cell? ⟨pz, 1, none⟩ = some (.slice none 0 0) ∧ u.cell? ⟨px, 0, none⟩ = some (.bool true) ∧ u.cell? ⟨px, 1, none⟩ = some (.slice ax (nlen BW V) cx) ∧ u.cell? ⟨py, 0, none⟩ = some (.bool false) ∧ u.cell? ⟨py, 1, none⟩ = some (.slice ay (nlen BW U) cy) ∧ u.cell? ⟨0, 0, none⟩ = some (.slice a1 1 c1)) 19 (by kernel_rfl) k2 ?_
  refine until_take 0 [19] rfl rfl (by kernel_rfl) (by kernel_rfl) (by kernel_rfl) (by kernel_rfl) (fun _ _ _ h => h) (v := .pointer (some ⟨pz, 0, none⟩)) (.inl ⟨by rfl, ?_⟩) k2 ?_
  · rintro w' ⟨h1, h2, h3, h4, h5, h6⟩; go_simp
  simp only [Act.put, List.setIfInBounds_toArray, List.set_cons_zero, List.set_cons_succ]
  refine until_take 1 [19] rfl rfl (by kernel_rfl) (by kernel_rfl) (by kernel_rfl) (by kernel_rfl) (fun _ _ _ h => h) (v := .pointer (some ⟨pz, 0, none⟩)) (.inl ⟨by rfl, ?_⟩) k2 ?_
  · rintro w' ⟨h1, h2, h3, h4, h5, h6⟩; go_simp
  simp only [Act.put, List.setIfInBounds_toArray, List.set_cons_zero, List.set_cons_succ]
  refine until_take 2 [19] rfl rfl (by kernel_rfl) (by kernel_rfl) (by kernel_rfl) (by kernel_rfl) (fun _ _ _ h => h) (v := .pointer (some ⟨pz, 0, none⟩)) (.inl ⟨by rfl, ?_⟩) k2 ?_
  · rintro w' ⟨h1, h2, h3, h4, h5, h6⟩; go_simp
  simp only [Act.put, List.setIfInBounds_toArray, List.set_cons_zero, List.set_cons_succ]
  refine until_take 3 [19] rfl rfl (by kernel_rfl) (by kernel_rfl) (by kernel_rfl) (by kernel_rfl) (fun _ _ _ h => h) (v := .pointer (some ⟨pz, 1, none⟩)) (.inl ⟨by rfl, ?_⟩) k2 ?_
  · rintro w' ⟨h1, h2, h3, h4, h5, h6⟩; go_simp
  simp only [Act.put, List.setIfInBounds_toArray, List.set_cons_zero, List.set_cons_succ]
  refine until_take 4 [19] rfl rfl (by kernel_rfl) (by kernel_rfl) (by kernel_rfl) (by kernel_rfl) (fun _ _ _ h => h) (v := .slice none 0 0) (.inl ⟨by rfl, ?_⟩) k2 ?_
  · rintro w' ⟨h1, h2, h3, h4, h5, h6⟩; go_simp
  simp only [Act.put, List.setIfInBounds_toArray, List.set_cons_zero, List.set_cons_succ]
  refine until_take 5 [19] rfl rfl (by kernel_rfl) (by kernel_rfl) (by kernel_rfl) (by kernel_rfl) (fun _ _ _ h => h) (v := .pointer (some ⟨pz, 0, none⟩)) (.inl ⟨by rfl, ?_⟩) k2 ?_
  · rintro w' ⟨h1, h2, h3, h4, h5, h6⟩; go_simp
  simp only [Act.put, List.setIfInBounds_toArray, List.set_cons_zero, List.set_cons_succ]
  refine until_take 6 [19] rfl rfl (by kernel_rfl) (by kernel_rfl) (by kernel_rfl) (by kernel_rfl) (fun _ _ _ h => h) (v := .pointer (some ⟨pz, 0, none⟩)) (.inl ⟨by rfl, ?_⟩) k2 ?_
  · rintro w' ⟨h1, h2, h3, h4, h5, h6⟩; go_simp
  simp only [Act.put, List.setIfInBounds_toArray, List.set_cons_zero, List.set_cons_succ]
  refine until_take 7 [19] rfl rfl (by kernel_rfl) (by kernel_rfl) (by kernel_rfl) (by kernel_rfl) (fun _ _ _ h => h) (v := .pointer (some ⟨pz, 1, none⟩)) (.inl ⟨by rfl, ?_⟩) k2 ?_
  · rintro w' ⟨h1, h2, h3, h4, h5, h6⟩; go_simp
  simp only [Act.put, List.setIfInBounds_toArray, List.set_cons_zero, List.set_cons_succ]
  refine until_take 8 [19] rfl rfl (by kernel_rfl) (by kernel_rfl) (by kernel_rfl) (by kernel_rfl) (fun _ _ _ h => h) (v := .slice none 0 0) (.inl ⟨by rfl, ?_⟩) k2 ?_
  · rintro w' ⟨h1, h2, h3, h4, h5, h6⟩; go_simp
  simp only [Act.put, List.setIfInBounds_toArray, List.set_cons_zero, List.set_cons_succ]
  refine until_take 9 [19] rfl rfl (by kernel_rfl) (by kernel_rfl) (by kernel_rfl) (by kernel_rfl) (fun _ _ _ h => h) (v := .slice a2 (nlen BW (V - 1)) c2) (.inl ⟨by rfl, ?_⟩) k2 ?_
  · rintro w' ⟨h1, h2, h3, h4, h5, h6⟩; go_simp
  simp only [Act.put, List.setIfInBounds_toArray, List.set_cons_zero, List.set_cons_succ]
  refine until_take 10 [19] rfl rfl (by kernel_rfl) (by kernel_rfl) (by kernel_rfl) (by kernel_rfl) (fun _ _ _ h => h) (v := .pointer (some ⟨py, 0, none⟩)) (.inl ⟨by rfl, ?_⟩) k2 ?_
  · rintro w' ⟨h1, h2, h3, h4, h5, h6⟩; go_simp
  simp only [Act.put, List.setIfInBounds_toArray, List.set_cons_zero, List.set_cons_succ]
  refine until_take 11 [19] rfl rfl (by kernel_rfl) (by kernel_rfl) (by kernel_rfl) (by kernel_rfl) (fun _ _ _ h => h) (v := .pointer (some ⟨py, 0, none⟩)) (.inl ⟨by rfl, ?_⟩) k2 ?_
  · rintro w' ⟨h1, h2, h3, h4, h5, h6⟩; go_simp
  simp only [Act.put, List.setIfInBounds_toArray, List.set_cons_zero, List.set_cons_succ]
  refine until_take 12 [19] rfl rfl (by kernel_rfl) (by kernel_rfl) (by kernel_rfl) (by kernel_rfl) (fun _ _ _ h => h) (v := .pointer (some ⟨py, 1, none⟩)) (.inl ⟨by rfl, ?_⟩) k2 ?_
  · rintro w' ⟨h1, h2, h3, h4, h5, h6⟩; go_simp
  simp only [Act.put, List.setIfInBounds_toArray, List.set_cons_zero, List.set_cons_succ]
  refine until_take 13 [19] rfl rfl (by kernel_rfl) (by kernel_rfl) (by kernel_rfl) (by kernel_rfl) (fun _ _ _ h => h) (v := .slice ay (nlen BW U) cy) (.inl ⟨by rfl, ?_⟩) k2 ?_
  · rintro w' ⟨h1, h2, h3, h4, h5, h6⟩; go_simp
  simp only [Act.put, List.setIfInBounds_toArray, List.set_cons_zero, List.set_cons_succ]
  refine until_take 15 [19] rfl rfl (by kernel_rfl) (by kernel_rfl) (by kernel_rfl) (by kernel_rfl) (fun _ _ _ h => h) (v := .slice a1 1 c1) (.inl ⟨by rfl, ?_⟩) k2 ?_
  · rintro w' ⟨h1, h2, h3, h4, h5, h6⟩; go_simp
  simp only [Act.put, List.setIfInBounds_toArray, List.set_cons_zero, List.set_cons_succ]
  refine until_one (j := 14) (by kernel_rfl) rfl (fun K hK => ?_)
  go_simp
  go_at_call 70
  refine KOP.out.mono ?_
  rintro e w5 ⟨v5, rfl, own5, b5⟩
  obtain ⟨a5, c5, rfl, hle5, hcm5, hrd5, hlt5⟩ := own5.parts
  have d5 := below_trans d2.drew b5
  refine hK.out _ _ (fun _ => HS.out _ d5) ?_
  clear hK K KOP
  have KA := Lib.hid (natAdd1_any (.slice none 0 0) a5 a1 (andn (V - 1) U) c5 c1 w5.heap.size 0 (fun _ => 0) w5 (Room.nil _ _ _) (Nat.le_refl _) HRB.out hle5 hc1 hrd5 (HO.out.1.below d5) (reads_own_blocks own5) (fun a ha => Nat.lt_of_lt_of_le (HO.out.2 a ha) d5.size) (.inl rfl))
  clear own5 hrd5 hlt5 b5 hle5
  refine until_one (j := 16) (by kernel_rfl) rfl (fun K hK => ?_)
  go_simp
  go_at_call 63
  refine KA.out.mono ?_
  rintro e w6 ⟨v6, rfl, room6, b6⟩
  have own6 := room6.own
  obtain ⟨a6, c6, rfl, hle6, hcm6, hrd6, hlt6⟩ := own6.parts
  have d6 := below_trans d5 b6
  refine hK.out _ _ (fun _ => HS.out _ d6) ?_
  clear hK K KA
  have hz9 := HZ.out.below d6 HZ.out.lt
  have fz := hz9.free 1
  have fz0 := hz9.free 0
  have z90 := hz9.cell0
  have z91 := hz9.cell1
  have R9 := Lib.hid (And.intro own6 (And.intro d6 hz9))
  clear own6 hrd6 hlt6 hz9
  refine until_one (j := 17) (by kernel_rfl) rfl (fun K hK => ?_)
  go_simp
  refine hK.out _ _ (fun _ => HS.out _ d6) ?_
  clear hK K
  refine until_one (j := 18) (by kernel_rfl) rfl (fun K hK => ?_)
  go_simp
  refine hK.out _ _ (fun _ => HS.out _ d6) ?_
  clear hK K
  refine until_one (j := 19) (by kernel_rfl) rfl (fun K hK => ?_)
  go_simp
  refine hK.out _ _ (fun h => absurd rfl h) ?_
  refine until_done (by kernel_rfl) ?_ _
  clear hK K
  go_wp2
  go_ret
  obtain ⟨h1, h2⟩ := IntNew.set (neg := true) R9.out.2.2 (R9.out.1.base_le (d5.size)) (show pz < w.heap.size from HZ.out.lt)
  exact ⟨rfl, h1, grown_trans (grown_of_below R9.out.2.1 _) h2⟩

end Go.Proofs.YtidifjmjbfhpaaaDoor
