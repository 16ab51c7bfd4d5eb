/- (nat).and of two numbers, the receiver nil. (Printed by natops.py.) -/
/- (nat).or of two numbers, the receiver nil. (Printed by natops.py.) -/
/- (nat).xor of two numbers, the receiver nil. (Printed by natops.py.) -/
/- (nat).andNot of two numbers, the receiver nil. (Printed by natops.py.) -/
import Derived.Test.YtidifjmjbfhpaaaDoorNatSub
import Derived.Test.YtidifjmjbfhpaaaDoorWordBits
import Derived.Test.YtidifjmjbfhpaaaDoorNorm
import Derived.Deep.RegionHeld3
namespace Go.Proofs.YtidifjmjbfhpaaaDoor
set_option linter.unusedVariables false
set_option maxRecDepth 20000
set_option linter.unusedSimpArgs false
open Go.RowKit

/-- A number in words that are the call's own. -/
def NatPost (V : Nat) (w : World) (e : Ending) (w' : World) : Prop := ∃ v, e = .returned v ∧ Own w' w.heap.size 83 .u64 v (nlen BW V) (dig BW V) ∧ Below w.heap.size w w'

theorem nat_finish {w w3 : World} {g c n V : Nat} {F : Nat → Nat} (own : Own w3 w.heap.size 83 .u64 (.slice (some ⟨g, 0, none⟩) n c) n F) (hV : V < BW ^ n) (hF : ∀ j, j < n → F j = dig BW V j) :
    Own w3 w.heap.size 83 .u64 (.slice (some ⟨g, 0, none⟩) (clen F n) c) (nlen BW V) (dig BW V) :=
  own_cut BW_one own (fun j hj => by rw [hF j hj]; exact dig_lt BW_pos _ _) (by rw [val_congr hF, val_of_dig BW_pos, Nat.mod_eq_of_lt hV])

theorem cell_kept {w w1 wr : World} {b o g : Nat} {v : Value} (h : w.cell? ⟨b, o, none⟩ = some v) (b1 : Below w.heap.size w w1) (gr : w1.grownBy wr (some g)) (hg : w.heap.size ≤ g) : wr.cell? ⟨b, o, none⟩ = some v := by
  have hb := World.block_lt_of_cell? _ _ h
  have h1 := (b1.cell hb).trans h
  exact gr.cell h1 (by simp only [ne_eq, Option.some.injEq]; show ¬ b = g; have : b < w.heap.size := hb; omega)

theorem make_none0 (w : World) : Calls Tryd.prog 76 #[.slice none 0 0, .int .i64 0] w fun e w' => e = .returned (.slice none 0 0) ∧ w = w' := by
  go_enter Tryd.func76, Tryd.ntmps76
  go_wp2
  go_ret
  exact ⟨rfl, rfl⟩
theorem nat_nil {R : Nat} (h : R = 0) {w w' : World} (hb : Below w.heap.size w w') : NatPost R w (.returned (.slice none 0 0)) w' := by
  subst h
  exact ⟨_, rfl, by rw [show nlen BW 0 = 0 from rfl]; exact Own.nil _ _ _ _ _, hb⟩
theorem info_Word_one : (Tryd.prog.info? 83).map (·.size) = some 1 := by
  obtain ⟨j0, hj0, hjz0, hjz1, hjz2⟩ := info_parts info_Word
  rw [hj0]; simp [hjz1]
theorem updr_lo (F : Nat → Nat) (o : Nat) (s : Nat → Nat) (n j : Nat) (h : j < o) : updr F o s n j = F j := by unfold updr; rw [if_neg (by omega)]
theorem step_copy_none {P : Program} {ops : Array Oper} {o : Oper} {a : Act} {w : World} {K : Act → World → Prop} {Q : Exit → Act → World → Prop} {E : Prop} (hgd : o.guard = none) (d s : Operand) (dT sT : TypeId)
    (ho : o.op = .call { callee := .builtin .copy, args := #[d, s], argTypes := #[dT, sT] }) (elem : TypeId) (hu : P.underlying dT = some (.slice elem)) (hsz : (P.info? elem).map (·.size) = some 1)
    (dp sp : Option Addr) (dLen dCap sLen sCap : Nat) (hd : a.eval d = .slice dp dLen dCap) (hs : a.eval s = .slice sp sLen sCap) (hn : Nat.min sLen dLen = 0) (hK : K (a.put o.dst (goInt 0)) w) :
    if Region.wanted o (yielded ops a.tmps) = true then Oper.wp P o a w K Q else E := by
  have hw : Region.wanted o (yielded ops a.tmps) = true := by simp [Region.wanted, hgd]
  rw [if_pos hw]
  have hrun := run_copy_none (P := P) w dT sT o.type elem dp sp dLen dCap sLen sCap hu hsz hn
  unfold Oper.wp
  simp [execOp, ho, resolve, invoke, builtin, hd, hs, hrun, Result.andThen]
  exact hK
theorem lt_one_zero {R : Nat} (h : R < BW ^ 0) : R = 0 := by rw [Nat.pow_zero] at h; omega

theorem and_lt {V U m : Nat} (hm : m = min (nlen BW V) (nlen BW U)) : (V &&& U) < BW ^ m := by
  have h1 := lt_pow_nlen BW_one V
  have h2 := lt_pow_nlen BW_one U
  subst hm
  rcases Nat.le_total (nlen BW V) (nlen BW U) with h | h
  · rw [Nat.min_eq_left h]; exact Nat.lt_of_le_of_lt Nat.and_le_left h1
  · rw [Nat.min_eq_right h]; exact Nat.lt_of_le_of_lt Nat.and_le_right h2
theorem lt_max_pow {V U m : Nat} (hm : m = max (nlen BW V) (nlen BW U)) : V < BW ^ m ∧ U < BW ^ m :=
  ⟨Nat.lt_of_lt_of_le (lt_pow_nlen BW_one V) (Nat.pow_le_pow_right BW_pos (by omega)), Nat.lt_of_lt_of_le (lt_pow_nlen BW_one U) (Nat.pow_le_pow_right BW_pos (by omega))⟩
theorem or_lt {V U m : Nat} (hm : m = max (nlen BW V) (nlen BW U)) : (V ||| U) < BW ^ m := by
  have h := lt_max_pow hm
  rw [BW_pow] at h ⊢
  exact Nat.or_lt_two_pow h.1 h.2
theorem xor_lt {V U m : Nat} (hm : m = max (nlen BW V) (nlen BW U)) : (V ^^^ U) < BW ^ m := by
  have h := lt_max_pow hm
  rw [BW_pow] at h ⊢
  exact Nat.xor_lt_two_pow h.1 h.2
theorem andn_lt {V U m : Nat} (hm : m = nlen BW V) : andn V U < BW ^ m := by
  subst hm
  exact Nat.lt_of_le_of_lt (andn_le V U) (lt_pow_nlen BW_one V)
theorem dig_above {V j : Nat} (h : nlen BW V ≤ j) : dig BW V j = 0 := dig_of_lt (Nat.lt_of_lt_of_le (lt_pow_nlen BW_one V) (Nat.pow_le_pow_right BW_pos h))
theorem or_left {V U j : Nat} (h : nlen BW U ≤ j) : dig BW V j = dig BW (V ||| U) j := by rw [dig_or, dig_above h, Nat.or_zero]
theorem or_right {V U j : Nat} (h : nlen BW V ≤ j) : dig BW U j = dig BW (V ||| U) j := by rw [dig_or, dig_above h, Nat.zero_or]
theorem xor_left {V U j : Nat} (h : nlen BW U ≤ j) : dig BW V j = dig BW (V ^^^ U) j := by rw [dig_xor, dig_above h, Nat.xor_zero]
theorem xor_right {V U j : Nat} (h : nlen BW V ≤ j) : dig BW U j = dig BW (V ^^^ U) j := by rw [dig_xor, dig_above h, Nat.zero_xor]
theorem andn_left {V U j : Nat} (h : nlen BW U ≤ j) : dig BW V j = dig BW (andn V U) j := by
  rw [dig_andn, dig_above h]; unfold andn; rw [Nat.and_zero, Nat.xor_zero]

set_option maxHeartbeats 1000000 in
theorem natAnd_le (ax ay : Option Addr) (V U nx ny cx cy : Nat) (w : World) (hnx : nlen BW V = nx) (hny : nlen BW U = ny) (hx : nx ≤ 2147483647) (hy : ny ≤ 2147483647) (hcx : nx ≤ cx) (hcy : ny ≤ cy) (hcase : nx ≤ ny) (hM : 1 ≤ nx)
    (hrdx : Reads w .u64 ax nx (dig BW V)) (hrdy : Reads w .u64 ay ny (dig BW U)) :
    Calls Tryd.prog 69 #[.slice none 0 0, .slice ax nx cx, .slice ay ny cy] w (NatPost (V &&& U) w) := by
  have HL := Lib.hid (show (V &&& U) < BW ^ nx from and_lt (by omega))
  have KM := Lib.hid (make_nil nx w (by omega))
  have HN := Lib.hid (And.intro hnx hny)
  have R := Lib.hid (And.intro hrdx hrdy)
  have hd : decide (ny < nx) = false := by simp; omega
  have hxi : (nx : Int) ≤ (cx : Int) := by omega
  have hyi : (ny : Int) ≤ (cy : Int) := by omega
  clear hnx hny hrdx hrdy
  go_enter Tryd.func69, Tryd.ntmps69
  go_wp2_with fail
  refine KM.out.mono ?_
  rintro e w1 ⟨v, rfl, own1, b1⟩
  rcases own1.shape with ⟨rfl, hz⟩ | ⟨g, c, rfl, hbg, hgl, hnc, hcb⟩
  · omega
  · have O0 := Lib.hid (show Own w1 w.heap.size 83 .u64 (.slice (some ⟨g, 0, none⟩) nx c) nx (updr (fun _ => 0) 0 (dig BW (V &&& U)) 0) from own1.congr fun j _ => (updr_zero (fun _ => 0) 0 (dig BW (V &&& U)) j).symm)
    have B1 := Lib.hid b1
    clear own1 b1 KM
    go_wp2_with fail
    go_loopw [9] (fun ti wr => ∃ i : Nat, i ≤ nx ∧ ti = .int .i64 i ∧ Own wr w.heap.size 83 .u64 (.slice (some ⟨g, 0, none⟩) nx c) nx (updr (fun _ => 0) 0 (dig BW (V &&& U)) i) ∧ w1.grownBy wr (some g)) (fun ti _ => nx - (intOf ti).toNat)
    case atStart => exact ⟨0, Nat.zero_le _, rfl, O0.out, World.grownBy.refl _ _⟩
    case round =>
      obtain ⟨i, hin, rfl, own, gr⟩ := hrel
      clear O0
      by_cases h1 : i < nx
      · obtain ⟨bx, ox, rfl, hcx0⟩ := R.out.1 i (by omega)
        obtain ⟨by', oy, rfl, hcy0⟩ := R.out.2 i (by omega)
        have hcx := cell_kept hcx0 B1.out gr hbg
        have hcy := cell_kept hcy0 B1.out gr hbg
        have hd1 := dig_BW V i
        have hd2 := dig_BW U i
        have hdd : dig BW (V &&& U) i = _ := dig_and V U i
        obtain ⟨d1, h11⟩ : ∃ d, d = dig BW V i := ⟨_, rfl⟩
        obtain ⟨d2, h22⟩ : ∃ d, d = dig BW U i := ⟨_, rfl⟩
        rw [← h11, ← h22] at hdd
        rw [← h11] at hcx hd1
        rw [← h22] at hcy hd2
        have hop := bits_and_u64_nat d1 d2 hd1 hd2
        obtain ⟨d3, h33⟩ : ∃ d, d = (d1 &&& d2) := ⟨_, rfl⟩
        rw [← h33] at hop hdd
        have hc := own.cell i (by omega)
        have hfz := own.free i
        have G := Lib.hid (And.intro own (And.intro gr hdd))
        clear own gr hdd hcx0 hcy0 h11 h22 h33
        go_wp2_with fail
        go_region
        go_wp2
        go_roundw
        case rel =>
          go_light
          refine ⟨i + 1, by omega, by go_num, ?_, grown_trans G.out.2.1 (grown_trans (show wr.grownBy wr.drew (some g) from grown_drewN wr 1 _) (grown_setCell wr.drew ⟨g, i, none⟩ (.int .u64 d3)))⟩
          exact (G.out.1.drew.stored i d3).congr fun j _ => by
            have h := updr_succ (fun _ => 0) 0 (dig BW (V &&& U)) i d3 G.out.2.2.symm j
            rw [Nat.zero_add] at h
            exact h
        case measure => simp [intOf]; omega
      · obtain rfl : nx = i := by omega
        have B3 := Lib.hid (B1.out.grown gr B1.out.size (fun k hk => by cases hk; exact hbg))
        have O3 := Lib.hid own
        have GR := Lib.hid gr
        clear own gr
        go_wp2_with fail
        have O4 := O3
        have B4 := B3
        have hF : ∀ j, j < nx → (updr (fun _ => 0) 0 (dig BW (V &&& U)) nx) j = dig BW (V &&& U) j := by
          intro j hj
          rw [updr_in _ _ _ _ _ (Nat.zero_le j) (by omega), Nat.sub_zero]
        have hlen := clen_le ((updr (fun _ => 0) 0 (dig BW (V &&& U)) nx)) nx
        have KN := Lib.hid (norm_any (some ⟨g, 0, none⟩) nx c ((updr (fun _ => 0) 0 (dig BW (V &&& U)) nx)) _ hnc (by omega) (Reads.of_own O4.out))
        have FF := Lib.hid (And.intro (nat_finish O4.out HL.out hF) B4.out)
        clear hF hlen
        go_wp2_with fail
        refine KN.out.mono ?_
        rintro e w9 ⟨rfl, rfl⟩
        go_wp2
        go_ret
        exact ⟨_, rfl, FF.out.1, FF.out.2⟩

set_option maxHeartbeats 1000000 in
theorem natAnd_gt (ax ay : Option Addr) (V U nx ny cx cy : Nat) (w : World) (hnx : nlen BW V = nx) (hny : nlen BW U = ny) (hx : nx ≤ 2147483647) (hy : ny ≤ 2147483647) (hcx : nx ≤ cx) (hcy : ny ≤ cy) (hcase : ny < nx) (hM : 1 ≤ ny)
    (hrdx : Reads w .u64 ax nx (dig BW V)) (hrdy : Reads w .u64 ay ny (dig BW U)) :
    Calls Tryd.prog 69 #[.slice none 0 0, .slice ax nx cx, .slice ay ny cy] w (NatPost (V &&& U) w) := by
  have HL := Lib.hid (show (V &&& U) < BW ^ ny from and_lt (by omega))
  have KM := Lib.hid (make_nil ny w (by omega))
  have HN := Lib.hid (And.intro hnx hny)
  have R := Lib.hid (And.intro hrdx hrdy)
  have hd : decide (ny < nx) = true := by simp; omega
  have hxi : (nx : Int) ≤ (cx : Int) := by omega
  have hyi : (ny : Int) ≤ (cy : Int) := by omega
  clear hnx hny hrdx hrdy
  go_enter Tryd.func69, Tryd.ntmps69
  go_wp2_with fail
  refine KM.out.mono ?_
  rintro e w1 ⟨v, rfl, own1, b1⟩
  rcases own1.shape with ⟨rfl, hz⟩ | ⟨g, c, rfl, hbg, hgl, hnc, hcb⟩
  · omega
  · have O0 := Lib.hid (show Own w1 w.heap.size 83 .u64 (.slice (some ⟨g, 0, none⟩) ny c) ny (updr (fun _ => 0) 0 (dig BW (V &&& U)) 0) from own1.congr fun j _ => (updr_zero (fun _ => 0) 0 (dig BW (V &&& U)) j).symm)
    have B1 := Lib.hid b1
    clear own1 b1 KM
    go_wp2_with fail
    go_loopw [9] (fun ti wr => ∃ i : Nat, i ≤ ny ∧ ti = .int .i64 i ∧ Own wr w.heap.size 83 .u64 (.slice (some ⟨g, 0, none⟩) ny c) ny (updr (fun _ => 0) 0 (dig BW (V &&& U)) i) ∧ w1.grownBy wr (some g)) (fun ti _ => ny - (intOf ti).toNat)
    case atStart => exact ⟨0, Nat.zero_le _, rfl, O0.out, World.grownBy.refl _ _⟩
    case round =>
      obtain ⟨i, hin, rfl, own, gr⟩ := hrel
      clear O0
      by_cases h1 : i < ny
      · obtain ⟨bx, ox, rfl, hcx0⟩ := R.out.1 i (by omega)
        obtain ⟨by', oy, rfl, hcy0⟩ := R.out.2 i (by omega)
        have hcx := cell_kept hcx0 B1.out gr hbg
        have hcy := cell_kept hcy0 B1.out gr hbg
        have hd1 := dig_BW V i
        have hd2 := dig_BW U i
        have hdd : dig BW (V &&& U) i = _ := dig_and V U i
        obtain ⟨d1, h11⟩ : ∃ d, d = dig BW V i := ⟨_, rfl⟩
        obtain ⟨d2, h22⟩ : ∃ d, d = dig BW U i := ⟨_, rfl⟩
        rw [← h11, ← h22] at hdd
        rw [← h11] at hcx hd1
        rw [← h22] at hcy hd2
        have hop := bits_and_u64_nat d1 d2 hd1 hd2
        obtain ⟨d3, h33⟩ : ∃ d, d = (d1 &&& d2) := ⟨_, rfl⟩
        rw [← h33] at hop hdd
        have hc := own.cell i (by omega)
        have hfz := own.free i
        have G := Lib.hid (And.intro own (And.intro gr hdd))
        clear own gr hdd hcx0 hcy0 h11 h22 h33
        go_wp2_with fail
        go_region
        go_wp2
        go_roundw
        case rel =>
          go_light
          refine ⟨i + 1, by omega, by go_num, ?_, grown_trans G.out.2.1 (grown_trans (show wr.grownBy wr.drew (some g) from grown_drewN wr 1 _) (grown_setCell wr.drew ⟨g, i, none⟩ (.int .u64 d3)))⟩
          exact (G.out.1.drew.stored i d3).congr fun j _ => by
            have h := updr_succ (fun _ => 0) 0 (dig BW (V &&& U)) i d3 G.out.2.2.symm j
            rw [Nat.zero_add] at h
            exact h
        case measure => simp [intOf]; omega
      · obtain rfl : ny = i := by omega
        have B3 := Lib.hid (B1.out.grown gr B1.out.size (fun k hk => by cases hk; exact hbg))
        have O3 := Lib.hid own
        have GR := Lib.hid gr
        clear own gr
        go_wp2_with fail
        have O4 := O3
        have B4 := B3
        have hF : ∀ j, j < ny → (updr (fun _ => 0) 0 (dig BW (V &&& U)) ny) j = dig BW (V &&& U) j := by
          intro j hj
          rw [updr_in _ _ _ _ _ (Nat.zero_le j) (by omega), Nat.sub_zero]
        have hlen := clen_le ((updr (fun _ => 0) 0 (dig BW (V &&& U)) ny)) ny
        have KN := Lib.hid (norm_any (some ⟨g, 0, none⟩) ny c ((updr (fun _ => 0) 0 (dig BW (V &&& U)) ny)) _ hnc (by omega) (Reads.of_own O4.out))
        have FF := Lib.hid (And.intro (nat_finish O4.out HL.out hF) B4.out)
        clear hF hlen
        go_wp2_with fail
        refine KN.out.mono ?_
        rintro e w9 ⟨rfl, rfl⟩
        go_wp2
        go_ret
        exact ⟨_, rfl, FF.out.1, FF.out.2⟩

theorem natAnd_z1 (ax ay : Option Addr) (R nx ny cx cy : Nat) (w : World)  (hR : R = 0) :
    Calls Tryd.prog 69 #[.slice none 0 0, .slice ax 0 cx, .slice ay ny cy] w (NatPost R w) := by
  have HR := Lib.hid hR
  clear hR
  go_enter Tryd.func69, Tryd.ntmps69
  go_wp2_with fail
  refine (make_none0 w).mono ?_
  rintro e w1 ⟨rfl, rfl⟩
  go_wp2_with fail
  refine wp_loop_rounds 1 ?_
  rw [rounds_succ]
  go_wp2_with fail
  refine (norm_none none 0 _).mono ?_
  rintro e w2 ⟨rfl, rfl⟩
  go_wp2
  go_ret
  exact nat_nil HR.out ⟨rfl, rfl, rfl, Nat.le_refl _, fun _ _ => rfl⟩

theorem natAnd_z2 (ax ay : Option Addr) (R nx ny cx cy : Nat) (w : World) (h : 0 < nx) (hR : R = 0) :
    Calls Tryd.prog 69 #[.slice none 0 0, .slice ax nx cx, .slice ay 0 cy] w (NatPost R w) := by
  have hd : decide (0 < nx) = true := by simp; omega
  have HR := Lib.hid hR
  clear hR
  go_enter Tryd.func69, Tryd.ntmps69
  go_wp2_with fail
  refine (make_none0 w).mono ?_
  rintro e w1 ⟨rfl, rfl⟩
  go_wp2_with fail
  refine wp_loop_rounds 1 ?_
  rw [rounds_succ]
  go_wp2_with fail
  refine (norm_none none 0 _).mono ?_
  rintro e w2 ⟨rfl, rfl⟩
  go_wp2
  go_ret
  exact nat_nil HR.out ⟨rfl, rfl, rfl, Nat.le_refl _, fun _ _ => rfl⟩

theorem natAnd_any (ax ay : Option Addr) (V U cx cy : Nat) (w : World) (hx : nlen BW V ≤ 2147483647) (hy : nlen BW U ≤ 2147483647) (hcx : nlen BW V ≤ cx) (hcy : nlen BW U ≤ cy)
    (hrdx : Reads w .u64 ax (nlen BW V) (dig BW V)) (hrdy : Reads w .u64 ay (nlen BW U) (dig BW U)) :
    Calls Tryd.prog 69 #[.slice none 0 0, .slice ax (nlen BW V) cx, .slice ay (nlen BW U) cy] w (NatPost (V &&& U) w) := by
  by_cases h : nlen BW V ≤ nlen BW U
  · by_cases h0 : nlen BW V = 0
    · have hR : (V &&& U) = 0 := lt_one_zero (and_lt (m := 0) (by omega))
      rw [h0]
      exact natAnd_z1 ax ay _ 0 _ cx cy w hR
    · exact natAnd_le ax ay V U _ _ cx cy w rfl rfl hx hy hcx hcy h (by omega) hrdx hrdy
  · by_cases h0 : nlen BW U = 0
    · have hR : (V &&& U) = 0 := lt_one_zero (and_lt (m := 0) (by omega))
      rw [h0]
      exact natAnd_z2 ax ay _ _ 0 cx cy w (by omega) hR
    · exact natAnd_gt ax ay V U _ _ cx cy w rfl rfl hx hy hcx hcy (by omega) (by omega) hrdx hrdy

end Go.Proofs.YtidifjmjbfhpaaaDoor
namespace Go.Proofs.YtidifjmjbfhpaaaDoor
set_option linter.unusedVariables false
set_option linter.unusedSimpArgs false
open Go.RowKit

set_option maxHeartbeats 1000000 in
theorem natOr_ge (ax ay : Option Addr) (V U nx ny cx cy : Nat) (w : World) (hnx : nlen BW V = nx) (hny : nlen BW U = ny) (hx : nx ≤ 2147483647) (hy : ny ≤ 2147483647) (hcx : nx ≤ cx) (hcy : ny ≤ cy) (hcase : ny < nx) (hM : 1 ≤ nx)
    (hrdx : Reads w .u64 ax nx (dig BW V)) (hrdy : Reads w .u64 ay ny (dig BW U)) :
    Calls Tryd.prog 68 #[.slice none 0 0, .slice ax nx cx, .slice ay ny cy] w (NatPost (V ||| U) w) := by
  have HL := Lib.hid (show (V ||| U) < BW ^ nx from or_lt (by omega))
  have KM := Lib.hid (make_nil nx w (by omega))
  have HN := Lib.hid (And.intro hnx hny)
  have R := Lib.hid (And.intro hrdx hrdy)
  have hd : decide (nx < ny) = false := by simp; omega
  have hxi : (nx : Int) ≤ (cx : Int) := by omega
  have hyi : (ny : Int) ≤ (cy : Int) := by omega
  clear hnx hny hrdx hrdy
  go_enter Tryd.func68, Tryd.ntmps68
  go_wp2_with fail
  refine KM.out.mono ?_
  rintro e w1 ⟨v, rfl, own1, b1⟩
  rcases own1.shape with ⟨rfl, hz⟩ | ⟨g, c, rfl, hbg, hgl, hnc, hcb⟩
  · omega
  · have O0 := Lib.hid (show Own w1 w.heap.size 83 .u64 (.slice (some ⟨g, 0, none⟩) nx c) nx (updr (fun _ => 0) 0 (dig BW (V ||| U)) 0) from own1.congr fun j _ => (updr_zero (fun _ => 0) 0 (dig BW (V ||| U)) j).symm)
    have B1 := Lib.hid b1
    clear own1 b1 KM
    go_wp2_with fail
    go_loopw [10] (fun ti wr => ∃ i : Nat, i ≤ ny ∧ ti = .int .i64 i ∧ Own wr w.heap.size 83 .u64 (.slice (some ⟨g, 0, none⟩) nx c) nx (updr (fun _ => 0) 0 (dig BW (V ||| U)) i) ∧ w1.grownBy wr (some g)) (fun ti _ => ny - (intOf ti).toNat)
    case atStart => exact ⟨0, Nat.zero_le _, rfl, O0.out, World.grownBy.refl _ _⟩
    case round =>
      obtain ⟨i, hin, rfl, own, gr⟩ := hrel
      clear O0
      by_cases h1 : i < ny
      · obtain ⟨bx, ox, rfl, hcx0⟩ := R.out.1 i (by omega)
        obtain ⟨by', oy, rfl, hcy0⟩ := R.out.2 i (by omega)
        have hcx := cell_kept hcx0 B1.out gr hbg
        have hcy := cell_kept hcy0 B1.out gr hbg
        have hd1 := dig_BW V i
        have hd2 := dig_BW U i
        have hdd : dig BW (V ||| U) i = _ := dig_or V U i
        obtain ⟨d1, h11⟩ : ∃ d, d = dig BW V i := ⟨_, rfl⟩
        obtain ⟨d2, h22⟩ : ∃ d, d = dig BW U i := ⟨_, rfl⟩
        rw [← h11, ← h22] at hdd
        rw [← h11] at hcx hd1
        rw [← h22] at hcy hd2
        have hop := bits_or_u64_nat d1 d2 hd1 hd2
        obtain ⟨d3, h33⟩ : ∃ d, d = (d1 ||| d2) := ⟨_, rfl⟩
        rw [← h33] at hop hdd
        have hc := own.cell i (by omega)
        have hfz := own.free i
        have G := Lib.hid (And.intro own (And.intro gr hdd))
        clear own gr hdd hcx0 hcy0 h11 h22 h33
        go_wp2_with fail
        go_region
        go_wp2
        go_roundw
        case rel =>
          go_light
          refine ⟨i + 1, by omega, by go_num, ?_, grown_trans G.out.2.1 (grown_trans (show wr.grownBy wr.drew (some g) from grown_drewN wr 1 _) (grown_setCell wr.drew ⟨g, i, none⟩ (.int .u64 d3)))⟩
          exact (G.out.1.drew.stored i d3).congr fun j _ => by
            have h := updr_succ (fun _ => 0) 0 (dig BW (V ||| U)) i d3 G.out.2.2.symm j
            rw [Nat.zero_add] at h
            exact h
        case measure => simp [intOf]; omega
      · obtain rfl : ny = i := by omega
        have B3 := Lib.hid (B1.out.grown gr B1.out.size (fun k hk => by cases hk; exact hbg))
        have O3 := Lib.hid own
        have GR := Lib.hid gr
        clear own gr
        go_wp2_with fail
        obtain ⟨bs, os, hsa, hsc⟩ : ∃ bs os, ax = some ⟨bs, os, none⟩ ∧ bs < w.heap.size := by
          obtain ⟨bs, os, h1, h2⟩ := R.out.1 0 (by omega)
          exact ⟨bs, os, h1, World.block_lt_of_cell? _ _ h2⟩
        have hs3 : Reads wr .u64 ax nx (dig BW V) := (R.out.1.below B1.out).grown GR.out (by
          intro a ha
          rw [hsa] at ha
          cases ha
          simp
          omega)
        rw [hsa] at hs3
        have hrow := O3.out.drew
        have hsrc := reads_from (w := wr.drew) hs3 ny (by omega)
        subst hsa
        have hnm : (ny : Int) ≤ (nx : Int) := by omega
        have hcN : ¬ (c = ny) := by omega
        have hsN : ¬ (cx = ny) := by omega
        have hmc : (nx : Int) ≤ (c : Int) := by omega
        have hms : (nx : Int) ≤ (cx : Int) := by omega
        clear hs3
        go_region_held3 (fun _ => True) (trivial) (first | (refine step_copy_row rfl (.tmp 45) (.tmp 49) 70 70 rfl 83 Tryd.underlying70 info_Word_one _ _ _ _ _ _ rfl rfl w.heap.size .u64 g nx c _ hrow ny (nx - ny) _ (by omega) (by omega) (by intro h; rfl) hsrc (by omega) ?_; intro w8 own8 gr8))
        have O4 := Lib.hid own8
        have B4 := Lib.hid ((B3.out.drew).grown gr8 B3.out.size (fun k hk => by cases hk; exact hbg))
        clear own8 gr8 hrow hsrc
        have hF : ∀ j, j < nx → (updr (updr (fun _ => 0) 0 (dig BW (V ||| U)) ny) ny (fun j => dig BW V (ny + j)) (nx - ny)) j = dig BW (V ||| U) j := by
          intro j hj
          by_cases hjn : j < ny
          · rw [updr_lo _ _ _ _ _ hjn, updr_in _ _ _ _ _ (Nat.zero_le j) (by omega), Nat.sub_zero]
          · rw [updr_in _ _ _ _ _ (show ny ≤ j by omega) (by omega), show ny + (j - ny) = j by omega, or_left (by rw [HN.out.2]; omega)]
        have hlen := clen_le ((updr (updr (fun _ => 0) 0 (dig BW (V ||| U)) ny) ny (fun j => dig BW V (ny + j)) (nx - ny))) nx
        have KN := Lib.hid (norm_any (some ⟨g, 0, none⟩) nx c ((updr (updr (fun _ => 0) 0 (dig BW (V ||| U)) ny) ny (fun j => dig BW V (ny + j)) (nx - ny))) _ hnc (by omega) (Reads.of_own O4.out))
        have FF := Lib.hid (And.intro (nat_finish O4.out HL.out hF) B4.out)
        clear hF hlen
        go_wp2_with fail
        refine KN.out.mono ?_
        rintro e w9 ⟨rfl, rfl⟩
        go_wp2
        go_ret
        exact ⟨_, rfl, FF.out.1, FF.out.2⟩

set_option maxHeartbeats 1000000 in
theorem natOr_eq (ax ay : Option Addr) (V U nx ny cx cy : Nat) (w : World) (hnx : nlen BW V = nx) (hny : nlen BW U = ny) (hx : nx ≤ 2147483647) (hy : ny ≤ 2147483647) (hcx : nx ≤ cx) (hcy : ny ≤ cy) (hcase : ny = nx) (hM : 1 ≤ nx)
    (hrdx : Reads w .u64 ax nx (dig BW V)) (hrdy : Reads w .u64 ay ny (dig BW U)) :
    Calls Tryd.prog 68 #[.slice none 0 0, .slice ax nx cx, .slice ay ny cy] w (NatPost (V ||| U) w) := by
  have HL := Lib.hid (show (V ||| U) < BW ^ nx from or_lt (by omega))
  have KM := Lib.hid (make_nil nx w (by omega))
  have HN := Lib.hid (And.intro hnx hny)
  have R := Lib.hid (And.intro hrdx hrdy)
  have hd : decide (nx < ny) = false := by simp; omega
  have hxi : (nx : Int) ≤ (cx : Int) := by omega
  have hyi : (ny : Int) ≤ (cy : Int) := by omega
  clear hnx hny hrdx hrdy
  go_enter Tryd.func68, Tryd.ntmps68
  go_wp2_with fail
  refine KM.out.mono ?_
  rintro e w1 ⟨v, rfl, own1, b1⟩
  rcases own1.shape with ⟨rfl, hz⟩ | ⟨g, c, rfl, hbg, hgl, hnc, hcb⟩
  · omega
  · have O0 := Lib.hid (show Own w1 w.heap.size 83 .u64 (.slice (some ⟨g, 0, none⟩) nx c) nx (updr (fun _ => 0) 0 (dig BW (V ||| U)) 0) from own1.congr fun j _ => (updr_zero (fun _ => 0) 0 (dig BW (V ||| U)) j).symm)
    have B1 := Lib.hid b1
    clear own1 b1 KM
    go_wp2_with fail
    go_loopw [10] (fun ti wr => ∃ i : Nat, i ≤ nx ∧ ti = .int .i64 i ∧ Own wr w.heap.size 83 .u64 (.slice (some ⟨g, 0, none⟩) nx c) nx (updr (fun _ => 0) 0 (dig BW (V ||| U)) i) ∧ w1.grownBy wr (some g)) (fun ti _ => nx - (intOf ti).toNat)
    case atStart => exact ⟨0, Nat.zero_le _, rfl, O0.out, World.grownBy.refl _ _⟩
    case round =>
      obtain ⟨i, hin, rfl, own, gr⟩ := hrel
      clear O0
      by_cases h1 : i < nx
      · obtain ⟨bx, ox, rfl, hcx0⟩ := R.out.1 i (by omega)
        obtain ⟨by', oy, rfl, hcy0⟩ := R.out.2 i (by omega)
        have hcx := cell_kept hcx0 B1.out gr hbg
        have hcy := cell_kept hcy0 B1.out gr hbg
        have hd1 := dig_BW V i
        have hd2 := dig_BW U i
        have hdd : dig BW (V ||| U) i = _ := dig_or V U i
        obtain ⟨d1, h11⟩ : ∃ d, d = dig BW V i := ⟨_, rfl⟩
        obtain ⟨d2, h22⟩ : ∃ d, d = dig BW U i := ⟨_, rfl⟩
        rw [← h11, ← h22] at hdd
        rw [← h11] at hcx hd1
        rw [← h22] at hcy hd2
        have hop := bits_or_u64_nat d1 d2 hd1 hd2
        obtain ⟨d3, h33⟩ : ∃ d, d = (d1 ||| d2) := ⟨_, rfl⟩
        rw [← h33] at hop hdd
        have hc := own.cell i (by omega)
        have hfz := own.free i
        have G := Lib.hid (And.intro own (And.intro gr hdd))
        clear own gr hdd hcx0 hcy0 h11 h22 h33
        go_wp2_with fail
        go_region
        go_wp2
        go_roundw
        case rel =>
          go_light
          refine ⟨i + 1, by omega, by go_num, ?_, grown_trans G.out.2.1 (grown_trans (show wr.grownBy wr.drew (some g) from grown_drewN wr 1 _) (grown_setCell wr.drew ⟨g, i, none⟩ (.int .u64 d3)))⟩
          exact (G.out.1.drew.stored i d3).congr fun j _ => by
            have h := updr_succ (fun _ => 0) 0 (dig BW (V ||| U)) i d3 G.out.2.2.symm j
            rw [Nat.zero_add] at h
            exact h
        case measure => simp [intOf]; omega
      · obtain rfl : nx = i := by omega
        have B3 := Lib.hid (B1.out.grown gr B1.out.size (fun k hk => by cases hk; exact hbg))
        have O3 := Lib.hid own
        have GR := Lib.hid gr
        clear own gr
        by_cases e1 : c = nx
        · by_cases e2 : cx = nx
          · obtain rfl : nx = c := e1.symm
            obtain rfl : nx = cx := e2.symm
            have hmc : (nx : Int) ≤ (nx : Int) := by omega
            go_wp2_with fail
            go_region_held3 (fun _ => True) (trivial) (first | (refine step_copy_none rfl (.tmp 45) (.tmp 49) 70 70 rfl 83 Tryd.underlying70 info_Word_one _ _ _ _ _ _ rfl rfl (by simp) ?_))
            have O4 := Lib.hid O3.out.drew
            have B4 := Lib.hid B3.out.drew
            have hF : ∀ j, j < nx → (updr (fun _ => 0) 0 (dig BW (V ||| U)) nx) j = dig BW (V ||| U) j := by
              intro j hj
              rw [updr_in _ _ _ _ _ (Nat.zero_le j) (by omega), Nat.sub_zero]
            have hlen := clen_le ((updr (fun _ => 0) 0 (dig BW (V ||| U)) nx)) nx
            have KN := Lib.hid (norm_any (some ⟨g, 0, none⟩) nx nx ((updr (fun _ => 0) 0 (dig BW (V ||| U)) nx)) _ hnc (by omega) (Reads.of_own O4.out))
            have FF := Lib.hid (And.intro (nat_finish O4.out HL.out hF) B4.out)
            clear hF hlen
            go_wp2_with fail
            refine KN.out.mono ?_
            rintro e w9 ⟨rfl, rfl⟩
            go_wp2
            go_ret
            exact ⟨_, rfl, FF.out.1, FF.out.2⟩
          · obtain rfl : nx = c := e1.symm
            have hsN : ¬ (cx = nx) := e2
            have hmc : (nx : Int) ≤ (nx : Int) := by omega
            go_wp2_with fail
            go_region_held3 (fun _ => True) (trivial) (first | (refine step_copy_none rfl (.tmp 45) (.tmp 49) 70 70 rfl 83 Tryd.underlying70 info_Word_one _ _ _ _ _ _ rfl rfl (by simp) ?_))
            have O4 := Lib.hid O3.out.drew
            have B4 := Lib.hid B3.out.drew
            have hF : ∀ j, j < nx → (updr (fun _ => 0) 0 (dig BW (V ||| U)) nx) j = dig BW (V ||| U) j := by
              intro j hj
              rw [updr_in _ _ _ _ _ (Nat.zero_le j) (by omega), Nat.sub_zero]
            have hlen := clen_le ((updr (fun _ => 0) 0 (dig BW (V ||| U)) nx)) nx
            have KN := Lib.hid (norm_any (some ⟨g, 0, none⟩) nx nx ((updr (fun _ => 0) 0 (dig BW (V ||| U)) nx)) _ hnc (by omega) (Reads.of_own O4.out))
            have FF := Lib.hid (And.intro (nat_finish O4.out HL.out hF) B4.out)
            clear hF hlen
            go_wp2_with fail
            refine KN.out.mono ?_
            rintro e w9 ⟨rfl, rfl⟩
            go_wp2
            go_ret
            exact ⟨_, rfl, FF.out.1, FF.out.2⟩
        · by_cases e2 : cx = nx
          · have hcN : ¬ (c = nx) := e1
            obtain rfl : nx = cx := e2.symm
            have hmc : (nx : Int) ≤ (c : Int) := by omega
            go_wp2_with fail
            go_region_held3 (fun _ => True) (trivial) (first | (refine step_copy_none rfl (.tmp 45) (.tmp 49) 70 70 rfl 83 Tryd.underlying70 info_Word_one _ _ _ _ _ _ rfl rfl (by simp) ?_))
            have O4 := Lib.hid O3.out.drew
            have B4 := Lib.hid B3.out.drew
            have hF : ∀ j, j < nx → (updr (fun _ => 0) 0 (dig BW (V ||| U)) nx) j = dig BW (V ||| U) j := by
              intro j hj
              rw [updr_in _ _ _ _ _ (Nat.zero_le j) (by omega), Nat.sub_zero]
            have hlen := clen_le ((updr (fun _ => 0) 0 (dig BW (V ||| U)) nx)) nx
            have KN := Lib.hid (norm_any (some ⟨g, 0, none⟩) nx c ((updr (fun _ => 0) 0 (dig BW (V ||| U)) nx)) _ hnc (by omega) (Reads.of_own O4.out))
            have FF := Lib.hid (And.intro (nat_finish O4.out HL.out hF) B4.out)
            clear hF hlen
            go_wp2_with fail
            refine KN.out.mono ?_
            rintro e w9 ⟨rfl, rfl⟩
            go_wp2
            go_ret
            exact ⟨_, rfl, FF.out.1, FF.out.2⟩
          · have hcN : ¬ (c = nx) := e1
            have hsN : ¬ (cx = nx) := e2
            have hmc : (nx : Int) ≤ (c : Int) := by omega
            go_wp2_with fail
            go_region_held3 (fun _ => True) (trivial) (first | (refine step_copy_none rfl (.tmp 45) (.tmp 49) 70 70 rfl 83 Tryd.underlying70 info_Word_one _ _ _ _ _ _ rfl rfl (by simp) ?_))
            have O4 := Lib.hid O3.out.drew
            have B4 := Lib.hid B3.out.drew
            have hF : ∀ j, j < nx → (updr (fun _ => 0) 0 (dig BW (V ||| U)) nx) j = dig BW (V ||| U) j := by
              intro j hj
              rw [updr_in _ _ _ _ _ (Nat.zero_le j) (by omega), Nat.sub_zero]
            have hlen := clen_le ((updr (fun _ => 0) 0 (dig BW (V ||| U)) nx)) nx
            have KN := Lib.hid (norm_any (some ⟨g, 0, none⟩) nx c ((updr (fun _ => 0) 0 (dig BW (V ||| U)) nx)) _ hnc (by omega) (Reads.of_own O4.out))
            have FF := Lib.hid (And.intro (nat_finish O4.out HL.out hF) B4.out)
            clear hF hlen
            go_wp2_with fail
            refine KN.out.mono ?_
            rintro e w9 ⟨rfl, rfl⟩
            go_wp2
            go_ret
            exact ⟨_, rfl, FF.out.1, FF.out.2⟩

set_option maxHeartbeats 1000000 in
theorem natOr_lt (ax ay : Option Addr) (V U nx ny cx cy : Nat) (w : World) (hnx : nlen BW V = nx) (hny : nlen BW U = ny) (hx : nx ≤ 2147483647) (hy : ny ≤ 2147483647) (hcx : nx ≤ cx) (hcy : ny ≤ cy) (hcase : nx < ny) (hM : 1 ≤ ny)
    (hrdx : Reads w .u64 ax nx (dig BW V)) (hrdy : Reads w .u64 ay ny (dig BW U)) :
    Calls Tryd.prog 68 #[.slice none 0 0, .slice ax nx cx, .slice ay ny cy] w (NatPost (V ||| U) w) := by
  have HL := Lib.hid (show (V ||| U) < BW ^ ny from or_lt (by omega))
  have KM := Lib.hid (make_nil ny w (by omega))
  have HN := Lib.hid (And.intro hnx hny)
  have R := Lib.hid (And.intro hrdx hrdy)
  have hd : decide (nx < ny) = true := by simp; omega
  have hxi : (nx : Int) ≤ (cx : Int) := by omega
  have hyi : (ny : Int) ≤ (cy : Int) := by omega
  clear hnx hny hrdx hrdy
  go_enter Tryd.func68, Tryd.ntmps68
  go_wp2_with fail
  refine KM.out.mono ?_
  rintro e w1 ⟨v, rfl, own1, b1⟩
  rcases own1.shape with ⟨rfl, hz⟩ | ⟨g, c, rfl, hbg, hgl, hnc, hcb⟩
  · omega
  · have O0 := Lib.hid (show Own w1 w.heap.size 83 .u64 (.slice (some ⟨g, 0, none⟩) ny c) ny (updr (fun _ => 0) 0 (dig BW (V ||| U)) 0) from own1.congr fun j _ => (updr_zero (fun _ => 0) 0 (dig BW (V ||| U)) j).symm)
    have B1 := Lib.hid b1
    clear own1 b1 KM
    go_wp2_with fail
    go_loopw [10] (fun ti wr => ∃ i : Nat, i ≤ nx ∧ ti = .int .i64 i ∧ Own wr w.heap.size 83 .u64 (.slice (some ⟨g, 0, none⟩) ny c) ny (updr (fun _ => 0) 0 (dig BW (V ||| U)) i) ∧ w1.grownBy wr (some g)) (fun ti _ => nx - (intOf ti).toNat)
    case atStart => exact ⟨0, Nat.zero_le _, rfl, O0.out, World.grownBy.refl _ _⟩
    case round =>
      obtain ⟨i, hin, rfl, own, gr⟩ := hrel
      clear O0
      by_cases h1 : i < nx
      · obtain ⟨bx, ox, rfl, hcx0⟩ := R.out.1 i (by omega)
        obtain ⟨by', oy, rfl, hcy0⟩ := R.out.2 i (by omega)
        have hcx := cell_kept hcx0 B1.out gr hbg
        have hcy := cell_kept hcy0 B1.out gr hbg
        have hd1 := dig_BW V i
        have hd2 := dig_BW U i
        have hdd : dig BW (V ||| U) i = _ := dig_or V U i
        obtain ⟨d1, h11⟩ : ∃ d, d = dig BW V i := ⟨_, rfl⟩
        obtain ⟨d2, h22⟩ : ∃ d, d = dig BW U i := ⟨_, rfl⟩
        rw [← h11, ← h22] at hdd
        rw [← h11] at hcx hd1
        rw [← h22] at hcy hd2
        have hop := bits_or_u64_nat d1 d2 hd1 hd2
        obtain ⟨d3, h33⟩ : ∃ d, d = (d1 ||| d2) := ⟨_, rfl⟩
        rw [← h33] at hop hdd
        have hc := own.cell i (by omega)
        have hfz := own.free i
        have G := Lib.hid (And.intro own (And.intro gr hdd))
        clear own gr hdd hcx0 hcy0 h11 h22 h33
        go_wp2_with fail
        go_region
        go_wp2
        go_roundw
        case rel =>
          go_light
          refine ⟨i + 1, by omega, by go_num, ?_, grown_trans G.out.2.1 (grown_trans (show wr.grownBy wr.drew (some g) from grown_drewN wr 1 _) (grown_setCell wr.drew ⟨g, i, none⟩ (.int .u64 d3)))⟩
          exact (G.out.1.drew.stored i d3).congr fun j _ => by
            have h := updr_succ (fun _ => 0) 0 (dig BW (V ||| U)) i d3 G.out.2.2.symm j
            rw [Nat.zero_add] at h
            exact h
        case measure => simp [intOf]; omega
      · obtain rfl : nx = i := by omega
        have B3 := Lib.hid (B1.out.grown gr B1.out.size (fun k hk => by cases hk; exact hbg))
        have O3 := Lib.hid own
        have GR := Lib.hid gr
        clear own gr
        go_wp2_with fail
        obtain ⟨bs, os, hsa, hsc⟩ : ∃ bs os, ay = some ⟨bs, os, none⟩ ∧ bs < w.heap.size := by
          obtain ⟨bs, os, h1, h2⟩ := R.out.2 0 (by omega)
          exact ⟨bs, os, h1, World.block_lt_of_cell? _ _ h2⟩
        have hs3 : Reads wr .u64 ay ny (dig BW U) := (R.out.2.below B1.out).grown GR.out (by
          intro a ha
          rw [hsa] at ha
          cases ha
          simp
          omega)
        rw [hsa] at hs3
        have hrow := O3.out.drew
        have hsrc := reads_from (w := wr.drew) hs3 nx (by omega)
        subst hsa
        have hnm : (nx : Int) ≤ (ny : Int) := by omega
        have hcN : ¬ (c = nx) := by omega
        have hsN : ¬ (cy = nx) := by omega
        have hmc : (ny : Int) ≤ (c : Int) := by omega
        have hms : (ny : Int) ≤ (cy : Int) := by omega
        clear hs3
        go_region_held3 (fun _ => True) (trivial) (first | (refine step_copy_row rfl (.tmp 45) (.tmp 49) 70 70 rfl 83 Tryd.underlying70 info_Word_one _ _ _ _ _ _ rfl rfl w.heap.size .u64 g ny c _ hrow nx (ny - nx) _ (by omega) (by omega) (by intro h; rfl) hsrc (by omega) ?_; intro w8 own8 gr8))
        have O4 := Lib.hid own8
        have B4 := Lib.hid ((B3.out.drew).grown gr8 B3.out.size (fun k hk => by cases hk; exact hbg))
        clear own8 gr8 hrow hsrc
        have hF : ∀ j, j < ny → (updr (updr (fun _ => 0) 0 (dig BW (V ||| U)) nx) nx (fun j => dig BW U (nx + j)) (ny - nx)) j = dig BW (V ||| U) j := by
          intro j hj
          by_cases hjn : j < nx
          · rw [updr_lo _ _ _ _ _ hjn, updr_in _ _ _ _ _ (Nat.zero_le j) (by omega), Nat.sub_zero]
          · rw [updr_in _ _ _ _ _ (show nx ≤ j by omega) (by omega), show nx + (j - nx) = j by omega, or_right (by rw [HN.out.1]; omega)]
        have hlen := clen_le ((updr (updr (fun _ => 0) 0 (dig BW (V ||| U)) nx) nx (fun j => dig BW U (nx + j)) (ny - nx))) ny
        have KN := Lib.hid (norm_any (some ⟨g, 0, none⟩) ny c ((updr (updr (fun _ => 0) 0 (dig BW (V ||| U)) nx) nx (fun j => dig BW U (nx + j)) (ny - nx))) _ hnc (by omega) (Reads.of_own O4.out))
        have FF := Lib.hid (And.intro (nat_finish O4.out HL.out hF) B4.out)
        clear hF hlen
        go_wp2_with fail
        refine KN.out.mono ?_
        rintro e w9 ⟨rfl, rfl⟩
        go_wp2
        go_ret
        exact ⟨_, rfl, FF.out.1, FF.out.2⟩

theorem natOr_z (ax ay : Option Addr) (R nx ny cx cy : Nat) (w : World)  (hR : R = 0) :
    Calls Tryd.prog 68 #[.slice none 0 0, .slice ax 0 cx, .slice ay 0 cy] w (NatPost R w) := by
  have HR := Lib.hid hR
  clear hR
  go_enter Tryd.func68, Tryd.ntmps68
  go_wp2_with fail
  refine (make_none0 w).mono ?_
  rintro e w1 ⟨rfl, rfl⟩
  go_wp2_with fail
  refine wp_loop_rounds 1 ?_
  rw [rounds_succ]
  go_wp2_with fail
  go_region_held3 (fun _ => True) (trivial) (first | (refine step_copy_none rfl (.tmp 45) (.tmp 49) 70 70 rfl 83 Tryd.underlying70 info_Word_one _ _ _ _ _ _ rfl rfl rfl ?_))
  go_wp2_with fail
  refine (norm_none none 0 _).mono ?_
  rintro e w2 ⟨rfl, rfl⟩
  go_wp2
  go_ret
  exact nat_nil HR.out ⟨rfl, rfl, rfl, Nat.le_refl _, fun _ _ => rfl⟩

theorem natOr_any (ax ay : Option Addr) (V U cx cy : Nat) (w : World) (hx : nlen BW V ≤ 2147483647) (hy : nlen BW U ≤ 2147483647) (hcx : nlen BW V ≤ cx) (hcy : nlen BW U ≤ cy)
    (hrdx : Reads w .u64 ax (nlen BW V) (dig BW V)) (hrdy : Reads w .u64 ay (nlen BW U) (dig BW U)) :
    Calls Tryd.prog 68 #[.slice none 0 0, .slice ax (nlen BW V) cx, .slice ay (nlen BW U) cy] w (NatPost (V ||| U) w) := by
  by_cases h0 : nlen BW V = 0 ∧ nlen BW U = 0
  · have hR : (V ||| U) = 0 := lt_one_zero (or_lt (m := 0) (by omega))
    rw [h0.1, h0.2]
    exact natOr_z ax ay _ 0 0 cx cy w hR
  · by_cases h : nlen BW V < nlen BW U
    · exact natOr_lt ax ay V U _ _ cx cy w rfl rfl hx hy hcx hcy h (by omega) hrdx hrdy
    · by_cases h' : nlen BW U = nlen BW V
      · exact natOr_eq ax ay V U _ _ cx cy w rfl rfl hx hy hcx hcy h' (by omega) hrdx hrdy
      · exact natOr_ge ax ay V U _ _ cx cy w rfl rfl hx hy hcx hcy (by omega) (by omega) hrdx hrdy

end Go.Proofs.YtidifjmjbfhpaaaDoor
namespace Go.Proofs.YtidifjmjbfhpaaaDoor
set_option linter.unusedVariables false
set_option linter.unusedSimpArgs false
open Go.RowKit

set_option maxHeartbeats 1000000 in
theorem natXor_ge (ax ay : Option Addr) (V U nx ny cx cy : Nat) (w : World) (hnx : nlen BW V = nx) (hny : nlen BW U = ny) (hx : nx ≤ 2147483647) (hy : ny ≤ 2147483647) (hcx : nx ≤ cx) (hcy : ny ≤ cy) (hcase : ny < nx) (hM : 1 ≤ nx)
    (hrdx : Reads w .u64 ax nx (dig BW V)) (hrdy : Reads w .u64 ay ny (dig BW U)) :
    Calls Tryd.prog 71 #[.slice none 0 0, .slice ax nx cx, .slice ay ny cy] w (NatPost (V ^^^ U) w) := by
  have HL := Lib.hid (show (V ^^^ U) < BW ^ nx from xor_lt (by omega))
  have KM := Lib.hid (make_nil nx w (by omega))
  have HN := Lib.hid (And.intro hnx hny)
  have R := Lib.hid (And.intro hrdx hrdy)
  have hd : decide (nx < ny) = false := by simp; omega
  have hxi : (nx : Int) ≤ (cx : Int) := by omega
  have hyi : (ny : Int) ≤ (cy : Int) := by omega
  clear hnx hny hrdx hrdy
  go_enter Tryd.func71, Tryd.ntmps71
  go_wp2_with fail
  refine KM.out.mono ?_
  rintro e w1 ⟨v, rfl, own1, b1⟩
  rcases own1.shape with ⟨rfl, hz⟩ | ⟨g, c, rfl, hbg, hgl, hnc, hcb⟩
  · omega
  · have O0 := Lib.hid (show Own w1 w.heap.size 83 .u64 (.slice (some ⟨g, 0, none⟩) nx c) nx (updr (fun _ => 0) 0 (dig BW (V ^^^ U)) 0) from own1.congr fun j _ => (updr_zero (fun _ => 0) 0 (dig BW (V ^^^ U)) j).symm)
    have B1 := Lib.hid b1
    clear own1 b1 KM
    go_wp2_with fail
    go_loopw [10] (fun ti wr => ∃ i : Nat, i ≤ ny ∧ ti = .int .i64 i ∧ Own wr w.heap.size 83 .u64 (.slice (some ⟨g, 0, none⟩) nx c) nx (updr (fun _ => 0) 0 (dig BW (V ^^^ U)) i) ∧ w1.grownBy wr (some g)) (fun ti _ => ny - (intOf ti).toNat)
    case atStart => exact ⟨0, Nat.zero_le _, rfl, O0.out, World.grownBy.refl _ _⟩
    case round =>
      obtain ⟨i, hin, rfl, own, gr⟩ := hrel
      clear O0
      by_cases h1 : i < ny
      · obtain ⟨bx, ox, rfl, hcx0⟩ := R.out.1 i (by omega)
        obtain ⟨by', oy, rfl, hcy0⟩ := R.out.2 i (by omega)
        have hcx := cell_kept hcx0 B1.out gr hbg
        have hcy := cell_kept hcy0 B1.out gr hbg
        have hd1 := dig_BW V i
        have hd2 := dig_BW U i
        have hdd : dig BW (V ^^^ U) i = _ := dig_xor V U i
        obtain ⟨d1, h11⟩ : ∃ d, d = dig BW V i := ⟨_, rfl⟩
        obtain ⟨d2, h22⟩ : ∃ d, d = dig BW U i := ⟨_, rfl⟩
        rw [← h11, ← h22] at hdd
        rw [← h11] at hcx hd1
        rw [← h22] at hcy hd2
        have hop := bits_xor_u64_nat d1 d2 hd1 hd2
        obtain ⟨d3, h33⟩ : ∃ d, d = (d1 ^^^ d2) := ⟨_, rfl⟩
        rw [← h33] at hop hdd
        have hc := own.cell i (by omega)
        have hfz := own.free i
        have G := Lib.hid (And.intro own (And.intro gr hdd))
        clear own gr hdd hcx0 hcy0 h11 h22 h33
        go_wp2_with fail
        go_region
        go_wp2
        go_roundw
        case rel =>
          go_light
          refine ⟨i + 1, by omega, by go_num, ?_, grown_trans G.out.2.1 (grown_trans (show wr.grownBy wr.drew (some g) from grown_drewN wr 1 _) (grown_setCell wr.drew ⟨g, i, none⟩ (.int .u64 d3)))⟩
          exact (G.out.1.drew.stored i d3).congr fun j _ => by
            have h := updr_succ (fun _ => 0) 0 (dig BW (V ^^^ U)) i d3 G.out.2.2.symm j
            rw [Nat.zero_add] at h
            exact h
        case measure => simp [intOf]; omega
      · obtain rfl : ny = i := by omega
        have B3 := Lib.hid (B1.out.grown gr B1.out.size (fun k hk => by cases hk; exact hbg))
        have O3 := Lib.hid own
        have GR := Lib.hid gr
        clear own gr
        go_wp2_with fail
        obtain ⟨bs, os, hsa, hsc⟩ : ∃ bs os, ax = some ⟨bs, os, none⟩ ∧ bs < w.heap.size := by
          obtain ⟨bs, os, h1, h2⟩ := R.out.1 0 (by omega)
          exact ⟨bs, os, h1, World.block_lt_of_cell? _ _ h2⟩
        have hs3 : Reads wr .u64 ax nx (dig BW V) := (R.out.1.below B1.out).grown GR.out (by
          intro a ha
          rw [hsa] at ha
          cases ha
          simp
          omega)
        rw [hsa] at hs3
        have hrow := O3.out.drew
        have hsrc := reads_from (w := wr.drew) hs3 ny (by omega)
        subst hsa
        have hnm : (ny : Int) ≤ (nx : Int) := by omega
        have hcN : ¬ (c = ny) := by omega
        have hsN : ¬ (cx = ny) := by omega
        have hmc : (nx : Int) ≤ (c : Int) := by omega
        have hms : (nx : Int) ≤ (cx : Int) := by omega
        clear hs3
        go_region_held3 (fun _ => True) (trivial) (first | (refine step_copy_row rfl (.tmp 45) (.tmp 49) 70 70 rfl 83 Tryd.underlying70 info_Word_one _ _ _ _ _ _ rfl rfl w.heap.size .u64 g nx c _ hrow ny (nx - ny) _ (by omega) (by omega) (by intro h; rfl) hsrc (by omega) ?_; intro w8 own8 gr8))
        have O4 := Lib.hid own8
        have B4 := Lib.hid ((B3.out.drew).grown gr8 B3.out.size (fun k hk => by cases hk; exact hbg))
        clear own8 gr8 hrow hsrc
        have hF : ∀ j, j < nx → (updr (updr (fun _ => 0) 0 (dig BW (V ^^^ U)) ny) ny (fun j => dig BW V (ny + j)) (nx - ny)) j = dig BW (V ^^^ U) j := by
          intro j hj
          by_cases hjn : j < ny
          · rw [updr_lo _ _ _ _ _ hjn, updr_in _ _ _ _ _ (Nat.zero_le j) (by omega), Nat.sub_zero]
          · rw [updr_in _ _ _ _ _ (show ny ≤ j by omega) (by omega), show ny + (j - ny) = j by omega, xor_left (by rw [HN.out.2]; omega)]
        have hlen := clen_le ((updr (updr (fun _ => 0) 0 (dig BW (V ^^^ U)) ny) ny (fun j => dig BW V (ny + j)) (nx - ny))) nx
        have KN := Lib.hid (norm_any (some ⟨g, 0, none⟩) nx c ((updr (updr (fun _ => 0) 0 (dig BW (V ^^^ U)) ny) ny (fun j => dig BW V (ny + j)) (nx - ny))) _ hnc (by omega) (Reads.of_own O4.out))
        have FF := Lib.hid (And.intro (nat_finish O4.out HL.out hF) B4.out)
        clear hF hlen
        go_wp2_with fail
        refine KN.out.mono ?_
        rintro e w9 ⟨rfl, rfl⟩
        go_wp2
        go_ret
        exact ⟨_, rfl, FF.out.1, FF.out.2⟩

set_option maxHeartbeats 1000000 in
theorem natXor_eq (ax ay : Option Addr) (V U nx ny cx cy : Nat) (w : World) (hnx : nlen BW V = nx) (hny : nlen BW U = ny) (hx : nx ≤ 2147483647) (hy : ny ≤ 2147483647) (hcx : nx ≤ cx) (hcy : ny ≤ cy) (hcase : ny = nx) (hM : 1 ≤ nx)
    (hrdx : Reads w .u64 ax nx (dig BW V)) (hrdy : Reads w .u64 ay ny (dig BW U)) :
    Calls Tryd.prog 71 #[.slice none 0 0, .slice ax nx cx, .slice ay ny cy] w (NatPost (V ^^^ U) w) := by
  have HL := Lib.hid (show (V ^^^ U) < BW ^ nx from xor_lt (by omega))
  have KM := Lib.hid (make_nil nx w (by omega))
  have HN := Lib.hid (And.intro hnx hny)
  have R := Lib.hid (And.intro hrdx hrdy)
  have hd : decide (nx < ny) = false := by simp; omega
  have hxi : (nx : Int) ≤ (cx : Int) := by omega
  have hyi : (ny : Int) ≤ (cy : Int) := by omega
  clear hnx hny hrdx hrdy
  go_enter Tryd.func71, Tryd.ntmps71
  go_wp2_with fail
  refine KM.out.mono ?_
  rintro e w1 ⟨v, rfl, own1, b1⟩
  rcases own1.shape with ⟨rfl, hz⟩ | ⟨g, c, rfl, hbg, hgl, hnc, hcb⟩
  · omega
  · have O0 := Lib.hid (show Own w1 w.heap.size 83 .u64 (.slice (some ⟨g, 0, none⟩) nx c) nx (updr (fun _ => 0) 0 (dig BW (V ^^^ U)) 0) from own1.congr fun j _ => (updr_zero (fun _ => 0) 0 (dig BW (V ^^^ U)) j).symm)
    have B1 := Lib.hid b1
    clear own1 b1 KM
    go_wp2_with fail
    go_loopw [10] (fun ti wr => ∃ i : Nat, i ≤ nx ∧ ti = .int .i64 i ∧ Own wr w.heap.size 83 .u64 (.slice (some ⟨g, 0, none⟩) nx c) nx (updr (fun _ => 0) 0 (dig BW (V ^^^ U)) i) ∧ w1.grownBy wr (some g)) (fun ti _ => nx - (intOf ti).toNat)
    case atStart => exact ⟨0, Nat.zero_le _, rfl, O0.out, World.grownBy.refl _ _⟩
    case round =>
      obtain ⟨i, hin, rfl, own, gr⟩ := hrel
      clear O0
      by_cases h1 : i < nx
      · obtain ⟨bx, ox, rfl, hcx0⟩ := R.out.1 i (by omega)
        obtain ⟨by', oy, rfl, hcy0⟩ := R.out.2 i (by omega)
        have hcx := cell_kept hcx0 B1.out gr hbg
        have hcy := cell_kept hcy0 B1.out gr hbg
        have hd1 := dig_BW V i
        have hd2 := dig_BW U i
        have hdd : dig BW (V ^^^ U) i = _ := dig_xor V U i
        obtain ⟨d1, h11⟩ : ∃ d, d = dig BW V i := ⟨_, rfl⟩
        obtain ⟨d2, h22⟩ : ∃ d, d = dig BW U i := ⟨_, rfl⟩
        rw [← h11, ← h22] at hdd
        rw [← h11] at hcx hd1
        rw [← h22] at hcy hd2
        have hop := bits_xor_u64_nat d1 d2 hd1 hd2
        obtain ⟨d3, h33⟩ : ∃ d, d = (d1 ^^^ d2) := ⟨_, rfl⟩
        rw [← h33] at hop hdd
        have hc := own.cell i (by omega)
        have hfz := own.free i
        have G := Lib.hid (And.intro own (And.intro gr hdd))
        clear own gr hdd hcx0 hcy0 h11 h22 h33
        go_wp2_with fail
        go_region
        go_wp2
        go_roundw
        case rel =>
          go_light
          refine ⟨i + 1, by omega, by go_num, ?_, grown_trans G.out.2.1 (grown_trans (show wr.grownBy wr.drew (some g) from grown_drewN wr 1 _) (grown_setCell wr.drew ⟨g, i, none⟩ (.int .u64 d3)))⟩
          exact (G.out.1.drew.stored i d3).congr fun j _ => by
            have h := updr_succ (fun _ => 0) 0 (dig BW (V ^^^ U)) i d3 G.out.2.2.symm j
            rw [Nat.zero_add] at h
            exact h
        case measure => simp [intOf]; omega
      · obtain rfl : nx = i := by omega
        have B3 := Lib.hid (B1.out.grown gr B1.out.size (fun k hk => by cases hk; exact hbg))
        have O3 := Lib.hid own
        have GR := Lib.hid gr
        clear own gr
        by_cases e1 : c = nx
        · by_cases e2 : cx = nx
          · obtain rfl : nx = c := e1.symm
            obtain rfl : nx = cx := e2.symm
            have hmc : (nx : Int) ≤ (nx : Int) := by omega
            go_wp2_with fail
            go_region_held3 (fun _ => True) (trivial) (first | (refine step_copy_none rfl (.tmp 45) (.tmp 49) 70 70 rfl 83 Tryd.underlying70 info_Word_one _ _ _ _ _ _ rfl rfl (by simp) ?_))
            have O4 := Lib.hid O3.out.drew
            have B4 := Lib.hid B3.out.drew
            have hF : ∀ j, j < nx → (updr (fun _ => 0) 0 (dig BW (V ^^^ U)) nx) j = dig BW (V ^^^ U) j := by
              intro j hj
              rw [updr_in _ _ _ _ _ (Nat.zero_le j) (by omega), Nat.sub_zero]
            have hlen := clen_le ((updr (fun _ => 0) 0 (dig BW (V ^^^ U)) nx)) nx
            have KN := Lib.hid (norm_any (some ⟨g, 0, none⟩) nx nx ((updr (fun _ => 0) 0 (dig BW (V ^^^ U)) nx)) _ hnc (by omega) (Reads.of_own O4.out))
            have FF := Lib.hid (And.intro (nat_finish O4.out HL.out hF) B4.out)
            clear hF hlen
            go_wp2_with fail
            refine KN.out.mono ?_
            rintro e w9 ⟨rfl, rfl⟩
            go_wp2
            go_ret
            exact ⟨_, rfl, FF.out.1, FF.out.2⟩
          · obtain rfl : nx = c := e1.symm
            have hsN : ¬ (cx = nx) := e2
            have hmc : (nx : Int) ≤ (nx : Int) := by omega
            go_wp2_with fail
            go_region_held3 (fun _ => True) (trivial) (first | (refine step_copy_none rfl (.tmp 45) (.tmp 49) 70 70 rfl 83 Tryd.underlying70 info_Word_one _ _ _ _ _ _ rfl rfl (by simp) ?_))
            have O4 := Lib.hid O3.out.drew
            have B4 := Lib.hid B3.out.drew
            have hF : ∀ j, j < nx → (updr (fun _ => 0) 0 (dig BW (V ^^^ U)) nx) j = dig BW (V ^^^ U) j := by
              intro j hj
              rw [updr_in _ _ _ _ _ (Nat.zero_le j) (by omega), Nat.sub_zero]
            have hlen := clen_le ((updr (fun _ => 0) 0 (dig BW (V ^^^ U)) nx)) nx
            have KN := Lib.hid (norm_any (some ⟨g, 0, none⟩) nx nx ((updr (fun _ => 0) 0 (dig BW (V ^^^ U)) nx)) _ hnc (by omega) (Reads.of_own O4.out))
            have FF := Lib.hid (And.intro (nat_finish O4.out HL.out hF) B4.out)
            clear hF hlen
            go_wp2_with fail
            refine KN.out.mono ?_
            rintro e w9 ⟨rfl, rfl⟩
            go_wp2
            go_ret
            exact ⟨_, rfl, FF.out.1, FF.out.2⟩
        · by_cases e2 : cx = nx
          · have hcN : ¬ (c = nx) := e1
            obtain rfl : nx = cx := e2.symm
            have hmc : (nx : Int) ≤ (c : Int) := by omega
            go_wp2_with fail
            go_region_held3 (fun _ => True) (trivial) (first | (refine step_copy_none rfl (.tmp 45) (.tmp 49) 70 70 rfl 83 Tryd.underlying70 info_Word_one _ _ _ _ _ _ rfl rfl (by simp) ?_))
            have O4 := Lib.hid O3.out.drew
            have B4 := Lib.hid B3.out.drew
            have hF : ∀ j, j < nx → (updr (fun _ => 0) 0 (dig BW (V ^^^ U)) nx) j = dig BW (V ^^^ U) j := by
              intro j hj
              rw [updr_in _ _ _ _ _ (Nat.zero_le j) (by omega), Nat.sub_zero]
            have hlen := clen_le ((updr (fun _ => 0) 0 (dig BW (V ^^^ U)) nx)) nx
            have KN := Lib.hid (norm_any (some ⟨g, 0, none⟩) nx c ((updr (fun _ => 0) 0 (dig BW (V ^^^ U)) nx)) _ hnc (by omega) (Reads.of_own O4.out))
            have FF := Lib.hid (And.intro (nat_finish O4.out HL.out hF) B4.out)
            clear hF hlen
            go_wp2_with fail
            refine KN.out.mono ?_
            rintro e w9 ⟨rfl, rfl⟩
            go_wp2
            go_ret
            exact ⟨_, rfl, FF.out.1, FF.out.2⟩
          · have hcN : ¬ (c = nx) := e1
            have hsN : ¬ (cx = nx) := e2
            have hmc : (nx : Int) ≤ (c : Int) := by omega
            go_wp2_with fail
            go_region_held3 (fun _ => True) (trivial) (first | (refine step_copy_none rfl (.tmp 45) (.tmp 49) 70 70 rfl 83 Tryd.underlying70 info_Word_one _ _ _ _ _ _ rfl rfl (by simp) ?_))
            have O4 := Lib.hid O3.out.drew
            have B4 := Lib.hid B3.out.drew
            have hF : ∀ j, j < nx → (updr (fun _ => 0) 0 (dig BW (V ^^^ U)) nx) j = dig BW (V ^^^ U) j := by
              intro j hj
              rw [updr_in _ _ _ _ _ (Nat.zero_le j) (by omega), Nat.sub_zero]
            have hlen := clen_le ((updr (fun _ => 0) 0 (dig BW (V ^^^ U)) nx)) nx
            have KN := Lib.hid (norm_any (some ⟨g, 0, none⟩) nx c ((updr (fun _ => 0) 0 (dig BW (V ^^^ U)) nx)) _ hnc (by omega) (Reads.of_own O4.out))
            have FF := Lib.hid (And.intro (nat_finish O4.out HL.out hF) B4.out)
            clear hF hlen
            go_wp2_with fail
            refine KN.out.mono ?_
            rintro e w9 ⟨rfl, rfl⟩
            go_wp2
            go_ret
            exact ⟨_, rfl, FF.out.1, FF.out.2⟩

set_option maxHeartbeats 1000000 in
theorem natXor_lt (ax ay : Option Addr) (V U nx ny cx cy : Nat) (w : World) (hnx : nlen BW V = nx) (hny : nlen BW U = ny) (hx : nx ≤ 2147483647) (hy : ny ≤ 2147483647) (hcx : nx ≤ cx) (hcy : ny ≤ cy) (hcase : nx < ny) (hM : 1 ≤ ny)
    (hrdx : Reads w .u64 ax nx (dig BW V)) (hrdy : Reads w .u64 ay ny (dig BW U)) :
    Calls Tryd.prog 71 #[.slice none 0 0, .slice ax nx cx, .slice ay ny cy] w (NatPost (V ^^^ U) w) := by
  have HL := Lib.hid (show (V ^^^ U) < BW ^ ny from xor_lt (by omega))
  have KM := Lib.hid (make_nil ny w (by omega))
  have HN := Lib.hid (And.intro hnx hny)
  have R := Lib.hid (And.intro hrdx hrdy)
  have hd : decide (nx < ny) = true := by simp; omega
  have hxi : (nx : Int) ≤ (cx : Int) := by omega
  have hyi : (ny : Int) ≤ (cy : Int) := by omega
  clear hnx hny hrdx hrdy
  go_enter Tryd.func71, Tryd.ntmps71
  go_wp2_with fail
  refine KM.out.mono ?_
  rintro e w1 ⟨v, rfl, own1, b1⟩
  rcases own1.shape with ⟨rfl, hz⟩ | ⟨g, c, rfl, hbg, hgl, hnc, hcb⟩
  · omega
  · have O0 := Lib.hid (show Own w1 w.heap.size 83 .u64 (.slice (some ⟨g, 0, none⟩) ny c) ny (updr (fun _ => 0) 0 (dig BW (V ^^^ U)) 0) from own1.congr fun j _ => (updr_zero (fun _ => 0) 0 (dig BW (V ^^^ U)) j).symm)
    have B1 := Lib.hid b1
    clear own1 b1 KM
    go_wp2_with fail
    go_loopw [10] (fun ti wr => ∃ i : Nat, i ≤ nx ∧ ti = .int .i64 i ∧ Own wr w.heap.size 83 .u64 (.slice (some ⟨g, 0, none⟩) ny c) ny (updr (fun _ => 0) 0 (dig BW (V ^^^ U)) i) ∧ w1.grownBy wr (some g)) (fun ti _ => nx - (intOf ti).toNat)
    case atStart => exact ⟨0, Nat.zero_le _, rfl, O0.out, World.grownBy.refl _ _⟩
    case round =>
      obtain ⟨i, hin, rfl, own, gr⟩ := hrel
      clear O0
      by_cases h1 : i < nx
      · obtain ⟨bx, ox, rfl, hcx0⟩ := R.out.1 i (by omega)
        obtain ⟨by', oy, rfl, hcy0⟩ := R.out.2 i (by omega)
        have hcx := cell_kept hcx0 B1.out gr hbg
        have hcy := cell_kept hcy0 B1.out gr hbg
        have hd1 := dig_BW V i
        have hd2 := dig_BW U i
        have hdd : dig BW (V ^^^ U) i = _ := dig_xor V U i
        obtain ⟨d1, h11⟩ : ∃ d, d = dig BW V i := ⟨_, rfl⟩
        obtain ⟨d2, h22⟩ : ∃ d, d = dig BW U i := ⟨_, rfl⟩
        rw [← h11, ← h22] at hdd
        rw [← h11] at hcx hd1
        rw [← h22] at hcy hd2
        have hop := bits_xor_u64_nat d1 d2 hd1 hd2
        obtain ⟨d3, h33⟩ : ∃ d, d = (d1 ^^^ d2) := ⟨_, rfl⟩
        rw [← h33] at hop hdd
        have hc := own.cell i (by omega)
        have hfz := own.free i
        have G := Lib.hid (And.intro own (And.intro gr hdd))
        clear own gr hdd hcx0 hcy0 h11 h22 h33
        go_wp2_with fail
        go_region
        go_wp2
        go_roundw
        case rel =>
          go_light
          refine ⟨i + 1, by omega, by go_num, ?_, grown_trans G.out.2.1 (grown_trans (show wr.grownBy wr.drew (some g) from grown_drewN wr 1 _) (grown_setCell wr.drew ⟨g, i, none⟩ (.int .u64 d3)))⟩
          exact (G.out.1.drew.stored i d3).congr fun j _ => by
            have h := updr_succ (fun _ => 0) 0 (dig BW (V ^^^ U)) i d3 G.out.2.2.symm j
            rw [Nat.zero_add] at h
            exact h
        case measure => simp [intOf]; omega
      · obtain rfl : nx = i := by omega
        have B3 := Lib.hid (B1.out.grown gr B1.out.size (fun k hk => by cases hk; exact hbg))
        have O3 := Lib.hid own
        have GR := Lib.hid gr
        clear own gr
        go_wp2_with fail
        obtain ⟨bs, os, hsa, hsc⟩ : ∃ bs os, ay = some ⟨bs, os, none⟩ ∧ bs < w.heap.size := by
          obtain ⟨bs, os, h1, h2⟩ := R.out.2 0 (by omega)
          exact ⟨bs, os, h1, World.block_lt_of_cell? _ _ h2⟩
        have hs3 : Reads wr .u64 ay ny (dig BW U) := (R.out.2.below B1.out).grown GR.out (by
          intro a ha
          rw [hsa] at ha
          cases ha
          simp
          omega)
        rw [hsa] at hs3
        have hrow := O3.out.drew
        have hsrc := reads_from (w := wr.drew) hs3 nx (by omega)
        subst hsa
        have hnm : (nx : Int) ≤ (ny : Int) := by omega
        have hcN : ¬ (c = nx) := by omega
        have hsN : ¬ (cy = nx) := by omega
        have hmc : (ny : Int) ≤ (c : Int) := by omega
        have hms : (ny : Int) ≤ (cy : Int) := by omega
        clear hs3
        go_region_held3 (fun _ => True) (trivial) (first | (refine step_copy_row rfl (.tmp 45) (.tmp 49) 70 70 rfl 83 Tryd.underlying70 info_Word_one _ _ _ _ _ _ rfl rfl w.heap.size .u64 g ny c _ hrow nx (ny - nx) _ (by omega) (by omega) (by intro h; rfl) hsrc (by omega) ?_; intro w8 own8 gr8))
        have O4 := Lib.hid own8
        have B4 := Lib.hid ((B3.out.drew).grown gr8 B3.out.size (fun k hk => by cases hk; exact hbg))
        clear own8 gr8 hrow hsrc
        have hF : ∀ j, j < ny → (updr (updr (fun _ => 0) 0 (dig BW (V ^^^ U)) nx) nx (fun j => dig BW U (nx + j)) (ny - nx)) j = dig BW (V ^^^ U) j := by
          intro j hj
          by_cases hjn : j < nx
          · rw [updr_lo _ _ _ _ _ hjn, updr_in _ _ _ _ _ (Nat.zero_le j) (by omega), Nat.sub_zero]
          · rw [updr_in _ _ _ _ _ (show nx ≤ j by omega) (by omega), show nx + (j - nx) = j by omega, xor_right (by rw [HN.out.1]; omega)]
        have hlen := clen_le ((updr (updr (fun _ => 0) 0 (dig BW (V ^^^ U)) nx) nx (fun j => dig BW U (nx + j)) (ny - nx))) ny
        have KN := Lib.hid (norm_any (some ⟨g, 0, none⟩) ny c ((updr (updr (fun _ => 0) 0 (dig BW (V ^^^ U)) nx) nx (fun j => dig BW U (nx + j)) (ny - nx))) _ hnc (by omega) (Reads.of_own O4.out))
        have FF := Lib.hid (And.intro (nat_finish O4.out HL.out hF) B4.out)
        clear hF hlen
        go_wp2_with fail
        refine KN.out.mono ?_
        rintro e w9 ⟨rfl, rfl⟩
        go_wp2
        go_ret
        exact ⟨_, rfl, FF.out.1, FF.out.2⟩

theorem natXor_z (ax ay : Option Addr) (R nx ny cx cy : Nat) (w : World)  (hR : R = 0) :
    Calls Tryd.prog 71 #[.slice none 0 0, .slice ax 0 cx, .slice ay 0 cy] w (NatPost R w) := by
  have HR := Lib.hid hR
  clear hR
  go_enter Tryd.func71, Tryd.ntmps71
  go_wp2_with fail
  refine (make_none0 w).mono ?_
  rintro e w1 ⟨rfl, rfl⟩
  go_wp2_with fail
  refine wp_loop_rounds 1 ?_
  rw [rounds_succ]
  go_wp2_with fail
  go_region_held3 (fun _ => True) (trivial) (first | (refine step_copy_none rfl (.tmp 45) (.tmp 49) 70 70 rfl 83 Tryd.underlying70 info_Word_one _ _ _ _ _ _ rfl rfl rfl ?_))
  go_wp2_with fail
  refine (norm_none none 0 _).mono ?_
  rintro e w2 ⟨rfl, rfl⟩
  go_wp2
  go_ret
  exact nat_nil HR.out ⟨rfl, rfl, rfl, Nat.le_refl _, fun _ _ => rfl⟩

theorem natXor_any (ax ay : Option Addr) (V U cx cy : Nat) (w : World) (hx : nlen BW V ≤ 2147483647) (hy : nlen BW U ≤ 2147483647) (hcx : nlen BW V ≤ cx) (hcy : nlen BW U ≤ cy)
    (hrdx : Reads w .u64 ax (nlen BW V) (dig BW V)) (hrdy : Reads w .u64 ay (nlen BW U) (dig BW U)) :
    Calls Tryd.prog 71 #[.slice none 0 0, .slice ax (nlen BW V) cx, .slice ay (nlen BW U) cy] w (NatPost (V ^^^ U) w) := by
  by_cases h0 : nlen BW V = 0 ∧ nlen BW U = 0
  · have hR : (V ^^^ U) = 0 := lt_one_zero (xor_lt (m := 0) (by omega))
    rw [h0.1, h0.2]
    exact natXor_z ax ay _ 0 0 cx cy w hR
  · by_cases h : nlen BW V < nlen BW U
    · exact natXor_lt ax ay V U _ _ cx cy w rfl rfl hx hy hcx hcy h (by omega) hrdx hrdy
    · by_cases h' : nlen BW U = nlen BW V
      · exact natXor_eq ax ay V U _ _ cx cy w rfl rfl hx hy hcx hcy h' (by omega) hrdx hrdy
      · exact natXor_ge ax ay V U _ _ cx cy w rfl rfl hx hy hcx hcy (by omega) (by omega) hrdx hrdy

end Go.Proofs.YtidifjmjbfhpaaaDoor
namespace Go.Proofs.YtidifjmjbfhpaaaDoor
set_option linter.unusedVariables false
set_option linter.unusedSimpArgs false
open Go.RowKit

set_option maxHeartbeats 1000000 in
theorem natAndNot_le (ax ay : Option Addr) (V U nx ny cx cy : Nat) (w : World) (hnx : nlen BW V = nx) (hny : nlen BW U = ny) (hx : nx ≤ 2147483647) (hy : ny ≤ 2147483647) (hcx : nx ≤ cx) (hcy : ny ≤ cy) (hcase : ny < nx) (hM : 1 ≤ nx)
    (hrdx : Reads w .u64 ax nx (dig BW V)) (hrdy : Reads w .u64 ay ny (dig BW U)) :
    Calls Tryd.prog 70 #[.slice none 0 0, .slice ax nx cx, .slice ay ny cy] w (NatPost (andn V U) w) := by
  have HL := Lib.hid (show (andn V U) < BW ^ nx from andn_lt (by omega))
  have KM := Lib.hid (make_nil nx w (by omega))
  have HN := Lib.hid (And.intro hnx hny)
  have R := Lib.hid (And.intro hrdx hrdy)
  have hd : decide (nx < ny) = false := by simp; omega
  have hxi : (nx : Int) ≤ (cx : Int) := by omega
  have hyi : (ny : Int) ≤ (cy : Int) := by omega
  clear hnx hny hrdx hrdy
  go_enter Tryd.func70, Tryd.ntmps70
  go_wp2_with fail
  refine KM.out.mono ?_
  rintro e w1 ⟨v, rfl, own1, b1⟩
  rcases own1.shape with ⟨rfl, hz⟩ | ⟨g, c, rfl, hbg, hgl, hnc, hcb⟩
  · omega
  · have O0 := Lib.hid (show Own w1 w.heap.size 83 .u64 (.slice (some ⟨g, 0, none⟩) nx c) nx (updr (fun _ => 0) 0 (dig BW (andn V U)) 0) from own1.congr fun j _ => (updr_zero (fun _ => 0) 0 (dig BW (andn V U)) j).symm)
    have B1 := Lib.hid b1
    clear own1 b1 KM
    go_wp2_with fail
    go_loopw [9] (fun ti wr => ∃ i : Nat, i ≤ ny ∧ ti = .int .i64 i ∧ Own wr w.heap.size 83 .u64 (.slice (some ⟨g, 0, none⟩) nx c) nx (updr (fun _ => 0) 0 (dig BW (andn V U)) i) ∧ w1.grownBy wr (some g)) (fun ti _ => ny - (intOf ti).toNat)
    case atStart => exact ⟨0, Nat.zero_le _, rfl, O0.out, World.grownBy.refl _ _⟩
    case round =>
      obtain ⟨i, hin, rfl, own, gr⟩ := hrel
      clear O0
      by_cases h1 : i < ny
      · obtain ⟨bx, ox, rfl, hcx0⟩ := R.out.1 i (by omega)
        obtain ⟨by', oy, rfl, hcy0⟩ := R.out.2 i (by omega)
        have hcx := cell_kept hcx0 B1.out gr hbg
        have hcy := cell_kept hcy0 B1.out gr hbg
        have hd1 := dig_BW V i
        have hd2 := dig_BW U i
        have hdd : dig BW (andn V U) i = _ := dig_andn V U i
        obtain ⟨d1, h11⟩ : ∃ d, d = dig BW V i := ⟨_, rfl⟩
        obtain ⟨d2, h22⟩ : ∃ d, d = dig BW U i := ⟨_, rfl⟩
        rw [← h11, ← h22] at hdd
        rw [← h11] at hcx hd1
        rw [← h22] at hcy hd2
        have hop := bits_andNot_u64_nat d1 d2 hd1 hd2
        obtain ⟨d3, h33⟩ : ∃ d, d = (andn d1 d2) := ⟨_, rfl⟩
        rw [← h33] at hop hdd
        have hc := own.cell i (by omega)
        have hfz := own.free i
        have G := Lib.hid (And.intro own (And.intro gr hdd))
        clear own gr hdd hcx0 hcy0 h11 h22 h33
        go_wp2_with fail
        go_region
        go_wp2
        go_roundw
        case rel =>
          go_light
          refine ⟨i + 1, by omega, by go_num, ?_, grown_trans G.out.2.1 (grown_trans (show wr.grownBy wr.drew (some g) from grown_drewN wr 1 _) (grown_setCell wr.drew ⟨g, i, none⟩ (.int .u64 d3)))⟩
          exact (G.out.1.drew.stored i d3).congr fun j _ => by
            have h := updr_succ (fun _ => 0) 0 (dig BW (andn V U)) i d3 G.out.2.2.symm j
            rw [Nat.zero_add] at h
            exact h
        case measure => simp [intOf]; omega
      · obtain rfl : ny = i := by omega
        have B3 := Lib.hid (B1.out.grown gr B1.out.size (fun k hk => by cases hk; exact hbg))
        have O3 := Lib.hid own
        have GR := Lib.hid gr
        clear own gr
        go_wp2_with fail
        obtain ⟨bs, os, hsa, hsc⟩ : ∃ bs os, ax = some ⟨bs, os, none⟩ ∧ bs < w.heap.size := by
          obtain ⟨bs, os, h1, h2⟩ := R.out.1 0 (by omega)
          exact ⟨bs, os, h1, World.block_lt_of_cell? _ _ h2⟩
        have hs3 : Reads wr .u64 ax nx (dig BW V) := (R.out.1.below B1.out).grown GR.out (by
          intro a ha
          rw [hsa] at ha
          cases ha
          simp
          omega)
        rw [hsa] at hs3
        have hrow := O3.out.drew
        have hsrc := reads_from (w := wr.drew) hs3 ny (by omega)
        subst hsa
        have hnm : (ny : Int) ≤ (nx : Int) := by omega
        have hcN : ¬ (c = ny) := by omega
        have hsN : ¬ (cx = ny) := by omega
        have hmc : (nx : Int) ≤ (c : Int) := by omega
        have hms : (nx : Int) ≤ (cx : Int) := by omega
        clear hs3
        go_region_held3 (fun _ => True) (trivial) (first | (refine step_copy_row rfl (.tmp 41) (.tmp 45) 70 70 rfl 83 Tryd.underlying70 info_Word_one _ _ _ _ _ _ rfl rfl w.heap.size .u64 g nx c _ hrow ny (nx - ny) _ (by omega) (by omega) (by intro h; rfl) hsrc (by omega) ?_; intro w8 own8 gr8))
        have O4 := Lib.hid own8
        have B4 := Lib.hid ((B3.out.drew).grown gr8 B3.out.size (fun k hk => by cases hk; exact hbg))
        clear own8 gr8 hrow hsrc
        have hF : ∀ j, j < nx → (updr (updr (fun _ => 0) 0 (dig BW (andn V U)) ny) ny (fun j => dig BW V (ny + j)) (nx - ny)) j = dig BW (andn V U) j := by
          intro j hj
          by_cases hjn : j < ny
          · rw [updr_lo _ _ _ _ _ hjn, updr_in _ _ _ _ _ (Nat.zero_le j) (by omega), Nat.sub_zero]
          · rw [updr_in _ _ _ _ _ (show ny ≤ j by omega) (by omega), show ny + (j - ny) = j by omega, andn_left (by rw [HN.out.2]; omega)]
        have hlen := clen_le ((updr (updr (fun _ => 0) 0 (dig BW (andn V U)) ny) ny (fun j => dig BW V (ny + j)) (nx - ny))) nx
        have KN := Lib.hid (norm_any (some ⟨g, 0, none⟩) nx c ((updr (updr (fun _ => 0) 0 (dig BW (andn V U)) ny) ny (fun j => dig BW V (ny + j)) (nx - ny))) _ hnc (by omega) (Reads.of_own O4.out))
        have FF := Lib.hid (And.intro (nat_finish O4.out HL.out hF) B4.out)
        clear hF hlen
        go_wp2_with fail
        refine KN.out.mono ?_
        rintro e w9 ⟨rfl, rfl⟩
        go_wp2
        go_ret
        exact ⟨_, rfl, FF.out.1, FF.out.2⟩

set_option maxHeartbeats 1000000 in
theorem natAndNot_eq (ax ay : Option Addr) (V U nx ny cx cy : Nat) (w : World) (hnx : nlen BW V = nx) (hny : nlen BW U = ny) (hx : nx ≤ 2147483647) (hy : ny ≤ 2147483647) (hcx : nx ≤ cx) (hcy : ny ≤ cy) (hcase : ny = nx) (hM : 1 ≤ nx)
    (hrdx : Reads w .u64 ax nx (dig BW V)) (hrdy : Reads w .u64 ay ny (dig BW U)) :
    Calls Tryd.prog 70 #[.slice none 0 0, .slice ax nx cx, .slice ay ny cy] w (NatPost (andn V U) w) := by
  have HL := Lib.hid (show (andn V U) < BW ^ nx from andn_lt (by omega))
  have KM := Lib.hid (make_nil nx w (by omega))
  have HN := Lib.hid (And.intro hnx hny)
  have R := Lib.hid (And.intro hrdx hrdy)
  have hd : decide (nx < ny) = false := by simp; omega
  have hxi : (nx : Int) ≤ (cx : Int) := by omega
  have hyi : (ny : Int) ≤ (cy : Int) := by omega
  clear hnx hny hrdx hrdy
  go_enter Tryd.func70, Tryd.ntmps70
  go_wp2_with fail
  refine KM.out.mono ?_
  rintro e w1 ⟨v, rfl, own1, b1⟩
  rcases own1.shape with ⟨rfl, hz⟩ | ⟨g, c, rfl, hbg, hgl, hnc, hcb⟩
  · omega
  · have O0 := Lib.hid (show Own w1 w.heap.size 83 .u64 (.slice (some ⟨g, 0, none⟩) nx c) nx (updr (fun _ => 0) 0 (dig BW (andn V U)) 0) from own1.congr fun j _ => (updr_zero (fun _ => 0) 0 (dig BW (andn V U)) j).symm)
    have B1 := Lib.hid b1
    clear own1 b1 KM
    go_wp2_with fail
    go_loopw [9] (fun ti wr => ∃ i : Nat, i ≤ nx ∧ ti = .int .i64 i ∧ Own wr w.heap.size 83 .u64 (.slice (some ⟨g, 0, none⟩) nx c) nx (updr (fun _ => 0) 0 (dig BW (andn V U)) i) ∧ w1.grownBy wr (some g)) (fun ti _ => nx - (intOf ti).toNat)
    case atStart => exact ⟨0, Nat.zero_le _, rfl, O0.out, World.grownBy.refl _ _⟩
    case round =>
      obtain ⟨i, hin, rfl, own, gr⟩ := hrel
      clear O0
      by_cases h1 : i < nx
      · obtain ⟨bx, ox, rfl, hcx0⟩ := R.out.1 i (by omega)
        obtain ⟨by', oy, rfl, hcy0⟩ := R.out.2 i (by omega)
        have hcx := cell_kept hcx0 B1.out gr hbg
        have hcy := cell_kept hcy0 B1.out gr hbg
        have hd1 := dig_BW V i
        have hd2 := dig_BW U i
        have hdd : dig BW (andn V U) i = _ := dig_andn V U i
        obtain ⟨d1, h11⟩ : ∃ d, d = dig BW V i := ⟨_, rfl⟩
        obtain ⟨d2, h22⟩ : ∃ d, d = dig BW U i := ⟨_, rfl⟩
        rw [← h11, ← h22] at hdd
        rw [← h11] at hcx hd1
        rw [← h22] at hcy hd2
        have hop := bits_andNot_u64_nat d1 d2 hd1 hd2
        obtain ⟨d3, h33⟩ : ∃ d, d = (andn d1 d2) := ⟨_, rfl⟩
        rw [← h33] at hop hdd
        have hc := own.cell i (by omega)
        have hfz := own.free i
        have G := Lib.hid (And.intro own (And.intro gr hdd))
        clear own gr hdd hcx0 hcy0 h11 h22 h33
        go_wp2_with fail
        go_region
        go_wp2
        go_roundw
        case rel =>
          go_light
          refine ⟨i + 1, by omega, by go_num, ?_, grown_trans G.out.2.1 (grown_trans (show wr.grownBy wr.drew (some g) from grown_drewN wr 1 _) (grown_setCell wr.drew ⟨g, i, none⟩ (.int .u64 d3)))⟩
          exact (G.out.1.drew.stored i d3).congr fun j _ => by
            have h := updr_succ (fun _ => 0) 0 (dig BW (andn V U)) i d3 G.out.2.2.symm j
            rw [Nat.zero_add] at h
            exact h
        case measure => simp [intOf]; omega
      · obtain rfl : nx = i := by omega
        have B3 := Lib.hid (B1.out.grown gr B1.out.size (fun k hk => by cases hk; exact hbg))
        have O3 := Lib.hid own
        have GR := Lib.hid gr
        clear own gr
        by_cases e1 : c = nx
        · by_cases e2 : cx = nx
          · obtain rfl : nx = c := e1.symm
            obtain rfl : nx = cx := e2.symm
            have hmc : (nx : Int) ≤ (nx : Int) := by omega
            go_wp2_with fail
            go_region_held3 (fun _ => True) (trivial) (first | (refine step_copy_none rfl (.tmp 41) (.tmp 45) 70 70 rfl 83 Tryd.underlying70 info_Word_one _ _ _ _ _ _ rfl rfl (by simp) ?_))
            have O4 := Lib.hid O3.out.drew
            have B4 := Lib.hid B3.out.drew
            have hF : ∀ j, j < nx → (updr (fun _ => 0) 0 (dig BW (andn V U)) nx) j = dig BW (andn V U) j := by
              intro j hj
              rw [updr_in _ _ _ _ _ (Nat.zero_le j) (by omega), Nat.sub_zero]
            have hlen := clen_le ((updr (fun _ => 0) 0 (dig BW (andn V U)) nx)) nx
            have KN := Lib.hid (norm_any (some ⟨g, 0, none⟩) nx nx ((updr (fun _ => 0) 0 (dig BW (andn V U)) nx)) _ hnc (by omega) (Reads.of_own O4.out))
            have FF := Lib.hid (And.intro (nat_finish O4.out HL.out hF) B4.out)
            clear hF hlen
            go_wp2_with fail
            refine KN.out.mono ?_
            rintro e w9 ⟨rfl, rfl⟩
            go_wp2
            go_ret
            exact ⟨_, rfl, FF.out.1, FF.out.2⟩
          · obtain rfl : nx = c := e1.symm
            have hsN : ¬ (cx = nx) := e2
            have hmc : (nx : Int) ≤ (nx : Int) := by omega
            go_wp2_with fail
            go_region_held3 (fun _ => True) (trivial) (first | (refine step_copy_none rfl (.tmp 41) (.tmp 45) 70 70 rfl 83 Tryd.underlying70 info_Word_one _ _ _ _ _ _ rfl rfl (by simp) ?_))
            have O4 := Lib.hid O3.out.drew
            have B4 := Lib.hid B3.out.drew
            have hF : ∀ j, j < nx → (updr (fun _ => 0) 0 (dig BW (andn V U)) nx) j = dig BW (andn V U) j := by
              intro j hj
              rw [updr_in _ _ _ _ _ (Nat.zero_le j) (by omega), Nat.sub_zero]
            have hlen := clen_le ((updr (fun _ => 0) 0 (dig BW (andn V U)) nx)) nx
            have KN := Lib.hid (norm_any (some ⟨g, 0, none⟩) nx nx ((updr (fun _ => 0) 0 (dig BW (andn V U)) nx)) _ hnc (by omega) (Reads.of_own O4.out))
            have FF := Lib.hid (And.intro (nat_finish O4.out HL.out hF) B4.out)
            clear hF hlen
            go_wp2_with fail
            refine KN.out.mono ?_
            rintro e w9 ⟨rfl, rfl⟩
            go_wp2
            go_ret
            exact ⟨_, rfl, FF.out.1, FF.out.2⟩
        · by_cases e2 : cx = nx
          · have hcN : ¬ (c = nx) := e1
            obtain rfl : nx = cx := e2.symm
            have hmc : (nx : Int) ≤ (c : Int) := by omega
            go_wp2_with fail
            go_region_held3 (fun _ => True) (trivial) (first | (refine step_copy_none rfl (.tmp 41) (.tmp 45) 70 70 rfl 83 Tryd.underlying70 info_Word_one _ _ _ _ _ _ rfl rfl (by simp) ?_))
            have O4 := Lib.hid O3.out.drew
            have B4 := Lib.hid B3.out.drew
            have hF : ∀ j, j < nx → (updr (fun _ => 0) 0 (dig BW (andn V U)) nx) j = dig BW (andn V U) j := by
              intro j hj
              rw [updr_in _ _ _ _ _ (Nat.zero_le j) (by omega), Nat.sub_zero]
            have hlen := clen_le ((updr (fun _ => 0) 0 (dig BW (andn V U)) nx)) nx
            have KN := Lib.hid (norm_any (some ⟨g, 0, none⟩) nx c ((updr (fun _ => 0) 0 (dig BW (andn V U)) nx)) _ hnc (by omega) (Reads.of_own O4.out))
            have FF := Lib.hid (And.intro (nat_finish O4.out HL.out hF) B4.out)
            clear hF hlen
            go_wp2_with fail
            refine KN.out.mono ?_
            rintro e w9 ⟨rfl, rfl⟩
            go_wp2
            go_ret
            exact ⟨_, rfl, FF.out.1, FF.out.2⟩
          · have hcN : ¬ (c = nx) := e1
            have hsN : ¬ (cx = nx) := e2
            have hmc : (nx : Int) ≤ (c : Int) := by omega
            go_wp2_with fail
            go_region_held3 (fun _ => True) (trivial) (first | (refine step_copy_none rfl (.tmp 41) (.tmp 45) 70 70 rfl 83 Tryd.underlying70 info_Word_one _ _ _ _ _ _ rfl rfl (by simp) ?_))
            have O4 := Lib.hid O3.out.drew
            have B4 := Lib.hid B3.out.drew
            have hF : ∀ j, j < nx → (updr (fun _ => 0) 0 (dig BW (andn V U)) nx) j = dig BW (andn V U) j := by
              intro j hj
              rw [updr_in _ _ _ _ _ (Nat.zero_le j) (by omega), Nat.sub_zero]
            have hlen := clen_le ((updr (fun _ => 0) 0 (dig BW (andn V U)) nx)) nx
            have KN := Lib.hid (norm_any (some ⟨g, 0, none⟩) nx c ((updr (fun _ => 0) 0 (dig BW (andn V U)) nx)) _ hnc (by omega) (Reads.of_own O4.out))
            have FF := Lib.hid (And.intro (nat_finish O4.out HL.out hF) B4.out)
            clear hF hlen
            go_wp2_with fail
            refine KN.out.mono ?_
            rintro e w9 ⟨rfl, rfl⟩
            go_wp2
            go_ret
            exact ⟨_, rfl, FF.out.1, FF.out.2⟩

set_option maxHeartbeats 1000000 in
theorem natAndNot_gt (ax ay : Option Addr) (V U nx ny cx cy : Nat) (w : World) (hnx : nlen BW V = nx) (hny : nlen BW U = ny) (hx : nx ≤ 2147483647) (hy : ny ≤ 2147483647) (hcx : nx ≤ cx) (hcy : ny ≤ cy) (hcase : nx < ny) (hM : 1 ≤ nx)
    (hrdx : Reads w .u64 ax nx (dig BW V)) (hrdy : Reads w .u64 ay ny (dig BW U)) :
    Calls Tryd.prog 70 #[.slice none 0 0, .slice ax nx cx, .slice ay ny cy] w (NatPost (andn V U) w) := by
  have HL := Lib.hid (show (andn V U) < BW ^ nx from andn_lt (by omega))
  have KM := Lib.hid (make_nil nx w (by omega))
  have HN := Lib.hid (And.intro hnx hny)
  have R := Lib.hid (And.intro hrdx hrdy)
  have hd : decide (nx < ny) = true := by simp; omega
  have hxi : (nx : Int) ≤ (cx : Int) := by omega
  have hyi : (ny : Int) ≤ (cy : Int) := by omega
  clear hnx hny hrdx hrdy
  go_enter Tryd.func70, Tryd.ntmps70
  go_wp2_with fail
  refine KM.out.mono ?_
  rintro e w1 ⟨v, rfl, own1, b1⟩
  rcases own1.shape with ⟨rfl, hz⟩ | ⟨g, c, rfl, hbg, hgl, hnc, hcb⟩
  · omega
  · have O0 := Lib.hid (show Own w1 w.heap.size 83 .u64 (.slice (some ⟨g, 0, none⟩) nx c) nx (updr (fun _ => 0) 0 (dig BW (andn V U)) 0) from own1.congr fun j _ => (updr_zero (fun _ => 0) 0 (dig BW (andn V U)) j).symm)
    have B1 := Lib.hid b1
    clear own1 b1 KM
    go_wp2_with fail
    go_loopw [9] (fun ti wr => ∃ i : Nat, i ≤ nx ∧ ti = .int .i64 i ∧ Own wr w.heap.size 83 .u64 (.slice (some ⟨g, 0, none⟩) nx c) nx (updr (fun _ => 0) 0 (dig BW (andn V U)) i) ∧ w1.grownBy wr (some g)) (fun ti _ => nx - (intOf ti).toNat)
    case atStart => exact ⟨0, Nat.zero_le _, rfl, O0.out, World.grownBy.refl _ _⟩
    case round =>
      obtain ⟨i, hin, rfl, own, gr⟩ := hrel
      clear O0
      by_cases h1 : i < nx
      · obtain ⟨bx, ox, rfl, hcx0⟩ := R.out.1 i (by omega)
        obtain ⟨by', oy, rfl, hcy0⟩ := R.out.2 i (by omega)
        have hcx := cell_kept hcx0 B1.out gr hbg
        have hcy := cell_kept hcy0 B1.out gr hbg
        have hd1 := dig_BW V i
        have hd2 := dig_BW U i
        have hdd : dig BW (andn V U) i = _ := dig_andn V U i
        obtain ⟨d1, h11⟩ : ∃ d, d = dig BW V i := ⟨_, rfl⟩
        obtain ⟨d2, h22⟩ : ∃ d, d = dig BW U i := ⟨_, rfl⟩
        rw [← h11, ← h22] at hdd
        rw [← h11] at hcx hd1
        rw [← h22] at hcy hd2
        have hop := bits_andNot_u64_nat d1 d2 hd1 hd2
        obtain ⟨d3, h33⟩ : ∃ d, d = (andn d1 d2) := ⟨_, rfl⟩
        rw [← h33] at hop hdd
        have hc := own.cell i (by omega)
        have hfz := own.free i
        have G := Lib.hid (And.intro own (And.intro gr hdd))
        clear own gr hdd hcx0 hcy0 h11 h22 h33
        go_wp2_with fail
        go_region
        go_wp2
        go_roundw
        case rel =>
          go_light
          refine ⟨i + 1, by omega, by go_num, ?_, grown_trans G.out.2.1 (grown_trans (show wr.grownBy wr.drew (some g) from grown_drewN wr 1 _) (grown_setCell wr.drew ⟨g, i, none⟩ (.int .u64 d3)))⟩
          exact (G.out.1.drew.stored i d3).congr fun j _ => by
            have h := updr_succ (fun _ => 0) 0 (dig BW (andn V U)) i d3 G.out.2.2.symm j
            rw [Nat.zero_add] at h
            exact h
        case measure => simp [intOf]; omega
      · obtain rfl : nx = i := by omega
        have B3 := Lib.hid (B1.out.grown gr B1.out.size (fun k hk => by cases hk; exact hbg))
        have O3 := Lib.hid own
        have GR := Lib.hid gr
        clear own gr
        by_cases e1 : c = nx
        · by_cases e2 : cx = nx
          · obtain rfl : nx = c := e1.symm
            obtain rfl : nx = cx := e2.symm
            have hmc : (nx : Int) ≤ (nx : Int) := by omega
            go_wp2_with fail
            go_region_held3 (fun _ => True) (trivial) (first | (refine step_copy_none rfl (.tmp 41) (.tmp 45) 70 70 rfl 83 Tryd.underlying70 info_Word_one _ _ _ _ _ _ rfl rfl (by simp) ?_))
            have O4 := Lib.hid O3.out.drew
            have B4 := Lib.hid B3.out.drew
            have hF : ∀ j, j < nx → (updr (fun _ => 0) 0 (dig BW (andn V U)) nx) j = dig BW (andn V U) j := by
              intro j hj
              rw [updr_in _ _ _ _ _ (Nat.zero_le j) (by omega), Nat.sub_zero]
            have hlen := clen_le ((updr (fun _ => 0) 0 (dig BW (andn V U)) nx)) nx
            have KN := Lib.hid (norm_any (some ⟨g, 0, none⟩) nx nx ((updr (fun _ => 0) 0 (dig BW (andn V U)) nx)) _ hnc (by omega) (Reads.of_own O4.out))
            have FF := Lib.hid (And.intro (nat_finish O4.out HL.out hF) B4.out)
            clear hF hlen
            go_wp2_with fail
            refine KN.out.mono ?_
            rintro e w9 ⟨rfl, rfl⟩
            go_wp2
            go_ret
            exact ⟨_, rfl, FF.out.1, FF.out.2⟩
          · obtain rfl : nx = c := e1.symm
            have hsN : ¬ (cx = nx) := e2
            have hmc : (nx : Int) ≤ (nx : Int) := by omega
            go_wp2_with fail
            go_region_held3 (fun _ => True) (trivial) (first | (refine step_copy_none rfl (.tmp 41) (.tmp 45) 70 70 rfl 83 Tryd.underlying70 info_Word_one _ _ _ _ _ _ rfl rfl (by simp) ?_))
            have O4 := Lib.hid O3.out.drew
            have B4 := Lib.hid B3.out.drew
            have hF : ∀ j, j < nx → (updr (fun _ => 0) 0 (dig BW (andn V U)) nx) j = dig BW (andn V U) j := by
              intro j hj
              rw [updr_in _ _ _ _ _ (Nat.zero_le j) (by omega), Nat.sub_zero]
            have hlen := clen_le ((updr (fun _ => 0) 0 (dig BW (andn V U)) nx)) nx
            have KN := Lib.hid (norm_any (some ⟨g, 0, none⟩) nx nx ((updr (fun _ => 0) 0 (dig BW (andn V U)) nx)) _ hnc (by omega) (Reads.of_own O4.out))
            have FF := Lib.hid (And.intro (nat_finish O4.out HL.out hF) B4.out)
            clear hF hlen
            go_wp2_with fail
            refine KN.out.mono ?_
            rintro e w9 ⟨rfl, rfl⟩
            go_wp2
            go_ret
            exact ⟨_, rfl, FF.out.1, FF.out.2⟩
        · by_cases e2 : cx = nx
          · have hcN : ¬ (c = nx) := e1
            obtain rfl : nx = cx := e2.symm
            have hmc : (nx : Int) ≤ (c : Int) := by omega
            go_wp2_with fail
            go_region_held3 (fun _ => True) (trivial) (first | (refine step_copy_none rfl (.tmp 41) (.tmp 45) 70 70 rfl 83 Tryd.underlying70 info_Word_one _ _ _ _ _ _ rfl rfl (by simp) ?_))
            have O4 := Lib.hid O3.out.drew
            have B4 := Lib.hid B3.out.drew
            have hF : ∀ j, j < nx → (updr (fun _ => 0) 0 (dig BW (andn V U)) nx) j = dig BW (andn V U) j := by
              intro j hj
              rw [updr_in _ _ _ _ _ (Nat.zero_le j) (by omega), Nat.sub_zero]
            have hlen := clen_le ((updr (fun _ => 0) 0 (dig BW (andn V U)) nx)) nx
            have KN := Lib.hid (norm_any (some ⟨g, 0, none⟩) nx c ((updr (fun _ => 0) 0 (dig BW (andn V U)) nx)) _ hnc (by omega) (Reads.of_own O4.out))
            have FF := Lib.hid (And.intro (nat_finish O4.out HL.out hF) B4.out)
            clear hF hlen
            go_wp2_with fail
            refine KN.out.mono ?_
            rintro e w9 ⟨rfl, rfl⟩
            go_wp2
            go_ret
            exact ⟨_, rfl, FF.out.1, FF.out.2⟩
          · have hcN : ¬ (c = nx) := e1
            have hsN : ¬ (cx = nx) := e2
            have hmc : (nx : Int) ≤ (c : Int) := by omega
            go_wp2_with fail
            go_region_held3 (fun _ => True) (trivial) (first | (refine step_copy_none rfl (.tmp 41) (.tmp 45) 70 70 rfl 83 Tryd.underlying70 info_Word_one _ _ _ _ _ _ rfl rfl (by simp) ?_))
            have O4 := Lib.hid O3.out.drew
            have B4 := Lib.hid B3.out.drew
            have hF : ∀ j, j < nx → (updr (fun _ => 0) 0 (dig BW (andn V U)) nx) j = dig BW (andn V U) j := by
              intro j hj
              rw [updr_in _ _ _ _ _ (Nat.zero_le j) (by omega), Nat.sub_zero]
            have hlen := clen_le ((updr (fun _ => 0) 0 (dig BW (andn V U)) nx)) nx
            have KN := Lib.hid (norm_any (some ⟨g, 0, none⟩) nx c ((updr (fun _ => 0) 0 (dig BW (andn V U)) nx)) _ hnc (by omega) (Reads.of_own O4.out))
            have FF := Lib.hid (And.intro (nat_finish O4.out HL.out hF) B4.out)
            clear hF hlen
            go_wp2_with fail
            refine KN.out.mono ?_
            rintro e w9 ⟨rfl, rfl⟩
            go_wp2
            go_ret
            exact ⟨_, rfl, FF.out.1, FF.out.2⟩

theorem natAndNot_z1 (ax ay : Option Addr) (R nx ny cx cy : Nat) (w : World)  (hR : R = 0) :
    Calls Tryd.prog 70 #[.slice none 0 0, .slice ax 0 cx, .slice ay 0 cy] w (NatPost R w) := by
  have HR := Lib.hid hR
  clear hR
  go_enter Tryd.func70, Tryd.ntmps70
  go_wp2_with fail
  refine (make_none0 w).mono ?_
  rintro e w1 ⟨rfl, rfl⟩
  go_wp2_with fail
  refine wp_loop_rounds 1 ?_
  rw [rounds_succ]
  go_wp2_with fail
  go_region_held3 (fun _ => True) (trivial) (first | (refine step_copy_none rfl (.tmp 41) (.tmp 45) 70 70 rfl 83 Tryd.underlying70 info_Word_one _ _ _ _ _ _ rfl rfl rfl ?_))
  go_wp2_with fail
  refine (norm_none none 0 _).mono ?_
  rintro e w2 ⟨rfl, rfl⟩
  go_wp2
  go_ret
  exact nat_nil HR.out ⟨rfl, rfl, rfl, Nat.le_refl _, fun _ _ => rfl⟩

theorem natAndNot_z2 (ax ay : Option Addr) (R nx ny cx cy : Nat) (w : World) (h : 0 < ny) (hR : R = 0) :
    Calls Tryd.prog 70 #[.slice none 0 0, .slice ax 0 cx, .slice ay ny cy] w (NatPost R w) := by
  have hd : decide (0 < ny) = true := by simp; omega
  have HR := Lib.hid hR
  clear hR
  go_enter Tryd.func70, Tryd.ntmps70
  go_wp2_with fail
  refine (make_none0 w).mono ?_
  rintro e w1 ⟨rfl, rfl⟩
  go_wp2_with fail
  refine wp_loop_rounds 1 ?_
  rw [rounds_succ]
  go_wp2_with fail
  go_region_held3 (fun _ => True) (trivial) (first | (refine step_copy_none rfl (.tmp 41) (.tmp 45) 70 70 rfl 83 Tryd.underlying70 info_Word_one _ _ _ _ _ _ rfl rfl rfl ?_))
  go_wp2_with fail
  refine (norm_none none 0 _).mono ?_
  rintro e w2 ⟨rfl, rfl⟩
  go_wp2
  go_ret
  exact nat_nil HR.out ⟨rfl, rfl, rfl, Nat.le_refl _, fun _ _ => rfl⟩

theorem natAndNot_any (ax ay : Option Addr) (V U cx cy : Nat) (w : World) (hx : nlen BW V ≤ 2147483647) (hy : nlen BW U ≤ 2147483647) (hcx : nlen BW V ≤ cx) (hcy : nlen BW U ≤ cy)
    (hrdx : Reads w .u64 ax (nlen BW V) (dig BW V)) (hrdy : Reads w .u64 ay (nlen BW U) (dig BW U)) :
    Calls Tryd.prog 70 #[.slice none 0 0, .slice ax (nlen BW V) cx, .slice ay (nlen BW U) cy] w (NatPost (andn V U) w) := by
  by_cases h0 : nlen BW V = 0
  · have hR : andn V U = 0 := lt_one_zero (andn_lt (m := 0) (by omega))
    rw [h0]
    by_cases h1 : nlen BW U = 0
    · rw [h1]; exact natAndNot_z1 ax ay _ 0 0 cx cy w hR
    · exact natAndNot_z2 ax ay _ 0 _ cx cy w (by omega) hR
  · by_cases h : nlen BW V < nlen BW U
    · exact natAndNot_gt ax ay V U _ _ cx cy w rfl rfl hx hy hcx hcy h (by omega) hrdx hrdy
    · by_cases h' : nlen BW U = nlen BW V
      · exact natAndNot_eq ax ay V U _ _ cx cy w rfl rfl hx hy hcx hcy h' (by omega) hrdx hrdy
      · exact natAndNot_le ax ay V U _ _ cx cy w rfl rfl hx hy hcx hcy (by omega) (by omega) hrdx hrdy

end Go.Proofs.YtidifjmjbfhpaaaDoor
