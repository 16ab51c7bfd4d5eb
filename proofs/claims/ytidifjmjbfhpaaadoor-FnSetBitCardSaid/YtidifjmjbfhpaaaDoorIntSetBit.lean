/- (*Int).SetBit: a bit set or taken away in two's complement, into a new Int. -/
import Derived.Test.YtidifjmjbfhpaaaDoorNatAdd
import Derived.Test.YtidifjmjbfhpaaaDoorNatSubRoom
import Derived.Test.YtidifjmjbfhpaaaDoorBitIt
import Derived.Deep.RegionWith
import Derived.Test.YtidifjmjbfhpaaaDoorUntil
namespace Go.Proofs.YtidifjmjbfhpaaaDoor
set_option linter.unusedVariables false
set_option maxRecDepth 20000
set_option linter.unusedSimpArgs false
open Go.RowKit

/-- What SetBit comes to. -/
def setI (neg : Bool) (V i : Nat) (b : Bool) : Nat := if neg then setb (V - 1) i (!b) + 1 else setb V i b

theorem setI_bit (neg : Bool) (V i : Nat) (b : Bool) (j : Nat) : tb neg (setI neg V i b) j = if j = i then b else tb neg V j := by
  cases neg
  · exact setb_bit V i b j
  · show (!(setb (V - 1) i (!b) + 1 - 1).testBit j) = if j = i then b else !(V - 1).testBit j
    rw [Nat.add_sub_cancel, setb_bit]
    by_cases h : j = i
    · simp [h]
    · simp [h]

theorem setb_nlen (V i : Nat) (b : Bool) : nlen BW (setb V i b) ≤ max (nlen BW V) (i / 64 + 1) := by
  cases b
  · have := nlen_mono BW_one (setb0_le V i); omega
  · rw [setb1_nlen]; exact Nat.le_refl _
theorem nlen_succ_le (V : Nat) : nlen BW (V + 1) ≤ nlen BW V + 1 := by
  rw [nlen_le_iff BW_one]
  have h := lt_pow_nlen BW_one V
  have h2 := BW_one
  rw [Nat.pow_succ]
  have : BW ^ nlen BW V * 2 ≤ BW ^ nlen BW V * BW := Nat.mul_le_mul_left _ h2
  omega

/-- An Int lies at p: its sign and its words, which are the call's own from base on. -/
def IntNew (w : World) (base p : Nat) (neg : Bool) (V : Nat) : Prop := ∃ v, Pair w p 72 (.bool neg) v ∧ Own w base 83 .u64 v (nlen BW V) (dig BW V)

def IntPost (pz : Nat) (neg : Bool) (R : Nat) (w : World) (e : Ending) (w' : World) : Prop :=
  e = .returned (.pointer (some ⟨pz, 0, none⟩)) ∧ IntNew w' w.heap.size pz neg R ∧ w.grownBy w' (some pz)

theorem IntNew.set {w : World} {B pz R : Nat} {v : Value} {a b : Value} {neg : Bool} (hz : Pair w pz 72 a b) (own : Own w B 83 .u64 v (nlen BW R) (dig BW R)) (hp : pz < B) :
    IntNew ((w.setCell ⟨pz, 1, none⟩ v).setCell ⟨pz, 0, none⟩ (.bool neg)) B pz neg R ∧ w.grownBy ((w.setCell ⟨pz, 1, none⟩ v).setCell ⟨pz, 0, none⟩ (.bool neg)) (some pz) := by
  have gr := grown_trans (grown_setCell w ⟨pz, 1, none⟩ v) (grown_setCell (w.setCell ⟨pz, 1, none⟩ v) ⟨pz, 0, none⟩ (.bool neg))
  refine ⟨⟨v, (hz.set1 v).set0 (.bool neg), own.kept gr ?_⟩, gr⟩
  cases hv : v.ownBlock with
  | none => exact .inl rfl
  | some k =>
    refine .inr fun e => ?_
    have := (own.lt k hv).1
    have e2 : k = pz := by simpa using e
    omega

set_option maxHeartbeats 1000000 in
theorem intSetBit_pos (pz px base V i : Nat) (b : Bool) (v : Value) (w : World) (hb : nlen BW V ≤ 2147483640) (hi : i ≤ 100000000) (hz : Pair w pz 72 (.bool false) (.slice none 0 0)) (h : Pair w px 72 (.bool false) v) (own : Own w base 83 .u64 v (nlen BW V) (dig BW V)) :
    Calls Tryd.prog 40 #[.pointer (some ⟨pz, 0, none⟩), .pointer (some ⟨px, 0, none⟩), .int .i64 i, .int .u64 ((b01 b : Nat) : Int)] w (IntPost pz false (setb V i b) w) := by
  obtain ⟨az, cz, rfl, hle, hcm, hrd, hlt⟩ := own.parts
  have c0 := h.cell0
  have c1 := h.cell1
  have z1 := hz.cell1
  have hil : decide ((i : Int) < 0) = false := by simp
  have hwi : IntKind.u64.wrap (i : Int) = (i : Int) := by rw [IntKind.wrap_u64]; omega
  have hwb : IntKind.u64.wrap ((b01 b : Nat) : Int) = ((b01 b : Nat) : Int) := by cases b <;> rfl
  have KS := Lib.hid (natSetBit_any b (.slice none 0 0) az V cz i w.drew.heap.size 0 (dig BW V) w.drew (Room.nil _ _ _) (Nat.le_refl _) (by omega) hi hrd (.inl rfl))
  have HZ := Lib.hid hz
  have HP := Lib.hid h
  clear own hlt hrd h hz
  obtain ⟨n, hnn⟩ : ∃ n, n = nlen BW V := ⟨_, rfl⟩
  rw [← hnn] at c1 KS hb
  clear hnn hle
  obtain ⟨bb, hbb⟩ : ∃ x, x = b01 b := ⟨_, rfl⟩
  rw [← hbb] at KS hwb ⊢
  clear hbb
  go_enter Tryd.func40, Tryd.ntmps40
  go_wp2_with fail
  go_region_with (go_at_call 62; refine KS.out.mono ?_; rintro e w2 ⟨v2, rfl, room2, b2⟩; have own2 := room2.own; obtain ⟨a2, c2, rfl, hle2, hcm2, hrd2, hlt2⟩ := own2.parts; have hz2 := HZ.out.below (below_of_drew b2) HZ.out.lt; have fz := hz2.free 1; have fz0 := hz2.free 0; have z0 := hz2.cell0; have zz1 := hz2.cell1; have R2 := Lib.hid (And.intro own2 (And.intro b2 hz2)); clear room2 b2 hz2 own2 hle2 hcm2 hrd2 hlt2; go_wp2_with fail)
  all_goals
    go_wp2
    go_ret
    obtain ⟨h1, h2⟩ := IntNew.set (neg := false) R2.out.2.2 R2.out.1 (show pz < w.heap.size from HZ.out.lt)
    exact ⟨rfl, h1, grown_trans (grown_of_below (below_of_drew R2.out.2.1) _) h2⟩

set_option maxHeartbeats 1000000 in
theorem intSetBit_neg (pz px base V i : Nat) (b : Bool) (v : Value) (w : World) (hV1 : 1 ≤ V) (hb : nlen BW V ≤ 2147483640) (hi : i ≤ 100000000) (hz : Pair w pz 72 (.bool false) (.slice none 0 0)) (h : Pair w px 72 (.bool true) v) (own : Own w base 83 .u64 v (nlen BW V) (dig BW V)) (hone : One w) :
    Calls Tryd.prog 40 #[.pointer (some ⟨pz, 0, none⟩), .pointer (some ⟨px, 0, none⟩), .int .i64 i, .int .u64 ((b01 b : Nat) : Int)] w (IntPost pz true (setb (V - 1) i (!b) + 1) w) := by
  obtain ⟨az, cz, rfl, hle, hcm, hrd, hlt⟩ := own.parts
  have c0 := h.cell0
  have c1 := h.cell1
  have z1 := hz.cell1
  have hil : decide ((i : Int) < 0) = false := by simp
  have hwi : IntKind.u64.wrap (i : Int) = (i : Int) := by rw [IntKind.wrap_u64]; omega
  have hwb : bits .xor .u64 ((b01 b : Nat) : Int) 1 = ((b01 (!b) : Nat) : Int) := by cases b <;> rfl
  obtain ⟨ay, cy, hcy, hg0, hry⟩ := hone
  have hyb : ∀ a, ay = some a → a.block < w.heap.size := fun a ha => by
    obtain ⟨b, o, h1, h2⟩ := hry.lt (by omega)
    rw [ha] at h1
    cases h1
    exact h2
  have KS := Lib.hid (natSub1_room az ay V cz cy w.drew hV1 hle hcy (by omega) hrd hry (reads_own_blocks own))
  have hsn : nlen BW (V - 1) ≤ nlen BW V := nlen_mono BW_one (Nat.sub_le _ _)
  have HZ := Lib.hid hz
  have HO := Lib.hid (And.intro hry (And.intro hyb hg0))
  clear own hlt hrd hry hyb h hz
  obtain ⟨n, hnn⟩ : ∃ n, n = nlen BW V := ⟨_, rfl⟩
  rw [← hnn] at c1 KS hsn hb
  clear hnn hle
  obtain ⟨bb, hbb⟩ : ∃ x, x = b01 b := ⟨_, rfl⟩
  rw [← hbb] at hwb ⊢
  clear hbb
  go_enter Tryd.func40, Tryd.ntmps40
  go_wp2_with fail
  have keepS : ∀ w', Below w.drew.heap.size w.drew w' → w'.cell? ⟨pz, 1, none⟩ = some (.slice none 0 0) ∧ w'.cell? ⟨px, 1, none⟩ = some (.slice az n cz) ∧ w'.cell? ⟨0, 0, none⟩ = some (.slice ay 1 cy) := fun w' hb' => ⟨by rw [hb'.cell (World.block_lt_of_cell? _ _ z1)]; exact z1, by rw [hb'.cell (World.block_lt_of_cell? _ _ c1)]; exact c1, by rw [hb'.cell (World.block_lt_of_cell? _ _ hg0)]; exact hg0⟩
  have KEEP := Lib.hid keepS
  clear keepS
  go_region_held3 (fun w' => w'.cell? ⟨pz, 1, none⟩ = some (.slice none 0 0) ∧ w'.cell? ⟨px, 1, none⟩ = some (.slice az n cz) ∧ w'.cell? ⟨0, 0, none⟩ = some (.slice ay 1 cy)) (first | exact ⟨z1, c1, hg0⟩ | exact k2) (first | (go_simp; go_at_call 58; refine KS.out.mono ?_; rintro e w2 ⟨v2, rfl, room2, b2⟩; have own2 := room2.own; obtain ⟨a2, c2, rfl, hle2, hcm2, hrd2, hlt2⟩ := own2.parts; have k2 := KEEP.out _ b2; go_wp2_with fail))
  have KB := Lib.hid (natSetBit_any (!b) (.slice a2 (nlen BW (V - 1)) c2) a2 (V - 1) c2 i w.drew.heap.size _ _ w2 room2 b2.size (by omega) hi hrd2 (.inr rfl))
  have B2 := Lib.hid (And.intro b2 hrd2)
  have hg2 := k2.2.2
  clear own2 hrd2 hlt2 k2 KS KEEP room2 hle2 hcm2
  obtain ⟨n2, hn2⟩ : ∃ n, n = nlen BW (V - 1) := ⟨_, rfl⟩
  rw [← hn2] at KB B2 hsn ⊢
  have HN2 := Lib.hid hn2
  clear hn2
  go_wp2_with fail
  refine KB.out.mono ?_
  rintro e w3 ⟨v3, rfl, room3, b3⟩
  have own3 := room3.own
  obtain ⟨a3, c3, rfl, hle3, hcm3, hrd3, hlt3⟩ := own3.parts
  have b23 := B2.out.1.trans b3
  have hg3 : w3.cell? ⟨0, 0, none⟩ = some (.slice ay 1 cy) := by rw [b23.cell (World.block_lt_of_cell? _ _ hg0)]; exact hg0
  have hnb := setb_nlen (V - 1) i (!b)
  rw [← HN2.out] at hnb
  have KA := Lib.hid (natAdd1_any (.slice a3 (nlen BW (setb (V - 1) i (!b))) c3) a3 ay (setb (V - 1) i (!b)) c3 cy w.drew.heap.size _ _ w3 room3 b23.size (by omega) hle3 hcy hrd3 (HO.out.1.below (below_of_drew b23)) (reads_own_blocks own3) HO.out.2.1 (.inr rfl))
  have B3 := Lib.hid b23
  clear own3 room3 hrd3 hlt3 b3 b23 KB hnb
  obtain ⟨n3, hn3⟩ : ∃ n, n = nlen BW (setb (V - 1) i (!b)) := ⟨_, rfl⟩
  rw [← hn3] at KA hle3 ⊢
  clear hn3
  go_wp2_with fail
  refine KA.out.mono ?_
  rintro e w4 ⟨v4, rfl, room4, b4⟩
  have own4 := room4.own
  obtain ⟨a4, c4, rfl, hle4, hcm4, hrd4, hlt4⟩ := own4.parts
  have b34 := B3.out.trans b4
  have hz4 := HZ.out.below (below_of_drew b34) HZ.out.lt
  have fz := hz4.free 1
  have fz0 := hz4.free 0
  have z40 := hz4.cell0
  have z41 := hz4.cell1
  have R4 := Lib.hid (And.intro own4 (And.intro (below_of_drew b34) hz4))
  have hpos : 0 < nlen BW (setb (V - 1) i (!b) + 1) := Nat.pos_of_ne_zero fun h => by
    have := (nlen_eq_zero BW_one _).1 h
    omega
  clear own4 room4 hrd4 hlt4 b4 b34 KA hz4
  obtain ⟨n4, hn4⟩ : ∃ n, n = nlen BW (setb (V - 1) i (!b) + 1) := ⟨_, rfl⟩
  rw [← hn4] at hpos hle4 R4 ⊢
  have HN4 := Lib.hid hn4
  clear hn4
  have hposi : decide ((0 : Int) < (n4 : Int)) = true := by simp; omega
  go_wp2
  go_ret
  have R5 := R4.out
  rw [HN4.out] at R5
  obtain ⟨h1, h2⟩ := IntNew.set (neg := true) R5.2.2 R5.1 (show pz < w.heap.size from HZ.out.lt)
  rw [← HN4.out] at h1 h2
  exact ⟨rfl, h1, grown_trans (grown_of_below R5.2.1 _) h2⟩

theorem intSetBit_any (pz px base V i : Nat) (neg b : Bool) (v : Value) (w : World) (hV1 : neg = true → 1 ≤ V) (hb : nlen BW V ≤ 2147483640) (hi : i ≤ 100000000) (hz : Pair w pz 72 (.bool false) (.slice none 0 0)) (h : Pair w px 72 (.bool neg) v) (own : Own w base 83 .u64 v (nlen BW V) (dig BW V)) (hone : One w) :
    Calls Tryd.prog 40 #[.pointer (some ⟨pz, 0, none⟩), .pointer (some ⟨px, 0, none⟩), .int .i64 i, .int .u64 ((b01 b : Nat) : Int)] w (IntPost pz neg (setI neg V i b) w) := by
  cases neg
  · exact intSetBit_pos pz px base V i b v w hb hi hz h own
  · exact intSetBit_neg pz px base V i b v w (hV1 rfl) hb hi hz h own hone

def PanicPost (w : World) (e : Ending) (w' : World) : Prop := (∃ T x, e = .panicked [{ v := .iface T x, recovered := false }]) ∧ Below w.heap.size w w'

theorem xor_one_big : ∀ b, b < 256 → 2 ≤ b → 2 ≤ b ^^^ 1 := by decide

set_option maxHeartbeats 1000000 in
theorem intSetBit_bad (pz px base V i b : Nat) (neg : Bool) (v : Value) (w : World) (hV1 : neg = true → 1 ≤ V) (hb2 : 2 ≤ b) (hb3 : b < 256) (hb : nlen BW V ≤ 2147483640) (hi : i ≤ 100000000) (hz : Pair w pz 72 (.bool false) (.slice none 0 0)) (h : Pair w px 72 (.bool neg) v) (own : Own w base 83 .u64 v (nlen BW V) (dig BW V)) (hone : One w) :
    Calls Tryd.prog 40 #[.pointer (some ⟨pz, 0, none⟩), .pointer (some ⟨px, 0, none⟩), .int .i64 i, .int .u64 b] w (PanicPost w) := by
  obtain ⟨az, cz, rfl, hle, hcm, hrd, hlt⟩ := own.parts
  have c0 := h.cell0
  have c1 := h.cell1
  have z1 := hz.cell1
  have hil : decide ((i : Int) < 0) = false := by simp
  have hwi : IntKind.u64.wrap (i : Int) = (i : Int) := by rw [IntKind.wrap_u64]; omega
  have hx2 := xor_one_big b hb3 hb2
  have hwb : bits .xor .u64 (b : Int) 1 = ((b ^^^ 1 : Nat) : Int) := bits_xor_u64_nat b 1 (by omega) (by omega)
  obtain ⟨b1, hb1⟩ : ∃ x, x = b ^^^ 1 := ⟨_, rfl⟩
  rw [← hb1] at hwb hx2
  clear hb1
  obtain ⟨ay, cy, hcy, hg0, hry⟩ := hone
  cases neg with
  | false =>
    have KS := Lib.hid (setBit_bad (.slice none 0 0) az cz i (nlen BW V) b w.drew hb2)
    clear own hlt hrd h hz hry
    obtain ⟨n, hnn⟩ : ∃ n, n = nlen BW V := ⟨_, rfl⟩
    rw [← hnn] at c1 KS hb
    clear hnn hle hV1
    go_enter Tryd.func40, Tryd.ntmps40
    go_wp2_with fail
    refine region_until (fun w' => w'.cell? ⟨pz, 1, none⟩ = some (.slice none 0 0) ∧ w'.cell? ⟨px, 1, none⟩ = some (.slice az n cz)) 15 (by kernel_rfl) ⟨z1, c1⟩ ?_
    refine until_take 0 [15] rfl rfl (by kernel_rfl) (by kernel_rfl) (by kernel_rfl) (by kernel_rfl) (fun _ _ _ h => h) (v := .pointer (some ⟨pz, 0, none⟩)) (.inl ⟨by rfl, ?_⟩) ⟨z1, c1⟩ ?_
    · rintro w' ⟨h1, h2⟩; go_simp
    simp only [Act.put, List.setIfInBounds_toArray, List.set_cons_zero, List.set_cons_succ]
    refine until_take 1 [15] rfl rfl (by kernel_rfl) (by kernel_rfl) (by kernel_rfl) (by kernel_rfl) (fun _ _ _ h => h) (v := .pointer (some ⟨pz, 0, none⟩)) (.inl ⟨by rfl, ?_⟩) ⟨z1, c1⟩ ?_
    · rintro w' ⟨h1, h2⟩; go_simp
    simp only [Act.put, List.setIfInBounds_toArray, List.set_cons_zero, List.set_cons_succ]
    refine until_take 2 [15] rfl rfl (by kernel_rfl) (by kernel_rfl) (by kernel_rfl) (by kernel_rfl) (fun _ _ _ h => h) (v := .pointer (some ⟨pz, 0, none⟩)) (.inl ⟨by rfl, ?_⟩) ⟨z1, c1⟩ ?_
    · rintro w' ⟨h1, h2⟩; go_simp
    simp only [Act.put, List.setIfInBounds_toArray, List.set_cons_zero, List.set_cons_succ]
    refine until_take 3 [15] rfl rfl (by kernel_rfl) (by kernel_rfl) (by kernel_rfl) (by kernel_rfl) (fun _ _ _ h => h) (v := .pointer (some ⟨pz, 1, none⟩)) (.inl ⟨by rfl, ?_⟩) ⟨z1, c1⟩ ?_
    · rintro w' ⟨h1, h2⟩; go_simp
    simp only [Act.put, List.setIfInBounds_toArray, List.set_cons_zero, List.set_cons_succ]
    refine until_take 4 [15] rfl rfl (by kernel_rfl) (by kernel_rfl) (by kernel_rfl) (by kernel_rfl) (fun _ _ _ h => h) (v := .slice none 0 0) (.inl ⟨by rfl, ?_⟩) ⟨z1, c1⟩ ?_
    · rintro w' ⟨h1, h2⟩; go_simp
    simp only [Act.put, List.setIfInBounds_toArray, List.set_cons_zero, List.set_cons_succ]
    refine until_take 5 [15] rfl rfl (by kernel_rfl) (by kernel_rfl) (by kernel_rfl) (by kernel_rfl) (fun _ _ _ h => h) (v := .pointer (some ⟨px, 0, none⟩)) (.inl ⟨by rfl, ?_⟩) ⟨z1, c1⟩ ?_
    · rintro w' ⟨h1, h2⟩; go_simp
    simp only [Act.put, List.setIfInBounds_toArray, List.set_cons_zero, List.set_cons_succ]
    refine until_take 6 [15] rfl rfl (by kernel_rfl) (by kernel_rfl) (by kernel_rfl) (by kernel_rfl) (fun _ _ _ h => h) (v := .pointer (some ⟨px, 0, none⟩)) (.inl ⟨by rfl, ?_⟩) ⟨z1, c1⟩ ?_
    · rintro w' ⟨h1, h2⟩; go_simp
    simp only [Act.put, List.setIfInBounds_toArray, List.set_cons_zero, List.set_cons_succ]
    refine until_take 7 [15] rfl rfl (by kernel_rfl) (by kernel_rfl) (by kernel_rfl) (by kernel_rfl) (fun _ _ _ h => h) (v := .pointer (some ⟨px, 1, none⟩)) (.inl ⟨by rfl, ?_⟩) ⟨z1, c1⟩ ?_
    · rintro w' ⟨h1, h2⟩; go_simp
    simp only [Act.put, List.setIfInBounds_toArray, List.set_cons_zero, List.set_cons_succ]
    refine until_take 8 [15] rfl rfl (by kernel_rfl) (by kernel_rfl) (by kernel_rfl) (by kernel_rfl) (fun _ _ _ h => h) (v := .slice az n cz) (.inl ⟨by rfl, ?_⟩) ⟨z1, c1⟩ ?_
    · rintro w' ⟨h1, h2⟩; go_simp
    simp only [Act.put, List.setIfInBounds_toArray, List.set_cons_zero, List.set_cons_succ]
    refine until_take 9 [15] rfl rfl (by kernel_rfl) (by kernel_rfl) (by kernel_rfl) (by kernel_rfl) (fun _ _ _ h => h) (v := .int .i64 i) (.inl ⟨by rfl, ?_⟩) ⟨z1, c1⟩ ?_
    · rintro w' ⟨h1, h2⟩; go_simp
    simp only [Act.put, List.setIfInBounds_toArray, List.set_cons_zero, List.set_cons_succ]
    refine until_take 10 [15] rfl rfl (by kernel_rfl) (by kernel_rfl) (by kernel_rfl) (by kernel_rfl) (fun _ _ _ h => h) (v := .int .u64 i) (.inl ⟨by rfl, ?_⟩) ⟨z1, c1⟩ ?_
    · rintro w' ⟨h1, h2⟩; go_simp
    simp only [Act.put, List.setIfInBounds_toArray, List.set_cons_zero, List.set_cons_succ]
    refine until_take 11 [15] rfl rfl (by kernel_rfl) (by kernel_rfl) (by kernel_rfl) (by kernel_rfl) (fun _ _ _ h => h) (v := .int .u64 b) (.inl ⟨by rfl, ?_⟩) ⟨z1, c1⟩ ?_
    · rintro w' ⟨h1, h2⟩; go_simp
    simp only [Act.put, List.setIfInBounds_toArray, List.set_cons_zero, List.set_cons_succ]
    refine until_one (j := 12) (by kernel_rfl) rfl (fun K hK => ?_)
    go_simp
    refine KS.out.mono ?_
    rintro e w2 ⟨⟨T, x, rfl⟩, rfl⟩
    exact ⟨rfl, ⟨_, _, rfl⟩, ⟨rfl, rfl, rfl, Nat.le_refl _, fun _ _ => rfl⟩⟩
  | true =>
    have KS := Lib.hid (natSub1_room az ay V cz cy w.drew (hV1 rfl) hle hcy (by omega) hrd hry (reads_own_blocks own))
    clear own hlt hrd hry h hz hV1
    obtain ⟨n, hnn⟩ : ∃ n, n = nlen BW V := ⟨_, rfl⟩
    rw [← hnn] at c1 KS hb
    clear hnn hle
    go_enter Tryd.func40, Tryd.ntmps40
    go_wp2_with fail
    have KEEP := Lib.hid (show ∀ w', Below w.drew.heap.size w.drew w' → w'.cell? ⟨pz, 1, none⟩ = some (.slice none 0 0) ∧ w'.cell? ⟨px, 1, none⟩ = some (.slice az n cz) ∧ w'.cell? ⟨0, 0, none⟩ = some (.slice ay 1 cy) from fun w' hb' => ⟨by rw [hb'.cell (World.block_lt_of_cell? _ _ z1)]; exact z1, by rw [hb'.cell (World.block_lt_of_cell? _ _ c1)]; exact c1, by rw [hb'.cell (World.block_lt_of_cell? _ _ hg0)]; exact hg0⟩)
    go_region_held3 (fun w' => w'.cell? ⟨pz, 1, none⟩ = some (.slice none 0 0) ∧ w'.cell? ⟨px, 1, none⟩ = some (.slice az n cz) ∧ w'.cell? ⟨0, 0, none⟩ = some (.slice ay 1 cy)) (first | exact ⟨z1, c1, hg0⟩ | exact k2) (first | (go_simp; go_at_call 58; refine KS.out.mono ?_; rintro e w2 ⟨v2, rfl, room2, b2⟩; have own2 := room2.own; obtain ⟨a2, c2, rfl, hle2, hcm2, hrd2, hlt2⟩ := own2.parts; have k2 := KEEP.out _ b2; go_wp2_with fail))
    obtain ⟨n2, hn2⟩ : ∃ n, n = nlen BW (V - 1) := ⟨_, rfl⟩
    rw [← hn2]
    have KB := Lib.hid (setBit_bad (.slice a2 n2 c2) a2 c2 i n2 b1 w2 hx2)
    have B2 := Lib.hid (below_of_drew b2)
    clear own2 hrd2 hlt2 k2 KS KEEP room2 hle2 hcm2 hn2 b2
    go_wp2_with fail
    refine KB.out.mono ?_
    rintro e w3 ⟨⟨T, x, rfl⟩, rfl⟩
    go_wp2
    exact ⟨rfl, ⟨_, _, rfl⟩, B2.out⟩

end Go.Proofs.YtidifjmjbfhpaaaDoor
