/- (*Int).Bit: a bit in two's complement. -/
import Derived.Test.YtidifjmjbfhpaaaDoorNatBit
namespace Go.Proofs.YtidifjmjbfhpaaaDoor
set_option linter.unusedVariables false
set_option maxRecDepth 20000
set_option linter.unusedSimpArgs false
open Go.RowKit

/-- big.natOne is a slice of one word, 1. -/
def One (w : World) : Prop := ∃ (ay : Option Addr) (cy : Nat), 1 ≤ cy ∧ w.cell? ⟨0, 0, none⟩ = some (.slice ay 1 cy) ∧ Reads w .u64 ay 1 (fun _ => 1)
theorem One.below {w w' : World} (h : One w) (hb : Below w.heap.size w w') : One w' := by
  obtain ⟨ay, cy, h1, h2, h3⟩ := h
  exact ⟨ay, cy, h1, by rw [hb.cell (World.block_lt_of_cell? _ _ h2)]; exact h2, h3.below hb⟩

theorem tb_zero (neg : Bool) (V : Nat) (h : neg = true → 1 ≤ V) : tb neg V 0 = V.testBit 0 := by
  cases neg
  · rfl
  · have := h rfl
    show (!(V - 1).testBit 0) = V.testBit 0
    rw [Nat.testBit_zero, Nat.testBit_zero]
    rcases Nat.mod_two_eq_zero_or_one V with h | h
    · rw [h, show (V - 1) % 2 = 1 by omega]; rfl
    · rw [h, show (V - 1) % 2 = 0 by omega]; rfl

theorem reads_own_blocks {w : World} {base n c : Nat} {ao : Option Addr} {e : TypeId} {f : Nat → Nat} (own : Own w base e .u64 (.slice ao n c) n f) : ∀ a, ao = some a → ∃ c t, w.heap[a.block]? = some (.cells c t (0, 0)) := by
  rintro a rfl
  rcases own.2 with ⟨h, _⟩ | ⟨g, cap, cur, h, hb, hg, _⟩
  · simp at h
  · simp at h
    obtain ⟨rfl, rfl⟩ := h
    exact ⟨_, _, hg⟩

set_option maxHeartbeats 1000000 in
theorem intBit_any (p base V i : Nat) (neg : Bool) (v : Value) (w : World) (hV : neg = true → 1 ≤ V) (hb : nlen BW V ≤ 2147483647) (hi : i ≤ 1000000000000) (h : Pair w p 72 (.bool neg) v) (own : Own w base 83 .u64 v (nlen BW V) (dig BW V)) (hone : One w) :
    Calls Tryd.prog 32 #[.pointer (some ⟨p, 0, none⟩), .int .i64 i] w fun e w' => e = .returned (.int .u64 ((b01 (tb neg V i) : Nat) : Int)) ∧ Below w.heap.size w w' := by
  obtain ⟨az, cz, rfl, hle, hcm, hrd, hlt⟩ := own.parts
  have c0 := h.cell0
  have c1 := h.cell1
  have hwi : IntKind.u64.wrap (i : Int) = (i : Int) := by rw [IntKind.wrap_u64]; omega
  have hw1 : ∀ b, IntKind.u64.wrap ((b01 b : Nat) : Int) = ((b01 b : Nat) : Int) := fun b => by cases b <;> rfl
  by_cases h0 : i = 0
  · subst h0
    have ht := tb_zero neg V hV
    have hz := nlen_eq_zero BW_one V
    obtain ⟨n, hnn⟩ : ∃ n, n = nlen BW V := ⟨_, rfl⟩
    rw [← hnn] at c1 hz hrd
    by_cases hn0 : n = 0
    · have hr : b01 (tb neg V 0) = 0 := by rw [ht, hz.1 hn0]; rfl
      rw [hr]
      subst hn0
      clear ht hz hrd hnn own hlt
      go_enter Tryd.func32, Tryd.ntmps32
      go_wp2
      go_ret
      exact ⟨rfl, Below.refl _ _⟩
    · obtain ⟨b, o, rfl, hcell⟩ := hrd 0 (by omega)
      have hd := dig_BW V 0
      have hbit := word_bit2 V 0 0 (by omega)
      obtain ⟨d, hdd⟩ : ∃ d, d = dig BW V 0 := ⟨_, rfl⟩
      rw [← hdd] at hcell hd hbit
      have hand := and_one_word d 0 hd
      simp only [Int.pow_zero, Int.ediv_one, Nat.pow_zero, Nat.div_one] at hand
      rw [Nat.add_zero] at hcell
      have hr : d % 2 = b01 (tb neg V 0) := by
        rw [ht, ← show d.testBit 0 = V.testBit 0 from hbit, Nat.testBit_zero]
        unfold b01
        rcases Nat.mod_two_eq_zero_or_one d with h | h <;> rw [h] <;> rfl
      rw [hr] at hand
      have hnpos : decide ((0 : Int) < (n : Int)) = true := by simp; omega
      have hwr := hw1 (tb neg V 0)
      obtain ⟨r, hrr⟩ : ∃ r, r = b01 (tb neg V 0) := ⟨_, rfl⟩
      rw [← hrr] at hand hwr ⊢
      clear ht hz hrd hnn own hlt hbit hdd hr hrr
      go_enter Tryd.func32, Tryd.ntmps32
      go_wp2
      go_ret
      exact ⟨rfl, Below.refl _ _⟩
  · have hi0 : ((i : Int) == 0) = false := by simp; omega
    have hil : decide ((i : Int) < 0) = false := by simp
    cases neg with
    | false =>
      have K := Lib.hid (natBit_any az V cz i w hle (by omega) hi hrd)
      have hb2 : tb false V i = V.testBit i := rfl
      rw [hb2]
      clear own hlt hrd hone h hV
      go_enter Tryd.func32, Tryd.ntmps32
      go_wp2_with fail
      refine K.out.mono ?_
      rintro e w1 ⟨rfl, rfl⟩
      have hwr := hw1 (V.testBit i)
      go_wp2
      go_ret
      exact ⟨rfl, Below.refl _ _⟩
    | true =>
      have hV1 := hV rfl
      obtain ⟨ay, cy, hcy, hg0, hry⟩ := hone
      have KS := Lib.hid (natSub1_any az ay V cz cy w.drew hV1 hle hcy hb hrd hry (reads_own_blocks own))
      have hb2 : tb true V i = !(V - 1).testBit i := rfl
      rw [hb2]
      have hsn : nlen BW (V - 1) ≤ nlen BW V := nlen_mono BW_one (Nat.sub_le _ _)
      have HP := Lib.hid h
      clear own hlt hrd hry h hV
      obtain ⟨n, hnn⟩ : ∃ n, n = nlen BW V := ⟨_, rfl⟩
      rw [← hnn] at c1 KS hsn hb
      clear hnn hle
      go_enter Tryd.func32, Tryd.ntmps32
      go_wp2_with fail
      have keepS : ∀ w', Below w.drew.heap.size w.drew w' → w'.cell? ⟨p, 1, none⟩ = some (.slice az n cz) ∧ w'.cell? ⟨0, 0, none⟩ = some (.slice ay 1 cy) := fun w' hb' => ⟨by rw [hb'.cell (World.block_lt_of_cell? _ _ c1)]; exact c1, by rw [hb'.cell (World.block_lt_of_cell? _ _ hg0)]; exact hg0⟩
      have KEEP := Lib.hid keepS
      clear keepS
      go_region_held3 (fun w' => w'.cell? ⟨p, 1, none⟩ = some (.slice az n cz) ∧ w'.cell? ⟨0, 0, none⟩ = some (.slice ay 1 cy)) (first | exact ⟨c1, hg0⟩ | exact k2) (first | (go_simp; go_at_call 58; refine KS.out.mono ?_; rintro e w2 ⟨v2, rfl, own2, b2⟩; obtain ⟨a2, c2, rfl, hle2, hcm2, hrd2, hlt2⟩ := own2.parts; have k2 := KEEP.out _ b2; go_wp2_with fail))
      have KB := Lib.hid (natBit_any a2 (V - 1) c2 i w2 hle2 (by omega) hi hrd2)
      have B2 := Lib.hid (show Below w.heap.size w w2 from ⟨b2.os, b2.tape, b2.output, b2.size, b2.block⟩)
      clear own2 hrd2 hlt2 k2 b2 KS KEEP
      go_wp2_with fail
      refine KB.out.mono ?_
      rintro e w3 ⟨rfl, rfl⟩
      obtain ⟨bb, hbb⟩ : ∃ b, b = (V - 1).testBit i := ⟨_, rfl⟩
      rw [← hbb]
      have hx0 : bits .xor .u64 0 1 = 1 := by rfl
      have hx1 : bits .xor .u64 1 1 = 0 := by rfl
      have HBB := Lib.hid hbb
      clear hbb hb2 KB
      cases bb
      all_goals
        simp only [b01]
        go_wp2
        go_ret
        exact ⟨by rw [← HBB.out]; rfl, B2.out⟩

end Go.Proofs.YtidifjmjbfhpaaaDoor
