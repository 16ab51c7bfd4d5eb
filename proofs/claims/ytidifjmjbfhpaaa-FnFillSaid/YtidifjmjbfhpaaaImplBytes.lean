/- (*Int).Bytes and impl.Bytes: the bytes of the absolute value, the highest first, none 0 ahead. -/
import Derived.Test.YtidifjmjbfhpaaaBase
import Derived.Test.YtidifjmjbfhpaaaInfo
import Derived.Test.YtidifjmjbfhpaaaNatBytes
import Derived.Test.YtidifjmjbfhpaaaOf
namespace Go.Proofs.Ytidifjmjbfhpaaa
set_option linter.unusedVariables false
set_option linter.unusedSimpArgs false
open Go.RowKit

theorem pow_bytes (m : Nat) : BW ^ m = 256 ^ (8 * m) := by rw [Nat.pow_mul]; rfl

set_option maxHeartbeats 400000 in
theorem intBytes_any (p base V : Nat) (neg : Bool) (v : Value) (w : World) (hm : nlen BW V ≤ 200000000) (h : Pair w p 49 (.bool neg) v) (own : Own w base 62 .u64 v (nlen BW V) (dig BW V)) :
    Calls Try.prog 22 #[.pointer (some ⟨p, 0, none⟩)] w fun e w' => ∃ a c, e = .returned (.slice (some a) (nlen 256 V) c) ∧ Reads w' .u8 (some a) (nlen 256 V) (fun i => dig 256 V (nlen 256 V - 1 - i)) ∧ Below w.heap.size w w' := by
  obtain ⟨i0, hi, hz0, hz1, hz2⟩ := info_parts info_u8
  obtain ⟨az, cz, rfl, hle, hcm, hrd, hlt⟩ := own.parts
  obtain ⟨m, hmm⟩ : ∃ m, m = nlen BW V := ⟨_, rfl⟩
  rw [← hmm] at hm hle hrd own h hlt
  have hV : V < BW ^ m := by rw [hmm]; exact lt_pow_nlen BW_one V
  have hl8 : nlen 256 V ≤ 8 * m := by rw [nlen_le_iff (by omega), ← pow_bytes]; exact hV
  have c1 := h.cell1
  have HRD := Lib.hid hrd
  have H := Lib.hid h
  have HM := Lib.hid hmm
  have HV := Lib.hid hV
  have HLT := Lib.hid hlt
  clear own hrd h hmm hV hlt
  have e8 : ((m : Int) * 8) = ((8 * m : Nat) : Int) := by omega
  have E8 := Lib.hid e8
  clear e8
  go_enter Try.func22, Try.ntmps22
  go_wp2_with (at_make; refine wpList_make_full _ rfl (.tmp 9) (.tmp 9) 22 rfl w.heap.size 5 i0 (.int .u8 0) 1 Try.underlying22 hi hz0 hz1 .i64 .i64 ((m : Int) * 8) ((m : Int) * 8) (8 * m) rfl rfl E8.out E8.out (by rw [hz2]; omega) (by unfold maxLen; omega) (Nat.le_refl _) ?_; intro w1 hown1 hgrow1; have c2 := hgrow1.cell c1 (by simp))
  have own1 : Own w1 w.heap.size 5 .u8 (.slice (some ⟨w.heap.size, 0, none⟩) (8 * m) (8 * m)) (8 * m) (fun _ => 0) := Own.made hown1
  have bel1 : Below w.heap.size w w1 := (Below.refl _ _).grown hgrow1 (Nat.le_refl _) (by simp)
  have hrd1 := HRD.out.below bel1
  have hne : ∀ a, az = some a → a.block ≠ w.heap.size := by
    intro a ha
    have := (HLT.out a.block (by rw [ha]; rfl)).2
    omega
  have K := Lib.hid (natBytes_any az m cz V w.heap.size w.heap.size (8 * m) (8 * m) w1 hle (by omega) (by omega) HV.out hrd1 hne own1)
  have B1 := Lib.hid bel1
  clear own1 bel1 hrd1 hne hown1 hgrow1
  refine K.out.mono ?_
  rintro e w2 (⟨hfit, rfl, own2, gr2⟩ | ⟨hbig, _, _⟩)
  · have hq : 8 * m - nlen 256 V ≤ 8 * m := by omega
    obtain ⟨q, hqd⟩ : ∃ q, q = 8 * m - nlen 256 V := ⟨_, rfl⟩
    rw [← hqd] at hq ⊢
    have F2 := Lib.hid (And.intro own2 (below_grown_new B1.out gr2 B1.out.size (Nat.le_refl _)))
    have HQ := Lib.hid hqd
    clear own2 gr2 K hqd
    have hn : 8 * m - q = nlen 256 V := by have := HQ.out; omega
    have HN := Lib.hid hn
    clear hn
    by_cases h0 : q = 8 * m
    · subst h0
      go_wp2
      go_ret
      exact ⟨_, _, ret_slice HN.out, (fun i hi => by have := HN.out; omega), F2.out.2⟩
    · go_wp2
      go_ret
      refine ⟨_, _, ret_slice HN.out, (fun i hi => ⟨_, _, rfl, ?_⟩), F2.out.2⟩
      have h1 := HN.out
      rw [F2.out.1.cell (q + i) (by omega), show 8 * m - 1 - (q + i) = nlen 256 V - 1 - i by omega]
  · have := HV.out
    rw [pow_bytes] at this
    omega

/-- impl.Bytes: the bytes of the number that the words have, in new memory. -/
theorem implBytes_any (neg : Bool) (ao : Option Addr) (n cap : Nat) (f : Nat → Nat) (hf : ∀ i, i < n → f i < BW) (w : World) (hn : n ≤ cap) (hb : n ≤ 200000000) (hrd : Reads w .u64 ao n f) :
    Calls Try.prog 12 #[.agg #[.bool neg, .slice ao n cap]] w fun e w' => ∃ v, e = .returned v ∧ Own w' w.heap.size 5 .u8 v (nlen 256 (val BW f n)) (fun i => dig 256 (val BW f n) (nlen 256 (val BW f n) - 1 - i)) ∧ Below w.heap.size w w' := by
  obtain ⟨i0, hi, hz0, hz1, hz2⟩ := info_parts info_u8
  obtain ⟨V, hV⟩ : ∃ V, V = val BW f n := ⟨_, rfl⟩
  have hVn : nlen BW V ≤ n := by rw [nlen_le_iff BW_one, hV]; exact val_lt hf
  have hl8 : nlen 256 V ≤ 8 * n := by
    have := lt_pow_nlen BW_one V
    rw [nlen_le_iff (by omega), ← pow_bytes]
    exact Nat.lt_of_lt_of_le this (Nat.pow_le_pow_right BW_pos hVn)
  have b0 := (Below.refl w.heap.size w).alloc (Nat.le_refl _) (.cells #[.bool neg, .slice ao n cap] 26)
  have K := Lib.hid (of_any neg ao n cap f hf _ hn (by omega) (hrd.below b0))
  rw [← hV] at K ⊢
  have B0 := Lib.hid b0
  have HV := Lib.hid hV
  clear hrd b0 hV
  go_enter Try.func12, Try.ntmps12
  go_wp2_with fail
  refine K.out.mono ?_
  rintro e w1 ⟨p, rfl, ⟨hp1, v, hp, own⟩, bel1⟩
  have hpl := hp.lt
  have K2 := Lib.hid (intBytes_any p _ V _ v w1 (by omega) hp own)
  have B1 := Lib.hid (B0.out.trans (bel1.mono (by simp)))
  clear hp own bel1 K hp1
  go_wp2_with fail
  refine K2.out.mono ?_
  rintro e w2 ⟨a, c, rfl, hrd2, bel2⟩
  have B2 := Lib.hid (B1.out.trans (bel2.mono B1.out.size))
  have HRD2 := Lib.hid hrd2
  clear hrd2 bel2 K2
  go_wp2_with (at_builtin; refine wpList_append_slice rfl _ _ 22 rfl w.heap.size 5 i0 .u8 1 Try.underlying22 hi hz0 hz1 hz2 (.slice none 0 0) 0 (fun _ => 0) rfl (Own.nil _ _ _ _ _) (some a) (nlen 256 V) c _ rfl (fun h => by cases h) HRD2.out (by omega) (by omega) B2.out.size ?_)
  intro v3 w3 own3 grown3
  have F := Lib.hid (And.intro (own3.congr (g := fun i => dig 256 V (nlen 256 V - 1 - i)) fun j _ => by simp [cat]) (B2.out.grown grown3 B2.out.size (fun k hk => by simp [Value.ownBlock] at hk)))
  clear own3 grown3
  go_wp2
  go_ret
  exact ⟨_, rfl, F.out.1, F.out.2⟩

end Go.Proofs.Ytidifjmjbfhpaaa
