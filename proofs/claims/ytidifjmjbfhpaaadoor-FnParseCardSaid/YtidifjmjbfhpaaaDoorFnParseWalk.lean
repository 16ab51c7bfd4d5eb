/- laws.FnParse returns true, whatever text and base it is called with. -/
import Derived.Test.YtidifjmjbfhpaaaDoorImplParsed
import Derived.Test.YtidifjmjbfhpaaaDoorSpecRead
import Derived.Test.YtidifjmjbfhpaaaDoorKept
import Derived.Deep.Cut
namespace Go.Proofs.YtidifjmjbfhpaaaDoor
set_option linter.unusedVariables false
set_option maxRecDepth 20000
set_option linter.unusedSimpArgs false
open Go.RowKit

set_option maxHeartbeats 4000000 in
theorem fnParse_walk (s : ByteArray) (c : Nat) (hc : c < 256) (a a2 : Addr) (w : World) (he : Glob w 1 (eof a)) (hn : Glob w 5 (eof a2)) (h5 : 5 < w.heap.size) :
    Calls Tryd.prog 6 #[.string s, .int .u8 c] w fun e w' => e = .returned (.bool true) ∧ Below w.heap.size w w' := by
  by_cases h1 : (s.size : Int) > 2147483647
  · go_enter Tryd.func6, Tryd.ntmps6
    go_wp2
    go_ret
    exact ⟨rfl, Below.refl _ _⟩
  by_cases h2 : (s.size : Int) > 1500
  · go_enter Tryd.func6, Tryd.ntmps6
    go_wp2
    go_ret
    exact ⟨rfl, Below.refl _ _⟩
  have hs : s.size ≤ 1500 := by omega
  obtain ⟨b, hb⟩ : ∃ b, b = 2 + c % 61 := ⟨_, rfl⟩
  have hb1 : 2 ≤ b := by omega
  have hb2 : b ≤ 62 := by omega
  have eb : (2 : Int) + (c : Int) % 61 = (b : Int) := by omega
  have KP := Lib.hid (implParse_any s b a a2 w hs hb1 hb2 he hn h5)
  clear hb he hn h5
  go_enter Tryd.func6, Tryd.ntmps6
  go_wp2_with fail
  refine KP.out.mono ?_
  rintro e w1 ⟨neg, V, v, ok, rfl, i1, i2, i3, own, hnl, b1⟩
  obtain ⟨ao, cp, rfl, hle, hcm, hrd, hlt⟩ := own.parts
  obtain ⟨n, hnn⟩ : ∃ n, Hid (n = nlen BW V) := ⟨_, Lib.hid rfl⟩
  rw [← hnn.out] at hle hrd hnl
  rw [← hnn.out]
  obtain ⟨W2, HW2⟩ : ∃ W, Hid (W = w1.alloc (.cells #[.bool neg, .slice ao n cp] 24)) := ⟨_, Lib.hid rfl⟩
  have b2 : Below w1.heap.size w1 W2 := by rw [HW2.out]; exact (Below.refl _ w1).alloc (Nat.le_refl _) _
  have P2 : Pair W2 w1.heap.size 24 (.bool neg) (.slice ao n cp) := by rw [HW2.out]; exact Pair.new w1 _ _ _
  have KR := Lib.hid (specRead_any s b W2 hs hb1 hb2)
  have F := Lib.hid (And.intro b1 (And.intro (hrd.below b2) (And.intro P2 (And.intro b2 (And.intro i1 (And.intro i2 i3))))))
  clear own hlt hcm hrd b1 b2 P2 i1 i2 i3 KP
  obtain ⟨p6, hp6⟩ : ∃ p, Hid (p = w1.heap.size) := ⟨_, Lib.hid rfl⟩
  go_wp2_with fail
  rw [← HW2.out, ← hp6.out]
  refine KR.out.mono ?_
  rintro e w3 ⟨neg2, V2, v2, fine, rfl, j1, j2, j3, own2, hnl2, b3⟩
  have hof : fine = ok := by
    have h := j1.trans F.out.2.2.2.2.1.symm
    cases fine <;> cases ok <;> simp_all
  have hsame : neg2 = neg ∧ V2 = V := by
    by_cases hg : GoodText s b
    · have h1 := F.out.2.2.2.2.2.1 hg
      have h2 := j2 hg
      exact ⟨h2.1.trans h1.1.symm, h2.2.trans h1.2.symm⟩
    · have h1 := F.out.2.2.2.2.2.2 hg
      have h2 := j3 hg
      exact ⟨h2.1.trans h1.1.symm, h2.2.trans h1.2.symm⟩
  have hnV : neg = (neg && decide (V ≠ 0)) := by
    by_cases hg : GoodText s b
    · have h1 := F.out.2.2.2.2.2.1 hg
      rw [h1.1, h1.2]
      unfold sgn
      cases sgnNeg s <;> simp
    · have h1 := F.out.2.2.2.2.2.2 hg
      rw [h1.1]; rfl
  obtain ⟨rfl, rfl⟩ := hsame
  subst hof
  obtain ⟨ao2, cp2, rfl, hle2, hcm2, hrd2, hlt2⟩ := own2.parts
  obtain ⟨W4, HW4⟩ : ∃ W, Hid (W = w3.alloc (.cells #[.bool neg2, .slice ao2 (nlen 65536 V2) cp2] 29)) := ⟨_, Lib.hid rfl⟩
  have b4 : Below w3.heap.size w3 W4 := by rw [HW4.out]; exact (Below.refl _ w3).alloc (Nat.le_refl _) _
  have P4 : Pair W4 w3.heap.size 29 (.bool neg2) (.slice ao2 (nlen 65536 V2) cp2) := by rw [HW4.out]; exact Pair.new w3 _ _ _
  have P6 : Pair W4 p6 24 (.bool neg2) (.slice ao n cp) := by
    rw [hp6.out]
    exact (F.out.2.2.1.below b3 F.out.2.2.1.lt).below b4 (Nat.lt_of_lt_of_le F.out.2.2.1.lt b3.size)
  have KI := Lib.hid (is_yes neg2 neg2 ao ao2 n cp V2 cp2 (dig BW V2) W4 (by omega) hle2 (by omega) ((F.out.2.1.below b3).below b4) (hrd2.below b4) ⟨hnn.out, hnV, fun _ _ => rfl⟩)
  obtain ⟨p8, hp8⟩ : ∃ p, Hid (p = w3.heap.size) := ⟨_, Lib.hid rfl⟩
  rw [← hp8.out] at P4
  obtain ⟨n2, hn2⟩ : ∃ p, Hid (p = nlen 65536 V2) := ⟨_, Lib.hid rfl⟩
  rw [← hn2.out] at P4 KI HW4
  rw [← hn2.out]
  have q0 := P4.cell0
  have q1 := P4.cell1
  have q2 := P6.cell0
  have q3 := P6.cell1
  have hbel : Below w.heap.size w W4 := ((F.out.1.trans (F.out.2.2.2.1.mono F.out.1.size)).trans (b3.mono (Nat.le_trans F.out.1.size F.out.2.2.2.1.size))).trans (b4.mono (Nat.le_trans F.out.1.size (Nat.le_trans F.out.2.2.2.1.size b3.size)))
  have G := Lib.hid hbel
  clear j1 j2 j3 own2 hnl2 b3 hnV hle2 hcm2 hrd2 hlt2 b4 P4 P6 hbel KR F
  go_upto_region 8 with fail
  rw [← HW4.out, ← hp8.out]
  cases fine
  all_goals
    go_wp2_with fail
    refine KI.out.mono ?_
    rintro e w5 ⟨rfl, b5⟩
    have G5 := Lib.hid (G.out.trans (b5.mono G.out.size))
    clear b5 KI
    go_wp2
    go_ret
    exact ⟨rfl, G5.out⟩

end Go.Proofs.YtidifjmjbfhpaaaDoor
