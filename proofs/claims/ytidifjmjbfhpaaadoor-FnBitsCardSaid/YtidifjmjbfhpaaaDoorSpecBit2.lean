/- spec.bit: a bit of a number in two's complement; the closure in spec.Joined. -/
import Derived.Test.YtidifjmjbfhpaaaDoorSpecSub
import Derived.Test.YtidifjmjbfhpaaaDoorBitsPlain
import Derived.Test.YtidifjmjbfhpaaaDoorSpecSmallNum
import Derived.Test.YtidifjmjbfhpaaaDoorSpecBits
import Derived.Test.YtidifjmjbfhpaaaDoorSpecSmall
import Derived.Deep.RegionHeld3
namespace Go.Proofs.YtidifjmjbfhpaaaDoor
set_option linter.unusedVariables false
set_option maxRecDepth 20000
set_option linter.unusedSimpArgs false
open Go.RowKit

theorem below_of_drew' {w w' : World} (h : Below w.drew.heap.size w.drew w') : Below w.heap.size w w' := ⟨h.os, h.tape, h.output, h.size, h.block⟩

set_option maxHeartbeats 1000000 in
theorem specBit2_any (neg : Bool) (aa : Option Addr) (V ca i : Nat) (w : World) (hV : neg = true → 1 ≤ V) (ha : nlen 65536 V ≤ ca) (hna : nlen 65536 V ≤ 1000000000000) (hi1 : i ≤ 1000000000000) (hrd : Reads w .i64 aa (nlen 65536 V) (dig 65536 V)) :
    Calls Tryd.prog 35 #[.agg #[.bool neg, .slice aa (nlen 65536 V) ca], .int .i64 i] w fun e w' => e = .returned (.bool (tb neg V i)) ∧ Below w.heap.size w w' := by
  have hnot : ∀ (x : Bool) (w : World), (Op.unary .not (.bool x)).run Tryd.prog w = .ok (.bool (!x)) w := fun _ _ => rfl
  obtain ⟨W, hW⟩ : ∃ W, W = w.alloc (.cells #[.bool neg, .slice aa (nlen 65536 V) ca] 29) := ⟨_, rfl⟩
  have b0 : Below w.heap.size w W := by rw [hW]; exact (Below.refl _ _).alloc (Nat.le_refl _) _
  have p0 : Pair W w.heap.size 29 (.bool neg) (.slice aa (nlen 65536 V) ca) := by rw [hW]; exact Pair.new _ _ _ _
  have r0 := hrd.below b0
  have c0 := p0.cell0
  have c1 := p0.cell1
  have HW := Lib.hid hW
  have F0 := Lib.hid (And.intro b0 (And.intro p0 r0))
  cases neg with
  | false =>
    have KH := Lib.hid (has_any aa V ca i W ha (by omega) (by omega) r0)
    obtain ⟨n, hn⟩ : ∃ n, n = nlen 65536 V := ⟨_, rfl⟩
    rw [← hn] at KH HW c1 ⊢
    clear F0 p0 r0 hrd hW b0 hV hn ha hna
    rw [HW.out] at c0 c1
    have B0 := Lib.hid (show Below w.heap.size w W by rw [HW.out]; exact (Below.refl _ _).alloc (Nat.le_refl _) _)
    go_enter Tryd.func35, Tryd.ntmps35
    go_wp2_with fail
    rw [← HW.out]
    refine KH.out.mono ?_
    rintro e w1 ⟨rfl, rfl⟩
    go_wp2
    go_ret
    exact ⟨rfl, B0.out⟩
  | true =>
    have hV1 := hV rfl
    have HK : Hid (∀ w', Below W.heap.size W w' → w'.cell? ⟨w.heap.size, 1, none⟩ = some (.slice aa (nlen 65536 V) ca) ∧ Reads w' .i64 aa (nlen 65536 V) (dig 65536 V)) := Lib.hid fun w' hb => ⟨(p0.below hb p0.lt).cell1, r0.below hb⟩
    have hN1 : nlen 65536 1 ≤ 1 := by rw [nlen_le_iff (by omega)]; omega
    have hNs : nlen 65536 (V - 1) ≤ nlen 65536 V := nlen_mono (by omega) (Nat.sub_le _ _)
    obtain ⟨n, hn⟩ : ∃ n, n = nlen 65536 V := ⟨_, rfl⟩
    rw [← hn] at HK HW c1 ha hna hNs ⊢
    have HN := Lib.hid hn
    have hlt := p0.lt
    have cW := c1
    clear F0 p0 r0 hrd hW b0 hV hn
    rw [HW.out] at c0 c1
    have B0 := Lib.hid (show Below w.heap.size w W by rw [HW.out]; exact (Below.refl _ _).alloc (Nat.le_refl _) _)
    go_enter Tryd.func35, Tryd.ntmps35
    go_wp2_with fail
    rw [← HW.out]
    clear c0 c1
    go_region_held3 (fun w' => w'.cell? ⟨w.heap.size, 1, none⟩ = some (.slice aa n ca)) (first | exact cW | exact c2 | exact c3 | exact c4) (first
      | (go_simp; go_at_call 26; refine (specSmall_any 1 _ (by omega)).mono ?_; rintro e w1 ⟨v1, rfl, own1, bel1⟩; obtain ⟨a1, k1, rfl, hle1, hcm1, hrd1, hlt1⟩ := own1.parts; have b1 := below_of_drew' bel1; have c2 := (HK.out _ b1).1; have r2 := (HK.out _ b1).2; clear own1 hlt1 bel1; go_wp2_with fail)
      | (go_simp; go_at_call 52; rw [HN.out]; refine (specSub_any aa a1 V 1 ca k1 _ hV1 (by rw [← HN.out]; exact ha) hle1 (by rw [← HN.out]; exact hna) (by rw [← HN.out]; exact r2) hrd1).mono ?_; rintro e w2 ⟨v2, rfl, own2, bel2⟩; obtain ⟨a2, k2, rfl, hle2, hcm2, hrd2, hlt2⟩ := own2.parts; have b2 := below_trans b1 bel2; have c3 := (HK.out _ b2).1; clear own2 hlt2 bel2 r2 hrd1; go_wp2_with fail)
      | (go_simp; go_at_call 14; refine (has_any a2 (V - 1) k2 i _ hle2 (by omega) (by omega) hrd2).mono ?_; rintro e w3 ⟨rfl, rfl⟩; have c4 := c3; go_wp2_with fail))
    go_wp2
    go_ret
    exact ⟨rfl, below_trans B0.out b2⟩

end Go.Proofs.YtidifjmjbfhpaaaDoor
