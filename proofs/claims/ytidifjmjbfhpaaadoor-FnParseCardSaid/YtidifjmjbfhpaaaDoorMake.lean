/- (nat).make: of a nil slice: so many words 0 in new memory. -/
import Derived.Test.YtidifjmjbfhpaaaDoorBase
import Derived.Test.YtidifjmjbfhpaaaDoorInfo
namespace Go.Proofs.YtidifjmjbfhpaaaDoor
set_option linter.unusedVariables false
set_option maxRecDepth 20000
set_option linter.unusedSimpArgs false
open Go.RowKit

theorem make_nil (n : Nat) (w : World) (hb : n ≤ 2147483647) :
    Calls Tryd.prog 76 #[.slice none 0 0, .int .i64 n] w fun e w' => ∃ v, e = .returned v ∧ Own w' w.heap.size 83 .u64 v n (fun _ => 0) ∧ Below w.heap.size w w' := by
  obtain ⟨i0, hi, hz0, hz1, hz2⟩ := info_parts info_Word
  match n, hb with
  | 0, _ =>
    go_enter Tryd.func76, Tryd.ntmps76
    go_wp2
    go_ret
    exact ⟨_, rfl, Own.nil _ _ _ _ _, Below.refl _ _⟩
  | 1, _ =>
    go_enter Tryd.func76, Tryd.ntmps76
    go_wp2_with (at_make; refine wpList_make_room _ rfl _ _ 70 rfl w.heap.size 83 i0 .u64 Tryd.underlying70 hi hz0 hz1 .i64 .i64 1 1 1 1 rfl rfl rfl rfl (by omega) (by rw [hz2]; omega) (by omega) (Nat.le_refl _) ?_; intro w1 hown1 hgrow1)
    go_ret
    exact ⟨_, rfl, hown1, (Below.refl _ _).grown hgrow1 (Nat.le_refl _) (by simp)⟩
  | n + 2, hb =>
    have hne : ((n : Int) + 2 == 1) = false := by simp; omega
    go_enter Tryd.func76, Tryd.ntmps76
    go_wp2_with (at_make; refine wpList_make_room _ rfl (.tmp 15) (.tmp 17) 70 rfl w.heap.size 83 i0 .u64 Tryd.underlying70 hi hz0 hz1 .i64 .i64 ((n : Int) + 2) ((n : Int) + 2 + 4) (n + 2) (n + 6) rfl rfl (by omega) (by omega) (by omega) (by rw [hz2]; omega) (by omega) (Nat.le_refl _) ?_; intro w1 hown1 hgrow1)
    go_ret
    exact ⟨_, rfl, hown1, (Below.refl _ _).grown hgrow1 (Nat.le_refl _) (by simp)⟩

end Go.Proofs.YtidifjmjbfhpaaaDoor
