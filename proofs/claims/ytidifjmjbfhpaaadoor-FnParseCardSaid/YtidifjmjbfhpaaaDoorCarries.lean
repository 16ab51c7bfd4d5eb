/- math/bits.Sub and Add on words; big.subVV and big.addVV: rows of words, digit by digit. -/
/- math/bits.Add on words; big.addVV: a row of words added to a row, in place or not. -/
import Derived.Test.YtidifjmjbfhpaaaDoorBase
import Derived.Test.YtidifjmjbfhpaaaDoorInfo
import Derived.Test.YtidifjmjbfhpaaaDoorArith
import Derived.Shelf.Spec.BitsCarry
namespace Go.Proofs.YtidifjmjbfhpaaaDoor
set_option linter.unusedVariables false
set_option maxRecDepth 20000
set_option linter.unusedSimpArgs false
open Go.RowKit

theorem run_sub64_here (x y b d c : Nat) (hb : b ≤ 1) (hd : d = (x + 18446744073709551616 - y - b) % 18446744073709551616) (hc : c = if x < y + b then 1 else 0) (w : World) :
    (callFunc 91 #[.int .u64 x, .int .u64 y, .int .u64 b]).run Tryd.prog w = .ok (.value (.tuple #[.int .u64 d, .int .u64 c])) w := by
  rw [run_callFunc_extern Tryd.func91 (by kernel_rfl) (by kernel_rfl) (by kernel_rfl) (e := sub64Entry) (by kernel_rfl), run_sub64 x y b hb, hd, hc]
  rfl

theorem bitsSub_any (x y b d c : Nat) (hb : b ≤ 1) (hx : x < BW) (hy : y < BW) (hd : d = (x + BW - y - b) % BW) (hc : c = if x < y + b then 1 else 0) (w : World) :
    Calls Tryd.prog 85 #[.int .u64 x, .int .u64 y, .int .u64 b] w fun e w' => e = .returned (.tuple #[.int .u64 d, .int .u64 c]) ∧ w' = w := by
  rw [BW_eq] at hx hy hd
  have K := run_sub64_here x y b d c hb hd hc
  have hdl : d < 18446744073709551616 := by rw [hd]; exact Nat.mod_lt _ (by omega)
  have hcl : c ≤ 1 := by rw [hc]; split <;> omega
  have w1 : IntKind.u64.wrap (x : Int) = (x : Int) := by rw [IntKind.wrap_u64]; omega
  have w2 : IntKind.u64.wrap (y : Int) = (y : Int) := by rw [IntKind.wrap_u64]; omega
  have w3 : IntKind.u64.wrap (b : Int) = (b : Int) := by rw [IntKind.wrap_u64]; omega
  have w4 : IntKind.u64.wrap (d : Int) = (d : Int) := by rw [IntKind.wrap_u64]; omega
  have w5 : IntKind.u64.wrap (c : Int) = (c : Int) := by rw [IntKind.wrap_u64]; omega
  clear hd hc
  go_enter Tryd.func85, Tryd.ntmps85
  go_wp2_with (simp only [K])
  go_ret2
  exact ⟨rfl, rfl⟩

/-- A row of which n places from o on are anew. -/
def updr (F : Nat → Nat) (o : Nat) (s : Nat → Nat) (n : Nat) : Nat → Nat := fun j => if o ≤ j ∧ j < o + n then s (j - o) else F j
theorem updr_zero (F : Nat → Nat) (o : Nat) (s : Nat → Nat) (j : Nat) : updr F o s 0 j = F j := by unfold updr; rw [if_neg (by omega)]
theorem updr_succ (F : Nat → Nat) (o : Nat) (s : Nat → Nat) (n x : Nat) (hx : x = s n) (j : Nat) : upd (updr F o s n) (o + n) x j = updr F o s (n + 1) j := by
  unfold upd updr
  by_cases h : j = o + n
  · rw [if_pos h, if_pos (by omega), h, hx, show o + n - o = n by omega]
  · rw [if_neg h]
    by_cases h2 : o ≤ j ∧ j < o + n
    · rw [if_pos h2, if_pos (by omega)]
    · rw [if_neg h2, if_neg (by omega)]

set_option maxHeartbeats 1000000 in
theorem subVVg_any (base g o n N cz c0 : Nat) (F : Nat → Nat) (ax ay : Option Addr) (cx cy : Nat) (f g' : Nat → Nat) (w : World) (hn : n ≤ 100000000000) (hoN : o + n ≤ N)
    (own : Own w base 83 .u64 (.slice (some ⟨g, 0, none⟩) N c0) N F) (hf : ∀ i, i < n → f i < BW) (hg : ∀ i, i < n → g' i < BW)
    (hrdx : Reads w .u64 ax n f) (hrdy : Reads w .u64 ay n g') (hxg : ∀ a, ax = some a → a.block ≠ g) (hyg : ∀ a, ay = some a → a.block ≠ g) :
    Calls Tryd.prog 84 #[.slice (some ⟨g, o, none⟩) n cz, .slice ax n cx, .slice ay n cy] w fun e w' => e = .returned (.int .u64 ((bor f g' n : Nat) : Int)) ∧ Own w' base 83 .u64 (.slice (some ⟨g, 0, none⟩) N c0) N (updr F o (sdg BW f g') n) ∧ w.grownBy w' (some g) := by
  have R := Lib.hid (And.intro hrdx (And.intro hrdy (And.intro hxg (And.intro hyg (And.intro hf hg)))))
  have O0 := Lib.hid (show Own w base 83 .u64 (.slice (some ⟨g, 0, none⟩) N c0) N (updr F o (sdg BW f g') 0) from own.congr fun j _ => (updr_zero _ _ _ _).symm)
  clear hrdx hrdy hxg hyg hf hg own
  go_enter Tryd.func84, Tryd.ntmps84
  go_wp2
  go_loopw [6, 25] (fun tc ti wr => ∃ i : Nat, i ≤ n ∧ ti = .int .i64 i ∧ tc = .int .u64 ((bor f g' i : Nat) : Int) ∧ Own wr base 83 .u64 (.slice (some ⟨g, 0, none⟩) N c0) N (updr F o (sdg BW f g') i) ∧ w.grownBy wr (some g)) (fun _ ti _ => n - (intOf ti).toNat)
  case atStart => exact ⟨0, Nat.zero_le _, rfl, rfl, O0.out, World.grownBy.refl _ _⟩
  case round =>
    obtain ⟨i, hin, rfl, rfl, own, gr⟩ := hrel
    by_cases h1 : i < n
    · have hb := bor_le f g' i
      have hbn : bor f g' (i + 1) = if f i < g' i + bor f g' i then 1 else 0 := rfl
      have hsd : sdg BW f g' i = (f i + BW - g' i - bor f g' i) % BW := rfl
      obtain ⟨bx, ox, hax, hcx0⟩ := R.out.1 i h1
      obtain ⟨by', oy, hay, hcy0⟩ := R.out.2.1 i h1
      have hcx := (World.cell?_of_block (w := w) (gr.block bx (World.block_lt_of_cell? _ _ hcx0) (by have := R.out.2.2.1 _ hax; simpa using this))).trans hcx0
      have hcy := (World.cell?_of_block (w := w) (gr.block by' (World.block_lt_of_cell? _ _ hcy0) (by have := R.out.2.2.2.1 _ hay; simpa using this))).trans hcy0
      have KS := fun x => Calls.quiet_of_same (w := wr) (n := x) (bitsSub_any (f i) (g' i) (bor f g' i) (sdg BW f g' i) (bor f g' (i + 1)) hb (R.out.2.2.2.2.1 i h1) (R.out.2.2.2.2.2 i h1) hsd hbn (wr.drewN x))
      obtain ⟨b, hbb⟩ : ∃ b, b = bor f g' i := ⟨_, rfl⟩
      obtain ⟨x, hx⟩ : ∃ b, b = f i := ⟨_, rfl⟩
      obtain ⟨y, hy⟩ : ∃ b, b = g' i := ⟨_, rfl⟩
      obtain ⟨d, hd⟩ : ∃ b, b = sdg BW f g' i := ⟨_, rfl⟩
      obtain ⟨b2, hb2⟩ : ∃ b, b = bor f g' (i + 1) := ⟨_, rfl⟩
      rw [← hbb, ← hx, ← hy, ← hd, ← hb2] at KS
      rw [← hx] at hcx
      rw [← hy] at hcy
      rw [← hbb]
      have hb2l : b2 ≤ 1 := by rw [hb2]; exact bor_le _ _ _
      have hdl : d < BW := by rw [hd]; exact Nat.mod_lt _ BW_pos
      have hdl2 := hdl
      rw [BW_eq] at hdl2
      have w4 : IntKind.u64.wrap (d : Int) = (d : Int) := by rw [IntKind.wrap_u64]; omega
      have w5 : IntKind.u64.wrap (b2 : Int) = (b2 : Int) := by rw [IntKind.wrap_u64]; omega
      have w6 : IntKind.u64.wrap (b : Int) = (b : Int) := by rw [IntKind.wrap_u64]; omega
      have hc := own.cell (o + i) (by omega)
      have hfz := own.free (o + i)
      have G := Lib.hid (And.intro own (And.intro gr (And.intro hd hb2)))
      have KS' := Lib.hid KS
      subst hax hay
      clear KS own gr hbn hsd hcx0 hcy0 hbb hx hy hd hb2 O0 hdl hdl2
      go_wp2
      go_quiet ((go_at_call 85; with_reducible exact KS'.out _))
      go_wp2
      go_roundw
      case rel =>
        go_light
        refine ⟨i + 1, by omega, by go_num, by rw [← G.out.2.2.2], ?_, grown_trans (grown_trans G.out.2.1 (grown_drewN wr nq _)) (grown_setCell _ ⟨g, o + i, none⟩ _)⟩
        exact ((G.out.1.drewN nq).stored (o + i) d).congr fun j _ => updr_succ _ _ _ _ _ G.out.2.2.1 j
      case measure => simp [intOf]; omega
    · obtain rfl : i = n := by omega
      have G := Lib.hid (And.intro own gr)
      clear own gr O0
      go_wp2
      go_ret
      exact ⟨rfl, G.out.1, G.out.2⟩

theorem subVV_any (base g o n N cz c0 : Nat) (F : Nat → Nat) (ax ay : Option Addr) (cx cy : Nat) (f g' : Nat → Nat) (w : World) (hn : n ≤ 100000000000) (hoN : o + n ≤ N)
    (own : Own w base 83 .u64 (.slice (some ⟨g, 0, none⟩) N c0) N F) (hf : ∀ i, i < n → f i < BW) (hg : ∀ i, i < n → g' i < BW)
    (hrdx : Reads w .u64 ax n f) (hrdy : Reads w .u64 ay n g') (hxg : ∀ a, ax = some a → a.block ≠ g) (hyg : ∀ a, ay = some a → a.block ≠ g) :
    Calls Tryd.prog 77 #[.slice (some ⟨g, o, none⟩) n cz, .slice ax n cx, .slice ay n cy] w fun e w' => e = .returned (.int .u64 ((bor f g' n : Nat) : Int)) ∧ Own w' base 83 .u64 (.slice (some ⟨g, 0, none⟩) N c0) N (updr F o (sdg BW f g') n) ∧ w.grownBy w' (some g) := by
  have K := Lib.hid (subVVg_any base g o n N cz c0 F ax ay cx cy f g' w hn hoN own hf hg hrdx hrdy hxg hyg)
  clear own hf hg hrdx hrdy hxg hyg
  go_enter Tryd.func77, Tryd.ntmps77
  go_wp2_with fail
  refine K.out.mono ?_
  rintro e w' ⟨rfl, h1, h2⟩
  have G := Lib.hid (And.intro h1 h2)
  clear h1 h2 K
  go_wp2
  go_ret
  exact ⟨rfl, G.out.1, G.out.2⟩

end Go.Proofs.YtidifjmjbfhpaaaDoor
namespace Go.Proofs.YtidifjmjbfhpaaaDoor
set_option linter.unusedVariables false
set_option linter.unusedSimpArgs false
open Go.RowKit

theorem run_add64_here (x y b d c : Nat) (hx : x < 18446744073709551616) (hy : y < 18446744073709551616) (hb : b ≤ 1) (hd : d = (x + y + b) % 18446744073709551616) (hc : c = (x + y + b) / 18446744073709551616) (w : World) :
    (callFunc 93 #[.int .u64 x, .int .u64 y, .int .u64 b]).run Tryd.prog w = .ok (.value (.tuple #[.int .u64 d, .int .u64 c])) w := by
  rw [run_callFunc_extern Tryd.func93 (by kernel_rfl) (by kernel_rfl) (by kernel_rfl) (e := add64Entry) (by kernel_rfl), run_add64 x y b (by omega) (by omega) (by omega) (by omega), hd, hc]
  simp only [Result.andThen]
  congr 5 <;> omega

theorem bitsAdd_any (x y b d c : Nat) (hb : b ≤ 1) (hx : x < BW) (hy : y < BW) (hd : d = (x + y + b) % BW) (hc : c = (x + y + b) / BW) (w : World) :
    Calls Tryd.prog 87 #[.int .u64 x, .int .u64 y, .int .u64 b] w fun e w' => e = .returned (.tuple #[.int .u64 d, .int .u64 c]) ∧ w' = w := by
  rw [BW_eq] at hx hy hd hc
  have K := run_add64_here x y b d c hx hy hb hd hc
  have hdl : d < 18446744073709551616 := by rw [hd]; exact Nat.mod_lt _ (by omega)
  have hcl : c ≤ 1 := by omega
  have w1 : IntKind.u64.wrap (x : Int) = (x : Int) := by rw [IntKind.wrap_u64]; omega
  have w2 : IntKind.u64.wrap (y : Int) = (y : Int) := by rw [IntKind.wrap_u64]; omega
  have w3 : IntKind.u64.wrap (b : Int) = (b : Int) := by rw [IntKind.wrap_u64]; omega
  have w4 : IntKind.u64.wrap (d : Int) = (d : Int) := by rw [IntKind.wrap_u64]; omega
  have w5 : IntKind.u64.wrap (c : Int) = (c : Int) := by rw [IntKind.wrap_u64]; omega
  clear hd hc
  go_enter Tryd.func87, Tryd.ntmps87
  go_wp2_with (simp only [K])
  go_ret2
  exact ⟨rfl, rfl⟩

set_option maxHeartbeats 1000000 in
theorem addVVg_any (base g o n N cz c0 : Nat) (F : Nat → Nat) (ax ay : Option Addr) (cx cy : Nat) (f g' : Nat → Nat) (w : World) (hn : n ≤ 100000000000) (hoN : o + n ≤ N)
    (own : Own w base 83 .u64 (.slice (some ⟨g, 0, none⟩) N c0) N F) (hf : ∀ i, i < n → f i < BW) (hg : ∀ i, i < n → g' i < BW)
    (hx : (Reads w .u64 ax n f ∧ ∀ a, ax = some a → a.block ≠ g) ∨ (ax = some ⟨g, o, none⟩ ∧ ∀ i, i < n → f i = F (o + i))) (hrdy : Reads w .u64 ay n g') (hyg : ∀ a, ay = some a → a.block ≠ g) :
    Calls Tryd.prog 86 #[.slice (some ⟨g, o, none⟩) n cz, .slice ax n cx, .slice ay n cy] w fun e w' => e = .returned (.int .u64 ((car BW f g' n : Nat) : Int)) ∧ Own w' base 83 .u64 (.slice (some ⟨g, 0, none⟩) N c0) N (updr F o (adg BW f g') n) ∧ w.grownBy w' (some g) := by
  have R := Lib.hid (And.intro hx (And.intro hrdy (And.intro hyg (And.intro hf hg))))
  have O0 := Lib.hid (show Own w base 83 .u64 (.slice (some ⟨g, 0, none⟩) N c0) N (updr F o (adg BW f g') 0) from own.congr fun j _ => (updr_zero _ _ _ _).symm)
  clear hx hrdy hyg hf hg own
  go_enter Tryd.func86, Tryd.ntmps86
  go_wp2
  go_loopw [6, 25] (fun tc ti wr => ∃ i : Nat, i ≤ n ∧ ti = .int .i64 i ∧ tc = .int .u64 ((car BW f g' i : Nat) : Int) ∧ Own wr base 83 .u64 (.slice (some ⟨g, 0, none⟩) N c0) N (updr F o (adg BW f g') i) ∧ w.grownBy wr (some g)) (fun _ ti _ => n - (intOf ti).toNat)
  case atStart => exact ⟨0, Nat.zero_le _, rfl, rfl, O0.out, World.grownBy.refl _ _⟩
  case round =>
    obtain ⟨i, hin, rfl, rfl, own, gr⟩ := hrel
    by_cases h1 : i < n
    · have hb := car_le BW_pos (f := f) (g := g') i (fun j hj => R.out.2.2.2.1 j (by omega)) (fun j hj => R.out.2.2.2.2 j (by omega))
      have hb2' := car_le BW_pos (f := f) (g := g') (i + 1) (fun j hj => R.out.2.2.2.1 j (by omega)) (fun j hj => R.out.2.2.2.2 j (by omega))
      have hbn : car BW f g' (i + 1) = (f i + g' i + car BW f g' i) / BW := rfl
      have hsd : adg BW f g' i = (f i + g' i + car BW f g' i) % BW := rfl
      obtain ⟨bx, ox, hax, hcx⟩ : ∃ bx ox, ax = some ⟨bx, ox, none⟩ ∧ wr.cell? ⟨bx, ox + i, none⟩ = some (.int .u64 (f i)) := by
        rcases R.out.1 with ⟨hr, hxg⟩ | ⟨hax, hfe⟩
        · obtain ⟨bx, ox, hax, hcx0⟩ := hr i h1
          exact ⟨bx, ox, hax, (World.cell?_of_block (w := w) (gr.block bx (World.block_lt_of_cell? _ _ hcx0) (by have := hxg _ hax; simpa using this))).trans hcx0⟩
        · refine ⟨g, o, hax, ?_⟩
          rw [own.cell (o + i) (by omega), hfe i h1]
          unfold updr
          rw [if_neg (by omega)]
      obtain ⟨by', oy, hay, hcy0⟩ := R.out.2.1 i h1
      have hcy := (World.cell?_of_block (w := w) (gr.block by' (World.block_lt_of_cell? _ _ hcy0) (by have := R.out.2.2.1 _ hay; simpa using this))).trans hcy0
      have KS := fun x => Calls.quiet_of_same (w := wr) (n := x) (bitsAdd_any (f i) (g' i) (car BW f g' i) (adg BW f g' i) (car BW f g' (i + 1)) hb (R.out.2.2.2.1 i h1) (R.out.2.2.2.2 i h1) hsd hbn (wr.drewN x))
      obtain ⟨b, hbb⟩ : ∃ b, b = car BW f g' i := ⟨_, rfl⟩
      obtain ⟨x, hx⟩ : ∃ b, b = f i := ⟨_, rfl⟩
      obtain ⟨y, hy⟩ : ∃ b, b = g' i := ⟨_, rfl⟩
      obtain ⟨d, hd⟩ : ∃ b, b = adg BW f g' i := ⟨_, rfl⟩
      obtain ⟨b2, hb2⟩ : ∃ b, b = car BW f g' (i + 1) := ⟨_, rfl⟩
      rw [← hbb, ← hx, ← hy, ← hd, ← hb2] at KS
      rw [← hx] at hcx
      rw [← hy] at hcy
      rw [← hbb]
      have hb2l : b2 ≤ 1 := by rw [hb2]; exact hb2'
      have hdl : d < BW := by rw [hd]; exact Nat.mod_lt _ BW_pos
      have hdl2 := hdl
      rw [BW_eq] at hdl2
      have w4 : IntKind.u64.wrap (d : Int) = (d : Int) := by rw [IntKind.wrap_u64]; omega
      have w5 : IntKind.u64.wrap (b2 : Int) = (b2 : Int) := by rw [IntKind.wrap_u64]; omega
      have w6 : IntKind.u64.wrap (b : Int) = (b : Int) := by rw [IntKind.wrap_u64]; omega
      have hc := own.cell (o + i) (by omega)
      have hfz := own.free (o + i)
      have G := Lib.hid (And.intro own (And.intro gr (And.intro hd hb2)))
      have KS' := Lib.hid KS
      subst hax hay
      clear KS own gr hbn hsd hcy0 hb2' hbb hx hy hd hb2 O0 hdl hdl2
      go_wp2
      go_quiet ((go_at_call 87; with_reducible exact KS'.out _))
      go_wp2
      go_roundw
      case rel =>
        go_light
        refine ⟨i + 1, by omega, by go_num, by rw [← G.out.2.2.2], ?_, grown_trans (grown_trans G.out.2.1 (grown_drewN wr nq _)) (grown_setCell _ ⟨g, o + i, none⟩ _)⟩
        exact ((G.out.1.drewN nq).stored (o + i) d).congr fun j _ => updr_succ _ _ _ _ _ G.out.2.2.1 j
      case measure => simp [intOf]; omega
    · obtain rfl : i = n := by omega
      have G := Lib.hid (And.intro own gr)
      clear own gr O0
      go_wp2
      go_ret
      exact ⟨rfl, G.out.1, G.out.2⟩

theorem addVV_any (base g o n N cz c0 : Nat) (F : Nat → Nat) (ax ay : Option Addr) (cx cy : Nat) (f g' : Nat → Nat) (w : World) (hn : n ≤ 100000000000) (hoN : o + n ≤ N)
    (own : Own w base 83 .u64 (.slice (some ⟨g, 0, none⟩) N c0) N F) (hf : ∀ i, i < n → f i < BW) (hg : ∀ i, i < n → g' i < BW)
    (hx : (Reads w .u64 ax n f ∧ ∀ a, ax = some a → a.block ≠ g) ∨ (ax = some ⟨g, o, none⟩ ∧ ∀ i, i < n → f i = F (o + i))) (hrdy : Reads w .u64 ay n g') (hyg : ∀ a, ay = some a → a.block ≠ g) :
    Calls Tryd.prog 79 #[.slice (some ⟨g, o, none⟩) n cz, .slice ax n cx, .slice ay n cy] w fun e w' => e = .returned (.int .u64 ((car BW f g' n : Nat) : Int)) ∧ Own w' base 83 .u64 (.slice (some ⟨g, 0, none⟩) N c0) N (updr F o (adg BW f g') n) ∧ w.grownBy w' (some g) := by
  have K := Lib.hid (addVVg_any base g o n N cz c0 F ax ay cx cy f g' w hn hoN own hf hg hx hrdy hyg)
  clear own hf hg hx hrdy hyg
  go_enter Tryd.func79, Tryd.ntmps79
  go_wp2_with fail
  refine K.out.mono ?_
  rintro e w' ⟨rfl, h1, h2⟩
  have G := Lib.hid (And.intro h1 h2)
  clear h1 h2 K
  go_wp2
  go_ret
  exact ⟨rfl, G.out.1, G.out.2⟩

end Go.Proofs.YtidifjmjbfhpaaaDoor
