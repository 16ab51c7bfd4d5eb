/- spec.Small, spec.Add, spec.Sub, spec.Bit: natural numbers by digits of 16 bits. -/
import Derived.Test.YtidifjmjbfhpaaaDoorBase
import Derived.Test.YtidifjmjbfhpaaaDoorInfo
import Derived.Test.YtidifjmjbfhpaaaDoorCut
import Derived.Test.YtidifjmjbfhpaaaDoorArith
namespace Go.Proofs.YtidifjmjbfhpaaaDoor
set_option linter.unusedVariables false
set_option maxRecDepth 20000
set_option linter.unusedSimpArgs false
open Go.RowKit

theorem own_cut {w : World} {base : Nat} {e : TypeId} {k : IntKind} {ao : Option Addr} {n c B R : Nat} {f : Nat → Nat} (hB : 1 < B) (h : Own w base e k (.slice ao n c) n f) (hf : ∀ i, i < n → f i < B) (hv : val B f n = R) :
    Own w base e k (.slice ao (clen f n) c) (nlen B R) (dig B R) := by
  have h1 := clen_val hB hf
  have h2 := h.cut (clen_le f n)
  rw [h1, hv] at h2
  rw [h1, hv]
  refine h2.congr fun i hi => ?_
  rw [← hv]
  refine (val_dig hf ?_).symm
  have := clen_le f n
  rw [← hv, ← h1] at hi
  omega

/-- 'append(v, x)' of one integer that has just been laid into a block of its own. -/
theorem wpList_append_int {P : Program} {ops : Array Oper} {rest : List Oper} {o : Oper} {a : Act} {Q : Exit → Act → World → Prop} (w0 : World) (hgd : o.guard = none) (s x : Operand) (t : TypeId)
    (ho : o.op = .call { callee := .builtin .append, args := #[s, x], argTypes := #[t, t] })
    (base : Nat) (e : TypeId) (i : TypeInfo) (k : IntKind) (bytes : Nat) (ht : P.underlying t = some (.slice e)) (hi : P.info? e = some i) (hz : i.zero = some (.int k 0)) (hsize : i.size = 1) (hby : i.bytes = bytes)
    (v : Value) (n : Nat) (f : Nat → Nat) (hs : a.eval s = v) (hown : Own w0 base e k v n f) (y : Nat) (hx : a.eval x = .slice (some ⟨w0.heap.size, 0, none⟩) 1 1)
    (h63 : n ≤ 9223372036854775000) (hbytes : (n + 1) * bytes ≤ 140737488355328) (hbase : base ≤ w0.heap.size)
    (h : ∀ v' w1, Own w1 base e k v' (n + 1) (upd f n y) → Below base w0 w1 → wpList P ops Q rest (a.put o.dst v') w1) : wpList P ops Q (o :: rest) a (w0.alloc (.cells #[.int k y] e)) := by
  refine wpList_append_own _ hgd s x t ho base e i (.int k 0) 1 bytes ht hi hz hsize hby rfl (by decide) v n (L k f n) hs (hown.alloc _) ⟨w0.heap.size, 0, none⟩ 1 1 [.int k y] hx rfl (cell_one_new _ _ _) (by simp [Value.oneCell']) (by unfold maxLen; omega) hbytes (by simp; omega) ?_
  intro v' w1 h1 h2 _
  exact h v' w1 (Own.snoc h1) (((Below.refl base w0).alloc hbase _).grown h2 (by simp; omega) (fun k hk => (hown.lt k hk).1))

set_option maxHeartbeats 1000000 in
theorem specAdd_any (aa ab : Option Addr) (V U ca cb : Nat) (w : World) (ha : nlen 65536 V ≤ ca) (hb : nlen 65536 U ≤ cb) (hna : nlen 65536 V ≤ 1000000000000) (hnb : nlen 65536 U ≤ 1000000000000)
    (hrda : Reads w .i64 aa (nlen 65536 V) (dig 65536 V)) (hrdb : Reads w .i64 ab (nlen 65536 U) (dig 65536 U)) :
    Calls Tryd.prog 36 #[.slice aa (nlen 65536 V) ca, .slice ab (nlen 65536 U) cb] w fun e w' => ∃ v, e = .returned v ∧ Own w' w.heap.size 3 .i64 v (nlen 65536 (V + U)) (dig 65536 (V + U)) ∧ Below w.heap.size w w' := by
  obtain ⟨i0, hi, hz0, hz1, hz2⟩ := info_parts info_int
  have hVl := lt_pow_nlen (B := 65536) (by omega) V
  have hUl := lt_pow_nlen (B := 65536) (by omega) U
  obtain ⟨n, hn⟩ : ∃ n, n = nlen 65536 V := ⟨_, rfl⟩
  obtain ⟨m, hm⟩ : ∃ m, m = nlen 65536 U := ⟨_, rfl⟩
  rw [← hn] at ha hna hrda hVl ⊢
  rw [← hm] at hb hnb hrdb hUl ⊢
  obtain ⟨M, hM⟩ : ∃ M, M = max n m := ⟨_, rfl⟩
  have hVM : V < 65536 ^ M := Nat.lt_of_lt_of_le hVl (Nat.pow_le_pow_right (by omega) (by omega))
  have hUM : U < 65536 ^ M := Nat.lt_of_lt_of_le hUl (Nat.pow_le_pow_right (by omega) (by omega))
  have R := Lib.hid (And.intro hrda (And.intro hrdb (And.intro hVM (And.intro hUM (And.intro hVl hUl)))))
  clear hrda hrdb hVM hUM hVl hUl hn hm
  have own0 := Own.empty w w.heap.size 3 .i64 (adg 65536 (dig 65536 V) (dig 65536 U)) (Nat.le_refl _)
  have bel0 : Below w.heap.size w (w.alloc (.cells #[] 3)) := (Below.refl _ _).alloc (Nat.le_refl _) _
  have O0 := Lib.hid (And.intro own0 bel0)
  clear own0 bel0
  go_enter Tryd.func36, Tryd.ntmps36
  go_wp2
  go_loopw [5, 6, 7] (fun v tc ti wr => ∃ i : Nat, i ≤ M ∧ ti = .int .i64 i ∧ tc = .int .i64 ((car 65536 (dig 65536 V) (dig 65536 U) i : Nat) : Int) ∧ Own wr w.heap.size 3 .i64 v i (adg 65536 (dig 65536 V) (dig 65536 U)) ∧ Below w.heap.size w wr) (fun _ _ ti _ => M - (intOf ti).toNat)
  case atStart => exact ⟨0, Nat.zero_le _, rfl, rfl, O0.out.1, O0.out.2⟩
  case round =>
    obtain ⟨i, hiM, rfl, rfl, own, bel⟩ := hrel
    have hsz := bel.size
    have hcar := car_le (B := 65536) (by omega) (f := dig 65536 V) (g := dig 65536 U) i (fun _ _ => dig_lt (by omega) _ _) (fun _ _ => dig_lt (by omega) _ _)
    obtain ⟨c, hc⟩ : ∃ c, c = car 65536 (dig 65536 V) (dig 65536 U) i := ⟨_, rfl⟩
    have d1l := dig_lt (B := 65536) (by omega) V i
    have d2l := dig_lt (B := 65536) (by omega) U i
    obtain ⟨d1, hd1⟩ : ∃ d, d = dig 65536 V i := ⟨_, rfl⟩
    obtain ⟨d2, hd2⟩ : ∃ d, d = dig 65536 U i := ⟨_, rfl⟩
    have hadg : adg 65536 (dig 65536 V) (dig 65536 U) i = (d1 + d2 + c) % 65536 := by rw [hd1, hd2, hc]; rfl
    have hcar2 : car 65536 (dig 65536 V) (dig 65536 U) (i + 1) = (d1 + d2 + c) / 65536 := by rw [hd1, hd2, hc]; rfl
    rw [← hc] at hcar ⊢
    rw [← hd1] at d1l
    rw [← hd2] at d2l
    have G := Lib.hid (And.intro own (And.intro bel (And.intro hadg (And.intro hcar2 (And.intro hd1 hd2)))))
    have HC := Lib.hid hc
    clear own bel hadg hcar2 hd1 hd2 hc O0
    obtain ⟨y, hy⟩ : ∃ y, y = (d1 + d2 + c) % 65536 := ⟨_, rfl⟩
    obtain ⟨c2, hc2⟩ : ∃ y, y = (d1 + d2 + c) / 65536 := ⟨_, rfl⟩
    have hyl : y < 65536 := by rw [hy]; exact Nat.mod_lt _ (by omega)
    by_cases h1 : i < n
    · obtain ⟨ba, oa, rfl, hca0⟩ := R.out.1 i h1
      have hca := (G.out.2.1.cell (World.block_lt_of_cell? _ _ hca0)).trans hca0
      rw [← G.out.2.2.2.2.1] at hca
      clear hca0
      by_cases h2 : i < m
      · obtain ⟨bb, ob, rfl, hcb0⟩ := R.out.2.1 i h2
        have hcb := (G.out.2.1.cell (World.block_lt_of_cell? _ _ hcb0)).trans hcb0
        rw [← G.out.2.2.2.2.2] at hcb
        clear hcb0
        have hmod : ((c : Int) + (d1 : Int) + (d2 : Int)) % 65536 = ((y : Nat) : Int) := by rw [hy]; omega
        have hdiv : ((c : Int) + (d1 : Int) + (d2 : Int)) / 65536 = ((c2 : Nat) : Int) := by rw [hc2]; omega
        have HY := Lib.hid (And.intro hy hc2)
        clear hy hc2 hyl
        go_wp2_with (at_builtin; refine wpList_append_int wr rfl _ _ 27 rfl w.heap.size 3 i0 .i64 8 Tryd.underlying27 hi hz0 hz1 hz2 _ i _ rfl (by exact G.out.1) y rfl (by omega) (by omega) hsz ?_)
        intro v' w1 own1 bel1
        have own2 : Own w1 w.heap.size 3 .i64 v' (i + 1) (adg 65536 (dig 65536 V) (dig 65536 U)) := own1.congr fun j hj => by
          unfold upd; split
          · rename_i e; rw [e, G.out.2.2.1, HY.out.1]
          · rfl
        have F := Lib.hid (And.intro own2 (G.out.2.1.trans bel1))
        clear own1 own2 bel1
        go_wp2_with fail
        go_roundw
        case rel =>
          go_light
          exact ⟨i + 1, by omega, by go_num, by rw [G.out.2.2.2.1, ← HY.out.2, hdiv], F.out.1, F.out.2⟩
        case measure => simp [intOf]; omega
      · have hz2' : d2 = 0 := by rw [G.out.2.2.2.2.2]; exact dig_of_lt (Nat.lt_of_lt_of_le R.out.2.2.2.2.2 (Nat.pow_le_pow_right (by omega) (by omega)))
        subst hz2'
        have hmod : ((c : Int) + (d1 : Int)) % 65536 = ((y : Nat) : Int) := by rw [hy]; omega
        have hdiv : ((c : Int) + (d1 : Int)) / 65536 = ((c2 : Nat) : Int) := by rw [hc2]; omega
        have HY := Lib.hid (And.intro hy hc2)
        clear hy hc2 hyl
        go_wp2_with (at_builtin; refine wpList_append_int wr rfl _ _ 27 rfl w.heap.size 3 i0 .i64 8 Tryd.underlying27 hi hz0 hz1 hz2 _ i _ rfl (by exact G.out.1) y rfl (by omega) (by omega) hsz ?_)
        intro v' w1 own1 bel1
        have own2 : Own w1 w.heap.size 3 .i64 v' (i + 1) (adg 65536 (dig 65536 V) (dig 65536 U)) := own1.congr fun j hj => by
          unfold upd; split
          · rename_i e; rw [e, G.out.2.2.1, HY.out.1]
          · rfl
        have F := Lib.hid (And.intro own2 (G.out.2.1.trans bel1))
        clear own1 own2 bel1
        go_wp2_with fail
        go_roundw
        case rel =>
          go_light
          exact ⟨i + 1, by omega, by go_num, by rw [G.out.2.2.2.1, ← HY.out.2, hdiv], F.out.1, F.out.2⟩
        case measure => simp [intOf]; omega
    · have hz1' : d1 = 0 := by rw [G.out.2.2.2.2.1]; exact dig_of_lt (Nat.lt_of_lt_of_le R.out.2.2.2.2.1 (Nat.pow_le_pow_right (by omega) (by omega)))
      subst hz1'
      by_cases h2 : i < m
      · obtain ⟨bb, ob, rfl, hcb0⟩ := R.out.2.1 i h2
        have hcb := (G.out.2.1.cell (World.block_lt_of_cell? _ _ hcb0)).trans hcb0
        rw [← G.out.2.2.2.2.2] at hcb
        clear hcb0
        have hmod : ((c : Int) + (d2 : Int)) % 65536 = ((y : Nat) : Int) := by rw [hy]; omega
        have hdiv : ((c : Int) + (d2 : Int)) / 65536 = ((c2 : Nat) : Int) := by rw [hc2]; omega
        have HY := Lib.hid (And.intro hy hc2)
        clear hy hc2 hyl
        go_wp2_with (at_builtin; refine wpList_append_int wr rfl _ _ 27 rfl w.heap.size 3 i0 .i64 8 Tryd.underlying27 hi hz0 hz1 hz2 _ i _ rfl (by exact G.out.1) y rfl (by omega) (by omega) hsz ?_)
        intro v' w1 own1 bel1
        have own2 : Own w1 w.heap.size 3 .i64 v' (i + 1) (adg 65536 (dig 65536 V) (dig 65536 U)) := own1.congr fun j hj => by
          unfold upd; split
          · rename_i e; rw [e, G.out.2.2.1, HY.out.1]
          · rfl
        have F := Lib.hid (And.intro own2 (G.out.2.1.trans bel1))
        clear own1 own2 bel1
        go_wp2_with fail
        go_roundw
        case rel =>
          go_light
          exact ⟨i + 1, by omega, by go_num, by rw [G.out.2.2.2.1, ← HY.out.2, hdiv], F.out.1, F.out.2⟩
        case measure => simp [intOf]; omega
      · obtain rfl : i = M := by omega
        have HD := Lib.hid (add_digits (B := 65536) (by omega) R.out.2.2.1 R.out.2.2.2.1)
        have hi12 : i ≤ 1000000000000 := by omega
        clear hy hc2 hyl hM
        go_wp2_with (at_builtin; refine wpList_append_int wr rfl _ _ 27 rfl w.heap.size 3 i0 .i64 8 Tryd.underlying27 hi hz0 hz1 hz2 _ i _ rfl (by exact G.out.1) c rfl (by omega) (by omega) hsz ?_)
        intro v' w1 own1 bel1
        have own2 : Own w1 w.heap.size 3 .i64 v' (i + 1) (dig 65536 (V + U)) := own1.congr fun j hj => by
          unfold upd; split
          · rename_i e; rw [e, HC.out, HD.out.2.1]
          · exact HD.out.1 j (by omega)
        obtain ⟨a3, c3, rfl, hle3, hcm3, hrd3, hlt3⟩ := own2.parts
        have F := Lib.hid (And.intro (own_cut (B := 65536) (by omega) own2 (fun j _ => dig_lt (by omega) _ j) (by rw [val_of_dig (by omega), Nat.mod_eq_of_lt HD.out.2.2])) (G.out.2.1.trans bel1))
        have K := Lib.hid (cut_any a3 (i + 1) c3 (dig 65536 (V + U)) w1 hle3 (by omega) hrd3)
        clear own1 own2 bel1 hrd3 hlt3
        go_wp2_with fail
        refine K.out.mono ?_
        rintro e w2 ⟨rfl, rfl⟩
        go_wp2
        go_ret
        exact ⟨_, rfl, F.out.1, F.out.2⟩

end Go.Proofs.YtidifjmjbfhpaaaDoor
