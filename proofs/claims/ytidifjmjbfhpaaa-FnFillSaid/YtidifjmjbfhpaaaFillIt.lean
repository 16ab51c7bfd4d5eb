/- The closure in impl.Fill: 'out = append(out, of(x).FillBytes(make([]byte, size))...)': the bytes, or a panic where they do not fit. -/
import Derived.Test.YtidifjmjbfhpaaaFillBytes
import Derived.Test.YtidifjmjbfhpaaaOf
import Derived.Test.YtidifjmjbfhpaaaSpecSmall
import Derived.Deep.RegionLaw
import Derived.Test.YtidifjmjbfhpaaaUntil
namespace Go.Proofs.Ytidifjmjbfhpaaa
set_option linter.unusedVariables false
set_option linter.unusedSimpArgs false
open Go.RowKit

/-- 'append([]T(nil), x...)' of integers as one step of a region that draws. -/
theorem step_append_new {P : Program} {ops : Array Oper} {o : Oper} {a : Act} {w : World} {K : Act → World → Prop} {Q : Exit → Act → World → Prop} {E : Prop} (hgd : o.guard = none) (s x : Operand) (t : TypeId)
    (ho : o.op = .call { callee := .builtin .append, args := #[s, x], argTypes := #[t, t] })
    (base : Nat) (e : TypeId) (i : TypeInfo) (k : IntKind) (bytes : Nat) (ht : P.underlying t = some (.slice e)) (hi : P.info? e = some i) (hz : i.zero = some (.int k 0)) (hsize : i.size = 1) (hby : i.bytes = bytes)
    (hs : a.eval s = .slice none 0 0) (ad : Addr) (m c : Nat) (g : Nat → Nat) (hx : a.eval x = .slice (some ad) m c) (hrd : Reads w k (some ad) m g)
    (h63 : m ≤ 9223372036854775807) (hbytes : m * bytes ≤ 140737488355328) (hbase : base ≤ w.heap.size)
    (h : ∀ v' w', Own w' base e k v' m g → w.grownBy w' none → K (a.put o.dst v') w') : if Region.wanted o (yielded ops a.tmps) = true then Oper.wp P o a w K Q else E := by
  have hw : Region.wanted o (yielded ops a.tmps) = true := by simp [Region.wanted, hgd]
  rw [if_pos hw]
  refine wp_append_own w s x t ho base e i (.int k 0) 1 bytes ht hi hz hsize hby rfl (by decide) (.slice none 0 0) 0 [] hs (World.ownsRow_nil w base e 1) ad m c (L k g m) hx (by rw [L_length]; omega) hrd.news (L_oneCell _ _ _) (by unfold maxLen; omega) (by rw [Nat.zero_add]; exact hbytes) hbase ?_
  intro v' w' h1 h2 _
  rw [Nat.zero_add, List.nil_append] at h1
  exact h v' w' h1 h2

theorem own_alloc_made (w : World) (base : Nat) (e : TypeId) (k : IntKind) (N : Nat) (hN : N ≤ 2147483647) (hb : base ≤ w.heap.size) :
    Own (w.alloc (.cells (madeCells #[.int k 0] N) e)) base e k (.slice (some ⟨w.heap.size, 0, none⟩) N N) N (fun _ => 0) := by
  have e1 : (madeCells #[Value.int k 0] N).toList = List.replicate N (Value.int k 0) := toList_madeCells_one _ _
  refine ⟨by simp [L_length], .inr ⟨w.heap.size, N, _, rfl, hb, heap_alloc_new w _, Nat.le_refl _, by unfold maxLen; omega, by rw [Nat.mul_one]; exact size_madeCells _ _, ?_⟩⟩
  rw [Nat.mul_one, e1, L_zero, L_take _ _ (Nat.le_refl _)]

def FillItPost (w : World) (po N V : Nat) (e : Ending) (w' : World) : Prop :=
  (V < 256 ^ N ∧ e = .returned (.tuple #[]) ∧ (∃ v, w'.heap[po]? = some (.cells #[v] 22 (0, 0)) ∧ Own w' w.heap.size 5 .u8 v N (fun i => dig 256 V (N - 1 - i))) ∧ w.grownBy w' (some po)) ∨
  (256 ^ N ≤ V ∧ (∃ T x, e = .panicked [{ v := .iface T x, recovered := false }]) ∧ w.grownBy w' (some po))


def FP (w0 : World) (g N V : Nat) (e : Ending) (w' : World) : Prop :=
  ((V < 256 ^ N ∧ e = .returned (.slice (some ⟨g, 0, none⟩) N N) ∧ Reads w' .u8 (some ⟨g, 0, none⟩) N (fun i => dig 256 V (N - 1 - i))) ∨
   (256 ^ N ≤ V ∧ ∃ T x, e = .panicked [{ v := .iface T x, recovered := false }])) ∧ Below w0.heap.size w0 w'

theorem fp_of_post (w0 w1 : World) (base g N V : Nat) (hb : Below w0.heap.size w0 w1) (hg : w0.heap.size ≤ g) (e : Ending) (w' : World) (h : FillPost w1 base g N N V e w') : FP w0 g N V e w' := by
  rcases h with ⟨h1, rfl, own, gr⟩ | ⟨h1, h2, gr⟩
  · refine ⟨.inl ⟨h1, rfl, ?_⟩, hb.grown gr hb.size (fun k hk => by cases hk; omega)⟩
    obtain ⟨az, cz, hv, hle, hcm, hrd, hlt⟩ := own.parts
    cases hv
    exact hrd
  · exact ⟨.inr ⟨h1, h2⟩, hb.grown gr hb.size (fun k hk => by cases hk; omega)⟩

theorem fill_of_make (w0 w1 : World) (p N V : Nat) (neg : Bool) (hm : nlen BW V ≤ 200000000) (hN : N ≤ 2147483647) (hint : IntAt w1 w0.heap.size p neg (nlen BW V) (dig BW V)) (hb : Below w0.heap.size w0 w1) :
    Calls Try.prog 26 #[.pointer (some ⟨p, 0, none⟩), .slice (some ⟨w1.heap.size, 0, none⟩) N N] (w1.alloc (.cells (madeCells #[.int .u8 0] N) 5)) (FP w0 w1.heap.size N V) := by
  obtain ⟨hp, v, hpair, hown⟩ := hint
  refine (fillBytes_any p w1.heap.size w0.heap.size w1.heap.size N N V neg v _ hm hN (hpair.alloc _) (hown.alloc _) _ (own_alloc_made w1 _ _ .u8 N hN (Nat.le_refl _)) (Nat.ne_of_lt hpair.lt) ?_).mono (fp_of_post w0 _ _ _ N V (hb.alloc hb.size _) hb.size)
  intro e
  have := (hown.lt _ e).2
  omega

theorem fill_make_of (w0 w1 : World) (p N V : Nat) (neg : Bool) (hm : nlen BW V ≤ 200000000) (hN : N ≤ 2147483647)
    (hint : IntAt w1 (w0.alloc (.cells (madeCells #[.int .u8 0] N) 5)).heap.size p neg (nlen BW V) (dig BW V)) (hb : Below (w0.alloc (.cells (madeCells #[.int .u8 0] N) 5)).heap.size (w0.alloc (.cells (madeCells #[.int .u8 0] N) 5)) w1) :
    Calls Try.prog 26 #[.pointer (some ⟨p, 0, none⟩), .slice (some ⟨w0.heap.size, 0, none⟩) N N] w1 (FP w0 w0.heap.size N V) := by
  obtain ⟨hp, v, hpair, hown⟩ := hint
  have own0 := own_alloc_made w0 w0.heap.size 5 .u8 N hN (Nat.le_refl _)
  have hs : (w0.alloc (.cells (madeCells #[.int .u8 0] N) 5)).heap.size = w0.heap.size + 1 := by simp
  have own1 := own0.below hb (fun b e => by simp [Value.ownBlock] at e; omega)
  have hb0 : Below w0.heap.size w0 w1 := below_trans ((Below.refl _ w0).alloc (Nat.le_refl _) _) hb
  refine (fillBytes_any p w0.heap.size _ w0.heap.size N N V neg v w1 hm hN hpair hown _ own1 (by omega) ?_).mono (fp_of_post w0 _ _ _ N V hb0 (Nat.le_refl _))
  intro e
  have := (hown.lt _ e).1
  omega


theorem below_of_drew {w w' : World} (h : Below w.drew.heap.size w.drew w') : Below w.heap.size w w' := ⟨h.os, h.tape, h.output, h.size, h.block⟩

set_option maxHeartbeats 1000000 in
theorem fillIt_any (po px ps N n cz : Nat) (neg : Bool) (az : Option Addr) (f : Nat → Nat) (hf : ∀ i, i < n → f i < BW) (w : World) (hN : N ≤ 2147483647) (hle : n ≤ cz) (hm : n ≤ 200000000)
    (hout : w.heap[po]? = some (.cells #[.slice none 0 0] 22 (0, 0))) (hnum : Pair w px 26 (.bool neg) (.slice az n cz)) (hps : w.cell? ⟨ps, 0, none⟩ = some (.int .i64 N)) (hrd : Reads w .u64 az n f) :
    Calls Try.prog 25 #[.pointer (some ⟨po, 0, none⟩), .pointer (some ⟨px, 0, none⟩), .pointer (some ⟨ps, 0, none⟩)] w (FillItPost w po N (val BW f n)) := by
  obtain ⟨i0, hi, hz0, hz1, hz2⟩ := info_parts info_u8
  have hVn : nlen BW (val BW f n) ≤ n := by rw [nlen_le_iff BW_one]; exact val_lt fun i hi => hf i hi
  have hmk := fun w => run_make (P := Try.prog) w 22 5 i0 (.int .u8 0) Try.underlying22 hi hz0 .i64 .i64 N N (by omega) (Int.le_refl _) (by rw [hz2]; omega) (by omega)
  simp only [Int.toNat_natCast, hz1, Nat.mul_one, Value.cells] at hmk
  have c1 := cell_of_one hout
  have c2 := hnum.cell0
  have c3 := hnum.cell1
  have hlo := lt_of_block hout
  have A := Lib.hid (show ∀ W, (W = w.drew ∨ W = w.drew.alloc (.cells (madeCells #[.int .u8 0] N) 5)) → Reads W .u64 az n f from by
    rintro W (rfl | rfl)
    · exact hrd
    · exact Reads.below (w := w.drew) hrd ((Below.refl _ w.drew).alloc (Nat.le_refl _) _))
  have HF := Lib.hid hf
  have HO := Lib.hid hout
  have HS := Lib.hid (show ∀ W, Below w.heap.size w W → W.cell? ⟨po, 0, none⟩ = some (.slice none 0 0) ∧ W.cell? ⟨px, 0, none⟩ = some (.bool neg) ∧ W.cell? ⟨px, 1, none⟩ = some (.slice az n cz) ∧ W.cell? ⟨ps, 0, none⟩ = some (.int .i64 N) from fun W hW => ⟨cell_of_one (by rw [hW.block po hlo]; exact hout), (hnum.below hW hnum.lt).cell0, (hnum.below hW hnum.lt).cell1, by rw [hW.cell (World.block_lt_of_cell? _ _ hps)]; exact hps⟩)
  clear hrd hf hout hnum
  go_enter Try.func25, Try.ntmps25
  have hu1 := Try.underlying22
  refine region_until (fun w' => w'.cell? ⟨po, 0, none⟩ = some (.slice none 0 0) ∧ w'.cell? ⟨px, 0, none⟩ = some (.bool neg) ∧ w'.cell? ⟨px, 1, none⟩ = some (.slice az n cz) ∧ w'.cell? ⟨ps, 0, none⟩ = some (.int .i64 N)) 7 (by kernel_rfl) ⟨c1, c2, c3, hps⟩ ?_
  refine until_take 0 [7, 6] rfl rfl (by kernel_rfl) (by kernel_rfl) (by kernel_rfl) (by kernel_rfl) (fun _ _ _ h => h) (v := .slice none 0 0) (.inl ⟨by rfl, ?_⟩) ⟨c1, c2, c3, hps⟩ ?_
  · rintro w' ⟨h1, h2, h3, h4⟩; go_simp
  simp only [Act.put, List.setIfInBounds_toArray, List.set_cons_zero, List.set_cons_succ]
  refine until_take 1 [7, 6, 5, 2] rfl rfl (by kernel_rfl) (by kernel_rfl) (by kernel_rfl) (by kernel_rfl) (fun _ _ _ h => h) (v := .agg #[.bool neg, .slice az n cz]) (.inl ⟨by rfl, ?_⟩) ⟨c1, c2, c3, hps⟩ ?_
  · rintro w' ⟨h1, h2, h3, h4⟩; go_simp
  simp only [Act.put, List.setIfInBounds_toArray, List.set_cons_zero, List.set_cons_succ]
  refine until_take 3 [7, 6, 5, 4] rfl rfl (by kernel_rfl) (by kernel_rfl) (by kernel_rfl) (by kernel_rfl) (fun _ _ _ h => h) (v := .int .i64 N) (.inl ⟨by rfl, ?_⟩) ⟨c1, c2, c3, hps⟩ ?_
  · rintro w' ⟨h1, h2, h3, h4⟩; go_simp
  simp only [Act.put, List.setIfInBounds_toArray, List.set_cons_zero, List.set_cons_succ]
  refine until_two (j := 2) (k := 4) (by kernel_rfl) rfl rfl (fun K hK => ?_) (fun K hK => ?_)
  go_simp
  go_at_call 21
  refine (of_any neg az n cz f HF.out _ hle (by omega) (A.out _ (.inl rfl))).mono ?_
  rintro e w1 ⟨p, rfl, hint, hbel⟩
  have hb1 := below_of_drew hbel
  have KF := Lib.hid (fill_of_make w.drew w1 p N _ _ (by omega) hN hint hbel)
  refine hK.out _ _ (fun _ => HS.out _ hb1) ?_
  clear hK K hint
  refine until_one (j := 4) (by kernel_rfl) rfl (fun K hK => ?_)
  go_simp
  refine hK.out _ _ (fun _ => HS.out _ (hb1.alloc hb1.size _)) ?_
  clear hK K hb1 hbel
  revert KF
  generalize w1.alloc _ = W1
  generalize w1.heap.size = g
  intro KF
  rotate_left 1
  go_simp
  refine hK.out _ _ (fun _ => HS.out _ (below_of_drew ((Below.refl _ w.drew).alloc (Nat.le_refl _) _))) ?_
  clear hK K
  refine until_one (j := 2) (by kernel_rfl) rfl (fun K hK => ?_)
  go_simp
  go_at_call 21
  refine (of_any neg az n cz f HF.out _ hle (by omega) (A.out _ (.inr rfl))).mono ?_
  rintro e W1 ⟨p, rfl, hint, hbel⟩
  have KF := Lib.hid (show Calls Try.prog 26 #[.pointer (some ⟨p, 0, none⟩), .slice (some ⟨w.heap.size, 0, none⟩) N N] W1 (FP w.drew w.heap.size N (val BW f n)) from fill_make_of w.drew W1 p N _ _ (by omega) hN hint hbel)
  refine hK.out _ _ (fun _ => HS.out _ (below_of_drew (below_trans ((Below.refl _ w.drew).alloc (Nat.le_refl _) _) hbel))) ?_
  clear hK K hbel hint
  revert KF
  generalize w.heap.size = g
  intro KF
  all_goals
    refine until_one (j := 5) (by kernel_rfl) rfl (fun K hK => ?_)
    go_simp
    go_at_call 26
    refine KF.out.mono ?_
    rintro e w2 ⟨(⟨hfit, rfl, hrd⟩ | ⟨hbig, T, x, rfl⟩), hb2⟩
    · have HB2 := Lib.hid (below_of_drew hb2)
      have FIT := Lib.hid hfit
      refine hK.out _ _ (fun _ => HS.out _ HB2.out) ?_
      clear hK K KF hb2 hfit
      refine until_one (j := 6) (by kernel_rfl) rfl (fun K hK => ?_)
      refine step_append_new rfl (.tmp 3) (.tmp 8) 22 rfl w.heap.size 5 i0 .u8 1 hu1 hi hz0 hz1 hz2 rfl _ N N _ rfl hrd (by omega) (by omega) HB2.out.size ?_
      intro v' w3 own3 gr3
      obtain ⟨a3, c3', rfl, _, _, _, _⟩ := own3.parts
      have hb3 : Below w.heap.size w w3 := HB2.out.grown gr3 HB2.out.size (fun k hk => by cases hk)
      have d1 := (HS.out _ hb3).1
      have hblk : w3.heap[po]? = some (.cells #[.slice none 0 0] 22 (0, 0)) := by rw [hb3.block po hlo]; exact HO.out
      have f1 := free_of_one hblk
      have HB3 := Lib.hid hb3
      have OWN3 := Lib.hid own3
      have HBLK := Lib.hid hblk
      refine hK.out _ _ (fun _ => HS.out _ hb3) ?_
      clear hK K hb3 own3 gr3 hrd HB2 hblk
      refine until_one (j := 7) (by kernel_rfl) rfl (fun K hK => ?_)
      go_simp
      refine hK.out _ _ (fun h => absurd rfl h) ?_
      refine until_done (by kernel_rfl) ?_ _
      clear hK K
      have hne : (Value.slice a3 N c3').ownBlock ≠ some po := by
        rcases OWN3.out.shape with ⟨h1, _⟩ | ⟨g, c, h1, h2, _⟩
        · rw [h1]; simp [Value.ownBlock]
        · rw [h1]; simp [Value.ownBlock]; omega
      refine bodyPost_ret (v := .tuple #[]) (by simp [results, Try.results25, go_sem]) rfl ?_
      refine .inl ⟨FIT.out, rfl, ⟨_, one_setCell HBLK.out, OWN3.out.kept (grown_setCell w3 ⟨po, 0, none⟩ _) (.inr hne)⟩, grown_trans (grown_of_below HB3.out _) (grown_setCell w3 ⟨po, 0, none⟩ _)⟩
    · refine ⟨rfl, .inr ⟨hbig, ⟨_, _, rfl⟩, grown_of_below (below_of_drew hb2) _⟩⟩

end Go.Proofs.Ytidifjmjbfhpaaa
