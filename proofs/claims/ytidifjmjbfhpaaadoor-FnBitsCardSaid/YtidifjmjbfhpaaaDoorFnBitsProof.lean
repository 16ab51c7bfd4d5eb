/- laws.FnBits: for all arguments the call returns true, and what was there reads behind the call as it read before; the row and its tied card. -/
import Derived.Test.YtidifjmjbfhpaaaDoorOneLaid
import Derived.Test.YtidifjmjbfhpaaaDoorFnBitsWalk
namespace Go.Proofs.YtidifjmjbfhpaaaDoor
open Go.ChangeShapes Go.WideShapes Go.ChangeAt Go.RowKit
set_option linter.unusedVariables false
set_option maxRecDepth 20000

theorem fnBits_contract (H : Type) (enc : TypeId × Value → H) (W : World) (base : Nat) (args : Array Value) (ds gs : List (DataW H)) (before : List MemPlace)
    (hval : ∀ (j : Nat) t v, Tryd.f7.params[j]? = some t → args[j]? = some v → Value.okWide Tryd.prog W .any base t v)
    (hW : DataW.Whole enc Tryd.prog Tryd.f7.params.toList Rows.fnBitsSpec.vars false W args.toList ds gs before) (hL : laidMetH Tryd.prog Rows.fnBitsRow.laid W) :
    Calls Tryd.prog 7 args W fun e W' => ∃ v, e = .returned v ∧ Rows.fnBitsSpec.post enc Tryd.prog Tryd.f7 false true false false W args v W' := by
  have hW' := hW
  obtain ⟨p, q, hA0, hV, rfl, hfz, hnd⟩ := hW
  have hA : DataW.TrodAll enc Tryd.prog W 0 (fun _ => true) true Tryd.f7.params.toList args.toList ds p := hA0
  have hV' : DataW.TrodVars enc Tryd.prog W (fun _ => true) ["loop.example/pub-g03125/pub/big.natOne"] gs q := hV
  rw [Tryd.params7] at hA hval
  obtain ⟨v0, vs0, d0, ds0, p0, q0, hargs, rfl, rfl, h0, r0⟩ := trodAll_cons hA
  obtain ⟨v1, vs1, d1, ds1, p1, q1, rfl, rfl, rfl, h1, r1⟩ := trodAll_cons r0
  obtain ⟨v2, vs2, d2, ds2, p2, q2, rfl, rfl, rfl, h2, r2⟩ := trodAll_cons r1
  obtain ⟨rfl, rfl, rfl⟩ := trodAll_nil r2
  obtain rfl : args = #[v0, v1, v2] := by cases args; simp_all
  obtain ⟨a0, rfl, rfl, rfl, w0⟩ := open_int Tryd.underlying5 (hval 0 5 v0 rfl rfl) h0
  have hb0 := bounds_u8 w0
  obtain ⟨N0, rfl⟩ : ∃ N : Nat, a0 = (N : Int) := ⟨a0.toNat, by omega⟩
  have k1 := h1
  have lt1 : ∀ x ∈ p1, x.block < W.heap.size := by obtain ⟨m, hm⟩ := k1; exact DataW.trod_lt m _ _ _ hm
  obtain ⟨neg1, ao1, n1, cap1, f1, rfl, hrd1, hf1, hl1, hc1⟩ := open_number (hval 1 24 v1 rfl rfl) h1
  have k2 := h2
  have lt2 : ∀ x ∈ p2, x.block < W.heap.size := by obtain ⟨m, hm⟩ := k2; exact DataW.trod_lt m _ _ _ hm
  obtain ⟨neg2, ao2, n2, cap2, f2, rfl, hrd2, hf2, hl2, hc2⟩ := open_number (hval 2 24 v2 rfl rfl) h2
  clear hA0 hV
  refine (fnBits_walk N0 (by omega) neg1 neg2 ao1 ao2 n1 cap1 n2 cap2 f1 f2 hf1 hf2 W hl1 hl2 hc1 hc2 hrd1 hrd2 (one_of_laid hL)).mono fun e W' ⟨he, bel⟩ => ?_
  subst he
  have hvars := Below.trodVars laid_out bel (by kernel_rfl) hV'
  obtain ⟨gv, tv, csv, fuv, dv, pv, rfl, _⟩ := trodVars_one hV'
  exact ⟨_, rfl, _, _, _, [], _, _, hW', trodAll_mk1 (shut_bool Tryd.underlying4 _), (trodAll_cons_mk (shut_int Tryd.underlying5 w0) (trodAll_cons_mk (Below.trod laid_out (by kernel_rfl) (of_decide_eq_true (by kernel_rfl)) k1 bel lt1) (trodAll_cons_mk (Below.trod laid_out (by kernel_rfl) (of_decide_eq_true (by kernel_rfl)) k2 bel lt2) trodAll_mk0))), hvars, bel.frame _, fun h => by cases h⟩

theorem fnBits_laid (os : Os) : laidMet Tryd.prog Rows.fnBitsRow.laid ((oneWorld os).forCall (fun _ _ => 0) ⟨#[], #[.int .u8 0, .agg #[.bool false, .slice none 0 0], .agg #[.bool false, .slice none 0 0]], []⟩).memory :=
  laidMet_of_run' 8 (by kernel_rfl) (by kernel_rfl)
theorem fnBits_reads (os : Os) {H : Type} (enc : TypeId × Value → H) : ∃ d0 d1 d2 g places, DataW.whole enc Tryd.prog ((oneWorld os).forCall (fun _ _ => 0) ⟨#[], #[.int .u8 0, .agg #[.bool false, .slice none 0 0], .agg #[.bool false, .slice none 0 0]], []⟩).memory Tryd.f7.params.toList Rows.fnBitsSpec.vars false #[Value.int .u8 0, .agg #[.bool false, .slice none 0 0], .agg #[.bool false, .slice none 0 0]].toList 8 = some ([d0, d1, d2], [g], places) := by
  have h : (DataW.whole enc Tryd.prog ((oneWorld os).forCall (fun _ _ => 0) ⟨#[], #[.int .u8 0, .agg #[.bool false, .slice none 0 0], .agg #[.bool false, .slice none 0 0]], []⟩).memory Tryd.f7.params.toList Rows.fnBitsSpec.vars false #[Value.int .u8 0, .agg #[.bool false, .slice none 0 0], .agg #[.bool false, .slice none 0 0]].toList 8).map (fun x => (x.1, x.2.1)) = some ([.lit (.int .u8 0), .agg [.lit (.bool false), .nil], .agg [.lit (.bool false), .nil]], [.slice [.lit (.int .u64 1)] []]) := by kernel_rfl
  obtain ⟨⟨a, b, c⟩, h1, h2⟩ := Option.map_eq_some_iff.1 h
  simp only [Prod.mk.injEq] at h2
  obtain ⟨rfl, rfl⟩ := h2
  exact ⟨_, _, _, _, _, h1⟩

set_option maxRecDepth 100000 in
theorem fnBits_lifted (os : Os) (started : os.Started) (H : Type) (enc : TypeId × Value → H) (F : Stop.Interp) :
    ReturnsInHanded {} Tryd.checked os 7 .any ((OpenSpec.ofChange Rows.fnBitsSpec).preRow enc Tryd.prog Tryd.f7 Rows.fnBitsRow.domain false Rows.fnBitsRow.laid) (((OpenSpec.ofChange Rows.fnBitsSpec).at F).post enc Tryd.prog Tryd.f7 false true false false) := by
  obtain ⟨d0, d1, d2, g, places, hx⟩ := fnBits_reads os enc
  refine returnsInHanded_of_row (C := Tryd.checked) (s := OpenSpec.ofChange Rows.fnBitsSpec) own_knob started (by kernel_rfl) Tryd.func7
    (witness_row_atRef (enc := enc) (C := Tryd.checked) false (oneWorld os) #[.int .u8 0, .agg #[.bool false, .slice none 0 0], .agg #[.bool false, .slice none 0 0]] rfl (by kernel_rfl) (by kernel_rfl) (by kernel_rfl)
      (OpenSpec.preRow_of_cond 8 hx (by kernel_rfl) (fun k hk => by cases hk) (by kernel_rfl) (fnBits_laid os))) ?_
  intro W base args ds gs before hval hW _ _ _ hL _ _
  exact fnBits_contract H enc W base args ds gs before hval hW hL

theorem fnBits_said : Rows.FnBitsSaid :=
  OpenClaim.holds_of_cond 7 Tryd.f7 rfl rfl rfl rfl rfl rfl rfl ⟨rfl, rfl, rfl, rfl, rfl⟩ rfl rfl rfl rfl rfl (by kernel_rfl) Tryd.func7 (by kernel_rfl)
    (of_decide_eq_true (by kernel_rfl)) (by unfold Func.isWrapper; first | (rw [if_pos (by decide +kernel)]; kernel_rfl) | (rw [if_neg (by decide +kernel)]; exact ⟨rfl, rfl⟩))
    (fun os started H enc _ F => by rw [OpenClaim.pre_eq_preRow]; exact fnBits_lifted os started H enc F)

theorem fnBits_plain (f : FuncId) (fn : Func) (hf : Tryd.pinned.checked.prog.funcNamed "loop.example/pub-g03125/laws.FnBits" = some f) (hfn : Tryd.pinned.checked.prog.funcs[f]? = some fn) :
    true = Tryd.pinned.checked.prog.looks [] ∧ ∀ (j : Nat) t, fn.params[j]? = some t → Tryd.pinned.checked.prog.wantsStandIn t = false := by
  obtain rfl : f = 7 := Option.some.inj ((show Tryd.prog.funcNamed "loop.example/pub-g03125/laws.FnBits" = some 7 by kernel_rfl).symm.trans hf) |>.symm
  obtain rfl : fn = Tryd.f7 := (Option.some.inj (Tryd.func7.symm.trans hfn)).symm
  refine ⟨by kernel_rfl, fun j t ht => ?_⟩
  rw [Tryd.params7] at ht
  have hm : t = 5 ∨ t = 24 := by simpa using Array.mem_of_getElem? ht
  rcases hm with rfl | rfl
  · exact (show Tryd.prog.wantsStandIn 5 = false by kernel_rfl)
  · exact (show Tryd.prog.wantsStandIn 24 = false by kernel_rfl)

/-- The card. -/
theorem fnBits_card : Rows.FnBitsCardSaid :=
  Claim7.holds_tied_plain_at .later [] _ _ _ _ fnBits_said (fun _ h => by cases h) (by kernel_rfl) (fun _ h => by cases h) fnBits_row_tie rfl ⟨rfl, rfl⟩ (by kernel_rfl) rfl fnBits_plain (by kernel_rfl)
#print axioms fnBits_card
end Go.Proofs.YtidifjmjbfhpaaaDoor
