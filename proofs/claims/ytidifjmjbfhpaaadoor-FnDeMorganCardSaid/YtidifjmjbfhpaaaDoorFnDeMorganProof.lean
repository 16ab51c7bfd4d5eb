/- laws.FnDeMorgan: for all arguments the call returns true, and what was there reads behind the call as it read before; the row and its tied card. -/
import Derived.Test.YtidifjmjbfhpaaaDoorOneLaid
import Derived.Test.YtidifjmjbfhpaaaDoorFnDeMorganWalk
namespace Go.Proofs.YtidifjmjbfhpaaaDoor
open Go.ChangeShapes Go.WideShapes Go.ChangeAt Go.RowKit
set_option linter.unusedVariables false
set_option maxRecDepth 20000

theorem fnDeMorgan_contract (H : Type) (enc : TypeId × Value → H) (W : World) (base : Nat) (args : Array Value) (ds gs : List (DataW H)) (before : List MemPlace)
    (hval : ∀ (j : Nat) t v, Tryd.f8.params[j]? = some t → args[j]? = some v → Value.okWide Tryd.prog W .any base t v)
    (hW : DataW.Whole enc Tryd.prog Tryd.f8.params.toList Rows.fnDeMorganSpec.vars false W args.toList ds gs before) (hL : laidMetH Tryd.prog Rows.fnDeMorganRow.laid W) :
    Calls Tryd.prog 8 args W fun e W' => ∃ v, e = .returned v ∧ Rows.fnDeMorganSpec.post enc Tryd.prog Tryd.f8 false true false false W args v W' := by
  have hW' := hW
  obtain ⟨p, q, hA0, hV, rfl, hfz, hnd⟩ := hW
  have hA : DataW.TrodAll enc Tryd.prog W 0 (fun _ => true) true Tryd.f8.params.toList args.toList ds p := hA0
  have hV' : DataW.TrodVars enc Tryd.prog W (fun _ => true) ["loop.example/pub-g03125/pub/big.natOne"] gs q := hV
  rw [Tryd.params8] at hA hval
  obtain ⟨v0, vs0, d0, ds0, p0, q0, hargs, rfl, rfl, h0, r0⟩ := trodAll_cons hA
  obtain ⟨v1, vs1, d1, ds1, p1, q1, rfl, rfl, rfl, h1, r1⟩ := trodAll_cons r0
  obtain ⟨rfl, rfl, rfl⟩ := trodAll_nil r1
  obtain rfl : args = #[v0, v1] := by cases args; simp_all
  have k0 := h0
  have lt0 : ∀ x ∈ p0, x.block < W.heap.size := by obtain ⟨m, hm⟩ := k0; exact DataW.trod_lt m _ _ _ hm
  obtain ⟨neg0, ao0, n0, cap0, f0, rfl, hrd0, hf0, hl0, hc0⟩ := open_number (hval 0 24 v0 rfl rfl) h0
  have k1 := h1
  have lt1 : ∀ x ∈ p1, x.block < W.heap.size := by obtain ⟨m, hm⟩ := k1; exact DataW.trod_lt m _ _ _ hm
  obtain ⟨neg1, ao1, n1, cap1, f1, rfl, hrd1, hf1, hl1, hc1⟩ := open_number (hval 1 24 v1 rfl rfl) h1
  clear hA0 hV
  refine (fnDeMorgan_walk neg0 neg1 ao0 ao1 n0 cap0 n1 cap1 f0 f1 hf0 hf1 W hl0 hl1 hc0 hc1 hrd0 hrd1 (one_of_laid hL)).mono fun e W' ⟨he, bel⟩ => ?_
  subst he
  have hvars := Below.trodVars laid_out bel (by kernel_rfl) hV'
  obtain ⟨gv, tv, csv, fuv, dv, pv, rfl, _⟩ := trodVars_one hV'
  exact ⟨_, rfl, _, _, _, [], _, _, hW', trodAll_mk1 (shut_bool Tryd.underlying4 _), (trodAll_cons_mk (Below.trod laid_out (by kernel_rfl) (of_decide_eq_true (by kernel_rfl)) k0 bel lt0) (trodAll_cons_mk (Below.trod laid_out (by kernel_rfl) (of_decide_eq_true (by kernel_rfl)) k1 bel lt1) trodAll_mk0)), hvars, bel.frame _, fun h => by cases h⟩

theorem fnDeMorgan_laid (os : Os) : laidMet Tryd.prog Rows.fnDeMorganRow.laid ((oneWorld os).forCall (fun _ _ => 0) ⟨#[], #[.agg #[.bool false, .slice none 0 0], .agg #[.bool false, .slice none 0 0]], []⟩).memory :=
  laidMet_of_run' 8 (by kernel_rfl) (by kernel_rfl)
theorem fnDeMorgan_reads (os : Os) {H : Type} (enc : TypeId × Value → H) : ∃ d0 d1 g places, DataW.whole enc Tryd.prog ((oneWorld os).forCall (fun _ _ => 0) ⟨#[], #[.agg #[.bool false, .slice none 0 0], .agg #[.bool false, .slice none 0 0]], []⟩).memory Tryd.f8.params.toList Rows.fnDeMorganSpec.vars false #[Value.agg #[.bool false, .slice none 0 0], .agg #[.bool false, .slice none 0 0]].toList 8 = some ([d0, d1], [g], places) := by
  have h : (DataW.whole enc Tryd.prog ((oneWorld os).forCall (fun _ _ => 0) ⟨#[], #[.agg #[.bool false, .slice none 0 0], .agg #[.bool false, .slice none 0 0]], []⟩).memory Tryd.f8.params.toList Rows.fnDeMorganSpec.vars false #[Value.agg #[.bool false, .slice none 0 0], .agg #[.bool false, .slice none 0 0]].toList 8).map (fun x => (x.1, x.2.1)) = some ([.agg [.lit (.bool false), .nil], .agg [.lit (.bool false), .nil]], [.slice [.lit (.int .u64 1)] []]) := by kernel_rfl
  obtain ⟨⟨a, b, c⟩, h1, h2⟩ := Option.map_eq_some_iff.1 h
  simp only [Prod.mk.injEq] at h2
  obtain ⟨rfl, rfl⟩ := h2
  exact ⟨_, _, _, _, h1⟩

set_option maxRecDepth 100000 in
theorem fnDeMorgan_lifted (os : Os) (started : os.Started) (H : Type) (enc : TypeId × Value → H) (F : Stop.Interp) :
    ReturnsInHanded {} Tryd.checked os 8 .any ((OpenSpec.ofChange Rows.fnDeMorganSpec).preRow enc Tryd.prog Tryd.f8 Rows.fnDeMorganRow.domain false Rows.fnDeMorganRow.laid) (((OpenSpec.ofChange Rows.fnDeMorganSpec).at F).post enc Tryd.prog Tryd.f8 false true false false) := by
  obtain ⟨d0, d1, g, places, hx⟩ := fnDeMorgan_reads os enc
  refine returnsInHanded_of_row (C := Tryd.checked) (s := OpenSpec.ofChange Rows.fnDeMorganSpec) own_knob started (by kernel_rfl) Tryd.func8
    (witness_row_atRef (enc := enc) (C := Tryd.checked) false (oneWorld os) #[.agg #[.bool false, .slice none 0 0], .agg #[.bool false, .slice none 0 0]] rfl (by kernel_rfl) (by kernel_rfl) (by kernel_rfl)
      (OpenSpec.preRow_of_cond 8 hx (by kernel_rfl) (fun k hk => by cases hk) (by kernel_rfl) (fnDeMorgan_laid os))) ?_
  intro W base args ds gs before hval hW _ _ _ hL _ _
  exact fnDeMorgan_contract H enc W base args ds gs before hval hW hL

theorem fnDeMorgan_said : Rows.FnDeMorganSaid :=
  OpenClaim.holds_of_cond 8 Tryd.f8 rfl rfl rfl rfl rfl rfl rfl ⟨rfl, rfl, rfl, rfl, rfl⟩ rfl rfl rfl rfl rfl (by kernel_rfl) Tryd.func8 (by kernel_rfl)
    (of_decide_eq_true (by kernel_rfl)) (by unfold Func.isWrapper; first | (rw [if_pos (by decide +kernel)]; kernel_rfl) | (rw [if_neg (by decide +kernel)]; exact ⟨rfl, rfl⟩))
    (fun os started H enc _ F => by rw [OpenClaim.pre_eq_preRow]; exact fnDeMorgan_lifted os started H enc F)

theorem fnDeMorgan_plain (f : FuncId) (fn : Func) (hf : Tryd.pinned.checked.prog.funcNamed "loop.example/pub-g03125/laws.FnDeMorgan" = some f) (hfn : Tryd.pinned.checked.prog.funcs[f]? = some fn) :
    true = Tryd.pinned.checked.prog.looks [] ∧ ∀ (j : Nat) t, fn.params[j]? = some t → Tryd.pinned.checked.prog.wantsStandIn t = false := by
  obtain rfl : f = 8 := Option.some.inj ((show Tryd.prog.funcNamed "loop.example/pub-g03125/laws.FnDeMorgan" = some 8 by kernel_rfl).symm.trans hf) |>.symm
  obtain rfl : fn = Tryd.f8 := (Option.some.inj (Tryd.func8.symm.trans hfn)).symm
  refine ⟨by kernel_rfl, fun j t ht => ?_⟩
  rw [Tryd.params8] at ht
  have hm : t = 24 := by simpa using Array.mem_of_getElem? ht
  subst hm
  exact (show Tryd.prog.wantsStandIn 24 = false by kernel_rfl)

/-- The card. -/
theorem fnDeMorgan_card : Rows.FnDeMorganCardSaid :=
  Claim7.holds_tied_plain_at .later [] _ _ _ _ fnDeMorgan_said (fun _ h => by cases h) (by kernel_rfl) (fun _ h => by cases h) fnDeMorgan_row_tie rfl ⟨rfl, rfl⟩ (by kernel_rfl) rfl fnDeMorgan_plain (by kernel_rfl)
#print axioms fnDeMorgan_card
end Go.Proofs.YtidifjmjbfhpaaaDoor
