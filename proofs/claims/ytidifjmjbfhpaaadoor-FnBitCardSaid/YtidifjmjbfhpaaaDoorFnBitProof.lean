/- laws.FnBit: for every Number and every index the call returns true, and what was there reads behind the call as it read before; the row and its tied card. -/
import Derived.Test.YtidifjmjbfhpaaaDoorOneLaid
import Derived.Test.YtidifjmjbfhpaaaDoorFnBitWalk
namespace Go.Proofs.YtidifjmjbfhpaaaDoor
open Go.ChangeShapes Go.WideShapes Go.ChangeAt Go.RowKit
set_option linter.unusedVariables false
set_option maxRecDepth 20000

theorem fnBit_contract (H : Type) (enc : TypeId × Value → H) (W : World) (base : Nat) (args : Array Value) (ds gs : List (DataW H)) (before : List MemPlace)
    (hval : ∀ (j : Nat) t v, Tryd.f4.params[j]? = some t → args[j]? = some v → Value.okWide Tryd.prog W .any base t v)
    (hW : DataW.Whole enc Tryd.prog Tryd.f4.params.toList Rows.fnBitSpec.vars false W args.toList ds gs before) (hL : laidMetH Tryd.prog Rows.fnBitRow.laid W) :
    Calls Tryd.prog 4 args W fun e W' => ∃ v, e = .returned v ∧ Rows.fnBitSpec.post enc Tryd.prog Tryd.f4 false true false false W args v W' := by
  have hW' := hW
  obtain ⟨p, q, hA0, hV, rfl, hfz, hnd⟩ := hW
  have hA : DataW.TrodAll enc Tryd.prog W 0 (fun _ => true) true Tryd.f4.params.toList args.toList ds p := hA0
  have hV' : DataW.TrodVars enc Tryd.prog W (fun _ => true) ["loop.example/pub-g03125/pub/big.natOne"] gs q := hV
  rw [Tryd.params4] at hA hval
  obtain ⟨v0, vs0, d0, ds0, p0, q0, hargs, rfl, rfl, h0, r0⟩ := trodAll_cons hA
  obtain ⟨v1, vs1, d1, ds1, p1, q1, rfl, rfl, rfl, h1, r1⟩ := trodAll_cons r0
  obtain ⟨rfl, rfl, rfl⟩ := trodAll_nil r1
  obtain rfl : args = #[v0, v1] := by cases args; simp_all
  have k0 := h0
  have lt0 : ∀ x ∈ p0, x.block < W.heap.size := by obtain ⟨m, hm⟩ := k0; exact DataW.trod_lt m _ _ _ hm
  obtain ⟨neg, ao, n, cap, f, rfl, hrd, hf, hl, hc⟩ := open_number (hval 0 24 v0 rfl rfl) h0
  obtain ⟨a1, rfl, rfl, rfl, w1⟩ := open_int Tryd.underlying35 (hval 1 35 v1 rfl rfl) h1
  have hb1 := bounds_u16 w1
  obtain ⟨N, rfl⟩ : ∃ N : Nat, a1 = (N : Int) := ⟨a1.toNat, by omega⟩
  clear hA0 hV
  refine (fnBit_walk N (by omega) neg ao n cap f hf W hl hc hrd (one_of_laid hL)).mono fun e W' ⟨he, bel⟩ => ?_
  subst he
  have hvars := Below.trodVars laid_out bel (by kernel_rfl) hV'
  obtain ⟨gv, tv, csv, fuv, dv, pv, rfl, _⟩ := trodVars_one hV'
  exact ⟨_, rfl, _, _, _, [], _, _, hW', trodAll_mk1 (shut_bool Tryd.underlying4 _), (trodAll_cons_mk (Below.trod laid_out (by kernel_rfl) (of_decide_eq_true (by kernel_rfl)) k0 bel lt0) (trodAll_cons_mk (shut_int Tryd.underlying35 w1) trodAll_mk0)), hvars, bel.frame _, fun h => by cases h⟩

theorem fnBit_laid (os : Os) : laidMet Tryd.prog Rows.fnBitRow.laid ((oneWorld os).forCall (fun _ _ => 0) ⟨#[], #[.agg #[.bool false, .slice none 0 0], .int .u16 0], []⟩).memory :=
  laidMet_of_run' 8 (by kernel_rfl) (by kernel_rfl)
theorem fnBit_reads (os : Os) {H : Type} (enc : TypeId × Value → H) : ∃ d e g places, DataW.whole enc Tryd.prog ((oneWorld os).forCall (fun _ _ => 0) ⟨#[], #[.agg #[.bool false, .slice none 0 0], .int .u16 0], []⟩).memory Tryd.f4.params.toList Rows.fnBitSpec.vars false #[Value.agg #[.bool false, .slice none 0 0], .int .u16 0].toList 8 = some ([d, e], [g], places) := by
  have h : (DataW.whole enc Tryd.prog ((oneWorld os).forCall (fun _ _ => 0) ⟨#[], #[.agg #[.bool false, .slice none 0 0], .int .u16 0], []⟩).memory Tryd.f4.params.toList Rows.fnBitSpec.vars false #[Value.agg #[.bool false, .slice none 0 0], .int .u16 0].toList 8).map (fun x => (x.1, x.2.1)) = some ([.agg [.lit (.bool false), .nil], .lit (.int .u16 0)], [.slice [.lit (.int .u64 1)] []]) := by kernel_rfl
  obtain ⟨⟨a, b, c⟩, h1, h2⟩ := Option.map_eq_some_iff.1 h
  simp only [Prod.mk.injEq] at h2
  obtain ⟨rfl, rfl⟩ := h2
  exact ⟨_, _, _, _, h1⟩

set_option maxRecDepth 100000 in
theorem fnBit_lifted (os : Os) (started : os.Started) (H : Type) (enc : TypeId × Value → H) (F : Stop.Interp) :
    ReturnsInHanded {} Tryd.checked os 4 .any ((OpenSpec.ofChange Rows.fnBitSpec).preRow enc Tryd.prog Tryd.f4 Rows.fnBitRow.domain false Rows.fnBitRow.laid) (((OpenSpec.ofChange Rows.fnBitSpec).at F).post enc Tryd.prog Tryd.f4 false true false false) := by
  obtain ⟨d, e, g, places, hx⟩ := fnBit_reads os enc
  refine returnsInHanded_of_row (C := Tryd.checked) (s := OpenSpec.ofChange Rows.fnBitSpec) own_knob started (by kernel_rfl) Tryd.func4
    (witness_row_atRef (enc := enc) (C := Tryd.checked) false (oneWorld os) #[.agg #[.bool false, .slice none 0 0], .int .u16 0] rfl (by kernel_rfl) (by kernel_rfl) (by kernel_rfl)
      (OpenSpec.preRow_of_cond 8 hx (by kernel_rfl) (fun k hk => by cases hk) (by kernel_rfl) (fnBit_laid os))) ?_
  intro W base args ds gs before hval hW _ _ _ hL _ _
  exact fnBit_contract H enc W base args ds gs before hval hW hL

theorem fnBit_said : Rows.FnBitSaid :=
  OpenClaim.holds_of_cond 4 Tryd.f4 rfl rfl rfl rfl rfl rfl rfl ⟨rfl, rfl, rfl, rfl, rfl⟩ rfl rfl rfl rfl rfl (by kernel_rfl) Tryd.func4 (by kernel_rfl)
    (of_decide_eq_true (by kernel_rfl)) (by unfold Func.isWrapper; first | (rw [if_pos (by decide +kernel)]; kernel_rfl) | (rw [if_neg (by decide +kernel)]; exact ⟨rfl, rfl⟩))
    (fun os started H enc _ F => by rw [OpenClaim.pre_eq_preRow]; exact fnBit_lifted os started H enc F)

theorem fnBit_plain (f : FuncId) (fn : Func) (hf : Tryd.pinned.checked.prog.funcNamed "loop.example/pub-g03125/laws.FnBit" = some f) (hfn : Tryd.pinned.checked.prog.funcs[f]? = some fn) :
    true = Tryd.pinned.checked.prog.looks [] ∧ ∀ (j : Nat) t, fn.params[j]? = some t → Tryd.pinned.checked.prog.wantsStandIn t = false := by
  obtain rfl : f = 4 := Option.some.inj ((show Tryd.prog.funcNamed "loop.example/pub-g03125/laws.FnBit" = some 4 by kernel_rfl).symm.trans hf) |>.symm
  obtain rfl : fn = Tryd.f4 := (Option.some.inj (Tryd.func4.symm.trans hfn)).symm
  refine ⟨by kernel_rfl, fun j t ht => ?_⟩
  rw [Tryd.params4] at ht
  have hm : t = 24 ∨ t = 35 := by simpa using Array.mem_of_getElem? ht
  rcases hm with rfl | rfl
  · exact (show Tryd.prog.wantsStandIn 24 = false by kernel_rfl)
  · exact (show Tryd.prog.wantsStandIn 35 = false by kernel_rfl)

/-- The card. -/
theorem fnBit_card : Rows.FnBitCardSaid :=
  Claim7.holds_tied_plain_at .later [] _ _ _ _ fnBit_said (fun _ h => by cases h) (by kernel_rfl) (fun _ h => by cases h) fnBit_row_tie rfl ⟨rfl, rfl⟩ (by kernel_rfl) rfl fnBit_plain (by kernel_rfl)
#print axioms fnBit_card
end Go.Proofs.YtidifjmjbfhpaaaDoor
