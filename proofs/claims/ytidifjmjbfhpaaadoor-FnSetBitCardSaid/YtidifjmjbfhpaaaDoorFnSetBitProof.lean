/- laws.FnSetBit: for every Number, index and bit the call returns true, and what was there reads behind the call as it read before; the row and its tied card. -/
import Derived.Test.YtidifjmjbfhpaaaDoorOneLaid
import Derived.Test.YtidifjmjbfhpaaaDoorFnSetBitWalk
namespace Go.Proofs.YtidifjmjbfhpaaaDoor
open Go.ChangeShapes Go.WideShapes Go.ChangeAt Go.RowKit
set_option linter.unusedVariables false
set_option maxRecDepth 20000

theorem fnSetBit_contract (H : Type) (enc : TypeId × Value → H) (W : World) (base : Nat) (args : Array Value) (ds gs : List (DataW H)) (before : List MemPlace)
    (hval : ∀ (j : Nat) t v, Tryd.f5.params[j]? = some t → args[j]? = some v → Value.okWide Tryd.prog W .any base t v)
    (hW : DataW.Whole enc Tryd.prog Tryd.f5.params.toList Rows.fnSetBitSpec.vars false W args.toList ds gs before) (hL : laidMetH Tryd.prog Rows.fnSetBitRow.laid W) :
    Calls Tryd.prog 5 args W fun e W' => ∃ v, e = .returned v ∧ Rows.fnSetBitSpec.post enc Tryd.prog Tryd.f5 false true false false W args v W' := by
  have hW' := hW
  obtain ⟨p, q, hA0, hV, rfl, hfz, hnd⟩ := hW
  have hA : DataW.TrodAll enc Tryd.prog W 0 (fun _ => true) true Tryd.f5.params.toList args.toList ds p := hA0
  have hV' : DataW.TrodVars enc Tryd.prog W (fun _ => true) ["loop.example/pub-g03125/pub/big.natOne"] gs q := hV
  rw [Tryd.params5] at hA hval
  obtain ⟨v0, vs0, d0, ds0, p0, q0, hargs, rfl, rfl, h0, r0⟩ := trodAll_cons hA
  obtain ⟨v1, vs1, d1, ds1, p1, q1, rfl, rfl, rfl, h1, r1⟩ := trodAll_cons r0
  obtain ⟨v2, vs2, d2, ds2, p2, q2, rfl, rfl, rfl, h2, r2⟩ := trodAll_cons r1
  obtain ⟨rfl, rfl, rfl⟩ := trodAll_nil r2
  obtain rfl : args = #[v0, v1, v2] := by cases args; simp_all
  have k0 := h0
  have lt0 : ∀ x ∈ p0, x.block < W.heap.size := by obtain ⟨m, hm⟩ := k0; exact DataW.trod_lt m _ _ _ hm
  obtain ⟨neg, ao, n, cap, f, rfl, hrd, hf, hl, hc⟩ := open_number (hval 0 24 v0 rfl rfl) h0
  obtain ⟨a1, rfl, rfl, rfl, w1⟩ := open_int Tryd.underlying35 (hval 1 35 v1 rfl rfl) h1
  have hb1 := bounds_u16 w1
  obtain ⟨a2, rfl, rfl, rfl, w2⟩ := open_int Tryd.underlying5 (hval 2 5 v2 rfl rfl) h2
  have hb2 := bounds_u8 w2
  obtain ⟨N, rfl⟩ : ∃ N : Nat, a1 = (N : Int) := ⟨a1.toNat, by omega⟩
  obtain ⟨M, rfl⟩ : ∃ M : Nat, a2 = (M : Int) := ⟨a2.toNat, by omega⟩
  clear hA0 hV
  refine (fnSetBit_walk N M (by omega) (by omega) neg ao n cap f hf W hl hc hrd (one_of_laid hL)).mono fun e W' ⟨he, bel⟩ => ?_
  subst he
  have hvars := Below.trodVars laid_out bel (by kernel_rfl) hV'
  obtain ⟨gv, tv, csv, fuv, dv, pv, rfl, _⟩ := trodVars_one hV'
  exact ⟨_, rfl, _, _, _, [], _, _, hW', trodAll_mk1 (shut_bool Tryd.underlying4 _), (trodAll_cons_mk (Below.trod laid_out (by kernel_rfl) (of_decide_eq_true (by kernel_rfl)) k0 bel lt0) (trodAll_cons_mk (shut_int Tryd.underlying35 w1) (trodAll_cons_mk (shut_int Tryd.underlying5 w2) trodAll_mk0))), hvars, bel.frame _, fun h => by cases h⟩

theorem fnSetBit_laid (os : Os) : laidMet Tryd.prog Rows.fnSetBitRow.laid ((oneWorld os).forCall (fun _ _ => 0) ⟨#[], #[.agg #[.bool false, .slice none 0 0], .int .u16 0, .int .u8 0], []⟩).memory :=
  laidMet_of_run' 8 (by kernel_rfl) (by kernel_rfl)
theorem fnSetBit_reads (os : Os) {H : Type} (enc : TypeId × Value → H) : ∃ d e x g places, DataW.whole enc Tryd.prog ((oneWorld os).forCall (fun _ _ => 0) ⟨#[], #[.agg #[.bool false, .slice none 0 0], .int .u16 0, .int .u8 0], []⟩).memory Tryd.f5.params.toList Rows.fnSetBitSpec.vars false #[Value.agg #[.bool false, .slice none 0 0], .int .u16 0, .int .u8 0].toList 8 = some ([d, e, x], [g], places) := by
  have h : (DataW.whole enc Tryd.prog ((oneWorld os).forCall (fun _ _ => 0) ⟨#[], #[.agg #[.bool false, .slice none 0 0], .int .u16 0, .int .u8 0], []⟩).memory Tryd.f5.params.toList Rows.fnSetBitSpec.vars false #[Value.agg #[.bool false, .slice none 0 0], .int .u16 0, .int .u8 0].toList 8).map (fun x => (x.1, x.2.1)) = some ([.agg [.lit (.bool false), .nil], .lit (.int .u16 0), .lit (.int .u8 0)], [.slice [.lit (.int .u64 1)] []]) := by kernel_rfl
  obtain ⟨⟨a, b, c⟩, h1, h2⟩ := Option.map_eq_some_iff.1 h
  simp only [Prod.mk.injEq] at h2
  obtain ⟨rfl, rfl⟩ := h2
  exact ⟨_, _, _, _, _, h1⟩

set_option maxRecDepth 100000 in
theorem fnSetBit_lifted (os : Os) (started : os.Started) (H : Type) (enc : TypeId × Value → H) (F : Stop.Interp) :
    ReturnsInHanded {} Tryd.checked os 5 .any ((OpenSpec.ofChange Rows.fnSetBitSpec).preRow enc Tryd.prog Tryd.f5 Rows.fnSetBitRow.domain false Rows.fnSetBitRow.laid) (((OpenSpec.ofChange Rows.fnSetBitSpec).at F).post enc Tryd.prog Tryd.f5 false true false false) := by
  obtain ⟨d, e, x, g, places, hx⟩ := fnSetBit_reads os enc
  refine returnsInHanded_of_row (C := Tryd.checked) (s := OpenSpec.ofChange Rows.fnSetBitSpec) own_knob started (by kernel_rfl) Tryd.func5
    (witness_row_atRef (enc := enc) (C := Tryd.checked) false (oneWorld os) #[.agg #[.bool false, .slice none 0 0], .int .u16 0, .int .u8 0] rfl (by kernel_rfl) (by kernel_rfl) (by kernel_rfl)
      (OpenSpec.preRow_of_cond 8 hx (by kernel_rfl) (fun k hk => by cases hk) (by kernel_rfl) (fnSetBit_laid os))) ?_
  intro W base args ds gs before hval hW _ _ _ hL _ _
  exact fnSetBit_contract H enc W base args ds gs before hval hW hL

theorem fnSetBit_said : Rows.FnSetBitSaid :=
  OpenClaim.holds_of_cond 5 Tryd.f5 rfl rfl rfl rfl rfl rfl rfl ⟨rfl, rfl, rfl, rfl, rfl⟩ rfl rfl rfl rfl rfl (by kernel_rfl) Tryd.func5 (by kernel_rfl)
    (of_decide_eq_true (by kernel_rfl)) (by unfold Func.isWrapper; first | (rw [if_pos (by decide +kernel)]; kernel_rfl) | (rw [if_neg (by decide +kernel)]; exact ⟨rfl, rfl⟩))
    (fun os started H enc _ F => by rw [OpenClaim.pre_eq_preRow]; exact fnSetBit_lifted os started H enc F)

theorem fnSetBit_plain (f : FuncId) (fn : Func) (hf : Tryd.pinned.checked.prog.funcNamed "loop.example/pub-g03125/laws.FnSetBit" = some f) (hfn : Tryd.pinned.checked.prog.funcs[f]? = some fn) :
    true = Tryd.pinned.checked.prog.looks [] ∧ ∀ (j : Nat) t, fn.params[j]? = some t → Tryd.pinned.checked.prog.wantsStandIn t = false := by
  obtain rfl : f = 5 := Option.some.inj ((show Tryd.prog.funcNamed "loop.example/pub-g03125/laws.FnSetBit" = some 5 by kernel_rfl).symm.trans hf) |>.symm
  obtain rfl : fn = Tryd.f5 := (Option.some.inj (Tryd.func5.symm.trans hfn)).symm
  refine ⟨by kernel_rfl, fun j t ht => ?_⟩
  rw [Tryd.params5] at ht
  have hm : t = 24 ∨ t = 35 ∨ t = 5 := by simpa using Array.mem_of_getElem? ht
  rcases hm with rfl | rfl | rfl
  · exact (show Tryd.prog.wantsStandIn 24 = false by kernel_rfl)
  · exact (show Tryd.prog.wantsStandIn 35 = false by kernel_rfl)
  · exact (show Tryd.prog.wantsStandIn 5 = false by kernel_rfl)

/-- The card. -/
theorem fnSetBit_card : Rows.FnSetBitCardSaid :=
  Claim7.holds_tied_plain_at .later [] _ _ _ _ fnSetBit_said (fun _ h => by cases h) (by kernel_rfl) (fun _ h => by cases h) fnSetBit_row_tie rfl ⟨rfl, rfl⟩ (by kernel_rfl) rfl fnSetBit_plain (by kernel_rfl)
#print axioms fnSetBit_card
end Go.Proofs.YtidifjmjbfhpaaaDoor
