/- laws.FnZeros: for every Number the call returns true, and what was there reads behind the call as it read before; the row and its tied card. -/
import Derived.Test.YtidifjmjbfhpaaaDoorCards
import Derived.Test.YtidifjmjbfhpaaaDoorTie
import Derived.Test.YtidifjmjbfhpaaaDoorOpenNumber
import Derived.Test.YtidifjmjbfhpaaaDoorFnZerosWalk
import Derived.WalkKit
import Derived.ProofKit
import Derived.OpenShut
import Derived.Deep.DeepHandedRow
import Derived.Lib.LaidTab
import Derived.Stop.LaidErr
import Derived.Below
namespace Go.Proofs.YtidifjmjbfhpaaaDoor
open Go.ChangeShapes Go.WideShapes Go.ChangeAt Go.RowKit
set_option linter.unusedVariables false
set_option maxRecDepth 20000

theorem gTab : Tryd.prog.globalNamed "math/bits.deBruijn64tab" = some 3 := by kernel_rfl
theorem gTabType : (Tryd.prog.globals[3]?).map (·.type) = some 122 := by kernel_rfl
theorem cellsTab : Tryd.prog.cellsOf 122 = 64 := by kernel_rfl
theorem cellsU8 : Tryd.prog.cellsOf 5 = 1 := by kernel_rfl

/-- What the row's list gives: the table's cells hold its numbers. -/
theorem tab_of_laid {W : World} (h : laidMetH Tryd.prog Rows.fnZerosRow.laid W) : Tab W := by
  have h1 : laidMet Tryd.prog (("math/bits.deBruijn64tab", Lib.tabData .u8 (Lib.deBruijn64tab.map fun (n : Nat) => (n : Int))) :: []) W := laidMet.tail h
  have h2 := Lib.tabIs_of_head gTab gTabType Tryd.underlying122 Tryd.underlying5 cellsU8 cellsTab h1
  intro j hj
  have h3 := h2.cell gTab j (by simpa [Lib.deBruijn64tab] using hj)
  rw [h3]
  congr 2
  have : j < Lib.deBruijn64tab.length := by simpa [Lib.deBruijn64tab] using hj
  simp [List.getD, this]

theorem fnZeros_contract (H : Type) (enc : TypeId × Value → H) (W : World) (base : Nat) (args : Array Value) (ds gs : List (DataW H)) (before : List MemPlace)
    (hval : ∀ (j : Nat) t v, Tryd.f3.params[j]? = some t → args[j]? = some v → Value.okWide Tryd.prog W .any base t v)
    (hW : DataW.Whole enc Tryd.prog Tryd.f3.params.toList Rows.fnZerosSpec.vars false W args.toList ds gs before) (hL : laidMetH Tryd.prog Rows.fnZerosRow.laid W) :
    Calls Tryd.prog 3 args W fun e W' => ∃ v, e = .returned v ∧ Rows.fnZerosSpec.post enc Tryd.prog Tryd.f3 false true false false W args v W' := by
  have hW' := hW
  obtain ⟨p, q, hA0, hV, rfl, hfz, hnd⟩ := hW
  have hA : DataW.TrodAll enc Tryd.prog W 0 (fun _ => true) true Tryd.f3.params.toList args.toList ds p := hA0
  rw [Tryd.params3] at hA hval
  obtain ⟨v0, vs0, d0, ds0, p0, q0, hargs, rfl, rfl, h0, r0⟩ := trodAll_cons hA
  obtain ⟨rfl, rfl, rfl⟩ := trodAll_nil r0
  obtain rfl : args = #[v0] := by cases args; simp_all
  obtain ⟨rfl, rfl⟩ := trodVars_none hV
  have k0 := h0
  have lt0 : ∀ x ∈ p0, x.block < W.heap.size := by obtain ⟨m, hm⟩ := k0; exact DataW.trod_lt m _ _ _ hm
  obtain ⟨neg, ao, n, cap, f, rfl, hrd, hf, hl, hc⟩ := open_number (hval 0 24 v0 rfl rfl) h0
  clear hA0
  refine (fnZeros_walk neg ao n cap f hf W hl hc hrd (tab_of_laid hL)).mono fun e W' ⟨he, bel⟩ => ?_
  subst he
  exact ⟨_, rfl, _, _, _, [], _, [], hW', trodAll_mk1 (shut_bool Tryd.underlying4 _), (trodAll_cons_mk (Below.trod laid_out (by kernel_rfl) (of_decide_eq_true (by kernel_rfl)) k0 bel lt0) trodAll_mk0), rfl, bel.frame _, fun h => by cases h⟩

/-- For the world of the witness: the settled one, the two tables holding what their initialisers lay. -/
def tabObj (tab : List Nat) : Obj → Obj
  | .cells _ t frozen => .cells (tab.map fun (n : Nat) => Value.int .u8 n).toArray t frozen
  | o => o
noncomputable def zerosWorld (os : Os) : World :=
  { World.holding Tryd.prog os ⟨#[], #[], []⟩ with heap := ((World.holding Tryd.prog os ⟨#[], #[], []⟩).heap.modify 3 (tabObj Lib.deBruijn64tab)).modify 2 (tabObj Lib.deBruijn32tab) }
theorem zeros_laid (os : Os) : laidMet Tryd.prog Rows.fnZerosRow.laid ((zerosWorld os).forCall (fun _ _ => 0) ⟨#[], #[.agg #[.bool false, .slice none 0 0]], []⟩).memory :=
  laidMet_of_run' 8 (by kernel_rfl) (by kernel_rfl)
theorem zeros_reads (os : Os) {H : Type} (enc : TypeId × Value → H) : ∃ d places, DataW.whole enc Tryd.prog ((zerosWorld os).forCall (fun _ _ => 0) ⟨#[], #[.agg #[.bool false, .slice none 0 0]], []⟩).memory Tryd.f3.params.toList Rows.fnZerosSpec.vars false #[Value.agg #[.bool false, .slice none 0 0]].toList 8 = some ([d], [], places) :=
  ⟨.agg [.lit (.bool false), .nil], [], by kernel_rfl⟩

set_option maxRecDepth 100000 in
theorem fnZeros_lifted (os : Os) (started : os.Started) (H : Type) (enc : TypeId × Value → H) (F : Stop.Interp) :
    ReturnsInHanded {} Tryd.checked os 3 .any ((OpenSpec.ofChange Rows.fnZerosSpec).preRow enc Tryd.prog Tryd.f3 Rows.fnZerosRow.domain false Rows.fnZerosRow.laid) (((OpenSpec.ofChange Rows.fnZerosSpec).at F).post enc Tryd.prog Tryd.f3 false true false false) := by
  obtain ⟨d, places, hx⟩ := zeros_reads os enc
  refine returnsInHanded_of_row (C := Tryd.checked) (s := OpenSpec.ofChange Rows.fnZerosSpec) own_knob started (by kernel_rfl) Tryd.func3
    (witness_row_at (enc := enc) (C := Tryd.checked) false (zerosWorld os) #[.agg #[.bool false, .slice none 0 0]] rfl (by kernel_rfl) (by kernel_rfl) (by kernel_rfl)
      (OpenSpec.preRow_of_cond 8 hx (by kernel_rfl) (fun k hk => by cases hk) (by kernel_rfl) (zeros_laid os))) ?_
  intro W base args ds gs before hval hW _ _ _ hL _ _
  exact fnZeros_contract H enc W base args ds gs before hval hW hL

theorem fnZeros_said : Rows.FnZerosSaid :=
  OpenClaim.holds_of_cond 3 Tryd.f3 rfl rfl rfl rfl rfl rfl rfl ⟨rfl, rfl, rfl, rfl, rfl⟩ rfl rfl rfl rfl rfl (by kernel_rfl) Tryd.func3 (by kernel_rfl)
    (of_decide_eq_true (by kernel_rfl)) (by unfold Func.isWrapper; first | (rw [if_pos (by decide +kernel)]; kernel_rfl) | (rw [if_neg (by decide +kernel)]; exact ⟨rfl, rfl⟩))
    (fun os started H enc _ F => by rw [OpenClaim.pre_eq_preRow]; exact fnZeros_lifted os started H enc F)

theorem fnZeros_plain (f : FuncId) (fn : Func) (hf : Tryd.pinned.checked.prog.funcNamed "loop.example/pub-g03125/laws.FnZeros" = some f) (hfn : Tryd.pinned.checked.prog.funcs[f]? = some fn) :
    true = Tryd.pinned.checked.prog.looks [] ∧ ∀ (j : Nat) t, fn.params[j]? = some t → Tryd.pinned.checked.prog.wantsStandIn t = false := by
  obtain rfl : f = 3 := Option.some.inj ((show Tryd.prog.funcNamed "loop.example/pub-g03125/laws.FnZeros" = some 3 by kernel_rfl).symm.trans hf) |>.symm
  obtain rfl : fn = Tryd.f3 := (Option.some.inj (Tryd.func3.symm.trans hfn)).symm
  refine ⟨by kernel_rfl, fun j t ht => ?_⟩
  rw [Tryd.params3] at ht
  obtain rfl : t = 24 := by simpa using Array.mem_of_getElem? ht
  exact (show Tryd.prog.wantsStandIn 24 = false by kernel_rfl)

/-- The card. -/
theorem fnZeros_card : Rows.FnZerosCardSaid :=
  Claim7.holds_tied_plain_at .later [] _ _ _ _ fnZeros_said (fun _ h => by cases h) (by kernel_rfl) (fun _ h => by cases h) fnZeros_row_tie rfl ⟨rfl, rfl⟩ (by kernel_rfl) rfl fnZeros_plain (by kernel_rfl)
#print axioms fnZeros_card
end Go.Proofs.YtidifjmjbfhpaaaDoor
