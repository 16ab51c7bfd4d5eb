/- laws.FnParse: for every text and every base the call returns true, and what was there reads behind the call as it read before; the row and its tied card. -/
import Derived.Test.YtidifjmjbfhpaaaDoorCards
import Derived.Test.YtidifjmjbfhpaaaDoorTie
import Derived.Test.YtidifjmjbfhpaaaDoorOpenNumber
import Derived.Test.YtidifjmjbfhpaaaDoorFnParseWalk
import Derived.WalkKit
import Derived.ProofKit
import Derived.OpenShut
import Derived.ChangeVars
import Derived.ChangeMaps5
import Derived.LaidLaws
import Derived.Stop.LaidErr
import Derived.Deep.DeepHandedRow
import Derived.Deep.DeepWitnessRowRef
import Derived.Below
namespace Go.Proofs.YtidifjmjbfhpaaaDoor
open Go.ChangeShapes Go.WideShapes Go.ChangeAt Go.RowKit Go.ChangeMaps
set_option linter.unusedVariables false
set_option maxRecDepth 20000

theorem gEof : Tryd.prog.globalNamed "io.EOF" = some 1 := by kernel_rfl
theorem gNoDigits : Tryd.prog.globalNamed "loop.example/pub-g03125/pub/big.errNoDigits" = some 5 := by kernel_rfl
theorem gInvalSep : Tryd.prog.globalNamed "loop.example/pub-g03125/pub/big.errInvalSep" = some 4 := by kernel_rfl
theorem gEofType : (Tryd.prog.globals[1]?).map (·.type) = some 103 := by kernel_rfl
theorem gNoDigitsType : (Tryd.prog.globals[5]?).map (·.type) = some 103 := by kernel_rfl
theorem gInvalSepType : (Tryd.prog.globals[4]?).map (·.type) = some 103 := by kernel_rfl
theorem cellsErr : Tryd.prog.cellsOf 160 = 1 := by kernel_rfl
theorem cellsStr : Tryd.prog.cellsOf 9 = 1 := by kernel_rfl
theorem errStar : "*" ++ "errors.errorString" = "*errors.errorString" := by decide
theorem errRow (u : TypeId) (h : Tryd.prog.typeName? 3 u = some "*errors.errorString") : u = 143 :=
  typeName_ptr_named (nm := "errors.errorString") (by rw [errStar]; kernel_rfl) (by kernel_rfl) (by decide) u (by rw [errStar]; exact h)

theorem sentinel {W : World} {n : String} {text : List UInt8} {r : List (String × DataW Unit)} {g : Nat} (h : laidMet Tryd.prog ((n, .iface "*errors.errorString" (.ptr (.agg [.lit (.string text)]))) :: r) W)
    (hg : Tryd.prog.globalNamed n = some g) (ht : (Tryd.prog.globals[g]?).map (·.type) = some 103) : ∃ a : Addr, W.var? Tryd.prog n = some #[eof a] ∧ Glob W g (eof a) := by
  obtain ⟨a, s, hv, _⟩ := laid_sentinel h hg ht Tryd.underlying103 errRow Tryd.underlying143 Tryd.underlying160 rfl rfl Tryd.underlying9 cellsErr cellsStr
  exact ⟨a, hv, by have := World.var?_cell hg hv 0; simp at this; exact this⟩

theorem var_below {W W' : World} {n : String} {g : Nat} {v : Value} {cs : Array Value} (hb : Below W.heap.size W W') (hg : Tryd.prog.globalNamed n = some g) (hc : Glob W g v) (h : W.var? Tryd.prog n = some cs) : W'.var? Tryd.prog n = some cs := by
  unfold World.var? at h ⊢
  rw [hg] at h ⊢
  simp only [Option.bind_some] at h ⊢
  rw [hb.block g (World.block_lt_of_cell? _ _ hc)]
  exact h

theorem fnParse_contract (H : Type) (enc : TypeId × Value → H) (W : World) (base : Nat) (args : Array Value) (ds gs : List (DataW H)) (before : List MemPlace)
    (hval : ∀ (j : Nat) t v, Tryd.f6.params[j]? = some t → args[j]? = some v → Value.okWide Tryd.prog W .any base t v)
    (hW : DataW.Whole enc Tryd.prog Tryd.f6.params.toList Rows.fnParseSpec.vars false W args.toList ds gs before) (hL : laidMetH Tryd.prog Rows.fnParseRow.laid W) :
    Calls Tryd.prog 6 args W fun e W' => ∃ v, e = .returned v ∧ Rows.fnParseSpec.post enc Tryd.prog Tryd.f6 false true false false W args v W' := by
  have hW' := hW
  obtain ⟨p, q, hA0, hV, rfl, hfz, hnd⟩ := hW
  have hA : DataW.TrodAll enc Tryd.prog W 0 (fun _ => true) true Tryd.f6.params.toList args.toList ds p := hA0
  have hV' : DataW.TrodVars enc Tryd.prog W (fun _ => true) ["loop.example/pub-g03125/pub/big.errInvalSep", "loop.example/pub-g03125/pub/big.errNoDigits"] gs q := hV
  rw [Tryd.params6] at hA hval
  obtain ⟨v0, vs0, d0, ds0, p0, q0, hargs, rfl, rfl, h0, r0⟩ := trodAll_cons hA
  obtain ⟨v1, vs1, d1, ds1, p1, q1, rfl, rfl, rfl, h1, r1⟩ := trodAll_cons r0
  obtain ⟨rfl, rfl, rfl⟩ := trodAll_nil r1
  obtain rfl : args = #[v0, v1] := by cases args; simp_all
  obtain ⟨s, rfl, rfl, rfl, hsm⟩ := open_string Tryd.underlying9 (hval 0 9 v0 rfl rfl) h0
  obtain ⟨a1, rfl, rfl, rfl, w1⟩ := open_int Tryd.underlying5 (hval 1 5 v1 rfl rfl) h1
  have hb1 := bounds_u8 w1
  obtain ⟨N, rfl⟩ : ∃ N : Nat, a1 = (N : Int) := ⟨a1.toNat, by omega⟩
  have hL1 : laidMet Tryd.prog Rows.fnParseRow.laid W := hL
  obtain ⟨a, hv1, he1⟩ := sentinel hL1 gEof gEofType
  obtain ⟨a2, hv5, he5⟩ := sentinel hL1.tail gNoDigits gNoDigitsType
  obtain ⟨a4, hv4, he4⟩ := sentinel hL1.tail.tail gInvalSep gInvalSepType
  obtain ⟨rfl, rfl⟩ := hV'.unique (vars_read2 enc gInvalSep gInvalSepType Tryd.underlying103 hv4 trivial gNoDigits gNoDigitsType Tryd.underlying103 hv5 trivial _)
  clear hA0 hV
  refine (fnParse_walk s N (by omega) a a2 W he1 he5 (World.block_lt_of_cell? _ _ he5)).mono fun e W' ⟨he, bel⟩ => ?_
  subst he
  have hvars := vars_read2 enc gInvalSep gInvalSepType Tryd.underlying103 (var_below bel gInvalSep he4 hv4) trivial gNoDigits gNoDigitsType Tryd.underlying103 (var_below bel gNoDigits he5 hv5) trivial (fun b => decide (b < W.heap.size))
  exact ⟨_, rfl, _, _, _, [], _, _, hW', trodAll_mk1 (shut_bool Tryd.underlying4 _), (trodAll_cons_mk (shut_string Tryd.underlying9 hsm) (trodAll_cons_mk (shut_int Tryd.underlying5 w1) trodAll_mk0)), hvars, bel.frame _, fun h => by cases h⟩

def errObj (B : Nat) : Obj → Obj
  | .cells _ t frozen => .cells #[.iface 143 (.pointer (some ⟨B, 0, none⟩))] t frozen
  | o => o
def eofText : ByteArray := { data := #[69, 79, 70] }
def noDigitsText : ByteArray := { data := #[110, 117, 109, 98, 101, 114, 32, 104, 97, 115, 32, 110, 111, 32, 100, 105, 103, 105, 116, 115] }
def invalSepText : ByteArray := { data := #[39, 95, 39, 32, 109, 117, 115, 116, 32, 115, 101, 112, 97, 114, 97, 116, 101, 32, 115, 117, 99, 99, 101, 115, 115, 105, 118, 101, 32, 100, 105, 103, 105, 116, 115] }
/-- For the world of the witness: the settled one, the three errors as their initialisers lay them. -/
noncomputable def parseWorld (os : Os) : World :=
  { World.holding Tryd.prog os ⟨#[], #[], []⟩ with heap := (((((((World.holding Tryd.prog os ⟨#[], #[], []⟩).heap.modify 1 (errObj (World.holding Tryd.prog os ⟨#[], #[], []⟩).heap.size)).modify 5 (errObj ((World.holding Tryd.prog os ⟨#[], #[], []⟩).heap.size + 1))).modify 4 (errObj ((World.holding Tryd.prog os ⟨#[], #[], []⟩).heap.size + 2))).push (.cells #[.string eofText] 160 (0, 0))).push (.cells #[.string noDigitsText] 160 (0, 0))).push (.cells #[.string invalSepText] 160 (0, 0))) }

theorem fnParse_laid (os : Os) : laidMet Tryd.prog Rows.fnParseRow.laid ((parseWorld os).forCall (fun _ _ => 0) ⟨#[], #[.string { data := #[] }, .int .u8 0], []⟩).memory :=
  laidMet_of_run' 8 (by kernel_rfl) (by kernel_rfl)
theorem fnParse_reads (os : Os) {H : Type} (enc : TypeId × Value → H) : ∃ d0 d1 g0 g1 places, DataW.whole enc Tryd.prog ((parseWorld os).forCall (fun _ _ => 0) ⟨#[], #[.string { data := #[] }, .int .u8 0], []⟩).memory Tryd.f6.params.toList Rows.fnParseSpec.vars false #[Value.string { data := #[] }, .int .u8 0].toList 8 = some ([d0, d1], [g0, g1], places) := by
  have h : (DataW.whole enc Tryd.prog ((parseWorld os).forCall (fun _ _ => 0) ⟨#[], #[.string { data := #[] }, .int .u8 0], []⟩).memory Tryd.f6.params.toList Rows.fnParseSpec.vars false #[Value.string { data := #[] }, .int .u8 0].toList 8).map (fun x => (x.1.length, x.2.1.length)) = some (2, 2) := by kernel_rfl
  obtain ⟨⟨a, b, c⟩, h1, h2⟩ := Option.map_eq_some_iff.1 h
  simp only [Prod.mk.injEq] at h2
  obtain ⟨x0, x1, rfl⟩ : ∃ x0 x1, a = [x0, x1] := by
    match a, h2.1 with
    | [x0, x1], _ => exact ⟨x0, x1, rfl⟩
  obtain ⟨y0, y1, rfl⟩ : ∃ x0 x1, b = [x0, x1] := by
    match b, h2.2 with
    | [x0, x1], _ => exact ⟨x0, x1, rfl⟩
  exact ⟨_, _, _, _, _, h1⟩

set_option maxRecDepth 100000 in
theorem fnParse_lifted (os : Os) (started : os.Started) (H : Type) (enc : TypeId × Value → H) (F : Stop.Interp) :
    ReturnsInHanded {} Tryd.checked os 6 .any ((OpenSpec.ofChange Rows.fnParseSpec).preRow enc Tryd.prog Tryd.f6 Rows.fnParseRow.domain false Rows.fnParseRow.laid) (((OpenSpec.ofChange Rows.fnParseSpec).at F).post enc Tryd.prog Tryd.f6 false true false false) := by
  obtain ⟨d0, d1, g0, g1, places, hx⟩ := fnParse_reads os enc
  refine returnsInHanded_of_row (C := Tryd.checked) (s := OpenSpec.ofChange Rows.fnParseSpec) own_knob started (by kernel_rfl) Tryd.func6
    (witness_row_atRef (enc := enc) (C := Tryd.checked) false (parseWorld os) #[.string { data := #[] }, .int .u8 0] rfl (by kernel_rfl) (by kernel_rfl) (by kernel_rfl)
      (OpenSpec.preRow_of_cond 8 hx (by kernel_rfl) (fun k hk => by cases hk) (by kernel_rfl) (fnParse_laid os))) ?_
  intro W base args ds gs before hval hW _ _ _ hL _ _
  exact fnParse_contract H enc W base args ds gs before hval hW hL

theorem fnParse_said : Rows.FnParseSaid :=
  OpenClaim.holds_of_cond 6 Tryd.f6 rfl rfl rfl rfl rfl rfl rfl ⟨rfl, rfl, rfl, rfl, rfl⟩ rfl rfl rfl rfl rfl (by kernel_rfl) Tryd.func6 (by kernel_rfl)
    (of_decide_eq_true (by kernel_rfl)) (by unfold Func.isWrapper; first | (rw [if_pos (by decide +kernel)]; kernel_rfl) | (rw [if_neg (by decide +kernel)]; exact ⟨rfl, rfl⟩))
    (fun os started H enc _ F => by rw [OpenClaim.pre_eq_preRow]; exact fnParse_lifted os started H enc F)

theorem fnParse_plain (f : FuncId) (fn : Func) (hf : Tryd.pinned.checked.prog.funcNamed "loop.example/pub-g03125/laws.FnParse" = some f) (hfn : Tryd.pinned.checked.prog.funcs[f]? = some fn) :
    true = Tryd.pinned.checked.prog.looks [] ∧ ∀ (j : Nat) t, fn.params[j]? = some t → Tryd.pinned.checked.prog.wantsStandIn t = false := by
  obtain rfl : f = 6 := Option.some.inj ((show Tryd.prog.funcNamed "loop.example/pub-g03125/laws.FnParse" = some 6 by kernel_rfl).symm.trans hf) |>.symm
  obtain rfl : fn = Tryd.f6 := (Option.some.inj (Tryd.func6.symm.trans hfn)).symm
  refine ⟨by kernel_rfl, fun j t ht => ?_⟩
  rw [Tryd.params6] at ht
  have hm : t = 9 ∨ t = 5 := by simpa using Array.mem_of_getElem? ht
  rcases hm with rfl | rfl
  · exact (show Tryd.prog.wantsStandIn 9 = false by kernel_rfl)
  · exact (show Tryd.prog.wantsStandIn 5 = false by kernel_rfl)

/-- The card. -/
theorem fnParse_card : Rows.FnParseCardSaid :=
  Claim7.holds_tied_plain_at .later [] _ _ _ _ fnParse_said (fun _ h => by cases h) (by kernel_rfl) (fun _ h => by cases h) fnParse_row_tie rfl ⟨rfl, rfl⟩ (by kernel_rfl) rfl fnParse_plain (by kernel_rfl)
#print axioms fnParse_card
end Go.Proofs.YtidifjmjbfhpaaaDoor
