/-
  No cell of these rows narrows 'for every input' (looked for: loops, veiled, ifaces, maps, wideKeys, modest, calm, conditions, laid).
  DERIVED. THE GIVEN ROWS OF THIS SEAT. 3 by the template 'for every input the law returns true; each argument reads behind the call as it read before'; 0 by the template 'total and deterministic' (their statements: YtidifjmjbfhpaaaTotals.lean).
  GIVEN WITH THE SEED: the statements are not yours to turn. If you find one false, say at which input.
  Laid BY PROGRAM, IN A SANDBOX (cutbox-rows.mjs): the forced cells as the released guide's own fill.sh prints them over the translation 3b4e287ec98a9e5f… (all of the seat's roots in one cut). By AI agents, Wed Nov 11 2026. No macro, syntax, notation, axiom, sorry.
-/
import Derived.Test.YtidifjmjbfhpaaaChecked
import GoSem.Claim
import GoSem.ClaimJoined
import GoSem.ClaimMapViews
import Derived.JoinedTies
import Derived.KernelRfl
namespace Go.Proofs.Ytidifjmjbfhpaaa
/- THE CELL 'sum', in the pinned program and in every row, IS THE sha256 OF THE DUMP (.gsa) THAT YtidifjmjbfhpaaaProg.lean LOADS. Nothing in Lean hashes anything: it is a label: what it is worth is what the hold of that sum in a sandbox is worth. -/
noncomputable def Try.pinned : Pinned := { name := "ytidifjmjbfhpaaa", sum := "3b4e287ec98a9e5f0bac488548d7e2b2bbd4da142c5457a4d44d64ca64a2686d", checked := Try.checked }
namespace Rows
def none {H : Type} : Left H := { results := [], args := [] }

/-- 'laws.FnFromBytes': WHATEVER THE INPUT: true; the input reads as it did. -/
def fnFromBytesSpec : ChangeSpec := { name := "fnFromBytes", fn := fun _ => fun
  | [d] => { results := [.lit (.bool true)], args := [d] }
  | _ => none }
def fnFromBytesRow : OpenClaim := { program := "ytidifjmjbfhpaaa", sum := "3b4e287ec98a9e5f0bac488548d7e2b2bbd4da142c5457a4d44d64ca64a2686d", func := "loop.example/pub-g03125/laws.FnFromBytes", spec := "fnFromBytes", apart := false }
def FnFromBytesSaid : Prop := fnFromBytesRow.holds Try.pinned (OpenSpec.ofChange fnFromBytesSpec)

/-- ITS FALSE NEIGHBOUR: 'it returns false'. Refute it at one input. -/
def fnFromBytesWrong : ChangeSpec := { name := "fnFromBytes", fn := fun _ => fun
  | [d] => { results := [.lit (.bool false)], args := [d] }
  | _ => none }
def FnFromBytesWrongFalsely : Prop := fnFromBytesRow.holds Try.pinned (OpenSpec.ofChange fnFromBytesWrong)

/-- 'laws.FnBytes': WHATEVER THE INPUT: true; the input reads as it did. -/
def fnBytesSpec : ChangeSpec := { name := "fnBytes", fn := fun _ => fun
  | [d] => { results := [.lit (.bool true)], args := [d] }
  | _ => none }
def fnBytesRow : OpenClaim := { program := "ytidifjmjbfhpaaa", sum := "3b4e287ec98a9e5f0bac488548d7e2b2bbd4da142c5457a4d44d64ca64a2686d", func := "loop.example/pub-g03125/laws.FnBytes", spec := "fnBytes", apart := false }
def FnBytesSaid : Prop := fnBytesRow.holds Try.pinned (OpenSpec.ofChange fnBytesSpec)

/-- ITS FALSE NEIGHBOUR: 'it returns false'. Refute it at one input. -/
def fnBytesWrong : ChangeSpec := { name := "fnBytes", fn := fun _ => fun
  | [d] => { results := [.lit (.bool false)], args := [d] }
  | _ => none }
def FnBytesWrongFalsely : Prop := fnBytesRow.holds Try.pinned (OpenSpec.ofChange fnBytesWrong)

/-- 'laws.FnFill': WHATEVER THE INPUT: true; the input reads as it did. -/
def fnFillSpec : ChangeSpec := { name := "fnFill", fn := fun _ => fun
  | [d1, d2] => { results := [.lit (.bool true)], args := [d1, d2] }
  | _ => none }
def fnFillRow : OpenClaim := { program := "ytidifjmjbfhpaaa", sum := "3b4e287ec98a9e5f0bac488548d7e2b2bbd4da142c5457a4d44d64ca64a2686d", func := "loop.example/pub-g03125/laws.FnFill", spec := "fnFill", unfollowed := true, recurses := true, apart := false }
def FnFillSaid : Prop := fnFillRow.holds Try.pinned (OpenSpec.ofChange fnFillSpec)

/-- ITS FALSE NEIGHBOUR: 'it returns false'. Refute it at one input. -/
def fnFillWrong : ChangeSpec := { name := "fnFill", fn := fun _ => fun
  | [d1, d2] => { results := [.lit (.bool false)], args := [d1, d2] }
  | _ => none }
def FnFillWrongFalsely : Prop := fnFillRow.holds Try.pinned (OpenSpec.ofChange fnFillWrong)

/- THE SECOND FORM. 'bulk': how many values and letters a reading holds, each counted each time it is reached (what is shared counts as often as it is met; a slice's spare places count too). A statement '..UptoSaid' is the law's where the arguments, and the package variables that the reading takes, are together of bulk at most 1048576: NARROWER than '..Said'. Prove '..Said' where nothing that the law and all that it calls make is longer than what came in: it says more and counts as full. Else prove '..UptoSaid'. A law counts once. -/
mutual
def uptoBulk {H : Type} : DataW H → Nat
  | .lit (.string bytes) => bytes.length + 1
  | .lit _ => 1
  | .nil => 1
  | .ptr d => uptoBulk d + 1
  | .slice elems spare => uptoBulkAll elems + uptoBulkAll spare + 1
  | .agg parts => uptoBulkAll parts + 1
  | .iface _ d => uptoBulk d + 1
  | .map entries => uptoBulkEntries entries + 1
  | .held _ => 1
def uptoBulkAll {H : Type} : List (DataW H) → Nat
  | [] => 0
  | d :: r => uptoBulk d + uptoBulkAll r
def uptoBulkEntries {H : Type} : List (Lit × DataW H) → Nat
  | [] => 0
  | x :: r => uptoBulkEntry x + uptoBulkEntries r
def uptoBulkEntry {H : Type} : Lit × DataW H → Nat
  | (.string bytes, d) => bytes.length + uptoBulk d + 1
  | (_, d) => uptoBulk d + 1
 end
def uptoSmall : (H : Type) → List (DataW H) → Bool := fun _ ds => decide (uptoBulkAll ds ≤ 1048576)
def OpenSpec.upto (s : _root_.Go.ChangeSpec) : _root_.Go.OpenSpec := { _root_.Go.OpenSpec.ofChange s with cond := some uptoSmall }

/-- 'laws.FnFromBytes', WHERE WHAT IT READS IS OF BULK AT MOST 1048576: true; the input reads as it did. -/
def fnFromBytesUptoRow : OpenClaim := { program := "ytidifjmjbfhpaaa", sum := "3b4e287ec98a9e5f0bac488548d7e2b2bbd4da142c5457a4d44d64ca64a2686d", func := "loop.example/pub-g03125/laws.FnFromBytes", spec := "fnFromBytes", apart := false, narrowed := true }
def FnFromBytesUptoSaid : Prop := fnFromBytesUptoRow.holds Try.pinned (OpenSpec.upto fnFromBytesSpec)

/-- 'laws.FnBytes', WHERE WHAT IT READS IS OF BULK AT MOST 1048576: true; the input reads as it did. -/
def fnBytesUptoRow : OpenClaim := { program := "ytidifjmjbfhpaaa", sum := "3b4e287ec98a9e5f0bac488548d7e2b2bbd4da142c5457a4d44d64ca64a2686d", func := "loop.example/pub-g03125/laws.FnBytes", spec := "fnBytes", apart := false, narrowed := true }
def FnBytesUptoSaid : Prop := fnBytesUptoRow.holds Try.pinned (OpenSpec.upto fnBytesSpec)

/-- 'laws.FnFill', WHERE WHAT IT READS IS OF BULK AT MOST 1048576: true; the input reads as it did. -/
def fnFillUptoRow : OpenClaim := { program := "ytidifjmjbfhpaaa", sum := "3b4e287ec98a9e5f0bac488548d7e2b2bbd4da142c5457a4d44d64ca64a2686d", func := "loop.example/pub-g03125/laws.FnFill", spec := "fnFill", unfollowed := true, recurses := true, apart := false, narrowed := true }
def FnFillUptoSaid : Prop := fnFillUptoRow.holds Try.pinned (OpenSpec.upto fnFillSpec)

end Rows
end Go.Proofs.Ytidifjmjbfhpaaa
