/-
  NARROWER THAN 'FOR EVERY INPUT', by the rows' own cells (each row's printed sentence says how): FnZeros: laid · FnBit: laid · FnSetBit: laid · FnParse: ifaces, laid · FnBits: laid · FnDeMorgan: laid · FnNotNot: laid.
  DERIVED. THE GIVEN ROWS OF THIS SEAT. 7 by the template 'for every input the law returns true; each argument reads behind the call as it read before'; 0 by the template 'total and deterministic' (their statements: YtidifjmjbfhpaaaDoorTotals.lean).
  GIVEN WITH THE SEED: the statements are not yours to turn. If you find one false, say at which input.
  Laid BY PROGRAM, IN A SANDBOX (cutbox-rows.mjs): the forced cells as the released guide's own fill.sh prints them over the translation c1259500942a739e… (all of the seat's roots in one cut). By AI agents, Wed Nov 11 2026. No macro, syntax, notation, axiom, sorry.
-/
import Derived.Test.YtidifjmjbfhpaaaDoorChecked
import GoSem.Claim
import GoSem.ClaimJoined
import GoSem.ClaimMapViews
import Derived.JoinedTies
import Derived.KernelRfl
namespace Go.Proofs.YtidifjmjbfhpaaaDoor
/- THE CELL 'sum', in the pinned program and in every row, IS THE sha256 OF THE DUMP (.gsa) THAT YtidifjmjbfhpaaaDoorProg.lean LOADS. Nothing in Lean hashes anything: it is a label: what it is worth is what the hold of that sum in a sandbox is worth. -/
noncomputable def Tryd.pinned : Pinned := { name := "ytidifjmjbfhpaaadoor", sum := "c1259500942a739ea3026f9c8aa5a36eb7d580767b049c991bdfa07dfd2d2511", checked := Tryd.checked }
namespace Rows
def none {H : Type} : Left H := { results := [], args := [] }

/- WHAT THE LISTED PACKAGE-LEVEL VARIABLES READ AS WHEN THE CALL BEGINS. Each datum BY PROGRAM (the guide's laid-datum.mjs) off the statement by which the dump's own 'gosem.cut.vars' lays the variable. In a bare row this is a premise. The card (YtidifjmjbfhpaaaDoorCards.lean) ties it to the program's text. -/
def laid_math_bits_deBruijn32tab {H : Type} : DataW H := .agg [.lit (.int .u8 0), .lit (.int .u8 1), .lit (.int .u8 28), .lit (.int .u8 2), .lit (.int .u8 29), .lit (.int .u8 14), .lit (.int .u8 24), .lit (.int .u8 3), .lit (.int .u8 30), .lit (.int .u8 22), .lit (.int .u8 20), .lit (.int .u8 15), .lit (.int .u8 25), .lit (.int .u8 17), .lit (.int .u8 4), .lit (.int .u8 8), .lit (.int .u8 31), .lit (.int .u8 27), .lit (.int .u8 13), .lit (.int .u8 23), .lit (.int .u8 21), .lit (.int .u8 19), .lit (.int .u8 16), .lit (.int .u8 7), .lit (.int .u8 26), .lit (.int .u8 12), .lit (.int .u8 18), .lit (.int .u8 6), .lit (.int .u8 11), .lit (.int .u8 5), .lit (.int .u8 10), .lit (.int .u8 9)]
def laid_math_bits_deBruijn64tab {H : Type} : DataW H := .agg [.lit (.int .u8 0), .lit (.int .u8 1), .lit (.int .u8 56), .lit (.int .u8 2), .lit (.int .u8 57), .lit (.int .u8 49), .lit (.int .u8 28), .lit (.int .u8 3), .lit (.int .u8 61), .lit (.int .u8 58), .lit (.int .u8 42), .lit (.int .u8 50), .lit (.int .u8 38), .lit (.int .u8 29), .lit (.int .u8 17), .lit (.int .u8 4), .lit (.int .u8 62), .lit (.int .u8 47), .lit (.int .u8 59), .lit (.int .u8 36), .lit (.int .u8 45), .lit (.int .u8 43), .lit (.int .u8 51), .lit (.int .u8 22), .lit (.int .u8 53), .lit (.int .u8 39), .lit (.int .u8 33), .lit (.int .u8 30), .lit (.int .u8 24), .lit (.int .u8 18), .lit (.int .u8 12), .lit (.int .u8 5), .lit (.int .u8 63), .lit (.int .u8 55), .lit (.int .u8 48), .lit (.int .u8 27), .lit (.int .u8 60), .lit (.int .u8 41), .lit (.int .u8 37), .lit (.int .u8 16), .lit (.int .u8 46), .lit (.int .u8 35), .lit (.int .u8 44), .lit (.int .u8 21), .lit (.int .u8 52), .lit (.int .u8 32), .lit (.int .u8 23), .lit (.int .u8 11), .lit (.int .u8 54), .lit (.int .u8 26), .lit (.int .u8 40), .lit (.int .u8 15), .lit (.int .u8 34), .lit (.int .u8 20), .lit (.int .u8 31), .lit (.int .u8 10), .lit (.int .u8 25), .lit (.int .u8 14), .lit (.int .u8 19), .lit (.int .u8 9), .lit (.int .u8 13), .lit (.int .u8 8), .lit (.int .u8 7), .lit (.int .u8 6)]
def laid_loop_example_pub_g03125_pub_big_natOne {H : Type} : DataW H := .slice [.lit (.int .u64 1)] []
def laid_io_EOF {H : Type} : DataW H := .iface "*errors.errorString" (.ptr (.agg [.lit (.string [69, 79, 70])]))
def laid_loop_example_pub_g03125_pub_big_errNoDigits {H : Type} : DataW H := .iface "*errors.errorString" (.ptr (.agg [.lit (.string [110, 117, 109, 98, 101, 114, 32, 104, 97, 115, 32, 110, 111, 32, 100, 105, 103, 105, 116, 115])]))
def laid_loop_example_pub_g03125_pub_big_errInvalSep {H : Type} : DataW H := .iface "*errors.errorString" (.ptr (.agg [.lit (.string [39, 95, 39, 32, 109, 117, 115, 116, 32, 115, 101, 112, 97, 114, 97, 116, 101, 32, 115, 117, 99, 99, 101, 115, 115, 105, 118, 101, 32, 100, 105, 103, 105, 116, 115])]))

/-- 'laws.FnZeros': WHATEVER THE INPUT: true; the input reads as it did. -/
def fnZerosSpec : ChangeSpec := { name := "fnZeros", fn := fun _ => fun
  | [d] => { results := [.lit (.bool true)], args := [d] }
  | _ => none }
def fnZerosRow : OpenClaim := { program := "ytidifjmjbfhpaaadoor", sum := "c1259500942a739ea3026f9c8aa5a36eb7d580767b049c991bdfa07dfd2d2511", func := "loop.example/pub-g03125/laws.FnZeros", spec := "fnZeros", named := ["math/bits.deBruijn32tab", "math/bits.deBruijn64tab"], apart := false, laid := [("math/bits.deBruijn32tab", laid_math_bits_deBruijn32tab), ("math/bits.deBruijn64tab", laid_math_bits_deBruijn64tab)] }
def FnZerosSaid : Prop := fnZerosRow.holds Tryd.pinned (OpenSpec.ofChange fnZerosSpec)

/-- ITS FALSE NEIGHBOUR: 'it returns false'. Refute it at one input. -/
def fnZerosWrong : ChangeSpec := { name := "fnZeros", fn := fun _ => fun
  | [d] => { results := [.lit (.bool false)], args := [d] }
  | _ => none }
def FnZerosWrongFalsely : Prop := fnZerosRow.holds Tryd.pinned (OpenSpec.ofChange fnZerosWrong)

/-- 'laws.FnBit': WHATEVER THE INPUT: true; the input reads as it did. -/
def fnBitSpec : ChangeSpec := { name := "fnBit", vars := ["loop.example/pub-g03125/pub/big.natOne"], fn := fun _ => fun
  | [d1, d2, g1] => { results := [.lit (.bool true)], args := [d1, d2], vars := [g1] }
  | _ => none }
def fnBitRow : OpenClaim := { program := "ytidifjmjbfhpaaadoor", sum := "c1259500942a739ea3026f9c8aa5a36eb7d580767b049c991bdfa07dfd2d2511", func := "loop.example/pub-g03125/laws.FnBit", spec := "fnBit", inPlace := ["math/bits.Sub64"], unfollowed := true, recurses := true, named := ["loop.example/pub-g03125/pub/big.natOne"], apart := false, laid := [("loop.example/pub-g03125/pub/big.natOne", laid_loop_example_pub_g03125_pub_big_natOne)] }
def FnBitSaid : Prop := fnBitRow.holds Tryd.pinned (OpenSpec.ofChange fnBitSpec)

/-- ITS FALSE NEIGHBOUR: 'it returns false'. Refute it at one input. -/
def fnBitWrong : ChangeSpec := { name := "fnBit", vars := ["loop.example/pub-g03125/pub/big.natOne"], fn := fun _ => fun
  | [d1, d2, g1] => { results := [.lit (.bool false)], args := [d1, d2], vars := [g1] }
  | _ => none }
def FnBitWrongFalsely : Prop := fnBitRow.holds Tryd.pinned (OpenSpec.ofChange fnBitWrong)

/-- 'laws.FnSetBit': WHATEVER THE INPUT: true; the input reads as it did. -/
def fnSetBitSpec : ChangeSpec := { name := "fnSetBit", vars := ["loop.example/pub-g03125/pub/big.natOne"], fn := fun _ => fun
  | [d1, d2, d3, g1] => { results := [.lit (.bool true)], args := [d1, d2, d3], vars := [g1] }
  | _ => none }
def fnSetBitRow : OpenClaim := { program := "ytidifjmjbfhpaaadoor", sum := "c1259500942a739ea3026f9c8aa5a36eb7d580767b049c991bdfa07dfd2d2511", func := "loop.example/pub-g03125/laws.FnSetBit", spec := "fnSetBit", inPlace := ["math/bits.Sub64", "math/bits.Add64"], unfollowed := true, recurses := true, named := ["loop.example/pub-g03125/pub/big.natOne"], apart := false, laid := [("loop.example/pub-g03125/pub/big.natOne", laid_loop_example_pub_g03125_pub_big_natOne)] }
def FnSetBitSaid : Prop := fnSetBitRow.holds Tryd.pinned (OpenSpec.ofChange fnSetBitSpec)

/-- ITS FALSE NEIGHBOUR: 'it returns false'. Refute it at one input. -/
def fnSetBitWrong : ChangeSpec := { name := "fnSetBit", vars := ["loop.example/pub-g03125/pub/big.natOne"], fn := fun _ => fun
  | [d1, d2, d3, g1] => { results := [.lit (.bool false)], args := [d1, d2, d3], vars := [g1] }
  | _ => none }
def FnSetBitWrongFalsely : Prop := fnSetBitRow.holds Tryd.pinned (OpenSpec.ofChange fnSetBitWrong)

/-- 'laws.FnParse': WHATEVER THE INPUT: true; the input reads as it did. -/
def fnParseSpec : ChangeSpec := { name := "fnParse", vars := ["loop.example/pub-g03125/pub/big.errInvalSep", "loop.example/pub-g03125/pub/big.errNoDigits"], fn := fun _ => fun
  | [d1, d2, g1, g2] => { results := [.lit (.bool true)], args := [d1, d2], vars := [g1, g2] }
  | _ => none }
def fnParseRow : OpenClaim := { program := "ytidifjmjbfhpaaadoor", sum := "c1259500942a739ea3026f9c8aa5a36eb7d580767b049c991bdfa07dfd2d2511", func := "loop.example/pub-g03125/laws.FnParse", spec := "fnParse", inPlace := ["math/bits.Add64"], unfollowed := true, recurses := true, named := ["io.EOF", "loop.example/pub-g03125/pub/big.errInvalSep", "loop.example/pub-g03125/pub/big.errNoDigits"], ifaces := true, apart := false, laid := [("io.EOF", laid_io_EOF), ("loop.example/pub-g03125/pub/big.errNoDigits", laid_loop_example_pub_g03125_pub_big_errNoDigits), ("loop.example/pub-g03125/pub/big.errInvalSep", laid_loop_example_pub_g03125_pub_big_errInvalSep)] }
def FnParseSaid : Prop := fnParseRow.holds Tryd.pinned (OpenSpec.ofChange fnParseSpec)

/-- ITS FALSE NEIGHBOUR: 'it returns false'. Refute it at one input. -/
def fnParseWrong : ChangeSpec := { name := "fnParse", vars := ["loop.example/pub-g03125/pub/big.errInvalSep", "loop.example/pub-g03125/pub/big.errNoDigits"], fn := fun _ => fun
  | [d1, d2, g1, g2] => { results := [.lit (.bool false)], args := [d1, d2], vars := [g1, g2] }
  | _ => none }
def FnParseWrongFalsely : Prop := fnParseRow.holds Tryd.pinned (OpenSpec.ofChange fnParseWrong)

/-- 'laws.FnBits': WHATEVER THE INPUT: true; the input reads as it did. -/
def fnBitsSpec : ChangeSpec := { name := "fnBits", vars := ["loop.example/pub-g03125/pub/big.natOne"], fn := fun _ => fun
  | [d1, d2, d3, g1] => { results := [.lit (.bool true)], args := [d1, d2, d3], vars := [g1] }
  | _ => none }
def fnBitsRow : OpenClaim := { program := "ytidifjmjbfhpaaadoor", sum := "c1259500942a739ea3026f9c8aa5a36eb7d580767b049c991bdfa07dfd2d2511", func := "loop.example/pub-g03125/laws.FnBits", spec := "fnBits", inPlace := ["math/bits.Sub64", "math/bits.Add64"], unfollowed := true, recurses := true, named := ["loop.example/pub-g03125/pub/big.natOne"], apart := false, laid := [("loop.example/pub-g03125/pub/big.natOne", laid_loop_example_pub_g03125_pub_big_natOne)] }
def FnBitsSaid : Prop := fnBitsRow.holds Tryd.pinned (OpenSpec.ofChange fnBitsSpec)

/-- ITS FALSE NEIGHBOUR: 'it returns false'. Refute it at one input. -/
def fnBitsWrong : ChangeSpec := { name := "fnBits", vars := ["loop.example/pub-g03125/pub/big.natOne"], fn := fun _ => fun
  | [d1, d2, d3, g1] => { results := [.lit (.bool false)], args := [d1, d2, d3], vars := [g1] }
  | _ => none }
def FnBitsWrongFalsely : Prop := fnBitsRow.holds Tryd.pinned (OpenSpec.ofChange fnBitsWrong)

/-- 'laws.FnDeMorgan': WHATEVER THE INPUT: true; the input reads as it did. -/
def fnDeMorganSpec : ChangeSpec := { name := "fnDeMorgan", vars := ["loop.example/pub-g03125/pub/big.natOne"], fn := fun _ => fun
  | [d1, d2, g1] => { results := [.lit (.bool true)], args := [d1, d2], vars := [g1] }
  | _ => none }
def fnDeMorganRow : OpenClaim := { program := "ytidifjmjbfhpaaadoor", sum := "c1259500942a739ea3026f9c8aa5a36eb7d580767b049c991bdfa07dfd2d2511", func := "loop.example/pub-g03125/laws.FnDeMorgan", spec := "fnDeMorgan", inPlace := ["math/bits.Sub64", "math/bits.Add64"], recurses := true, named := ["loop.example/pub-g03125/pub/big.natOne"], apart := false, laid := [("loop.example/pub-g03125/pub/big.natOne", laid_loop_example_pub_g03125_pub_big_natOne)] }
def FnDeMorganSaid : Prop := fnDeMorganRow.holds Tryd.pinned (OpenSpec.ofChange fnDeMorganSpec)

/-- ITS FALSE NEIGHBOUR: 'it returns false'. Refute it at one input. -/
def fnDeMorganWrong : ChangeSpec := { name := "fnDeMorgan", vars := ["loop.example/pub-g03125/pub/big.natOne"], fn := fun _ => fun
  | [d1, d2, g1] => { results := [.lit (.bool false)], args := [d1, d2], vars := [g1] }
  | _ => none }
def FnDeMorganWrongFalsely : Prop := fnDeMorganRow.holds Tryd.pinned (OpenSpec.ofChange fnDeMorganWrong)

/-- 'laws.FnNotNot': WHATEVER THE INPUT: true; the input reads as it did. -/
def fnNotNotSpec : ChangeSpec := { name := "fnNotNot", vars := ["loop.example/pub-g03125/pub/big.natOne"], fn := fun _ => fun
  | [d, g1] => { results := [.lit (.bool true)], args := [d], vars := [g1] }
  | _ => none }
def fnNotNotRow : OpenClaim := { program := "ytidifjmjbfhpaaadoor", sum := "c1259500942a739ea3026f9c8aa5a36eb7d580767b049c991bdfa07dfd2d2511", func := "loop.example/pub-g03125/laws.FnNotNot", spec := "fnNotNot", inPlace := ["math/bits.Sub64", "math/bits.Add64"], recurses := true, named := ["loop.example/pub-g03125/pub/big.natOne"], apart := false, laid := [("loop.example/pub-g03125/pub/big.natOne", laid_loop_example_pub_g03125_pub_big_natOne)] }
def FnNotNotSaid : Prop := fnNotNotRow.holds Tryd.pinned (OpenSpec.ofChange fnNotNotSpec)

/-- ITS FALSE NEIGHBOUR: 'it returns false'. Refute it at one input. -/
def fnNotNotWrong : ChangeSpec := { name := "fnNotNot", vars := ["loop.example/pub-g03125/pub/big.natOne"], fn := fun _ => fun
  | [d, g1] => { results := [.lit (.bool false)], args := [d], vars := [g1] }
  | _ => none }
def FnNotNotWrongFalsely : Prop := fnNotNotRow.holds Tryd.pinned (OpenSpec.ofChange fnNotNotWrong)

/- THE SECOND FORM. 'bulk': how many values and letters a reading holds, each counted each time it is reached (what is shared counts as often as it is met; a slice's spare places count too). A statement '..UptoSaid' is the law's where the arguments, and the package variables that the reading takes, are together of bulk at most 1048576: NARROWER than '..Said'. Prove '..Said' where nothing that the law and all that it calls make is longer than what came in: it says more and counts as full. Else prove '..UptoSaid'. A law counts once. -/
mutual
def uptoBulk {H : Type} : DataW H → Nat
  | .lit (.string bytes) => bytes.length + 1
  | .lit _ => 1
  | .nil => 1
  | .ptr d => uptoBulk d + 1
  | .slice elems spare => uptoBulkAll elems + uptoBulkAll spare + 1
  | .agg parts => uptoBulkAll parts + 1
  | .iface _ d => uptoBulk d + 1
  | .map entries => uptoBulkEntries entries + 1
  | .held _ => 1
def uptoBulkAll {H : Type} : List (DataW H) → Nat
  | [] => 0
  | d :: r => uptoBulk d + uptoBulkAll r
def uptoBulkEntries {H : Type} : List (Lit × DataW H) → Nat
  | [] => 0
  | x :: r => uptoBulkEntry x + uptoBulkEntries r
def uptoBulkEntry {H : Type} : Lit × DataW H → Nat
  | (.string bytes, d) => bytes.length + uptoBulk d + 1
  | (_, d) => uptoBulk d + 1
 end
def uptoSmall : (H : Type) → List (DataW H) → Bool := fun _ ds => decide (uptoBulkAll ds ≤ 1048576)
def OpenSpec.upto (s : _root_.Go.ChangeSpec) : _root_.Go.OpenSpec := { _root_.Go.OpenSpec.ofChange s with cond := some uptoSmall }

/-- 'laws.FnZeros', WHERE WHAT IT READS IS OF BULK AT MOST 1048576: true; the input reads as it did. -/
def fnZerosUptoRow : OpenClaim := { program := "ytidifjmjbfhpaaadoor", sum := "c1259500942a739ea3026f9c8aa5a36eb7d580767b049c991bdfa07dfd2d2511", func := "loop.example/pub-g03125/laws.FnZeros", spec := "fnZeros", named := ["math/bits.deBruijn32tab", "math/bits.deBruijn64tab"], apart := false, laid := [("math/bits.deBruijn32tab", laid_math_bits_deBruijn32tab), ("math/bits.deBruijn64tab", laid_math_bits_deBruijn64tab)], narrowed := true }
def FnZerosUptoSaid : Prop := fnZerosUptoRow.holds Tryd.pinned (OpenSpec.upto fnZerosSpec)

/-- 'laws.FnBit', WHERE WHAT IT READS IS OF BULK AT MOST 1048576: true; the input reads as it did. -/
def fnBitUptoRow : OpenClaim := { program := "ytidifjmjbfhpaaadoor", sum := "c1259500942a739ea3026f9c8aa5a36eb7d580767b049c991bdfa07dfd2d2511", func := "loop.example/pub-g03125/laws.FnBit", spec := "fnBit", inPlace := ["math/bits.Sub64"], unfollowed := true, recurses := true, named := ["loop.example/pub-g03125/pub/big.natOne"], apart := false, laid := [("loop.example/pub-g03125/pub/big.natOne", laid_loop_example_pub_g03125_pub_big_natOne)], narrowed := true }
def FnBitUptoSaid : Prop := fnBitUptoRow.holds Tryd.pinned (OpenSpec.upto fnBitSpec)

/-- 'laws.FnSetBit', WHERE WHAT IT READS IS OF BULK AT MOST 1048576: true; the input reads as it did. -/
def fnSetBitUptoRow : OpenClaim := { program := "ytidifjmjbfhpaaadoor", sum := "c1259500942a739ea3026f9c8aa5a36eb7d580767b049c991bdfa07dfd2d2511", func := "loop.example/pub-g03125/laws.FnSetBit", spec := "fnSetBit", inPlace := ["math/bits.Sub64", "math/bits.Add64"], unfollowed := true, recurses := true, named := ["loop.example/pub-g03125/pub/big.natOne"], apart := false, laid := [("loop.example/pub-g03125/pub/big.natOne", laid_loop_example_pub_g03125_pub_big_natOne)], narrowed := true }
def FnSetBitUptoSaid : Prop := fnSetBitUptoRow.holds Tryd.pinned (OpenSpec.upto fnSetBitSpec)

/-- 'laws.FnParse', WHERE WHAT IT READS IS OF BULK AT MOST 1048576: true; the input reads as it did. -/
def fnParseUptoRow : OpenClaim := { program := "ytidifjmjbfhpaaadoor", sum := "c1259500942a739ea3026f9c8aa5a36eb7d580767b049c991bdfa07dfd2d2511", func := "loop.example/pub-g03125/laws.FnParse", spec := "fnParse", inPlace := ["math/bits.Add64"], unfollowed := true, recurses := true, named := ["io.EOF", "loop.example/pub-g03125/pub/big.errInvalSep", "loop.example/pub-g03125/pub/big.errNoDigits"], ifaces := true, apart := false, laid := [("io.EOF", laid_io_EOF), ("loop.example/pub-g03125/pub/big.errNoDigits", laid_loop_example_pub_g03125_pub_big_errNoDigits), ("loop.example/pub-g03125/pub/big.errInvalSep", laid_loop_example_pub_g03125_pub_big_errInvalSep)], narrowed := true }
def FnParseUptoSaid : Prop := fnParseUptoRow.holds Tryd.pinned (OpenSpec.upto fnParseSpec)

/-- 'laws.FnBits', WHERE WHAT IT READS IS OF BULK AT MOST 1048576: true; the input reads as it did. -/
def fnBitsUptoRow : OpenClaim := { program := "ytidifjmjbfhpaaadoor", sum := "c1259500942a739ea3026f9c8aa5a36eb7d580767b049c991bdfa07dfd2d2511", func := "loop.example/pub-g03125/laws.FnBits", spec := "fnBits", inPlace := ["math/bits.Sub64", "math/bits.Add64"], unfollowed := true, recurses := true, named := ["loop.example/pub-g03125/pub/big.natOne"], apart := false, laid := [("loop.example/pub-g03125/pub/big.natOne", laid_loop_example_pub_g03125_pub_big_natOne)], narrowed := true }
def FnBitsUptoSaid : Prop := fnBitsUptoRow.holds Tryd.pinned (OpenSpec.upto fnBitsSpec)

/-- 'laws.FnDeMorgan', WHERE WHAT IT READS IS OF BULK AT MOST 1048576: true; the input reads as it did. -/
def fnDeMorganUptoRow : OpenClaim := { program := "ytidifjmjbfhpaaadoor", sum := "c1259500942a739ea3026f9c8aa5a36eb7d580767b049c991bdfa07dfd2d2511", func := "loop.example/pub-g03125/laws.FnDeMorgan", spec := "fnDeMorgan", inPlace := ["math/bits.Sub64", "math/bits.Add64"], recurses := true, named := ["loop.example/pub-g03125/pub/big.natOne"], apart := false, laid := [("loop.example/pub-g03125/pub/big.natOne", laid_loop_example_pub_g03125_pub_big_natOne)], narrowed := true }
def FnDeMorganUptoSaid : Prop := fnDeMorganUptoRow.holds Tryd.pinned (OpenSpec.upto fnDeMorganSpec)

/-- 'laws.FnNotNot', WHERE WHAT IT READS IS OF BULK AT MOST 1048576: true; the input reads as it did. -/
def fnNotNotUptoRow : OpenClaim := { program := "ytidifjmjbfhpaaadoor", sum := "c1259500942a739ea3026f9c8aa5a36eb7d580767b049c991bdfa07dfd2d2511", func := "loop.example/pub-g03125/laws.FnNotNot", spec := "fnNotNot", inPlace := ["math/bits.Sub64", "math/bits.Add64"], recurses := true, named := ["loop.example/pub-g03125/pub/big.natOne"], apart := false, laid := [("loop.example/pub-g03125/pub/big.natOne", laid_loop_example_pub_g03125_pub_big_natOne)], narrowed := true }
def FnNotNotUptoSaid : Prop := fnNotNotUptoRow.holds Tryd.pinned (OpenSpec.upto fnNotNotSpec)

end Rows
end Go.Proofs.YtidifjmjbfhpaaaDoor
