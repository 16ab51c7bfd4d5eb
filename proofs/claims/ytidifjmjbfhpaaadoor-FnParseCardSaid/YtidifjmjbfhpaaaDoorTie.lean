/-
  DERIVED. GIVEN WITH THE SEED: THE PROGRAM's TIES (one call each: nine closed facts by the kernel) AND EACH ROW's TIE, after the 31st guide's Derived/Test/Toyas{Tie, Card}.lean. No idea stands in it: it is a product of the set-up. Laid BY PROGRAM, IN A SANDBOX (cutbox-door.mjs). By AI agents, Wed Nov 11 2026. No macro, syntax, notation, axiom, sorry.
-/
import Derived.Test.YtidifjmjbfhpaaaDoorRows
import Derived.LaidByTextLater
import Derived.SevenTiedAt
import Derived.LaidSub
import Derived.LaidOnce
namespace Go.Proofs.YtidifjmjbfhpaaaDoor
open Go
set_option maxRecDepth 100000
theorem seatTie1 : Tryd.prog.laidByTextLater [("math/bits.deBruijn32tab", Rows.laid_math_bits_deBruijn32tab), ("math/bits.deBruijn64tab", Rows.laid_math_bits_deBruijn64tab), ("io.EOF", Rows.laid_io_EOF), ("loop.example/pub-g03125/pub/big.natOne", Rows.laid_loop_example_pub_g03125_pub_big_natOne), ("loop.example/pub-g03125/pub/big.errNoDigits", Rows.laid_loop_example_pub_g03125_pub_big_errNoDigits), ("loop.example/pub-g03125/pub/big.errInvalSep", Rows.laid_loop_example_pub_g03125_pub_big_errInvalSep)] [.data, .data, .sentinel, .widerDeep, .sentinel, .sentinel] true :=
  Program.laidByTextLater_by_one 81 8 65 (by kernel_rfl) (by kernel_rfl) (by kernel_rfl) (by kernel_rfl) (by kernel_rfl) (by kernel_rfl) (fun _ _ => by kernel_rfl)
theorem noOwnUnsafe : Tryd.pinned.checked.prog.headLifts.contains "ownunsafe" = false := by kernel_rfl
theorem tie : Tryd.prog.laidByTextLater [("math/bits.deBruijn32tab", Rows.laid_math_bits_deBruijn32tab), ("math/bits.deBruijn64tab", Rows.laid_math_bits_deBruijn64tab)] [.data, .data] true :=
  Program.laidByTextLater.sub seatTie1 ["math/bits.deBruijn32tab", "math/bits.deBruijn64tab"] (by kernel_rfl) (by kernel_rfl)
theorem fnZeros_row_tie : Rows.fnZerosRow.laidByTextAt .later Tryd.pinned [.data, .data] true :=
  OpenClaim.laidByTextAt_later rfl rfl tie noOwnUnsafe
theorem tie2 : Tryd.prog.laidByTextLater [("loop.example/pub-g03125/pub/big.natOne", Rows.laid_loop_example_pub_g03125_pub_big_natOne)] [.widerDeep] true :=
  Program.laidByTextLater.sub seatTie1 ["loop.example/pub-g03125/pub/big.natOne"] (by kernel_rfl) (by kernel_rfl)
theorem fnBit_row_tie : Rows.fnBitRow.laidByTextAt .later Tryd.pinned [.widerDeep] true :=
  OpenClaim.laidByTextAt_later rfl rfl tie2 noOwnUnsafe
theorem fnSetBit_row_tie : Rows.fnSetBitRow.laidByTextAt .later Tryd.pinned [.widerDeep] true :=
  OpenClaim.laidByTextAt_later rfl rfl tie2 noOwnUnsafe
theorem fnBits_row_tie : Rows.fnBitsRow.laidByTextAt .later Tryd.pinned [.widerDeep] true :=
  OpenClaim.laidByTextAt_later rfl rfl tie2 noOwnUnsafe
theorem fnDeMorgan_row_tie : Rows.fnDeMorganRow.laidByTextAt .later Tryd.pinned [.widerDeep] true :=
  OpenClaim.laidByTextAt_later rfl rfl tie2 noOwnUnsafe
theorem fnNotNot_row_tie : Rows.fnNotNotRow.laidByTextAt .later Tryd.pinned [.widerDeep] true :=
  OpenClaim.laidByTextAt_later rfl rfl tie2 noOwnUnsafe
theorem tie3 : Tryd.prog.laidByTextLater [("io.EOF", Rows.laid_io_EOF), ("loop.example/pub-g03125/pub/big.errNoDigits", Rows.laid_loop_example_pub_g03125_pub_big_errNoDigits), ("loop.example/pub-g03125/pub/big.errInvalSep", Rows.laid_loop_example_pub_g03125_pub_big_errInvalSep)] [.sentinel, .sentinel, .sentinel] true :=
  Program.laidByTextLater.sub seatTie1 ["io.EOF", "loop.example/pub-g03125/pub/big.errNoDigits", "loop.example/pub-g03125/pub/big.errInvalSep"] (by kernel_rfl) (by kernel_rfl)
theorem fnParse_row_tie : Rows.fnParseRow.laidByTextAt .later Tryd.pinned [.sentinel, .sentinel, .sentinel] true :=
  OpenClaim.laidByTextAt_later rfl rfl tie3 noOwnUnsafe
theorem fnZerosUpto_row_tie : Rows.fnZerosUptoRow.laidByTextAt .later Tryd.pinned [.data, .data] true :=
  OpenClaim.laidByTextAt_later rfl rfl tie noOwnUnsafe
theorem fnBitUpto_row_tie : Rows.fnBitUptoRow.laidByTextAt .later Tryd.pinned [.widerDeep] true :=
  OpenClaim.laidByTextAt_later rfl rfl tie2 noOwnUnsafe
theorem fnSetBitUpto_row_tie : Rows.fnSetBitUptoRow.laidByTextAt .later Tryd.pinned [.widerDeep] true :=
  OpenClaim.laidByTextAt_later rfl rfl tie2 noOwnUnsafe
theorem fnParseUpto_row_tie : Rows.fnParseUptoRow.laidByTextAt .later Tryd.pinned [.sentinel, .sentinel, .sentinel] true :=
  OpenClaim.laidByTextAt_later rfl rfl tie3 noOwnUnsafe
theorem fnBitsUpto_row_tie : Rows.fnBitsUptoRow.laidByTextAt .later Tryd.pinned [.widerDeep] true :=
  OpenClaim.laidByTextAt_later rfl rfl tie2 noOwnUnsafe
theorem fnDeMorganUpto_row_tie : Rows.fnDeMorganUptoRow.laidByTextAt .later Tryd.pinned [.widerDeep] true :=
  OpenClaim.laidByTextAt_later rfl rfl tie2 noOwnUnsafe
theorem fnNotNotUpto_row_tie : Rows.fnNotNotUptoRow.laidByTextAt .later Tryd.pinned [.widerDeep] true :=
  OpenClaim.laidByTextAt_later rfl rfl tie2 noOwnUnsafe
end Go.Proofs.YtidifjmjbfhpaaaDoor
