/-
  DERIVED. GIVEN WITH THE SEED: THE PROGRAM's TIES (one call each: nine closed facts by the kernel) AND EACH ROW's TIE, after the 31st guide's Derived/Test/Toyas{Tie, Card}.lean. No idea stands in it: it is a product of the set-up. Laid BY PROGRAM, IN A SANDBOX (cutbox-door.mjs). By AI agents, Wed Nov 11 2026. No macro, syntax, notation, axiom, sorry.
-/
import Derived.Test.YthkmgjkajllemaaDoorRows
import Derived.LaidByTextLater
import Derived.SevenTiedAt
import Derived.LaidSub
import Derived.LaidOnce
namespace Go.Proofs.YthkmgjkajllemaaDoor
open Go
set_option maxRecDepth 100000
theorem seatTie1 : Tryd.prog.laidByTextLater [("math/bits.deBruijn32tab", Rows.laid_math_bits_deBruijn32tab), ("math/bits.deBruijn64tab", Rows.laid_math_bits_deBruijn64tab), ("internal/strconv.uint64pow10", Rows.laid_internal_strconv_uint64pow10), ("strconv.ErrRange", Rows.laid_strconv_ErrRange), ("strconv.ErrSyntax", Rows.laid_strconv_ErrSyntax), ("io.EOF", Rows.laid_io_EOF), ("given.example/pub-alexandrine/pub/bigall.errNoDigits", Rows.laid_given_example_pub_alexandrine_pub_bigall_errNoDigits), ("given.example/pub-alexandrine/pub/bigall.errInvalSep", Rows.laid_given_example_pub_alexandrine_pub_bigall_errInvalSep), ("given.example/pub-alexandrine/pub/govalues.errDecimalOverflow", Rows.laid_given_example_pub_alexandrine_pub_govalues_errDecimalOverflow), ("given.example/pub-alexandrine/pub/govalues.errScaleRange", Rows.laid_given_example_pub_alexandrine_pub_govalues_errScaleRange), ("given.example/pub-alexandrine/pub/govalues.pow10", Rows.laid_given_example_pub_alexandrine_pub_govalues_pow10), ("given.example/pub-alexandrine/pub/shopspring.MaxDecodeExponent", Rows.laid_given_example_pub_alexandrine_pub_shopspring_MaxDecodeExponent)] [.data, .data, .data, .sentinel, .sentinel, .sentinel, .sentinel, .sentinel, .sentinel, .sentinel, .data, .data] true :=
  Program.laidByTextLater_by_one 166 8 65 (by kernel_rfl) (by kernel_rfl) (by kernel_rfl) (by kernel_rfl) (by kernel_rfl) (by kernel_rfl) (fun _ _ => by kernel_rfl)
theorem noOwnUnsafe : Tryd.pinned.checked.prog.headLifts.contains "ownunsafe" = false := by kernel_rfl
theorem tie : Tryd.prog.laidByTextLater [("given.example/pub-alexandrine/pub/govalues.pow10", Rows.laid_given_example_pub_alexandrine_pub_govalues_pow10)] [.data] true :=
  Program.laidByTextLater.sub seatTie1 ["given.example/pub-alexandrine/pub/govalues.pow10"] (by kernel_rfl) (by kernel_rfl)
theorem fnFintDigits_row_tie : Rows.fnFintDigitsRow.laidByTextAt .later Tryd.pinned [.data] true :=
  OpenClaim.laidByTextAt_later rfl rfl tie noOwnUnsafe
theorem tie2 : Tryd.prog.laidByTextLater [("given.example/pub-alexandrine/pub/govalues.errDecimalOverflow", Rows.laid_given_example_pub_alexandrine_pub_govalues_errDecimalOverflow), ("given.example/pub-alexandrine/pub/govalues.errScaleRange", Rows.laid_given_example_pub_alexandrine_pub_govalues_errScaleRange)] [.sentinel, .sentinel] true :=
  Program.laidByTextLater.sub seatTie1 ["given.example/pub-alexandrine/pub/govalues.errDecimalOverflow", "given.example/pub-alexandrine/pub/govalues.errScaleRange"] (by kernel_rfl) (by kernel_rfl)
theorem fnFixNew_row_tie : Rows.fnFixNewRow.laidByTextAt .later Tryd.pinned [.sentinel, .sentinel] true :=
  OpenClaim.laidByTextAt_later rfl rfl tie2 noOwnUnsafe
theorem tie3 : Tryd.prog.laidByTextLater [("given.example/pub-alexandrine/pub/govalues.errDecimalOverflow", Rows.laid_given_example_pub_alexandrine_pub_govalues_errDecimalOverflow), ("given.example/pub-alexandrine/pub/govalues.errScaleRange", Rows.laid_given_example_pub_alexandrine_pub_govalues_errScaleRange), ("given.example/pub-alexandrine/pub/govalues.pow10", Rows.laid_given_example_pub_alexandrine_pub_govalues_pow10)] [.sentinel, .sentinel, .data] true :=
  Program.laidByTextLater.sub seatTie1 ["given.example/pub-alexandrine/pub/govalues.errDecimalOverflow", "given.example/pub-alexandrine/pub/govalues.errScaleRange", "given.example/pub-alexandrine/pub/govalues.pow10"] (by kernel_rfl) (by kernel_rfl)
theorem fnFixUnits_row_tie : Rows.fnFixUnitsRow.laidByTextAt .later Tryd.pinned [.sentinel, .sentinel, .data] true :=
  OpenClaim.laidByTextAt_later rfl rfl tie3 noOwnUnsafe
theorem fnFixCeil_row_tie : Rows.fnFixCeilRow.laidByTextAt .later Tryd.pinned [.sentinel, .sentinel, .data] true :=
  OpenClaim.laidByTextAt_later rfl rfl tie3 noOwnUnsafe
theorem fnFixInts_row_tie : Rows.fnFixIntsRow.laidByTextAt .later Tryd.pinned [.sentinel, .sentinel, .data] true :=
  OpenClaim.laidByTextAt_later rfl rfl tie3 noOwnUnsafe
theorem fnFixRescale_row_tie : Rows.fnFixRescaleRow.laidByTextAt .later Tryd.pinned [.sentinel, .sentinel, .data] true :=
  OpenClaim.laidByTextAt_later rfl rfl tie3 noOwnUnsafe
theorem tie4 : Tryd.prog.laidByTextLater [("math/bits.deBruijn32tab", Rows.laid_math_bits_deBruijn32tab), ("math/bits.deBruijn64tab", Rows.laid_math_bits_deBruijn64tab), ("internal/strconv.uint64pow10", Rows.laid_internal_strconv_uint64pow10), ("strconv.ErrRange", Rows.laid_strconv_ErrRange), ("strconv.ErrSyntax", Rows.laid_strconv_ErrSyntax), ("io.EOF", Rows.laid_io_EOF), ("given.example/pub-alexandrine/pub/bigall.errNoDigits", Rows.laid_given_example_pub_alexandrine_pub_bigall_errNoDigits), ("given.example/pub-alexandrine/pub/bigall.errInvalSep", Rows.laid_given_example_pub_alexandrine_pub_bigall_errInvalSep), ("given.example/pub-alexandrine/pub/shopspring.MaxDecodeExponent", Rows.laid_given_example_pub_alexandrine_pub_shopspring_MaxDecodeExponent)] [.data, .data, .data, .sentinel, .sentinel, .sentinel, .sentinel, .sentinel, .data] true :=
  Program.laidByTextLater.sub seatTie1 ["math/bits.deBruijn32tab", "math/bits.deBruijn64tab", "internal/strconv.uint64pow10", "strconv.ErrRange", "strconv.ErrSyntax", "io.EOF", "given.example/pub-alexandrine/pub/bigall.errNoDigits", "given.example/pub-alexandrine/pub/bigall.errInvalSep", "given.example/pub-alexandrine/pub/shopspring.MaxDecodeExponent"] (by kernel_rfl) (by kernel_rfl)
theorem fnDecRefused_row_tie : Rows.fnDecRefusedRow.laidByTextAt .later Tryd.pinned [.data, .data, .data, .sentinel, .sentinel, .sentinel, .sentinel, .sentinel, .data] true :=
  OpenClaim.laidByTextAt_later rfl rfl tie4 noOwnUnsafe
theorem fnFintDigitsUpto_row_tie : Rows.fnFintDigitsUptoRow.laidByTextAt .later Tryd.pinned [.data] true :=
  OpenClaim.laidByTextAt_later rfl rfl tie noOwnUnsafe
theorem fnFixNewUpto_row_tie : Rows.fnFixNewUptoRow.laidByTextAt .later Tryd.pinned [.sentinel, .sentinel] true :=
  OpenClaim.laidByTextAt_later rfl rfl tie2 noOwnUnsafe
theorem fnFixUnitsUpto_row_tie : Rows.fnFixUnitsUptoRow.laidByTextAt .later Tryd.pinned [.sentinel, .sentinel, .data] true :=
  OpenClaim.laidByTextAt_later rfl rfl tie3 noOwnUnsafe
theorem fnFixCeilUpto_row_tie : Rows.fnFixCeilUptoRow.laidByTextAt .later Tryd.pinned [.sentinel, .sentinel, .data] true :=
  OpenClaim.laidByTextAt_later rfl rfl tie3 noOwnUnsafe
theorem fnFixIntsUpto_row_tie : Rows.fnFixIntsUptoRow.laidByTextAt .later Tryd.pinned [.sentinel, .sentinel, .data] true :=
  OpenClaim.laidByTextAt_later rfl rfl tie3 noOwnUnsafe
theorem fnFixRescaleUpto_row_tie : Rows.fnFixRescaleUptoRow.laidByTextAt .later Tryd.pinned [.sentinel, .sentinel, .data] true :=
  OpenClaim.laidByTextAt_later rfl rfl tie3 noOwnUnsafe
theorem fnDecRefusedUpto_row_tie : Rows.fnDecRefusedUptoRow.laidByTextAt .later Tryd.pinned [.data, .data, .data, .sentinel, .sentinel, .sentinel, .sentinel, .sentinel, .data] true :=
  OpenClaim.laidByTextAt_later rfl rfl tie4 noOwnUnsafe
end Go.Proofs.YthkmgjkajllemaaDoor
