/-
  NARROWER THAN 'FOR EVERY INPUT', by the rows' own cells (each row's printed sentence says how): FnFintDigits: laid · FnFixNew: ifaces, laid · FnFixUnits: ifaces, laid · FnFixCeil: ifaces, laid · FnFixInts: ifaces, laid · FnFixRescale: ifaces, laid · FnDecRefused: ifaces, laid.
  DERIVED. THE GIVEN ROWS OF THIS SEAT. 7 by the template 'for every input the law returns true; each argument reads behind the call as it read before'; 0 by the template 'total and deterministic' (their statements: YthkmgjkajllemaaDoorTotals.lean).
  GIVEN WITH THE SEED: the statements are not yours to turn. If you find one false, say at which input.
  Laid BY PROGRAM, IN A SANDBOX (cutbox-rows.mjs): the forced cells as the released guide's own fill.sh prints them over the translation 4c75fad92e152ac5… (all of the seat's roots in one cut). By AI agents, Wed Nov 11 2026. No macro, syntax, notation, axiom, sorry.
-/
import Derived.Test.YthkmgjkajllemaaDoorChecked
import GoSem.Claim
import GoSem.ClaimJoined
import GoSem.ClaimMapViews
import Derived.JoinedTies
import Derived.KernelRfl
namespace Go.Proofs.YthkmgjkajllemaaDoor
/- THE CELL 'sum', in the pinned program and in every row, IS THE sha256 OF THE DUMP (.gsa) THAT YthkmgjkajllemaaDoorProg.lean LOADS. Nothing in Lean hashes anything: it is a label: what it is worth is what the hold of that sum in a sandbox is worth. -/
noncomputable def Tryd.pinned : Pinned := { name := "ythkmgjkajllemaadoor", sum := "4c75fad92e152ac5599ba1c6bd1ba3b73b9539061635451bb2c1b181d25a395d", checked := Tryd.checked }
namespace Rows
def none {H : Type} : Left H := { results := [], args := [] }

/- WHAT THE LISTED PACKAGE-LEVEL VARIABLES READ AS WHEN THE CALL BEGINS. Each datum BY PROGRAM (the guide's laid-datum.mjs) off the statement by which the dump's own 'gosem.cut.vars' lays the variable. In a bare row this is a premise. The card (YthkmgjkajllemaaDoorCards.lean) ties it to the program's text. -/
def laid_given_example_pub_alexandrine_pub_govalues_pow10 {H : Type} : DataW H := .agg [.lit (.int .u64 1), .lit (.int .u64 10), .lit (.int .u64 100), .lit (.int .u64 1000), .lit (.int .u64 10000), .lit (.int .u64 100000), .lit (.int .u64 1000000), .lit (.int .u64 10000000), .lit (.int .u64 100000000), .lit (.int .u64 1000000000), .lit (.int .u64 10000000000), .lit (.int .u64 100000000000), .lit (.int .u64 1000000000000), .lit (.int .u64 10000000000000), .lit (.int .u64 100000000000000), .lit (.int .u64 1000000000000000), .lit (.int .u64 10000000000000000), .lit (.int .u64 100000000000000000), .lit (.int .u64 1000000000000000000), .lit (.int .u64 10000000000000000000)]
def laid_given_example_pub_alexandrine_pub_govalues_errDecimalOverflow {H : Type} : DataW H := .iface "*errors.errorString" (.ptr (.agg [.lit (.string [100, 101, 99, 105, 109, 97, 108, 32, 111, 118, 101, 114, 102, 108, 111, 119])]))
def laid_given_example_pub_alexandrine_pub_govalues_errScaleRange {H : Type} : DataW H := .iface "*errors.errorString" (.ptr (.agg [.lit (.string [115, 99, 97, 108, 101, 32, 111, 117, 116, 32, 111, 102, 32, 114, 97, 110, 103, 101])]))
def laid_math_bits_deBruijn32tab {H : Type} : DataW H := .agg [.lit (.int .u8 0), .lit (.int .u8 1), .lit (.int .u8 28), .lit (.int .u8 2), .lit (.int .u8 29), .lit (.int .u8 14), .lit (.int .u8 24), .lit (.int .u8 3), .lit (.int .u8 30), .lit (.int .u8 22), .lit (.int .u8 20), .lit (.int .u8 15), .lit (.int .u8 25), .lit (.int .u8 17), .lit (.int .u8 4), .lit (.int .u8 8), .lit (.int .u8 31), .lit (.int .u8 27), .lit (.int .u8 13), .lit (.int .u8 23), .lit (.int .u8 21), .lit (.int .u8 19), .lit (.int .u8 16), .lit (.int .u8 7), .lit (.int .u8 26), .lit (.int .u8 12), .lit (.int .u8 18), .lit (.int .u8 6), .lit (.int .u8 11), .lit (.int .u8 5), .lit (.int .u8 10), .lit (.int .u8 9)]
def laid_math_bits_deBruijn64tab {H : Type} : DataW H := .agg [.lit (.int .u8 0), .lit (.int .u8 1), .lit (.int .u8 56), .lit (.int .u8 2), .lit (.int .u8 57), .lit (.int .u8 49), .lit (.int .u8 28), .lit (.int .u8 3), .lit (.int .u8 61), .lit (.int .u8 58), .lit (.int .u8 42), .lit (.int .u8 50), .lit (.int .u8 38), .lit (.int .u8 29), .lit (.int .u8 17), .lit (.int .u8 4), .lit (.int .u8 62), .lit (.int .u8 47), .lit (.int .u8 59), .lit (.int .u8 36), .lit (.int .u8 45), .lit (.int .u8 43), .lit (.int .u8 51), .lit (.int .u8 22), .lit (.int .u8 53), .lit (.int .u8 39), .lit (.int .u8 33), .lit (.int .u8 30), .lit (.int .u8 24), .lit (.int .u8 18), .lit (.int .u8 12), .lit (.int .u8 5), .lit (.int .u8 63), .lit (.int .u8 55), .lit (.int .u8 48), .lit (.int .u8 27), .lit (.int .u8 60), .lit (.int .u8 41), .lit (.int .u8 37), .lit (.int .u8 16), .lit (.int .u8 46), .lit (.int .u8 35), .lit (.int .u8 44), .lit (.int .u8 21), .lit (.int .u8 52), .lit (.int .u8 32), .lit (.int .u8 23), .lit (.int .u8 11), .lit (.int .u8 54), .lit (.int .u8 26), .lit (.int .u8 40), .lit (.int .u8 15), .lit (.int .u8 34), .lit (.int .u8 20), .lit (.int .u8 31), .lit (.int .u8 10), .lit (.int .u8 25), .lit (.int .u8 14), .lit (.int .u8 19), .lit (.int .u8 9), .lit (.int .u8 13), .lit (.int .u8 8), .lit (.int .u8 7), .lit (.int .u8 6)]
def laid_internal_strconv_uint64pow10 {H : Type} : DataW H := .agg [.lit (.int .u64 1), .lit (.int .u64 10), .lit (.int .u64 100), .lit (.int .u64 1000), .lit (.int .u64 10000), .lit (.int .u64 100000), .lit (.int .u64 1000000), .lit (.int .u64 10000000), .lit (.int .u64 100000000), .lit (.int .u64 1000000000), .lit (.int .u64 10000000000), .lit (.int .u64 100000000000), .lit (.int .u64 1000000000000), .lit (.int .u64 10000000000000), .lit (.int .u64 100000000000000), .lit (.int .u64 1000000000000000), .lit (.int .u64 10000000000000000), .lit (.int .u64 100000000000000000), .lit (.int .u64 1000000000000000000), .lit (.int .u64 10000000000000000000)]
def laid_strconv_ErrRange {H : Type} : DataW H := .iface "*errors.errorString" (.ptr (.agg [.lit (.string [118, 97, 108, 117, 101, 32, 111, 117, 116, 32, 111, 102, 32, 114, 97, 110, 103, 101])]))
def laid_strconv_ErrSyntax {H : Type} : DataW H := .iface "*errors.errorString" (.ptr (.agg [.lit (.string [105, 110, 118, 97, 108, 105, 100, 32, 115, 121, 110, 116, 97, 120])]))
def laid_io_EOF {H : Type} : DataW H := .iface "*errors.errorString" (.ptr (.agg [.lit (.string [69, 79, 70])]))
def laid_given_example_pub_alexandrine_pub_bigall_errNoDigits {H : Type} : DataW H := .iface "*errors.errorString" (.ptr (.agg [.lit (.string [110, 117, 109, 98, 101, 114, 32, 104, 97, 115, 32, 110, 111, 32, 100, 105, 103, 105, 116, 115])]))
def laid_given_example_pub_alexandrine_pub_bigall_errInvalSep {H : Type} : DataW H := .iface "*errors.errorString" (.ptr (.agg [.lit (.string [39, 95, 39, 32, 109, 117, 115, 116, 32, 115, 101, 112, 97, 114, 97, 116, 101, 32, 115, 117, 99, 99, 101, 115, 115, 105, 118, 101, 32, 100, 105, 103, 105, 116, 115])]))
def laid_given_example_pub_alexandrine_pub_shopspring_MaxDecodeExponent {H : Type} : DataW H := .lit (.int .i64 10000)

/-- 'laws.FnFintDigits': WHATEVER THE INPUT: true; the input reads as it did. -/
def fnFintDigitsSpec : ChangeSpec := { name := "fnFintDigits", vars := ["given.example/pub-alexandrine/pub/govalues.pow10"], fn := fun _ => fun
  | [d1, d2, g1] => { results := [.lit (.bool true)], args := [d1, d2], vars := [g1] }
  | _ => none }
def fnFintDigitsRow : OpenClaim := { program := "ythkmgjkajllemaadoor", sum := "4c75fad92e152ac5599ba1c6bd1ba3b73b9539061635451bb2c1b181d25a395d", func := "given.example/pub-alexandrine/laws.FnFintDigits", spec := "fnFintDigits", named := ["given.example/pub-alexandrine/pub/govalues.pow10"], apart := false, laid := [("given.example/pub-alexandrine/pub/govalues.pow10", laid_given_example_pub_alexandrine_pub_govalues_pow10)] }
def FnFintDigitsSaid : Prop := fnFintDigitsRow.holds Tryd.pinned (OpenSpec.ofChange fnFintDigitsSpec)

/-- ITS FALSE NEIGHBOUR: 'it returns false'. Refute it at one input. -/
def fnFintDigitsWrong : ChangeSpec := { name := "fnFintDigits", vars := ["given.example/pub-alexandrine/pub/govalues.pow10"], fn := fun _ => fun
  | [d1, d2, g1] => { results := [.lit (.bool false)], args := [d1, d2], vars := [g1] }
  | _ => none }
def FnFintDigitsWrongFalsely : Prop := fnFintDigitsRow.holds Tryd.pinned (OpenSpec.ofChange fnFintDigitsWrong)

/-- 'laws.FnFixNew': WHATEVER THE INPUT: true; the input reads as it did. -/
def fnFixNewSpec : ChangeSpec := { name := "fnFixNew", vars := ["given.example/pub-alexandrine/pub/govalues.errScaleRange", "given.example/pub-alexandrine/pub/govalues.errDecimalOverflow"], fn := fun _ => fun
  | [d1, d2, g1, g2] => { results := [.lit (.bool true)], args := [d1, d2], vars := [g1, g2] }
  | _ => none }
def fnFixNewRow : OpenClaim := { program := "ythkmgjkajllemaadoor", sum := "4c75fad92e152ac5599ba1c6bd1ba3b73b9539061635451bb2c1b181d25a395d", func := "given.example/pub-alexandrine/laws.FnFixNew", spec := "fnFixNew", named := ["given.example/pub-alexandrine/pub/govalues.errScaleRange", "given.example/pub-alexandrine/pub/govalues.errDecimalOverflow"], ifaces := true, apart := false, laid := [("given.example/pub-alexandrine/pub/govalues.errDecimalOverflow", laid_given_example_pub_alexandrine_pub_govalues_errDecimalOverflow), ("given.example/pub-alexandrine/pub/govalues.errScaleRange", laid_given_example_pub_alexandrine_pub_govalues_errScaleRange)] }
def FnFixNewSaid : Prop := fnFixNewRow.holds Tryd.pinned (OpenSpec.ofChange fnFixNewSpec)

/-- ITS FALSE NEIGHBOUR: 'it returns false'. Refute it at one input. -/
def fnFixNewWrong : ChangeSpec := { name := "fnFixNew", vars := ["given.example/pub-alexandrine/pub/govalues.errScaleRange", "given.example/pub-alexandrine/pub/govalues.errDecimalOverflow"], fn := fun _ => fun
  | [d1, d2, g1, g2] => { results := [.lit (.bool false)], args := [d1, d2], vars := [g1, g2] }
  | _ => none }
def FnFixNewWrongFalsely : Prop := fnFixNewRow.holds Tryd.pinned (OpenSpec.ofChange fnFixNewWrong)

/-- 'laws.FnFixUnits': WHATEVER THE INPUT: true; the input reads as it did. -/
def fnFixUnitsSpec : ChangeSpec := { name := "fnFixUnits", vars := ["given.example/pub-alexandrine/pub/govalues.errScaleRange", "given.example/pub-alexandrine/pub/govalues.errDecimalOverflow", "given.example/pub-alexandrine/pub/govalues.pow10"], fn := fun _ => fun
  | [d, g1, g2, g3] => { results := [.lit (.bool true)], args := [d], vars := [g1, g2, g3] }
  | _ => none }
def fnFixUnitsRow : OpenClaim := { program := "ythkmgjkajllemaadoor", sum := "4c75fad92e152ac5599ba1c6bd1ba3b73b9539061635451bb2c1b181d25a395d", func := "given.example/pub-alexandrine/laws.FnFixUnits", spec := "fnFixUnits", unfollowed := true, recurses := true, named := ["given.example/pub-alexandrine/pub/govalues.errScaleRange", "given.example/pub-alexandrine/pub/govalues.errDecimalOverflow", "given.example/pub-alexandrine/pub/govalues.pow10"], ifaces := true, apart := false, laid := [("given.example/pub-alexandrine/pub/govalues.errDecimalOverflow", laid_given_example_pub_alexandrine_pub_govalues_errDecimalOverflow), ("given.example/pub-alexandrine/pub/govalues.errScaleRange", laid_given_example_pub_alexandrine_pub_govalues_errScaleRange), ("given.example/pub-alexandrine/pub/govalues.pow10", laid_given_example_pub_alexandrine_pub_govalues_pow10)] }
def FnFixUnitsSaid : Prop := fnFixUnitsRow.holds Tryd.pinned (OpenSpec.ofChange fnFixUnitsSpec)

/-- ITS FALSE NEIGHBOUR: 'it returns false'. Refute it at one input. -/
def fnFixUnitsWrong : ChangeSpec := { name := "fnFixUnits", vars := ["given.example/pub-alexandrine/pub/govalues.errScaleRange", "given.example/pub-alexandrine/pub/govalues.errDecimalOverflow", "given.example/pub-alexandrine/pub/govalues.pow10"], fn := fun _ => fun
  | [d, g1, g2, g3] => { results := [.lit (.bool false)], args := [d], vars := [g1, g2, g3] }
  | _ => none }
def FnFixUnitsWrongFalsely : Prop := fnFixUnitsRow.holds Tryd.pinned (OpenSpec.ofChange fnFixUnitsWrong)

/-- 'laws.FnFixCeil': WHATEVER THE INPUT: true; the input reads as it did. -/
def fnFixCeilSpec : ChangeSpec := { name := "fnFixCeil", vars := ["given.example/pub-alexandrine/pub/govalues.errScaleRange", "given.example/pub-alexandrine/pub/govalues.errDecimalOverflow", "given.example/pub-alexandrine/pub/govalues.pow10"], fn := fun _ => fun
  | [d1, d2, g1, g2, g3] => { results := [.lit (.bool true)], args := [d1, d2], vars := [g1, g2, g3] }
  | _ => none }
def fnFixCeilRow : OpenClaim := { program := "ythkmgjkajllemaadoor", sum := "4c75fad92e152ac5599ba1c6bd1ba3b73b9539061635451bb2c1b181d25a395d", func := "given.example/pub-alexandrine/laws.FnFixCeil", spec := "fnFixCeil", unfollowed := true, recurses := true, named := ["given.example/pub-alexandrine/pub/govalues.errScaleRange", "given.example/pub-alexandrine/pub/govalues.errDecimalOverflow", "given.example/pub-alexandrine/pub/govalues.pow10"], ifaces := true, apart := false, laid := [("given.example/pub-alexandrine/pub/govalues.errDecimalOverflow", laid_given_example_pub_alexandrine_pub_govalues_errDecimalOverflow), ("given.example/pub-alexandrine/pub/govalues.errScaleRange", laid_given_example_pub_alexandrine_pub_govalues_errScaleRange), ("given.example/pub-alexandrine/pub/govalues.pow10", laid_given_example_pub_alexandrine_pub_govalues_pow10)] }
def FnFixCeilSaid : Prop := fnFixCeilRow.holds Tryd.pinned (OpenSpec.ofChange fnFixCeilSpec)

/-- ITS FALSE NEIGHBOUR: 'it returns false'. Refute it at one input. -/
def fnFixCeilWrong : ChangeSpec := { name := "fnFixCeil", vars := ["given.example/pub-alexandrine/pub/govalues.errScaleRange", "given.example/pub-alexandrine/pub/govalues.errDecimalOverflow", "given.example/pub-alexandrine/pub/govalues.pow10"], fn := fun _ => fun
  | [d1, d2, g1, g2, g3] => { results := [.lit (.bool false)], args := [d1, d2], vars := [g1, g2, g3] }
  | _ => none }
def FnFixCeilWrongFalsely : Prop := fnFixCeilRow.holds Tryd.pinned (OpenSpec.ofChange fnFixCeilWrong)

/-- 'laws.FnFixInts': WHATEVER THE INPUT: true; the input reads as it did. -/
def fnFixIntsSpec : ChangeSpec := { name := "fnFixInts", vars := ["given.example/pub-alexandrine/pub/govalues.errScaleRange", "given.example/pub-alexandrine/pub/govalues.errDecimalOverflow", "given.example/pub-alexandrine/pub/govalues.pow10"], fn := fun _ => fun
  | [d1, d2, g1, g2, g3] => { results := [.lit (.bool true)], args := [d1, d2], vars := [g1, g2, g3] }
  | _ => none }
def fnFixIntsRow : OpenClaim := { program := "ythkmgjkajllemaadoor", sum := "4c75fad92e152ac5599ba1c6bd1ba3b73b9539061635451bb2c1b181d25a395d", func := "given.example/pub-alexandrine/laws.FnFixInts", spec := "fnFixInts", unfollowed := true, recurses := true, named := ["given.example/pub-alexandrine/pub/govalues.errScaleRange", "given.example/pub-alexandrine/pub/govalues.errDecimalOverflow", "given.example/pub-alexandrine/pub/govalues.pow10"], ifaces := true, apart := false, laid := [("given.example/pub-alexandrine/pub/govalues.errDecimalOverflow", laid_given_example_pub_alexandrine_pub_govalues_errDecimalOverflow), ("given.example/pub-alexandrine/pub/govalues.errScaleRange", laid_given_example_pub_alexandrine_pub_govalues_errScaleRange), ("given.example/pub-alexandrine/pub/govalues.pow10", laid_given_example_pub_alexandrine_pub_govalues_pow10)] }
def FnFixIntsSaid : Prop := fnFixIntsRow.holds Tryd.pinned (OpenSpec.ofChange fnFixIntsSpec)

/-- ITS FALSE NEIGHBOUR: 'it returns false'. Refute it at one input. -/
def fnFixIntsWrong : ChangeSpec := { name := "fnFixInts", vars := ["given.example/pub-alexandrine/pub/govalues.errScaleRange", "given.example/pub-alexandrine/pub/govalues.errDecimalOverflow", "given.example/pub-alexandrine/pub/govalues.pow10"], fn := fun _ => fun
  | [d1, d2, g1, g2, g3] => { results := [.lit (.bool false)], args := [d1, d2], vars := [g1, g2, g3] }
  | _ => none }
def FnFixIntsWrongFalsely : Prop := fnFixIntsRow.holds Tryd.pinned (OpenSpec.ofChange fnFixIntsWrong)

/-- 'laws.FnFixRescale': WHATEVER THE INPUT: true; the input reads as it did. -/
def fnFixRescaleSpec : ChangeSpec := { name := "fnFixRescale", vars := ["given.example/pub-alexandrine/pub/govalues.errScaleRange", "given.example/pub-alexandrine/pub/govalues.errDecimalOverflow", "given.example/pub-alexandrine/pub/govalues.pow10"], fn := fun _ => fun
  | [d1, d2, g1, g2, g3] => { results := [.lit (.bool true)], args := [d1, d2], vars := [g1, g2, g3] }
  | _ => none }
def fnFixRescaleRow : OpenClaim := { program := "ythkmgjkajllemaadoor", sum := "4c75fad92e152ac5599ba1c6bd1ba3b73b9539061635451bb2c1b181d25a395d", func := "given.example/pub-alexandrine/laws.FnFixRescale", spec := "fnFixRescale", unfollowed := true, recurses := true, named := ["given.example/pub-alexandrine/pub/govalues.errScaleRange", "given.example/pub-alexandrine/pub/govalues.errDecimalOverflow", "given.example/pub-alexandrine/pub/govalues.pow10"], ifaces := true, apart := false, laid := [("given.example/pub-alexandrine/pub/govalues.errDecimalOverflow", laid_given_example_pub_alexandrine_pub_govalues_errDecimalOverflow), ("given.example/pub-alexandrine/pub/govalues.errScaleRange", laid_given_example_pub_alexandrine_pub_govalues_errScaleRange), ("given.example/pub-alexandrine/pub/govalues.pow10", laid_given_example_pub_alexandrine_pub_govalues_pow10)] }
def FnFixRescaleSaid : Prop := fnFixRescaleRow.holds Tryd.pinned (OpenSpec.ofChange fnFixRescaleSpec)

/-- ITS FALSE NEIGHBOUR: 'it returns false'. Refute it at one input. -/
def fnFixRescaleWrong : ChangeSpec := { name := "fnFixRescale", vars := ["given.example/pub-alexandrine/pub/govalues.errScaleRange", "given.example/pub-alexandrine/pub/govalues.errDecimalOverflow", "given.example/pub-alexandrine/pub/govalues.pow10"], fn := fun _ => fun
  | [d1, d2, g1, g2, g3] => { results := [.lit (.bool false)], args := [d1, d2], vars := [g1, g2, g3] }
  | _ => none }
def FnFixRescaleWrongFalsely : Prop := fnFixRescaleRow.holds Tryd.pinned (OpenSpec.ofChange fnFixRescaleWrong)

/-- 'laws.FnDecRefused': WHATEVER THE INPUT: true; the input reads as it did. -/
def fnDecRefusedSpec : ChangeSpec := { name := "fnDecRefused", vars := ["given.example/pub-alexandrine/pub/shopspring.MaxDecodeExponent", "given.example/pub-alexandrine/pub/bigall.errInvalSep", "given.example/pub-alexandrine/pub/bigall.errNoDigits"], fn := fun _ => fun
  | [d, g1, g2, g3] => { results := [.lit (.bool true)], args := [d], vars := [g1, g2, g3] }
  | _ => none }
def fnDecRefusedRow : OpenClaim := { program := "ythkmgjkajllemaadoor", sum := "4c75fad92e152ac5599ba1c6bd1ba3b73b9539061635451bb2c1b181d25a395d", func := "given.example/pub-alexandrine/laws.FnDecRefused", spec := "fnDecRefused", inPlace := ["math/bits.Add64"], unfollowed := true, recurses := true, named := ["given.example/pub-alexandrine/pub/shopspring.MaxDecodeExponent", "strconv.ErrSyntax", "strconv.ErrRange", "internal/strconv.uint64pow10", "math/bits.deBruijn32tab", "math/bits.deBruijn64tab", "io.EOF", "given.example/pub-alexandrine/pub/bigall.errInvalSep", "given.example/pub-alexandrine/pub/bigall.errNoDigits"], ifaces := true, apart := false, laid := [("math/bits.deBruijn32tab", laid_math_bits_deBruijn32tab), ("math/bits.deBruijn64tab", laid_math_bits_deBruijn64tab), ("internal/strconv.uint64pow10", laid_internal_strconv_uint64pow10), ("strconv.ErrRange", laid_strconv_ErrRange), ("strconv.ErrSyntax", laid_strconv_ErrSyntax), ("io.EOF", laid_io_EOF), ("given.example/pub-alexandrine/pub/bigall.errNoDigits", laid_given_example_pub_alexandrine_pub_bigall_errNoDigits), ("given.example/pub-alexandrine/pub/bigall.errInvalSep", laid_given_example_pub_alexandrine_pub_bigall_errInvalSep), ("given.example/pub-alexandrine/pub/shopspring.MaxDecodeExponent", laid_given_example_pub_alexandrine_pub_shopspring_MaxDecodeExponent)] }
def FnDecRefusedSaid : Prop := fnDecRefusedRow.holds Tryd.pinned (OpenSpec.ofChange fnDecRefusedSpec)

/-- ITS FALSE NEIGHBOUR: 'it returns false'. Refute it at one input. -/
def fnDecRefusedWrong : ChangeSpec := { name := "fnDecRefused", vars := ["given.example/pub-alexandrine/pub/shopspring.MaxDecodeExponent", "given.example/pub-alexandrine/pub/bigall.errInvalSep", "given.example/pub-alexandrine/pub/bigall.errNoDigits"], fn := fun _ => fun
  | [d, g1, g2, g3] => { results := [.lit (.bool false)], args := [d], vars := [g1, g2, g3] }
  | _ => none }
def FnDecRefusedWrongFalsely : Prop := fnDecRefusedRow.holds Tryd.pinned (OpenSpec.ofChange fnDecRefusedWrong)

/- THE SECOND FORM. 'bulk': how many values and letters a reading holds, each counted each time it is reached (what is shared counts as often as it is met; a slice's spare places count too). A statement '..UptoSaid' is the law's where the arguments, and the package variables that the reading takes, are together of bulk at most 1048576: NARROWER than '..Said'. Prove '..Said' where nothing that the law and all that it calls make is longer than what came in: it says more and counts as full. Else prove '..UptoSaid'. A law counts once. -/
mutual
def uptoBulk {H : Type} : DataW H → Nat
  | .lit (.string bytes) => bytes.length + 1
  | .lit _ => 1
  | .nil => 1
  | .ptr d => uptoBulk d + 1
  | .slice elems spare => uptoBulkAll elems + uptoBulkAll spare + 1
  | .agg parts => uptoBulkAll parts + 1
  | .iface _ d => uptoBulk d + 1
  | .map entries => uptoBulkEntries entries + 1
  | .held _ => 1
def uptoBulkAll {H : Type} : List (DataW H) → Nat
  | [] => 0
  | d :: r => uptoBulk d + uptoBulkAll r
def uptoBulkEntries {H : Type} : List (Lit × DataW H) → Nat
  | [] => 0
  | x :: r => uptoBulkEntry x + uptoBulkEntries r
def uptoBulkEntry {H : Type} : Lit × DataW H → Nat
  | (.string bytes, d) => bytes.length + uptoBulk d + 1
  | (_, d) => uptoBulk d + 1
 end
def uptoSmall : (H : Type) → List (DataW H) → Bool := fun _ ds => decide (uptoBulkAll ds ≤ 1048576)
def OpenSpec.upto (s : _root_.Go.ChangeSpec) : _root_.Go.OpenSpec := { _root_.Go.OpenSpec.ofChange s with cond := some uptoSmall }

/-- 'laws.FnFintDigits', WHERE WHAT IT READS IS OF BULK AT MOST 1048576: true; the input reads as it did. -/
def fnFintDigitsUptoRow : OpenClaim := { program := "ythkmgjkajllemaadoor", sum := "4c75fad92e152ac5599ba1c6bd1ba3b73b9539061635451bb2c1b181d25a395d", func := "given.example/pub-alexandrine/laws.FnFintDigits", spec := "fnFintDigits", named := ["given.example/pub-alexandrine/pub/govalues.pow10"], apart := false, laid := [("given.example/pub-alexandrine/pub/govalues.pow10", laid_given_example_pub_alexandrine_pub_govalues_pow10)], narrowed := true }
def FnFintDigitsUptoSaid : Prop := fnFintDigitsUptoRow.holds Tryd.pinned (OpenSpec.upto fnFintDigitsSpec)

/-- 'laws.FnFixNew', WHERE WHAT IT READS IS OF BULK AT MOST 1048576: true; the input reads as it did. -/
def fnFixNewUptoRow : OpenClaim := { program := "ythkmgjkajllemaadoor", sum := "4c75fad92e152ac5599ba1c6bd1ba3b73b9539061635451bb2c1b181d25a395d", func := "given.example/pub-alexandrine/laws.FnFixNew", spec := "fnFixNew", named := ["given.example/pub-alexandrine/pub/govalues.errScaleRange", "given.example/pub-alexandrine/pub/govalues.errDecimalOverflow"], ifaces := true, apart := false, laid := [("given.example/pub-alexandrine/pub/govalues.errDecimalOverflow", laid_given_example_pub_alexandrine_pub_govalues_errDecimalOverflow), ("given.example/pub-alexandrine/pub/govalues.errScaleRange", laid_given_example_pub_alexandrine_pub_govalues_errScaleRange)], narrowed := true }
def FnFixNewUptoSaid : Prop := fnFixNewUptoRow.holds Tryd.pinned (OpenSpec.upto fnFixNewSpec)

/-- 'laws.FnFixUnits', WHERE WHAT IT READS IS OF BULK AT MOST 1048576: true; the input reads as it did. -/
def fnFixUnitsUptoRow : OpenClaim := { program := "ythkmgjkajllemaadoor", sum := "4c75fad92e152ac5599ba1c6bd1ba3b73b9539061635451bb2c1b181d25a395d", func := "given.example/pub-alexandrine/laws.FnFixUnits", spec := "fnFixUnits", unfollowed := true, recurses := true, named := ["given.example/pub-alexandrine/pub/govalues.errScaleRange", "given.example/pub-alexandrine/pub/govalues.errDecimalOverflow", "given.example/pub-alexandrine/pub/govalues.pow10"], ifaces := true, apart := false, laid := [("given.example/pub-alexandrine/pub/govalues.errDecimalOverflow", laid_given_example_pub_alexandrine_pub_govalues_errDecimalOverflow), ("given.example/pub-alexandrine/pub/govalues.errScaleRange", laid_given_example_pub_alexandrine_pub_govalues_errScaleRange), ("given.example/pub-alexandrine/pub/govalues.pow10", laid_given_example_pub_alexandrine_pub_govalues_pow10)], narrowed := true }
def FnFixUnitsUptoSaid : Prop := fnFixUnitsUptoRow.holds Tryd.pinned (OpenSpec.upto fnFixUnitsSpec)

/-- 'laws.FnFixCeil', WHERE WHAT IT READS IS OF BULK AT MOST 1048576: true; the input reads as it did. -/
def fnFixCeilUptoRow : OpenClaim := { program := "ythkmgjkajllemaadoor", sum := "4c75fad92e152ac5599ba1c6bd1ba3b73b9539061635451bb2c1b181d25a395d", func := "given.example/pub-alexandrine/laws.FnFixCeil", spec := "fnFixCeil", unfollowed := true, recurses := true, named := ["given.example/pub-alexandrine/pub/govalues.errScaleRange", "given.example/pub-alexandrine/pub/govalues.errDecimalOverflow", "given.example/pub-alexandrine/pub/govalues.pow10"], ifaces := true, apart := false, laid := [("given.example/pub-alexandrine/pub/govalues.errDecimalOverflow", laid_given_example_pub_alexandrine_pub_govalues_errDecimalOverflow), ("given.example/pub-alexandrine/pub/govalues.errScaleRange", laid_given_example_pub_alexandrine_pub_govalues_errScaleRange), ("given.example/pub-alexandrine/pub/govalues.pow10", laid_given_example_pub_alexandrine_pub_govalues_pow10)], narrowed := true }
def FnFixCeilUptoSaid : Prop := fnFixCeilUptoRow.holds Tryd.pinned (OpenSpec.upto fnFixCeilSpec)

/-- 'laws.FnFixInts', WHERE WHAT IT READS IS OF BULK AT MOST 1048576: true; the input reads as it did. -/
def fnFixIntsUptoRow : OpenClaim := { program := "ythkmgjkajllemaadoor", sum := "4c75fad92e152ac5599ba1c6bd1ba3b73b9539061635451bb2c1b181d25a395d", func := "given.example/pub-alexandrine/laws.FnFixInts", spec := "fnFixInts", unfollowed := true, recurses := true, named := ["given.example/pub-alexandrine/pub/govalues.errScaleRange", "given.example/pub-alexandrine/pub/govalues.errDecimalOverflow", "given.example/pub-alexandrine/pub/govalues.pow10"], ifaces := true, apart := false, laid := [("given.example/pub-alexandrine/pub/govalues.errDecimalOverflow", laid_given_example_pub_alexandrine_pub_govalues_errDecimalOverflow), ("given.example/pub-alexandrine/pub/govalues.errScaleRange", laid_given_example_pub_alexandrine_pub_govalues_errScaleRange), ("given.example/pub-alexandrine/pub/govalues.pow10", laid_given_example_pub_alexandrine_pub_govalues_pow10)], narrowed := true }
def FnFixIntsUptoSaid : Prop := fnFixIntsUptoRow.holds Tryd.pinned (OpenSpec.upto fnFixIntsSpec)

/-- 'laws.FnFixRescale', WHERE WHAT IT READS IS OF BULK AT MOST 1048576: true; the input reads as it did. -/
def fnFixRescaleUptoRow : OpenClaim := { program := "ythkmgjkajllemaadoor", sum := "4c75fad92e152ac5599ba1c6bd1ba3b73b9539061635451bb2c1b181d25a395d", func := "given.example/pub-alexandrine/laws.FnFixRescale", spec := "fnFixRescale", unfollowed := true, recurses := true, named := ["given.example/pub-alexandrine/pub/govalues.errScaleRange", "given.example/pub-alexandrine/pub/govalues.errDecimalOverflow", "given.example/pub-alexandrine/pub/govalues.pow10"], ifaces := true, apart := false, laid := [("given.example/pub-alexandrine/pub/govalues.errDecimalOverflow", laid_given_example_pub_alexandrine_pub_govalues_errDecimalOverflow), ("given.example/pub-alexandrine/pub/govalues.errScaleRange", laid_given_example_pub_alexandrine_pub_govalues_errScaleRange), ("given.example/pub-alexandrine/pub/govalues.pow10", laid_given_example_pub_alexandrine_pub_govalues_pow10)], narrowed := true }
def FnFixRescaleUptoSaid : Prop := fnFixRescaleUptoRow.holds Tryd.pinned (OpenSpec.upto fnFixRescaleSpec)

/-- 'laws.FnDecRefused', WHERE WHAT IT READS IS OF BULK AT MOST 1048576: true; the input reads as it did. -/
def fnDecRefusedUptoRow : OpenClaim := { program := "ythkmgjkajllemaadoor", sum := "4c75fad92e152ac5599ba1c6bd1ba3b73b9539061635451bb2c1b181d25a395d", func := "given.example/pub-alexandrine/laws.FnDecRefused", spec := "fnDecRefused", inPlace := ["math/bits.Add64"], unfollowed := true, recurses := true, named := ["given.example/pub-alexandrine/pub/shopspring.MaxDecodeExponent", "strconv.ErrSyntax", "strconv.ErrRange", "internal/strconv.uint64pow10", "math/bits.deBruijn32tab", "math/bits.deBruijn64tab", "io.EOF", "given.example/pub-alexandrine/pub/bigall.errInvalSep", "given.example/pub-alexandrine/pub/bigall.errNoDigits"], ifaces := true, apart := false, laid := [("math/bits.deBruijn32tab", laid_math_bits_deBruijn32tab), ("math/bits.deBruijn64tab", laid_math_bits_deBruijn64tab), ("internal/strconv.uint64pow10", laid_internal_strconv_uint64pow10), ("strconv.ErrRange", laid_strconv_ErrRange), ("strconv.ErrSyntax", laid_strconv_ErrSyntax), ("io.EOF", laid_io_EOF), ("given.example/pub-alexandrine/pub/bigall.errNoDigits", laid_given_example_pub_alexandrine_pub_bigall_errNoDigits), ("given.example/pub-alexandrine/pub/bigall.errInvalSep", laid_given_example_pub_alexandrine_pub_bigall_errInvalSep), ("given.example/pub-alexandrine/pub/shopspring.MaxDecodeExponent", laid_given_example_pub_alexandrine_pub_shopspring_MaxDecodeExponent)], narrowed := true }
def FnDecRefusedUptoSaid : Prop := fnDecRefusedUptoRow.holds Tryd.pinned (OpenSpec.upto fnDecRefusedSpec)

end Rows
end Go.Proofs.YthkmgjkajllemaaDoor
