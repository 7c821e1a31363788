/-
  NARROWER THAN 'FOR EVERY INPUT', by the rows' own cells (each row's printed sentence says how): FnExactAppendNumbers: laid · FnCutDigits: laid · FnGreaterBase: laid · FnJoinDigits: laid · FnZerosBehind: laid · FnListBack: laid · FnExactReadNumbers: laid · FnReadTwice: laid · FnOpposite: laid · FnNumbersBack: laid.
  DERIVED. THE GIVEN ROWS OF THIS SEAT. 10 by the template 'for every input the law returns true; each argument reads behind the call as it read before'; 0 by the template 'total and deterministic' (their statements: YtenepfefpoiddaaDoorTotals.lean).
  GIVEN WITH THE SEED: the statements are not yours to turn. If you find one false, say at which input.
  Laid BY PROGRAM, IN A SANDBOX (cutbox-rows.mjs): the forced cells as the released guide's own fill.sh prints them over the translation f6287dddd282076e… (all of the seat's roots in one cut). By AI agents, Wed Nov 11 2026. No macro, syntax, notation, axiom, sorry.
-/
import Derived.Test.YtenepfefpoiddaaDoorChecked
import GoSem.Claim
import GoSem.ClaimJoined
import GoSem.ClaimMapViews
import Derived.JoinedTies
import Derived.KernelRfl
namespace Go.Proofs.YtenepfefpoiddaaDoor
/- THE CELL 'sum', in the pinned program and in every row, IS THE sha256 OF THE DUMP (.gsa) THAT YtenepfefpoiddaaDoorProg.lean LOADS. Nothing in Lean hashes anything: it is a label: what it is worth is what the hold of that sum in a sandbox is worth. -/
noncomputable def Tryd.pinned : Pinned := { name := "ytenepfefpoiddaadoor", sum := "f6287dddd282076ea6b56d3f617ad3279bccd3deec7748ff4567ba8d1f9e33b0", checked := Tryd.checked }
namespace Rows
def none {H : Type} : Left H := { results := [], args := [] }

/- WHAT THE LISTED PACKAGE-LEVEL VARIABLES READ AS WHEN THE CALL BEGINS. Each datum BY PROGRAM (the guide's laid-datum.mjs) off the statement by which the dump's own 'gosem.cut.vars' lays the variable. In a bare row this is a premise. The card (YtenepfefpoiddaaDoorCards.lean) ties it to the program's text. -/
def laid_math_bits_deBruijn32tab {H : Type} : DataW H := .agg [.lit (.int .u8 0), .lit (.int .u8 1), .lit (.int .u8 28), .lit (.int .u8 2), .lit (.int .u8 29), .lit (.int .u8 14), .lit (.int .u8 24), .lit (.int .u8 3), .lit (.int .u8 30), .lit (.int .u8 22), .lit (.int .u8 20), .lit (.int .u8 15), .lit (.int .u8 25), .lit (.int .u8 17), .lit (.int .u8 4), .lit (.int .u8 8), .lit (.int .u8 31), .lit (.int .u8 27), .lit (.int .u8 13), .lit (.int .u8 23), .lit (.int .u8 21), .lit (.int .u8 19), .lit (.int .u8 16), .lit (.int .u8 7), .lit (.int .u8 26), .lit (.int .u8 12), .lit (.int .u8 18), .lit (.int .u8 6), .lit (.int .u8 11), .lit (.int .u8 5), .lit (.int .u8 10), .lit (.int .u8 9)]
def laid_math_bits_deBruijn64tab {H : Type} : DataW H := .agg [.lit (.int .u8 0), .lit (.int .u8 1), .lit (.int .u8 56), .lit (.int .u8 2), .lit (.int .u8 57), .lit (.int .u8 49), .lit (.int .u8 28), .lit (.int .u8 3), .lit (.int .u8 61), .lit (.int .u8 58), .lit (.int .u8 42), .lit (.int .u8 50), .lit (.int .u8 38), .lit (.int .u8 29), .lit (.int .u8 17), .lit (.int .u8 4), .lit (.int .u8 62), .lit (.int .u8 47), .lit (.int .u8 59), .lit (.int .u8 36), .lit (.int .u8 45), .lit (.int .u8 43), .lit (.int .u8 51), .lit (.int .u8 22), .lit (.int .u8 53), .lit (.int .u8 39), .lit (.int .u8 33), .lit (.int .u8 30), .lit (.int .u8 24), .lit (.int .u8 18), .lit (.int .u8 12), .lit (.int .u8 5), .lit (.int .u8 63), .lit (.int .u8 55), .lit (.int .u8 48), .lit (.int .u8 27), .lit (.int .u8 60), .lit (.int .u8 41), .lit (.int .u8 37), .lit (.int .u8 16), .lit (.int .u8 46), .lit (.int .u8 35), .lit (.int .u8 44), .lit (.int .u8 21), .lit (.int .u8 52), .lit (.int .u8 32), .lit (.int .u8 23), .lit (.int .u8 11), .lit (.int .u8 54), .lit (.int .u8 26), .lit (.int .u8 40), .lit (.int .u8 15), .lit (.int .u8 34), .lit (.int .u8 20), .lit (.int .u8 31), .lit (.int .u8 10), .lit (.int .u8 25), .lit (.int .u8 14), .lit (.int .u8 19), .lit (.int .u8 9), .lit (.int .u8 13), .lit (.int .u8 8), .lit (.int .u8 7), .lit (.int .u8 6)]
def laid_internal_strconv_uint64pow10 {H : Type} : DataW H := .agg [.lit (.int .u64 1), .lit (.int .u64 10), .lit (.int .u64 100), .lit (.int .u64 1000), .lit (.int .u64 10000), .lit (.int .u64 100000), .lit (.int .u64 1000000), .lit (.int .u64 10000000), .lit (.int .u64 100000000), .lit (.int .u64 1000000000), .lit (.int .u64 10000000000), .lit (.int .u64 100000000000), .lit (.int .u64 1000000000000), .lit (.int .u64 10000000000000), .lit (.int .u64 100000000000000), .lit (.int .u64 1000000000000000), .lit (.int .u64 10000000000000000), .lit (.int .u64 100000000000000000), .lit (.int .u64 1000000000000000000), .lit (.int .u64 10000000000000000000)]
def laid_strconv_ErrRange {H : Type} : DataW H := .iface "*errors.errorString" (.ptr (.agg [.lit (.string [118, 97, 108, 117, 101, 32, 111, 117, 116, 32, 111, 102, 32, 114, 97, 110, 103, 101])]))
def laid_strconv_ErrSyntax {H : Type} : DataW H := .iface "*errors.errorString" (.ptr (.agg [.lit (.string [105, 110, 118, 97, 108, 105, 100, 32, 115, 121, 110, 116, 97, 120])]))

/-- 'laws.FnExactAppendNumbers': WHATEVER THE INPUT: true; the input reads as it did. -/
def fnExactAppendNumbersSpec : ChangeSpec := { name := "fnExactAppendNumbers", fn := fun _ => fun
  | [d] => { results := [.lit (.bool true)], args := [d] }
  | _ => none }
def fnExactAppendNumbersRow : OpenClaim := { program := "ytenepfefpoiddaadoor", sum := "f6287dddd282076ea6b56d3f617ad3279bccd3deec7748ff4567ba8d1f9e33b0", func := "loop.example/lib-g01429/laws.FnExactAppendNumbers", spec := "fnExactAppendNumbers", named := ["internal/strconv.uint64pow10", "math/bits.deBruijn32tab", "math/bits.deBruijn64tab"], apart := false, laid := [("math/bits.deBruijn32tab", laid_math_bits_deBruijn32tab), ("math/bits.deBruijn64tab", laid_math_bits_deBruijn64tab), ("internal/strconv.uint64pow10", laid_internal_strconv_uint64pow10)] }
def FnExactAppendNumbersSaid : Prop := fnExactAppendNumbersRow.holds Tryd.pinned (OpenSpec.ofChange fnExactAppendNumbersSpec)

/-- ITS FALSE NEIGHBOUR: 'it returns false'. Refute it at one input. -/
def fnExactAppendNumbersWrong : ChangeSpec := { name := "fnExactAppendNumbers", fn := fun _ => fun
  | [d] => { results := [.lit (.bool false)], args := [d] }
  | _ => none }
def FnExactAppendNumbersWrongFalsely : Prop := fnExactAppendNumbersRow.holds Tryd.pinned (OpenSpec.ofChange fnExactAppendNumbersWrong)

/-- 'laws.FnCutDigits': WHATEVER THE INPUT: true; the input reads as it did. -/
def fnCutDigitsSpec : ChangeSpec := { name := "fnCutDigits", fn := fun _ => fun
  | [d1, d2, d3] => { results := [.lit (.bool true)], args := [d1, d2, d3] }
  | _ => none }
def fnCutDigitsRow : OpenClaim := { program := "ytenepfefpoiddaadoor", sum := "f6287dddd282076ea6b56d3f617ad3279bccd3deec7748ff4567ba8d1f9e33b0", func := "loop.example/lib-g01429/laws.FnCutDigits", spec := "fnCutDigits", inPlace := ["internal/reflectlite.TypeOf"], unfollowed := true, recurses := true, named := ["internal/strconv.uint64pow10", "math/bits.deBruijn32tab", "math/bits.deBruijn64tab", "strconv.ErrSyntax", "strconv.ErrRange"], apart := false, laid := [("math/bits.deBruijn32tab", laid_math_bits_deBruijn32tab), ("math/bits.deBruijn64tab", laid_math_bits_deBruijn64tab), ("internal/strconv.uint64pow10", laid_internal_strconv_uint64pow10), ("strconv.ErrRange", laid_strconv_ErrRange), ("strconv.ErrSyntax", laid_strconv_ErrSyntax)] }
def FnCutDigitsSaid : Prop := fnCutDigitsRow.holds Tryd.pinned (OpenSpec.ofChange fnCutDigitsSpec)

/-- ITS FALSE NEIGHBOUR: 'it returns false'. Refute it at one input. -/
def fnCutDigitsWrong : ChangeSpec := { name := "fnCutDigits", fn := fun _ => fun
  | [d1, d2, d3] => { results := [.lit (.bool false)], args := [d1, d2, d3] }
  | _ => none }
def FnCutDigitsWrongFalsely : Prop := fnCutDigitsRow.holds Tryd.pinned (OpenSpec.ofChange fnCutDigitsWrong)

/-- 'laws.FnGreaterBase': WHATEVER THE INPUT: true; the input reads as it did. -/
def fnGreaterBaseSpec : ChangeSpec := { name := "fnGreaterBase", fn := fun _ => fun
  | [d1, d2, d3] => { results := [.lit (.bool true)], args := [d1, d2, d3] }
  | _ => none }
def fnGreaterBaseRow : OpenClaim := { program := "ytenepfefpoiddaadoor", sum := "f6287dddd282076ea6b56d3f617ad3279bccd3deec7748ff4567ba8d1f9e33b0", func := "loop.example/lib-g01429/laws.FnGreaterBase", spec := "fnGreaterBase", inPlace := ["internal/reflectlite.TypeOf"], unfollowed := true, recurses := true, named := ["internal/strconv.uint64pow10", "math/bits.deBruijn32tab", "math/bits.deBruijn64tab", "strconv.ErrSyntax", "strconv.ErrRange"], apart := false, laid := [("math/bits.deBruijn32tab", laid_math_bits_deBruijn32tab), ("math/bits.deBruijn64tab", laid_math_bits_deBruijn64tab), ("internal/strconv.uint64pow10", laid_internal_strconv_uint64pow10), ("strconv.ErrRange", laid_strconv_ErrRange), ("strconv.ErrSyntax", laid_strconv_ErrSyntax)] }
def FnGreaterBaseSaid : Prop := fnGreaterBaseRow.holds Tryd.pinned (OpenSpec.ofChange fnGreaterBaseSpec)

/-- ITS FALSE NEIGHBOUR: 'it returns false'. Refute it at one input. -/
def fnGreaterBaseWrong : ChangeSpec := { name := "fnGreaterBase", fn := fun _ => fun
  | [d1, d2, d3] => { results := [.lit (.bool false)], args := [d1, d2, d3] }
  | _ => none }
def FnGreaterBaseWrongFalsely : Prop := fnGreaterBaseRow.holds Tryd.pinned (OpenSpec.ofChange fnGreaterBaseWrong)

/-- 'laws.FnJoinDigits': WHATEVER THE INPUT: true; the input reads as it did. -/
def fnJoinDigitsSpec : ChangeSpec := { name := "fnJoinDigits", fn := fun _ => fun
  | [d1, d2, d3] => { results := [.lit (.bool true)], args := [d1, d2, d3] }
  | _ => none }
def fnJoinDigitsRow : OpenClaim := { program := "ytenepfefpoiddaadoor", sum := "f6287dddd282076ea6b56d3f617ad3279bccd3deec7748ff4567ba8d1f9e33b0", func := "loop.example/lib-g01429/laws.FnJoinDigits", spec := "fnJoinDigits", inPlace := ["internal/reflectlite.TypeOf"], unfollowed := true, recurses := true, named := ["internal/strconv.uint64pow10", "math/bits.deBruijn32tab", "math/bits.deBruijn64tab", "strconv.ErrSyntax", "strconv.ErrRange"], apart := false, laid := [("math/bits.deBruijn32tab", laid_math_bits_deBruijn32tab), ("math/bits.deBruijn64tab", laid_math_bits_deBruijn64tab), ("internal/strconv.uint64pow10", laid_internal_strconv_uint64pow10), ("strconv.ErrRange", laid_strconv_ErrRange), ("strconv.ErrSyntax", laid_strconv_ErrSyntax)] }
def FnJoinDigitsSaid : Prop := fnJoinDigitsRow.holds Tryd.pinned (OpenSpec.ofChange fnJoinDigitsSpec)

/-- ITS FALSE NEIGHBOUR: 'it returns false'. Refute it at one input. -/
def fnJoinDigitsWrong : ChangeSpec := { name := "fnJoinDigits", fn := fun _ => fun
  | [d1, d2, d3] => { results := [.lit (.bool false)], args := [d1, d2, d3] }
  | _ => none }
def FnJoinDigitsWrongFalsely : Prop := fnJoinDigitsRow.holds Tryd.pinned (OpenSpec.ofChange fnJoinDigitsWrong)

/-- 'laws.FnZerosBehind': WHATEVER THE INPUT: true; the input reads as it did. -/
def fnZerosBehindSpec : ChangeSpec := { name := "fnZerosBehind", fn := fun _ => fun
  | [d1, d2, d3] => { results := [.lit (.bool true)], args := [d1, d2, d3] }
  | _ => none }
def fnZerosBehindRow : OpenClaim := { program := "ytenepfefpoiddaadoor", sum := "f6287dddd282076ea6b56d3f617ad3279bccd3deec7748ff4567ba8d1f9e33b0", func := "loop.example/lib-g01429/laws.FnZerosBehind", spec := "fnZerosBehind", inPlace := ["internal/reflectlite.TypeOf"], unfollowed := true, recurses := true, named := ["internal/strconv.uint64pow10", "math/bits.deBruijn32tab", "math/bits.deBruijn64tab", "strconv.ErrSyntax", "strconv.ErrRange"], apart := false, laid := [("math/bits.deBruijn32tab", laid_math_bits_deBruijn32tab), ("math/bits.deBruijn64tab", laid_math_bits_deBruijn64tab), ("internal/strconv.uint64pow10", laid_internal_strconv_uint64pow10), ("strconv.ErrRange", laid_strconv_ErrRange), ("strconv.ErrSyntax", laid_strconv_ErrSyntax)] }
def FnZerosBehindSaid : Prop := fnZerosBehindRow.holds Tryd.pinned (OpenSpec.ofChange fnZerosBehindSpec)

/-- ITS FALSE NEIGHBOUR: 'it returns false'. Refute it at one input. -/
def fnZerosBehindWrong : ChangeSpec := { name := "fnZerosBehind", fn := fun _ => fun
  | [d1, d2, d3] => { results := [.lit (.bool false)], args := [d1, d2, d3] }
  | _ => none }
def FnZerosBehindWrongFalsely : Prop := fnZerosBehindRow.holds Tryd.pinned (OpenSpec.ofChange fnZerosBehindWrong)

/-- 'laws.FnListBack': WHATEVER THE INPUT: true; the input reads as it did. -/
def fnListBackSpec : ChangeSpec := { name := "fnListBack", fn := fun _ => fun
  | [d1, d2] => { results := [.lit (.bool true)], args := [d1, d2] }
  | _ => none }
def fnListBackRow : OpenClaim := { program := "ytenepfefpoiddaadoor", sum := "f6287dddd282076ea6b56d3f617ad3279bccd3deec7748ff4567ba8d1f9e33b0", func := "loop.example/lib-g01429/laws.FnListBack", spec := "fnListBack", inPlace := ["internal/reflectlite.TypeOf"], unfollowed := true, recurses := true, named := ["internal/strconv.uint64pow10", "math/bits.deBruijn32tab", "math/bits.deBruijn64tab", "strconv.ErrSyntax", "strconv.ErrRange"], apart := false, laid := [("math/bits.deBruijn32tab", laid_math_bits_deBruijn32tab), ("math/bits.deBruijn64tab", laid_math_bits_deBruijn64tab), ("internal/strconv.uint64pow10", laid_internal_strconv_uint64pow10), ("strconv.ErrRange", laid_strconv_ErrRange), ("strconv.ErrSyntax", laid_strconv_ErrSyntax)] }
def FnListBackSaid : Prop := fnListBackRow.holds Tryd.pinned (OpenSpec.ofChange fnListBackSpec)

/-- ITS FALSE NEIGHBOUR: 'it returns false'. Refute it at one input. -/
def fnListBackWrong : ChangeSpec := { name := "fnListBack", fn := fun _ => fun
  | [d1, d2] => { results := [.lit (.bool false)], args := [d1, d2] }
  | _ => none }
def FnListBackWrongFalsely : Prop := fnListBackRow.holds Tryd.pinned (OpenSpec.ofChange fnListBackWrong)

/-- 'laws.FnExactReadNumbers': WHATEVER THE INPUT: true; the input reads as it did. -/
def fnExactReadNumbersSpec : ChangeSpec := { name := "fnExactReadNumbers", fn := fun _ => fun
  | [d] => { results := [.lit (.bool true)], args := [d] }
  | _ => none }
def fnExactReadNumbersRow : OpenClaim := { program := "ytenepfefpoiddaadoor", sum := "f6287dddd282076ea6b56d3f617ad3279bccd3deec7748ff4567ba8d1f9e33b0", func := "loop.example/lib-g01429/laws.FnExactReadNumbers", spec := "fnExactReadNumbers", inPlace := ["internal/reflectlite.TypeOf"], unfollowed := true, recurses := true, named := ["strconv.ErrSyntax", "strconv.ErrRange", "internal/strconv.uint64pow10", "math/bits.deBruijn32tab", "math/bits.deBruijn64tab"], apart := false, laid := [("math/bits.deBruijn32tab", laid_math_bits_deBruijn32tab), ("math/bits.deBruijn64tab", laid_math_bits_deBruijn64tab), ("internal/strconv.uint64pow10", laid_internal_strconv_uint64pow10), ("strconv.ErrRange", laid_strconv_ErrRange), ("strconv.ErrSyntax", laid_strconv_ErrSyntax)] }
def FnExactReadNumbersSaid : Prop := fnExactReadNumbersRow.holds Tryd.pinned (OpenSpec.ofChange fnExactReadNumbersSpec)

/-- ITS FALSE NEIGHBOUR: 'it returns false'. Refute it at one input. -/
def fnExactReadNumbersWrong : ChangeSpec := { name := "fnExactReadNumbers", fn := fun _ => fun
  | [d] => { results := [.lit (.bool false)], args := [d] }
  | _ => none }
def FnExactReadNumbersWrongFalsely : Prop := fnExactReadNumbersRow.holds Tryd.pinned (OpenSpec.ofChange fnExactReadNumbersWrong)

/-- 'laws.FnReadTwice': WHATEVER THE INPUT: true; the input reads as it did. -/
def fnReadTwiceSpec : ChangeSpec := { name := "fnReadTwice", fn := fun _ => fun
  | [d] => { results := [.lit (.bool true)], args := [d] }
  | _ => none }
def fnReadTwiceRow : OpenClaim := { program := "ytenepfefpoiddaadoor", sum := "f6287dddd282076ea6b56d3f617ad3279bccd3deec7748ff4567ba8d1f9e33b0", func := "loop.example/lib-g01429/laws.FnReadTwice", spec := "fnReadTwice", inPlace := ["internal/reflectlite.TypeOf"], unfollowed := true, recurses := true, named := ["strconv.ErrSyntax", "strconv.ErrRange", "internal/strconv.uint64pow10", "math/bits.deBruijn32tab", "math/bits.deBruijn64tab"], apart := false, laid := [("math/bits.deBruijn32tab", laid_math_bits_deBruijn32tab), ("math/bits.deBruijn64tab", laid_math_bits_deBruijn64tab), ("internal/strconv.uint64pow10", laid_internal_strconv_uint64pow10), ("strconv.ErrRange", laid_strconv_ErrRange), ("strconv.ErrSyntax", laid_strconv_ErrSyntax)] }
def FnReadTwiceSaid : Prop := fnReadTwiceRow.holds Tryd.pinned (OpenSpec.ofChange fnReadTwiceSpec)

/-- ITS FALSE NEIGHBOUR: 'it returns false'. Refute it at one input. -/
def fnReadTwiceWrong : ChangeSpec := { name := "fnReadTwice", fn := fun _ => fun
  | [d] => { results := [.lit (.bool false)], args := [d] }
  | _ => none }
def FnReadTwiceWrongFalsely : Prop := fnReadTwiceRow.holds Tryd.pinned (OpenSpec.ofChange fnReadTwiceWrong)

/-- 'laws.FnOpposite': WHATEVER THE INPUT: true; the input reads as it did. -/
def fnOppositeSpec : ChangeSpec := { name := "fnOpposite", fn := fun _ => fun
  | [d1, d2] => { results := [.lit (.bool true)], args := [d1, d2] }
  | _ => none }
def fnOppositeRow : OpenClaim := { program := "ytenepfefpoiddaadoor", sum := "f6287dddd282076ea6b56d3f617ad3279bccd3deec7748ff4567ba8d1f9e33b0", func := "loop.example/lib-g01429/laws.FnOpposite", spec := "fnOpposite", inPlace := ["internal/reflectlite.TypeOf"], unfollowed := true, recurses := true, named := ["internal/strconv.uint64pow10", "math/bits.deBruijn32tab", "math/bits.deBruijn64tab", "strconv.ErrSyntax", "strconv.ErrRange"], apart := false, laid := [("math/bits.deBruijn32tab", laid_math_bits_deBruijn32tab), ("math/bits.deBruijn64tab", laid_math_bits_deBruijn64tab), ("internal/strconv.uint64pow10", laid_internal_strconv_uint64pow10), ("strconv.ErrRange", laid_strconv_ErrRange), ("strconv.ErrSyntax", laid_strconv_ErrSyntax)] }
def FnOppositeSaid : Prop := fnOppositeRow.holds Tryd.pinned (OpenSpec.ofChange fnOppositeSpec)

/-- ITS FALSE NEIGHBOUR: 'it returns false'. Refute it at one input. -/
def fnOppositeWrong : ChangeSpec := { name := "fnOpposite", fn := fun _ => fun
  | [d1, d2] => { results := [.lit (.bool false)], args := [d1, d2] }
  | _ => none }
def FnOppositeWrongFalsely : Prop := fnOppositeRow.holds Tryd.pinned (OpenSpec.ofChange fnOppositeWrong)

/-- 'laws.FnNumbersBack': WHATEVER THE INPUT: true; the input reads as it did. -/
def fnNumbersBackSpec : ChangeSpec := { name := "fnNumbersBack", fn := fun _ => fun
  | [d] => { results := [.lit (.bool true)], args := [d] }
  | _ => none }
def fnNumbersBackRow : OpenClaim := { program := "ytenepfefpoiddaadoor", sum := "f6287dddd282076ea6b56d3f617ad3279bccd3deec7748ff4567ba8d1f9e33b0", func := "loop.example/lib-g01429/laws.FnNumbersBack", spec := "fnNumbersBack", inPlace := ["internal/reflectlite.TypeOf"], unfollowed := true, recurses := true, named := ["internal/strconv.uint64pow10", "math/bits.deBruijn32tab", "math/bits.deBruijn64tab", "strconv.ErrSyntax", "strconv.ErrRange"], apart := false, laid := [("math/bits.deBruijn32tab", laid_math_bits_deBruijn32tab), ("math/bits.deBruijn64tab", laid_math_bits_deBruijn64tab), ("internal/strconv.uint64pow10", laid_internal_strconv_uint64pow10), ("strconv.ErrRange", laid_strconv_ErrRange), ("strconv.ErrSyntax", laid_strconv_ErrSyntax)] }
def FnNumbersBackSaid : Prop := fnNumbersBackRow.holds Tryd.pinned (OpenSpec.ofChange fnNumbersBackSpec)

/-- ITS FALSE NEIGHBOUR: 'it returns false'. Refute it at one input. -/
def fnNumbersBackWrong : ChangeSpec := { name := "fnNumbersBack", fn := fun _ => fun
  | [d] => { results := [.lit (.bool false)], args := [d] }
  | _ => none }
def FnNumbersBackWrongFalsely : Prop := fnNumbersBackRow.holds Tryd.pinned (OpenSpec.ofChange fnNumbersBackWrong)

/- THE SECOND FORM. 'bulk': how many values and letters a reading holds, each counted each time it is reached (what is shared counts as often as it is met; a slice's spare places count too). A statement '..UptoSaid' is the law's where the arguments, and the package variables that the reading takes, are together of bulk at most 1048576: NARROWER than '..Said'. Prove '..Said' where nothing that the law and all that it calls make is longer than what came in: it says more and counts as full. Else prove '..UptoSaid'. A law counts once. -/
mutual
def uptoBulk {H : Type} : DataW H → Nat
  | .lit (.string bytes) => bytes.length + 1
  | .lit _ => 1
  | .nil => 1
  | .ptr d => uptoBulk d + 1
  | .slice elems spare => uptoBulkAll elems + uptoBulkAll spare + 1
  | .agg parts => uptoBulkAll parts + 1
  | .iface _ d => uptoBulk d + 1
  | .map entries => uptoBulkEntries entries + 1
  | .held _ => 1
def uptoBulkAll {H : Type} : List (DataW H) → Nat
  | [] => 0
  | d :: r => uptoBulk d + uptoBulkAll r
def uptoBulkEntries {H : Type} : List (Lit × DataW H) → Nat
  | [] => 0
  | x :: r => uptoBulkEntry x + uptoBulkEntries r
def uptoBulkEntry {H : Type} : Lit × DataW H → Nat
  | (.string bytes, d) => bytes.length + uptoBulk d + 1
  | (_, d) => uptoBulk d + 1
 end
def uptoSmall : (H : Type) → List (DataW H) → Bool := fun _ ds => decide (uptoBulkAll ds ≤ 1048576)
def OpenSpec.upto (s : _root_.Go.ChangeSpec) : _root_.Go.OpenSpec := { _root_.Go.OpenSpec.ofChange s with cond := some uptoSmall }

/-- 'laws.FnExactAppendNumbers', WHERE WHAT IT READS IS OF BULK AT MOST 1048576: true; the input reads as it did. -/
def fnExactAppendNumbersUptoRow : OpenClaim := { program := "ytenepfefpoiddaadoor", sum := "f6287dddd282076ea6b56d3f617ad3279bccd3deec7748ff4567ba8d1f9e33b0", func := "loop.example/lib-g01429/laws.FnExactAppendNumbers", spec := "fnExactAppendNumbers", named := ["internal/strconv.uint64pow10", "math/bits.deBruijn32tab", "math/bits.deBruijn64tab"], apart := false, laid := [("math/bits.deBruijn32tab", laid_math_bits_deBruijn32tab), ("math/bits.deBruijn64tab", laid_math_bits_deBruijn64tab), ("internal/strconv.uint64pow10", laid_internal_strconv_uint64pow10)], narrowed := true }
def FnExactAppendNumbersUptoSaid : Prop := fnExactAppendNumbersUptoRow.holds Tryd.pinned (OpenSpec.upto fnExactAppendNumbersSpec)

/-- 'laws.FnCutDigits', WHERE WHAT IT READS IS OF BULK AT MOST 1048576: true; the input reads as it did. -/
def fnCutDigitsUptoRow : OpenClaim := { program := "ytenepfefpoiddaadoor", sum := "f6287dddd282076ea6b56d3f617ad3279bccd3deec7748ff4567ba8d1f9e33b0", func := "loop.example/lib-g01429/laws.FnCutDigits", spec := "fnCutDigits", inPlace := ["internal/reflectlite.TypeOf"], unfollowed := true, recurses := true, named := ["internal/strconv.uint64pow10", "math/bits.deBruijn32tab", "math/bits.deBruijn64tab", "strconv.ErrSyntax", "strconv.ErrRange"], apart := false, laid := [("math/bits.deBruijn32tab", laid_math_bits_deBruijn32tab), ("math/bits.deBruijn64tab", laid_math_bits_deBruijn64tab), ("internal/strconv.uint64pow10", laid_internal_strconv_uint64pow10), ("strconv.ErrRange", laid_strconv_ErrRange), ("strconv.ErrSyntax", laid_strconv_ErrSyntax)], narrowed := true }
def FnCutDigitsUptoSaid : Prop := fnCutDigitsUptoRow.holds Tryd.pinned (OpenSpec.upto fnCutDigitsSpec)

/-- 'laws.FnGreaterBase', WHERE WHAT IT READS IS OF BULK AT MOST 1048576: true; the input reads as it did. -/
def fnGreaterBaseUptoRow : OpenClaim := { program := "ytenepfefpoiddaadoor", sum := "f6287dddd282076ea6b56d3f617ad3279bccd3deec7748ff4567ba8d1f9e33b0", func := "loop.example/lib-g01429/laws.FnGreaterBase", spec := "fnGreaterBase", inPlace := ["internal/reflectlite.TypeOf"], unfollowed := true, recurses := true, named := ["internal/strconv.uint64pow10", "math/bits.deBruijn32tab", "math/bits.deBruijn64tab", "strconv.ErrSyntax", "strconv.ErrRange"], apart := false, laid := [("math/bits.deBruijn32tab", laid_math_bits_deBruijn32tab), ("math/bits.deBruijn64tab", laid_math_bits_deBruijn64tab), ("internal/strconv.uint64pow10", laid_internal_strconv_uint64pow10), ("strconv.ErrRange", laid_strconv_ErrRange), ("strconv.ErrSyntax", laid_strconv_ErrSyntax)], narrowed := true }
def FnGreaterBaseUptoSaid : Prop := fnGreaterBaseUptoRow.holds Tryd.pinned (OpenSpec.upto fnGreaterBaseSpec)

/-- 'laws.FnJoinDigits', WHERE WHAT IT READS IS OF BULK AT MOST 1048576: true; the input reads as it did. -/
def fnJoinDigitsUptoRow : OpenClaim := { program := "ytenepfefpoiddaadoor", sum := "f6287dddd282076ea6b56d3f617ad3279bccd3deec7748ff4567ba8d1f9e33b0", func := "loop.example/lib-g01429/laws.FnJoinDigits", spec := "fnJoinDigits", inPlace := ["internal/reflectlite.TypeOf"], unfollowed := true, recurses := true, named := ["internal/strconv.uint64pow10", "math/bits.deBruijn32tab", "math/bits.deBruijn64tab", "strconv.ErrSyntax", "strconv.ErrRange"], apart := false, laid := [("math/bits.deBruijn32tab", laid_math_bits_deBruijn32tab), ("math/bits.deBruijn64tab", laid_math_bits_deBruijn64tab), ("internal/strconv.uint64pow10", laid_internal_strconv_uint64pow10), ("strconv.ErrRange", laid_strconv_ErrRange), ("strconv.ErrSyntax", laid_strconv_ErrSyntax)], narrowed := true }
def FnJoinDigitsUptoSaid : Prop := fnJoinDigitsUptoRow.holds Tryd.pinned (OpenSpec.upto fnJoinDigitsSpec)

/-- 'laws.FnZerosBehind', WHERE WHAT IT READS IS OF BULK AT MOST 1048576: true; the input reads as it did. -/
def fnZerosBehindUptoRow : OpenClaim := { program := "ytenepfefpoiddaadoor", sum := "f6287dddd282076ea6b56d3f617ad3279bccd3deec7748ff4567ba8d1f9e33b0", func := "loop.example/lib-g01429/laws.FnZerosBehind", spec := "fnZerosBehind", inPlace := ["internal/reflectlite.TypeOf"], unfollowed := true, recurses := true, named := ["internal/strconv.uint64pow10", "math/bits.deBruijn32tab", "math/bits.deBruijn64tab", "strconv.ErrSyntax", "strconv.ErrRange"], apart := false, laid := [("math/bits.deBruijn32tab", laid_math_bits_deBruijn32tab), ("math/bits.deBruijn64tab", laid_math_bits_deBruijn64tab), ("internal/strconv.uint64pow10", laid_internal_strconv_uint64pow10), ("strconv.ErrRange", laid_strconv_ErrRange), ("strconv.ErrSyntax", laid_strconv_ErrSyntax)], narrowed := true }
def FnZerosBehindUptoSaid : Prop := fnZerosBehindUptoRow.holds Tryd.pinned (OpenSpec.upto fnZerosBehindSpec)

/-- 'laws.FnListBack', WHERE WHAT IT READS IS OF BULK AT MOST 1048576: true; the input reads as it did. -/
def fnListBackUptoRow : OpenClaim := { program := "ytenepfefpoiddaadoor", sum := "f6287dddd282076ea6b56d3f617ad3279bccd3deec7748ff4567ba8d1f9e33b0", func := "loop.example/lib-g01429/laws.FnListBack", spec := "fnListBack", inPlace := ["internal/reflectlite.TypeOf"], unfollowed := true, recurses := true, named := ["internal/strconv.uint64pow10", "math/bits.deBruijn32tab", "math/bits.deBruijn64tab", "strconv.ErrSyntax", "strconv.ErrRange"], apart := false, laid := [("math/bits.deBruijn32tab", laid_math_bits_deBruijn32tab), ("math/bits.deBruijn64tab", laid_math_bits_deBruijn64tab), ("internal/strconv.uint64pow10", laid_internal_strconv_uint64pow10), ("strconv.ErrRange", laid_strconv_ErrRange), ("strconv.ErrSyntax", laid_strconv_ErrSyntax)], narrowed := true }
def FnListBackUptoSaid : Prop := fnListBackUptoRow.holds Tryd.pinned (OpenSpec.upto fnListBackSpec)

/-- 'laws.FnExactReadNumbers', WHERE WHAT IT READS IS OF BULK AT MOST 1048576: true; the input reads as it did. -/
def fnExactReadNumbersUptoRow : OpenClaim := { program := "ytenepfefpoiddaadoor", sum := "f6287dddd282076ea6b56d3f617ad3279bccd3deec7748ff4567ba8d1f9e33b0", func := "loop.example/lib-g01429/laws.FnExactReadNumbers", spec := "fnExactReadNumbers", inPlace := ["internal/reflectlite.TypeOf"], unfollowed := true, recurses := true, named := ["strconv.ErrSyntax", "strconv.ErrRange", "internal/strconv.uint64pow10", "math/bits.deBruijn32tab", "math/bits.deBruijn64tab"], apart := false, laid := [("math/bits.deBruijn32tab", laid_math_bits_deBruijn32tab), ("math/bits.deBruijn64tab", laid_math_bits_deBruijn64tab), ("internal/strconv.uint64pow10", laid_internal_strconv_uint64pow10), ("strconv.ErrRange", laid_strconv_ErrRange), ("strconv.ErrSyntax", laid_strconv_ErrSyntax)], narrowed := true }
def FnExactReadNumbersUptoSaid : Prop := fnExactReadNumbersUptoRow.holds Tryd.pinned (OpenSpec.upto fnExactReadNumbersSpec)

/-- 'laws.FnReadTwice', WHERE WHAT IT READS IS OF BULK AT MOST 1048576: true; the input reads as it did. -/
def fnReadTwiceUptoRow : OpenClaim := { program := "ytenepfefpoiddaadoor", sum := "f6287dddd282076ea6b56d3f617ad3279bccd3deec7748ff4567ba8d1f9e33b0", func := "loop.example/lib-g01429/laws.FnReadTwice", spec := "fnReadTwice", inPlace := ["internal/reflectlite.TypeOf"], unfollowed := true, recurses := true, named := ["strconv.ErrSyntax", "strconv.ErrRange", "internal/strconv.uint64pow10", "math/bits.deBruijn32tab", "math/bits.deBruijn64tab"], apart := false, laid := [("math/bits.deBruijn32tab", laid_math_bits_deBruijn32tab), ("math/bits.deBruijn64tab", laid_math_bits_deBruijn64tab), ("internal/strconv.uint64pow10", laid_internal_strconv_uint64pow10), ("strconv.ErrRange", laid_strconv_ErrRange), ("strconv.ErrSyntax", laid_strconv_ErrSyntax)], narrowed := true }
def FnReadTwiceUptoSaid : Prop := fnReadTwiceUptoRow.holds Tryd.pinned (OpenSpec.upto fnReadTwiceSpec)

/-- 'laws.FnOpposite', WHERE WHAT IT READS IS OF BULK AT MOST 1048576: true; the input reads as it did. -/
def fnOppositeUptoRow : OpenClaim := { program := "ytenepfefpoiddaadoor", sum := "f6287dddd282076ea6b56d3f617ad3279bccd3deec7748ff4567ba8d1f9e33b0", func := "loop.example/lib-g01429/laws.FnOpposite", spec := "fnOpposite", inPlace := ["internal/reflectlite.TypeOf"], unfollowed := true, recurses := true, named := ["internal/strconv.uint64pow10", "math/bits.deBruijn32tab", "math/bits.deBruijn64tab", "strconv.ErrSyntax", "strconv.ErrRange"], apart := false, laid := [("math/bits.deBruijn32tab", laid_math_bits_deBruijn32tab), ("math/bits.deBruijn64tab", laid_math_bits_deBruijn64tab), ("internal/strconv.uint64pow10", laid_internal_strconv_uint64pow10), ("strconv.ErrRange", laid_strconv_ErrRange), ("strconv.ErrSyntax", laid_strconv_ErrSyntax)], narrowed := true }
def FnOppositeUptoSaid : Prop := fnOppositeUptoRow.holds Tryd.pinned (OpenSpec.upto fnOppositeSpec)

/-- 'laws.FnNumbersBack', WHERE WHAT IT READS IS OF BULK AT MOST 1048576: true; the input reads as it did. -/
def fnNumbersBackUptoRow : OpenClaim := { program := "ytenepfefpoiddaadoor", sum := "f6287dddd282076ea6b56d3f617ad3279bccd3deec7748ff4567ba8d1f9e33b0", func := "loop.example/lib-g01429/laws.FnNumbersBack", spec := "fnNumbersBack", inPlace := ["internal/reflectlite.TypeOf"], unfollowed := true, recurses := true, named := ["internal/strconv.uint64pow10", "math/bits.deBruijn32tab", "math/bits.deBruijn64tab", "strconv.ErrSyntax", "strconv.ErrRange"], apart := false, laid := [("math/bits.deBruijn32tab", laid_math_bits_deBruijn32tab), ("math/bits.deBruijn64tab", laid_math_bits_deBruijn64tab), ("internal/strconv.uint64pow10", laid_internal_strconv_uint64pow10), ("strconv.ErrRange", laid_strconv_ErrRange), ("strconv.ErrSyntax", laid_strconv_ErrSyntax)], narrowed := true }
def FnNumbersBackUptoSaid : Prop := fnNumbersBackUptoRow.holds Tryd.pinned (OpenSpec.upto fnNumbersBackSpec)

end Rows
end Go.Proofs.YtenepfefpoiddaaDoor
