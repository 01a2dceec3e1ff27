/-
  NARROWER THAN 'FOR EVERY INPUT', by the rows' own cells (each row's printed sentence says how): FnLimNegative: laid · FnLimMonotonic: laid · FnFieldRuleBad: laid · FnNumRange: laid · FnNumPort: laid · FnNumUser: laid · FnLimItems: laid · FnLimNumber: laid · FnLimText: laid.
  DERIVED. THE GIVEN ROWS OF THIS SEAT. 9 by the template 'for every input the law returns true; each argument reads behind the call as it read before'; 0 by the template 'total and deterministic' (their statements: YtefnfcpekiaenaaDoorTotals.lean).
  GIVEN WITH THE SEED: the statements are not yours to turn. If you find one false, say at which input.
  Laid BY PROGRAM, IN A SANDBOX (cutbox-rows.mjs): the forced cells as the released guide's own fill.sh prints them over the translation 86aae5e9b2864bc2… (all of the seat's roots in one cut). By AI agents, Wed Nov 11 2026. No macro, syntax, notation, axiom, sorry.
-/
import Derived.Test.YtefnfcpekiaenaaDoorChecked
import GoSem.Claim
import GoSem.ClaimJoined
import GoSem.ClaimMapViews
import Derived.JoinedTies
import Derived.KernelRfl
namespace Go.Proofs.YtefnfcpekiaenaaDoor
/- THE CELL 'sum', in the pinned program and in every row, IS THE sha256 OF THE DUMP (.gsa) THAT YtefnfcpekiaenaaDoorProg.lean LOADS. Nothing in Lean hashes anything: it is a label: what it is worth is what the hold of that sum in a sandbox is worth. -/
noncomputable def Tryd.pinned : Pinned := { name := "ytefnfcpekiaenaadoor", sum := "86aae5e9b2864bc213491945abebcc8157b8ab0080594b937d7e38e7aa8c4646", checked := Tryd.checked }
namespace Rows
def none {H : Type} : Left H := { results := [], args := [] }

/- WHAT THE LISTED PACKAGE-LEVEL VARIABLES READ AS WHEN THE CALL BEGINS. Each datum BY PROGRAM (the guide's laid-datum.mjs) off the statement by which the dump's own 'gosem.cut.vars' lays the variable. In a bare row this is a premise. The card (YtefnfcpekiaenaaDoorCards.lean) ties it to the program's text. -/
def laid_bytes_ErrTooLarge {H : Type} : DataW H := .iface "*errors.errorString" (.ptr (.agg [.lit (.string [98, 121, 116, 101, 115, 46, 66, 117, 102, 102, 101, 114, 58, 32, 116, 111, 111, 32, 108, 97, 114, 103, 101])]))
def laid_math_bits_deBruijn32tab {H : Type} : DataW H := .agg [.lit (.int .u8 0), .lit (.int .u8 1), .lit (.int .u8 28), .lit (.int .u8 2), .lit (.int .u8 29), .lit (.int .u8 14), .lit (.int .u8 24), .lit (.int .u8 3), .lit (.int .u8 30), .lit (.int .u8 22), .lit (.int .u8 20), .lit (.int .u8 15), .lit (.int .u8 25), .lit (.int .u8 17), .lit (.int .u8 4), .lit (.int .u8 8), .lit (.int .u8 31), .lit (.int .u8 27), .lit (.int .u8 13), .lit (.int .u8 23), .lit (.int .u8 21), .lit (.int .u8 19), .lit (.int .u8 16), .lit (.int .u8 7), .lit (.int .u8 26), .lit (.int .u8 12), .lit (.int .u8 18), .lit (.int .u8 6), .lit (.int .u8 11), .lit (.int .u8 5), .lit (.int .u8 10), .lit (.int .u8 9)]
def laid_math_bits_deBruijn64tab {H : Type} : DataW H := .agg [.lit (.int .u8 0), .lit (.int .u8 1), .lit (.int .u8 56), .lit (.int .u8 2), .lit (.int .u8 57), .lit (.int .u8 49), .lit (.int .u8 28), .lit (.int .u8 3), .lit (.int .u8 61), .lit (.int .u8 58), .lit (.int .u8 42), .lit (.int .u8 50), .lit (.int .u8 38), .lit (.int .u8 29), .lit (.int .u8 17), .lit (.int .u8 4), .lit (.int .u8 62), .lit (.int .u8 47), .lit (.int .u8 59), .lit (.int .u8 36), .lit (.int .u8 45), .lit (.int .u8 43), .lit (.int .u8 51), .lit (.int .u8 22), .lit (.int .u8 53), .lit (.int .u8 39), .lit (.int .u8 33), .lit (.int .u8 30), .lit (.int .u8 24), .lit (.int .u8 18), .lit (.int .u8 12), .lit (.int .u8 5), .lit (.int .u8 63), .lit (.int .u8 55), .lit (.int .u8 48), .lit (.int .u8 27), .lit (.int .u8 60), .lit (.int .u8 41), .lit (.int .u8 37), .lit (.int .u8 16), .lit (.int .u8 46), .lit (.int .u8 35), .lit (.int .u8 44), .lit (.int .u8 21), .lit (.int .u8 52), .lit (.int .u8 32), .lit (.int .u8 23), .lit (.int .u8 11), .lit (.int .u8 54), .lit (.int .u8 26), .lit (.int .u8 40), .lit (.int .u8 15), .lit (.int .u8 34), .lit (.int .u8 20), .lit (.int .u8 31), .lit (.int .u8 10), .lit (.int .u8 25), .lit (.int .u8 14), .lit (.int .u8 19), .lit (.int .u8 9), .lit (.int .u8 13), .lit (.int .u8 8), .lit (.int .u8 7), .lit (.int .u8 6)]
def laid_internal_strconv_uint64pow10 {H : Type} : DataW H := .agg [.lit (.int .u64 1), .lit (.int .u64 10), .lit (.int .u64 100), .lit (.int .u64 1000), .lit (.int .u64 10000), .lit (.int .u64 100000), .lit (.int .u64 1000000), .lit (.int .u64 10000000), .lit (.int .u64 100000000), .lit (.int .u64 1000000000), .lit (.int .u64 10000000000), .lit (.int .u64 100000000000), .lit (.int .u64 1000000000000), .lit (.int .u64 10000000000000), .lit (.int .u64 100000000000000), .lit (.int .u64 1000000000000000), .lit (.int .u64 10000000000000000), .lit (.int .u64 100000000000000000), .lit (.int .u64 1000000000000000000), .lit (.int .u64 10000000000000000000)]

/-- 'laws.FnLimNegative': WHATEVER THE INPUT: true; the input reads as it did. -/
def fnLimNegativeSpec : ChangeSpec := { name := "fnLimNegative", fn := fun _ => fun
  | [d] => { results := [.lit (.bool true)], args := [d] }
  | _ => none }
def fnLimNegativeRow : OpenClaim := { program := "ytefnfcpekiaenaadoor", sum := "86aae5e9b2864bc213491945abebcc8157b8ab0080594b937d7e38e7aa8c4646", func := "pub-doorplate/laws.FnLimNegative", spec := "fnLimNegative", named := ["bytes.ErrTooLarge"], apart := false, laid := [("bytes.ErrTooLarge", laid_bytes_ErrTooLarge)] }
def FnLimNegativeSaid : Prop := fnLimNegativeRow.holds Tryd.pinned (OpenSpec.ofChange fnLimNegativeSpec)

/-- ITS FALSE NEIGHBOUR: 'it returns false'. Refute it at one input. -/
def fnLimNegativeWrong : ChangeSpec := { name := "fnLimNegative", fn := fun _ => fun
  | [d] => { results := [.lit (.bool false)], args := [d] }
  | _ => none }
def FnLimNegativeWrongFalsely : Prop := fnLimNegativeRow.holds Tryd.pinned (OpenSpec.ofChange fnLimNegativeWrong)

/-- 'laws.FnLimMonotonic': WHATEVER THE INPUT: true; the input reads as it did. -/
def fnLimMonotonicSpec : ChangeSpec := { name := "fnLimMonotonic", fn := fun _ => fun
  | [d1, d2, d3, d4] => { results := [.lit (.bool true)], args := [d1, d2, d3, d4] }
  | _ => none }
def fnLimMonotonicRow : OpenClaim := { program := "ytefnfcpekiaenaadoor", sum := "86aae5e9b2864bc213491945abebcc8157b8ab0080594b937d7e38e7aa8c4646", func := "pub-doorplate/laws.FnLimMonotonic", spec := "fnLimMonotonic", named := ["bytes.ErrTooLarge"], apart := false, laid := [("bytes.ErrTooLarge", laid_bytes_ErrTooLarge)] }
def FnLimMonotonicSaid : Prop := fnLimMonotonicRow.holds Tryd.pinned (OpenSpec.ofChange fnLimMonotonicSpec)

/-- ITS FALSE NEIGHBOUR: 'it returns false'. Refute it at one input. -/
def fnLimMonotonicWrong : ChangeSpec := { name := "fnLimMonotonic", fn := fun _ => fun
  | [d1, d2, d3, d4] => { results := [.lit (.bool false)], args := [d1, d2, d3, d4] }
  | _ => none }
def FnLimMonotonicWrongFalsely : Prop := fnLimMonotonicRow.holds Tryd.pinned (OpenSpec.ofChange fnLimMonotonicWrong)

/-- 'laws.FnFieldRuleBad': WHATEVER THE INPUT: true; the input reads as it did. -/
def fnFieldRuleBadSpec : ChangeSpec := { name := "fnFieldRuleBad", fn := fun _ => fun
  | [d1, d2] => { results := [.lit (.bool true)], args := [d1, d2] }
  | _ => none }
def fnFieldRuleBadRow : OpenClaim := { program := "ytefnfcpekiaenaadoor", sum := "86aae5e9b2864bc213491945abebcc8157b8ab0080594b937d7e38e7aa8c4646", func := "pub-doorplate/laws.FnFieldRuleBad", spec := "fnFieldRuleBad", named := ["bytes.ErrTooLarge"], apart := false, laid := [("bytes.ErrTooLarge", laid_bytes_ErrTooLarge)] }
def FnFieldRuleBadSaid : Prop := fnFieldRuleBadRow.holds Tryd.pinned (OpenSpec.ofChange fnFieldRuleBadSpec)

/-- ITS FALSE NEIGHBOUR: 'it returns false'. Refute it at one input. -/
def fnFieldRuleBadWrong : ChangeSpec := { name := "fnFieldRuleBad", fn := fun _ => fun
  | [d1, d2] => { results := [.lit (.bool false)], args := [d1, d2] }
  | _ => none }
def FnFieldRuleBadWrongFalsely : Prop := fnFieldRuleBadRow.holds Tryd.pinned (OpenSpec.ofChange fnFieldRuleBadWrong)

/-- 'laws.FnNumRange': WHATEVER THE INPUT: true; the input reads as it did. -/
def fnNumRangeSpec : ChangeSpec := { name := "fnNumRange", fn := fun _ => fun
  | [d1, d2, d3] => { results := [.lit (.bool true)], args := [d1, d2, d3] }
  | _ => none }
def fnNumRangeRow : OpenClaim := { program := "ytefnfcpekiaenaadoor", sum := "86aae5e9b2864bc213491945abebcc8157b8ab0080594b937d7e38e7aa8c4646", func := "pub-doorplate/laws.FnNumRange", spec := "fnNumRange", named := ["internal/strconv.uint64pow10", "math/bits.deBruijn32tab", "math/bits.deBruijn64tab"], apart := false, laid := [("math/bits.deBruijn32tab", laid_math_bits_deBruijn32tab), ("math/bits.deBruijn64tab", laid_math_bits_deBruijn64tab), ("internal/strconv.uint64pow10", laid_internal_strconv_uint64pow10)] }
def FnNumRangeSaid : Prop := fnNumRangeRow.holds Tryd.pinned (OpenSpec.ofChange fnNumRangeSpec)

/-- ITS FALSE NEIGHBOUR: 'it returns false'. Refute it at one input. -/
def fnNumRangeWrong : ChangeSpec := { name := "fnNumRange", fn := fun _ => fun
  | [d1, d2, d3] => { results := [.lit (.bool false)], args := [d1, d2, d3] }
  | _ => none }
def FnNumRangeWrongFalsely : Prop := fnNumRangeRow.holds Tryd.pinned (OpenSpec.ofChange fnNumRangeWrong)

/-- 'laws.FnNumPort': WHATEVER THE INPUT: true; the input reads as it did. -/
def fnNumPortSpec : ChangeSpec := { name := "fnNumPort", fn := fun _ => fun
  | [d] => { results := [.lit (.bool true)], args := [d] }
  | _ => none }
def fnNumPortRow : OpenClaim := { program := "ytefnfcpekiaenaadoor", sum := "86aae5e9b2864bc213491945abebcc8157b8ab0080594b937d7e38e7aa8c4646", func := "pub-doorplate/laws.FnNumPort", spec := "fnNumPort", named := ["internal/strconv.uint64pow10", "math/bits.deBruijn32tab", "math/bits.deBruijn64tab"], apart := false, laid := [("math/bits.deBruijn32tab", laid_math_bits_deBruijn32tab), ("math/bits.deBruijn64tab", laid_math_bits_deBruijn64tab), ("internal/strconv.uint64pow10", laid_internal_strconv_uint64pow10)] }
def FnNumPortSaid : Prop := fnNumPortRow.holds Tryd.pinned (OpenSpec.ofChange fnNumPortSpec)

/-- ITS FALSE NEIGHBOUR: 'it returns false'. Refute it at one input. -/
def fnNumPortWrong : ChangeSpec := { name := "fnNumPort", fn := fun _ => fun
  | [d] => { results := [.lit (.bool false)], args := [d] }
  | _ => none }
def FnNumPortWrongFalsely : Prop := fnNumPortRow.holds Tryd.pinned (OpenSpec.ofChange fnNumPortWrong)

/-- 'laws.FnNumUser': WHATEVER THE INPUT: true; the input reads as it did. -/
def fnNumUserSpec : ChangeSpec := { name := "fnNumUser", fn := fun _ => fun
  | [d] => { results := [.lit (.bool true)], args := [d] }
  | _ => none }
def fnNumUserRow : OpenClaim := { program := "ytefnfcpekiaenaadoor", sum := "86aae5e9b2864bc213491945abebcc8157b8ab0080594b937d7e38e7aa8c4646", func := "pub-doorplate/laws.FnNumUser", spec := "fnNumUser", named := ["internal/strconv.uint64pow10", "math/bits.deBruijn32tab", "math/bits.deBruijn64tab"], apart := false, laid := [("math/bits.deBruijn32tab", laid_math_bits_deBruijn32tab), ("math/bits.deBruijn64tab", laid_math_bits_deBruijn64tab), ("internal/strconv.uint64pow10", laid_internal_strconv_uint64pow10)] }
def FnNumUserSaid : Prop := fnNumUserRow.holds Tryd.pinned (OpenSpec.ofChange fnNumUserSpec)

/-- ITS FALSE NEIGHBOUR: 'it returns false'. Refute it at one input. -/
def fnNumUserWrong : ChangeSpec := { name := "fnNumUser", fn := fun _ => fun
  | [d] => { results := [.lit (.bool false)], args := [d] }
  | _ => none }
def FnNumUserWrongFalsely : Prop := fnNumUserRow.holds Tryd.pinned (OpenSpec.ofChange fnNumUserWrong)

/-- 'laws.FnLimItems': WHATEVER THE INPUT: true; the input reads as it did. -/
def fnLimItemsSpec : ChangeSpec := { name := "fnLimItems", fn := fun _ => fun
  | [d1, d2] => { results := [.lit (.bool true)], args := [d1, d2] }
  | _ => none }
def fnLimItemsRow : OpenClaim := { program := "ytefnfcpekiaenaadoor", sum := "86aae5e9b2864bc213491945abebcc8157b8ab0080594b937d7e38e7aa8c4646", func := "pub-doorplate/laws.FnLimItems", spec := "fnLimItems", inPlace := ["math.archCeil", "math.archFloor", "math.Float64bits", "math.Float64frombits", "math.archTrunc"], named := ["internal/strconv.uint64pow10", "math/bits.deBruijn32tab", "math/bits.deBruijn64tab", "bytes.ErrTooLarge"], apart := false, laid := [("math/bits.deBruijn32tab", laid_math_bits_deBruijn32tab), ("math/bits.deBruijn64tab", laid_math_bits_deBruijn64tab), ("internal/strconv.uint64pow10", laid_internal_strconv_uint64pow10), ("bytes.ErrTooLarge", laid_bytes_ErrTooLarge)] }
def FnLimItemsSaid : Prop := fnLimItemsRow.holds Tryd.pinned (OpenSpec.ofChange fnLimItemsSpec)

/-- ITS FALSE NEIGHBOUR: 'it returns false'. Refute it at one input. -/
def fnLimItemsWrong : ChangeSpec := { name := "fnLimItems", fn := fun _ => fun
  | [d1, d2] => { results := [.lit (.bool false)], args := [d1, d2] }
  | _ => none }
def FnLimItemsWrongFalsely : Prop := fnLimItemsRow.holds Tryd.pinned (OpenSpec.ofChange fnLimItemsWrong)

/-- 'laws.FnLimNumber': WHATEVER THE INPUT: true; the input reads as it did. -/
def fnLimNumberSpec : ChangeSpec := { name := "fnLimNumber", fn := fun _ => fun
  | [d1, d2] => { results := [.lit (.bool true)], args := [d1, d2] }
  | _ => none }
def fnLimNumberRow : OpenClaim := { program := "ytefnfcpekiaenaadoor", sum := "86aae5e9b2864bc213491945abebcc8157b8ab0080594b937d7e38e7aa8c4646", func := "pub-doorplate/laws.FnLimNumber", spec := "fnLimNumber", inPlace := ["math.archCeil", "math.archFloor", "math.Float64bits", "math.Float64frombits", "math.archTrunc"], named := ["internal/strconv.uint64pow10", "math/bits.deBruijn32tab", "math/bits.deBruijn64tab", "bytes.ErrTooLarge"], apart := false, laid := [("math/bits.deBruijn32tab", laid_math_bits_deBruijn32tab), ("math/bits.deBruijn64tab", laid_math_bits_deBruijn64tab), ("internal/strconv.uint64pow10", laid_internal_strconv_uint64pow10), ("bytes.ErrTooLarge", laid_bytes_ErrTooLarge)] }
def FnLimNumberSaid : Prop := fnLimNumberRow.holds Tryd.pinned (OpenSpec.ofChange fnLimNumberSpec)

/-- ITS FALSE NEIGHBOUR: 'it returns false'. Refute it at one input. -/
def fnLimNumberWrong : ChangeSpec := { name := "fnLimNumber", fn := fun _ => fun
  | [d1, d2] => { results := [.lit (.bool false)], args := [d1, d2] }
  | _ => none }
def FnLimNumberWrongFalsely : Prop := fnLimNumberRow.holds Tryd.pinned (OpenSpec.ofChange fnLimNumberWrong)

/-- 'laws.FnLimText': WHATEVER THE INPUT: true; the input reads as it did. -/
def fnLimTextSpec : ChangeSpec := { name := "fnLimText", fn := fun _ => fun
  | [d1, d2] => { results := [.lit (.bool true)], args := [d1, d2] }
  | _ => none }
def fnLimTextRow : OpenClaim := { program := "ytefnfcpekiaenaadoor", sum := "86aae5e9b2864bc213491945abebcc8157b8ab0080594b937d7e38e7aa8c4646", func := "pub-doorplate/laws.FnLimText", spec := "fnLimText", inPlace := ["math.archCeil", "math.archFloor", "math.Float64bits", "math.Float64frombits", "math.archTrunc"], named := ["internal/strconv.uint64pow10", "math/bits.deBruijn32tab", "math/bits.deBruijn64tab", "bytes.ErrTooLarge"], apart := false, laid := [("math/bits.deBruijn32tab", laid_math_bits_deBruijn32tab), ("math/bits.deBruijn64tab", laid_math_bits_deBruijn64tab), ("internal/strconv.uint64pow10", laid_internal_strconv_uint64pow10), ("bytes.ErrTooLarge", laid_bytes_ErrTooLarge)] }
def FnLimTextSaid : Prop := fnLimTextRow.holds Tryd.pinned (OpenSpec.ofChange fnLimTextSpec)

/-- ITS FALSE NEIGHBOUR: 'it returns false'. Refute it at one input. -/
def fnLimTextWrong : ChangeSpec := { name := "fnLimText", fn := fun _ => fun
  | [d1, d2] => { results := [.lit (.bool false)], args := [d1, d2] }
  | _ => none }
def FnLimTextWrongFalsely : Prop := fnLimTextRow.holds Tryd.pinned (OpenSpec.ofChange fnLimTextWrong)

/- THE SECOND FORM. 'bulk': how many values and letters a reading holds, each counted each time it is reached (what is shared counts as often as it is met; a slice's spare places count too). A statement '..UptoSaid' is the law's where the arguments, and the package variables that the reading takes, are together of bulk at most 1048576: NARROWER than '..Said'. Prove '..Said' where nothing that the law and all that it calls make is longer than what came in: it says more and counts as full. Else prove '..UptoSaid'. A law counts once. -/
mutual
def uptoBulk {H : Type} : DataW H → Nat
  | .lit (.string bytes) => bytes.length + 1
  | .lit _ => 1
  | .nil => 1
  | .ptr d => uptoBulk d + 1
  | .slice elems spare => uptoBulkAll elems + uptoBulkAll spare + 1
  | .agg parts => uptoBulkAll parts + 1
  | .iface _ d => uptoBulk d + 1
  | .map entries => uptoBulkEntries entries + 1
  | .held _ => 1
def uptoBulkAll {H : Type} : List (DataW H) → Nat
  | [] => 0
  | d :: r => uptoBulk d + uptoBulkAll r
def uptoBulkEntries {H : Type} : List (Lit × DataW H) → Nat
  | [] => 0
  | x :: r => uptoBulkEntry x + uptoBulkEntries r
def uptoBulkEntry {H : Type} : Lit × DataW H → Nat
  | (.string bytes, d) => bytes.length + uptoBulk d + 1
  | (_, d) => uptoBulk d + 1
 end
def uptoSmall : (H : Type) → List (DataW H) → Bool := fun _ ds => decide (uptoBulkAll ds ≤ 1048576)
def OpenSpec.upto (s : _root_.Go.ChangeSpec) : _root_.Go.OpenSpec := { _root_.Go.OpenSpec.ofChange s with cond := some uptoSmall }

/-- 'laws.FnLimNegative', WHERE WHAT IT READS IS OF BULK AT MOST 1048576: true; the input reads as it did. -/
def fnLimNegativeUptoRow : OpenClaim := { program := "ytefnfcpekiaenaadoor", sum := "86aae5e9b2864bc213491945abebcc8157b8ab0080594b937d7e38e7aa8c4646", func := "pub-doorplate/laws.FnLimNegative", spec := "fnLimNegative", named := ["bytes.ErrTooLarge"], apart := false, laid := [("bytes.ErrTooLarge", laid_bytes_ErrTooLarge)], narrowed := true }
def FnLimNegativeUptoSaid : Prop := fnLimNegativeUptoRow.holds Tryd.pinned (OpenSpec.upto fnLimNegativeSpec)

/-- 'laws.FnLimMonotonic', WHERE WHAT IT READS IS OF BULK AT MOST 1048576: true; the input reads as it did. -/
def fnLimMonotonicUptoRow : OpenClaim := { program := "ytefnfcpekiaenaadoor", sum := "86aae5e9b2864bc213491945abebcc8157b8ab0080594b937d7e38e7aa8c4646", func := "pub-doorplate/laws.FnLimMonotonic", spec := "fnLimMonotonic", named := ["bytes.ErrTooLarge"], apart := false, laid := [("bytes.ErrTooLarge", laid_bytes_ErrTooLarge)], narrowed := true }
def FnLimMonotonicUptoSaid : Prop := fnLimMonotonicUptoRow.holds Tryd.pinned (OpenSpec.upto fnLimMonotonicSpec)

/-- 'laws.FnFieldRuleBad', WHERE WHAT IT READS IS OF BULK AT MOST 1048576: true; the input reads as it did. -/
def fnFieldRuleBadUptoRow : OpenClaim := { program := "ytefnfcpekiaenaadoor", sum := "86aae5e9b2864bc213491945abebcc8157b8ab0080594b937d7e38e7aa8c4646", func := "pub-doorplate/laws.FnFieldRuleBad", spec := "fnFieldRuleBad", named := ["bytes.ErrTooLarge"], apart := false, laid := [("bytes.ErrTooLarge", laid_bytes_ErrTooLarge)], narrowed := true }
def FnFieldRuleBadUptoSaid : Prop := fnFieldRuleBadUptoRow.holds Tryd.pinned (OpenSpec.upto fnFieldRuleBadSpec)

/-- 'laws.FnNumRange', WHERE WHAT IT READS IS OF BULK AT MOST 1048576: true; the input reads as it did. -/
def fnNumRangeUptoRow : OpenClaim := { program := "ytefnfcpekiaenaadoor", sum := "86aae5e9b2864bc213491945abebcc8157b8ab0080594b937d7e38e7aa8c4646", func := "pub-doorplate/laws.FnNumRange", spec := "fnNumRange", named := ["internal/strconv.uint64pow10", "math/bits.deBruijn32tab", "math/bits.deBruijn64tab"], apart := false, laid := [("math/bits.deBruijn32tab", laid_math_bits_deBruijn32tab), ("math/bits.deBruijn64tab", laid_math_bits_deBruijn64tab), ("internal/strconv.uint64pow10", laid_internal_strconv_uint64pow10)], narrowed := true }
def FnNumRangeUptoSaid : Prop := fnNumRangeUptoRow.holds Tryd.pinned (OpenSpec.upto fnNumRangeSpec)

/-- 'laws.FnNumPort', WHERE WHAT IT READS IS OF BULK AT MOST 1048576: true; the input reads as it did. -/
def fnNumPortUptoRow : OpenClaim := { program := "ytefnfcpekiaenaadoor", sum := "86aae5e9b2864bc213491945abebcc8157b8ab0080594b937d7e38e7aa8c4646", func := "pub-doorplate/laws.FnNumPort", spec := "fnNumPort", named := ["internal/strconv.uint64pow10", "math/bits.deBruijn32tab", "math/bits.deBruijn64tab"], apart := false, laid := [("math/bits.deBruijn32tab", laid_math_bits_deBruijn32tab), ("math/bits.deBruijn64tab", laid_math_bits_deBruijn64tab), ("internal/strconv.uint64pow10", laid_internal_strconv_uint64pow10)], narrowed := true }
def FnNumPortUptoSaid : Prop := fnNumPortUptoRow.holds Tryd.pinned (OpenSpec.upto fnNumPortSpec)

/-- 'laws.FnNumUser', WHERE WHAT IT READS IS OF BULK AT MOST 1048576: true; the input reads as it did. -/
def fnNumUserUptoRow : OpenClaim := { program := "ytefnfcpekiaenaadoor", sum := "86aae5e9b2864bc213491945abebcc8157b8ab0080594b937d7e38e7aa8c4646", func := "pub-doorplate/laws.FnNumUser", spec := "fnNumUser", named := ["internal/strconv.uint64pow10", "math/bits.deBruijn32tab", "math/bits.deBruijn64tab"], apart := false, laid := [("math/bits.deBruijn32tab", laid_math_bits_deBruijn32tab), ("math/bits.deBruijn64tab", laid_math_bits_deBruijn64tab), ("internal/strconv.uint64pow10", laid_internal_strconv_uint64pow10)], narrowed := true }
def FnNumUserUptoSaid : Prop := fnNumUserUptoRow.holds Tryd.pinned (OpenSpec.upto fnNumUserSpec)

/-- 'laws.FnLimItems', WHERE WHAT IT READS IS OF BULK AT MOST 1048576: true; the input reads as it did. -/
def fnLimItemsUptoRow : OpenClaim := { program := "ytefnfcpekiaenaadoor", sum := "86aae5e9b2864bc213491945abebcc8157b8ab0080594b937d7e38e7aa8c4646", func := "pub-doorplate/laws.FnLimItems", spec := "fnLimItems", inPlace := ["math.archCeil", "math.archFloor", "math.Float64bits", "math.Float64frombits", "math.archTrunc"], named := ["internal/strconv.uint64pow10", "math/bits.deBruijn32tab", "math/bits.deBruijn64tab", "bytes.ErrTooLarge"], apart := false, laid := [("math/bits.deBruijn32tab", laid_math_bits_deBruijn32tab), ("math/bits.deBruijn64tab", laid_math_bits_deBruijn64tab), ("internal/strconv.uint64pow10", laid_internal_strconv_uint64pow10), ("bytes.ErrTooLarge", laid_bytes_ErrTooLarge)], narrowed := true }
def FnLimItemsUptoSaid : Prop := fnLimItemsUptoRow.holds Tryd.pinned (OpenSpec.upto fnLimItemsSpec)

/-- 'laws.FnLimNumber', WHERE WHAT IT READS IS OF BULK AT MOST 1048576: true; the input reads as it did. -/
def fnLimNumberUptoRow : OpenClaim := { program := "ytefnfcpekiaenaadoor", sum := "86aae5e9b2864bc213491945abebcc8157b8ab0080594b937d7e38e7aa8c4646", func := "pub-doorplate/laws.FnLimNumber", spec := "fnLimNumber", inPlace := ["math.archCeil", "math.archFloor", "math.Float64bits", "math.Float64frombits", "math.archTrunc"], named := ["internal/strconv.uint64pow10", "math/bits.deBruijn32tab", "math/bits.deBruijn64tab", "bytes.ErrTooLarge"], apart := false, laid := [("math/bits.deBruijn32tab", laid_math_bits_deBruijn32tab), ("math/bits.deBruijn64tab", laid_math_bits_deBruijn64tab), ("internal/strconv.uint64pow10", laid_internal_strconv_uint64pow10), ("bytes.ErrTooLarge", laid_bytes_ErrTooLarge)], narrowed := true }
def FnLimNumberUptoSaid : Prop := fnLimNumberUptoRow.holds Tryd.pinned (OpenSpec.upto fnLimNumberSpec)

/-- 'laws.FnLimText', WHERE WHAT IT READS IS OF BULK AT MOST 1048576: true; the input reads as it did. -/
def fnLimTextUptoRow : OpenClaim := { program := "ytefnfcpekiaenaadoor", sum := "86aae5e9b2864bc213491945abebcc8157b8ab0080594b937d7e38e7aa8c4646", func := "pub-doorplate/laws.FnLimText", spec := "fnLimText", inPlace := ["math.archCeil", "math.archFloor", "math.Float64bits", "math.Float64frombits", "math.archTrunc"], named := ["internal/strconv.uint64pow10", "math/bits.deBruijn32tab", "math/bits.deBruijn64tab", "bytes.ErrTooLarge"], apart := false, laid := [("math/bits.deBruijn32tab", laid_math_bits_deBruijn32tab), ("math/bits.deBruijn64tab", laid_math_bits_deBruijn64tab), ("internal/strconv.uint64pow10", laid_internal_strconv_uint64pow10), ("bytes.ErrTooLarge", laid_bytes_ErrTooLarge)], narrowed := true }
def FnLimTextUptoSaid : Prop := fnLimTextUptoRow.holds Tryd.pinned (OpenSpec.upto fnLimTextSpec)

end Rows
end Go.Proofs.YtefnfcpekiaenaaDoor
