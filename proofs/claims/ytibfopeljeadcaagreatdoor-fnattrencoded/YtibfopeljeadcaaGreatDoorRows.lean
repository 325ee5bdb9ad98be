/-
  NARROWER THAN 'FOR EVERY INPUT', by the rows' own cells (each row's printed sentence says how): FnAttrMerge: loops, laid · FnAttrAgain: loops, laid · FnAttrFilter: loops, laid · FnAttrAlike: loops, laid · FnAttrEncoded: loops, laid · FnAttrOrder: loops, laid · FnAttrPair: loops, laid · FnAttrText: loops, laid · FnAttrBack: loops, laid · FnAttrSet: loops, laid · FnAttrAsk: loops, laid.
  DERIVED. THE GIVEN ROWS OF THIS SEAT. 11 by the template 'for every input the law returns true; each argument reads behind the call as it read before'; 0 by the template 'total and deterministic' (their statements: YtibfopeljeadcaaGreatDoorTotals.lean).
  GIVEN WITH THE SEED: the statements are not yours to turn. If you find one false, say at which input.
  Laid BY PROGRAM, IN A SANDBOX (cutbox-rows.mjs): the forced cells as the released guide's own fill.sh prints them over the translation 8b48ae1e6ccc9d05… (all of the seat's roots in one cut). By AI agents, Wed Nov 11 2026. No macro, syntax, notation, axiom, sorry.
-/
import Derived.Test.YtibfopeljeadcaaGreatDoorChecked
import GoSem.PinnedTables
import GoSem.Claim
import GoSem.ClaimJoined
import GoSem.ClaimMapViews
import Derived.JoinedTies
import Derived.KernelRfl
namespace Go.Proofs.YtibfopeljeadcaaGreatDoor
/- THE CELL 'sum', in the pinned program and in every row, IS THE sha256 OF THE DUMP (.gsa) THAT YtibfopeljeadcaaGreatDoorProg.lean LOADS. Nothing in Lean hashes anything: it is a label: what it is worth is what the hold of that sum in a sandbox is worth. -/
noncomputable def Tryz.pinned : Pinned := { name := "ytibfopeljeadcaagreatdoor", sum := "8b48ae1e6ccc9d056251df4a7997b4878993edc249d1fb0109b2972caee1658f", checked := Tryz.checked }
namespace Rows
def none {H : Type} : Left H := { results := [], args := [] }

/- WHAT THE LISTED PACKAGE-LEVEL VARIABLES READ AS WHEN THE CALL BEGINS. Each datum BY PROGRAM (the guide's laid-datum.mjs) off the statement by which the dump's own 'gosem.cut.vars' lays the variable. In a bare row this is a premise. The card (YtibfopeljeadcaaGreatDoorCards.lean) ties it to the program's text. -/
def laid_math_bits_deBruijn32tab {H : Type} : DataW H := .agg [.lit (.int .u8 0), .lit (.int .u8 1), .lit (.int .u8 28), .lit (.int .u8 2), .lit (.int .u8 29), .lit (.int .u8 14), .lit (.int .u8 24), .lit (.int .u8 3), .lit (.int .u8 30), .lit (.int .u8 22), .lit (.int .u8 20), .lit (.int .u8 15), .lit (.int .u8 25), .lit (.int .u8 17), .lit (.int .u8 4), .lit (.int .u8 8), .lit (.int .u8 31), .lit (.int .u8 27), .lit (.int .u8 13), .lit (.int .u8 23), .lit (.int .u8 21), .lit (.int .u8 19), .lit (.int .u8 16), .lit (.int .u8 7), .lit (.int .u8 26), .lit (.int .u8 12), .lit (.int .u8 18), .lit (.int .u8 6), .lit (.int .u8 11), .lit (.int .u8 5), .lit (.int .u8 10), .lit (.int .u8 9)]
def laid_math_bits_deBruijn64tab {H : Type} : DataW H := .agg [.lit (.int .u8 0), .lit (.int .u8 1), .lit (.int .u8 56), .lit (.int .u8 2), .lit (.int .u8 57), .lit (.int .u8 49), .lit (.int .u8 28), .lit (.int .u8 3), .lit (.int .u8 61), .lit (.int .u8 58), .lit (.int .u8 42), .lit (.int .u8 50), .lit (.int .u8 38), .lit (.int .u8 29), .lit (.int .u8 17), .lit (.int .u8 4), .lit (.int .u8 62), .lit (.int .u8 47), .lit (.int .u8 59), .lit (.int .u8 36), .lit (.int .u8 45), .lit (.int .u8 43), .lit (.int .u8 51), .lit (.int .u8 22), .lit (.int .u8 53), .lit (.int .u8 39), .lit (.int .u8 33), .lit (.int .u8 30), .lit (.int .u8 24), .lit (.int .u8 18), .lit (.int .u8 12), .lit (.int .u8 5), .lit (.int .u8 63), .lit (.int .u8 55), .lit (.int .u8 48), .lit (.int .u8 27), .lit (.int .u8 60), .lit (.int .u8 41), .lit (.int .u8 37), .lit (.int .u8 16), .lit (.int .u8 46), .lit (.int .u8 35), .lit (.int .u8 44), .lit (.int .u8 21), .lit (.int .u8 52), .lit (.int .u8 32), .lit (.int .u8 23), .lit (.int .u8 11), .lit (.int .u8 54), .lit (.int .u8 26), .lit (.int .u8 40), .lit (.int .u8 15), .lit (.int .u8 34), .lit (.int .u8 20), .lit (.int .u8 31), .lit (.int .u8 10), .lit (.int .u8 25), .lit (.int .u8 14), .lit (.int .u8 19), .lit (.int .u8 9), .lit (.int .u8 13), .lit (.int .u8 8), .lit (.int .u8 7), .lit (.int .u8 6)]
def laid_internal_strconv_optimize {H : Type} : DataW H := .lit (.bool true)
def laid_internal_strconv_uint64pow10 {H : Type} : DataW H := .agg [.lit (.int .u64 1), .lit (.int .u64 10), .lit (.int .u64 100), .lit (.int .u64 1000), .lit (.int .u64 10000), .lit (.int .u64 100000), .lit (.int .u64 1000000), .lit (.int .u64 10000000), .lit (.int .u64 100000000), .lit (.int .u64 1000000000), .lit (.int .u64 10000000000), .lit (.int .u64 100000000000), .lit (.int .u64 1000000000000), .lit (.int .u64 10000000000000), .lit (.int .u64 100000000000000), .lit (.int .u64 1000000000000000), .lit (.int .u64 10000000000000000), .lit (.int .u64 100000000000000000), .lit (.int .u64 1000000000000000000), .lit (.int .u64 10000000000000000000)]
def laid_unicode_utf8_acceptRanges {H : Type} : DataW H := .agg [.agg [.lit (.int .u8 128), .lit (.int .u8 191)], .agg [.lit (.int .u8 160), .lit (.int .u8 191)], .agg [.lit (.int .u8 128), .lit (.int .u8 159)], .agg [.lit (.int .u8 144), .lit (.int .u8 191)], .agg [.lit (.int .u8 128), .lit (.int .u8 143)], .agg [.lit (.int .u8 0), .lit (.int .u8 0)], .agg [.lit (.int .u8 0), .lit (.int .u8 0)], .agg [.lit (.int .u8 0), .lit (.int .u8 0)], .agg [.lit (.int .u8 0), .lit (.int .u8 0)], .agg [.lit (.int .u8 0), .lit (.int .u8 0)], .agg [.lit (.int .u8 0), .lit (.int .u8 0)], .agg [.lit (.int .u8 0), .lit (.int .u8 0)], .agg [.lit (.int .u8 0), .lit (.int .u8 0)], .agg [.lit (.int .u8 0), .lit (.int .u8 0)], .agg [.lit (.int .u8 0), .lit (.int .u8 0)], .agg [.lit (.int .u8 0), .lit (.int .u8 0)]]
/-- One of Go's own tables, pinned by name: the form's constant. -/
def laid_internal_strconv_leftcheats : DataW Unit := Go.Pinned.leftcheats
/-- One of Go's own tables, pinned by name: the form's constant. -/
def laid_internal_strconv_pow10Tab : DataW Unit := Go.Pinned.pow10Tab
/-- One of Go's own tables, pinned by name: the form's constant. -/
def laid_unicode_utf8_first : DataW Unit := Go.Pinned.utf8First

/-- 'laws.FnAttrMerge': WHATEVER THE INPUT: true; the input reads as it did. -/
def fnAttrMergeSpec : ChangeSpec := { name := "fnAttrMerge", fn := fun _ => fun
  | [d1, d2] => { results := [.lit (.bool true)], args := [d1, d2] }
  | _ => none }
def fnAttrMergeRow : OpenClaim := { program := "ytibfopeljeadcaagreatdoor", sum := "8b48ae1e6ccc9d056251df4a7997b4878993edc249d1fb0109b2972caee1658f", func := "pub-sextary/laws.FnAttrMerge", spec := "fnAttrMerge", inPlace := ["math.Float64frombits", "math.Float64bits", "internal/abi.NoEscape", "internal/bytealg.MakeNoZero", "internal/strconv.float32bits", "internal/strconv.float64bits", "internal/bytealg.abigen_runtime_cmpstring"], unfollowed := true, recurses := true, named := ["encoding/binary.LittleEndian", "unicode/utf8.first", "unicode/utf8.acceptRanges", "internal/strconv.uint64pow10", "math/bits.deBruijn32tab", "math/bits.deBruijn64tab", "internal/strconv.optimize", "internal/strconv.pow10Tab", "internal/strconv.leftcheats"], loops := true, apart := false, laid := [("math/bits.deBruijn32tab", laid_math_bits_deBruijn32tab), ("math/bits.deBruijn64tab", laid_math_bits_deBruijn64tab), ("internal/strconv.optimize", laid_internal_strconv_optimize), ("internal/strconv.uint64pow10", laid_internal_strconv_uint64pow10), ("unicode/utf8.acceptRanges", laid_unicode_utf8_acceptRanges), ("internal/strconv.leftcheats", laid_internal_strconv_leftcheats), ("internal/strconv.pow10Tab", laid_internal_strconv_pow10Tab), ("unicode/utf8.first", laid_unicode_utf8_first)] }
def FnAttrMergeSaid : Prop := fnAttrMergeRow.holds Tryz.pinned (OpenSpec.ofChange fnAttrMergeSpec)

/-- ITS FALSE NEIGHBOUR: 'it returns false'. Refute it at one input. -/
def fnAttrMergeWrong : ChangeSpec := { name := "fnAttrMerge", fn := fun _ => fun
  | [d1, d2] => { results := [.lit (.bool false)], args := [d1, d2] }
  | _ => none }
def FnAttrMergeWrongFalsely : Prop := fnAttrMergeRow.holds Tryz.pinned (OpenSpec.ofChange fnAttrMergeWrong)

/-- 'laws.FnAttrAgain': WHATEVER THE INPUT: true; the input reads as it did. -/
def fnAttrAgainSpec : ChangeSpec := { name := "fnAttrAgain", fn := fun _ => fun
  | [d1, d2] => { results := [.lit (.bool true)], args := [d1, d2] }
  | _ => none }
def fnAttrAgainRow : OpenClaim := { program := "ytibfopeljeadcaagreatdoor", sum := "8b48ae1e6ccc9d056251df4a7997b4878993edc249d1fb0109b2972caee1658f", func := "pub-sextary/laws.FnAttrAgain", spec := "fnAttrAgain", inPlace := ["math.Float64frombits", "math.Float64bits", "internal/abi.NoEscape", "internal/bytealg.MakeNoZero", "internal/strconv.float32bits", "internal/strconv.float64bits"], unfollowed := true, recurses := true, named := ["encoding/binary.LittleEndian", "unicode/utf8.first", "unicode/utf8.acceptRanges", "internal/strconv.uint64pow10", "math/bits.deBruijn32tab", "math/bits.deBruijn64tab", "internal/strconv.optimize", "internal/strconv.pow10Tab", "internal/strconv.leftcheats"], loops := true, apart := false, laid := [("math/bits.deBruijn32tab", laid_math_bits_deBruijn32tab), ("math/bits.deBruijn64tab", laid_math_bits_deBruijn64tab), ("internal/strconv.optimize", laid_internal_strconv_optimize), ("internal/strconv.uint64pow10", laid_internal_strconv_uint64pow10), ("unicode/utf8.acceptRanges", laid_unicode_utf8_acceptRanges), ("internal/strconv.leftcheats", laid_internal_strconv_leftcheats), ("internal/strconv.pow10Tab", laid_internal_strconv_pow10Tab), ("unicode/utf8.first", laid_unicode_utf8_first)] }
def FnAttrAgainSaid : Prop := fnAttrAgainRow.holds Tryz.pinned (OpenSpec.ofChange fnAttrAgainSpec)

/-- ITS FALSE NEIGHBOUR: 'it returns false'. Refute it at one input. -/
def fnAttrAgainWrong : ChangeSpec := { name := "fnAttrAgain", fn := fun _ => fun
  | [d1, d2] => { results := [.lit (.bool false)], args := [d1, d2] }
  | _ => none }
def FnAttrAgainWrongFalsely : Prop := fnAttrAgainRow.holds Tryz.pinned (OpenSpec.ofChange fnAttrAgainWrong)

/-- 'laws.FnAttrFilter': WHATEVER THE INPUT: true; the input reads as it did. -/
def fnAttrFilterSpec : ChangeSpec := { name := "fnAttrFilter", fn := fun _ => fun
  | [d1, d2, d3] => { results := [.lit (.bool true)], args := [d1, d2, d3] }
  | _ => none }
def fnAttrFilterRow : OpenClaim := { program := "ytibfopeljeadcaagreatdoor", sum := "8b48ae1e6ccc9d056251df4a7997b4878993edc249d1fb0109b2972caee1658f", func := "pub-sextary/laws.FnAttrFilter", spec := "fnAttrFilter", inPlace := ["math.Float64frombits", "math.Float64bits", "internal/abi.NoEscape", "internal/bytealg.MakeNoZero", "internal/strconv.float32bits", "internal/strconv.float64bits", "internal/bytealg.abigen_runtime_cmpstring"], unfollowed := true, recurses := true, named := ["encoding/binary.LittleEndian", "unicode/utf8.first", "unicode/utf8.acceptRanges", "internal/strconv.uint64pow10", "math/bits.deBruijn32tab", "math/bits.deBruijn64tab", "internal/strconv.optimize", "internal/strconv.pow10Tab", "internal/strconv.leftcheats"], loops := true, apart := false, laid := [("math/bits.deBruijn32tab", laid_math_bits_deBruijn32tab), ("math/bits.deBruijn64tab", laid_math_bits_deBruijn64tab), ("internal/strconv.optimize", laid_internal_strconv_optimize), ("internal/strconv.uint64pow10", laid_internal_strconv_uint64pow10), ("unicode/utf8.acceptRanges", laid_unicode_utf8_acceptRanges), ("internal/strconv.leftcheats", laid_internal_strconv_leftcheats), ("internal/strconv.pow10Tab", laid_internal_strconv_pow10Tab), ("unicode/utf8.first", laid_unicode_utf8_first)] }
def FnAttrFilterSaid : Prop := fnAttrFilterRow.holds Tryz.pinned (OpenSpec.ofChange fnAttrFilterSpec)

/-- ITS FALSE NEIGHBOUR: 'it returns false'. Refute it at one input. -/
def fnAttrFilterWrong : ChangeSpec := { name := "fnAttrFilter", fn := fun _ => fun
  | [d1, d2, d3] => { results := [.lit (.bool false)], args := [d1, d2, d3] }
  | _ => none }
def FnAttrFilterWrongFalsely : Prop := fnAttrFilterRow.holds Tryz.pinned (OpenSpec.ofChange fnAttrFilterWrong)

/-- 'laws.FnAttrAlike': WHATEVER THE INPUT: true; the input reads as it did. -/
def fnAttrAlikeSpec : ChangeSpec := { name := "fnAttrAlike", fn := fun _ => fun
  | [d1, d2] => { results := [.lit (.bool true)], args := [d1, d2] }
  | _ => none }
def fnAttrAlikeRow : OpenClaim := { program := "ytibfopeljeadcaagreatdoor", sum := "8b48ae1e6ccc9d056251df4a7997b4878993edc249d1fb0109b2972caee1658f", func := "pub-sextary/laws.FnAttrAlike", spec := "fnAttrAlike", inPlace := ["math.Float64frombits", "math.Float64bits", "internal/abi.NoEscape", "internal/bytealg.MakeNoZero", "internal/strconv.float32bits", "internal/strconv.float64bits", "internal/bytealg.abigen_runtime_cmpstring"], unfollowed := true, recurses := true, named := ["encoding/binary.LittleEndian", "unicode/utf8.first", "unicode/utf8.acceptRanges", "internal/strconv.uint64pow10", "math/bits.deBruijn32tab", "math/bits.deBruijn64tab", "internal/strconv.optimize", "internal/strconv.pow10Tab", "internal/strconv.leftcheats"], loops := true, apart := false, laid := [("math/bits.deBruijn32tab", laid_math_bits_deBruijn32tab), ("math/bits.deBruijn64tab", laid_math_bits_deBruijn64tab), ("internal/strconv.optimize", laid_internal_strconv_optimize), ("internal/strconv.uint64pow10", laid_internal_strconv_uint64pow10), ("unicode/utf8.acceptRanges", laid_unicode_utf8_acceptRanges), ("internal/strconv.leftcheats", laid_internal_strconv_leftcheats), ("internal/strconv.pow10Tab", laid_internal_strconv_pow10Tab), ("unicode/utf8.first", laid_unicode_utf8_first)] }
def FnAttrAlikeSaid : Prop := fnAttrAlikeRow.holds Tryz.pinned (OpenSpec.ofChange fnAttrAlikeSpec)

/-- ITS FALSE NEIGHBOUR: 'it returns false'. Refute it at one input. -/
def fnAttrAlikeWrong : ChangeSpec := { name := "fnAttrAlike", fn := fun _ => fun
  | [d1, d2] => { results := [.lit (.bool false)], args := [d1, d2] }
  | _ => none }
def FnAttrAlikeWrongFalsely : Prop := fnAttrAlikeRow.holds Tryz.pinned (OpenSpec.ofChange fnAttrAlikeWrong)

/-- 'laws.FnAttrEncoded': WHATEVER THE INPUT: true; the input reads as it did. -/
def fnAttrEncodedSpec : ChangeSpec := { name := "fnAttrEncoded", fn := fun _ => fun
  | [d] => { results := [.lit (.bool true)], args := [d] }
  | _ => none }
def fnAttrEncodedRow : OpenClaim := { program := "ytibfopeljeadcaagreatdoor", sum := "8b48ae1e6ccc9d056251df4a7997b4878993edc249d1fb0109b2972caee1658f", func := "pub-sextary/laws.FnAttrEncoded", spec := "fnAttrEncoded", inPlace := ["math.Float64frombits", "math.Float64bits", "internal/abi.NoEscape", "internal/bytealg.MakeNoZero", "internal/strconv.float32bits", "internal/strconv.float64bits", "internal/bytealg.abigen_runtime_cmpstring"], unfollowed := true, recurses := true, named := ["encoding/binary.LittleEndian", "unicode/utf8.first", "unicode/utf8.acceptRanges", "internal/strconv.uint64pow10", "math/bits.deBruijn32tab", "math/bits.deBruijn64tab", "internal/strconv.optimize", "internal/strconv.pow10Tab", "internal/strconv.leftcheats"], loops := true, apart := false, laid := [("math/bits.deBruijn32tab", laid_math_bits_deBruijn32tab), ("math/bits.deBruijn64tab", laid_math_bits_deBruijn64tab), ("internal/strconv.optimize", laid_internal_strconv_optimize), ("internal/strconv.uint64pow10", laid_internal_strconv_uint64pow10), ("unicode/utf8.acceptRanges", laid_unicode_utf8_acceptRanges), ("internal/strconv.leftcheats", laid_internal_strconv_leftcheats), ("internal/strconv.pow10Tab", laid_internal_strconv_pow10Tab), ("unicode/utf8.first", laid_unicode_utf8_first)] }
def FnAttrEncodedSaid : Prop := fnAttrEncodedRow.holds Tryz.pinned (OpenSpec.ofChange fnAttrEncodedSpec)

/-- ITS FALSE NEIGHBOUR: 'it returns false'. Refute it at one input. -/
def fnAttrEncodedWrong : ChangeSpec := { name := "fnAttrEncoded", fn := fun _ => fun
  | [d] => { results := [.lit (.bool false)], args := [d] }
  | _ => none }
def FnAttrEncodedWrongFalsely : Prop := fnAttrEncodedRow.holds Tryz.pinned (OpenSpec.ofChange fnAttrEncodedWrong)

/-- 'laws.FnAttrOrder': WHATEVER THE INPUT: true; the input reads as it did. -/
def fnAttrOrderSpec : ChangeSpec := { name := "fnAttrOrder", fn := fun _ => fun
  | [d1, d2, d3] => { results := [.lit (.bool true)], args := [d1, d2, d3] }
  | _ => none }
def fnAttrOrderRow : OpenClaim := { program := "ytibfopeljeadcaagreatdoor", sum := "8b48ae1e6ccc9d056251df4a7997b4878993edc249d1fb0109b2972caee1658f", func := "pub-sextary/laws.FnAttrOrder", spec := "fnAttrOrder", inPlace := ["internal/bytealg.abigen_runtime_cmpstring", "math.Float64frombits", "math.Float64bits", "internal/abi.NoEscape", "internal/bytealg.MakeNoZero", "internal/strconv.float32bits", "internal/strconv.float64bits"], unfollowed := true, recurses := true, named := ["encoding/binary.LittleEndian", "unicode/utf8.first", "unicode/utf8.acceptRanges", "internal/strconv.uint64pow10", "math/bits.deBruijn32tab", "math/bits.deBruijn64tab", "internal/strconv.optimize", "internal/strconv.pow10Tab", "internal/strconv.leftcheats"], loops := true, apart := false, laid := [("math/bits.deBruijn32tab", laid_math_bits_deBruijn32tab), ("math/bits.deBruijn64tab", laid_math_bits_deBruijn64tab), ("internal/strconv.optimize", laid_internal_strconv_optimize), ("internal/strconv.uint64pow10", laid_internal_strconv_uint64pow10), ("unicode/utf8.acceptRanges", laid_unicode_utf8_acceptRanges), ("internal/strconv.leftcheats", laid_internal_strconv_leftcheats), ("internal/strconv.pow10Tab", laid_internal_strconv_pow10Tab), ("unicode/utf8.first", laid_unicode_utf8_first)] }
def FnAttrOrderSaid : Prop := fnAttrOrderRow.holds Tryz.pinned (OpenSpec.ofChange fnAttrOrderSpec)

/-- ITS FALSE NEIGHBOUR: 'it returns false'. Refute it at one input. -/
def fnAttrOrderWrong : ChangeSpec := { name := "fnAttrOrder", fn := fun _ => fun
  | [d1, d2, d3] => { results := [.lit (.bool false)], args := [d1, d2, d3] }
  | _ => none }
def FnAttrOrderWrongFalsely : Prop := fnAttrOrderRow.holds Tryz.pinned (OpenSpec.ofChange fnAttrOrderWrong)

/-- 'laws.FnAttrPair': WHATEVER THE INPUT: true; the input reads as it did. -/
def fnAttrPairSpec : ChangeSpec := { name := "fnAttrPair", fn := fun _ => fun
  | [d] => { results := [.lit (.bool true)], args := [d] }
  | _ => none }
def fnAttrPairRow : OpenClaim := { program := "ytibfopeljeadcaagreatdoor", sum := "8b48ae1e6ccc9d056251df4a7997b4878993edc249d1fb0109b2972caee1658f", func := "pub-sextary/laws.FnAttrPair", spec := "fnAttrPair", inPlace := ["math.Float64frombits", "math.Float64bits", "internal/abi.NoEscape", "internal/bytealg.MakeNoZero", "internal/strconv.float32bits", "internal/strconv.float64bits", "internal/bytealg.abigen_runtime_cmpstring"], unfollowed := true, recurses := true, named := ["encoding/binary.LittleEndian", "unicode/utf8.first", "unicode/utf8.acceptRanges", "internal/strconv.uint64pow10", "math/bits.deBruijn32tab", "math/bits.deBruijn64tab", "internal/strconv.optimize", "internal/strconv.pow10Tab", "internal/strconv.leftcheats"], loops := true, apart := false, laid := [("math/bits.deBruijn32tab", laid_math_bits_deBruijn32tab), ("math/bits.deBruijn64tab", laid_math_bits_deBruijn64tab), ("internal/strconv.optimize", laid_internal_strconv_optimize), ("internal/strconv.uint64pow10", laid_internal_strconv_uint64pow10), ("unicode/utf8.acceptRanges", laid_unicode_utf8_acceptRanges), ("internal/strconv.leftcheats", laid_internal_strconv_leftcheats), ("internal/strconv.pow10Tab", laid_internal_strconv_pow10Tab), ("unicode/utf8.first", laid_unicode_utf8_first)] }
def FnAttrPairSaid : Prop := fnAttrPairRow.holds Tryz.pinned (OpenSpec.ofChange fnAttrPairSpec)

/-- ITS FALSE NEIGHBOUR: 'it returns false'. Refute it at one input. -/
def fnAttrPairWrong : ChangeSpec := { name := "fnAttrPair", fn := fun _ => fun
  | [d] => { results := [.lit (.bool false)], args := [d] }
  | _ => none }
def FnAttrPairWrongFalsely : Prop := fnAttrPairRow.holds Tryz.pinned (OpenSpec.ofChange fnAttrPairWrong)

/-- 'laws.FnAttrText': WHATEVER THE INPUT: true; the input reads as it did. -/
def fnAttrTextSpec : ChangeSpec := { name := "fnAttrText", fn := fun _ => fun
  | [d] => { results := [.lit (.bool true)], args := [d] }
  | _ => none }
def fnAttrTextRow : OpenClaim := { program := "ytibfopeljeadcaagreatdoor", sum := "8b48ae1e6ccc9d056251df4a7997b4878993edc249d1fb0109b2972caee1658f", func := "pub-sextary/laws.FnAttrText", spec := "fnAttrText", inPlace := ["math.Float64frombits", "math.Float64bits", "internal/abi.NoEscape", "internal/bytealg.MakeNoZero", "internal/strconv.float32bits", "internal/strconv.float64bits", "internal/bytealg.abigen_runtime_cmpstring"], unfollowed := true, recurses := true, named := ["encoding/binary.LittleEndian", "unicode/utf8.first", "unicode/utf8.acceptRanges", "internal/strconv.uint64pow10", "math/bits.deBruijn32tab", "math/bits.deBruijn64tab", "internal/strconv.optimize", "internal/strconv.pow10Tab", "internal/strconv.leftcheats"], loops := true, apart := false, laid := [("math/bits.deBruijn32tab", laid_math_bits_deBruijn32tab), ("math/bits.deBruijn64tab", laid_math_bits_deBruijn64tab), ("internal/strconv.optimize", laid_internal_strconv_optimize), ("internal/strconv.uint64pow10", laid_internal_strconv_uint64pow10), ("unicode/utf8.acceptRanges", laid_unicode_utf8_acceptRanges), ("internal/strconv.leftcheats", laid_internal_strconv_leftcheats), ("internal/strconv.pow10Tab", laid_internal_strconv_pow10Tab), ("unicode/utf8.first", laid_unicode_utf8_first)] }
def FnAttrTextSaid : Prop := fnAttrTextRow.holds Tryz.pinned (OpenSpec.ofChange fnAttrTextSpec)

/-- ITS FALSE NEIGHBOUR: 'it returns false'. Refute it at one input. -/
def fnAttrTextWrong : ChangeSpec := { name := "fnAttrText", fn := fun _ => fun
  | [d] => { results := [.lit (.bool false)], args := [d] }
  | _ => none }
def FnAttrTextWrongFalsely : Prop := fnAttrTextRow.holds Tryz.pinned (OpenSpec.ofChange fnAttrTextWrong)

/-- 'laws.FnAttrBack': WHATEVER THE INPUT: true; the input reads as it did. -/
def fnAttrBackSpec : ChangeSpec := { name := "fnAttrBack", fn := fun _ => fun
  | [d] => { results := [.lit (.bool true)], args := [d] }
  | _ => none }
def fnAttrBackRow : OpenClaim := { program := "ytibfopeljeadcaagreatdoor", sum := "8b48ae1e6ccc9d056251df4a7997b4878993edc249d1fb0109b2972caee1658f", func := "pub-sextary/laws.FnAttrBack", spec := "fnAttrBack", inPlace := ["math.Float64frombits", "math.Float64bits", "internal/abi.NoEscape", "internal/bytealg.MakeNoZero", "internal/strconv.float32bits", "internal/strconv.float64bits", "internal/bytealg.abigen_runtime_cmpstring"], unfollowed := true, recurses := true, named := ["encoding/binary.LittleEndian", "unicode/utf8.first", "unicode/utf8.acceptRanges", "internal/strconv.uint64pow10", "math/bits.deBruijn32tab", "math/bits.deBruijn64tab", "internal/strconv.optimize", "internal/strconv.pow10Tab", "internal/strconv.leftcheats"], loops := true, apart := false, laid := [("math/bits.deBruijn32tab", laid_math_bits_deBruijn32tab), ("math/bits.deBruijn64tab", laid_math_bits_deBruijn64tab), ("internal/strconv.optimize", laid_internal_strconv_optimize), ("internal/strconv.uint64pow10", laid_internal_strconv_uint64pow10), ("unicode/utf8.acceptRanges", laid_unicode_utf8_acceptRanges), ("internal/strconv.leftcheats", laid_internal_strconv_leftcheats), ("internal/strconv.pow10Tab", laid_internal_strconv_pow10Tab), ("unicode/utf8.first", laid_unicode_utf8_first)] }
def FnAttrBackSaid : Prop := fnAttrBackRow.holds Tryz.pinned (OpenSpec.ofChange fnAttrBackSpec)

/-- ITS FALSE NEIGHBOUR: 'it returns false'. Refute it at one input. -/
def fnAttrBackWrong : ChangeSpec := { name := "fnAttrBack", fn := fun _ => fun
  | [d] => { results := [.lit (.bool false)], args := [d] }
  | _ => none }
def FnAttrBackWrongFalsely : Prop := fnAttrBackRow.holds Tryz.pinned (OpenSpec.ofChange fnAttrBackWrong)

/-- 'laws.FnAttrSet': WHATEVER THE INPUT: true; the input reads as it did. -/
def fnAttrSetSpec : ChangeSpec := { name := "fnAttrSet", fn := fun _ => fun
  | [d] => { results := [.lit (.bool true)], args := [d] }
  | _ => none }
def fnAttrSetRow : OpenClaim := { program := "ytibfopeljeadcaagreatdoor", sum := "8b48ae1e6ccc9d056251df4a7997b4878993edc249d1fb0109b2972caee1658f", func := "pub-sextary/laws.FnAttrSet", spec := "fnAttrSet", inPlace := ["math.Float64frombits", "math.Float64bits", "internal/abi.NoEscape", "internal/bytealg.MakeNoZero", "internal/strconv.float32bits", "internal/strconv.float64bits", "internal/bytealg.abigen_runtime_cmpstring"], unfollowed := true, recurses := true, named := ["encoding/binary.LittleEndian", "unicode/utf8.first", "unicode/utf8.acceptRanges", "internal/strconv.uint64pow10", "math/bits.deBruijn32tab", "math/bits.deBruijn64tab", "internal/strconv.optimize", "internal/strconv.pow10Tab", "internal/strconv.leftcheats"], loops := true, apart := false, laid := [("math/bits.deBruijn32tab", laid_math_bits_deBruijn32tab), ("math/bits.deBruijn64tab", laid_math_bits_deBruijn64tab), ("internal/strconv.optimize", laid_internal_strconv_optimize), ("internal/strconv.uint64pow10", laid_internal_strconv_uint64pow10), ("unicode/utf8.acceptRanges", laid_unicode_utf8_acceptRanges), ("internal/strconv.leftcheats", laid_internal_strconv_leftcheats), ("internal/strconv.pow10Tab", laid_internal_strconv_pow10Tab), ("unicode/utf8.first", laid_unicode_utf8_first)] }
def FnAttrSetSaid : Prop := fnAttrSetRow.holds Tryz.pinned (OpenSpec.ofChange fnAttrSetSpec)

/-- ITS FALSE NEIGHBOUR: 'it returns false'. Refute it at one input. -/
def fnAttrSetWrong : ChangeSpec := { name := "fnAttrSet", fn := fun _ => fun
  | [d] => { results := [.lit (.bool false)], args := [d] }
  | _ => none }
def FnAttrSetWrongFalsely : Prop := fnAttrSetRow.holds Tryz.pinned (OpenSpec.ofChange fnAttrSetWrong)

/-- 'laws.FnAttrAsk': WHATEVER THE INPUT: true; the input reads as it did. -/
def fnAttrAskSpec : ChangeSpec := { name := "fnAttrAsk", fn := fun _ => fun
  | [d1, d2, d3] => { results := [.lit (.bool true)], args := [d1, d2, d3] }
  | _ => none }
def fnAttrAskRow : OpenClaim := { program := "ytibfopeljeadcaagreatdoor", sum := "8b48ae1e6ccc9d056251df4a7997b4878993edc249d1fb0109b2972caee1658f", func := "pub-sextary/laws.FnAttrAsk", spec := "fnAttrAsk", inPlace := ["math.Float64frombits", "math.Float64bits", "internal/abi.NoEscape", "internal/bytealg.MakeNoZero", "internal/strconv.float32bits", "internal/strconv.float64bits", "internal/bytealg.abigen_runtime_cmpstring"], unfollowed := true, recurses := true, named := ["encoding/binary.LittleEndian", "unicode/utf8.first", "unicode/utf8.acceptRanges", "internal/strconv.uint64pow10", "math/bits.deBruijn32tab", "math/bits.deBruijn64tab", "internal/strconv.optimize", "internal/strconv.pow10Tab", "internal/strconv.leftcheats"], loops := true, apart := false, laid := [("math/bits.deBruijn32tab", laid_math_bits_deBruijn32tab), ("math/bits.deBruijn64tab", laid_math_bits_deBruijn64tab), ("internal/strconv.optimize", laid_internal_strconv_optimize), ("internal/strconv.uint64pow10", laid_internal_strconv_uint64pow10), ("unicode/utf8.acceptRanges", laid_unicode_utf8_acceptRanges), ("internal/strconv.leftcheats", laid_internal_strconv_leftcheats), ("internal/strconv.pow10Tab", laid_internal_strconv_pow10Tab), ("unicode/utf8.first", laid_unicode_utf8_first)] }
def FnAttrAskSaid : Prop := fnAttrAskRow.holds Tryz.pinned (OpenSpec.ofChange fnAttrAskSpec)

/-- ITS FALSE NEIGHBOUR: 'it returns false'. Refute it at one input. -/
def fnAttrAskWrong : ChangeSpec := { name := "fnAttrAsk", fn := fun _ => fun
  | [d1, d2, d3] => { results := [.lit (.bool false)], args := [d1, d2, d3] }
  | _ => none }
def FnAttrAskWrongFalsely : Prop := fnAttrAskRow.holds Tryz.pinned (OpenSpec.ofChange fnAttrAskWrong)

/- THE SECOND FORM. 'bulk': how many values and letters a reading holds, each counted each time it is reached (what is shared counts as often as it is met; a slice's spare places count too). A statement '..UptoSaid' is the law's where the arguments, and the package variables that the reading takes, are together of bulk at most 1048576: NARROWER than '..Said'. Prove '..Said' where nothing that the law and all that it calls make is longer than what came in: it says more and counts as full. Else prove '..UptoSaid'. A law counts once. -/
mutual
def uptoBulk {H : Type} : DataW H → Nat
  | .lit (.string bytes) => bytes.length + 1
  | .lit _ => 1
  | .nil => 1
  | .ptr d => uptoBulk d + 1
  | .slice elems spare => uptoBulkAll elems + uptoBulkAll spare + 1
  | .agg parts => uptoBulkAll parts + 1
  | .iface _ d => uptoBulk d + 1
  | .map entries => uptoBulkEntries entries + 1
  | .held _ => 1
def uptoBulkAll {H : Type} : List (DataW H) → Nat
  | [] => 0
  | d :: r => uptoBulk d + uptoBulkAll r
def uptoBulkEntries {H : Type} : List (Lit × DataW H) → Nat
  | [] => 0
  | x :: r => uptoBulkEntry x + uptoBulkEntries r
def uptoBulkEntry {H : Type} : Lit × DataW H → Nat
  | (.string bytes, d) => bytes.length + uptoBulk d + 1
  | (_, d) => uptoBulk d + 1
 end
def uptoSmall : (H : Type) → List (DataW H) → Bool := fun _ ds => decide (uptoBulkAll ds ≤ 1048576)
def OpenSpec.upto (s : _root_.Go.ChangeSpec) : _root_.Go.OpenSpec := { _root_.Go.OpenSpec.ofChange s with cond := some uptoSmall }

/-- 'laws.FnAttrMerge', WHERE WHAT IT READS IS OF BULK AT MOST 1048576: true; the input reads as it did. -/
def fnAttrMergeUptoRow : OpenClaim := { program := "ytibfopeljeadcaagreatdoor", sum := "8b48ae1e6ccc9d056251df4a7997b4878993edc249d1fb0109b2972caee1658f", func := "pub-sextary/laws.FnAttrMerge", spec := "fnAttrMerge", inPlace := ["math.Float64frombits", "math.Float64bits", "internal/abi.NoEscape", "internal/bytealg.MakeNoZero", "internal/strconv.float32bits", "internal/strconv.float64bits", "internal/bytealg.abigen_runtime_cmpstring"], unfollowed := true, recurses := true, named := ["encoding/binary.LittleEndian", "unicode/utf8.first", "unicode/utf8.acceptRanges", "internal/strconv.uint64pow10", "math/bits.deBruijn32tab", "math/bits.deBruijn64tab", "internal/strconv.optimize", "internal/strconv.pow10Tab", "internal/strconv.leftcheats"], loops := true, apart := false, laid := [("math/bits.deBruijn32tab", laid_math_bits_deBruijn32tab), ("math/bits.deBruijn64tab", laid_math_bits_deBruijn64tab), ("internal/strconv.optimize", laid_internal_strconv_optimize), ("internal/strconv.uint64pow10", laid_internal_strconv_uint64pow10), ("unicode/utf8.acceptRanges", laid_unicode_utf8_acceptRanges), ("internal/strconv.leftcheats", laid_internal_strconv_leftcheats), ("internal/strconv.pow10Tab", laid_internal_strconv_pow10Tab), ("unicode/utf8.first", laid_unicode_utf8_first)], narrowed := true }
def FnAttrMergeUptoSaid : Prop := fnAttrMergeUptoRow.holds Tryz.pinned (OpenSpec.upto fnAttrMergeSpec)

/-- 'laws.FnAttrAgain', WHERE WHAT IT READS IS OF BULK AT MOST 1048576: true; the input reads as it did. -/
def fnAttrAgainUptoRow : OpenClaim := { program := "ytibfopeljeadcaagreatdoor", sum := "8b48ae1e6ccc9d056251df4a7997b4878993edc249d1fb0109b2972caee1658f", func := "pub-sextary/laws.FnAttrAgain", spec := "fnAttrAgain", inPlace := ["math.Float64frombits", "math.Float64bits", "internal/abi.NoEscape", "internal/bytealg.MakeNoZero", "internal/strconv.float32bits", "internal/strconv.float64bits"], unfollowed := true, recurses := true, named := ["encoding/binary.LittleEndian", "unicode/utf8.first", "unicode/utf8.acceptRanges", "internal/strconv.uint64pow10", "math/bits.deBruijn32tab", "math/bits.deBruijn64tab", "internal/strconv.optimize", "internal/strconv.pow10Tab", "internal/strconv.leftcheats"], loops := true, apart := false, laid := [("math/bits.deBruijn32tab", laid_math_bits_deBruijn32tab), ("math/bits.deBruijn64tab", laid_math_bits_deBruijn64tab), ("internal/strconv.optimize", laid_internal_strconv_optimize), ("internal/strconv.uint64pow10", laid_internal_strconv_uint64pow10), ("unicode/utf8.acceptRanges", laid_unicode_utf8_acceptRanges), ("internal/strconv.leftcheats", laid_internal_strconv_leftcheats), ("internal/strconv.pow10Tab", laid_internal_strconv_pow10Tab), ("unicode/utf8.first", laid_unicode_utf8_first)], narrowed := true }
def FnAttrAgainUptoSaid : Prop := fnAttrAgainUptoRow.holds Tryz.pinned (OpenSpec.upto fnAttrAgainSpec)

/-- 'laws.FnAttrFilter', WHERE WHAT IT READS IS OF BULK AT MOST 1048576: true; the input reads as it did. -/
def fnAttrFilterUptoRow : OpenClaim := { program := "ytibfopeljeadcaagreatdoor", sum := "8b48ae1e6ccc9d056251df4a7997b4878993edc249d1fb0109b2972caee1658f", func := "pub-sextary/laws.FnAttrFilter", spec := "fnAttrFilter", inPlace := ["math.Float64frombits", "math.Float64bits", "internal/abi.NoEscape", "internal/bytealg.MakeNoZero", "internal/strconv.float32bits", "internal/strconv.float64bits", "internal/bytealg.abigen_runtime_cmpstring"], unfollowed := true, recurses := true, named := ["encoding/binary.LittleEndian", "unicode/utf8.first", "unicode/utf8.acceptRanges", "internal/strconv.uint64pow10", "math/bits.deBruijn32tab", "math/bits.deBruijn64tab", "internal/strconv.optimize", "internal/strconv.pow10Tab", "internal/strconv.leftcheats"], loops := true, apart := false, laid := [("math/bits.deBruijn32tab", laid_math_bits_deBruijn32tab), ("math/bits.deBruijn64tab", laid_math_bits_deBruijn64tab), ("internal/strconv.optimize", laid_internal_strconv_optimize), ("internal/strconv.uint64pow10", laid_internal_strconv_uint64pow10), ("unicode/utf8.acceptRanges", laid_unicode_utf8_acceptRanges), ("internal/strconv.leftcheats", laid_internal_strconv_leftcheats), ("internal/strconv.pow10Tab", laid_internal_strconv_pow10Tab), ("unicode/utf8.first", laid_unicode_utf8_first)], narrowed := true }
def FnAttrFilterUptoSaid : Prop := fnAttrFilterUptoRow.holds Tryz.pinned (OpenSpec.upto fnAttrFilterSpec)

/-- 'laws.FnAttrAlike', WHERE WHAT IT READS IS OF BULK AT MOST 1048576: true; the input reads as it did. -/
def fnAttrAlikeUptoRow : OpenClaim := { program := "ytibfopeljeadcaagreatdoor", sum := "8b48ae1e6ccc9d056251df4a7997b4878993edc249d1fb0109b2972caee1658f", func := "pub-sextary/laws.FnAttrAlike", spec := "fnAttrAlike", inPlace := ["math.Float64frombits", "math.Float64bits", "internal/abi.NoEscape", "internal/bytealg.MakeNoZero", "internal/strconv.float32bits", "internal/strconv.float64bits", "internal/bytealg.abigen_runtime_cmpstring"], unfollowed := true, recurses := true, named := ["encoding/binary.LittleEndian", "unicode/utf8.first", "unicode/utf8.acceptRanges", "internal/strconv.uint64pow10", "math/bits.deBruijn32tab", "math/bits.deBruijn64tab", "internal/strconv.optimize", "internal/strconv.pow10Tab", "internal/strconv.leftcheats"], loops := true, apart := false, laid := [("math/bits.deBruijn32tab", laid_math_bits_deBruijn32tab), ("math/bits.deBruijn64tab", laid_math_bits_deBruijn64tab), ("internal/strconv.optimize", laid_internal_strconv_optimize), ("internal/strconv.uint64pow10", laid_internal_strconv_uint64pow10), ("unicode/utf8.acceptRanges", laid_unicode_utf8_acceptRanges), ("internal/strconv.leftcheats", laid_internal_strconv_leftcheats), ("internal/strconv.pow10Tab", laid_internal_strconv_pow10Tab), ("unicode/utf8.first", laid_unicode_utf8_first)], narrowed := true }
def FnAttrAlikeUptoSaid : Prop := fnAttrAlikeUptoRow.holds Tryz.pinned (OpenSpec.upto fnAttrAlikeSpec)

/-- 'laws.FnAttrEncoded', WHERE WHAT IT READS IS OF BULK AT MOST 1048576: true; the input reads as it did. -/
def fnAttrEncodedUptoRow : OpenClaim := { program := "ytibfopeljeadcaagreatdoor", sum := "8b48ae1e6ccc9d056251df4a7997b4878993edc249d1fb0109b2972caee1658f", func := "pub-sextary/laws.FnAttrEncoded", spec := "fnAttrEncoded", inPlace := ["math.Float64frombits", "math.Float64bits", "internal/abi.NoEscape", "internal/bytealg.MakeNoZero", "internal/strconv.float32bits", "internal/strconv.float64bits", "internal/bytealg.abigen_runtime_cmpstring"], unfollowed := true, recurses := true, named := ["encoding/binary.LittleEndian", "unicode/utf8.first", "unicode/utf8.acceptRanges", "internal/strconv.uint64pow10", "math/bits.deBruijn32tab", "math/bits.deBruijn64tab", "internal/strconv.optimize", "internal/strconv.pow10Tab", "internal/strconv.leftcheats"], loops := true, apart := false, laid := [("math/bits.deBruijn32tab", laid_math_bits_deBruijn32tab), ("math/bits.deBruijn64tab", laid_math_bits_deBruijn64tab), ("internal/strconv.optimize", laid_internal_strconv_optimize), ("internal/strconv.uint64pow10", laid_internal_strconv_uint64pow10), ("unicode/utf8.acceptRanges", laid_unicode_utf8_acceptRanges), ("internal/strconv.leftcheats", laid_internal_strconv_leftcheats), ("internal/strconv.pow10Tab", laid_internal_strconv_pow10Tab), ("unicode/utf8.first", laid_unicode_utf8_first)], narrowed := true }
def FnAttrEncodedUptoSaid : Prop := fnAttrEncodedUptoRow.holds Tryz.pinned (OpenSpec.upto fnAttrEncodedSpec)

/-- 'laws.FnAttrOrder', WHERE WHAT IT READS IS OF BULK AT MOST 1048576: true; the input reads as it did. -/
def fnAttrOrderUptoRow : OpenClaim := { program := "ytibfopeljeadcaagreatdoor", sum := "8b48ae1e6ccc9d056251df4a7997b4878993edc249d1fb0109b2972caee1658f", func := "pub-sextary/laws.FnAttrOrder", spec := "fnAttrOrder", inPlace := ["internal/bytealg.abigen_runtime_cmpstring", "math.Float64frombits", "math.Float64bits", "internal/abi.NoEscape", "internal/bytealg.MakeNoZero", "internal/strconv.float32bits", "internal/strconv.float64bits"], unfollowed := true, recurses := true, named := ["encoding/binary.LittleEndian", "unicode/utf8.first", "unicode/utf8.acceptRanges", "internal/strconv.uint64pow10", "math/bits.deBruijn32tab", "math/bits.deBruijn64tab", "internal/strconv.optimize", "internal/strconv.pow10Tab", "internal/strconv.leftcheats"], loops := true, apart := false, laid := [("math/bits.deBruijn32tab", laid_math_bits_deBruijn32tab), ("math/bits.deBruijn64tab", laid_math_bits_deBruijn64tab), ("internal/strconv.optimize", laid_internal_strconv_optimize), ("internal/strconv.uint64pow10", laid_internal_strconv_uint64pow10), ("unicode/utf8.acceptRanges", laid_unicode_utf8_acceptRanges), ("internal/strconv.leftcheats", laid_internal_strconv_leftcheats), ("internal/strconv.pow10Tab", laid_internal_strconv_pow10Tab), ("unicode/utf8.first", laid_unicode_utf8_first)], narrowed := true }
def FnAttrOrderUptoSaid : Prop := fnAttrOrderUptoRow.holds Tryz.pinned (OpenSpec.upto fnAttrOrderSpec)

/-- 'laws.FnAttrPair', WHERE WHAT IT READS IS OF BULK AT MOST 1048576: true; the input reads as it did. -/
def fnAttrPairUptoRow : OpenClaim := { program := "ytibfopeljeadcaagreatdoor", sum := "8b48ae1e6ccc9d056251df4a7997b4878993edc249d1fb0109b2972caee1658f", func := "pub-sextary/laws.FnAttrPair", spec := "fnAttrPair", inPlace := ["math.Float64frombits", "math.Float64bits", "internal/abi.NoEscape", "internal/bytealg.MakeNoZero", "internal/strconv.float32bits", "internal/strconv.float64bits", "internal/bytealg.abigen_runtime_cmpstring"], unfollowed := true, recurses := true, named := ["encoding/binary.LittleEndian", "unicode/utf8.first", "unicode/utf8.acceptRanges", "internal/strconv.uint64pow10", "math/bits.deBruijn32tab", "math/bits.deBruijn64tab", "internal/strconv.optimize", "internal/strconv.pow10Tab", "internal/strconv.leftcheats"], loops := true, apart := false, laid := [("math/bits.deBruijn32tab", laid_math_bits_deBruijn32tab), ("math/bits.deBruijn64tab", laid_math_bits_deBruijn64tab), ("internal/strconv.optimize", laid_internal_strconv_optimize), ("internal/strconv.uint64pow10", laid_internal_strconv_uint64pow10), ("unicode/utf8.acceptRanges", laid_unicode_utf8_acceptRanges), ("internal/strconv.leftcheats", laid_internal_strconv_leftcheats), ("internal/strconv.pow10Tab", laid_internal_strconv_pow10Tab), ("unicode/utf8.first", laid_unicode_utf8_first)], narrowed := true }
def FnAttrPairUptoSaid : Prop := fnAttrPairUptoRow.holds Tryz.pinned (OpenSpec.upto fnAttrPairSpec)

/-- 'laws.FnAttrText', WHERE WHAT IT READS IS OF BULK AT MOST 1048576: true; the input reads as it did. -/
def fnAttrTextUptoRow : OpenClaim := { program := "ytibfopeljeadcaagreatdoor", sum := "8b48ae1e6ccc9d056251df4a7997b4878993edc249d1fb0109b2972caee1658f", func := "pub-sextary/laws.FnAttrText", spec := "fnAttrText", inPlace := ["math.Float64frombits", "math.Float64bits", "internal/abi.NoEscape", "internal/bytealg.MakeNoZero", "internal/strconv.float32bits", "internal/strconv.float64bits", "internal/bytealg.abigen_runtime_cmpstring"], unfollowed := true, recurses := true, named := ["encoding/binary.LittleEndian", "unicode/utf8.first", "unicode/utf8.acceptRanges", "internal/strconv.uint64pow10", "math/bits.deBruijn32tab", "math/bits.deBruijn64tab", "internal/strconv.optimize", "internal/strconv.pow10Tab", "internal/strconv.leftcheats"], loops := true, apart := false, laid := [("math/bits.deBruijn32tab", laid_math_bits_deBruijn32tab), ("math/bits.deBruijn64tab", laid_math_bits_deBruijn64tab), ("internal/strconv.optimize", laid_internal_strconv_optimize), ("internal/strconv.uint64pow10", laid_internal_strconv_uint64pow10), ("unicode/utf8.acceptRanges", laid_unicode_utf8_acceptRanges), ("internal/strconv.leftcheats", laid_internal_strconv_leftcheats), ("internal/strconv.pow10Tab", laid_internal_strconv_pow10Tab), ("unicode/utf8.first", laid_unicode_utf8_first)], narrowed := true }
def FnAttrTextUptoSaid : Prop := fnAttrTextUptoRow.holds Tryz.pinned (OpenSpec.upto fnAttrTextSpec)

/-- 'laws.FnAttrBack', WHERE WHAT IT READS IS OF BULK AT MOST 1048576: true; the input reads as it did. -/
def fnAttrBackUptoRow : OpenClaim := { program := "ytibfopeljeadcaagreatdoor", sum := "8b48ae1e6ccc9d056251df4a7997b4878993edc249d1fb0109b2972caee1658f", func := "pub-sextary/laws.FnAttrBack", spec := "fnAttrBack", inPlace := ["math.Float64frombits", "math.Float64bits", "internal/abi.NoEscape", "internal/bytealg.MakeNoZero", "internal/strconv.float32bits", "internal/strconv.float64bits", "internal/bytealg.abigen_runtime_cmpstring"], unfollowed := true, recurses := true, named := ["encoding/binary.LittleEndian", "unicode/utf8.first", "unicode/utf8.acceptRanges", "internal/strconv.uint64pow10", "math/bits.deBruijn32tab", "math/bits.deBruijn64tab", "internal/strconv.optimize", "internal/strconv.pow10Tab", "internal/strconv.leftcheats"], loops := true, apart := false, laid := [("math/bits.deBruijn32tab", laid_math_bits_deBruijn32tab), ("math/bits.deBruijn64tab", laid_math_bits_deBruijn64tab), ("internal/strconv.optimize", laid_internal_strconv_optimize), ("internal/strconv.uint64pow10", laid_internal_strconv_uint64pow10), ("unicode/utf8.acceptRanges", laid_unicode_utf8_acceptRanges), ("internal/strconv.leftcheats", laid_internal_strconv_leftcheats), ("internal/strconv.pow10Tab", laid_internal_strconv_pow10Tab), ("unicode/utf8.first", laid_unicode_utf8_first)], narrowed := true }
def FnAttrBackUptoSaid : Prop := fnAttrBackUptoRow.holds Tryz.pinned (OpenSpec.upto fnAttrBackSpec)

/-- 'laws.FnAttrSet', WHERE WHAT IT READS IS OF BULK AT MOST 1048576: true; the input reads as it did. -/
def fnAttrSetUptoRow : OpenClaim := { program := "ytibfopeljeadcaagreatdoor", sum := "8b48ae1e6ccc9d056251df4a7997b4878993edc249d1fb0109b2972caee1658f", func := "pub-sextary/laws.FnAttrSet", spec := "fnAttrSet", inPlace := ["math.Float64frombits", "math.Float64bits", "internal/abi.NoEscape", "internal/bytealg.MakeNoZero", "internal/strconv.float32bits", "internal/strconv.float64bits", "internal/bytealg.abigen_runtime_cmpstring"], unfollowed := true, recurses := true, named := ["encoding/binary.LittleEndian", "unicode/utf8.first", "unicode/utf8.acceptRanges", "internal/strconv.uint64pow10", "math/bits.deBruijn32tab", "math/bits.deBruijn64tab", "internal/strconv.optimize", "internal/strconv.pow10Tab", "internal/strconv.leftcheats"], loops := true, apart := false, laid := [("math/bits.deBruijn32tab", laid_math_bits_deBruijn32tab), ("math/bits.deBruijn64tab", laid_math_bits_deBruijn64tab), ("internal/strconv.optimize", laid_internal_strconv_optimize), ("internal/strconv.uint64pow10", laid_internal_strconv_uint64pow10), ("unicode/utf8.acceptRanges", laid_unicode_utf8_acceptRanges), ("internal/strconv.leftcheats", laid_internal_strconv_leftcheats), ("internal/strconv.pow10Tab", laid_internal_strconv_pow10Tab), ("unicode/utf8.first", laid_unicode_utf8_first)], narrowed := true }
def FnAttrSetUptoSaid : Prop := fnAttrSetUptoRow.holds Tryz.pinned (OpenSpec.upto fnAttrSetSpec)

/-- 'laws.FnAttrAsk', WHERE WHAT IT READS IS OF BULK AT MOST 1048576: true; the input reads as it did. -/
def fnAttrAskUptoRow : OpenClaim := { program := "ytibfopeljeadcaagreatdoor", sum := "8b48ae1e6ccc9d056251df4a7997b4878993edc249d1fb0109b2972caee1658f", func := "pub-sextary/laws.FnAttrAsk", spec := "fnAttrAsk", inPlace := ["math.Float64frombits", "math.Float64bits", "internal/abi.NoEscape", "internal/bytealg.MakeNoZero", "internal/strconv.float32bits", "internal/strconv.float64bits", "internal/bytealg.abigen_runtime_cmpstring"], unfollowed := true, recurses := true, named := ["encoding/binary.LittleEndian", "unicode/utf8.first", "unicode/utf8.acceptRanges", "internal/strconv.uint64pow10", "math/bits.deBruijn32tab", "math/bits.deBruijn64tab", "internal/strconv.optimize", "internal/strconv.pow10Tab", "internal/strconv.leftcheats"], loops := true, apart := false, laid := [("math/bits.deBruijn32tab", laid_math_bits_deBruijn32tab), ("math/bits.deBruijn64tab", laid_math_bits_deBruijn64tab), ("internal/strconv.optimize", laid_internal_strconv_optimize), ("internal/strconv.uint64pow10", laid_internal_strconv_uint64pow10), ("unicode/utf8.acceptRanges", laid_unicode_utf8_acceptRanges), ("internal/strconv.leftcheats", laid_internal_strconv_leftcheats), ("internal/strconv.pow10Tab", laid_internal_strconv_pow10Tab), ("unicode/utf8.first", laid_unicode_utf8_first)], narrowed := true }
def FnAttrAskUptoSaid : Prop := fnAttrAskUptoRow.holds Tryz.pinned (OpenSpec.upto fnAttrAskSpec)

end Rows
end Go.Proofs.YtibfopeljeadcaaGreatDoor
