/-
  NARROWER THAN 'FOR EVERY INPUT', by the rows' own cells (each row's printed sentence says how): FnMtAhead: laid · FnMtDoubled: laid · FnSjBuild: laid · FnGjFalseish: laid · FnJpUnescapeParts: laid · FnFjCheckKey: laid.
  DERIVED. THE GIVEN ROWS OF THIS SEAT. 6 by the template 'for every input the law returns true; each argument reads behind the call as it read before'; 0 by the template 'total and deterministic' (their statements: YtfpbbnllaogclaaDoorTotals.lean).
  GIVEN WITH THE SEED: the statements are not yours to turn. If you find one false, say at which input.
  Laid BY PROGRAM, IN A SANDBOX (cutbox-rows.mjs): the forced cells as the released guide's own fill.sh prints them over the translation a1b840447cf6c5f9… (all of the seat's roots in one cut). By AI agents, Wed Nov 11 2026. No macro, syntax, notation, axiom, sorry.
-/
import Derived.Test.YtfpbbnllaogclaaDoorChecked
import GoSem.PinnedTables
import GoSem.Claim
import GoSem.ClaimJoined
import GoSem.ClaimMapViews
import Derived.JoinedTies
import Derived.KernelRfl
namespace Go.Proofs.YtfpbbnllaogclaaDoor
/- THE CELL 'sum', in the pinned program and in every row, IS THE sha256 OF THE DUMP (.gsa) THAT YtfpbbnllaogclaaDoorProg.lean LOADS. Nothing in Lean hashes anything: it is a label: what it is worth is what the hold of that sum in a sandbox is worth. -/
noncomputable def Tryd.pinned : Pinned := { name := "ytfpbbnllaogclaadoor", sum := "a1b840447cf6c5f99258b954b9a0b9a78cdd4e48b7b7140a6de5992a4979be69", checked := Tryd.checked }
namespace Rows
def none {H : Type} : Left H := { results := [], args := [] }

/- WHAT THE LISTED PACKAGE-LEVEL VARIABLES READ AS WHEN THE CALL BEGINS. Each datum BY PROGRAM (the guide's laid-datum.mjs) off the statement by which the dump's own 'gosem.cut.vars' lays the variable. In a bare row this is a premise. The card (YtfpbbnllaogclaaDoorCards.lean) ties it to the program's text. -/
def laid_unicode_utf8_acceptRanges {H : Type} : DataW H := .agg [.agg [.lit (.int .u8 128), .lit (.int .u8 191)], .agg [.lit (.int .u8 160), .lit (.int .u8 191)], .agg [.lit (.int .u8 128), .lit (.int .u8 159)], .agg [.lit (.int .u8 144), .lit (.int .u8 191)], .agg [.lit (.int .u8 128), .lit (.int .u8 143)], .agg [.lit (.int .u8 0), .lit (.int .u8 0)], .agg [.lit (.int .u8 0), .lit (.int .u8 0)], .agg [.lit (.int .u8 0), .lit (.int .u8 0)], .agg [.lit (.int .u8 0), .lit (.int .u8 0)], .agg [.lit (.int .u8 0), .lit (.int .u8 0)], .agg [.lit (.int .u8 0), .lit (.int .u8 0)], .agg [.lit (.int .u8 0), .lit (.int .u8 0)], .agg [.lit (.int .u8 0), .lit (.int .u8 0)], .agg [.lit (.int .u8 0), .lit (.int .u8 0)], .agg [.lit (.int .u8 0), .lit (.int .u8 0)], .agg [.lit (.int .u8 0), .lit (.int .u8 0)]]
/-- One of Go's own tables, pinned by name: the form's constant. -/
def laid_unicode_utf8_first : DataW Unit := Go.Pinned.utf8First
def laid_math_bits_deBruijn32tab {H : Type} : DataW H := .agg [.lit (.int .u8 0), .lit (.int .u8 1), .lit (.int .u8 28), .lit (.int .u8 2), .lit (.int .u8 29), .lit (.int .u8 14), .lit (.int .u8 24), .lit (.int .u8 3), .lit (.int .u8 30), .lit (.int .u8 22), .lit (.int .u8 20), .lit (.int .u8 15), .lit (.int .u8 25), .lit (.int .u8 17), .lit (.int .u8 4), .lit (.int .u8 8), .lit (.int .u8 31), .lit (.int .u8 27), .lit (.int .u8 13), .lit (.int .u8 23), .lit (.int .u8 21), .lit (.int .u8 19), .lit (.int .u8 16), .lit (.int .u8 7), .lit (.int .u8 26), .lit (.int .u8 12), .lit (.int .u8 18), .lit (.int .u8 6), .lit (.int .u8 11), .lit (.int .u8 5), .lit (.int .u8 10), .lit (.int .u8 9)]
def laid_math_bits_deBruijn64tab {H : Type} : DataW H := .agg [.lit (.int .u8 0), .lit (.int .u8 1), .lit (.int .u8 56), .lit (.int .u8 2), .lit (.int .u8 57), .lit (.int .u8 49), .lit (.int .u8 28), .lit (.int .u8 3), .lit (.int .u8 61), .lit (.int .u8 58), .lit (.int .u8 42), .lit (.int .u8 50), .lit (.int .u8 38), .lit (.int .u8 29), .lit (.int .u8 17), .lit (.int .u8 4), .lit (.int .u8 62), .lit (.int .u8 47), .lit (.int .u8 59), .lit (.int .u8 36), .lit (.int .u8 45), .lit (.int .u8 43), .lit (.int .u8 51), .lit (.int .u8 22), .lit (.int .u8 53), .lit (.int .u8 39), .lit (.int .u8 33), .lit (.int .u8 30), .lit (.int .u8 24), .lit (.int .u8 18), .lit (.int .u8 12), .lit (.int .u8 5), .lit (.int .u8 63), .lit (.int .u8 55), .lit (.int .u8 48), .lit (.int .u8 27), .lit (.int .u8 60), .lit (.int .u8 41), .lit (.int .u8 37), .lit (.int .u8 16), .lit (.int .u8 46), .lit (.int .u8 35), .lit (.int .u8 44), .lit (.int .u8 21), .lit (.int .u8 52), .lit (.int .u8 32), .lit (.int .u8 23), .lit (.int .u8 11), .lit (.int .u8 54), .lit (.int .u8 26), .lit (.int .u8 40), .lit (.int .u8 15), .lit (.int .u8 34), .lit (.int .u8 20), .lit (.int .u8 31), .lit (.int .u8 10), .lit (.int .u8 25), .lit (.int .u8 14), .lit (.int .u8 19), .lit (.int .u8 9), .lit (.int .u8 13), .lit (.int .u8 8), .lit (.int .u8 7), .lit (.int .u8 6)]
def laid_internal_strconv_uint64pow10 {H : Type} : DataW H := .agg [.lit (.int .u64 1), .lit (.int .u64 10), .lit (.int .u64 100), .lit (.int .u64 1000), .lit (.int .u64 10000), .lit (.int .u64 100000), .lit (.int .u64 1000000), .lit (.int .u64 10000000), .lit (.int .u64 100000000), .lit (.int .u64 1000000000), .lit (.int .u64 10000000000), .lit (.int .u64 100000000000), .lit (.int .u64 1000000000000), .lit (.int .u64 10000000000000), .lit (.int .u64 100000000000000), .lit (.int .u64 1000000000000000), .lit (.int .u64 10000000000000000), .lit (.int .u64 100000000000000000), .lit (.int .u64 1000000000000000000), .lit (.int .u64 10000000000000000000)]
def laid_strconv_ErrRange {H : Type} : DataW H := .iface "*errors.errorString" (.ptr (.agg [.lit (.string [118, 97, 108, 117, 101, 32, 111, 117, 116, 32, 111, 102, 32, 114, 97, 110, 103, 101])]))
def laid_strconv_ErrSyntax {H : Type} : DataW H := .iface "*errors.errorString" (.ptr (.agg [.lit (.string [105, 110, 118, 97, 108, 105, 100, 32, 115, 121, 110, 116, 97, 120])]))
def laid_pub_tetrapla_pub_jsonparser_DefaultConfig {H : Type} : DataW H := .agg [.lit (.bool false), .lit (.bool false), .lit (.int .i64 0)]
def laid_pub_tetrapla_pub_jsonparser_backslashCharEscapeTable {H : Type} : DataW H := .agg [.lit (.int .u8 0), .lit (.int .u8 0), .lit (.int .u8 0), .lit (.int .u8 0), .lit (.int .u8 0), .lit (.int .u8 0), .lit (.int .u8 0), .lit (.int .u8 0), .lit (.int .u8 0), .lit (.int .u8 0), .lit (.int .u8 0), .lit (.int .u8 0), .lit (.int .u8 0), .lit (.int .u8 0), .lit (.int .u8 0), .lit (.int .u8 0), .lit (.int .u8 0), .lit (.int .u8 0), .lit (.int .u8 0), .lit (.int .u8 0), .lit (.int .u8 0), .lit (.int .u8 0), .lit (.int .u8 0), .lit (.int .u8 0), .lit (.int .u8 0), .lit (.int .u8 0), .lit (.int .u8 0), .lit (.int .u8 0), .lit (.int .u8 0), .lit (.int .u8 0), .lit (.int .u8 0), .lit (.int .u8 0), .lit (.int .u8 0), .lit (.int .u8 0), .lit (.int .u8 34), .lit (.int .u8 0), .lit (.int .u8 0), .lit (.int .u8 0), .lit (.int .u8 0), .lit (.int .u8 0), .lit (.int .u8 0), .lit (.int .u8 0), .lit (.int .u8 0), .lit (.int .u8 0), .lit (.int .u8 0), .lit (.int .u8 0), .lit (.int .u8 0), .lit (.int .u8 47), .lit (.int .u8 0), .lit (.int .u8 0), .lit (.int .u8 0), .lit (.int .u8 0), .lit (.int .u8 0), .lit (.int .u8 0), .lit (.int .u8 0), .lit (.int .u8 0), .lit (.int .u8 0), .lit (.int .u8 0), .lit (.int .u8 0), .lit (.int .u8 0), .lit (.int .u8 0), .lit (.int .u8 0), .lit (.int .u8 0), .lit (.int .u8 0), .lit (.int .u8 0), .lit (.int .u8 0), .lit (.int .u8 0), .lit (.int .u8 0), .lit (.int .u8 0), .lit (.int .u8 0), .lit (.int .u8 0), .lit (.int .u8 0), .lit (.int .u8 0), .lit (.int .u8 0), .lit (.int .u8 0), .lit (.int .u8 0), .lit (.int .u8 0), .lit (.int .u8 0), .lit (.int .u8 0), .lit (.int .u8 0), .lit (.int .u8 0), .lit (.int .u8 0), .lit (.int .u8 0), .lit (.int .u8 0), .lit (.int .u8 0), .lit (.int .u8 0), .lit (.int .u8 0), .lit (.int .u8 0), .lit (.int .u8 0), .lit (.int .u8 0), .lit (.int .u8 0), .lit (.int .u8 0), .lit (.int .u8 92), .lit (.int .u8 0), .lit (.int .u8 0), .lit (.int .u8 0), .lit (.int .u8 0), .lit (.int .u8 0), .lit (.int .u8 8), .lit (.int .u8 0), .lit (.int .u8 0), .lit (.int .u8 0), .lit (.int .u8 12), .lit (.int .u8 0), .lit (.int .u8 0), .lit (.int .u8 0), .lit (.int .u8 0), .lit (.int .u8 0), .lit (.int .u8 0), .lit (.int .u8 0), .lit (.int .u8 10), .lit (.int .u8 0), .lit (.int .u8 0), .lit (.int .u8 0), .lit (.int .u8 13), .lit (.int .u8 0), .lit (.int .u8 9)]
def laid_pub_tetrapla_pub_jsonparser_MalformedStringEscapeError {H : Type} : DataW H := .iface "*errors.errorString" (.ptr (.agg [.lit (.string [69, 110, 99, 111, 117, 110, 116, 101, 114, 101, 100, 32, 97, 110, 32, 105, 110, 118, 97, 108, 105, 100, 32, 101, 115, 99, 97, 112, 101, 32, 115, 101, 113, 117, 101, 110, 99, 101, 32, 105, 110, 32, 97, 32, 115, 116, 114, 105, 110, 103])]))

/-- 'laws.FnMtAhead': WHATEVER THE INPUT: true; the input reads as it did. -/
def fnMtAheadSpec : ChangeSpec := { name := "fnMtAhead", fn := fun _ => fun
  | [d1, d2] => { results := [.lit (.bool true)], args := [d1, d2] }
  | _ => none }
def fnMtAheadRow : OpenClaim := { program := "ytfpbbnllaogclaadoor", sum := "a1b840447cf6c5f99258b954b9a0b9a78cdd4e48b7b7140a6de5992a4979be69", func := "pub-tetrapla/laws.FnMtAhead", spec := "fnMtAhead", recurses := true, named := ["unicode/utf8.first", "unicode/utf8.acceptRanges"], apart := false, laid := [("unicode/utf8.acceptRanges", laid_unicode_utf8_acceptRanges), ("unicode/utf8.first", laid_unicode_utf8_first)] }
def FnMtAheadSaid : Prop := fnMtAheadRow.holds Tryd.pinned (OpenSpec.ofChange fnMtAheadSpec)

/-- ITS FALSE NEIGHBOUR: 'it returns false'. Refute it at one input. -/
def fnMtAheadWrong : ChangeSpec := { name := "fnMtAhead", fn := fun _ => fun
  | [d1, d2] => { results := [.lit (.bool false)], args := [d1, d2] }
  | _ => none }
def FnMtAheadWrongFalsely : Prop := fnMtAheadRow.holds Tryd.pinned (OpenSpec.ofChange fnMtAheadWrong)

/-- 'laws.FnMtDoubled': WHATEVER THE INPUT: true; the input reads as it did. -/
def fnMtDoubledSpec : ChangeSpec := { name := "fnMtDoubled", fn := fun _ => fun
  | [d1, d2, d3, d4, d5] => { results := [.lit (.bool true)], args := [d1, d2, d3, d4, d5] }
  | _ => none }
def fnMtDoubledRow : OpenClaim := { program := "ytfpbbnllaogclaadoor", sum := "a1b840447cf6c5f99258b954b9a0b9a78cdd4e48b7b7140a6de5992a4979be69", func := "pub-tetrapla/laws.FnMtDoubled", spec := "fnMtDoubled", recurses := true, named := ["unicode/utf8.first", "unicode/utf8.acceptRanges"], apart := false, laid := [("unicode/utf8.acceptRanges", laid_unicode_utf8_acceptRanges), ("unicode/utf8.first", laid_unicode_utf8_first)] }
def FnMtDoubledSaid : Prop := fnMtDoubledRow.holds Tryd.pinned (OpenSpec.ofChange fnMtDoubledSpec)

/-- ITS FALSE NEIGHBOUR: 'it returns false'. Refute it at one input. -/
def fnMtDoubledWrong : ChangeSpec := { name := "fnMtDoubled", fn := fun _ => fun
  | [d1, d2, d3, d4, d5] => { results := [.lit (.bool false)], args := [d1, d2, d3, d4, d5] }
  | _ => none }
def FnMtDoubledWrongFalsely : Prop := fnMtDoubledRow.holds Tryd.pinned (OpenSpec.ofChange fnMtDoubledWrong)

/-- 'laws.FnSjBuild': WHATEVER THE INPUT: true; the input reads as it did. -/
def fnSjBuildSpec : ChangeSpec := { name := "fnSjBuild", fn := fun _ => fun
  | [d1, d2, d3, d4, d5] => { results := [.lit (.bool true)], args := [d1, d2, d3, d4, d5] }
  | _ => none }
def fnSjBuildRow : OpenClaim := { program := "ytfpbbnllaogclaadoor", sum := "a1b840447cf6c5f99258b954b9a0b9a78cdd4e48b7b7140a6de5992a4979be69", func := "pub-tetrapla/laws.FnSjBuild", spec := "fnSjBuild", recurses := true, named := ["unicode/utf8.first", "unicode/utf8.acceptRanges"], apart := false, laid := [("unicode/utf8.acceptRanges", laid_unicode_utf8_acceptRanges), ("unicode/utf8.first", laid_unicode_utf8_first)] }
def FnSjBuildSaid : Prop := fnSjBuildRow.holds Tryd.pinned (OpenSpec.ofChange fnSjBuildSpec)

/-- ITS FALSE NEIGHBOUR: 'it returns false'. Refute it at one input. -/
def fnSjBuildWrong : ChangeSpec := { name := "fnSjBuild", fn := fun _ => fun
  | [d1, d2, d3, d4, d5] => { results := [.lit (.bool false)], args := [d1, d2, d3, d4, d5] }
  | _ => none }
def FnSjBuildWrongFalsely : Prop := fnSjBuildRow.holds Tryd.pinned (OpenSpec.ofChange fnSjBuildWrong)

/-- 'laws.FnGjFalseish': WHATEVER THE INPUT: true; the input reads as it did. -/
def fnGjFalseishSpec : ChangeSpec := { name := "fnGjFalseish", fn := fun _ => fun
  | [d] => { results := [.lit (.bool true)], args := [d] }
  | _ => none }
def fnGjFalseishRow : OpenClaim := { program := "ytfpbbnllaogclaadoor", sum := "a1b840447cf6c5f99258b954b9a0b9a78cdd4e48b7b7140a6de5992a4979be69", func := "pub-tetrapla/laws.FnGjFalseish", spec := "fnGjFalseish", named := ["strconv.ErrSyntax", "strconv.ErrRange", "internal/strconv.uint64pow10", "math/bits.deBruijn32tab", "math/bits.deBruijn64tab"], apart := false, laid := [("math/bits.deBruijn32tab", laid_math_bits_deBruijn32tab), ("math/bits.deBruijn64tab", laid_math_bits_deBruijn64tab), ("internal/strconv.uint64pow10", laid_internal_strconv_uint64pow10), ("strconv.ErrRange", laid_strconv_ErrRange), ("strconv.ErrSyntax", laid_strconv_ErrSyntax)] }
def FnGjFalseishSaid : Prop := fnGjFalseishRow.holds Tryd.pinned (OpenSpec.ofChange fnGjFalseishSpec)

/-- ITS FALSE NEIGHBOUR: 'it returns false'. Refute it at one input. -/
def fnGjFalseishWrong : ChangeSpec := { name := "fnGjFalseish", fn := fun _ => fun
  | [d] => { results := [.lit (.bool false)], args := [d] }
  | _ => none }
def FnGjFalseishWrongFalsely : Prop := fnGjFalseishRow.holds Tryd.pinned (OpenSpec.ofChange fnGjFalseishWrong)

/-- 'laws.FnJpUnescapeParts': WHATEVER THE INPUT: true; the input reads as it did. -/
def fnJpUnescapePartsSpec : ChangeSpec := { name := "fnJpUnescapeParts", fn := fun _ => fun
  | [d1, d2] => { results := [.lit (.bool true)], args := [d1, d2] }
  | _ => none }
def fnJpUnescapePartsRow : OpenClaim := { program := "ytfpbbnllaogclaadoor", sum := "a1b840447cf6c5f99258b954b9a0b9a78cdd4e48b7b7140a6de5992a4979be69", func := "pub-tetrapla/laws.FnJpUnescapeParts", spec := "fnJpUnescapeParts", inPlace := ["internal/bytealg.IndexByte"], named := ["pub-tetrapla/pub/jsonparser.DefaultConfig", "pub-tetrapla/pub/jsonparser.MalformedStringEscapeError", "pub-tetrapla/pub/jsonparser.backslashCharEscapeTable"], apart := false, laid := [("pub-tetrapla/pub/jsonparser.DefaultConfig", laid_pub_tetrapla_pub_jsonparser_DefaultConfig), ("pub-tetrapla/pub/jsonparser.backslashCharEscapeTable", laid_pub_tetrapla_pub_jsonparser_backslashCharEscapeTable), ("pub-tetrapla/pub/jsonparser.MalformedStringEscapeError", laid_pub_tetrapla_pub_jsonparser_MalformedStringEscapeError)] }
def FnJpUnescapePartsSaid : Prop := fnJpUnescapePartsRow.holds Tryd.pinned (OpenSpec.ofChange fnJpUnescapePartsSpec)

/-- ITS FALSE NEIGHBOUR: 'it returns false'. Refute it at one input. -/
def fnJpUnescapePartsWrong : ChangeSpec := { name := "fnJpUnescapeParts", fn := fun _ => fun
  | [d1, d2] => { results := [.lit (.bool false)], args := [d1, d2] }
  | _ => none }
def FnJpUnescapePartsWrongFalsely : Prop := fnJpUnescapePartsRow.holds Tryd.pinned (OpenSpec.ofChange fnJpUnescapePartsWrong)

/-- 'laws.FnFjCheckKey': WHATEVER THE INPUT: true; the input reads as it did. -/
def fnFjCheckKeySpec : ChangeSpec := { name := "fnFjCheckKey", fn := fun _ => fun
  | [d] => { results := [.lit (.bool true)], args := [d] }
  | _ => none }
def fnFjCheckKeyRow : OpenClaim := { program := "ytfpbbnllaogclaadoor", sum := "a1b840447cf6c5f99258b954b9a0b9a78cdd4e48b7b7140a6de5992a4979be69", func := "pub-tetrapla/laws.FnFjCheckKey", spec := "fnFjCheckKey", inPlace := ["internal/bytealg.IndexByteString"], named := ["strconv.ErrSyntax", "strconv.ErrRange", "internal/strconv.uint64pow10", "math/bits.deBruijn32tab", "math/bits.deBruijn64tab"], apart := false, laid := [("math/bits.deBruijn32tab", laid_math_bits_deBruijn32tab), ("math/bits.deBruijn64tab", laid_math_bits_deBruijn64tab), ("internal/strconv.uint64pow10", laid_internal_strconv_uint64pow10), ("strconv.ErrRange", laid_strconv_ErrRange), ("strconv.ErrSyntax", laid_strconv_ErrSyntax)] }
def FnFjCheckKeySaid : Prop := fnFjCheckKeyRow.holds Tryd.pinned (OpenSpec.ofChange fnFjCheckKeySpec)

/-- ITS FALSE NEIGHBOUR: 'it returns false'. Refute it at one input. -/
def fnFjCheckKeyWrong : ChangeSpec := { name := "fnFjCheckKey", fn := fun _ => fun
  | [d] => { results := [.lit (.bool false)], args := [d] }
  | _ => none }
def FnFjCheckKeyWrongFalsely : Prop := fnFjCheckKeyRow.holds Tryd.pinned (OpenSpec.ofChange fnFjCheckKeyWrong)

/- THE SECOND FORM. 'bulk': how many values and letters a reading holds, each counted each time it is reached (what is shared counts as often as it is met; a slice's spare places count too). A statement '..UptoSaid' is the law's where the arguments, and the package variables that the reading takes, are together of bulk at most 1048576: NARROWER than '..Said'. Prove '..Said' where nothing that the law and all that it calls make is longer than what came in: it says more and counts as full. Else prove '..UptoSaid'. A law counts once. -/
mutual
def uptoBulk {H : Type} : DataW H → Nat
  | .lit (.string bytes) => bytes.length + 1
  | .lit _ => 1
  | .nil => 1
  | .ptr d => uptoBulk d + 1
  | .slice elems spare => uptoBulkAll elems + uptoBulkAll spare + 1
  | .agg parts => uptoBulkAll parts + 1
  | .iface _ d => uptoBulk d + 1
  | .map entries => uptoBulkEntries entries + 1
  | .held _ => 1
def uptoBulkAll {H : Type} : List (DataW H) → Nat
  | [] => 0
  | d :: r => uptoBulk d + uptoBulkAll r
def uptoBulkEntries {H : Type} : List (Lit × DataW H) → Nat
  | [] => 0
  | x :: r => uptoBulkEntry x + uptoBulkEntries r
def uptoBulkEntry {H : Type} : Lit × DataW H → Nat
  | (.string bytes, d) => bytes.length + uptoBulk d + 1
  | (_, d) => uptoBulk d + 1
 end
def uptoSmall : (H : Type) → List (DataW H) → Bool := fun _ ds => decide (uptoBulkAll ds ≤ 1048576)
def OpenSpec.upto (s : _root_.Go.ChangeSpec) : _root_.Go.OpenSpec := { _root_.Go.OpenSpec.ofChange s with cond := some uptoSmall }

/-- 'laws.FnMtAhead', WHERE WHAT IT READS IS OF BULK AT MOST 1048576: true; the input reads as it did. -/
def fnMtAheadUptoRow : OpenClaim := { program := "ytfpbbnllaogclaadoor", sum := "a1b840447cf6c5f99258b954b9a0b9a78cdd4e48b7b7140a6de5992a4979be69", func := "pub-tetrapla/laws.FnMtAhead", spec := "fnMtAhead", recurses := true, named := ["unicode/utf8.first", "unicode/utf8.acceptRanges"], apart := false, laid := [("unicode/utf8.acceptRanges", laid_unicode_utf8_acceptRanges), ("unicode/utf8.first", laid_unicode_utf8_first)], narrowed := true }
def FnMtAheadUptoSaid : Prop := fnMtAheadUptoRow.holds Tryd.pinned (OpenSpec.upto fnMtAheadSpec)

/-- 'laws.FnMtDoubled', WHERE WHAT IT READS IS OF BULK AT MOST 1048576: true; the input reads as it did. -/
def fnMtDoubledUptoRow : OpenClaim := { program := "ytfpbbnllaogclaadoor", sum := "a1b840447cf6c5f99258b954b9a0b9a78cdd4e48b7b7140a6de5992a4979be69", func := "pub-tetrapla/laws.FnMtDoubled", spec := "fnMtDoubled", recurses := true, named := ["unicode/utf8.first", "unicode/utf8.acceptRanges"], apart := false, laid := [("unicode/utf8.acceptRanges", laid_unicode_utf8_acceptRanges), ("unicode/utf8.first", laid_unicode_utf8_first)], narrowed := true }
def FnMtDoubledUptoSaid : Prop := fnMtDoubledUptoRow.holds Tryd.pinned (OpenSpec.upto fnMtDoubledSpec)

/-- 'laws.FnSjBuild', WHERE WHAT IT READS IS OF BULK AT MOST 1048576: true; the input reads as it did. -/
def fnSjBuildUptoRow : OpenClaim := { program := "ytfpbbnllaogclaadoor", sum := "a1b840447cf6c5f99258b954b9a0b9a78cdd4e48b7b7140a6de5992a4979be69", func := "pub-tetrapla/laws.FnSjBuild", spec := "fnSjBuild", recurses := true, named := ["unicode/utf8.first", "unicode/utf8.acceptRanges"], apart := false, laid := [("unicode/utf8.acceptRanges", laid_unicode_utf8_acceptRanges), ("unicode/utf8.first", laid_unicode_utf8_first)], narrowed := true }
def FnSjBuildUptoSaid : Prop := fnSjBuildUptoRow.holds Tryd.pinned (OpenSpec.upto fnSjBuildSpec)

/-- 'laws.FnGjFalseish', WHERE WHAT IT READS IS OF BULK AT MOST 1048576: true; the input reads as it did. -/
def fnGjFalseishUptoRow : OpenClaim := { program := "ytfpbbnllaogclaadoor", sum := "a1b840447cf6c5f99258b954b9a0b9a78cdd4e48b7b7140a6de5992a4979be69", func := "pub-tetrapla/laws.FnGjFalseish", spec := "fnGjFalseish", named := ["strconv.ErrSyntax", "strconv.ErrRange", "internal/strconv.uint64pow10", "math/bits.deBruijn32tab", "math/bits.deBruijn64tab"], apart := false, laid := [("math/bits.deBruijn32tab", laid_math_bits_deBruijn32tab), ("math/bits.deBruijn64tab", laid_math_bits_deBruijn64tab), ("internal/strconv.uint64pow10", laid_internal_strconv_uint64pow10), ("strconv.ErrRange", laid_strconv_ErrRange), ("strconv.ErrSyntax", laid_strconv_ErrSyntax)], narrowed := true }
def FnGjFalseishUptoSaid : Prop := fnGjFalseishUptoRow.holds Tryd.pinned (OpenSpec.upto fnGjFalseishSpec)

/-- 'laws.FnJpUnescapeParts', WHERE WHAT IT READS IS OF BULK AT MOST 1048576: true; the input reads as it did. -/
def fnJpUnescapePartsUptoRow : OpenClaim := { program := "ytfpbbnllaogclaadoor", sum := "a1b840447cf6c5f99258b954b9a0b9a78cdd4e48b7b7140a6de5992a4979be69", func := "pub-tetrapla/laws.FnJpUnescapeParts", spec := "fnJpUnescapeParts", inPlace := ["internal/bytealg.IndexByte"], named := ["pub-tetrapla/pub/jsonparser.DefaultConfig", "pub-tetrapla/pub/jsonparser.MalformedStringEscapeError", "pub-tetrapla/pub/jsonparser.backslashCharEscapeTable"], apart := false, laid := [("pub-tetrapla/pub/jsonparser.DefaultConfig", laid_pub_tetrapla_pub_jsonparser_DefaultConfig), ("pub-tetrapla/pub/jsonparser.backslashCharEscapeTable", laid_pub_tetrapla_pub_jsonparser_backslashCharEscapeTable), ("pub-tetrapla/pub/jsonparser.MalformedStringEscapeError", laid_pub_tetrapla_pub_jsonparser_MalformedStringEscapeError)], narrowed := true }
def FnJpUnescapePartsUptoSaid : Prop := fnJpUnescapePartsUptoRow.holds Tryd.pinned (OpenSpec.upto fnJpUnescapePartsSpec)

/-- 'laws.FnFjCheckKey', WHERE WHAT IT READS IS OF BULK AT MOST 1048576: true; the input reads as it did. -/
def fnFjCheckKeyUptoRow : OpenClaim := { program := "ytfpbbnllaogclaadoor", sum := "a1b840447cf6c5f99258b954b9a0b9a78cdd4e48b7b7140a6de5992a4979be69", func := "pub-tetrapla/laws.FnFjCheckKey", spec := "fnFjCheckKey", inPlace := ["internal/bytealg.IndexByteString"], named := ["strconv.ErrSyntax", "strconv.ErrRange", "internal/strconv.uint64pow10", "math/bits.deBruijn32tab", "math/bits.deBruijn64tab"], apart := false, laid := [("math/bits.deBruijn32tab", laid_math_bits_deBruijn32tab), ("math/bits.deBruijn64tab", laid_math_bits_deBruijn64tab), ("internal/strconv.uint64pow10", laid_internal_strconv_uint64pow10), ("strconv.ErrRange", laid_strconv_ErrRange), ("strconv.ErrSyntax", laid_strconv_ErrSyntax)], narrowed := true }
def FnFjCheckKeyUptoSaid : Prop := fnFjCheckKeyUptoRow.holds Tryd.pinned (OpenSpec.upto fnFjCheckKeySpec)

end Rows
end Go.Proofs.YtfpbbnllaogclaaDoor
