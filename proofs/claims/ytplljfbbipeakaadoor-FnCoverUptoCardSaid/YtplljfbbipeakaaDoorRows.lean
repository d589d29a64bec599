/-
  NARROWER THAN 'FOR EVERY INPUT', by the rows' own cells (each row's printed sentence says how): FnWords: laid · FnColumns: laid · FnCut: laid · FnJoined: laid · FnScan: laid · FnTexts: laid · FnCover: laid · FnKeyword: laid.
  DERIVED. THE GIVEN ROWS OF THIS SEAT. 8 by the template 'for every input the law returns true; each argument reads behind the call as it read before'; 0 by the template 'total and deterministic' (their statements: YtplljfbbipeakaaDoorTotals.lean).
  GIVEN WITH THE SEED: the statements are not yours to turn. If you find one false, say at which input.
  Laid BY PROGRAM, IN A SANDBOX (cutbox-rows.mjs): the forced cells as the released guide's own fill.sh prints them over the translation 08a50822c679e835… (all of the seat's roots in one cut). By AI agents, Wed Nov 11 2026. No macro, syntax, notation, axiom, sorry.
-/
import Derived.Test.YtplljfbbipeakaaDoorChecked
import GoSem.PinnedTables
import GoSem.Claim
import GoSem.ClaimJoined
import GoSem.ClaimMapViews
import Derived.JoinedTies
import Derived.KernelRfl
namespace Go.Proofs.YtplljfbbipeakaaDoor
/- THE CELL 'sum', in the pinned program and in every row, IS THE sha256 OF THE DUMP (.gsa) THAT YtplljfbbipeakaaDoorProg.lean LOADS. Nothing in Lean hashes anything: it is a label: what it is worth is what the hold of that sum in a sandbox is worth. -/
noncomputable def Tryd.pinned : Pinned := { name := "ytplljfbbipeakaadoor", sum := "08a50822c679e835639d82484ae5824f9c91ec3efea36e9259898858a8585ba8", checked := Tryd.checked }
namespace Rows
def none {H : Type} : Left H := { results := [], args := [] }

/- WHAT THE LISTED PACKAGE-LEVEL VARIABLES READ AS WHEN THE CALL BEGINS. Each datum BY PROGRAM (the guide's laid-datum.mjs) off the statement by which the dump's own 'gosem.cut.vars' lays the variable. In a bare row this is a premise. The card (YtplljfbbipeakaaDoorCards.lean) ties it to the program's text. -/
def laid_clausescan_pub_opatokens_strings {H : Type} : DataW H := .agg [.lit (.string [105, 108, 108, 101, 103, 97, 108]), .lit (.string [101, 111, 102]), .lit (.string [119, 104, 105, 116, 101, 115, 112, 97, 99, 101]), .lit (.string [105, 100, 101, 110, 116, 105, 102, 105, 101, 114]), .lit (.string [99, 111, 109, 109, 101, 110, 116]), .lit (.string [112, 97, 99, 107, 97, 103, 101]), .lit (.string [105, 109, 112, 111, 114, 116]), .lit (.string [97, 115]), .lit (.string [100, 101, 102, 97, 117, 108, 116]), .lit (.string [101, 108, 115, 101]), .lit (.string [110, 111, 116]), .lit (.string [115, 111, 109, 101]), .lit (.string [119, 105, 116, 104]), .lit (.string [110, 117, 108, 108]), .lit (.string [116, 114, 117, 101]), .lit (.string [102, 97, 108, 115, 101]), .lit (.string [110, 117, 109, 98, 101, 114]), .lit (.string [115, 116, 114, 105, 110, 103]), .lit (.string [116, 101, 109, 112, 108, 97, 116, 101, 45, 115, 116, 114, 105, 110, 103, 45, 112, 97, 114, 116]), .lit (.string [116, 101, 109, 112, 108, 97, 116, 101, 45, 115, 116, 114, 105, 110, 103, 45, 101, 110, 100]), .lit (.string [114, 97, 119, 45, 116, 101, 109, 112, 108, 97, 116, 101, 45, 115, 116, 114, 105, 110, 103, 45, 112, 97, 114, 116]), .lit (.string [114, 97, 119, 45, 116, 101, 109, 112, 108, 97, 116, 101, 45, 115, 116, 114, 105, 110, 103, 45, 101, 110, 100]), .lit (.string [91]), .lit (.string [93]), .lit (.string [123]), .lit (.string [125]), .lit (.string [40]), .lit (.string [41]), .lit (.string [44]), .lit (.string [58]), .lit (.string [112, 108, 117, 115]), .lit (.string [109, 105, 110, 117, 115]), .lit (.string [109, 117, 108]), .lit (.string [100, 105, 118]), .lit (.string [114, 101, 109]), .lit (.string [97, 110, 100]), .lit (.string [111, 114]), .lit (.string [101, 113]), .lit (.string [101, 113, 117, 97, 108]), .lit (.string [97, 115, 115, 105, 103, 110]), .lit (.string [105, 110]), .lit (.string [110, 101, 113]), .lit (.string [103, 116]), .lit (.string [108, 116]), .lit (.string [103, 116, 101]), .lit (.string [108, 116, 101]), .lit (.string [46]), .lit (.string [59]), .lit (.string [100, 111, 108, 108, 97, 114]), .lit (.string [101, 118, 101, 114, 121]), .lit (.string [99, 111, 110, 116, 97, 105, 110, 115]), .lit (.string [105, 102]), .lit (.string [97, 110, 100]), .lit (.string [111, 114])]
def laid_clausescan_pub_opatokens_keywords {H : Type} : DataW H := .map [(.string [97, 115], .lit (.int .u8 7)), (.string [100, 101, 102, 97, 117, 108, 116], .lit (.int .u8 8)), (.string [101, 108, 115, 101], .lit (.int .u8 9)), (.string [102, 97, 108, 115, 101], .lit (.int .u8 15)), (.string [105, 109, 112, 111, 114, 116], .lit (.int .u8 6)), (.string [110, 111, 116], .lit (.int .u8 10)), (.string [110, 117, 108, 108], .lit (.int .u8 13)), (.string [112, 97, 99, 107, 97, 103, 101], .lit (.int .u8 5)), (.string [115, 111, 109, 101], .lit (.int .u8 11)), (.string [116, 114, 117, 101], .lit (.int .u8 14)), (.string [119, 105, 116, 104], .lit (.int .u8 12))]
def laid_unicode_utf8_acceptRanges {H : Type} : DataW H := .agg [.agg [.lit (.int .u8 128), .lit (.int .u8 191)], .agg [.lit (.int .u8 160), .lit (.int .u8 191)], .agg [.lit (.int .u8 128), .lit (.int .u8 159)], .agg [.lit (.int .u8 144), .lit (.int .u8 191)], .agg [.lit (.int .u8 128), .lit (.int .u8 143)], .agg [.lit (.int .u8 0), .lit (.int .u8 0)], .agg [.lit (.int .u8 0), .lit (.int .u8 0)], .agg [.lit (.int .u8 0), .lit (.int .u8 0)], .agg [.lit (.int .u8 0), .lit (.int .u8 0)], .agg [.lit (.int .u8 0), .lit (.int .u8 0)], .agg [.lit (.int .u8 0), .lit (.int .u8 0)], .agg [.lit (.int .u8 0), .lit (.int .u8 0)], .agg [.lit (.int .u8 0), .lit (.int .u8 0)], .agg [.lit (.int .u8 0), .lit (.int .u8 0)], .agg [.lit (.int .u8 0), .lit (.int .u8 0)], .agg [.lit (.int .u8 0), .lit (.int .u8 0)]]
def laid_io_EOF {H : Type} : DataW H := .iface "*errors.errorString" (.ptr (.agg [.lit (.string [69, 79, 70])]))
/-- One of Go's own tables, pinned by name: the form's constant. -/
def laid_unicode_Digit : DataW Unit := Go.Pinned.digit
/-- One of Go's own tables, pinned by name: the form's constant. -/
def laid_unicode_utf8_first : DataW Unit := Go.Pinned.utf8First

/-- 'laws.FnWords': WHATEVER THE INPUT: true; the input reads as it did. -/
def fnWordsSpec : ChangeSpec := { name := "fnWords", fn := fun _ => fun
  | [d] => { results := [.lit (.bool true)], args := [d] }
  | _ => none }
def fnWordsRow : OpenClaim := { program := "ytplljfbbipeakaadoor", sum := "08a50822c679e835639d82484ae5824f9c91ec3efea36e9259898858a8585ba8", func := "clausescan/laws.FnWords", spec := "fnWords", recurses := true, named := ["clausescan/pub/opatokens.keywords", "clausescan/pub/opatokens.strings"], apart := false, laid := [("clausescan/pub/opatokens.strings", laid_clausescan_pub_opatokens_strings), ("clausescan/pub/opatokens.keywords", laid_clausescan_pub_opatokens_keywords)] }
def FnWordsSaid : Prop := fnWordsRow.holds Tryd.pinned (OpenSpec.ofChange fnWordsSpec)

/-- ITS FALSE NEIGHBOUR: 'it returns false'. Refute it at one input. -/
def fnWordsWrong : ChangeSpec := { name := "fnWords", fn := fun _ => fun
  | [d] => { results := [.lit (.bool false)], args := [d] }
  | _ => none }
def FnWordsWrongFalsely : Prop := fnWordsRow.holds Tryd.pinned (OpenSpec.ofChange fnWordsWrong)

/-- 'laws.FnColumns': WHATEVER THE INPUT: true; the input reads as it did. -/
def fnColumnsSpec : ChangeSpec := { name := "fnColumns", fn := fun _ => fun
  | [d1, d2, d3] => { results := [.lit (.bool true)], args := [d1, d2, d3] }
  | _ => none }
def fnColumnsRow : OpenClaim := { program := "ytplljfbbipeakaadoor", sum := "08a50822c679e835639d82484ae5824f9c91ec3efea36e9259898858a8585ba8", func := "clausescan/laws.FnColumns", spec := "fnColumns", unfollowed := true, recurses := true, named := ["io.EOF", "clausescan/pub/opatokens.keywords", "unicode/utf8.first", "unicode/utf8.acceptRanges", "unicode.Digit"], apart := false, laid := [("unicode/utf8.acceptRanges", laid_unicode_utf8_acceptRanges), ("clausescan/pub/opatokens.keywords", laid_clausescan_pub_opatokens_keywords), ("io.EOF", laid_io_EOF), ("unicode.Digit", laid_unicode_Digit), ("unicode/utf8.first", laid_unicode_utf8_first)] }
def FnColumnsSaid : Prop := fnColumnsRow.holds Tryd.pinned (OpenSpec.ofChange fnColumnsSpec)

/-- ITS FALSE NEIGHBOUR: 'it returns false'. Refute it at one input. -/
def fnColumnsWrong : ChangeSpec := { name := "fnColumns", fn := fun _ => fun
  | [d1, d2, d3] => { results := [.lit (.bool false)], args := [d1, d2, d3] }
  | _ => none }
def FnColumnsWrongFalsely : Prop := fnColumnsRow.holds Tryd.pinned (OpenSpec.ofChange fnColumnsWrong)

/-- 'laws.FnCut': WHATEVER THE INPUT: true; the input reads as it did. -/
def fnCutSpec : ChangeSpec := { name := "fnCut", fn := fun _ => fun
  | [d1, d2] => { results := [.lit (.bool true)], args := [d1, d2] }
  | _ => none }
def fnCutRow : OpenClaim := { program := "ytplljfbbipeakaadoor", sum := "08a50822c679e835639d82484ae5824f9c91ec3efea36e9259898858a8585ba8", func := "clausescan/laws.FnCut", spec := "fnCut", unfollowed := true, recurses := true, named := ["io.EOF", "clausescan/pub/opatokens.keywords", "unicode/utf8.first", "unicode/utf8.acceptRanges", "unicode.Digit"], apart := false, laid := [("unicode/utf8.acceptRanges", laid_unicode_utf8_acceptRanges), ("clausescan/pub/opatokens.keywords", laid_clausescan_pub_opatokens_keywords), ("io.EOF", laid_io_EOF), ("unicode.Digit", laid_unicode_Digit), ("unicode/utf8.first", laid_unicode_utf8_first)] }
def FnCutSaid : Prop := fnCutRow.holds Tryd.pinned (OpenSpec.ofChange fnCutSpec)

/-- ITS FALSE NEIGHBOUR: 'it returns false'. Refute it at one input. -/
def fnCutWrong : ChangeSpec := { name := "fnCut", fn := fun _ => fun
  | [d1, d2] => { results := [.lit (.bool false)], args := [d1, d2] }
  | _ => none }
def FnCutWrongFalsely : Prop := fnCutRow.holds Tryd.pinned (OpenSpec.ofChange fnCutWrong)

/-- 'laws.FnJoined': WHATEVER THE INPUT: true; the input reads as it did. -/
def fnJoinedSpec : ChangeSpec := { name := "fnJoined", fn := fun _ => fun
  | [d1, d2, d3] => { results := [.lit (.bool true)], args := [d1, d2, d3] }
  | _ => none }
def fnJoinedRow : OpenClaim := { program := "ytplljfbbipeakaadoor", sum := "08a50822c679e835639d82484ae5824f9c91ec3efea36e9259898858a8585ba8", func := "clausescan/laws.FnJoined", spec := "fnJoined", unfollowed := true, recurses := true, named := ["io.EOF", "clausescan/pub/opatokens.keywords", "unicode/utf8.first", "unicode/utf8.acceptRanges", "unicode.Digit"], apart := false, laid := [("unicode/utf8.acceptRanges", laid_unicode_utf8_acceptRanges), ("clausescan/pub/opatokens.keywords", laid_clausescan_pub_opatokens_keywords), ("io.EOF", laid_io_EOF), ("unicode.Digit", laid_unicode_Digit), ("unicode/utf8.first", laid_unicode_utf8_first)] }
def FnJoinedSaid : Prop := fnJoinedRow.holds Tryd.pinned (OpenSpec.ofChange fnJoinedSpec)

/-- ITS FALSE NEIGHBOUR: 'it returns false'. Refute it at one input. -/
def fnJoinedWrong : ChangeSpec := { name := "fnJoined", fn := fun _ => fun
  | [d1, d2, d3] => { results := [.lit (.bool false)], args := [d1, d2, d3] }
  | _ => none }
def FnJoinedWrongFalsely : Prop := fnJoinedRow.holds Tryd.pinned (OpenSpec.ofChange fnJoinedWrong)

/-- 'laws.FnScan': WHATEVER THE INPUT: true; the input reads as it did. -/
def fnScanSpec : ChangeSpec := { name := "fnScan", fn := fun _ => fun
  | [d1, d2, d3] => { results := [.lit (.bool true)], args := [d1, d2, d3] }
  | _ => none }
def fnScanRow : OpenClaim := { program := "ytplljfbbipeakaadoor", sum := "08a50822c679e835639d82484ae5824f9c91ec3efea36e9259898858a8585ba8", func := "clausescan/laws.FnScan", spec := "fnScan", unfollowed := true, recurses := true, named := ["io.EOF", "clausescan/pub/opatokens.keywords", "unicode/utf8.first", "unicode/utf8.acceptRanges", "unicode.Digit"], apart := false, laid := [("unicode/utf8.acceptRanges", laid_unicode_utf8_acceptRanges), ("clausescan/pub/opatokens.keywords", laid_clausescan_pub_opatokens_keywords), ("io.EOF", laid_io_EOF), ("unicode.Digit", laid_unicode_Digit), ("unicode/utf8.first", laid_unicode_utf8_first)] }
def FnScanSaid : Prop := fnScanRow.holds Tryd.pinned (OpenSpec.ofChange fnScanSpec)

/-- ITS FALSE NEIGHBOUR: 'it returns false'. Refute it at one input. -/
def fnScanWrong : ChangeSpec := { name := "fnScan", fn := fun _ => fun
  | [d1, d2, d3] => { results := [.lit (.bool false)], args := [d1, d2, d3] }
  | _ => none }
def FnScanWrongFalsely : Prop := fnScanRow.holds Tryd.pinned (OpenSpec.ofChange fnScanWrong)

/-- 'laws.FnTexts': WHATEVER THE INPUT: true; the input reads as it did. -/
def fnTextsSpec : ChangeSpec := { name := "fnTexts", fn := fun _ => fun
  | [d1, d2, d3] => { results := [.lit (.bool true)], args := [d1, d2, d3] }
  | _ => none }
def fnTextsRow : OpenClaim := { program := "ytplljfbbipeakaadoor", sum := "08a50822c679e835639d82484ae5824f9c91ec3efea36e9259898858a8585ba8", func := "clausescan/laws.FnTexts", spec := "fnTexts", unfollowed := true, recurses := true, named := ["io.EOF", "clausescan/pub/opatokens.keywords", "unicode/utf8.first", "unicode/utf8.acceptRanges", "unicode.Digit"], apart := false, laid := [("unicode/utf8.acceptRanges", laid_unicode_utf8_acceptRanges), ("clausescan/pub/opatokens.keywords", laid_clausescan_pub_opatokens_keywords), ("io.EOF", laid_io_EOF), ("unicode.Digit", laid_unicode_Digit), ("unicode/utf8.first", laid_unicode_utf8_first)] }
def FnTextsSaid : Prop := fnTextsRow.holds Tryd.pinned (OpenSpec.ofChange fnTextsSpec)

/-- ITS FALSE NEIGHBOUR: 'it returns false'. Refute it at one input. -/
def fnTextsWrong : ChangeSpec := { name := "fnTexts", fn := fun _ => fun
  | [d1, d2, d3] => { results := [.lit (.bool false)], args := [d1, d2, d3] }
  | _ => none }
def FnTextsWrongFalsely : Prop := fnTextsRow.holds Tryd.pinned (OpenSpec.ofChange fnTextsWrong)

/-- 'laws.FnCover': WHATEVER THE INPUT: true; the input reads as it did. -/
def fnCoverSpec : ChangeSpec := { name := "fnCover", fn := fun _ => fun
  | [d1, d2, d3] => { results := [.lit (.bool true)], args := [d1, d2, d3] }
  | _ => none }
def fnCoverRow : OpenClaim := { program := "ytplljfbbipeakaadoor", sum := "08a50822c679e835639d82484ae5824f9c91ec3efea36e9259898858a8585ba8", func := "clausescan/laws.FnCover", spec := "fnCover", unfollowed := true, recurses := true, named := ["io.EOF", "clausescan/pub/opatokens.keywords", "unicode/utf8.first", "unicode/utf8.acceptRanges", "unicode.Digit"], apart := false, laid := [("unicode/utf8.acceptRanges", laid_unicode_utf8_acceptRanges), ("clausescan/pub/opatokens.keywords", laid_clausescan_pub_opatokens_keywords), ("io.EOF", laid_io_EOF), ("unicode.Digit", laid_unicode_Digit), ("unicode/utf8.first", laid_unicode_utf8_first)] }
def FnCoverSaid : Prop := fnCoverRow.holds Tryd.pinned (OpenSpec.ofChange fnCoverSpec)

/-- ITS FALSE NEIGHBOUR: 'it returns false'. Refute it at one input. -/
def fnCoverWrong : ChangeSpec := { name := "fnCover", fn := fun _ => fun
  | [d1, d2, d3] => { results := [.lit (.bool false)], args := [d1, d2, d3] }
  | _ => none }
def FnCoverWrongFalsely : Prop := fnCoverRow.holds Tryd.pinned (OpenSpec.ofChange fnCoverWrong)

/-- 'laws.FnKeyword': WHATEVER THE INPUT: true; the input reads as it did. -/
def fnKeywordSpec : ChangeSpec := { name := "fnKeyword", fn := fun _ => fun
  | [d] => { results := [.lit (.bool true)], args := [d] }
  | _ => none }
def fnKeywordRow : OpenClaim := { program := "ytplljfbbipeakaadoor", sum := "08a50822c679e835639d82484ae5824f9c91ec3efea36e9259898858a8585ba8", func := "clausescan/laws.FnKeyword", spec := "fnKeyword", unfollowed := true, recurses := true, named := ["io.EOF", "clausescan/pub/opatokens.keywords", "unicode/utf8.first", "unicode/utf8.acceptRanges", "unicode.Digit"], apart := false, laid := [("unicode/utf8.acceptRanges", laid_unicode_utf8_acceptRanges), ("clausescan/pub/opatokens.keywords", laid_clausescan_pub_opatokens_keywords), ("io.EOF", laid_io_EOF), ("unicode.Digit", laid_unicode_Digit), ("unicode/utf8.first", laid_unicode_utf8_first)] }
def FnKeywordSaid : Prop := fnKeywordRow.holds Tryd.pinned (OpenSpec.ofChange fnKeywordSpec)

/-- ITS FALSE NEIGHBOUR: 'it returns false'. Refute it at one input. -/
def fnKeywordWrong : ChangeSpec := { name := "fnKeyword", fn := fun _ => fun
  | [d] => { results := [.lit (.bool false)], args := [d] }
  | _ => none }
def FnKeywordWrongFalsely : Prop := fnKeywordRow.holds Tryd.pinned (OpenSpec.ofChange fnKeywordWrong)

/- THE SECOND FORM. 'bulk': how many values and letters a reading holds, each counted each time it is reached (what is shared counts as often as it is met; a slice's spare places count too). A statement '..UptoSaid' is the law's where the arguments, and the package variables that the reading takes, are together of bulk at most 1048576: NARROWER than '..Said'. Prove '..Said' where nothing that the law and all that it calls make is longer than what came in: it says more and counts as full. Else prove '..UptoSaid'. A law counts once. -/
mutual
def uptoBulk {H : Type} : DataW H → Nat
  | .lit (.string bytes) => bytes.length + 1
  | .lit _ => 1
  | .nil => 1
  | .ptr d => uptoBulk d + 1
  | .slice elems spare => uptoBulkAll elems + uptoBulkAll spare + 1
  | .agg parts => uptoBulkAll parts + 1
  | .iface _ d => uptoBulk d + 1
  | .map entries => uptoBulkEntries entries + 1
  | .held _ => 1
def uptoBulkAll {H : Type} : List (DataW H) → Nat
  | [] => 0
  | d :: r => uptoBulk d + uptoBulkAll r
def uptoBulkEntries {H : Type} : List (Lit × DataW H) → Nat
  | [] => 0
  | x :: r => uptoBulkEntry x + uptoBulkEntries r
def uptoBulkEntry {H : Type} : Lit × DataW H → Nat
  | (.string bytes, d) => bytes.length + uptoBulk d + 1
  | (_, d) => uptoBulk d + 1
 end
def uptoSmall : (H : Type) → List (DataW H) → Bool := fun _ ds => decide (uptoBulkAll ds ≤ 1048576)
def OpenSpec.upto (s : _root_.Go.ChangeSpec) : _root_.Go.OpenSpec := { _root_.Go.OpenSpec.ofChange s with cond := some uptoSmall }

/-- 'laws.FnWords', WHERE WHAT IT READS IS OF BULK AT MOST 1048576: true; the input reads as it did. -/
def fnWordsUptoRow : OpenClaim := { program := "ytplljfbbipeakaadoor", sum := "08a50822c679e835639d82484ae5824f9c91ec3efea36e9259898858a8585ba8", func := "clausescan/laws.FnWords", spec := "fnWords", recurses := true, named := ["clausescan/pub/opatokens.keywords", "clausescan/pub/opatokens.strings"], apart := false, laid := [("clausescan/pub/opatokens.strings", laid_clausescan_pub_opatokens_strings), ("clausescan/pub/opatokens.keywords", laid_clausescan_pub_opatokens_keywords)], narrowed := true }
def FnWordsUptoSaid : Prop := fnWordsUptoRow.holds Tryd.pinned (OpenSpec.upto fnWordsSpec)

/-- 'laws.FnColumns', WHERE WHAT IT READS IS OF BULK AT MOST 1048576: true; the input reads as it did. -/
def fnColumnsUptoRow : OpenClaim := { program := "ytplljfbbipeakaadoor", sum := "08a50822c679e835639d82484ae5824f9c91ec3efea36e9259898858a8585ba8", func := "clausescan/laws.FnColumns", spec := "fnColumns", unfollowed := true, recurses := true, named := ["io.EOF", "clausescan/pub/opatokens.keywords", "unicode/utf8.first", "unicode/utf8.acceptRanges", "unicode.Digit"], apart := false, laid := [("unicode/utf8.acceptRanges", laid_unicode_utf8_acceptRanges), ("clausescan/pub/opatokens.keywords", laid_clausescan_pub_opatokens_keywords), ("io.EOF", laid_io_EOF), ("unicode.Digit", laid_unicode_Digit), ("unicode/utf8.first", laid_unicode_utf8_first)], narrowed := true }
def FnColumnsUptoSaid : Prop := fnColumnsUptoRow.holds Tryd.pinned (OpenSpec.upto fnColumnsSpec)

/-- 'laws.FnCut', WHERE WHAT IT READS IS OF BULK AT MOST 1048576: true; the input reads as it did. -/
def fnCutUptoRow : OpenClaim := { program := "ytplljfbbipeakaadoor", sum := "08a50822c679e835639d82484ae5824f9c91ec3efea36e9259898858a8585ba8", func := "clausescan/laws.FnCut", spec := "fnCut", unfollowed := true, recurses := true, named := ["io.EOF", "clausescan/pub/opatokens.keywords", "unicode/utf8.first", "unicode/utf8.acceptRanges", "unicode.Digit"], apart := false, laid := [("unicode/utf8.acceptRanges", laid_unicode_utf8_acceptRanges), ("clausescan/pub/opatokens.keywords", laid_clausescan_pub_opatokens_keywords), ("io.EOF", laid_io_EOF), ("unicode.Digit", laid_unicode_Digit), ("unicode/utf8.first", laid_unicode_utf8_first)], narrowed := true }
def FnCutUptoSaid : Prop := fnCutUptoRow.holds Tryd.pinned (OpenSpec.upto fnCutSpec)

/-- 'laws.FnJoined', WHERE WHAT IT READS IS OF BULK AT MOST 1048576: true; the input reads as it did. -/
def fnJoinedUptoRow : OpenClaim := { program := "ytplljfbbipeakaadoor", sum := "08a50822c679e835639d82484ae5824f9c91ec3efea36e9259898858a8585ba8", func := "clausescan/laws.FnJoined", spec := "fnJoined", unfollowed := true, recurses := true, named := ["io.EOF", "clausescan/pub/opatokens.keywords", "unicode/utf8.first", "unicode/utf8.acceptRanges", "unicode.Digit"], apart := false, laid := [("unicode/utf8.acceptRanges", laid_unicode_utf8_acceptRanges), ("clausescan/pub/opatokens.keywords", laid_clausescan_pub_opatokens_keywords), ("io.EOF", laid_io_EOF), ("unicode.Digit", laid_unicode_Digit), ("unicode/utf8.first", laid_unicode_utf8_first)], narrowed := true }
def FnJoinedUptoSaid : Prop := fnJoinedUptoRow.holds Tryd.pinned (OpenSpec.upto fnJoinedSpec)

/-- 'laws.FnScan', WHERE WHAT IT READS IS OF BULK AT MOST 1048576: true; the input reads as it did. -/
def fnScanUptoRow : OpenClaim := { program := "ytplljfbbipeakaadoor", sum := "08a50822c679e835639d82484ae5824f9c91ec3efea36e9259898858a8585ba8", func := "clausescan/laws.FnScan", spec := "fnScan", unfollowed := true, recurses := true, named := ["io.EOF", "clausescan/pub/opatokens.keywords", "unicode/utf8.first", "unicode/utf8.acceptRanges", "unicode.Digit"], apart := false, laid := [("unicode/utf8.acceptRanges", laid_unicode_utf8_acceptRanges), ("clausescan/pub/opatokens.keywords", laid_clausescan_pub_opatokens_keywords), ("io.EOF", laid_io_EOF), ("unicode.Digit", laid_unicode_Digit), ("unicode/utf8.first", laid_unicode_utf8_first)], narrowed := true }
def FnScanUptoSaid : Prop := fnScanUptoRow.holds Tryd.pinned (OpenSpec.upto fnScanSpec)

/-- 'laws.FnTexts', WHERE WHAT IT READS IS OF BULK AT MOST 1048576: true; the input reads as it did. -/
def fnTextsUptoRow : OpenClaim := { program := "ytplljfbbipeakaadoor", sum := "08a50822c679e835639d82484ae5824f9c91ec3efea36e9259898858a8585ba8", func := "clausescan/laws.FnTexts", spec := "fnTexts", unfollowed := true, recurses := true, named := ["io.EOF", "clausescan/pub/opatokens.keywords", "unicode/utf8.first", "unicode/utf8.acceptRanges", "unicode.Digit"], apart := false, laid := [("unicode/utf8.acceptRanges", laid_unicode_utf8_acceptRanges), ("clausescan/pub/opatokens.keywords", laid_clausescan_pub_opatokens_keywords), ("io.EOF", laid_io_EOF), ("unicode.Digit", laid_unicode_Digit), ("unicode/utf8.first", laid_unicode_utf8_first)], narrowed := true }
def FnTextsUptoSaid : Prop := fnTextsUptoRow.holds Tryd.pinned (OpenSpec.upto fnTextsSpec)

/-- 'laws.FnCover', WHERE WHAT IT READS IS OF BULK AT MOST 1048576: true; the input reads as it did. -/
def fnCoverUptoRow : OpenClaim := { program := "ytplljfbbipeakaadoor", sum := "08a50822c679e835639d82484ae5824f9c91ec3efea36e9259898858a8585ba8", func := "clausescan/laws.FnCover", spec := "fnCover", unfollowed := true, recurses := true, named := ["io.EOF", "clausescan/pub/opatokens.keywords", "unicode/utf8.first", "unicode/utf8.acceptRanges", "unicode.Digit"], apart := false, laid := [("unicode/utf8.acceptRanges", laid_unicode_utf8_acceptRanges), ("clausescan/pub/opatokens.keywords", laid_clausescan_pub_opatokens_keywords), ("io.EOF", laid_io_EOF), ("unicode.Digit", laid_unicode_Digit), ("unicode/utf8.first", laid_unicode_utf8_first)], narrowed := true }
def FnCoverUptoSaid : Prop := fnCoverUptoRow.holds Tryd.pinned (OpenSpec.upto fnCoverSpec)

/-- 'laws.FnKeyword', WHERE WHAT IT READS IS OF BULK AT MOST 1048576: true; the input reads as it did. -/
def fnKeywordUptoRow : OpenClaim := { program := "ytplljfbbipeakaadoor", sum := "08a50822c679e835639d82484ae5824f9c91ec3efea36e9259898858a8585ba8", func := "clausescan/laws.FnKeyword", spec := "fnKeyword", unfollowed := true, recurses := true, named := ["io.EOF", "clausescan/pub/opatokens.keywords", "unicode/utf8.first", "unicode/utf8.acceptRanges", "unicode.Digit"], apart := false, laid := [("unicode/utf8.acceptRanges", laid_unicode_utf8_acceptRanges), ("clausescan/pub/opatokens.keywords", laid_clausescan_pub_opatokens_keywords), ("io.EOF", laid_io_EOF), ("unicode.Digit", laid_unicode_Digit), ("unicode/utf8.first", laid_unicode_utf8_first)], narrowed := true }
def FnKeywordUptoSaid : Prop := fnKeywordUptoRow.holds Tryd.pinned (OpenSpec.upto fnKeywordSpec)

end Rows
end Go.Proofs.YtplljfbbipeakaaDoor
