/-
  NARROWER THAN 'FOR EVERY INPUT', by the rows' own cells (each row's printed sentence says how): FnEscapeRead: maps, laid · FnNameRead: maps, laid.
  DERIVED. THE GIVEN ROWS OF THIS SEAT. 2 by the template 'for every input the law returns true; each argument reads behind the call as it read before'; 0 by the template 'total and deterministic' (their statements: YtmggbhfdomlmcaaGreatFmtTotals.lean).
  GIVEN WITH THE SEED: the statements are not yours to turn. If you find one false, say at which input.
  Laid BY PROGRAM, IN A SANDBOX (cutbox-rows.mjs): the forced cells as the released guide's own fill.sh prints them over the translation fcb4d7a227c3e866… (all of the seat's roots in one cut). By AI agents, Wed Nov 11 2026. No macro, syntax, notation, axiom, sorry.
-/
import Derived.Test.YtmggbhfdomlmcaaGreatFmtChecked
import GoSem.PinnedTables
import GoSem.Claim
import GoSem.ClaimJoined
import GoSem.ClaimMapViews
import Derived.JoinedTies
import Derived.KernelRfl
namespace Go.Proofs.YtmggbhfdomlmcaaGreatFmt
/- THE CELL 'sum', in the pinned program and in every row, IS THE sha256 OF THE DUMP (.gsa) THAT YtmggbhfdomlmcaaGreatFmtProg.lean LOADS. Nothing in Lean hashes anything: it is a label: what it is worth is what the hold of that sum in a sandbox is worth. -/
noncomputable def Tryz.pinned : Pinned := { name := "ytmggbhfdomlmcaagreatfmt", sum := "fcb4d7a227c3e8660d662437f3c8bc1d8844a89a402d4eb33d2f04aba8873fe2", checked := Tryz.checked }
namespace Rows
def none {H : Type} : Left H := { results := [], args := [] }

/- WHAT THE LISTED PACKAGE-LEVEL VARIABLES READ AS WHEN THE CALL BEGINS. Each datum BY PROGRAM (the guide's laid-datum.mjs) off the statement by which the dump's own 'gosem.cut.vars' lays the variable. In a bare row this is a premise. The card (YtmggbhfdomlmcaaGreatFmtCards.lean) ties it to the program's text. -/
def laid_unicode_utf8_acceptRanges {H : Type} : DataW H := .agg [.agg [.lit (.int .u8 128), .lit (.int .u8 191)], .agg [.lit (.int .u8 160), .lit (.int .u8 191)], .agg [.lit (.int .u8 128), .lit (.int .u8 159)], .agg [.lit (.int .u8 144), .lit (.int .u8 191)], .agg [.lit (.int .u8 128), .lit (.int .u8 143)], .agg [.lit (.int .u8 0), .lit (.int .u8 0)], .agg [.lit (.int .u8 0), .lit (.int .u8 0)], .agg [.lit (.int .u8 0), .lit (.int .u8 0)], .agg [.lit (.int .u8 0), .lit (.int .u8 0)], .agg [.lit (.int .u8 0), .lit (.int .u8 0)], .agg [.lit (.int .u8 0), .lit (.int .u8 0)], .agg [.lit (.int .u8 0), .lit (.int .u8 0)], .agg [.lit (.int .u8 0), .lit (.int .u8 0)], .agg [.lit (.int .u8 0), .lit (.int .u8 0)], .agg [.lit (.int .u8 0), .lit (.int .u8 0)], .agg [.lit (.int .u8 0), .lit (.int .u8 0)]]
def laid_bytes_ErrTooLarge {H : Type} : DataW H := .iface "*errors.errorString" (.ptr (.agg [.lit (.string [98, 121, 116, 101, 115, 46, 66, 117, 102, 102, 101, 114, 58, 32, 116, 111, 111, 32, 108, 97, 114, 103, 101])]))
def laid_loop_example_pub_sourcetrees_pub_jsonnet_ast_BopMap {H : Type} : DataW H := .map [(.string [33, 61], .lit (.int .i64 13)), (.string [37], .lit (.int .i64 2)), (.string [38], .lit (.int .i64 14)), (.string [38, 38], .lit (.int .i64 17)), (.string [42], .lit (.int .i64 0)), (.string [43], .lit (.int .i64 3)), (.string [45], .lit (.int .i64 4)), (.string [47], .lit (.int .i64 1)), (.string [60], .lit (.int .i64 9)), (.string [60, 60], .lit (.int .i64 5)), (.string [60, 61], .lit (.int .i64 10)), (.string [61, 61], .lit (.int .i64 12)), (.string [62], .lit (.int .i64 7)), (.string [62, 61], .lit (.int .i64 8)), (.string [62, 62], .lit (.int .i64 6)), (.string [94], .lit (.int .i64 15)), (.string [105, 110], .lit (.int .i64 11)), (.string [124], .lit (.int .i64 16)), (.string [124, 124], .lit (.int .i64 18))]
def laid_loop_example_pub_sourcetrees_pub_jsonnet_ast_UopMap {H : Type} : DataW H := .map [(.string [33], .lit (.int .i64 0)), (.string [43], .lit (.int .i64 2)), (.string [45], .lit (.int .i64 3)), (.string [126], .lit (.int .i64 1))]
def laid_loop_example_pub_sourcetrees_pub_jsonnet_inner_ast_bopPrecedence {H : Type} : DataW H := .map [(.int .i64 0, .lit (.int .i64 5)), (.int .i64 1, .lit (.int .i64 5)), (.int .i64 2, .lit (.int .i64 5)), (.int .i64 3, .lit (.int .i64 6)), (.int .i64 4, .lit (.int .i64 6)), (.int .i64 5, .lit (.int .i64 7)), (.int .i64 6, .lit (.int .i64 7)), (.int .i64 7, .lit (.int .i64 8)), (.int .i64 8, .lit (.int .i64 8)), (.int .i64 9, .lit (.int .i64 8)), (.int .i64 10, .lit (.int .i64 8)), (.int .i64 11, .lit (.int .i64 8)), (.int .i64 12, .lit (.int .i64 9)), (.int .i64 13, .lit (.int .i64 9)), (.int .i64 14, .lit (.int .i64 10)), (.int .i64 15, .lit (.int .i64 11)), (.int .i64 16, .lit (.int .i64 12)), (.int .i64 17, .lit (.int .i64 13)), (.int .i64 18, .lit (.int .i64 14))]
def laid_encoding_hex_ErrLength {H : Type} : DataW H := .iface "*errors.errorString" (.ptr (.agg [.lit (.string [101, 110, 99, 111, 100, 105, 110, 103, 47, 104, 101, 120, 58, 32, 111, 100, 100, 32, 108, 101, 110, 103, 116, 104, 32, 104, 101, 120, 32, 115, 116, 114, 105, 110, 103])]))
/-- One of Go's own tables, pinned by name: the form's constant. -/
def laid_strconv_isGraphic : DataW Unit := Go.Pinned.isGraphic
/-- One of Go's own tables, pinned by name: the form's constant. -/
def laid_strconv_isNotPrint16 : DataW Unit := Go.Pinned.isNotPrint16
/-- One of Go's own tables, pinned by name: the form's constant. -/
def laid_strconv_isNotPrint32 : DataW Unit := Go.Pinned.isNotPrint32
/-- One of Go's own tables, pinned by name: the form's constant. -/
def laid_strconv_isPrint16 : DataW Unit := Go.Pinned.isPrint16
/-- One of Go's own tables, pinned by name: the form's constant. -/
def laid_strconv_isPrint32 : DataW Unit := Go.Pinned.isPrint32
/-- One of Go's own tables, pinned by name: the form's constant. -/
def laid_unicode_utf8_first : DataW Unit := Go.Pinned.utf8First

/-- 'laws.FnEscapeRead': WHATEVER THE INPUT: true; the input reads as it did. -/
def fnEscapeReadSpec : ChangeSpec := { name := "fnEscapeRead", vars := ["loop.example/pub-sourcetrees/pub/jsonnet/ast.UopMap", "loop.example/pub-sourcetrees/pub/jsonnet/ast.BopMap", "loop.example/pub-sourcetrees/pub/jsonnet/inner/ast.bopPrecedence"], fn := fun _ => fun
  | [d1, d2, g1, g2, g3] => { results := [.lit (.bool true)], args := [d1, d2], vars := [g1, g2, g3] }
  | _ => none }
def fnEscapeReadRow : OpenClaim := { program := "ytmggbhfdomlmcaagreatfmt", sum := "fcb4d7a227c3e8660d662437f3c8bc1d8844a89a402d4eb33d2f04aba8873fe2", func := "loop.example/pub-sourcetrees/laws.FnEscapeRead", spec := "fnEscapeRead", stops := ["fmt.Sprintf, its operands' methods called"], inPlace := ["fmt.Sprintf"], unfollowed := true, recurses := true, named := ["unicode/utf8.first", "unicode/utf8.acceptRanges", "bytes.ErrTooLarge", "strconv.isPrint16", "strconv.isNotPrint16", "strconv.isPrint32", "strconv.isNotPrint32", "strconv.isGraphic", "loop.example/pub-sourcetrees/pub/jsonnet/ast.UopMap", "loop.example/pub-sourcetrees/pub/jsonnet/ast.BopMap", "encoding/hex.ErrLength", "loop.example/pub-sourcetrees/pub/jsonnet/inner/ast.bopPrecedence"], maps := true, apart := false, laid := [("unicode/utf8.acceptRanges", laid_unicode_utf8_acceptRanges), ("bytes.ErrTooLarge", laid_bytes_ErrTooLarge), ("loop.example/pub-sourcetrees/pub/jsonnet/ast.BopMap", laid_loop_example_pub_sourcetrees_pub_jsonnet_ast_BopMap), ("loop.example/pub-sourcetrees/pub/jsonnet/ast.UopMap", laid_loop_example_pub_sourcetrees_pub_jsonnet_ast_UopMap), ("loop.example/pub-sourcetrees/pub/jsonnet/inner/ast.bopPrecedence", laid_loop_example_pub_sourcetrees_pub_jsonnet_inner_ast_bopPrecedence), ("encoding/hex.ErrLength", laid_encoding_hex_ErrLength), ("strconv.isGraphic", laid_strconv_isGraphic), ("strconv.isNotPrint16", laid_strconv_isNotPrint16), ("strconv.isNotPrint32", laid_strconv_isNotPrint32), ("strconv.isPrint16", laid_strconv_isPrint16), ("strconv.isPrint32", laid_strconv_isPrint32), ("unicode/utf8.first", laid_unicode_utf8_first)] }
/-- NO THEOREM (fmt's text is open here; it may be false): for the released tool's asking of the row's closed facts alone. THE STATEMENT IS 'FnEscapeReadToldSaid' (YtmggbhfdomlmcaaGreatFmtCards.lean). -/
def FnEscapeReadFormAsk : Prop := fnEscapeReadRow.holds Tryz.pinned (OpenSpec.ofChange fnEscapeReadSpec)

/-- ITS FALSE NEIGHBOUR: 'it returns false'. Refute it at one input. -/
def fnEscapeReadWrong : ChangeSpec := { name := "fnEscapeRead", vars := ["loop.example/pub-sourcetrees/pub/jsonnet/ast.UopMap", "loop.example/pub-sourcetrees/pub/jsonnet/ast.BopMap", "loop.example/pub-sourcetrees/pub/jsonnet/inner/ast.bopPrecedence"], fn := fun _ => fun
  | [d1, d2, g1, g2, g3] => { results := [.lit (.bool false)], args := [d1, d2], vars := [g1, g2, g3] }
  | _ => none }
def FnEscapeReadWrongFormAsk : Prop := fnEscapeReadRow.holds Tryz.pinned (OpenSpec.ofChange fnEscapeReadWrong)

/-- 'laws.FnNameRead': WHATEVER THE INPUT: true; the input reads as it did. -/
def fnNameReadSpec : ChangeSpec := { name := "fnNameRead", vars := ["loop.example/pub-sourcetrees/pub/jsonnet/ast.UopMap", "loop.example/pub-sourcetrees/pub/jsonnet/ast.BopMap", "loop.example/pub-sourcetrees/pub/jsonnet/inner/ast.bopPrecedence"], fn := fun _ => fun
  | [d, g1, g2, g3] => { results := [.lit (.bool true)], args := [d], vars := [g1, g2, g3] }
  | _ => none }
def fnNameReadRow : OpenClaim := { program := "ytmggbhfdomlmcaagreatfmt", sum := "fcb4d7a227c3e8660d662437f3c8bc1d8844a89a402d4eb33d2f04aba8873fe2", func := "loop.example/pub-sourcetrees/laws.FnNameRead", spec := "fnNameRead", stops := ["fmt.Sprintf, its operands' methods called"], inPlace := ["fmt.Sprintf"], unfollowed := true, recurses := true, named := ["bytes.ErrTooLarge", "unicode/utf8.first", "unicode/utf8.acceptRanges", "strconv.isPrint16", "strconv.isNotPrint16", "strconv.isPrint32", "strconv.isNotPrint32", "strconv.isGraphic", "loop.example/pub-sourcetrees/pub/jsonnet/ast.UopMap", "loop.example/pub-sourcetrees/pub/jsonnet/ast.BopMap", "encoding/hex.ErrLength", "loop.example/pub-sourcetrees/pub/jsonnet/inner/ast.bopPrecedence"], maps := true, apart := false, laid := [("unicode/utf8.acceptRanges", laid_unicode_utf8_acceptRanges), ("bytes.ErrTooLarge", laid_bytes_ErrTooLarge), ("loop.example/pub-sourcetrees/pub/jsonnet/ast.BopMap", laid_loop_example_pub_sourcetrees_pub_jsonnet_ast_BopMap), ("loop.example/pub-sourcetrees/pub/jsonnet/ast.UopMap", laid_loop_example_pub_sourcetrees_pub_jsonnet_ast_UopMap), ("loop.example/pub-sourcetrees/pub/jsonnet/inner/ast.bopPrecedence", laid_loop_example_pub_sourcetrees_pub_jsonnet_inner_ast_bopPrecedence), ("encoding/hex.ErrLength", laid_encoding_hex_ErrLength), ("strconv.isGraphic", laid_strconv_isGraphic), ("strconv.isNotPrint16", laid_strconv_isNotPrint16), ("strconv.isNotPrint32", laid_strconv_isNotPrint32), ("strconv.isPrint16", laid_strconv_isPrint16), ("strconv.isPrint32", laid_strconv_isPrint32), ("unicode/utf8.first", laid_unicode_utf8_first)] }
/-- NO THEOREM (fmt's text is open here; it may be false): for the released tool's asking of the row's closed facts alone. THE STATEMENT IS 'FnNameReadToldSaid' (YtmggbhfdomlmcaaGreatFmtCards.lean). -/
def FnNameReadFormAsk : Prop := fnNameReadRow.holds Tryz.pinned (OpenSpec.ofChange fnNameReadSpec)

/-- ITS FALSE NEIGHBOUR: 'it returns false'. Refute it at one input. -/
def fnNameReadWrong : ChangeSpec := { name := "fnNameRead", vars := ["loop.example/pub-sourcetrees/pub/jsonnet/ast.UopMap", "loop.example/pub-sourcetrees/pub/jsonnet/ast.BopMap", "loop.example/pub-sourcetrees/pub/jsonnet/inner/ast.bopPrecedence"], fn := fun _ => fun
  | [d, g1, g2, g3] => { results := [.lit (.bool false)], args := [d], vars := [g1, g2, g3] }
  | _ => none }
def FnNameReadWrongFormAsk : Prop := fnNameReadRow.holds Tryz.pinned (OpenSpec.ofChange fnNameReadWrong)

end Rows
end Go.Proofs.YtmggbhfdomlmcaaGreatFmt
