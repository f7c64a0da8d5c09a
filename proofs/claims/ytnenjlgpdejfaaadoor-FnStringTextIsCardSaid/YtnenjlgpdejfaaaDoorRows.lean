/-
  NARROWER THAN 'FOR EVERY INPUT', by the rows' own cells (each row's printed sentence says how): FnJavaHash: laid · FnPoints: laid · FnSplitSpaceBack: laid · FnPlaceBehind: laid · FnQuoteIs: laid · FnStringTextIs: laid.
  DERIVED. THE GIVEN ROWS OF THIS SEAT. 6 by the template 'for every input the law returns true; each argument reads behind the call as it read before'; 0 by the template 'total and deterministic' (their statements: YtnenjlgpdejfaaaDoorTotals.lean).
  GIVEN WITH THE SEED: the statements are not yours to turn. If you find one false, say at which input.
  Laid BY PROGRAM, IN A SANDBOX (cutbox-rows.mjs): the forced cells as the released guide's own fill.sh prints them over the translation e8b53c829224d50e… (all of the seat's roots in one cut). By AI agents, Wed Nov 11 2026. No macro, syntax, notation, axiom, sorry.
-/
import Derived.Test.YtnenjlgpdejfaaaDoorChecked
import GoSem.PinnedTables
import GoSem.Claim
import GoSem.ClaimJoined
import GoSem.ClaimMapViews
import Derived.JoinedTies
import Derived.KernelRfl
namespace Go.Proofs.YtnenjlgpdejfaaaDoor
/- THE CELL 'sum', in the pinned program and in every row, IS THE sha256 OF THE DUMP (.gsa) THAT YtnenjlgpdejfaaaDoorProg.lean LOADS. Nothing in Lean hashes anything: it is a label: what it is worth is what the hold of that sum in a sandbox is worth. -/
noncomputable def Tryd.pinned : Pinned := { name := "ytnenjlgpdejfaaadoor", sum := "e8b53c829224d50e202a52ab27d6ab5277cf0dd15cb82dc1760bb41ce131ecc5", checked := Tryd.checked }
namespace Rows
def none {H : Type} : Left H := { results := [], args := [] }

/- WHAT THE LISTED PACKAGE-LEVEL VARIABLES READ AS WHEN THE CALL BEGINS. Each datum BY PROGRAM (the guide's laid-datum.mjs) off the statement by which the dump's own 'gosem.cut.vars' lays the variable. In a bare row this is a premise. The card (YtnenjlgpdejfaaaDoorCards.lean) ties it to the program's text. -/
def laid_unicode_utf8_acceptRanges {H : Type} : DataW H := .agg [.agg [.lit (.int .u8 128), .lit (.int .u8 191)], .agg [.lit (.int .u8 160), .lit (.int .u8 191)], .agg [.lit (.int .u8 128), .lit (.int .u8 159)], .agg [.lit (.int .u8 144), .lit (.int .u8 191)], .agg [.lit (.int .u8 128), .lit (.int .u8 143)], .agg [.lit (.int .u8 0), .lit (.int .u8 0)], .agg [.lit (.int .u8 0), .lit (.int .u8 0)], .agg [.lit (.int .u8 0), .lit (.int .u8 0)], .agg [.lit (.int .u8 0), .lit (.int .u8 0)], .agg [.lit (.int .u8 0), .lit (.int .u8 0)], .agg [.lit (.int .u8 0), .lit (.int .u8 0)], .agg [.lit (.int .u8 0), .lit (.int .u8 0)], .agg [.lit (.int .u8 0), .lit (.int .u8 0)], .agg [.lit (.int .u8 0), .lit (.int .u8 0)], .agg [.lit (.int .u8 0), .lit (.int .u8 0)], .agg [.lit (.int .u8 0), .lit (.int .u8 0)]]
/-- One of Go's own tables, pinned by name: the form's constant. -/
def laid_unicode_utf8_first : DataW Unit := Go.Pinned.utf8First
/-- One of Go's own tables, pinned by name: the form's constant. -/
def laid_strconv_isNotPrint16 : DataW Unit := Go.Pinned.isNotPrint16
/-- One of Go's own tables, pinned by name: the form's constant. -/
def laid_strconv_isNotPrint32 : DataW Unit := Go.Pinned.isNotPrint32
/-- One of Go's own tables, pinned by name: the form's constant. -/
def laid_strconv_isPrint16 : DataW Unit := Go.Pinned.isPrint16
/-- One of Go's own tables, pinned by name: the form's constant. -/
def laid_strconv_isPrint32 : DataW Unit := Go.Pinned.isPrint32

/-- 'laws.FnJavaHash': WHATEVER THE INPUT: true; the input reads as it did. -/
def fnJavaHashSpec : ChangeSpec := { name := "fnJavaHash", fn := fun _ => fun
  | [d] => { results := [.lit (.bool true)], args := [d] }
  | _ => none }
def fnJavaHashRow : OpenClaim := { program := "ytnenjlgpdejfaaadoor", sum := "e8b53c829224d50e202a52ab27d6ab5277cf0dd15cb82dc1760bb41ce131ecc5", func := "given.example/pub-larkspur/laws.FnJavaHash", spec := "fnJavaHash", named := ["unicode/utf8.first", "unicode/utf8.acceptRanges"], apart := false, laid := [("unicode/utf8.acceptRanges", laid_unicode_utf8_acceptRanges), ("unicode/utf8.first", laid_unicode_utf8_first)] }
def FnJavaHashSaid : Prop := fnJavaHashRow.holds Tryd.pinned (OpenSpec.ofChange fnJavaHashSpec)

/-- ITS FALSE NEIGHBOUR: 'it returns false'. Refute it at one input. -/
def fnJavaHashWrong : ChangeSpec := { name := "fnJavaHash", fn := fun _ => fun
  | [d] => { results := [.lit (.bool false)], args := [d] }
  | _ => none }
def FnJavaHashWrongFalsely : Prop := fnJavaHashRow.holds Tryd.pinned (OpenSpec.ofChange fnJavaHashWrong)

/-- 'laws.FnPoints': WHATEVER THE INPUT: true; the input reads as it did. -/
def fnPointsSpec : ChangeSpec := { name := "fnPoints", fn := fun _ => fun
  | [d] => { results := [.lit (.bool true)], args := [d] }
  | _ => none }
def fnPointsRow : OpenClaim := { program := "ytnenjlgpdejfaaadoor", sum := "e8b53c829224d50e202a52ab27d6ab5277cf0dd15cb82dc1760bb41ce131ecc5", func := "given.example/pub-larkspur/laws.FnPoints", spec := "fnPoints", named := ["unicode/utf8.first", "unicode/utf8.acceptRanges"], apart := false, laid := [("unicode/utf8.acceptRanges", laid_unicode_utf8_acceptRanges), ("unicode/utf8.first", laid_unicode_utf8_first)] }
def FnPointsSaid : Prop := fnPointsRow.holds Tryd.pinned (OpenSpec.ofChange fnPointsSpec)

/-- ITS FALSE NEIGHBOUR: 'it returns false'. Refute it at one input. -/
def fnPointsWrong : ChangeSpec := { name := "fnPoints", fn := fun _ => fun
  | [d] => { results := [.lit (.bool false)], args := [d] }
  | _ => none }
def FnPointsWrongFalsely : Prop := fnPointsRow.holds Tryd.pinned (OpenSpec.ofChange fnPointsWrong)

/-- 'laws.FnSplitSpaceBack': WHATEVER THE INPUT: true; the input reads as it did. -/
def fnSplitSpaceBackSpec : ChangeSpec := { name := "fnSplitSpaceBack", fn := fun _ => fun
  | [d1, d2] => { results := [.lit (.bool true)], args := [d1, d2] }
  | _ => none }
def fnSplitSpaceBackRow : OpenClaim := { program := "ytnenjlgpdejfaaadoor", sum := "e8b53c829224d50e202a52ab27d6ab5277cf0dd15cb82dc1760bb41ce131ecc5", func := "given.example/pub-larkspur/laws.FnSplitSpaceBack", spec := "fnSplitSpaceBack", named := ["unicode/utf8.first", "unicode/utf8.acceptRanges"], apart := false, laid := [("unicode/utf8.acceptRanges", laid_unicode_utf8_acceptRanges), ("unicode/utf8.first", laid_unicode_utf8_first)] }
def FnSplitSpaceBackSaid : Prop := fnSplitSpaceBackRow.holds Tryd.pinned (OpenSpec.ofChange fnSplitSpaceBackSpec)

/-- ITS FALSE NEIGHBOUR: 'it returns false'. Refute it at one input. -/
def fnSplitSpaceBackWrong : ChangeSpec := { name := "fnSplitSpaceBack", fn := fun _ => fun
  | [d1, d2] => { results := [.lit (.bool false)], args := [d1, d2] }
  | _ => none }
def FnSplitSpaceBackWrongFalsely : Prop := fnSplitSpaceBackRow.holds Tryd.pinned (OpenSpec.ofChange fnSplitSpaceBackWrong)

/-- 'laws.FnPlaceBehind': WHATEVER THE INPUT: true; the input reads as it did. -/
def fnPlaceBehindSpec : ChangeSpec := { name := "fnPlaceBehind", fn := fun _ => fun
  | [d1, d2, d3] => { results := [.lit (.bool true)], args := [d1, d2, d3] }
  | _ => none }
def fnPlaceBehindRow : OpenClaim := { program := "ytnenjlgpdejfaaadoor", sum := "e8b53c829224d50e202a52ab27d6ab5277cf0dd15cb82dc1760bb41ce131ecc5", func := "given.example/pub-larkspur/laws.FnPlaceBehind", spec := "fnPlaceBehind", named := ["unicode/utf8.first", "unicode/utf8.acceptRanges"], apart := false, laid := [("unicode/utf8.acceptRanges", laid_unicode_utf8_acceptRanges), ("unicode/utf8.first", laid_unicode_utf8_first)] }
def FnPlaceBehindSaid : Prop := fnPlaceBehindRow.holds Tryd.pinned (OpenSpec.ofChange fnPlaceBehindSpec)

/-- ITS FALSE NEIGHBOUR: 'it returns false'. Refute it at one input. -/
def fnPlaceBehindWrong : ChangeSpec := { name := "fnPlaceBehind", fn := fun _ => fun
  | [d1, d2, d3] => { results := [.lit (.bool false)], args := [d1, d2, d3] }
  | _ => none }
def FnPlaceBehindWrongFalsely : Prop := fnPlaceBehindRow.holds Tryd.pinned (OpenSpec.ofChange fnPlaceBehindWrong)

/-- 'laws.FnQuoteIs': WHATEVER THE INPUT: true; the input reads as it did. -/
def fnQuoteIsSpec : ChangeSpec := { name := "fnQuoteIs", fn := fun _ => fun
  | [d] => { results := [.lit (.bool true)], args := [d] }
  | _ => none }
def fnQuoteIsRow : OpenClaim := { program := "ytnenjlgpdejfaaadoor", sum := "e8b53c829224d50e202a52ab27d6ab5277cf0dd15cb82dc1760bb41ce131ecc5", func := "given.example/pub-larkspur/laws.FnQuoteIs", spec := "fnQuoteIs", named := ["unicode/utf8.first", "unicode/utf8.acceptRanges", "strconv.isPrint16", "strconv.isNotPrint16", "strconv.isPrint32", "strconv.isNotPrint32"], apart := false, laid := [("unicode/utf8.acceptRanges", laid_unicode_utf8_acceptRanges), ("strconv.isNotPrint16", laid_strconv_isNotPrint16), ("strconv.isNotPrint32", laid_strconv_isNotPrint32), ("strconv.isPrint16", laid_strconv_isPrint16), ("strconv.isPrint32", laid_strconv_isPrint32), ("unicode/utf8.first", laid_unicode_utf8_first)] }
def FnQuoteIsSaid : Prop := fnQuoteIsRow.holds Tryd.pinned (OpenSpec.ofChange fnQuoteIsSpec)

/-- ITS FALSE NEIGHBOUR: 'it returns false'. Refute it at one input. -/
def fnQuoteIsWrong : ChangeSpec := { name := "fnQuoteIs", fn := fun _ => fun
  | [d] => { results := [.lit (.bool false)], args := [d] }
  | _ => none }
def FnQuoteIsWrongFalsely : Prop := fnQuoteIsRow.holds Tryd.pinned (OpenSpec.ofChange fnQuoteIsWrong)

/-- 'laws.FnStringTextIs': WHATEVER THE INPUT: true; the input reads as it did. -/
def fnStringTextIsSpec : ChangeSpec := { name := "fnStringTextIs", fn := fun _ => fun
  | [d] => { results := [.lit (.bool true)], args := [d] }
  | _ => none }
def fnStringTextIsRow : OpenClaim := { program := "ytnenjlgpdejfaaadoor", sum := "e8b53c829224d50e202a52ab27d6ab5277cf0dd15cb82dc1760bb41ce131ecc5", func := "given.example/pub-larkspur/laws.FnStringTextIs", spec := "fnStringTextIs", named := ["unicode/utf8.first", "unicode/utf8.acceptRanges", "strconv.isPrint16", "strconv.isNotPrint16", "strconv.isPrint32", "strconv.isNotPrint32"], apart := false, laid := [("unicode/utf8.acceptRanges", laid_unicode_utf8_acceptRanges), ("strconv.isNotPrint16", laid_strconv_isNotPrint16), ("strconv.isNotPrint32", laid_strconv_isNotPrint32), ("strconv.isPrint16", laid_strconv_isPrint16), ("strconv.isPrint32", laid_strconv_isPrint32), ("unicode/utf8.first", laid_unicode_utf8_first)] }
def FnStringTextIsSaid : Prop := fnStringTextIsRow.holds Tryd.pinned (OpenSpec.ofChange fnStringTextIsSpec)

/-- ITS FALSE NEIGHBOUR: 'it returns false'. Refute it at one input. -/
def fnStringTextIsWrong : ChangeSpec := { name := "fnStringTextIs", fn := fun _ => fun
  | [d] => { results := [.lit (.bool false)], args := [d] }
  | _ => none }
def FnStringTextIsWrongFalsely : Prop := fnStringTextIsRow.holds Tryd.pinned (OpenSpec.ofChange fnStringTextIsWrong)

/- THE SECOND FORM. 'bulk': how many values and letters a reading holds, each counted each time it is reached (what is shared counts as often as it is met; a slice's spare places count too). A statement '..UptoSaid' is the law's where the arguments, and the package variables that the reading takes, are together of bulk at most 1048576: NARROWER than '..Said'. Prove '..Said' where nothing that the law and all that it calls make is longer than what came in: it says more and counts as full. Else prove '..UptoSaid'. A law counts once. -/
mutual
def uptoBulk {H : Type} : DataW H → Nat
  | .lit (.string bytes) => bytes.length + 1
  | .lit _ => 1
  | .nil => 1
  | .ptr d => uptoBulk d + 1
  | .slice elems spare => uptoBulkAll elems + uptoBulkAll spare + 1
  | .agg parts => uptoBulkAll parts + 1
  | .iface _ d => uptoBulk d + 1
  | .map entries => uptoBulkEntries entries + 1
  | .held _ => 1
def uptoBulkAll {H : Type} : List (DataW H) → Nat
  | [] => 0
  | d :: r => uptoBulk d + uptoBulkAll r
def uptoBulkEntries {H : Type} : List (Lit × DataW H) → Nat
  | [] => 0
  | x :: r => uptoBulkEntry x + uptoBulkEntries r
def uptoBulkEntry {H : Type} : Lit × DataW H → Nat
  | (.string bytes, d) => bytes.length + uptoBulk d + 1
  | (_, d) => uptoBulk d + 1
 end
def uptoSmall : (H : Type) → List (DataW H) → Bool := fun _ ds => decide (uptoBulkAll ds ≤ 1048576)
def OpenSpec.upto (s : _root_.Go.ChangeSpec) : _root_.Go.OpenSpec := { _root_.Go.OpenSpec.ofChange s with cond := some uptoSmall }

/-- 'laws.FnJavaHash', WHERE WHAT IT READS IS OF BULK AT MOST 1048576: true; the input reads as it did. -/
def fnJavaHashUptoRow : OpenClaim := { program := "ytnenjlgpdejfaaadoor", sum := "e8b53c829224d50e202a52ab27d6ab5277cf0dd15cb82dc1760bb41ce131ecc5", func := "given.example/pub-larkspur/laws.FnJavaHash", spec := "fnJavaHash", named := ["unicode/utf8.first", "unicode/utf8.acceptRanges"], apart := false, laid := [("unicode/utf8.acceptRanges", laid_unicode_utf8_acceptRanges), ("unicode/utf8.first", laid_unicode_utf8_first)], narrowed := true }
def FnJavaHashUptoSaid : Prop := fnJavaHashUptoRow.holds Tryd.pinned (OpenSpec.upto fnJavaHashSpec)

/-- 'laws.FnPoints', WHERE WHAT IT READS IS OF BULK AT MOST 1048576: true; the input reads as it did. -/
def fnPointsUptoRow : OpenClaim := { program := "ytnenjlgpdejfaaadoor", sum := "e8b53c829224d50e202a52ab27d6ab5277cf0dd15cb82dc1760bb41ce131ecc5", func := "given.example/pub-larkspur/laws.FnPoints", spec := "fnPoints", named := ["unicode/utf8.first", "unicode/utf8.acceptRanges"], apart := false, laid := [("unicode/utf8.acceptRanges", laid_unicode_utf8_acceptRanges), ("unicode/utf8.first", laid_unicode_utf8_first)], narrowed := true }
def FnPointsUptoSaid : Prop := fnPointsUptoRow.holds Tryd.pinned (OpenSpec.upto fnPointsSpec)

/-- 'laws.FnSplitSpaceBack', WHERE WHAT IT READS IS OF BULK AT MOST 1048576: true; the input reads as it did. -/
def fnSplitSpaceBackUptoRow : OpenClaim := { program := "ytnenjlgpdejfaaadoor", sum := "e8b53c829224d50e202a52ab27d6ab5277cf0dd15cb82dc1760bb41ce131ecc5", func := "given.example/pub-larkspur/laws.FnSplitSpaceBack", spec := "fnSplitSpaceBack", named := ["unicode/utf8.first", "unicode/utf8.acceptRanges"], apart := false, laid := [("unicode/utf8.acceptRanges", laid_unicode_utf8_acceptRanges), ("unicode/utf8.first", laid_unicode_utf8_first)], narrowed := true }
def FnSplitSpaceBackUptoSaid : Prop := fnSplitSpaceBackUptoRow.holds Tryd.pinned (OpenSpec.upto fnSplitSpaceBackSpec)

/-- 'laws.FnPlaceBehind', WHERE WHAT IT READS IS OF BULK AT MOST 1048576: true; the input reads as it did. -/
def fnPlaceBehindUptoRow : OpenClaim := { program := "ytnenjlgpdejfaaadoor", sum := "e8b53c829224d50e202a52ab27d6ab5277cf0dd15cb82dc1760bb41ce131ecc5", func := "given.example/pub-larkspur/laws.FnPlaceBehind", spec := "fnPlaceBehind", named := ["unicode/utf8.first", "unicode/utf8.acceptRanges"], apart := false, laid := [("unicode/utf8.acceptRanges", laid_unicode_utf8_acceptRanges), ("unicode/utf8.first", laid_unicode_utf8_first)], narrowed := true }
def FnPlaceBehindUptoSaid : Prop := fnPlaceBehindUptoRow.holds Tryd.pinned (OpenSpec.upto fnPlaceBehindSpec)

/-- 'laws.FnQuoteIs', WHERE WHAT IT READS IS OF BULK AT MOST 1048576: true; the input reads as it did. -/
def fnQuoteIsUptoRow : OpenClaim := { program := "ytnenjlgpdejfaaadoor", sum := "e8b53c829224d50e202a52ab27d6ab5277cf0dd15cb82dc1760bb41ce131ecc5", func := "given.example/pub-larkspur/laws.FnQuoteIs", spec := "fnQuoteIs", named := ["unicode/utf8.first", "unicode/utf8.acceptRanges", "strconv.isPrint16", "strconv.isNotPrint16", "strconv.isPrint32", "strconv.isNotPrint32"], apart := false, laid := [("unicode/utf8.acceptRanges", laid_unicode_utf8_acceptRanges), ("strconv.isNotPrint16", laid_strconv_isNotPrint16), ("strconv.isNotPrint32", laid_strconv_isNotPrint32), ("strconv.isPrint16", laid_strconv_isPrint16), ("strconv.isPrint32", laid_strconv_isPrint32), ("unicode/utf8.first", laid_unicode_utf8_first)], narrowed := true }
def FnQuoteIsUptoSaid : Prop := fnQuoteIsUptoRow.holds Tryd.pinned (OpenSpec.upto fnQuoteIsSpec)

/-- 'laws.FnStringTextIs', WHERE WHAT IT READS IS OF BULK AT MOST 1048576: true; the input reads as it did. -/
def fnStringTextIsUptoRow : OpenClaim := { program := "ytnenjlgpdejfaaadoor", sum := "e8b53c829224d50e202a52ab27d6ab5277cf0dd15cb82dc1760bb41ce131ecc5", func := "given.example/pub-larkspur/laws.FnStringTextIs", spec := "fnStringTextIs", named := ["unicode/utf8.first", "unicode/utf8.acceptRanges", "strconv.isPrint16", "strconv.isNotPrint16", "strconv.isPrint32", "strconv.isNotPrint32"], apart := false, laid := [("unicode/utf8.acceptRanges", laid_unicode_utf8_acceptRanges), ("strconv.isNotPrint16", laid_strconv_isNotPrint16), ("strconv.isNotPrint32", laid_strconv_isNotPrint32), ("strconv.isPrint16", laid_strconv_isPrint16), ("strconv.isPrint32", laid_strconv_isPrint32), ("unicode/utf8.first", laid_unicode_utf8_first)], narrowed := true }
def FnStringTextIsUptoSaid : Prop := fnStringTextIsUptoRow.holds Tryd.pinned (OpenSpec.upto fnStringTextIsSpec)

end Rows
end Go.Proofs.YtnenjlgpdejfaaaDoor
