/-
  NARROWER THAN 'FOR EVERY INPUT', by the rows' own cells (each row's printed sentence says how): FnIntDiv: laid · FnFloatHash: laid · FnFloatWhole: laid.
  DERIVED. THE GIVEN ROWS OF THIS SEAT. 3 by the template 'for every input the law returns true; each argument reads behind the call as it read before'; 0 by the template 'total and deterministic' (their statements: YtpjkfdgkkpkljaaGreatDoorTotals.lean).
  GIVEN WITH THE SEED: the statements are not yours to turn. If you find one false, say at which input.
  Laid BY PROGRAM, IN A SANDBOX (cutbox-rows.mjs): the forced cells as the released guide's own fill.sh prints them over the translation ffb135be0c9dd4bc… (all of the seat's roots in one cut). By AI agents, Wed Nov 11 2026. No macro, syntax, notation, axiom, sorry.
-/
import Derived.Test.YtpjkfdgkkpkljaaGreatDoorChecked
import GoSem.Claim
import GoSem.ClaimJoined
import GoSem.ClaimMapViews
import Derived.JoinedTies
import Derived.KernelRfl
namespace Go.Proofs.YtpjkfdgkkpkljaaGreatDoor
/- THE CELL 'sum', in the pinned program and in every row, IS THE sha256 OF THE DUMP (.gsa) THAT YtpjkfdgkkpkljaaGreatDoorProg.lean LOADS. Nothing in Lean hashes anything: it is a label: what it is worth is what the hold of that sum in a sandbox is worth. -/
noncomputable def Tryz.pinned : Pinned := { name := "ytpjkfdgkkpkljaagreatdoor", sum := "ffb135be0c9dd4bc79ee69380db4a68321ece1ce982a6734de04a356c6917cea", checked := Tryz.checked }
namespace Rows
def none {H : Type} : Left H := { results := [], args := [] }

/- WHAT THE LISTED PACKAGE-LEVEL VARIABLES READ AS WHEN THE CALL BEGINS. Each datum BY PROGRAM (the guide's laid-datum.mjs) off the statement by which the dump's own 'gosem.cut.vars' lays the variable. In a bare row this is a premise. The card (YtpjkfdgkkpkljaaGreatDoorCards.lean) ties it to the program's text. -/
def laid_given_example_pub_larkspur_pub_bigall_divRecursiveThreshold {H : Type} : DataW H := .lit (.int .i64 40)
def laid_given_example_pub_larkspur_pub_bigall_karatsubaThreshold {H : Type} : DataW H := .lit (.int .i64 40)
def laid_given_example_pub_larkspur_pub_bigall_basicSqrThreshold {H : Type} : DataW H := .lit (.int .i64 12)
def laid_given_example_pub_larkspur_pub_bigall_karatsubaSqrThreshold {H : Type} : DataW H := .lit (.int .i64 80)

/-- 'laws.FnIntDiv': WHATEVER THE INPUT: true; the input reads as it did. -/
def fnIntDivSpec : ChangeSpec := { name := "fnIntDiv", vars := ["given.example/pub-larkspur/pub/bigall.divRecursiveThreshold", "given.example/pub-larkspur/pub/bigall.karatsubaThreshold", "given.example/pub-larkspur/pub/bigall.basicSqrThreshold", "given.example/pub-larkspur/pub/bigall.karatsubaSqrThreshold"], fn := fun _ => fun
  | [d1, d2, d3, d4, g1, g2, g3, g4] => { results := [.lit (.bool true)], args := [d1, d2, d3, d4], vars := [g1, g2, g3, g4] }
  | _ => none }
def fnIntDivRow : OpenClaim := { program := "ytpjkfdgkkpkljaagreatdoor", sum := "ffb135be0c9dd4bc79ee69380db4a68321ece1ce982a6734de04a356c6917cea", func := "given.example/pub-larkspur/laws.FnIntDiv", spec := "fnIntDiv", inPlace := ["math/bits.Add64", "math/bits.Sub64"], recurses := true, named := ["given.example/pub-larkspur/pub/bigall.divRecursiveThreshold", "given.example/pub-larkspur/pub/bigall.karatsubaThreshold", "given.example/pub-larkspur/pub/bigall.basicSqrThreshold", "given.example/pub-larkspur/pub/bigall.karatsubaSqrThreshold"], apart := false, laid := [("given.example/pub-larkspur/pub/bigall.divRecursiveThreshold", laid_given_example_pub_larkspur_pub_bigall_divRecursiveThreshold), ("given.example/pub-larkspur/pub/bigall.karatsubaThreshold", laid_given_example_pub_larkspur_pub_bigall_karatsubaThreshold), ("given.example/pub-larkspur/pub/bigall.basicSqrThreshold", laid_given_example_pub_larkspur_pub_bigall_basicSqrThreshold), ("given.example/pub-larkspur/pub/bigall.karatsubaSqrThreshold", laid_given_example_pub_larkspur_pub_bigall_karatsubaSqrThreshold)] }
def FnIntDivSaid : Prop := fnIntDivRow.holds Tryz.pinned (OpenSpec.ofChange fnIntDivSpec)

/-- ITS FALSE NEIGHBOUR: 'it returns false'. Refute it at one input. -/
def fnIntDivWrong : ChangeSpec := { name := "fnIntDiv", vars := ["given.example/pub-larkspur/pub/bigall.divRecursiveThreshold", "given.example/pub-larkspur/pub/bigall.karatsubaThreshold", "given.example/pub-larkspur/pub/bigall.basicSqrThreshold", "given.example/pub-larkspur/pub/bigall.karatsubaSqrThreshold"], fn := fun _ => fun
  | [d1, d2, d3, d4, g1, g2, g3, g4] => { results := [.lit (.bool false)], args := [d1, d2, d3, d4], vars := [g1, g2, g3, g4] }
  | _ => none }
def FnIntDivWrongFalsely : Prop := fnIntDivRow.holds Tryz.pinned (OpenSpec.ofChange fnIntDivWrong)

/-- 'laws.FnFloatHash': WHATEVER THE INPUT: true; the input reads as it did. -/
def fnFloatHashSpec : ChangeSpec := { name := "fnFloatHash", vars := ["given.example/pub-larkspur/pub/bigall.divRecursiveThreshold", "given.example/pub-larkspur/pub/bigall.karatsubaThreshold", "given.example/pub-larkspur/pub/bigall.basicSqrThreshold", "given.example/pub-larkspur/pub/bigall.karatsubaSqrThreshold"], fn := fun _ => fun
  | [d1, d2, g1, g2, g3, g4] => { results := [.lit (.bool true)], args := [d1, d2], vars := [g1, g2, g3, g4] }
  | _ => none }
def fnFloatHashRow : OpenClaim := { program := "ytpjkfdgkkpkljaagreatdoor", sum := "ffb135be0c9dd4bc79ee69380db4a68321ece1ce982a6734de04a356c6917cea", func := "given.example/pub-larkspur/laws.FnFloatHash", spec := "fnFloatHash", inPlace := ["math.Float64frombits", "math.Float64bits", "math/bits.Add64", "math/bits.Sub64"], recurses := true, named := ["given.example/pub-larkspur/pub/bigall.divRecursiveThreshold", "given.example/pub-larkspur/pub/bigall.karatsubaThreshold", "given.example/pub-larkspur/pub/bigall.basicSqrThreshold", "given.example/pub-larkspur/pub/bigall.karatsubaSqrThreshold"], apart := false, laid := [("given.example/pub-larkspur/pub/bigall.divRecursiveThreshold", laid_given_example_pub_larkspur_pub_bigall_divRecursiveThreshold), ("given.example/pub-larkspur/pub/bigall.karatsubaThreshold", laid_given_example_pub_larkspur_pub_bigall_karatsubaThreshold), ("given.example/pub-larkspur/pub/bigall.basicSqrThreshold", laid_given_example_pub_larkspur_pub_bigall_basicSqrThreshold), ("given.example/pub-larkspur/pub/bigall.karatsubaSqrThreshold", laid_given_example_pub_larkspur_pub_bigall_karatsubaSqrThreshold)] }
def FnFloatHashSaid : Prop := fnFloatHashRow.holds Tryz.pinned (OpenSpec.ofChange fnFloatHashSpec)

/-- ITS FALSE NEIGHBOUR: 'it returns false'. Refute it at one input. -/
def fnFloatHashWrong : ChangeSpec := { name := "fnFloatHash", vars := ["given.example/pub-larkspur/pub/bigall.divRecursiveThreshold", "given.example/pub-larkspur/pub/bigall.karatsubaThreshold", "given.example/pub-larkspur/pub/bigall.basicSqrThreshold", "given.example/pub-larkspur/pub/bigall.karatsubaSqrThreshold"], fn := fun _ => fun
  | [d1, d2, g1, g2, g3, g4] => { results := [.lit (.bool false)], args := [d1, d2], vars := [g1, g2, g3, g4] }
  | _ => none }
def FnFloatHashWrongFalsely : Prop := fnFloatHashRow.holds Tryz.pinned (OpenSpec.ofChange fnFloatHashWrong)

/-- 'laws.FnFloatWhole': WHATEVER THE INPUT: true; the input reads as it did. -/
def fnFloatWholeSpec : ChangeSpec := { name := "fnFloatWhole", vars := ["given.example/pub-larkspur/pub/bigall.divRecursiveThreshold", "given.example/pub-larkspur/pub/bigall.karatsubaThreshold", "given.example/pub-larkspur/pub/bigall.basicSqrThreshold", "given.example/pub-larkspur/pub/bigall.karatsubaSqrThreshold"], fn := fun _ => fun
  | [d, g1, g2, g3, g4] => { results := [.lit (.bool true)], args := [d], vars := [g1, g2, g3, g4] }
  | _ => none }
def fnFloatWholeRow : OpenClaim := { program := "ytpjkfdgkkpkljaagreatdoor", sum := "ffb135be0c9dd4bc79ee69380db4a68321ece1ce982a6734de04a356c6917cea", func := "given.example/pub-larkspur/laws.FnFloatWhole", spec := "fnFloatWhole", inPlace := ["math.Float64frombits", "math.Float64bits", "math/bits.Add64", "math/bits.Sub64"], recurses := true, named := ["given.example/pub-larkspur/pub/bigall.divRecursiveThreshold", "given.example/pub-larkspur/pub/bigall.karatsubaThreshold", "given.example/pub-larkspur/pub/bigall.basicSqrThreshold", "given.example/pub-larkspur/pub/bigall.karatsubaSqrThreshold"], apart := false, laid := [("given.example/pub-larkspur/pub/bigall.divRecursiveThreshold", laid_given_example_pub_larkspur_pub_bigall_divRecursiveThreshold), ("given.example/pub-larkspur/pub/bigall.karatsubaThreshold", laid_given_example_pub_larkspur_pub_bigall_karatsubaThreshold), ("given.example/pub-larkspur/pub/bigall.basicSqrThreshold", laid_given_example_pub_larkspur_pub_bigall_basicSqrThreshold), ("given.example/pub-larkspur/pub/bigall.karatsubaSqrThreshold", laid_given_example_pub_larkspur_pub_bigall_karatsubaSqrThreshold)] }
def FnFloatWholeSaid : Prop := fnFloatWholeRow.holds Tryz.pinned (OpenSpec.ofChange fnFloatWholeSpec)

/-- ITS FALSE NEIGHBOUR: 'it returns false'. Refute it at one input. -/
def fnFloatWholeWrong : ChangeSpec := { name := "fnFloatWhole", vars := ["given.example/pub-larkspur/pub/bigall.divRecursiveThreshold", "given.example/pub-larkspur/pub/bigall.karatsubaThreshold", "given.example/pub-larkspur/pub/bigall.basicSqrThreshold", "given.example/pub-larkspur/pub/bigall.karatsubaSqrThreshold"], fn := fun _ => fun
  | [d, g1, g2, g3, g4] => { results := [.lit (.bool false)], args := [d], vars := [g1, g2, g3, g4] }
  | _ => none }
def FnFloatWholeWrongFalsely : Prop := fnFloatWholeRow.holds Tryz.pinned (OpenSpec.ofChange fnFloatWholeWrong)

/- THE SECOND FORM. 'bulk': how many values and letters a reading holds, each counted each time it is reached (what is shared counts as often as it is met; a slice's spare places count too). A statement '..UptoSaid' is the law's where the arguments, and the package variables that the reading takes, are together of bulk at most 1048576: NARROWER than '..Said'. Prove '..Said' where nothing that the law and all that it calls make is longer than what came in: it says more and counts as full. Else prove '..UptoSaid'. A law counts once. -/
mutual
def uptoBulk {H : Type} : DataW H → Nat
  | .lit (.string bytes) => bytes.length + 1
  | .lit _ => 1
  | .nil => 1
  | .ptr d => uptoBulk d + 1
  | .slice elems spare => uptoBulkAll elems + uptoBulkAll spare + 1
  | .agg parts => uptoBulkAll parts + 1
  | .iface _ d => uptoBulk d + 1
  | .map entries => uptoBulkEntries entries + 1
  | .held _ => 1
def uptoBulkAll {H : Type} : List (DataW H) → Nat
  | [] => 0
  | d :: r => uptoBulk d + uptoBulkAll r
def uptoBulkEntries {H : Type} : List (Lit × DataW H) → Nat
  | [] => 0
  | x :: r => uptoBulkEntry x + uptoBulkEntries r
def uptoBulkEntry {H : Type} : Lit × DataW H → Nat
  | (.string bytes, d) => bytes.length + uptoBulk d + 1
  | (_, d) => uptoBulk d + 1
 end
def uptoSmall : (H : Type) → List (DataW H) → Bool := fun _ ds => decide (uptoBulkAll ds ≤ 1048576)
def OpenSpec.upto (s : _root_.Go.ChangeSpec) : _root_.Go.OpenSpec := { _root_.Go.OpenSpec.ofChange s with cond := some uptoSmall }

/-- 'laws.FnIntDiv', WHERE WHAT IT READS IS OF BULK AT MOST 1048576: true; the input reads as it did. -/
def fnIntDivUptoRow : OpenClaim := { program := "ytpjkfdgkkpkljaagreatdoor", sum := "ffb135be0c9dd4bc79ee69380db4a68321ece1ce982a6734de04a356c6917cea", func := "given.example/pub-larkspur/laws.FnIntDiv", spec := "fnIntDiv", inPlace := ["math/bits.Add64", "math/bits.Sub64"], recurses := true, named := ["given.example/pub-larkspur/pub/bigall.divRecursiveThreshold", "given.example/pub-larkspur/pub/bigall.karatsubaThreshold", "given.example/pub-larkspur/pub/bigall.basicSqrThreshold", "given.example/pub-larkspur/pub/bigall.karatsubaSqrThreshold"], apart := false, laid := [("given.example/pub-larkspur/pub/bigall.divRecursiveThreshold", laid_given_example_pub_larkspur_pub_bigall_divRecursiveThreshold), ("given.example/pub-larkspur/pub/bigall.karatsubaThreshold", laid_given_example_pub_larkspur_pub_bigall_karatsubaThreshold), ("given.example/pub-larkspur/pub/bigall.basicSqrThreshold", laid_given_example_pub_larkspur_pub_bigall_basicSqrThreshold), ("given.example/pub-larkspur/pub/bigall.karatsubaSqrThreshold", laid_given_example_pub_larkspur_pub_bigall_karatsubaSqrThreshold)], narrowed := true }
def FnIntDivUptoSaid : Prop := fnIntDivUptoRow.holds Tryz.pinned (OpenSpec.upto fnIntDivSpec)

/-- 'laws.FnFloatHash', WHERE WHAT IT READS IS OF BULK AT MOST 1048576: true; the input reads as it did. -/
def fnFloatHashUptoRow : OpenClaim := { program := "ytpjkfdgkkpkljaagreatdoor", sum := "ffb135be0c9dd4bc79ee69380db4a68321ece1ce982a6734de04a356c6917cea", func := "given.example/pub-larkspur/laws.FnFloatHash", spec := "fnFloatHash", inPlace := ["math.Float64frombits", "math.Float64bits", "math/bits.Add64", "math/bits.Sub64"], recurses := true, named := ["given.example/pub-larkspur/pub/bigall.divRecursiveThreshold", "given.example/pub-larkspur/pub/bigall.karatsubaThreshold", "given.example/pub-larkspur/pub/bigall.basicSqrThreshold", "given.example/pub-larkspur/pub/bigall.karatsubaSqrThreshold"], apart := false, laid := [("given.example/pub-larkspur/pub/bigall.divRecursiveThreshold", laid_given_example_pub_larkspur_pub_bigall_divRecursiveThreshold), ("given.example/pub-larkspur/pub/bigall.karatsubaThreshold", laid_given_example_pub_larkspur_pub_bigall_karatsubaThreshold), ("given.example/pub-larkspur/pub/bigall.basicSqrThreshold", laid_given_example_pub_larkspur_pub_bigall_basicSqrThreshold), ("given.example/pub-larkspur/pub/bigall.karatsubaSqrThreshold", laid_given_example_pub_larkspur_pub_bigall_karatsubaSqrThreshold)], narrowed := true }
def FnFloatHashUptoSaid : Prop := fnFloatHashUptoRow.holds Tryz.pinned (OpenSpec.upto fnFloatHashSpec)

/-- 'laws.FnFloatWhole', WHERE WHAT IT READS IS OF BULK AT MOST 1048576: true; the input reads as it did. -/
def fnFloatWholeUptoRow : OpenClaim := { program := "ytpjkfdgkkpkljaagreatdoor", sum := "ffb135be0c9dd4bc79ee69380db4a68321ece1ce982a6734de04a356c6917cea", func := "given.example/pub-larkspur/laws.FnFloatWhole", spec := "fnFloatWhole", inPlace := ["math.Float64frombits", "math.Float64bits", "math/bits.Add64", "math/bits.Sub64"], recurses := true, named := ["given.example/pub-larkspur/pub/bigall.divRecursiveThreshold", "given.example/pub-larkspur/pub/bigall.karatsubaThreshold", "given.example/pub-larkspur/pub/bigall.basicSqrThreshold", "given.example/pub-larkspur/pub/bigall.karatsubaSqrThreshold"], apart := false, laid := [("given.example/pub-larkspur/pub/bigall.divRecursiveThreshold", laid_given_example_pub_larkspur_pub_bigall_divRecursiveThreshold), ("given.example/pub-larkspur/pub/bigall.karatsubaThreshold", laid_given_example_pub_larkspur_pub_bigall_karatsubaThreshold), ("given.example/pub-larkspur/pub/bigall.basicSqrThreshold", laid_given_example_pub_larkspur_pub_bigall_basicSqrThreshold), ("given.example/pub-larkspur/pub/bigall.karatsubaSqrThreshold", laid_given_example_pub_larkspur_pub_bigall_karatsubaSqrThreshold)], narrowed := true }
def FnFloatWholeUptoSaid : Prop := fnFloatWholeUptoRow.holds Tryz.pinned (OpenSpec.upto fnFloatWholeSpec)

end Rows
end Go.Proofs.YtpjkfdgkkpkljaaGreatDoor
