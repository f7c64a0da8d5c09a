/-
  No cell of these rows narrows 'for every input' (looked for: loops, veiled, ifaces, maps, wideKeys, modest, calm, conditions, laid).
  DERIVED. THE GIVEN ROWS OF THIS SEAT. 4 by the template 'for every input the law returns true; each argument reads behind the call as it read before'; 0 by the template 'total and deterministic' (their statements: YtignkldgjplmeaaTotals.lean).
  GIVEN WITH THE SEED: the statements are not yours to turn. If you find one false, say at which input.
  Laid BY PROGRAM, IN A SANDBOX (cutbox-rows.mjs): the forced cells as the released guide's own fill.sh prints them over the translation a84de9db0ac47d07… (all of the seat's roots in one cut). By AI agents, Wed Nov 11 2026. No macro, syntax, notation, axiom, sorry.
-/
import Derived.Test.YtignkldgjplmeaaChecked
import GoSem.Claim
import GoSem.ClaimJoined
import GoSem.ClaimMapViews
import Derived.JoinedTies
import Derived.KernelRfl
namespace Go.Proofs.Ytignkldgjplmeaa
/- THE CELL 'sum', in the pinned program and in every row, IS THE sha256 OF THE DUMP (.gsa) THAT YtignkldgjplmeaaProg.lean LOADS. Nothing in Lean hashes anything: it is a label: what it is worth is what the hold of that sum in a sandbox is worth. -/
noncomputable def Try.pinned : Pinned := { name := "ytignkldgjplmeaa", sum := "a84de9db0ac47d0710f274968ec45a609ff3486a48cfd682835018819766f79d", checked := Try.checked }
namespace Rows
def none {H : Type} : Left H := { results := [], args := [] }

/-- 'laws.FnWordTexts': WHATEVER THE INPUT: true; the input reads as it did. -/
def fnWordTextsSpec : ChangeSpec := { name := "fnWordTexts", fn := fun _ => fun
  | [d] => { results := [.lit (.bool true)], args := [d] }
  | _ => none }
def fnWordTextsRow : OpenClaim := { program := "ytignkldgjplmeaa", sum := "a84de9db0ac47d0710f274968ec45a609ff3486a48cfd682835018819766f79d", func := "given.example/pub-larkspur/laws.FnWordTexts", spec := "fnWordTexts", apart := false }
def FnWordTextsSaid : Prop := fnWordTextsRow.holds Try.pinned (OpenSpec.ofChange fnWordTextsSpec)

/-- ITS FALSE NEIGHBOUR: 'it returns false'. Refute it at one input. -/
def fnWordTextsWrong : ChangeSpec := { name := "fnWordTexts", fn := fun _ => fun
  | [d] => { results := [.lit (.bool false)], args := [d] }
  | _ => none }
def FnWordTextsWrongFalsely : Prop := fnWordTextsRow.holds Try.pinned (OpenSpec.ofChange fnWordTextsWrong)

/-- 'laws.FnStringHash': WHATEVER THE INPUT: true; the input reads as it did. -/
def fnStringHashSpec : ChangeSpec := { name := "fnStringHash", fn := fun _ => fun
  | [d] => { results := [.lit (.bool true)], args := [d] }
  | _ => none }
def fnStringHashRow : OpenClaim := { program := "ytignkldgjplmeaa", sum := "a84de9db0ac47d0710f274968ec45a609ff3486a48cfd682835018819766f79d", func := "given.example/pub-larkspur/laws.FnStringHash", spec := "fnStringHash", apart := false }
def FnStringHashSaid : Prop := fnStringHashRow.holds Try.pinned (OpenSpec.ofChange fnStringHashSpec)

/-- ITS FALSE NEIGHBOUR: 'it returns false'. Refute it at one input. -/
def fnStringHashWrong : ChangeSpec := { name := "fnStringHash", fn := fun _ => fun
  | [d] => { results := [.lit (.bool false)], args := [d] }
  | _ => none }
def FnStringHashWrongFalsely : Prop := fnStringHashRow.holds Try.pinned (OpenSpec.ofChange fnStringHashWrong)

/-- 'laws.FnStringSlice': WHATEVER THE INPUT: true; the input reads as it did. -/
def fnStringSliceSpec : ChangeSpec := { name := "fnStringSlice", fn := fun _ => fun
  | [d1, d2, d3, d4] => { results := [.lit (.bool true)], args := [d1, d2, d3, d4] }
  | _ => none }
def fnStringSliceRow : OpenClaim := { program := "ytignkldgjplmeaa", sum := "a84de9db0ac47d0710f274968ec45a609ff3486a48cfd682835018819766f79d", func := "given.example/pub-larkspur/laws.FnStringSlice", spec := "fnStringSlice", apart := false }
def FnStringSliceSaid : Prop := fnStringSliceRow.holds Try.pinned (OpenSpec.ofChange fnStringSliceSpec)

/-- ITS FALSE NEIGHBOUR: 'it returns false'. Refute it at one input. -/
def fnStringSliceWrong : ChangeSpec := { name := "fnStringSlice", fn := fun _ => fun
  | [d1, d2, d3, d4] => { results := [.lit (.bool false)], args := [d1, d2, d3, d4] }
  | _ => none }
def FnStringSliceWrongFalsely : Prop := fnStringSliceRow.holds Try.pinned (OpenSpec.ofChange fnStringSliceWrong)

/-- 'laws.FnFloatCmp': WHATEVER THE INPUT: true; the input reads as it did. -/
def fnFloatCmpSpec : ChangeSpec := { name := "fnFloatCmp", fn := fun _ => fun
  | [d1, d2] => { results := [.lit (.bool true)], args := [d1, d2] }
  | _ => none }
def fnFloatCmpRow : OpenClaim := { program := "ytignkldgjplmeaa", sum := "a84de9db0ac47d0710f274968ec45a609ff3486a48cfd682835018819766f79d", func := "given.example/pub-larkspur/laws.FnFloatCmp", spec := "fnFloatCmp", inPlace := ["math.Float64frombits"], apart := false }
def FnFloatCmpSaid : Prop := fnFloatCmpRow.holds Try.pinned (OpenSpec.ofChange fnFloatCmpSpec)

/-- ITS FALSE NEIGHBOUR: 'it returns false'. Refute it at one input. -/
def fnFloatCmpWrong : ChangeSpec := { name := "fnFloatCmp", fn := fun _ => fun
  | [d1, d2] => { results := [.lit (.bool false)], args := [d1, d2] }
  | _ => none }
def FnFloatCmpWrongFalsely : Prop := fnFloatCmpRow.holds Try.pinned (OpenSpec.ofChange fnFloatCmpWrong)

/- THE SECOND FORM. 'bulk': how many values and letters a reading holds, each counted each time it is reached (what is shared counts as often as it is met; a slice's spare places count too). A statement '..UptoSaid' is the law's where the arguments, and the package variables that the reading takes, are together of bulk at most 1048576: NARROWER than '..Said'. Prove '..Said' where nothing that the law and all that it calls make is longer than what came in: it says more and counts as full. Else prove '..UptoSaid'. A law counts once. -/
mutual
def uptoBulk {H : Type} : DataW H → Nat
  | .lit (.string bytes) => bytes.length + 1
  | .lit _ => 1
  | .nil => 1
  | .ptr d => uptoBulk d + 1
  | .slice elems spare => uptoBulkAll elems + uptoBulkAll spare + 1
  | .agg parts => uptoBulkAll parts + 1
  | .iface _ d => uptoBulk d + 1
  | .map entries => uptoBulkEntries entries + 1
  | .held _ => 1
def uptoBulkAll {H : Type} : List (DataW H) → Nat
  | [] => 0
  | d :: r => uptoBulk d + uptoBulkAll r
def uptoBulkEntries {H : Type} : List (Lit × DataW H) → Nat
  | [] => 0
  | x :: r => uptoBulkEntry x + uptoBulkEntries r
def uptoBulkEntry {H : Type} : Lit × DataW H → Nat
  | (.string bytes, d) => bytes.length + uptoBulk d + 1
  | (_, d) => uptoBulk d + 1
 end
def uptoSmall : (H : Type) → List (DataW H) → Bool := fun _ ds => decide (uptoBulkAll ds ≤ 1048576)
def OpenSpec.upto (s : _root_.Go.ChangeSpec) : _root_.Go.OpenSpec := { _root_.Go.OpenSpec.ofChange s with cond := some uptoSmall }

/-- 'laws.FnWordTexts', WHERE WHAT IT READS IS OF BULK AT MOST 1048576: true; the input reads as it did. -/
def fnWordTextsUptoRow : OpenClaim := { program := "ytignkldgjplmeaa", sum := "a84de9db0ac47d0710f274968ec45a609ff3486a48cfd682835018819766f79d", func := "given.example/pub-larkspur/laws.FnWordTexts", spec := "fnWordTexts", apart := false, narrowed := true }
def FnWordTextsUptoSaid : Prop := fnWordTextsUptoRow.holds Try.pinned (OpenSpec.upto fnWordTextsSpec)

/-- 'laws.FnStringHash', WHERE WHAT IT READS IS OF BULK AT MOST 1048576: true; the input reads as it did. -/
def fnStringHashUptoRow : OpenClaim := { program := "ytignkldgjplmeaa", sum := "a84de9db0ac47d0710f274968ec45a609ff3486a48cfd682835018819766f79d", func := "given.example/pub-larkspur/laws.FnStringHash", spec := "fnStringHash", apart := false, narrowed := true }
def FnStringHashUptoSaid : Prop := fnStringHashUptoRow.holds Try.pinned (OpenSpec.upto fnStringHashSpec)

/-- 'laws.FnStringSlice', WHERE WHAT IT READS IS OF BULK AT MOST 1048576: true; the input reads as it did. -/
def fnStringSliceUptoRow : OpenClaim := { program := "ytignkldgjplmeaa", sum := "a84de9db0ac47d0710f274968ec45a609ff3486a48cfd682835018819766f79d", func := "given.example/pub-larkspur/laws.FnStringSlice", spec := "fnStringSlice", apart := false, narrowed := true }
def FnStringSliceUptoSaid : Prop := fnStringSliceUptoRow.holds Try.pinned (OpenSpec.upto fnStringSliceSpec)

/-- 'laws.FnFloatCmp', WHERE WHAT IT READS IS OF BULK AT MOST 1048576: true; the input reads as it did. -/
def fnFloatCmpUptoRow : OpenClaim := { program := "ytignkldgjplmeaa", sum := "a84de9db0ac47d0710f274968ec45a609ff3486a48cfd682835018819766f79d", func := "given.example/pub-larkspur/laws.FnFloatCmp", spec := "fnFloatCmp", inPlace := ["math.Float64frombits"], apart := false, narrowed := true }
def FnFloatCmpUptoSaid : Prop := fnFloatCmpUptoRow.holds Try.pinned (OpenSpec.upto fnFloatCmpSpec)

end Rows
end Go.Proofs.Ytignkldgjplmeaa
