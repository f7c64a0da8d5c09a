/-
  NARROWER THAN 'FOR EVERY INPUT', by the rows' own cells (each row's printed sentence says how): FnIndices: loops.
  DERIVED. THE GIVEN ROWS OF THIS SEAT. 4 by the template 'for every input the law returns true; each argument reads behind the call as it read before'; 0 by the template 'total and deterministic' (their statements: YtaappbnbjpbbcaaTotals.lean).
  GIVEN WITH THE SEED: the statements are not yours to turn. If you find one false, say at which input.
  Laid BY PROGRAM, IN A SANDBOX (cutbox-rows.mjs): the forced cells as the released guide's own fill.sh prints them over the translation f80c7535f44ab43d… (all of the seat's roots in one cut). By AI agents, Wed Nov 11 2026. No macro, syntax, notation, axiom, sorry.
-/
import Derived.Test.YtaappbnbjpbbcaaChecked
import GoSem.Claim
import GoSem.ClaimJoined
import GoSem.ClaimMapViews
import Derived.JoinedTies
import Derived.KernelRfl
namespace Go.Proofs.Ytaappbnbjpbbcaa
/- THE CELL 'sum', in the pinned program and in every row, IS THE sha256 OF THE DUMP (.gsa) THAT YtaappbnbjpbbcaaProg.lean LOADS. Nothing in Lean hashes anything: it is a label: what it is worth is what the hold of that sum in a sandbox is worth. -/
noncomputable def Try.pinned : Pinned := { name := "ytaappbnbjpbbcaa", sum := "f80c7535f44ab43d99843d1af454446bffb4789b1aac882aaf8c353a6b2ce4c4", checked := Try.checked }
namespace Rows
def none {H : Type} : Left H := { results := [], args := [] }

/-- 'laws.FnIndices': WHATEVER THE INPUT: true; the input reads as it did. -/
def fnIndicesSpec : ChangeSpec := { name := "fnIndices", fn := fun _ => fun
  | [d1, d2, d3] => { results := [.lit (.bool true)], args := [d1, d2, d3] }
  | _ => none }
def fnIndicesRow : OpenClaim := { program := "ytaappbnbjpbbcaa", sum := "f80c7535f44ab43d99843d1af454446bffb4789b1aac882aaf8c353a6b2ce4c4", func := "given.example/pub-larkspur/laws.FnIndices", spec := "fnIndices", inPlace := ["math.Float64frombits"], loops := true, apart := false }
def FnIndicesSaid : Prop := fnIndicesRow.holds Try.pinned (OpenSpec.ofChange fnIndicesSpec)

/-- ITS FALSE NEIGHBOUR: 'it returns false'. Refute it at one input. -/
def fnIndicesWrong : ChangeSpec := { name := "fnIndices", fn := fun _ => fun
  | [d1, d2, d3] => { results := [.lit (.bool false)], args := [d1, d2, d3] }
  | _ => none }
def FnIndicesWrongFalsely : Prop := fnIndicesRow.holds Try.pinned (OpenSpec.ofChange fnIndicesWrong)

/-- 'laws.FnIntInt64': WHATEVER THE INPUT: true; the input reads as it did. -/
def fnIntInt64Spec : ChangeSpec := { name := "fnIntInt64", fn := fun _ => fun
  | [d1, d2] => { results := [.lit (.bool true)], args := [d1, d2] }
  | _ => none }
def fnIntInt64Row : OpenClaim := { program := "ytaappbnbjpbbcaa", sum := "f80c7535f44ab43d99843d1af454446bffb4789b1aac882aaf8c353a6b2ce4c4", func := "given.example/pub-larkspur/laws.FnIntInt64", spec := "fnIntInt64", apart := false }
def FnIntInt64Said : Prop := fnIntInt64Row.holds Try.pinned (OpenSpec.ofChange fnIntInt64Spec)

/-- ITS FALSE NEIGHBOUR: 'it returns false'. Refute it at one input. -/
def fnIntInt64Wrong : ChangeSpec := { name := "fnIntInt64", fn := fun _ => fun
  | [d1, d2] => { results := [.lit (.bool false)], args := [d1, d2] }
  | _ => none }
def FnIntInt64WrongFalsely : Prop := fnIntInt64Row.holds Try.pinned (OpenSpec.ofChange fnIntInt64Wrong)

/-- 'laws.FnIntXor': WHATEVER THE INPUT: true; the input reads as it did. -/
def fnIntXorSpec : ChangeSpec := { name := "fnIntXor", fn := fun _ => fun
  | [d1, d2, d3, d4] => { results := [.lit (.bool true)], args := [d1, d2, d3, d4] }
  | _ => none }
def fnIntXorRow : OpenClaim := { program := "ytaappbnbjpbbcaa", sum := "f80c7535f44ab43d99843d1af454446bffb4789b1aac882aaf8c353a6b2ce4c4", func := "given.example/pub-larkspur/laws.FnIntXor", spec := "fnIntXor", inPlace := ["math/bits.Sub64", "math/bits.Add64"], recurses := true, apart := false }
def FnIntXorSaid : Prop := fnIntXorRow.holds Try.pinned (OpenSpec.ofChange fnIntXorSpec)

/-- ITS FALSE NEIGHBOUR: 'it returns false'. Refute it at one input. -/
def fnIntXorWrong : ChangeSpec := { name := "fnIntXor", fn := fun _ => fun
  | [d1, d2, d3, d4] => { results := [.lit (.bool false)], args := [d1, d2, d3, d4] }
  | _ => none }
def FnIntXorWrongFalsely : Prop := fnIntXorRow.holds Try.pinned (OpenSpec.ofChange fnIntXorWrong)

/-- 'laws.FnIntThere': WHATEVER THE INPUT: true; the input reads as it did. -/
def fnIntThereSpec : ChangeSpec := { name := "fnIntThere", fn := fun _ => fun
  | [d1, d2, d3] => { results := [.lit (.bool true)], args := [d1, d2, d3] }
  | _ => none }
def fnIntThereRow : OpenClaim := { program := "ytaappbnbjpbbcaa", sum := "f80c7535f44ab43d99843d1af454446bffb4789b1aac882aaf8c353a6b2ce4c4", func := "given.example/pub-larkspur/laws.FnIntThere", spec := "fnIntThere", inPlace := ["math/bits.Sub64", "math/bits.Add64"], recurses := true, apart := false }
def FnIntThereSaid : Prop := fnIntThereRow.holds Try.pinned (OpenSpec.ofChange fnIntThereSpec)

/-- ITS FALSE NEIGHBOUR: 'it returns false'. Refute it at one input. -/
def fnIntThereWrong : ChangeSpec := { name := "fnIntThere", fn := fun _ => fun
  | [d1, d2, d3] => { results := [.lit (.bool false)], args := [d1, d2, d3] }
  | _ => none }
def FnIntThereWrongFalsely : Prop := fnIntThereRow.holds Try.pinned (OpenSpec.ofChange fnIntThereWrong)

/- THE SECOND FORM. 'bulk': how many values and letters a reading holds, each counted each time it is reached (what is shared counts as often as it is met; a slice's spare places count too). A statement '..UptoSaid' is the law's where the arguments, and the package variables that the reading takes, are together of bulk at most 1048576: NARROWER than '..Said'. Prove '..Said' where nothing that the law and all that it calls make is longer than what came in: it says more and counts as full. Else prove '..UptoSaid'. A law counts once. -/
mutual
def uptoBulk {H : Type} : DataW H → Nat
  | .lit (.string bytes) => bytes.length + 1
  | .lit _ => 1
  | .nil => 1
  | .ptr d => uptoBulk d + 1
  | .slice elems spare => uptoBulkAll elems + uptoBulkAll spare + 1
  | .agg parts => uptoBulkAll parts + 1
  | .iface _ d => uptoBulk d + 1
  | .map entries => uptoBulkEntries entries + 1
  | .held _ => 1
def uptoBulkAll {H : Type} : List (DataW H) → Nat
  | [] => 0
  | d :: r => uptoBulk d + uptoBulkAll r
def uptoBulkEntries {H : Type} : List (Lit × DataW H) → Nat
  | [] => 0
  | x :: r => uptoBulkEntry x + uptoBulkEntries r
def uptoBulkEntry {H : Type} : Lit × DataW H → Nat
  | (.string bytes, d) => bytes.length + uptoBulk d + 1
  | (_, d) => uptoBulk d + 1
 end
def uptoSmall : (H : Type) → List (DataW H) → Bool := fun _ ds => decide (uptoBulkAll ds ≤ 1048576)
def OpenSpec.upto (s : _root_.Go.ChangeSpec) : _root_.Go.OpenSpec := { _root_.Go.OpenSpec.ofChange s with cond := some uptoSmall }

/-- 'laws.FnIndices', WHERE WHAT IT READS IS OF BULK AT MOST 1048576: true; the input reads as it did. -/
def fnIndicesUptoRow : OpenClaim := { program := "ytaappbnbjpbbcaa", sum := "f80c7535f44ab43d99843d1af454446bffb4789b1aac882aaf8c353a6b2ce4c4", func := "given.example/pub-larkspur/laws.FnIndices", spec := "fnIndices", inPlace := ["math.Float64frombits"], loops := true, apart := false, narrowed := true }
def FnIndicesUptoSaid : Prop := fnIndicesUptoRow.holds Try.pinned (OpenSpec.upto fnIndicesSpec)

/-- 'laws.FnIntInt64', WHERE WHAT IT READS IS OF BULK AT MOST 1048576: true; the input reads as it did. -/
def fnIntInt64UptoRow : OpenClaim := { program := "ytaappbnbjpbbcaa", sum := "f80c7535f44ab43d99843d1af454446bffb4789b1aac882aaf8c353a6b2ce4c4", func := "given.example/pub-larkspur/laws.FnIntInt64", spec := "fnIntInt64", apart := false, narrowed := true }
def FnIntInt64UptoSaid : Prop := fnIntInt64UptoRow.holds Try.pinned (OpenSpec.upto fnIntInt64Spec)

/-- 'laws.FnIntXor', WHERE WHAT IT READS IS OF BULK AT MOST 1048576: true; the input reads as it did. -/
def fnIntXorUptoRow : OpenClaim := { program := "ytaappbnbjpbbcaa", sum := "f80c7535f44ab43d99843d1af454446bffb4789b1aac882aaf8c353a6b2ce4c4", func := "given.example/pub-larkspur/laws.FnIntXor", spec := "fnIntXor", inPlace := ["math/bits.Sub64", "math/bits.Add64"], recurses := true, apart := false, narrowed := true }
def FnIntXorUptoSaid : Prop := fnIntXorUptoRow.holds Try.pinned (OpenSpec.upto fnIntXorSpec)

/-- 'laws.FnIntThere', WHERE WHAT IT READS IS OF BULK AT MOST 1048576: true; the input reads as it did. -/
def fnIntThereUptoRow : OpenClaim := { program := "ytaappbnbjpbbcaa", sum := "f80c7535f44ab43d99843d1af454446bffb4789b1aac882aaf8c353a6b2ce4c4", func := "given.example/pub-larkspur/laws.FnIntThere", spec := "fnIntThere", inPlace := ["math/bits.Sub64", "math/bits.Add64"], recurses := true, apart := false, narrowed := true }
def FnIntThereUptoSaid : Prop := fnIntThereUptoRow.holds Try.pinned (OpenSpec.upto fnIntThereSpec)

end Rows
end Go.Proofs.Ytaappbnbjpbbcaa
