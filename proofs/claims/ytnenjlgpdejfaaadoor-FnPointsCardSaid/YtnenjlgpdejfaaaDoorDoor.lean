/-
  What the rows' list of variables gives: the two tables of package utf8 as the decoder reads them; a world in which the listed variables lie so.
-/
import Derived.Test.YtnenjlgpdejfaaaDoorUtf
import Derived.Test.YtnenjlgpdejfaaaDoorRows
import Derived.ProofKit
import Derived.OpenShut
import Derived.Deep.DeepHandedRow
import Derived.Lib.LaidTab
import Derived.Lib.LaidU8
namespace Go.Proofs.YtnenjlgpdejfaaaDoor.Door
open Go.ChangeShapes Go.WideShapes Go.ChangeAt Go.RowKit Go.Lib Go.Proofs.YtnenjlgpdejfaaaDoor.Utf

theorem own : ownKnob Tryd.prog.godebug = none := by kernel_rfl
theorem first_eq : Rows.laid_unicode_utf8_first = Lib.firstData := by kernel_rfl
theorem accept_eq : (Rows.laid_unicode_utf8_acceptRanges : DataW Unit) = Lib.acceptData := by kernel_rfl

/-- what any list gives that names both tables -/
theorem tabs_of {W : World} (h1 : Lib.VarReads Tryd.prog W "unicode/utf8.acceptRanges" Rows.laid_unicode_utf8_acceptRanges) (h2 : Lib.VarReads Tryd.prog W "unicode/utf8.first" Rows.laid_unicode_utf8_first) : Tabs W := by
  rw [first_eq] at h2
  rw [accept_eq] at h1
  exact utf8Tabs_of_reads (ρ := Tryd.lays260_ren) Tryd.lays260 ⟨by kernel_rfl, by kernel_rfl, by kernel_rfl, by kernel_rfl, by kernel_rfl, by kernel_rfl, by kernel_rfl⟩ h2 h1

/-- the list of the rows over text alone -/
def list2 : List (String × DataW Unit) := [("unicode/utf8.acceptRanges", Rows.laid_unicode_utf8_acceptRanges), ("unicode/utf8.first", Rows.laid_unicode_utf8_first)]
theorem tabs2 {W : World} (h : laidMet Tryd.prog list2 W) : Tabs W :=
  tabs_of (Lib.laidMet.reads h (.head _)) (Lib.laidMet.reads h (.tail _ (.head _)))

def put (h : Array Obj) (g : Nat) (cs : Array Value) : Array Obj := h.modify g fun
  | .cells _ t frozen => .cells cs t frozen
  | o => o
/-- a world for the witness: the settled one, the tables as their initialisers lay them -/
noncomputable def laidWorld (os : Os) : World :=
  { World.holding Tryd.prog os ⟨#[], #[], []⟩ with
    heap := put (put (World.holding Tryd.prog os ⟨#[], #[], []⟩).heap 4 (Lib.firstTab.map fun z => Value.int .u8 z).toArray) 5 ((List.range 16).flatMap fun i => [Value.int .u8 (Lib.accLo i), Value.int .u8 (Lib.accHi i)]).toArray }
theorem met2 (os : Os) (args : Array Value) : laidMet Tryd.prog list2 ((laidWorld os).forCall (fun _ _ => 0) ⟨#[], args, []⟩).memory :=
  laidMet_of_run' 8 (by kernel_rfl) (by kernel_rfl)
end Go.Proofs.YtnenjlgpdejfaaaDoor.Door
