/-
  What the rows' list of six variables gives: the two tables of package utf8 and the four of strconv.IsPrint; a world in which the listed variables lie so.
-/
import Derived.Test.YtnenjlgpdejfaaaDoorQuoted
import Derived.Test.YtnenjlgpdejfaaaDoorRows
import Derived.ProofKit
import Derived.OpenShut
import Derived.Deep.DeepHandedRow
import Derived.Lib.LaidTab
import Derived.Lib.LaidU8
import Derived.Lib.LaidIn
import Derived.Lib.LaidSlice
import Derived.Lib.LaidPrint
namespace Go.Proofs.YtnenjlgpdejfaaaDoor.DoorQ
open Go.ChangeShapes Go.WideShapes Go.ChangeAt Go.RowKit Go.Lib Go.Proofs.YtnenjlgpdejfaaaDoor.Utf Go.Proofs.YtnenjlgpdejfaaaDoor.Quo

theorem own : ownKnob Tryd.prog.godebug = none := by kernel_rfl
theorem first_eq : Rows.laid_unicode_utf8_first = Lib.firstData := by kernel_rfl
theorem accept_eq : (Rows.laid_unicode_utf8_acceptRanges : DataW Unit) = Lib.acceptData := by kernel_rfl
theorem p16_eq : (Rows.laid_strconv_isPrint16 : DataW Unit) = Lib.sliceData .u16 Lib.goPrintTabs.p16 := by kernel_rfl
theorem n16_eq : (Rows.laid_strconv_isNotPrint16 : DataW Unit) = Lib.sliceData .u16 Lib.goPrintTabs.n16 := by kernel_rfl
theorem p32_eq : (Rows.laid_strconv_isPrint32 : DataW Unit) = Lib.sliceData .u32 Lib.goPrintTabs.p32 := by kernel_rfl
theorem n32_eq : (Rows.laid_strconv_isNotPrint32 : DataW Unit) = Lib.sliceData .u16 Lib.goPrintTabs.n32 := by kernel_rfl

/-- the list of the rows over the literals of texts -/
def list6 : List (String × DataW Unit) := [("unicode/utf8.acceptRanges", Rows.laid_unicode_utf8_acceptRanges), ("strconv.isNotPrint16", Rows.laid_strconv_isNotPrint16), ("strconv.isNotPrint32", Rows.laid_strconv_isNotPrint32), ("strconv.isPrint16", Rows.laid_strconv_isPrint16), ("strconv.isPrint32", Rows.laid_strconv_isPrint32), ("unicode/utf8.first", Rows.laid_unicode_utf8_first)]
theorem tabs6 {W : World} (h : laidMet Tryd.prog list6 W) : Laid Lib.goPrintTabs W := by
  have h1 := Lib.laidMet.reads h (.head _)
  have h2 := Lib.laidMet.reads h (.tail _ (.head _))
  have h3 := Lib.laidMet.reads h (.tail _ (.tail _ (.head _)))
  have h4 := Lib.laidMet.reads h (.tail _ (.tail _ (.tail _ (.head _))))
  have h5 := Lib.laidMet.reads h (.tail _ (.tail _ (.tail _ (.tail _ (.head _)))))
  have h6 := Lib.laidMet.reads h (.tail _ (.tail _ (.tail _ (.tail _ (.tail _ (.head _))))))
  rw [accept_eq] at h1
  rw [n16_eq] at h2
  rw [n32_eq] at h3
  rw [p16_eq] at h4
  rw [p32_eq] at h5
  rw [first_eq] at h6
  exact ⟨utf8Tabs_of_reads (ρ := Tryd.lays260_ren) Tryd.lays260 ⟨by kernel_rfl, by kernel_rfl, by kernel_rfl, by kernel_rfl, by kernel_rfl, by kernel_rfl, by kernel_rfl⟩ h6 h1,
    printTabs_of_reads (ρ := Tryd.lays339_ren) Tryd.lays339 ⟨by kernel_rfl, by kernel_rfl, by kernel_rfl, by kernel_rfl, by kernel_rfl, by kernel_rfl, by kernel_rfl, by kernel_rfl, by kernel_rfl, by kernel_rfl⟩ h4 h2 h5 h3⟩

def put (h : Array Obj) (g : Nat) (cs : Array Value) : Array Obj := h.modify g fun
  | .cells _ t frozen => .cells cs t frozen
  | o => o
/-- a world for the witness: the settled one with four blocks more, the variables as their initialisers lay them -/
noncomputable def laidWorld (os : Os) : World :=
  let N := (World.settled Tryd.prog os).heap.size
  let T := Lib.goPrintTabs
  let w0 := World.holding Tryd.prog os ⟨#[.cells (intCellsOf .u16 T.p16) 74, .cells (intCellsOf .u16 T.n16) 74, .cells (intCellsOf .u32 T.p32) 78, .cells (intCellsOf .u16 T.n32) 74], #[], []⟩
  let h1 := put w0.heap 4 (Lib.firstTab.map fun z => Value.int .u8 z).toArray
  let h2 := put h1 5 ((List.range 16).flatMap fun i => [Value.int .u8 (Lib.accLo i), Value.int .u8 (Lib.accHi i)]).toArray
  let h3 := put h2 0 #[.slice (some ⟨N, 0, none⟩) T.p16.length T.p16.length]
  let h4 := put h3 1 #[.slice (some ⟨N + 1, 0, none⟩) T.n16.length T.n16.length]
  let h5 := put h4 2 #[.slice (some ⟨N + 2, 0, none⟩) T.p32.length T.p32.length]
  let h6 := put h5 3 #[.slice (some ⟨N + 3, 0, none⟩) T.n32.length T.n32.length]
  { w0 with heap := h6 }
noncomputable def N0 : Nat := (World.settled Tryd.prog default).heap.size
theorem piece_accept (os : Os) (args : Array Value) : LaidIn Tryd.prog ((laidWorld os).forCall (fun _ _ => 0) ⟨#[], args, []⟩).memory [("unicode/utf8.acceptRanges", Lib.acceptData)] [5] :=
  LaidIn.of_run [5] 8 (by kernel_rfl) (by kernel_rfl) (by kernel_rfl) (by kernel_rfl)
theorem piece_first (os : Os) (args : Array Value) : LaidIn Tryd.prog ((laidWorld os).forCall (fun _ _ => 0) ⟨#[], args, []⟩).memory [("unicode/utf8.first", Lib.firstData)] [4] :=
  LaidIn.of_run [4] 8 (by kernel_rfl) (by kernel_rfl) (by kernel_rfl) (by kernel_rfl)
set_option maxRecDepth 1000000 in
theorem piece_p16 (os : Os) (args : Array Value) : LaidIn Tryd.prog ((laidWorld os).forCall (fun _ _ => 0) ⟨#[], args, []⟩).memory [("strconv.isPrint16", Lib.sliceData .u16 Lib.goPrintTabs.p16)] [0, N0] :=
  laidIn_slice (t := 75) (e := 74) (te := 74) Lib.goPrintTabs.p16 N0 (by kernel_rfl) (by kernel_rfl) (by kernel_rfl) (by kernel_rfl) (by kernel_rfl) (by kernel_rfl) (by kernel_rfl) (by kernel_rfl) (of_decide_eq_true (by kernel_rfl)) (of_decide_eq_true (by kernel_rfl))
set_option maxRecDepth 1000000 in
theorem piece_n16 (os : Os) (args : Array Value) : LaidIn Tryd.prog ((laidWorld os).forCall (fun _ _ => 0) ⟨#[], args, []⟩).memory [("strconv.isNotPrint16", Lib.sliceData .u16 Lib.goPrintTabs.n16)] [1, N0 + 1] :=
  laidIn_slice (t := 75) (e := 74) (te := 74) Lib.goPrintTabs.n16 (N0 + 1) (by kernel_rfl) (by kernel_rfl) (by kernel_rfl) (by kernel_rfl) (by kernel_rfl) (by kernel_rfl) (by kernel_rfl) (by kernel_rfl) (of_decide_eq_true (by kernel_rfl)) (of_decide_eq_true (by kernel_rfl))
set_option maxRecDepth 1000000 in
theorem piece_p32 (os : Os) (args : Array Value) : LaidIn Tryd.prog ((laidWorld os).forCall (fun _ _ => 0) ⟨#[], args, []⟩).memory [("strconv.isPrint32", Lib.sliceData .u32 Lib.goPrintTabs.p32)] [2, N0 + 2] :=
  laidIn_slice (t := 79) (e := 78) (te := 78) Lib.goPrintTabs.p32 (N0 + 2) (by kernel_rfl) (by kernel_rfl) (by kernel_rfl) (by kernel_rfl) (by kernel_rfl) (by kernel_rfl) (by kernel_rfl) (by kernel_rfl) (of_decide_eq_true (by kernel_rfl)) (of_decide_eq_true (by kernel_rfl))
set_option maxRecDepth 1000000 in
theorem piece_n32 (os : Os) (args : Array Value) : LaidIn Tryd.prog ((laidWorld os).forCall (fun _ _ => 0) ⟨#[], args, []⟩).memory [("strconv.isNotPrint32", Lib.sliceData .u16 Lib.goPrintTabs.n32)] [3, N0 + 3] :=
  laidIn_slice (t := 75) (e := 74) (te := 74) Lib.goPrintTabs.n32 (N0 + 3) (by kernel_rfl) (by kernel_rfl) (by kernel_rfl) (by kernel_rfl) (by kernel_rfl) (by kernel_rfl) (by kernel_rfl) (by kernel_rfl) (of_decide_eq_true (by kernel_rfl)) (of_decide_eq_true (by kernel_rfl))
theorem met6 (os : Os) (args : Array Value) : laidMet Tryd.prog list6 ((laidWorld os).forCall (fun _ _ => 0) ⟨#[], args, []⟩).memory := by
  have := ((((((piece_accept os args).append (piece_n16 os args) (by kernel_rfl)).append (piece_n32 os args) (by kernel_rfl)).append (piece_p16 os args) (by kernel_rfl)).append (piece_p32 os args) (by kernel_rfl)).append (piece_first os args) (by kernel_rfl)).met
  unfold list6
  rw [accept_eq, n16_eq, n32_eq, p16_eq, p32_eq, first_eq]
  exact this
end Go.Proofs.YtnenjlgpdejfaaaDoor.DoorQ
