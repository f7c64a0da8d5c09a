/-
  What the rows' list of four thresholds of package big gives; a world in which they lie so.
-/
import Derived.Test.YtpjkfdgkkpkljaaGreatDoorRows
import Derived.ProofKit
import Derived.OpenShut
import Derived.Deep.DeepHandedRow
import Derived.Lib.LaidTab
import Derived.Lib.LaidU8
import Derived.OpenVars
namespace Go.Proofs.YtpjkfdgkkpkljaaGreatDoor.DoorI
open Go.ChangeShapes Go.WideShapes Go.ChangeAt Go.RowKit Go.Lib

theorem own : ownKnob Tryz.prog.godebug = none := by kernel_rfl
/-- the list of the rows -/
def list4 : List (String × DataW Unit) := [("given.example/pub-larkspur/pub/bigall.divRecursiveThreshold", Rows.laid_given_example_pub_larkspur_pub_bigall_divRecursiveThreshold), ("given.example/pub-larkspur/pub/bigall.karatsubaThreshold", Rows.laid_given_example_pub_larkspur_pub_bigall_karatsubaThreshold), ("given.example/pub-larkspur/pub/bigall.basicSqrThreshold", Rows.laid_given_example_pub_larkspur_pub_bigall_basicSqrThreshold), ("given.example/pub-larkspur/pub/bigall.karatsubaSqrThreshold", Rows.laid_given_example_pub_larkspur_pub_bigall_karatsubaSqrThreshold)]
theorem tabs4 {W : World} (_h : laidMet Tryz.prog list4 W) : True := trivial
/-- the first threshold, as it lies in the world -/
theorem tabs40 {W : World} (h : laidMet Tryz.prog list4 W) : W.cell? ⟨1, 0, none⟩ = some (.int .i64 40) := by
  obtain ⟨g, t, cs, fuel, p, h1, h2, h3, h4⟩ := Lib.laidMet.reads h (.head _)
  have hg : Tryz.prog.globalNamed "given.example/pub-larkspur/pub/bigall.divRecursiveThreshold" = some 1 := by kernel_rfl
  have ht : (Tryz.prog.globals[1]?).map (·.type) = some 3 := by kernel_rfl
  rw [hg] at h1
  cases h1
  rw [ht] at h2
  cases h2
  unfold World.var? at h3
  rw [hg] at h3
  obtain ⟨z, e0, e1, -⟩ := DataW.trod_int Tryz.underlying3 h4
  have hz : z = 40 := by
    have : (DataW.lit (.int .i64 40) : DataW Unit) = DataW.lit (.int .i64 z) := congrArg Prod.fst e1
    injection this with this
    injection this with _ this
    exact this.symm
  subst hz
  have hc : cs = #[.int .i64 40] := Array.toList_inj.1 e0
  subst hc
  rcases hh : W.heap[(1 : Nat)]? with _ | o
  · simp [hh] at h3
  · cases o with
    | cells c t' f =>
      simp [hh] at h3
      subst h3
      simp [World.cell?, hh]
    | _ => simp [hh] at h3
/-- four named variables read as four data -/
theorem vars4 {H : Type} {enc : TypeId × Value → H} {P : Program} {w : World} {sp : Nat → Bool} {n1 n2 n3 n4 : String} {gs : List (DataW H)} {ps : List MemPlace} (h : DataW.TrodVars enc P w sp [n1, n2, n3, n4] gs ps) : ∃ g1 g2 g3 g4, gs = [g1, g2, g3, g4] := by
  rcases gs with _ | ⟨g1, _ | ⟨g2, _ | ⟨g3, _ | ⟨g4, _ | ⟨g5, gs⟩⟩⟩⟩⟩
  · exact h.elim
  · obtain ⟨_, _, _, _, _, _, _, _, _, _, h, _⟩ := h
    exact h.elim
  · obtain ⟨_, _, _, _, _, _, _, _, _, _, h, _⟩ := h
    obtain ⟨_, _, _, _, _, _, _, _, _, _, h, _⟩ := h
    exact h.elim
  · obtain ⟨_, _, _, _, _, _, _, _, _, _, h, _⟩ := h
    obtain ⟨_, _, _, _, _, _, _, _, _, _, h, _⟩ := h
    obtain ⟨_, _, _, _, _, _, _, _, _, _, h, _⟩ := h
    exact h.elim
  · exact ⟨_, _, _, _, rfl⟩
  · obtain ⟨_, _, _, _, _, _, _, _, _, _, h, _⟩ := h
    obtain ⟨_, _, _, _, _, _, _, _, _, _, h, _⟩ := h
    obtain ⟨_, _, _, _, _, _, _, _, _, _, h, _⟩ := h
    obtain ⟨_, _, _, _, _, _, _, _, _, _, h, _⟩ := h
    exact h.elim
def put (h : Array Obj) (g : Nat) (cs : Array Value) : Array Obj := h.modify g fun
  | .cells _ t frozen => .cells cs t frozen
  | o => o
/-- a world for the witness: the settled one, the variables as their initialisers lay them -/
noncomputable def laidWorld (os : Os) : World :=
  { World.holding Tryz.prog os ⟨#[], #[], []⟩ with
    heap := put (put (put (put (World.holding Tryz.prog os ⟨#[], #[], []⟩).heap 1 #[.int .i64 40]) 2 #[.int .i64 40]) 3 #[.int .i64 12]) 4 #[.int .i64 80] }
def gs4 {H : Type} : List (DataW H) := [.lit (.int .i64 40), .lit (.int .i64 40), .lit (.int .i64 12), .lit (.int .i64 80)]
def pl4 : List MemPlace := MemPlace.row ⟨1, 0, none⟩ 1 ++ (MemPlace.row ⟨2, 0, none⟩ 1 ++ (MemPlace.row ⟨3, 0, none⟩ 1 ++ MemPlace.row ⟨4, 0, none⟩ 1))
theorem met4 (os : Os) (args : Array Value) : laidMet Tryz.prog list4 ((laidWorld os).forCall (fun _ _ => 0) ⟨#[], args, []⟩).memory :=
  laidMet_of_run' 8 (by kernel_rfl) (by kernel_rfl)
end Go.Proofs.YtpjkfdgkkpkljaaGreatDoor.DoorI
