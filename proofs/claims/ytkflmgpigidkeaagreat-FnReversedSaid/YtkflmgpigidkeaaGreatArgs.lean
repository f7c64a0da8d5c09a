/-
  A built-in's arguments by their places: one argument, one variable.
-/
import Derived.Test.YtkflmgpigidkeaaGreatProg
import Derived.WalkKit
import Derived.LoopTactic
import Derived.Outline
import Derived.WalkSpells
import Derived.WalkLawsBesides
import Derived.Lib.Hide
import Derived.OpenShut
import Derived.Below
namespace Go.Proofs.YtkflmgpigidkeaaGreat.Args
open Go.RowKit Go.WideShapes
set_option linter.unusedVariables false

theorem chk_any (s : ByteArray) (sa : Option Addr) (n c : Nat) (mn mx : Int) (w : World) (h1 : mn ≤ n) (h2 : (n : Int) ≤ mx) (hn : n ≤ 1000000) :
    Calls Tryz.prog 158 #[.string s, .slice sa n c, .slice none 0 0, .int .i64 mn, .int .i64 mx] w fun e w' => e = .returned .nilIface ∧ w = w' := by
  have d1 : decide ((n : Int) < mn) = false := by simp; omega
  have d2 : decide (mx < (n : Int)) = false := by simp; omega
  clear h1 h2
  go_enter Tryz.func158, Tryz.ntmps158
  go_wp2
  go_ret
  exact ⟨rfl, rfl⟩

theorem is_pvalue (v : Value) (w : World) : (Instr.typeAssert (.iface 201 v) 20 201 true).run Tryz.prog w = .ok (.tuple #[v, .bool true]) w := by kernel_rfl

set_option maxRecDepth 1000000 in
/-- a variable of the type Value takes whatever argument -/
theorem uarg_value (t : TypeId) (x u : Value) (g : Nat) (w : World) (hg : g < w.heap.size) (hc : w.cell? ⟨g, 0, none⟩ = some u) (hf : w.frozen? ⟨g, 0, none⟩ = false) :
    Calls Tryz.prog 159 #[.iface t x, .iface 201 (.pointer (some ⟨g, 0, none⟩))] w fun e w' => e = .returned .nilIface ∧ w' = w.setCell ⟨g, 0, none⟩ (.iface t x) := by
  have hp := is_pvalue
  go_enter Tryz.func159, Tryz.ntmps159
  go_wp2
  go_ret
  exact ⟨rfl, rfl⟩

set_option maxRecDepth 100000 in
/-- one argument, one variable -/
theorem upos_one (s : ByteArray) (x p : Value) (ga gv c1 c2 : Nat) (w : World) (hx : w.cell? ⟨ga, 0, none⟩ = some x) (hga : ga < w.heap.size) (hp : w.cell? ⟨gv, 0, none⟩ = some p) (hgv : gv < w.heap.size)
    (F : World) (hu : Calls Tryz.prog 159 #[x, p] w fun e w' => e = .returned .nilIface ∧ w' = F) (hs : w.heap.size ≤ F.heap.size) :
    Calls Tryz.prog 130 #[.string s, .slice (some ⟨ga, 0, none⟩) 1 c1, .slice none 0 0, .int .i64 1, .slice (some ⟨gv, 0, none⟩) 1 c2] w fun e w' => e = .returned .nilIface ∧ w' = F := by
  have hk := Lib.hid (chk_any s (some ⟨ga, 0, none⟩) 1 c1 1 1 w (by omega) (by omega) (by omega))
  have hu' := Lib.hid hu
  clear hu
  go_enter Tryz.func130, Tryz.ntmps130
  go_wp2_with fail
  refine hk.out.mono ?_
  rintro e w1 ⟨rfl, rfl⟩
  go_wp2_with fail
  go_loopw [27] (fun i wr => (i = .int .i64 0 ∧ wr = w) ∨ (i = .int .i64 1 ∧ wr = F)) (fun i _ => (1 - intOf i).toNat)
  case atStart => exact .inl ⟨rfl, rfl⟩
  case round =>
    rcases hrel with ⟨rfl, rfl⟩ | ⟨rfl, rfl⟩
    · go_wp2_with fail
      refine hu'.out.mono ?_
      rintro e w1 ⟨rfl, rfl⟩
      go_wp2_with fail
      go_roundw
      case rel => exact .inr ⟨rfl, trivial⟩
      case measure => simp [intOf]
    · go_wp2
      go_ret
      exact ⟨rfl, rfl⟩
end Go.Proofs.YtkflmgpigidkeaaGreat.Args
