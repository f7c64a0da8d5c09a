/-
  The order of floats is the reference's, for every two words of 64 bits. No condition.
-/
import Derived.Test.YtignkldgjplmeaaRows
import Derived.WalkKit
import Derived.ProofKit
import Derived.OpenShut
import Derived.ShutString
import Derived.LoopTactic
import Derived.Outline
import Derived.Deep.QuietTactic
import Derived.BigQuiet
import Derived.WalkLawsBesides
import Derived.Laws.Cover2
namespace Go.Proofs.Ytignkldgjplmeaa.fnFloatCmp
open Go.ChangeShapes Go.WideShapes Go.ChangeAt Go.RowKit
open Go.ChangeMaps (open_string shut_string)

theorem order_self (x : Nat) : Ieee.double.order x x = none ∨ Ieee.double.order x x = some .eq := by
  unfold Ieee.Format.order
  cases Ieee.double.read x <;> simp [Ieee.Datum.order]
theorem order_none {x y : Nat} (h : Ieee.double.order x y = none) : Ieee.double.order x x = none ∨ Ieee.double.order y y = none := by
  unfold Ieee.Format.order at *
  revert h
  cases Ieee.double.read x <;> cases Ieee.double.read y <;> simp [Ieee.Datum.order]
theorem order_some {x y : Nat} {o : Ordering} (h : Ieee.double.order x y = some o) : Ieee.double.order x x = some .eq ∧ Ieee.double.order y y = some .eq := by
  unfold Ieee.Format.order at *
  revert h
  cases Ieee.double.read x <;> cases Ieee.double.read y <;> simp [Ieee.Datum.order]

set_option linter.unusedVariables false
theorem frombits (x : Int) (w : World) : (callFunc 16 #[.int .u64 x]).run Try.prog w = .ok (.value (.float .f64 x.toNat)) w := by kernel_rfl

theorem assert_float (v : Value) (w : World) : (Instr.typeAssert (.iface 57 v) 53 57 false).run Try.prog w = .ok v w := by kernel_rfl

theorem walk (a0 : Int) (a1 : Int) (w0 : (Lit.int .u64 a0).wf = true) (w1 : (Lit.int .u64 a1).wf = true) (w : World) :
    Calls Try.prog 6 #[.int .u64 a0, .int .u64 a1] w fun e w' => e = .returned (.bool true) ∧ Grown w w' := by
  have hf : FloatKind.f64.format = Ieee.double := rfl
  have hfb := frombits
  have hta := assert_float
  clear w0 w1
  rcases h : Ieee.double.order a0.toNat a1.toNat with _ | o
  · have hh := order_none h
    rcases order_self a0.toNat with hx | hx <;> rcases order_self a1.toNat with hy | hy
    case inr.inr => simp [hx, hy] at hh
    all_goals
      clear hh
      go_enter Try.func6, Try.ntmps6
      go_wp2
      go_quiet (fail)
      go_wp2
      go_ret
      exact ⟨rfl, by repeat (first | exact Grown.refl _ | apply Grown.drew | apply Grown.alloc)⟩
  · obtain ⟨hx, hy⟩ := order_some h
    cases o
    all_goals
      go_enter Try.func6, Try.ntmps6
      go_wp2
      go_quiet (fail)
      go_wp2
      go_ret
      exact ⟨rfl, by repeat (first | exact Grown.refl _ | apply Grown.drew | apply Grown.alloc)⟩
end Go.Proofs.Ytignkldgjplmeaa.fnFloatCmp
