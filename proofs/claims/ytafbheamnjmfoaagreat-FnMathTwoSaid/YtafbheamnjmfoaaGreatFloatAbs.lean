/-
  math.Abs; how a float stands to itself.
-/
import Derived.Test.YtafbheamnjmfoaaGreatFloatLaw
import Derived.Test.YtafbheamnjmfoaaGreatProg
import Derived.WalkKit
import Derived.LoopTactic
import Derived.Outline
import Derived.WalkSpells
import Derived.WalkLawsBesides
import Derived.Lib.Hide
import Derived.OpenShut
import Derived.Below
import Derived.Laws.FloatArith
import Derived.Laws.BitsAllLaws
import Derived.Deep.QuietTactic
import Derived.BigQuiet
import Derived.Deep.LoopGhost
namespace Go.Proofs.YtafbheamnjmfoaaGreat.Fl
open Go.RowKit Go.WideShapes
set_option linter.unusedVariables false

theorem frombits (x : Int) (w : World) : (callFunc 5 #[.int .u64 x]).run Tryz.prog w = .ok (.value (.float .f64 x.toNat)) w := by kernel_rfl
theorem tobits (b : Nat) (w : World) : (callFunc 24 #[.float .f64 b]).run Tryz.prog w = .ok (.value (.int .u64 (b : Int))) w := by kernel_rfl

theorem bv_of (a : BitVec 64) : BitVec.ofInt 64 (a.toNat : Int) = a := by
  rw [BitVec.ofInt_natCast, BitVec.ofNat_toNat, BitVec.setWidth_eq]
theorem wrap_bv (a : BitVec 64) : IntKind.u64.wrap (a.toNat : Int) = (a.toNat : Int) := by
  have := a.isLt
  rw [IntKind.wrap_u64]; omega
theorem bv_andNot (a b : BitVec 64) : bits BinOp.andNot .u64 (a.toNat : Int) (b.toNat : Int) = ((a &&& ~~~b).toNat : Int) := by
  show IntKind.u64.wrap ((BitVec.ofInt 64 _ &&& ~~~BitVec.ofInt 64 _).toNat : Int) = _
  rw [bv_of, bv_of, wrap_bv]
theorem low63 (b : Nat) (hb : b < 18446744073709551616) : bits BinOp.andNot .u64 (b : Int) 9223372036854775808 = ((b % 9223372036854775808 : Nat) : Int) := by
  have h := bv_andNot (BitVec.ofNat 64 b) 9223372036854775808#64
  rw [show ((BitVec.ofNat 64 b).toNat : Int) = b by rw [BitVec.toNat_ofNat, Nat.mod_eq_of_lt (by omega)]] at h
  rw [show (((9223372036854775808#64).toNat : Nat) : Int) = 9223372036854775808 from rfl] at h
  rw [h, show ~~~(9223372036854775808#64) = 9223372036854775807#64 by decide, BitVec.toNat_and, BitVec.toNat_ofNat, Nat.mod_eq_of_lt (by omega)]
  rw [show (9223372036854775807#64).toNat = 2 ^ 63 - 1 by decide, Nat.and_two_pow_sub_one_eq_mod]

set_option maxRecDepth 100000 in
theorem abs_any (b : Nat) (hb : b < 18446744073709551616) (w : World) :
    Calls Tryz.prog 48 #[.float .f64 b] w fun e w' => e = .returned (.float .f64 (b % 9223372036854775808)) ∧ w' = w := by
  have h1 := frombits
  have h2 := tobits
  have h3 := low63 b hb
  obtain ⟨R, hR⟩ : ∃ R, b % 9223372036854775808 = R := ⟨_, rfl⟩
  rw [hR] at h3 ⊢
  clear hR
  go_enter Tryz.func48, Tryz.ntmps48
  go_wp2
  go_ret
  exact ⟨by simp, rfl⟩

theorem order_self (x : Nat) : Ieee.double.order x x = none ∨ Ieee.double.order x x = some .eq := by
  unfold Ieee.Format.order
  cases Ieee.double.read x <;> simp [Ieee.Datum.order]
theorem order_none {x y : Nat} (h : Ieee.double.order x y = none) : Ieee.double.order x x = none ∨ Ieee.double.order y y = none := by
  unfold Ieee.Format.order at *
  revert h
  cases Ieee.double.read x <;> cases Ieee.double.read y <;> simp [Ieee.Datum.order]
theorem order_some {x y : Nat} {o : Ordering} (h : Ieee.double.order x y = some o) : Ieee.double.order x x = some .eq ∧ Ieee.double.order y y = some .eq := by
  unfold Ieee.Format.order at *
  revert h
  cases Ieee.double.read x <;> cases Ieee.double.read y <;> simp [Ieee.Datum.order]

end Go.Proofs.YtafbheamnjmfoaaGreat.Fl
