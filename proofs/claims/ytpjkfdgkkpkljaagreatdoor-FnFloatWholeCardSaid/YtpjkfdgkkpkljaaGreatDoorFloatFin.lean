/-
  math.Abs, isFinite, the reference's CmpFloats.
-/
import Derived.Test.YtpjkfdgkkpkljaaGreatDoorFloatInt
namespace Go.Proofs.YtpjkfdgkkpkljaaGreatDoor.Fl
open Go.RowKit Go.WideShapes
set_option linter.unusedVariables false

theorem frombits (x : Int) (w : World) : (callFunc 15 #[.int .u64 x]).run Tryz.prog w = .ok (.value (.float .f64 x.toNat)) w := by kernel_rfl
theorem tobits (b : Nat) (w : World) : (callFunc 19 #[.float .f64 b]).run Tryz.prog w = .ok (.value (.int .u64 (b : Int))) w := by kernel_rfl

theorem bv_of (a : BitVec 64) : BitVec.ofInt 64 (a.toNat : Int) = a := by
  rw [BitVec.ofInt_natCast, BitVec.ofNat_toNat, BitVec.setWidth_eq]
theorem wrap_bv (a : BitVec 64) : IntKind.u64.wrap (a.toNat : Int) = (a.toNat : Int) := by
  have := a.isLt
  rw [IntKind.wrap_u64]; omega
theorem bv_andNot (a b : BitVec 64) : bits BinOp.andNot .u64 (a.toNat : Int) (b.toNat : Int) = ((a &&& ~~~b).toNat : Int) := by
  show IntKind.u64.wrap ((BitVec.ofInt 64 _ &&& ~~~BitVec.ofInt 64 _).toNat : Int) = _
  rw [bv_of, bv_of, wrap_bv]
theorem low63 (b : Nat) (hb : b < 18446744073709551616) : bits BinOp.andNot .u64 (b : Int) 9223372036854775808 = ((b % 9223372036854775808 : Nat) : Int) := by
  have h := bv_andNot (BitVec.ofNat 64 b) 9223372036854775808#64
  rw [show ((BitVec.ofNat 64 b).toNat : Int) = b by rw [BitVec.toNat_ofNat, Nat.mod_eq_of_lt (by omega)]] at h
  rw [show (((9223372036854775808#64).toNat : Nat) : Int) = 9223372036854775808 from rfl] at h
  rw [h, show ~~~(9223372036854775808#64) = 9223372036854775807#64 by decide, BitVec.toNat_and, BitVec.toNat_ofNat, Nat.mod_eq_of_lt (by omega)]
  rw [show (9223372036854775807#64).toNat = 2 ^ 63 - 1 by decide, Nat.and_two_pow_sub_one_eq_mod]

set_option maxRecDepth 100000 in
theorem abs_any (b : Nat) (hb : b < 18446744073709551616) (w : World) :
    Calls Tryz.prog 57 #[.float .f64 b] w fun e w' => e = .returned (.float .f64 (b % 9223372036854775808)) ∧ w' = w := by
  have h1 := frombits
  have h2 := tobits
  have h3 := low63 b hb
  obtain ⟨R, hR⟩ : ∃ R, b % 9223372036854775808 = R := ⟨_, rfl⟩
  rw [hR] at h3 ⊢
  clear hR
  go_enter Tryz.func57, Tryz.ntmps57
  go_wp2
  go_ret
  exact ⟨by simp, rfl⟩

set_option maxRecDepth 100000 in
theorem isfin_any (b : Nat) (hb : b < 18446744073709551616) (w : World) :
    Calls Tryz.prog 54 #[.float .f64 b] w fun e w' => e = .returned (.bool (decide (fexp b < 2047))) ∧ w' = w := by
  have h := Lib.hid fun w => abs_any b hb w
  have hf : (FloatKind.f64.format.order (b % 9223372036854775808) 9218868437227405311 == some .lt || FloatKind.f64.format.order (b % 9223372036854775808) 9218868437227405311 == some .eq) = decide (fexp b < 2047) := by
    rw [show FloatKind.f64.format = Ieee.double from rfl]
    rcases fexp_cases b with h1 | h1
    · rcases finite_le b h1 with h2 | h2 <;> simp [h2, h1]
    · rcases infinite_not b h1 with h2 | h2 <;> simp [h2, h1]
  go_enter Tryz.func54, Tryz.ntmps54
  go_wp2_with fail
  refine (h.out _).mono ?_
  rintro e w1 ⟨rfl, rfl⟩
  go_wp2
  go_ret
  exact ⟨rfl, rfl⟩

theorem order_self (x : Nat) : Ieee.double.order x x = none ∨ Ieee.double.order x x = some .eq := by
  unfold Ieee.Format.order
  cases Ieee.double.read x <;> simp [Ieee.Datum.order]
theorem order_none {x y : Nat} (h : Ieee.double.order x y = none) : Ieee.double.order x x = none ∨ Ieee.double.order y y = none := by
  unfold Ieee.Format.order at *
  revert h
  cases Ieee.double.read x <;> cases Ieee.double.read y <;> simp [Ieee.Datum.order]
theorem order_some {x y : Nat} {o : Ordering} (h : Ieee.double.order x y = some o) : Ieee.double.order x x = some .eq ∧ Ieee.double.order y y = some .eq := by
  unfold Ieee.Format.order at *
  revert h
  cases Ieee.double.read x <;> cases Ieee.double.read y <;> simp [Ieee.Datum.order]

/-- what the reference's comparison tells -/
def cmpF (x y : Nat) : Int :=
  match Ieee.double.order x y with
  | some .eq => 0
  | some .lt => -1
  | some .gt => 1
  | none => if Ieee.double.order x x = none then (if Ieee.double.order y y = none then 0 else 1) else -1
set_option maxHeartbeats 1000000 in
set_option maxRecDepth 100000 in
theorem cmpf_any (x y : Nat) (w : World) :
    Calls Tryz.prog 14 #[.float .f64 x, .float .f64 y] w fun e w' => e = .returned (.int .i64 (cmpF x y)) ∧ w' = w := by
  have hf : FloatKind.f64.format = Ieee.double := rfl
  rcases h : Ieee.double.order x y with _ | o
  · have hh := order_none h
    rcases order_self x with hx | hx <;> rcases order_self y with hy | hy
    case inr.inr => simp [hx, hy] at hh
    all_goals
      simp only [cmpF, h, hx, hy, if_true, reduceCtorEq, if_false]
      clear hh
      go_enter Tryz.func14, Tryz.ntmps14
      go_wp2
      go_ret
      exact ⟨rfl, rfl⟩
  · obtain ⟨hx, hy⟩ := order_some h
    cases o
    all_goals
      simp only [cmpF, h]
      go_enter Tryz.func14, Tryz.ntmps14
      go_wp2
      go_ret
      exact ⟨rfl, rfl⟩
end Go.Proofs.YtpjkfdgkkpkljaaGreatDoor.Fl
