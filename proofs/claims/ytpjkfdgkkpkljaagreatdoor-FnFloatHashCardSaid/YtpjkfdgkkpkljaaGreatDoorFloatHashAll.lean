/-
  FnFloatHash: the walk.
-/
import Derived.Test.YtpjkfdgkkpkljaaGreatDoorFloatHashLaw
import Derived.Test.YtpjkfdgkkpkljaaGreatDoorRatCut
namespace Go.Proofs.YtpjkfdgkkpkljaaGreatDoor.fnFloatHash
open Go.RowKit
theorem walk (a0 : Int) (a1 : Int) (w0 : (Lit.int .u64 a0).wf = true) (w1 : (Lit.int .u64 a1).wf = true) (w : World) (_hT : True) :
    Calls Tryz.prog 4 #[.int .u64 a0, .int .u64 a1] w fun e w' => e = .returned (.bool true) ∧ Below w.heap.size w w' := by
  have b0 := bounds_u64 w0
  have b1 := bounds_u64 w1
  obtain ⟨x, rfl⟩ : ∃ x : Nat, a0 = x := ⟨a0.toNat, by omega⟩
  obtain ⟨y, rfl⟩ : ∃ y : Nat, a1 = y := ⟨a1.toNat, by omega⟩
  exact Big.law_any Big.cuts x y (by omega) (by omega) w
end Go.Proofs.YtpjkfdgkkpkljaaGreatDoor.fnFloatHash
