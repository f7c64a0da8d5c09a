/-
  (starlark.Float).Hash, given what finiteFloatToInt leaves.
-/
import Derived.Test.YtpjkfdgkkpkljaaGreatDoorIntHash
namespace Go.Proofs.YtpjkfdgkkpkljaaGreatDoor.Big
open Go.RowKit Go.WideShapes Go.Proofs.YtpjkfdgkkpkljaaGreatDoor.Own Go.Proofs.YtpjkfdgkkpkljaaGreatDoor.Num Go.Proofs.YtpjkfdgkkpkljaaGreatDoor.Ref Go.Proofs.YtpjkfdgkkpkljaaGreatDoor.Nat_ Go.Proofs.YtpjkfdgkkpkljaaGreatDoor.Fl
set_option linter.unusedVariables false

/-- what a finite float's cut leaves -/
def Cuts : Prop := ∀ b, b < 18446744073709551616 → fexp b < 2047 → ∀ w : World, Calls Tryz.prog 55 #[.float .f64 b] w fun e w' => (∃ v, e = .returned v ∧ SAt w' v (ftrunc b)) ∧ Below w.heap.size w w'
def fhashOf (b : Nat) : Int := if fexp b < 2047 then hashOf (ftrunc b) else 1618033

set_option maxHeartbeats 1000000 in
set_option maxRecDepth 100000 in
theorem fhash_any (hC : Cuts) (b : Nat) (hb : b < 18446744073709551616) (w : World) :
    Calls Tryz.prog 31 #[.float .f64 b] w fun e w' => e = .returned (.tuple #[.int .u32 (fhashOf b), .nilIface]) ∧ Below w.heap.size w w' := by
  have hi := Lib.hid fun w => isfin_any b hb w
  unfold fhashOf
  by_cases h : fexp b < 2047
  · have hc := Lib.hid (hC b hb h)
    simp only [h, decide_true, if_true] at hi ⊢
    clear hC
    go_enter Tryz.func31, Tryz.ntmps31
    go_wp2_with fail
    refine (hi.out _).mono ?_
    rintro e w1 ⟨rfl, rfl⟩
    go_wp2_with fail
    refine (hc.out _).mono ?_
    rintro e w2 ⟨⟨v, rfl, hv⟩, hb1⟩
    go_wp2_with fail
    refine (ihash_any v _ _ hv).mono ?_
    rintro e w3 ⟨rfl, hb2⟩
    go_wp2
    exact bodyPost_ret (v := .tuple #[.int .u32 (hashOf (ftrunc b)), .nilIface]) (by simp [results, Tryz.results31, go_sem]) rfl ⟨rfl, hb1.trans (hb2.mono hb1.size)⟩
  · simp only [h, decide_false, if_false] at hi ⊢
    clear hC
    go_enter Tryz.func31, Tryz.ntmps31
    go_wp2_with fail
    refine (hi.out _).mono ?_
    rintro e w1 ⟨rfl, rfl⟩
    go_wp2
    exact bodyPost_ret (v := .tuple #[.int .u32 1618033, .nilIface]) (by simp [results, Tryz.results31, go_sem]) rfl ⟨rfl, Below.refl _ _⟩
end Go.Proofs.YtpjkfdgkkpkljaaGreatDoor.Big
