/-
  FnFloatHash, given what finiteFloatToInt leaves.
-/
import Derived.Test.YtpjkfdgkkpkljaaGreatDoorFloatHash
namespace Go.Proofs.YtpjkfdgkkpkljaaGreatDoor.Big
open Go.RowKit Go.WideShapes Go.Proofs.YtpjkfdgkkpkljaaGreatDoor.Own Go.Proofs.YtpjkfdgkkpkljaaGreatDoor.Num Go.Proofs.YtpjkfdgkkpkljaaGreatDoor.Ref Go.Proofs.YtpjkfdgkkpkljaaGreatDoor.Nat_ Go.Proofs.YtpjkfdgkkpkljaaGreatDoor.Fl
set_option linter.unusedVariables false

theorem hash_eq {a b : Nat} (h : cmpF a b = 0) : fhashOf a = fhashOf b := by
  unfold fhashOf
  rcases ho : Ieee.double.order a b with _ | o
  · have hn := order_none ho
    simp only [cmpF, ho] at h
    have ha : Ieee.double.order a a = none := by
      by_cases hx : Ieee.double.order a a = none
      · exact hx
      · simp [hx] at h
    have hb : Ieee.double.order b b = none := by
      by_cases hx : Ieee.double.order b b = none
      · exact hx
      · simp [hx, ha] at h
    rw [if_neg (by rw [nan_exp ha]; omega), if_neg (by rw [nan_exp hb]; omega)]
  · cases o
    · simp [cmpF, ho] at h
    · have he := eq_exp ho
      by_cases hx : fexp a < 2047
      · rw [if_pos hx, if_pos (he.1 hx), eq_trunc hx (he.1 hx) ho]
      · rw [if_neg hx, if_neg (fun h' => hx (he.2 h'))]
    · simp [cmpF, ho] at h

theorem floatof_any (b : Nat) (w : World) : Calls Tryz.prog 30 #[.int .u64 (b : Int)] w fun e w' => e = .returned (.float .f64 b) ∧ w' = w := by
  have h1 := frombits
  go_enter Tryz.func30, Tryz.ntmps30
  go_wp2
  go_ret
  exact ⟨by simp, rfl⟩
theorem told_ok (h : Int) (w : World) : Calls Tryz.prog 29 #[.int .u32 h, .nilIface] w fun e w' => e = .returned (.tuple #[.int .u32 h, .bool true]) ∧ w' = w := by
  go_enter Tryz.func29, Tryz.ntmps29
  go_wp2
  exact bodyPost_ret (v := .tuple #[.int .u32 h, .bool true]) (by simp [results, Tryz.results29, go_sem]) rfl ⟨rfl, rfl⟩

set_option maxHeartbeats 1000000 in
set_option maxRecDepth 100000 in
theorem ifhash_any (hC : Cuts) (b : Nat) (hb : b < 18446744073709551616) (w : World) :
    Calls Tryz.prog 13 #[.int .u64 (b : Int)] w fun e w' => e = .returned (.tuple #[.int .u32 (fhashOf b), .bool true]) ∧ Below w.heap.size w w' := by
  have hi := Lib.hid fun w => fhash_any hC b hb w
  clear hC
  go_enter Tryz.func13, Tryz.ntmps13
  go_wp2_with fail
  refine (floatof_any b _).mono ?_
  rintro e w1 ⟨rfl, rfl⟩
  go_wp2_with fail
  refine (hi.out _).mono ?_
  rintro e w1 ⟨rfl, hb1⟩
  go_wp2_with fail
  refine (told_ok _ _).mono ?_
  rintro e w2 ⟨rfl, rfl⟩
  go_wp2
  exact bodyPost_ret (v := .tuple #[.int .u32 (fhashOf b), .bool true]) (by simp [results, Tryz.results13, go_sem]) rfl ⟨rfl, hb1⟩

set_option maxHeartbeats 2000000 in
set_option maxRecDepth 100000 in
theorem law_any (hC : Cuts) (x y : Nat) (hx : x < 18446744073709551616) (hy : y < 18446744073709551616) (w : World) :
    Calls Tryz.prog 4 #[.int .u64 (x : Int), .int .u64 (y : Int)] w fun e w' => e = .returned (.bool true) ∧ Below w.heap.size w w' := by
  have hi := Lib.hid fun w => ifhash_any hC x hx w
  have hj := Lib.hid fun w => ifhash_any hC y hy w
  have hc := Lib.hid fun w => cmpf_any x y w
  have h1 := frombits
  have he := @hash_eq x y
  obtain ⟨A, hA⟩ : ∃ A, fhashOf x = A := ⟨_, rfl⟩
  obtain ⟨B, hB⟩ : ∃ B, fhashOf y = B := ⟨_, rfl⟩
  obtain ⟨C, hC'⟩ : ∃ C, cmpF x y = C := ⟨_, rfl⟩
  rw [hA] at hi he
  rw [hB] at hj he
  rw [hC'] at hc he
  clear hC hA hB hC' hx hy
  by_cases h0 : C = 0
  · have heq := he h0
    subst heq
    subst h0
    clear he
    go_enter Tryz.func4, Tryz.ntmps4
    go_wp2_with fail
    refine (hi.out _).mono ?_
    rintro e w1 ⟨rfl, hb1⟩
    go_wp2_with fail
    refine (hj.out _).mono ?_
    rintro e w2 ⟨rfl, hb2⟩
    go_wp2_with fail
    refine (hc.out _).mono ?_
    rintro e w3 ⟨rfl, rfl⟩
    go_wp2
    go_ret
    exact ⟨rfl, hb1.trans (hb2.mono hb1.size)⟩
  · clear he
    go_enter Tryz.func4, Tryz.ntmps4
    go_wp2_with fail
    refine (hi.out _).mono ?_
    rintro e w1 ⟨rfl, hb1⟩
    go_wp2_with fail
    refine (hj.out _).mono ?_
    rintro e w2 ⟨rfl, hb2⟩
    go_wp2_with fail
    refine (hc.out _).mono ?_
    rintro e w3 ⟨rfl, rfl⟩
    go_wp2
    go_ret
    exact ⟨rfl, hb1.trans (hb2.mono hb1.size)⟩
end Go.Proofs.YtpjkfdgkkpkljaaGreatDoor.Big
