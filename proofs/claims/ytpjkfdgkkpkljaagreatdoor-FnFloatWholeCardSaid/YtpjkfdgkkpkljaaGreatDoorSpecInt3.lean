/-
  The reference's integers: their signs, and how two compare.
-/
import Derived.Test.YtpjkfdgkkpkljaaGreatDoorSpecInt2
import Derived.Deep.RegionWith
import Derived.Deep.DrawnRows
import Derived.Deep.DeepCutAuto
namespace Go.Proofs.YtpjkfdgkkpkljaaGreatDoor.Ref
open Go.RowKit Go.WideShapes Go.Proofs.YtpjkfdgkkpkljaaGreatDoor.Own Go.Proofs.YtpjkfdgkkpkljaaGreatDoor.Num
set_option linter.unusedVariables false

theorem mag_pos (m : Nat) : 0 < (mag m).length ↔ 0 < m := by rw [mag_length]; exact len_pos (by omega)

set_option maxRecDepth 100000 in
theorem zero_any (x : Value) (neg : Bool) (m B : Nat) (w : World) (h : IsInt w B x neg m) (hm : (mag m).length ≤ 2147483647) :
    Calls Tryz.prog 7 #[x] w fun e w' => e = .returned (.bool (decide (m = 0))) ∧ ∃ o, w' = w.alloc o := by
  obtain ⟨u, rfl, ho, hpos⟩ := h
  obtain ⟨a, cap, rfl, hr, hc⟩ := Rd.of_own ho
  have hp := mag_pos m
  obtain ⟨n, hn⟩ : ∃ n, (mag m).length = n := ⟨_, rfl⟩
  rw [hn] at hm hc hp ⊢
  have k1 : (w.alloc (.cells #[.bool neg, .slice a n cap] 24)).cell? ⟨w.heap.size, 1, none⟩ = some (.slice a n cap) := by rw [World.cell?_alloc_at _ _ _ _ rfl]; rfl
  clear hn hr ho hpos
  by_cases h0 : m = 0
  · have hb : ((n : Int) == 0) = true := by simp; omega
    have hd : decide (m = 0) = true := by simp [h0]
    rw [hd]
    clear h0 hp hd
    go_enter Tryz.func7, Tryz.ntmps7
    go_wp2
    go_ret
    exact ⟨rfl, _, rfl⟩
  · have hb : ((n : Int) == 0) = false := by simp; omega
    have hd : decide (m = 0) = false := by simp [h0]
    rw [hd]
    clear h0 hp hd
    go_enter Tryz.func7, Tryz.ntmps7
    go_wp2
    go_ret
    exact ⟨rfl, _, rfl⟩

end Go.Proofs.YtpjkfdgkkpkljaaGreatDoor.Ref
