/-
  finiteFloatToInt of a float that an int64 has room for.
-/
import Derived.Test.YtpjkfdgkkpkljaaGreatDoorStarSmall
import Derived.Test.YtpjkfdgkkpkljaaGreatDoorFloatLaw
import Derived.Laws.FloatArith
namespace Go.Proofs.YtpjkfdgkkpkljaaGreatDoor.Big
open Go.RowKit Go.WideShapes Go.Proofs.YtpjkfdgkkpkljaaGreatDoor.Own Go.Proofs.YtpjkfdgkkpkljaaGreatDoor.Num Go.Proofs.YtpjkfdgkkpkljaaGreatDoor.Ref Go.Proofs.YtpjkfdgkkpkljaaGreatDoor.Nat_ Go.Proofs.YtpjkfdgkkpkljaaGreatDoor.Fl
set_option linter.unusedVariables false

theorem own_SAt {w : World} {v : Value} {z : Int} (h : SAt w v z) {b : Nat} {t : TypeId} {cs : Array Value} (hb : Box.Holds w b t cs) (ht : t ≠ 111) (ht' : t ≠ 85) (i : Nat) (u : Value) : SAt (w.setCell ⟨b, i, none⟩ u) v z := by
  rcases h with h | ⟨g, neg, V, h1, h2, h3⟩
  · exact .inl h
  · exact .inr ⟨g, neg, V, h1, h2.apart hb ht ht' i u, h3⟩
theorem SAt.shape {w : World} {v : Value} {z : Int} (h : SAt w v z) : ∃ a p, v = .agg #[.int .i64 a, .pointer p] := by
  rcases h with ⟨rfl, _⟩ | ⟨g, neg, V, rfl, _⟩
  · exact ⟨_, _, rfl⟩
  · exact ⟨_, _, rfl⟩

set_option maxHeartbeats 1000000 in
set_option maxRecDepth 100000 in
theorem fti_small (b : Nat) (hs : Small b) (w : World) :
    Calls Tryz.prog 55 #[.float .f64 b] w fun e w' => (∃ v, e = .returned v ∧ SAt w' v (ftrunc b)) ∧ Below w.heap.size w w' := by
  have c1 : (FloatKind.f64.format.order 14114281232179134464 b == some .lt || FloatKind.f64.format.order 14114281232179134464 b == some .eq) = true := by
    rcases small_low b hs with h | h
    · rw [show FloatKind.f64.format.order 14114281232179134464 b = some .lt from h]; rfl
    · rw [show FloatKind.f64.format.order 14114281232179134464 b = some .eq from h]; rfl
  have c2 : (FloatKind.f64.format.order b 4890909195324358656 == some .lt) = true := by
    rw [show FloatKind.f64.format.order b 4890909195324358656 = some .lt from small_high b hs]; rfl
  have hfit := small_fits b hs
  have hexp : fexp b < 2047 := by rcases hs with h | ⟨_, h, _⟩ <;> omega
  have hcv : floatToIntVal .f64 b .i64 = some (ftrunc b) := by
    unfold floatToIntVal
    rw [show (FloatKind.f64.decode b).toInt .zero = some (ftrunc b) from toInt_num b hexp]
    exact if_pos hfit
  obtain ⟨Z, hZ⟩ : ∃ Z, ftrunc b = Z := ⟨_, rfl⟩
  rw [hZ] at hfit hcv ⊢
  have hmi := Lib.hid fun w => mi64_any Z hfit.1 hfit.2 w
  have hcv' : ∀ w', (convert 70 2 (.float .f64 b)).run Tryz.prog w' = .ok (.int .i64 Z) w' := fun w' => run_convert_float_int _ _ _ _ _ _ _ (by kernel_rfl) (by kernel_rfl) hcv
  clear hcv hexp hZ hs hfit
  go_enter Tryz.func55, Tryz.ntmps55
  go_wp2_with fail
  refine (hmi.out _).mono ?_
  rintro e w1 ⟨⟨v, rfl, hv⟩, hb1⟩
  obtain ⟨a, p, rfl⟩ := hv.shape
  have hk : Box.Holds w1 w.heap.size 61 #[.int .i64 0, .pointer none] := (Box.Holds.made w _ _).later hb1
  have hl1 := hk.lt
  have k0 := hk.cell 0
  have k1 := hk.cell 1
  simp at k0 k1
  have f0 := hk.free 0
  have f1 := hk.free 1
  have hv' := Lib.hid (own_SAt (own_SAt hv hk (by decide) (by decide) 0 (.int .i64 a)) (hk.put 0 _) (by decide) (by decide) 1 (.pointer p))
  clear hv
  go_wp2
  exact bodyPost_ret (v := .agg #[.int .i64 a, .pointer p]) (by simp [results, Tryz.results55, go_sem, k0, k1]) rfl ⟨⟨_, rfl, hv'.out⟩, ((((below_one _ (Nat.le_refl _)).trans (hb1.mono (by simp))).setCell (p := ⟨w.heap.size, 0, none⟩) (Nat.le_refl _) _).setCell (p := ⟨w.heap.size, 1, none⟩) (Nat.le_refl _) _)⟩
end Go.Proofs.YtpjkfdgkkpkljaaGreatDoor.Big
