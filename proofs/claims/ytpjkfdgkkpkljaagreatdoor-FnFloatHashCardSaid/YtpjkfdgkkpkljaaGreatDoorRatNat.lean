/-
  The package's natural numbers: one, and what a division by one gives.
-/
import Derived.Test.YtpjkfdgkkpkljaaGreatDoorNatLsh
import Derived.Test.YtpjkfdgkkpkljaaGreatDoorBigSet
import Derived.Defers
namespace Go.Proofs.YtpjkfdgkkpkljaaGreatDoor.Big
open Go.RowKit Go.WideShapes Go.Proofs.YtpjkfdgkkpkljaaGreatDoor.Own Go.Proofs.YtpjkfdgkkpkljaaGreatDoor.Num Go.Proofs.YtpjkfdgkkpkljaaGreatDoor.Ref Go.Proofs.YtpjkfdgkkpkljaaGreatDoor.Nat_
set_option linter.unusedVariables false

theorem words_1 : words 1 = [1] := by decide +kernel
theorem one_made (w : World) : IsNat (w.alloc (.cells #[.int .u64 1] 111)) w.heap.size (.slice (some ⟨w.heap.size, 0, none⟩) 1 1) 1 := by
  unfold IsNat OwnW
  rw [words_1]
  exact World.ownsRow_lit (base := w.heap.size) (e := 111) (size := 1) w #[.int .u64 1] 1 (Nat.le_refl _) (by decide) (by simp)
theorem natone_any (w : World) : Calls Tryz.prog 116 #[] w fun e w' => e = .returned (.slice (some ⟨w.heap.size, 0, none⟩) 1 1) ∧ w' = w.alloc (.cells #[.int .u64 1] 111) := by
  go_enter Tryz.func116, Tryz.ntmps116
  go_wp2
  go_ret
  exact ⟨rfl, rfl⟩
set_option maxRecDepth 100000 in
theorem intone_any (w : World) : Calls Tryz.prog 94 #[] w fun e w' => e = .returned (.pointer (some ⟨w.heap.size + 1, 0, none⟩)) ∧ w' = (w.alloc (.cells #[.int .u64 1] 111)).alloc (.cells #[.bool false, .slice (some ⟨w.heap.size, 0, none⟩) 1 1] 85) := by
  have h := Lib.hid fun W => natone_any W
  go_enter Tryz.func94, Tryz.ntmps94
  go_wp2_with fail
  refine (h.out _).mono ?_
  rintro e w' ⟨rfl, rfl⟩
  go_wp2
  go_ret
  exact ⟨by simp, rfl⟩
set_option maxRecDepth 100000 in
theorem setword_zero (w : World) : Calls Tryz.prog 84 #[.slice none 0 0, .int .u64 0] w fun e w' => e = .returned (.slice none 0 0) ∧ w = w' := by
  go_enter Tryz.func84, Tryz.ntmps84
  go_wp2
  go_ret
  exact ⟨rfl, rfl⟩

def Halves (w : World) (X : Nat) (r : Value) (e : Ending) (w' : World) : Prop := (∃ u, e = .returned (.tuple #[u, r]) ∧ IsNat w' w.heap.size u X) ∧ Below w.heap.size w w'
set_option maxRecDepth 100000 in
theorem divw_one (v : Value) (X B : Nat) (w : World) (h : IsNat w B v X) (hm : len W X ≤ 10000) : Calls Tryz.prog 83 #[.slice none 0 0, v, .int .u64 1] w (Halves w X (.int .u64 0)) := by
  have hs := Lib.hid (nset_any v X B w h hm)
  obtain ⟨a, c, rfl, hc, hr⟩ := h.slice
  obtain ⟨n, hn⟩ : ∃ n, len W X = n := ⟨_, rfl⟩
  rw [hn] at hs hc hm ⊢
  clear h hr hn
  go_enter Tryz.func83, Tryz.ntmps83
  go_wp2_with fail
  refine hs.out.mono ?_
  rintro e w' ⟨⟨u, rfl, hu⟩, hb⟩
  have hfin := Lib.hid (show Halves w X (.int .u64 0) (.returned (.tuple #[u, .int .u64 0])) w' from ⟨⟨u, rfl, hu⟩, hb⟩)
  clear hu hb hs
  go_wp2
  go_ret2
  exact hfin.out
set_option maxRecDepth 100000 in
theorem div_one (v d : Value) (X B B2 : Nat) (w : World) (h : IsNat w B v X) (hm : len W X ≤ 10000) (hd : IsNat w B2 d 1) : Calls Tryz.prog 68 #[.slice none 0 0, .pointer none, .slice none 0 0, v, d] w (Halves w X (.slice none 0 0)) := by
  have hs := Lib.hid (divw_one v X B w h hm)
  have hz := Lib.hid fun W => setword_zero W
  obtain ⟨a, c, rfl, hc, hr⟩ := h.slice
  have hd' : w.ownsRow B2 111 1 d 1 [.int .u64 1] := by
    have := hd
    unfold IsNat OwnW at this
    rw [words_1] at this
    exact this
  obtain ⟨g, cd, rfl, hg, hc0⟩ : ∃ g cd, d = .slice (some ⟨g, 0, none⟩) 1 cd ∧ g < w.heap.size ∧ w.cell? ⟨g, 0, none⟩ = some (.int .u64 1) := by
    rcases id hd'.2 with ⟨_, h0⟩ | ⟨g, cd, cur, rfl, _, hg, _⟩
    · cases h0
    · exact ⟨g, cd, rfl, (Array.getElem?_eq_some_iff.1 hg).1, World.ownsRow.cellAt hd' 0 (by decide)⟩
  obtain ⟨n, hn⟩ : ∃ n, len W X = n := ⟨_, rfl⟩
  rw [hn] at hs hc hm ⊢
  clear h hr hn hd hd'
  go_enter Tryz.func68, Tryz.ntmps68
  go_wp2_with fail
  refine hs.out.mono ?_
  rintro e w' ⟨⟨u, rfl, hu⟩, hb⟩
  have hfin := Lib.hid (show Halves w X (.slice none 0 0) (.returned (.tuple #[u, .slice none 0 0])) w' from ⟨⟨u, rfl, hu⟩, hb⟩)
  clear hu hb hs
  go_wp2_with fail
  refine (hz.out _).mono ?_
  rintro e w' ⟨rfl, rfl⟩
  go_wp2
  go_ret2
  exact hfin.out
end Go.Proofs.YtpjkfdgkkpkljaaGreatDoor.Big
