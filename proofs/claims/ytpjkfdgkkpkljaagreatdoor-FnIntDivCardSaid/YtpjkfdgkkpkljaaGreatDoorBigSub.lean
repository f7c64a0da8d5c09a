/-
  An integer of the package made less by one, in place, where it is not above 0.
-/
import Derived.Test.YtpjkfdgkkpkljaaGreatDoorNatPlus
import Derived.Test.YtpjkfdgkkpkljaaGreatDoorBigStar
import Derived.Deep.RegionHeld3
import Derived.StillTailTactics
namespace Go.Proofs.YtpjkfdgkkpkljaaGreatDoor.Nat_
open Go.RowKit Go.WideShapes Go.Proofs.YtpjkfdgkkpkljaaGreatDoor.Own Go.Proofs.YtpjkfdgkkpkljaaGreatDoor.Num Go.Proofs.YtpjkfdgkkpkljaaGreatDoor.Ref
set_option linter.unusedVariables false

theorem nadd_up (v : Value) (X B h cy By : Nat) (w0 w : World) (hX : IsNat w B v X) (hX0 : 0 < X) (hm2 : len W X ≤ 5000) (hb : Below B w0 w) (hB : B ≤ w.heap.size) (hY : IsNat w By (.slice (some ⟨h, 0, none⟩) 1 cy) 1) (hcy : 1 ≤ cy) :
    Calls Tryz.prog 69 #[v, v, .slice (some ⟨h, 0, none⟩) 1 cy] w fun e w' => (∃ u, e = .returned u ∧ IsNat w' B u (X + 1)) ∧ Below B w0 w' := by
  obtain ⟨a, c, rfl, hc, -⟩ := hX.slice
  obtain ⟨m, hm⟩ : ∃ m, len W X = m := ⟨_, rfl⟩
  rw [hm] at hX hc hm2 ⊢
  have hm0 : 0 < m := by have := (len_pos W_two (v := X)).2 hX0; omega
  obtain ⟨g, rfl, hBg, -⟩ := hX.some_of hm (by omega)
  refine nadd_main _ m c X 1 m 1 g c h cy B w0 w (by rw [← hm]; exact len_lt W_two X) (by rw [W_eq]; decide) ?_ (by omega) (by omega) (by omega) hc hcy
  by_cases hcm : c < m + 1
  · exact made_add_new hX hm hY len_of_one (by omega) hb hB hcm
  · exact made_add_self hX hm hY len_of_one (by omega) hb hBg (by omega)
set_option maxHeartbeats 1000000 in
set_option maxRecDepth 100000 in
/-- 1, and nothing taken away -/
theorem nsub_none (za : Option Addr) (zc h cy B By : Nat) (w0 w : World) (hz : IsNat w B (.slice za 0 zc) 0) (hY : IsNat w By (.slice (some ⟨h, 0, none⟩) 1 cy) 1) (hcy : 1 ≤ cy) (hb : Below B w0 w) (hB : B ≤ w.heap.size) :
    Calls Tryz.prog 71 #[.slice za 0 zc, .slice (some ⟨h, 0, none⟩) 1 cy, .slice za 0 zc] w fun e w' => (∃ u, e = .returned u ∧ IsNat w' B u 1) ∧ Below B w0 w' := by
  have hset : Hid (Calls Tryz.prog 80 #[.slice za 0 zc, .slice (some ⟨h, 0, none⟩) 1 cy] w fun e w' => (∃ u, e = .returned u ∧ IsNat w' B u 1) ∧ Below B w0 w') := Lib.hid (by
    refine nset_main za 0 zc 1 1 h cy B w0 w len_of_one ?_ (by omega) (by omega) hcy
    refine made_set hY len_of_one (by omega) (by omega) hb hB ?_
    rcases hz.2 with ⟨e, _⟩ | ⟨g, c', cur, e, hBg, -⟩
    · simp only [Value.slice.injEq] at e
      obtain ⟨rfl, -, rfl⟩ := e
      exact .inl (by omega)
    · simp only [Value.slice.injEq] at e
      obtain ⟨rfl, -, rfl⟩ := e
      by_cases hc1 : zc < 1
      · exact .inl hc1
      · exact .inr ⟨g, 0, 0, rfl, hz, rfl, by omega, by omega, hBg⟩)
  clear hz hY
  go_enter Tryz.func71, Tryz.ntmps71
  go_wp2_with fail
  refine hset.out.mono ?_
  rintro e w1 ⟨⟨u, rfl, hu⟩, hb⟩
  go_wp2
  go_ret
  exact ⟨⟨_, rfl, hu⟩, hb⟩
end Go.Proofs.YtpjkfdgkkpkljaaGreatDoor.Nat_
namespace Go.Proofs.YtpjkfdgkkpkljaaGreatDoor.Big
open Go.RowKit Go.WideShapes Go.Proofs.YtpjkfdgkkpkljaaGreatDoor Go.Proofs.YtpjkfdgkkpkljaaGreatDoor.Own Go.Proofs.YtpjkfdgkkpkljaaGreatDoor.Num Go.Proofs.YtpjkfdgkkpkljaaGreatDoor.Ref Go.Proofs.YtpjkfdgkkpkljaaGreatDoor.Nat_
set_option linter.unusedVariables false

set_option maxHeartbeats 2000000 in
set_option maxRecDepth 100000 in
theorem bsub_up (g h B Q : Nat) (u : Value) (w : World) (hg : Box.Holds w g 85 #[.bool true, u]) (hn : IsNat w B u Q) (hgB : g < B) (hB : B ≤ w.heap.size) (hQ : 0 < Q) (hh : BigAt w h false 1) (hne : h ≠ g) (hm : len W Q ≤ 5000) :
    Calls Tryz.prog 51 #[.pointer (some ⟨g, 0, none⟩), .pointer (some ⟨g, 0, none⟩), .pointer (some ⟨h, 0, none⟩)] w fun e w' => e = .returned (.pointer (some ⟨g, 0, none⟩)) ∧ Big w' g true (Q + 1) ∧ Below g w w' := by
  obtain ⟨v1, By, hk1, ho1, -⟩ := hh
  have l1 : len W 1 = 1 := len_of_one
  obtain ⟨a1, c1, rfl, hc1, -⟩ := ho1.slice
  rw [l1] at hc1 hk1 ho1
  obtain ⟨hb1, rfl, -, -⟩ := ho1.some_of l1 (by omega)
  obtain ⟨a0, c0, rfl, hc0, -⟩ := hn.slice
  obtain ⟨n, hnn⟩ : ∃ n, len W Q = n := ⟨_, rfl⟩
  rw [hnn] at hn hg hc0 hm
  have g0 := hg.cell 0
  have g1 := hg.cell 1
  have k0 := hk1.cell 0
  have k1 := hk1.cell 1
  simp at g0 g1 k0 k1
  have hlt := hg.lt
  have hlt1 := hk1.lt
  have hadd := Lib.hid fun q => nadd_up _ Q B hb1 c1 By (w.drewN q) (w.drewN q) hn hQ (by rw [hnn]; exact hm) (Below.refl _ _) hB ho1 hc1
  have hp := (len_pos W_two (v := Q + 1)).2 (by omega)
  have hend : Hid (∀ q w1 u, Below B (w.drewN q) w1 → IsNat w1 B u (Q + 1) → w1.cell? ⟨g, 0, none⟩ = some (.bool true) ∧ w1.cell? ⟨g, 1, none⟩ = some (.slice a0 n c0) ∧ w1.frozen? ⟨g, 0, none⟩ = false ∧ w1.frozen? ⟨g, 1, none⟩ = false ∧ g < w1.heap.size ∧ Big ((w1.setCell ⟨g, 1, none⟩ u).setCell ⟨g, 0, none⟩ (.bool true)) g true (Q + 1) ∧ Below g w ((w1.setCell ⟨g, 1, none⟩ u).setCell ⟨g, 0, none⟩ (.bool true))) := Lib.hid fun q w1 u hb hu => by
    have hg1 : Box.Holds w1 g 85 #[.bool true, .slice a0 n c0] := hg.below (B := B) ((Box.below_drawn (Below.refl _ _) q).trans hb) hgB
    have e0 := hg1.cell 0
    have e1 := hg1.cell 1
    simp at e0 e1
    refine ⟨e0, e1, hg1.free 0, hg1.free 1, hg1.lt, ⟨u, ?_, ?_, fun _ => by omega⟩, ?_⟩
    · have := (hg1.put 1 u).put 0 (.bool true)
      simpa using this
    · exact World.ownsRow.mono (Box.own_above hu (((Box.Above.refl _ _).setCell (p := ⟨g, 1, none⟩) hgB _).setCell (p := ⟨g, 0, none⟩) hgB _)) hgB
    · have hb9 : Below g w w1 := ((Box.below_drawn (Below.refl _ _) q).trans hb).mono (Nat.le_of_lt hgB)
      exact (hb9.setCell (p := ⟨g, 1, none⟩) (Nat.le_refl _) _).setCell (p := ⟨g, 0, none⟩) (Nat.le_refl _) _
  clear hk1 ho1 hg hn hnn
  go_enter Tryz.func51, Tryz.ntmps51
  go_wp2_with fail
  go_quiet (fail)
  go_wp2_with fail
  go_region_with (go_at_call 69; refine (hadd.out _).mono ?_; rintro e w1 ⟨⟨u, rfl, hu⟩, hb⟩; obtain ⟨a2, c2, rfl, -, -⟩ := hu.slice; obtain ⟨e0, e1, f0, f1, hl1, hbig, hbel⟩ := hend.out _ w1 _ hb hu)
  all_goals
    obtain ⟨n2, hn2⟩ : ∃ n2, len W (Q + 1) = n2 := ⟨_, rfl⟩
    rw [hn2] at hbig hbel hp ⊢
    have hfin := Lib.hid (And.intro hbig hbel)
    have d2 : decide ((0 : Int) < (n2 : Int)) = true := decide_eq_true (by omega)
    have d2' : decide (0 < n2) = true := decide_eq_true (by omega)
    clear hb hu hbig hbel hadd hend k0 k1 g0 g1 hn2
    go_wp2
    go_ret
    exact ⟨rfl, hfin.out⟩
set_option maxRecDepth 100000 in
theorem ncmp_none (a b : Option Addr) (ca cb : Nat) (w : World) : Calls Tryz.prog 70 #[.slice a 0 ca, .slice b 1 cb] w fun e w' => e = .returned (.int .i64 (-1)) ∧ w' = w := by
  go_enter Tryz.func70, Tryz.ntmps70
  go_wp2
  go_ret
  exact ⟨rfl, rfl⟩
set_option maxHeartbeats 2000000 in
set_option maxRecDepth 100000 in
theorem bsub_zero (g h B : Nat) (u : Value) (w : World) (hg : Box.Holds w g 85 #[.bool false, u]) (hn : IsNat w B u 0) (hgB : g < B) (hB : B ≤ w.heap.size) (hh : BigAt w h false 1) (hne : h ≠ g) :
    Calls Tryz.prog 51 #[.pointer (some ⟨g, 0, none⟩), .pointer (some ⟨g, 0, none⟩), .pointer (some ⟨h, 0, none⟩)] w fun e w' => e = .returned (.pointer (some ⟨g, 0, none⟩)) ∧ Big w' g true 1 ∧ Below g w w' := by
  obtain ⟨v1, By, hk1, ho1, -⟩ := hh
  have l1 : len W 1 = 1 := len_of_one
  obtain ⟨a1, c1, rfl, hc1, -⟩ := ho1.slice
  rw [l1] at hc1 hk1 ho1
  obtain ⟨hb1, rfl, -, -⟩ := ho1.some_of l1 (by omega)
  obtain ⟨a0, c0, rfl, hc0, -⟩ := hn.slice
  rw [len_zero] at hn hg
  have g0 := hg.cell 0
  have g1 := hg.cell 1
  have k0 := hk1.cell 0
  have k1 := hk1.cell 1
  simp at g0 g1 k0 k1
  have hlt := hg.lt
  have hlt1 := hk1.lt
  have hcmp := Lib.hid fun w => ncmp_none a0 (some ⟨hb1, 0, none⟩) c0 c1 w
  have hsub : Hid (∀ q2, Calls Tryz.prog 71 #[.slice a0 0 c0, .slice (some ⟨hb1, 0, none⟩) 1 c1, .slice a0 0 c0] (w.drewN q2) fun e w' => (∃ u, e = .returned u ∧ IsNat w' B u 1) ∧ Below B (w.drewN q2) w') := Lib.hid fun q2 => nsub_none a0 c0 hb1 c1 B By (w.drewN q2) (w.drewN q2) hn ho1 hc1 (Below.refl _ _) hB
  have hend : Hid (∀ q2 w2 u, Below B (w.drewN q2) w2 → IsNat w2 B u 1 → w2.cell? ⟨g, 0, none⟩ = some (.bool false) ∧ w2.cell? ⟨g, 1, none⟩ = some (.slice a0 0 c0) ∧ w2.frozen? ⟨g, 0, none⟩ = false ∧ w2.frozen? ⟨g, 1, none⟩ = false ∧ g < w2.heap.size ∧ Big ((w2.setCell ⟨g, 1, none⟩ u).setCell ⟨g, 0, none⟩ (.bool true)) g true 1 ∧ Below g w ((w2.setCell ⟨g, 1, none⟩ u).setCell ⟨g, 0, none⟩ (.bool true))) := Lib.hid fun q2 w2 u hb hu => by
    have hb' : Below B w w2 := (Box.below_drawn (Below.refl _ _) q2).trans hb
    have hg1 : Box.Holds w2 g 85 #[.bool false, .slice a0 0 c0] := hg.below (B := B) hb' hgB
    have e0 := hg1.cell 0
    have e1 := hg1.cell 1
    simp at e0 e1
    refine ⟨e0, e1, hg1.free 0, hg1.free 1, hg1.lt, ⟨u, ?_, ?_, fun _ => by omega⟩, ?_⟩
    · have := (hg1.put 1 u).put 0 (.bool true)
      simpa using this
    · exact World.ownsRow.mono (Box.own_above hu (((Box.Above.refl _ _).setCell (p := ⟨g, 1, none⟩) hgB _).setCell (p := ⟨g, 0, none⟩) hgB _)) hgB
    · exact ((hb'.mono (Nat.le_of_lt hgB)).setCell (p := ⟨g, 1, none⟩) (Nat.le_refl _) _).setCell (p := ⟨g, 0, none⟩) (Nat.le_refl _) _
  clear hk1 ho1 hg hn
  go_enter Tryz.func51, Tryz.ntmps51
  go_wp2_with fail
  go_quiet (fail)
  go_wp2_with fail
  go_quiet ((go_at_call 70; refine (hcmp.out _).mono ?_; rintro e w9 ⟨rfl, rfl⟩; exact ⟨rfl, _, rfl⟩))
  go_wp2_with fail
  go_region_with (go_at_call 71; refine (hsub.out _).mono ?_; rintro e w2 ⟨⟨u, rfl, hu⟩, hb⟩; obtain ⟨a2, c2, rfl, -, -⟩ := hu.slice; obtain ⟨e0, e1, f0, f1, hl1, hbig, hbel⟩ := hend.out _ w2 _ hb hu)
  all_goals
    simp only [l1] at hbig hbel ⊢
    have hfin := Lib.hid (And.intro hbig hbel)
    clear hb hu hbig hbel
    go_wp2
    go_ret
    exact ⟨rfl, hfin.out⟩
end Go.Proofs.YtpjkfdgkkpkljaaGreatDoor.Big
