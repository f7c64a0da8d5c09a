/-
  The difference of two naturals, into a new one.
-/
import Derived.Test.YtaappbnbjpbbcaaAddVW
namespace Go.Proofs.Ytaappbnbjpbbcaa.Nat_
open Go.RowKit Go.WideShapes Go.Proofs.Ytaappbnbjpbbcaa.Own Go.Proofs.Ytaappbnbjpbbcaa.Num Go.Proofs.Ytaappbnbjpbbcaa.Ref
set_option linter.unusedVariables false

theorem RdW.lt {w : World} {B g : Nat} {V : Nat} (h : RdW w B (some ⟨g, 0, none⟩) V) : g < w.heap.size := by
  rcases h with ⟨h0, _⟩ | ⟨g', e, hg, _⟩
  · cases h0
  · cases e; exact hg
theorem RdW.src0 {w : World} {B g : Nat} {V n : Nat} (h : RdW w B (some ⟨g, 0, none⟩) V) (hn : n ≤ len W V) (k : Nat) : Src w g 0 n k V := by
  intro j _ hj
  obtain ⟨g', e, hc⟩ := h.at_ (j := j) (by omega)
  cases e
  rw [Nat.zero_add]
  exact hc

set_option maxHeartbeats 2000000 in
set_option maxRecDepth 100000 in
/-- two numbers that both have words -/
theorem nsub_main (X Y m n gx cx gy cy Bx By : Nat) (w : World) (hX : IsNat w Bx (.slice (some ⟨gx, 0, none⟩) m cx) X) (hY : IsNat w By (.slice (some ⟨gy, 0, none⟩) n cy) Y) (hm : len W X = m) (hn : len W Y = n) (hYX : Y ≤ X) (hn0 : 0 < n) (hm2 : m ≤ 9000) :
    Calls Try.prog 78 #[.slice none 0 0, .slice (some ⟨gx, 0, none⟩) m cx, .slice (some ⟨gy, 0, none⟩) n cy] w fun e w' => (∃ u, e = .returned u ∧ IsNat w' w.heap.size u (X - Y)) ∧ Below w.heap.size w w' := by
  have hnm : n ≤ m := by rw [← hm, ← hn]; exact len_mono W_two hYX
  have hXm : X < W ^ m := by rw [← hm]; exact len_lt W_two X
  have hYn : Y < W ^ n := by rw [← hn]; exact len_lt W_two Y
  have hYm : Y < W ^ m := Nat.lt_of_le_of_lt hYX hXm
  have hbm : borrow X Y m = 0 := by unfold borrow; rw [Nat.mod_eq_of_lt hXm, Nat.mod_eq_of_lt hYm, if_neg (by omega)]
  have hmk := Lib.hid (make_any m (by omega) w)
  obtain ⟨_, cx', ex, hcx, hrx⟩ := hX.slice
  simp only [Value.slice.injEq] at ex
  obtain ⟨rfl, -, rfl⟩ := ex
  obtain ⟨_, cy', ey, hcy, hry⟩ := hY.slice
  simp only [Value.slice.injEq] at ey
  obtain ⟨rfl, -, rfl⟩ := ey
  rw [hm] at hcx
  rw [hn] at hcy
  have hlx := hrx.lt
  have hly := hry.lt
  have hbx := Lib.hid hX.blk
  have hrx' := Lib.hid hrx
  have hry' := Lib.hid hry
  have hmn0 : ((m : Int) == 0) = false := by simp; omega
  have hnn0 : ((n : Int) == 0) = false := by simp; omega
  have hnorm := Lib.hid fun (v : Value) W' (h : OwnW W' w.heap.size v (dig W (X - Y) m)) => norm_any v (X - Y) m w.heap.size W' h (Nat.lt_of_le_of_lt (Nat.sub_le _ _) hXm) (by omega)
  have hm' := Lib.hid hm
  have hn' := Lib.hid hn
  have hYX' := Lib.hid hYX
  have hYn' := Lib.hid hYn
  have hbm' := Lib.hid hbm
  clear hX hY hm hn hYX hXm hYn hYm hbm hrx hry
  go_enter Try.func78, Try.ntmps78
  go_wp2_with fail
  refine hmk.out.mono ?_
  rintro e w1 ⟨⟨z, rfl, hz⟩, hb1⟩
  rcases hz.shape with ⟨_, h0⟩ | ⟨gz, cz, rfl, hgz, hBz, hcz, hcell⟩
  · have := congrArg List.length h0
    rw [dig_length] at this
    simp at this
    omega
  rw [dig_length] at hcz hz ⊢
  have hz1 := hz.vec hb1 hBz (X - Y)
  have hx1 : Src w1 gx 0 m 0 X := (hrx'.out.src0 (by rw [hm'.out]; exact Nat.le_refl _) 0).later hb1 hlx
  have hy1 : Src w1 gy 0 n 0 Y := (hry'.out.src0 (by rw [hn'.out]; exact Nat.le_refl _) 0).later hb1 hly
  have hv := Lib.hid (subv_any X Y n m gz cz cz gx 0 cx gy 0 cy w.heap.size _ w w1.drew hz1.drew (fun j h1 h2 => hx1 j h1 (by omega)) hy1.drew hYX'.out hnm (by omega) (by omega) (by omega) (by omega) (by omega) (by omega))
  have hx2 := Lib.hid hx1
  clear hz hcell hz1 hx1 hy1
  have i1 : (n : Int) ≤ cz := by omega
  have i2 : (n : Int) ≤ cx := by omega
  have i3 : (n : Int) ≤ cy := by omega
  go_wp2_with fail
  go_region_with (go_at_call 97; refine hv.out.mono ?_; rintro e w2 ⟨rfl, hz2⟩)
  have hb2 := hz2.2.1
  by_cases hmn : m = n
  · subst hmn
    rw [hbm'.out]
    have hnm2 := Lib.hid (hnorm.out _ _ (hz2.own (Nat.le_refl _)))
    have hb2' := Lib.hid hb2
    clear hz2 hb2 hv
    go_wp2_with fail
    refine hnm2.out.mono ?_
    rintro e w3 ⟨⟨u, rfl, hu⟩, rfl⟩
    go_wp2
    go_ret
    exact ⟨⟨_, rfl, hu⟩, hb2'.out⟩
  · have hlt : n < m := by omega
    have hlt' : (n : Int) < m := by omega
    have hd1 : decide (n < m) = true := by simp; omega
    have hd2 : decide ((n : Int) < m) = true := by simp; omega
    have hx3 : Src w2 gx 0 m n X := (hrx'.out.src0 (by rw [hm'.out]; exact Nat.le_refl _) n).later hb2 hlx
    have hvw := Lib.hid (subvw_apart X Y n (m - n) m m gz cz (cz - n) gx (cx - n) w.heap.size _ w w2.drew hz2.drew hx3.drew (hbx.out.later (Box.below_drawn hb2 1) hlx) (by omega) hYX'.out hYn'.out (by omega) (by omega) (Nat.le_refl _) (by omega) (by omega) (by omega))
    rw [hbm'.out] at hvw
    obtain ⟨b, hb⟩ : ∃ b, borrow X Y n = b := ⟨_, rfl⟩
    rw [hb] at hvw ⊢
    have i4 : ¬ (cz = n) := by omega
    have i5 : ¬ (cx = n) := by omega
    have i6 : (n : Int) ≤ m := by omega
    clear hz2 hb2 hv hx3 hb
    go_wp2_with fail
    go_region_with (go_at_call 98; refine hvw.out.mono ?_; rintro e w3 ⟨rfl, hz3⟩)
    have hnm2 := Lib.hid (hnorm.out _ _ (hz3.own (Nat.le_refl _)))
    have hb3' := Lib.hid hz3.2.1
    clear hz3 hvw
    go_wp2_with fail
    refine hnm2.out.mono ?_
    rintro e w4 ⟨⟨u, rfl, hu⟩, rfl⟩
    go_wp2
    go_ret
    exact ⟨⟨_, rfl, hu⟩, hb3'.out⟩
end Go.Proofs.Ytaappbnbjpbbcaa.Nat_
