/-
  finiteFloatToInt, whatever the size of the float.
-/
import Derived.Test.YtpjkfdgkkpkljaaGreatDoorRatFloat
import Derived.Test.YtpjkfdgkkpkljaaGreatDoorFloatHash
namespace Go.Proofs.YtpjkfdgkkpkljaaGreatDoor.Big
open Go.RowKit Go.WideShapes Go.Proofs.YtpjkfdgkkpkljaaGreatDoor Go.Proofs.YtpjkfdgkkpkljaaGreatDoor.Own Go.Proofs.YtpjkfdgkkpkljaaGreatDoor.Num Go.Proofs.YtpjkfdgkkpkljaaGreatDoor.Ref Go.Proofs.YtpjkfdgkkpkljaaGreatDoor.Nat_ Go.Proofs.YtpjkfdgkkpkljaaGreatDoor.Fl
set_option linter.unusedVariables false

set_option maxHeartbeats 1000000 in
set_option maxRecDepth 100000 in
theorem bdiv_one (g gx ox gy oy X B B2 : Nat) (neg : Bool) (v d : Value) (w : World) (hg : Box.Holds w g 85 #[.bool false, .slice none 0 0]) (hx : Two w gx ox (.bool neg) v) (hy : Two w gy oy (.bool false) d) (hn : IsNat w B v X) (hd : IsNat w B2 d 1) (hm : len W X ≤ 10000) (hX : 0 < X) (hxg : gx < g) (hyg : gy < g) :
    Calls Tryz.prog 73 #[.pointer (some ⟨g, 0, none⟩), .pointer (some ⟨gx, ox, none⟩), .pointer (some ⟨gy, oy, none⟩)] w fun e w' => e = .returned (.pointer (some ⟨g, 0, none⟩)) ∧ Big w' g neg X ∧ Below g w w' := by
  have hlt := hg.lt
  have hb := below_one (B := w.heap.size) (.cells #[.bool false, .slice none 0 0] 85) (Nat.le_refl _)
  obtain ⟨a0, c0, rfl, -, -⟩ := hn.slice
  obtain ⟨a1, c1, rfl, -, -⟩ := hd.slice
  have hb' := Box.below_drawn hb 1
  have hdv := (div_one _ _ X B B2 (w.alloc (.cells #[.bool false, .slice none 0 0] 85)).drew (hn.later hb') hm (hd.later hb')).mono (fun e w' h => (Parts.of_halves h).undrawn (q := 1) (w := w.alloc (.cells #[.bool false, .slice none 0 0] 85)))
  have hq := Lib.hid (quorem_of g w.heap.size gx ox gy oy X 0 neg false a0 _ c0 a1 _ c1 (w.alloc (.cells #[.bool false, .slice none 0 0] 85)) (hg.alloc _) (Box.Holds.made w _ _) (hx.later hb) (hy.later hb) hdv hm (by decide +kernel) hlt hxg hyg)
  obtain ⟨hlty, y0, y1, -, -⟩ := id hy
  have e1 : (decide (0 < X) && (neg != false)) = neg := by rw [decide_eq_true hX]; cases neg <;> rfl
  have e2 : (decide (0 < 0) && neg) = false := by simp
  rw [e1, e2] at hq
  have hbg := Lib.hid (hb.mono (Nat.le_of_lt hlt))
  clear hdv hg hx hy hn hd hb
  go_enter Tryz.func73, Tryz.ntmps73
  go_wp2_with fail
  refine hq.out.mono ?_
  rintro e w1 ⟨rfl, ⟨u, h1, h2⟩, ⟨r, h3, h4⟩, hb1⟩
  have k0 := h3.cell 0
  simp at k0
  have hl := h3.lt
  have hfin : Hid (Big w1 g neg X ∧ Below g w w1) := Lib.hid ⟨⟨u, h1, World.ownsRow.mono h2 (by simp; omega), fun _ => hX⟩, hbg.out.trans hb1⟩
  clear h1 h2 h3 h4 hb1 hq hbg
  go_wp2
  go_ret
  exact ⟨rfl, hfin.out⟩
set_option maxRecDepth 100000 in
theorem num_any (g : Nat) (w : World) (hlt : g < w.heap.size) : Calls Tryz.prog 74 #[.pointer (some ⟨g, 0, none⟩)] w fun e w' => e = .returned (.pointer (some ⟨g, 0, none⟩)) ∧ w' = w := by
  go_enter Tryz.func74, Tryz.ntmps74
  go_wp2
  go_ret
  exact ⟨rfl, rfl⟩
set_option maxRecDepth 100000 in
theorem denom_one (g : Nat) (a : Option Addr) (c : Nat) (w : World) (hlt : g < w.heap.size) (h : w.cell? ⟨g, 3, none⟩ = some (.slice a 1 c)) : Calls Tryz.prog 75 #[.pointer (some ⟨g, 0, none⟩)] w fun e w' => e = .returned (.pointer (some ⟨g, 2, none⟩)) ∧ w' = w := by
  go_enter Tryz.func75, Tryz.ntmps75
  go_wp2
  go_ret
  exact ⟨rfl, rfl⟩

set_option maxHeartbeats 1000000 in
set_option maxRecDepth 100000 in
theorem fti_big (b : Nat) (hb : b < 18446744073709551616) (hf : fexp b < 2047) (hs : ¬ Small b) (w : World) :
    Calls Tryz.prog 55 #[.float .f64 b] w fun e w' => (∃ v, e = .returned v ∧ SAt w' v (ftrunc b)) ∧ Below w.heap.size w w' := by
  obtain ⟨h1, h2⟩ := big_whole b hf hs
  have ho := big_order b hf hs
  have hrat := Lib.hid fun w => rational_big b hb h1 hf w
  have hnum := Lib.hid num_any
  have hden := Lib.hid denom_one
  have hX : 0 < (4503599627370496 + ffr b) * 2 ^ (fexp b - 1075) := Nat.mul_pos (by omega) (Nat.two_pow_pos _)
  have hlen : len W ((4503599627370496 + ffr b) * 2 ^ (fexp b - 1075)) ≤ 10000 := by
    obtain ⟨T, hT⟩ : ∃ T, T = 40 := ⟨_, rfl⟩
    refine Nat.le_trans (len_le W_two (n := T) ?_) (by omega)
    rw [W_pow2]
    have := ffr_lt b
    refine Nat.lt_of_lt_of_le (Nat.mul_lt_mul_of_pos_right (show 4503599627370496 + ffr b < 9007199254740992 by omega) (Nat.two_pow_pos _)) ?_
    rw [show (9007199254740992 : Nat) = 2 ^ 53 by rfl, ← Nat.pow_add]
    exact Nat.pow_le_pow_right (by omega) (by omega)
  rw [h2]
  obtain ⟨X, hXX⟩ : ∃ X, (4503599627370496 + ffr b) * 2 ^ (fexp b - 1075) = X := ⟨_, rfl⟩
  rw [hXX] at hrat hX hlen ⊢
  have hsg : sgnd (fneg b) X = sg (fneg b) X := rfl
  rw [hsg]
  have c0 : (FloatKind.f64.format.order 14114281232179134464 b == some .lt || FloatKind.f64.format.order 14114281232179134464 b == some .eq) = !fneg b ∧ (fneg b = false → (FloatKind.f64.format.order b 4890909195324358656 == some .lt) = false) := by
    rcases ho with ⟨e1, e2⟩ | ⟨e1, e2, e3⟩
    · rw [show FloatKind.f64.format.order 14114281232179134464 b = some .gt from e2, e1]
      exact ⟨rfl, fun h => by cases h⟩
    · rw [show FloatKind.f64.format.order 14114281232179134464 b = some .lt from e2, e1]
      refine ⟨rfl, fun _ => ?_⟩
      rcases e3 with e3 | e3
      · rw [show FloatKind.f64.format.order b 4890909195324358656 = some .eq from e3]; rfl
      · rw [show FloatKind.f64.format.order b 4890909195324358656 = some .gt from e3]; rfl
  obtain ⟨c1, c2⟩ := c0
  obtain ⟨neg, hneg⟩ : ∃ neg, fneg b = neg := ⟨_, rfl⟩
  rw [hneg] at c1 c2 hrat ⊢
  clear hneg hXX h1 h2 ho hf hs hsg hb
  have hb0 := below_one (B := w.heap.size) (w := w) (.cells #[.int .i64 0, .pointer none] 61) (Nat.le_refl _)
  have hst := Box.Holds.made w 61 #[.int .i64 0, .pointer none]
  have hrest : Hid (∀ w1 g va vb B, Box.Holds w1 g 127 #[.bool neg, va, .bool false, vb] → IsNat w1 B va X → IsNat w1 B vb 1 → Calls Tryz.prog 73 #[.pointer (some ⟨w1.heap.size, 0, none⟩), .pointer (some ⟨g, 0, none⟩), .pointer (some ⟨g, 2, none⟩)] (w1.alloc (.cells #[.bool false, .slice none 0 0] 85)) fun e w' => e = .returned (.pointer (some ⟨w1.heap.size, 0, none⟩)) ∧ Big w' w1.heap.size neg X ∧ Below w1.heap.size w1 w') := Lib.hid fun w1 g va vb B hk ha hb => by
    have hbo := below_one (B := w1.heap.size) (w := w1) (.cells #[.bool false, .slice none 0 0] 85) (Nat.le_refl _)
    exact (bdiv_one w1.heap.size g 0 g 2 X B B neg va vb _ (Box.Holds.made w1 _ _) (Box.Holds.two (hk.alloc _) 0 _ _ rfl rfl) (Box.Holds.two (hk.alloc _) 2 _ _ rfl rfl) (ha.later hbo) (hb.later hbo) hlen hX hk.lt hk.lt).mono fun e w' h => ⟨h.1, h.2.1, hbo.trans h.2.2⟩
  have hmb := Lib.hid fun g w (h : Big w g neg X) => mbi_any g neg X w h hlen
  have hst' := Lib.hid (And.intro hst hb0)
  clear hst hb0
  have l1 : len W 1 = 1 := by decide +kernel
  cases neg
  · have c3 := c2 rfl
    simp only [Bool.not_false] at c1
    clear c2
    go_enter Tryz.func55, Tryz.ntmps55
    go_wp2_with fail
    refine (hrat.out _).mono ?_
    rintro e w1 ⟨g, rfl, ⟨va, vb, B, hk, ha, hb⟩, hb1⟩
    have hst1 := hst'.out.1.later hb1
    have hbw1 : Below w.heap.size w w1 := hst'.out.2.trans (hb1.mono (by simp))
    have hlt := hk.lt
    have hdv := Lib.hid (hrest.out w1 g va vb B hk ha hb)
    obtain ⟨a1, cc1, rfl, -, -⟩ := hb.slice
    have k3 := hk.cell 3
    simp at k3
    rw [l1] at k3
    have k3' : (w1.alloc (.cells #[.bool false, .slice none 0 0] 85)).cell? ⟨g, 3, none⟩ = some (.slice a1 1 cc1) := ((below_one (B := w1.heap.size) _ (Nat.le_refl _)).cell (p := ⟨g, 3, none⟩) hlt).trans k3
    have hstk := Lib.hid (And.intro hst1 hbw1)
    clear hrat hrest hk ha hb hb1 hst1 hbw1 k3
    go_wp2_with fail
    refine (hnum.out g _ (by simp; omega)).mono ?_
    rintro e w2 ⟨rfl, rfl⟩
    go_wp2_with fail
    refine (hden.out g a1 cc1 _ (by simp; omega) k3').mono ?_
    rintro e w2 ⟨rfl, rfl⟩
    go_wp2_with fail
    refine hdv.out.mono ?_
    rintro e w2 ⟨rfl, hbig, hb2⟩
    have hcall := Lib.hid (hmb.out _ _ hbig)
    have hb2' := Lib.hid hb2
    clear hdv hbig hmb hb2 k3'
    go_wp2_with fail
    refine hcall.out.mono ?_
    rintro e w3 ⟨⟨v, rfl, hv⟩, hb3⟩
    have hb13 : Below w1.heap.size w1 w3 := hb2'.out.trans (hb3.mono hb2'.out.size)
    have hk3 := hstk.out.1.later hb13
    have hbw := hstk.out.2.trans (hb13.mono hstk.out.2.size)
    obtain ⟨za, zp, rfl⟩ := hv.at_.shape
    have hl3 := hk3.lt
    have k0 := hk3.cell 0
    have k1 := hk3.cell 1
    simp at k0 k1
    have f0 := hk3.free 0
    have f1 := hk3.free 1
    have hv' := Lib.hid (own_SAt (own_SAt hv.at_ hk3 (by decide) (by decide) 0 (.int .i64 za)) (hk3.put 0 _) (by decide) (by decide) 1 (.pointer zp))
    clear hv hb3 hb13 hcall hb2' hstk hst'
    go_wp2
    exact bodyPost_ret (v := .agg #[.int .i64 za, .pointer zp]) (by simp [results, Tryz.results55, go_sem, k0, k1]) rfl ⟨⟨_, rfl, hv'.out⟩, (hbw.setCell (p := ⟨w.heap.size, 0, none⟩) (Nat.le_refl _) _).setCell (p := ⟨w.heap.size, 1, none⟩) (Nat.le_refl _) _⟩
  · simp only [Bool.not_true] at c1
    clear c2
    go_enter Tryz.func55, Tryz.ntmps55
    go_wp2_with fail
    refine (hrat.out _).mono ?_
    rintro e w1 ⟨g, rfl, ⟨va, vb, B, hk, ha, hb⟩, hb1⟩
    have hst1 := hst'.out.1.later hb1
    have hbw1 : Below w.heap.size w w1 := hst'.out.2.trans (hb1.mono (by simp))
    have hlt := hk.lt
    have hdv := Lib.hid (hrest.out w1 g va vb B hk ha hb)
    obtain ⟨a1, cc1, rfl, -, -⟩ := hb.slice
    have k3 := hk.cell 3
    simp at k3
    rw [l1] at k3
    have k3' : (w1.alloc (.cells #[.bool false, .slice none 0 0] 85)).cell? ⟨g, 3, none⟩ = some (.slice a1 1 cc1) := ((below_one (B := w1.heap.size) _ (Nat.le_refl _)).cell (p := ⟨g, 3, none⟩) hlt).trans k3
    have hstk := Lib.hid (And.intro hst1 hbw1)
    clear hrat hrest hk ha hb hb1 hst1 hbw1 k3
    go_wp2_with fail
    refine (hnum.out g _ (by simp; omega)).mono ?_
    rintro e w2 ⟨rfl, rfl⟩
    go_wp2_with fail
    refine (hden.out g a1 cc1 _ (by simp; omega) k3').mono ?_
    rintro e w2 ⟨rfl, rfl⟩
    go_wp2_with fail
    refine hdv.out.mono ?_
    rintro e w2 ⟨rfl, hbig, hb2⟩
    have hcall := Lib.hid (hmb.out _ _ hbig)
    have hb2' := Lib.hid hb2
    clear hdv hbig hmb hb2 k3'
    go_wp2_with fail
    refine hcall.out.mono ?_
    rintro e w3 ⟨⟨v, rfl, hv⟩, hb3⟩
    have hb13 : Below w1.heap.size w1 w3 := hb2'.out.trans (hb3.mono hb2'.out.size)
    have hk3 := hstk.out.1.later hb13
    have hbw := hstk.out.2.trans (hb13.mono hstk.out.2.size)
    obtain ⟨za, zp, rfl⟩ := hv.at_.shape
    have hl3 := hk3.lt
    have k0 := hk3.cell 0
    have k1 := hk3.cell 1
    simp at k0 k1
    have f0 := hk3.free 0
    have f1 := hk3.free 1
    have hv' := Lib.hid (own_SAt (own_SAt hv.at_ hk3 (by decide) (by decide) 0 (.int .i64 za)) (hk3.put 0 _) (by decide) (by decide) 1 (.pointer zp))
    clear hv hb3 hb13 hcall hb2' hstk hst'
    go_wp2
    exact bodyPost_ret (v := .agg #[.int .i64 za, .pointer zp]) (by simp [results, Tryz.results55, go_sem, k0, k1]) rfl ⟨⟨_, rfl, hv'.out⟩, (hbw.setCell (p := ⟨w.heap.size, 0, none⟩) (Nat.le_refl _) _).setCell (p := ⟨w.heap.size, 1, none⟩) (Nat.le_refl _) _⟩

theorem cuts : Cuts := fun b hb hf w => by
  by_cases hs : Small b
  · exact fti_small b hs w
  · exact fti_big b hb hf hs w
end Go.Proofs.YtpjkfdgkkpkljaaGreatDoor.Big
