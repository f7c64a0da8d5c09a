/-
  The package's integers: one out of a number of 64 bits; how two compare.
-/
import Derived.Test.YtkflmgpigidkeaaGreatStarMake
namespace Go.Proofs.YtkflmgpigidkeaaGreat.Big
open Go.RowKit Go.WideShapes Go.Proofs.YtkflmgpigidkeaaGreat.Own Go.Proofs.YtkflmgpigidkeaaGreat.Num Go.Proofs.YtkflmgpigidkeaaGreat.Ref Go.Proofs.YtkflmgpigidkeaaGreat.Nat_
set_option linter.unusedVariables false

theorem words_one {x : Nat} (h0 : 0 < x) (h1 : x < W) : words x = dig W x 1 := by
  have h2 := (len_pos W_two (v := x)).2 h0
  have h3 := len_one h1
  unfold words
  rw [show len W x = 1 by omega]

set_option maxRecDepth 100000 in
theorem setword_any (x : Nat) (h0 : 0 < x) (h1 : x < W) (w : World) :
    Calls Tryz.prog 214 #[.slice none 0 0, .int .u64 x] w fun e w' => (∃ v, e = .returned v ∧ IsNat w' w.heap.size v x) ∧ Below w.heap.size w w' := by
  have hmk := Lib.hid (make_any 1 (by omega) w)
  have hx : x < 18446744073709551616 := h1
  have hwd := Lib.hid (words_one h0 h1)
  have hset := Lib.hid (ws_set x 0 1 x (by rw [Nat.pow_zero, Nat.div_one]; exact Nat.mod_eq_of_lt h1))
  have hb0 : ((x : Int) == 0) = false := by simp; omega
  have h1' := Lib.hid h1
  clear h1
  go_enter Tryz.func214, Tryz.ntmps214
  go_wp2_with fail
  refine hmk.out.mono ?_
  rintro e w1 ⟨⟨z, rfl, ho⟩, hb1⟩
  rcases ho.shape with ⟨rfl, hn⟩ | ⟨g, zc, rfl, hg, hB, hzc, hcell⟩
  · have := congrArg List.length hn; rw [dig_length] at this; simp at this
  · rw [dig_length] at ho hzc ⊢
    have hrow : w1.ownsRow w.heap.size 287 1 (.slice (some ⟨g, 0, none⟩) 1 zc) 1 (ws (dig W (x % W ^ 0) 1)) := by
      have := ho
      unfold OwnW at this
      rw [dig_length] at this
      rw [Nat.pow_zero, Nat.mod_one]
      exact this
    have hc0 := World.ownsRow.cellAt hrow 0 (by omega)
    have hf0 := World.ownsRow.frozenAt hrow 0
    have hst := World.ownsRow.stored hrow 0 (.int .u64 (x : Int))
    rw [hset.out] at hst
    obtain ⟨cv, hcv⟩ : ∃ cv, (ws (dig W (x % W ^ 0) 1))[0]? = some cv := ⟨_, List.getElem?_eq_getElem (by rw [ws_length, dig_length]; omega)⟩
    rw [hcv] at hc0
    have hfin := Lib.hid (show IsNat (w1.setCell ⟨g, 0, none⟩ (.int .u64 (x : Int))) w.heap.size (.slice (some ⟨g, 0, none⟩) 1 zc) x by
      have := hst.1
      rw [Nat.pow_one, Nat.mod_eq_of_lt h1'.out] at this
      unfold IsNat OwnW
      rw [hwd.out, dig_length]
      exact this)
    clear hrow hst hcv ho hcell
    go_wp2
    go_ret
    exact ⟨⟨_, rfl, hfin.out⟩, hb1.setCell hB _⟩

set_option maxRecDepth 100000 in
theorem setu64_any (x : Nat) (h0 : 0 < x) (h1 : x < W) (w : World) :
    Calls Tryz.prog 213 #[.slice none 0 0, .int .u64 x] w fun e w' => (∃ v, e = .returned v ∧ IsNat w' w.heap.size v x) ∧ Below w.heap.size w w' := by
  have hs := Lib.hid (setword_any x h0 h1 w)
  have hx : x < 18446744073709551616 := h1
  clear h1
  go_enter Tryz.func213, Tryz.ntmps213
  go_wp2_with fail
  refine hs.out.mono ?_
  rintro e w1 ⟨⟨z, rfl, ho⟩, hb1⟩
  go_wp2
  go_ret
  exact ⟨⟨_, rfl, ho⟩, hb1⟩

theorem Big.made2 {w1 : World} {g B : Nat} {a1 : Option Addr} {n1 c1 : Nat} {V : Nat} (hk : Box.Holds w1 g 222 #[.bool false, .slice none 0 0]) (ho : IsNat w1 B (.slice a1 n1 c1) V) (hg : g < B) (b : Bool) (hb : b = true → 0 < V) :
    Big ((w1.setCell ⟨g, 1, none⟩ (.slice a1 n1 c1)).setCell ⟨g, 0, none⟩ (.bool b)) g b V := by
  refine ⟨.slice a1 n1 c1, ?_, ?_, hb⟩
  · have := (hk.put 1 (.slice a1 n1 c1)).put 0 (.bool b)
    simpa using this
  · exact World.ownsRow.mono (Box.own_above ho (((Box.Above.refl _ _).setCell (by show g < B; exact hg) _).setCell (by show g < B; exact hg) _)) (by omega)

set_option maxRecDepth 100000 in
theorem set64_any (g : Nat) (z : Int) (hz : z ≠ 0) (h1 : -9223372036854775808 ≤ z) (h2 : z ≤ 9223372036854775807) (w : World) (hg : Box.Holds w g 222 #[.bool false, .slice none 0 0]) :
    Calls Tryz.prog 212 #[.pointer (some ⟨g, 0, none⟩), .int .i64 z] w fun e w' => (e = .returned (.pointer (some ⟨g, 0, none⟩)) ∧ Big w' g (decide (z < 0)) z.natAbs) ∧ Below g w w' := by
  obtain ⟨U, hU⟩ : ∃ U, z.natAbs = U := ⟨_, rfl⟩
  rw [hU]
  have hU0 : 0 < U := by omega
  have hs := Lib.hid (setu64_any U hU0 (by rw [W_eq]; omega) w)
  have k0 := hg.cell 0
  have k1 := hg.cell 1
  simp at k0 k1
  have hlt := hg.lt
  have hg' := Lib.hid hg
  have hfin : Hid (∀ w1 a1 n1 c1 b, Below w.heap.size w w1 → IsNat w1 w.heap.size (.slice a1 n1 c1) U → Big ((w1.setCell ⟨g, 1, none⟩ (.slice a1 n1 c1)).setCell ⟨g, 0, none⟩ (.bool b)) g b U) := Lib.hid fun w1 a1 n1 c1 b hb ho => Big.made2 (hg'.out.later hb) ho hlt b (fun _ => hU0)
  clear hg
  by_cases h0 : z < 0
  · have hd : decide (z < 0) = true := by simp [h0]
    have e1 : IntKind.u64.wrap (wrap64 (-z)) = U := by rw [IntKind.wrap_u64]; unfold wrap64; omega
    rw [hd]
    have e1' := e1
    clear hU h0 hz
    go_enter Tryz.func212, Tryz.ntmps212
    go_wp2_with fail
    refine hs.out.mono ?_
    rintro e w1 ⟨⟨v, rfl, ho⟩, hb⟩
    obtain ⟨a1, c1, hv, -, -⟩ := ho.slice
    subst hv
    have hk := hg'.out.later hb
    have k0 := hk.cell 0
    have k1 := hk.cell 1
    simp at k0 k1
    have hlt1 := hk.lt
    have f0 := hk.free 0
    have f1 := hk.free 1
    have hf := Lib.hid (hfin.out _ _ _ _ true hb ho)
    clear ho
    go_wp2
    go_ret
    exact ⟨⟨rfl, hf.out⟩, ((hb.mono (by omega)).setCell (p := ⟨g, 1, none⟩) (Nat.le_refl g) _).setCell (p := ⟨g, 0, none⟩) (Nat.le_refl g) _⟩
  · have hd : decide (z < 0) = false := by simp [h0]
    have e1 : IntKind.u64.wrap z = U := by rw [IntKind.wrap_u64]; omega
    rw [hd]
    clear hU hz
    go_enter Tryz.func212, Tryz.ntmps212
    go_wp2_with fail
    refine hs.out.mono ?_
    rintro e w1 ⟨⟨v, rfl, ho⟩, hb⟩
    obtain ⟨a1, c1, hv, -, -⟩ := ho.slice
    subst hv
    have hk := hg'.out.later hb
    have k0 := hk.cell 0
    have k1 := hk.cell 1
    simp at k0 k1
    have hlt1 := hk.lt
    have f0 := hk.free 0
    have f1 := hk.free 1
    have hf := Lib.hid (hfin.out _ _ _ _ false hb ho)
    clear ho
    go_wp2
    go_ret
    exact ⟨⟨rfl, hf.out⟩, ((hb.mono (by omega)).setCell (p := ⟨g, 1, none⟩) (Nat.le_refl g) _).setCell (p := ⟨g, 0, none⟩) (Nat.le_refl g) _⟩

set_option maxRecDepth 100000 in
theorem maxi_any (w : World) : Calls Tryz.prog 206 #[] w fun e w' => (e = .returned (.pointer (some ⟨w.heap.size, 0, none⟩)) ∧ Big w' w.heap.size false 9223372036854775807) ∧ Below w.heap.size w w' := by
  have hs := set64_any w.heap.size 9223372036854775807 (by omega) (by omega) (by omega) (w.alloc (.cells #[.bool false, .slice none 0 0] 222)) (Box.Holds.made w _ _)
  rw [show (9223372036854775807 : Int).natAbs = 9223372036854775807 from rfl, show decide ((9223372036854775807 : Int) < 0) = false from rfl] at hs
  have hs' := Lib.hid hs
  clear hs
  go_enter Tryz.func206, Tryz.ntmps206
  go_wp2_with fail
  refine hs'.out.mono ?_
  rintro e w1 ⟨⟨rfl, hbig⟩, hb⟩
  go_wp2
  go_ret
  exact ⟨⟨rfl, hbig⟩, (below_one _ (Nat.le_refl _)).trans hb⟩

set_option maxRecDepth 100000 in
theorem mini_any (w : World) : Calls Tryz.prog 207 #[] w fun e w' => (e = .returned (.pointer (some ⟨w.heap.size, 0, none⟩)) ∧ Big w' w.heap.size true 9223372036854775808) ∧ Below w.heap.size w w' := by
  have hs := set64_any w.heap.size (-9223372036854775808) (by omega) (by omega) (by omega) (w.alloc (.cells #[.bool false, .slice none 0 0] 222)) (Box.Holds.made w _ _)
  rw [show (-9223372036854775808 : Int).natAbs = 9223372036854775808 from rfl, show decide ((-9223372036854775808 : Int) < 0) = true from rfl] at hs
  have hs' := Lib.hid hs
  clear hs
  go_enter Tryz.func207, Tryz.ntmps207
  go_wp2_with fail
  refine hs'.out.mono ?_
  rintro e w1 ⟨⟨rfl, hbig⟩, hb⟩
  go_wp2
  go_ret
  exact ⟨⟨rfl, hbig⟩, (below_one _ (Nat.le_refl _)).trans hb⟩

set_option maxHeartbeats 1000000 in
set_option maxRecDepth 100000 in
theorem bcmp_any (g1 g2 : Nat) (n1 n2 : Bool) (A B : Nat) (w : World) (h1 : Big w g1 n1 A) (h2 : Big w g2 n2 B) (hne : g1 ≠ g2) (hA : len W A ≤ 10000) (hB : len W B ≤ 10000) :
    Calls Tryz.prog 205 #[.pointer (some ⟨g1, 0, none⟩), .pointer (some ⟨g2, 0, none⟩)] w fun e w' => e = .returned (.int .i64 (cmpZ (sg n1 A) (sg n2 B))) ∧ Below w.heap.size w w' := by
  have hlt1 := h1.lt
  have hlt2 := h2.lt
  obtain ⟨v1, hk1, ho1, hp1⟩ := h1
  obtain ⟨v2, hk2, ho2, hp2⟩ := h2
  have hq := eql_other (a := ⟨g1, 0, none⟩) (b := ⟨g2, 0, none⟩) w (by simp only [ne_eq, Addr.mk.injEq, and_true]; omega) hk1 hk2
  have k0 := hk1.cell 0
  have k1 := hk1.cell 1
  have j0 := hk2.cell 0
  have j1 := hk2.cell 1
  simp at k0 k1 j0 j1
  have hc := Lib.hid fun q => ncmp_any v1 v2 A B _ _ (w.drewN q) ho1 ho2 hA hB
  obtain ⟨Z, hZ⟩ : ∃ Z, cmpZ (sg n1 A) (sg n2 B) = Z := ⟨_, rfl⟩
  rw [hZ]
  have hd := cmpN_bounds A B
  have hk1' := Lib.hid hk1
  have hcell : Hid (∀ q w1, Below (w.drewN q).heap.size (w.drewN q) w1 → w1.cell? ⟨g1, 0, none⟩ = some (.bool n1) ∧ g1 < w1.heap.size) := Lib.hid fun q w1 hb => by
    have hh := (hk1'.out.drawn q).later hb
    have e0 := hh.cell 0
    simp at e0
    exact ⟨e0, hh.lt⟩
  have hbel : Hid (∀ q w1, Below (w.drewN q).heap.size (w.drewN q) w1 → Below w.heap.size w w1) := Lib.hid fun q w1 hb => (Box.below_drawn (Below.refl _ _) q).trans hb
  obtain ⟨C, hC⟩ : ∃ C, cmpN A B = C := ⟨_, rfl⟩
  rw [hC] at hc hd
  cases n1
  · cases n2
    · have hZC : C = Z := by rw [← hC, ← hZ]; simp only [sg, Bool.false_eq_true, if_false]; rw [cmpZ_pos]
      subst hZC
      clear hZ hC hk1 hk2 ho1 ho2 hp1 hp2 hk1'
      go_enter Tryz.func205, Tryz.ntmps205
      go_wp2
      go_quiet (fail)
      go_wp2
      go_region_with (go_at_call 211; refine (hc.out _).mono ?_; rintro e w1 ⟨rfl, hb⟩; obtain ⟨e0, hl1⟩ := hcell.out _ _ hb)
      all_goals
        have hfin := hbel.out _ _ hb
        clear hb
        go_wp2
        go_ret
        exact ⟨rfl, hfin⟩
    · have hB0 := hp2 rfl
      have hZ1 : Z = 1 := by rw [← hZ]; unfold cmpZ sg; simp; omega
      subst hZ1
      clear hZ hC hk1 hk2 ho1 ho2 hp1 hp2 hk1' hc hd hcell
      go_enter Tryz.func205, Tryz.ntmps205
      go_wp2
      go_quiet (fail)
      go_wp2
      go_ret
      exact ⟨rfl, Box.below_drawn (Below.refl _ _) _⟩
  · cases n2
    · have hA0 := hp1 rfl
      have hZ1 : Z = -1 := by rw [← hZ]; unfold cmpZ sg; simp; omega
      subst hZ1
      clear hZ hC hk1 hk2 ho1 ho2 hp1 hp2 hk1' hc hd hcell
      go_enter Tryz.func205, Tryz.ntmps205
      go_wp2
      go_quiet (fail)
      go_wp2
      go_ret
      exact ⟨rfl, Box.below_drawn (Below.refl _ _) _⟩
    · have hZC : Z = -C := by
        rw [← hC, ← hZ]
        simp only [sg, if_true]
        rw [cmpZ_neg]
        unfold cmpN
        by_cases a1 : A < B
        · rw [if_neg (by omega), if_pos a1, if_pos a1]; rfl
        · by_cases a2 : B < A
          · rw [if_pos a2, if_neg a1, if_pos a2]
          · rw [if_neg a2, if_neg a1, if_neg a1, if_neg a2]; rfl
      subst hZC
      clear hZ hC hk1 hk2 ho1 ho2 hp1 hp2 hk1'
      go_enter Tryz.func205, Tryz.ntmps205
      go_wp2
      go_quiet (fail)
      go_wp2
      go_region_with (go_at_call 211; refine (hc.out _).mono ?_; rintro e w1 ⟨rfl, hb⟩; obtain ⟨e0, hl1⟩ := hcell.out _ _ hb)
      all_goals
        have hfin := hbel.out _ _ hb
        clear hb
        go_wp2
        go_ret
        exact ⟨rfl, hfin⟩
end Go.Proofs.YtkflmgpigidkeaaGreat.Big
