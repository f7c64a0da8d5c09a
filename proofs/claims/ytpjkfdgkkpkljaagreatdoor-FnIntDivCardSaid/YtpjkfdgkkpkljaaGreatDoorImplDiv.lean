/-
  The thin package's division of integers, to the floor.
-/
import Derived.Test.YtpjkfdgkkpkljaaGreatDoorStarDiv
import Derived.Test.YtpjkfdgkkpkljaaGreatDoorNumOut
import Derived.Test.YtpjkfdgkkpkljaaGreatDoorBigStar
namespace Go.Proofs.YtpjkfdgkkpkljaaGreatDoor.Big
open Go.RowKit Go.WideShapes Go.Proofs.YtpjkfdgkkpkljaaGreatDoor Go.Proofs.YtpjkfdgkkpkljaaGreatDoor.Own Go.Proofs.YtpjkfdgkkpkljaaGreatDoor.Num Go.Proofs.YtpjkfdgkkpkljaaGreatDoor.Ref Go.Proofs.YtpjkfdgkkpkljaaGreatDoor.Nat_
set_option linter.unusedVariables false

theorem signum64_eq (x : Int) (h1 : -2147483648 ≤ x) (h2 : x ≤ 2147483647) :
    wrap64 (bits BinOp.or IntKind.u64 (IntKind.u64.wrap (x / 9223372036854775808)) (IntKind.u64.wrap (-x) / 9223372036854775808)) = sgn x := by
  rw [IntKind.wrap_u64, IntKind.wrap_u64]
  rcases Int.lt_trichotomy x 0 with h | h | h
  · rw [show x / 9223372036854775808 % 18446744073709551616 = 18446744073709551615 by omega, show -x % 18446744073709551616 / 9223372036854775808 = 0 by omega, sgn, if_pos h]; kernel_rfl
  · subst h; kernel_rfl
  · rw [show x / 9223372036854775808 % 18446744073709551616 = 0 by omega, show -x % 18446744073709551616 / 9223372036854775808 = 1 by omega, sgn, if_neg (by omega), if_neg (by omega)]; kernel_rfl

set_option maxRecDepth 100000 in
theorem signum64_any (x : Int) (w : World) (h1 : -2147483648 ≤ x) (h2 : x ≤ 2147483647) :
    Calls Tryz.prog 46 #[.int .i64 x] w fun e w' => e = .returned (.int .i64 (sgn x)) ∧ w' = w := by
  go_enter Tryz.func46, Tryz.ntmps46
  go_wp2
  rw [signum64_eq x h1 h2]
  go_ret
  exact ⟨rfl, rfl⟩

theorem sgn_ne' (z : Int) : (sgn z == 0) = (decide (z = 0)) := by
  have := sgn_ne z
  cases h : (sgn z == 0) <;> simp [bne, h] at this ⊢ <;> exact this

set_option maxRecDepth 100000 in
theorem ssign_any (v : Value) (z : Int) (B : Nat) (w : World) (h : SInt w B v z) :
    Calls Tryz.prog 26 #[v] w fun e w' => e = .returned (.int .i64 (sgn z)) ∧ Below w.heap.size w w' := by
  rcases h with ⟨rfl, hs⟩ | ⟨g, neg, V, rfl, -, hbig, rfl, hs, hm⟩
  · have hbd := isS_bounds hs
    have hget := Lib.hid fun w => get_any z none w
    have hsg := Lib.hid fun w => signum64_any z w hbd.1 hbd.2
    have k0 : (w.alloc (.cells #[.int .i64 z, .pointer none] 61)).cell? ⟨w.heap.size, 0, none⟩ = some (.int .i64 z) := by rw [World.cell?_alloc_at _ _ _ _ rfl]; rfl
    have k1 : (w.alloc (.cells #[.int .i64 z, .pointer none] 61)).cell? ⟨w.heap.size, 1, none⟩ = some (.pointer none) := by rw [World.cell?_alloc_at _ _ _ _ rfl]; rfl
    clear hs hbd
    go_enter Tryz.func26, Tryz.ntmps26
    go_wp2_with fail
    refine (hget.out _).mono ?_
    rintro e w1 ⟨rfl, hb1⟩
    have hbw := Lib.hid (show Below w.heap.size w w1 from (below_one _ (Nat.le_refl _)).trans (hb1.mono (by simp)))
    clear hb1 k0 k1
    go_wp2_with (go_at_call 46; refine (hsg.out _).mono ?_; rintro e w2 ⟨rfl, rfl⟩)
    go_ret
    exact ⟨rfl, hbw.out⟩
  · have hget := Lib.hid fun w => get_any 0 (some ⟨g, 0, none⟩) w
    have k0 : (w.alloc (.cells #[.int .i64 0, .pointer (some ⟨g, 0, none⟩)] 61)).cell? ⟨w.heap.size, 0, none⟩ = some (.int .i64 0) := by rw [World.cell?_alloc_at _ _ _ _ rfl]; rfl
    have k1 : (w.alloc (.cells #[.int .i64 0, .pointer (some ⟨g, 0, none⟩)] 61)).cell? ⟨w.heap.size, 1, none⟩ = some (.pointer (some ⟨g, 0, none⟩)) := by rw [World.cell?_alloc_at _ _ _ _ rfl]; rfl
    have hsg := Lib.hid fun W (hW : Below w.heap.size w W) => bsign_at g neg V W (hbig.later hW).at_ hm
    clear hs hm
    obtain ⟨σ, hσ⟩ : ∃ σ, sgn (sg neg V) = σ := ⟨_, rfl⟩
    rw [hσ] at hsg ⊢
    clear hσ hbig
    go_enter Tryz.func26, Tryz.ntmps26
    go_wp2_with fail
    refine (hget.out _).mono ?_
    rintro e w1 ⟨rfl, hb1⟩
    have hbw := Lib.hid (show Below w.heap.size w w1 from (below_one _ (Nat.le_refl _)).trans (hb1.mono (by simp)))
    clear hb1 k0 k1
    go_wp2_with (go_at_call 45; refine (hsg.out _ hbw.out).mono ?_; rintro e w2 ⟨rfl, rfl⟩)
    go_ret
    exact ⟨rfl, hbw.out⟩

def Cells8 (wr : World) (b d : Nat) (x0 x1 x2 x3 x4 x5 y0 y1 : Value) : Prop :=
  wr.cell? ⟨b, 0, none⟩ = some x0 ∧ wr.cell? ⟨b, 1, none⟩ = some x1 ∧ wr.cell? ⟨b, 2, none⟩ = some x2 ∧ wr.cell? ⟨b, 3, none⟩ = some x3 ∧ wr.cell? ⟨b, 4, none⟩ = some x4 ∧ wr.cell? ⟨b, 5, none⟩ = some x5 ∧ wr.cell? ⟨d, 0, none⟩ = some y0 ∧ wr.cell? ⟨d, 1, none⟩ = some y1
theorem keep8 {wr : World} {b d g : Nat} {x0 x1 x2 x3 x4 x5 y0 y1 u0 u1 u2 u3 u4 u5 : Value} (h : Cells8 wr b d x0 x1 x2 x3 x4 x5 y0 y1) (h1 : g ≠ b) (h2 : g ≠ d) :
    Cells8 ((((((wr.setCell ⟨g, 0, none⟩ u0).setCell ⟨g, 1, none⟩ u1).setCell ⟨g, 2, none⟩ u2).setCell ⟨g, 3, none⟩ u3).setCell ⟨g, 4, none⟩ u4).setCell ⟨g, 5, none⟩ u5) b d x0 x1 x2 x3 x4 x5 y0 y1 := by
  have key : ∀ (c i : Nat), g ≠ c → ((((((wr.setCell ⟨g, 0, none⟩ u0).setCell ⟨g, 1, none⟩ u1).setCell ⟨g, 2, none⟩ u2).setCell ⟨g, 3, none⟩ u3).setCell ⟨g, 4, none⟩ u4).setCell ⟨g, 5, none⟩ u5).cell? ⟨c, i, none⟩ = wr.cell? ⟨c, i, none⟩ := fun c i hc => by
    rw [World.cell?_setCell_far _ _ _ _ hc, World.cell?_setCell_far _ _ _ _ hc, World.cell?_setCell_far _ _ _ _ hc, World.cell?_setCell_far _ _ _ _ hc, World.cell?_setCell_far _ _ _ _ hc, World.cell?_setCell_far _ _ _ _ hc]
  unfold Cells8 at h ⊢
  rw [key b 0 h1, key b 1 h1, key b 2 h1, key b 3 h1, key b 4 h1, key b 5 h1, key d 0 h2, key d 1 h2]
  exact h

set_option maxHeartbeats 2000000 in
set_option maxRecDepth 100000 in
theorem idiv_any (N1 N2 : Bool) (a1 a2 : Option Addr) (l1 l2 : List UInt8) (c1 c2 : Nat) (w : World) (hr1 : Rd w a1 l1) (hr2 : Rd w a2 l2) (hl1 : l1.length ≤ 104) (hl2 : l2.length ≤ 104) (hc1 : l1.length ≤ c1) (hc2 : l2.length ≤ c2) (hz2 : sg N2 (be l2) ≠ 0) (h40 : w.cell? ⟨1, 0, none⟩ = some (.int .i64 40)) (Y : Int) (hY : quoZ (decide (sg N1 (be l1) < 0)) (decide (sg N2 (be l2) < 0)) (sg N1 (be l1)).natAbs (sg N2 (be l2)).natAbs = Y) :
    Calls Tryz.prog 12 #[.agg #[.int .i64 2, .bool N1, .slice a1 l1.length c1, .int .u64 0, .string ⟨#[]⟩, .slice none 0 0], .agg #[.int .i64 2, .bool N2, .slice a2 l2.length c2, .int .u64 0, .string ⟨#[]⟩, .slice none 0 0]] w fun e w' => (∃ x, e = .returned x ∧ IsValR w' w.heap.size x (decide (Y < 0)) Y.natAbs) ∧ Below w.heap.size w w' := by
  have hlen1 := len_be13 l1 hl1 N1
  have hlen2 := len_be13 l2 hl2 N2
  have hvlt : 1 < w.heap.size := World.block_lt_of_cell? w _ h40
  have hwh1 := Lib.hid fun wr (hW : Below w.heap.size w wr) => whole_any 2 N1 a1 l1 c1 0 ⟨#[]⟩ none 0 0 wr (hr1.later hW) (by omega) hc1
  have hwh2 := Lib.hid fun wr (hW : Below w.heap.size w wr) => whole_any 2 N2 a2 l2 c2 0 ⟨#[]⟩ none 0 0 wr (hr2.later hW) (by omega) hc2
  obtain ⟨n1, hn1⟩ : ∃ n, l1.length = n := ⟨_, rfl⟩
  obtain ⟨n2, hn2⟩ : ∃ n, l2.length = n := ⟨_, rfl⟩
  obtain ⟨Z1, hZ1⟩ : ∃ Z, sg N1 (be l1) = Z := ⟨_, rfl⟩
  obtain ⟨Z2, hZ2⟩ : ∃ Z, sg N2 (be l2) = Z := ⟨_, rfl⟩
  rw [hn1, hZ1] at hwh1
  rw [hn2, hZ2] at hwh2
  rw [hn1, hn2]
  rw [hZ1] at hlen1 hY
  rw [hZ2] at hlen2 hY hz2
  have hsg := Lib.hid fun u B wr (h : SInt wr B u Z2) => ssign_any u Z2 B wr h
  have hdiv := Lib.hid fun u v B1 B2 wr (h1 : SInt wr B1 u Z1) (h2 : SInt wr B2 v Z2) (hW : Below w.heap.size w wr) => sdiv_any u v Z1 Z2 B1 B2 wr h1 h2 (by omega) (by omega) hz2 (by rw [hW.cell hvlt]; exact h40)
  have hsz := sgn_ne' Z2
  rw [decide_eq_false hz2] at hsz
  rw [hY] at hdiv
  have hnum := Lib.hid fun v W (hW : SAt W v Y) => number_at v Y W hW
  obtain ⟨σ, hσ⟩ : ∃ σ, sgn Z2 = σ := ⟨_, rfl⟩
  rw [hσ] at hsg hsz
  obtain ⟨w1, hw1⟩ : ∃ w1, ((w.alloc (.cells #[.int .i64 2, .bool N1, .slice a1 n1 c1, .int .u64 0, .string ⟨#[]⟩, .slice none 0 0] 28)).alloc (.cells #[.int .i64 2, .bool N2, .slice a2 n2 c2, .int .u64 0, .string ⟨#[]⟩, .slice none 0 0] 28)).alloc (.cells #[.int .i64 0, .bool false, .slice none 0 0, .int .u64 0, .string ⟨#[]⟩, .slice none 0 0] 28) = w1 := ⟨_, rfl⟩
  have hs1 : w1.heap.size = w.heap.size + 3 := by rw [← hw1]; simp
  have hb1 : Below w.heap.size w w1 := by rw [← hw1]; exact ((below_one _ (Nat.le_refl _)).alloc (by simp) _).alloc (by simp; omega) _
  have hk1 : Box.Holds w1 w.heap.size 28 #[.int .i64 2, .bool N1, .slice a1 n1 c1, .int .u64 0, .string ⟨#[]⟩, .slice none 0 0] := by
    rw [← hw1]; exact ((Box.Holds.made w 28 #[.int .i64 2, .bool N1, .slice a1 n1 c1, .int .u64 0, .string ⟨#[]⟩, .slice none 0 0]).alloc _).alloc _
  have hk2 : Box.Holds w1 (w.heap.size + 1) 28 #[.int .i64 2, .bool N2, .slice a2 n2 c2, .int .u64 0, .string ⟨#[]⟩, .slice none 0 0] := by
    have := (Box.Holds.made (w.alloc (.cells #[.int .i64 2, .bool N1, .slice a1 n1 c1, .int .u64 0, .string ⟨#[]⟩, .slice none 0 0] 28)) 28 #[.int .i64 2, .bool N2, .slice a2 n2 c2, .int .u64 0, .string ⟨#[]⟩, .slice none 0 0]).alloc (.cells #[.int .i64 0, .bool false, .slice none 0 0, .int .u64 0, .string ⟨#[]⟩, .slice none 0 0] 28)
    rw [show (w.alloc (.cells #[.int .i64 2, .bool N1, .slice a1 n1 c1, .int .u64 0, .string ⟨#[]⟩, .slice none 0 0] 28)).heap.size = w.heap.size + 1 by simp, hw1] at this
    exact this
  have hk3 : Box.Holds w1 (w.heap.size + 1 + 1) 28 #[.int .i64 0, .bool false, .slice none 0 0, .int .u64 0, .string ⟨#[]⟩, .slice none 0 0] := by
    have := Box.Holds.made ((w.alloc (.cells #[.int .i64 2, .bool N1, .slice a1 n1 c1, .int .u64 0, .string ⟨#[]⟩, .slice none 0 0] 28)).alloc (.cells #[.int .i64 2, .bool N2, .slice a2 n2 c2, .int .u64 0, .string ⟨#[]⟩, .slice none 0 0] 28)) 28 #[.int .i64 0, .bool false, .slice none 0 0, .int .u64 0, .string ⟨#[]⟩, .slice none 0 0]
    rw [show ((w.alloc (.cells #[.int .i64 2, .bool N1, .slice a1 n1 c1, .int .u64 0, .string ⟨#[]⟩, .slice none 0 0] 28)).alloc (.cells #[.int .i64 2, .bool N2, .slice a2 n2 c2, .int .u64 0, .string ⟨#[]⟩, .slice none 0 0] 28)).heap.size = w.heap.size + 1 + 1 by simp, hw1] at this
    exact this
  have hkeep := Lib.hid fun wr (hW : Below w1.heap.size w1 wr) => cells12 (hk1.later hW) (hk2.later hW)
  have hup := Lib.hid fun wr (hW : Below w1.heap.size w1 wr) => hb1.trans (hW.mono hb1.size)
  have hend := Lib.hid fun wr v neg m B (hW : Below w1.heap.size w1 wr) (hB : w1.heap.size ≤ B) (hv : IsValR wr B v neg m) => valEnd w wr v neg m B (w.heap.size + 1 + 1) (hb1.trans (hW.mono hb1.size)) (hk3.later hW) (by omega) (by omega) hv
  have hw1' := Lib.hid hw1
  clear hn1 hn2 hZ1 hZ2 hr1 hr2 hlen1 hlen2 hY hw1 hb1 hk1 hk2 hk3 h40 hσ hz2
  go_enter Tryz.func12, Tryz.ntmps12
  have c1' := hkeep.out w1 (Below.refl _ _)
  unfold Cells12 at c1'
  obtain ⟨-, -, -, -, -, -, j0, j1, j2, j3, j4, j5⟩ := c1'
  go_wp2_with fail
  rw [hw1'.out]
  go_wp2_with fail
  refine (hwh2.out w1 (hup.out _ (Below.refl _ _))).mono ?_
  rintro e w2 ⟨⟨v2, rfl, hv2⟩, hb2⟩
  obtain ⟨y2, p2, rfl⟩ := hv2.shape

  obtain ⟨w3, hw3⟩ : ∃ w3, w2.alloc (.cells #[.int .i64 y2, .pointer p2] 61) = w3 := ⟨_, rfl⟩
  have hsz3 : w3.heap.size = w2.heap.size + 1 := by rw [← hw3]; simp
  have hb23 : Below w2.heap.size w2 w3 := by rw [← hw3]; exact below_one _ (Nat.le_refl _)
  have hkz : Box.Holds w3 w2.heap.size 61 #[.int .i64 y2, .pointer p2] := by rw [← hw3]; exact Box.Holds.made w2 61 _
  have hv3 := hv2.later hb23
  have hb13 := hb2.trans (hb23.mono hb2.size)
  have hw3' := Lib.hid hw3
  have hzc := Lib.hid fun wr (hW : Below w3.heap.size w3 wr) => (show wr.cell? ⟨w2.heap.size, 0, none⟩ = some (.int .i64 y2) ∧ wr.cell? ⟨w2.heap.size, 1, none⟩ = some (.pointer p2) from by
    have h := hkz.later hW
    have c0 := h.cell 0
    have c1 := h.cell 1
    simp at c0 c1
    exact ⟨c0, c1⟩)
  have hn2 : w2.heap.size ≠ w.heap.size := by have := hb2.size; omega
  have hn3 : w2.heap.size ≠ w.heap.size + 1 + 1 := by have := hb2.size; omega
  have hv3' := Lib.hid hv3
  have hb13' := Lib.hid hb13
  clear hv2 hv3 hb2 hb23 hb13 hw3 hkz j0 j1 j2 j3 j4 j5
  go_wp2_with fail
  rw [hw3'.out]
  refine (hsg.out _ _ w3 hv3'.out).mono ?_
  rintro e w4 ⟨rfl, hb4⟩
  obtain ⟨z0, z1⟩ := hzc.out w4 hb4
  have hb14 := Lib.hid (hb13'.out.trans (hb4.mono hb13'.out.size))
  have hb4' := Lib.hid hb4
  have hv4 := Lib.hid (hv3'.out.later hb4)
  clear hb4
  go_wp2_with fail
  have hkp := Lib.hid fun wr (hW : Below w4.heap.size w4 wr) => (show Cells8 wr w.heap.size w2.heap.size (.int .i64 2) (.bool N1) (.slice a1 n1 c1) (.int .u64 0) (.string ⟨#[]⟩) (.slice none 0 0) (.int .i64 y2) (.pointer p2) from by
    have c := hkeep.out wr (hb14.out.trans (hW.mono hb14.out.size))
    have d := hzc.out wr (hb4'.out.trans (hW.mono hb4'.out.size))
    exact ⟨c.1, c.2.1, c.2.2.1, c.2.2.2.1, c.2.2.2.2.1, c.2.2.2.2.2.1, d.1, d.2⟩)
  have hd0 := Lib.hid (show Below w4.heap.size w4 w4.drew from Box.below_drawn (Below.refl w4.heap.size w4) 1)
  have hup4 := Lib.hid fun wr (hW : Below w4.heap.size w4 wr) => (show Below w1.heap.size w1 wr from hb14.out.trans (hW.mono hb14.out.size))
  have hz4 := Lib.hid fun wr (hW : Below w4.heap.size w4 wr) => hv4.out.later hW
  have c1' := hkp.out w4.drew hd0.out
  clear hzc hb13' hv3' hb4' hw3' z0 z1
  unfold Cells8 at c1'
  go_region_held3 (fun W => W.cell? ⟨w.heap.size, 0, none⟩ = some (.int .i64 2) ∧ W.cell? ⟨w.heap.size, 1, none⟩ = some (.bool N1) ∧ W.cell? ⟨w.heap.size, 2, none⟩ = some (.slice a1 n1 c1) ∧ W.cell? ⟨w.heap.size, 3, none⟩ = some (.int .u64 0) ∧ W.cell? ⟨w.heap.size, 4, none⟩ = some (.string ⟨#[]⟩) ∧ W.cell? ⟨w.heap.size, 5, none⟩ = some (.slice none 0 0) ∧ W.cell? ⟨w2.heap.size, 0, none⟩ = some (.int .i64 y2) ∧ W.cell? ⟨w2.heap.size, 1, none⟩ = some (.pointer p2))
    (first | with_reducible exact c1' | with_reducible exact c5' | with_reducible exact c6' | with_reducible exact c7' | with_reducible exact c8' _ _ _ _ _ _)
    (first
      | (go_at_call 25; (with_reducible refine (hwh1.out w4.drew (hup.out _ (hup4.out _ hd0.out))).mono ?_); rintro e w5 ⟨⟨v5, rfl, hv5⟩, hb5⟩; have hb45 := hd0.out.trans (hb5.mono hd0.out.size); have c5' := hkp.out w5 hb45; unfold Cells8 at c5')
      | (go_at_call 28; refine (hdiv.out v5 _ _ _ w5 hv5 (hz4.out _ hb45) (hup.out _ (hup4.out _ hb45))).mono ?_; rintro e w6 ⟨⟨v6, rfl, hv6⟩, hb6⟩; have hb46 := hb45.trans (hb6.mono hb45.size); have c6' := hkp.out w6 hb46; unfold Cells8 at c6')
      | (go_at_call 27; refine (hnum.out v6 w6 hv6).mono ?_; rintro e w7 ⟨⟨v7, rfl, hv7⟩, hb7⟩; have hb47 := hb46.trans (hb7.mono hb46.size); have c7' := hkp.out w7 hb47; have c8' := fun u0 u1 u2 u3 u4 u5 => keep8 (g := w.heap.size + 1 + 1) (u0 := u0) (u1 := u1) (u2 := u2) (u3 := u3) (u4 := u4) (u5 := u5) c7' (by omega) (by omega); unfold Cells8 at c7' c8'; obtain ⟨a6, n6, c6, rfl, ⟨k0, k1, k2, k3, k4, k5⟩, hfr, hlt6, hfin0⟩ := hend.out w7 v7 _ _ _ (hup4.out _ hb47) (hup4.out _ hb46).size hv7; have f0 := hfr 0; have f1 := hfr 1; have f2 := hfr 2; have f3 := hfr 3; have f4 := hfr 4; have f5 := hfr 5; have hfin := Lib.hid hfin0; clear hfin0 hv7 hfr))
  clear hv5 hv6
  go_wp2
  exact bodyPost_ret (v := .agg #[.int .i64 2, .bool (decide (Y < 0)), .slice a6 n6 c6, .int .u64 0, .string ⟨#[]⟩, .slice none 0 0]) (by simp [results, Tryz.results12, go_sem, k0, k1, k2, k3, k4, k5]) rfl ⟨⟨_, rfl, hfin.out.1⟩, hfin.out.2⟩
end Go.Proofs.YtpjkfdgkkpkljaaGreatDoor.Big
