/-
  The thin package's exclusive or.
-/
import Derived.Test.YtaappbnbjpbbcaaStarXor
import Derived.Test.YtaappbnbjpbbcaaImplShift
namespace Go.Proofs.Ytaappbnbjpbbcaa.Big
open Go.RowKit Go.WideShapes Go.Proofs.Ytaappbnbjpbbcaa.Own Go.Proofs.Ytaappbnbjpbbcaa.Num Go.Proofs.Ytaappbnbjpbbcaa.Ref Go.Proofs.Ytaappbnbjpbbcaa.Nat_
set_option linter.unusedVariables false

/-- a value that is stored into the result's own cells -/
theorem valEnd (w wr : World) (v : Value) (neg : Bool) (m B g : Nat) (hb : Below w.heap.size w wr) (hk : Box.Holds wr g 26 #[.int .i64 0, .bool false, .slice none 0 0, .int .u64 0, .string ⟨#[]⟩, .slice none 0 0]) (hg : w.heap.size ≤ g) (hgB : g < B) (hv : IsValR wr B v neg m) :
    ∃ a n c, v = .agg #[.int .i64 2, .bool neg, .slice a n c, .int .u64 0, .string ⟨#[]⟩, .slice none 0 0] ∧ (wr.cell? ⟨g, 0, none⟩ = some (.int .i64 0) ∧ wr.cell? ⟨g, 1, none⟩ = some (.bool false) ∧ wr.cell? ⟨g, 2, none⟩ = some (.slice none 0 0) ∧ wr.cell? ⟨g, 3, none⟩ = some (.int .u64 0) ∧ wr.cell? ⟨g, 4, none⟩ = some (.string ⟨#[]⟩) ∧ wr.cell? ⟨g, 5, none⟩ = some (.slice none 0 0)) ∧ (∀ i, wr.frozen? ⟨g, i, none⟩ = false) ∧ g < wr.heap.size ∧
      IsValR ((((((wr.setCell ⟨g, 0, none⟩ (.int .i64 2)).setCell ⟨g, 1, none⟩ (.bool neg)).setCell ⟨g, 2, none⟩ (.slice a n c)).setCell ⟨g, 3, none⟩ (.int .u64 0)).setCell ⟨g, 4, none⟩ (.string ⟨#[]⟩)).setCell ⟨g, 5, none⟩ (.slice none 0 0)) w.heap.size (.agg #[.int .i64 2, .bool neg, .slice a n c, .int .u64 0, .string ⟨#[]⟩, .slice none 0 0]) neg m ∧ Below w.heap.size w ((((((wr.setCell ⟨g, 0, none⟩ (.int .i64 2)).setCell ⟨g, 1, none⟩ (.bool neg)).setCell ⟨g, 2, none⟩ (.slice a n c)).setCell ⟨g, 3, none⟩ (.int .u64 0)).setCell ⟨g, 4, none⟩ (.string ⟨#[]⟩)).setCell ⟨g, 5, none⟩ (.slice none 0 0)) := by
  have hv2 := hv
  obtain ⟨a, n, c, rfl⟩ := hv2.shape
  have k0 := hk.cell 0
  have k1 := hk.cell 1
  have k2 := hk.cell 2
  have k3 := hk.cell 3
  have k4 := hk.cell 4
  have k5 := hk.cell 5
  simp at k0 k1 k2 k3 k4 k5
  have hab : Box.Above B wr ((((((wr.setCell ⟨g, 0, none⟩ (.int .i64 2)).setCell ⟨g, 1, none⟩ (.bool neg)).setCell ⟨g, 2, none⟩ (.slice a n c)).setCell ⟨g, 3, none⟩ (.int .u64 0)).setCell ⟨g, 4, none⟩ (.string ⟨#[]⟩)).setCell ⟨g, 5, none⟩ (.slice none 0 0)) := ((((((Box.Above.refl B wr).setCell (p := ⟨g, 0, none⟩) hgB (.int .i64 2)).setCell (p := ⟨g, 1, none⟩) hgB (.bool neg)).setCell (p := ⟨g, 2, none⟩) hgB (.slice a n c)).setCell (p := ⟨g, 3, none⟩) hgB (.int .u64 0)).setCell (p := ⟨g, 4, none⟩) hgB (.string ⟨#[]⟩)).setCell (p := ⟨g, 5, none⟩) hgB (.slice none 0 0)
  exact ⟨a, n, c, rfl, ⟨k0, k1, k2, k3, k4, k5⟩, hk.free, hk.lt, (hv.above hab (by simp)).mono (Nat.le_trans hg (Nat.le_of_lt hgB)),
    (((((hb.setCell (p := ⟨g, 0, none⟩) hg (.int .i64 2)).setCell (p := ⟨g, 1, none⟩) hg (.bool neg)).setCell (p := ⟨g, 2, none⟩) hg (.slice a n c)).setCell (p := ⟨g, 3, none⟩) hg (.int .u64 0)).setCell (p := ⟨g, 4, none⟩) hg (.string ⟨#[]⟩)).setCell (p := ⟨g, 5, none⟩) hg (.slice none 0 0)⟩
def Cells12 (wr : World) (b : Nat) (x0 x1 x2 x3 x4 x5 y0 y1 y2 y3 y4 y5 : Value) : Prop :=
  wr.cell? ⟨b, 0, none⟩ = some x0 ∧ wr.cell? ⟨b, 1, none⟩ = some x1 ∧ wr.cell? ⟨b, 2, none⟩ = some x2 ∧ wr.cell? ⟨b, 3, none⟩ = some x3 ∧ wr.cell? ⟨b, 4, none⟩ = some x4 ∧ wr.cell? ⟨b, 5, none⟩ = some x5 ∧ wr.cell? ⟨b + 1, 0, none⟩ = some y0 ∧ wr.cell? ⟨b + 1, 1, none⟩ = some y1 ∧ wr.cell? ⟨b + 1, 2, none⟩ = some y2 ∧ wr.cell? ⟨b + 1, 3, none⟩ = some y3 ∧ wr.cell? ⟨b + 1, 4, none⟩ = some y4 ∧ wr.cell? ⟨b + 1, 5, none⟩ = some y5
theorem cells12 {W : World} {b : Nat} {t1 t2 : TypeId} {x0 x1 x2 x3 x4 x5 y0 y1 y2 y3 y4 y5 : Value} (h1 : Box.Holds W b t1 #[x0, x1, x2, x3, x4, x5]) (h2 : Box.Holds W (b + 1) t2 #[y0, y1, y2, y3, y4, y5]) : Cells12 W b x0 x1 x2 x3 x4 x5 y0 y1 y2 y3 y4 y5 := by
  have k0 := h1.cell 0
  have k1 := h1.cell 1
  have k2 := h1.cell 2
  have k3 := h1.cell 3
  have k4 := h1.cell 4
  have k5 := h1.cell 5
  have j0 := h2.cell 0
  have j1 := h2.cell 1
  have j2 := h2.cell 2
  have j3 := h2.cell 3
  have j4 := h2.cell 4
  have j5 := h2.cell 5
  simp at k0 k1 k2 k3 k4 k5 j0 j1 j2 j3 j4 j5
  exact ⟨k0, k1, k2, k3, k4, k5, j0, j1, j2, j3, j4, j5⟩
theorem keep12 {wr : World} {b g : Nat} {x0 x1 x2 x3 x4 x5 y0 y1 y2 y3 y4 y5 u0 u1 u2 u3 u4 u5 : Value} (h : Cells12 wr b x0 x1 x2 x3 x4 x5 y0 y1 y2 y3 y4 y5) (h1 : g ≠ b) (h2 : g ≠ b + 1) :
    Cells12 ((((((wr.setCell ⟨g, 0, none⟩ u0).setCell ⟨g, 1, none⟩ u1).setCell ⟨g, 2, none⟩ u2).setCell ⟨g, 3, none⟩ u3).setCell ⟨g, 4, none⟩ u4).setCell ⟨g, 5, none⟩ u5) b x0 x1 x2 x3 x4 x5 y0 y1 y2 y3 y4 y5 := by
  have key : ∀ (c i : Nat), g ≠ c → ((((((wr.setCell ⟨g, 0, none⟩ u0).setCell ⟨g, 1, none⟩ u1).setCell ⟨g, 2, none⟩ u2).setCell ⟨g, 3, none⟩ u3).setCell ⟨g, 4, none⟩ u4).setCell ⟨g, 5, none⟩ u5).cell? ⟨c, i, none⟩ = wr.cell? ⟨c, i, none⟩ := fun c i hc => by
    rw [World.cell?_setCell_far _ _ _ _ hc, World.cell?_setCell_far _ _ _ _ hc, World.cell?_setCell_far _ _ _ _ hc, World.cell?_setCell_far _ _ _ _ hc, World.cell?_setCell_far _ _ _ _ hc, World.cell?_setCell_far _ _ _ _ hc]
  unfold Cells12 at h ⊢
  rw [key b 0 h1, key b 1 h1, key b 2 h1, key b 3 h1, key b 4 h1, key b 5 h1, key (b + 1) 0 h2, key (b + 1) 1 h2, key (b + 1) 2 h2, key (b + 1) 3 h2, key (b + 1) 4 h2, key (b + 1) 5 h2]
  exact h

set_option maxHeartbeats 2000000 in
set_option maxRecDepth 100000 in
theorem ixor_any (N1 N2 : Bool) (a1 a2 : Option Addr) (l1 l2 : List UInt8) (c1 c2 : Nat) (w : World) (hr1 : Rd w a1 l1) (hr2 : Rd w a2 l2) (hl1 : l1.length ≤ 1000) (hl2 : l2.length ≤ 1000) (hc1 : l1.length ≤ c1) (hc2 : l2.length ≤ c2) (Y : Int) (hY : xorZ (sg N1 (be l1)) (sg N2 (be l2)) = Y) :
    Calls Try.prog 16 #[.agg #[.int .i64 2, .bool N1, .slice a1 l1.length c1, .int .u64 0, .string ⟨#[]⟩, .slice none 0 0], .agg #[.int .i64 2, .bool N2, .slice a2 l2.length c2, .int .u64 0, .string ⟨#[]⟩, .slice none 0 0]] w fun e w' => (∃ x, e = .returned x ∧ IsValR w' w.heap.size x (decide (Y < 0)) Y.natAbs) ∧ Below w.heap.size w w' := by
  have hlen1 := len_be l1 hl1 N1
  have hlen2 := len_be l2 hl2 N2
  have hwh1 := Lib.hid fun wr (hW : Below w.heap.size w wr) => whole_any 2 N1 a1 l1 c1 0 ⟨#[]⟩ none 0 0 wr (hr1.later hW) hl1 hc1
  have hwh2 := Lib.hid fun wr (hW : Below w.heap.size w wr) => whole_any 2 N2 a2 l2 c2 0 ⟨#[]⟩ none 0 0 wr (hr2.later hW) hl2 hc2
  obtain ⟨n1, hn1⟩ : ∃ n, l1.length = n := ⟨_, rfl⟩
  obtain ⟨n2, hn2⟩ : ∃ n, l2.length = n := ⟨_, rfl⟩
  obtain ⟨Z1, hZ1⟩ : ∃ Z, sg N1 (be l1) = Z := ⟨_, rfl⟩
  obtain ⟨Z2, hZ2⟩ : ∃ Z, sg N2 (be l2) = Z := ⟨_, rfl⟩
  rw [hn1, hZ1] at hwh1
  rw [hn2, hZ2] at hwh2
  rw [hn1, hn2]
  rw [hZ1] at hlen1 hY
  rw [hZ2] at hlen2 hY
  have hxor := Lib.hid fun u v B1 B2 wr (h1 : SInt wr B1 u Z1) (h2 : SInt wr B2 v Z2) => sxor_any u v Z1 Z2 B1 B2 wr h1 h2 (Nat.le_trans hlen1 (by omega)) (Nat.le_trans hlen2 (by omega))
  rw [hY] at hxor
  have hnum := Lib.hid fun v B W (hW : SInt W B v Y) => number_any v Y B W hW
  obtain ⟨w1, hw1⟩ : ∃ w1, ((w.alloc (.cells #[.int .i64 2, .bool N1, .slice a1 n1 c1, .int .u64 0, .string ⟨#[]⟩, .slice none 0 0] 26)).alloc (.cells #[.int .i64 2, .bool N2, .slice a2 n2 c2, .int .u64 0, .string ⟨#[]⟩, .slice none 0 0] 26)).alloc (.cells #[.int .i64 0, .bool false, .slice none 0 0, .int .u64 0, .string ⟨#[]⟩, .slice none 0 0] 26) = w1 := ⟨_, rfl⟩
  have hs1 : w1.heap.size = w.heap.size + 3 := by rw [← hw1]; simp
  have hb1 : Below w.heap.size w w1 := by rw [← hw1]; exact ((below_one _ (Nat.le_refl _)).alloc (by simp) _).alloc (by simp; omega) _
  have hk1 : Box.Holds w1 w.heap.size 26 #[.int .i64 2, .bool N1, .slice a1 n1 c1, .int .u64 0, .string ⟨#[]⟩, .slice none 0 0] := by
    rw [← hw1]; exact ((Box.Holds.made w 26 #[.int .i64 2, .bool N1, .slice a1 n1 c1, .int .u64 0, .string ⟨#[]⟩, .slice none 0 0]).alloc _).alloc _
  have hk2 : Box.Holds w1 (w.heap.size + 1) 26 #[.int .i64 2, .bool N2, .slice a2 n2 c2, .int .u64 0, .string ⟨#[]⟩, .slice none 0 0] := by
    have := (Box.Holds.made (w.alloc (.cells #[.int .i64 2, .bool N1, .slice a1 n1 c1, .int .u64 0, .string ⟨#[]⟩, .slice none 0 0] 26)) 26 #[.int .i64 2, .bool N2, .slice a2 n2 c2, .int .u64 0, .string ⟨#[]⟩, .slice none 0 0]).alloc (.cells #[.int .i64 0, .bool false, .slice none 0 0, .int .u64 0, .string ⟨#[]⟩, .slice none 0 0] 26)
    rw [show (w.alloc (.cells #[.int .i64 2, .bool N1, .slice a1 n1 c1, .int .u64 0, .string ⟨#[]⟩, .slice none 0 0] 26)).heap.size = w.heap.size + 1 by simp, hw1] at this
    exact this
  have hk3 : Box.Holds w1 (w.heap.size + 1 + 1) 26 #[.int .i64 0, .bool false, .slice none 0 0, .int .u64 0, .string ⟨#[]⟩, .slice none 0 0] := by
    have := Box.Holds.made ((w.alloc (.cells #[.int .i64 2, .bool N1, .slice a1 n1 c1, .int .u64 0, .string ⟨#[]⟩, .slice none 0 0] 26)).alloc (.cells #[.int .i64 2, .bool N2, .slice a2 n2 c2, .int .u64 0, .string ⟨#[]⟩, .slice none 0 0] 26)) 26 #[.int .i64 0, .bool false, .slice none 0 0, .int .u64 0, .string ⟨#[]⟩, .slice none 0 0]
    rw [show ((w.alloc (.cells #[.int .i64 2, .bool N1, .slice a1 n1 c1, .int .u64 0, .string ⟨#[]⟩, .slice none 0 0] 26)).alloc (.cells #[.int .i64 2, .bool N2, .slice a2 n2 c2, .int .u64 0, .string ⟨#[]⟩, .slice none 0 0] 26)).heap.size = w.heap.size + 1 + 1 by simp, hw1] at this
    exact this
  have hkeep := Lib.hid fun wr (hW : Below w1.heap.size w1 wr) => cells12 (hk1.later hW) (hk2.later hW)
  have hup := Lib.hid fun wr (hW : Below w1.heap.size w1 wr) => hb1.trans (hW.mono hb1.size)
  have hend := Lib.hid fun wr v neg m B (hW : Below w1.heap.size w1 wr) (hB : w1.heap.size ≤ B) (hv : IsValR wr B v neg m) => valEnd w wr v neg m B (w.heap.size + 1 + 1) (hb1.trans (hW.mono hb1.size)) (hk3.later hW) (by omega) (by omega) hv
  have hd0 := Lib.hid (show Below w1.heap.size w1 w1.drew from Box.below_drawn (Below.refl w1.heap.size w1) 1)
  have hw1' := Lib.hid hw1
  clear hn1 hn2 hZ1 hZ2 hr1 hr2 hlen1 hlen2 hY hw1 hb1 hk1 hk2 hk3
  go_enter Try.func16, Try.ntmps16
  go_wp2_with fail
  rw [hw1'.out]
  have c1' := hkeep.out w1.drew hd0.out
  unfold Cells12 at c1'
  go_region_held3 (fun W => W.cell? ⟨w.heap.size, 0, none⟩ = some (.int .i64 2) ∧ W.cell? ⟨w.heap.size, 1, none⟩ = some (.bool N1) ∧ W.cell? ⟨w.heap.size, 2, none⟩ = some (.slice a1 n1 c1) ∧ W.cell? ⟨w.heap.size, 3, none⟩ = some (.int .u64 0) ∧ W.cell? ⟨w.heap.size, 4, none⟩ = some (.string ⟨#[]⟩) ∧ W.cell? ⟨w.heap.size, 5, none⟩ = some (.slice none 0 0) ∧ W.cell? ⟨w.heap.size + 1, 0, none⟩ = some (.int .i64 2) ∧ W.cell? ⟨w.heap.size + 1, 1, none⟩ = some (.bool N2) ∧ W.cell? ⟨w.heap.size + 1, 2, none⟩ = some (.slice a2 n2 c2) ∧ W.cell? ⟨w.heap.size + 1, 3, none⟩ = some (.int .u64 0) ∧ W.cell? ⟨w.heap.size + 1, 4, none⟩ = some (.string ⟨#[]⟩) ∧ W.cell? ⟨w.heap.size + 1, 5, none⟩ = some (.slice none 0 0))
    (first | with_reducible exact c1' | with_reducible exact c3' | with_reducible exact c4' | with_reducible exact c5' | with_reducible exact c6' | with_reducible exact c7' _ _ _ _ _ _)
    (first
      | (go_at_call 31; (with_reducible refine (hwh1.out w1.drew (hup.out _ hd0.out)).mono ?_); rintro e w3 ⟨⟨v3, rfl, hv3⟩, hb3⟩; have hb13 := hd0.out.trans (hb3.mono hd0.out.size); have c3' := hkeep.out w3 hb13; unfold Cells12 at c3')
      | (go_at_call 31; (with_reducible refine (hwh2.out w3 (hup.out _ hb13)).mono ?_); rintro e w4 ⟨⟨v4, rfl, hv4⟩, hb4⟩; have hb14 := hb13.trans (hb4.mono hb13.size); have c4' := hkeep.out w4 hb14; unfold Cells12 at c4')
      | (go_at_call 35; refine (hxor.out v3 v4 _ _ w4 (hv3.later hb4) hv4).mono ?_; rintro e w5 ⟨⟨v5, rfl, hv5⟩, hb5⟩; have hb15 := hb14.trans (hb5.mono hb14.size); have c5' := hkeep.out w5 hb15; unfold Cells12 at c5')
      | (go_at_call 34; refine (hnum.out v5 _ w5 hv5).mono ?_; rintro e w6 ⟨⟨v6, rfl, hv6⟩, hb6⟩; have hb16 := hb15.trans (hb6.mono hb15.size); have c6' := hkeep.out w6 hb16; unfold Cells12 at c6'; have c7' := fun u0 u1 u2 u3 u4 u5 => keep12 (g := w.heap.size + 1 + 1) (u0 := u0) (u1 := u1) (u2 := u2) (u3 := u3) (u4 := u4) (u5 := u5) c6' (by omega) (by omega); unfold Cells12 at c7'; obtain ⟨a6, n6, c6, rfl, ⟨k0, k1, k2, k3, k4, k5⟩, hfr, hlt6, hfin0⟩ := hend.out w6 v6 _ _ _ hb16 hb15.size hv6; have f0 := hfr 0; have f1 := hfr 1; have f2 := hfr 2; have f3 := hfr 3; have f4 := hfr 4; have f5 := hfr 5; have hfin := Lib.hid hfin0; clear hfin0 hv6 hfr))
  clear hv3 hv4 hv5
  go_wp2
  exact bodyPost_ret (v := .agg #[.int .i64 2, .bool (decide (Y < 0)), .slice a6 n6 c6, .int .u64 0, .string ⟨#[]⟩, .slice none 0 0]) (by simp [results, Try.results16, go_sem, k0, k1, k2, k3, k4, k5]) rfl ⟨⟨_, rfl, hfin.out.1⟩, hfin.out.2⟩
end Go.Proofs.Ytaappbnbjpbbcaa.Big
