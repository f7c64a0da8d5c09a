/-
  The law on the exclusive or.
-/
import Derived.Test.YtaappbnbjpbbcaaRowIn
import Derived.Test.YtaappbnbjpbbcaaImplXor
import Derived.Test.YtaappbnbjpbbcaaIsInt
import Derived.Deep.RegionHeld3
namespace Go.Proofs.Ytaappbnbjpbbcaa.fnIntXor
open Go.RowKit Go.WideShapes Go.Proofs.Ytaappbnbjpbbcaa.Own Go.Proofs.Ytaappbnbjpbbcaa.Num Go.Proofs.Ytaappbnbjpbbcaa.Ref Go.Proofs.Ytaappbnbjpbbcaa.Big
set_option linter.unusedVariables false

/-- what the walk is told of a slice of integers that came in: it is nil; or it leads to a row of numbers, each fitting its kind -/
def IsRow (k : IntKind) (w : World) (a : Option Addr) (len cap : Nat) (zs : List Int) : Prop :=
  (a = none ∧ len = 0 ∧ cap = 0 ∧ zs = []) ∨
  ∃ x, a = some x ∧ len ≤ cap ∧ cap ≤ maxLen ∧ zs.length = cap ∧ (∀ i, i < zs.length → w.cell? (x.add i) = some (.int k (zs.getD i 0))) ∧ ∀ n ∈ zs, (Lit.int k n).wf = true

theorem IsRow.rd {w : World} {a : Option Addr} {len cap : Nat} {zs : List Int} (h : IsRow .u8 w a len cap zs) : ∃ l, l.length = len ∧ Rd w a l ∧ len ≤ cap ∧ (a = none → cap = 0) ∧ cap ≤ maxLen := by
  rcases h with ⟨rfl, rfl, rfl, rfl⟩ | ⟨x, rfl, h1, h2, h3, h4, h5⟩
  · exact ⟨[], rfl, .inl ⟨rfl, rfl⟩, Nat.le_refl _, fun _ => rfl, Nat.zero_le _⟩
  · obtain ⟨l, e, hr⟩ := rd_of_row h1 h3 h4 h5
    exact ⟨l, e, hr, h1, (fun h => by cases h), h2⟩

theorem RdS.of_own {w : World} {B : Nat} {v : Value} {l : List UInt8} (h : Owns w B v l) : RdS w B v l := by
  obtain ⟨a, c, rfl, hr, hc⟩ := Rd.of_own h
  refine ⟨a, c, rfl, hr, hc, fun h0 => ?_, fun x hx => ?_⟩
  · rcases h.2 with ⟨e, _⟩ | ⟨g, c', cur, e, _⟩
    · simp only [Value.slice.injEq] at e; exact e.2.2
    · subst h0; cases e
  · rcases h.2 with ⟨e, _⟩ | ⟨g, c', cur, e, hB, _⟩
    · subst hx; cases e
    · subst hx; cases e; exact hB
theorem cells8 {W : World} {b : Nat} {ti tv : TypeId} {x0 x1 y0 y1 y2 y3 y4 y5 : Value} (h1 : Box.Holds W b ti #[x0, x1]) (h2 : Box.Holds W (b + 1) tv #[y0, y1, y2, y3, y4, y5]) :
    W.cell? ⟨b, 0, none⟩ = some x0 ∧ W.cell? ⟨b, 1, none⟩ = some x1 ∧ W.cell? ⟨b + 1, 0, none⟩ = some y0 ∧ W.cell? ⟨b + 1, 1, none⟩ = some y1 ∧ W.cell? ⟨b + 1, 2, none⟩ = some y2 ∧ W.cell? ⟨b + 1, 3, none⟩ = some y3 ∧ W.cell? ⟨b + 1, 4, none⟩ = some y4 ∧ W.cell? ⟨b + 1, 5, none⟩ = some y5 := by
  have k0 := h1.cell 0
  have k1 := h1.cell 1
  have j0 := h2.cell 0
  have j1 := h2.cell 1
  have j2 := h2.cell 2
  have j3 := h2.cell 3
  have j4 := h2.cell 4
  have j5 := h2.cell 5
  simp at k0 k1 j0 j1 j2 j3 j4 j5
  exact ⟨k0, k1, j0, j1, j2, j3, j4, j5⟩
theorem be_take_lt (l : List UInt8) (n : Nat) : be (l.take n) < 256 ^ n :=
  Nat.lt_of_lt_of_le (be_lt _) (Nat.pow_le_pow_right (by decide) (by rw [List.length_take]; omega))
theorem mag_of_len (V n : Nat) (h : len W V ≤ n) : (mag V).length ≤ 8 * n := by
  refine mag_len_le ?_
  rw [← W_pow]
  exact Nat.lt_of_lt_of_le (len_lt W_two V) (Nat.pow_le_pow_right W_pos h)
theorem len_of_mag (V n : Nat) (h : (mag V).length ≤ n) (hn : n ≤ 5000) : len W V ≤ 5000 := by
  rw [mag_length] at h
  refine Nat.le_trans (len_le W_two (n := len 256 V) ?_) (by omega)
  refine Nat.lt_of_lt_of_le (len_lt (b := 256) (by omega) V) (Nat.pow_le_pow_left ?_ _)
  rw [W_eq]; omega
def Cells16 (wr : World) (b c : Nat) (x0 x1 p0 p1 p2 p3 p4 p5 y0 y1 q0 q1 q2 q3 q4 q5 : Value) : Prop :=
  wr.cell? ⟨b, 0, none⟩ = some x0 ∧ wr.cell? ⟨b, 1, none⟩ = some x1 ∧ wr.cell? ⟨b + 1, 0, none⟩ = some p0 ∧ wr.cell? ⟨b + 1, 1, none⟩ = some p1 ∧ wr.cell? ⟨b + 1, 2, none⟩ = some p2 ∧ wr.cell? ⟨b + 1, 3, none⟩ = some p3 ∧ wr.cell? ⟨b + 1, 4, none⟩ = some p4 ∧ wr.cell? ⟨b + 1, 5, none⟩ = some p5 ∧ wr.cell? ⟨c, 0, none⟩ = some y0 ∧ wr.cell? ⟨c, 1, none⟩ = some y1 ∧ wr.cell? ⟨c + 1, 0, none⟩ = some q0 ∧ wr.cell? ⟨c + 1, 1, none⟩ = some q1 ∧ wr.cell? ⟨c + 1, 2, none⟩ = some q2 ∧ wr.cell? ⟨c + 1, 3, none⟩ = some q3 ∧ wr.cell? ⟨c + 1, 4, none⟩ = some q4 ∧ wr.cell? ⟨c + 1, 5, none⟩ = some q5
theorem cells16 {W : World} {b c : Nat} {t1 t2 t3 t4 : TypeId} {x0 x1 p0 p1 p2 p3 p4 p5 y0 y1 q0 q1 q2 q3 q4 q5 : Value} (h1 : Box.Holds W b t1 #[x0, x1]) (h2 : Box.Holds W (b + 1) t2 #[p0, p1, p2, p3, p4, p5]) (h3 : Box.Holds W c t3 #[y0, y1]) (h4 : Box.Holds W (c + 1) t4 #[q0, q1, q2, q3, q4, q5]) :
    Cells16 W b c x0 x1 p0 p1 p2 p3 p4 p5 y0 y1 q0 q1 q2 q3 q4 q5 := by
  obtain ⟨e0, e1, e2, e3, e4, e5, e6, e7⟩ := cells8 h1 h2
  obtain ⟨f0, f1, f2, f3, f4, f5, f6, f7⟩ := cells8 h3 h4
  exact ⟨e0, e1, e2, e3, e4, e5, e6, e7, f0, f1, f2, f3, f4, f5, f6, f7⟩

set_option maxHeartbeats 2000000 in
set_option maxRecDepth 100000 in
theorem walk (a0 : Bool) (a1 : Option Addr) (len1 cap1 : Nat) (z1 : List Int) (a2 : Bool) (a3 : Option Addr) (len3 cap3 : Nat) (z3 : List Int) (w : World) (w1 : IsRow .u8 w a1 len1 cap1 z1) (w3 : IsRow .u8 w a3 len3 cap3 z3) :
    Calls Try.prog 5 #[.bool a0, .slice a1 len1 cap1, .bool a2, .slice a3 len3 cap3] w fun e w' => e = .returned (.bool true) ∧ Below w.heap.size w w' := by
  obtain ⟨l1, rfl, hr1, hc1, ha1, hcap1⟩ := w1.rd
  obtain ⟨l3, rfl, hr3, hc3, ha3, hcap3⟩ := w3.rd
  unfold maxLen at hcap1 hcap3
  clear w1 w3
  by_cases hl1 : l1.length ≤ 2147483647
  · by_cases hl3 : l3.length ≤ 2147483647
    · obtain ⟨V1, hV1⟩ : ∃ V, be (l1.take 300) = V := ⟨_, rfl⟩
      obtain ⟨V3, hV3⟩ : ∃ V, be (l3.take 300) = V := ⟨_, rfl⟩
      have hVl1 := Lib.hid (show V1 < 256 ^ 300 from by rw [← hV1]; exact be_take_lt l1 300)
      have hVl3 := Lib.hid (show V3 < 256 ^ 300 from by rw [← hV3]; exact be_take_lt l3 300)
      have hwh1 := Lib.hid (lwhole_any a0 a1 cap1 l1 300 w hr1 hl1 hc1 ha1 (by omega) V1 hV1)
      have hwh3 := Lib.hid fun wr (hW : Below w.heap.size w wr) => lwhole_any a2 a3 cap3 l3 300 wr (hr3.later hW) hl3 hc3 ha3 (by omega) V3 hV3
      obtain ⟨N1, hN1⟩ : ∃ N, (a0 && decide (0 < V1)) = N := ⟨_, rfl⟩
      obtain ⟨N3, hN3⟩ : ∃ N, (a2 && decide (0 < V3)) = N := ⟨_, rfl⟩
      rw [hN1] at hwh1
      rw [hN3] at hwh3
      have hm1 : (mag V1).length ≤ 300 := mag_len_le hVl1.out
      have hm3 : (mag V3).length ≤ 300 := mag_len_le hVl3.out
      obtain ⟨n1, hn1⟩ : ∃ n, l1.length = n := ⟨_, rfl⟩
      obtain ⟨n3, hn3⟩ : ∃ n, l3.length = n := ⟨_, rfl⟩
      rw [hn1] at hwh1 hc1 hl1 ⊢
      rw [hn3] at hwh3 hc3 hl3 ⊢
      have hNV1 : N1 = true → 0 < V1 := by rw [← hN1]; simp
      have hNV3 : N3 = true → 0 < V3 := by rw [← hN3]; simp
      obtain ⟨Y, hY⟩ : ∃ Y, xorZ (sg N1 V1) (sg N3 V3) = Y := ⟨_, rfl⟩
      have hYl : (mag Y.natAbs).length ≤ 2147483647 := by
        have h9 := xorZ_sg N1 N3 V1 V3 hNV1 hNV3
        rw [← hY, h9, sg_nat]
        exact Nat.le_trans (mag_of_len _ _ (len_xorS N1 N3 V1 V3 (len_of_mag _ _ hm1 (by omega)) (len_of_mag _ _ hm3 (by omega)))) (by omega)
      have hix := Lib.hid fun a c a' c' wr (h1 : Rd wr a (mag V1)) (h2 : Rd wr a' (mag V3)) (g1 : (mag V1).length ≤ c) (g2 : (mag V3).length ≤ c') => ixor_any N1 N3 a a' (mag V1) (mag V3) c c' wr h1 h2 (by omega) (by omega) g1 g2 Y (by rw [be_mag, be_mag]; exact hY)
      have hrx := Lib.hid fun x y B1 B2 wr (h1 : IsInt wr B1 x N1 V1) (h2 : IsInt wr B2 y N3 V3) => rxor_any x y (sg N1 V1) (sg N3 V3) B1 B2 wr h1.toZ h2.toZ (by rw [sg_nat]; omega) (by rw [sg_nat]; omega)
      rw [hY] at hrx
      have his := Lib.hid fun v u (B B' : Nat) wr (h : IsValR wr B v (decide (Y < 0)) Y.natAbs) (hx : RdS wr B' u (mag Y.natAbs)) => is_any v u (decide (Y < 0)) Y.natAbs B B' wr h hx hYl
      clear hr1 hr3 hV1 hV3 hN1 hN3 hn1 hn3 hVl1 hVl3 hY hYl hNV1 hNV3
      go_enter Try.func5, Try.ntmps5
      go_wp2_with fail
      refine hwh1.out.mono ?_
      rintro e w1 ⟨⟨x, p, rfl, hx, hp⟩, hb1⟩
      have hx9 := Lib.hid hx
      obtain ⟨u1, rfl, o1, q1⟩ := hx
      obtain ⟨u2, rfl, o2, q2⟩ := hp
      obtain ⟨a5, c5, rfl, -, -⟩ := Rd.of_own o1
      obtain ⟨a6, c6, rfl, r6, m6⟩ := Rd.of_own o2
      obtain ⟨L1, hL1⟩ : ∃ L, (mag V1).length = L := ⟨_, rfl⟩
      rw [hL1] at hx9 ⊢
      obtain ⟨w2, hw2⟩ : ∃ w2, ((w1.alloc (.cells #[.bool N1, .slice a5 L1 c5] 35)).alloc (.cells #[.int .i64 2, .bool N1, .slice a6 L1 c6, .int .u64 0, .string ⟨#[]⟩, .slice none 0 0] 26)) = w2 := ⟨_, rfl⟩
      have hB2 : Below w1.heap.size w1 w2 := by rw [← hw2]; exact (below_one _ (Nat.le_refl _)).alloc (by simp) _
      have hHx : Box.Holds w2 w1.heap.size 35 #[.bool N1, .slice a5 L1 c5] := by rw [← hw2]; exact (Box.Holds.made w1 35 #[.bool N1, .slice a5 L1 c5]).alloc _
      have hHp : Box.Holds w2 (w1.heap.size + 1) 26 #[.int .i64 2, .bool N1, .slice a6 L1 c6, .int .u64 0, .string ⟨#[]⟩, .slice none 0 0] := by
        rw [← hw2]
        have := Box.Holds.made (w1.alloc (.cells #[.bool N1, .slice a5 L1 c5] 35)) 26 #[.int .i64 2, .bool N1, .slice a6 L1 c6, .int .u64 0, .string ⟨#[]⟩, .slice none 0 0]
        rwa [show (w1.alloc (.cells #[.bool N1, .slice a5 L1 c5] 35)).heap.size = w1.heap.size + 1 by simp] at this
      have hS2 : w2.heap.size = w1.heap.size + 2 := by rw [← hw2]; simp
      have hw2' := Lib.hid hw2
      have hwh3' := Lib.hid (hwh3.out w2 (hb1.trans (hB2.mono hb1.size)))
      have hk2 := Lib.hid (And.intro hHx hHp)
      have hB2' := Lib.hid hB2
      have hb1' := Lib.hid hb1
      have hr6 := Lib.hid r6
      have hs1 := hb1.size
      clear o1 q1 o2 q2 r6 hHx hHp hw2 hB2 hwh3 hwh1 hb1
      go_wp2_with fail
      rw [hw2'.out]
      refine hwh3'.out.mono ?_
      rintro e w3 ⟨⟨y, q, rfl, hy, hq⟩, hb3⟩
      have hy9 := Lib.hid hy
      obtain ⟨u3, rfl, o3, q3⟩ := hy
      obtain ⟨u4, rfl, o4, q4⟩ := hq
      obtain ⟨a7, c7, rfl, -, -⟩ := Rd.of_own o3
      obtain ⟨a8, c8, rfl, r8, m8⟩ := Rd.of_own o4
      obtain ⟨L3, hL3⟩ : ∃ L, (mag V3).length = L := ⟨_, rfl⟩
      rw [hL3] at hy9 ⊢
      obtain ⟨w4, hw4⟩ : ∃ w4, ((w3.alloc (.cells #[.bool N3, .slice a7 L3 c7] 35)).alloc (.cells #[.int .i64 2, .bool N3, .slice a8 L3 c8, .int .u64 0, .string ⟨#[]⟩, .slice none 0 0] 26)) = w4 := ⟨_, rfl⟩
      have hB4 : Below w3.heap.size w3 w4 := by rw [← hw4]; exact (below_one _ (Nat.le_refl _)).alloc (by simp) _
      have hHy : Box.Holds w4 w3.heap.size 35 #[.bool N3, .slice a7 L3 c7] := by rw [← hw4]; exact (Box.Holds.made w3 35 #[.bool N3, .slice a7 L3 c7]).alloc _
      have hHq : Box.Holds w4 (w3.heap.size + 1) 26 #[.int .i64 2, .bool N3, .slice a8 L3 c8, .int .u64 0, .string ⟨#[]⟩, .slice none 0 0] := by
        rw [← hw4]
        have := Box.Holds.made (w3.alloc (.cells #[.bool N3, .slice a7 L3 c7] 35)) 26 #[.int .i64 2, .bool N3, .slice a8 L3 c8, .int .u64 0, .string ⟨#[]⟩, .slice none 0 0]
        rwa [show (w3.alloc (.cells #[.bool N3, .slice a7 L3 c7] 35)).heap.size = w3.heap.size + 1 by simp] at this
      have hs3 := hb3.size
      have hB24 := hb3.trans (hB4.mono hs3)
      have hHx4 := hk2.out.1.later hB24
      have hHp4 := hk2.out.2.later hB24
      have hB14 := hB2'.out.trans (hB24.mono hB2'.out.size)
      have hx4 : IsInt w4 w.heap.size _ N1 V1 := hx9.out.later hB14
      have hy4 := hy9.out.later hB4
      have hr64 := hr6.out.later hB14
      have hr84 := r8.later hB4
      have hkeep := Lib.hid fun wr (hW : Below w4.heap.size w4 wr) => cells16 (hHx4.later hW) (hHp4.later hW) (hHy.later hW) (hHq.later hW)
      have hix1 := Lib.hid fun wr (hW : Below w4.heap.size w4 wr) => hix.out a6 c6 a8 c8 wr (hr64.later hW) (hr84.later hW) m6 m8
      rw [hL1, hL3] at hix1
      have hrx1 := Lib.hid fun wr (hW : Below w4.heap.size w4 wr) => hrx.out _ _ _ _ wr (hx4.later hW) (hy4.later hW)
      have hd0 := Lib.hid (show Below w4.heap.size w4 w4.drew from Box.below_drawn (Below.refl w4.heap.size w4) 1)
      have hup := Lib.hid (hb1'.out.trans (hB14.mono hs1))
      have hw4' := Lib.hid hw4
      clear o3 q3 o4 q4 r8 hHy hHq hw4 hB4 hwh3' hk2 hHx4 hHp4 hx4 hy4 hr64 hr84 hB24 hB14 hb3 hix hrx hL1 hL3
      go_wp2_with fail
      rw [hw4'.out]
      have e4 := hkeep.out w4.drew hd0.out
      unfold Cells16 at e4
      go_region_held3 (fun W => W.cell? ⟨w1.heap.size, 0, none⟩ = some (.bool N1) ∧ W.cell? ⟨w1.heap.size, 1, none⟩ = some (.slice a5 L1 c5) ∧ W.cell? ⟨w1.heap.size + 1, 0, none⟩ = some (.int .i64 2) ∧ W.cell? ⟨w1.heap.size + 1, 1, none⟩ = some (.bool N1) ∧ W.cell? ⟨w1.heap.size + 1, 2, none⟩ = some (.slice a6 L1 c6) ∧ W.cell? ⟨w1.heap.size + 1, 3, none⟩ = some (.int .u64 0) ∧ W.cell? ⟨w1.heap.size + 1, 4, none⟩ = some (.string ⟨#[]⟩) ∧ W.cell? ⟨w1.heap.size + 1, 5, none⟩ = some (.slice none 0 0) ∧ W.cell? ⟨w3.heap.size, 0, none⟩ = some (.bool N3) ∧ W.cell? ⟨w3.heap.size, 1, none⟩ = some (.slice a7 L3 c7) ∧ W.cell? ⟨w3.heap.size + 1, 0, none⟩ = some (.int .i64 2) ∧ W.cell? ⟨w3.heap.size + 1, 1, none⟩ = some (.bool N3) ∧ W.cell? ⟨w3.heap.size + 1, 2, none⟩ = some (.slice a8 L3 c8) ∧ W.cell? ⟨w3.heap.size + 1, 3, none⟩ = some (.int .u64 0) ∧ W.cell? ⟨w3.heap.size + 1, 4, none⟩ = some (.string ⟨#[]⟩) ∧ W.cell? ⟨w3.heap.size + 1, 5, none⟩ = some (.slice none 0 0))
        (first | with_reducible exact e4 | with_reducible exact e5 | with_reducible exact e6 | with_reducible exact e7)
        (first
          | (go_at_call 16; (with_reducible refine (hix1.out w4.drew hd0.out).mono ?_); rintro e w5 ⟨⟨v5, rfl, hv5⟩, hb5⟩; have hb45 := hd0.out.trans (hb5.mono hd0.out.size); have e5 := hkeep.out w5 hb45; unfold Cells16 at e5)
          | (go_at_call 17; (with_reducible refine (hrx1.out w5 hb45).mono ?_); rintro e w6 ⟨⟨v6, rfl, hv6⟩, hb6⟩; have hb46 := hb45.trans (hb6.mono hb45.size); have e6 := hkeep.out w6 hb46; unfold Cells16 at e6; obtain ⟨u6, rfl, o6, -⟩ := hv6)
          | (go_at_call 15; refine (his.out _ _ _ _ w6 (hv5.later hb6) (RdS.of_own o6)).mono ?_; rintro e w7 ⟨rfl, hb7⟩; have hb47 := hb46.trans (hb7.mono hb46.size); have e7 := hkeep.out w7 hb47; unfold Cells16 at e7))
      go_wp2
      go_ret
      exact ⟨rfl, hup.out.trans (hb47.mono hup.out.size)⟩
    · go_enter Try.func5, Try.ntmps5
      go_wp2
      go_ret
      exact ⟨rfl, Below.refl _ _⟩
  · go_enter Try.func5, Try.ntmps5
    go_wp2
    go_ret
    exact ⟨rfl, Below.refl _ _⟩
end Go.Proofs.Ytaappbnbjpbbcaa.fnIntXor
