/-
  The law on the two places: both sides at the parts that are drawn.
-/
import Derived.Test.YtaappbnbjpbbcaaIndAsk
import Derived.Test.YtaappbnbjpbbcaaIndImpl
import Derived.Test.YtaappbnbjpbbcaaValDoor
namespace Go.Proofs.Ytaappbnbjpbbcaa.fnIndices
open Go.RowKit Go.WideShapes Go.Proofs.Ytaappbnbjpbbcaa.Own Go.Proofs.Ytaappbnbjpbbcaa.Num Go.Proofs.Ytaappbnbjpbbcaa.Ref Go.Proofs.Ytaappbnbjpbbcaa.Big
set_option linter.unusedVariables false

/-- what both sides tell -/
def tell (P1 P2 : Part) (n : Int) : Value := if isText P1 || isText P2 then .tuple #[.int .i64 0, .int .i64 0, .bool false] else .tuple #[.int .i64 (clampN n (raw n 0 P1)), .int .i64 (clampN n (raw n n P2)), .bool true]

set_option maxRecDepth 100000 in
theorem index2_any (P1 P2 : Part) (h1 : P1.ok) (h2 : P2.ok) (v1 v2 : Value) (B1 B2 : Nat) (n : Int) (hn : 0 ≤ n) (hn2 : n ≤ 2147483647) (w : World) (hv1 : IsPart w B1 v1 P1) (hv2 : IsPart w B2 v2 P2) :
    Calls Try.prog 9 #[v1, v2, .int .i64 n] w fun e w' => e = .returned (tell P1 P2 n) ∧ Below w.heap.size w w' := by
  obtain ⟨n1, a1, l1, c1, t1, rfl⟩ := kind_shape hv1
  obtain ⟨n2, a2, l2, c2, t2, rfl⟩ := kind_shape hv2
  have ha := Lib.hid fun W (hb : Below w.heap.size w W) => ask_any P1 P2 h1 h2 n hn hn2 n1 n2 a1 a2 l1 c1 l2 c2 t1 t2 B1 B2 W (hv1.later hb) (hv2.later hb)
  unfold AskOf at ha
  unfold tell
  generalize kindOf P1 = k1 at ha hv1 ⊢
  generalize kindOf P2 = k2 at ha hv2 ⊢
  generalize clampN n (raw n 0 P1) = r1 at ha ⊢
  generalize clampN n (raw n n P2) = r2 at ha ⊢
  have hB2 : Below w.heap.size w ((w.alloc (.cells #[.int .i64 k1, .bool n1, .slice a1 l1 c1, .int .u64 0, .string t1, .slice none 0 0] 26)).alloc (.cells #[.int .i64 k2, .bool n2, .slice a2 l2 c2, .int .u64 0, .string t2, .slice none 0 0] 26)) := (below_one _ (Nat.le_refl _)).alloc (by simp) _
  have ha2 := Lib.hid (ha.out _ hB2)
  have hB2' := Lib.hid hB2
  generalize hx : (isText P1 || isText P2) = X at ha2 ⊢
  clear hv1 hv2 h1 h2 hB2 ha hx
  cases X
  · simp only [Bool.false_eq_true, if_false] at ha2 ⊢
    go_enter Try.func9, Try.ntmps9
    go_wp2_with fail
    refine ha2.out.mono ?_
    rintro e w1 ⟨rfl, hb1⟩
    have hbw := Lib.hid (hB2'.out.trans (hb1.mono hB2'.out.size))
    clear hb1 hB2' ha2
    go_wp2
    go_ret3
    exact ⟨rfl, hbw.out⟩
  · simp only [if_true] at ha2 ⊢
    go_enter Try.func9, Try.ntmps9
    go_wp2_with fail
    refine ha2.out.mono ?_
    rintro e w1 ⟨rfl, hb1⟩
    have hbw := Lib.hid (hB2'.out.trans (hb1.mono hB2'.out.size))
    clear hb1 hB2' ha2
    go_wp2
    go_ret3
    exact ⟨rfl, hbw.out⟩

/-- whether nothing in a value is longer than what the law asks of -/
theorem fits_any (k : Int) (neg : Bool) (a : Option Addr) (n c : Nat) (b : Int) (t : ByteArray) (ka : Option Addr) (kn kc : Nat) (hn : n ≤ 9223372036854775807) (ht : t.size ≤ 9223372036854775807) (hk : kn ≤ 9223372036854775807) (F : Bool)
    (hF : F = (decide (n ≤ 2147483647) && decide (t.size ≤ 2147483647) && decide (kn ≤ 2147483647))) (w : World) :
    Calls Try.prog 7 #[.agg #[.int .i64 k, .bool neg, .slice a n c, .int .u64 b, .string t, .slice ka kn kc]] w fun e w' => e = .returned (.bool F) ∧ Below w.heap.size w w' := by
  have k2 : (w.alloc (.cells #[.int .i64 k, .bool neg, .slice a n c, .int .u64 b, .string t, .slice ka kn kc] 26)).cell? ⟨w.heap.size, 2, none⟩ = some (.slice a n c) := by rw [World.cell?_alloc_at _ _ _ _ rfl]; rfl
  have k4 : (w.alloc (.cells #[.int .i64 k, .bool neg, .slice a n c, .int .u64 b, .string t, .slice ka kn kc] 26)).cell? ⟨w.heap.size, 4, none⟩ = some (.string t) := by rw [World.cell?_alloc_at _ _ _ _ rfl]; rfl
  have k5 : (w.alloc (.cells #[.int .i64 k, .bool neg, .slice a n c, .int .u64 b, .string t, .slice ka kn kc] 26)).cell? ⟨w.heap.size, 5, none⟩ = some (.slice ka kn kc) := by rw [World.cell?_alloc_at _ _ _ _ rfl]; rfl
  by_cases h1 : n ≤ 2147483647
  · by_cases h2 : t.size ≤ 2147483647
    · by_cases h3 : kn ≤ 2147483647
      · obtain rfl : F = true := by rw [hF]; simp [h1, h2, h3]
        clear hF
        go_enter Try.func7, Try.ntmps7
        go_wp2
        go_ret
        exact ⟨rfl, below_one _ (Nat.le_refl _)⟩
      · obtain rfl : F = false := by rw [hF]; simp [h3]
        clear hF
        go_enter Try.func7, Try.ntmps7
        go_wp2
        go_ret
        exact ⟨rfl, below_one _ (Nat.le_refl _)⟩
    · obtain rfl : F = false := by rw [hF]; simp [h2]
      clear hF
      go_enter Try.func7, Try.ntmps7
      go_wp2
      go_ret
      exact ⟨rfl, below_one _ (Nat.le_refl _)⟩
  · obtain rfl : F = false := by rw [hF]; simp [h1]
    clear hF
    go_enter Try.func7, Try.ntmps7
    go_wp2
    go_ret
    exact ⟨rfl, below_one _ (Nat.le_refl _)⟩

theorem and31 (z : Int) : 0 ≤ bits BinOp.and IntKind.i32 z 2147483647 ∧ bits BinOp.and IntKind.i32 z 2147483647 ≤ 2147483647 := by
  have h : (BitVec.ofInt 32 z &&& BitVec.ofInt 32 2147483647).toNat ≤ 2147483647 := by
    rw [BitVec.toNat_and]
    exact Nat.le_trans (Nat.and_le_right) (by decide)
  have e : bits BinOp.and IntKind.i32 z 2147483647 = ((BitVec.ofInt 32 z &&& BitVec.ofInt 32 2147483647).toNat : Int) := by
    show IntKind.i32.wrap ((BitVec.ofInt 32 z &&& BitVec.ofInt 32 2147483647).toNat : Int) = _
    rw [IntKind.wrap_i32]; omega
  rw [e]
  exact ⟨by omega, by omega⟩

theorem val_facts {w : World} {g : Nat} {x0 x1 x2 x3 x4 x5 : Value} (h : Box.Holds w g 26 #[x0, x1, x2, x3, x4, x5]) :
    w.cell? ⟨g, 0, none⟩ = some x0 ∧ w.cell? ⟨g, 1, none⟩ = some x1 ∧ w.cell? ⟨g, 2, none⟩ = some x2 ∧ w.cell? ⟨g, 3, none⟩ = some x3 ∧ w.cell? ⟨g, 4, none⟩ = some x4 ∧ w.cell? ⟨g, 5, none⟩ = some x5 ∧ g < w.heap.size ∧
    w.frozen? ⟨g, 0, none⟩ = false ∧ w.frozen? ⟨g, 1, none⟩ = false ∧ w.frozen? ⟨g, 2, none⟩ = false ∧ w.frozen? ⟨g, 3, none⟩ = false ∧ w.frozen? ⟨g, 4, none⟩ = false ∧ w.frozen? ⟨g, 5, none⟩ = false := by
  have p0 := h.cell 0
  have p1 := h.cell 1
  have p2 := h.cell 2
  have p3 := h.cell 3
  have p4 := h.cell 4
  have p5 := h.cell 5
  simp at p0 p1 p2 p3 p4 p5
  exact ⟨p0, p1, p2, p3, p4, p5, h.lt, h.free 0, h.free 1, h.free 2, h.free 3, h.free 4, h.free 5⟩

theorem six_put {w : World} {g : Nat} {x0 x1 x2 x3 x4 x5 : Value} (h : Box.Holds w g 26 #[x0, x1, x2, x3, x4, x5]) (u0 u1 u2 u3 u4 u5 : Value) :
    Box.Holds ((((((w.setCell ⟨g, 0, none⟩ u0).setCell ⟨g, 1, none⟩ u1).setCell ⟨g, 2, none⟩ u2).setCell ⟨g, 3, none⟩ u3).setCell ⟨g, 4, none⟩ u4).setCell ⟨g, 5, none⟩ u5) g 26 #[u0, u1, u2, u3, u4, u5] := by
  have := (((((h.put 0 u0).put 1 u1).put 2 u2).put 3 u3).put 4 u4).put 5 u5
  simpa using this
theorem six_apart {w : World} {g b : Nat} {t : TypeId} {cs : Array Value} (h : Box.Holds w g t cs) (hb : g ≠ b) (u0 u1 u2 u3 u4 u5 : Value) :
    Box.Holds ((((((w.setCell ⟨b, 0, none⟩ u0).setCell ⟨b, 1, none⟩ u1).setCell ⟨b, 2, none⟩ u2).setCell ⟨b, 3, none⟩ u3).setCell ⟨b, 4, none⟩ u4).setCell ⟨b, 5, none⟩ u5) g t cs := by
  have h0 := h.apart (p := ⟨b, 0, none⟩) hb u0
  have h1 := h0.apart (p := ⟨b, 1, none⟩) hb u1
  have h2 := h1.apart (p := ⟨b, 2, none⟩) hb u2
  have h3 := h2.apart (p := ⟨b, 3, none⟩) hb u3
  have h4 := h3.apart (p := ⟨b, 4, none⟩) hb u4
  exact h4.apart (p := ⟨b, 5, none⟩) hb u5

/-- both variables hold parts -/
def Both (w wx : World) : Prop := ∃ (P1 P2 : Part) (k1 : Int) (n1 : Bool) (a1 : Option Addr) (m1 c1 : Nat) (t1 : ByteArray) (k2 : Int) (n2 : Bool) (a2 : Option Addr) (m2 c2 : Nat) (t2 : ByteArray), P1.ok ∧ P2.ok ∧
  Box.Holds wx w.heap.size 26 #[.int .i64 k1, .bool n1, .slice a1 m1 c1, .int .u64 0, .string t1, .slice none 0 0] ∧ Box.Holds wx (w.heap.size + 1) 26 #[.int .i64 k2, .bool n2, .slice a2 m2 c2, .int .u64 0, .string t2, .slice none 0 0] ∧
  IsPart wx (w.heap.size + 2) (.agg #[.int .i64 k1, .bool n1, .slice a1 m1 c1, .int .u64 0, .string t1, .slice none 0 0]) P1 ∧ IsPart wx (w.heap.size + 2) (.agg #[.int .i64 k2, .bool n2, .slice a2 m2 c2, .int .u64 0, .string t2, .slice none 0 0]) P2 ∧ Below w.heap.size w wx

theorem both_end {w w6 : World} {x0 x1 x2 x3 x4 x5 y0 y1 y2 y3 y4 y5 : Value} {P1 P2 : Part} (o1 : P1.ok) (o2 : P2.ok) {k1 : Int} {n1 : Bool} {a1 : Option Addr} {m1 c1 : Nat} {t1 : ByteArray} {k2 : Int} {n2 : Bool} {a2 : Option Addr} {m2 c2 : Nat} {t2 : ByteArray}
    (hX : Box.Holds w6 w.heap.size 26 #[x0, x1, x2, x3, x4, x5]) (hY : Box.Holds w6 (w.heap.size + 1) 26 #[y0, y1, y2, y3, y4, y5]) (hb : Below w.heap.size w w6)
    (p1 : IsPart w6 (w.heap.size + 2) (.agg #[.int .i64 k1, .bool n1, .slice a1 m1 c1, .int .u64 0, .string t1, .slice none 0 0]) P1) (p2 : IsPart w6 (w.heap.size + 2) (.agg #[.int .i64 k2, .bool n2, .slice a2 m2 c2, .int .u64 0, .string t2, .slice none 0 0]) P2) :
    Both w ((((((((((((w6.setCell ⟨w.heap.size, 0, none⟩ (.int .i64 k1)).setCell ⟨w.heap.size, 1, none⟩ (.bool n1)).setCell ⟨w.heap.size, 2, none⟩ (.slice a1 m1 c1)).setCell ⟨w.heap.size, 3, none⟩ (.int .u64 0)).setCell ⟨w.heap.size, 4, none⟩ (.string t1)).setCell ⟨w.heap.size, 5, none⟩ (.slice none 0 0)).setCell ⟨w.heap.size + 1, 0, none⟩ (.int .i64 k2)).setCell ⟨w.heap.size + 1, 1, none⟩ (.bool n2)).setCell ⟨w.heap.size + 1, 2, none⟩ (.slice a2 m2 c2)).setCell ⟨w.heap.size + 1, 3, none⟩ (.int .u64 0)).setCell ⟨w.heap.size + 1, 4, none⟩ (.string t2)).setCell ⟨w.heap.size + 1, 5, none⟩ (.slice none 0 0)) := by
  have A1 := six_above (w1 := w6) (s := w.heap.size) (B := w.heap.size + 2) (.int .i64 k1) (.bool n1) (.slice a1 m1 c1) (.int .u64 0) (.string t1) (.slice none 0 0) (by omega)
  have X1 := six_put hX (.int .i64 k1) (.bool n1) (.slice a1 m1 c1) (.int .u64 0) (.string t1) (.slice none 0 0)
  have Y1 := six_apart hY (b := w.heap.size) (by omega) (.int .i64 k1) (.bool n1) (.slice a1 m1 c1) (.int .u64 0) (.string t1) (.slice none 0 0)
  have b1 := six_below (s := w.heap.size) (.int .i64 k1) (.bool n1) (.slice a1 m1 c1) (.int .u64 0) (.string t1) (.slice none 0 0) hb (Nat.le_refl _)
  have q1 := p1.above A1
  have q2 := p2.above A1
  generalize (((((w6.setCell ⟨w.heap.size, 0, none⟩ (.int .i64 k1)).setCell ⟨w.heap.size, 1, none⟩ (.bool n1)).setCell ⟨w.heap.size, 2, none⟩ (.slice a1 m1 c1)).setCell ⟨w.heap.size, 3, none⟩ (.int .u64 0)).setCell ⟨w.heap.size, 4, none⟩ (.string t1)).setCell ⟨w.heap.size, 5, none⟩ (.slice none 0 0) = W at *
  have A2 := six_above (w1 := W) (s := w.heap.size + 1) (B := w.heap.size + 2) (.int .i64 k2) (.bool n2) (.slice a2 m2 c2) (.int .u64 0) (.string t2) (.slice none 0 0) (by omega)
  exact ⟨P1, P2, k1, n1, a1, m1, c1, t1, k2, n2, a2, m2, c2, t2, o1, o2, six_apart X1 (by omega) _ _ _ _ _ _, six_put Y1 _ _ _ _ _ _, q1.above A2, q2.above A2, six_below _ _ _ _ _ _ b1 (by omega)⟩

set_option maxHeartbeats 4000000 in
set_option maxRecDepth 100000 in
theorem walk (v1 v2 : Value) (z : Int) (w : World) (h1 : ValIn w v1) (h2 : ValIn w v2) (hz : (Lit.int .i32 z).wf = true) :
    Calls Try.prog 3 #[v1, v2, .int .i32 z] w fun e w' => e = .returned (.bool true) ∧ Below w.heap.size w w' := by
  obtain ⟨k1, n1, a1, l1, c1, b1, t1, ka1, kn1, kc1, rfl, hr1, hc1, ha1, hl1, ht1, hk1⟩ := h1
  obtain ⟨k2, n2, a2, l2, c2, b2, t2, ka2, kn2, kc2, rfl, hr2, hc2, ha2, hl2, ht2, hk2⟩ := h2
  obtain ⟨F1, hF1⟩ : ∃ F, F = (decide (l1.length ≤ 2147483647) && decide (t1.size ≤ 2147483647) && decide (kn1 ≤ 2147483647)) := ⟨_, rfl⟩
  obtain ⟨F2, hF2⟩ : ∃ F, F = (decide (l2.length ≤ 2147483647) && decide (t2.size ≤ 2147483647) && decide (kn2 ≤ 2147483647)) := ⟨_, rfl⟩
  have f1 := Lib.hid fun W => fits_any k1 n1 a1 l1.length c1 b1 t1 ka1 kn1 kc1 hl1 ht1 hk1 F1 hF1 W
  have f2 := Lib.hid fun W => fits_any k2 n2 a2 l2.length c2 b2 t2 ka2 kn2 kc2 hl2 ht2 hk2 F2 hF2 W
  have st1 := Lib.hid fun (h : F1 = true) W (hb : Below w.heap.size w W) => steps_any k1 n1 a1 l1 c1 b1 t1 ka1 kn1 kc1 W (hr1.later hb) (by rw [h] at hF1; simp at hF1; exact hF1.1.1) hc1 ha1
  have st2 := Lib.hid fun (h : F2 = true) W (hb : Below w.heap.size w W) => steps_any k2 n2 a2 l2 c2 b2 t2 ka2 kn2 kc2 W (hr2.later hb) (by rw [h] at hF2; simp at hF2; exact hF2.1.1) hc2 ha2
  generalize l1.length = m1 at f1 st1 ⊢
  generalize l2.length = m2 at f2 st2 ⊢
  obtain ⟨N, hN⟩ : ∃ N, bits BinOp.and IntKind.i32 z 2147483647 = N := ⟨_, rfl⟩
  have hNb := and31 z
  rw [hN] at hNb
  obtain ⟨hN1, hN2⟩ := hNb
  clear hF1 hF2 hr1 hr2 hc1 hc2 ha1 ha2 hl1 hl2 ht1 ht2 hk1 hk2 hz
  have hbx : Below w.heap.size w ((w.alloc (.cells #[.int .i64 k1, .bool n1, .slice a1 m1 c1, .int .u64 b1, .string t1, .slice ka1 kn1 kc1] 26)).alloc (.cells #[.int .i64 k2, .bool n2, .slice a2 m2 c2, .int .u64 b2, .string t2, .slice ka2 kn2 kc2] 26)) := (below_one _ (Nat.le_refl _)).alloc (by simp) _
  have hX : Box.Holds ((w.alloc (.cells #[.int .i64 k1, .bool n1, .slice a1 m1 c1, .int .u64 b1, .string t1, .slice ka1 kn1 kc1] 26)).alloc (.cells #[.int .i64 k2, .bool n2, .slice a2 m2 c2, .int .u64 b2, .string t2, .slice ka2 kn2 kc2] 26)) w.heap.size 26 #[.int .i64 k1, .bool n1, .slice a1 m1 c1, .int .u64 b1, .string t1, .slice ka1 kn1 kc1] := (Box.Holds.made w _ _).alloc _
  have hY : Box.Holds ((w.alloc (.cells #[.int .i64 k1, .bool n1, .slice a1 m1 c1, .int .u64 b1, .string t1, .slice ka1 kn1 kc1] 26)).alloc (.cells #[.int .i64 k2, .bool n2, .slice a2 m2 c2, .int .u64 b2, .string t2, .slice ka2 kn2 kc2] 26)) (w.heap.size + 1) 26 #[.int .i64 k2, .bool n2, .slice a2 m2 c2, .int .u64 b2, .string t2, .slice ka2 kn2 kc2] := by
    have := Box.Holds.made (w.alloc (.cells #[.int .i64 k1, .bool n1, .slice a1 m1 c1, .int .u64 b1, .string t1, .slice ka1 kn1 kc1] 26)) 26 #[.int .i64 k2, .bool n2, .slice a2 m2 c2, .int .u64 b2, .string t2, .slice ka2 kn2 kc2]
    rwa [show (w.alloc (.cells #[.int .i64 k1, .bool n1, .slice a1 m1 c1, .int .u64 b1, .string t1, .slice ka1 kn1 kc1] 26)).heap.size = w.heap.size + 1 by simp] at this
  have hbx' := Lib.hid hbx
  have hX' := Lib.hid hX
  have hY' := Lib.hid hY
  clear hbx hX hY
  cases F1
  · go_enter Try.func3, Try.ntmps3
    go_wp2_with fail
    refine (f1.out _).mono ?_
    rintro e w3 ⟨rfl, hb3⟩
    have hfin := Lib.hid (hbx'.out.trans (hb3.mono hbx'.out.size))
    clear hb3
    go_wp2
    go_ret
    exact ⟨rfl, hfin.out⟩
  · cases F2
    · go_enter Try.func3, Try.ntmps3
      go_wp2_with fail
      refine (f1.out _).mono ?_
      rintro e w3 ⟨rfl, hb3⟩
      obtain ⟨p0, p1, p2, p3, p4, p5, pl, -⟩ := val_facts (hY'.out.later hb3)
      have hb3' := Lib.hid (hbx'.out.trans (hb3.mono hbx'.out.size))
      clear hb3
      go_wp2_with fail
      refine (f2.out _).mono ?_
      rintro e w4 ⟨rfl, hb4⟩
      have hfin := Lib.hid (hb3'.out.trans (hb4.mono hb3'.out.size))
      clear hb4 p0 p1 p2 p3 p4 p5
      go_wp2
      go_ret
      exact ⟨rfl, hfin.out⟩
    · have st1' := Lib.hid (st1.out rfl)
      have st2' := Lib.hid (st2.out rfl)
      clear st1 st2
      go_enter Try.func3, Try.ntmps3
      go_wp2_with fail
      refine (f1.out _).mono ?_
      rintro e w3 ⟨rfl, hb3⟩
      obtain ⟨p0, p1, p2, p3, p4, p5, pl, -⟩ := val_facts (hY'.out.later hb3)
      have hX3 := Lib.hid (hX'.out.later hb3)
      have hY3 := Lib.hid (hY'.out.later hb3)
      have hb3' := Lib.hid (hbx'.out.trans (hb3.mono hbx'.out.size))
      clear hb3 hX' hY' hbx'
      go_wp2_with fail
      refine (f2.out _).mono ?_
      rintro e w4 ⟨rfl, hb4⟩
      have hX4 := Lib.hid (hX3.out.later hb4)
      have hY4 := Lib.hid (hY3.out.later hb4)
      have hb4' := Lib.hid (hb3'.out.trans (hb4.mono hb3'.out.size))
      clear hb4 p0 p1 p2 p3 p4 p5 pl hX3 hY3 hb3' f1 f2
      obtain ⟨p0, p1, p2, p3, p4, p5, pl, -⟩ := val_facts hX4.out
      obtain ⟨q0, q1, q2, q3, q4, q5, ql, -⟩ := val_facts hY4.out
      have hall := Lib.hid (show ∀ W, Below w4.heap.size w4 W → Box.Holds W w.heap.size 26 #[.int .i64 k1, .bool n1, .slice a1 m1 c1, .int .u64 b1, .string t1, .slice ka1 kn1 kc1] ∧ Box.Holds W (w.heap.size + 1) 26 #[.int .i64 k2, .bool n2, .slice a2 m2 c2, .int .u64 b2, .string t2, .slice ka2 kn2 kc2] ∧ Below w.heap.size w W from
        fun W hb => ⟨hX4.out.later hb, hY4.out.later hb, hb4'.out.trans (hb.mono hb4'.out.size)⟩)
      have hsz4 := Lib.hid (show w.heap.size + 2 ≤ w4.heap.size from ql)
      have hd4 := Lib.hid (Below.drew hb4'.out)
      clear hX4 hY4 hb4'
      go_wp2_with fail
      go_cut [33] (fun _ wx => Both w wx)
      case first =>
        go_region_with (first
          | (go_at_call 8; (with_reducible refine (st1'.out _ hd4.out).mono ?_); rintro e w5 ⟨u1, P1, rfl, o1, hp1, hb5⟩; obtain ⟨k5, n5, a5, m5, c5, t5, hu5⟩ := hp1.shape; subst hu5; have hb5' : Below w4.heap.size w4 w5 := (Below.drew (Below.refl _ _)).trans hb5; obtain ⟨X5, Y5, Z5⟩ := hall.out _ hb5'; obtain ⟨p0, p1, p2, p3, p4, p5, pl, -⟩ := val_facts X5; obtain ⟨q0, q1, q2, q3, q4, q5, ql, -⟩ := val_facts Y5)
          | (go_at_call 8; (with_reducible refine (st2'.out _ Z5).mono ?_); rintro e w6 ⟨u2, P2, rfl, o2, hp2, hb6⟩; obtain ⟨k6, n6, a6, m6, c6, t6, hu6⟩ := hp2.shape; subst hu6; have hb6' : Below w4.heap.size w4 w6 := hb5'.trans (hb6.mono hb5'.size); obtain ⟨X6, Y6, Z6⟩ := hall.out _ hb6'; obtain ⟨p0, p1, p2, p3, p4, p5, pl, f0, f1, f2, f3, f4, f5⟩ := val_facts X6; obtain ⟨q0, q1, q2, q3, q4, q5, ql, g0, g1, g2, g3, g4, g5⟩ := val_facts Y6)
          | (go_at_call 8; (with_reducible refine (st2'.out _ (Below.drew Z5)).mono ?_); rintro e w6 ⟨u2, P2, rfl, o2, hp2, hb6⟩; obtain ⟨k6, n6, a6, m6, c6, t6, hu6⟩ := hp2.shape; subst hu6; have hb6' : Below w4.heap.size w4 w6 := (Below.drew hb5').trans (hb6.mono hb5'.size); obtain ⟨X6, Y6, Z6⟩ := hall.out _ hb6'; obtain ⟨p0, p1, p2, p3, p4, p5, pl, f0, f1, f2, f3, f4, f5⟩ := val_facts X6; obtain ⟨q0, q1, q2, q3, q4, q5, ql, g0, g1, g2, g3, g4, g5⟩ := val_facts Y6))
        all_goals
          have hfin := Lib.hid (both_end o1 o2 X6 Y6 Z6 ((hp1.mono (Nat.le_trans hsz4.out (Nat.le_refl _))).later (hb6.mono (by first | exact Nat.le_refl _ | exact hb5.size))) (hp2.mono (Nat.le_trans hsz4.out hb5'.size)))
          clear X5 Y5 Z5 X6 Y6 Z6 hp1 hp2 hb5 hb5' hb6 hb6'
          go_wp2_with fail
          go_meet
          exact hfin.out
      case rest =>
        obtain ⟨P1, P2, k5, n5, a5, m5, c5, t5, k6, n6, a6, m6, c6, t6, o1, o2, hX, hY, hp1, hp2, hbw⟩ := hcut
        have i2 := Lib.hid fun W (hb : Below wc.heap.size wc W) => index2_any P1 P2 o1 o2 _ _ _ _ N hN1 hN2 W (hp1.later hb) (hp2.later hb)
        have im := Lib.hid fun W (hb : Below wc.heap.size wc W) => iind_any P1 P2 o1 o2 _ _ _ _ N hN1 hN2 W (hp1.later hb) (hp2.later hb)
        have iz := Lib.hid fun W => iind_any .none .none trivial trivial _ _ 0 0 2 (by omega) (by omega) W (show IsPart W 0 _ .none from rfl) (show IsPart W 0 _ .none from rfl)
        simp only [isText, Bool.or_self, Bool.false_eq_true, if_false, raw] at iz
        rw [show clampN 2 0 = 0 from rfl, show clampN 2 2 = 2 from rfl] at iz
        unfold tell at i2
        generalize clampN N (raw N 0 P1) = r1 at i2 im
        generalize clampN N (raw N N P2) = r2 at i2 im
        generalize (isText P1 || isText P2) = X at i2 im
        have i20 := Lib.hid (i2.out _ (Below.refl _ _))
        obtain ⟨p0, p1, p2, p3, p4, p5, pl, -⟩ := val_facts hX
        obtain ⟨q0, q1, q2, q3, q4, q5, ql, -⟩ := val_facts hY
        have hX' := Lib.hid hX
        have hY' := Lib.hid hY
        have hbw' := Lib.hid hbw
        clear hX hY hbw hp1 hp2 o1 o2 i2 st1' st2' hall hsz4 hd4
        have e1 : (r1 == r1) = true := by simp
        have e2 : (r2 == r2) = true := by simp
        cases X
        all_goals
          simp only [Bool.false_eq_true, if_false, if_true] at i20 im
          go_wp2_with fail
          refine i20.out.mono ?_
          rintro e w7 ⟨rfl, hb7⟩
          have im7 := Lib.hid (im.out _ hb7)
          obtain ⟨p0, p1, p2, p3, p4, p5, pl, -⟩ := val_facts (hX'.out.later hb7)
          obtain ⟨q0, q1, q2, q3, q4, q5, ql, -⟩ := val_facts (hY'.out.later hb7)
          have hb7' := Lib.hid (hbw'.out.trans (hb7.mono hbw'.out.size))
          clear hb7 im i20
          go_wp2_with fail
          refine im7.out.mono ?_
          rintro e w8 ⟨rfl, hb8⟩
          have hb8' := Lib.hid (hb7'.out.trans (hb8.mono hb7'.out.size))
          clear hb8 im7 hb7'
          go_wp2_with fail
          refine (iz.out _).mono ?_
          rintro e w9 ⟨rfl, hb9⟩
          have hfin := Lib.hid (hb8'.out.trans (hb9.mono hb8'.out.size))
          clear hb9 hb8' hX' hY' hbw'
          go_wp2
          go_ret
          exact ⟨rfl, hfin.out⟩
end Go.Proofs.Ytaappbnbjpbbcaa.fnIndices
