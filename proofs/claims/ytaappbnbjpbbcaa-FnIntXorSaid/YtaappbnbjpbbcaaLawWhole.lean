/-
  The integer of a sign and of bytes, as the reference and as the program has it.
-/
import Derived.Test.YtaappbnbjpbbcaaTold
import Derived.Deep.RegionWith
import Derived.Deep.DrawnRows
import Derived.Deep.DeepCutAuto
namespace Go.Proofs.Ytaappbnbjpbbcaa.Ref
open Go.RowKit Go.WideShapes Go.Proofs.Ytaappbnbjpbbcaa.Own Go.Proofs.Ytaappbnbjpbbcaa.Num
set_option linter.unusedVariables false

theorem Rd.take {w : World} {a : Option Addr} {l : List UInt8} (h : Rd w a l) (k : Nat) : Rd w a (l.take k) := by
  rcases h with ⟨h1, h2⟩ | ⟨x, rfl, hx, hc⟩
  · exact .inl ⟨h1, by rw [h2]; simp⟩
  · refine .inr ⟨x, rfl, fun h0 => hx (by rw [List.length_take] at h0; omega), fun j hj => ?_⟩
    rw [hc j (by rw [List.length_take] at hj; omega)]
    simp
/-- a value of the program's that is an integer -/
def IsVal (w : World) (B : Nat) (v : Value) (neg : Bool) (m : Nat) : Prop := ∃ u, v = .agg #[.int .i64 2, .bool neg, u, .int .u64 0, .string ⟨#[]⟩, .slice none 0 0] ∧ Owns w B u (mag m) ∧ (neg = true → 0 < m)
theorem IsVal.later {w w' : World} {B : Nat} {v : Value} {neg : Bool} {m : Nat} (h : IsVal w B v neg m) (hb : Below w.heap.size w w') : IsVal w' B v neg m := by
  obtain ⟨u, h1, h2, h3⟩ := h
  exact ⟨u, h1, h2.later hb, h3⟩
theorem IsVal.mono {w : World} {B B' : Nat} {v : Value} {neg : Bool} {m : Nat} (h : IsVal w B v neg m) (hB : B' ≤ B) : IsVal w B' v neg m := by
  obtain ⟨u, h1, h2, h3⟩ := h
  exact ⟨u, h1, World.ownsRow.mono h2 hB, h3⟩
theorem IsInt.above {w w' : World} {B : Nat} {v : Value} {neg : Bool} {m : Nat} (h : IsInt w B v neg m) (hb : Box.Above B w w') : IsInt w' B v neg m := by
  obtain ⟨u, h1, h2, h3⟩ := h
  exact ⟨u, h1, Box.own_above h2 hb, h3⟩
theorem IsVal.above {w w' : World} {B : Nat} {v : Value} {neg : Bool} {m : Nat} (h : IsVal w B v neg m) (hb : Box.Above B w w') : IsVal w' B v neg m := by
  obtain ⟨u, h1, h2, h3⟩ := h
  exact ⟨u, h1, Box.own_above h2 hb, h3⟩
theorem below_one' {B : Nat} {w : World} (o : Obj) (h : B ≤ w.heap.size) : Below B w (w.alloc o) := (Below.refl _ _).alloc h _
theorem mag_len_le {V k : Nat} (h : V < 256 ^ k) : (mag V).length ≤ k := by rw [mag_length]; exact len_le (by omega) h

theorem eight {w w1 : World} (a0 a1 u0 u1 u2 u3 u4 u5 : Value) (hb : Below w.heap.size w w1) :
    Box.Above (w.heap.size + 2) w1 ((((((((w1.setCell ⟨w.heap.size, 0, none⟩ a0).setCell ⟨w.heap.size, 1, none⟩ a1).setCell ⟨w.heap.size + 1, 0, none⟩ u0).setCell ⟨w.heap.size + 1, 1, none⟩ u1).setCell ⟨w.heap.size + 1, 2, none⟩ u2).setCell ⟨w.heap.size + 1, 3, none⟩ u3).setCell ⟨w.heap.size + 1, 4, none⟩ u4).setCell ⟨w.heap.size + 1, 5, none⟩ u5)
    ∧ Below w.heap.size w ((((((((w1.setCell ⟨w.heap.size, 0, none⟩ a0).setCell ⟨w.heap.size, 1, none⟩ a1).setCell ⟨w.heap.size + 1, 0, none⟩ u0).setCell ⟨w.heap.size + 1, 1, none⟩ u1).setCell ⟨w.heap.size + 1, 2, none⟩ u2).setCell ⟨w.heap.size + 1, 3, none⟩ u3).setCell ⟨w.heap.size + 1, 4, none⟩ u4).setCell ⟨w.heap.size + 1, 5, none⟩ u5) := by
  have b0 : w.heap.size < w.heap.size + 2 := by omega
  have b1 : w.heap.size + 1 < w.heap.size + 2 := by omega
  have c0 : w.heap.size ≤ w.heap.size := Nat.le_refl _
  have c1 : w.heap.size ≤ w.heap.size + 1 := by omega
  constructor
  · have h0 := (Box.Above.refl (w.heap.size + 2) w1).setCell (p := ⟨w.heap.size, 0, none⟩) b0 a0
    have h1 := h0.setCell (p := ⟨w.heap.size, 1, none⟩) b0 a1
    have h2 := h1.setCell (p := ⟨w.heap.size + 1, 0, none⟩) b1 u0
    have h3 := h2.setCell (p := ⟨w.heap.size + 1, 1, none⟩) b1 u1
    have h4 := h3.setCell (p := ⟨w.heap.size + 1, 2, none⟩) b1 u2
    have h5 := h4.setCell (p := ⟨w.heap.size + 1, 3, none⟩) b1 u3
    have h6 := h5.setCell (p := ⟨w.heap.size + 1, 4, none⟩) b1 u4
    exact h6.setCell (p := ⟨w.heap.size + 1, 5, none⟩) b1 u5
  · have h0 := hb.setCell (p := ⟨w.heap.size, 0, none⟩) c0 a0
    have h1 := h0.setCell (p := ⟨w.heap.size, 1, none⟩) c0 a1
    have h2 := h1.setCell (p := ⟨w.heap.size + 1, 0, none⟩) c1 u0
    have h3 := h2.setCell (p := ⟨w.heap.size + 1, 1, none⟩) c1 u1
    have h4 := h3.setCell (p := ⟨w.heap.size + 1, 2, none⟩) c1 u2
    have h5 := h4.setCell (p := ⟨w.heap.size + 1, 3, none⟩) c1 u3
    have h6 := h5.setCell (p := ⟨w.heap.size + 1, 4, none⟩) c1 u4
    exact h6.setCell (p := ⟨w.heap.size + 1, 5, none⟩) c1 u5

set_option maxHeartbeats 1000000 in
set_option maxRecDepth 100000 in
theorem lwhole_any (neg : Bool) (a : Option Addr) (cap : Nat) (l : List UInt8) (most : Nat) (w : World) (h : Rd w a l) (hl : l.length ≤ 2147483647) (hc : l.length ≤ cap) (ha : a = none → cap = 0) (hm : most ≤ 1000) (V : Nat) (hV : be (l.take most) = V) :
    Calls Try.prog 11 #[.bool neg, .slice a l.length cap, .int .i64 most] w fun e w' => (∃ x p, e = .returned (.tuple #[x, p]) ∧ IsInt w' w.heap.size x (neg && decide (0 < V)) V ∧ IsVal w' w.heap.size p (neg && decide (0 < V)) V) ∧ Below w.heap.size w w' := by
  have hVl : (mag V).length ≤ 1000 := by
    have := be_lt (l.take most)
    rw [hV] at this
    have h2 : (l.take most).length ≤ 1000 := by rw [List.length_take]; omega
    exact Nat.le_trans (mag_len_le this) h2
  have hof := Lib.hid fun W (hb : Below w.heap.size w W) => of_any neg a cap (l.take most) W ((h.take most).later hb) (by rw [List.length_take]; omega) (by rw [List.length_take]; omega) ha
  rw [hV, List.length_take] at hof
  obtain ⟨n, hn⟩ : ∃ n, l.length = n := ⟨_, rfl⟩
  obtain ⟨K, hK⟩ : ∃ K, Nat.min most n = K := ⟨_, rfl⟩
  rw [hn] at hof hc hl ⊢
  rw [show min most n = K from hK] at hof
  have hK1 : K ≤ n := by rw [← hK]; exact Nat.min_le_right _ _
  have hKc : K ≤ cap := by omega
  have hKd : K = if most < n then most else n := by
    rw [← hK]
    show min most n = _
    split <;> omega
  clear hn hK h hV ha
  obtain ⟨N, hN⟩ : ∃ N, (neg && decide (0 < V)) = N := ⟨_, rfl⟩
  rw [hN] at hof ⊢
  clear hN
  by_cases hk : most < n
  all_goals
    first | rw [if_pos hk] at hKd | rw [if_neg hk] at hKd
    subst hKd
    go_enter Try.func11, Try.ntmps11
    go_wp2_with fail
    refine (hof.out _ ((below_one' _ (Nat.le_refl _)).alloc (by simp) _)).mono ?_
    rintro e w1 ⟨⟨x, rfl, hx⟩, hb1⟩
    have hb1' : Below (w.heap.size + 2) ((w.alloc (.cells #[.bool false, .slice none 0 0] 35)).alloc (.cells #[.int .i64 0, .bool false, .slice none 0 0, .int .u64 0, .string ⟨#[]⟩, .slice none 0 0] 26)) w1 := by simpa using hb1
    have hs1 : Box.Holds w1 w.heap.size 35 #[.bool false, .slice none 0 0] := ((Box.Holds.made w _ _).alloc _).below hb1' (by omega)
    have hs2 : Box.Holds w1 (w.heap.size + 1) 26 #[.int .i64 0, .bool false, .slice none 0 0, .int .u64 0, .string ⟨#[]⟩, .slice none 0 0] := by
      have := (Box.Holds.made (w.alloc (.cells #[.bool false, .slice none 0 0] 35)) 26 #[.int .i64 0, .bool false, .slice none 0 0, .int .u64 0, .string ⟨#[]⟩, .slice none 0 0])
      have e : (w.alloc (.cells #[.bool false, .slice none 0 0] 35)).heap.size = w.heap.size + 1 := by simp
      rw [e] at this
      exact this.below hb1' (by omega)
    have hxs : IsInt w1 (w.heap.size + 2) x N V := by simpa using hx
    have hbw : Below w.heap.size w w1 := ((below_one' _ (Nat.le_refl _)).alloc (by simp) _).trans (hb1'.mono (by omega))
    clear hx hb1 hb1' hof
    obtain ⟨u, rfl, hu, hp⟩ := hxs
    obtain ⟨a1, c1, rfl, -, -⟩ := Rd.of_own hu
    obtain ⟨L, hL⟩ : ∃ L, (mag V).length = L := ⟨_, rfl⟩
    rw [hL] at hu ⊢
    have hu' := Lib.hid hu
    have hL' := Lib.hid hL
    have hp' := Lib.hid hp
    have hlt1 := hs2.lt
    have hxi : IsInt w1 (w.heap.size + 2) (.agg #[.bool N, .slice a1 L c1]) N V := ⟨_, rfl, hu, hp⟩
    clear hu hp
    go_wp2_with fail
    obtain ⟨P, hP⟩ : ∃ P, w1.heap.size = P := ⟨_, rfl⟩
    obtain ⟨W2, hW2⟩ : ∃ W2, w1.alloc (.cells #[.bool N, .slice a1 L c1] 35) = W2 := ⟨_, rfl⟩
    have hB2 : Below w1.heap.size w1 W2 := by rw [← hW2]; exact below_one' _ (Nat.le_refl _)
    have hbox : Box.Holds W2 P 35 #[.bool N, .slice a1 L c1] := by rw [← hW2, ← hP]; exact Box.Holds.made w1 _ _
    rw [hW2, hP]
    have k1 := hs1.later hB2
    have k2 := hs2.later hB2
    have hx2 := hxi.later hB2
    have hbw2 : Below w.heap.size w W2 := hbw.trans (hB2.mono hbw.size)
    have htl := Lib.hid (fun W (h : IsInt W (w.heap.size + 2) (.agg #[.bool N, .slice a1 L c1]) N V) => told_any _ N V _ W h (by omega))
    have hx2d : Hid (IsInt W2.drew (w.heap.size + 2) (.agg #[.bool N, .slice a1 L c1]) N V) := Lib.hid hx2
    have d0 := hbox.cell 0
    have d1 := hbox.cell 1
    simp at d0 d1
    have d2 := hbox.lt
    have hall := Lib.hid (show ∀ w3, Below W2.heap.size W2 w3 → Box.Holds w3 P 35 #[.bool N, .slice a1 L c1] ∧ Box.Holds w3 w.heap.size 35 #[.bool false, .slice none 0 0] ∧ Box.Holds w3 (w.heap.size + 1) 26 #[.int .i64 0, .bool false, .slice none 0 0, .int .u64 0, .string ⟨#[]⟩, .slice none 0 0] ∧ IsInt w3 (w.heap.size + 2) (.agg #[.bool N, .slice a1 L c1]) N V ∧ Below w.heap.size w w3 from
      fun w3 hb => ⟨hbox.later hb, k1.later hb, k2.later hb, hx2.later hb, hbw2.trans (hb.mono hbw2.size)⟩)
    have hsz2 := Lib.hid (show w.heap.size + 2 ≤ W2.heap.size by have := hB2.size; omega)
    clear hs1 hs2 hbw hlt1 hP hW2 hB2 hbox k1 k2 hx2 hbw2 hxi hu'
    go_region_with (go_at_call 28; refine (htl.out W2.drew hx2d.out).mono ?_; rintro e w3 ⟨⟨u, rfl, hu⟩, hb3'⟩; have hb3 : Below W2.heap.size W2 w3 := (Below.drew (Below.refl _ _)).trans hb3'; obtain ⟨a5, c5, hv5, -, -⟩ := Rd.of_own hu; subst hv5; obtain ⟨g0, g1, g2, g3, g4⟩ := hall.out _ hb3; have d0 := g0.cell 0; have d1 := g0.cell 1; have q0 := g1.cell 0; have q1 := g1.cell 1; have r0 := g2.cell 0; have r1 := g2.cell 1; have r2 := g2.cell 2; have r3 := g2.cell 3; have r4 := g2.cell 4; have r5 := g2.cell 5; simp at d0 d1 q0 q1 r0 r1 r2 r3 r4 r5; have l0 := g0.lt; have l1 := g1.lt; have l2 := g2.lt; have f0 := g1.free 0; have f1 := g1.free 1; have h0 := g2.free 0; have h1 := g2.free 1; have h2 := g2.free 2; have h3 := g2.free 3; have h4 := g2.free 4; have h5 := g2.free 5)
    all_goals
      rw [hL'.out] at hu
      have hu2 := World.ownsRow.mono hu (show w.heap.size + 2 ≤ W2.drew.heap.size from hsz2.out)
      have he := eight (.bool N) (.slice a1 L c1) (.int .i64 2) (.bool N) (.slice a5 L c5) (.int .u64 0) (.string ⟨#[]⟩) (.slice none 0 0) g4
      have hfin := Lib.hid (show IsInt _ w.heap.size (.agg #[.bool N, .slice a1 L c1]) N V ∧ IsVal _ w.heap.size (.agg #[.int .i64 2, .bool N, .slice a5 L c5, .int .u64 0, .string ⟨#[]⟩, .slice none 0 0]) N V ∧ Below w.heap.size w _ from
        ⟨(g3.above he.1).mono (by omega), (IsVal.mono ⟨_, rfl, Box.own_above (hL'.out ▸ hu2) he.1, hp'.out⟩ (show w.heap.size ≤ w.heap.size + 2 by omega)), he.2⟩)
      clear hu hu2 he g0 g1 g2 g3 g4 hb3 hb3' hall htl hx2d
      go_wp2
      exact bodyPost_ret (v := .tuple #[.agg #[.bool N, .slice a1 L c1], .agg #[.int .i64 2, .bool N, .slice a5 L c5, .int .u64 0, .string ⟨#[]⟩, .slice none 0 0]]) (by simp [results, Try.results11, go_sem, q0, q1, r0, r1, r2, r3, r4, r5]) rfl ⟨⟨_, _, rfl, hfin.out.1, hfin.out.2.1⟩, hfin.out.2.2⟩
end Go.Proofs.Ytaappbnbjpbbcaa.Ref
