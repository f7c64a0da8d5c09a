/-
  The reference's integers: their signs, and how two compare.
-/
import Derived.Test.YtkflmgpigidkeaaGreatSpecInt2
import Derived.Deep.RegionWith
import Derived.Deep.DrawnRows
import Derived.Deep.DeepCutAuto
namespace Go.Proofs.YtkflmgpigidkeaaGreat.Ref
open Go.RowKit Go.WideShapes Go.Proofs.YtkflmgpigidkeaaGreat.Own Go.Proofs.YtkflmgpigidkeaaGreat.Num
set_option linter.unusedVariables false

theorem mag_pos (m : Nat) : 0 < (mag m).length ↔ 0 < m := by rw [mag_length]; exact len_pos (by omega)

set_option maxRecDepth 100000 in
theorem zero_any (x : Value) (neg : Bool) (m B : Nat) (w : World) (h : IsInt w B x neg m) (hm : (mag m).length ≤ 2147483647) :
    Calls Tryz.prog 138 #[x] w fun e w' => e = .returned (.bool (decide (m = 0))) ∧ ∃ o, w' = w.alloc o := by
  obtain ⟨u, rfl, ho, hpos⟩ := h
  obtain ⟨a, cap, rfl, hr, hc⟩ := Rd.of_own ho
  have hp := mag_pos m
  obtain ⟨n, hn⟩ : ∃ n, (mag m).length = n := ⟨_, rfl⟩
  rw [hn] at hm hc hp ⊢
  have k1 : (w.alloc (.cells #[.bool neg, .slice a n cap] 79)).cell? ⟨w.heap.size, 1, none⟩ = some (.slice a n cap) := by rw [World.cell?_alloc_at _ _ _ _ rfl]; rfl
  clear hn hr ho hpos
  by_cases h0 : m = 0
  · have hb : ((n : Int) == 0) = true := by simp; omega
    have hd : decide (m = 0) = true := by simp [h0]
    rw [hd]
    clear h0 hp hd
    go_enter Tryz.func138, Tryz.ntmps138
    go_wp2
    go_ret
    exact ⟨rfl, _, rfl⟩
  · have hb : ((n : Int) == 0) = false := by simp; omega
    have hd : decide (m = 0) = false := by simp [h0]
    rw [hd]
    clear h0 hp hd
    go_enter Tryz.func138, Tryz.ntmps138
    go_wp2
    go_ret
    exact ⟨rfl, _, rfl⟩

set_option maxRecDepth 100000 in
theorem sign_any (x : Value) (neg : Bool) (m B : Nat) (w : World) (h : IsInt w B x neg m) (hm : (mag m).length ≤ 2147483647) :
    Calls Tryz.prog 83 #[x] w fun e w' => e = .returned (.int .i64 (sgn (sg neg m))) ∧ ∃ o1 o2, w' = (w.alloc o1).alloc o2 := by
  have h' := h
  obtain ⟨u, rfl, ho, hpos⟩ := h'
  obtain ⟨a, cap, rfl, hr, hc⟩ := Rd.of_own ho
  obtain ⟨n, hn⟩ : ∃ n, (mag m).length = n := ⟨_, rfl⟩
  have k0 : ∀ n, ∀ o, ((w.alloc (.cells #[.bool neg, .slice a n cap] 79)).alloc o).cell? ⟨w.heap.size, 0, none⟩ = some (.bool neg) := fun n o => by rw [World.cell?_alloc_lt _ _ _ (by simp), World.cell?_alloc_at _ _ _ _ rfl]; rfl
  have k1 : ∀ n, (w.alloc (.cells #[.bool neg, .slice a n cap] 79)).cell? ⟨w.heap.size, 1, none⟩ = some (.slice a n cap) := fun n => by rw [World.cell?_alloc_at _ _ _ _ rfl]; rfl
  have hz := Lib.hid (zero_any _ neg m B _ (h.later ((Below.refl _ _).alloc (Nat.le_refl _) (.cells #[.bool neg, .slice a (mag m).length cap] 79))) hm)
  rw [hn] at hz ⊢
  have k0 := k0 n
  have k1 := k1 n
  clear hr ho hn h
  by_cases h0 : m = 0
  · have hd : decide (m = 0) = true := by simp [h0]
    have hneg : neg = false := by cases neg; rfl; exact absurd (hpos rfl) (by omega)
    have hs : sgn (sg neg m) = 0 := by rw [h0, hneg]; rfl
    rw [hs]
    rw [hd] at hz
    clear hs h0 hd hpos hneg
    go_enter Tryz.func83, Tryz.ntmps83
    go_wp2_with fail
    refine hz.out.mono ?_
    rintro e w1 ⟨rfl, o, rfl⟩
    go_wp2
    go_ret
    exact ⟨rfl, _, _, rfl⟩
  · have hd : decide (m = 0) = false := by simp [h0]
    rw [hd] at hz
    cases neg
    · have hs : sgn (sg false m) = 1 := by unfold sgn sg; simp; omega
      rw [hs]
      clear hs h0 hd hpos
      go_enter Tryz.func83, Tryz.ntmps83
      go_wp2_with fail
      refine hz.out.mono ?_
      rintro e w1 ⟨rfl, o, rfl⟩
      go_wp2
      go_ret
      exact ⟨rfl, _, _, rfl⟩
    · have hs : sgn (sg true m) = -1 := by unfold sgn sg; simp; omega
      rw [hs]
      clear hs h0 hd hpos
      go_enter Tryz.func83, Tryz.ntmps83
      go_wp2_with fail
      refine hz.out.mono ?_
      rintro e w1 ⟨rfl, o, rfl⟩
      go_wp2
      go_ret
      exact ⟨rfl, _, _, rfl⟩

/-- the sign's contract in whatever later world -/
theorem sign_later (x : Value) (neg : Bool) (m B : Nat) (w : World) (h : IsInt w B x neg m) (hm : (mag m).length ≤ 2147483647) (S : Int) (hS : sgn (sg neg m) = S) :
    ∀ W, Below w.heap.size w W → Calls Tryz.prog 83 #[x] W fun e w' => e = .returned (.int .i64 S) ∧ ∃ o1 o2, w' = (W.alloc o1).alloc o2 := fun W hb => by
  subst hS
  exact sign_any x neg m B W (h.later hb) hm

theorem below_call {w W : World} (h : Below w.heap.size w W) (o1 o2 : Obj) : Below w.heap.size w ((W.drew.alloc o1).alloc o2) := by
  have := h.size
  exact (h.drew.alloc (show w.heap.size ≤ W.drew.heap.size from this) _).alloc (by simp; show w.heap.size ≤ W.drew.heap.size + 1; have : W.drew.heap.size = W.heap.size := rfl; omega) _

set_option maxHeartbeats 1000000 in
set_option maxRecDepth 100000 in
theorem cmp_any (x y : Value) (xn yn : Bool) (a b B : Nat) (w : World) (hx : IsInt w B x xn a) (hy : IsInt w B y yn b) (ha : (mag a).length ≤ 2147483647) (hb : (mag b).length ≤ 2147483647) :
    Calls Tryz.prog 38 #[x, y] w fun e w' => e = .returned (.int .i64 (cmpZ (sg xn a) (sg yn b))) ∧ Below w.heap.size w w' := by
  obtain ⟨S1, hS1⟩ : ∃ S, sgn (sg xn a) = S := ⟨_, rfl⟩
  obtain ⟨S2, hS2⟩ : ∃ S, sgn (sg yn b) = S := ⟨_, rfl⟩
  obtain ⟨Z, hZ⟩ : ∃ Z, cmpZ (sg xn a) (sg yn b) = Z := ⟨_, rfl⟩
  have s1 := Lib.hid (sign_later x xn a B w hx ha S1 hS1)
  have s2 := Lib.hid (sign_later y yn b B w hy hb S2 hS2)
  have hS1' := Lib.hid hS1
  have hS2' := Lib.hid hS2
  rw [hZ]
  have hZ' := Lib.hid hZ
  obtain ⟨u1, rfl, ho1, hp1⟩ := hx
  obtain ⟨u2, rfl, ho2, hp2⟩ := hy
  obtain ⟨a1, c1, rfl, hr1, hc1⟩ := Rd.of_own ho1
  obtain ⟨a2, c2, rfl, hr2, hc2⟩ := Rd.of_own ho2
  have hp1' := Lib.hid hp1
  have hp2' := Lib.hid hp2
  have hr1' := Lib.hid hr1
  have hr2' := Lib.hid hr2
  obtain ⟨n1, hn1⟩ : ∃ n, (mag a).length = n := ⟨_, rfl⟩
  obtain ⟨n2, hn2⟩ : ∃ n, (mag b).length = n := ⟨_, rfl⟩
  have ord := Lib.hid fun W (h : Below w.heap.size w W) => order_any a1 a2 c1 c2 a b W (hr1'.out.later h) (hr2'.out.later h) ha hb hc1 hc2
  have ord' := Lib.hid fun W (h : Below w.heap.size w W) => order_any a2 a1 c2 c1 b a W (hr2'.out.later h) (hr1'.out.later h) hb ha hc2 hc1
  rw [hn1, hn2] at ord ord'
  rw [hn1] at s1 ⊢
  rw [hn2] at s2 ⊢
  clear ho1 ho2 hp1 hp2 hr1 hr2 hZ hS1 hS2 hn1 hn2 hc1 hc2 ha hb
  obtain ⟨W2, hW2⟩ : ∃ W2, (w.alloc (.cells #[.bool xn, .slice a1 n1 c1] 79)).alloc (.cells #[.bool yn, .slice a2 n2 c2] 79) = W2 := ⟨_, rfl⟩
  have hB2 : Below w.heap.size w W2 := by rw [← hW2]; exact ((Below.refl _ _).alloc (Nat.le_refl _) _).alloc (by simp) _
  have hs2 : W2.heap.size = w.heap.size + 2 := by rw [← hW2]; simp
  have h1 : Box.Holds W2 w.heap.size 79 #[.bool xn, .slice a1 n1 c1] := by rw [← hW2]; exact (Box.Holds.made w _ _).alloc _
  have h2 : Box.Holds W2 (w.heap.size + 1) 79 #[.bool yn, .slice a2 n2 c2] := by
    rw [← hW2]
    have := Box.Holds.made (w.alloc (.cells #[.bool xn, .slice a1 n1 c1] 79)) 79 #[.bool yn, .slice a2 n2 c2]
    simpa using this
  have hW2' := Lib.hid hW2
  clear hW2
  go_enter Tryz.func38, Tryz.ntmps38
  go_upto_region 1 with fail
  rw [hW2'.out]
  have hsl : w.heap.size ≤ W2.heap.size := by omega
  go_cut [9] (fun v wx => v = .bool (S1 != S2) ∧ Below W2.heap.size W2 wx)
  case first =>
    have d1 := h1.cell 0
    have d2 := h1.cell 1
    have d3 := h2.cell 0
    have d4 := h2.cell 1
    simp at d1 d2 d3 d4
    go_region_with (first
      | (go_at_call_of 83 (Value.agg #[.bool xn, .slice a1 n1 c1]); refine (s1.out _ (by repeat (first | exact hB2 | apply Below.drew | (refine Below.alloc ?_ (by first | (simp; done) | (simp; omega) | omega) _)))).mono ?_; rintro e w' ⟨rfl, o1, o2, rfl⟩)
      | (go_at_call_of 83 (Value.agg #[.bool yn, .slice a2 n2 c2]); refine (s2.out _ (by repeat (first | exact hB2 | apply Below.drew | (refine Below.alloc ?_ (by first | (simp; done) | (simp; omega) | omega) _)))).mono ?_; rintro e w' ⟨rfl, o1, o2, rfl⟩))
    all_goals
      go_wp2_with fail
      go_meet
      exact ⟨rfl, (by repeat (first | exact Below.refl _ _ | apply Below.drew | (refine Below.alloc ?_ (by first | (simp; done) | (simp; omega) | omega) _)))⟩
  case rest =>
    obtain ⟨rfl, hbw⟩ := hcut
    have hBc := hB2.trans (hbw.mono hsl)
    have hsc := hBc.size
    have g1 := h1.later hbw
    have g2 := h2.later hbw
    have hsc1 : w.heap.size < wc.heap.size := g1.lt
    have hsc2 : w.heap.size + 1 < wc.heap.size := g2.lt
    have d1 := g1.cell 0
    have d2 := g1.cell 1
    have d3 := g2.cell 0
    have d4 := g2.cell 1
    simp at d1 d2 d3 d4
    clear h1 h2 hB2 hW2' hbw hsl hs2 g1 g2
    by_cases hS : S1 = S2
    · have hyx : yn = xn := by
        have e1 := hS1'.out
        have e2 := hS2'.out
        rw [hS, ← e2] at e1
        have p1 := hp1'.out
        have p2 := hp2'.out
        cases xn <;> cases yn <;> simp [sgn, sg] at * <;> omega
      have hb : (S1 != S2) = false := by simp [hS]
      have hS' := Lib.hid hS
      clear hS
      rw [hb]
      subst hyx
      cases yn
      · have hz := hZ'.out
        simp only [sg, Bool.false_eq_true, if_false] at hz
        rw [cmpZ_pos] at hz
        subst hz
        clear hb
        go_wp2_with fail
        refine (ord.out _ hBc).mono ?_
        rintro e w5 ⟨rfl, hb5⟩
        go_wp2
        go_ret
        exact ⟨rfl, hBc.trans (hb5.mono hBc.size)⟩
      · have hz := hZ'.out
        simp only [sg, if_true] at hz
        rw [cmpZ_neg] at hz
        subst hz
        clear hb
        go_wp2_with fail
        refine (ord'.out _ hBc).mono ?_
        rintro e w5 ⟨rfl, hb5⟩
        go_wp2
        go_ret
        exact ⟨rfl, hBc.trans (hb5.mono hBc.size)⟩
    · have hb : (S1 != S2) = true := by simp [hS]
      have hz := cmpZ_sgn (a := sg xn a) (b := sg yn b) (by rw [hS1'.out, hS2'.out]; exact hS)
      rw [hS1'.out, hS2'.out, hZ'.out] at hz
      rw [hb]
      clear hS hb
      by_cases hlt : S1 < S2
      · rw [if_pos hlt] at hz
        have hd : decide (S1 < S2) = true := by simp [hlt]
        subst hz
        clear hlt
        go_wp2
        go_region_with (first
          | (go_at_call_of 83 (Value.agg #[.bool xn, .slice a1 n1 c1]); refine (s1.out _ (Below.drew hBc)).mono ?_; rintro e w' ⟨rfl, o1, o2, rfl⟩)
          | (go_at_call_of 83 (Value.agg #[.bool xn, .slice a1 n1 c1]); refine (s1.out _ (below_call hBc _ _)).mono ?_; rintro e w' ⟨rfl, o1, o2, rfl⟩)
          | (go_at_call_of 83 (Value.agg #[.bool yn, .slice a2 n2 c2]); refine (s2.out _ (Below.drew hBc)).mono ?_; rintro e w' ⟨rfl, o1, o2, rfl⟩)
          | (go_at_call_of 83 (Value.agg #[.bool yn, .slice a2 n2 c2]); refine (s2.out _ (below_call hBc _ _)).mono ?_; rintro e w' ⟨rfl, o1, o2, rfl⟩))
        all_goals
          go_wp2
          go_ret
          exact ⟨rfl, (by repeat (first | exact hBc | apply Below.drew | (refine Below.alloc ?_ (by first | (simp; done) | (simp; omega) | omega) _)))⟩
      · rw [if_neg hlt] at hz
        have hd : decide (S1 < S2) = false := by simp [hlt]
        subst hz
        clear hlt
        go_wp2
        go_region_with (first
          | (go_at_call_of 83 (Value.agg #[.bool xn, .slice a1 n1 c1]); refine (s1.out _ (Below.drew hBc)).mono ?_; rintro e w' ⟨rfl, o1, o2, rfl⟩)
          | (go_at_call_of 83 (Value.agg #[.bool xn, .slice a1 n1 c1]); refine (s1.out _ (below_call hBc _ _)).mono ?_; rintro e w' ⟨rfl, o1, o2, rfl⟩)
          | (go_at_call_of 83 (Value.agg #[.bool yn, .slice a2 n2 c2]); refine (s2.out _ (Below.drew hBc)).mono ?_; rintro e w' ⟨rfl, o1, o2, rfl⟩)
          | (go_at_call_of 83 (Value.agg #[.bool yn, .slice a2 n2 c2]); refine (s2.out _ (below_call hBc _ _)).mono ?_; rintro e w' ⟨rfl, o1, o2, rfl⟩))
        all_goals
          go_wp2
          go_ret
          exact ⟨rfl, (by repeat (first | exact hBc | apply Below.drew | (refine Below.alloc ?_ (by first | (simp; done) | (simp; omega) | omega) _)))⟩
end Go.Proofs.YtkflmgpigidkeaaGreat.Ref
