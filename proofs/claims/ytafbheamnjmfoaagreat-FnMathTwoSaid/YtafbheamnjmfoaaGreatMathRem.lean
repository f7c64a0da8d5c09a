/-
  Package math's Remainder: it answers, the same each time.
-/
import Derived.Test.YtafbheamnjmfoaaGreatMathMod
namespace Go.Proofs.YtafbheamnjmfoaaGreat.Fl
open Go.RowKit Go.WideShapes
set_option linter.unusedVariables false

/-- a float that is a number or an infinity -/
def Real (b : Nat) : Prop := b < 18446744073709551616 ∧ b % 9223372036854775808 ≤ infB
theorem word_real (neg : Bool) (r : Nat) (h : r ≤ infB) : Real (Ieee.double.word neg r) := by
  unfold Real Ieee.Format.word
  rw [d_sign]
  unfold infB at *
  cases neg
  · simp only [Bool.false_eq_true, if_false]; omega
  · simp only [if_true]; omega
theorem near_real (neg : Bool) (m : Nat) (p : Int) : Real (Ieee.double.nearest neg m p) := by
  unfold Ieee.Format.nearest
  split
  · exact word_real _ _ (by decide)
  · exact word_real _ _ (by rw [d_inf]; exact Nat.min_le_right _ _)
theorem real_of {b : Nat} (h : b < 18446744073709551616) (hf : fexp b < 2047) : Real b := by
  refine ⟨h, ?_⟩
  unfold infB
  unfold fexp at hf
  omega
theorem real_read {b : Nat} (h : Real b) : (∃ n m p, Ieee.double.read b = .number n m p) ∨ ∃ n, Ieee.double.read b = .infinity n := by
  obtain ⟨h1, h2⟩ := h
  unfold infB at h2
  unfold Ieee.Format.read
  rw [d_sign, d_binade, d_inf, d_least]
  dsimp only
  split
  · exact .inl ⟨_, _, _, rfl⟩
  · split
    · exact .inl ⟨_, _, _, rfl⟩
    · rw [if_pos (by omega)]
      exact .inr ⟨_, rfl⟩
theorem add_real {x : Nat} (h : Real x) : ∃ v, Ieee.double.add x x = some v ∧ Real v := by
  unfold Ieee.Format.add
  rcases real_read h with ⟨n, m, p, e⟩ | ⟨n, e⟩
  · rw [e]
    exact ⟨_, rfl, near_real _ _ _⟩
  · rw [e]
    simp only [Ieee.Datum.sum, if_true]
    exact ⟨_, rfl, word_real _ _ (by rw [d_inf]; exact Nat.le_refl _)⟩
theorem sub_real {x y : Nat} (h : Real x) (hy : fexp y < 2047) : ∃ v, Ieee.double.sub x y = some v ∧ Real v := by
  unfold Ieee.Format.sub
  rw [read_num y hy]
  rcases real_read h with ⟨n, m, p, e⟩ | ⟨n, e⟩
  · rw [e]
    exact ⟨_, rfl, near_real _ _ _⟩
  · rw [e]
    exact ⟨_, rfl, word_real _ _ (by rw [d_inf]; exact Nat.le_refl _)⟩
theorem half_read : Ieee.double.read 4602678819172646912 = .number false 4503599627370496 (-53) := by decide +kernel
theorem half_real {y : Nat} (hy : fexp y < 2047) : ∃ v, Ieee.double.mul 4602678819172646912 y = some v ∧ Real v := by
  unfold Ieee.Format.mul
  rw [read_num y hy, half_read]
  exact ⟨_, rfl, near_real _ _ _⟩
/-- twice a float above 0 that is not too great -/
theorem twice {y : Nat} (h0 : 0 < y) (h : y ≤ 9214364837600034815) : ∃ c, Ieee.double.add y y = some c ∧ 0 < c ∧ c < infB := by
  have hy : y < infB := by unfold infB; omega
  obtain ⟨i, hi⟩ : ∃ i, fexp y - 1 = i := ⟨_, rfl⟩
  have hi2 : i ≤ 2044 := by
    unfold fexp at hi
    omega
  have hm := fman_lt y
  have hm0 : 0 < fman y := by
    rcases Nat.eq_zero_or_pos (fman y) with h2 | h2
    · have h3 := nval_pos hy h0
      unfold nval at h3
      rw [h2, Nat.zero_mul] at h3
      omega
    · exact h2
  have hb : ∀ E F : Nat, F = 53 + E → E = 2045 → fman y * 2 ^ (i + 1) < 2 ^ F := by
    intro E F hF hE
    have e2 : (2 : Nat) ^ (i + 1) ≤ 2 ^ E := Nat.pow_le_pow_right (by decide) (by omega)
    rw [hF, Nat.pow_add 2 53 E]
    exact Nat.lt_of_le_of_lt (Nat.mul_le_mul_left _ e2) (Nat.mul_lt_mul_of_pos_right hm (Nat.two_pow_pos _))
  obtain ⟨c, hc, hcv⟩ : ∃ c, c < infB ∧ nval c = fman y * 2 ^ (i + 1) := by
    obtain ⟨F, hF⟩ : ∃ F, F = 2098 := ⟨_, rfl⟩
    exact nval_rep (fman y) (i + 1) F hF hm (hb 2045 F (by omega) rfl)
  refine ⟨c, ?_, ?_, hc⟩
  · unfold Ieee.Format.add
    rw [read_pos hy, hi]
    simp only [Ieee.Datum.sum, signed_eq, sgnd, Bool.false_eq_true, if_false, Int.min_self, Option.map_some, Option.some.injEq]
    have e0 : (((i : Int) - 1074) - ((i : Int) - 1074)).toNat = 0 := by omega
    rw [e0, Nat.pow_zero, Nat.mul_one]
    rw [if_neg (by omega), show ((fman y : Int) + (fman y : Int)).natAbs = fman y * 2 by omega, decide_eq_false (by omega : ¬ (fman y : Int) + (fman y : Int) < 0)]
    show Ieee.double.nearest false (fman y * 2) ((i : Int) - 1074) = c
    rw [near_up false (fman y * 2) i c hc (by rw [hcv, Nat.pow_succ, Nat.mul_assoc, Nat.mul_comm 2]), word_pos]
  · rcases Nat.eq_zero_or_pos c with h3 | h3
    · subst h3
      rw [nval_0] at hcv
      have := Nat.mul_pos hm0 (Nat.two_pow_pos (i + 1))
      omega
    · exact h3
/-- what is left: the last steps, of x and y, y above 0 -/
def Tail (x y R : Nat) : Prop :=
  ((Ieee.double.order y 9007199254740992 == some .lt) = true ∧ ∃ v, Ieee.double.add x x = some v ∧
    (((Ieee.double.order v y == some .gt) = false ∧ R = x) ∨
     ((Ieee.double.order v y == some .gt) = true ∧ ∃ x2, Ieee.double.sub x y = some x2 ∧ ∃ v2, Ieee.double.add x2 x2 = some v2 ∧
       (((Ieee.double.order v2 y == some .gt || Ieee.double.order v2 y == some .eq) = false ∧ R = x2) ∨
        ((Ieee.double.order v2 y == some .gt || Ieee.double.order v2 y == some .eq) = true ∧ Ieee.double.sub x2 y = some R))))) ∨
  ((Ieee.double.order y 9007199254740992 == some .lt) = false ∧ ∃ v, Ieee.double.mul 4602678819172646912 y = some v ∧
    (((Ieee.double.order x v == some .gt) = false ∧ R = x) ∨
     ((Ieee.double.order x v == some .gt) = true ∧ ∃ x2, Ieee.double.sub x y = some x2 ∧
       (((Ieee.double.order x2 v == some .gt || Ieee.double.order x2 v == some .eq) = false ∧ R = x2) ∨
        ((Ieee.double.order x2 v == some .gt || Ieee.double.order x2 v == some .eq) = true ∧ Ieee.double.sub x2 y = some R)))))
theorem tail_some {x y : Nat} (hx : Real x) (hy : fexp y < 2047) : ∃ R, R < 18446744073709551616 ∧ Tail x y R := by
  unfold Tail
  rcases Bool.eq_false_or_eq_true (Ieee.double.order y 9007199254740992 == some .lt) with h | h
  · obtain ⟨v, hv, rv⟩ := add_real hx
    obtain ⟨x2, h2, r2⟩ := sub_real hx hy
    obtain ⟨v2, hv2, rv2⟩ := add_real r2
    obtain ⟨x3, h3, r3⟩ := sub_real r2 hy
    rcases Bool.eq_false_or_eq_true (Ieee.double.order v y == some .gt) with h4 | h4
    · rcases Bool.eq_false_or_eq_true (Ieee.double.order v2 y == some .gt || Ieee.double.order v2 y == some .eq) with h5 | h5
      · exact ⟨x3, r3.1, .inl ⟨h, v, hv, .inr ⟨h4, x2, h2, v2, hv2, .inr ⟨h5, h3⟩⟩⟩⟩
      · exact ⟨x2, r2.1, .inl ⟨h, v, hv, .inr ⟨h4, x2, h2, v2, hv2, .inl ⟨h5, rfl⟩⟩⟩⟩
    · exact ⟨x, hx.1, .inl ⟨h, v, hv, .inl ⟨h4, rfl⟩⟩⟩
  · obtain ⟨v, hv, rv⟩ := half_real hy
    obtain ⟨x2, h2, r2⟩ := sub_real hx hy
    obtain ⟨x3, h3, r3⟩ := sub_real r2 hy
    rcases Bool.eq_false_or_eq_true (Ieee.double.order x v == some .gt) with h4 | h4
    · rcases Bool.eq_false_or_eq_true (Ieee.double.order x2 v == some .gt || Ieee.double.order x2 v == some .eq) with h5 | h5
      · exact ⟨x3, r3.1, .inr ⟨h, v, hv, .inr ⟨h4, x2, h2, .inr ⟨h5, h3⟩⟩⟩⟩
      · exact ⟨x2, r2.1, .inr ⟨h, v, hv, .inr ⟨h4, x2, h2, .inl ⟨h5, rfl⟩⟩⟩⟩
    · exact ⟨x, hx.1, .inr ⟨h, v, hv, .inl ⟨h4, rfl⟩⟩⟩
set_option maxRecDepth 100000 in
theorem rem_odd (x y : Nat) (hx : x < 18446744073709551616) (ho : Odd x y) (w : World) : Calls Tryz.prog 28 #[.float .f64 x, .float .f64 y] w fun e w' => e = .returned (.float .f64 9221120237041090561) ∧ w' = w := by
  have hf : FloatKind.f64.format = Ieee.double := rfl
  have hi := Lib.hid fun w => isinf_any x hx w
  have hn1 := Lib.hid fun w => isnan_any x w
  have hn2 := Lib.hid fun w => isnan_any y w
  have hn := Lib.hid fun w => nan_any w
  by_cases h3 : Ieee.double.order x x = none
  · rw [decide_eq_true h3] at hn1
    clear h3 ho
    go_enter Tryz.func28, Tryz.ntmps28
    go_wp2_with fail
    refine (hn1.out _).mono ?_
    rintro e w1 ⟨rfl, rfl⟩
    go_wp2_with fail
    refine (hn.out _).mono ?_
    rintro e w1 ⟨rfl, rfl⟩
    go_wp2
    go_ret
    exact ⟨rfl, rfl⟩
  · rw [decide_eq_false h3] at hn1
    by_cases h4 : Ieee.double.order y y = none
    · rw [decide_eq_true h4] at hn2
      clear h3 h4 ho
      go_enter Tryz.func28, Tryz.ntmps28
      go_wp2_with fail
      refine (hn1.out _).mono ?_
      rintro e w1 ⟨rfl, rfl⟩
      go_wp2_with fail
      refine (hn2.out _).mono ?_
      rintro e w1 ⟨rfl, rfl⟩
      go_wp2_with fail
      refine (hn.out _).mono ?_
      rintro e w1 ⟨rfl, rfl⟩
      go_wp2
      go_ret
      exact ⟨rfl, rfl⟩
    · rw [decide_eq_false h4] at hn2
      by_cases h2 : isInfB x = true
      · rw [h2] at hi
        clear h3 h4 ho
        go_enter Tryz.func28, Tryz.ntmps28
        go_wp2_with fail
        refine (hn1.out _).mono ?_
        rintro e w1 ⟨rfl, rfl⟩
        go_wp2_with fail
        refine (hn2.out _).mono ?_
        rintro e w1 ⟨rfl, rfl⟩
        go_wp2_with fail
        refine (hi.out _).mono ?_
        rintro e w1 ⟨rfl, rfl⟩
        go_wp2_with fail
        refine (hn.out _).mono ?_
        rintro e w1 ⟨rfl, rfl⟩
        go_wp2
        go_ret
        exact ⟨rfl, rfl⟩
      · have h2' : isInfB x = false := by simpa using h2
        have h1 : Ieee.double.order y 0 = some .eq := by
          rcases ho with h | h | h | h
          · exact h
          · exact absurd h h2
          · exact absurd h h3
          · exact absurd h h4
        rw [h2'] at hi
        clear h3 h4 ho
        go_enter Tryz.func28, Tryz.ntmps28
        go_wp2_with fail
        refine (hn1.out _).mono ?_
        rintro e w1 ⟨rfl, rfl⟩
        go_wp2_with fail
        refine (hn2.out _).mono ?_
        rintro e w1 ⟨rfl, rfl⟩
        go_wp2_with fail
        refine (hi.out _).mono ?_
        rintro e w1 ⟨rfl, rfl⟩
        go_wp2_with fail
        refine (hn.out _).mono ?_
        rintro e w1 ⟨rfl, rfl⟩
        go_wp2
        go_ret
        exact ⟨rfl, rfl⟩

set_option maxHeartbeats 8000000 in
set_option maxRecDepth 100000 in
theorem rem_even (x y : Nat) (hE : Even x y) : ∃ R, R < 18446744073709551616 ∧ ∀ w, Calls Tryz.prog 28 #[.float .f64 x, .float .f64 y] w fun e w' => e = .returned (.float .f64 R) ∧ w' = w := by
  have hf : FloatKind.f64.format = Ieee.double := rfl
  obtain ⟨z1, h2, h3, h4⟩ := hE.facts
  have hi := Lib.hid fun w => isinf_any x hE.hx w
  have hiy := Lib.hid fun w => isinf_any y hE.hy w
  have hn1 := Lib.hid fun w => isnan_any x w
  have hn2 := Lib.hid fun w => isnan_any y w
  rw [h2] at hi
  rw [decide_eq_false h3] at hn1
  rw [decide_eq_false h4] at hn2
  by_cases h5 : isInfB y = true
  · rw [h5] at hiy
    refine ⟨x, hE.hx, fun w => ?_⟩
    clear hE h2 h3 h4 h5
    go_enter Tryz.func28, Tryz.ntmps28
    go_wp2_with fail
    refine (hn1.out _).mono ?_
    rintro e w1 ⟨rfl, rfl⟩
    go_wp2_with fail
    refine (hn2.out _).mono ?_
    rintro e w1 ⟨rfl, rfl⟩
    go_wp2_with fail
    refine (hi.out _).mono ?_
    rintro e w1 ⟨rfl, rfl⟩
    go_wp2_with fail
    refine (hiy.out _).mono ?_
    rintro e w1 ⟨rfl, rfl⟩
    go_wp2
    go_ret
    exact ⟨rfl, rfl⟩
  · have h5' : isInfB y = false := by simpa using h5
    have fy := finite_or hE.hy h5' h4
    rw [h5'] at hiy
    -- the signs
    obtain ⟨x', s, hx', fx', hsx⟩ : ∃ x' s, x' < 18446744073709551616 ∧ fexp x' < 2047 ∧ (((Ieee.double.order x 0 == some .lt) = false ∧ x' = x ∧ s = false) ∨ ((Ieee.double.order x 0 == some .lt) = true ∧ Op.negFloat .f64 x = x' ∧ s = true)) := by
      rcases Bool.eq_false_or_eq_true (Ieee.double.order x 0 == some .lt) with h | h
      · exact ⟨_, true, neg_lt x hE.hx, by rw [neg_exp x hE.hx]; exact hE.fx, .inr ⟨h, rfl, rfl⟩⟩
      · exact ⟨x, false, hE.hx, hE.fx, .inl ⟨h, rfl, rfl⟩⟩
    obtain ⟨y', hy', hy0, hsy⟩ : ∃ y', y' < infB ∧ 0 < y' ∧ (((Ieee.double.order y 0 == some .lt) = false ∧ y' = y) ∨ ((Ieee.double.order y 0 == some .lt) = true ∧ Op.negFloat .f64 y = y')) := by
      have h6 := neg_order hE.hy (by have := hE.y0; omega) fy
      have h7 : y % 9223372036854775808 < infB := by
        unfold infB
        unfold fexp at fy
        omega
      by_cases h8 : 9223372036854775808 ≤ y
      · rw [if_pos h8] at h6
        exact ⟨_, h7, hE.y0, .inr ⟨by rw [h6]; rfl, neg_low y hE.hy h8⟩⟩
      · rw [if_neg h8] at h6
        have h9 : y % 9223372036854775808 = y := Nat.mod_eq_of_lt (by omega)
        have h10 := hE.y0
        rw [h9] at h7 h10
        exact ⟨_, h7, h10, .inl ⟨by rw [h6]; rfl, rfl⟩⟩
    have fy' : fexp y' < 2047 := fin_pos hy'
    clear fy
    have hE2 : ∀ w, Calls Tryz.prog 23 #[.float .f64 x] w fun e w' => e = .returned (.bool false) ∧ w' = w := hn1.out
    clear h2 h3 h4 h5 h5' hE hE2
    rcases Bool.eq_false_or_eq_true (Ieee.double.order x' y' == some .eq) with hq | hq
    · -- equal
      obtain ⟨z, hz, hzs⟩ : ∃ z, z < 18446744073709551616 ∧ ((s = false ∧ z = 0) ∨ (s = true ∧ Op.negFloat .f64 0 = z)) := by
        cases s
        · exact ⟨0, by decide, .inl ⟨rfl, rfl⟩⟩
        · exact ⟨_, neg_lt 0 (by decide), .inr ⟨rfl, rfl⟩⟩
      refine ⟨z, hz, fun w => ?_⟩
      clear hz hx' fx' hy' hy0 fy'
      rcases hsx with ⟨ha, rfl, rfl⟩ | ⟨ha, hb, rfl⟩ <;> rcases hsy with ⟨hc, rfl⟩ | ⟨hc, hd⟩ <;> rcases hzs with ⟨he, rfl⟩ | ⟨he, hz⟩ <;> first
        | (exfalso; revert he; decide)
        | skip
      all_goals
        clear he
        try replace hb : ∀ w, (Op.unary .neg (.float .f64 x)).run Tryz.prog w = .ok (.float .f64 x') w := fun w => by rw [← hb]; rfl
        try replace hd : ∀ w, (Op.unary .neg (.float .f64 y)).run Tryz.prog w = .ok (.float .f64 y') w := fun w => by rw [← hd]; rfl
        try replace hz : ∀ w, (Op.unary .neg (.float .f64 0)).run Tryz.prog w = .ok (.float .f64 z) w := fun w => by rw [← hz]; rfl
        go_enter Tryz.func28, Tryz.ntmps28
        go_wp2_with fail
        refine (hn1.out _).mono ?_
        rintro e w1 ⟨rfl, rfl⟩
        go_wp2_with fail
        refine (hn2.out _).mono ?_
        rintro e w1 ⟨rfl, rfl⟩
        go_wp2_with fail
        refine (hi.out _).mono ?_
        rintro e w1 ⟨rfl, rfl⟩
        go_wp2_with fail
        refine (hiy.out _).mono ?_
        rintro e w1 ⟨rfl, rfl⟩
        go_wp2
        go_ret
        exact ⟨rfl, rfl⟩
    · -- what is left of x', ahead of the last steps
      obtain ⟨x1, hx1, fx1, hm1⟩ : ∃ x1, x1 < 18446744073709551616 ∧ fexp x1 < 2047 ∧ (((Ieee.double.order y' 9214364837600034815 == some .lt || Ieee.double.order y' 9214364837600034815 == some .eq) = false ∧ x1 = x') ∨ ((Ieee.double.order y' 9214364837600034815 == some .lt || Ieee.double.order y' 9214364837600034815 == some .eq) = true ∧ ∃ c, Ieee.double.add y' y' = some c ∧ Hid (∀ w, Calls Tryz.prog 9 #[.float .f64 x', .float .f64 c] w fun e w' => e = .returned (.float .f64 x1) ∧ w' = w))) := by
        rw [order_pos hy' (show (9214364837600034815 : Nat) < infB by decide)]
        by_cases hy2 : y' ≤ 9214364837600034815
        · obtain ⟨c, hc, c0, ci⟩ := twice hy0 hy2
          obtain ⟨x1, ⟨h6, h7⟩, h8⟩ := mod_even x' c ⟨hx', by unfold infB at ci; omega, fx', by unfold infB at ci; omega, by unfold infB at *; omega⟩
          refine ⟨x1, h6, h7, .inr ⟨?_, c, hc, Lib.hid fun w => xmod_of x' c x1 h8 w⟩⟩
          split
          · rfl
          · rw [if_pos (by omega)]; rfl
        · refine ⟨x', hx', fx', .inl ⟨?_, rfl⟩⟩
          rw [if_neg (by omega), if_neg (by omega)]
          rfl
      obtain ⟨R, hR, hT⟩ := tail_some (real_of hx1 fx1) fy'
      obtain ⟨z, hz, hzs⟩ : ∃ z, z < 18446744073709551616 ∧ ((s = false ∧ z = R) ∨ (s = true ∧ Op.negFloat .f64 R = z)) := by
        cases s
        · exact ⟨R, hR, .inl ⟨rfl, rfl⟩⟩
        · exact ⟨_, neg_lt R hR, .inr ⟨rfl, rfl⟩⟩
      refine ⟨z, hz, fun w => ?_⟩
      clear hz hx' fx' hy' hy0 fy' hx1 fx1 hR
      unfold Tail at hT
      rcases hsx with ⟨ha, rfl, rfl⟩ | ⟨ha, hb, rfl⟩ <;> rcases hsy with ⟨hc, rfl⟩ | ⟨hc, hd⟩ <;> rcases hzs with ⟨he, rfl⟩ | ⟨he, hz⟩ <;> first
        | (exfalso; revert he; decide)
        | skip
      all_goals
        clear he
        try replace hb : ∀ w, (Op.unary .neg (.float .f64 x)).run Tryz.prog w = .ok (.float .f64 x') w := fun w => by rw [← hb]; rfl
        try replace hd : ∀ w, (Op.unary .neg (.float .f64 y)).run Tryz.prog w = .ok (.float .f64 y') w := fun w => by rw [← hd]; rfl
        try replace hz : ∀ w, (Op.unary .neg (.float .f64 R)).run Tryz.prog w = .ok (.float .f64 z) w := fun w => by rw [← hz]; rfl
        rcases hm1 with ⟨hm, rfl⟩ | ⟨hm, c, hcc, hmm⟩ <;>
          rcases hT with ⟨t1, v, t2, ⟨t3, rfl⟩ | ⟨t3, x2, t4, v2, t5, ⟨t6, rfl⟩ | ⟨t6, t7⟩⟩⟩ | ⟨t1, v, t2, ⟨t3, rfl⟩ | ⟨t3, x2, t4, ⟨t6, rfl⟩ | ⟨t6, t7⟩⟩⟩
        all_goals
          try have hcc' : ∀ (t : TypeId) (w : World), (binOp BinOp.add t (.float .f64 _) (.float .f64 _)).run Tryz.prog w = .ok (.float .f64 c) w := fun t w => run_float_arith w .add t .f64 _ _ c hcc
          first
            | (have t2' : ∀ (t : TypeId) (w : World), (binOp BinOp.add t (.float .f64 _) (.float .f64 _)).run Tryz.prog w = .ok (.float .f64 v) w := fun t w => run_float_arith w .add t .f64 _ _ v t2)
            | (have t2' : ∀ (t : TypeId) (w : World), (binOp BinOp.mul t (.float .f64 4602678819172646912) (.float .f64 _)).run Tryz.prog w = .ok (.float .f64 v) w := fun t w => run_float_arith w .mul t .f64 4602678819172646912 _ v t2)
          try have t4' : ∀ (t : TypeId) (w : World), (binOp BinOp.sub t (.float .f64 _) (.float .f64 _)).run Tryz.prog w = .ok (.float .f64 x2) w := fun t w => run_float_arith w .sub t .f64 _ _ x2 t4
          try have t4' : ∀ (t : TypeId) (w : World), (binOp BinOp.sub t (.float .f64 _) (.float .f64 _)).run Tryz.prog w = .ok (.float .f64 _) w := fun t w => run_float_arith w .sub t .f64 _ _ _ t4
          try have t5' : ∀ (t : TypeId) (w : World), (binOp BinOp.add t (.float .f64 _) (.float .f64 _)).run Tryz.prog w = .ok (.float .f64 v2) w := fun t w => run_float_arith w .add t .f64 _ _ v2 t5
          try have t7' : ∀ (t : TypeId) (w : World), (binOp BinOp.sub t (.float .f64 _) (.float .f64 _)).run Tryz.prog w = .ok (.float .f64 _) w := fun t w => run_float_arith w .sub t .f64 _ _ _ t7
          try clear hcc
          try clear t4
          try clear t5
          try clear t7
          clear t2
          go_enter Tryz.func28, Tryz.ntmps28
          go_wp2_with fail
          refine (hn1.out _).mono ?_
          rintro e w1 ⟨rfl, rfl⟩
          go_wp2_with fail
          refine (hn2.out _).mono ?_
          rintro e w1 ⟨rfl, rfl⟩
          go_wp2_with fail
          refine (hi.out _).mono ?_
          rintro e w1 ⟨rfl, rfl⟩
          go_wp2_with fail
          refine (hiy.out _).mono ?_
          rintro e w1 ⟨rfl, rfl⟩
          first
            | (have hm0 := hmm.out
               go_wp2_with fail
               refine (hmm.out _).mono ?_
               rintro e w1 ⟨rfl, rfl⟩
               go_wp2
               go_ret
               exact ⟨rfl, rfl⟩)
            | (go_wp2
               go_ret
               exact ⟨rfl, rfl⟩)

theorem rem_some (x y : Nat) (hx : x < 18446744073709551616) (hy : y < 18446744073709551616) : ∃ R, R < 18446744073709551616 ∧ ∀ w, Calls Tryz.prog 28 #[.float .f64 x, .float .f64 y] w fun e w' => e = .returned (.float .f64 R) ∧ w' = w := by
  by_cases ho : Odd x y
  · exact ⟨_, by decide, fun w => rem_odd x y hx ho w⟩
  · unfold Odd at ho
    obtain ⟨h1, h2⟩ := not_or.1 ho
    obtain ⟨h2, h3⟩ := not_or.1 h2
    obtain ⟨h3, h4⟩ := not_or.1 h3
    have hE : Even x y := by
      refine ⟨hx, hy, finite_or hx (by simpa using h2) h3, ?_, real_le hy h4⟩
      rcases Nat.eq_zero_or_pos (y % 9223372036854775808) with h5 | h5
      · exact absurd (zero_order hy h5) h1
      · exact h5
    exact rem_even x y hE
set_option maxRecDepth 100000 in
theorem xrem_some (x y : Nat) (hx : x < 18446744073709551616) (hy : y < 18446744073709551616) : ∃ R, R < 18446744073709551616 ∧ ∀ w, Calls Tryz.prog 10 #[.float .f64 x, .float .f64 y] w fun e w' => e = .returned (.float .f64 R) ∧ w' = w := by
  obtain ⟨R, h1, h2⟩ := rem_some x y hx hy
  refine ⟨R, h1, fun w => ?_⟩
  have hm := Lib.hid h2
  clear h2
  go_enter Tryz.func10, Tryz.ntmps10
  go_wp2_with fail
  refine (hm.out _).mono ?_
  rintro e w1 ⟨rfl, rfl⟩
  go_wp2
  go_ret
  exact ⟨rfl, rfl⟩
theorem and_some (a b : Nat) (ha : a < 18446744073709551616) (hb : b < 18446744073709551616) : ∃ R : Nat, R < 18446744073709551616 ∧ bits BinOp.and .u64 (a : Int) (b : Int) = (R : Int) := by
  rw [Go.u64_and_nat _ _ (by omega) (by omega)]
  exact ⟨_, Nat.lt_of_le_of_lt Nat.and_le_left ha, rfl⟩
theorem or_some (a b : Nat) (ha : a < 18446744073709551616) (hb : b < 18446744073709551616) : ∃ R : Nat, R < 18446744073709551616 ∧ bits BinOp.or .u64 (a : Int) (b : Int) = (R : Int) := by
  rw [Go.u64_or_nat _ _ (by omega) (by omega)]
  exact ⟨_, Nat.or_lt_two_pow (n := 64) ha hb, rfl⟩
set_option maxRecDepth 100000 in
theorem copysign_some (x y : Nat) (hx : x < 18446744073709551616) (hy : y < 18446744073709551616) : ∃ R, R < 18446744073709551616 ∧ ∀ w, Calls Tryz.prog 8 #[.float .f64 x, .float .f64 y] w fun e w' => e = .returned (.float .f64 R) ∧ w' = w := by
  have h1 := low63 x hx
  obtain ⟨a, ha, h2⟩ := and_some y 9223372036854775808 hy (by decide)
  obtain ⟨R, hR, h3⟩ := or_some (x % 9223372036854775808) a (by omega) ha
  refine ⟨R, hR, fun w => ?_⟩
  have h4 := frombits
  have h5 := tobits
  rw [show (((9223372036854775808 : Nat) : Nat) : Int) = 9223372036854775808 from rfl] at h2
  obtain ⟨m, hm⟩ : ∃ m, x % 9223372036854775808 = m := ⟨_, rfl⟩
  rw [hm] at h1 h3
  clear hm
  go_enter Tryz.func8, Tryz.ntmps8
  go_wp2
  go_ret
  exact ⟨by simp, rfl⟩
end Go.Proofs.YtafbheamnjmfoaaGreat.Fl
