/-
  Package math's Mod: it answers, the same each time.
-/
import Derived.Test.YtafbheamnjmfoaaGreatMathFn
namespace Go.Proofs.YtafbheamnjmfoaaGreat.Fl
open Go.RowKit Go.WideShapes
set_option linter.unusedVariables false

theorem neg_low (b : Nat) (h : b < 18446744073709551616) (h1 : 9223372036854775808 ≤ b) : Op.negFloat .f64 b = b % 9223372036854775808 := by
  show b ^^^ 2 ^ 63 = b % 2 ^ 63
  apply Nat.eq_of_testBit_eq
  intro i
  rw [Nat.testBit_xor, Nat.testBit_mod_two_pow]
  rcases Nat.lt_trichotomy i 63 with h2 | h2 | h2
  · rw [Nat.testBit_two_pow_of_ne (by omega), decide_eq_true h2]
    simp
  · subst h2
    rw [Nat.testBit_two_pow_self, Nat.testBit_eq_decide_div_mod_eq]
    have : b / 2 ^ 63 % 2 = 1 := by omega
    simp [this]
  · rw [Nat.testBit_two_pow_of_ne (by omega), decide_eq_false (by omega : ¬ i < 63), Nat.testBit_lt_two_pow (Nat.lt_of_lt_of_le h (by rw [show (18446744073709551616 : Nat) = 2 ^ 64 by rfl]; exact Nat.pow_le_pow_right (by decide) h2))]
    rfl
theorem neg_lt (b : Nat) (h : b < 18446744073709551616) : Op.negFloat .f64 b < 18446744073709551616 := by
  show b ^^^ 2 ^ 63 < 2 ^ 64
  exact Nat.xor_lt_two_pow h (by decide)
theorem neg_high (b : Nat) (h : b < 9223372036854775808) : Op.negFloat .f64 b = b + 9223372036854775808 := by
  have h1 := neg_low (b + 9223372036854775808) (by omega) (by omega)
  have h2 : Op.negFloat .f64 (Op.negFloat .f64 (b + 9223372036854775808)) = b + 9223372036854775808 := by
    show (b + 9223372036854775808) ^^^ 2 ^ 63 ^^^ 2 ^ 63 = _
    rw [Nat.xor_assoc, Nat.xor_self, Nat.xor_zero]
  rw [h1, Nat.add_mod_right, Nat.mod_eq_of_lt h] at h2
  exact h2
theorem neg_exp (b : Nat) (h : b < 18446744073709551616) : fexp (Op.negFloat .f64 b) = fexp b := by
  rcases Nat.lt_or_ge b 9223372036854775808 with h1 | h1
  · rw [neg_high b h1]; unfold fexp; omega
  · rw [neg_low b h h1]; unfold fexp; omega
/-- the magnitude of what is a number, an infinity among them -/
theorem real_le {b : Nat} (h : b < 18446744073709551616) (hn : Ieee.double.order b b ≠ none) : b % 9223372036854775808 ≤ infB := by
  unfold infB
  rcases Nat.lt_or_ge 9218868437227405312 (b % 9223372036854775808) with h1 | h1
  · exfalso
    apply hn
    unfold Ieee.Format.order Ieee.Format.read
    rw [d_sign, d_binade, d_inf, d_least]
    have e1 : ¬ b % 9223372036854775808 < 4503599627370496 := by omega
    have e2 : ¬ b % 9223372036854775808 < 9218868437227405312 := by omega
    have e3 : ¬ b % 9223372036854775808 = 9218868437227405312 := by omega
    simp only [e1, e2, e3, if_false]
    rfl
  · exact h1
theorem zero_order {y : Nat} (h : y < 18446744073709551616) (h0 : y % 9223372036854775808 = 0) : Ieee.double.order y 0 = some .eq := by
  have : y = 0 ∨ y = 9223372036854775808 := by omega
  rcases this with rfl | rfl <;> decide +kernel
theorem inf_read : Ieee.double.read infB = .infinity false := by decide +kernel
/-- a finite float that is not below 0 lies below infinity -/
theorem order_inf {r : Nat} (h : r < infB) : Ieee.double.order r infB = some .lt := by
  unfold Ieee.Format.order
  rw [read_pos h, inf_read]
  rfl
theorem order_up {r y : Nat} (hr : r < infB) (hy : y ≤ infB) (h : r < y) : Ieee.double.order r y = some .lt := by
  rcases Nat.lt_or_ge y infB with h1 | h1
  · rw [order_pos hr h1, if_pos h]
  · have : y = infB := by omega
    rw [this]
    exact order_inf hr
theorem zero_below {x y : Nat} (hx : x < 18446744073709551616) (h0 : x % 9223372036854775808 = 0) (hy0 : 0 < y) (hy : y ≤ infB) : Ieee.double.order x y = some .lt := by
  have hz : x = 0 ∨ x = 9223372036854775808 := by omega
  rcases hz with rfl | rfl
  · exact order_up (by decide) hy hy0
  · have hr : Ieee.double.read 9223372036854775808 = .number true 0 (-1074) := by decide +kernel
    unfold Ieee.Format.order
    rw [hr]
    rcases Nat.lt_or_ge y infB with h1 | h1
    · rw [read_pos h1]
      simp only [Ieee.Datum.order, signed_eq, Option.some.injEq]
      have hm : 0 < fman y := by
        rcases Nat.eq_zero_or_pos (fman y) with h2 | h2
        · have h3 := nval_pos h1 hy0
          unfold nval at h3
          rw [h2, Nat.zero_mul] at h3
          omega
        · exact h2
      have hp := Nat.mul_pos hm (Nat.two_pow_pos ((((fexp y - 1 : Nat) : Int) - 1074) - min (-1074) ((((fexp y - 1 : Nat) : Int) - 1074))).toNat)
      rw [cmp_int]
      unfold sgnd
      rw [Nat.zero_mul]
      simp only [if_true, Bool.false_eq_true, if_false]
      rw [if_pos (by omega)]
    · have : y = infB := by omega
      rw [this, inf_read]
      rfl
/-- below 0: its sign bit is set -/
theorem neg_order {x : Nat} (hx : x < 18446744073709551616) (h0 : x % 9223372036854775808 ≠ 0) (hf : fexp x < 2047) : Ieee.double.order x 0 = some (if 9223372036854775808 ≤ x then .lt else .gt) := by
  unfold Ieee.Format.order
  have hz : Ieee.double.read 0 = .number false 0 (-1074) := by decide +kernel
  rw [read_num x hf, hz]
  simp only [Ieee.Datum.order, signed_eq, Option.some.injEq]
  have hm : 0 < fman x := by
    unfold fman
    split
    · rename_i h1
      unfold fexp at h1
      unfold ffr
      omega
    · omega
  have hp := Nat.mul_pos hm (Nat.two_pow_pos (fpow x - min (fpow x) (-1074)).toNat)
  have hneg : fneg x = decide (9223372036854775808 ≤ x) := by
    unfold fneg
    by_cases h : 9223372036854775808 ≤ x
    · rw [show x / 9223372036854775808 % 2 = 1 by omega, decide_eq_true h]; rfl
    · rw [show x / 9223372036854775808 % 2 = 0 by omega, decide_eq_false h]; rfl
  rw [cmp_int, hneg]
  unfold sgnd
  rw [Nat.zero_mul]
  by_cases h : 9223372036854775808 ≤ x
  · simp only [h, decide_true, if_true, Bool.false_eq_true, if_false]
    rw [if_pos (by omega)]
  · simp only [h, decide_false, Bool.false_eq_true, if_false]
    rw [if_neg (by omega), if_neg (by omega)]
set_option maxRecDepth 100000 in
theorem nan_any (w : World) : Calls Tryz.prog 47 #[] w fun e w' => e = .returned (.float .f64 9221120237041090561) ∧ w' = w := by
  have hfb := frombits
  go_enter Tryz.func47, Tryz.ntmps47
  go_wp2
  go_ret
  exact ⟨rfl, rfl⟩
set_option maxRecDepth 100000 in
theorem frexp_inf (w : World) : Calls Tryz.prog 49 #[.float .f64 infB] w fun e w' => e = .returned (.tuple #[.float .f64 infB, .int .i64 0]) ∧ w' = w := by
  have hi := Lib.hid fun w => isinf_any infB (by decide) w
  rw [show isInfB infB = true by decide +kernel] at hi
  have hf : FloatKind.f64.format = Ieee.double := rfl
  have hz : (Ieee.double.order infB 0 == some .eq) = false := by decide +kernel
  have hfr : Hid (∀ w : World, Calls Tryz.prog 92 #[.float .f64 infB] w fun e w' => e = .returned (.tuple #[.float .f64 infB, .int .i64 0]) ∧ w' = w) := Lib.hid fun w => by
    generalize infB = I at hi hz ⊢
    go_enter Tryz.func92, Tryz.ntmps92
    go_wp2_with fail
    refine (hi.out _).mono ?_
    rintro e w1 ⟨rfl, rfl⟩
    go_wp2
    go_ret2
    exact ⟨rfl, rfl⟩
  generalize infB = I at hfr ⊢
  clear hi hz
  go_enter Tryz.func49, Tryz.ntmps49
  go_wp2_with fail
  refine (hfr.out _).mono ?_
  rintro e w1 ⟨rfl, rfl⟩
  go_wp2
  go_ret2
  exact ⟨rfl, rfl⟩

/-- of two floats one of which is no number, or whose second one is 0, or whose first one is an infinity -/
def Odd (x y : Nat) : Prop := Ieee.double.order y 0 = some .eq ∨ isInfB x = true ∨ Ieee.double.order x x = none ∨ Ieee.double.order y y = none
set_option maxHeartbeats 1000000 in
set_option maxRecDepth 100000 in
theorem mod_odd (x y : Nat) (hx : x < 18446744073709551616) (ho : Odd x y) (w : World) : Calls Tryz.prog 26 #[.float .f64 x, .float .f64 y] w fun e w' => e = .returned (.float .f64 9221120237041090561) ∧ w' = w := by
  have hf : FloatKind.f64.format = Ieee.double := rfl
  have hi := Lib.hid fun w => isinf_any x hx w
  have hn1 := Lib.hid fun w => isnan_any x w
  have hn2 := Lib.hid fun w => isnan_any y w
  have hn := Lib.hid fun w => nan_any w
  by_cases h1 : Ieee.double.order y 0 = some .eq
  · go_enter Tryz.func26, Tryz.ntmps26
    go_wp2_with fail
    refine (hn.out _).mono ?_
    rintro e w1 ⟨rfl, rfl⟩
    go_wp2
    go_ret
    exact ⟨rfl, rfl⟩
  · have z1 : (Ieee.double.order y 0 == some .eq) = false := by simp [h1]
    by_cases h2 : isInfB x = true
    · rw [h2] at hi
      clear h1
      go_enter Tryz.func26, Tryz.ntmps26
      go_wp2_with fail
      refine (hi.out _).mono ?_
      rintro e w1 ⟨rfl, rfl⟩
      go_wp2_with fail
      refine (hn.out _).mono ?_
      rintro e w1 ⟨rfl, rfl⟩
      go_wp2
      go_ret
      exact ⟨rfl, rfl⟩
    · have h2' : isInfB x = false := by simpa using h2
      rw [h2'] at hi
      by_cases h3 : Ieee.double.order x x = none
      · rw [decide_eq_true h3] at hn1
        clear h1
        go_enter Tryz.func26, Tryz.ntmps26
        go_wp2_with fail
        refine (hi.out _).mono ?_
        rintro e w1 ⟨rfl, rfl⟩
        go_wp2_with fail
        refine (hn1.out _).mono ?_
        rintro e w1 ⟨rfl, rfl⟩
        go_wp2_with fail
        refine (hn.out _).mono ?_
        rintro e w1 ⟨rfl, rfl⟩
        go_wp2
        go_ret
        exact ⟨rfl, rfl⟩
      · have h4 : Ieee.double.order y y = none := by
          rcases ho with h | h | h | h
          · exact absurd h h1
          · exact absurd h h2
          · exact absurd h h3
          · exact h
        rw [decide_eq_false h3] at hn1
        rw [decide_eq_true h4] at hn2
        clear h1 h3 h4
        go_enter Tryz.func26, Tryz.ntmps26
        go_wp2_with fail
        refine (hi.out _).mono ?_
        rintro e w1 ⟨rfl, rfl⟩
        go_wp2_with fail
        refine (hn1.out _).mono ?_
        rintro e w1 ⟨rfl, rfl⟩
        go_wp2_with fail
        refine (hn2.out _).mono ?_
        rintro e w1 ⟨rfl, rfl⟩
        go_wp2_with fail
        refine (hn.out _).mono ?_
        rintro e w1 ⟨rfl, rfl⟩
        go_wp2
        go_ret
        exact ⟨rfl, rfl⟩

def fbits : Value → Nat
  | .float _ b => b
  | _ => 0
/-- of a finite float and a number: where the first one is 0, it -/
structure Even (x y : Nat) : Prop where
  hx : x < 18446744073709551616
  hy : y < 18446744073709551616
  fx : fexp x < 2047
  y0 : 0 < y % 9223372036854775808
  yi : y % 9223372036854775808 ≤ infB
theorem Even.facts {x y : Nat} (h : Even x y) : (Ieee.double.order y 0 == some .eq) = false ∧ isInfB x = false ∧ Ieee.double.order x x ≠ none ∧ Ieee.double.order y y ≠ none := by
  have hyc : fexp y < 2047 ∨ y = 9218868437227405312 ∨ y = 18442240474082181120 := by
    have h1 := h.yi
    have h2 := h.hy
    unfold infB at h1
    unfold fexp
    omega
  refine ⟨?_, finite_isinf h.fx, (by rw [finite_self h.fx]; exact (fun h => by cases h)), ?_⟩
  · rcases hyc with h1 | rfl | rfl
    · rw [neg_order h.hy (by have := h.y0; omega) h1]
      split <;> rfl
    · decide +kernel
    · decide +kernel
  · rcases hyc with h1 | rfl | rfl
    · rw [finite_self h1]; exact fun h => by cases h
    · decide +kernel
    · decide +kernel

set_option maxHeartbeats 4000000 in
set_option maxRecDepth 100000 in
theorem mod_even (x y : Nat) (hE : Even x y) : ∃ R, (R < 18446744073709551616 ∧ fexp R < 2047) ∧ ∀ w, Calls Tryz.prog 26 #[.float .f64 x, .float .f64 y] w fun e w' => e = .returned (.float .f64 R) ∧ w' = w := by
  have hf : FloatKind.f64.format = Ieee.double := rfl
  obtain ⟨z1, h2, h3, h4⟩ := hE.facts
  have hi := Lib.hid fun w => isinf_any x hE.hx w
  have hn1 := Lib.hid fun w => isnan_any x w
  have hn2 := Lib.hid fun w => isnan_any y w
  have ha := Lib.hid fun w => abs_any y hE.hy w
  rw [h2] at hi
  rw [decide_eq_false h3] at hn1
  rw [decide_eq_false h4] at hn2
  have hy0 := hE.y0
  have hyi := hE.yi
  obtain ⟨yb, hyb⟩ : ∃ yb, y % 9223372036854775808 = yb := ⟨_, rfl⟩
  rw [hyb] at ha hy0 hyi
  obtain ⟨yf, ye, hfy, hyp⟩ : ∃ yf : Nat, ∃ ye : Int, (∀ w, Calls Tryz.prog 49 #[.float .f64 yb] w fun e w' => e = .returned (.tuple #[.float .f64 yf, .int .i64 ye]) ∧ w' = w) ∧ (yb < infB → ∃ m L, NF yb m L ∧ yf = 4602678819172646912 + (m - 4503599627370496) ∧ ye = (L : Int) - 1073) := by
    rcases Nat.lt_or_ge yb infB with h | h
    · obtain ⟨m, L, hn⟩ := nf_some hy0 h
      exact ⟨_, _, fun w => xfrexp_pos yb m L hy0 h hn w, fun _ => ⟨m, L, hn, rfl, rfl⟩⟩
    · have : yb = infB := by omega
      subst this
      exact ⟨_, _, fun w => frexp_inf w, fun h => by omega⟩
  have hfy := Lib.hid hfy
  have hx := hE.hx
  have hfx := hE.fx
  clear h2 h3 h4 hE hyb
  by_cases h0 : x % 9223372036854775808 = 0
  · refine ⟨x, ⟨hx, hfx⟩, fun w => ?_⟩
    have ho := zero_below hx h0 hy0 hyi
    have hz := zero_order hx h0
    clear h0 hfx hx hyp hy0 hyi
    go_enter Tryz.func26, Tryz.ntmps26
    go_wp2_with fail
    refine (hi.out _).mono ?_
    rintro e w1 ⟨rfl, rfl⟩
    go_wp2_with fail
    refine (hn1.out _).mono ?_
    rintro e w1 ⟨rfl, rfl⟩
    go_wp2_with fail
    refine (hn2.out _).mono ?_
    rintro e w1 ⟨rfl, rfl⟩
    go_wp2_with fail
    refine (ha.out _).mono ?_
    rintro e w1 ⟨rfl, rfl⟩
    go_wp2_with fail
    refine (hfy.out _).mono ?_
    rintro e w1 ⟨rfl, rfl⟩
    go_wp2
    go_loop [7] (fun r => r = .float .f64 x) (fun r => 0)
    case atStart => rfl
    case round =>
      subst hrel
      go_wp2
      go_ret
      exact ⟨rfl, rfl⟩
  · have hax : x % 9223372036854775808 < infB := by
      unfold infB
      unfold fexp at hfx
      omega
    obtain ⟨R, hR⟩ := modTo_some hy0 _ hax
    have hxo := neg_order hx h0 hfx
    have hRl := modTo_lt hR
    have hRs : R < 18446744073709551616 := by unfold infB at hyi; omega
    have hRf : fexp R < 2047 := fin_pos (by omega)
    by_cases hs : 9223372036854775808 ≤ x
    · rw [if_pos hs] at hxo
      have hng : ∀ w, (Op.unary .neg (.float .f64 x)).run Tryz.prog w = .ok (.float .f64 (x % 9223372036854775808)) w := fun w => by
        rw [← neg_low x hx hs]; rfl
      obtain ⟨ax, hax'⟩ : ∃ ax, x % 9223372036854775808 = ax := ⟨_, rfl⟩
      rw [hax'] at hng hax hR
      obtain ⟨R2, hR2⟩ : ∃ R2, Op.negFloat .f64 R = R2 := ⟨_, rfl⟩
      refine ⟨R2, ⟨by rw [← hR2]; exact neg_lt R hRs, by rw [← hR2, neg_exp R hRs]; exact hRf⟩, fun w => ?_⟩
      have hng2 : ∀ w, (Op.unary .neg (.float .f64 R)).run Tryz.prog w = .ok (.float .f64 R2) w := fun w => by rw [← hR2]; rfl
      clear hRf hR2 hax' h0 hs hfx hx
      go_enter Tryz.func26, Tryz.ntmps26
      go_wp2_with fail
      refine (hi.out _).mono ?_
      rintro e w1 ⟨rfl, rfl⟩
      go_wp2_with fail
      refine (hn1.out _).mono ?_
      rintro e w1 ⟨rfl, rfl⟩
      go_wp2_with fail
      refine (hn2.out _).mono ?_
      rintro e w1 ⟨rfl, rfl⟩
      go_wp2_with fail
      refine (ha.out _).mono ?_
      rintro e w1 ⟨rfl, rfl⟩
      go_wp2_with fail
      refine (hfy.out _).mono ?_
      rintro e w1 ⟨rfl, rfl⟩
      go_wp2
      go_loop [7] (fun r => ∃ b, r = .float .f64 b ∧ b < infB ∧ ModTo yb b R) (fun r => fbits r)
      case atStart => exact ⟨_, rfl, hax, hR⟩
      case round =>
        obtain ⟨r, rfl, hr, hM⟩ := hrel
        cases hM with
        | done hlt =>
          have ho := order_up hr hyi hlt
          go_wp2
          go_ret
          exact ⟨rfl, rfl⟩
        | step hle hex hlt' hrest =>
          rename_i r'
          obtain ⟨c, hc1, hc2, hc3, ⟨k, my, Ly, mr, Lr, nfy, nfr, hk, hcv⟩, hsum⟩ := hex
          have hyl : yb < infB := by omega
          obtain ⟨my', Ly', nfy', eyf, eye⟩ := hyp hyl
          obtain ⟨em, eL⟩ := nf_unique nfy nfy'
          rw [← em] at eyf
          rw [← eL] at eye
          clear nfy' em eL
          have hr0 : 0 < r := by omega
          have hfr := Lib.hid fun w => xfrexp_pos r mr Lr hr0 hr nfr w
          have hld := Lib.hid fun w => xldexp_pos yb my Ly k c hy0 hyl nfy hc1 hc2 hcv w
          have hrl : r' < infB := by omega
          have hsub := sub_pos hr hc1 hrl hc3 hsum
          have hsb : ∀ (t : TypeId) (w : World), (binOp BinOp.sub t (.float .f64 r) (.float .f64 c)).run Tryz.prog w = .ok (.float .f64 r') w := fun t w => run_float_arith w .sub t .f64 r c r' hsub
          obtain ⟨ny1, ny2, ny3⟩ := id nfy
          obtain ⟨nr1, nr2, nr3⟩ := id nfr
          have hor := order_pos hr hyl
          have hof := order_pos (x := 4602678819172646912 + (mr - 4503599627370496)) (y := 4602678819172646912 + (my - 4503599627370496)) (by unfold infB; omega) (by unfold infB; omega)
          rw [if_neg (by omega)] at hor
          obtain ⟨P, hP⟩ : ∃ P, 4602678819172646912 + (mr - 4503599627370496) = P := ⟨_, rfl⟩
          rw [hP, ← eyf] at hof
          rw [hP] at hfr
          have hge : (Ieee.double.order r yb == some .gt || Ieee.double.order r yb == some .eq) = true := by
            rw [hor]
            split <;> rfl
          have hge' : ∃ o, Ieee.double.order r yb = some o ∧ (o = .eq ∨ o = .gt) := by
            rw [hor]
            split
            · exact ⟨_, rfl, .inl rfl⟩
            · exact ⟨_, rfl, .inr rfl⟩
          have hLr : Lr ≤ 2100 := by
            have h1 := nval_high r
            obtain ⟨q1, q2, q3, q4⟩ := pos_parts hr
            rcases Nat.lt_or_ge 2100 Lr with h2 | h2
            · exfalso
              have h3 : 4503599627370496 * 2 ^ Lr ≤ mr * 2 ^ Lr := Nat.mul_le_mul_right _ nr2
              rw [← nr1, Nat.mul_comm 4503599627370496] at h3
              have h4 := Nat.le_of_mul_le_mul_right h3 (by omega)
              have h5 : 2 ^ (52 + fexp r) < 2 ^ Lr := Nat.pow_lt_pow_right (by decide) (by omega)
              omega
            · exact h2
          clear nfy nfr ny1 nr1 hcv hsum hsub hor
          obtain ⟨o, ho, hoo⟩ := hge'
          by_cases hmm : mr < my
          · rw [if_pos (by omega)] at hof
            rw [if_pos hmm] at hk
            have hkb : k ≤ 2100 := by omega
            have hk' : (Lr : Int) - 1073 - 1 - ye = (k : Int) := by omega
            clear hge hP eyf eye hyp ny2 ny3 nr2 nr3 hk hmm
            rcases hoo with rfl | rfl
            all_goals
              go_wp2_with fail
              refine (hfr.out _).mono ?_
              rintro e w1 ⟨rfl, rfl⟩
              go_wp2_with fail
              refine (hld.out _).mono ?_
              rintro e w1 ⟨rfl, rfl⟩
              go_wp2
              go_round
              case rel => exact ⟨r', rfl, hrl, hrest⟩
              case measure => exact hlt'
          · have hofn : ∃ o2, Ieee.double.order P yf = some o2 ∧ (o2 = .eq ∨ o2 = .gt) := by
              rw [hof, if_neg (by omega)]
              split
              · exact ⟨_, rfl, .inl rfl⟩
              · exact ⟨_, rfl, .inr rfl⟩
            clear hof
            obtain ⟨o2, ho2, hoo2⟩ := hofn
            rw [if_neg hmm] at hk
            have hkb : k ≤ 2100 := by omega
            have hk' : (Lr : Int) - 1073 - ye = (k : Int) := by omega
            clear hge hP eyf eye hyp ny2 ny3 nr2 nr3 hk hmm
            rcases hoo with rfl | rfl <;> rcases hoo2 with rfl | rfl
            all_goals
              go_wp2_with fail
              refine (hfr.out _).mono ?_
              rintro e w1 ⟨rfl, rfl⟩
              go_wp2_with fail
              refine (hld.out _).mono ?_
              rintro e w1 ⟨rfl, rfl⟩
              go_wp2
              go_round
              case rel => exact ⟨r', rfl, hrl, hrest⟩
              case measure => exact hlt'
    · rw [if_neg hs] at hxo
      have hax' : x % 9223372036854775808 = x := by omega
      rw [hax'] at hax hR
      refine ⟨R, ⟨hRs, hRf⟩, fun w => ?_⟩
      clear hRf hax' h0 hs hfx hx
      go_enter Tryz.func26, Tryz.ntmps26
      go_wp2_with fail
      refine (hi.out _).mono ?_
      rintro e w1 ⟨rfl, rfl⟩
      go_wp2_with fail
      refine (hn1.out _).mono ?_
      rintro e w1 ⟨rfl, rfl⟩
      go_wp2_with fail
      refine (hn2.out _).mono ?_
      rintro e w1 ⟨rfl, rfl⟩
      go_wp2_with fail
      refine (ha.out _).mono ?_
      rintro e w1 ⟨rfl, rfl⟩
      go_wp2_with fail
      refine (hfy.out _).mono ?_
      rintro e w1 ⟨rfl, rfl⟩
      go_wp2
      go_loop [7] (fun r => ∃ b, r = .float .f64 b ∧ b < infB ∧ ModTo yb b R) (fun r => fbits r)
      case atStart => exact ⟨_, rfl, hax, hR⟩
      case round =>
        obtain ⟨r, rfl, hr, hM⟩ := hrel
        cases hM with
        | done hlt =>
          have ho := order_up hr hyi hlt
          go_wp2
          go_ret
          exact ⟨rfl, rfl⟩
        | step hle hex hlt' hrest =>
          rename_i r'
          obtain ⟨c, hc1, hc2, hc3, ⟨k, my, Ly, mr, Lr, nfy, nfr, hk, hcv⟩, hsum⟩ := hex
          have hyl : yb < infB := by omega
          obtain ⟨my', Ly', nfy', eyf, eye⟩ := hyp hyl
          obtain ⟨em, eL⟩ := nf_unique nfy nfy'
          rw [← em] at eyf
          rw [← eL] at eye
          clear nfy' em eL
          have hr0 : 0 < r := by omega
          have hfr := Lib.hid fun w => xfrexp_pos r mr Lr hr0 hr nfr w
          have hld := Lib.hid fun w => xldexp_pos yb my Ly k c hy0 hyl nfy hc1 hc2 hcv w
          have hrl : r' < infB := by omega
          have hsub := sub_pos hr hc1 hrl hc3 hsum
          have hsb : ∀ (t : TypeId) (w : World), (binOp BinOp.sub t (.float .f64 r) (.float .f64 c)).run Tryz.prog w = .ok (.float .f64 r') w := fun t w => run_float_arith w .sub t .f64 r c r' hsub
          obtain ⟨ny1, ny2, ny3⟩ := id nfy
          obtain ⟨nr1, nr2, nr3⟩ := id nfr
          have hor := order_pos hr hyl
          have hof := order_pos (x := 4602678819172646912 + (mr - 4503599627370496)) (y := 4602678819172646912 + (my - 4503599627370496)) (by unfold infB; omega) (by unfold infB; omega)
          rw [if_neg (by omega)] at hor
          obtain ⟨P, hP⟩ : ∃ P, 4602678819172646912 + (mr - 4503599627370496) = P := ⟨_, rfl⟩
          rw [hP, ← eyf] at hof
          rw [hP] at hfr
          have hge : (Ieee.double.order r yb == some .gt || Ieee.double.order r yb == some .eq) = true := by
            rw [hor]
            split <;> rfl
          have hge' : ∃ o, Ieee.double.order r yb = some o ∧ (o = .eq ∨ o = .gt) := by
            rw [hor]
            split
            · exact ⟨_, rfl, .inl rfl⟩
            · exact ⟨_, rfl, .inr rfl⟩
          have hLr : Lr ≤ 2100 := by
            have h1 := nval_high r
            obtain ⟨q1, q2, q3, q4⟩ := pos_parts hr
            rcases Nat.lt_or_ge 2100 Lr with h2 | h2
            · exfalso
              have h3 : 4503599627370496 * 2 ^ Lr ≤ mr * 2 ^ Lr := Nat.mul_le_mul_right _ nr2
              rw [← nr1, Nat.mul_comm 4503599627370496] at h3
              have h4 := Nat.le_of_mul_le_mul_right h3 (by omega)
              have h5 : 2 ^ (52 + fexp r) < 2 ^ Lr := Nat.pow_lt_pow_right (by decide) (by omega)
              omega
            · exact h2
          clear nfy nfr ny1 nr1 hcv hsum hsub hor
          obtain ⟨o, ho, hoo⟩ := hge'
          by_cases hmm : mr < my
          · rw [if_pos (by omega)] at hof
            rw [if_pos hmm] at hk
            have hkb : k ≤ 2100 := by omega
            have hk' : (Lr : Int) - 1073 - 1 - ye = (k : Int) := by omega
            clear hge hP eyf eye hyp ny2 ny3 nr2 nr3 hk hmm
            rcases hoo with rfl | rfl
            all_goals
              go_wp2_with fail
              refine (hfr.out _).mono ?_
              rintro e w1 ⟨rfl, rfl⟩
              go_wp2_with fail
              refine (hld.out _).mono ?_
              rintro e w1 ⟨rfl, rfl⟩
              go_wp2
              go_round
              case rel => exact ⟨r', rfl, hrl, hrest⟩
              case measure => exact hlt'
          · have hofn : ∃ o2, Ieee.double.order P yf = some o2 ∧ (o2 = .eq ∨ o2 = .gt) := by
              rw [hof, if_neg (by omega)]
              split
              · exact ⟨_, rfl, .inl rfl⟩
              · exact ⟨_, rfl, .inr rfl⟩
            clear hof
            obtain ⟨o2, ho2, hoo2⟩ := hofn
            rw [if_neg hmm] at hk
            have hkb : k ≤ 2100 := by omega
            have hk' : (Lr : Int) - 1073 - ye = (k : Int) := by omega
            clear hge hP eyf eye hyp ny2 ny3 nr2 nr3 hk hmm
            rcases hoo with rfl | rfl <;> rcases hoo2 with rfl | rfl
            all_goals
              go_wp2_with fail
              refine (hfr.out _).mono ?_
              rintro e w1 ⟨rfl, rfl⟩
              go_wp2_with fail
              refine (hld.out _).mono ?_
              rintro e w1 ⟨rfl, rfl⟩
              go_wp2
              go_round
              case rel => exact ⟨r', rfl, hrl, hrest⟩
              case measure => exact hlt'
set_option maxRecDepth 100000 in
/-- math.Mod -/
theorem xmod_of (x y R : Nat) (h : ∀ w, Calls Tryz.prog 26 #[.float .f64 x, .float .f64 y] w fun e w' => e = .returned (.float .f64 R) ∧ w' = w) (w : World) : Calls Tryz.prog 9 #[.float .f64 x, .float .f64 y] w fun e w' => e = .returned (.float .f64 R) ∧ w' = w := by
  have hm := Lib.hid h
  clear h
  go_enter Tryz.func9, Tryz.ntmps9
  go_wp2_with fail
  refine (hm.out _).mono ?_
  rintro e w1 ⟨rfl, rfl⟩
  go_wp2
  go_ret
  exact ⟨rfl, rfl⟩
theorem finite_or {b : Nat} (h : b < 18446744073709551616) (h1 : isInfB b = false) (h2 : Ieee.double.order b b ≠ none) : fexp b < 2047 := by
  have h3 := real_le h h2
  rcases Nat.lt_or_ge (b % 9223372036854775808) infB with h4 | h4
  · unfold infB at h4
    unfold fexp
    omega
  · have h5 : b % 9223372036854775808 = infB := by omega
    exfalso
    unfold isInfB at h1
    rw [h5] at h1
    exact absurd h1 (by decide +kernel)
theorem mod_some (x y : Nat) (hx : x < 18446744073709551616) (hy : y < 18446744073709551616) : ∃ R, R < 18446744073709551616 ∧ ∀ w, Calls Tryz.prog 26 #[.float .f64 x, .float .f64 y] w fun e w' => e = .returned (.float .f64 R) ∧ w' = w := by
  by_cases ho : Odd x y
  · exact ⟨_, by decide, fun w => mod_odd x y hx ho w⟩
  · unfold Odd at ho
    obtain ⟨h1, h2⟩ := not_or.1 ho
    obtain ⟨h2, h3⟩ := not_or.1 h2
    obtain ⟨h3, h4⟩ := not_or.1 h3
    have hE : Even x y := by
      refine ⟨hx, hy, finite_or hx (by simpa using h2) h3, ?_, real_le hy h4⟩
      rcases Nat.eq_zero_or_pos (y % 9223372036854775808) with h5 | h5
      · exact absurd (zero_order hy h5) h1
      · exact h5
    obtain ⟨R, ⟨h6, _⟩, h7⟩ := mod_even x y hE
    exact ⟨R, h6, h7⟩
theorem xmod_some (x y : Nat) (hx : x < 18446744073709551616) (hy : y < 18446744073709551616) : ∃ R, R < 18446744073709551616 ∧ ∀ w, Calls Tryz.prog 9 #[.float .f64 x, .float .f64 y] w fun e w' => e = .returned (.float .f64 R) ∧ w' = w := by
  obtain ⟨R, h1, h2⟩ := mod_some x y hx hy
  exact ⟨R, h1, fun w => xmod_of x y R h2 w⟩
end Go.Proofs.YtafbheamnjmfoaaGreat.Fl
