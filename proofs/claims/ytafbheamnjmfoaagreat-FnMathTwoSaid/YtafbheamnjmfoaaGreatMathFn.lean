/-
  Package math's Frexp, Ldexp of floats above 0.
-/
import Derived.Test.YtafbheamnjmfoaaGreatFloatAbs
import Derived.Test.YtafbheamnjmfoaaGreatModLaw
namespace Go.Proofs.YtafbheamnjmfoaaGreat.Fl
open Go.RowKit Go.WideShapes
set_option linter.unusedVariables false

theorem fmt64 : FloatKind.f64.format = Ieee.double := rfl
theorem finite_self {b : Nat} (h : fexp b < 2047) : Ieee.double.order b b = some .eq := by
  rcases order_self b with h1 | h1
  · have := nan_exp h1; omega
  · exact h1
set_option maxRecDepth 100000 in
theorem isnan_any (b : Nat) (w : World) : Calls Tryz.prog 23 #[.float .f64 b] w fun e w' => e = .returned (.bool (decide (Ieee.double.order b b = none))) ∧ w' = w := by
  have hf : FloatKind.f64.format = Ieee.double := rfl
  rcases order_self b with h | h
  · simp only [h, decide_true]
    go_enter Tryz.func23, Tryz.ntmps23
    go_wp2
    go_ret
    exact ⟨rfl, rfl⟩
  · simp only [h, reduceCtorEq, decide_false]
    go_enter Tryz.func23, Tryz.ntmps23
    go_wp2
    go_ret
    exact ⟨rfl, rfl⟩
/-- is it an infinity? -/
def isInfB (b : Nat) : Bool := Ieee.double.order (b % 9223372036854775808) 9218868437227405311 == some .gt
set_option maxRecDepth 100000 in
theorem isinf_any (b : Nat) (hb : b < 18446744073709551616) (w : World) : Calls Tryz.prog 46 #[.float .f64 b, .int .i64 0] w fun e w' => e = .returned (.bool (isInfB b)) ∧ w' = w := by
  have hf : FloatKind.f64.format = Ieee.double := rfl
  have ha := Lib.hid fun w => abs_any b hb w
  obtain ⟨T, hT⟩ : ∃ T, isInfB b = T := ⟨_, rfl⟩
  rw [hT]
  unfold isInfB at hT
  go_enter Tryz.func46, Tryz.ntmps46
  go_wp2_with fail
  refine (ha.out _).mono ?_
  rintro e w1 ⟨rfl, rfl⟩
  go_wp2
  go_ret
  exact ⟨rfl, rfl⟩
theorem finite_isinf {b : Nat} (h : fexp b < 2047) : isInfB b = false := by
  unfold isInfB
  rcases finite_le b h with e | e <;> rw [e] <;> rfl
theorem finite_notnan {b : Nat} (h : fexp b < 2047) : decide (Ieee.double.order b b = none) = false := by rw [finite_self h]; rfl
theorem least_read : Ieee.double.read 4503599627370496 = .number false 4503599627370496 (-1074) := by decide +kernel
theorem pos_mod {b : Nat} (h : b < infB) : b % 9223372036854775808 = b := Nat.mod_eq_of_lt (by unfold infB at h; omega)

set_option maxRecDepth 100000 in
/-- normalize: of a float above 0 -/
theorem norm_nor (b : Nat) (h : b < infB) (he : fexp b ≠ 0) (w : World) : Calls Tryz.prog 115 #[.float .f64 b] w fun e w' => e = .returned (.tuple #[.float .f64 b, .int .i64 0]) ∧ w' = w := by
  have hf : FloatKind.f64.format = Ieee.double := rfl
  have ha := Lib.hid fun w => abs_any b (by unfold infB at h; omega) w
  rw [pos_mod h] at ha
  have ho : (Ieee.double.order b 4503599627370496 == some .lt) = false := by
    rw [order_pos h (by decide)]
    have : ¬ b < 4503599627370496 := by
      intro h1
      apply he
      unfold fexp
      omega
    rw [if_neg this]
    split <;> rfl
  go_enter Tryz.func115, Tryz.ntmps115
  go_wp2_with fail
  refine (ha.out _).mono ?_
  rintro e w1 ⟨rfl, rfl⟩
  go_wp2
  go_ret2
  exact ⟨rfl, rfl⟩
set_option maxRecDepth 100000 in
theorem norm_sub (b c : Nat) (h : b < infB) (hc : c < infB) (he : fexp b = 0) (hv : nval c = nval b * 2 ^ 52) (w : World) : Calls Tryz.prog 115 #[.float .f64 b] w fun e w' => e = .returned (.tuple #[.float .f64 c, .int .i64 (-52)]) ∧ w' = w := by
  have hf : FloatKind.f64.format = Ieee.double := rfl
  have ha := Lib.hid fun w => abs_any b (by unfold infB at h; omega) w
  rw [pos_mod h] at ha
  have ho : (Ieee.double.order b 4503599627370496 == some .lt) = true := by
    rw [order_pos h (by decide)]
    have : b < 4503599627370496 := by
      unfold infB at h
      unfold fexp at he
      omega
    rw [if_pos this]
    rfl
  have hm := mul_52 h hc hv
  have hmul : ∀ (t : TypeId) (w : World), (binOp BinOp.mul t (.float .f64 b) (.float .f64 4841369599423283200)).run Tryz.prog w = .ok (.float .f64 c) w := fun t w => run_float_arith w .mul t .f64 b 4841369599423283200 c hm
  clear hm
  go_enter Tryz.func115, Tryz.ntmps115
  go_wp2_with fail
  refine (ha.out _).mono ?_
  rintro e w1 ⟨rfl, rfl⟩
  go_wp2
  go_ret2
  exact ⟨rfl, rfl⟩

theorem clear_exp (y : Nat) (h : y < infB) : bits BinOp.andNot IntKind.u64 (y : Int) 9218868437227405312 = ((ffr y : Nat) : Int) := by
  unfold infB at h
  rw [show (9218868437227405312 : Int) = ((9218868437227405312 : Nat) : Int) from rfl, Go.u64_andNot_nat y _ (by omega) (by omega)]
  congr 1
  have hle : y &&& (18446744073709551615 - 9218868437227405312) ≤ y := Nat.and_le_left
  have h1 : (y &&& (18446744073709551615 - 9218868437227405312)) % 2 ^ 63 = (y % 2 ^ 63) &&& ((18446744073709551615 - 9218868437227405312) % 2 ^ 63) := Nat.and_mod_two_pow
  rw [Nat.mod_eq_of_lt (Nat.lt_of_le_of_lt hle (by omega)), Nat.mod_eq_of_lt (a := y) (by omega), show (18446744073709551615 - 9218868437227405312) % 2 ^ 63 = 2 ^ 52 - 1 by decide, Nat.and_two_pow_sub_one_eq_mod] at h1
  exact h1
theorem or_exp (x k : Nat) (hx : x < 4503599627370496) (hk : k < 4096) : bits BinOp.or IntKind.u64 (x : Int) ((k * 4503599627370496 : Nat) : Int) = ((k * 4503599627370496 + x : Nat) : Int) := by
  rw [Go.u64_or_nat x _ (by omega) (by omega)]
  congr 1
  have := Nat.two_pow_add_eq_or_of_lt (i := 52) (b := x) hx k
  rw [Nat.or_comm, Nat.mul_comm k]
  exact this.symm
theorem get_exp (y : Nat) (h : y < infB) : bits BinOp.and IntKind.u64 ((y : Int) / 4503599627370496) 2047 = ((fexp y : Nat) : Int) := by
  unfold infB at h
  rw [show (y : Int) / 4503599627370496 = ((y / 4503599627370496 : Nat) : Int) by omega, show (2047 : Int) = ((2047 : Nat) : Int) from rfl, Go.u64_and_nat _ _ (by omega) (by omega), show (2047 : Nat) = 2 ^ 11 - 1 by rfl, Nat.and_two_pow_sub_one_eq_mod]
  rfl
/-- what normalize leaves: a float that is no small one, 53 bits at its head -/
theorem norm_any (b m L : Nat) (h0 : 0 < b) (h : b < infB) (hn : NF b m L) : ∃ y, ∃ e : Int, (∀ w, Calls Tryz.prog 115 #[.float .f64 b] w fun e' w' => e' = .returned (.tuple #[.float .f64 y, .int .i64 e]) ∧ w' = w) ∧ y < infB ∧ 0 < y ∧ ffr y = m - 4503599627370496 ∧ e + (fexp y : Int) = (L : Int) - 51 ∧ -52 ≤ e ∧ e ≤ 0 ∧ 1 ≤ fexp y := by
  by_cases he : fexp b = 0
  · obtain ⟨E, hE⟩ : ∃ E, E = 2098 := ⟨_, rfl⟩
    have hv : nval b < 4503599627370496 := by rw [nval_sub he]; exact ffr_lt b
    obtain ⟨c, hc, hcv⟩ := nval_rep (nval b) 52 E hE (by omega) (Nat.lt_of_lt_of_le (Nat.mul_lt_mul_of_pos_right (show nval b < 2 ^ 52 from hv) (Nat.two_pow_pos 52)) (by rw [← Nat.pow_add]; exact Nat.pow_le_pow_right (by decide) (by omega)))
    have hce : fexp c ≠ 0 := fun h0' => by
      have h1 := nval_sub h0'
      have h2 := ffr_lt c
      have h3 := nval_pos h h0
      have : 1 * 2 ^ 52 ≤ nval b * 2 ^ 52 := Nat.mul_le_mul_right _ h3
      omega
    have hnf := nf_nor hce
    have hb2 : NF c m (L + 52) := by
      obtain ⟨h1, h2, h3⟩ := hn
      refine ⟨?_, h2, h3⟩
      rw [hcv, Nat.mul_right_comm, h1, Nat.mul_assoc, ← Nat.pow_add]
    obtain ⟨e1, e2⟩ := nf_unique hnf hb2
    refine ⟨c, -52, fun w => norm_sub b c h hc he hcv w, hc, ?_, by omega, by omega, by omega, by omega, by omega⟩
    rcases Nat.eq_zero_or_pos c with h9 | h9
    · rw [h9] at hce; exact absurd (by decide) hce
    · exact h9
  · obtain ⟨e1, e2⟩ := nf_unique (nf_nor he) hn
    exact ⟨b, 0, fun w => norm_nor b h he w, h, h0, by omega, by omega, by omega, by omega, by omega⟩
theorem eq_zero_no {b : Nat} (h0 : 0 < b) (h : b < infB) : (Ieee.double.order b 0 == some .eq) = false := by
  rw [order_pos h (by decide), if_neg (by omega), if_neg (by omega)]
  rfl
theorem fin_pos {b : Nat} (h : b < infB) : fexp b < 2047 := (pos_parts h).2.1

set_option maxHeartbeats 1000000 in
set_option maxRecDepth 100000 in
theorem frexp_pos (b m L : Nat) (h0 : 0 < b) (h : b < infB) (hn : NF b m L) (w : World) : Calls Tryz.prog 92 #[.float .f64 b] w fun e w' => e = .returned (.tuple #[.float .f64 (4602678819172646912 + (m - 4503599627370496)), .int .i64 ((L : Int) - 1073)]) ∧ w' = w := by
  have hf : FloatKind.f64.format = Ieee.double := rfl
  obtain ⟨y, e, hno, hy, hy0, hfr, hexp, he1, he2, hfe⟩ := norm_any b m L h0 h hn
  have hno' := Lib.hid hno
  have hz := eq_zero_no h0 h
  have hi := Lib.hid fun w => isinf_any b (by unfold infB at h; omega) w
  have hna := Lib.hid fun w => isnan_any b w
  rw [finite_isinf (fin_pos h)] at hi
  rw [finite_notnan (fin_pos h)] at hna
  have hfb := frombits
  have htb := tobits y
  have g1 := get_exp y hy
  have g2 := clear_exp y hy
  have hff := ffr_lt y
  have hfx := fin_pos hy
  rw [hfr] at g2
  obtain ⟨F, hF⟩ : ∃ F, m - 4503599627370496 = F := ⟨_, rfl⟩
  rw [hF] at g2 hfr ⊢
  rw [hfr] at hff
  have g3 := or_exp F 1022 hff (by omega)
  rw [show ((1022 * 4503599627370496 : Nat) : Int) = 4602678819172646912 from rfl, show 1022 * 4503599627370496 = 4602678819172646912 from rfl] at g3
  obtain ⟨X, hX⟩ : ∃ X, fexp y = X := ⟨_, rfl⟩
  rw [hX] at g1 hexp hfe hfx
  have hsum : e + ((X : Int) - 1023 + 1) = (L : Int) - 1073 := by omega
  obtain ⟨R, hR⟩ : ∃ R, 4602678819172646912 + F = R := ⟨_, rfl⟩
  rw [hR] at g3 ⊢
  obtain ⟨E, hE⟩ : ∃ E, (L : Int) - 1073 = E := ⟨_, rfl⟩
  rw [hE] at hsum ⊢
  clear hno hn hfr hF hR hX hE
  go_enter Tryz.func92, Tryz.ntmps92
  go_wp2_with fail
  refine (hi.out _).mono ?_
  rintro e w1 ⟨rfl, rfl⟩
  go_wp2_with fail
  refine (hna.out _).mono ?_
  rintro e w1 ⟨rfl, rfl⟩
  go_wp2_with fail
  refine (hno'.out _).mono ?_
  rintro e w1 ⟨rfl, rfl⟩
  go_wp2
  go_ret2
  exact ⟨rfl, rfl⟩

theorem bv_and64 (a b : BitVec 64) (hb : b.toNat < 9223372036854775808) : bits BinOp.and .i64 (a.toNat : Int) (b.toNat : Int) = ((a &&& b).toNat : Int) := by
  show IntKind.i64.wrap ((BitVec.ofInt 64 _ &&& BitVec.ofInt 64 _).toNat : Int) = _
  rw [bv_of, bv_of, BitVec.toNat_and]
  have : a.toNat &&& b.toNat ≤ b.toNat := Nat.and_le_right
  rw [IntWalk.i64_in _ (by omega)]
theorem get_exp64 (y : Nat) (h : y < infB) : bits BinOp.and IntKind.i64 ((y : Int) / 4503599627370496) 2047 = ((fexp y : Nat) : Int) := by
  unfold infB at h
  have h1 := bv_and64 (BitVec.ofNat 64 (y / 4503599627370496)) 2047#64 (by decide)
  rw [BitVec.toNat_and, BitVec.toNat_ofNat, Nat.mod_eq_of_lt (by omega), show (2047#64).toNat = 2 ^ 11 - 1 by decide, Nat.and_two_pow_sub_one_eq_mod] at h1
  rw [show (y : Int) / 4503599627370496 = ((y / 4503599627370496 : Nat) : Int) by omega]
  exact h1

set_option maxHeartbeats 1000000 in
set_option maxRecDepth 100000 in
theorem ldexp_pos (b m L k c : Nat) (h0 : 0 < b) (h : b < infB) (hn : NF b m L) (hc : c < infB) (hc0 : 0 < c) (hv : nval c = nval b * 2 ^ k) (w : World) : Calls Tryz.prog 94 #[.float .f64 b, .int .i64 k] w fun e w' => e = .returned (.float .f64 c) ∧ w' = w := by
  have hf : FloatKind.f64.format = Ieee.double := rfl
  obtain ⟨y, e, hno, hy, hy0, hfr, hexp, he1, he2, hfe⟩ := norm_any b m L h0 h hn
  have hno' := Lib.hid hno
  have hz := eq_zero_no h0 h
  have hi := Lib.hid fun w => isinf_any b (by unfold infB at h; omega) w
  have hna := Lib.hid fun w => isnan_any b w
  rw [finite_isinf (fin_pos h)] at hi
  rw [finite_notnan (fin_pos h)] at hna
  have htb := tobits y
  have g1 := get_exp64 y hy
  have g2 := clear_exp y hy
  have hff := ffr_lt y
  have hfx := fin_pos hy
  have hcn : NF c m (L + k) := by
    obtain ⟨n1, n2, n3⟩ := hn
    refine ⟨?_, n2, n3⟩
    rw [hv, Nat.mul_right_comm, n1, Nat.mul_assoc, ← Nat.pow_add]
  rw [hfr] at g2
  obtain ⟨F, hF⟩ : ∃ F, m - 4503599627370496 = F := ⟨_, rfl⟩
  rw [hF] at g2 hfr
  rw [hfr] at hff
  obtain ⟨X, hX⟩ : ∃ X, fexp y = X := ⟨_, rfl⟩
  rw [hX] at g1 hexp hfe hfx
  obtain ⟨p1, p2, p3, p4⟩ := pos_parts hc
  have hyl : y < 9223372036854775808 := by unfold infB at hy; omega
  by_cases hce : fexp c = 0
  · have hlt : L + k < 52 := by
      have h1 : nval c < 4503599627370496 := by rw [nval_sub hce]; exact ffr_lt c
      obtain ⟨n1, n2, n3⟩ := hcn
      rcases Nat.lt_or_ge (L + k) 52 with h2 | h2
      · exact h2
      · exfalso
        have h3 : (4503599627370496 : Nat) ≤ 2 ^ (L + k) := Nat.pow_le_pow_right (n := 2) (by decide) h2
        have h4 := Nat.mul_le_mul n2 h3
        omega
    have hkk : k ≤ 52 := by omega
    obtain ⟨E, hE⟩ : ∃ E : Nat, L + k + 2 = E := ⟨_, rfl⟩
    have hEl : E < 2047 := by omega
    have g3 := or_exp F E hff (by omega)
    have g4 : IntKind.u64.wrap ((E : Int) * 4503599627370496) = ((E * 4503599627370496 : Nat) : Int) := by rw [IntKind.wrap_u64]; omega
    obtain ⟨T, hT⟩ : ∃ T : Int, (k : Int) + e + ((X : Int) - 1023) = T := ⟨_, rfl⟩
    have t1 : decide (T < -1075) = false := by simp; omega
    have t2 : decide (1023 < T) = false := by simp; omega
    have t3 : decide (T < -1022) = true := by simp; omega
    have t4 : T + 53 + 1023 = (E : Int) := by omega
    have hzv : nval (E * 4503599627370496 + F) = nval c * 2 ^ 53 := by
      have e1 : fexp (E * 4503599627370496 + F) = E := by unfold fexp; omega
      have e2 : ffr (E * 4503599627370496 + F) = F := by unfold ffr; omega
      rw [nval_nor (by omega), e1, e2]
      obtain ⟨n1, n2, n3⟩ := hcn
      have : 4503599627370496 + F = m := by omega
      rw [this, show (2 : Nat) ^ 53 = 4503599627370496 * 2 by rfl, ← Nat.mul_assoc, n1, Nat.mul_assoc, ← Nat.pow_succ, show E - 1 = (L + k).succ by omega]
    have hzl : E * 4503599627370496 + F < infB := by unfold infB; omega
    have hm := mul_m53 hzl hc hzv
    obtain ⟨z, hz'⟩ : ∃ z, E * 4503599627370496 + F = z := ⟨_, rfl⟩
    rw [hz'] at hm g3
    obtain ⟨q, hq⟩ : ∃ q, E * 4503599627370496 = q := ⟨_, rfl⟩
    rw [hq] at g3 g4
    obtain ⟨Y, hY⟩ : ∃ Y, y / 4503599627370496 = Y := ⟨_, rfl⟩
    have hYi : (y : Int) / 4503599627370496 = (Y : Int) := by omega
    have hYl : Y < 2048 := by omega
    rw [hYi] at g1
    have hmul : ∀ (t : TypeId) (w : World), (binOp BinOp.mul t (.float .f64 4368491638549381120) (.float .f64 z)).run Tryz.prog w = .ok (.float .f64 c) w := fun t w => run_float_arith w .mul t .f64 4368491638549381120 z c hm
    have hfb : ∀ w, (callFunc 5 #[.int .u64 (z : Int)]).run Tryz.prog w = .ok (.value (.float .f64 z)) w := fun w => frombits (z : Int) w
    clear hno hn hcn hfr hX hm hzv hz' hzl hE hexp hv p1 p2 p3 p4 hq hY hyl hlt
    go_enter Tryz.func94, Tryz.ntmps94
    go_wp2_with fail
    refine (hi.out _).mono ?_
    rintro e w1 ⟨rfl, rfl⟩
    go_wp2_with fail
    refine (hna.out _).mono ?_
    rintro e w1 ⟨rfl, rfl⟩
    go_wp2_with fail
    refine (hno'.out _).mono ?_
    rintro e w1 ⟨rfl, rfl⟩
    go_wp2
    go_ret
    exact ⟨rfl, rfl⟩
  · obtain ⟨q1, q2⟩ := nf_unique (nf_nor hce) hcn
    have hcF : fexp c * 4503599627370496 + F = c := by omega
    obtain ⟨E, hE⟩ : ∃ E : Nat, fexp c = E := ⟨_, rfl⟩
    rw [hE] at hcF q2 p2 hce
    have hkk : k ≤ 2100 := by omega
    have g3 := or_exp F E hff (by omega)
    have g4 : IntKind.u64.wrap ((E : Int) * 4503599627370496) = ((E * 4503599627370496 : Nat) : Int) := by rw [IntKind.wrap_u64]; omega
    obtain ⟨T, hT⟩ : ∃ T : Int, (k : Int) + e + ((X : Int) - 1023) = T := ⟨_, rfl⟩
    have t1 : decide (T < -1075) = false := by simp; omega
    have t2 : decide (1023 < T) = false := by simp; omega
    have t3 : decide (T < -1022) = false := by simp; omega
    have t4 : T + 1023 = (E : Int) := by omega
    have hm := mul_one hc
    rw [hcF] at g3
    obtain ⟨q, hq⟩ : ∃ q, E * 4503599627370496 = q := ⟨_, rfl⟩
    rw [hq] at g3 g4
    obtain ⟨Y, hY⟩ : ∃ Y, y / 4503599627370496 = Y := ⟨_, rfl⟩
    have hYi : (y : Int) / 4503599627370496 = (Y : Int) := by omega
    have hYl : Y < 2048 := by omega
    rw [hYi] at g1
    have hmul : ∀ (t : TypeId) (w : World), (binOp BinOp.mul t (.float .f64 4607182418800017408) (.float .f64 c)).run Tryz.prog w = .ok (.float .f64 c) w := fun t w => run_float_arith w .mul t .f64 4607182418800017408 c c hm
    have hfb : ∀ w, (callFunc 5 #[.int .u64 (c : Int)]).run Tryz.prog w = .ok (.value (.float .f64 c)) w := fun w => frombits (c : Int) w
    clear hcF q1 q2 p2 hce
    clear hno hn hcn hfr hX hm hE hexp hv p1 p3 p4 hq hY hyl
    go_enter Tryz.func94, Tryz.ntmps94
    go_wp2_with fail
    refine (hi.out _).mono ?_
    rintro e w1 ⟨rfl, rfl⟩
    go_wp2_with fail
    refine (hna.out _).mono ?_
    rintro e w1 ⟨rfl, rfl⟩
    go_wp2_with fail
    refine (hno'.out _).mono ?_
    rintro e w1 ⟨rfl, rfl⟩
    go_wp2
    go_ret
    exact ⟨rfl, rfl⟩

set_option maxRecDepth 100000 in
theorem xfrexp_pos (b m L : Nat) (h0 : 0 < b) (h : b < infB) (hn : NF b m L) (w : World) : Calls Tryz.prog 49 #[.float .f64 b] w fun e w' => e = .returned (.tuple #[.float .f64 (4602678819172646912 + (m - 4503599627370496)), .int .i64 ((L : Int) - 1073)]) ∧ w' = w := by
  have hf := Lib.hid (frexp_pos b m L h0 h hn w)
  clear hn
  go_enter Tryz.func49, Tryz.ntmps49
  go_wp2_with fail
  refine hf.out.mono ?_
  rintro e w1 ⟨rfl, rfl⟩
  go_wp2
  go_ret2
  exact ⟨rfl, rfl⟩
set_option maxRecDepth 100000 in
theorem xldexp_pos (b m L k c : Nat) (h0 : 0 < b) (h : b < infB) (hn : NF b m L) (hc : c < infB) (hc0 : 0 < c) (hv : nval c = nval b * 2 ^ k) (w : World) : Calls Tryz.prog 50 #[.float .f64 b, .int .i64 k] w fun e w' => e = .returned (.float .f64 c) ∧ w' = w := by
  have hf := Lib.hid (ldexp_pos b m L k c h0 h hn hc hc0 hv w)
  clear hn hv
  go_enter Tryz.func50, Tryz.ntmps50
  go_wp2_with fail
  refine hf.out.mono ?_
  rintro e w1 ⟨rfl, rfl⟩
  go_wp2
  go_ret
  exact ⟨rfl, rfl⟩
end Go.Proofs.YtafbheamnjmfoaaGreat.Fl
