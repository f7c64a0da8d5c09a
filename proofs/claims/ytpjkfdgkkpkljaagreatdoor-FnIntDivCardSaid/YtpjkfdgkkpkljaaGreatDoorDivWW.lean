/-
  The small functions of long division: leading zeros, the reciprocal word, two words by one with it, a product of two words, the order of two pairs of words.
-/
import Derived.Test.YtpjkfdgkkpkljaaGreatDoorDiv64
import Derived.Test.YtpjkfdgkkpkljaaGreatDoorDwLaw
import Derived.Test.YtpjkfdgkkpkljaaGreatDoorVec
import Derived.Lib.ItoaNum
namespace Go.Proofs.YtpjkfdgkkpkljaaGreatDoor.Knuth
open Go.RowKit Go.WideShapes Go.Proofs.YtpjkfdgkkpkljaaGreatDoor.Num Go.Proofs.YtpjkfdgkkpkljaaGreatDoor.Nat_
set_option linter.unusedVariables false

/-- the leading zeros of a word -/
def nz (y : Nat) : Nat := 64 - Lib.bitLen y
theorem nz_spec {y : Nat} (h0 : 0 < y) (h : y < W) : nz y < 64 ∧ 9223372036854775808 ≤ y * 2 ^ nz y ∧ y * 2 ^ nz y < W ∧ nz y + Lib.bitLen y = 64 := by
  obtain ⟨h1, h2, h3⟩ := Lib.bitLenAux_bounds 64 y h (by omega)
  have h4 : Lib.bitLen y ≤ 64 := Lib.bitLen_le y 64 (Nat.le_refl _) h
  have e : Lib.bitLenAux 64 y = Lib.bitLen y := rfl
  rw [e] at h1 h2 h3
  unfold nz
  obtain ⟨L, hL⟩ : ∃ L, Lib.bitLen y = L := ⟨_, rfl⟩
  rw [hL] at h1 h2 h3 h4 ⊢
  obtain ⟨k, rfl⟩ : ∃ k, L = k + 1 := ⟨L - 1, by omega⟩
  rw [Nat.add_sub_cancel] at h2
  have hp : 0 < 2 ^ (64 - (k + 1)) := Nat.pow_pos (by omega)
  refine ⟨by omega, ?_, ?_, by omega⟩
  · have := Nat.mul_le_mul_right (2 ^ (64 - (k + 1))) h2
    rw [← Nat.pow_add, show k + (64 - (k + 1)) = 63 by omega] at this
    exact this
  · have := Nat.mul_lt_mul_of_pos_right h3 hp
    rw [← Nat.pow_add, show k + 1 + (64 - (k + 1)) = 64 by omega] at this
    exact this
theorem nz_high {y : Nat} (h : 9223372036854775808 ≤ y) (hy : y < W) : nz y = 0 := by unfold nz; rw [bitlen_high y h hy]

set_option maxRecDepth 100000 in
theorem nlz_any (y : Nat) (h0 : 0 < y) (h : y < W) (w : World) : Calls Tryz.prog 102 #[.int .u64 y] w fun e w' => e = .returned (.int .u64 ((nz y : Nat) : Int)) ∧ w' = w := by
  have hc := Lib.hid fun w => Tryz.bits_LeadingZeros (y : Int) w (by omega) (by have : y < 18446744073709551616 := h; omega)
  obtain ⟨n1, n2, n3, n4⟩ := nz_spec h0 h
  obtain ⟨s, hs⟩ : ∃ s, nz y = s := ⟨_, rfl⟩
  rw [hs] at n1 n4 ⊢
  have e : (64 : Int) - (Lib.bitLen y : Int) = (s : Int) := by omega
  rw [Int.toNat_natCast, e] at hc
  clear n2 n3 n4 e hs
  go_enter Tryz.func102, Tryz.ntmps102
  go_wp2_with fail
  refine (hc.out _).mono ?_
  rintro e w1 ⟨rfl, rfl⟩
  go_wp2
  go_ret
  exact ⟨rfl, rfl⟩
set_option maxRecDepth 100000 in
theorem bdiv_zero (l y : Nat) (hl : l < 18446744073709551616) (hy : y < 18446744073709551616) (hy0 : 0 < y) (w : World) : Calls Tryz.prog 118 #[.int .u64 0, .int .u64 l, .int .u64 y] w fun e w' => e = .returned (.tuple #[.int .u64 ((l / y : Nat) : Int), .int .u64 ((l % y : Nat) : Int)]) ∧ ∃ q, w' = w.drewN q := by
  have hc := Lib.hid fun w => d64_zero l y hl hy hy0 w
  obtain ⟨q, hq⟩ : ∃ q, l / y = q := ⟨_, rfl⟩
  obtain ⟨r, hr⟩ : ∃ r, l % y = r := ⟨_, rfl⟩
  rw [hq, hr] at hc ⊢
  clear hq hr
  go_enter Tryz.func118, Tryz.ntmps118
  go_wp2_with fail
  refine (hc.out _).mono ?_
  rintro e w1 ⟨rfl, n, rfl⟩
  go_wp2
  go_ret2
  exact ⟨rfl, n, rfl⟩
set_option maxRecDepth 100000 in
theorem bdiv_any (h l y : Nat) (hh : h < y) (hl : l < 18446744073709551616) (hy : y < 18446744073709551616) (hy0 : 9223372036854775808 ≤ y) (w : World) : Calls Tryz.prog 118 #[.int .u64 h, .int .u64 l, .int .u64 y] w fun e w' => e = .returned (.tuple #[.int .u64 (((h * 18446744073709551616 + l) / y : Nat) : Int), .int .u64 (((h * 18446744073709551616 + l) % y : Nat) : Int)]) ∧ ∃ q, w' = w.drewN q := by
  by_cases h0 : h = 0
  · subst h0
    rw [Nat.zero_mul, Nat.zero_add]
    exact bdiv_zero l y hl hy (by omega) w
  · have hc := Lib.hid fun w => d64_high h l y hh (by omega) hl hy hy0 w
    obtain ⟨q, hq⟩ : ∃ q, (h * 18446744073709551616 + l) / y = q := ⟨_, rfl⟩
    obtain ⟨r, hr⟩ : ∃ r, (h * 18446744073709551616 + l) % y = r := ⟨_, rfl⟩
    rw [hq, hr] at hc ⊢
    clear hq hr
    go_enter Tryz.func118, Tryz.ntmps118
    go_wp2_with fail
    refine (hc.out _).mono ?_
    rintro e w1 ⟨rfl, rfl⟩
    go_wp2
    go_ret2
    exact ⟨rfl, 0, rfl⟩
theorem flip (d : Nat) (h : d < 18446744073709551616) : bits BinOp.xor IntKind.u64 IntKind.u64.max (d : Int) = ((18446744073709551615 - d : Nat) : Int) := by
  have e : IntKind.u64.max = ((18446744073709551615 : Nat) : Int) := rfl
  rw [e, Go.u64_xor_nat _ _ (by omega) h]
  congr 1
  have h2 : (18446744073709551615 : Nat) - d = 2 ^ 64 - (d + 1) := by omega
  have h3 : (18446744073709551615 : Nat) = 2 ^ 64 - 1 := rfl
  rw [h2]
  apply Nat.eq_of_testBit_eq
  intro i
  rw [Nat.testBit_xor, Nat.testBit_two_pow_sub_succ h, h3, Nat.testBit_two_pow_sub_one]
  by_cases hi : i < 64
  · simp [hi]
  · have : d.testBit i = false := Nat.testBit_lt_two_pow (Nat.lt_of_lt_of_le h (by rw [show (18446744073709551616 : Nat) = 2 ^ 64 from rfl]; exact Nat.pow_le_pow_right (by omega) (by omega)))
    simp [hi, this]
set_option maxHeartbeats 1000000 in
set_option maxRecDepth 100000 in
/-- the reciprocal of a word, brought up to begin with a 1 -/
theorem rcp_any (y : Nat) (h0 : 0 < y) (h : y < W) (w : World) : Calls Tryz.prog 119 #[.int .u64 y] w fun e w' => e = .returned (.int .u64 ((rcp (y * 2 ^ nz y) : Nat) : Int)) ∧ ∃ q, w' = w.drewN q := by
  have hn := Lib.hid fun w => nlz_any y h0 h w
  obtain ⟨n1, n2, n3, n4⟩ := nz_spec h0 h
  obtain ⟨s, hs⟩ : ∃ s, nz y = s := ⟨_, rfl⟩
  rw [hs] at n1 n2 n3 hn ⊢
  obtain ⟨d, hd⟩ : ∃ d, y * 2 ^ s = d := ⟨_, rfl⟩
  rw [hd] at n2 n3 ⊢
  rw [W_eq] at n3
  have e1 : IntKind.u64.wrap ((y : Int) * 2 ^ s) = (d : Int) := by
    have : (y : Int) * 2 ^ s = ((y * 2 ^ s : Nat) : Int) := by simp
    rw [this, hd, IntKind.wrap_u64]
    omega
  obtain ⟨x, hx⟩ : ∃ x, 18446744073709551615 - d = x := ⟨_, rfl⟩
  obtain ⟨m, hm⟩ : ∃ m, rcp d = m := ⟨_, rfl⟩
  have hm' : (x * 18446744073709551616 + 18446744073709551615) / d = m := by
    rw [← hm, ← hx]
    unfold rcp
    rw [W_eq]
  have hc := Lib.hid fun w => bdiv_any x 18446744073709551615 d (by omega) (by omega) n3 n2 w
  rw [hm'] at hc
  obtain ⟨r, hr⟩ : ∃ r, (x * 18446744073709551616 + 18446744073709551615) % d = r := ⟨_, rfl⟩
  rw [hr] at hc
  rw [hm]
  have e2 := flip d n3
  rw [hx] at e2
  clear hm hm' hr hd hs hx n4 h0 h
  go_enter Tryz.func119, Tryz.ntmps119
  go_wp2_with fail
  refine (hn.out _).mono ?_
  rintro e w1 ⟨rfl, rfl⟩
  go_wp2_with fail
  refine (hc.out _).mono ?_
  rintro e w1 ⟨rfl, n, rfl⟩
  go_wp2
  go_ret
  exact ⟨rfl, n, rfl⟩

set_option maxRecDepth 100000 in
theorem mulww_any (x y : Nat) (hx : x < W) (hy : y < W) (w : World) : Calls Tryz.prog 127 #[.int .u64 x, .int .u64 y] w fun e w' => e = .returned (.tuple #[.int .u64 ((x * y / W : Nat) : Int), .int .u64 ((x * y % W : Nat) : Int)]) ∧ w' = w := by
  have hc := Lib.hid fun w => Tryz.bits_Mul x y hx hy w
  rw [← W_eq] at hc
  obtain ⟨q, hq⟩ : ∃ q, x * y / W = q := ⟨_, rfl⟩
  obtain ⟨r, hr⟩ : ∃ r, x * y % W = r := ⟨_, rfl⟩
  rw [hq, hr] at hc ⊢
  clear hq hr hx hy
  go_enter Tryz.func127, Tryz.ntmps127
  go_wp2_with fail
  refine (hc.out _).mono ?_
  rintro e w1 ⟨rfl, rfl⟩
  go_wp2
  go_ret2
  exact ⟨rfl, rfl⟩
set_option maxRecDepth 100000 in
theorem greater_any (x1 x2 y1 y2 : Nat) (h2 : x2 < W) (h3 : y2 < W) (w : World) : Calls Tryz.prog 128 #[.int .u64 x1, .int .u64 x2, .int .u64 y1, .int .u64 y2] w fun e w' => e = .returned (.bool (decide (y1 * W + y2 < x1 * W + x2))) ∧ w' = w := by
  rcases Nat.lt_trichotomy y1 x1 with h | h | h
  · have e : decide (y1 * W + y2 < x1 * W + x2) = true := by
      have := Nat.mul_le_mul_right W h
      rw [Nat.succ_mul] at this
      exact decide_eq_true (by omega)
    rw [e]
    have d1 : decide ((y1 : Int) < (x1 : Int)) = true := decide_eq_true (by omega)
    have d1' : decide (y1 < x1) = true := decide_eq_true h
    clear e h h2 h3
    go_enter Tryz.func128, Tryz.ntmps128
    go_wp2
    go_ret
    exact ⟨rfl, rfl⟩
  · subst h
    have e : decide (y1 * W + y2 < y1 * W + x2) = decide (y2 < x2) := by simp
    rw [e]
    have d1 : decide ((y1 : Int) < (y1 : Int)) = false := decide_eq_false (by omega)
    have d2 : decide ((y2 : Int) < (x2 : Int)) = decide (y2 < x2) := by simp
    clear e h2 h3
    obtain ⟨b, hb⟩ : ∃ b, decide (y2 < x2) = b := ⟨_, rfl⟩
    rw [hb] at d2 ⊢
    go_enter Tryz.func128, Tryz.ntmps128
    go_wp2
    go_ret
    exact ⟨rfl, rfl⟩
  · have e : decide (y1 * W + y2 < x1 * W + x2) = false := by
      have := Nat.mul_le_mul_right W h
      rw [Nat.succ_mul] at this
      exact decide_eq_false (by omega)
    rw [e]
    have d1 : decide ((y1 : Int) < (x1 : Int)) = false := decide_eq_false (by omega)
    have d1' : decide (y1 < x1) = false := decide_eq_false (by omega)
    have d2 : ((x1 : Int) == (y1 : Int)) = false := by simp; omega
    clear e h h2 h3
    go_enter Tryz.func128, Tryz.ntmps128
    go_wp2
    go_ret
    exact ⟨rfl, rfl⟩

set_option maxHeartbeats 2000000 in
set_option maxRecDepth 100000 in
/-- two words by one, with its reciprocal -/
theorem divww_any (x1 x0 y : Nat) (hy : y < W) (hx1 : x1 < y) (hx0 : x0 < W) (w : World) : Calls Tryz.prog 120 #[.int .u64 x1, .int .u64 x0, .int .u64 y, .int .u64 ((rcp (y * 2 ^ nz y) : Nat) : Int)] w fun e w' => e = .returned (.tuple #[.int .u64 (((x1 * W + x0) / y : Nat) : Int), .int .u64 (((x1 * W + x0) % y : Nat) : Int)]) ∧ w' = w := by
  have hn := Lib.hid fun w => nlz_any y (by omega) hy w
  obtain ⟨n1, n2, n3, n4⟩ := nz_spec (show 0 < y by omega) hy
  obtain ⟨s, hs⟩ : ∃ s, nz y = s := ⟨_, rfl⟩
  rw [hs] at n1 n2 n3 hn ⊢
  obtain ⟨hXX, hX1, hX0d⟩ := dw_words (show s ≤ 64 by omega) hx1 hx0 n3
  obtain ⟨hQ, hR⟩ := dw_scale (x1 * W + x0) y (2 ^ s) (Nat.pow_pos (by omega))
  have hX0 : x0 * 2 ^ s % W < W := Nat.mod_lt _ W_pos
  -- the scaled words by their names
  have e1 := word_or x1 x0 s (64 - s) hx0 rfl (by omega)
  have e2 : IntKind.u64.wrap ((x0 : Int) * 2 ^ s) = ((x0 * 2 ^ s % W : Nat) : Int) := by rw [IntKind.wrap_u64, W_eq]; simp
  have e3 : IntKind.u64.wrap ((y : Int) * 2 ^ s) = ((y * 2 ^ s : Nat) : Int) := by
    have : (y : Int) * 2 ^ s = ((y * 2 ^ s : Nat) : Int) := by simp
    rw [this, IntKind.wrap_u64]
    rw [W_eq] at n3
    omega
  have e4 : IntKind.u64.wrap (64 - (s : Int)) = ((64 - s : Nat) : Int) := by rw [IntKind.wrap_u64]; omega
  have z1 : s = 0 → x1 * 2 ^ s % W + x0 / 2 ^ (64 - s) = x1 ∧ x0 * 2 ^ s % W = x0 ∧ y * 2 ^ s = y := by
    intro h
    subst h
    have : x0 / 2 ^ (64 - 0) = 0 := Nat.div_eq_of_lt hx0
    rw [this, Nat.pow_zero, Nat.mul_one, Nat.mul_one, Nat.mul_one, Nat.mod_eq_of_lt hx0, Nat.mod_eq_of_lt (by omega)]
    exact ⟨rfl, rfl, rfl⟩
  obtain ⟨t, ht⟩ : ∃ t, 64 - s = t := ⟨_, rfl⟩
  obtain ⟨X1, hX1e⟩ : ∃ X1, x1 * 2 ^ s % W + x0 / 2 ^ t = X1 := ⟨_, rfl⟩
  obtain ⟨X0, hX0e⟩ : ∃ X0, x0 * 2 ^ s % W = X0 := ⟨_, rfl⟩
  obtain ⟨d, hd⟩ : ∃ d, y * 2 ^ s = d := ⟨_, rfl⟩
  rw [ht] at e1 e4 z1 hXX hX1
  rw [hX1e] at e1 z1 hXX hX1
  rw [hX0e] at e2 z1 hXX hX0
  rw [hd] at e3 z1 n2 n3 hX1 hQ hR ⊢
  rw [← hXX] at hQ hR
  obtain ⟨f1, f2, f3⟩ := dw_first n2 n3 hX1 hX0
  obtain ⟨m, hm⟩ : ∃ m, rcp d = m := ⟨_, rfl⟩
  rw [hm] at f1 f2 f3 ⊢
  -- the words on the way
  have hmW : m < W := by rw [← hm]; exact (recip_word n3 (by rw [W_eq]; omega) (by omega)).2
  obtain ⟨q0, hq0⟩ : ∃ q0, (m * X1 + X0) / W + X1 = q0 := ⟨_, rfl⟩
  rw [hq0] at f1 f2 f3
  obtain ⟨T, hT⟩ : ∃ T, m * X1 = T := ⟨_, rfl⟩
  rw [hT] at hq0
  obtain ⟨D, hD⟩ : ∃ D, d * q0 = D := ⟨_, rfl⟩
  rw [hD] at f1 f2
  obtain ⟨r, hr⟩ : ∃ r, X1 * W + X0 - D = r := ⟨_, rfl⟩
  have hrr := dw_right (X := X1 * W + X0) (d := d) (q := q0) (r := r) (by omega) (by rw [hD]; omega)
  have hX1W : X1 < W := by omega
  have c1 := Lib.hid fun w => Tryz.bits_Mul m X1 hmW hX1W w
  have c2 := Lib.hid fun w => badd_any (T % W) X0 0 (by omega) w
  have c3 := Lib.hid fun w => badd_any (T / W) X1 ((T % W + X0 + 0) / W) (by have := Nat.mod_lt T W_pos; rw [W_eq] at *; omega) w
  have c4 := Lib.hid fun w => Tryz.bits_Mul d q0 n3 f3 w
  have c5 := Lib.hid fun w => bsub_any X0 (D % W) 0 (by omega) w
  have c6 := Lib.hid fun w => bsub_any X1 (D / W) (if X0 < D % W + 0 then 1 else 0) (by split <;> omega) w
  have g1 : (T / W + X1 + (T % W + X0 + 0) / W) % W = q0 := by rw [W_eq] at *; omega
  have g2 : (X0 + W - D % W - 0) % W = r % W := by rw [W_eq] at *; omega
  have g3 : (X1 + W - D / W - (if X0 < D % W + 0 then 1 else 0)) % W = r / W := by
    split
    · rw [W_eq] at *; omega
    · rw [W_eq] at *; omega
  obtain ⟨QQ, hQQ⟩ : ∃ QQ, (x1 * W + x0) / y = QQ := ⟨_, rfl⟩
  obtain ⟨RR, hRR⟩ : ∃ RR, (x1 * W + x0) % y = RR := ⟨_, rfl⟩
  have hQW : QQ < W := by rw [← hQQ]; exact digit_lt hx1 hx0
  rw [hQQ] at hQ ⊢
  rw [hRR] at hR ⊢
  rw [hQ, hR] at hrr
  -- the end
  obtain ⟨S, hS⟩ : ∃ S, RR * 2 ^ s = S := ⟨_, rfl⟩
  rw [hS] at hrr
  have e5 : (S : Int) / 2 ^ s = (RR : Int) := by
    have h1 : S / 2 ^ s = RR := by rw [← hS]; exact Nat.mul_div_cancel _ (Nat.pow_pos (by omega))
    rw [← h1]
    simp
  obtain ⟨qa, ra, k, hka, hqa, hra, hraW⟩ : ∃ qa ra k, (W ≤ r ∧ k = 1 ∨ r < W ∧ k = 0) ∧ qa = q0 + k ∧ r = ra + k * d ∧ ra < W := by
    rcases Nat.lt_or_ge r W with h | h
    · exact ⟨q0, r, 0, .inr ⟨h, rfl⟩, by omega, by omega, h⟩
    · exact ⟨q0 + 1, r - d, 1, .inl ⟨h, rfl⟩, rfl, by omega, by omega⟩
  have hend : d ≤ ra ∧ QQ = qa + 1 ∧ S = ra - d ∨ ra < d ∧ QQ = qa ∧ S = ra := by
    rcases Nat.lt_or_ge ra d with h | h
    · right
      obtain ⟨h1, h2⟩ := hrr k (by omega) (by rw [Nat.add_mul, Nat.one_mul]; omega)
      exact ⟨h, by omega, by omega⟩
    · left
      obtain ⟨h1, h2⟩ := hrr (k + 1) (by rw [Nat.add_mul, Nat.one_mul]; omega) (by rw [Nat.add_mul, Nat.add_mul, Nat.one_mul]; rw [W_eq] at hraW; omega)
      rw [Nat.add_mul, Nat.one_mul] at h2
      exact ⟨h, by omega, by omega⟩
  obtain ⟨ru, hru⟩ : ∃ ru, r / W = ru := ⟨_, rfl⟩
  obtain ⟨rl, hrl⟩ : ∃ rl, r % W = rl := ⟨_, rfl⟩
  rw [hru] at g3
  rw [hrl] at g2
  have k1 : ((ru : Int) == 0) = decide (k = 0) := by
    rcases hka with ⟨h1, h2⟩ | ⟨h1, h2⟩
    · have : ru ≠ 0 := by rw [← hru]; have := Nat.div_pos h1 W_pos; omega
      simp [h2, this]
    · have : ru = 0 := by rw [← hru]; exact Nat.div_eq_of_lt h1
      simp [h2, this]
  have k2 : k = 1 → IntKind.u64.wrap ((rl : Int) - (d : Int)) = (ra : Int) := fun h => by
    rw [IntKind.wrap_u64]
    subst h
    rw [W_eq] at *
    omega
  have k2' : k = 0 → ra = rl := fun h => by rw [← hrl, hra, h, Nat.zero_mul, Nat.add_zero, Nat.mod_eq_of_lt hraW]
  rw [g2] at c5
  rw [g1] at c3
  rw [g3] at c6
  rw [← W_eq, hT] at c1
  rw [← W_eq, hD] at c4
  obtain ⟨t1, ht1⟩ : ∃ t1, T / W = t1 := ⟨_, rfl⟩
  obtain ⟨t0, ht0⟩ : ∃ t0, T % W = t0 := ⟨_, rfl⟩
  obtain ⟨d1, hd1⟩ : ∃ d1, D / W = d1 := ⟨_, rfl⟩
  obtain ⟨d0, hd0⟩ : ∃ d0, D % W = d0 := ⟨_, rfl⟩
  rw [ht1, ht0] at c1
  rw [hd1, hd0] at c4
  rw [ht0] at c2
  rw [ht1, ht0] at c3
  rw [hd0] at c5
  rw [hd1, hd0] at c6
  obtain ⟨sa, hsa⟩ : ∃ sa, (t0 + X0 + 0) % W = sa := ⟨_, rfl⟩
  obtain ⟨ca, hca⟩ : ∃ ca, (t0 + X0 + 0) / W = ca := ⟨_, rfl⟩
  rw [hsa, hca] at c2
  rw [hca] at c3
  obtain ⟨cb, hcb⟩ : ∃ cb, (t1 + X1 + ca) / W = cb := ⟨_, rfl⟩
  rw [hcb] at c3
  obtain ⟨ba, hba⟩ : ∃ ba : Nat, (if X0 < d0 + 0 then 1 else 0 : Nat) = ba := ⟨_, rfl⟩
  rw [hba] at c5 c6
  obtain ⟨bb, hbb⟩ : ∃ bb : Nat, (if X1 < d1 + ba then 1 else 0 : Nat) = bb := ⟨_, rfl⟩
  rw [hbb] at c6
  have hsb : ((s : Int) == 0) = decide (s = 0) := by
    by_cases h : s = 0
    · simp [h]
    · simp [h]
  clear hXX hX1 hX0d hQ hR hX0 hX1e hX0e f1 f2 hm hq0 hT hD hr hrr g1 g2 g3 hQQ hRR hS hru hrl hra hmW ht1 ht0 hd1 hd0 hsa hca hcb hba hbb n4 hs
  replace hqa := Lib.hid hqa
  replace hraW := Lib.hid hraW
  have hSW : S < W := by have := hraW.out; omega
  replace hSW := Lib.hid hSW
  have hQw : IntKind.u64.wrap (QQ : Int) = (QQ : Int) := by rw [IntKind.wrap_u64]; rw [W_eq] at *; omega
  have hSw : IntKind.u64.wrap (S : Int) = (S : Int) := by have := hSW.out; rw [IntKind.wrap_u64]; rw [W_eq] at *; omega
  replace hQw := Lib.hid hQw
  replace hSw := Lib.hid hSw
  replace e5 := Lib.hid e5
  have hk : (k = 1 ∧ ru ≠ 0 ∨ k = 0 ∧ ru = 0) := by
    rcases hka with ⟨h1, h2⟩ | ⟨h1, h2⟩
    · left
      refine ⟨h2, fun h => ?_⟩
      rw [h, h2] at k1
      simp at k1
    · right
      refine ⟨h2, ?_⟩
      rw [h2] at k1
      simpa using k1
  clear hka k1 hsb
  -- the two tests behind the guess
  have hfin : ∀ (w : World), True := fun _ => trivial
  rcases Nat.eq_zero_or_pos s with h0 | h0 <;> rcases hk with ⟨kk, hru⟩ | ⟨kk, hru⟩ <;> rcases hend with ⟨m1, m2, m3⟩ | ⟨m1, m2, m3⟩
  · obtain ⟨i1, i2, i3⟩ := z1 h0
    subst i1 i2 i3 h0
    have dS : ((0 : Int) == 0) = true := rfl
    clear e1 e2 e3 e4 ht hd z1
    obtain rfl : S = RR := by have e5' := e5.out; rw [Int.pow_zero, Int.ediv_one] at e5'; omega
    have dk : ((ru : Int) == 0) = false := by simpa using hru
    have k4 := k2 kk
    have k5 : IntKind.u64.wrap ((q0 : Int) + 1) = (qa : Int) := by have := hqa.out; rw [IntKind.wrap_u64]; rw [W_eq] at *; omega
    clear hru k2 k2' kk
    have d2 : decide ((d : Int) ≤ (ra : Int)) = true := decide_eq_true (by omega)
    have d2' : decide (d ≤ ra) = true := decide_eq_true (by omega)
    have k6 : IntKind.u64.wrap ((ra : Int) - (d : Int)) = (S : Int) := by have h1 := hraW.out; rw [IntKind.wrap_u64]; rw [W_eq] at *; omega
    have k7 : IntKind.u64.wrap ((qa : Int) + 1) = (QQ : Int) := by rw [IntKind.wrap_u64]; rw [W_eq] at *; omega
    clear m1 m2 m3
    go_enter Tryz.func120, Tryz.ntmps120
    go_wp2_with fail
    refine (hn.out _).mono ?_
    rintro e w1 ⟨rfl, rfl⟩
    go_wp2_with fail
    refine (c1.out _).mono ?_
    rintro e w1 ⟨rfl, rfl⟩
    go_wp2_with fail
    refine (c2.out _).mono ?_
    rintro e w1 ⟨rfl, rfl⟩
    go_wp2_with fail
    refine (c3.out _).mono ?_
    rintro e w1 ⟨rfl, rfl⟩
    go_wp2_with fail
    refine (c4.out _).mono ?_
    rintro e w1 ⟨rfl, rfl⟩
    go_wp2_with fail
    refine (c5.out _).mono ?_
    rintro e w1 ⟨rfl, rfl⟩
    go_wp2_with fail
    refine (c6.out _).mono ?_
    rintro e w1 ⟨rfl, rfl⟩
    go_wp2
    go_ret2
    exact ⟨rfl, rfl⟩
  · obtain ⟨i1, i2, i3⟩ := z1 h0
    subst i1 i2 i3 h0
    have dS : ((0 : Int) == 0) = true := rfl
    clear e1 e2 e3 e4 ht hd z1
    obtain rfl : S = RR := by have e5' := e5.out; rw [Int.pow_zero, Int.ediv_one] at e5'; omega
    have dk : ((ru : Int) == 0) = false := by simpa using hru
    have k4 := k2 kk
    have k5 : IntKind.u64.wrap ((q0 : Int) + 1) = (qa : Int) := by have := hqa.out; rw [IntKind.wrap_u64]; rw [W_eq] at *; omega
    clear hru k2 k2' kk
    have d2 : decide ((d : Int) ≤ (ra : Int)) = false := decide_eq_false (by omega)
    have d2' : decide (d ≤ ra) = false := decide_eq_false (by omega)
    subst m2 m3
    clear m1
    go_enter Tryz.func120, Tryz.ntmps120
    go_wp2_with fail
    refine (hn.out _).mono ?_
    rintro e w1 ⟨rfl, rfl⟩
    go_wp2_with fail
    refine (c1.out _).mono ?_
    rintro e w1 ⟨rfl, rfl⟩
    go_wp2_with fail
    refine (c2.out _).mono ?_
    rintro e w1 ⟨rfl, rfl⟩
    go_wp2_with fail
    refine (c3.out _).mono ?_
    rintro e w1 ⟨rfl, rfl⟩
    go_wp2_with fail
    refine (c4.out _).mono ?_
    rintro e w1 ⟨rfl, rfl⟩
    go_wp2_with fail
    refine (c5.out _).mono ?_
    rintro e w1 ⟨rfl, rfl⟩
    go_wp2_with fail
    refine (c6.out _).mono ?_
    rintro e w1 ⟨rfl, rfl⟩
    go_wp2
    go_ret2
    exact ⟨rfl, rfl⟩
  · obtain ⟨i1, i2, i3⟩ := z1 h0
    subst i1 i2 i3 h0
    have dS : ((0 : Int) == 0) = true := rfl
    clear e1 e2 e3 e4 ht hd z1
    obtain rfl : S = RR := by have e5' := e5.out; rw [Int.pow_zero, Int.ediv_one] at e5'; omega
    subst hru
    obtain rfl := k2' kk
    obtain rfl : qa = q0 := by have := hqa.out; omega
    clear k2 k2' kk hqa
    have d2 : decide ((d : Int) ≤ (ra : Int)) = true := decide_eq_true (by omega)
    have d2' : decide (d ≤ ra) = true := decide_eq_true (by omega)
    have k6 : IntKind.u64.wrap ((ra : Int) - (d : Int)) = (S : Int) := by have h1 := hraW.out; rw [IntKind.wrap_u64]; rw [W_eq] at *; omega
    have k7 : IntKind.u64.wrap ((qa : Int) + 1) = (QQ : Int) := by rw [IntKind.wrap_u64]; rw [W_eq] at *; omega
    clear m1 m2 m3
    go_enter Tryz.func120, Tryz.ntmps120
    go_wp2_with fail
    refine (hn.out _).mono ?_
    rintro e w1 ⟨rfl, rfl⟩
    go_wp2_with fail
    refine (c1.out _).mono ?_
    rintro e w1 ⟨rfl, rfl⟩
    go_wp2_with fail
    refine (c2.out _).mono ?_
    rintro e w1 ⟨rfl, rfl⟩
    go_wp2_with fail
    refine (c3.out _).mono ?_
    rintro e w1 ⟨rfl, rfl⟩
    go_wp2_with fail
    refine (c4.out _).mono ?_
    rintro e w1 ⟨rfl, rfl⟩
    go_wp2_with fail
    refine (c5.out _).mono ?_
    rintro e w1 ⟨rfl, rfl⟩
    go_wp2_with fail
    refine (c6.out _).mono ?_
    rintro e w1 ⟨rfl, rfl⟩
    go_wp2
    go_ret2
    exact ⟨rfl, rfl⟩
  · obtain ⟨i1, i2, i3⟩ := z1 h0
    subst i1 i2 i3 h0
    have dS : ((0 : Int) == 0) = true := rfl
    clear e1 e2 e3 e4 ht hd z1
    obtain rfl : S = RR := by have e5' := e5.out; rw [Int.pow_zero, Int.ediv_one] at e5'; omega
    subst hru
    obtain rfl := k2' kk
    obtain rfl : qa = q0 := by have := hqa.out; omega
    clear k2 k2' kk hqa
    have d2 : decide ((d : Int) ≤ (ra : Int)) = false := decide_eq_false (by omega)
    have d2' : decide (d ≤ ra) = false := decide_eq_false (by omega)
    subst m2 m3
    clear m1
    go_enter Tryz.func120, Tryz.ntmps120
    go_wp2_with fail
    refine (hn.out _).mono ?_
    rintro e w1 ⟨rfl, rfl⟩
    go_wp2_with fail
    refine (c1.out _).mono ?_
    rintro e w1 ⟨rfl, rfl⟩
    go_wp2_with fail
    refine (c2.out _).mono ?_
    rintro e w1 ⟨rfl, rfl⟩
    go_wp2_with fail
    refine (c3.out _).mono ?_
    rintro e w1 ⟨rfl, rfl⟩
    go_wp2_with fail
    refine (c4.out _).mono ?_
    rintro e w1 ⟨rfl, rfl⟩
    go_wp2_with fail
    refine (c5.out _).mono ?_
    rintro e w1 ⟨rfl, rfl⟩
    go_wp2_with fail
    refine (c6.out _).mono ?_
    rintro e w1 ⟨rfl, rfl⟩
    go_wp2
    go_ret2
    exact ⟨rfl, rfl⟩
  · have dS : ((s : Int) == 0) = false := by simp; omega
    clear z1 hd
    have dk : ((ru : Int) == 0) = false := by simpa using hru
    have k4 := k2 kk
    have k5 : IntKind.u64.wrap ((q0 : Int) + 1) = (qa : Int) := by have := hqa.out; rw [IntKind.wrap_u64]; rw [W_eq] at *; omega
    clear hru k2 k2' kk
    have d2 : decide ((d : Int) ≤ (ra : Int)) = true := decide_eq_true (by omega)
    have d2' : decide (d ≤ ra) = true := decide_eq_true (by omega)
    have k6 : IntKind.u64.wrap ((ra : Int) - (d : Int)) = (S : Int) := by have h1 := hraW.out; rw [IntKind.wrap_u64]; rw [W_eq] at *; omega
    have k7 : IntKind.u64.wrap ((qa : Int) + 1) = (QQ : Int) := by rw [IntKind.wrap_u64]; rw [W_eq] at *; omega
    clear m1 m2 m3
    go_enter Tryz.func120, Tryz.ntmps120
    go_wp2_with fail
    refine (hn.out _).mono ?_
    rintro e w1 ⟨rfl, rfl⟩
    go_wp2_with fail
    refine (c1.out _).mono ?_
    rintro e w1 ⟨rfl, rfl⟩
    go_wp2_with fail
    refine (c2.out _).mono ?_
    rintro e w1 ⟨rfl, rfl⟩
    go_wp2_with fail
    refine (c3.out _).mono ?_
    rintro e w1 ⟨rfl, rfl⟩
    go_wp2_with fail
    refine (c4.out _).mono ?_
    rintro e w1 ⟨rfl, rfl⟩
    go_wp2_with fail
    refine (c5.out _).mono ?_
    rintro e w1 ⟨rfl, rfl⟩
    go_wp2_with fail
    refine (c6.out _).mono ?_
    rintro e w1 ⟨rfl, rfl⟩
    go_wp2
    go_ret2
    exact ⟨by rw [e5.out]; rfl, rfl⟩
  · have dS : ((s : Int) == 0) = false := by simp; omega
    clear z1 hd
    have dk : ((ru : Int) == 0) = false := by simpa using hru
    have k4 := k2 kk
    have k5 : IntKind.u64.wrap ((q0 : Int) + 1) = (qa : Int) := by have := hqa.out; rw [IntKind.wrap_u64]; rw [W_eq] at *; omega
    clear hru k2 k2' kk
    have d2 : decide ((d : Int) ≤ (ra : Int)) = false := decide_eq_false (by omega)
    have d2' : decide (d ≤ ra) = false := decide_eq_false (by omega)
    subst m2 m3
    clear m1
    go_enter Tryz.func120, Tryz.ntmps120
    go_wp2_with fail
    refine (hn.out _).mono ?_
    rintro e w1 ⟨rfl, rfl⟩
    go_wp2_with fail
    refine (c1.out _).mono ?_
    rintro e w1 ⟨rfl, rfl⟩
    go_wp2_with fail
    refine (c2.out _).mono ?_
    rintro e w1 ⟨rfl, rfl⟩
    go_wp2_with fail
    refine (c3.out _).mono ?_
    rintro e w1 ⟨rfl, rfl⟩
    go_wp2_with fail
    refine (c4.out _).mono ?_
    rintro e w1 ⟨rfl, rfl⟩
    go_wp2_with fail
    refine (c5.out _).mono ?_
    rintro e w1 ⟨rfl, rfl⟩
    go_wp2_with fail
    refine (c6.out _).mono ?_
    rintro e w1 ⟨rfl, rfl⟩
    go_wp2
    go_ret2
    exact ⟨by rw [e5.out]; rfl, rfl⟩
  · have dS : ((s : Int) == 0) = false := by simp; omega
    clear z1 hd
    subst hru
    obtain rfl := k2' kk
    obtain rfl : qa = q0 := by have := hqa.out; omega
    clear k2 k2' kk hqa
    have d2 : decide ((d : Int) ≤ (ra : Int)) = true := decide_eq_true (by omega)
    have d2' : decide (d ≤ ra) = true := decide_eq_true (by omega)
    have k6 : IntKind.u64.wrap ((ra : Int) - (d : Int)) = (S : Int) := by have h1 := hraW.out; rw [IntKind.wrap_u64]; rw [W_eq] at *; omega
    have k7 : IntKind.u64.wrap ((qa : Int) + 1) = (QQ : Int) := by rw [IntKind.wrap_u64]; rw [W_eq] at *; omega
    clear m1 m2 m3
    go_enter Tryz.func120, Tryz.ntmps120
    go_wp2_with fail
    refine (hn.out _).mono ?_
    rintro e w1 ⟨rfl, rfl⟩
    go_wp2_with fail
    refine (c1.out _).mono ?_
    rintro e w1 ⟨rfl, rfl⟩
    go_wp2_with fail
    refine (c2.out _).mono ?_
    rintro e w1 ⟨rfl, rfl⟩
    go_wp2_with fail
    refine (c3.out _).mono ?_
    rintro e w1 ⟨rfl, rfl⟩
    go_wp2_with fail
    refine (c4.out _).mono ?_
    rintro e w1 ⟨rfl, rfl⟩
    go_wp2_with fail
    refine (c5.out _).mono ?_
    rintro e w1 ⟨rfl, rfl⟩
    go_wp2_with fail
    refine (c6.out _).mono ?_
    rintro e w1 ⟨rfl, rfl⟩
    go_wp2
    go_ret2
    exact ⟨by rw [e5.out]; rfl, rfl⟩
  · have dS : ((s : Int) == 0) = false := by simp; omega
    clear z1 hd
    subst hru
    obtain rfl := k2' kk
    obtain rfl : qa = q0 := by have := hqa.out; omega
    clear k2 k2' kk hqa
    have d2 : decide ((d : Int) ≤ (ra : Int)) = false := decide_eq_false (by omega)
    have d2' : decide (d ≤ ra) = false := decide_eq_false (by omega)
    subst m2 m3
    clear m1
    go_enter Tryz.func120, Tryz.ntmps120
    go_wp2_with fail
    refine (hn.out _).mono ?_
    rintro e w1 ⟨rfl, rfl⟩
    go_wp2_with fail
    refine (c1.out _).mono ?_
    rintro e w1 ⟨rfl, rfl⟩
    go_wp2_with fail
    refine (c2.out _).mono ?_
    rintro e w1 ⟨rfl, rfl⟩
    go_wp2_with fail
    refine (c3.out _).mono ?_
    rintro e w1 ⟨rfl, rfl⟩
    go_wp2_with fail
    refine (c4.out _).mono ?_
    rintro e w1 ⟨rfl, rfl⟩
    go_wp2_with fail
    refine (c5.out _).mono ?_
    rintro e w1 ⟨rfl, rfl⟩
    go_wp2_with fail
    refine (c6.out _).mono ?_
    rintro e w1 ⟨rfl, rfl⟩
    go_wp2
    go_ret2
    exact ⟨by rw [e5.out]; rfl, rfl⟩
end Go.Proofs.YtpjkfdgkkpkljaaGreatDoor.Knuth
