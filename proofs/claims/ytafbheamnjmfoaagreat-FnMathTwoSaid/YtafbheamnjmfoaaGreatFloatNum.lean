/-
  Finite floats as multiples of the least one: rounding of what a float can say is exact; sums, products and the order of what is not below 0. Plain.
-/
import Derived.Test.YtafbheamnjmfoaaGreatFloatLaw
namespace Go.Proofs.YtafbheamnjmfoaaGreat.Fl
open Ieee
set_option linter.unusedVariables false

/-- a finite float's magnitude, in units of the least one -/
def nval (b : Nat) : Nat := fman b * 2 ^ (fexp b - 1)
/-- the bits of infinity -/
def infB : Nat := 9218868437227405312
theorem pos_parts {b : Nat} (h : b < infB) : b = fexp b * 4503599627370496 + ffr b ∧ fexp b < 2047 ∧ fneg b = false ∧ ffr b < 4503599627370496 := by
  unfold infB at h
  refine ⟨by unfold fexp ffr; omega, by unfold fexp; omega, ?_, ffr_lt b⟩
  unfold fneg
  rw [show b / 9223372036854775808 = 0 by omega]
  rfl
theorem nval_zero {b : Nat} (h : b < infB) (h0 : nval b = 0) : b = 0 := by
  obtain ⟨h1, -, -, -⟩ := pos_parts h
  unfold nval at h0
  have hp := Nat.two_pow_pos (fexp b - 1)
  rcases Nat.mul_eq_zero.1 h0 with h2 | h2
  · unfold fman at h2
    split at h2 <;> omega
  · omega
theorem nval_pos {b : Nat} (h : b < infB) (h0 : 0 < b) : 0 < nval b := by
  rcases Nat.eq_zero_or_pos (nval b) with h1 | h1
  · have := nval_zero h h1; omega
  · exact h1
theorem nval_0 : nval 0 = 0 := by decide +kernel
/-- between which powers of 2 it lies -/
theorem nval_sub {b : Nat} (h : fexp b = 0) : nval b = ffr b := by
  unfold nval fman
  rw [h, if_pos rfl]
  simp
theorem nval_nor {b : Nat} (h : fexp b ≠ 0) : nval b = (4503599627370496 + ffr b) * 2 ^ (fexp b - 1) := by
  unfold nval fman
  rw [if_neg h]
theorem nval_low {b : Nat} (h : fexp b ≠ 0) : 2 ^ (51 + fexp b) ≤ nval b := by
  rw [nval_nor h, show 51 + fexp b = 52 + (fexp b - 1) by omega, Nat.pow_add]
  exact Nat.mul_le_mul_right _ (by omega)
theorem nval_high (b : Nat) : nval b < 2 ^ (52 + fexp b) := by
  have hf := ffr_lt b
  by_cases h : fexp b = 0
  · rw [nval_sub h, h]; exact hf
  · rw [nval_nor h, show 52 + fexp b = 53 + (fexp b - 1) by omega, Nat.pow_add]
    exact Nat.mul_lt_mul_of_pos_right (by omega) (Nat.two_pow_pos _)
theorem nval_mono {b c : Nat} (hc : c < infB) (h : b < c) : nval b < nval c := by
  obtain ⟨b1, b2, b3, b4⟩ := pos_parts (show b < infB by omega)
  obtain ⟨c1, c2, c3, c4⟩ := pos_parts hc
  by_cases he : fexp b = fexp c
  · have hf : ffr b < ffr c := by rw [he] at b1; omega
    unfold nval fman
    rw [he]
    refine Nat.mul_lt_mul_of_pos_right ?_ (Nat.two_pow_pos _)
    split <;> omega
  · have hlt : fexp b < fexp c := by omega
    refine Nat.lt_of_lt_of_le (nval_high b) (Nat.le_trans ?_ (nval_low (by omega)))
    exact Nat.pow_le_pow_right (by omega) (by omega)
theorem nval_inj {b c : Nat} (hb : b < infB) (hc : c < infB) (h : nval b = nval c) : b = c := by
  rcases Nat.lt_trichotomy b c with h1 | h1 | h1
  · have := nval_mono hc h1; omega
  · exact h1
  · have := nval_mono hb h1; omega
theorem nval_le {b c : Nat} (hb : b < infB) (h : nval b ≤ nval c) : b ≤ c := by
  rcases Nat.lt_or_ge c b with h1 | h1
  · have := nval_mono hb h1; omega
  · exact h1
/-- each number of so many digits is a float -/
theorem nval_rep (n i E : Nat) (hE : E = 2098) (hn : n < 9007199254740992) (hi : n * 2 ^ i < 2 ^ E) : ∃ c, c < infB ∧ nval c = n * 2 ^ i := by
  rcases Nat.eq_zero_or_pos n with rfl | h0
  · exact ⟨0, by decide, by rw [nval_0, Nat.zero_mul]⟩
  obtain ⟨L, hL⟩ : ∃ L, Nat.log2 n = L := ⟨_, rfl⟩
  have h1 : 2 ^ L ≤ n := by rw [← hL]; exact Nat.log2_self_le (by omega)
  have h2 : n < 2 ^ (L + 1) := by rw [← hL]; exact Nat.lt_log2_self
  have hL52 : L ≤ 52 := by
    rcases Nat.lt_or_ge 52 L with h | h
    · have := Nat.pow_le_pow_right (show 0 < 2 by omega) (show 53 ≤ L by omega)
      omega
    · exact h
  by_cases hs : L + i < 52
  · have hlt : n * 2 ^ i < 4503599627370496 := by
      have e : (4503599627370496 : Nat) = 2 ^ (L + 1) * 2 ^ (51 - L) := by rw [← Nat.pow_add, show L + 1 + (51 - L) = 52 by omega]
      rw [e]
      exact Nat.lt_of_lt_of_le (Nat.mul_lt_mul_of_pos_right h2 (Nat.two_pow_pos _)) (Nat.mul_le_mul_left _ (Nat.pow_le_pow_right (by omega) (by omega)))
    refine ⟨n * 2 ^ i, by unfold infB; omega, ?_⟩
    rw [nval_sub (by unfold fexp; omega)]
    unfold ffr
    exact Nat.mod_eq_of_lt hlt
  · obtain ⟨s, hs'⟩ : ∃ s, L + s = 52 := ⟨52 - L, by omega⟩
    obtain ⟨e, he⟩ : ∃ e, i = s + e := ⟨i - s, by omega⟩
    have h3 : 4503599627370496 ≤ n * 2 ^ s := by
      rw [show (4503599627370496 : Nat) = 2 ^ L * 2 ^ s by rw [← Nat.pow_add, hs']]
      exact Nat.mul_le_mul_right _ h1
    have h4 : n * 2 ^ s < 9007199254740992 := by
      rw [show (9007199254740992 : Nat) = 2 ^ (L + 1) * 2 ^ s by rw [← Nat.pow_add, show L + 1 + s = 53 by omega]]
      exact Nat.mul_lt_mul_of_pos_right h2 (Nat.two_pow_pos _)
    have h5 : e < 2046 := by
      rcases Nat.lt_or_ge e 2046 with h | h
      · exact h
      · exfalso
        have h6 : 2 ^ E ≤ n * 2 ^ i := by
          rw [he, Nat.pow_add, ← Nat.mul_assoc, show E = 52 + (E - 52) by omega, Nat.pow_add]
          exact Nat.mul_le_mul h3 (Nat.pow_le_pow_right (by omega) (by omega))
        exact absurd hi (Nat.not_lt.2 h6)
    obtain ⟨M, hM⟩ : ∃ M, n * 2 ^ s = M := ⟨_, rfl⟩
    rw [hM] at h3 h4
    refine ⟨e * 4503599627370496 + M, by unfold infB; omega, ?_⟩
    have e1 : fexp (e * 4503599627370496 + M) = e + 1 := by unfold fexp; omega
    have e2 : ffr (e * 4503599627370496 + M) = M - 4503599627370496 := by unfold ffr; omega
    rw [nval_nor (by omega), e1, e2, he, Nat.pow_add, ← Nat.mul_assoc, hM, show 4503599627370496 + (M - 4503599627370496) = M by omega, Nat.add_sub_cancel]

theorem log2_mul (m k : Nat) (h : 0 < m) : Nat.log2 (m * 2 ^ k) = Nat.log2 m + k := by
  have hm : m * 2 ^ k ≠ 0 := by have := Nat.mul_pos h (Nat.two_pow_pos k); omega
  have h1 := Nat.log2_self_le (show m ≠ 0 by omega)
  have h2 := @Nat.lt_log2_self m
  refine Nat.le_antisymm ?_ ?_
  · have : Nat.log2 (m * 2 ^ k) < Nat.log2 m + k + 1 := by
      rw [Nat.log2_lt hm, show m.log2 + k + 1 = (m.log2 + 1) + k by omega, Nat.pow_add]
      exact Nat.mul_lt_mul_of_pos_right h2 (Nat.two_pow_pos _)
    omega
  · rw [Nat.le_log2 hm, Nat.pow_add]
    exact Nat.mul_le_mul_right _ h1
/-- the place of the last digit of a float that is not 0 -/
theorem nval_place {c : Nat} (hc : c < infB) (h0 : 0 < c) : Nat.log2 (nval c) - 52 = fexp c - 1 ∧ (fexp c = 0 → Nat.log2 (nval c) < 52) := by
  have hp := nval_pos hc h0
  have h2 := nval_high c
  by_cases he : fexp c = 0
  · rw [he] at h2
    have : Nat.log2 (nval c) < 52 := (Nat.log2_lt (by omega)).2 h2
    exact ⟨by omega, fun _ => this⟩
  · have h1 := nval_low he
    have h3 : Nat.log2 (nval c) < 52 + fexp c := (Nat.log2_lt (by omega)).2 h2
    have h4 : 51 + fexp c ≤ Nat.log2 (nval c) := (Nat.le_log2 (by omega)).2 h1
    exact ⟨by omega, fun h => absurd h he⟩
theorem cut_exact (neg : Bool) (k d : Nat) (hk : 0 < k) : Toward.even.cut neg (k * 2 ^ d) d = k := by
  have hl : min d ((k * 2 ^ d).log2 + 2) = d := by rw [log2_mul k d hk]; omega
  unfold Toward.cut
  rw [hl]
  simp only [Nat.shiftLeft_eq, Nat.one_mul]
  have hp := Nat.two_pow_pos d
  rw [Nat.mul_div_cancel _ hp, Nat.mul_mod_left]
  have e1 : decide (2 ^ d < 2 * 0) = false := by simp
  have e2 : (2 ^ d == 2 * 0) = false := by
    rw [beq_eq_false_iff_ne]
    omega
  rw [e1, e2]
  rfl
theorem pos_word {c : Nat} (hc : c < infB) : (fexp c - 1) * 4503599627370496 + fman c = c := by
  obtain ⟨c1, c2, c3, c4⟩ := pos_parts hc
  unfold fman
  split <;> omega
/-- what a float can say is written as it is -/
theorem near_up (neg : Bool) (m q c : Nat) (hc : c < infB) (h : m * 2 ^ q = nval c) : double.nearest neg m ((q : Int) - 1074) = double.word neg c := by
  unfold Format.nearest
  rw [d_binade, d_inf, d_least]
  by_cases hm : m = 0
  · rw [if_pos hm]
    rw [hm, Nat.zero_mul] at h
    rw [nval_zero hc h.symm]
  · rw [if_neg hm]
    have hn : 0 < nval c := by rw [← h]; exact Nat.mul_pos (by omega) (Nat.two_pow_pos _)
    have hc0 : 0 < c := by
      rcases Nat.eq_zero_or_pos c with rfl | h0
      · rw [nval_0] at hn; omega
      · exact h0
    obtain ⟨hp, -⟩ := nval_place hc hc0
    have hlog : Nat.log2 (nval c) = Nat.log2 m + q := by rw [← h]; exact log2_mul m q (by omega)
    obtain ⟨t, ht⟩ : ∃ t, fexp c - 1 = t := ⟨_, rfl⟩
    rw [ht] at hp
    have hf : double.fractionBits = 52 := rfl
    have hlast : max ((q : Int) - 1074 + (m.log2 : Nat) - (double.fractionBits : Nat)) (-1074) = (t : Int) - 1074 := by rw [hf]; omega
    simp only [hlast]
    have e1 : ((q : Int) - 1074 - ((t : Int) - 1074)).toNat = q - t := by omega
    have e2 : (((t : Int) - 1074) - ((q : Int) - 1074)).toNat = t - q := by omega
    have e3 : (((t : Int) - 1074) - -1074).toNat = t := by omega
    rw [e1, e2, e3]
    have hv : nval c = fman c * 2 ^ t := by unfold nval; rw [ht]
    have hk : 0 < fman c := by
      rcases Nat.eq_zero_or_pos (fman c) with h0 | h0
      · rw [hv, h0, Nat.zero_mul] at hn; omega
      · exact h0
    have hkept : Toward.even.cut neg (m <<< (q - t)) (t - q) = fman c := by
      rw [Nat.shiftLeft_eq]
      rcases Nat.le_total t q with hle | hle
      · have e : m * 2 ^ (q - t) = fman c := by
          have : m * 2 ^ (q - t) * 2 ^ t = fman c * 2 ^ t := by rw [Nat.mul_assoc, ← Nat.pow_add, show q - t + t = q by omega, h, hv]
          exact Nat.eq_of_mul_eq_mul_right (Nat.two_pow_pos t) this
        rw [e, show t - q = 0 by omega]
        have := cut_exact neg (fman c) 0 hk
        rwa [Nat.pow_zero, Nat.mul_one] at this
      · have e : m = fman c * 2 ^ (t - q) := by
          have : m * 2 ^ q = fman c * 2 ^ (t - q) * 2 ^ q := by rw [Nat.mul_assoc, ← Nat.pow_add, show t - q + q = t by omega, h, hv]
          exact Nat.eq_of_mul_eq_mul_right (Nat.two_pow_pos q) this
        rw [show q - t = 0 by omega, Nat.pow_zero, Nat.mul_one]
        conv => lhs; rw [e]
        exact cut_exact neg (fman c) (t - q) hk
    rw [hkept, ← ht, pos_word hc]
    congr 1
    exact Nat.min_eq_left (by unfold infB at hc; omega)
/-- likewise of what is told at a lower place -/
theorem near_down (neg : Bool) (m s c : Nat) (hc : c < infB) (h : m = nval c * 2 ^ s) : double.nearest neg m (-1074 - (s : Int)) = double.word neg c := by
  unfold Format.nearest
  rw [d_binade, d_inf, d_least]
  by_cases hm : m = 0
  · rw [if_pos hm]
    have : nval c = 0 := by
      rcases Nat.mul_eq_zero.1 (h.symm.trans hm) with h1 | h1
      · exact h1
      · have := Nat.two_pow_pos s; omega
    rw [nval_zero hc this]
  · rw [if_neg hm]
    have hn : 0 < nval c := by
      rcases Nat.eq_zero_or_pos (nval c) with h0 | h0
      · rw [h0, Nat.zero_mul] at h; omega
      · exact h0
    have hc0 : 0 < c := by
      rcases Nat.eq_zero_or_pos c with rfl | h0
      · rw [nval_0] at hn; omega
      · exact h0
    obtain ⟨hp, -⟩ := nval_place hc hc0
    have hlog : Nat.log2 m = Nat.log2 (nval c) + s := by rw [h]; exact log2_mul _ s hn
    obtain ⟨t, ht⟩ : ∃ t, fexp c - 1 = t := ⟨_, rfl⟩
    rw [ht] at hp
    have hf : double.fractionBits = 52 := rfl
    have hlast : max (-1074 - (s : Int) + (m.log2 : Nat) - (double.fractionBits : Nat)) (-1074) = (t : Int) - 1074 := by rw [hf]; omega
    simp only [hlast]
    have e1 : (-1074 - (s : Int) - ((t : Int) - 1074)).toNat = 0 := by omega
    have e2 : (((t : Int) - 1074) - (-1074 - (s : Int))).toNat = t + s := by omega
    have e3 : (((t : Int) - 1074) - -1074).toNat = t := by omega
    rw [e1, e2, e3]
    have hv : nval c = fman c * 2 ^ t := by unfold nval; rw [ht]
    have hk : 0 < fman c := by
      rcases Nat.eq_zero_or_pos (fman c) with h0 | h0
      · rw [hv, h0, Nat.zero_mul] at hn; omega
      · exact h0
    have hkept : Toward.even.cut neg (m <<< 0) (t + s) = fman c := by
      rw [Nat.shiftLeft_eq, Nat.pow_zero, Nat.mul_one, h, hv, Nat.mul_assoc, ← Nat.pow_add]
      exact cut_exact neg (fman c) (t + s) hk
    rw [hkept, ← ht, pos_word hc]
    congr 1
    exact Nat.min_eq_left (by unfold infB at hc; omega)
theorem word_pos (c : Nat) : double.word false c = c := rfl
theorem read_pos {b : Nat} (h : b < infB) : double.read b = .number false (fman b) (((fexp b - 1 : Nat) : Int) - 1074) := by
  obtain ⟨h1, h2, h3, h4⟩ := pos_parts h
  rw [read_num b h2, h3]
  congr 1
  unfold fpow
  split <;> omega
theorem scaled (m i base : Nat) (h : base ≤ i) : m * 2 ^ (i - base) * 2 ^ base = m * 2 ^ i := by rw [Nat.mul_assoc, ← Nat.pow_add, show i - base + base = i by omega]
theorem order_pos {x y : Nat} (hx : x < infB) (hy : y < infB) : double.order x y = some (if x < y then .lt else if x = y then .eq else .gt) := by
  unfold Format.order
  rw [read_pos hx, read_pos hy]
  simp only [Datum.order, signed_eq, sgnd, Option.some.injEq]
  obtain ⟨i, hi⟩ : ∃ i, fexp x - 1 = i := ⟨_, rfl⟩
  obtain ⟨j, hj⟩ : ∃ j, fexp y - 1 = j := ⟨_, rfl⟩
  have vx : nval x = fman x * 2 ^ i := by unfold nval; rw [hi]
  have vy : nval y = fman y * 2 ^ j := by unfold nval; rw [hj]
  rw [hi, hj]
  obtain ⟨b, hb⟩ : ∃ b, min i j = b := ⟨_, rfl⟩
  have e1 : ((i : Int) - 1074 - min ((i : Int) - 1074) ((j : Int) - 1074)).toNat = i - b := by omega
  have e2 : ((j : Int) - 1074 - min ((i : Int) - 1074) ((j : Int) - 1074)).toNat = j - b := by omega
  rw [e1, e2, cmp_int]
  have s1 := scaled (fman x) i b (by omega)
  have s2 := scaled (fman y) j b (by omega)
  rw [← vx] at s1
  rw [← vy] at s2
  obtain ⟨X, hX⟩ : ∃ X, fman x * 2 ^ (i - b) = X := ⟨_, rfl⟩
  obtain ⟨Y, hY⟩ : ∃ Y, fman y * 2 ^ (j - b) = Y := ⟨_, rfl⟩
  rw [hX] at s1 ⊢
  rw [hY] at s2 ⊢
  have hp := Nat.two_pow_pos b
  simp only [Bool.false_eq_true, if_false]
  rcases Nat.lt_trichotomy x y with h | h | h
  · have := nval_mono hy h
    rw [← s1, ← s2] at this
    have := Nat.lt_of_mul_lt_mul_right this
    rw [if_pos h, if_pos (by omega)]
  · subst h
    have : X = Y := Nat.eq_of_mul_eq_mul_right hp (s1.trans s2.symm)
    rw [if_neg (by omega), if_pos (by omega), if_neg (by omega), if_pos rfl]
  · have := nval_mono hx h
    rw [← s1, ← s2] at this
    have := Nat.lt_of_mul_lt_mul_right this
    rw [if_neg (by omega), if_neg (by omega), if_neg (by omega), if_neg (by omega)]
theorem sub_pos {x y c : Nat} (hx : x < infB) (hy : y < infB) (hc : c < infB) (hle : y ≤ x) (h : nval x = nval y + nval c) : double.sub x y = some c := by
  unfold Format.sub
  rw [read_pos hx, read_pos hy]
  simp only [Datum.opposite, Datum.sum, signed_eq, sgnd, Option.map_some, Bool.not_false, Bool.false_eq_true, if_false, if_true, Option.some.injEq, Bool.false_and]
  obtain ⟨i, hi⟩ : ∃ i, fexp x - 1 = i := ⟨_, rfl⟩
  obtain ⟨j, hj⟩ : ∃ j, fexp y - 1 = j := ⟨_, rfl⟩
  have vx : nval x = fman x * 2 ^ i := by unfold nval; rw [hi]
  have vy : nval y = fman y * 2 ^ j := by unfold nval; rw [hj]
  rw [hi, hj]
  obtain ⟨b, hb⟩ : ∃ b, min i j = b := ⟨_, rfl⟩
  have e0 : min ((i : Int) - 1074) ((j : Int) - 1074) = (b : Int) - 1074 := by omega
  rw [e0]
  have e1 : ((i : Int) - 1074 - ((b : Int) - 1074)).toNat = i - b := by omega
  have e2 : ((j : Int) - 1074 - ((b : Int) - 1074)).toNat = j - b := by omega
  rw [e1, e2]
  have s1 := scaled (fman x) i b (by omega)
  have s2 := scaled (fman y) j b (by omega)
  rw [← vx] at s1
  rw [← vy] at s2
  obtain ⟨X, hX⟩ : ∃ X, fman x * 2 ^ (i - b) = X := ⟨_, rfl⟩
  obtain ⟨Y, hY⟩ : ∃ Y, fman y * 2 ^ (j - b) = Y := ⟨_, rfl⟩
  rw [hX] at s1 ⊢
  rw [hY] at s2 ⊢
  have hp := Nat.two_pow_pos b
  have hXY : Y ≤ X := by
    have : Y * 2 ^ b ≤ X * 2 ^ b := by omega
    exact Nat.le_of_mul_le_mul_right this hp
  have hs : (if (X : Int) + -(Y : Int) = 0 then false else decide ((X : Int) + -(Y : Int) < 0)) = false := by
    split
    · rfl
    · simp; omega
  rw [hs]
  show double.nearest false ((X : Int) + -(Y : Int)).natAbs ((b : Int) - 1074) = c
  rw [show ((X : Int) + -(Y : Int)).natAbs = X - Y by omega]
  refine near_up false (X - Y) b c hc ?_
  rw [Nat.sub_mul]
  omega
theorem sub_self_zero {x y c : Nat} (hx : x < infB) : double.sub x x = some 0 := sub_pos hx hx (by decide) (Nat.le_refl _) (by rw [nval_0]; omega)
/-- times 2 to the 52nd -/
theorem mul_52 {x c : Nat} (hx : x < infB) (hc : c < infB) (h : nval c = nval x * 2 ^ 52) : double.mul x 4841369599423283200 = some c := by
  have hr : double.read 4841369599423283200 = .number false 4503599627370496 0 := by decide +kernel
  unfold Format.mul
  rw [read_pos hx, hr]
  simp only [Datum.product, Option.map_some, Option.some.injEq, Int.add_zero]
  show double.nearest (false ^^ false) _ _ = c
  refine near_up false _ (fexp x - 1) c hc ?_
  rw [h]
  unfold nval
  rw [Nat.mul_right_comm, show (4503599627370496 : Nat) = 2 ^ 52 by rfl]
/-- 1 times it -/
theorem mul_one {x : Nat} (hx : x < infB) : double.mul 4607182418800017408 x = some x := by
  have hr : double.read 4607182418800017408 = .number false 4503599627370496 (-52) := by decide +kernel
  unfold Format.mul
  rw [read_pos hx, hr]
  simp only [Datum.product, Option.map_some, Option.some.injEq]
  obtain ⟨i, hi⟩ : ∃ i, fexp x - 1 = i := ⟨_, rfl⟩
  have vx : nval x = fman x * 2 ^ i := by unfold nval; rw [hi]
  rw [hi]
  show double.nearest (false ^^ false) _ _ = x
  rcases Nat.lt_or_ge i 52 with h | h
  · rw [show (-52 : Int) + ((i : Int) - 1074) = -1074 - ((52 - i : Nat) : Int) by omega]
    refine near_down false _ (52 - i) x hx ?_
    rw [vx, Nat.mul_assoc, ← Nat.pow_add, show i + (52 - i) = 52 by omega, Nat.mul_comm]
  · rw [show (-52 : Int) + ((i : Int) - 1074) = ((i - 52 : Nat) : Int) - 1074 by omega]
    refine near_up false _ (i - 52) x hx ?_
    rw [vx, Nat.mul_comm 4503599627370496, Nat.mul_assoc, show (4503599627370496 : Nat) = 2 ^ 52 by rfl, ← Nat.pow_add, show 52 + (i - 52) = i by omega]
/-- divided by 2 to the 53rd -/
theorem mul_m53 {x c : Nat} (hx : x < infB) (hc : c < infB) (h : nval x = nval c * 2 ^ 53) : double.mul 4368491638549381120 x = some c := by
  have hr : double.read 4368491638549381120 = .number false 4503599627370496 (-105) := by decide +kernel
  unfold Format.mul
  rw [read_pos hx, hr]
  simp only [Datum.product, Option.map_some, Option.some.injEq]
  obtain ⟨i, hi⟩ : ∃ i, fexp x - 1 = i := ⟨_, rfl⟩
  have vx : nval x = fman x * 2 ^ i := by unfold nval; rw [hi]
  rw [hi]
  show double.nearest (false ^^ false) _ _ = c
  have hc' : nval c * 2 ^ 105 = 4503599627370496 * fman x * 2 ^ i := by
    rw [Nat.mul_assoc, ← vx, h, Nat.mul_left_comm, show (4503599627370496 : Nat) = 2 ^ 52 by rfl, ← Nat.pow_add]
  rcases Nat.lt_or_ge i 105 with h1 | h1
  · rw [show (-105 : Int) + ((i : Int) - 1074) = -1074 - ((105 - i : Nat) : Int) by omega]
    refine near_down false _ (105 - i) c hc ?_
    refine Nat.eq_of_mul_eq_mul_right (Nat.two_pow_pos i) ?_
    rw [← hc', Nat.mul_assoc, ← Nat.pow_add, show 105 - i + i = 105 by omega]
  · rw [show (-105 : Int) + ((i : Int) - 1074) = ((i - 105 : Nat) : Int) - 1074 by omega]
    refine near_up false _ (i - 105) c hc ?_
    refine Nat.eq_of_mul_eq_mul_right (Nat.two_pow_pos 105) ?_
    rw [hc', Nat.mul_assoc, ← Nat.pow_add, show i - 105 + 105 = i by omega]
end Go.Proofs.YtafbheamnjmfoaaGreat.Fl
