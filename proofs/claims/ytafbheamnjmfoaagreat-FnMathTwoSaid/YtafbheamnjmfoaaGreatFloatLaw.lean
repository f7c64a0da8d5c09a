/-
  Words of 64 bits as floats: sign, integer, power of 2; how they stand to the bounds of int64; what is ahead of the point.
-/
import Ieee.Arith
namespace Go.Proofs.YtafbheamnjmfoaaGreat.Fl
open Ieee

/-- the exponent's field, the fraction's, the sign -/
def fexp (b : Nat) : Nat := b / 4503599627370496 % 2048
def ffr (b : Nat) : Nat := b % 4503599627370496
def fneg (b : Nat) : Bool := b / 9223372036854775808 % 2 == 1
/-- the integer and the power of 2 -/
def fman (b : Nat) : Nat := if fexp b = 0 then ffr b else 4503599627370496 + ffr b
def fpow (b : Nat) : Int := if fexp b = 0 then -1074 else (fexp b : Int) - 1075
theorem ffr_lt (b : Nat) : ffr b < 4503599627370496 := Nat.mod_lt _ (by decide)
theorem fexp_lt (b : Nat) : fexp b < 2048 := Nat.mod_lt _ (by decide)
theorem fman_lt (b : Nat) : fman b < 9007199254740992 := by
  have := ffr_lt b
  unfold fman
  split <;> omega
theorem d_sign : double.signWeight = 9223372036854775808 := by decide
theorem d_binade : double.binade = 4503599627370496 := by decide
theorem d_inf : double.infRung = 9218868437227405312 := by decide
theorem d_least : double.leastPlace = -1074 := by decide
/-- a finite float is its integer times its power of 2 -/
theorem read_num (b : Nat) (h : fexp b < 2047) : double.read b = .number (fneg b) (fman b) (fpow b) := by
  unfold Format.read
  rw [d_sign, d_binade, d_inf, d_least]
  have e1 : b % 9223372036854775808 / 4503599627370496 = fexp b := by unfold fexp; omega
  have e2 : b % 9223372036854775808 % 4503599627370496 = ffr b := by unfold ffr; omega
  have e3 : b % 9223372036854775808 = 4503599627370496 * fexp b + ffr b := by rw [← e1, ← e2]; exact (Nat.div_add_mod _ _).symm
  have hl := ffr_lt b
  by_cases h0 : fexp b = 0
  · have hlt : b % 9223372036854775808 < 4503599627370496 := by rw [e3, h0]; omega
    simp only [hlt, if_true, fneg, fman, fpow, h0]
    rw [e3, h0]
    simp
  · have hge : ¬ b % 9223372036854775808 < 4503599627370496 := by rw [e3]; omega
    have hin : b % 9223372036854775808 < 9218868437227405312 := by rw [e3]; omega
    simp only [hge, if_false, hin, if_true, fneg, fman, fpow, h0]
    rw [e2, e1]
    congr 1
    omega
theorem read_big (b : Nat) (h : fexp b = 2047) : double.read b = .infinity (fneg b) ∨ ∃ n f, double.read b = .nan n f := by
  unfold Format.read
  rw [d_sign, d_binade, d_inf, d_least]
  have e1 : b % 9223372036854775808 / 4503599627370496 = fexp b := by unfold fexp; omega
  have e2 : b % 9223372036854775808 % 4503599627370496 = ffr b := by unfold ffr; omega
  have e3 : b % 9223372036854775808 = 4503599627370496 * fexp b + ffr b := by rw [← e1, ← e2]; exact (Nat.div_add_mod _ _).symm
  have hl := ffr_lt b
  have hge : ¬ b % 9223372036854775808 < 4503599627370496 := by rw [e3]; omega
  have hin : ¬ b % 9223372036854775808 < 9218868437227405312 := by rw [e3]; omega
  simp only [hge, if_false, hin]
  by_cases h9 : b % 9223372036854775808 = 9218868437227405312
  · rw [if_pos h9]; exact .inl rfl
  · rw [if_neg h9]; exact .inr ⟨_, _, rfl⟩

/-- a sign on a number -/
def sgnd (neg : Bool) (m : Nat) : Int := if neg then -(m : Int) else m
/-- the whole part of m times 2 to the p-th -/
def floorP (m : Nat) (p : Int) : Nat := m * 2 ^ p.toNat / 2 ^ (-p).toNat
/-- what is ahead of the point -/
def ftrunc (b : Nat) : Int := sgnd (fneg b) (floorP (fman b) (fpow b))

theorem signed_eq (neg : Bool) (m up : Nat) : signed neg m up = sgnd neg (m * 2 ^ up) := by
  unfold signed sgnd
  rw [Nat.shiftLeft_eq]
theorem cut_zero (neg : Bool) (n drop : Nat) : Toward.zero.cut neg n drop = n / 2 ^ drop := by
  unfold Toward.cut
  simp only [Bool.toNat_false, Nat.add_zero]
  rw [Nat.shiftLeft_eq, Nat.one_mul]
  by_cases h : drop ≤ n.log2 + 2
  · rw [Nat.min_eq_left h]
  · rw [Nat.min_eq_right (by omega)]
    have h1 : n < 2 ^ (n.log2 + 1) := by
      by_cases h0 : n = 0
      · subst h0; exact Nat.two_pow_pos _
      · exact (Nat.log2_lt h0).1 (Nat.lt_succ_self _)
    have h2 : n < 2 ^ (n.log2 + 2) := Nat.lt_of_lt_of_le h1 (Nat.pow_le_pow_right (by decide) (by omega))
    have h3 : n < 2 ^ drop := Nat.lt_of_lt_of_le h1 (Nat.pow_le_pow_right (by decide) (by omega))
    rw [Nat.div_eq_of_lt h2, Nat.div_eq_of_lt h3]
/-- cut off toward 0 -/
theorem toInt_num (b : Nat) (h : fexp b < 2047) : (double.read b).toInt .zero = some (ftrunc b) := by
  rw [read_num b h]
  simp only [Datum.toInt, Datum.integral, cut_zero, signed_eq, Nat.pow_zero, Nat.mul_one, Nat.shiftLeft_eq]
  rfl

/-- a float that fits an int64 -/
def Small (b : Nat) : Prop := fexp b ≤ 1085 ∨ (fneg b = true ∧ fexp b = 1086 ∧ ffr b = 0)
theorem cmp_int (a b : Int) : compare a b = if a < b then .lt else if a = b then .eq else .gt := rfl
theorem pow_low (b : Nat) (h : fexp b ≤ 1086) : -1074 ≤ fpow b ∧ fpow b ≤ 11 ∧ (fexp b ≤ 1085 → fpow b ≤ 10) := by
  unfold fpow
  split <;> omega
theorem pow_high (b : Nat) (h : 1086 ≤ fexp b) : fpow b = (fexp b : Int) - 1075 ∧ fman b = 4503599627370496 + ffr b := by
  unfold fpow fman
  rw [if_neg (by omega), if_neg (by omega)]
  exact ⟨rfl, rfl⟩
theorem two_pow_ge (k : Nat) (h : 1 ≤ k) : 2 ≤ 2 ^ k := by
  obtain ⟨j, rfl⟩ : ∃ j, k = j + 1 := ⟨k - 1, by omega⟩
  rw [Nat.pow_succ]
  have := Nat.two_pow_pos j
  omega
theorem low_read : double.read 14114281232179134464 = .number true 4503599627370496 11 := by decide +kernel
theorem high_read : double.read 4890909195324358656 = .number false 4503599627370496 11 := by decide +kernel
theorem order_low (b : Nat) (h : fexp b < 2047) : double.order 14114281232179134464 b = some (compare (sgnd true (4503599627370496 * 2 ^ (11 - min 11 (fpow b)).toNat)) (sgnd (fneg b) (fman b * 2 ^ (fpow b - min 11 (fpow b)).toNat))) := by
  unfold Format.order
  rw [read_num b h, low_read]
  simp only [Datum.order, signed_eq]
theorem order_high (b : Nat) (h : fexp b < 2047) : double.order b 4890909195324358656 = some (compare (sgnd (fneg b) (fman b * 2 ^ (fpow b - min (fpow b) 11).toNat)) (sgnd false (4503599627370496 * 2 ^ (11 - min (fpow b) 11).toNat))) := by
  unfold Format.order
  rw [read_num b h, high_read]
  simp only [Datum.order, signed_eq]
theorem small_low (b : Nat) (hs : Small b) : double.order 14114281232179134464 b = some .lt ∨ double.order 14114281232179134464 b = some .eq := by
  have hf : fexp b < 2047 := by rcases hs with h | ⟨_, h, _⟩ <;> omega
  have hm := fman_lt b
  rw [order_low b hf, cmp_int]
  rcases hs with h | ⟨h1, h2, h3⟩
  · obtain ⟨p1, p2, p3⟩ := pow_low b (by omega)
    have p4 := p3 h
    rw [Int.min_eq_right (by omega), Int.sub_self]
    have hk := two_pow_ge (11 - fpow b).toNat (by omega)
    left
    rw [if_pos]
    unfold sgnd
    have : 9007199254740992 ≤ 4503599627370496 * 2 ^ (11 - fpow b).toNat := by omega
    simp only [if_true, Int.toNat_zero, Nat.pow_zero, Nat.mul_one]
    split <;> omega
  · obtain ⟨p1, p2⟩ := pow_high b (by omega)
    rw [p1, p2, h2, h1, h3]
    right
    rfl
theorem small_high (b : Nat) (hs : Small b) : double.order b 4890909195324358656 = some .lt := by
  have hf : fexp b < 2047 := by rcases hs with h | ⟨_, h, _⟩ <;> omega
  have hm := fman_lt b
  rw [order_high b hf, cmp_int]
  rcases hs with h | ⟨h1, h2, h3⟩
  · obtain ⟨p1, p2, p3⟩ := pow_low b (by omega)
    have p4 := p3 h
    rw [Int.min_eq_left (by omega), Int.sub_self]
    have hk := two_pow_ge (11 - fpow b).toNat (by omega)
    rw [if_pos]
    unfold sgnd
    have : 9007199254740992 ≤ 4503599627370496 * 2 ^ (11 - fpow b).toNat := by omega
    simp only [Int.toNat_zero, Nat.pow_zero, Nat.mul_one, Bool.false_eq_true, if_false]
    split <;> omega
  · obtain ⟨p1, p2⟩ := pow_high b (by omega)
    rw [p1, p2, h2, h1, h3]
    rfl
/-- one that doesn't -/
theorem big_order (b : Nat) (h : fexp b < 2047) (hs : ¬ Small b) : (fneg b = true ∧ double.order 14114281232179134464 b = some .gt) ∨ (fneg b = false ∧ (double.order 14114281232179134464 b = some .lt) ∧ (double.order b 4890909195324358656 = some .eq ∨ double.order b 4890909195324358656 = some .gt)) := by
  have he : 1086 ≤ fexp b := by
    by_cases h1 : fexp b ≤ 1085
    · exact absurd (.inl h1) hs
    · omega
  obtain ⟨p1, p2⟩ := pow_high b he
  have hp : 11 ≤ fpow b := by omega
  rw [order_low b h, order_high b h, cmp_int, cmp_int, Int.min_eq_left hp, Int.min_eq_right hp, Int.sub_self]
  have hge : fman b ≤ fman b * 2 ^ (fpow b - 11).toNat := Nat.le_mul_of_pos_right _ (Nat.two_pow_pos _)
  have hgt : fneg b = true → 4503599627370496 < fman b * 2 ^ (fpow b - 11).toNat := by
    intro hn
    by_cases h1 : fexp b = 1086
    · have h3 : ffr b ≠ 0 := fun h3 => hs (.inr ⟨hn, h1, h3⟩)
      omega
    · have hk := two_pow_ge (fpow b - 11).toNat (by omega)
      have : fman b * 2 ≤ fman b * 2 ^ (fpow b - 11).toNat := Nat.mul_le_mul_left _ hk
      omega
  generalize fman b * 2 ^ (fpow b - 11).toNat = X at *
  cases hn : fneg b
  · right
    refine ⟨rfl, ?_, ?_⟩
    · rw [if_pos]
      unfold sgnd
      simp only [Bool.false_eq_true, if_false, if_true, Int.toNat_zero, Nat.pow_zero, Nat.mul_one]
      omega
    · unfold sgnd
      simp only [Bool.false_eq_true, if_false, Int.toNat_zero, Nat.pow_zero, Nat.mul_one]
      rw [if_neg (by omega)]
      by_cases e : (X : Int) = ((4503599627370496 : Nat) : Int)
      · rw [if_pos e]; exact .inl rfl
      · rw [if_neg e]; exact .inr rfl
  · left
    refine ⟨rfl, ?_⟩
    have hlt := hgt hn
    unfold sgnd
    simp only [if_true, Int.toNat_zero, Nat.pow_zero, Nat.mul_one]
    rw [if_neg (by omega), if_neg (by omega)]
/-- it fits, cut off -/
theorem small_fits (b : Nat) (hs : Small b) : -9223372036854775808 ≤ ftrunc b ∧ ftrunc b ≤ 9223372036854775807 := by
  have hm := fman_lt b
  rcases hs with h | ⟨h1, h2, h3⟩
  · obtain ⟨p1, p2, p3⟩ := pow_low b (by omega)
    have p4 := p3 h
    have hf : floorP (fman b) (fpow b) < 9223372036854775808 := by
      unfold floorP
      refine Nat.lt_of_le_of_lt (Nat.div_le_self _ _) ?_
      have hk : 2 ^ (fpow b).toNat ≤ 2 ^ 10 := Nat.pow_le_pow_right (by decide) (by omega)
      have : fman b * 2 ^ (fpow b).toNat ≤ fman b * 2 ^ 10 := Nat.mul_le_mul_left _ hk
      omega
    unfold ftrunc sgnd
    split <;> omega
  · obtain ⟨p1, p2⟩ := pow_high b (by omega)
    unfold ftrunc sgnd floorP
    rw [h1, p1, p2, h2, h3]
    decide
/-- one that doesn't is whole -/
theorem big_whole (b : Nat) (h : fexp b < 2047) (hs : ¬ Small b) : 1086 ≤ fexp b ∧ ftrunc b = sgnd (fneg b) ((4503599627370496 + ffr b) * 2 ^ (fexp b - 1075)) := by
  have he : 1086 ≤ fexp b := by
    by_cases h1 : fexp b ≤ 1085
    · exact absurd (.inl h1) hs
    · omega
  obtain ⟨p1, p2⟩ := pow_high b he
  refine ⟨he, ?_⟩
  unfold ftrunc floorP
  rw [p1, p2, show ((fexp b : Int) - 1075).toNat = fexp b - 1075 by omega, show (-((fexp b : Int) - 1075)).toNat = 0 by omega, Nat.pow_zero, Nat.div_one]

/-- the same number, its power brought down -/
theorem floorP_shift (m k : Nat) (p : Int) : floorP (m * 2 ^ k) (p - k) = floorP m p := by
  unfold floorP
  rcases Int.le_total (k : Int) p with h | h
  · rw [show (-(p - (k : Int))).toNat = 0 by omega, show (-p).toNat = 0 by omega, Nat.mul_assoc, ← Nat.pow_add]
    congr 3
    omega
  · rw [show (p - (k : Int)).toNat = 0 by omega, Nat.pow_zero, Nat.mul_one]
    rcases Int.le_total 0 p with h0 | h0
    · rw [show (-p).toNat = 0 by omega, Nat.pow_zero, Nat.div_one]
      have e : k = p.toNat + (-(p - (k : Int))).toNat := by omega
      generalize (-(p - (k : Int))).toNat = r at e ⊢
      rw [e, Nat.pow_add, ← Nat.mul_assoc]
      exact Nat.mul_div_cancel _ (Nat.two_pow_pos _)
    · rw [show p.toNat = 0 by omega, Nat.pow_zero, Nat.mul_one]
      have e : (-(p - (k : Int))).toNat = k + (-p).toNat := by omega
      rw [e, Nat.pow_add, Nat.mul_comm]
      exact Nat.mul_div_mul_left _ _ (Nat.two_pow_pos _)
/-- floats that are equal have the same whole part -/
theorem eq_trunc {a b : Nat} (ha : fexp a < 2047) (hb : fexp b < 2047) (h : double.order a b = some .eq) : ftrunc a = ftrunc b := by
  unfold Format.order at h
  rw [read_num a ha, read_num b hb] at h
  simp only [Datum.order, signed_eq, Option.some.injEq] at h
  rw [cmp_int] at h
  have e : sgnd (fneg a) (fman a * 2 ^ (fpow a - min (fpow a) (fpow b)).toNat) = sgnd (fneg b) (fman b * 2 ^ (fpow b - min (fpow a) (fpow b)).toNat) := by
    split at h
    · cases h
    · split at h
      · assumption
      · cases h
  obtain ⟨q, hq⟩ : ∃ q, min (fpow a) (fpow b) = q := ⟨_, rfl⟩
  rw [hq] at e
  have s1 := floorP_shift (fman a) (fpow a - q).toNat (fpow a)
  have s2 := floorP_shift (fman b) (fpow b - q).toNat (fpow b)
  rw [show fpow a - ((fpow a - q).toNat : Int) = q by omega] at s1
  rw [show fpow b - ((fpow b - q).toNat : Int) = q by omega] at s2
  unfold ftrunc
  rw [← s1, ← s2]
  generalize fman a * 2 ^ (fpow a - q).toNat = X at e ⊢
  generalize fman b * 2 ^ (fpow b - q).toNat = Y at e ⊢
  have z : floorP 0 q = 0 := by simp [floorP]
  have z' := z
  unfold sgnd at e ⊢
  generalize fneg a = na at e ⊢
  generalize fneg b = nb at e ⊢
  cases na <;> cases nb <;> simp only [Bool.false_eq_true, if_false, if_true] at e ⊢
  · have : X = Y := by omega
    rw [this]
  · clear h s1 s2 hq z
    have hx : X = 0 := by omega
    have hy : Y = 0 := by rw [hx] at e; omega
    rw [hx, hy, z']; rfl
  · clear h s1 s2 hq z
    have hy : Y = 0 := by omega
    have hx : X = 0 := by rw [hy] at e; omega
    rw [hx, hy, z']; rfl
  · have : X = Y := by omega
    rw [this]

theorem fexp_cases (b : Nat) : fexp b < 2047 ∨ fexp b = 2047 := by have := fexp_lt b; omega
theorem max_read : double.read 9218868437227405311 = .number false 9007199254740991 971 := by decide +kernel
theorem abs_exp (b : Nat) : fexp (b % 9223372036854775808) = fexp b := by unfold fexp; omega
theorem abs_fr (b : Nat) : ffr (b % 9223372036854775808) = ffr b := by unfold ffr; omega
theorem abs_neg (b : Nat) : fneg (b % 9223372036854775808) = false := by
  have : b % 9223372036854775808 / 9223372036854775808 = 0 := Nat.div_eq_of_lt (Nat.mod_lt _ (by decide))
  unfold fneg
  rw [this]
  rfl
theorem pow_top (b : Nat) (h : fexp b < 2047) : fpow b ≤ 971 := by
  unfold fpow
  split <;> omega
/-- a finite float's magnitude is at most the greatest finite one -/
theorem finite_le (b : Nat) (h : fexp b < 2047) : double.order (b % 9223372036854775808) 9218868437227405311 = some .lt ∨ double.order (b % 9223372036854775808) 9218868437227405311 = some .eq := by
  unfold Format.order
  rw [read_num _ (by rw [abs_exp]; exact h), max_read, abs_neg]
  simp only [Datum.order, signed_eq]
  have hp := pow_top (b % 9223372036854775808) (by rw [abs_exp]; exact h)
  have hm := fman_lt (b % 9223372036854775808)
  generalize fman (b % 9223372036854775808) = M at *
  generalize fpow (b % 9223372036854775808) = p at *
  rw [Int.min_eq_left hp, Int.sub_self, cmp_int]
  have hX : 9007199254740991 ≤ 9007199254740991 * 2 ^ (971 - p).toNat := Nat.le_mul_of_pos_right _ (Nat.two_pow_pos _)
  generalize 9007199254740991 * 2 ^ (971 - p).toNat = X at *
  unfold sgnd
  simp only [Bool.false_eq_true, if_false, Int.toNat_zero, Nat.pow_zero, Nat.mul_one]
  by_cases h1 : (M : Int) < X
  · rw [if_pos h1]; exact .inl rfl
  · rw [if_neg h1, if_pos (by omega)]; exact .inr rfl
theorem infinite_not (b : Nat) (h : fexp b = 2047) : double.order (b % 9223372036854775808) 9218868437227405311 = none ∨ double.order (b % 9223372036854775808) 9218868437227405311 = some .gt := by
  unfold Format.order
  rw [max_read]
  rcases read_big (b % 9223372036854775808) (by rw [abs_exp]; exact h) with e | ⟨n, f, e⟩
  · rw [e, abs_neg]
    exact .inr rfl
  · rw [e]
    exact .inl rfl
theorem nan_exp {b : Nat} (h : double.order b b = none) : fexp b = 2047 := by
  rcases fexp_cases b with h1 | h1
  · unfold Format.order at h
    rw [read_num b h1] at h
    simp [Datum.order] at h
  · exact h1
theorem eq_exp {a b : Nat} (h : double.order a b = some .eq) : fexp a < 2047 ↔ fexp b < 2047 := by
  unfold Format.order at h
  rcases fexp_cases a with ha | ha <;> rcases fexp_cases b with hb | hb
  · exact ⟨fun _ => hb, fun _ => ha⟩
  · exfalso
    rw [read_num a ha] at h
    rcases read_big b hb with e | ⟨n, f, e⟩ <;> rw [e] at h <;> simp [Datum.order] at h
    split at h <;> cases h
  · exfalso
    rw [read_num b hb] at h
    rcases read_big a ha with e | ⟨n, f, e⟩ <;> rw [e] at h <;> simp [Datum.order] at h
    split at h <;> cases h
  · constructor <;> intro h <;> omega
end Go.Proofs.YtafbheamnjmfoaaGreat.Fl
