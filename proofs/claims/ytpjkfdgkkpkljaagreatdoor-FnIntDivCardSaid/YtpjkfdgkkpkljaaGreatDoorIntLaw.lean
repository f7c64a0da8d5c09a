/-
  Integers by their sign and their bytes: how two compare, and which of them have room in 64 bits. Plain.
-/
import Derived.Test.YtpjkfdgkkpkljaaGreatDoorNatLaw
namespace Go.Proofs.YtpjkfdgkkpkljaaGreatDoor.Num
set_option linter.unusedVariables false

/-- how two numbers compare -/
def cmpN (u v : Nat) : Int := if u < v then -1 else if v < u then 1 else 0
def cmpZ (u v : Int) : Int := if u < v then -1 else if v < u then 1 else 0
/-- the integer of a sign and a magnitude -/
def sg (neg : Bool) (v : Nat) : Int := if neg then -(v : Int) else v
def sgn (z : Int) : Int := if z < 0 then -1 else if z = 0 then 0 else 1

theorem cmpN_len {b u v : Nat} (hb : 2 ≤ b) (h : len b u < len b v) : cmpN u v = -1 := by
  unfold cmpN; rw [if_pos (lt_of_len hb h)]
theorem cmpN_len' {b u v : Nat} (hb : 2 ≤ b) (h : len b v < len b u) : cmpN u v = 1 := by
  have := lt_of_len hb h
  unfold cmpN; rw [if_neg (by omega), if_pos this]
theorem cmpN_lt {b u v j : Nat} (hb : 0 < b) (h : u / b ^ (j + 1) = v / b ^ (j + 1)) (hd : u / b ^ j % b < v / b ^ j % b) : cmpN u v = -1 := by
  unfold cmpN; rw [if_pos (lt_of_digit hb h hd)]
theorem cmpN_gt {b u v j : Nat} (hb : 0 < b) (h : u / b ^ (j + 1) = v / b ^ (j + 1)) (hd : v / b ^ j % b < u / b ^ j % b) : cmpN u v = 1 := by
  have := lt_of_digit hb h.symm hd
  unfold cmpN; rw [if_neg (by omega), if_pos this]
theorem cmpN_eq {u v : Nat} (h : u = v) : cmpN u v = 0 := by
  unfold cmpN; rw [if_neg (by omega), if_neg (by omega)]
theorem cmpN_bounds (u v : Nat) : -1 ≤ cmpN u v ∧ cmpN u v ≤ 1 := by
  unfold cmpN; split
  · omega
  · split <;> omega
theorem sgn_bounds (z : Int) : -1 ≤ sgn z ∧ sgn z ≤ 1 := by
  unfold sgn; split
  · omega
  · split <;> omega

/-- the signs part: they decide -/
theorem cmpZ_sgn {a b : Int} (h : sgn a ≠ sgn b) : cmpZ a b = if sgn a < sgn b then -1 else 1 := by
  unfold cmpZ sgn at *
  repeat' split
  all_goals simp_all
  all_goals omega
theorem cmpZ_pos {a b : Nat} : cmpZ (a : Int) (b : Int) = cmpN a b := by
  unfold cmpZ cmpN
  by_cases h1 : a < b
  · rw [if_pos h1, if_pos (by omega)]
  · rw [if_neg h1, if_neg (by omega)]
    by_cases h2 : b < a
    · rw [if_pos h2, if_pos (by omega)]
    · rw [if_neg h2, if_neg (by omega)]
theorem cmpZ_neg {a b : Nat} : cmpZ (-(a : Int)) (-(b : Int)) = cmpN b a := by
  rw [← cmpZ_pos]
  unfold cmpZ
  by_cases h1 : b < a
  · rw [if_pos (by omega), if_pos (by omega)]
  · rw [if_neg (by omega), if_neg (show ¬ (b : Int) < a by omega)]
    by_cases h2 : a < b
    · rw [if_pos (by omega), if_pos (by omega)]
    · rw [if_neg (by omega), if_neg (by omega)]

/-- eight bytes of a number, the highest one first -/
def bytes8 (u : Nat) : List UInt8 := ((dig 256 u 8).map UInt8.ofNat).reverse
theorem bytes8_length (u : Nat) : (bytes8 u).length = 8 := by simp [bytes8, dig_length]
theorem bytes8_get (u j : Nat) (h : j < 8) : (bytes8 u)[j]? = some (UInt8.ofNat (u / 256 ^ (7 - j) % 256)) := by
  unfold bytes8
  rw [List.getElem?_reverse (by simp [dig_length]; omega), List.getElem?_map, List.length_map, dig_length, dig_get _ _ _ _ (by omega)]
  rfl
theorem be_dig (m v : Nat) (hm : v < 256 ^ m) : be (((dig 256 v m).map UInt8.ofNat).reverse) = v := by
  have : ∀ k, k ≤ m → be (((dig 256 v m).map UInt8.ofNat).reverse.take k) = v / 256 ^ (m - k) := by
    intro k
    induction k with
    | zero => intro _; simp [be, Nat.div_eq_of_lt hm]
    | succ k ih =>
      intro hk
      have hkl : k < ((dig 256 v m).map UInt8.ofNat).reverse.length := by simp [dig_length]; omega
      rw [List.take_succ_eq_append_getElem hkl, be_snoc, ih (by omega)]
      have hg : (((dig 256 v m).map UInt8.ofNat).reverse[k]'hkl).toNat = v / 256 ^ (m - 1 - k) % 256 := by
        have h2 : ((dig 256 v m).map UInt8.ofNat).reverse[k]? = some (UInt8.ofNat (v / 256 ^ (m - 1 - k) % 256)) := by
          rw [List.getElem?_reverse (by simp [dig_length]; omega), List.getElem?_map, List.length_map, dig_length, dig_get _ _ _ _ (by omega)]
          rfl
        rw [List.getElem?_eq_getElem hkl] at h2
        rw [Option.some.inj h2]
        simp
      rw [hg]
      have := div_step 256 v (m - 1 - k)
      rw [show m - 1 - k + 1 = m - k by omega] at this
      rw [show m - (k + 1) = m - 1 - k by omega]
      omega
  have h := this m (Nat.le_refl _)
  rw [List.take_of_length_le (by simp [dig_length]), Nat.sub_self, Nat.pow_zero, Nat.div_one] at h
  exact h
theorem be_bytes8 (u : Nat) (h : u < 18446744073709551616) : be (bytes8 u) = u := be_dig 8 u (by simpa using h)

/-- the digit of a row, counted from the lowest one on -/
def digitAt (l : List UInt8) (i : Nat) : Nat := be l / 256 ^ i % 256
theorem digitAt_in (l : List UInt8) (i : Nat) (h : i < l.length) : (l[l.length - 1 - i]'(by omega)).toNat = digitAt l i := (be_digit l i h).symm
theorem digitAt_out (l : List UInt8) (i : Nat) (h : l.length ≤ i) : digitAt l i = 0 := by
  unfold digitAt
  have h1 := be_lt l
  have h2 : (256 : Nat) ^ l.length ≤ 256 ^ i := Nat.pow_le_pow_right (by omega) h
  rw [Nat.div_eq_of_lt (by omega)]
/-- the lowest 64 bits, from the digit i on -/
def lowFrom (v i : Nat) : Nat := v % 18446744073709551616 / 256 ^ i
theorem low_step (v i : Nat) (h : i < 8) : lowFrom v (i + 1) * 256 % 18446744073709551616 + v / 256 ^ i % 256 = lowFrom v i := by
  unfold lowFrom
  have h1 := div_step 256 (v % 18446744073709551616) i
  have h2 : v % 18446744073709551616 / 256 ^ i % 256 = v / 256 ^ i % 256 := by
    obtain rfl | rfl | rfl | rfl | rfl | rfl | rfl | rfl : i = 0 ∨ i = 1 ∨ i = 2 ∨ i = 3 ∨ i = 4 ∨ i = 5 ∨ i = 6 ∨ i = 7 := by omega
    all_goals first | omega | (simp; omega) | simp
  have h3 : v % 18446744073709551616 / 256 ^ (i + 1) ≤ 72057594037927935 := by
    have : 256 ^ 1 ≤ 256 ^ (i + 1) := Nat.pow_le_pow_right (by omega) (by omega)
    have h4 := Nat.div_le_div_left (a := v % 18446744073709551616) this (by omega)
    have h5 : v % 18446744073709551616 / 256 ^ 1 ≤ 72057594037927935 := by simp; omega
    omega
  omega
theorem low_top (v : Nat) : lowFrom v 8 = 0 := by
  unfold lowFrom; first | omega | (simp; omega) | simp
theorem low_end (v : Nat) : lowFrom v 0 = v % 18446744073709551616 := by
  unfold lowFrom; simp

/-- whether a number has room in 64 bits with a sign; what is told of it -/
def fits64 (z : Int) : Bool := decide (-9223372036854775808 ≤ z) && decide (z ≤ 9223372036854775807)
def get64 (z : Int) : Int := if fits64 z then z else 0
theorem fits64_yes {z : Int} (h : -9223372036854775808 ≤ z) (h2 : z ≤ 9223372036854775807) : fits64 z = true := by simp [fits64, h, h2]
theorem fits64_no {z : Int} (h : z < -9223372036854775808 ∨ 9223372036854775807 < z) : fits64 z = false := by
  unfold fits64
  rcases h with h | h
  · rw [show decide (-9223372036854775808 ≤ z) = false by simp; omega, Bool.false_and]
  · rw [show decide (z ≤ 9223372036854775807) = false by simp; omega, Bool.and_false]
end Go.Proofs.YtpjkfdgkkpkljaaGreatDoor.Num
