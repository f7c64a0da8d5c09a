/-
  Long division, digit by digit: the plain laws.
-/
namespace Go.Proofs.YtpjkfdgkkpkljaaGreatDoor.Knuth
set_option linter.unusedVariables false

/-- the guess by a reciprocal word: never too great, too small by a little -/
theorem recip {B d x1 x0 M q0 e : Nat} (hM : B * B = M * d + e) (he : e ≤ d) (hd : d < B) (hx1 : x1 < d) (hx0 : x0 < B) (h1 : q0 * B ≤ x1 * M + x0) (h2 : x1 * M + x0 < (q0 + 1) * B) :
    d * q0 ≤ x1 * B + x0 ∧ x1 * B + x0 < d * q0 + B + d := by
  have hB : 0 < B := by omega
  -- everything times B
  have a1 : d * (q0 * B) ≤ d * (x1 * M + x0) := Nat.mul_le_mul_left _ h1
  have a2 : d * (x1 * M + x0) = x1 * (M * d) + d * x0 := by
    rw [Nat.mul_add, ← Nat.mul_assoc, Nat.mul_comm d x1, Nat.mul_assoc, Nat.mul_comm d M]
  have a3 : x1 * (B * B) = x1 * (M * d) + x1 * e := by rw [hM, Nat.mul_add]
  have a4 : d * x0 ≤ B * x0 := Nat.mul_le_mul_right _ (by omega)
  have a5 : d * (q0 * B) = d * q0 * B := by rw [Nat.mul_assoc]
  have a6 : (x1 * B + x0) * B = x1 * (B * B) + B * x0 := by rw [Nat.add_mul, Nat.mul_assoc, Nat.mul_comm x0]
  constructor
  · refine Nat.le_of_mul_le_mul_right (c := B) ?_ hB
    rw [a6]
    omega
  · refine Nat.lt_of_mul_lt_mul_right (a := B) ?_
    rw [a6]
    have b1 : d * (x1 * M + x0) + d ≤ d * ((q0 + 1) * B) := by
      have := Nat.mul_le_mul_left d h2
      rw [Nat.succ_eq_add_one, Nat.mul_add, Nat.mul_one] at this
      exact this
    have b2 : d * ((q0 + 1) * B) = d * q0 * B + d * B := by
      rw [← Nat.mul_assoc, Nat.mul_add, Nat.mul_one, Nat.add_mul]
    have b3 : x1 * e ≤ (d - 1) * d := Nat.mul_le_mul (by omega) he
    have b4 : (d - 1) * d + d = d * d := by
      rw [Nat.sub_mul, Nat.one_mul]
      have : d ≤ d * d := Nat.le_mul_of_pos_left _ (by omega)
      omega
    have b5 : (d * q0 + B + d) * B = d * q0 * B + B * B + d * B := by rw [Nat.add_mul, Nat.add_mul]
    have b6 : B * x0 + x0 * 0 ≤ B * (B - 1) := by
      rw [Nat.mul_zero, Nat.add_zero]
      exact Nat.mul_le_mul_left _ (by omega)
    have b7 : B * (B - 1) + B = B * B := by
      rw [Nat.mul_sub, Nat.mul_one]
      have : B ≤ B * B := Nat.le_mul_of_pos_left _ hB
      omega
    have b8 : B * x0 = d * x0 + (B - d) * x0 := by rw [← Nat.add_mul, show d + (B - d) = B by omega]
    have b9 : (B - d) * x0 ≤ (B - d) * (B - 1) := Nat.mul_le_mul_left _ (by omega)
    have b10 : (B - d) * (B - 1) + d * (B - 1) = B * (B - 1) := by rw [← Nat.add_mul, show B - d + d = B by omega]
    have b11 : d * (B - 1) + d = d * B := by
      rw [Nat.mul_sub, Nat.mul_one]
      have : d ≤ d * B := Nat.le_mul_of_pos_right _ hB
      omega
    have b12 : d * d ≤ d * B := Nat.mul_le_mul_left _ (by omega)
    rw [b5]
    omega
/-- one digit: the true one is not above the guess of three words by two -/
theorem digit_low {P V2 U3 V U q qh : Nat} (hP : 0 < P) (hV : V2 * P ≤ V) (hU : U < (U3 + 1) * P) (hq : q * V ≤ U) : q * V2 ≤ U3 := by
  have h1 : q * V2 * P ≤ q * V := by rw [Nat.mul_assoc]; exact Nat.mul_le_mul_left _ hV
  have h2 : q * V2 * P < (U3 + 1) * P := by omega
  have := Nat.lt_of_mul_lt_mul_right h2
  omega
/-- and the guess is too great by one at the most -/
theorem digit_high {B P V2 U3 V U q qh : Nat} (hP : 0 < P) (hV : V < (V2 + 1) * P) (hU : U3 * P ≤ U) (hB : B ≤ V2) (hqB : q < B) (hq : U < (q + 1) * V) (hg : qh * V2 ≤ U3) : qh ≤ q + 1 := by
  rcases Nat.lt_or_ge (q + 1) qh with h | h
  · exfalso
    have h1 : (q + 2) * V2 ≤ U3 := Nat.le_trans (Nat.mul_le_mul_right _ h) hg
    have h2 : (q + 2) * V2 * P ≤ U := Nat.le_trans (Nat.mul_le_mul_right _ h1) hU
    have h3 : (q + 1) * V ≤ (q + 1) * ((V2 + 1) * P) := Nat.mul_le_mul_left _ (Nat.le_of_lt hV)
    have h4 : (q + 2) * V2 * P < (q + 1) * (V2 + 1) * P := by rw [Nat.mul_assoc (q + 1)]; omega
    have h5 := Nat.lt_of_mul_lt_mul_right h4
    have h6 : (q + 2) * V2 = (q + 1) * V2 + V2 := by rw [show q + 2 = q + 1 + 1 by omega, Nat.add_mul (q + 1), Nat.one_mul]
    have h7 : (q + 1) * (V2 + 1) = (q + 1) * V2 + (q + 1) := by rw [Nat.mul_add, Nat.mul_one]
    omega
  · exact h
/-- the guess goes down while it is too great: the true digit stays not above it -/
theorem digit_down {q qh v1 v2 B top u2 V2 U3 rh : Nat} (hV2 : V2 = v1 * B + v2) (hU3 : U3 = top * B + u2) (htop : top = qh * v1 + rh) (hlow : q * V2 ≤ U3) (hqq : q ≤ qh) (hgt : rh * B + u2 < qh * v2) : q + 1 ≤ qh := by
  rcases Nat.lt_or_ge q qh with h | h
  · exact h
  · exfalso
    have : q = qh := by omega
    subst this
    have h1 : q * V2 = q * v1 * B + q * v2 := by rw [hV2, Nat.mul_add, Nat.mul_assoc]
    have h2 : U3 = q * v1 * B + (rh * B + u2) := by rw [hU3, htop, Nat.add_mul, Nat.add_assoc]
    omega
/-- where it is no longer too great, it is a guess of three words by two -/
theorem digit_stop {qh v1 v2 B top u2 V2 U3 rh : Nat} (hV2 : V2 = v1 * B + v2) (hU3 : U3 = top * B + u2) (htop : top = qh * v1 + rh) (hle : qh * v2 ≤ rh * B + u2) : qh * V2 ≤ U3 := by
  have h1 : qh * V2 = qh * v1 * B + qh * v2 := by rw [hV2, Nat.mul_add, Nat.mul_assoc]
  have h2 : U3 = qh * v1 * B + (rh * B + u2) := by rw [hU3, htop, Nat.add_mul, Nat.add_assoc]
  omega
/-- the uppermost word equal to the divisor's: the greatest digit is a guess as good -/
theorem digit_top {B P V U q v1 : Nat} (hV : V < (v1 + 1) * P) (hVl : v1 * P ≤ V) (hU : v1 * B * P ≤ U) (hn : B ≤ 2 * v1) (hq : U < (q + 1) * V) : B ≤ q + 2 := by
  rcases Nat.lt_or_ge (q + 2) B with h | h
  · exfalso
    have h1 : (q + 3) * V ≤ B * V := Nat.mul_le_mul_right _ h
    have h2 : (q + 3) * V = (q + 1) * V + 2 * V := by rw [show q + 3 = q + 1 + 2 by omega, Nat.add_mul (q + 1)]
    have h3 : B * V ≤ B * ((v1 + 1) * P) := Nat.mul_le_mul_left _ (Nat.le_of_lt hV)
    have h4 : B * ((v1 + 1) * P) = v1 * B * P + B * P := by rw [Nat.add_mul, Nat.one_mul, Nat.mul_add, Nat.mul_comm v1 B, Nat.mul_assoc]
    have h5 : B * P ≤ 2 * v1 * P := Nat.mul_le_mul_right _ hn
    have h6 : 2 * v1 * P = 2 * (v1 * P) := Nat.mul_assoc _ _ _
    omega
  · exact h
/-- half a word's digit (Div64): the guess goes down while it is too great -/
theorem half_down {b y1 y0 u u1 q q1 r : Nat} (hu : u = q1 * y1 + r) (hq : q * (y1 * b + y0) ≤ u * b + u1) (hqb : q < b) (hle : q ≤ q1) (h : b ≤ q1 ∨ b * r + u1 < q1 * y0) : q + 1 ≤ q1 := by
  rcases h with h | h
  · omega
  · exact digit_down (v1 := y1) (v2 := y0) (B := b) (top := u) (u2 := u1) rfl rfl hu hq hle (by rw [Nat.mul_comm r]; exact h)
theorem half_stop {b y1 y0 u u1 q q1 r : Nat} (hu : u = q1 * y1 + r) (hq : u * b + u1 < (q + 1) * (y1 * b + y0)) (hle : q ≤ q1) (h : q1 * y0 ≤ b * r + u1) : q1 = q := by
  have h1 : q1 * (y1 * b + y0) ≤ u * b + u1 := digit_stop (v1 := y1) (v2 := y0) (B := b) (top := u) (u2 := u1) rfl rfl hu (by rw [Nat.mul_comm r]; exact h)
  have h2 : q1 * (y1 * b + y0) < (q + 1) * (y1 * b + y0) := by omega
  have := Nat.lt_of_mul_lt_mul_right h2
  omega
theorem half_break {b y1 y0 u u1 q q1 r : Nat} (hu : u = q1 * y1 + r) (huy : u < y1 * b + y0) (hy0 : y0 < b) (hq : u * b + u1 < (q + 1) * (y1 * b + y0)) (hle : q ≤ q1) (h : b ≤ r) : q1 = q := by
  have h1 : q1 < b := by
    rcases Nat.lt_or_ge q1 b with h1 | h1
    · exact h1
    · exfalso
      have := Nat.mul_le_mul_right y1 h1
      rw [Nat.mul_comm b] at this
      omega
  refine half_stop hu hq hle ?_
  have h2 : q1 * y0 ≤ b * y0 := Nat.mul_le_mul_right _ (by omega)
  have h3 : b * y0 ≤ b * r := Nat.mul_le_mul_left _ (by omega)
  omega
/-- the first guess is not below the digit -/
theorem half_first {b y1 y0 u u1 q : Nat} (hy1 : 0 < y1) (hu1 : u1 < b) (hq : q * (y1 * b + y0) ≤ u * b + u1) : q ≤ u / y1 := by
  refine (Nat.le_div_iff_mul_le hy1).2 ?_
  have h1 : q * y1 * b ≤ q * (y1 * b + y0) := by rw [Nat.mul_add, Nat.mul_assoc]; omega
  have h2 : q * y1 * b < (u + 1) * b := by rw [Nat.add_mul, Nat.one_mul]; omega
  have := Nat.lt_of_mul_lt_mul_right h2
  omega
/-- two half digits make the whole one -/
theorem halves {b y u u1 u0 q1 q0 r1 r0 : Nat} (h1 : u * b + u1 = q1 * y + r1) (h0 : r1 * b + u0 = q0 * y + r0) : (u * b + u1) * b + u0 = (q1 * b + q0) * y + r0 := by
  rw [h1, Nat.add_mul, Nat.add_mul, Nat.add_assoc, h0, Nat.mul_assoc, Nat.mul_comm y b, ← Nat.mul_assoc, Nat.add_assoc]
/-- a digit below the base -/
theorem digit_lt {b y u u1 : Nat} (hu : u < y) (hu1 : u1 < b) : (u * b + u1) / y < b := by
  have hy : 0 < y := by omega
  refine (Nat.div_lt_iff_lt_mul hy).2 ?_
  have h1 : (u + 1) * b ≤ y * b := Nat.mul_le_mul_right _ hu
  rw [Nat.add_mul, Nat.one_mul] at h1
  rw [Nat.mul_comm b]
  omega
/-- a word less a multiple, in a ring of 2^64: what is left, if that is small -/
theorem wrap_sub {M a c r : Nat} (h : a = c + r) (hr : r < M) : ((a : Int) - (c : Int)) % (M : Int) = (r : Int) := by
  have : (a : Int) - (c : Int) = (r : Int) := by omega
  rw [this]
  exact Int.emod_eq_of_lt (by omega) (by omega)
/-- the reciprocal word: what the code divides -/
theorem recip_word {B d : Nat} (hd : d < B) (hn : B ≤ 2 * d) (hd0 : 0 < d) : ((B - 1 - d) * B + (B - 1)) / d + B = (B * B - 1) / d ∧ ((B - 1 - d) * B + (B - 1)) / d < B := by
  have h1 : (B - 1 - d) * B + (B - 1) + d * B = B * B - 1 := by
    have e1 : (B - 1 - d) * B + d * B = (B - 1) * B := by rw [← Nat.add_mul, show B - 1 - d + d = B - 1 by omega]
    have e2 : (B - 1) * B + B = B * B := by
      rw [Nat.sub_mul, Nat.one_mul]
      have : B ≤ B * B := Nat.le_mul_of_pos_left _ (by omega)
      omega
    omega
  constructor
  · rw [← h1, Nat.mul_comm d B, Nat.add_mul_div_right _ _ hd0]
  · exact digit_lt (by omega) (by omega)
/-- the reciprocal, and what it lacks -/
theorem recip_of {B d : Nat} (hB : 0 < B) (hd0 : 0 < d) : ∃ e, B * B = (B * B - 1) / d * d + e ∧ e ≤ d := by
  have h1 := Nat.div_add_mod (B * B - 1) d
  have h2 := Nat.mod_lt (B * B - 1) hd0
  have h3 : 0 < B * B := Nat.mul_pos hB hB
  refine ⟨(B * B - 1) % d + 1, ?_, by omega⟩
  rw [Nat.mul_comm d] at h1
  omega
end Go.Proofs.YtpjkfdgkkpkljaaGreatDoor.Knuth
