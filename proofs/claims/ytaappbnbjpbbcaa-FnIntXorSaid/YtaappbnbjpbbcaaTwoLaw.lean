/-
  Integers in two's complement over rows of bytes, and the exclusive or of two integers. Plain.
-/
import Derived.Test.YtaappbnbjpbbcaaShiftLaw
namespace Go.Proofs.Ytaappbnbjpbbcaa.Num
set_option linter.unusedVariables false

theorem u8_xor (a b : UInt8) : (a ^^^ b).toNat = a.toNat ^^^ b.toNat := UInt8.toNat_xor a b
theorem u8_not (a : UInt8) : (~~~a).toNat = 255 - a.toNat := by
  rw [UInt8.toNat_not]; rfl
/-- the number of a row of bytes' exclusive ors -/
theorem be_zip : ∀ (a b : List UInt8), a.length = b.length → be (List.zipWith (· ^^^ ·) a b) = be a ^^^ be b := by
  intro a
  induction a with
  | nil => intro b h; cases b <;> simp_all [be]
  | cons c a ih =>
    intro b h
    cases b with
    | nil => simp at h
    | cons d b =>
      have hl : a.length = b.length := by simpa using h
      rw [List.zipWith_cons_cons, be_cons, be_cons, be_cons, ih b hl, u8_xor]
      have hz : (List.zipWith (fun x1 x2 => x1 ^^^ x2) a b).length = b.length := by simp [hl]
      rw [hz, hl]
      have ha := be_lt a
      have hb := be_lt b
      rw [hl] at ha
      have e : (256 : Nat) ^ b.length = 2 ^ (8 * b.length) := by rw [Nat.pow_mul]
      rw [e] at ha hb ⊢
      rw [Nat.mul_comm, Nat.mul_comm c.toNat, Nat.mul_comm d.toNat]
      apply Nat.eq_of_testBit_eq
      intro i
      rw [Nat.testBit_xor, Nat.testBit_two_pow_mul_add _ (Nat.xor_lt_two_pow ha hb), Nat.testBit_two_pow_mul_add _ ha, Nat.testBit_two_pow_mul_add _ hb]
      split
      · rw [Nat.testBit_xor]
      · rw [Nat.testBit_xor]
theorem be_not (l : List UInt8) : be (l.map fun c => ~~~c) + be l + 1 = 256 ^ l.length := by
  induction l with
  | nil => simp [be]
  | cons c l ih =>
    rw [List.map_cons, be_cons, be_cons, List.length_map, List.length_cons, Nat.pow_succ, u8_not]
    have hc := UInt8.toNat_lt c
    have : (255 - c.toNat) * 256 ^ l.length + c.toNat * 256 ^ l.length = 255 * 256 ^ l.length := by rw [← Nat.add_mul]; congr 1; omega
    omega
theorem be_pad (k : Nat) (l : List UInt8) : be (List.replicate k 0 ++ l) = be l := by
  have := be_zeros (List.replicate k 0 ++ l) k (fun j c hj hc => by
    rw [List.getElem?_append_left (by simpa using hj)] at hc
    simp [hj] at hc
    exact hc.symm)
  rw [← this]; simp
/-- the complement of a number within k bits -/
theorem xor_comp (k u v : Nat) (hu : u < 2 ^ k) (hv : v < 2 ^ k) : (2 ^ k - 1 - u) ^^^ v = 2 ^ k - 1 - (u ^^^ v) := by
  have h1 := Nat.xor_lt_two_pow hu hv
  apply Nat.eq_of_testBit_eq
  intro i
  rw [Nat.testBit_xor, show 2 ^ k - 1 - u = 2 ^ k - (u + 1) by omega, show 2 ^ k - 1 - (u ^^^ v) = 2 ^ k - ((u ^^^ v) + 1) by omega, Nat.testBit_two_pow_sub_succ hu, Nat.testBit_two_pow_sub_succ h1, Nat.testBit_xor]
  by_cases hi : i < k
  · simp [hi]
  · have : v.testBit i = false := Nat.testBit_lt_two_pow (Nat.lt_of_lt_of_le hv (Nat.pow_le_pow_right (by omega) (by omega)))
    simp [hi, this]

/-- the exclusive or of two integers, by their signs and magnitudes: the result's sign and magnitude -/
def xorS (xn : Bool) (a : Nat) (yn : Bool) (b : Nat) : Bool × Nat :=
  if xn = yn then (false, if xn then (a - 1) ^^^ (b - 1) else a ^^^ b)
  else (true, (if xn then (a - 1) ^^^ b else a ^^^ (b - 1)) + 1)
/-- what stands for an integer in k bits of two's complement -/
def two (k : Nat) (neg : Bool) (a : Nat) : Nat := if neg then 2 ^ k - 1 - (a - 1) else a
/-- the integer back from k bits of two's complement -/
def untwo (k : Nat) (t : Nat) : Bool × Nat := if t < 2 ^ (k - 1) then (false, t) else (true, 2 ^ k - 1 - t + 1)

theorem two_xor (k : Nat) (hk : 0 < k) (xn yn : Bool) (a b : Nat) (ha : a < 2 ^ (k - 1)) (hb : b < 2 ^ (k - 1)) (hx : xn = true → 0 < a) (hy : yn = true → 0 < b) :
    untwo k (two k xn a ^^^ two k yn b) = xorS xn a yn b := by
  have h2 : 2 ^ k = 2 * 2 ^ (k - 1) := by rw [← Nat.pow_succ']; congr 1; omega
  have ha' : a < 2 ^ k := by omega
  have hb' : b < 2 ^ k := by omega
  cases xn <;> cases yn <;> simp only [two, xorS]
  · have := Nat.xor_lt_two_pow ha hb
    simp [untwo, this]
  · have hlt := Nat.xor_lt_two_pow ha (show b - 1 < 2 ^ (k - 1) by omega)
    have e : a ^^^ (2 ^ k - 1 - (b - 1)) = 2 ^ k - 1 - (a ^^^ (b - 1)) := by
      rw [Nat.xor_comm, xor_comp k (b - 1) a (by omega) (by omega), Nat.xor_comm]
    simp only [reduceIte, Bool.false_eq_true]
    rw [e]
    unfold untwo
    rw [if_neg (by omega)]
    simp; omega
  · have hlt := Nat.xor_lt_two_pow (show a - 1 < 2 ^ (k - 1) by omega) hb
    have e : (2 ^ k - 1 - (a - 1)) ^^^ b = 2 ^ k - 1 - ((a - 1) ^^^ b) := xor_comp k (a - 1) b (by omega) (by omega)
    simp only [reduceIte, Bool.false_eq_true]
    rw [e]
    unfold untwo
    rw [if_neg (by omega)]
    simp; omega
  · have hlt := Nat.xor_lt_two_pow (show a - 1 < 2 ^ (k - 1) by omega) (show b - 1 < 2 ^ (k - 1) by omega)
    have e : (2 ^ k - 1 - (a - 1)) ^^^ (2 ^ k - 1 - (b - 1)) = (a - 1) ^^^ (b - 1) := by
      rw [xor_comp k (a - 1) _ (by omega) (by omega), Nat.xor_comm, xor_comp k (b - 1) (a - 1) (by omega) (by omega), Nat.xor_comm (b - 1)]
      omega
    simp only [reduceIte]
    rw [e]
    unfold untwo
    rw [if_pos hlt]
end Go.Proofs.Ytaappbnbjpbbcaa.Num
