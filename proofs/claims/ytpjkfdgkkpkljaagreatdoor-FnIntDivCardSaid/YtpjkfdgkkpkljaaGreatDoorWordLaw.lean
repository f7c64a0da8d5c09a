/-
  Naturals as rows of 64-bit words: the words of a row of bytes, how many bits there are, the lowest word; the two sums with carries. Plain.
-/
import Derived.Test.YtpjkfdgkkpkljaaGreatDoorIntLaw
namespace Go.Proofs.YtpjkfdgkkpkljaaGreatDoor.Num
set_option linter.unusedVariables false

/-- the base of words -/
def W : Nat := 18446744073709551616
theorem W_eq : W = 18446744073709551616 := rfl
theorem W_two : 2 ≤ W := by rw [W_eq]; omega
theorem W_pos : 0 < W := by rw [W_eq]; omega
theorem W_pow (k : Nat) : W ^ k = 256 ^ (8 * k) := by
  rw [Nat.pow_mul, show (256 : Nat) ^ 8 = W by rw [W_eq]]
theorem W_pow2 (k : Nat) : W ^ k = 2 ^ (64 * k) := by
  rw [Nat.pow_mul, show (2 : Nat) ^ 64 = W by rw [W_eq]]

/-- the words of a number, without leading zeros -/
def words (v : Nat) : List Nat := dig W v (len W v)
theorem words_length (v : Nat) : (words v).length = len W v := dig_length _ _ _

/-- a whole word of a row of bytes -/
theorem word_of (l : List UInt8) (k : Nat) (h : 8 * k + 8 ≤ l.length) : be ((l.drop (l.length - 8 * k - 8)).take 8) = be l / W ^ k % W := by
  rw [W_pow, show W = 256 ^ 8 by rw [W_eq]]
  exact (be_part l (8 * k) 8 (by omega)).symm
/-- the highest word, of fewer than eight bytes -/
theorem word_top (l : List UInt8) (k : Nat) (h : 8 * k ≤ l.length) (h2 : l.length < 8 * k + 8) : be (l.take (l.length - 8 * k)) = be l / W ^ k % W := by
  rw [W_pow, be_front l (8 * k) h, Nat.mod_eq_of_lt]
  have := be_lt (l.take (l.length - 8 * k))
  have h3 : (256 : Nat) ^ (l.take (l.length - 8 * k)).length ≤ 256 ^ 7 := Nat.pow_le_pow_right (by omega) (by simp; omega)
  have h4 : (256 : Nat) ^ 7 < W := by rw [W_eq]; omega
  omega
theorem be_lt_words (l : List UInt8) (m : Nat) (h : l.length ≤ 8 * m) : be l < W ^ m := by
  rw [W_pow]
  exact Nat.lt_of_lt_of_le (be_lt l) (Nat.pow_le_pow_right (by omega) h)

/-- bits: 64 for each word behind the highest, and those of the highest -/
theorem len_bits {v : Nat} (hv : 0 < v) : len 2 v = 64 * (len W v - 1) + len 2 (v / W ^ (len W v - 1)) := by
  obtain ⟨h0, h1⟩ := len_ge W_two hv
  have h2 := len_lt W_two v
  obtain ⟨n, hn⟩ : ∃ n, len W v - 1 = n := ⟨_, rfl⟩
  rw [hn] at h1 ⊢
  obtain ⟨t, ht⟩ : ∃ t, v / W ^ n = t := ⟨_, rfl⟩
  rw [ht]
  have hp : 0 < W ^ n := Nat.pow_pos W_pos
  have ht1 : t * W ^ n ≤ v := by rw [← ht]; exact Nat.div_mul_le_self _ _
  have ht2 : v < (t + 1) * W ^ n := by
    rw [← ht]
    have := Nat.lt_div_mul_add hp (a := v)
    rw [Nat.add_mul, Nat.one_mul]; exact this
  have ht0 : 0 < t := by rw [← ht]; exact Nat.div_pos h1 hp
  have a1 := len_lt (b := 2) (by omega) t
  obtain ⟨a2, a3⟩ := len_ge (b := 2) (by omega) ht0
  refine len_eq (by omega) ?_ fun _ => ?_
  · rw [Nat.pow_add, ← W_pow2, Nat.mul_comm]
    exact Nat.lt_of_lt_of_le ht2 (Nat.mul_le_mul_right _ a1)
  · rw [show 64 * n + len 2 t - 1 = 64 * n + (len 2 t - 1) by omega, Nat.pow_add, ← W_pow2, Nat.mul_comm]
    exact Nat.le_trans (Nat.mul_le_mul_right _ a3) ht1
/-- a number and what lies beside its bits -/
theorem len_or (x k : Nat) : len 2 (x ||| x / 2 ^ k) = len 2 x := by
  have h1 := len_lt (b := 2) (by omega) x
  have h2 : x / 2 ^ k < 2 ^ len 2 x := Nat.lt_of_le_of_lt (Nat.div_le_self _ _) h1
  have h3 : x ||| x / 2 ^ k < 2 ^ len 2 x := Nat.or_lt_two_pow h1 h2
  have h4 : len 2 (x ||| x / 2 ^ k) ≤ len 2 x := len_le (by omega) h3
  have h5 : len 2 x ≤ len 2 (x ||| x / 2 ^ k) := len_mono (by omega) Nat.left_le_or
  omega
theorem or_lt (x k : Nat) (h : x < W) : x ||| x / 2 ^ k < W := by
  have e : W = 2 ^ 64 := by rw [W_eq]
  rw [e] at h ⊢
  exact Nat.or_lt_two_pow h (Nat.lt_of_le_of_lt (Nat.div_le_self _ _) h)
/-- small in the package's sense -/
theorem bits_small (v : Nat) : len 2 v < 32 ↔ v < 2147483648 := by
  constructor
  · intro h
    have := len_lt (b := 2) (by omega) v
    have h2 : (2 : Nat) ^ len 2 v ≤ 2 ^ 31 := Nat.pow_le_pow_right (by omega) (by omega)
    simp at h2; omega
  · intro h
    have : len 2 v ≤ 31 := len_le (by omega) (by simpa using h)
    omega
theorem bits_32 (v : Nat) : len 2 v = 32 ↔ 2147483648 ≤ v ∧ v < 4294967296 := by
  constructor
  · intro h
    have h1 := len_lt (b := 2) (by omega) v
    have h2 := (bits_small v).2
    rw [h] at h1; simp at h1
    refine ⟨?_, by omega⟩
    by_cases hx : v < 2147483648
    · have := h2 hx; omega
    · omega
  · intro ⟨h1, h2⟩
    exact len_eq (by omega) (by simpa using h2) (fun _ => by simpa using h1)
/-- one word or none -/
theorem len_one {v : Nat} (h : v < W) : len W v ≤ 1 := len_le W_two (by simpa using h)
theorem low_word (v : Nat) : v / W ^ 0 % W = v % W := by simp

/-- the words of a sum, a carry at a time -/
theorem add_carry (a b k c s : Nat) (hc : (a % W ^ k + b % W ^ k) / W ^ k = c) (hs : a / W ^ k % W + b / W ^ k % W + c = s) :
    (a + b) / W ^ k % W = s % W ∧ (a % W ^ (k + 1) + b % W ^ (k + 1)) / W ^ (k + 1) = s / W := by
  have hp : 0 < W ^ k := Nat.pow_pos W_pos
  have ha : a % W ^ (k + 1) = a % W ^ k + W ^ k * (a / W ^ k % W) := by rw [Nat.pow_succ, Nat.mod_mul]
  have hb : b % W ^ (k + 1) = b % W ^ k + W ^ k * (b / W ^ k % W) := by rw [Nat.pow_succ, Nat.mod_mul]
  constructor
  · have h1 : (a + b) / W ^ k = a / W ^ k + b / W ^ k + c := by
      have ea := Nat.div_add_mod a (W ^ k)
      have eb := Nat.div_add_mod b (W ^ k)
      have : a + b = W ^ k * (a / W ^ k + b / W ^ k) + (a % W ^ k + b % W ^ k) := by rw [Nat.mul_add]; omega
      rw [this, Nat.mul_add_div hp, hc]
    rw [h1, ← hs, Nat.add_mod, Nat.add_mod (a / W ^ k), Nat.add_mod (a / W ^ k % W + b / W ^ k % W)]
  · rw [ha, hb, Nat.pow_succ, ← Nat.div_div_eq_div_mul]
    have : a % W ^ k + W ^ k * (a / W ^ k % W) + (b % W ^ k + W ^ k * (b / W ^ k % W)) = W ^ k * (a / W ^ k % W + b / W ^ k % W) + (a % W ^ k + b % W ^ k) := by rw [Nat.mul_add]; omega
    rw [this, Nat.mul_add_div hp, hc, hs]
end Go.Proofs.YtpjkfdgkkpkljaaGreatDoor.Num
