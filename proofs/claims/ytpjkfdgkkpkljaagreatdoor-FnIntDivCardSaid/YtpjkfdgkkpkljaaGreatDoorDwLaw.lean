/-
  Two words divided by one with a reciprocal word: the plain laws.
-/
import Derived.Test.YtpjkfdgkkpkljaaGreatDoorKnuthLaw
import Derived.Test.YtpjkfdgkkpkljaaGreatDoorWordLaw
namespace Go.Proofs.YtpjkfdgkkpkljaaGreatDoor.Knuth
open Go.Proofs.YtpjkfdgkkpkljaaGreatDoor.Num
set_option linter.unusedVariables false

/-- the reciprocal of a word that begins with a 1 -/
def rcp (d : Nat) : Nat := ((W - 1 - d) * W + (W - 1)) / d
/-- the first guess and what it leaves -/
theorem dw_first {x1 x0 d : Nat} (hd : 9223372036854775808 ≤ d) (hdW : d < W) (h1 : x1 < d) (h0 : x0 < W) :
    d * ((rcp d * x1 + x0) / W + x1) ≤ x1 * W + x0 ∧ x1 * W + x0 < d * ((rcp d * x1 + x0) / W + x1) + W + d ∧ (rcp d * x1 + x0) / W + x1 < W := by
  have hd0 : 0 < d := by omega
  have hn : W ≤ 2 * d := by rw [W_eq]; omega
  obtain ⟨hr1, hr2⟩ := recip_word hdW hn hd0
  obtain ⟨e, he1, he2⟩ := recip_of (B := W) W_pos hd0
  rw [← hr1] at he1
  have hq : (rcp d * x1 + x0) / W * W ≤ rcp d * x1 + x0 := Nat.div_mul_le_self _ _
  have hq2 : rcp d * x1 + x0 < ((rcp d * x1 + x0) / W + 1) * W := by
    have := Nat.lt_div_mul_add (a := rcp d * x1 + x0) W_pos
    rw [Nat.add_mul, Nat.one_mul]
    exact this
  obtain ⟨q, hqq⟩ : ∃ q, (rcp d * x1 + x0) / W = q := ⟨_, rfl⟩
  rw [hqq] at hq hq2 ⊢
  have e1 : x1 * (rcp d + W) = rcp d * x1 + x1 * W := by rw [Nat.mul_add, Nat.mul_comm x1 (rcp d)]
  have key := recip (B := W) (d := d) (x1 := x1) (x0 := x0) (M := rcp d + W) (q0 := q + x1) (e := e) he1 he2 hdW h1 h0 (by rw [Nat.add_mul, e1]; omega) (by
    rw [e1, show q + x1 + 1 = (q + 1) + x1 by omega, Nat.add_mul (q + 1)]
    omega)
  refine ⟨key.1, key.2, ?_⟩
  rcases Nat.lt_or_ge (q + x1) W with h | h
  · exact h
  · exfalso
    have h2 : d * W ≤ d * (q + x1) := Nat.mul_le_mul_left _ h
    have h3 : (x1 + 1) * W ≤ d * W := Nat.mul_le_mul_right _ h1
    rw [Nat.add_mul, Nat.one_mul] at h3
    have := key.1
    omega
/-- the guess put right, what is left no smaller than the divisor -/
theorem dw_right {X d q r : Nat} (hd0 : 0 < d) (hX : X = d * q + r) : ∀ k, k * d ≤ r → r < (k + 1) * d → X / d = q + k ∧ X % d = r - k * d := by
  intro k h1 h2
  have hlt : r - k * d < d := by rw [Nat.add_mul, Nat.one_mul] at h2; omega
  have e : X = d * (q + k) + (r - k * d) := by rw [hX, Nat.mul_add, Nat.mul_comm d k]; omega
  rw [e]
  constructor
  · rw [Nat.mul_add_div hd0, Nat.div_eq_of_lt hlt, Nat.add_zero]
  · rw [Nat.mul_add_mod, Nat.mod_eq_of_lt hlt]
/-- both scaled: the same quotient, what is left scaled -/
theorem dw_scale (X y S : Nat) (hS : 0 < S) : X * S / (y * S) = X / y ∧ X * S % (y * S) = X % y * S := by
  constructor
  · exact Nat.mul_div_mul_right _ _ hS
  · exact Nat.mul_mod_mul_right _ _ _
/-- the two words of a scaled number -/
theorem dw_words {x1 x0 y s : Nat} (hs : s ≤ 64) (h1 : x1 < y) (h0 : x0 < W) (hy : y * 2 ^ s < W) :
    (x1 * 2 ^ s % W + x0 / 2 ^ (64 - s)) * W + x0 * 2 ^ s % W = (x1 * W + x0) * 2 ^ s ∧ x1 * 2 ^ s % W + x0 / 2 ^ (64 - s) < y * 2 ^ s ∧ x0 * 2 ^ s / W = x0 / 2 ^ (64 - s) := by
  have hp : 0 < 2 ^ s := Nat.pow_pos (by omega)
  have hp2 : 0 < 2 ^ (64 - s) := Nat.pow_pos (by omega)
  have hW : W = 2 ^ (64 - s) * 2 ^ s := by
    rw [W_eq, ← Nat.pow_add, show 64 - s + s = 64 by omega]
  have hd : x0 * 2 ^ s / W = x0 / 2 ^ (64 - s) := by rw [hW, Nat.mul_div_mul_right _ _ hp]
  have hx1s : x1 * 2 ^ s < y * 2 ^ s := Nat.mul_lt_mul_of_pos_right h1 hp
  have hm : x1 * 2 ^ s % W = x1 * 2 ^ s := Nat.mod_eq_of_lt (by omega)
  have hc : x0 / 2 ^ (64 - s) < 2 ^ s := Nat.div_lt_of_lt_mul (by rw [← hW]; exact h0)
  refine ⟨?_, ?_, hd⟩
  · rw [hm, ← hd, Nat.add_mul, Nat.add_assoc, Nat.mul_comm (x0 * 2 ^ s / W), Nat.div_add_mod, Nat.add_mul, Nat.mul_assoc, Nat.mul_assoc, Nat.mul_comm W]
  · rw [hm]
    have : (x1 + 1) * 2 ^ s ≤ y * 2 ^ s := Nat.mul_le_mul_right _ h1
    rw [Nat.add_mul, Nat.one_mul] at this
    omega
end Go.Proofs.YtpjkfdgkkpkljaaGreatDoor.Knuth
