/-
  Naturals as rows of 64-bit words: differences with borrows, shifts, exclusive ors, a word at a time. Plain.
-/
import Derived.Test.YtpjkfdgkkpkljaaGreatDoorWordLaw
namespace Go.Proofs.YtpjkfdgkkpkljaaGreatDoor.Num
set_option linter.unusedVariables false

theorem mod_succ (a k : Nat) : a % W ^ (k + 1) = a % W ^ k + W ^ k * (a / W ^ k % W) := by rw [Nat.pow_succ, Nat.mod_mul]

theorem sub_div (a b P A B ra rb : Nat) (hp : 0 < P) (hA : a / P = A) (hB : b / P = B) (hra : a % P = ra) (hrb : b % P = rb) (hab : b ≤ a) :
    (if ra < rb then 1 else 0) ≤ A - B ∧ B ≤ A ∧ (a - b) / P = A - B - (if ra < rb then 1 else 0) := by
  have hd : B ≤ A := by rw [← hA, ← hB]; exact Nat.div_le_div_right hab
  have ea := Nat.div_add_mod a P
  have eb := Nat.div_add_mod b P
  have ma := Nat.mod_lt a hp
  have mb := Nat.mod_lt b hp
  rw [hA, hra] at ea
  rw [hB, hrb] at eb
  rw [hra] at ma
  rw [hrb] at mb
  clear hA hB hra hrb
  by_cases h : ra < rb
  · rw [if_pos h]
    have hlt : B < A := by
      rcases Nat.lt_or_ge B A with h' | h'
      · exact h'
      · obtain rfl : A = B := by omega
        omega
    obtain ⟨D, rfl⟩ : ∃ D, A = B + 1 + D := ⟨A - B - 1, by omega⟩
    refine ⟨by omega, hd, ?_⟩
    have hx : P * (B + 1 + D) = P * B + P + P * D := by rw [Nat.mul_add, Nat.mul_add, Nat.mul_one]
    rw [hx] at ea
    have : a - b = P * D + (P + ra - rb) := by omega
    rw [this, Nat.mul_add_div hp, Nat.div_eq_of_lt (by omega)]; omega
  · rw [if_neg h]
    obtain ⟨D, rfl⟩ : ∃ D, A = B + D := ⟨A - B, by omega⟩
    refine ⟨by omega, hd, ?_⟩
    have hx : P * (B + D) = P * B + P * D := by rw [Nat.mul_add]
    rw [hx] at ea
    have : a - b = P * D + (ra - rb) := by omega
    rw [this, Nat.mul_add_div hp, Nat.div_eq_of_lt (by omega)]; omega
/-- the words of a difference, a borrow at a time -/
theorem sub_borrow (a b k : Nat) (hab : b ≤ a) :
    (a - b) / W ^ k % W = (a / W ^ k % W + W - b / W ^ k % W - (if a % W ^ k < b % W ^ k then 1 else 0)) % W := by
  have hp : 0 < W ^ k := Nat.pow_pos W_pos
  obtain ⟨h1, h2, h3⟩ := sub_div a b (W ^ k) _ _ _ _ hp rfl rfl rfl rfl hab
  rw [h3]
  obtain ⟨c, hc, hc1⟩ : ∃ c, (if a % W ^ k < b % W ^ k then 1 else 0) = c ∧ c ≤ 1 := by
    refine ⟨_, rfl, ?_⟩; split <;> omega
  rw [hc] at h1 ⊢
  obtain ⟨A, hA⟩ : ∃ A, a / W ^ k = A := ⟨_, rfl⟩
  obtain ⟨B, hB⟩ : ∃ B, b / W ^ k = B := ⟨_, rfl⟩
  rw [hA, hB] at h1 h2 ⊢
  clear hA hB h3 hc hp
  rw [W_eq]
  omega
/-- the next borrow -/
theorem borrow_next (a b k : Nat) : a % W ^ (k + 1) < b % W ^ (k + 1) ↔ (a / W ^ k % W < b / W ^ k % W + (if a % W ^ k < b % W ^ k then 1 else 0)) := by
  have hp : 0 < W ^ k := Nat.pow_pos W_pos
  have ma := Nat.mod_lt a hp
  have mb := Nat.mod_lt b hp
  rw [mod_succ, mod_succ]
  obtain ⟨x, hx⟩ : ∃ x, a / W ^ k % W = x := ⟨_, rfl⟩
  obtain ⟨y, hy⟩ : ∃ y, b / W ^ k % W = y := ⟨_, rfl⟩
  rw [hx, hy]
  obtain ⟨ra, hra⟩ : ∃ r, a % W ^ k = r := ⟨_, rfl⟩
  obtain ⟨rb, hrb⟩ : ∃ r, b % W ^ k = r := ⟨_, rfl⟩
  rw [hra] at ma ⊢
  rw [hrb] at mb ⊢
  clear hx hy hra hrb
  rcases Nat.lt_trichotomy x y with h | h | h
  · have : W ^ k * x + W ^ k ≤ W ^ k * y := by rw [← Nat.mul_succ]; exact Nat.mul_le_mul_left _ h
    constructor
    · intro _; omega
    · intro _; omega
  · subst h
    split <;> omega
  · have : W ^ k * y + W ^ k ≤ W ^ k * x := by rw [← Nat.mul_succ]; exact Nat.mul_le_mul_left _ h
    constructor
    · intro _; omega
    · intro hh; split at hh <;> omega

/-- shifted to the left by fewer than 64 -/
theorem shl_word0 (a s : Nat) : a * 2 ^ s / W ^ 0 % W = a / W ^ 0 % W * 2 ^ s % W := by
  simp [Nat.mod_mul_mod]
theorem W_split (s : Nat) (hs : s ≤ 64) : W = 2 ^ (64 - s) * 2 ^ s := by
  rw [← Nat.pow_add, show 64 - s + s = 64 by omega, W_eq]
theorem shl_word (a s j : Nat) (hs : s ≤ 64) : a * 2 ^ s / W ^ (j + 1) % W = a / W ^ (j + 1) % W * 2 ^ s % W + a / W ^ j % W / 2 ^ (64 - s) := by
  have hW := W_split s hs
  have h2 : 0 < 2 ^ s := Nat.pow_pos (by omega)
  have h3 : 0 < 2 ^ (64 - s) := Nat.pow_pos (by omega)
  have hp : 0 < W ^ j := Nat.pow_pos W_pos
  -- a = (hi * W + lo) * W^j + r
  obtain ⟨A, hA⟩ : ∃ A, a / W ^ j = A := ⟨_, rfl⟩
  have hAW : a / W ^ (j + 1) = A / W := by rw [Nat.pow_succ, ← Nat.div_div_eq_div_mul, hA]
  rw [hAW, hA]
  have e1 : a * 2 ^ s / W ^ (j + 1) = A * 2 ^ s / W := by
    rw [Nat.pow_succ, ← Nat.div_div_eq_div_mul]
    have ea := Nat.div_add_mod a (W ^ j)
    rw [hA] at ea
    have mr := Nat.mod_lt a hp
    have : a * 2 ^ s = W ^ j * (A * 2 ^ s) + a % W ^ j * 2 ^ s := by
      rw [← Nat.mul_assoc, ← Nat.add_mul, ea]
    rw [this, Nat.mul_add_div hp]
    obtain ⟨e, he⟩ : ∃ e, a % W ^ j * 2 ^ s / W ^ j = e := ⟨_, rfl⟩
    have hlt : e < 2 ^ s := by
      rw [← he]
      refine (Nat.div_lt_iff_lt_mul hp).2 ?_
      rw [Nat.mul_comm (2 ^ s)]
      exact Nat.mul_lt_mul_of_pos_right mr h2
    rw [he, hW, Nat.mul_comm (2 ^ (64 - s)), ← Nat.div_div_eq_div_mul, ← Nat.div_div_eq_div_mul, Nat.mul_comm A, Nat.mul_add_div h2, Nat.div_eq_of_lt hlt, Nat.add_zero, Nat.mul_div_cancel_left _ h2]
  rw [e1]
  -- A * 2^s / W = (A/W) * 2^s + (A % W) / 2^(64-s)
  have e2 : A * 2 ^ s / W = A / W * 2 ^ s + A % W / 2 ^ (64 - s) := by
    have ea := Nat.div_add_mod A W
    have h5 : A * 2 ^ s = W * (A / W * 2 ^ s) + A % W * 2 ^ s := by
      rw [← Nat.mul_assoc, ← Nat.add_mul, ea]
    have h6 : A % W * 2 ^ s / W = A % W / 2 ^ (64 - s) := by
      have : A % W * 2 ^ s / (2 ^ (64 - s) * 2 ^ s) = A % W / 2 ^ (64 - s) := Nat.mul_div_mul_right _ _ h2
      rw [← hW] at this; exact this
    rw [h5, Nat.mul_add_div W_pos, h6]
  rw [e2]
  have h7 : A % W / 2 ^ (64 - s) < 2 ^ s := by
    refine (Nat.div_lt_iff_lt_mul h3).2 ?_
    rw [Nat.mul_comm, ← hW]; exact Nat.mod_lt _ W_pos
  have h8 : A / W % W * 2 ^ s % W = A / W * 2 ^ s % W := by rw [Nat.mod_mul_mod]
  rw [h8]
  -- x = A/W * 2^s is a multiple of 2^s
  have h9 : A / W * 2 ^ s % W = (A / W % 2 ^ (64 - s)) * 2 ^ s := by
    have : A / W * 2 ^ s % (2 ^ (64 - s) * 2 ^ s) = A / W % 2 ^ (64 - s) * 2 ^ s := Nat.mul_mod_mul_right _ _ _
    rw [← hW] at this; exact this
  rw [Nat.add_mod, h9, Nat.mod_eq_of_lt (a := A % W / 2 ^ (64 - s)) (by
    refine Nat.lt_of_lt_of_le h7 ?_
    rw [hW]; exact Nat.le_mul_of_pos_left _ h3)]
  refine Nat.mod_eq_of_lt ?_
  have h10 := Nat.mod_lt (A / W) h3
  calc A / W % 2 ^ (64 - s) * 2 ^ s + A % W / 2 ^ (64 - s) < A / W % 2 ^ (64 - s) * 2 ^ s + 2 ^ s := by omega
    _ = (A / W % 2 ^ (64 - s) + 1) * 2 ^ s := by rw [Nat.add_mul, Nat.one_mul]
    _ ≤ 2 ^ (64 - s) * 2 ^ s := Nat.mul_le_mul_right _ h10
    _ = W := hW.symm
/-- shifted to the right by fewer than 64 -/
theorem shr_word (a s j : Nat) (hs : s ≤ 64) : a / 2 ^ s / W ^ j % W = a / W ^ j % W / 2 ^ s + a / W ^ (j + 1) % W * 2 ^ (64 - s) % W := by
  have hW := W_split s hs
  have h2 : 0 < 2 ^ s := Nat.pow_pos (by omega)
  have h3 : 0 < 2 ^ (64 - s) := Nat.pow_pos (by omega)
  obtain ⟨A, hA⟩ : ∃ A, a / W ^ j = A := ⟨_, rfl⟩
  have hAW : a / W ^ (j + 1) = A / W := by rw [Nat.pow_succ, ← Nat.div_div_eq_div_mul, hA]
  rw [hAW, Nat.div_div_eq_div_mul, Nat.mul_comm, ← Nat.div_div_eq_div_mul, hA]
  have ea := Nat.div_add_mod A W
  have e1 : A / 2 ^ s = A / W * 2 ^ (64 - s) + A % W / 2 ^ s := by
    have h4 : A = 2 ^ s * (A / W * 2 ^ (64 - s)) + A % W := by
      have : 2 ^ s * (A / W * 2 ^ (64 - s)) = W * (A / W) := by
        obtain ⟨Q, hQ⟩ : ∃ Q, A / W = Q := ⟨_, rfl⟩
        rw [hQ, Nat.mul_comm Q, ← Nat.mul_assoc, Nat.mul_comm (2 ^ s), ← hW]
      rw [this, ea]
    calc A / 2 ^ s = (2 ^ s * (A / W * 2 ^ (64 - s)) + A % W) / 2 ^ s := by rw [← h4]
      _ = A / W * 2 ^ (64 - s) + A % W / 2 ^ s := Nat.mul_add_div h2 _ _
  rw [e1]
  have h8 : A / W % W * 2 ^ (64 - s) % W = A / W * 2 ^ (64 - s) % W := by rw [Nat.mod_mul_mod]
  have hW' : W = 2 ^ s * 2 ^ (64 - s) := by rw [hW, Nat.mul_comm]
  have h9 : A / W * 2 ^ (64 - s) % W = (A / W % 2 ^ s) * 2 ^ (64 - s) := by
    have : A / W * 2 ^ (64 - s) % (2 ^ s * 2 ^ (64 - s)) = A / W % 2 ^ s * 2 ^ (64 - s) := Nat.mul_mod_mul_right _ _ _
    rw [← hW'] at this; exact this
  have h7 : A % W / 2 ^ s < 2 ^ (64 - s) := by
    refine (Nat.div_lt_iff_lt_mul h2).2 ?_
    rw [← hW]; exact Nat.mod_lt _ W_pos
  rw [h8, Nat.add_mod, h9, Nat.mod_eq_of_lt (a := A % W / 2 ^ s) (by
    refine Nat.lt_of_lt_of_le h7 ?_
    rw [hW]; exact Nat.le_mul_of_pos_right _ h2)]
  rw [Nat.mod_eq_of_lt, Nat.add_comm]
  have h10 := Nat.mod_lt (A / W) h2
  calc A / W % 2 ^ s * 2 ^ (64 - s) + A % W / 2 ^ s < A / W % 2 ^ s * 2 ^ (64 - s) + 2 ^ (64 - s) := by omega
    _ = (A / W % 2 ^ s + 1) * 2 ^ (64 - s) := by rw [Nat.add_mul, Nat.one_mul]
    _ ≤ 2 ^ s * 2 ^ (64 - s) := Nat.mul_le_mul_right _ h10
    _ = W := hW'.symm
/-- an or of two parts that share no bit is their sum -/
theorem or_add (x y s : Nat) (hx : x % 2 ^ s = 0) (hy : y < 2 ^ s) : x ||| y = x + y := by
  have : x = 2 ^ s * (x / 2 ^ s) := by have := Nat.div_add_mod x (2 ^ s); omega
  rw [this, ← Nat.two_pow_add_eq_or_of_lt hy]
/-- a word of an exclusive or -/
theorem xor_word (a b k : Nat) : (a ^^^ b) / W ^ k % W = (a / W ^ k % W) ^^^ (b / W ^ k % W) := by
  rw [W_pow2, show W = 2 ^ 64 by rw [W_eq]]
  rw [← Nat.shiftRight_eq_div_pow, ← Nat.shiftRight_eq_div_pow, ← Nat.shiftRight_eq_div_pow, Nat.shiftRight_xor_distrib, Nat.xor_mod_two_pow]
theorem xor_byte (a b k : Nat) : (a ^^^ b) / 256 ^ k % 256 = (a / 256 ^ k % 256) ^^^ (b / 256 ^ k % 256) := by
  rw [show (256 : Nat) ^ k = 2 ^ (8 * k) by rw [Nat.pow_mul], show (256 : Nat) = 2 ^ 8 by rfl]
  rw [← Nat.shiftRight_eq_div_pow, ← Nat.shiftRight_eq_div_pow, ← Nat.shiftRight_eq_div_pow, Nat.shiftRight_xor_distrib, Nat.xor_mod_two_pow]
theorem xor_lt (a b m : Nat) (ha : a < W ^ m) (hb : b < W ^ m) : a ^^^ b < W ^ m := by
  rw [W_pow2] at *
  exact Nat.xor_lt_two_pow ha hb
end Go.Proofs.YtpjkfdgkkpkljaaGreatDoor.Num
