/-
  Naturals as rows of 64-bit words: a row that is being filled, a top word that is being read, how many bits a number has by its top word. Plain.
-/
import Derived.Test.YtpjkfdgkkpkljaaGreatDoorWordLaw
import Derived.Lib.BitFns
namespace Go.Proofs.YtpjkfdgkkpkljaaGreatDoor.Num
set_option linter.unusedVariables false

theorem mod_digit {b : Nat} (hb : 0 < b) (V k j : Nat) : V % b ^ k / b ^ j % b = if j < k then V / b ^ j % b else 0 := by
  by_cases h : j < k
  · rw [if_pos h]
    have e : b ^ k = b ^ j * (b * b ^ (k - j - 1)) := by rw [← Nat.pow_succ', ← Nat.pow_add]; congr 1; omega
    rw [e, Nat.mod_mul_right_div_self, Nat.mod_mul_right_mod]
  · rw [if_neg h]
    have : V % b ^ k < b ^ j := Nat.lt_of_lt_of_le (Nat.mod_lt _ (Nat.pow_pos hb)) (Nat.pow_le_pow_right hb (by omega))
    rw [Nat.div_eq_of_lt this]; exact Nat.zero_mod _
/-- one more word of a row that is being filled -/
theorem dig_set {b : Nat} (hb : 0 < b) (V k n D : Nat) (hD : V / b ^ k % b = D) : (dig b (V % b ^ k) n).set k D = dig b (V % b ^ (k + 1)) n := by
  apply List.ext_getElem?
  intro j
  rw [List.getElem?_set]
  by_cases hj : j < n
  · rw [dig_get _ _ _ _ hj, dig_get _ _ _ _ hj, mod_digit hb, mod_digit hb, dig_length]
    by_cases h1 : k = j
    · subst h1; rw [if_pos rfl, if_pos hj, if_pos (by omega), hD]
    · rw [if_neg h1]
      by_cases h2 : j < k
      · rw [if_pos h2, if_pos (by omega)]
      · rw [if_neg h2, if_neg (by omega)]
  · rw [List.getElem?_eq_none (l := dig b _ n) (by rw [dig_length]; omega), List.getElem?_eq_none (l := dig b _ n) (by rw [dig_length]; omega)]
    split
    · rw [if_neg (by rw [dig_length]; omega)]
    · rfl
theorem dig_full (V k n : Nat) (hV : V < W ^ k) : dig W (V % W ^ k) n = dig W V n := by rw [Nat.mod_eq_of_lt hV]

/-- a number in so many bytes, the highest one first -/
def rev8 (V N : Nat) : List UInt8 := ((dig 256 V N).map UInt8.ofNat).reverse
theorem rev8_length (V N : Nat) : (rev8 V N).length = N := by simp [rev8, dig_length]
theorem rev8_get (V N i : Nat) (h : i < N) : (rev8 V N)[i]? = some (UInt8.ofNat (V / 256 ^ (N - 1 - i) % 256)) := by
  unfold rev8
  rw [List.getElem?_reverse (by simp [dig_length]; exact h), List.length_map, dig_length, List.getElem?_map, dig_get _ _ _ _ (by omega)]; rfl
theorem rev8_set (V N t D : Nat) (ht : t < N) (hD : V / 256 ^ t % 256 = D) : (rev8 (V % 256 ^ t) N).set (N - 1 - t) (UInt8.ofNat D) = rev8 (V % 256 ^ (t + 1)) N := by
  apply List.ext_getElem?
  intro j
  rw [List.getElem?_set, rev8_length]
  by_cases hj : j < N
  · rw [rev8_get _ _ _ hj, rev8_get _ _ _ hj, mod_digit (by omega), mod_digit (by omega)]
    by_cases h1 : N - 1 - t = j
    · rw [if_pos h1, if_pos (by omega), if_pos (by omega), show N - 1 - j = t by omega, hD]
    · rw [if_neg h1]
      by_cases h2 : N - 1 - j < t
      · rw [if_pos h2, if_pos (by omega)]
      · rw [if_neg h2, if_neg (by omega)]
  · rw [List.getElem?_eq_none (l := rev8 _ N) (by rw [rev8_length]; omega), List.getElem?_eq_none (l := rev8 _ N) (by rw [rev8_length]; omega)]
    split
    · rw [if_neg (by omega)]
    · rfl
theorem rev8_zero (N : Nat) : rev8 0 N = List.replicate N 0 := by
  apply List.ext_getElem?
  intro j
  by_cases hj : j < N
  · rw [rev8_get _ _ _ hj, List.getElem?_replicate, if_pos hj]; simp
  · rw [List.getElem?_eq_none (by rw [rev8_length]; omega), List.getElem?_eq_none (by simp; omega)]
theorem rev8_drop (V N : Nat) (h : V < 256 ^ N) : (rev8 V N).drop (N - len 256 V) = mag V := by
  have hl : len 256 V ≤ N := len_le (by omega) h
  apply List.ext_getElem?
  intro j
  rw [List.getElem?_drop]
  by_cases hj : j < len 256 V
  · rw [rev8_get _ _ _ (by omega), mag_get _ _ hj, show N - 1 - (N - len 256 V + j) = len 256 V - 1 - j by omega]
  · rw [List.getElem?_eq_none (by rw [rev8_length]; omega), List.getElem?_eq_none (by rw [mag_length]; omega)]
/-- what leads is 0 just where no digit is -/
theorem rev8_lead (V N i : Nat) (h : V < 256 ^ (N - i)) (hi : i < N) : ((rev8 V N)[i]? = some 0 ↔ V < 256 ^ (N - (i + 1))) := by
  rw [rev8_get _ _ _ hi]
  have e : N - (i + 1) = N - 1 - i := by omega
  have e2 : N - i = (N - 1 - i) + 1 := by omega
  rw [e]
  rw [e2] at h
  constructor
  · intro h0
    have h1 := congrArg UInt8.toNat (Option.some.inj h0)
    simp at h1
    exact top_zero (by omega) h h1
  · intro h0
    rw [Nat.div_eq_of_lt h0]; rfl

/-- the last t of the first r bytes -/
def topPart (l : List UInt8) (r t : Nat) : Nat := be ((l.take r).drop (r - t))
theorem topPart_zero (l : List UInt8) (r : Nat) : topPart l r 0 = 0 := by
  unfold topPart
  rw [List.drop_eq_nil_of_le (by simp; omega)]; rfl
theorem topPart_step (l : List UInt8) (r t : Nat) (h : r ≤ l.length) (ht : t < r) : topPart l r (t + 1) = l[r - t - 1].toNat * 256 ^ t + topPart l r t := by
  unfold topPart
  have hl : r - (t + 1) < (l.take r).length := by simp; omega
  have e2 : r - (t + 1) + 1 = r - t := by omega
  have e3 : (l.take r)[r - (t + 1)] = l[r - t - 1] := by rw [List.getElem_take]; congr 1
  rw [List.drop_eq_getElem_cons hl, be_cons, List.length_drop, List.length_take, e2, e3]
  congr 3
  omega
theorem topPart_lt (l : List UInt8) (r t : Nat) (h : r ≤ l.length) (ht : t ≤ r) : topPart l r t < 256 ^ t := by
  have := be_lt ((l.take r).drop (r - t))
  rw [List.length_drop, List.length_take] at this
  rw [show min r l.length - (r - t) = t by omega] at this
  exact this
theorem topPart_end (l : List UInt8) (r : Nat) : topPart l r r = be (l.take r) := by unfold topPart; simp

/-- the kit's count of bits -/
theorem bitLen_aux (f v : Nat) (h : v < 2 ^ f) : Lib.bitLenAux f v = len 2 v := by
  by_cases h0 : v = 0
  · subst h0; cases f <;> rfl
  · have key : ∀ f v, v < 2 ^ f → v ≠ 0 → 0 < Lib.bitLenAux f v ∧ 2 ^ (Lib.bitLenAux f v - 1) ≤ v ∧ v < 2 ^ Lib.bitLenAux f v := by
      intro f
      induction f with
      | zero => intro v hv h0; simp at hv; omega
      | succ f ih =>
        intro v hv h0
        simp only [Lib.bitLenAux, if_neg h0]
        by_cases h1 : v / 2 = 0
        · have : v = 1 := by omega
          subst this
          cases f <;> simp [Lib.bitLenAux]
        · obtain ⟨a1, a2, a3⟩ := ih (v / 2) (by rw [Nat.pow_succ] at hv; omega) h1
          obtain ⟨n, hn⟩ : ∃ n, Lib.bitLenAux f (v / 2) = n + 1 := ⟨Lib.bitLenAux f (v / 2) - 1, by omega⟩
          rw [hn] at a2 a3 ⊢
          rw [Nat.add_sub_cancel] at a2
          refine ⟨by omega, ?_, ?_⟩
          · rw [show 1 + (n + 1) - 1 = n + 1 by omega, Nat.pow_succ]; omega
          · rw [show 1 + (n + 1) = (n + 1) + 1 by omega, Nat.pow_succ 2 (n + 1)]; omega
    obtain ⟨a1, a2, a3⟩ := key f v h h0
    exact (len_eq (by omega) a3 (fun _ => a2)).symm
theorem bitLen_eq (v : Nat) (h : v < W) : Lib.bitLen v = len 2 v := bitLen_aux 64 v (by simpa [W_eq] using h)

/-- all bits behind the first one set -/
def smear (x : Nat) (k : Nat) : Nat := x ||| x / 2 ^ k
theorem smear_lt (x k : Nat) (h : x < W) : smear x k < W := or_lt x k h
theorem smear_len (x k : Nat) : len 2 (smear x k) = len 2 x := len_or x k
end Go.Proofs.YtpjkfdgkkpkljaaGreatDoor.Num
