/-
  One digit of a long division: what the row of words is behind it.
-/
import Derived.Test.YtpjkfdgkkpkljaaGreatDoorKnuthRound
import Derived.Test.YtpjkfdgkkpkljaaGreatDoorSec
namespace Go.Proofs.YtpjkfdgkkpkljaaGreatDoor.Nat_
open Go.RowKit Go.Proofs.YtpjkfdgkkpkljaaGreatDoor Go.Proofs.YtpjkfdgkkpkljaaGreatDoor.Num Go.Proofs.YtpjkfdgkkpkljaaGreatDoor.Knuth
set_option linter.unusedVariables false

/-- words below place j are those of what is left by W^j -/
theorem word_mod (A j i : Nat) (h : i < j) : A % W ^ j / W ^ i % W = A / W ^ i % W := by
  have e : W ^ j = W ^ i * (W * W ^ (j - i - 1)) := by
    rw [← Nat.mul_assoc, ← Nat.pow_succ, ← Nat.pow_add]
    congr 1
    omega
  rw [e, Nat.mod_mul_right_div_self, Nat.mod_mul_right_mod]
theorem word_add (A c j i : Nat) (h : i < j) : (A + c * W ^ j) / W ^ i % W = A / W ^ i % W := by
  rw [← word_mod (A + c * W ^ j) j i h, Nat.add_mul_mod_self_right, word_mod A j i h]
/-- what is left of U when the digits from place k on are divided out -/
def left (U V k : Nat) : Nat := U % (V * W ^ k)
section
variable {U V j : Nat}
theorem left_lt (hV : 0 < V) (k : Nat) : left U V k < V * W ^ k := Nat.mod_lt _ (Nat.mul_pos hV (pw k))
theorem left_top (hV : 0 < V) (j : Nat) : left U V (j + 1) / W ^ j < V * W := by
  refine Nat.div_lt_of_lt_mul ?_
  have := left_lt (U := U) hV (j + 1)
  rw [Nat.pow_succ] at this
  rw [Nat.mul_comm (W ^ j), Nat.mul_assoc, Nat.mul_comm W]
  exact this
/-- the digit -/
theorem left_digit (j : Nat) : left U V (j + 1) / W ^ j / V = U / V / W ^ j % W := by
  unfold left
  rw [Nat.div_div_eq_div_mul, Nat.mul_comm (W ^ j) V, Nat.pow_succ, ← Nat.mul_assoc, Nat.mod_mul_right_div_self, Nat.div_div_eq_div_mul]
/-- what is left behind it -/
theorem left_next (hV : 0 < V) (j : Nat) : left U V j = left U V (j + 1) / W ^ j % V * W ^ j + left U V (j + 1) % W ^ j := by
  have h1 : left U V j = left U V (j + 1) % (V * W ^ j) := by
    unfold left
    rw [Nat.pow_succ, ← Nat.mul_assoc, Nat.mod_mul_right_mod]
  rw [h1]
  generalize left U V (j + 1) = A
  have h2 := Nat.div_add_mod A (W ^ j)
  have h3 := Nat.div_add_mod (A / W ^ j) V
  have h4 := Nat.mod_lt A (pw j)
  have h5 := Nat.mod_lt (A / W ^ j) hV
  have h6 : (A / W ^ j % V + 1) * W ^ j ≤ V * W ^ j := Nat.mul_le_mul_right _ h5
  rw [Nat.add_mul, Nat.one_mul] at h6
  have h7 : A = V * W ^ j * (A / W ^ j / V) + (A / W ^ j % V * W ^ j + A % W ^ j) := by
    have e1 : V * W ^ j * (A / W ^ j / V) = W ^ j * (V * (A / W ^ j / V)) := by rw [Nat.mul_comm V, Nat.mul_assoc]
    rw [e1, ← Nat.add_assoc, Nat.mul_comm (A / W ^ j % V), ← Nat.mul_add, h3]
    exact h2.symm
  conv => lhs; rw [h7, Nat.mul_add_mod]
  exact Nat.mod_eq_of_lt (by omega)
theorem left_low (hV : 0 < V) (i : Nat) (h : i < j) : left U V j / W ^ i % W = left U V (j + 1) / W ^ i % W := by
  rw [left_next hV j, ← word_mod _ j i h, Nat.add_comm, Nat.add_mul_mod_self_right, Nat.mod_mod, word_mod _ j i h]
theorem left_sec (hV : 0 < V) (t : Nat) : left U V j / W ^ (j + t) = left U V (j + 1) / W ^ j % V / W ^ t := by
  have h1 : left U V j / W ^ j = left U V (j + 1) / W ^ j % V := by
    rw [left_next hV j, Nat.add_comm, Nat.add_mul_div_right _ _ (pw j), Nat.div_eq_of_lt (Nat.mod_lt _ (pw j)), Nat.zero_add]
  rw [Nat.pow_add, ← Nat.div_div_eq_div_mul, h1]
theorem left_high {n : Nat} (hV : 0 < V) (hn : V < W ^ n) (k i : Nat) (h : n + k ≤ i) : left U V k / W ^ i = 0 := by
  refine Nat.div_eq_of_lt (Nat.lt_of_lt_of_le (left_lt hV k) ?_)
  refine Nat.le_trans (Nat.mul_le_mul_right _ (Nat.le_of_lt hn)) ?_
  rw [← Nat.pow_add]
  exact Nat.pow_le_pow_right W_pos h
end
/-- a list is known by its words -/
theorem mix_ext {L L' : List Value} {U N : Nat} (hl : L'.length = L.length) (hN : N ≤ L.length) (h1 : ∀ i, i < N → L'[i]? = some (.int .u64 ((U / W ^ i % W : Nat) : Int))) (h2 : ∀ i, N ≤ i → L'[i]? = L[i]?) : L' = mix L 0 U 0 N := by
  apply List.ext_getElem?
  intro i
  by_cases h : i < N
  · have := mix_in (L := L) (o := 0) (R := U) (a := 0) (b := N) i (by omega) h (by omega)
    rw [Nat.zero_add] at this
    rw [this, h1 i h]
  · rw [mix_out i (by omega), h2 i (by omega)]
theorem mix_at {L : List Value} {U N : Nat} (i : Nat) (h : i < N) (hN : N ≤ L.length) : (mix L 0 U 0 N)[i]? = some (.int .u64 ((U / W ^ i % W : Nat) : Int)) := by
  have := mix_in (L := L) (o := 0) (R := U) (a := 0) (b := N) i (by omega) h (by omega)
  rw [Nat.zero_add] at this
  exact this
/-- the row behind a digit -/
theorem sec_next {L L' : List Value} {U V j n N c : Nat} (hV : 0 < V) (hn : V < W ^ n) (hj : j + (n + 1) ≤ N) (hN : N ≤ L.length) (hl : L'.length = L.length)
    (h1 : ∀ t, t < n + 1 → L'[j + t]? = some (.int .u64 (((left U V (j + 1) / W ^ j % V + c * W ^ (n + 1)) / W ^ t % W : Nat) : Int)))
    (h2 : ∀ i, i < j ∨ j + (n + 1) ≤ i → L'[i]? = (mix L 0 (left U V (j + 1)) 0 N)[i]?) : L' = mix L 0 (left U V j) 0 N := by
  refine mix_ext hl hN (fun i hi => ?_) (fun i hi => ?_)
  · by_cases ha : i < j
    · rw [h2 i (.inl ha), mix_at i hi hN, left_low hV i ha]
    · by_cases hb : i < j + (n + 1)
      · obtain ⟨t, rfl⟩ : ∃ t, i = j + t := ⟨i - j, by omega⟩
        rw [h1 t (by omega), word_add _ _ _ _ (by omega), left_sec hV t]
      · rw [h2 i (.inr (by omega)), mix_at i hi hN, left_high hV hn _ i (by omega), left_high hV hn _ i (by omega)]
  · rw [h2 i (.inr (by omega)), mix_out i (by omega)]
/-- a row whose words are already those -/
theorem mix_same {L : List Value} {U N j X n : Nat} (hN : N ≤ L.length) (hj : j + n ≤ N) (h : ∀ t, t < n → X / W ^ t % W = U / W ^ (j + t) % W) : mix (mix L 0 U 0 N) j X 0 n = mix L 0 U 0 N := by
  apply List.ext_getElem?
  intro i
  by_cases ha : j ≤ i ∧ i < j + n
  · obtain ⟨t, rfl⟩ : ∃ t, i = j + t := ⟨i - j, by omega⟩
    rw [mix_in t (by omega) (by omega) (by rw [mix_length]; omega), mix_at (j + t) (by omega) hN, h t (by omega)]
  · rw [mix_out i (by omega)]
end Go.Proofs.YtpjkfdgkkpkljaaGreatDoor.Nat_
