/-
  One digit of a long division: the plain laws of the guess and of what is left.
-/
import Derived.Test.YtpjkfdgkkpkljaaGreatDoorKnuthLaw
import Derived.Test.YtpjkfdgkkpkljaaGreatDoorWordLaw
namespace Go.Proofs.YtpjkfdgkkpkljaaGreatDoor.Knuth
open Go.Proofs.YtpjkfdgkkpkljaaGreatDoor.Num
set_option linter.unusedVariables false

section
variable {p V X : Nat}
theorem pw (j : Nat) : 0 < W ^ j := Nat.pow_pos W_pos
theorem k_two (A j : Nat) : A / W ^ j = A / W ^ (j + 1) * W + A / W ^ j % W := by
  have h := Nat.div_add_mod (A / W ^ j) W
  rw [Nat.div_div_eq_div_mul, ← Nat.pow_succ, Nat.mul_comm] at h
  exact h.symm
theorem k_v1 (hV : V < W ^ (p + 2)) (hn : 9223372036854775808 * W ^ (p + 1) ≤ V) : 9223372036854775808 ≤ V / W ^ (p + 1) ∧ V / W ^ (p + 1) < W := by
  constructor
  · exact (Nat.le_div_iff_mul_le (pw _)).2 hn
  · refine Nat.div_lt_of_lt_mul ?_
    rw [← Nat.pow_succ]
    exact hV
theorem k_v2 (hn : 9223372036854775808 * W ^ (p + 1) ≤ V) : W ≤ V / W ^ p := by
  refine (Nat.le_div_iff_mul_le (pw _)).2 ?_
  have h1 : W * W ^ p = W ^ (p + 1) := by rw [Nat.pow_succ, Nat.mul_comm]
  rw [h1]
  have := pw (p + 1)
  omega
theorem k_vpos (hn : 9223372036854775808 * W ^ (p + 1) ≤ V) : 0 < V := by
  have := pw (p + 1)
  omega
theorem k_top (hX : X < V * W) : X / W ^ (p + 2) ≤ V / W ^ (p + 1) := by
  have h1 : V < (V / W ^ (p + 1) + 1) * W ^ (p + 1) := by
    rw [Nat.add_mul, Nat.one_mul]
    exact Nat.lt_div_mul_add (pw _)
  have h2 : X < (V / W ^ (p + 1) + 1) * W ^ (p + 2) := by
    rw [Nat.pow_succ W (p + 1), ← Nat.mul_assoc]
    exact Nat.lt_of_lt_of_le hX (Nat.mul_le_mul_right _ (Nat.le_of_lt h1))
  have := (Nat.div_lt_iff_lt_mul (pw (p + 2))).2 h2
  omega
theorem k_q (hX : X < V * W) : X / V < W := Nat.div_lt_of_lt_mul hX
theorem k_qle (V X : Nat) : X / V * V ≤ X := Nat.div_mul_le_self _ _
theorem k_qlt (hn : 9223372036854775808 * W ^ (p + 1) ≤ V) : X < (X / V + 1) * V := by
  rw [Nat.add_mul, Nat.one_mul]
  exact Nat.lt_div_mul_add (k_vpos hn)
theorem k_eq (hn : 9223372036854775808 * W ^ (p + 1) ≤ V) (h : X / W ^ (p + 2) = V / W ^ (p + 1)) : W ≤ X / V + 2 := by
  have h1 : V < (V / W ^ (p + 1) + 1) * W ^ (p + 1) := by
    rw [Nat.add_mul, Nat.one_mul]
    exact Nat.lt_div_mul_add (pw _)
  have h2 : 9223372036854775808 ≤ V / W ^ (p + 1) := (Nat.le_div_iff_mul_le (pw _)).2 hn
  refine digit_top (B := W) (P := W ^ (p + 1)) (V := V) (U := X) (v1 := V / W ^ (p + 1)) h1 (Nat.div_mul_le_self _ _) ?_ ?_ (k_qlt hn)
  · rw [← h, Nat.mul_assoc, Nat.mul_comm W, ← Nat.pow_succ]
    exact Nat.div_mul_le_self _ _
  · generalize V / W ^ (p + 1) = v at h2
    rw [W_eq]
    omega
theorem k_low (X : Nat) (hV : 0 < V) : X / V * (V / W ^ p) ≤ X / W ^ p := by
  refine digit_low (P := W ^ p) (V := V) (U := X) (qh := 0) (pw p) (Nat.div_mul_le_self _ _) ?_ (k_qle V X)
  rw [Nat.add_mul, Nat.one_mul]
  exact Nat.lt_div_mul_add (pw _)
/-- the uppermost two words -/
def topw (p X : Nat) : Nat := X / W ^ (p + 2) * W + X / W ^ (p + 1) % W
theorem k_u3 (p X : Nat) : X / W ^ p = topw p X * W + X / W ^ p % W := by
  have h1 := k_two X p
  have h2 := k_two X (p + 1)
  unfold topw
  rw [← h2]
  exact h1
theorem k_first (hV : 0 < V) (h0 : 0 < V / W ^ (p + 1)) : X / V ≤ topw p X / (V / W ^ (p + 1)) := by
  have h1 := k_low (p := p) X hV
  refine half_first (b := W) (y1 := V / W ^ (p + 1)) (y0 := V / W ^ p % W) (u := topw p X) (u1 := X / W ^ p % W) h0 (Nat.mod_lt _ W_pos) ?_
  rw [← k_two V p, ← k_u3 p X]
  exact h1
theorem k_down {qh rh : Nat} (hV : 0 < V) (ht : topw p X = qh * (V / W ^ (p + 1)) + rh) (hq : X / V ≤ qh) (hgt : rh * W + X / W ^ p % W < qh * (V / W ^ p % W)) : X / V + 1 ≤ qh :=
  digit_down (v1 := V / W ^ (p + 1)) (v2 := V / W ^ p % W) (B := W) (top := topw p X) (u2 := X / W ^ p % W) (k_two V p) (k_u3 p X) ht (k_low X hV) hq hgt
theorem k_stop {qh rh : Nat} (hn : 9223372036854775808 * W ^ (p + 1) ≤ V) (hX : X < V * W) (ht : topw p X = qh * (V / W ^ (p + 1)) + rh) (hle : qh * (V / W ^ p % W) ≤ rh * W + X / W ^ p % W) : qh ≤ X / V + 1 := by
  have h1 := digit_stop (v1 := V / W ^ (p + 1)) (v2 := V / W ^ p % W) (B := W) (top := topw p X) (u2 := X / W ^ p % W) (k_two V p) (k_u3 p X) ht hle
  refine digit_high (B := W) (P := W ^ p) (V := V) (U := X) (pw p) ?_ (Nat.div_mul_le_self _ _) (k_v2 hn) (k_q hX) (k_qlt hn) h1
  rw [Nat.add_mul, Nat.one_mul]
  exact Nat.lt_div_mul_add (pw _)
theorem k_break {qh rh : Nat} (hn : 9223372036854775808 * W ^ (p + 1) ≤ V) (hX : X < V * W) (ht : topw p X = qh * (V / W ^ (p + 1)) + rh) (hW : W ≤ rh) (hq : qh ≤ W) : qh ≤ X / V + 1 := by
  refine k_stop hn hX ht ?_
  have h1 : qh * (V / W ^ p % W) ≤ W * W := Nat.mul_le_mul hq (Nat.le_of_lt (Nat.mod_lt _ W_pos))
  have h2 : W * W ≤ rh * W := Nat.mul_le_mul_right _ hW
  omega
/-- what is left where the guess is one too great: the words of the difference, the divisor added back -/
theorem k_back {q M : Nat} (h0 : q * V ≤ X) (h1 : X < (q + 1) * V) (hM : (q + 1) * V ≤ M) : X + M - (q + 1) * V + V = X - q * V + M := by
  rw [Nat.add_mul, Nat.one_mul] at *
  omega
end
end Go.Proofs.YtpjkfdgkkpkljaaGreatDoor.Knuth
