/-
  The remainder of two floats: one step of its loop is exact, and lowers what is left. Plain.
-/
import Derived.Test.YtafbheamnjmfoaaGreatFloatNum
namespace Go.Proofs.YtafbheamnjmfoaaGreat.Fl
open Ieee
set_option linter.unusedVariables false

/-- the number of 53 bits and the power that a float above 0 is -/
def NF (b m L : Nat) : Prop := nval b * 4503599627370496 = m * 2 ^ L ∧ 4503599627370496 ≤ m ∧ m < 9007199254740992
theorem nf_nor {b : Nat} (h : fexp b ≠ 0) : NF b (4503599627370496 + ffr b) (51 + fexp b) := by
  have := ffr_lt b
  refine ⟨?_, by omega, by omega⟩
  rw [nval_nor h, Nat.mul_assoc, show (4503599627370496 : Nat) = 2 ^ 52 by rfl, ← Nat.pow_add, show fexp b - 1 + 52 = 51 + fexp b by omega]
/-- of a float that is 2 to the 52nd times another one -/
theorem nf_sub {b c m L : Nat} (h : nval c = nval b * 2 ^ 52) (hc : NF c m (L + 52)) : NF b m L := by
  obtain ⟨h1, h2, h3⟩ := hc
  refine ⟨?_, h2, h3⟩
  rw [h, Nat.pow_add, Nat.mul_right_comm, ← Nat.mul_assoc] at h1
  exact Nat.eq_of_mul_eq_mul_right (Nat.two_pow_pos 52) h1
theorem pow_lt_of {a b x y : Nat} (h : a * 2 ^ x ≤ b * 2 ^ y) (ha : 4503599627370496 ≤ a) (hb : b < 9007199254740992) : x ≤ y := by
  rcases Nat.lt_or_ge y x with h1 | h1
  · exfalso
    have h2 : 2 ^ (y + 1) ≤ 2 ^ x := Nat.pow_le_pow_right (by decide) h1
    have h3 : 4503599627370496 * 2 ^ (y + 1) ≤ a * 2 ^ x := Nat.mul_le_mul ha h2
    have h4 : b * 2 ^ y < 9007199254740992 * 2 ^ y := Nat.mul_lt_mul_of_pos_right hb (Nat.two_pow_pos y)
    rw [Nat.pow_succ, Nat.mul_comm (2 ^ y) 2, ← Nat.mul_assoc] at h3
    omega
  · exact h1
/-- one step -/
theorem mod_step {y r my Ly mr Lr : Nat} (hy0 : 0 < y) (hyr : y ≤ r) (hr : r < infB) (hy : NF y my Ly) (hr' : NF r mr Lr) :
    ∃ (k c r' : Nat), (Lr : Int) - Ly - (if mr < my then 1 else 0) = (k : Int) ∧ c < infB ∧ nval c = nval y * 2 ^ k ∧ 0 < c ∧ c ≤ r ∧ r' < r ∧ nval r = nval c + nval r' := by
  have hyi : y < infB := by omega
  have hn : nval y ≤ nval r := by
    rcases Nat.lt_or_ge y r with h | h
    · exact Nat.le_of_lt (nval_mono hr h)
    · have : y = r := by omega
      rw [this]; exact Nat.le_refl _
  obtain ⟨y1, y2, y3⟩ := hy
  obtain ⟨r1, r2, r3⟩ := hr'
  have hmm : my * 2 ^ Ly ≤ mr * 2 ^ Lr := by rw [← y1, ← r1]; exact Nat.mul_le_mul_right _ hn
  have hL := pow_lt_of hmm y2 r3
  have hk : mr < my → Ly < Lr := fun h => by
    rcases Nat.lt_or_ge Ly Lr with h1 | h1
    · exact h1
    · exfalso
      have : Ly = Lr := by omega
      rw [this] at hmm
      have := Nat.le_of_mul_le_mul_right hmm (Nat.two_pow_pos Lr)
      omega
  -- the shift
  obtain ⟨k, hkk, hk1, hk2⟩ : ∃ k : Nat, (Lr : Int) - Ly - (if mr < my then 1 else 0) = (k : Int) ∧ nval y * 2 ^ k ≤ nval r ∧ nval r < 2 * (nval y * 2 ^ k) := by
    have hfac : ∀ k, nval y * 2 ^ k * 4503599627370496 = my * 2 ^ (Ly + k) := fun k => by rw [Nat.mul_right_comm, y1, Nat.mul_assoc, ← Nat.pow_add]
    by_cases hlt : mr < my
    · have h1 := hk hlt
      refine ⟨Lr - Ly - 1, by rw [if_pos hlt]; omega, ?_, ?_⟩
      · have h2 := hfac (Lr - Ly - 1)
        rw [show Ly + (Lr - Ly - 1) = Lr - 1 by omega] at h2
        have h3 : my * 2 ^ (Lr - 1) < 9007199254740992 * 2 ^ (Lr - 1) := Nat.mul_lt_mul_of_pos_right y3 (Nat.two_pow_pos _)
        have h4 : 4503599627370496 * 2 ^ Lr ≤ mr * 2 ^ Lr := Nat.mul_le_mul_right _ r2
        have h5 : 9007199254740992 * 2 ^ (Lr - 1) = 4503599627370496 * 2 ^ Lr := by
          have : 2 ^ Lr = 2 * 2 ^ (Lr - 1) := by rw [← Nat.pow_succ', show (Lr - 1).succ = Lr by omega]
          rw [this, ← Nat.mul_assoc]
        omega
      · have h2 := hfac (Lr - Ly - 1)
        rw [show Ly + (Lr - Ly - 1) = Lr - 1 by omega] at h2
        have h5 : my * 2 ^ Lr = 2 * (my * 2 ^ (Lr - 1)) := by
          have : 2 ^ Lr = 2 * 2 ^ (Lr - 1) := by rw [← Nat.pow_succ', show (Lr - 1).succ = Lr by omega]
          rw [this, ← Nat.mul_assoc, Nat.mul_comm my 2, Nat.mul_assoc]
        have h6 : mr * 2 ^ Lr < my * 2 ^ Lr := Nat.mul_lt_mul_of_pos_right hlt (Nat.two_pow_pos _)
        omega
    · refine ⟨Lr - Ly, by rw [if_neg hlt]; omega, ?_, ?_⟩
      · have h2 := hfac (Lr - Ly)
        rw [show Ly + (Lr - Ly) = Lr by omega] at h2
        have h3 : my * 2 ^ Lr ≤ mr * 2 ^ Lr := Nat.mul_le_mul_right _ (by omega)
        omega
      · have h2 := hfac (Lr - Ly)
        rw [show Ly + (Lr - Ly) = Lr by omega] at h2
        have h3 : mr * 2 ^ Lr < 9007199254740992 * 2 ^ Lr := Nat.mul_lt_mul_of_pos_right r3 (Nat.two_pow_pos _)
        have h4 : 4503599627370496 * 2 ^ Lr ≤ my * 2 ^ Lr := Nat.mul_le_mul_right _ y2
        omega
  obtain ⟨T, hT⟩ : ∃ T, nval y * 2 ^ k = T := ⟨_, rfl⟩
  rw [hT] at hk1 hk2
  have hT0 : 0 < T := by rw [← hT]; exact Nat.mul_pos (nval_pos hyi hy0) (Nat.two_pow_pos k)
  obtain ⟨q1, q2, q3, q4⟩ := pos_parts hr
  obtain ⟨E, hE⟩ : ∃ E, E = 2098 := ⟨_, rfl⟩
  have hrE : nval r < 2 ^ E := Nat.lt_of_lt_of_le (nval_high r) (Nat.pow_le_pow_right (by decide) (by omega))
  obtain ⟨c, hc, hcv⟩ := nval_rep (fman y) (fexp y - 1 + k) E hE (fman_lt y) (by
    have e : fman y * 2 ^ (fexp y - 1 + k) = T := by rw [Nat.pow_add, ← Nat.mul_assoc, ← hT]; rfl
    rw [e]; omega)
  have hcT : nval c = T := by rw [hcv, Nat.pow_add, ← Nat.mul_assoc, ← hT]; rfl
  have hcr : c ≤ r := nval_le hc (by omega)
  have hc0 : 0 < c := by
    rcases Nat.eq_zero_or_pos c with h | h
    · rw [h, nval_0] at hcT; omega
    · exact h
  -- what is left
  obtain ⟨p1, p2, p3, p4⟩ := pos_parts hc
  have hee : fexp c ≤ fexp r := by omega
  obtain ⟨i, hi⟩ : ∃ i, fexp r - 1 = i := ⟨_, rfl⟩
  obtain ⟨j, hj⟩ : ∃ j, fexp c - 1 = j := ⟨_, rfl⟩
  have hji : j ≤ i := by omega
  have vr : nval r = fman r * 2 ^ (i - j) * 2 ^ j := by rw [Nat.mul_assoc, ← Nat.pow_add, show i - j + j = i by omega, ← hi]; rfl
  have vc : nval c = fman c * 2 ^ j := by rw [← hj]; rfl
  obtain ⟨d, hd⟩ : ∃ d, fman r * 2 ^ (i - j) = fman c + d := by
    have h1 : fman c * 2 ^ j ≤ fman r * 2 ^ (i - j) * 2 ^ j := by rw [← vr, ← vc]; omega
    have h2 := Nat.le_of_mul_le_mul_right h1 (Nat.two_pow_pos j)
    exact ⟨fman r * 2 ^ (i - j) - fman c, by omega⟩
  have hsum : nval r = nval c + d * 2 ^ j := by rw [vr, hd, Nat.add_mul, ← vc]
  have hdlt : d < 9007199254740992 := by
    have h1 : d * 2 ^ j < fman c * 2 ^ j := by rw [← vc]; omega
    have h2 := Nat.lt_of_mul_lt_mul_right h1
    have := fman_lt c
    omega
  obtain ⟨r', hr'1, hr'2⟩ := nval_rep d j E hE hdlt (by omega)
  refine ⟨k, c, r', hkk, hc, by rw [hcT, hT], hc0, hcr, ?_, by rw [hr'2]; exact hsum⟩
  rcases Nat.lt_or_ge r' r with h | h
  · exact h
  · exfalso
    rcases Nat.lt_or_ge r r' with h' | h'
    · have := nval_mono hr'1 h'; omega
    · have : r = r' := by omega
      rw [← this] at hr'2
      omega

/-- what is left in the end, if r is left to begin with -/
inductive ModTo (y : Nat) : Nat → Nat → Prop
  | done {r : Nat} : r < y → ModTo y r r
  | step {r r' R : Nat} : y ≤ r → (∃ c, c < infB ∧ 0 < c ∧ c ≤ r ∧ (∃ (k my Ly mr Lr : Nat), NF y my Ly ∧ NF r mr Lr ∧ (Lr : Int) - Ly - (if mr < my then 1 else 0) = ((k : Nat) : Int) ∧ nval c = nval y * 2 ^ k) ∧ nval r = nval c + nval r') → r' < r → ModTo y r' R → ModTo y r R
theorem nf_unique {b m L m' L' : Nat} (h : NF b m L) (h' : NF b m' L') : m = m' ∧ L = L' := by
  obtain ⟨h1, h2, h3⟩ := h
  obtain ⟨h1', h2', h3'⟩ := h'
  have e : m * 2 ^ L = m' * 2 ^ L' := h1.symm.trans h1'
  have l1 := pow_lt_of (Nat.le_of_eq e) h2 h3'
  have l2 := pow_lt_of (Nat.le_of_eq e.symm) h2' h3
  have hL : L = L' := by omega
  subst hL
  exact ⟨Nat.eq_of_mul_eq_mul_right (Nat.two_pow_pos L) e, rfl⟩
/-- each float above 0 has its parts -/
theorem nf_some {b : Nat} (h0 : 0 < b) (h : b < infB) : ∃ m L, NF b m L := by
  by_cases he : fexp b = 0
  · obtain ⟨E, hE⟩ : ∃ E, E = 2098 := ⟨_, rfl⟩
    have hv : nval b < 4503599627370496 := by rw [nval_sub he]; exact ffr_lt b
    obtain ⟨c, hc, hcv⟩ := nval_rep (nval b) 52 E hE (by omega) (Nat.lt_of_lt_of_le (Nat.mul_lt_mul_of_pos_right (show nval b < 2 ^ 52 from hv) (Nat.two_pow_pos 52)) (by rw [← Nat.pow_add]; exact Nat.pow_le_pow_right (by decide) (by omega)))
    have hce : fexp c ≠ 0 := fun h0' => by
      have h1 := nval_sub h0'
      have h2 := ffr_lt c
      have h3 := nval_pos h h0
      have : 1 * 2 ^ 52 ≤ nval b * 2 ^ 52 := Nat.mul_le_mul_right _ h3
      omega
    have hnf := nf_nor hce
    have hge : 52 ≤ 51 + fexp c := by omega
    obtain ⟨L, hL⟩ : ∃ L, 51 + fexp c = L + 52 := ⟨51 + fexp c - 52, by omega⟩
    rw [hL] at hnf
    exact ⟨_, _, nf_sub hcv hnf⟩
  · exact ⟨_, _, nf_nor he⟩
theorem modTo_some {y : Nat} (hy0 : 0 < y) : ∀ r, r < infB → ∃ R, ModTo y r R := by
  intro r
  induction r using Nat.strongRecOn with
  | ind r ih =>
    intro hr
    rcases Nat.lt_or_ge r y with h | h
    · exact ⟨r, .done h⟩
    · obtain ⟨my, Ly, hny⟩ := nf_some hy0 (by omega : y < infB)
      obtain ⟨mr, Lr, hnr⟩ := nf_some (by omega : 0 < r) hr
      obtain ⟨k, c, r', h1, h2, h3, h4, h5, h6, h7⟩ := mod_step hy0 h hr hny hnr
      obtain ⟨R, hR⟩ := ih r' h6 (by omega)
      exact ⟨R, .step h ⟨c, h2, h4, h5, ⟨k, my, Ly, mr, Lr, hny, hnr, h1, h3⟩, h7⟩ h6 hR⟩
theorem modTo_lt {y r R : Nat} (h : ModTo y r R) : R < y := by
  induction h with
  | done h => exact h
  | step _ _ _ _ ih => exact ih
end Go.Proofs.YtafbheamnjmfoaaGreat.Fl
