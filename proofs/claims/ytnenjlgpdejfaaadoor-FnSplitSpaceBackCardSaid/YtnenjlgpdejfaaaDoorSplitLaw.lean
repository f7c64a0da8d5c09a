/-
  A text cut between its words from the end on, said plainly: the pieces as pairs of places.
-/
import Derived.Test.YtnenjlgpdejfaaaDoorOwn
import Derived.Lib.Strings
namespace Go.Proofs.YtnenjlgpdejfaaaDoor.Split
open Go.RowKit
set_option linter.unusedVariables false

/-- the byte at a place -/
def at' (s : ByteArray) (i : Nat) : Nat := (s.get! i).toNat
def blank (c : Nat) : Bool := decide (c = 32 ∨ (9 ≤ c ∧ c ≤ 13))
/-- is the byte at a place white? -/
def wh (s : ByteArray) (i : Nat) : Bool := blank (at' s i)

/-- the pieces that end at or ahead of place i; oe: the end of the piece that is under way -/
def run (p : Nat → Bool) (most : Nat) : Nat → Option Nat → List (Nat × Nat) → List (Nat × Nat)
  | 0, none, acc => acc
  | 0, some e, acc => (0, e) :: acc
  | i + 1, none, acc => if p i then run p most i none acc else run p most i (some (i + 1)) acc
  | i + 1, some e, acc => if p i then (if acc.length = most then (0, e) :: acc else run p most i none ((i + 1, e) :: acc)) else run p most i (some e) acc

theorem run_skip {p : Nat → Bool} {most i : Nat} {acc R : List (Nat × Nat)} (h : run p most (i + 1) none acc = R) (hp : p i = true) : run p most i none acc = R := by
  rw [run, if_pos hp] at h; exact h
theorem run_open {p : Nat → Bool} {most i : Nat} {acc R : List (Nat × Nat)} (h : run p most (i + 1) none acc = R) (hp : p i = false) : run p most i (some (i + 1)) acc = R := by
  rw [run, if_neg (by simp [hp])] at h; exact h
theorem run_open' {p : Nat → Bool} {most i : Nat} {acc R : List (Nat × Nat)} (h : run p most (i + 1) none acc = R) (hp : p i = false) : run p most (i + 1) (some (i + 1)) acc = R := by
  rw [run, if_neg (by simp [hp])] at h
  rw [run, if_neg (by simp [hp])]; exact h
theorem run_on {p : Nat → Bool} {most i e : Nat} {acc R : List (Nat × Nat)} (h : run p most (i + 1) (some e) acc = R) (hp : p i = false) : run p most i (some e) acc = R := by
  rw [run, if_neg (by simp [hp])] at h; exact h
theorem run_cut {p : Nat → Bool} {most i e : Nat} {acc R : List (Nat × Nat)} (h : run p most (i + 1) (some e) acc = R) (hp : p i = true) (hl : acc.length ≠ most) : run p most i none ((i + 1, e) :: acc) = R := by
  rw [run, if_pos hp, if_neg hl] at h; exact h
theorem run_stop {p : Nat → Bool} {most i e : Nat} {acc R : List (Nat × Nat)} (h : run p most (i + 1) (some e) acc = R) (hp : p i = true) (hl : acc.length = most) : (0, e) :: acc = R := by
  rw [run, if_pos hp, if_pos hl] at h; exact h
theorem run_full {p : Nat → Bool} {most e : Nat} {acc : List (Nat × Nat)} (hl : acc.length = most) (i : Nat) : run p most i (some e) acc = (0, e) :: acc := by
  induction i with
  | zero => rfl
  | succ i ih => rw [run, if_pos hl, ih]; split <;> rfl
/-- a step back in the reference's inner loop -/
theorem run_back {p : Nat → Bool} {most i e : Nat} {acc R : List (Nat × Nat)} (h : run p most (i + 1) (some e) acc = R) (hg : acc.length = most ∨ p i = false) : run p most i (some e) acc = R := by
  rcases hg with hl | hp
  · rw [run_full hl] at h ⊢; exact h
  · exact run_on h hp
/-- the reference's inner loop has come to its end -/
theorem run_piece {p : Nat → Bool} {most i e : Nat} {acc R : List (Nat × Nat)} (h : run p most i (some e) acc = R) (hg : 0 < i → acc.length ≠ most ∧ p (i - 1) = true) : run p most i none ((i, e) :: acc) = R := by
  cases i with
  | zero => exact h
  | succ i =>
    have := hg (by omega)
    have h' := run_cut h this.2 this.1
    rw [run, if_pos (show p i = true from this.2)]; exact h'
theorem run_length (p : Nat → Bool) (most : Nat) : ∀ (i : Nat) (oe : Option Nat) (acc : List (Nat × Nat)), acc.length ≤ most → (run p most i oe acc).length ≤ most + 1 := by
  intro i
  induction i with
  | zero => intro oe acc h; cases oe <;> simp [run] <;> omega
  | succ i ih =>
    intro oe acc h
    cases oe with
    | none => rw [run]; split <;> exact ih _ _ h
    | some e =>
      rw [run]
      split
      · split
        · simp; omega
        · exact ih _ _ (by simp; omega)
      · exact ih _ _ h

/-- the texts of pieces -/
def texts (s : ByteArray) (l : List (Nat × Nat)) : List Value := l.map fun q => Value.string (s.extract q.1 q.2)
theorem texts_length (s : ByteArray) (l : List (Nat × Nat)) : (texts s l).length = l.length := by simp [texts]

/-- a list with its first j and its last j elements exchanged -/
def sw (xs : List Value) (j : Nat) : List Value := (List.range xs.length).map fun k => if k < j ∨ xs.length - j ≤ k then xs.getD (xs.length - 1 - k) undef else xs.getD k undef
theorem sw_length (xs : List Value) (j : Nat) : (sw xs j).length = xs.length := by simp [sw]
theorem sw_get (xs : List Value) (j k : Nat) (hk : k < xs.length) : (sw xs j)[k]? = some (if k < j ∨ xs.length - j ≤ k then xs.getD (xs.length - 1 - k) undef else xs.getD k undef) := by
  simp [sw, hk]
theorem sw_zero (xs : List Value) : sw xs 0 = xs := by
  apply List.ext_getElem?
  intro k
  by_cases hk : k < xs.length
  · rw [sw_get xs 0 k hk, if_neg (by omega), List.getD_eq_getElem?_getD, List.getElem?_eq_getElem hk]; rfl
  · rw [List.getElem?_eq_none (by rw [sw_length]; omega), List.getElem?_eq_none (by omega)]
theorem sw_step (xs : List Value) (j : Nat) (hj : j < xs.length / 2) :
    ((sw xs j).set j (xs.getD (xs.length - 1 - j) undef)).set (xs.length - 1 - j) (xs.getD j undef) = sw xs (j + 1) := by
  apply List.ext_getElem?
  intro k
  by_cases hk : k < xs.length
  · rw [sw_get xs (j + 1) k hk, List.getElem?_set, List.getElem?_set]
    by_cases h1 : xs.length - 1 - j = k
    · rw [if_pos h1, if_pos (by rw [List.length_set, sw_length]; omega), if_pos (by omega), show xs.length - 1 - k = j by omega]
    · rw [if_neg h1]
      by_cases h2 : j = k
      · rw [if_pos h2, if_pos (by rw [sw_length]; omega), if_pos (by omega), h2]
      · rw [if_neg h2, sw_get xs j k hk]
        by_cases h3 : k < j ∨ xs.length - j ≤ k
        · rw [if_pos h3, if_pos (by omega)]
        · rw [if_neg h3, if_neg (by omega)]
  · rw [List.getElem?_eq_none (by simp [sw_length]; omega), List.getElem?_eq_none (by rw [sw_length]; omega)]
theorem sw_end (xs : List Value) (j : Nat) (hj : ¬ j < xs.length / 2) : sw xs j = xs.reverse := by
  apply List.ext_getElem?
  intro k
  by_cases hk : k < xs.length
  · rw [sw_get xs j k hk, List.getElem?_reverse hk]
    by_cases h : k < j ∨ xs.length - j ≤ k
    · rw [if_pos h, List.getD_eq_getElem?_getD, List.getElem?_eq_getElem (by omega)]; rfl
    · rw [if_neg h, List.getD_eq_getElem?_getD, List.getElem?_eq_getElem hk, List.getElem?_eq_getElem (by omega)]
      have : xs.length - 1 - k = k := by omega
      simp only [this]; rfl
  · rw [List.getElem?_eq_none (by rw [sw_length]; omega), List.getElem?_eq_none (by simp; omega)]
end Go.Proofs.YtnenjlgpdejfaaaDoor.Split
