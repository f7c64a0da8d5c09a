/-
  Regions that draw their order, looked at once: the slots, values and worlds as lists.
-/
import Derived.Test.YtpjkfdgkkpkljaaGreatDoorRegCall
import Derived.Test.YtpjkfdgkkpkljaaGreatDoorRegGuard
namespace Go.Proofs.YtpjkfdgkkpkljaaGreatDoor.Reg
open Go.RowKit
set_option linter.unusedVariables false

def dstOf (l : List (Option Nat)) (i : Nat) : Option Tmp := l.getD i none
def valOf (l : List Value) (i : Nat) : Value := l.getD i undef
theorem getD_mem {α : Type} : ∀ (l : List (Option α)) (i : Nat) (d : α), l.getD i none = some d → some d ∈ l
  | [], i, d, h => by simp at h
  | x :: l, 0, d, h => by
    have : x = some d := by simpa using h
    rw [this]; exact List.mem_cons_self
  | x :: l, i + 1, d, h => List.mem_cons_of_mem _ (getD_mem l i d (by simpa using h))
def onceIn : List (Option Nat) → Bool
  | [] => true
  | none :: l => onceIn l
  | some d :: l => !l.contains (some d) && onceIn l
theorem getD_once : ∀ (l : List (Option Nat)), onceIn l = true → ∀ i j d, l.getD i none = some d → l.getD j none = some d → i = j
  | [], _, i, j, d, h, _ => by simp at h
  | x :: l, hn, i, j, d, h1, h2 => by
    have hl : onceIn l = true := by
      cases x with
      | none => exact hn
      | some e => unfold onceIn at hn; simp only [Bool.and_eq_true] at hn; exact hn.2
    have hne : x = some d → some d ∈ l → False := fun hx hm => by
      subst hx
      unfold onceIn at hn
      simp [hm] at hn
    cases i with
    | zero =>
      cases j with
      | zero => rfl
      | succ j => exact (hne (by simpa using h1) (getD_mem l j d (by simpa using h2))).elim
    | succ i =>
      cases j with
      | zero => exact (hne (by simpa using h2) (getD_mem l i d (by simpa using h1))).elim
      | succ j => rw [getD_once l hl i j d (by simpa using h1) (by simpa using h2)]
theorem dstOf_inj (l : List (Option Nat)) (h : onceIn l = true) : ∀ j k d, dstOf l j = some d → dstOf l k = some d → j = k := fun j k d h1 h2 => getD_once l h j k d h1 h2
theorem dstOf_lt (l : List (Option Nat)) (n : Nat) (h : (l.all fun o => o.all fun d => decide (d < n)) = true) {j : Nat} {d : Tmp} (hd : dstOf l j = some d) : (show Nat from d) < n := by
  have hm := getD_mem l j d hd
  have := List.all_eq_true.1 h _ hm
  simpa using this
theorem dstOf_ne (l : List (Option Nat)) (k : Nat) (h : l.contains (some k) = false) {j : Nat} {d : Tmp} (hd : dstOf l j = some d) : d ≠ k := by
  rintro rfl
  have hm := getD_mem l j d hd
  rw [List.contains_iff_mem.2 hm] at h
  cases h
theorem tmp_at {a : Act} {k : Nat} {v : Value} (h : a.eval (.tmp k) = v) : a.tmps[k]?.getD undef = v := by
  simpa [Act.eval, Array.getD_eq_getD_getElem?] using h
/-- the worlds of two stores, one behind the other -/
def wst2 (s1 s2 : Nat) (a b c : World) (f : Nat → Bool) : World := if f s2 then c else if f s1 then b else a
theorem wst2_no (s1 s2 : Nat) (a b c : World) (f : Nat → Bool) (i : Nat) (h1 : i ≠ s1) (h2 : i ≠ s2) : wst2 s1 s2 a b c (fun k => decide (k = i) || f k) = wst2 s1 s2 a b c f := by
  unfold wst2
  have e1 : decide (s1 = i) = false := decide_eq_false (Ne.symm h1)
  have e2 : decide (s2 = i) = false := decide_eq_false (Ne.symm h2)
  simp [e1, e2]
theorem wst2_none {s1 s2 : Nat} {a b c : World} {f : Nat → Bool} (h1 : f s1 = false) (h2 : f s2 = false) : wst2 s1 s2 a b c f = a := by simp [wst2, h1, h2]
theorem wst2_one {s1 s2 : Nat} {a b c : World} {f : Nat → Bool} (h1 : f s1 = true) (h2 : f s2 = false) : wst2 s1 s2 a b c f = b := by simp [wst2, h1, h2]
theorem wst2_first {s1 s2 : Nat} {a b c : World} {f : Nat → Bool} (h2 : f s2 = false) (h : s2 ≠ s1) : wst2 s1 s2 a b c (fun k => decide (k = s1) || f k) = b := by simp [wst2, h2, h]
theorem wst2_second {s1 s2 : Nat} {a b c : World} {f : Nat → Bool} : wst2 s1 s2 a b c (fun k => decide (k = s2) || f k) = c := by simp [wst2]
/-- a region with a call, said of whatever frame has these slots -/
theorem via_call {Θ : Type} {P : Program} {c : Code} {Q : Exit → Act → World → Prop} {a : Act} {w : World} (Ok : Θ → Prop) (g : Θ → Act → Act) (W2 : Θ → World) (F : Act → Prop) (hF : F a) (h : ∀ a0 (Q' : Exit → Act → World → Prop), F a0 → (∀ θ, Ok θ → Q' .normal (g θ a0) (W2 θ)) → Code.wp P c Q' a0 w) (k : ∀ θ, Ok θ → Q .normal (g θ a) (W2 θ)) : Code.wp P c Q a w := h a Q hF k
end Go.Proofs.YtpjkfdgkkpkljaaGreatDoor.Reg
