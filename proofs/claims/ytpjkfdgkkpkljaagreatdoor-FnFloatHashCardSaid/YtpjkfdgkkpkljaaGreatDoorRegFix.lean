/-
  A region that draws its order, each of whose operations leaves one value whatever the order: looked at once, in a frame that is a variable.
-/
import Derived.Test.YtpjkfdgkkpkljaaGreatDoorRegInv
namespace Go.Proofs.YtpjkfdgkkpkljaaGreatDoor.Reg
open Go.RowKit
set_option linter.unusedVariables false

theorem Act.ext' {a b : Act} (h1 : a.tmps.size = b.tmps.size) (h2 : a.defers = b.defers) (h : ∀ k, a.eval (.tmp k) = b.eval (.tmp k)) : a = b := by
  obtain ⟨x, dx⟩ := a
  obtain ⟨y, dy⟩ := b
  simp only at h1 h2
  subst h2
  congr 1
  apply Array.ext h1
  intro i hi hj
  have := h i
  simpa [Act.eval, Array.getD, hi, hj] using this
theorem eval_put_same {a : Act} {d : Tmp} {v : Value} (h : d < a.tmps.size) : (a.put (some d) v).eval (.tmp d) = v := by
  simp [Act.put, Act.eval, h]
theorem eval_put_ne {a : Act} {d : Option Tmp} {k : Tmp} {v : Value} (h : ∀ e, d = some e → e ≠ k) : (a.put d v).eval (.tmp k) = a.eval (.tmp k) := by
  cases d with
  | none => rfl
  | some e =>
    have := h e rfl
    simp [Act.put, Act.eval, Array.getElem?_setIfInBounds_ne this]
theorem put_size {a : Act} {d : Option Tmp} {v : Value} : (a.put d v).tmps.size = a.tmps.size := by cases d <;> simp [Act.put]
theorem put_defers {a : Act} {d : Option Tmp} {v : Value} : (a.put d v).defers = a.defers := by cases d <;> rfl

/-- what the frame holds: the values of what has come up, all else as it was -/
structure Held (a : Act) (dst : Nat → Option Tmp) (val : Nat → Value) (f : Nat → Bool) (a' : Act) : Prop where
  size : a'.tmps.size = a.tmps.size
  defers : a'.defers = a.defers
  got : ∀ j d, f j = true → dst j = some d → a'.eval (.tmp d) = val j
  rest : ∀ k, (∀ j d, f j = true → dst j = some d → d ≠ k) → a'.eval (.tmp k) = a.eval (.tmp k)

theorem getS {listed : Array Bool} {i j : Nat} (hi : i < listed.size) : (listed.setIfInBounds i true).getD j false = (decide (j = i) || listed.getD j false) := by
  by_cases e : j = i
  · subst e; simp [Array.getD, hi]
  · simp [e, Array.getElem?_setIfInBounds_ne (Ne.symm e)]

theorem Held.put {a a' : Act} {dst : Nat → Option Tmp} {val : Nat → Value} {f : Nat → Bool} (h : Held a dst val f a') (i : Nat) (hinj : ∀ j k d, dst j = some d → dst k = some d → j = k) (hlt : ∀ j d, dst j = some d → d < a.tmps.size) (v : Value) (hv : ∀ d, dst i = some d → v = val i) : Held a dst val (fun j => decide (j = i) || f j) (a'.put (dst i) v) := by
  refine ⟨put_size.trans h.size, put_defers.trans h.defers, fun j d hl hd => ?_, fun k hk => ?_⟩
  · by_cases e : j = i
    · subst e
      rw [hd, eval_put_same (by rw [h.size]; exact hlt _ _ hd)]
      exact hv d hd
    · rw [decide_eq_false e, Bool.false_or] at hl
      rw [eval_put_ne (k := d) fun e' he' e2 => e (hinj j i d hd (by rw [he', e2]))]
      exact h.got j d hl hd
  · rw [eval_put_ne fun e' he' => hk i e' (by simp) he']
    exact h.rest k fun j d hl hd => hk j d (by rw [hl]; simp) hd
theorem Held.unique {a x y : Act} {dst : Nat → Option Tmp} {val : Nat → Value} {f : Nat → Bool} (h : Held a dst val f x) (h' : Held a dst val f y) : x = y := by
  refine Act.ext' (h.size.trans h'.size.symm) (h.defers.trans h'.defers.symm) fun k => ?_
  by_cases hk : ∃ j d, f j = true ∧ dst j = some d ∧ d = k
  · obtain ⟨j, d, h1, h2, rfl⟩ := hk
    exact (h.got j d h1 h2).trans (h'.got j d h1 h2).symm
  · have : ∀ j d, f j = true → dst j = some d → d ≠ k := fun j d h1 h2 e => hk ⟨j, d, h1, h2, e⟩
    exact (h.rest k this).trans (h'.rest k this).symm
/-- the frame with all the values -/
def fill (dst : Nat → Option Tmp) (val : Nat → Value) : Nat → Act → Act
  | 0, a => a
  | n + 1, a => (fill dst val n a).put (dst n) (val n)
theorem Held.fill {a : Act} {dst : Nat → Option Tmp} {val : Nat → Value} (hinj : ∀ j k d, dst j = some d → dst k = some d → j = k) (hlt : ∀ j d, dst j = some d → d < a.tmps.size) : ∀ n, Held a dst val (fun j => decide (j < n)) (fill dst val n a)
  | 0 => ⟨rfl, rfl, fun j d h => by simp at h, fun k _ => rfl⟩
  | n + 1 => by
    have := (Held.fill hinj hlt n).put n hinj hlt (val n) fun _ _ => rfl
    have e : (fun j => decide (j = n) || decide (j < n)) = fun j => decide (j < n + 1) := by
      funext j
      by_cases h1 : j = n <;> by_cases h2 : j < n <;> simp [h1, h2] <;> omega
    rw [e] at this
    exact this

/-- one step: what the operation gives, in the frame as it stands -/
def Gives (P : Program) (dst : Nat → Option Tmp) (val : Nat → Value) (wld : (Nat → Bool) → World) (o : Oper) (i : Nat) (f : Nat → Bool) (a' : Act) : Prop :=
  ∃ nx, (execOp a'.eval o).run P (wld f) = .ok nx (wld fun j => decide (j = i) || f j) ∧ (nx = .value (val i) ∨ (nx = .skip ∧ dst i = none))

theorem wp_region_fix {P : Program} {ops : Array Oper} {Q : Exit → Act → World → Prop} {id : Nat} {a : Act} {w We : World} (hm : P.follows .mixedOrders = true) (hf : fwd .any ops = true)
    (n : Nat) (hn : ops.size = n) (dst : Nat → Option Tmp) (val : Nat → Value) (wld : (Nat → Bool) → World) (hw0 : wld (fun _ => false) = w.drew)
    (hops : ∀ i o, ops[i]? = some o → o.dst = dst i ∧ o.guard = none) (hinj : ∀ j k d, dst j = some d → dst k = some d → j = k) (hlt : ∀ j d, dst j = some d → d < a.tmps.size)
    (hstep : ∀ f a' i o, i < n → ops[i]? = some o → f i = false → (∀ j o', ops[j]? = some o' → f j = true → ∀ e ∈ o'.after, Region.binds .any e = true → f e.on = true) → (∀ e ∈ o.after, Region.binds .any e = true → f e.on = true) → Held a dst val f a' → Gives P dst val wld o i f a')
    (hwe : wld (fun j => decide (j < n)) = We) (hend : Q .normal (fill dst val n a) We) :
    (Code.region id ops true).wp P Q a w := by
  refine wp_region_inv hm hf (fun listed a' w' => Held a dst val (fun j => listed.getD j false) a' ∧ w' = wld fun j => listed.getD j false) ?_ ?_ ?_
  · refine ⟨⟨rfl, rfl, fun j d hl => ?_, fun k _ => rfl⟩, ?_⟩
    · simp [Array.getD] at hl
    · rw [← hw0]
      congr 1
      funext j
      simp [Array.getD]
  · intro listed a' w' i hs hcl hJ hr
    obtain ⟨hH, rfl⟩ := hJ
    obtain ⟨hl0, o, ho, hdep⟩ := mem_ready.1 hr
    obtain ⟨hd, hg⟩ := hops i o ho
    have hin : i < n := by rw [← hn]; exact (Array.getElem?_eq_some_iff.1 ho).1
    have hi : i < listed.size := by rw [hs]; exact (Array.getElem?_eq_some_iff.1 ho).1
    have hun : listed.getD i false = false := by
      simp [Array.getD, hi] at hl0 ⊢
      exact hl0
    obtain ⟨nx, hrun, hnx⟩ := hstep (fun j => listed.getD j false) a' i o hin ho hun (fun j o' hj hl => hcl j o' hj hl) hdep hH
    refine wpOp_step ho fun K hK => ?_
    have hw : Region.wanted o (yielded ops a'.tmps) = true := by simp [Region.wanted, hg]
    rw [if_pos hw]
    unfold Oper.wp
    rw [hrun]
    have hfn : (fun j => (listed.setIfInBounds i true).getD j false) = fun j => decide (j = i) || listed.getD j false := by funext j; exact getS hi
    rcases hnx with rfl | ⟨rfl, hn'⟩
    · rw [Oper.upon_value]
      refine hK _ _ ?_
      rw [hfn, hd]
      exact ⟨hH.put i hinj hlt _ fun _ _ => rfl, rfl⟩
    · rw [Oper.upon_skip]
      refine hK _ _ ?_
      rw [hfn, hd]
      exact ⟨hH.put i hinj hlt _ (fun d h => by rw [hn'] at h; cases h), rfl⟩
  · intro listed a' w' hs hall hJ
    obtain ⟨hH, rfl⟩ := hJ
    have hfn : (fun j => listed.getD j false) = fun j => decide (j < n) := by
      funext j
      by_cases hj : j < n
      · rw [hall j (by omega)]; simp [hj]
      · have : listed.size ≤ j := by omega
        simp [Array.getD, hj]
        omega
    rw [hfn] at hH ⊢
    rw [hH.unique (Held.fill hinj hlt n), hwe]
    exact hend
/-- a part of the code, said of whatever frame has these slots -/
theorem via {P : Program} {c : Code} {Q : Exit → Act → World → Prop} {a : Act} {w W2 : World} (g : Act → Act) (F : Act → Prop) (hF : F a) (h : ∀ a0 (Q' : Exit → Act → World → Prop), F a0 → Q' .normal (g a0) W2 → Code.wp P c Q' a0 w) (k : Q .normal (g a) W2) : Code.wp P c Q a w := h a Q hF k
end Go.Proofs.YtpjkfdgkkpkljaaGreatDoor.Reg
