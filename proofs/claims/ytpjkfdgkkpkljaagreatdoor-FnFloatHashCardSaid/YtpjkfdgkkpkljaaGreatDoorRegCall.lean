/-
  A region that draws its order and holds one call: all else leaves one value whatever the order; what hangs on the call's answer comes behind it. Each operation is looked at once, in a frame that is a variable.
-/
import Derived.Test.YtpjkfdgkkpkljaaGreatDoorRegFix
namespace Go.Proofs.YtpjkfdgkkpkljaaGreatDoor.Reg
open Go.RowKit
set_option linter.unusedVariables false

theorem Held.congr {a a' : Act} {dst : Nat → Option Tmp} {val val' : Nat → Value} {f : Nat → Bool} (h : Held a dst val f a') (e : ∀ j, f j = true → val j = val' j) : Held a dst val' f a' :=
  ⟨h.size, h.defers, fun j d hj hd => (h.got j d hj hd).trans (e j hj), h.rest⟩
/-- what has come up, ahead of the call and behind it -/
def JC {Θ : Type} (Ok : Θ → Prop) (a : Act) (dst : Nat → Option Tmp) (c : Nat) (val0 : Nat → Value) (wld0 : World) (val : Θ → Nat → Value) (wld : Θ → (Nat → Bool) → World) (f : Nat → Bool) (a' : Act) (w' : World) : Prop :=
  (f c = false ∧ Held a dst val0 f a' ∧ w' = wld0) ∨ (f c = true ∧ ∃ θ, Ok θ ∧ Held a dst (val θ) f a' ∧ w' = wld θ f)

theorem wp_region_call {Θ : Type} {P : Program} {ops : Array Oper} {Q : Exit → Act → World → Prop} {id : Nat} {a : Act} {w : World} (hm : P.follows .mixedOrders = true) (hf : fwd .any ops = true)
    (n : Nat) (hn : ops.size = n) (Ok : Θ → Prop) (dst : Nat → Option Tmp) (c : Nat) (val0 : Nat → Value) (val : Θ → Nat → Value) (wld : Θ → (Nat → Bool) → World)
    (hops : ∀ i o, ops[i]? = some o → o.dst = dst i ∧ o.guard = none) (hinj : ∀ j k d, dst j = some d → dst k = some d → j = k) (hlt : ∀ j d, dst j = some d → d < a.tmps.size)
    -- ahead of the call
    (hpre : ∀ f a' i o, i < n → i ≠ c → ops[i]? = some o → f i = false → f c = false → (∀ j o', ops[j]? = some o' → f j = true → ∀ e ∈ o'.after, Region.binds .any e = true → f e.on = true) → (∀ e ∈ o.after, Region.binds .any e = true → f e.on = true) → Held a dst val0 f a' →
      (execOp a'.eval o).run P w.drew = .ok (.value (val0 i)) w.drew)
    -- the call
    (hcall : ∀ f a' o, ops[c]? = some o → f c = false → (∀ j o', ops[j]? = some o' → f j = true → ∀ e ∈ o'.after, Region.binds .any e = true → f e.on = true) → (∀ e ∈ o.after, Region.binds .any e = true → f e.on = true) → Held a dst val0 f a' →
      ∃ fn args, (execOp a'.eval o).run P w.drew = .ok (.enter fn args) w.drew ∧ Calls P fn args w.drew fun e w'' => ∃ θ, Ok θ ∧ e = .returned (val θ c) ∧ (∀ j, f j = true → val0 j = val θ j) ∧ w'' = wld θ (fun j => decide (j = c) || f j))
    -- behind it
    (hpost : ∀ θ, Ok θ → ∀ f a' i o, i < n → i ≠ c → ops[i]? = some o → f i = false → f c = true → (∀ j o', ops[j]? = some o' → f j = true → ∀ e ∈ o'.after, Region.binds .any e = true → f e.on = true) → (∀ e ∈ o.after, Region.binds .any e = true → f e.on = true) → Held a dst (val θ) f a' → Gives P dst (val θ) (wld θ) o i f a')
    (hc : c < n) (hend : ∀ θ, Ok θ → Q .normal (fill dst (val θ) n a) (wld θ fun j => decide (j < n))) :
    (Code.region id ops true).wp P Q a w := by
  refine wp_region_inv hm hf (fun listed a' w' => JC Ok a dst c val0 w.drew val wld (fun j => listed.getD j false) a' w') ?_ ?_ ?_
  · refine .inl ⟨by simp [Array.getD], ⟨rfl, rfl, fun j d hl => ?_, fun k _ => rfl⟩, rfl⟩
    simp [Array.getD] at hl
  · intro listed a' w' i hs hcl hJ hr
    obtain ⟨hl0, o, ho, hdep⟩ := mem_ready.1 hr
    obtain ⟨hd, hg⟩ := hops i o ho
    have hin : i < n := by rw [← hn]; exact (Array.getElem?_eq_some_iff.1 ho).1
    have hi : i < listed.size := by rw [hs]; exact (Array.getElem?_eq_some_iff.1 ho).1
    have hun : listed.getD i false = false := by
      simp [Array.getD, hi] at hl0 ⊢
      exact hl0
    have hcl' : ∀ j o', ops[j]? = some o' → (fun j => listed.getD j false) j = true → ∀ e ∈ o'.after, Region.binds .any e = true → (fun j => listed.getD j false) e.on = true := fun j o' hj hl => hcl j o' hj hl
    have hfn : (fun j => (listed.setIfInBounds i true).getD j false) = fun j => decide (j = i) || listed.getD j false := by funext j; exact getS hi
    refine wpOp_step ho fun K hK => ?_
    have hw : Region.wanted o (yielded ops a'.tmps) = true := by simp [Region.wanted, hg]
    rw [if_pos hw]
    unfold Oper.wp
    rcases hJ with ⟨hfc, hH, rfl⟩ | ⟨hfc, θ, hθ, hH, rfl⟩
    · by_cases hic : i = c
      · subst hic
        obtain ⟨fn, args, hrun, hC⟩ := hcall _ a' o ho hfc hcl' hdep hH
        rw [hrun, Oper.upon_enter]
        refine hC.mono ?_
        rintro e w'' ⟨θ, hθ, rfl, hsame, rfl⟩
        refine hK _ _ ?_
        show JC Ok a dst i val0 w.drew val wld _ _ _
        rw [hfn, hd]
        exact .inr ⟨by simp, θ, hθ, (hH.congr hsame).put i hinj hlt _ (fun _ _ => rfl), rfl⟩
      · have hrun := hpre _ a' i o hin hic ho hun hfc hcl' hdep hH
        rw [hrun, Oper.upon_value]
        refine hK _ _ ?_
        show JC Ok a dst c val0 w.drew val wld _ _ _
        rw [hfn, hd]
        refine .inl ⟨?_, hH.put i hinj hlt _ (fun _ _ => rfl), rfl⟩
        show (decide (c = i) || listed.getD c false) = false
        rw [show listed.getD c false = false from hfc, decide_eq_false (Ne.symm hic)]
        rfl
    · have hic : i ≠ c := by
        rintro rfl
        rw [show listed.getD i false = true from hfc] at hun
        cases hun
      obtain ⟨nx, hrun, hnx⟩ := hpost θ hθ _ a' i o hin hic ho hun hfc hcl' hdep hH
      rw [hrun]
      have hfc' : (fun j => decide (j = i) || listed.getD j false) c = true := by
        show (decide (c = i) || listed.getD c false) = true
        rw [show listed.getD c false = true from hfc, Bool.or_true]
      rcases hnx with rfl | ⟨rfl, hn'⟩
      · rw [Oper.upon_value]
        refine hK _ _ ?_
        show JC Ok a dst c val0 w.drew val wld _ _ _
        rw [hfn, hd]
        exact .inr ⟨hfc', θ, hθ, hH.put i hinj hlt _ (fun _ _ => rfl), rfl⟩
      · rw [Oper.upon_skip]
        refine hK _ _ ?_
        show JC Ok a dst c val0 w.drew val wld _ _ _
        rw [hfn, hd]
        exact .inr ⟨hfc', θ, hθ, hH.put i hinj hlt _ (fun d h => by rw [hn'] at h; cases h), rfl⟩
  · intro listed a' w' hs hall hJ
    have hfn : (fun j => listed.getD j false) = fun j => decide (j < n) := by
      funext j
      by_cases hj : j < n
      · rw [hall j (by omega)]; simp [hj]
      · have : listed.size ≤ j := by omega
        simp [Array.getD, hj]
        omega
    rcases hJ with ⟨hfc, -⟩ | ⟨hfc, θ, hθ, hH, rfl⟩
    · exfalso
      have hfc' : listed.getD c false = false := hfc
      rw [hall c (by omega)] at hfc'
      cases hfc'
    · rw [hfn] at hH ⊢
      rw [hH.unique (Held.fill hinj hlt n)]
      exact hend θ hθ
end Go.Proofs.YtpjkfdgkkpkljaaGreatDoor.Reg
