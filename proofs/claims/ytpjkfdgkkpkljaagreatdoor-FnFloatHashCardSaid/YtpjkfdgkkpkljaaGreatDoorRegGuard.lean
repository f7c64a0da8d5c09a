/-
  A region that draws its order, some of its operations guarded: each leaves one value, or is passed over, whatever the order: looked at once, in a frame that is a variable.
-/
import Derived.Test.YtpjkfdgkkpkljaaGreatDoorRegFix
namespace Go.Proofs.YtpjkfdgkkpkljaaGreatDoor.Reg
open Go.RowKit
set_option linter.unusedVariables false

/-- what an operation's guard says, at the values: 'some true': it is done; 'some false': it is passed over -/
def guardAt (val : Nat → Value) (o : Oper) : Option Bool :=
  match o.guard with
  | none => some true
  | some (p, want) => match val p with
    | .bool b => some (b == want)
    | _ => none
theorem yielded_at {P : Program} {ops : Array Oper} {a a' : Act} {dst : Nat → Option Tmp} {val : Nat → Value} {f : Nat → Bool} (h : Held a dst val f a') (hlt : ∀ j d, dst j = some d → d < a.tmps.size) {p : Nat} {o : Oper} {d : Tmp} {b : Bool} (ho : ops[p]? = some o) (hd : o.dst = some d) (hd' : dst p = some d) (hp : f p = true) (hv : val p = .bool b) : yielded ops a'.tmps p = some b := by
  have h1 := h.got p d hp hd'
  rw [hv] at h1
  have hs : d < a'.tmps.size := by rw [h.size]; exact hlt p d hd'
  have h2 : a'.tmps[d]? = some (.bool b) := by
    simp [Act.eval, Array.getD, hs] at h1
    rw [Array.getElem?_eq_getElem hs, h1]
  unfold yielded
  rw [ho]
  simp [hd, h2]
theorem wp_region_guard {P : Program} {ops : Array Oper} {Q : Exit → Act → World → Prop} {id : Nat} {a : Act} {w We : World} (hm : P.follows .mixedOrders = true) (hf : fwd .any ops = true)
    (n : Nat) (hn : ops.size = n) (dst : Nat → Option Tmp) (val : Nat → Value) (wld : (Nat → Bool) → World) (hw0 : wld (fun _ => false) = w.drew)
    (hops : ∀ i o, ops[i]? = some o → o.dst = dst i) (hinj : ∀ j k d, dst j = some d → dst k = some d → j = k) (hlt : ∀ j d, dst j = some d → d < a.tmps.size)
    -- a guard looks at an operation that it waits for, and that has a slot
    (hguard : ∀ (i : Nat) (o : Oper) (p : Nat) (want : Bool), ops[i]? = some o → o.guard = some (p, want) → (∃ d, dst p = some d) ∧ (∃ op, ops[p]? = some op) ∧ ∃ e ∈ o.after, e.on = p ∧ Region.binds .any e = true)
    (hstep : ∀ f a' i o, i < n → ops[i]? = some o → guardAt val o = some true → f i = false → (∀ j o', ops[j]? = some o' → f j = true → ∀ e ∈ o'.after, Region.binds .any e = true → f e.on = true) → (∀ e ∈ o.after, Region.binds .any e = true → f e.on = true) → Held a dst val f a' → Gives P dst val wld o i f a')
    (hskip : ∀ (i : Nat) (o : Oper), ops[i]? = some o → guardAt val o ≠ some true → guardAt val o = some false ∧ val i = undef ∧ ∀ f, wld (fun j => decide (j = i) || f j) = wld f)
    (hwe : wld (fun j => decide (j < n)) = We) (hend : Q .normal (fill dst val n a) We) :
    (Code.region id ops true).wp P Q a w := by
  refine wp_region_inv hm hf (fun listed a' w' => Held a dst val (fun j => listed.getD j false) a' ∧ w' = wld fun j => listed.getD j false) ?_ ?_ ?_
  · refine ⟨⟨rfl, rfl, fun j d hl => ?_, fun k _ => rfl⟩, ?_⟩
    · simp [Array.getD] at hl
    · rw [← hw0]
      congr 1
      funext j
      simp [Array.getD]
  · intro listed a' w' i hs hcl hJ hr
    obtain ⟨hH, rfl⟩ := hJ
    obtain ⟨hl0, o, ho, hdep⟩ := mem_ready.1 hr
    have hd := hops i o ho
    have hin : i < n := by rw [← hn]; exact (Array.getElem?_eq_some_iff.1 ho).1
    have hi : i < listed.size := by rw [hs]; exact (Array.getElem?_eq_some_iff.1 ho).1
    have hun : listed.getD i false = false := by
      simp [Array.getD, hi] at hl0 ⊢
      exact hl0
    have hfn : (fun j => (listed.setIfInBounds i true).getD j false) = fun j => decide (j = i) || listed.getD j false := by funext j; exact getS hi
    have hwt : ∀ r, guardAt val o = some r → Region.wanted o (yielded ops a'.tmps) = r := by
      intro r hr'
      unfold guardAt at hr'
      unfold Region.wanted
      cases hg : o.guard with
      | none =>
        rw [hg] at hr'
        exact Option.some.inj hr'
      | some pw =>
        obtain ⟨p, want⟩ := pw
        rw [hg] at hr'
        obtain ⟨⟨d, hd'⟩, ⟨op, hop⟩, e, he, rfl, hb⟩ := hguard i o p want ho hg
        simp only at hr' ⊢
        split at hr'
        · rename_i b hv
          rw [yielded_at (P := P) hH hlt hop ((hops _ _ hop).trans hd') hd' (hdep e he hb) hv]
          rw [← Option.some.inj hr']
          simp
        · cases hr'
    refine wpOp_step ho fun K hK => ?_
    by_cases hgt : guardAt val o = some true
    · obtain ⟨nx, hrun, hnx⟩ := hstep (fun j => listed.getD j false) a' i o hin ho hgt hun (fun j o' hj hl => hcl j o' hj hl) hdep hH
      rw [if_pos (hwt true hgt)]
      unfold Oper.wp
      rw [hrun]
      rcases hnx with rfl | ⟨rfl, hn'⟩
      · rw [Oper.upon_value]
        refine hK _ _ ?_
        rw [hfn, hd]
        exact ⟨hH.put i hinj hlt _ fun _ _ => rfl, rfl⟩
      · rw [Oper.upon_skip]
        refine hK _ _ ?_
        rw [hfn, hd]
        exact ⟨hH.put i hinj hlt _ (fun d h => by rw [hn'] at h; cases h), rfl⟩
    · obtain ⟨hgf, hv, hww⟩ := hskip i o ho hgt
      rw [if_neg (by rw [hwt false hgf]; exact Bool.false_ne_true)]
      refine hK _ _ ?_
      rw [hfn, hd]
      exact ⟨hH.put i hinj hlt _ (fun _ _ => hv.symm), (hww _).symm⟩
  · intro listed a' w' hs hall hJ
    obtain ⟨hH, rfl⟩ := hJ
    have hfn : (fun j => listed.getD j false) = fun j => decide (j < n) := by
      funext j
      by_cases hj : j < n
      · rw [hall j (by omega)]; simp [hj]
      · have : listed.size ≤ j := by omega
        simp [Array.getD, hj]
        omega
    rw [hfn] at hH ⊢
    rw [hH.unique (Held.fill hinj hlt n), hwe]
    exact hend
end Go.Proofs.YtpjkfdgkkpkljaaGreatDoor.Reg
