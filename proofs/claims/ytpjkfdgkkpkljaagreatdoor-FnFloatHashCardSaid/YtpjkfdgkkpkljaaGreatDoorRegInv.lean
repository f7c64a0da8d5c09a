/-
  A region that draws its order, by one invariant: each operation is looked at once, whatever stood ahead of it.
-/
import Derived.Test.YtpjkfdgkkpkljaaGreatDoorProg
import Derived.WalkKit
import Derived.Orders
import Derived.RegionTactic
import Derived.Deep.RegionHeld
namespace Go.Proofs.YtpjkfdgkkpkljaaGreatDoor.Reg
open Go.RowKit
set_option linter.unusedVariables false

section
variable {P : Program} {ops : Array Oper} {Q : Exit → Act → World → Prop} {md : Region.Mode}

def fwd (md : Region.Mode) (ops : Array Oper) : Bool := (List.range ops.size).all fun i => match ops[i]? with
  | some o => o.after.all fun e => !Region.binds md e || decide (e.on < i)
  | none => true
theorem fwd_spec (h : fwd md ops = true) : ∀ i o, ops[i]? = some o → ∀ e ∈ o.after, Region.binds md e = true → e.on < i := by
  intro i o ho e he hb
  unfold fwd at h
  rw [List.all_eq_true] at h
  have hi : i < ops.size := (Array.getElem?_eq_some_iff.1 ho).1
  have h1 := h i (List.mem_range.2 hi)
  rw [ho] at h1
  simp only [Array.all_eq_true] at h1
  obtain ⟨k, hk, rfl⟩ := Array.mem_iff_getElem.1 he
  have h2 := h1 k hk
  rw [hb] at h2
  simpa using h2

theorem all_listed (hf : fwd md ops = true) {listed : Array Bool} (hs : listed.size = ops.size) (hr : Region.ready md ops listed = []) : ∀ i, i < ops.size → listed.getD i false = true := by
  intro i
  induction i using Nat.strongRecOn with
  | _ i ih =>
    intro hi
    cases hl : listed.getD i false with
    | true => rfl
    | false =>
      exfalso
      have hm : i ∈ Region.ready md ops listed := by
        rw [mem_ready]
        refine ⟨?_, ops[i], Array.getElem?_eq_getElem hi, fun e he hb => ?_⟩
        · have : i < listed.size := by omega
          simp [Array.getD, this] at hl ⊢
          exact hl
        · have := fwd_spec hf i ops[i] (Array.getElem?_eq_getElem hi) e he hb
          exact ih _ this (by omega)
      rw [hr] at hm
      cases hm

/-- what has come up is closed: all that it waited for has come up -/
def Closed (md : Region.Mode) (ops : Array Oper) (listed : Array Bool) : Prop := ∀ j o, ops[j]? = some o → listed.getD j false = true → ∀ e ∈ o.after, Region.binds md e = true → listed.getD e.on false = true
theorem Closed.step {listed : Array Bool} {i : Nat} (h : Closed md ops listed) (hi : i ∈ Region.ready md ops listed) : Closed md ops (listed.setIfInBounds i true) := by
  intro j o ho hl e he hb
  obtain ⟨-, o', ho', hd⟩ := mem_ready.1 hi
  by_cases hj : i = j
  · subst hj
    rw [ho] at ho'
    cases ho'
    exact getD_set_true (hd e he hb)
  · rw [getD_set_ne false hj] at hl
    exact getD_set_true (h j o ho hl e he hb)
/-- whatever order is drawn: an invariant of what has come up -/
theorem wpAny_inv (hf : fwd md ops = true) (J : Array Bool → Act → World → Prop)
    (hstep : ∀ listed a w i, listed.size = ops.size → Closed md ops listed → J listed a w → i ∈ Region.ready md ops listed → wpOp P ops Q i (fun a' w' => J (listed.setIfInBounds i true) a' w') a w)
    (hend : ∀ listed a w, listed.size = ops.size → (∀ i, i < ops.size → listed.getD i false = true) → J listed a w → Q .normal a w) :
    ∀ (fuel : Nat) (listed : Array Bool) (a : Act) (w : World), listed.size = ops.size → Closed md ops listed → listed.toList.count false = fuel → J listed a w → wpAny P md ops Q fuel listed a w := by
  intro fuel
  induction fuel with
  | zero =>
    intro listed a w hs hcl hc hJ
    have hr : Region.ready md ops listed = [] := by
      rw [List.eq_nil_iff_forall_not_mem]
      intro i hi
      obtain ⟨h0, -⟩ := mem_ready.1 hi
      have hn : ¬ false ∈ listed.toList := by rw [← List.count_pos_iff]; omega
      apply hn
      by_cases hlt : i < listed.size
      · simp [Array.getD, hlt] at h0
        rw [← h0]
        simp
      · simp [Array.getD, hlt] at h0
    exact ⟨hr, hend listed a w hs (all_listed hf hs hr) hJ⟩
  | succ fuel ih =>
    intro listed a w hs hcl hc hJ
    refine ⟨fun hr => hend listed a w hs (all_listed hf hs hr) hJ, fun i hi => ?_⟩
    refine wpOp_mono (fun a' w' hJ' => ih (listed.setIfInBounds i true) a' w' (by simpa using hs) (hcl.step hi) ?_ hJ') (hstep listed a w i hs hcl hJ hi)
    obtain ⟨h0, -⟩ := mem_ready.1 hi
    have hlt : i < listed.size := by
      rcases Nat.lt_or_ge i listed.size with h | h
      · exact h
      · have : ¬ i < listed.size := by omega
        simp [Array.getD, this] at h0
    simp [Array.getD, hlt] at h0
    rw [Array.toList_setIfInBounds, List.count_set (by simpa using hlt)]
    simp at hc
    simp [h0]
    omega

theorem wp_region_inv {id : Nat} {a : Act} {w : World} (hm : P.follows .mixedOrders = true) (hf : fwd .any ops = true) (J : Array Bool → Act → World → Prop)
    (h0 : J (Array.replicate ops.size false) a w.drew)
    (hstep : ∀ listed a w i, listed.size = ops.size → Closed .any ops listed → J listed a w → i ∈ Region.ready .any ops listed → wpOp P ops Q i (fun a' w' => J (listed.setIfInBounds i true) a' w') a w)
    (hend : ∀ listed a w, listed.size = ops.size → (∀ i, i < ops.size → listed.getD i false = true) → J listed a w → Q .normal a w) :
    (Code.region id ops true).wp P Q a w :=
  wp_region_any hm (wpAny_inv hf J hstep hend ops.size _ a w.drew (by simp) (fun j o _ hl => by simp [Array.getD] at hl) (by simp) h0)
end
end Go.Proofs.YtpjkfdgkkpkljaaGreatDoor.Reg
