/-
  A region that draws its order, by one invariant: each operation is looked at once, whatever stood ahead of it. A region that draws its order, each of whose operations leaves one value whatever the order: looked at once, in a frame that is a variable. A region that draws its order and holds one call: all else leaves one value whatever the order; what hangs on the call's answer comes behind it. Each operation is looked at once, in a frame that is a variable. A region that draws its order, some of its operations guarded: each leaves one value, or is passed over, whatever the order: looked at once, in a frame that is a variable. Regions that draw their order, looked at once: the slots, values and worlds as lists. A region with one call and any number of stores behind it: its worlds. A region that draws its order, by what its operations have left: each operation is looked at once, its value and its world may be any that fit.
-/
import Derived.Test.YtafbheamnjmfoaaGreatProg
import Derived.WalkKit
import Derived.Orders
import Derived.RegionTactic
import Derived.Deep.RegionHeld
import Derived.Deep.Light
namespace Go.Proofs.YtafbheamnjmfoaaGreat.Reg
open Go.RowKit
set_option linter.unusedVariables false

section
variable {P : Program} {ops : Array Oper} {Q : Exit → Act → World → Prop} {md : Region.Mode}

def fwd (md : Region.Mode) (ops : Array Oper) : Bool := (List.range ops.size).all fun i => match ops[i]? with
  | some o => o.after.all fun e => !Region.binds md e || decide (e.on < i)
  | none => true
theorem fwd_spec (h : fwd md ops = true) : ∀ i o, ops[i]? = some o → ∀ e ∈ o.after, Region.binds md e = true → e.on < i := by
  intro i o ho e he hb
  unfold fwd at h
  rw [List.all_eq_true] at h
  have hi : i < ops.size := (Array.getElem?_eq_some_iff.1 ho).1
  have h1 := h i (List.mem_range.2 hi)
  rw [ho] at h1
  simp only [Array.all_eq_true] at h1
  obtain ⟨k, hk, rfl⟩ := Array.mem_iff_getElem.1 he
  have h2 := h1 k hk
  rw [hb] at h2
  simpa using h2

theorem all_listed (hf : fwd md ops = true) {listed : Array Bool} (hs : listed.size = ops.size) (hr : Region.ready md ops listed = []) : ∀ i, i < ops.size → listed.getD i false = true := by
  intro i
  induction i using Nat.strongRecOn with
  | _ i ih =>
    intro hi
    cases hl : listed.getD i false with
    | true => rfl
    | false =>
      exfalso
      have hm : i ∈ Region.ready md ops listed := by
        rw [mem_ready]
        refine ⟨?_, ops[i], Array.getElem?_eq_getElem hi, fun e he hb => ?_⟩
        · have : i < listed.size := by omega
          simp [Array.getD, this] at hl ⊢
          exact hl
        · have := fwd_spec hf i ops[i] (Array.getElem?_eq_getElem hi) e he hb
          exact ih _ this (by omega)
      rw [hr] at hm
      cases hm

/-- what has come up is closed: all that it waited for has come up -/
def Closed (md : Region.Mode) (ops : Array Oper) (listed : Array Bool) : Prop := ∀ j o, ops[j]? = some o → listed.getD j false = true → ∀ e ∈ o.after, Region.binds md e = true → listed.getD e.on false = true
theorem Closed.step {listed : Array Bool} {i : Nat} (h : Closed md ops listed) (hi : i ∈ Region.ready md ops listed) : Closed md ops (listed.setIfInBounds i true) := by
  intro j o ho hl e he hb
  obtain ⟨-, o', ho', hd⟩ := mem_ready.1 hi
  by_cases hj : i = j
  · subst hj
    rw [ho] at ho'
    cases ho'
    exact getD_set_true (hd e he hb)
  · rw [getD_set_ne false hj] at hl
    exact getD_set_true (h j o ho hl e he hb)
/-- whatever order is drawn: an invariant of what has come up -/
theorem wpAny_inv (hf : fwd md ops = true) (J : Array Bool → Act → World → Prop)
    (hstep : ∀ listed a w i, listed.size = ops.size → Closed md ops listed → J listed a w → i ∈ Region.ready md ops listed → wpOp P ops Q i (fun a' w' => J (listed.setIfInBounds i true) a' w') a w)
    (hend : ∀ listed a w, listed.size = ops.size → (∀ i, i < ops.size → listed.getD i false = true) → J listed a w → Q .normal a w) :
    ∀ (fuel : Nat) (listed : Array Bool) (a : Act) (w : World), listed.size = ops.size → Closed md ops listed → listed.toList.count false = fuel → J listed a w → wpAny P md ops Q fuel listed a w := by
  intro fuel
  induction fuel with
  | zero =>
    intro listed a w hs hcl hc hJ
    have hr : Region.ready md ops listed = [] := by
      rw [List.eq_nil_iff_forall_not_mem]
      intro i hi
      obtain ⟨h0, -⟩ := mem_ready.1 hi
      have hn : ¬ false ∈ listed.toList := by rw [← List.count_pos_iff]; omega
      apply hn
      by_cases hlt : i < listed.size
      · simp [Array.getD, hlt] at h0
        rw [← h0]
        simp
      · simp [Array.getD, hlt] at h0
    exact ⟨hr, hend listed a w hs (all_listed hf hs hr) hJ⟩
  | succ fuel ih =>
    intro listed a w hs hcl hc hJ
    refine ⟨fun hr => hend listed a w hs (all_listed hf hs hr) hJ, fun i hi => ?_⟩
    refine wpOp_mono (fun a' w' hJ' => ih (listed.setIfInBounds i true) a' w' (by simpa using hs) (hcl.step hi) ?_ hJ') (hstep listed a w i hs hcl hJ hi)
    obtain ⟨h0, -⟩ := mem_ready.1 hi
    have hlt : i < listed.size := by
      rcases Nat.lt_or_ge i listed.size with h | h
      · exact h
      · have : ¬ i < listed.size := by omega
        simp [Array.getD, this] at h0
    simp [Array.getD, hlt] at h0
    rw [Array.toList_setIfInBounds, List.count_set (by simpa using hlt)]
    simp at hc
    simp [h0]
    omega

theorem wp_region_inv {id : Nat} {a : Act} {w : World} (hm : P.follows .mixedOrders = true) (hf : fwd .any ops = true) (J : Array Bool → Act → World → Prop)
    (h0 : J (Array.replicate ops.size false) a w.drew)
    (hstep : ∀ listed a w i, listed.size = ops.size → Closed .any ops listed → J listed a w → i ∈ Region.ready .any ops listed → wpOp P ops Q i (fun a' w' => J (listed.setIfInBounds i true) a' w') a w)
    (hend : ∀ listed a w, listed.size = ops.size → (∀ i, i < ops.size → listed.getD i false = true) → J listed a w → Q .normal a w) :
    (Code.region id ops true).wp P Q a w :=
  wp_region_any hm (wpAny_inv hf J hstep hend ops.size _ a w.drew (by simp) (fun j o _ hl => by simp [Array.getD] at hl) (by simp) h0)
end
end Go.Proofs.YtafbheamnjmfoaaGreat.Reg
namespace Go.Proofs.YtafbheamnjmfoaaGreat.Reg
open Go.RowKit
set_option linter.unusedVariables false

theorem Act.ext' {a b : Act} (h1 : a.tmps.size = b.tmps.size) (h2 : a.defers = b.defers) (h : ∀ k, a.eval (.tmp k) = b.eval (.tmp k)) : a = b := by
  obtain ⟨x, dx⟩ := a
  obtain ⟨y, dy⟩ := b
  simp only at h1 h2
  subst h2
  congr 1
  apply Array.ext h1
  intro i hi hj
  have := h i
  simpa [Act.eval, Array.getD, hi, hj] using this
theorem eval_put_same {a : Act} {d : Tmp} {v : Value} (h : d < a.tmps.size) : (a.put (some d) v).eval (.tmp d) = v := by
  simp [Act.put, Act.eval, h]
theorem eval_put_ne {a : Act} {d : Option Tmp} {k : Tmp} {v : Value} (h : ∀ e, d = some e → e ≠ k) : (a.put d v).eval (.tmp k) = a.eval (.tmp k) := by
  cases d with
  | none => rfl
  | some e =>
    have := h e rfl
    simp [Act.put, Act.eval, Array.getElem?_setIfInBounds_ne this]
theorem put_size {a : Act} {d : Option Tmp} {v : Value} : (a.put d v).tmps.size = a.tmps.size := by cases d <;> simp [Act.put]
theorem put_defers {a : Act} {d : Option Tmp} {v : Value} : (a.put d v).defers = a.defers := by cases d <;> rfl

/-- what the frame holds: the values of what has come up, all else as it was -/
structure Held (a : Act) (dst : Nat → Option Tmp) (val : Nat → Value) (f : Nat → Bool) (a' : Act) : Prop where
  size : a'.tmps.size = a.tmps.size
  defers : a'.defers = a.defers
  got : ∀ j d, f j = true → dst j = some d → a'.eval (.tmp d) = val j
  rest : ∀ k, (∀ j d, f j = true → dst j = some d → d ≠ k) → a'.eval (.tmp k) = a.eval (.tmp k)

theorem getS {listed : Array Bool} {i j : Nat} (hi : i < listed.size) : (listed.setIfInBounds i true).getD j false = (decide (j = i) || listed.getD j false) := by
  by_cases e : j = i
  · subst e; simp [Array.getD, hi]
  · simp [e, Array.getElem?_setIfInBounds_ne (Ne.symm e)]

theorem Held.put {a a' : Act} {dst : Nat → Option Tmp} {val : Nat → Value} {f : Nat → Bool} (h : Held a dst val f a') (i : Nat) (hinj : ∀ j k d, dst j = some d → dst k = some d → j = k) (hlt : ∀ j d, dst j = some d → d < a.tmps.size) (v : Value) (hv : ∀ d, dst i = some d → v = val i) : Held a dst val (fun j => decide (j = i) || f j) (a'.put (dst i) v) := by
  refine ⟨put_size.trans h.size, put_defers.trans h.defers, fun j d hl hd => ?_, fun k hk => ?_⟩
  · by_cases e : j = i
    · subst e
      rw [hd, eval_put_same (by rw [h.size]; exact hlt _ _ hd)]
      exact hv d hd
    · rw [decide_eq_false e, Bool.false_or] at hl
      rw [eval_put_ne (k := d) fun e' he' e2 => e (hinj j i d hd (by rw [he', e2]))]
      exact h.got j d hl hd
  · rw [eval_put_ne fun e' he' => hk i e' (by simp) he']
    exact h.rest k fun j d hl hd => hk j d (by rw [hl]; simp) hd
theorem Held.unique {a x y : Act} {dst : Nat → Option Tmp} {val : Nat → Value} {f : Nat → Bool} (h : Held a dst val f x) (h' : Held a dst val f y) : x = y := by
  refine Act.ext' (h.size.trans h'.size.symm) (h.defers.trans h'.defers.symm) fun k => ?_
  by_cases hk : ∃ j d, f j = true ∧ dst j = some d ∧ d = k
  · obtain ⟨j, d, h1, h2, rfl⟩ := hk
    exact (h.got j d h1 h2).trans (h'.got j d h1 h2).symm
  · have : ∀ j d, f j = true → dst j = some d → d ≠ k := fun j d h1 h2 e => hk ⟨j, d, h1, h2, e⟩
    exact (h.rest k this).trans (h'.rest k this).symm
/-- the frame with all the values -/
def fill (dst : Nat → Option Tmp) (val : Nat → Value) : Nat → Act → Act
  | 0, a => a
  | n + 1, a => (fill dst val n a).put (dst n) (val n)
theorem Held.fill {a : Act} {dst : Nat → Option Tmp} {val : Nat → Value} (hinj : ∀ j k d, dst j = some d → dst k = some d → j = k) (hlt : ∀ j d, dst j = some d → d < a.tmps.size) : ∀ n, Held a dst val (fun j => decide (j < n)) (fill dst val n a)
  | 0 => ⟨rfl, rfl, fun j d h => by simp at h, fun k _ => rfl⟩
  | n + 1 => by
    have := (Held.fill hinj hlt n).put n hinj hlt (val n) fun _ _ => rfl
    have e : (fun j => decide (j = n) || decide (j < n)) = fun j => decide (j < n + 1) := by
      funext j
      by_cases h1 : j = n <;> by_cases h2 : j < n <;> simp [h1, h2] <;> omega
    rw [e] at this
    exact this

/-- one step: what the operation gives, in the frame as it stands -/
def Gives (P : Program) (dst : Nat → Option Tmp) (val : Nat → Value) (wld : (Nat → Bool) → World) (o : Oper) (i : Nat) (f : Nat → Bool) (a' : Act) : Prop :=
  ∃ nx, (execOp a'.eval o).run P (wld f) = .ok nx (wld fun j => decide (j = i) || f j) ∧ (nx = .value (val i) ∨ (nx = .skip ∧ dst i = none))

theorem wp_region_fix {P : Program} {ops : Array Oper} {Q : Exit → Act → World → Prop} {id : Nat} {a : Act} {w We : World} (hm : P.follows .mixedOrders = true) (hf : fwd .any ops = true)
    (n : Nat) (hn : ops.size = n) (dst : Nat → Option Tmp) (val : Nat → Value) (wld : (Nat → Bool) → World) (hw0 : wld (fun _ => false) = w.drew)
    (hops : ∀ i o, ops[i]? = some o → o.dst = dst i ∧ o.guard = none) (hinj : ∀ j k d, dst j = some d → dst k = some d → j = k) (hlt : ∀ j d, dst j = some d → d < a.tmps.size)
    (hstep : ∀ f a' i o, i < n → ops[i]? = some o → f i = false → (∀ j o', ops[j]? = some o' → f j = true → ∀ e ∈ o'.after, Region.binds .any e = true → f e.on = true) → (∀ e ∈ o.after, Region.binds .any e = true → f e.on = true) → Held a dst val f a' → Gives P dst val wld o i f a')
    (hwe : wld (fun j => decide (j < n)) = We) (hend : Q .normal (fill dst val n a) We) :
    (Code.region id ops true).wp P Q a w := by
  refine wp_region_inv hm hf (fun listed a' w' => Held a dst val (fun j => listed.getD j false) a' ∧ w' = wld fun j => listed.getD j false) ?_ ?_ ?_
  · refine ⟨⟨rfl, rfl, fun j d hl => ?_, fun k _ => rfl⟩, ?_⟩
    · simp [Array.getD] at hl
    · rw [← hw0]
      congr 1
      funext j
      simp [Array.getD]
  · intro listed a' w' i hs hcl hJ hr
    obtain ⟨hH, rfl⟩ := hJ
    obtain ⟨hl0, o, ho, hdep⟩ := mem_ready.1 hr
    obtain ⟨hd, hg⟩ := hops i o ho
    have hin : i < n := by rw [← hn]; exact (Array.getElem?_eq_some_iff.1 ho).1
    have hi : i < listed.size := by rw [hs]; exact (Array.getElem?_eq_some_iff.1 ho).1
    have hun : listed.getD i false = false := by
      simp [Array.getD, hi] at hl0 ⊢
      exact hl0
    obtain ⟨nx, hrun, hnx⟩ := hstep (fun j => listed.getD j false) a' i o hin ho hun (fun j o' hj hl => hcl j o' hj hl) hdep hH
    refine wpOp_step ho fun K hK => ?_
    have hw : Region.wanted o (yielded ops a'.tmps) = true := by simp [Region.wanted, hg]
    rw [if_pos hw]
    unfold Oper.wp
    rw [hrun]
    have hfn : (fun j => (listed.setIfInBounds i true).getD j false) = fun j => decide (j = i) || listed.getD j false := by funext j; exact getS hi
    rcases hnx with rfl | ⟨rfl, hn'⟩
    · rw [Oper.upon_value]
      refine hK _ _ ?_
      rw [hfn, hd]
      exact ⟨hH.put i hinj hlt _ fun _ _ => rfl, rfl⟩
    · rw [Oper.upon_skip]
      refine hK _ _ ?_
      rw [hfn, hd]
      exact ⟨hH.put i hinj hlt _ (fun d h => by rw [hn'] at h; cases h), rfl⟩
  · intro listed a' w' hs hall hJ
    obtain ⟨hH, rfl⟩ := hJ
    have hfn : (fun j => listed.getD j false) = fun j => decide (j < n) := by
      funext j
      by_cases hj : j < n
      · rw [hall j (by omega)]; simp [hj]
      · have : listed.size ≤ j := by omega
        simp [Array.getD, hj]
        omega
    rw [hfn] at hH ⊢
    rw [hH.unique (Held.fill hinj hlt n), hwe]
    exact hend
/-- a part of the code, said of whatever frame has these slots -/
theorem via {P : Program} {c : Code} {Q : Exit → Act → World → Prop} {a : Act} {w W2 : World} (g : Act → Act) (F : Act → Prop) (hF : F a) (h : ∀ a0 (Q' : Exit → Act → World → Prop), F a0 → Q' .normal (g a0) W2 → Code.wp P c Q' a0 w) (k : Q .normal (g a) W2) : Code.wp P c Q a w := h a Q hF k
end Go.Proofs.YtafbheamnjmfoaaGreat.Reg
namespace Go.Proofs.YtafbheamnjmfoaaGreat.Reg
open Go.RowKit
set_option linter.unusedVariables false

theorem Held.congr {a a' : Act} {dst : Nat → Option Tmp} {val val' : Nat → Value} {f : Nat → Bool} (h : Held a dst val f a') (e : ∀ j, f j = true → val j = val' j) : Held a dst val' f a' :=
  ⟨h.size, h.defers, fun j d hj hd => (h.got j d hj hd).trans (e j hj), h.rest⟩
/-- what has come up, ahead of the call and behind it -/
def JC {Θ : Type} (Ok : Θ → Prop) (a : Act) (dst : Nat → Option Tmp) (c : Nat) (val0 : Nat → Value) (wld0 : World) (val : Θ → Nat → Value) (wld : Θ → (Nat → Bool) → World) (f : Nat → Bool) (a' : Act) (w' : World) : Prop :=
  (f c = false ∧ Held a dst val0 f a' ∧ w' = wld0) ∨ (f c = true ∧ ∃ θ, Ok θ ∧ Held a dst (val θ) f a' ∧ w' = wld θ f)

theorem wp_region_call {Θ : Type} {P : Program} {ops : Array Oper} {Q : Exit → Act → World → Prop} {id : Nat} {a : Act} {w : World} (hm : P.follows .mixedOrders = true) (hf : fwd .any ops = true)
    (n : Nat) (hn : ops.size = n) (Ok : Θ → Prop) (dst : Nat → Option Tmp) (c : Nat) (val0 : Nat → Value) (val : Θ → Nat → Value) (wld : Θ → (Nat → Bool) → World)
    (hops : ∀ i o, ops[i]? = some o → o.dst = dst i ∧ o.guard = none) (hinj : ∀ j k d, dst j = some d → dst k = some d → j = k) (hlt : ∀ j d, dst j = some d → d < a.tmps.size)
    -- ahead of the call
    (hpre : ∀ f a' i o, i < n → i ≠ c → ops[i]? = some o → f i = false → f c = false → (∀ j o', ops[j]? = some o' → f j = true → ∀ e ∈ o'.after, Region.binds .any e = true → f e.on = true) → (∀ e ∈ o.after, Region.binds .any e = true → f e.on = true) → Held a dst val0 f a' →
      (execOp a'.eval o).run P w.drew = .ok (.value (val0 i)) w.drew)
    -- the call
    (hcall : ∀ f a' o, ops[c]? = some o → f c = false → (∀ j o', ops[j]? = some o' → f j = true → ∀ e ∈ o'.after, Region.binds .any e = true → f e.on = true) → (∀ e ∈ o.after, Region.binds .any e = true → f e.on = true) → Held a dst val0 f a' →
      ∃ fn args, (execOp a'.eval o).run P w.drew = .ok (.enter fn args) w.drew ∧ Calls P fn args w.drew fun e w'' => ∃ θ, Ok θ ∧ e = .returned (val θ c) ∧ (∀ j, f j = true → val0 j = val θ j) ∧ w'' = wld θ (fun j => decide (j = c) || f j))
    -- behind it
    (hpost : ∀ θ, Ok θ → ∀ f a' i o, i < n → i ≠ c → ops[i]? = some o → f i = false → f c = true → (∀ j o', ops[j]? = some o' → f j = true → ∀ e ∈ o'.after, Region.binds .any e = true → f e.on = true) → (∀ e ∈ o.after, Region.binds .any e = true → f e.on = true) → Held a dst (val θ) f a' → Gives P dst (val θ) (wld θ) o i f a')
    (hc : c < n) (hend : ∀ θ, Ok θ → Q .normal (fill dst (val θ) n a) (wld θ fun j => decide (j < n))) :
    (Code.region id ops true).wp P Q a w := by
  refine wp_region_inv hm hf (fun listed a' w' => JC Ok a dst c val0 w.drew val wld (fun j => listed.getD j false) a' w') ?_ ?_ ?_
  · refine .inl ⟨by simp [Array.getD], ⟨rfl, rfl, fun j d hl => ?_, fun k _ => rfl⟩, rfl⟩
    simp [Array.getD] at hl
  · intro listed a' w' i hs hcl hJ hr
    obtain ⟨hl0, o, ho, hdep⟩ := mem_ready.1 hr
    obtain ⟨hd, hg⟩ := hops i o ho
    have hin : i < n := by rw [← hn]; exact (Array.getElem?_eq_some_iff.1 ho).1
    have hi : i < listed.size := by rw [hs]; exact (Array.getElem?_eq_some_iff.1 ho).1
    have hun : listed.getD i false = false := by
      simp [Array.getD, hi] at hl0 ⊢
      exact hl0
    have hcl' : ∀ j o', ops[j]? = some o' → (fun j => listed.getD j false) j = true → ∀ e ∈ o'.after, Region.binds .any e = true → (fun j => listed.getD j false) e.on = true := fun j o' hj hl => hcl j o' hj hl
    have hfn : (fun j => (listed.setIfInBounds i true).getD j false) = fun j => decide (j = i) || listed.getD j false := by funext j; exact getS hi
    refine wpOp_step ho fun K hK => ?_
    have hw : Region.wanted o (yielded ops a'.tmps) = true := by simp [Region.wanted, hg]
    rw [if_pos hw]
    unfold Oper.wp
    rcases hJ with ⟨hfc, hH, rfl⟩ | ⟨hfc, θ, hθ, hH, rfl⟩
    · by_cases hic : i = c
      · subst hic
        obtain ⟨fn, args, hrun, hC⟩ := hcall _ a' o ho hfc hcl' hdep hH
        rw [hrun, Oper.upon_enter]
        refine hC.mono ?_
        rintro e w'' ⟨θ, hθ, rfl, hsame, rfl⟩
        refine hK _ _ ?_
        show JC Ok a dst i val0 w.drew val wld _ _ _
        rw [hfn, hd]
        exact .inr ⟨by simp, θ, hθ, (hH.congr hsame).put i hinj hlt _ (fun _ _ => rfl), rfl⟩
      · have hrun := hpre _ a' i o hin hic ho hun hfc hcl' hdep hH
        rw [hrun, Oper.upon_value]
        refine hK _ _ ?_
        show JC Ok a dst c val0 w.drew val wld _ _ _
        rw [hfn, hd]
        refine .inl ⟨?_, hH.put i hinj hlt _ (fun _ _ => rfl), rfl⟩
        show (decide (c = i) || listed.getD c false) = false
        rw [show listed.getD c false = false from hfc, decide_eq_false (Ne.symm hic)]
        rfl
    · have hic : i ≠ c := by
        rintro rfl
        rw [show listed.getD i false = true from hfc] at hun
        cases hun
      obtain ⟨nx, hrun, hnx⟩ := hpost θ hθ _ a' i o hin hic ho hun hfc hcl' hdep hH
      rw [hrun]
      have hfc' : (fun j => decide (j = i) || listed.getD j false) c = true := by
        show (decide (c = i) || listed.getD c false) = true
        rw [show listed.getD c false = true from hfc, Bool.or_true]
      rcases hnx with rfl | ⟨rfl, hn'⟩
      · rw [Oper.upon_value]
        refine hK _ _ ?_
        show JC Ok a dst c val0 w.drew val wld _ _ _
        rw [hfn, hd]
        exact .inr ⟨hfc', θ, hθ, hH.put i hinj hlt _ (fun _ _ => rfl), rfl⟩
      · rw [Oper.upon_skip]
        refine hK _ _ ?_
        show JC Ok a dst c val0 w.drew val wld _ _ _
        rw [hfn, hd]
        exact .inr ⟨hfc', θ, hθ, hH.put i hinj hlt _ (fun d h => by rw [hn'] at h; cases h), rfl⟩
  · intro listed a' w' hs hall hJ
    have hfn : (fun j => listed.getD j false) = fun j => decide (j < n) := by
      funext j
      by_cases hj : j < n
      · rw [hall j (by omega)]; simp [hj]
      · have : listed.size ≤ j := by omega
        simp [Array.getD, hj]
        omega
    rcases hJ with ⟨hfc, -⟩ | ⟨hfc, θ, hθ, hH, rfl⟩
    · exfalso
      have hfc' : listed.getD c false = false := hfc
      rw [hall c (by omega)] at hfc'
      cases hfc'
    · rw [hfn] at hH ⊢
      rw [hH.unique (Held.fill hinj hlt n)]
      exact hend θ hθ
end Go.Proofs.YtafbheamnjmfoaaGreat.Reg
namespace Go.Proofs.YtafbheamnjmfoaaGreat.Reg
open Go.RowKit
set_option linter.unusedVariables false

/-- what an operation's guard says, at the values: 'some true': it is done; 'some false': it is passed over -/
def guardAt (val : Nat → Value) (o : Oper) : Option Bool :=
  match o.guard with
  | none => some true
  | some (p, want) => match val p with
    | .bool b => some (b == want)
    | _ => none
theorem yielded_at {P : Program} {ops : Array Oper} {a a' : Act} {dst : Nat → Option Tmp} {val : Nat → Value} {f : Nat → Bool} (h : Held a dst val f a') (hlt : ∀ j d, dst j = some d → d < a.tmps.size) {p : Nat} {o : Oper} {d : Tmp} {b : Bool} (ho : ops[p]? = some o) (hd : o.dst = some d) (hd' : dst p = some d) (hp : f p = true) (hv : val p = .bool b) : yielded ops a'.tmps p = some b := by
  have h1 := h.got p d hp hd'
  rw [hv] at h1
  have hs : d < a'.tmps.size := by rw [h.size]; exact hlt p d hd'
  have h2 : a'.tmps[d]? = some (.bool b) := by
    simp [Act.eval, Array.getD, hs] at h1
    rw [Array.getElem?_eq_getElem hs, h1]
  unfold yielded
  rw [ho]
  simp [hd, h2]
theorem wp_region_guard {P : Program} {ops : Array Oper} {Q : Exit → Act → World → Prop} {id : Nat} {a : Act} {w We : World} (hm : P.follows .mixedOrders = true) (hf : fwd .any ops = true)
    (n : Nat) (hn : ops.size = n) (dst : Nat → Option Tmp) (val : Nat → Value) (wld : (Nat → Bool) → World) (hw0 : wld (fun _ => false) = w.drew)
    (hops : ∀ i o, ops[i]? = some o → o.dst = dst i) (hinj : ∀ j k d, dst j = some d → dst k = some d → j = k) (hlt : ∀ j d, dst j = some d → d < a.tmps.size)
    -- a guard looks at an operation that it waits for, and that has a slot
    (hguard : ∀ (i : Nat) (o : Oper) (p : Nat) (want : Bool), ops[i]? = some o → o.guard = some (p, want) → (∃ d, dst p = some d) ∧ (∃ op, ops[p]? = some op) ∧ ∃ e ∈ o.after, e.on = p ∧ Region.binds .any e = true)
    (hstep : ∀ f a' i o, i < n → ops[i]? = some o → guardAt val o = some true → f i = false → (∀ j o', ops[j]? = some o' → f j = true → ∀ e ∈ o'.after, Region.binds .any e = true → f e.on = true) → (∀ e ∈ o.after, Region.binds .any e = true → f e.on = true) → Held a dst val f a' → Gives P dst val wld o i f a')
    (hskip : ∀ (i : Nat) (o : Oper), ops[i]? = some o → guardAt val o ≠ some true → guardAt val o = some false ∧ val i = undef ∧ ∀ f, wld (fun j => decide (j = i) || f j) = wld f)
    (hwe : wld (fun j => decide (j < n)) = We) (hend : Q .normal (fill dst val n a) We) :
    (Code.region id ops true).wp P Q a w := by
  refine wp_region_inv hm hf (fun listed a' w' => Held a dst val (fun j => listed.getD j false) a' ∧ w' = wld fun j => listed.getD j false) ?_ ?_ ?_
  · refine ⟨⟨rfl, rfl, fun j d hl => ?_, fun k _ => rfl⟩, ?_⟩
    · simp [Array.getD] at hl
    · rw [← hw0]
      congr 1
      funext j
      simp [Array.getD]
  · intro listed a' w' i hs hcl hJ hr
    obtain ⟨hH, rfl⟩ := hJ
    obtain ⟨hl0, o, ho, hdep⟩ := mem_ready.1 hr
    have hd := hops i o ho
    have hin : i < n := by rw [← hn]; exact (Array.getElem?_eq_some_iff.1 ho).1
    have hi : i < listed.size := by rw [hs]; exact (Array.getElem?_eq_some_iff.1 ho).1
    have hun : listed.getD i false = false := by
      simp [Array.getD, hi] at hl0 ⊢
      exact hl0
    have hfn : (fun j => (listed.setIfInBounds i true).getD j false) = fun j => decide (j = i) || listed.getD j false := by funext j; exact getS hi
    have hwt : ∀ r, guardAt val o = some r → Region.wanted o (yielded ops a'.tmps) = r := by
      intro r hr'
      unfold guardAt at hr'
      unfold Region.wanted
      cases hg : o.guard with
      | none =>
        rw [hg] at hr'
        exact Option.some.inj hr'
      | some pw =>
        obtain ⟨p, want⟩ := pw
        rw [hg] at hr'
        obtain ⟨⟨d, hd'⟩, ⟨op, hop⟩, e, he, rfl, hb⟩ := hguard i o p want ho hg
        simp only at hr' ⊢
        split at hr'
        · rename_i b hv
          rw [yielded_at (P := P) hH hlt hop ((hops _ _ hop).trans hd') hd' (hdep e he hb) hv]
          rw [← Option.some.inj hr']
          simp
        · cases hr'
    refine wpOp_step ho fun K hK => ?_
    by_cases hgt : guardAt val o = some true
    · obtain ⟨nx, hrun, hnx⟩ := hstep (fun j => listed.getD j false) a' i o hin ho hgt hun (fun j o' hj hl => hcl j o' hj hl) hdep hH
      rw [if_pos (hwt true hgt)]
      unfold Oper.wp
      rw [hrun]
      rcases hnx with rfl | ⟨rfl, hn'⟩
      · rw [Oper.upon_value]
        refine hK _ _ ?_
        rw [hfn, hd]
        exact ⟨hH.put i hinj hlt _ fun _ _ => rfl, rfl⟩
      · rw [Oper.upon_skip]
        refine hK _ _ ?_
        rw [hfn, hd]
        exact ⟨hH.put i hinj hlt _ (fun d h => by rw [hn'] at h; cases h), rfl⟩
    · obtain ⟨hgf, hv, hww⟩ := hskip i o ho hgt
      rw [if_neg (by rw [hwt false hgf]; exact Bool.false_ne_true)]
      refine hK _ _ ?_
      rw [hfn, hd]
      exact ⟨hH.put i hinj hlt _ (fun _ _ => hv.symm), (hww _).symm⟩
  · intro listed a' w' hs hall hJ
    obtain ⟨hH, rfl⟩ := hJ
    have hfn : (fun j => listed.getD j false) = fun j => decide (j < n) := by
      funext j
      by_cases hj : j < n
      · rw [hall j (by omega)]; simp [hj]
      · have : listed.size ≤ j := by omega
        simp [Array.getD, hj]
        omega
    rw [hfn] at hH ⊢
    rw [hH.unique (Held.fill hinj hlt n), hwe]
    exact hend
end Go.Proofs.YtafbheamnjmfoaaGreat.Reg
namespace Go.Proofs.YtafbheamnjmfoaaGreat.Reg
open Go.RowKit
set_option linter.unusedVariables false

def dstOf (l : List (Option Nat)) (i : Nat) : Option Tmp := l.getD i none
def valOf (l : List Value) (i : Nat) : Value := l.getD i undef
theorem getD_mem {α : Type} : ∀ (l : List (Option α)) (i : Nat) (d : α), l.getD i none = some d → some d ∈ l
  | [], i, d, h => by simp at h
  | x :: l, 0, d, h => by
    have : x = some d := by simpa using h
    rw [this]; exact List.mem_cons_self
  | x :: l, i + 1, d, h => List.mem_cons_of_mem _ (getD_mem l i d (by simpa using h))
def onceIn : List (Option Nat) → Bool
  | [] => true
  | none :: l => onceIn l
  | some d :: l => !l.contains (some d) && onceIn l
theorem getD_once : ∀ (l : List (Option Nat)), onceIn l = true → ∀ i j d, l.getD i none = some d → l.getD j none = some d → i = j
  | [], _, i, j, d, h, _ => by simp at h
  | x :: l, hn, i, j, d, h1, h2 => by
    have hl : onceIn l = true := by
      cases x with
      | none => exact hn
      | some e => unfold onceIn at hn; simp only [Bool.and_eq_true] at hn; exact hn.2
    have hne : x = some d → some d ∈ l → False := fun hx hm => by
      subst hx
      unfold onceIn at hn
      simp [hm] at hn
    cases i with
    | zero =>
      cases j with
      | zero => rfl
      | succ j => exact (hne (by simpa using h1) (getD_mem l j d (by simpa using h2))).elim
    | succ i =>
      cases j with
      | zero => exact (hne (by simpa using h2) (getD_mem l i d (by simpa using h1))).elim
      | succ j => rw [getD_once l hl i j d (by simpa using h1) (by simpa using h2)]
theorem dstOf_inj (l : List (Option Nat)) (h : onceIn l = true) : ∀ j k d, dstOf l j = some d → dstOf l k = some d → j = k := fun j k d h1 h2 => getD_once l h j k d h1 h2
theorem dstOf_lt (l : List (Option Nat)) (n : Nat) (h : (l.all fun o => o.all fun d => decide (d < n)) = true) {j : Nat} {d : Tmp} (hd : dstOf l j = some d) : (show Nat from d) < n := by
  have hm := getD_mem l j d hd
  have := List.all_eq_true.1 h _ hm
  simpa using this
theorem dstOf_ne (l : List (Option Nat)) (k : Nat) (h : l.contains (some k) = false) {j : Nat} {d : Tmp} (hd : dstOf l j = some d) : d ≠ k := by
  rintro rfl
  have hm := getD_mem l j d hd
  rw [List.contains_iff_mem.2 hm] at h
  cases h
theorem tmp_at {a : Act} {k : Nat} {v : Value} (h : a.eval (.tmp k) = v) : a.tmps[k]?.getD undef = v := by
  simpa [Act.eval, Array.getD_eq_getD_getElem?] using h
/-- the worlds of two stores, one behind the other -/
def wst2 (s1 s2 : Nat) (a b c : World) (f : Nat → Bool) : World := if f s2 then c else if f s1 then b else a
theorem wst2_no (s1 s2 : Nat) (a b c : World) (f : Nat → Bool) (i : Nat) (h1 : i ≠ s1) (h2 : i ≠ s2) : wst2 s1 s2 a b c (fun k => decide (k = i) || f k) = wst2 s1 s2 a b c f := by
  unfold wst2
  have e1 : decide (s1 = i) = false := decide_eq_false (Ne.symm h1)
  have e2 : decide (s2 = i) = false := decide_eq_false (Ne.symm h2)
  simp [e1, e2]
theorem wst2_none {s1 s2 : Nat} {a b c : World} {f : Nat → Bool} (h1 : f s1 = false) (h2 : f s2 = false) : wst2 s1 s2 a b c f = a := by simp [wst2, h1, h2]
theorem wst2_one {s1 s2 : Nat} {a b c : World} {f : Nat → Bool} (h1 : f s1 = true) (h2 : f s2 = false) : wst2 s1 s2 a b c f = b := by simp [wst2, h1, h2]
theorem wst2_first {s1 s2 : Nat} {a b c : World} {f : Nat → Bool} (h2 : f s2 = false) (h : s2 ≠ s1) : wst2 s1 s2 a b c (fun k => decide (k = s1) || f k) = b := by simp [wst2, h2, h]
theorem wst2_second {s1 s2 : Nat} {a b c : World} {f : Nat → Bool} : wst2 s1 s2 a b c (fun k => decide (k = s2) || f k) = c := by simp [wst2]
/-- a region with a call, said of whatever frame has these slots -/
theorem via_call {Θ : Type} {P : Program} {c : Code} {Q : Exit → Act → World → Prop} {a : Act} {w : World} (Ok : Θ → Prop) (g : Θ → Act → Act) (W2 : Θ → World) (F : Act → Prop) (hF : F a) (h : ∀ a0 (Q' : Exit → Act → World → Prop), F a0 → (∀ θ, Ok θ → Q' .normal (g θ a0) (W2 θ)) → Code.wp P c Q' a0 w) (k : ∀ θ, Ok θ → Q .normal (g θ a) (W2 θ)) : Code.wp P c Q a w := h a Q hF k
end Go.Proofs.YtafbheamnjmfoaaGreat.Reg

namespace Go.Proofs.YtafbheamnjmfoaaGreat.Reg
open Go.RowKit
set_option linter.unusedVariables false

/-- the world behind the last of the stores that have come up -/
def wstL : List (Nat × World) → World → (Nat → Bool) → World
  | [], a, _ => a
  | (s, b) :: r, a, f => if f s then wstL r b f else a
theorem wstL_no : ∀ {l : List (Nat × World)} {a : World} (f : Nat → Bool) (i : Nat), (∀ p ∈ l, p.1 ≠ i) → wstL l a (fun k => decide (k = i) || f k) = wstL l a f
  | [], _, _, _, _ => rfl
  | (s, b) :: r, a, f, i, h => by
    have hs : decide (s = i) = false := decide_eq_false (h (s, b) List.mem_cons_self)
    have hr := wstL_no (l := r) (a := b) f i fun p hp => h p (List.mem_cons_of_mem _ hp)
    simp only [wstL, hs, Bool.false_or, hr]
/-- an operation leaves a value and the world as it was: by itself, or as a call that does -/
def Quiet (P : Program) (o : Oper) (a' : Act) (w : World) (v : Value) : Prop := (execOp a'.eval o).run P w = .ok (.value v) w ∨ ∃ fn args, (execOp a'.eval o).run P w = .ok (.enter fn args) w ∧ Calls P fn args w fun e w' => e = .returned v ∧ w' = w
theorem wp_region_callq {Θ : Type} {P : Program} {ops : Array Oper} {Q : Exit → Act → World → Prop} {id : Nat} {a : Act} {w : World} (hm : P.follows .mixedOrders = true) (hf : fwd .any ops = true)
    (n : Nat) (hn : ops.size = n) (Ok : Θ → Prop) (dst : Nat → Option Tmp) (c : Nat) (val0 : Nat → Value) (val : Θ → Nat → Value) (wld : Θ → (Nat → Bool) → World)
    (hops : ∀ i o, ops[i]? = some o → o.dst = dst i ∧ o.guard = none) (hinj : ∀ j k d, dst j = some d → dst k = some d → j = k) (hlt : ∀ j d, dst j = some d → d < a.tmps.size)
    -- ahead of the call
    (hpre : ∀ f a' i o, i < n → i ≠ c → ops[i]? = some o → f i = false → f c = false → (∀ j o', ops[j]? = some o' → f j = true → ∀ e ∈ o'.after, Region.binds .any e = true → f e.on = true) → (∀ e ∈ o.after, Region.binds .any e = true → f e.on = true) → Held a dst val0 f a' →
      Quiet P o a' w.drew (val0 i))
    -- the call
    (hcall : ∀ f a' o, ops[c]? = some o → f c = false → (∀ j o', ops[j]? = some o' → f j = true → ∀ e ∈ o'.after, Region.binds .any e = true → f e.on = true) → (∀ e ∈ o.after, Region.binds .any e = true → f e.on = true) → Held a dst val0 f a' →
      ∃ fn args, (execOp a'.eval o).run P w.drew = .ok (.enter fn args) w.drew ∧ Calls P fn args w.drew fun e w'' => ∃ θ, Ok θ ∧ e = .returned (val θ c) ∧ (∀ j, f j = true → val0 j = val θ j) ∧ w'' = wld θ (fun j => decide (j = c) || f j))
    -- behind it
    (hpost : ∀ θ, Ok θ → ∀ f a' i o, i < n → i ≠ c → ops[i]? = some o → f i = false → f c = true → (∀ j o', ops[j]? = some o' → f j = true → ∀ e ∈ o'.after, Region.binds .any e = true → f e.on = true) → (∀ e ∈ o.after, Region.binds .any e = true → f e.on = true) → Held a dst (val θ) f a' → Gives P dst (val θ) (wld θ) o i f a' ∨ (Quiet P o a' (wld θ f) (val θ i) ∧ wld θ (fun j => decide (j = i) || f j) = wld θ f))
    (hc : c < n) (hend : ∀ θ, Ok θ → Q .normal (fill dst (val θ) n a) (wld θ fun j => decide (j < n))) :
    (Code.region id ops true).wp P Q a w := by
  refine wp_region_inv hm hf (fun listed a' w' => JC Ok a dst c val0 w.drew val wld (fun j => listed.getD j false) a' w') ?_ ?_ ?_
  · refine .inl ⟨by simp [Array.getD], ⟨rfl, rfl, fun j d hl => ?_, fun k _ => rfl⟩, rfl⟩
    simp [Array.getD] at hl
  · intro listed a' w' i hs hcl hJ hr
    obtain ⟨hl0, o, ho, hdep⟩ := mem_ready.1 hr
    obtain ⟨hd, hg⟩ := hops i o ho
    have hin : i < n := by rw [← hn]; exact (Array.getElem?_eq_some_iff.1 ho).1
    have hi : i < listed.size := by rw [hs]; exact (Array.getElem?_eq_some_iff.1 ho).1
    have hun : listed.getD i false = false := by
      simp [Array.getD, hi] at hl0 ⊢
      exact hl0
    have hcl' : ∀ j o', ops[j]? = some o' → (fun j => listed.getD j false) j = true → ∀ e ∈ o'.after, Region.binds .any e = true → (fun j => listed.getD j false) e.on = true := fun j o' hj hl => hcl j o' hj hl
    have hfn : (fun j => (listed.setIfInBounds i true).getD j false) = fun j => decide (j = i) || listed.getD j false := by funext j; exact getS hi
    refine wpOp_step ho fun K hK => ?_
    have hw : Region.wanted o (yielded ops a'.tmps) = true := by simp [Region.wanted, hg]
    rw [if_pos hw]
    unfold Oper.wp
    rcases hJ with ⟨hfc, hH, rfl⟩ | ⟨hfc, θ, hθ, hH, rfl⟩
    · by_cases hic : i = c
      · subst hic
        obtain ⟨fn, args, hrun, hC⟩ := hcall _ a' o ho hfc hcl' hdep hH
        rw [hrun, Oper.upon_enter]
        refine hC.mono ?_
        rintro e w'' ⟨θ, hθ, rfl, hsame, rfl⟩
        refine hK _ _ ?_
        show JC Ok a dst i val0 w.drew val wld _ _ _
        rw [hfn, hd]
        exact .inr ⟨by simp, θ, hθ, (hH.congr hsame).put i hinj hlt _ (fun _ _ => rfl), rfl⟩
      · have hK2 : K (a'.put o.dst (val0 i)) w.drew := by
          refine hK _ _ ?_
          show JC Ok a dst c val0 w.drew val wld _ _ _
          rw [hfn, hd]
          refine .inl ⟨?_, hH.put i hinj hlt _ (fun _ _ => rfl), rfl⟩
          show (decide (c = i) || listed.getD c false) = false
          rw [show listed.getD c false = false from hfc, decide_eq_false (Ne.symm hic)]
          rfl
        rcases hpre _ a' i o hin hic ho hun hfc hcl' hdep hH with hrun | ⟨fn, args, hrun, hC⟩
        · rw [hrun, Oper.upon_value]
          exact hK2
        · rw [hrun, Oper.upon_enter]
          refine hC.mono ?_
          rintro e w'' ⟨rfl, rfl⟩
          exact hK2
    · have hic : i ≠ c := by
        rintro rfl
        rw [show listed.getD i false = true from hfc] at hun
        cases hun
      have hfc' : (fun j => decide (j = i) || listed.getD j false) c = true := by
        show (decide (c = i) || listed.getD c false) = true
        rw [show listed.getD c false = true from hfc, Bool.or_true]
      rcases hpost θ hθ _ a' i o hin hic ho hun hfc hcl' hdep hH with ⟨nx, hrun, hnx⟩ | ⟨hq, hwq⟩
      · rw [hrun]
        rcases hnx with rfl | ⟨rfl, hn'⟩
        · rw [Oper.upon_value]
          refine hK _ _ ?_
          show JC Ok a dst c val0 w.drew val wld _ _ _
          rw [hfn, hd]
          exact .inr ⟨hfc', θ, hθ, hH.put i hinj hlt _ (fun _ _ => rfl), rfl⟩
        · rw [Oper.upon_skip]
          refine hK _ _ ?_
          show JC Ok a dst c val0 w.drew val wld _ _ _
          rw [hfn, hd]
          exact .inr ⟨hfc', θ, hθ, hH.put i hinj hlt _ (fun d h => by rw [hn'] at h; cases h), rfl⟩
      · have hK2 : K (a'.put o.dst (val θ i)) (wld θ fun j => listed.getD j false) := by
          refine hK _ _ ?_
          show JC Ok a dst c val0 w.drew val wld _ _ _
          rw [hfn, hd]
          exact .inr ⟨hfc', θ, hθ, hH.put i hinj hlt _ (fun _ _ => rfl), hwq.symm⟩
        rcases hq with hrun | ⟨fn, args, hrun, hC⟩
        · rw [hrun, Oper.upon_value]
          exact hK2
        · rw [hrun, Oper.upon_enter]
          refine hC.mono ?_
          rintro e w'' ⟨rfl, rfl⟩
          exact hK2
  · intro listed a' w' hs hall hJ
    have hfn : (fun j => listed.getD j false) = fun j => decide (j < n) := by
      funext j
      by_cases hj : j < n
      · rw [hall j (by omega)]; simp [hj]
      · have : listed.size ≤ j := by omega
        simp [Array.getD, hj]
        omega
    rcases hJ with ⟨hfc, -⟩ | ⟨hfc, θ, hθ, hH, rfl⟩
    · exfalso
      have hfc' : listed.getD c false = false := hfc
      rw [hall c (by omega)] at hfc'
      cases hfc'
    · rw [hfn] at hH ⊢
      rw [hH.unique (Held.fill hinj hlt n)]
      exact hend θ hθ
end Go.Proofs.YtafbheamnjmfoaaGreat.Reg

namespace Go.Proofs.YtafbheamnjmfoaaGreat.Reg
open Go.RowKit
set_option linter.unusedVariables false

def upd (V : Nat → Value) (i : Nat) (v : Value) : Nat → Value := fun j => if j = i then v else V j
theorem wp_region_rel {P : Program} {ops : Array Oper} {Q : Exit → Act → World → Prop} {id : Nat} {a : Act} {w : World} (hm : P.follows .mixedOrders = true) (hf : fwd .any ops = true)
    (n : Nat) (hn : ops.size = n) (dst : Nat → Option Tmp) (I : (Nat → Bool) → (Nat → Value) → World → Prop) (h0 : I (fun _ => false) (fun _ => undef) w.drew)
    (hops : ∀ i o, ops[i]? = some o → o.dst = dst i ∧ o.guard = none) (hinj : ∀ j k d, dst j = some d → dst k = some d → j = k) (hlt : ∀ j d, dst j = some d → d < a.tmps.size)
    (hstep : ∀ f V a' w' i o, i < n → ops[i]? = some o → f i = false → (∀ j o', ops[j]? = some o' → f j = true → ∀ e ∈ o'.after, Region.binds .any e = true → f e.on = true) → (∀ e ∈ o.after, Region.binds .any e = true → f e.on = true) → Held a dst V f a' → I f V w' →
      ∀ K : Act → World → Prop, (∀ v w'', I (fun j => decide (j = i) || f j) (upd V i v) w'' → K (a'.put o.dst v) w'') → Oper.wp P o a' w' K Q)
    (hend : ∀ V w', I (fun j => decide (j < n)) V w' → Q .normal (fill dst V n a) w') :
    (Code.region id ops true).wp P Q a w := by
  refine wp_region_inv hm hf (fun listed a' w' => ∃ V, Held a dst V (fun j => listed.getD j false) a' ∧ I (fun j => listed.getD j false) V w') ?_ ?_ ?_
  · refine ⟨fun _ => undef, ⟨rfl, rfl, fun j d hl => ?_, fun k _ => rfl⟩, ?_⟩
    · simp [Array.getD] at hl
    · have e : (fun j => (Array.replicate ops.size false).getD j false) = fun _ => false := by
        funext j
        simp [Array.getD]
      rw [e]
      exact h0
  · intro listed a' w' i hs hcl hJ hr
    obtain ⟨V, hH, hI⟩ := hJ
    obtain ⟨hl0, o, ho, hdep⟩ := mem_ready.1 hr
    obtain ⟨hd, hg⟩ := hops i o ho
    have hin : i < n := by rw [← hn]; exact (Array.getElem?_eq_some_iff.1 ho).1
    have hi : i < listed.size := by rw [hs]; exact (Array.getElem?_eq_some_iff.1 ho).1
    have hun : listed.getD i false = false := by
      simp [Array.getD, hi] at hl0 ⊢
      exact hl0
    refine wpOp_step ho fun K hK => ?_
    have hw : Region.wanted o (yielded ops a'.tmps) = true := by simp [Region.wanted, hg]
    rw [if_pos hw]
    have hfn : (fun j => (listed.setIfInBounds i true).getD j false) = fun j => decide (j = i) || listed.getD j false := by funext j; exact getS hi
    refine hstep (fun j => listed.getD j false) V a' w' i o hin ho hun (fun j o' hj hl => hcl j o' hj hl) hdep hH hI K fun v w'' hI' => hK _ _ ⟨upd V i v, ?_, ?_⟩
    · rw [hfn, hd]
      refine (hH.congr (val' := upd V i v) fun j hj => ?_).put i hinj hlt v fun _ _ => ?_
      · have : j ≠ i := by rintro rfl; rw [show listed.getD j false = true from hj] at hun; cases hun
        simp [upd, this]
      · simp [upd]
    · rw [hfn]; exact hI'
  · intro listed a' w' hs hall hJ
    obtain ⟨V, hH, hI⟩ := hJ
    have hfn : (fun j => listed.getD j false) = fun j => decide (j < n) := by
      funext j
      by_cases hj : j < n
      · rw [hall j (by omega)]; simp [hj]
      · have : listed.size ≤ j := by omega
        simp [Array.getD, hj]
        omega
    rw [hfn] at hH hI
    rw [hH.unique (Held.fill hinj hlt n)]
    exact hend V w' hI
/-- an operation that leaves a value -/
theorem wp_value {P : Program} {o : Oper} {a : Act} {w w' : World} {K : Act → World → Prop} {Q : Exit → Act → World → Prop} (v : Value) (h : (execOp a.eval o).run P w = .ok (.value v) w') (hK : K (a.put o.dst v) w') : Oper.wp P o a w K Q := by
  unfold Oper.wp
  rw [h, Oper.upon_value]
  exact hK
/-- an operation that leaves none -/
theorem wp_skip {P : Program} {o : Oper} {a : Act} {w w' : World} {K : Act → World → Prop} {Q : Exit → Act → World → Prop} (hd : o.dst = none) (h : (execOp a.eval o).run P w = .ok .skip w') (hK : K (a.put o.dst undef) w') : Oper.wp P o a w K Q := by
  unfold Oper.wp
  rw [h, Oper.upon_skip]
  exact hK
/-- a call -/
theorem wp_enter {P : Program} {o : Oper} {a : Act} {w w' : World} {K : Act → World → Prop} {Q : Exit → Act → World → Prop} {fn : FuncId} {args : Array Value} (h : (execOp a.eval o).run P w = .ok (.enter fn args) w') (hC : Calls P fn args w' fun e w'' => ∃ v, e = .returned v ∧ K (a.put o.dst v) w'') : Oper.wp P o a w K Q := by
  unfold Oper.wp
  rw [h, Oper.upon_enter]
  refine hC.mono ?_
  rintro e w'' ⟨v, rfl, hk⟩
  exact hk
/-- a part of the code, said of whatever frame has these slots; what it leaves is any that fits -/
theorem via_rel {P : Program} {c : Code} {Q : Exit → Act → World → Prop} {a : Act} {w : World} (I : (Nat → Value) → World → Prop) (g : (Nat → Value) → Act → Act) (F : Act → Prop) (hF : F a) (h : ∀ a0 (Q' : Exit → Act → World → Prop), F a0 → (∀ V W, I V W → Q' .normal (g V a0) W) → Code.wp P c Q' a0 w) (k : ∀ V W, I V W → Q .normal (g V a) W) : Code.wp P c Q a w := h a Q hF k
end Go.Proofs.YtafbheamnjmfoaaGreat.Reg
