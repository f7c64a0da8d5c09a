/-
  Some texts with another one between (at most 20 of them): the program's method join makes of them what the reference makes: for every text and every list of texts. No condition.
-/
import Derived.Test.YtkflmgpigidkeaaGreatJoinWalk
import Derived.Test.YtkflmgpigidkeaaGreatRows
import Derived.WalkKit
import Derived.ProofKit
import Derived.OpenShut
import Derived.ShutString
import Derived.SliceStrings
import Derived.ChangeOld
import Derived.Below
import Derived.Carry
namespace Go.Proofs.YtkflmgpigidkeaaGreat.fnTextJoin
open Go.ChangeShapes Go.WideShapes Go.ChangeAt Go.RowKit Go.Proofs.YtkflmgpigidkeaaGreat.Rem
open Go.ChangeMaps (open_string shut_string)
set_option linter.unusedVariables false

theorem own : ownKnob Tryz.prog.godebug = none := by kernel_rfl
theorem laidOut : laidOutB Tryz.prog = true := by kernel_rfl

set_option maxRecDepth 100000 in
theorem lifted (os : Os) (started : os.Started) (H : Type) (enc : TypeId × Value → H) :
    ReturnsInHanded {} Tryz.checked os 5 .any (Rows.fnTextJoinSpec.pre6 enc Tryz.prog Tryz.f5 Rows.fnTextJoinRow.domain false) (Rows.fnTextJoinSpec.post enc Tryz.prog Tryz.f5 false true false false) := by
  refine returnsInHanded_of_change (C := Tryz.checked) own started (by kernel_rfl) Tryz.func5
    (ChangeSpec.witness6 (enc := enc) (C := Tryz.checked) false ⟨#[], #[.string ByteArray.empty, .slice none 0 0], []⟩ 8 (by kernel_rfl) (by kernel_rfl) (by kernel_rfl) (by kernel_rfl)) ?_
  intro W base args ds gs before hval0 hW hcnd _
  have hval : ∀ (j : Nat) t v, Tryz.f5.params[j]? = some t → args[j]? = some v → Value.okWide Tryz.prog W .any base t v := hval0
  have hW' := hW
  obtain ⟨p, q, hA0, hV, rfl, hfz, hnd⟩ := hW
  have hA : DataW.TrodAll enc Tryz.prog W 0 (fun _ => true) true Tryz.f5.params.toList args.toList ds p := hA0
  rw [Tryz.params5] at hA hval
  obtain ⟨v0, vs0, d0, ds0, p0, q0, hargs, rfl, rfl, h0, r0⟩ := trodAll_cons hA
  obtain ⟨v1, vs1, d1, ds1, p1, q1, rfl, rfl, rfl, h1, r1⟩ := trodAll_cons r0
  obtain ⟨rfl, rfl, rfl⟩ := trodAll_nil r1
  obtain rfl : args = #[v0, v1] := by cases args; simp_all
  obtain ⟨rfl, rfl⟩ := trodVars_none hV
  obtain ⟨a0, rfl, rfl, rfl, w0⟩ := open_string Tryz.underlying9 (hval 0 9 v0 rfl rfl) h0
  obtain ⟨a1, len1, cap1, rfl⟩ := okWide_slice Tryz.underlying28 (hval 1 28 v1 rfl rfl)
  have k1 := h1
  have lt1 : ∀ x ∈ p1, x.block < W.heap.size := by obtain ⟨m, hm⟩ := k1; exact DataW.trod_lt m _ _ _ hm
  obtain ⟨l, rfl, w1⟩ : ∃ l : List ByteArray, len1 = l.length ∧ StrIn W a1 l cap1 := by
    obtain ⟨fuel, hf⟩ := h1
    rcases open_strings Tryz.underlying28 Tryz.underlying9 (by kernel_rfl) hf with ⟨hcs, _⟩ | ⟨x, len, c, zs, hcs, _, hl, hm, hz, _, hcell, hwz⟩
    · simp [Value.cells] at hcs
      obtain ⟨rfl, rfl, rfl⟩ := hcs
      exact ⟨[], rfl, ⟨⟨fun h => absurd rfl h, fun x hx => by cases hx⟩, fun x hx => by (cases hx), Nat.le_refl _, fun _ => rfl, fun t ht => by cases ht⟩⟩
    · simp [Value.cells] at hcs
      obtain ⟨rfl, rfl, rfl⟩ := hcs
      have hzl : zs.length = cap1 := by simpa using hz
      have hcl : ∀ j (hj : j < (zs.take len1).length), W.cell? (x.add j) = some (.string (zs.take len1)[j]) := fun j hj => by
        have hj' : j < zs.length := by simp at hj; omega
        rw [hcell j hj', List.getElem_take]
        simp [List.getD, List.getElem?_eq_getElem hj']
      refine ⟨zs.take len1, by simp; omega, ⟨⟨fun _ => rfl, fun y hy j hj => ?_⟩, fun y hy hne => ?_, by simp; omega, (fun h => by cases h), fun t ht => hwz t (List.mem_of_mem_take ht)⟩⟩
      · obtain rfl := Option.some.inj hy
        exact hcl j hj
      · obtain rfl := Option.some.inj hy
        have hpos : 0 < (zs.take len1).length := List.length_pos_iff.2 hne
        have := World.block_lt_of_cell? _ _ (hcl 0 hpos)
        rwa [show (x.add 0).block = x.block by unfold Addr.add; split <;> rfl] at this
  clear hA0 hval0
  refine (walk a0 a1 l cap1 W w1).mono fun e W' ⟨he, bel⟩ => ?_
  subst he
  exact ⟨_, rfl, _, _, _, [], _, [], hW', trodAll_mk1 (shut_bool Tryz.underlying4 _), (trodAll_cons_mk (shut_string Tryz.underlying9 w0) (trodAll_cons_mk (Below.trod laidOut (by kernel_rfl) (of_decide_eq_true (by kernel_rfl)) k1 bel lt1) trodAll_mk0)), rfl, bel.frame _, fun h => by cases h⟩

theorem over : Rows.fnTextJoinRow.holds Tryz.pinned (OpenSpec.ofChange Rows.fnTextJoinSpec) :=
  OpenClaim.holds_of_wide 5 Tryz.f5 rfl rfl rfl rfl rfl rfl rfl ⟨rfl, rfl, rfl, rfl, rfl⟩ rfl rfl rfl rfl rfl (by kernel_rfl) Tryz.func5 (by kernel_rfl)
    (of_decide_eq_true (by kernel_rfl)) (by unfold Func.isWrapper; first | (rw [if_pos (by decide +kernel)]; kernel_rfl) | (rw [if_neg (by decide +kernel)]; exact ⟨rfl, rfl⟩))
    (fun os started H enc _ => lifted os started H enc)

theorem proved : Rows.FnTextJoinSaid := over
#print axioms proved
end Go.Proofs.YtkflmgpigidkeaaGreat.fnTextJoin
