/-
  The two names in a map.
-/
import Derived.Test.YtkflmgpigidkeaaGreatRegInv
import Derived.Test.YtkflmgpigidkeaaGreatRemSpec
import Derived.Maps.OwnOps
import Derived.Maps.StringElems
namespace Go.Proofs.YtkflmgpigidkeaaGreat.Rem
open Go.RowKit Go.WideShapes Go.Maps
set_option linter.unusedVariables false

def preN : ByteArray := ⟨#[114, 101, 109, 111, 118, 101, 112, 114, 101, 102, 105, 120]⟩
def sufN : ByteArray := ⟨#[114, 101, 109, 111, 118, 101, 115, 117, 102, 102, 105, 120]⟩
def nmOf (sfx : Bool) : ByteArray := if sfx then sufN else preN
def dat (b : ByteArray) : DataW Unit := .lit (.string b.data.toList)
def Dof (l2 l3 : Bool) : DataW Unit :=
  if l2 then (if l3 then ((DataW.map []).put (.bool false) (dat preN)).put (.bool true) (dat sufN) else (DataW.map []).put (.bool false) (dat preN))
  else (if l3 then (DataW.map []).put (.bool true) (dat sufN) else .map [])
theorem Dof_swap : ((DataW.map []).put (.bool true) (dat sufN)).put (.bool false) (dat preN) = Dof true true := by rfl
def Mp (w : World) (b : Nat) (l2 l3 : Bool) : Prop := w.ownsMap Tryz.prog 4 (plainElem Tryz.prog 9) b (l2.toNat + l3.toNat) (Dof l2 l3)
theorem Mp.lt {w : World} {b : Nat} {l2 l3 : Bool} (h : Mp w b l2 l3) : b < w.heap.size := World.ownsMap.lt h
theorem Mp.same {w w' : World} {b : Nat} {l2 l3 : Bool} (h : Mp w b l2 l3) (e : w'.heap[b]? = w.heap[b]?) : Mp w' b l2 l3 := by
  obtain ⟨es, clock, hb, r⟩ := h
  exact ⟨es, clock, e.trans hb, r⟩
theorem Mp.ne {w : World} {b g : Nat} {l2 l3 : Bool} {t : TypeId} {cs : Array Value} (h : Mp w b l2 l3) (hg : Holds w g t cs) : g ≠ b := by
  rintro rfl
  obtain ⟨es, clock, hb, -⟩ := h
  have hg' : w.heap[g]? = some (.cells cs t (0, 0)) := hg
  rw [hb] at hg'
  cases hg'
theorem mp_made (w : World) : Mp (w.alloc (.map #[] 0)) w.heap.size false false := World.ownsMap_made w Tryz.prog 4 (plainElem Tryz.prog 9)

theorem val_pre : plainElem (H := Unit) Tryz.prog 9 (.string preN) = some (dat preN, []) := plainElem_string Tryz.underlying9 (by decide)
theorem val_suf : plainElem (H := Unit) Tryz.prog 9 (.string sufN) = some (dat sufN, []) := plainElem_string Tryz.underlying9 (by decide)

theorem ins_false {w : World} {b : Nat} {l3 : Bool} (h : Mp w b false l3) : ∃ w', (Instr.mapUpdate 31 (.map (some b)) (.bool false) (.string preN)).run Tryz.prog w = .ok () w' ∧ Mp w' b true l3 ∧ w.grownBy w' (some b) := by
  obtain ⟨w', h1, h2, h3⟩ := World.ownsMap.update h (bool_keyed Tryz.underlying4) Tryz.underlying31 (by cases l3 <;> decide) (keyOf_bool_mk Tryz.underlying4 false) val_pre
  refine ⟨w', h1, ?_, h3⟩
  cases l3
  · exact h2
  · exact h2.mono (by decide)
theorem ins_true {w : World} {b : Nat} {l2 : Bool} (h : Mp w b l2 false) : ∃ w', (Instr.mapUpdate 31 (.map (some b)) (.bool true) (.string sufN)).run Tryz.prog w = .ok () w' ∧ Mp w' b l2 true ∧ w.grownBy w' (some b) := by
  obtain ⟨w', h1, h2, h3⟩ := World.ownsMap.update h (bool_keyed Tryz.underlying4) Tryz.underlying31 (by cases l2 <;> decide) (keyOf_bool_mk Tryz.underlying4 true) val_suf
  refine ⟨w', h1, ?_, h3⟩
  cases l2
  · exact h2
  · exact h2.mono (by decide)
theorem look {w : World} {b : Nat} (sfx : Bool) (h : Mp w b true true) : (Instr.lookup 31 (.map (some b)) (.bool sfx) false).run Tryz.prog w = .ok (.string (nmOf sfx)) w := by
  obtain ⟨v, ps, h1, h2⟩ := World.ownsMap.lookup h (bool_keyed Tryz.underlying4) Tryz.underlying31 (z := .string ⟨#[]⟩) (by kernel_rfl) (plainElem_string Tryz.underlying9 (by decide)) (keyOf_bool_mk Tryz.underlying4 sfx)
  obtain ⟨s, rfl, e, -⟩ := plainElem_string_inv Tryz.underlying9 h2
  rw [h1]
  cases sfx
  · have e2 : (dat preN, ps) = (.lit (.string s.data.toList), []) := e
    simp only [Prod.mk.injEq, dat, DataW.lit.injEq, Lit.string.injEq] at e2
    have : s = preN := by
      have := e2.1
      cases s with
      | mk d => simp [preN] at this ⊢; exact (Array.toList_inj.1 (by simpa using this.symm))
    rw [this]; rfl
  · have e2 : (dat sufN, ps) = (.lit (.string s.data.toList), []) := e
    simp only [Prod.mk.injEq, dat, DataW.lit.injEq, Lit.string.injEq] at e2
    have : s = sufN := by
      have := e2.1
      cases s with
      | mk d => simp [sufN] at this ⊢; exact (Array.toList_inj.1 (by simpa using this.symm))
    rw [this]; rfl
end Go.Proofs.YtkflmgpigidkeaaGreat.Rem
