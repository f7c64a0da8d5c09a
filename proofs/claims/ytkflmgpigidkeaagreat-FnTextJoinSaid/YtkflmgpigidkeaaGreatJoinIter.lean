/-
  A tuple gone through: its iterator.
-/
import Derived.Test.YtkflmgpigidkeaaGreatRemSpec
namespace Go.Proofs.YtkflmgpigidkeaaGreat.Rem
open Go.RowKit Go.WideShapes
set_option linter.unusedVariables false

set_option maxRecDepth 100000 in
theorem iterate_any (a : Option Addr) (n c : Nat) (w : World) : Calls Tryz.prog 242 #[.slice a n c] w fun e w' => e = .returned (.iface 330 (.pointer (some ⟨w.heap.size, 0, none⟩))) ∧ w' = w.alloc (.cells #[.slice a n c] 332) := by
  go_enter Tryz.func242, Tryz.ntmps242
  go_wp2
  go_ret
  exact ⟨rfl, rfl⟩

set_option maxRecDepth 100000 in
theorem done_any (p : Value) (w : World) : Calls Tryz.prog 321 #[p] w fun e w' => e = .returned (.tuple #[]) ∧ w' = w := by
  go_enter Tryz.func321, Tryz.ntmps321
  go_wp2
  exact bodyPost_end (results_none (by rfl) _ _ _) rfl ⟨rfl, rfl⟩

set_option maxRecDepth 100000 in
theorem next_none (g x : Nat) (a : Option Addr) (c : Nat) (w : World) (h : Holds w g 332 #[.slice a 0 c]) : Calls Tryz.prog 322 #[.pointer (some ⟨g, 0, none⟩), .pointer (some ⟨x, 0, none⟩)] w fun e w' => e = .returned (.bool false) ∧ w' = w := by
  have q0 := h.cell 0
  simp at q0
  have ql := h.lt
  go_enter Tryz.func322, Tryz.ntmps322
  go_wp2
  go_ret
  exact ⟨rfl, rfl⟩

/-- what Next leaves: the element in the variable, the rest in the iterator -/
def Stepped (g x e o n c : Nat) (v : ByteArray) (w w' : World) : Prop := ∃ o', (n = 0 ∨ o' = o + 1) ∧ w' = (w.setCell ⟨x, 0, none⟩ (.iface 71 (.string v))).setCell ⟨g, 0, none⟩ (.slice (some ⟨e, o', none⟩) n (c - 1))
set_option maxRecDepth 100000 in
set_option maxHeartbeats 1000000 in
theorem next_some (g x e o n c : Nat) (v : ByteArray) (u : Value) (w : World) (h : Holds w g 332 #[.slice (some ⟨e, o, none⟩) (n + 1) c]) (hx : Holds w x 66 #[u]) (hgx : g ≠ x) (hv : w.cell? ⟨e, o, none⟩ = some (.iface 71 (.string v))) (he : e < w.heap.size) (hc : n + 1 ≤ c) (hn : n < 1000000) :
    Calls Tryz.prog 322 #[.pointer (some ⟨g, 0, none⟩), .pointer (some ⟨x, 0, none⟩)] w fun e' w' => e' = .returned (.bool true) ∧ Stepped g x e o n c v w w' := by
  have q0 := h.cell 0
  simp at q0
  have ql := h.lt
  have x0 := hx.cell 0
  simp at x0
  have xl := hx.lt
  have f0 := h.free 0
  have f1 := hx.free 0
  have y0 : (w.setCell ⟨x, 0, none⟩ (.iface 71 (.string v))).cell? ⟨g, 0, none⟩ = some (.slice (some ⟨e, o, none⟩) (n + 1) c) := by
    have := (h.apart (p := ⟨x, 0, none⟩) hgx (.iface 71 (.string v))).cell 0
    simpa using this
  have yf : (w.setCell ⟨x, 0, none⟩ (.iface 71 (.string v))).frozen? ⟨g, 0, none⟩ = false := (h.apart (p := ⟨x, 0, none⟩) hgx (.iface 71 (.string v))).free 0
  go_enter Tryz.func322, Tryz.ntmps322
  go_wp2
  · go_ret
    exact ⟨rfl, o, .inl (by omega), rfl⟩
  · go_ret
    exact ⟨rfl, o + 1, .inr rfl, rfl⟩
end Go.Proofs.YtkflmgpigidkeaaGreat.Rem
