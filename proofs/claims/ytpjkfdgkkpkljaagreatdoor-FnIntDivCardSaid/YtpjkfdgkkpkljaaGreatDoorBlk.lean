/-
  A block that a call has made and that is known to its last cell: what reads, stores and later worlds do to it.
-/
import Derived.Test.YtpjkfdgkkpkljaaGreatDoorOwn
import Derived.Deep.Draws
import Derived.Laws.Rows
namespace Go.Proofs.YtpjkfdgkkpkljaaGreatDoor.Box
open Go.RowKit
set_option linter.unusedVariables false

/-- block g holds just these cells -/
def Holds (w : World) (g : Nat) (t : TypeId) (cs : Array Value) : Prop := w.heap[g]? = some (.cells cs t (0, 0))
theorem Holds.lt {w : World} {g : Nat} {t : TypeId} {cs : Array Value} (h : Holds w g t cs) : g < w.heap.size := (Array.getElem?_eq_some_iff.1 h).1
theorem Holds.cell {w : World} {g : Nat} {t : TypeId} {cs : Array Value} (h : Holds w g t cs) (i : Nat) : w.cell? ⟨g, i, none⟩ = cs[i]? := cell_of_row w g i cs t (0, 0) h
theorem Holds.free {w : World} {g : Nat} {t : TypeId} {cs : Array Value} (h : Holds w g t cs) (i : Nat) : w.frozen? ⟨g, i, none⟩ = false := by
  have h' : w.heap[g]? = some (.cells cs t (0, 0)) := h
  simp [World.frozen?, h']
theorem Holds.made (w : World) (t : TypeId) (cs : Array Value) : Holds (w.alloc (.cells cs t)) w.heap.size t cs := heap_alloc_new w _
theorem Holds.put {w : World} {g : Nat} {t : TypeId} {cs : Array Value} (h : Holds w g t cs) (i : Nat) (u : Value) : Holds (w.setCell ⟨g, i, none⟩ u) g t (cs.setIfInBounds i u) := by
  have h' : w.heap[g]? = some (.cells cs t (0, 0)) := h
  unfold Holds World.setCell
  rw [Array.getElem?_modify, if_pos rfl, h']
  rfl
theorem Holds.apart {w : World} {g : Nat} {t : TypeId} {cs : Array Value} (h : Holds w g t cs) {p : Addr} (hp : g ≠ p.block) (u : Value) : Holds (w.setCell p u) g t cs := (Below.heap_setCell w p u g hp).trans h
theorem Holds.later {w w' : World} {g : Nat} {t : TypeId} {cs : Array Value} (h : Holds w g t cs) (hb : Below w.heap.size w w') : Holds w' g t cs := (hb.block g h.lt).trans h
theorem Holds.below {B : Nat} {w w' : World} {g : Nat} {t : TypeId} {cs : Array Value} (h : Holds w g t cs) (hb : Below B w w') (hg : g < B) : Holds w' g t cs := (hb.block g hg).trans h
theorem Holds.alloc {w : World} {g : Nat} {t : TypeId} {cs : Array Value} (h : Holds w g t cs) (o : Obj) : Holds (w.alloc o) g t cs := h.later ((Below.refl _ _).alloc (Nat.le_refl _) o)
theorem Holds.drawn {w : World} {g : Nat} {t : TypeId} {cs : Array Value} (h : Holds w g t cs) (n : Nat) : Holds (w.drewN n) g t cs := h
theorem below_drawn {B : Nat} {a w : World} (h : Below B a w) (n : Nat) : Below B a (w.drewN n) := ⟨h.os, h.tape, h.output, h.size, h.block⟩

/-- what is owned from block B on lies above whatever else below B turned -/
theorem own_above {w w' : World} {B e size n : Nat} {v : Value} {xs : List Value} (h : w.ownsRow B e size v n xs) (hk : ∀ g, B ≤ g → g < w.heap.size → w'.heap[g]? = w.heap[g]?) : w'.ownsRow B e size v n xs := by
  refine ⟨h.1, ?_⟩
  rcases h.2 with hn | ⟨g, cap, cur, rfl, hB, hg, rest⟩
  · exact .inl hn
  · exact .inr ⟨g, cap, cur, rfl, hB, (hk g hB (Array.getElem?_eq_some_iff.1 hg).1).trans hg, rest⟩
/-- from block B on nothing of w has turned -/
def Above (B : Nat) (w w' : World) : Prop := ∀ g, B ≤ g → g < w.heap.size → w'.heap[g]? = w.heap[g]?
theorem Above.refl (B : Nat) (w : World) : Above B w w := fun _ _ _ => rfl
theorem Above.of_below {B : Nat} {w w' : World} (hb : Below w.heap.size w w') : Above B w w' := fun g _ hg => hb.block g hg
theorem Above.trans {B : Nat} {a w w' : World} (h : Above B a w) (hs : a.heap.size ≤ w.heap.size) (h' : Above B w w') : Above B a w' := fun g hB hg => (h' g hB (by omega)).trans (h g hB hg)
theorem Above.setCell {B : Nat} {a w : World} (h : Above B a w) {p : Addr} (hp : p.block < B) (u : Value) : Above B a (w.setCell p u) := fun g hB hg => (Below.heap_setCell w p u g (by omega)).trans (h g hB hg)
theorem Above.drawn {B : Nat} {a w : World} (h : Above B a w) (n : Nat) : Above B a (w.drewN n) := h
end Go.Proofs.YtpjkfdgkkpkljaaGreatDoor.Box
