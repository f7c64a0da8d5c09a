/-
  Slices of String values that a call owns, said by their list of strings alone: what append does to them.
-/
import Derived.Test.YtkflmgpigidkeaaGreatOwn
import Derived.Laws.AppendOwnNone
namespace Go.Proofs.YtkflmgpigidkeaaGreat.Vals
open Go.RowKit

def ss (l : List ByteArray) : List Value := l.map fun t => .iface 71 (.string t)
theorem ss_length (l : List ByteArray) : (ss l).length = l.length := by simp [ss]
/-- the value owns just these strings, in blocks from B on -/
def OwnT (w : World) (B : Nat) (v : Value) (l : List ByteArray) : Prop := w.ownsRow B 66 1 v l.length (ss l)
theorem OwnT.nil (w : World) (B : Nat) : OwnT w B (.slice none 0 0) [] := World.ownsRow_nil _ _ _ _
theorem OwnT.later {w w' : World} {B : Nat} {v : Value} {l : List ByteArray} (h : OwnT w B v l) (hb : Below w.heap.size w w') : OwnT w' B v l := Own.own_below h hb
theorem OwnT.eq {w : World} {B : Nat} {v : Value} {l l' : List ByteArray} (h : OwnT w B v l) (e : l = l') : OwnT w B v l' := e ▸ h
theorem info_val : (Tryz.prog.info? 66).map (fun i => (i.zero, i.size, i.bytes)) = some (some .nilIface, 1, 16) := by kernel_rfl

theorem OwnT.slice {w : World} {B : Nat} {v : Value} {l : List ByteArray} (h : OwnT w B v l) (hne : 0 < l.length) :
    ∃ g cap, v = .slice (some ⟨g, 0, none⟩) l.length cap ∧ g < w.heap.size ∧ B ≤ g ∧ ∀ j (hj : j < l.length), w.cell? ((⟨g, 0, none⟩ : Addr).add j) = some (.iface 71 (.string l[j])) := by
  rcases (show w.ownsRow B 66 1 v l.length (ss l) from h).2 with ⟨_, h0⟩ | ⟨g, cap, cur, rfl, hB, hg, _⟩
  · omega
  · exact ⟨g, cap, rfl, (Array.getElem?_eq_some_iff.1 hg).1, hB, fun j hj => World.ownsRow.cells h (g := g) rfl j _ (by simp [ss, List.getElem?_eq_getElem hj])⟩
theorem OwnT.forms {w : World} {B : Nat} {v : Value} {l : List ByteArray} (h : OwnT w B v l) :
    (v = .slice none 0 0 ∧ l = []) ∨ ∃ g cap, v = .slice (some ⟨g, 0, none⟩) l.length cap ∧ g < w.heap.size ∧ B ≤ g ∧ l.length ≤ cap ∧ ∀ j (hj : j < l.length), w.cell? ⟨g, j, none⟩ = some (.iface 71 (.string l[j])) := by
  rcases (show w.ownsRow B 66 1 v l.length (ss l) from h).2 with ⟨rfl, h0⟩ | ⟨g, cap, cur, rfl, hB, hg, hc, _⟩
  · exact .inl ⟨rfl, List.eq_nil_of_length_eq_zero h0⟩
  · refine .inr ⟨g, cap, rfl, (Array.getElem?_eq_some_iff.1 hg).1, hB, hc, fun j hj => ?_⟩
    have := World.ownsRow.cells h (g := g) rfl j (.iface 71 (.string l[j])) (by simp [ss, List.getElem?_eq_getElem hj])
    rw [show ((⟨g, 0, none⟩ : Addr).add j) = ⟨g, j, none⟩ by unfold Addr.add; split <;> simp_all] at this
    exact this

theorem OwnT.shape {w : World} {B : Nat} {v : Value} {l : List ByteArray} (h : OwnT w B v l) : ∃ A cap, v = .slice A l.length cap := by
  rcases h.forms with ⟨rfl, rfl⟩ | ⟨g, cap, rfl, _⟩
  · exact ⟨none, 0, rfl⟩
  · exact ⟨_, _, rfl⟩
/-- 'append(v, x)' of one string, v the call's own -/
theorem wpList_val {ops : Array Oper} {rest : List Oper} {o : Oper} {a : Act} {Q : Exit → Act → World → Prop} {w0 wr : World} {B : Nat} (hgd : o.guard = none) (s x : Operand)
    (ho : o.op = .call { callee := .builtin .append, args := #[s, x], argTypes := #[86, 86] })
    (v : Value) (l : List ByteArray) (hs : a.eval s = v) (hown : OwnT wr B v l) (hb : Below B w0 wr) (hB : B ≤ w0.heap.size) (t : ByteArray)
    (hx : a.eval x = .slice (some ⟨wr.heap.size, 0, none⟩) 1 1) (hn : l.length ≤ 1000000000000)
    (h : ∀ v' w', OwnT w' B v' (l ++ [t]) → Below B w0 w' → wpList Tryz.prog ops Q rest (a.put o.dst v') w') :
    wpList Tryz.prog ops Q (o :: rest) a (wr.alloc (.cells #[.iface 71 (.string t)] 66)) := by
  obtain ⟨i0, hi, hz0, hz1, hz2⟩ := info_parts info_val
  have hsz := hb.size
  refine wpList_append_own _ hgd s x 86 ho B 66 i0 .nilIface 1 16 Tryz.underlying86 hi hz0 hz1 hz2 rfl (by decide) v l.length (ss l) hs (World.ownsRow.alloc hown _) ⟨wr.heap.size, 0, none⟩ 1 1 [.iface 71 (.string t)] hx rfl
    ?_ ?_ (by unfold maxLen; omega) (by omega) (by simp; omega) ?_
  · exact cell_one_new _ _ _
  · intro u hu
    simp at hu
    subst hu
    rfl
  · intro v' w' hown' hg _
    refine h v' w' ?_ ((hb.alloc (by omega) _).grown hg (by simp; omega) fun k hk => ?_)
    · unfold OwnT
      rw [List.length_append]
      simpa [ss] using hown'
    · exact (World.ownsRow.lt hown k hk).1

end Go.Proofs.YtkflmgpigidkeaaGreat.Vals
