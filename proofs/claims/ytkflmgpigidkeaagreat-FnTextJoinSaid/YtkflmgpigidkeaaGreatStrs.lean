/-
  Slices of strings that a call owns, said by their list of strings alone: what append does to them.
-/
import Derived.Test.YtkflmgpigidkeaaGreatOwn
import Derived.Laws.AppendOwnNone
namespace Go.Proofs.YtkflmgpigidkeaaGreat.Strs
open Go.RowKit

def ss (l : List ByteArray) : List Value := l.map Value.string
theorem ss_length (l : List ByteArray) : (ss l).length = l.length := by simp [ss]
/-- the value owns just these strings, in blocks from B on -/
def OwnS (w : World) (B : Nat) (v : Value) (l : List ByteArray) : Prop := w.ownsRow B 9 1 v l.length (ss l)
theorem OwnS.nil (w : World) (B : Nat) : OwnS w B (.slice none 0 0) [] := World.ownsRow_nil _ _ _ _
theorem OwnS.later {w w' : World} {B : Nat} {v : Value} {l : List ByteArray} (h : OwnS w B v l) (hb : Below w.heap.size w w') : OwnS w' B v l := Own.own_below h hb
theorem OwnS.eq {w : World} {B : Nat} {v : Value} {l l' : List ByteArray} (h : OwnS w B v l) (e : l = l') : OwnS w B v l' := e ▸ h
theorem info_str : (Tryz.prog.info? 9).map (fun i => (i.zero, i.size, i.bytes)) = some (some (.string ⟨#[]⟩), 1, 16) := by kernel_rfl

theorem OwnS.slice {w : World} {B : Nat} {v : Value} {l : List ByteArray} (h : OwnS w B v l) (hne : 0 < l.length) :
    ∃ g cap, v = .slice (some ⟨g, 0, none⟩) l.length cap ∧ g < w.heap.size ∧ B ≤ g ∧ ∀ j (hj : j < l.length), w.cell? ((⟨g, 0, none⟩ : Addr).add j) = some (.string l[j]) := by
  rcases (show w.ownsRow B 9 1 v l.length (ss l) from h).2 with ⟨_, h0⟩ | ⟨g, cap, cur, rfl, hB, hg, _⟩
  · omega
  · exact ⟨g, cap, rfl, (Array.getElem?_eq_some_iff.1 hg).1, hB, fun j hj => World.ownsRow.cells h (g := g) rfl j _ (by simp [ss, List.getElem?_eq_getElem hj])⟩
theorem OwnS.forms {w : World} {B : Nat} {v : Value} {l : List ByteArray} (h : OwnS w B v l) :
    (v = .slice none 0 0 ∧ l = []) ∨ ∃ g cap, v = .slice (some ⟨g, 0, none⟩) l.length cap ∧ g < w.heap.size ∧ B ≤ g ∧ l.length ≤ cap ∧ ∀ j (hj : j < l.length), w.cell? ⟨g, j, none⟩ = some (.string l[j]) := by
  rcases (show w.ownsRow B 9 1 v l.length (ss l) from h).2 with ⟨rfl, h0⟩ | ⟨g, cap, cur, rfl, hB, hg, hc, _⟩
  · exact .inl ⟨rfl, List.eq_nil_of_length_eq_zero h0⟩
  · refine .inr ⟨g, cap, rfl, (Array.getElem?_eq_some_iff.1 hg).1, hB, hc, fun j hj => ?_⟩
    have := World.ownsRow.cells h (g := g) rfl j (.string l[j]) (by simp [ss, List.getElem?_eq_getElem hj])
    rw [show ((⟨g, 0, none⟩ : Addr).add j) = ⟨g, j, none⟩ by unfold Addr.add; split <;> simp_all] at this
    exact this

theorem OwnS.shape {w : World} {B : Nat} {v : Value} {l : List ByteArray} (h : OwnS w B v l) : ∃ A cap, v = .slice A l.length cap := by
  rcases h.forms with ⟨rfl, rfl⟩ | ⟨g, cap, rfl, _⟩
  · exact ⟨none, 0, rfl⟩
  · exact ⟨_, _, rfl⟩
/-- 'append(v, x)' of one string, v the call's own -/
theorem wpList_str {ops : Array Oper} {rest : List Oper} {o : Oper} {a : Act} {Q : Exit → Act → World → Prop} {w0 wr : World} {B : Nat} (hgd : o.guard = none) (s x : Operand)
    (ho : o.op = .call { callee := .builtin .append, args := #[s, x], argTypes := #[28, 28] })
    (v : Value) (l : List ByteArray) (hs : a.eval s = v) (hown : OwnS wr B v l) (hb : Below B w0 wr) (hB : B ≤ w0.heap.size) (t : ByteArray)
    (hx : a.eval x = .slice (some ⟨wr.heap.size, 0, none⟩) 1 1) (hn : l.length ≤ 1000000000000)
    (h : ∀ v' w', OwnS w' B v' (l ++ [t]) → Below B w0 w' → wpList Tryz.prog ops Q rest (a.put o.dst v') w') :
    wpList Tryz.prog ops Q (o :: rest) a (wr.alloc (.cells #[.string t] 9)) := by
  obtain ⟨i0, hi, hz0, hz1, hz2⟩ := info_parts info_str
  have hsz := hb.size
  refine wpList_append_own _ hgd s x 28 ho B 9 i0 (.string ⟨#[]⟩) 1 16 Tryz.underlying28 hi hz0 hz1 hz2 rfl (by decide) v l.length (ss l) hs (World.ownsRow.alloc hown _) ⟨wr.heap.size, 0, none⟩ 1 1 [.string t] hx rfl
    ?_ ?_ (by unfold maxLen; omega) (by omega) (by simp; omega) ?_
  · exact cell_one_new _ _ _
  · intro u hu
    simp at hu
    subst hu
    rfl
  · intro v' w' hown' hg _
    refine h v' w' ?_ ((hb.alloc (by omega) _).grown hg (by simp; omega) fun k hk => ?_)
    · unfold OwnS
      rw [List.length_append]
      simpa [ss] using hown'
    · exact (World.ownsRow.lt hown k hk).1

/-- 'append([]string{x}, v...)': a literal of one string, and another slice behind it -/
theorem wpList_front {ops : Array Oper} {rest : List Oper} {o : Oper} {a : Act} {Q : Exit → Act → World → Prop} {w0 wr : World} {B : Nat} (hgd : o.guard = none) (s x : Operand)
    (ho : o.op = .call { callee := .builtin .append, args := #[s, x], argTypes := #[28, 28] })
    (v : Value) (l : List ByteArray) (hx : a.eval x = v) (hown : OwnS wr B v l) (hb : Below B w0 wr) (hB : B ≤ w0.heap.size) (t : ByteArray)
    (hs : a.eval s = .slice (some ⟨wr.heap.size, 0, none⟩) 1 1) (hn : l.length ≤ 1000000000000)
    (h : ∀ v' w', OwnS w' B v' (t :: l) → Below B w0 w' → wpList Tryz.prog ops Q rest (a.put o.dst v') w') :
    wpList Tryz.prog ops Q (o :: rest) a (wr.alloc (.cells #[.string t] 9)) := by
  obtain ⟨i0, hi, hz0, hz1, hz2⟩ := info_parts info_str
  have hsz := hb.size
  have hlit : (wr.alloc (.cells #[.string t] 9)).ownsRow B 9 1 (.slice (some ⟨wr.heap.size, 0, none⟩) 1 1) 1 [.string t] :=
    World.ownsRow_lit (base := B) (e := 9) (size := 1) wr #[.string t] 1 (by omega) (by decide) (by simp)
  rcases hown.forms with ⟨rfl, rfl⟩ | ⟨g, cap, rfl, hg, hBg, hcap, hcells⟩
  · refine wpList_append_own_none hgd s x 28 ho B 9 i0 1 Tryz.underlying28 hi _ 1 [.string t] hs hlit hx ?_
    exact h _ _ hlit (hb.alloc (by omega) _)
  · refine wpList_append_own _ hgd s x 28 ho B 9 i0 (.string ⟨#[]⟩) 1 16 Tryz.underlying28 hi hz0 hz1 hz2 rfl (by decide) _ 1 [.string t] hs hlit ⟨g, 0, none⟩ l.length cap (ss l) hx (by rw [ss_length, Nat.mul_one])
      ?_ ?_ (by unfold maxLen; omega) (by omega) (by simp; omega) ?_
    · intro j u hu
      simp only [ss, List.getElem?_map, Option.map_eq_some_iff] at hu
      obtain ⟨x, hx1, rfl⟩ := hu
      obtain ⟨hj, rfl⟩ := List.getElem?_eq_some_iff.1 hx1
      rw [show ((⟨g, 0, none⟩ : Addr).add j) = ⟨g, j, none⟩ by unfold Addr.add; split <;> simp_all]
      rw [World.cell?_alloc_lt _ _ _ hg]
      exact hcells j hj
    · intro u hu
      simp only [ss, List.mem_map] at hu
      obtain ⟨x, _, rfl⟩ := hu
      rfl
    · intro v' w' hown' hgr _
      refine h v' w' ?_ ((hb.alloc (by omega) _).grown hgr (by simp; omega) fun k hk => ?_)
      · unfold OwnS
        rw [List.length_cons, Nat.add_comm]
        simpa [ss] using hown'
      · exact (World.ownsRow.lt hlit k hk).1
end Go.Proofs.YtkflmgpigidkeaaGreat.Strs
