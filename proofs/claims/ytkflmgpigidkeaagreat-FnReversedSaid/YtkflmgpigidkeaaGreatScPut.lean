/-
  Append to a row of the program's values, and where the row lies behind it; stores into it.
-/
import Derived.Test.YtkflmgpigidkeaaGreatScList
import Derived.Deep.AppendLies
namespace Go.Proofs.YtkflmgpigidkeaaGreat.Sc
open Go.RowKit Go.WideShapes Go.Proofs.YtkflmgpigidkeaaGreat.Own Go.Proofs.YtkflmgpigidkeaaGreat.Num Go.Proofs.YtkflmgpigidkeaaGreat.Ref Go.Proofs.YtkflmgpigidkeaaGreat.Nat_ Go.Proofs.YtkflmgpigidkeaaGreat.Big Go.Proofs.YtkflmgpigidkeaaGreat.VRow
set_option linter.unusedVariables false

/-- a row's own block is no block of another type -/
theorem own_ne {w : World} {B e size n g : Nat} {v : Value} {xs : List Value} {t : TypeId} {cs : Array Value} (h : w.ownsRow B e size v n xs) (hg : Box.Holds w g t cs) (ht : t ≠ e) : v.ownBlock ≠ some g := by
  rcases h.2 with ⟨rfl, _⟩ | ⟨b, cap, cur, rfl, _, hb, _⟩
  · simp [Value.ownBlock]
  · intro e
    simp only [Value.ownBlock, Option.some.injEq] at e
    subst e
    have hg' : w.heap[b]? = some (.cells cs t (0, 0)) := hg
    rw [hb] at hg'
    simp only [Option.some.injEq, Obj.cells.injEq] at hg'
    exact ht hg'.2.1.symm
theorem Pvals.ne {w : World} {B g : Nat} {v : Value} {S : List Sc} {t : TypeId} {cs : Array Value} (h : Pvals w B v S) (hg : Box.Holds w g t cs) (ht : t ≠ 66) : v.ownBlock ≠ some g := by
  obtain ⟨L, h1, h2⟩ := h
  exact own_ne h1 hg ht
/-- a store elsewhere -/
theorem Pvals.setCell {w : World} {B : Nat} {v : Value} {S : List Sc} (h : Pvals w B v S) {p : Addr} {cs : Array Value} {t : TypeId} (hk : Box.Holds w p.block t cs) (ht : numT t = false) (hne : v.ownBlock ≠ some p.block) (u : Value) : Pvals (w.setCell p u) B v S := by
  obtain ⟨L, h1, h2⟩ := h
  exact ⟨L, ownsRow_setCell_other h1 hne u, h2.mono fun a b hab => hab.kept (Kept.setCell hk ht u)⟩
theorem Pvals.same {w w' : World} {B : Nat} {v : Value} {S : List Sc} (h : Pvals w B v S) (e : w'.heap = w.heap) : Pvals w' B v S := by
  obtain ⟨L, h1, h2⟩ := h
  have hk : Kept w w' := fun g cs t fz _ hh => by rw [e]; exact hh
  refine ⟨L, ⟨h1.1, ?_⟩, h2.mono fun a b hab => hab.kept hk⟩
  rcases h1.2 with h | ⟨g, cap, cur, hv, hB, hg, r⟩
  · exact .inl h
  · exact .inr ⟨g, cap, cur, hv, hB, by rw [e]; exact hg, r⟩
theorem Vals.same {w w' : World} {B : Nat} {v : Value} {S : List Sc} (h : Vals w B v S) (e : w'.heap = w.heap) : Vals w' B v S := by
  obtain ⟨L, h1, h2⟩ := h
  have hk : Kept w w' := fun g cs t fz _ hh => by rw [e]; exact hh
  refine ⟨L, ⟨h1.1, ?_⟩, h2.mono fun a b hab => hab.kept hk⟩
  rcases h1.2 with h | ⟨g, cap, cur, hv, hB, hg, r⟩
  · exact .inl h
  · exact .inr ⟨g, cap, cur, hv, hB, by rw [e]; exact hg, r⟩

/-- 'append(v, x)', and where what comes of it lies -/
theorem wpList_pv2 {ops : Array Oper} {rest : List Oper} {o : Oper} {a : Act} {Q : Exit → Act → World → Prop} {wr : World} {B : Nat} (hgd : o.guard = Option.none) (s x : Operand)
    (ho : o.op = .call { callee := .builtin .append, args := #[s, x], argTypes := #[86, 86] })
    (v : Value) (S : List Sc) (hs : a.eval s = v) (hv : Pvals wr B v S) (hB : B ≤ wr.heap.size) (y : Value) (t : Sc) (hy : IsPv wr y t)
    (hx : a.eval x = .slice (some ⟨wr.heap.size, 0, Option.none⟩) 1 1) (hn : S.length ≤ 1000000)
    (h : ∀ v' w', Pvals w' B v' (S ++ [t]) → Below B wr w' → (∀ b, v'.ownBlock = some b → v.ownBlock = some b ∨ wr.heap.size < b) → (∀ g, some g ≠ v.ownBlock → g < wr.heap.size → w'.heap[g]? = wr.heap[g]?) → wpList Tryz.prog ops Q rest (a.put o.dst v') w') :
    wpList Tryz.prog ops Q (o :: rest) a (wr.alloc (.cells #[y] 66)) := by
  obtain ⟨L, h1, h2⟩ := hv
  obtain ⟨i0, hi, hz0, hz1, hz2⟩ := info_parts info_pv
  have hlen := h2.1
  have hal : Below wr.heap.size wr (wr.alloc (.cells #[y] 66)) := below_one' _ (Nat.le_refl _)
  refine wpList_plain hgd fun _ hK => wp_append_lies _ s x 86 ho B 66 i0 .nilIface 1 16 Tryz.underlying86 hi hz0 hz1 hz2 rfl (by decide) v L.length L hs (World.ownsRow.alloc h1 _) ⟨wr.heap.size, 0, Option.none⟩ 1 1 [y] hx rfl
    (cell_one_new _ _ _) ?_ (by omega) (by unfold maxLen; omega) (by omega) (by simp; omega) (wr.heap.size + 1) (by simp) ?_
  · intro u hu
    simp at hu
    subst hu
    exact hy.one
  · intro g cap w' hown' hg hlies hlt
    have hk : Kept wr w' := (Kept.of_below hal).trans (Kept.grown (World.ownsRow.alloc h1 _) rfl hg)
    refine hK _ _ (h _ w' ⟨L ++ [y], by rw [List.length_append]; exact hown', (h2.mono fun a b hab => hab.kept hk).snoc (hy.kept hk)⟩ (((Below.refl _ _).alloc hB _).grown hg (by simp; omega) fun k hk => (World.ownsRow.lt h1 k hk).1) ?_ ?_)
    · intro b hb
      simp only [Value.ownBlock, Option.some.injEq] at hb
      subst hb
      rcases hlies with e | e
      · exact .inl e
      · exact .inr (by omega)
    · intro k hk hlt
      exact (hg.block k (by simp; omega) hk).trans (heap_alloc_old wr _ hlt)
/-- two lists, one place of each -/
theorem All.set {α β : Type} {P : α → β → Prop} {L : List α} {S : List β} (h : All P L S) (i : Nat) {x : α} {y : β} (hp : P x y) : All P (L.set i x) (S.set i y) := by
  refine ⟨by simp [h.1], fun j a b ha hb => ?_⟩
  rw [List.getElem?_set] at ha hb
  split at ha
  · rename_i e
    rw [if_pos e] at hb
    split at ha
    · rename_i hl
      rw [if_pos (by rw [← h.1]; exact hl)] at hb
      cases ha
      cases hb
      exact hp
    · cases ha
  · rename_i e
    rw [if_neg e] at hb
    exact h.2 j a b ha hb
/-- a store into the row -/
theorem Pvals.put {w : World} {B g n cap j : Nat} {S : List Sc} (h : Pvals w B (.slice (some ⟨g, 0, Option.none⟩) n cap) S) {x : Value} {t : Sc} (hx : IsPv w x t) : Pvals (w.setCell ⟨g, j, Option.none⟩ x) B (.slice (some ⟨g, 0, Option.none⟩) n cap) (S.set j t) := by
  obtain ⟨L, h1, h2⟩ := h
  have hn : n = L.length := by
    rcases h1.2 with ⟨e, _⟩ | ⟨g', cap', cur, e, _⟩
    · cases e
    · simp only [Value.slice.injEq] at e; exact e.2.1
  subst hn
  obtain ⟨cur, hcur⟩ : ∃ cur, w.heap[g]? = some (.cells cur 66 (0, 0)) := by
    rcases h1.2 with ⟨e, _⟩ | ⟨g', cap', cur, e, _, hg, _⟩
    · cases e
    · simp only [Value.slice.injEq, Option.some.injEq, Addr.mk.injEq] at e
      obtain ⟨⟨rfl, -⟩, -⟩ := e
      exact ⟨cur, hg⟩
  have hk : Kept w (w.setCell ⟨g, j, Option.none⟩ x) := Kept.setCell (p := ⟨g, j, Option.none⟩) hcur rfl x
  refine ⟨L.set j x, ?_, (h2.mono fun a b hab => hab.kept hk).set j (hx.kept hk)⟩
  have := (World.ownsRow.stored h1 j x).1
  rw [List.length_set]
  exact this
end Go.Proofs.YtkflmgpigidkeaaGreat.Sc
