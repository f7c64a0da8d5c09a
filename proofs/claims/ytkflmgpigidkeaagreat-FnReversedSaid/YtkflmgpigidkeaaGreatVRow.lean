/-
  Slices of values of six cells (impl.Val) that a call owns, said by their list of values alone: what append does to them.
-/
import Derived.Test.YtkflmgpigidkeaaGreatOwn
import Derived.Test.YtkflmgpigidkeaaGreatRemSpec
import Derived.Laws.AppendOwnNone
import Derived.Laws.OwnMore
namespace Go.Proofs.YtkflmgpigidkeaaGreat.VRow
open Go.RowKit Go.Proofs.YtkflmgpigidkeaaGreat.Rem
set_option linter.unusedVariables false

/-- a value's six cells -/
structure V6 where
  k : Value
  n : Value
  m : Value
  b : Value
  t : Value
  s : Value
def V6.cs (x : V6) : List Value := [x.k, x.n, x.m, x.b, x.t, x.s]
def V6.arr (x : V6) : Array Value := #[x.k, x.n, x.m, x.b, x.t, x.s]
/-- each is one cell -/
def V6.One (x : V6) : Prop := ∀ u ∈ x.cs, u.oneCell' = true
def rows (L : List V6) : List Value := L.flatMap V6.cs
theorem rows_length : ∀ L : List V6, (rows L).length = L.length * 6
  | [] => rfl
  | x :: r => by
    have := rows_length r
    simp only [rows, List.flatMap_cons, List.length_append, List.length_cons] at this ⊢
    rw [this]
    simp only [V6.cs, List.length_cons, List.length_nil]
    omega
theorem rows_snoc (L : List V6) (x : V6) : rows (L ++ [x]) = rows L ++ x.cs := by simp [rows]
theorem rows_at : ∀ (L : List V6) (j : Nat) (hj : j < L.length) (i : Nat), i < 6 → (rows L)[j * 6 + i]? = L[j].cs[i]?
  | [], _, hj, _, _ => by simp at hj
  | x :: r, 0, _, i, hi => by
    simp only [rows, List.flatMap_cons, Nat.zero_mul, Nat.zero_add, List.getElem_cons_zero]
    rw [List.getElem?_append_left (by simpa [V6.cs] using hi)]
  | x :: r, j + 1, hj, i, hi => by
    have := rows_at r j (by simpa using hj) i hi
    simp only [rows, List.flatMap_cons, List.getElem_cons_succ] at this ⊢
    rw [List.getElem?_append_right (by simp [V6.cs]; omega)]
    rw [← this]
    congr 1
    simp [V6.cs]
    omega
/-- the value owns just these, in blocks from B on -/
def OwnV (w : World) (B : Nat) (v : Value) (L : List V6) : Prop := w.ownsRow B 27 6 v L.length (rows L)
theorem OwnV.nil (w : World) (B : Nat) : OwnV w B (.slice none 0 0) [] := World.ownsRow_nil _ _ _ _
theorem OwnV.later {w w' : World} {B : Nat} {v : Value} {L : List V6} (h : OwnV w B v L) (hb : Below w.heap.size w w') : OwnV w' B v L := Own.own_below h hb
theorem OwnV.eq {w : World} {B : Nat} {v : Value} {L L' : List V6} (h : OwnV w B v L) (e : L = L') : OwnV w B v L' := e ▸ h
theorem OwnV.lower {w : World} {B B' : Nat} {v : Value} {L : List V6} (h : OwnV w B v L) (hb : B' ≤ B) : OwnV w B' v L := by
  refine ⟨h.1, ?_⟩
  rcases h.2 with hn | ⟨g, cap, cur, hv, hB, r⟩
  · exact .inl hn
  · exact .inr ⟨g, cap, cur, hv, by omega, r⟩
theorem info_v6 : (Tryz.prog.info? 27).map (fun i => (i.zero, i.size, i.bytes)) = some (some (.agg #[.int .i64 0, .bool false, .slice none 0 0, .int .u64 0, .string ⟨#[]⟩, .slice none 0 0]), 6, 88) := by kernel_rfl
/-- the six cells of element j of the row in block g -/
def At (w : World) (g j : Nat) (x : V6) : Prop :=
  w.cell? ⟨g, j * 6, none⟩ = some x.k ∧ w.cell? ⟨g, j * 6 + 1, none⟩ = some x.n ∧ w.cell? ⟨g, j * 6 + 2, none⟩ = some x.m ∧ w.cell? ⟨g, j * 6 + 3, none⟩ = some x.b ∧ w.cell? ⟨g, j * 6 + 4, none⟩ = some x.t ∧ w.cell? ⟨g, j * 6 + 5, none⟩ = some x.s
theorem At.later {w w' : World} {g j B : Nat} {x : V6} (h : At w g j x) (hb : Below B w w') (hg : g < B) : At w' g j x := by
  have e : ∀ o, w'.cell? ⟨g, o, none⟩ = w.cell? ⟨g, o, none⟩ := fun o => hb.cell (p := ⟨g, o, none⟩) hg
  obtain ⟨h0, h1, h2, h3, h4, h5⟩ := h
  exact ⟨(e _).trans h0, (e _).trans h1, (e _).trans h2, (e _).trans h3, (e _).trans h4, (e _).trans h5⟩
theorem OwnV.forms {w : World} {B : Nat} {v : Value} {L : List V6} (h : OwnV w B v L) :
    (v = .slice none 0 0 ∧ L = []) ∨ ∃ g cap, v = .slice (some ⟨g, 0, none⟩) L.length cap ∧ g < w.heap.size ∧ B ≤ g ∧ L.length ≤ cap ∧ ∀ j (hj : j < L.length), At w g j L[j] := by
  rcases (show w.ownsRow B 27 6 v L.length (rows L) from h).2 with ⟨rfl, h0⟩ | ⟨g, cap, cur, rfl, hB, hg, hc, _⟩
  · exact .inl ⟨rfl, List.eq_nil_of_length_eq_zero h0⟩
  · refine .inr ⟨g, cap, rfl, (Array.getElem?_eq_some_iff.1 hg).1, hB, hc, fun j hj => ?_⟩
    have key : ∀ i, i < 6 → w.cell? ⟨g, j * 6 + i, none⟩ = L[j].cs[i]? := fun i hi => by
      rw [World.ownsRow.cellAt h (j * 6 + i) (by omega), rows_at L j hj i hi]
    exact ⟨key 0 (by omega), key 1 (by omega), key 2 (by omega), key 3 (by omega), key 4 (by omega), key 5 (by omega)⟩
theorem OwnV.shape {w : World} {B : Nat} {v : Value} {L : List V6} (h : OwnV w B v L) : ∃ A cap, v = .slice A L.length cap := by
  rcases h.forms with ⟨rfl, rfl⟩ | ⟨g, cap, rfl, _⟩
  · exact ⟨none, 0, rfl⟩
  · exact ⟨_, _, rfl⟩
theorem OwnV.lt {w : World} {B : Nat} {v : Value} {L : List V6} (h : OwnV w B v L) : ∀ k, v.ownBlock = some k → B ≤ k ∧ k < w.heap.size := World.ownsRow.lt h

theorem src_cells {w : World} {gb : Nat} {x : V6} (h : Holds w gb 27 x.arr) : ∀ j u, x.cs[j]? = some u → w.cell? ((⟨gb, 0, none⟩ : Addr).add j) = some u := by
  intro j u hu
  rw [show ((⟨gb, 0, none⟩ : Addr).add j) = ⟨gb, j, none⟩ by unfold Addr.add; split <;> simp_all]
  rw [h.cell j]
  rw [← hu]
  simp [V6.arr, V6.cs]

/-- 'append(v, x)' of one value, v the call's own -/
theorem wp_v6 {o : Oper} {a : Act} {K : Act → World → Prop} {Q : Exit → Act → World → Prop} {w0 wr : World} {B gb : Nat} (s x : Operand)
    (ho : o.op = .call { callee := .builtin .append, args := #[s, x], argTypes := #[25, 25] })
    (v : Value) (L : List V6) (hs : a.eval s = v) (hown : OwnV wr B v L) (hb : Below B w0 wr) (hB : B ≤ w0.heap.size) (t : V6) (ht : t.One) (hsrc : Holds wr gb 27 t.arr)
    (hx : a.eval x = .slice (some ⟨gb, 0, none⟩) 1 1) (hn : L.length ≤ 1000000000)
    (h : ∀ v' w', OwnV w' B v' (L ++ [t]) → Below B w0 w' → wr.grownBy w' v.ownBlock → K (a.put o.dst v') w') :
    o.wp Tryz.prog a wr K Q := by
  obtain ⟨i0, hi, hz0, hz1, hz2⟩ := info_parts info_v6
  have hsz := hb.size
  refine wp_append_own _ s x 25 ho B 27 i0 _ 6 88 Tryz.underlying25 hi hz0 hz1 hz2 rfl (by decide) v L.length (rows L) hs hown ⟨gb, 0, none⟩ 1 1 t.cs hx rfl
    (src_cells hsrc) ht (by unfold maxLen; omega) (by omega) (by omega) ?_
  intro v' w' hown' hg _
  refine h v' w' ?_ (hb.grown hg (by omega) fun k hk => (OwnV.lt hown k hk).1) hg
  unfold OwnV
  rw [rows_snoc, List.length_append]
  exact hown'
theorem wpList_v6 {ops : Array Oper} {rest : List Oper} {o : Oper} {a : Act} {Q : Exit → Act → World → Prop} {w0 wr : World} {B : Nat} (hgd : o.guard = none) (s x : Operand)
    (ho : o.op = .call { callee := .builtin .append, args := #[s, x], argTypes := #[25, 25] })
    (v : Value) (L : List V6) (hs : a.eval s = v) (hown : OwnV wr B v L) (hb : Below B w0 wr) (hB : B ≤ w0.heap.size) (t : V6) (ht : t.One)
    (hx : a.eval x = .slice (some ⟨wr.heap.size, 0, none⟩) 1 1) (hn : L.length ≤ 1000000000)
    (h : ∀ v' w', OwnV w' B v' (L ++ [t]) → Below B w0 w' → wpList Tryz.prog ops Q rest (a.put o.dst v') w') :
    wpList Tryz.prog ops Q (o :: rest) a (wr.alloc (.cells t.arr 27)) :=
  wpList_plain hgd fun _ hK => wp_v6 (w0 := w0) s x ho v L hs (hown.later (below_one _ (Nat.le_refl _))) (hb.alloc (Nat.le_trans hB hb.size) _) hB t ht (Holds.made wr _ _) hx hn fun v' w' h2 h3 _ => hK _ _ (h v' w' h2 h3)
end Go.Proofs.YtkflmgpigidkeaaGreat.VRow
