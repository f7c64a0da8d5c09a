/-
  Small laws on slices of bytes that a call owns: one more byte appended, and the text that they are. A block whose cells are known; the six cells of a value; stores into them. Slices of values of six cells (impl.Val) that a call owns, said by their list of values alone: what append does to them.
-/
import Derived.Test.YtafbheamnjmfoaaGreatProg
import Derived.WalkKit
import Derived.Laws.IdiomStrings
import Derived.Laws.BytesArg
import Derived.Maps.AppendAt
import Derived.Lib.AppendStr
import Derived.LoopTactic
import Derived.Outline
import Derived.WalkSpells
import Derived.WalkLawsBesides
import Derived.Lib.Hide
import Derived.OpenShut
import Derived.Below
import Derived.Laws.AppendOwnNone
import Derived.Laws.OwnMore
namespace Go.Proofs.YtafbheamnjmfoaaGreat.Own
open Go.RowKit

/-- bytes as cells -/
def bs (l : List UInt8) : List Value := l.map fun b => Value.int .u8 b.toNat
theorem bs_length (l : List UInt8) : (bs l).length = l.length := by simp [bs]
theorem bs_snoc (l : List UInt8) (b : UInt8) : bs (l ++ [b]) = bs l ++ [.int .u8 b.toNat] := by simp [bs]

theorem info_u8 : (Tryz.prog.info? 5).map (fun i => (i.zero, i.size, i.bytes)) = some (some (.int .u8 0), 1, 1) := by kernel_rfl

/-- what is owned stays so where nothing below the heap's end has turned -/
theorem own_below {w w' : World} {B e size n : Nat} {v : Value} {xs : List Value} (h : w.ownsRow B e size v n xs) (hb : Below w.heap.size w w') : w'.ownsRow B e size v n xs := by
  refine ⟨h.1, ?_⟩
  rcases h.2 with hn | ⟨g, cap, cur, rfl, hB, hg, rest⟩
  · exact .inl hn
  · exact .inr ⟨g, cap, cur, rfl, hB, (hb.block g (Array.getElem?_eq_some_iff.1 hg).1).trans hg, rest⟩

/-- the text of the bytes that a slice owns -/
theorem conv_own {w : World} {B : Nat} {v : Value} {l : List UInt8} {n : Nat} (hown : w.ownsRow B 5 1 v n (bs l)) :
    ∀ dst, Tryz.prog.underlying dst = some .string → (convert 25 dst v).run Tryz.prog w = .ok (.string ⟨l.toArray⟩) w := by
  intro dst hd
  have hlen := hown.1
  rw [bs_length] at hlen
  rcases hown.2 with ⟨rfl, rfl⟩ | ⟨g, cap, cur, rfl, _, _⟩
  · have : l = [] := List.eq_nil_of_length_eq_zero (by omega)
    subst this
    exact run_convert_bytes_nil w 25 5 Tryz.underlying25 Tryz.underlying5 0 0 dst hd
  · obtain rfl : n = l.length := by omega
    refine run_convert_bytes_back w 25 dst 5 _ cap l Tryz.underlying25 Tryz.underlying5 hd fun j hj => ?_
    exact hown.cells (g := g) rfl j _ (by simp [bs, List.getElem?_eq_getElem hj])

/-- 'append(v, b)' of one byte, v the call's own: the world is a variable behind it, old memory is as it was. -/
theorem wpList_append_byte {ops : Array Oper} {rest : List Oper} {o : Oper} {a : Act} {Q : Exit → Act → World → Prop} {w0 wr : World} {B : Nat} (hgd : o.guard = none) (s x : Operand)
    (ho : o.op = .call { callee := .builtin .append, args := #[s, x], argTypes := #[25, 25] })
    (v : Value) (n : Nat) (l : List UInt8) (hs : a.eval s = v) (hown : wr.ownsRow B 5 1 v n (bs l)) (hb : Below B w0 wr) (hB : B ≤ w0.heap.size) (b : UInt8)
    (hx : a.eval x = .slice (some ⟨wr.heap.size, 0, none⟩) 1 1) (hn : n ≤ 1000000000000)
    (h : ∀ v' w', w'.ownsRow B 5 1 v' (n + 1) (bs (l ++ [b])) → Below B w0 w' → wpList Tryz.prog ops Q rest (a.put o.dst v') w') :
    wpList Tryz.prog ops Q (o :: rest) a (wr.alloc (.cells #[.int .u8 b.toNat] 5)) := by
  obtain ⟨i0, hi, hz0, hz1, hz2⟩ := info_parts info_u8
  have hsz := hb.size
  refine wpList_append_own _ hgd s x 25 ho B 5 i0 (.int .u8 0) 1 1 Tryz.underlying25 hi hz0 hz1 hz2 rfl (by decide) v n (bs l) hs (hown.alloc _) ⟨wr.heap.size, 0, none⟩ 1 1 [.int .u8 b.toNat] hx rfl
    ?_ ?_ (by unfold maxLen; omega) (by omega) (by simp; omega) ?_
  · exact cell_one_new _ _ _
  · intro u hu
    simp at hu
    subst hu
    rfl
  · intro v' w' hown' hg _
    rw [bs_snoc] at h
    refine h v' w' hown' ((hb.alloc (by omega) _).grown hg (by simp; omega) fun k hk => ?_)
    exact (hown.lt k hk).1

/-- 'append(v, t...)' of a string's bytes, v the call's own. -/
theorem wpList_append_text {ops : Array Oper} {rest : List Oper} {o : Oper} {a : Act} {Q : Exit → Act → World → Prop} {w0 wr : World} {B : Nat} (hgd : o.guard = none) (s x : Operand)
    (ho : o.op = .call { callee := .builtin .append, args := #[s, x], argTypes := #[25, 9] })
    (v : Value) (n : Nat) (l : List UInt8) (hs : a.eval s = v) (hown : wr.ownsRow B 5 1 v n (bs l)) (hb : Below B w0 wr) (hB : B ≤ w0.heap.size) (t : ByteArray)
    (hx : a.eval x = .string t) (hn : n + t.size ≤ 1000000000000)
    (h : ∀ v' w', w'.ownsRow B 5 1 v' (n + t.size) (bs (l ++ t.data.toList)) → Below B w0 w' → wpList Tryz.prog ops Q rest (a.put o.dst v') w') :
    wpList Tryz.prog ops Q (o :: rest) a wr := by
  obtain ⟨i0, hi, hz0, hz1, hz2⟩ := info_parts info_u8
  have hsz := hb.size
  refine Lib.wpList_append_own_string wr hgd s x 25 9 ho B 5 i0 Tryz.underlying25 Tryz.underlying9 hi hz0 hz1 hz2 v n (bs l) hs hown t hx
    (by unfold maxLen; omega) (by omega) (by omega) ?_
  intro v' w' hown' hg _
  have e : bs (l ++ t.data.toList) = bs l ++ Lib.strCells t := by simp [bs, Lib.strCells]
  rw [e] at h
  exact h v' w' hown' (hb.grown hg (by omega) fun k hk => (hown.lt k hk).1)
end Go.Proofs.YtafbheamnjmfoaaGreat.Own

namespace Go.Proofs.YtafbheamnjmfoaaGreat.Rem
open Go.RowKit Go.WideShapes
set_option linter.unusedVariables false

theorem below_one {B : Nat} {w : World} (o : Obj) (h : B ≤ w.heap.size) : Below B w (w.alloc o) := (Below.refl _ _).alloc h _
def Holds (w : World) (g : Nat) (t : TypeId) (cs : Array Value) : Prop := w.heap[g]? = some (.cells cs t (0, 0))
theorem Holds.lt {w : World} {g : Nat} {t : TypeId} {cs : Array Value} (h : Holds w g t cs) : g < w.heap.size := (Array.getElem?_eq_some_iff.1 h).1
theorem Holds.cell {w : World} {g : Nat} {t : TypeId} {cs : Array Value} (h : Holds w g t cs) (i : Nat) : w.cell? ⟨g, i, none⟩ = cs[i]? := cell_of_row w g i cs t (0, 0) h
theorem Holds.free {w : World} {g : Nat} {t : TypeId} {cs : Array Value} (h : Holds w g t cs) (i : Nat) : w.frozen? ⟨g, i, none⟩ = false := by
  have h' : w.heap[g]? = some (.cells cs t (0, 0)) := h
  simp [World.frozen?, h']
theorem Holds.made (w : World) (t : TypeId) (cs : Array Value) : Holds (w.alloc (.cells cs t)) w.heap.size t cs := heap_alloc_new w _
theorem Holds.put {w : World} {g : Nat} {t : TypeId} {cs : Array Value} (h : Holds w g t cs) (i : Nat) (u : Value) : Holds (w.setCell ⟨g, i, none⟩ u) g t (cs.setIfInBounds i u) := by
  have h' : w.heap[g]? = some (.cells cs t (0, 0)) := h
  unfold Holds World.setCell
  rw [Array.getElem?_modify, if_pos rfl, h']
  rfl
theorem Holds.apart {w : World} {g : Nat} {t : TypeId} {cs : Array Value} (h : Holds w g t cs) {p : Addr} (hp : g ≠ p.block) (u : Value) : Holds (w.setCell p u) g t cs := (Below.heap_setCell w p u g hp).trans h
theorem Holds.later {w w' : World} {g : Nat} {t : TypeId} {cs : Array Value} (h : Holds w g t cs) (hb : Below w.heap.size w w') : Holds w' g t cs := (hb.block g h.lt).trans h
theorem Holds.below {B : Nat} {w w' : World} {g : Nat} {t : TypeId} {cs : Array Value} (h : Holds w g t cs) (hb : Below B w w') (hg : g < B) : Holds w' g t cs := (hb.block g hg).trans h
theorem Holds.alloc {w : World} {g : Nat} {t : TypeId} {cs : Array Value} (h : Holds w g t cs) (o : Obj) : Holds (w.alloc o) g t cs := h.later ((Below.refl _ _).alloc (Nat.le_refl _) o)

theorem val_facts {w : World} {g : Nat} {x0 x1 x2 x3 x4 x5 : Value} (h : Holds w g 28 #[x0, x1, x2, x3, x4, x5]) :
    w.cell? ⟨g, 0, none⟩ = some x0 ∧ w.cell? ⟨g, 1, none⟩ = some x1 ∧ w.cell? ⟨g, 2, none⟩ = some x2 ∧ w.cell? ⟨g, 3, none⟩ = some x3 ∧ w.cell? ⟨g, 4, none⟩ = some x4 ∧ w.cell? ⟨g, 5, none⟩ = some x5 ∧ g < w.heap.size ∧
    w.frozen? ⟨g, 0, none⟩ = false ∧ w.frozen? ⟨g, 1, none⟩ = false ∧ w.frozen? ⟨g, 2, none⟩ = false ∧ w.frozen? ⟨g, 3, none⟩ = false ∧ w.frozen? ⟨g, 4, none⟩ = false ∧ w.frozen? ⟨g, 5, none⟩ = false := by
  have p0 := h.cell 0
  have p1 := h.cell 1
  have p2 := h.cell 2
  have p3 := h.cell 3
  have p4 := h.cell 4
  have p5 := h.cell 5
  simp at p0 p1 p2 p3 p4 p5
  exact ⟨p0, p1, p2, p3, p4, p5, h.lt, h.free 0, h.free 1, h.free 2, h.free 3, h.free 4, h.free 5⟩
theorem six_below {w w1 : World} {s B : Nat} (u0 u1 u2 u3 u4 u5 : Value) (hb : Below B w w1) (hs : B ≤ s) :
    Below B w ((((((w1.setCell ⟨s, 0, none⟩ u0).setCell ⟨s, 1, none⟩ u1).setCell ⟨s, 2, none⟩ u2).setCell ⟨s, 3, none⟩ u3).setCell ⟨s, 4, none⟩ u4).setCell ⟨s, 5, none⟩ u5) := by
  have h0 := hb.setCell (p := ⟨s, 0, none⟩) hs u0
  have h1 := h0.setCell (p := ⟨s, 1, none⟩) hs u1
  have h2 := h1.setCell (p := ⟨s, 2, none⟩) hs u2
  have h3 := h2.setCell (p := ⟨s, 3, none⟩) hs u3
  have h4 := h3.setCell (p := ⟨s, 4, none⟩) hs u4
  exact h4.setCell (p := ⟨s, 5, none⟩) hs u5
end Go.Proofs.YtafbheamnjmfoaaGreat.Rem

namespace Go.Proofs.YtafbheamnjmfoaaGreat.VRow
open Go.RowKit Go.Proofs.YtafbheamnjmfoaaGreat.Rem
set_option linter.unusedVariables false

/-- a value's six cells -/
structure V6 where
  k : Value
  n : Value
  m : Value
  b : Value
  t : Value
  s : Value
def V6.cs (x : V6) : List Value := [x.k, x.n, x.m, x.b, x.t, x.s]
def V6.arr (x : V6) : Array Value := #[x.k, x.n, x.m, x.b, x.t, x.s]
/-- each is one cell -/
def V6.One (x : V6) : Prop := ∀ u ∈ x.cs, u.oneCell' = true
def rows (L : List V6) : List Value := L.flatMap V6.cs
theorem rows_length : ∀ L : List V6, (rows L).length = L.length * 6
  | [] => rfl
  | x :: r => by
    have := rows_length r
    simp only [rows, List.flatMap_cons, List.length_append, List.length_cons] at this ⊢
    rw [this]
    simp only [V6.cs, List.length_cons, List.length_nil]
    omega
theorem rows_snoc (L : List V6) (x : V6) : rows (L ++ [x]) = rows L ++ x.cs := by simp [rows]
theorem rows_at : ∀ (L : List V6) (j : Nat) (hj : j < L.length) (i : Nat), i < 6 → (rows L)[j * 6 + i]? = L[j].cs[i]?
  | [], _, hj, _, _ => by simp at hj
  | x :: r, 0, _, i, hi => by
    simp only [rows, List.flatMap_cons, Nat.zero_mul, Nat.zero_add, List.getElem_cons_zero]
    rw [List.getElem?_append_left (by simpa [V6.cs] using hi)]
  | x :: r, j + 1, hj, i, hi => by
    have := rows_at r j (by simpa using hj) i hi
    simp only [rows, List.flatMap_cons, List.getElem_cons_succ] at this ⊢
    rw [List.getElem?_append_right (by simp [V6.cs]; omega)]
    rw [← this]
    congr 1
    simp [V6.cs]
    omega
/-- the value owns just these, in blocks from B on -/
def OwnV (w : World) (B : Nat) (v : Value) (L : List V6) : Prop := w.ownsRow B 28 6 v L.length (rows L)
theorem OwnV.nil (w : World) (B : Nat) : OwnV w B (.slice none 0 0) [] := World.ownsRow_nil _ _ _ _
theorem OwnV.later {w w' : World} {B : Nat} {v : Value} {L : List V6} (h : OwnV w B v L) (hb : Below w.heap.size w w') : OwnV w' B v L := Own.own_below h hb
theorem OwnV.eq {w : World} {B : Nat} {v : Value} {L L' : List V6} (h : OwnV w B v L) (e : L = L') : OwnV w B v L' := e ▸ h
theorem OwnV.lower {w : World} {B B' : Nat} {v : Value} {L : List V6} (h : OwnV w B v L) (hb : B' ≤ B) : OwnV w B' v L := by
  refine ⟨h.1, ?_⟩
  rcases h.2 with hn | ⟨g, cap, cur, hv, hB, r⟩
  · exact .inl hn
  · exact .inr ⟨g, cap, cur, hv, by omega, r⟩
theorem info_v6 : (Tryz.prog.info? 28).map (fun i => (i.zero, i.size, i.bytes)) = some (some (.agg #[.int .i64 0, .bool false, .slice none 0 0, .int .u64 0, .string ⟨#[]⟩, .slice none 0 0]), 6, 88) := by kernel_rfl
/-- the six cells of element j of the row in block g -/
def At (w : World) (g j : Nat) (x : V6) : Prop :=
  w.cell? ⟨g, j * 6, none⟩ = some x.k ∧ w.cell? ⟨g, j * 6 + 1, none⟩ = some x.n ∧ w.cell? ⟨g, j * 6 + 2, none⟩ = some x.m ∧ w.cell? ⟨g, j * 6 + 3, none⟩ = some x.b ∧ w.cell? ⟨g, j * 6 + 4, none⟩ = some x.t ∧ w.cell? ⟨g, j * 6 + 5, none⟩ = some x.s
theorem At.later {w w' : World} {g j B : Nat} {x : V6} (h : At w g j x) (hb : Below B w w') (hg : g < B) : At w' g j x := by
  have e : ∀ o, w'.cell? ⟨g, o, none⟩ = w.cell? ⟨g, o, none⟩ := fun o => hb.cell (p := ⟨g, o, none⟩) hg
  obtain ⟨h0, h1, h2, h3, h4, h5⟩ := h
  exact ⟨(e _).trans h0, (e _).trans h1, (e _).trans h2, (e _).trans h3, (e _).trans h4, (e _).trans h5⟩
theorem OwnV.forms {w : World} {B : Nat} {v : Value} {L : List V6} (h : OwnV w B v L) :
    (v = .slice none 0 0 ∧ L = []) ∨ ∃ g cap, v = .slice (some ⟨g, 0, none⟩) L.length cap ∧ g < w.heap.size ∧ B ≤ g ∧ L.length ≤ cap ∧ ∀ j (hj : j < L.length), At w g j L[j] := by
  rcases (show w.ownsRow B 28 6 v L.length (rows L) from h).2 with ⟨rfl, h0⟩ | ⟨g, cap, cur, rfl, hB, hg, hc, _⟩
  · exact .inl ⟨rfl, List.eq_nil_of_length_eq_zero h0⟩
  · refine .inr ⟨g, cap, rfl, (Array.getElem?_eq_some_iff.1 hg).1, hB, hc, fun j hj => ?_⟩
    have key : ∀ i, i < 6 → w.cell? ⟨g, j * 6 + i, none⟩ = L[j].cs[i]? := fun i hi => by
      rw [World.ownsRow.cellAt h (j * 6 + i) (by omega), rows_at L j hj i hi]
    exact ⟨key 0 (by omega), key 1 (by omega), key 2 (by omega), key 3 (by omega), key 4 (by omega), key 5 (by omega)⟩
theorem OwnV.shape {w : World} {B : Nat} {v : Value} {L : List V6} (h : OwnV w B v L) : ∃ A cap, v = .slice A L.length cap := by
  rcases h.forms with ⟨rfl, rfl⟩ | ⟨g, cap, rfl, _⟩
  · exact ⟨none, 0, rfl⟩
  · exact ⟨_, _, rfl⟩
theorem OwnV.lt {w : World} {B : Nat} {v : Value} {L : List V6} (h : OwnV w B v L) : ∀ k, v.ownBlock = some k → B ≤ k ∧ k < w.heap.size := World.ownsRow.lt h

theorem src_cells {w : World} {gb : Nat} {x : V6} (h : Holds w gb 28 x.arr) : ∀ j u, x.cs[j]? = some u → w.cell? ((⟨gb, 0, none⟩ : Addr).add j) = some u := by
  intro j u hu
  rw [show ((⟨gb, 0, none⟩ : Addr).add j) = ⟨gb, j, none⟩ by unfold Addr.add; split <;> simp_all]
  rw [h.cell j]
  rw [← hu]
  simp [V6.arr, V6.cs]

/-- 'append(v, x)' of one value, v the call's own -/
theorem wp_v6 {o : Oper} {a : Act} {K : Act → World → Prop} {Q : Exit → Act → World → Prop} {w0 wr : World} {B gb : Nat} (s x : Operand)
    (ho : o.op = .call { callee := .builtin .append, args := #[s, x], argTypes := #[26, 26] })
    (v : Value) (L : List V6) (hs : a.eval s = v) (hown : OwnV wr B v L) (hb : Below B w0 wr) (hB : B ≤ w0.heap.size) (t : V6) (ht : t.One) (hsrc : Holds wr gb 28 t.arr)
    (hx : a.eval x = .slice (some ⟨gb, 0, none⟩) 1 1) (hn : L.length ≤ 1000000000)
    (h : ∀ v' w', OwnV w' B v' (L ++ [t]) → Below B w0 w' → wr.grownBy w' v.ownBlock → K (a.put o.dst v') w') :
    o.wp Tryz.prog a wr K Q := by
  obtain ⟨i0, hi, hz0, hz1, hz2⟩ := info_parts info_v6
  have hsz := hb.size
  refine wp_append_own _ s x 26 ho B 28 i0 _ 6 88 Tryz.underlying26 hi hz0 hz1 hz2 rfl (by decide) v L.length (rows L) hs hown ⟨gb, 0, none⟩ 1 1 t.cs hx rfl
    (src_cells hsrc) ht (by unfold maxLen; omega) (by omega) (by omega) ?_
  intro v' w' hown' hg _
  refine h v' w' ?_ (hb.grown hg (by omega) fun k hk => (OwnV.lt hown k hk).1) hg
  unfold OwnV
  rw [rows_snoc, List.length_append]
  exact hown'
theorem wpList_v6 {ops : Array Oper} {rest : List Oper} {o : Oper} {a : Act} {Q : Exit → Act → World → Prop} {w0 wr : World} {B : Nat} (hgd : o.guard = none) (s x : Operand)
    (ho : o.op = .call { callee := .builtin .append, args := #[s, x], argTypes := #[26, 26] })
    (v : Value) (L : List V6) (hs : a.eval s = v) (hown : OwnV wr B v L) (hb : Below B w0 wr) (hB : B ≤ w0.heap.size) (t : V6) (ht : t.One)
    (hx : a.eval x = .slice (some ⟨wr.heap.size, 0, none⟩) 1 1) (hn : L.length ≤ 1000000000)
    (h : ∀ v' w', OwnV w' B v' (L ++ [t]) → Below B w0 w' → wpList Tryz.prog ops Q rest (a.put o.dst v') w') :
    wpList Tryz.prog ops Q (o :: rest) a (wr.alloc (.cells t.arr 28)) :=
  wpList_plain hgd fun _ hK => wp_v6 (w0 := w0) s x ho v L hs (hown.later (below_one _ (Nat.le_refl _))) (hb.alloc (Nat.le_trans hB hb.size) _) hB t ht (Holds.made wr _ _) hx hn fun v' w' h2 h3 _ => hK _ _ (h v' w' h2 h3)
end Go.Proofs.YtafbheamnjmfoaaGreat.VRow
