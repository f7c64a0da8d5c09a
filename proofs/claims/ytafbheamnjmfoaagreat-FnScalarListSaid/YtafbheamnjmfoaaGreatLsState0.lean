/-
  A script's iterators: one more; a step with one of them; an answer's ten cells. What a script of the program holds: its list and its iterators; steps with an iterator. Steps with an iterator: it goes on, it is done. A step with an iterator: the next element, or none. A script's step over a list of values without parts: Len.
-/
import Derived.Test.YtafbheamnjmfoaaGreatLsLists
import Derived.BigRegion
import Derived.BigGuardPart
import Derived.Laws.Rows
namespace Go.Proofs.YtafbheamnjmfoaaGreat.Ls
open Go.RowKit Go.WideShapes Go.Proofs.YtafbheamnjmfoaaGreat.Sc Go.Proofs.YtafbheamnjmfoaaGreat.VRow
set_option linter.unusedVariables false

/-- an answer is stored -/
def putAns (w : World) (s : Nat) (ok is_ : Bool) (n : Int) (y : V6) : World :=
  (((((((((w.setCell ⟨s, 0, none⟩ (.bool ok)).setCell ⟨s, 1, none⟩ (.bool is_)).setCell ⟨s, 2, none⟩ (.int .i64 n)).setCell ⟨s, 3, none⟩ y.k).setCell ⟨s, 4, none⟩ y.n).setCell ⟨s, 5, none⟩ y.m).setCell ⟨s, 6, none⟩ y.b).setCell ⟨s, 7, none⟩ y.t).setCell ⟨s, 8, none⟩ y.s).setCell ⟨s, 9, none⟩ (.slice none 0 0)
theorem putAns_fr {B : Nat} {S : Nat → TypeId → Prop} {a w : World} {s : Nat} {x0 x1 x2 x3 x4 x5 x6 x7 x8 x9 : Value} (h : Fr B S a w) (hs : Box.Holds w s 64 #[x0, x1, x2, x3, x4, x5, x6, x7, x8, x9]) (hB : B ≤ s) (hn : s < a.heap.size → ¬ S s 64) (ok is_ : Bool) (n : Int) (y : V6) :
    Fr B S a (putAns w s ok is_ n y) ∧ Box.Holds (putAns w s ok is_ n y) s 64 (ansCs ok is_ n y) := by
  have k0 : Box.Holds (w.setCell ⟨s, 0, none⟩ (.bool ok)) s 64 #[.bool ok, x1, x2, x3, x4, x5, x6, x7, x8, x9] := hs.put 0 _
  have k1 : Box.Holds ((w.setCell ⟨s, 0, none⟩ (.bool ok)).setCell ⟨s, 1, none⟩ (.bool is_)) s 64 #[.bool ok, .bool is_, x2, x3, x4, x5, x6, x7, x8, x9] := k0.put 1 _
  have k2 : Box.Holds (((w.setCell ⟨s, 0, none⟩ (.bool ok)).setCell ⟨s, 1, none⟩ (.bool is_)).setCell ⟨s, 2, none⟩ (.int .i64 n)) s 64 #[.bool ok, .bool is_, .int .i64 n, x3, x4, x5, x6, x7, x8, x9] := k1.put 2 _
  have k3 : Box.Holds ((((w.setCell ⟨s, 0, none⟩ (.bool ok)).setCell ⟨s, 1, none⟩ (.bool is_)).setCell ⟨s, 2, none⟩ (.int .i64 n)).setCell ⟨s, 3, none⟩ (y.k)) s 64 #[.bool ok, .bool is_, .int .i64 n, y.k, x4, x5, x6, x7, x8, x9] := k2.put 3 _
  have k4 : Box.Holds (((((w.setCell ⟨s, 0, none⟩ (.bool ok)).setCell ⟨s, 1, none⟩ (.bool is_)).setCell ⟨s, 2, none⟩ (.int .i64 n)).setCell ⟨s, 3, none⟩ (y.k)).setCell ⟨s, 4, none⟩ (y.n)) s 64 #[.bool ok, .bool is_, .int .i64 n, y.k, y.n, x5, x6, x7, x8, x9] := k3.put 4 _
  have k5 : Box.Holds ((((((w.setCell ⟨s, 0, none⟩ (.bool ok)).setCell ⟨s, 1, none⟩ (.bool is_)).setCell ⟨s, 2, none⟩ (.int .i64 n)).setCell ⟨s, 3, none⟩ (y.k)).setCell ⟨s, 4, none⟩ (y.n)).setCell ⟨s, 5, none⟩ (y.m)) s 64 #[.bool ok, .bool is_, .int .i64 n, y.k, y.n, y.m, x6, x7, x8, x9] := k4.put 5 _
  have k6 : Box.Holds (((((((w.setCell ⟨s, 0, none⟩ (.bool ok)).setCell ⟨s, 1, none⟩ (.bool is_)).setCell ⟨s, 2, none⟩ (.int .i64 n)).setCell ⟨s, 3, none⟩ (y.k)).setCell ⟨s, 4, none⟩ (y.n)).setCell ⟨s, 5, none⟩ (y.m)).setCell ⟨s, 6, none⟩ (y.b)) s 64 #[.bool ok, .bool is_, .int .i64 n, y.k, y.n, y.m, y.b, x7, x8, x9] := k5.put 6 _
  have k7 : Box.Holds ((((((((w.setCell ⟨s, 0, none⟩ (.bool ok)).setCell ⟨s, 1, none⟩ (.bool is_)).setCell ⟨s, 2, none⟩ (.int .i64 n)).setCell ⟨s, 3, none⟩ (y.k)).setCell ⟨s, 4, none⟩ (y.n)).setCell ⟨s, 5, none⟩ (y.m)).setCell ⟨s, 6, none⟩ (y.b)).setCell ⟨s, 7, none⟩ (y.t)) s 64 #[.bool ok, .bool is_, .int .i64 n, y.k, y.n, y.m, y.b, y.t, x8, x9] := k6.put 7 _
  have k8 : Box.Holds (((((((((w.setCell ⟨s, 0, none⟩ (.bool ok)).setCell ⟨s, 1, none⟩ (.bool is_)).setCell ⟨s, 2, none⟩ (.int .i64 n)).setCell ⟨s, 3, none⟩ (y.k)).setCell ⟨s, 4, none⟩ (y.n)).setCell ⟨s, 5, none⟩ (y.m)).setCell ⟨s, 6, none⟩ (y.b)).setCell ⟨s, 7, none⟩ (y.t)).setCell ⟨s, 8, none⟩ (y.s)) s 64 #[.bool ok, .bool is_, .int .i64 n, y.k, y.n, y.m, y.b, y.t, y.s, x9] := k7.put 8 _
  have k9 : Box.Holds ((((((((((w.setCell ⟨s, 0, none⟩ (.bool ok)).setCell ⟨s, 1, none⟩ (.bool is_)).setCell ⟨s, 2, none⟩ (.int .i64 n)).setCell ⟨s, 3, none⟩ (y.k)).setCell ⟨s, 4, none⟩ (y.n)).setCell ⟨s, 5, none⟩ (y.m)).setCell ⟨s, 6, none⟩ (y.b)).setCell ⟨s, 7, none⟩ (y.t)).setCell ⟨s, 8, none⟩ (y.s)).setCell ⟨s, 9, none⟩ (.slice none 0 0)) s 64 #[.bool ok, .bool is_, .int .i64 n, y.k, y.n, y.m, y.b, y.t, y.s, .slice none 0 0] := k8.put 9 _
  refine ⟨?_, k9⟩
  have f0 := h.setCell (p := ⟨s, 0, none⟩) hs hB hn (.bool ok)
  have f1 := f0.setCell (p := ⟨s, 1, none⟩) k0 hB hn (.bool is_)
  have f2 := f1.setCell (p := ⟨s, 2, none⟩) k1 hB hn (.int .i64 n)
  have f3 := f2.setCell (p := ⟨s, 3, none⟩) k2 hB hn y.k
  have f4 := f3.setCell (p := ⟨s, 4, none⟩) k3 hB hn y.n
  have f5 := f4.setCell (p := ⟨s, 5, none⟩) k4 hB hn y.m
  have f6 := f5.setCell (p := ⟨s, 6, none⟩) k5 hB hn y.b
  have f7 := f6.setCell (p := ⟨s, 7, none⟩) k6 hB hn y.t
  have f8 := f7.setCell (p := ⟨s, 8, none⟩) k7 hB hn y.s
  exact f8.setCell (p := ⟨s, 9, none⟩) k8 hB hn (.slice none 0 0)
theorem ans_facts {w : World} {g : Nat} {x0 x1 x2 x3 x4 x5 x6 x7 x8 x9 : Value} (h : Box.Holds w g 64 #[x0, x1, x2, x3, x4, x5, x6, x7, x8, x9]) :
    w.cell? ⟨g, 0, none⟩ = some x0 ∧ w.cell? ⟨g, 1, none⟩ = some x1 ∧ w.cell? ⟨g, 2, none⟩ = some x2 ∧ w.cell? ⟨g, 3, none⟩ = some x3 ∧ w.cell? ⟨g, 4, none⟩ = some x4 ∧ w.cell? ⟨g, 5, none⟩ = some x5 ∧ w.cell? ⟨g, 6, none⟩ = some x6 ∧ w.cell? ⟨g, 7, none⟩ = some x7 ∧ w.cell? ⟨g, 8, none⟩ = some x8 ∧ w.cell? ⟨g, 9, none⟩ = some x9 ∧ g < w.heap.size ∧
    w.frozen? ⟨g, 0, none⟩ = false ∧ w.frozen? ⟨g, 1, none⟩ = false ∧ w.frozen? ⟨g, 2, none⟩ = false ∧ w.frozen? ⟨g, 3, none⟩ = false ∧ w.frozen? ⟨g, 4, none⟩ = false ∧ w.frozen? ⟨g, 5, none⟩ = false ∧ w.frozen? ⟨g, 6, none⟩ = false ∧ w.frozen? ⟨g, 7, none⟩ = false ∧ w.frozen? ⟨g, 8, none⟩ = false ∧ w.frozen? ⟨g, 9, none⟩ = false :=
  ⟨h.cell 0, h.cell 1, h.cell 2, h.cell 3, h.cell 4, h.cell 5, h.cell 6, h.cell 7, h.cell 8, h.cell 9, h.lt, h.free 0, h.free 1, h.free 2, h.free 3, h.free 4, h.free 5, h.free 6, h.free 7, h.free 8, h.free 9⟩
/-- the cells of None -/
def nil6 : V6 := ⟨.int .i64 0, .bool false, .slice none 0 0, .int .u64 0, .string ⟨#[]⟩, .slice none 0 0⟩
theorem nil6_sc (w : World) : IsSc w nil6 .none := rfl

def itV : Option (Nat × Nat) → Value
  | none => .nilIface
  | some (b, _) => .iface 169 (.pointer (some ⟨b, 0, none⟩))
/-- a script's iterators -/
structure Its (w : World) (B p g : Nat) (vi : Value) (its : List (Option (Nat × Nat))) : Prop where
  hold : Box.Holds w p 82 #[vi]
  row : w.ownsRow B 141 1 vi its.length (its.map itV)
  blk : ∀ (i b k : Nat), its[i]? = some (some (b, k)) → B ≤ b ∧ Box.Holds w b 171 #[.pointer (some ⟨g, 0, none⟩), .int .i64 k]
  apart : ∀ (i j b k k' : Nat), its[i]? = some (some (b, k)) → its[j]? = some (some (b, k')) → i = j
  ge : B ≤ p
theorem Its.kept {P : Nat → TypeId → Prop} {w w' : World} {B p g : Nat} {vi : Value} {its : List (Option (Nat × Nat))} (h : Its w B p g vi its) (hk : KeptT P w w') (h1 : ∀ g, P g 82) (h2 : ∀ g, P g 141) (h3 : ∀ g, P g 171) : Its w' B p g vi its :=
  ⟨hk.holds h.hold (h1 _), hk.own h.row fun _ _ => h2 _, fun i b k hi => ⟨(h.blk i b k hi).1, hk.holds (h.blk i b k hi).2 (h3 _)⟩, h.apart, h.ge⟩
theorem Its.later {w w' : World} {B p g : Nat} {vi : Value} {its : List (Option (Nat × Nat))} (h : Its w B p g vi its) (hb : Below w.heap.size w w') : Its w' B p g vi its :=
  h.kept (KeptT.of_below (S := fun _ _ => True) hb) (fun _ => trivial) (fun _ => trivial) (fun _ => trivial)
/-- all but iterators -/
def SI (g : Nat) (t : TypeId) : Prop := t ≠ 82 ∧ t ≠ 141
theorem info_iter : (Tryz.prog.info? 141).map (fun i => (i.zero, i.size, i.bytes)) = some (some .nilIface, 1, 16) := by kernel_rfl
theorem itV_one (i : Option (Nat × Nat)) : (itV i).oneCell' = true := by
  cases i with
  | none => rfl
  | some x => rfl
/-- 'append(p.l, it)' -/
theorem wpList_it {ops : Array Oper} {rest : List Oper} {o : Oper} {a : Act} {Q : Exit → Act → World → Prop} {wr : World} {B : Nat} (hgd : o.guard = Option.none) (s x : Operand)
    (ho : o.op = .call { callee := .builtin .append, args := #[s, x], argTypes := #[80, 80] })
    (v : Value) (L : List (Option (Nat × Nat))) (hs : a.eval s = v) (hown : wr.ownsRow B 141 1 v L.length (L.map itV)) (hB : B ≤ wr.heap.size) (y : Value) (t : Option (Nat × Nat)) (hy : itV t = y)
    (hx : a.eval x = .slice (some ⟨wr.heap.size, 0, Option.none⟩) 1 1) (hn : L.length ≤ 1000000)
    (h : ∀ g cap w', w'.ownsRow B 141 1 (.slice (some ⟨g, 0, none⟩) (L.length + 1) cap) (L ++ [t]).length ((L ++ [t]).map itV) → wr.grownBy w' v.ownBlock → wpList Tryz.prog ops Q rest (a.put o.dst (.slice (some ⟨g, 0, none⟩) (L.length + 1) cap)) w') :
    wpList Tryz.prog ops Q (o :: rest) a (wr.alloc (.cells #[y] 141)) := by
  subst hy
  obtain ⟨i0, hi, hz0, hz1, hz2⟩ := info_parts info_iter
  refine wpList_plain hgd fun _ hK => wp_append_lies _ s x 80 ho B 141 i0 .nilIface 1 16 Tryz.underlying80 hi hz0 hz1 hz2 rfl (by decide) v L.length (L.map itV) hs (World.ownsRow.alloc hown _) ⟨wr.heap.size, 0, Option.none⟩ 1 1 [itV t] hx rfl
    (cell_one_new _ _ _) ?_ (by omega) (by unfold maxLen; omega) (by omega) (by simp; omega) (wr.heap.size + 1) (by simp) ?_
  · intro u hu
    simp at hu
    subst hu
    exact itV_one _
  · intro g cap w' hown' hg hlies hlt
    refine hK _ _ (h g cap w' (by rw [List.length_append, List.map_append]; exact hown') ⟨hg.os, hg.tape, hg.output, ?_, fun b hb hbn => ?_⟩)
    · have := hg.size; simp at this; omega
    · exact (hg.block b (by simp; omega) hbn).trans (heap_alloc_old wr _ hb)
def Opened (w : World) (B p g b : Nat) (its : List (Option (Nat × Nat))) (e : Ending) (w' : World) : Prop :=
  e = .returned (.agg (ansCs true false its.length nil6)) ∧ (∃ vi, Its w' B p g vi (its ++ [some (b, 0)])) ∧ Fr B SI w w'
theorem Its.snoc {w w2 w3 : World} {B p g b : Nat} {vi v2 : Value} {its : List (Option (Nat × Nat))} (h : Its w B p g vi its) (hb : B ≤ b) (hlit : Box.Holds w b 171 #[.pointer (some ⟨g, 0, none⟩), .int .i64 (0 : Nat)]) (hne : ∀ (i k : Nat), its[i]? ≠ some (some (b, k)))
    (hk : KeptT SI w w3) (h1 : Box.Holds w3 p 82 #[v2]) (h2 : w3.ownsRow B 141 1 v2 (its ++ [some (b, 0)]).length ((its ++ [some (b, 0)]).map itV)) : Its w3 B p g v2 (its ++ [some (b, 0)]) := by
  refine ⟨h1, h2, fun i b' k hi => ?_, fun i j b' k k' hi hj => ?_, h.ge⟩
  · rw [List.getElem?_append] at hi
    split at hi
    · exact ⟨(h.blk i b' k hi).1, hk.holds (h.blk i b' k hi).2 ⟨by decide, by decide⟩⟩
    · rw [List.getElem?_singleton] at hi
      split at hi
      · simp only [Option.some.injEq, Prod.mk.injEq] at hi
        obtain ⟨rfl, rfl⟩ := hi
        exact ⟨hb, hk.holds hlit ⟨by decide, by decide⟩⟩
      · cases hi
  · rw [List.getElem?_append] at hi hj
    split at hi
    · split at hj
      · exact h.apart i j b' k k' hi hj
      · rw [List.getElem?_singleton] at hj
        split at hj
        · simp only [Option.some.injEq, Prod.mk.injEq] at hj
          obtain ⟨rfl, rfl⟩ := hj
          exact absurd hi (hne i k)
        · cases hj
    · split at hj
      · rw [List.getElem?_singleton] at hi
        split at hi
        · simp only [Option.some.injEq, Prod.mk.injEq] at hi
          obtain ⟨rfl, rfl⟩ := hi
          exact absurd hj (hne j k')
        · cases hi
      · rw [List.getElem?_singleton] at hi hj
        split at hi
        · split at hj
          · omega
          · cases hj
        · cases hi
theorem own_grown {w w' : World} {r : Option Nat} {g : Nat} {t : TypeId} {cs : Array Value} (h : w.grownBy w' r) (hg : Box.Holds w g t cs) (hn : r ≠ some g) : Box.Holds w' g t cs := (h.block g hg.lt fun e => hn e.symm).trans hg
/-- behind the append: the iterators, and an answer's cells -/
theorem opened {w W w4 : World} {B p g b g4 c4 : Nat} {vi : Value} {its : List (Option (Nat × Nat))} (h2 : Its W B p g vi its) (hb : B ≤ b) (hlit : Box.Holds W b 171 #[.pointer (some ⟨g, 0, none⟩), .int .i64 (0 : Nat)]) (hne : ∀ (i k : Nat), its[i]? ≠ some (some (b, k)))
    (hv4 : w4.ownsRow B 141 1 (.slice (some ⟨g4, 0, none⟩) (its.length + 1) c4) (its ++ [some (b, 0)]).length ((its ++ [some (b, 0)]).map itV)) (hg4 : W.grownBy w4 vi.ownBlock) (hB : B ≤ w.heap.size) (hbW : Below w.heap.size w W) (hWs : W.heap.size = w.heap.size + 1)
    (hAn : Box.Holds W w.heap.size 64 #[.bool false, .bool false, .int .i64 0, .int .i64 0, .bool false, .slice none 0 0, .int .u64 0, .string ⟨#[]⟩, .slice none 0 0, .slice none 0 0]) :
    Box.Holds w4 p 82 #[vi] ∧ Box.Holds w4 w.heap.size 64 #[.bool false, .bool false, .int .i64 0, .int .i64 0, .bool false, .slice none 0 0, .int .u64 0, .string ⟨#[]⟩, .slice none 0 0, .slice none 0 0] ∧ p ≠ w.heap.size ∧
    Box.Holds (putAns (w4.setCell ⟨p, 0, none⟩ (.slice (some ⟨g4, 0, none⟩) (its.length + 1) c4)) w.heap.size true false its.length nil6) w.heap.size 64 (ansCs true false its.length nil6) ∧
    Opened w B p g b its (.returned (.agg (ansCs true false its.length nil6))) (putAns (w4.setCell ⟨p, 0, none⟩ (.slice (some ⟨g4, 0, none⟩) (its.length + 1) c4)) w.heap.size true false its.length nil6) := by
  have hp4 : Box.Holds w4 p 82 #[vi] := own_grown hg4 h2.hold fun e => own_ne h2.row h2.hold (by decide) e
  have ha4 : Box.Holds w4 w.heap.size 64 _ := own_grown hg4 hAn fun e => own_ne h2.row hAn (by decide) e
  have hpa : p ≠ w.heap.size := by
    intro e
    have h1 := h2.hold
    rw [e] at h1
    have h3 : W.heap[w.heap.size]? = _ := h1
    have h4 : W.heap[w.heap.size]? = _ := hAn
    rw [h3] at h4
    simp at h4
  have hpw : p < w.heap.size := by have := h2.hold.lt; omega
  have f1 : Fr B SI w w4 := (Fr.of_below hbW hB).grown h2.row (fun _ _ _ hs => hs.2 rfl) hg4 hB
  have f2 := f1.setCell (p := ⟨p, 0, none⟩) hp4 h2.ge (fun _ hs => hs.1 rfl) (.slice (some ⟨g4, 0, none⟩) (its.length + 1) c4)
  have ha5 : Box.Holds (w4.setCell ⟨p, 0, none⟩ (.slice (some ⟨g4, 0, none⟩) (its.length + 1) c4)) w.heap.size 64 _ := ha4.apart (p := ⟨p, 0, none⟩) (fun e => hpa e.symm) _
  obtain ⟨f3, ha6⟩ := putAns_fr f2 ha5 hB (fun h => absurd h (Nat.lt_irrefl _)) true false its.length nil6
  refine ⟨hp4, ha4, hpa, ha6, rfl, ⟨.slice (some ⟨g4, 0, none⟩) (its.length + 1) c4, ?_⟩, f3⟩
  have f4 : Fr B SI W w4 := (Fr.refl B SI W).grown h2.row (fun _ _ _ hs => hs.2 rfl) hg4 (by omega)
  have f5 := f4.setCell (p := ⟨p, 0, none⟩) hp4 h2.ge (fun _ hs => hs.1 rfl) (.slice (some ⟨g4, 0, none⟩) (its.length + 1) c4)
  have i1 : Its (w4.setCell ⟨p, 0, none⟩ (.slice (some ⟨g4, 0, none⟩) (its.length + 1) c4)) B p g (.slice (some ⟨g4, 0, none⟩) (its.length + 1) c4) (its ++ [some (b, 0)]) :=
    Its.snoc (w2 := W) h2 hb hlit hne f5.kept (hp4.put 0 _) (ownsRow_setCell_other hv4 (fun e => own_ne hv4 hp4 (by decide) e) _)
  have f6 : Fr B (fun _ t => t ≠ 64) (w4.setCell ⟨p, 0, none⟩ (.slice (some ⟨g4, 0, none⟩) (its.length + 1) c4)) _ := (putAns_fr (Fr.refl B (fun _ t => t ≠ 64) _) ha5 hB (fun _ h => h rfl) true false its.length nil6).1
  exact i1.kept f6.kept (fun _ => by decide) (fun _ => by decide) (fun _ => by decide)
set_option maxHeartbeats 1000000 in
set_option maxRecDepth 100000 in
theorem open_any (B p g b : Nat) (vi : Value) (its : List (Option (Nat × Nat))) (w : World) (h : Its w B p g vi its) (hl : its.length ≤ 1000) (hb : B ≤ b) (hlit : Box.Holds w b 171 #[.pointer (some ⟨g, 0, none⟩), .int .i64 (0 : Nat)]) (hne : ∀ (i k : Nat), its[i]? ≠ some (some (b, k))) :
    Calls Tryz.prog 79 #[.pointer (some ⟨p, 0, none⟩), .iface 169 (.pointer (some ⟨b, 0, none⟩))] w (Opened w B p g b its) := by
  obtain ⟨W, hW⟩ : ∃ W, w.alloc (.cells #[.bool false, .bool false, .int .i64 0, .int .i64 0, .bool false, .slice none 0 0, .int .u64 0, .string ⟨#[]⟩, .slice none 0 0, .slice none 0 0] 64) = W := ⟨_, rfl⟩
  have hbW : Below w.heap.size w W := by rw [← hW]; exact Ref.below_one' _ (Nat.le_refl _)
  have hWs : W.heap.size = w.heap.size + 1 := by rw [← hW]; simp
  have hAn : Box.Holds W w.heap.size 64 #[.bool false, .bool false, .int .i64 0, .int .i64 0, .bool false, .slice none 0 0, .int .u64 0, .string ⟨#[]⟩, .slice none 0 0, .slice none 0 0] := by rw [← hW]; exact Box.Holds.made w _ _
  have h2 := h.later hbW
  have hvi : ∃ A0 c0, vi = .slice A0 its.length c0 := by
    rcases h.row.2 with ⟨e, h0⟩ | ⟨g', cap, cur, e, _⟩
    · exact ⟨_, _, by rw [e, h0]⟩
    · exact ⟨_, _, e⟩
  obtain ⟨A0, c0, rfl⟩ := hvi
  have k0 := hold0 h2.hold
  have hpl := h2.hold.lt
  have hBw : B ≤ w.heap.size := Nat.le_trans h.ge (Nat.le_of_lt h.hold.lt)
  have hBW : B ≤ W.heap.size := by omega
  have hrow := Lib.hid h2.row
  have hlit2 := Lib.hid (hlit.later hbW)
  have h2' := Lib.hid h2
  have hAn' := Lib.hid hAn
  have hbW' := Lib.hid hbW
  have hne' := Lib.hid hne
  have hge := h.ge
  have hin : its.length ≤ 1000000 := by omega
  have hpne : ∀ k, (Value.slice A0 its.length c0).ownBlock = some k → k ≠ p := fun k hk e => own_ne h2.row h2.hold (by decide) (by rw [hk, e])
  have hWs' := Lib.hid hWs
  clear h h2 hlit hAn hbW hne hpne hWs
  go_enter Tryz.func79, Tryz.ntmps79
  go_wp2_with (at_builtin; refine wpList_it (B := B) (y := .iface 169 (.pointer (some ⟨b, 0, none⟩))) (t := some (b, 0)) rfl _ _ rfl (.slice A0 its.length c0) its rfl hrow.out hBW rfl rfl hin ?_; intro g4 c4 w4 hv4 hg4; obtain ⟨hp4, ha4, hpa, hae, hfi⟩ := opened h2'.out hb hlit2.out hne'.out hv4 hg4 hBw hbW'.out hWs'.out hAn'.out; have hpl4 := hp4.lt; have k4 := hold0 hp4; have f4 := hp4.free 0; obtain ⟨p0, p1, p2, p3, p4, p5, p6, p7, p8, p9, pl, f0, f1, f2, f3, f4, f5, f6, f7, f8, f9⟩ := ans_facts ha4; have hae' := Lib.hid hae; have hfi' := Lib.hid hfi; clear hv4 hg4 hp4 ha4 hae hfi)
  exact bodyPost_ret (v := .agg (ansCs true false its.length nil6)) (results_cell_row rfl _ _ w.heap.size 64 _ (0, 0) _ rfl hae'.out rfl rfl rfl) rfl hfi'.out
end Go.Proofs.YtafbheamnjmfoaaGreat.Ls

namespace Go.Proofs.YtafbheamnjmfoaaGreat.Ls
open Go.RowKit Go.WideShapes Go.Proofs.YtafbheamnjmfoaaGreat.Sc Go.Proofs.YtafbheamnjmfoaaGreat.VRow
set_option linter.unusedVariables false

structure Im (w : World) (B g p : Nat) (v vi : Value) (n : Nat) (its : List (Option (Nat × Nat))) (st : St) : Prop where
  l : Lst w B g v st.fz n st.l
  i : Its w B p g vi its
  at_ : st.at_ = its.map (Option.map Prod.snd)
  cnt : st.fz = false → n = openN st.at_
  bd : n ≤ its.length
/-- all but what a script turns -/
def SM (g : Nat) (t : TypeId) : Prop := t ≠ 128 ∧ t ≠ 47 ∧ t ≠ 82 ∧ t ≠ 141 ∧ t ≠ 171
/-- a step's answer, and the state behind it -/
def Answered (w : World) (B g p : Nat) (st : St) (an : An) (e : Ending) (w' : World) : Prop := ∃ y v vi n its, e = .returned (.agg (ansCs an.ok an.is_ an.n y)) ∧ IsAv none w' y an.v ∧ Im w' B g p v vi n its st ∧ Fr B SM w w'
theorem Im.later {w w' : World} {B g p n : Nat} {v vi : Value} {its : List (Option (Nat × Nat))} {st : St} (h : Im w B g p v vi n its st) (hb : Below w.heap.size w w') : Im w' B g p v vi n its st := ⟨h.l.later hb, h.i.later hb, h.at_, h.cnt, h.bd⟩
theorem Im.kept {P : Nat → TypeId → Prop} {w w' : World} {B g p n : Nat} {v vi : Value} {its : List (Option (Nat × Nat))} {st : St} (h : Im w B g p v vi n its st) (hk : KeptT P w w') (h0 : ∀ g t, numT t = true → P g t) (h1 : ∀ g, P g 128) (h2 : ∀ g, P g 47) (h3 : ∀ g, P g 82) (h4 : ∀ g, P g 141) (h5 : ∀ g, P g 171) : Im w' B g p v vi n its st :=
  ⟨h.l.kept hk h0 h1 h2, h.i.kept hk h3 h4 h5, h.at_, h.cnt, h.bd⟩
theorem num_ne {t : TypeId} (h : numT t = true) (u : TypeId) (hu : numT u = false) : t ≠ u := by
  rintro rfl
  rw [h] at hu
  cases hu
/-- behind an answer's ten cells -/
theorem Im.put {w : World} {B g p n s : Nat} {v vi : Value} {its : List (Option (Nat × Nat))} {st : St} {x0 x1 x2 x3 x4 x5 x6 x7 x8 x9 : Value} (h : Im w B g p v vi n its st) (hs : Box.Holds w s 64 #[x0, x1, x2, x3, x4, x5, x6, x7, x8, x9]) (hB : B ≤ s) (ok is_ : Bool) (k : Int) (y : V6) : Im (putAns w s ok is_ k y) B g p v vi n its st :=
  h.kept (putAns_fr (Fr.refl B (fun _ t => t ≠ 64) w) hs hB (fun _ h => h rfl) ok is_ k y).1.kept (fun _ _ h => num_ne h _ rfl) (fun _ => by decide) (fun _ => by decide) (fun _ => by decide) (fun _ => by decide) (fun _ => by decide)
theorem put_kept {w : World} {s : Nat} {x : Option Nat} {x0 x1 x2 x3 x4 x5 x6 x7 x8 x9 : Value} (hs : Box.Holds w s 64 #[x0, x1, x2, x3, x4, x5, x6, x7, x8, x9]) (ok is_ : Bool) (k : Int) (y : V6) : KeptX x w (putAns w s ok is_ k y) :=
  (putAns_fr (Fr.refl 0 (SX x) w) hs (Nat.zero_le _) (fun _ h => by rcases h with h | h; exact absurd h (by decide); exact absurd h.1 (by decide)) ok is_ k y).1.kept
theorem SM.list : ¬ ∀ g, SM g 128 := fun h => (h 0).1 rfl
/-- an answer at the end of a step -/
theorem answered_end {w w1 : World} {B g p n s : Nat} {v vi : Value} {its : List (Option (Nat × Nat))} {st : St} {x0 x1 x2 x3 x4 x5 x6 x7 x8 x9 : Value} (h : Im w1 B g p v vi n its st) (hf : Fr B SM w w1) (hs : Box.Holds w1 s 64 #[x0, x1, x2, x3, x4, x5, x6, x7, x8, x9]) (hB : B ≤ s) (hw : w.heap.size ≤ s) (an : An) (y : V6) (hy : IsAv none w1 y an.v) :
    Box.Holds (putAns w1 s an.ok an.is_ an.n y) s 64 (ansCs an.ok an.is_ an.n y) ∧ Answered w B g p st an (.returned (.agg (ansCs an.ok an.is_ an.n y))) (putAns w1 s an.ok an.is_ an.n y) := by
  obtain ⟨f, k⟩ := putAns_fr hf hs hB (fun h => by omega) an.ok an.is_ an.n y
  exact ⟨k, y, v, vi, n, its, rfl, hy.kept (put_kept hs _ _ _ _) (fun g hg => by cases hg), h.put hs hB _ _ _ _, f⟩

theorem openN_set {l : List (Option Nat)} {i k : Nat} (h : l[i]? = some (some k)) : openN (l.set i none) + 1 = openN l := by
  induction l generalizing i with
  | nil => simp at h
  | cons x r ih =>
    cases i with
    | zero =>
      simp at h
      subst h
      simp [openN]
    | succ i =>
      simp only [List.getElem?_cons_succ] at h
      have := ih h
      simp only [openN, List.set_cons_succ, List.countP_cons] at this ⊢
      omega
theorem openN_next {l : List (Option Nat)} {i k k' : Nat} (h : l[i]? = some (some k)) : openN (l.set i (some k')) = openN l := by
  induction l generalizing i with
  | nil => simp at h
  | cons x r ih =>
    cases i with
    | zero =>
      simp at h
      subst h
      simp [openN]
    | succ i =>
      simp only [List.getElem?_cons_succ] at h
      have := ih h
      simp only [openN, List.set_cons_succ, List.countP_cons] at this ⊢
      omega
theorem its_at {its : List (Option (Nat × Nat))} {i k : Nat} (h : (its.map (Option.map Prod.snd))[i]? = some (some k)) : ∃ b, its[i]? = some (some (b, k)) := by
  rw [List.getElem?_map] at h
  cases hi : its[i]? with
  | none => rw [hi] at h; cases h
  | some o =>
    rw [hi] at h
    cases o with
    | none => cases h
    | some x =>
      obtain ⟨b, k'⟩ := x
      simp at h
      subst h
      exact ⟨b, rfl⟩
/-- an iterator's place in the row -/
theorem Its.cell {w : World} {B p g : Nat} {vi : Value} {its : List (Option (Nat × Nat))} (h : Its w B p g vi its) {i b k : Nat} (hi : its[i]? = some (some (b, k))) : ∃ r cap, vi = .slice (some ⟨r, 0, none⟩) its.length cap ∧ B ≤ r ∧ r < w.heap.size ∧ i < its.length ∧ its.length ≤ cap ∧ w.cell? ⟨r, i, none⟩ = some (.iface 169 (.pointer (some ⟨b, 0, none⟩))) ∧ w.frozen? ⟨r, i, none⟩ = false ∧ ∃ cs, Box.Holds w r 141 cs := by
  have hlt := (List.getElem?_eq_some_iff.1 hi).1
  rcases id h.row.2 with ⟨_, h0⟩ | ⟨r, cap, cur, e, hB, hr, hc, _⟩
  · omega
  · have row := h.row
    rw [e] at row
    refine ⟨r, cap, e, hB, (Array.getElem?_eq_some_iff.1 hr).1, hlt, hc, ?_, World.ownsRow.frozenAt row i, cur, hr⟩
    rw [World.ownsRow.cellAt row i (by omega), List.getElem?_map, hi]
    rfl
/-- an iterator is done -/
theorem Its.close {w : World} {B p g r cap : Nat} {its : List (Option (Nat × Nat))} (h : Its w B p g (.slice (some ⟨r, 0, none⟩) its.length cap) its) (i : Nat) : Its (w.setCell ⟨r, i, none⟩ .nilIface) B p g (.slice (some ⟨r, 0, none⟩) its.length cap) (its.set i none) ∧ KeptT (fun _ t => t ≠ 141) w (w.setCell ⟨r, i, none⟩ .nilIface) := by
  obtain ⟨cur, hr⟩ : ∃ cur, Box.Holds w r 141 cur := by
    rcases id h.row.2 with ⟨e, _⟩ | ⟨r', cap', cur, e, hB, hr, hc, _⟩
    · cases e
    · simp only [Value.slice.injEq, Option.some.injEq, Addr.mk.injEq] at e
      obtain ⟨⟨rfl, -⟩, -⟩ := e
      exact ⟨cur, hr⟩
  have hk : KeptT (fun _ t => t ≠ 141) w (w.setCell ⟨r, i, none⟩ .nilIface) := KeptT.setCell (p := ⟨r, i, none⟩) hr (fun h => h rfl) _
  refine ⟨⟨hk.holds h.hold (by decide), ?_, fun j b k hj => ?_, fun j j' b k k' hj hj' => ?_, h.ge⟩, hk⟩
  · have := (World.ownsRow.stored h.row i .nilIface).1
    rw [List.length_set, List.map_set]
    exact this
  · rw [List.getElem?_set] at hj
    split at hj
    · split at hj <;> cases hj
    · exact ⟨(h.blk j b k hj).1, hk.holds (h.blk j b k hj).2 (by decide)⟩
  · rw [List.getElem?_set] at hj hj'
    split at hj
    · split at hj <;> cases hj
    · split at hj'
      · split at hj' <;> cases hj'
      · exact h.apart j j' b k k' hj hj'
/-- an iterator goes on -/
theorem Its.go {w : World} {B p g b k i : Nat} {vi : Value} {its : List (Option (Nat × Nat))} (h : Its w B p g vi its) (hi : its[i]? = some (some (b, k))) : Its (w.setCell ⟨b, 1, none⟩ (.int .i64 ((k : Int) + 1))) B p g vi (its.set i (some (b, k + 1))) ∧ KeptT (fun _ t => t ≠ 171) w (w.setCell ⟨b, 1, none⟩ (.int .i64 ((k : Int) + 1))) := by
  have hb := (h.blk i b k hi).2
  have hk : KeptT (fun _ t => t ≠ 171) w (w.setCell ⟨b, 1, none⟩ (.int .i64 ((k : Int) + 1))) := KeptT.setCell (p := ⟨b, 1, none⟩) hb (fun h => h rfl) _
  have hlt := (List.getElem?_eq_some_iff.1 hi).1
  refine ⟨⟨hk.holds h.hold (by decide), ?_, fun j b' k' hj => ?_, fun j j' b' k1 k2 hj hj' => ?_, h.ge⟩, hk⟩
  · have e : (its.set i (some (b, k + 1))).map itV = its.map itV := by
      rw [List.map_set]
      apply List.ext_getElem?
      intro j
      rw [List.getElem?_set]
      split
      · rename_i e
        subst e
        rw [List.length_map, if_pos hlt, List.getElem?_map, hi]
        rfl
      · rfl
    rw [List.length_set, e]
    exact hk.own h.row fun _ _ => by decide
  · rw [List.getElem?_set] at hj
    split at hj
    · simp only [Option.some.injEq, Prod.mk.injEq] at hj
      obtain ⟨rfl, rfl⟩ := hj
      exact ⟨(h.blk i b k hi).1, hb.put 1 _⟩
    · rename_i hne
      refine ⟨(h.blk j b' k' hj).1, (h.blk j b' k' hj).2.apart (p := ⟨b, 1, none⟩) (fun e => ?_) _⟩
      simp only at e
      subst e
      exact hne (h.apart i j b' k k' hi hj)
  · rw [List.getElem?_set] at hj hj'
    split at hj
    · simp only [Option.some.injEq, Prod.mk.injEq] at hj
      obtain ⟨rfl, rfl⟩ := hj
      split at hj'
      · omega
      · rename_i e1 e2
        exact absurd (h.apart i j' b k k2 hi hj') e2
    · split at hj'
      · simp only [Option.some.injEq, Prod.mk.injEq] at hj'
        obtain ⟨rfl, rfl⟩ := hj'
        rename_i e1 e2
        exact absurd (h.apart i j b k k1 hi hj) e1
      · exact h.apart j j' b' k1 k2 hj hj'
end Go.Proofs.YtafbheamnjmfoaaGreat.Ls

namespace Go.Proofs.YtafbheamnjmfoaaGreat.Ls
open Go.RowKit Go.WideShapes Go.Proofs.YtafbheamnjmfoaaGreat.Sc Go.Proofs.YtafbheamnjmfoaaGreat.VRow
set_option linter.unusedVariables false

theorem m_next (v : Value) (w : World) : (method 436 169 v "Next").run Tryz.prog w = .ok (242, v) w := by kernel_rfl
theorem m_done (v : Value) (w : World) : (method 436 169 v "Done").run Tryz.prog w = .ok (241, v) w := by kernel_rfl
/-- the first blocks of a step: its argument, its answer -/
def zeroAns : Obj := .cells #[.bool false, .bool false, .int .i64 0, .int .i64 0, .bool false, .slice none 0 0, .int .u64 0, .string ⟨#[]⟩, .slice none 0 0, .slice none 0 0] 64
structure Two (w W : World) (c : Array Value) : Prop where
  below : Below w.heap.size w W
  size : W.heap.size = w.heap.size + 1 + 1
  st : Box.Holds W w.heap.size 62 c
  an : Box.Holds W (w.heap.size + 1) 64 #[.bool false, .bool false, .int .i64 0, .int .i64 0, .bool false, .slice none 0 0, .int .u64 0, .string ⟨#[]⟩, .slice none 0 0, .slice none 0 0]
theorem two (w : World) (c : Array Value) : Two w ((w.alloc (.cells c 62)).alloc zeroAns) c := by
  refine ⟨((Ref.below_one' _ (Nat.le_refl _)).alloc (by simp) _), by simp, (Box.Holds.made w _ _).alloc _, ?_⟩
  have := Box.Holds.made (w.alloc (.cells c 62)) 64 #[.bool false, .bool false, .int .i64 0, .int .i64 0, .bool false, .slice none 0 0, .int .u64 0, .string ⟨#[]⟩, .slice none 0 0, .slice none 0 0]
  rwa [World.size_alloc] at this
theorem hold1 {w : World} {g : Nat} {t : TypeId} {x y : Value} {r : List Value} (h : Box.Holds w g t ⟨x :: y :: r⟩) : w.cell? ⟨g, 1, none⟩ = some y := by
  have := h.cell 1
  simpa using this

theorem Im.drawn {w : World} {B g p n : Nat} {v vi : Value} {its : List (Option (Nat × Nat))} {st : St} (h : Im w B g p v vi n its st) (q : Nat) : Im (w.drewN q) B g p v vi n its st :=
  h.kept (P := fun _ _ => True) (fun _ _ _ _ _ hh => hh) (fun _ _ _ => trivial) (fun _ => trivial) (fun _ => trivial) (fun _ => trivial) (fun _ => trivial) (fun _ => trivial)
theorem Two.drawn {w W : World} {c : Array Value} (h : Two w W c) (q : Nat) : Two w (W.drewN q) c := ⟨Box.below_drawn h.below q, h.size, h.st.drawn q, h.an.drawn q⟩
theorem nil6_av (x : Option Nat) (w : World) : IsAv x w nil6 (.sc .none) := rfl
/-- what Done does to a list -/
def Counted (g : Nat) (st : St) (n : Nat) (W W1 : World) : Prop := (st.fz = true ∧ W1 = W) ∨ (st.fz = false ∧ W1 = W.setCell ⟨g, 2, none⟩ (.int .u32 ((n : Int) - 1)))
theorem done_call {W : World} {B g p n i b k : Nat} {v vi : Value} {its : List (Option (Nat × Nat))} {st : St} (h : Im W B g p v vi n its st) (hi : its[i]? = some (some (b, k))) (hn : n < 4294967296) : Calls Tryz.prog 241 #[.pointer (some ⟨b, 0, none⟩)] W fun e w' => e = .returned (.tuple #[]) ∧ Counted g st n W w' := by
  have hb := (h.i.blk i b k hi).2
  cases hf : st.fz with
  | true =>
    have hg := h.l.hold
    rw [hf] at hg
    exact (done_frozen b g v _ _ W hb hg).mono fun e w' hh => ⟨hh.1, .inl ⟨hf, hh.2⟩⟩
  | false =>
    have hg := h.l.hold
    rw [hf] at hg
    have hc := h.cnt hf
    have ha : st.at_[i]? = some (some k) := by rw [h.at_, List.getElem?_map, hi]; rfl
    have := openN_set ha
    exact (done_any b g v _ n (by omega) hn W hb hg).mono fun e w' hh => ⟨hh.1, .inr ⟨hf, hh.2⟩⟩
/-- an iterator is done -/
theorem done_end {W W1 : World} {B g p n i b k : Nat} {v vi : Value} {its : List (Option (Nat × Nat))} {st : St} (h : Im W B g p v vi n its st) (hi : its[i]? = some (some (b, k))) (hW1 : Counted g st n W W1) :
    Its W1 B p g vi its ∧ Fr B SM W W1 ∧ KeptT (fun _ t => t ≠ 128) W W1 ∧ ∃ n', Lst W1 B g v st.fz n' st.l ∧ (st.fz = false → n' = openN (st.at_.set i none)) ∧ n' ≤ its.length := by
  have ha : st.at_[i]? = some (some k) := by rw [h.at_, List.getElem?_map, hi]; rfl
  rcases hW1 with ⟨hf, rfl⟩ | ⟨hf, rfl⟩
  · exact ⟨h.i, Fr.refl _ _ _, KeptT.refl _ _, n, h.l, (fun e => by rw [hf] at e; cases e), h.bd⟩
  · have hk : KeptT (fun _ t => t ≠ 128) W (W.setCell ⟨g, 2, none⟩ (.int .u32 ((n : Int) - 1))) := KeptT.setCell (p := ⟨g, 2, none⟩) h.l.hold (fun h => h rfl) _
    have ho := openN_set ha
    have hc := h.cnt hf
    refine ⟨h.i.kept hk (fun _ => by decide) (fun _ => by decide) (fun _ => by decide), (Fr.refl B SM W).setCell (p := ⟨g, 2, none⟩) h.l.hold h.l.ge (fun _ hs => hs.1 rfl) _, hk, n - 1, ⟨?_, h.l.row.setCell (p := ⟨g, 2, none⟩) h.l.hold rfl (h.l.row.ne h.l.hold (by decide)) _, h.l.ge⟩, fun _ => by omega, by have := h.bd; omega⟩
    have := h.l.hold.put 2 (.int .u32 ((n : Int) - 1))
    rw [show ((n - 1 : Nat) : Int) = (n : Int) - 1 by omega]
    exact this
theorem done_close {w W W1 : World} {B g p n i b k r cap : Nat} {v : Value} {its : List (Option (Nat × Nat))} {st : St} {c : Array Value} (h : Im W B g p v (.slice (some ⟨r, 0, none⟩) its.length cap) n its st) (hi : its[i]? = some (some (b, k))) (h2 : Two w W c) (hB : B ≤ w.heap.size) (hW1 : Counted g st n W W1) :
    Box.Holds W1 p 82 #[.slice (some ⟨r, 0, none⟩) its.length cap] ∧ Box.Holds W1 w.heap.size 62 c ∧ W1.cell? ⟨r, i, none⟩ = some (.iface 169 (.pointer (some ⟨b, 0, none⟩))) ∧ W1.frozen? ⟨r, i, none⟩ = false ∧ r < W1.heap.size ∧
    Box.Holds (W1.setCell ⟨r, i, none⟩ .nilIface).drew (w.heap.size + 1) 64 #[.bool false, .bool false, .int .i64 0, .int .i64 0, .bool false, .slice none 0 0, .int .u64 0, .string ⟨#[]⟩, .slice none 0 0, .slice none 0 0] ∧
    Box.Holds (putAns (W1.setCell ⟨r, i, none⟩ .nilIface).drew (w.heap.size + 1) true false 0 nil6) (w.heap.size + 1) 64 (ansCs true false 0 nil6) ∧
    Answered w B g p { st with at_ := st.at_.set i none } .yes (.returned (.agg (ansCs true false 0 nil6))) (putAns (W1.setCell ⟨r, i, none⟩ .nilIface).drew (w.heap.size + 1) true false 0 nil6) := by
  obtain ⟨i1, f1, k1, n', l1, c1, b1⟩ := done_end h hi hW1
  obtain ⟨r', cap', e, hBr, hrl, hil, hcap, hcell, hfr, cs, hr⟩ := i1.cell hi
  simp only [Value.slice.injEq, Option.some.injEq, Addr.mk.injEq, true_and, and_true] at e
  obtain ⟨rfl, rfl⟩ := e
  obtain ⟨i2, k2⟩ := i1.close i
  have im : Im (W1.setCell ⟨r, i, none⟩ .nilIface) B g p v (.slice (some ⟨r, 0, none⟩) its.length cap) n' (its.set i none) { st with at_ := st.at_.set i none } := by
    refine ⟨l1.kept k2 (fun _ _ h => num_ne h _ rfl) (fun _ => by decide) (fun _ => by decide), ?_, ?_, c1, by rw [List.length_set]; exact b1⟩
    · have := i2
      simpa using i2
    · simp only [h.at_, List.map_set]
      rfl
  have fr : Fr B SM w (W1.setCell ⟨r, i, none⟩ .nilIface) := ((Fr.of_below h2.below hB).trans f1 fun _ _ _ h => h).setCell (p := ⟨r, i, none⟩) hr hBr (fun _ hs => hs.2.2.2.1 rfl) _
  have ha1 := k1.holds h2.an (by decide)
  have ha2 := k2.holds ha1 (by decide)
  obtain ⟨e1, e2⟩ := answered_end (im.drawn 1) (fr.drawn 1) (ha2.drawn 1) (by omega) (by omega) .yes nil6 (nil6_av none _)
  exact ⟨i1.hold, k1.holds h2.st (by decide), hcell, hfr, hrl, ha2.drawn 1, e1, e2⟩

set_option maxHeartbeats 1000000 in
set_option maxRecDepth 100000 in
theorem step_done (B g p n i : Nat) (s2 s3 : Int) (v vi : Value) (its : List (Option (Nat × Nat))) (st : St) (w : World) (h : Im w B g p v vi n its st) (hl : its.length ≤ 1000) (hn : n < 4294967296) (k : Nat) (hi : st.at_[i]? = some (some k)) :
    Calls Tryz.prog 81 #[.pointer (some ⟨p, 0, none⟩), .agg (stepCs 7 i s2 s3 nil6)] w (Answered w B g p { st with at_ := st.at_.set i none } .yes) := by
  obtain ⟨b, hi⟩ := its_at (h.at_ ▸ hi)
  have h2 := two w (stepCs 7 i s2 s3 nil6)
  obtain ⟨W, hW⟩ : ∃ W, (w.alloc (.cells (stepCs 7 i s2 s3 nil6) 62)).alloc zeroAns = W := ⟨_, rfl⟩
  rw [hW] at h2
  have hB : B ≤ w.heap.size := Nat.le_trans h.l.ge (Nat.le_of_lt h.l.hold.lt)
  have h1 := h.later h2.below
  obtain ⟨r, cap, rfl, hBr, hrl, hil, hcap, hcell, hfr, -⟩ := h1.i.cell hi
  have k0 := hold0 h1.i.hold
  have hpl := h1.i.hold.lt
  have s0 := hold0 h2.st
  have s1 := hold1 h2.st
  have hsl := h2.st.lt
  have hin : (i : Int) < its.length := by omega
  have hd1 : decide ((i : Int) < 0) = false := by simp
  have hd2 : decide (its.length ≤ i) = false := by simp; omega
  have hW' := Lib.hid hW
  have hdn := m_done
  have hcall := Lib.hid fun q => done_call (h1.drawn q) hi hn
  have hcl := Lib.hid fun q W1 hc => done_close (W1 := W1) (h1.drawn q) hi (h2.drawn q) hB hc
  clear h h1 h2 hW
  unfold stepCs zeroAns nil6 at hW'
  unfold stepCs nil6
  go_enter Tryz.func81, Tryz.ntmps81
  go_wp2_with fail
  rw [hW'.out]
  clear hW'
  go_quiet (fail)
  go_wp2_with fail
  go_quiet (fail)
  go_wp2_with fail
  refine (hcall.out _).mono ?_
  rintro e W1 ⟨rfl, hc⟩
  obtain ⟨hp1, hs1, hr1, hf1, hrl1, ha1, hae, hfi⟩ := hcl.out _ W1 hc
  have k1 := hold0 hp1
  have hpl1 := hp1.lt
  have t1 := hold1 hs1
  have hsl1 := hs1.lt
  obtain ⟨W2, hW2⟩ : ∃ W2, (W1.setCell ⟨r, i, none⟩ .nilIface).drew = W2 := ⟨_, rfl⟩
  rw [hW2] at ha1 hae hfi
  have hW2' := Lib.hid hW2
  clear hW2
  obtain ⟨p0, p1, p2, p3, p4, p5, p6, p7, p8, p9, pl, f0, f1, f2, f3, f4, f5, f6, f7, f8, f9⟩ := ans_facts ha1
  have hae' := Lib.hid hae
  have hfi' := Lib.hid hfi
  clear hcall hcl hc hp1 hs1 ha1 hae hfi hcell k0 s0 s1
  go_wp2_with fail
  go_region
  all_goals
    rw [hW2'.out]
    go_wp2
    exact bodyPost_ret (v := .agg (ansCs true false 0 nil6)) (results_cell_row rfl _ _ (w.heap.size + 1) 64 _ (0, 0) _ rfl hae'.out rfl rfl rfl) rfl hfi'.out
end Go.Proofs.YtafbheamnjmfoaaGreat.Ls

namespace Go.Proofs.YtafbheamnjmfoaaGreat.Ls
open Go.RowKit Go.WideShapes Go.Proofs.YtafbheamnjmfoaaGreat.Sc Go.Proofs.YtafbheamnjmfoaaGreat.VRow
set_option linter.unusedVariables false

theorem next_mid {X : World} {B g p n i b k x q : Nat} {v vi u pv : Value} {its : List (Option (Nat × Nat))} {st : St} (h : Im X B g p v vi n its st) (hi : its[i]? = some (some (b, k))) (hx : Box.Holds X x 47 #[u]) (hxv : v.ownBlock ≠ some x) (hBx : B ≤ x) :
    Im (((X.setCell ⟨x, 0, none⟩ pv).setCell ⟨b, 1, none⟩ (.int .i64 ((k : Int) + 1))).drewN q) B g p v vi n (its.set i (some (b, k + 1))) { st with at_ := st.at_.set i (some (k + 1)) } ∧ Fr B SM X (((X.setCell ⟨x, 0, none⟩ pv).setCell ⟨b, 1, none⟩ (.int .i64 ((k : Int) + 1))).drewN q) ∧
    Box.Holds (((X.setCell ⟨x, 0, none⟩ pv).setCell ⟨b, 1, none⟩ (.int .i64 ((k : Int) + 1))).drewN q) x 47 #[pv] ∧ KeptT (fun _ t => t ≠ 47 ∧ t ≠ 171) X (((X.setCell ⟨x, 0, none⟩ pv).setCell ⟨b, 1, none⟩ (.int .i64 ((k : Int) + 1))).drewN q) := by
  have k1 : KeptT (fun _ t => t ≠ 47) X (X.setCell ⟨x, 0, none⟩ pv) := KeptT.setCell (p := ⟨x, 0, none⟩) hx (fun h => h rfl) _
  have i1 := h.i.kept k1 (fun _ => by decide) (fun _ => by decide) (fun _ => by decide)
  have l1 : Lst (X.setCell ⟨x, 0, none⟩ pv) B g v st.fz n st.l := ⟨k1.holds h.l.hold (by decide), h.l.row.setCell (p := ⟨x, 0, none⟩) hx rfl hxv _, h.l.ge⟩
  have f1 : Fr B SM X (X.setCell ⟨x, 0, none⟩ pv) := (Fr.refl B SM X).setCell (p := ⟨x, 0, none⟩) hx hBx (fun _ hs => hs.2.1 rfl) _
  obtain ⟨hB, hb⟩ := i1.blk i b k hi
  obtain ⟨i2, k2⟩ := i1.go hi
  have l2 := l1.kept k2 (fun _ _ h => num_ne h _ rfl) (fun _ => by decide) (fun _ => by decide)
  have f2 := f1.setCell (p := ⟨b, 1, none⟩) hb hB (fun _ hs => hs.2.2.2.2 rfl) (.int .i64 ((k : Int) + 1))
  have ha : st.at_[i]? = some (some k) := by rw [h.at_, List.getElem?_map, hi]; rfl
  have im : Im ((X.setCell ⟨x, 0, none⟩ pv).setCell ⟨b, 1, none⟩ (.int .i64 ((k : Int) + 1))) B g p v vi n (its.set i (some (b, k + 1))) { st with at_ := st.at_.set i (some (k + 1)) } := by
    refine ⟨l2, i2, ?_, fun hf => ?_, by rw [List.length_set]; exact h.bd⟩
    · simp only [h.at_, List.map_set]
      rfl
    · rw [h.cnt hf]
      exact (openN_next ha).symm
  have hbx : b ≠ x := fun e => by
    have h1 := hb
    rw [e] at h1
    have h2 : (X.setCell ⟨x, 0, none⟩ pv).heap[x]? = _ := h1
    have h3 : (X.setCell ⟨x, 0, none⟩ pv).heap[x]? = _ := hx.put 0 pv
    rw [h2] at h3
    simp at h3
  refine ⟨im.drawn q, f2.drawn q, ((hx.put 0 pv).apart (p := ⟨b, 1, none⟩) (fun e => hbx e.symm) _).drawn q, ?_⟩
  exact ((k1.mono (S' := fun _ t => t ≠ 47 ∧ t ≠ 171) fun _ _ _ h => h.1).trans k2 fun _ _ _ h => h.2).drawn q
def Nexted (w W : World) (B g p n : Nat) (v vi pv : Value) (its : List (Option (Nat × Nat))) (st : St) (s : Sc) (W1 : World) : Prop :=
  Im W1 B g p v vi n its st ∧ Fr B SM w W1 ∧ Box.Holds W1 W.heap.size 47 #[pv] ∧ Box.Holds W1 (w.heap.size + 1) 64 #[.bool false, .bool false, .int .i64 0, .int .i64 0, .bool false, .slice none 0 0, .int .u64 0, .string ⟨#[]⟩, .slice none 0 0, .slice none 0 0] ∧ IsPv W1 pv s
set_option maxHeartbeats 1000000 in
set_option maxRecDepth 100000 in
theorem step_next (B g p n i : Nat) (s2 s3 : Int) (v vi : Value) (its : List (Option (Nat × Nat))) (st : St) (w : World) (h : Im w B g p v vi n its st) (hl : its.length ≤ 1000) (hS : st.l.length ≤ 1000) (hok : ∀ s ∈ st.l, s.ok) (k : Nat) (hi : st.at_[i]? = some (some k)) (hk : k < st.l.length) :
    Calls Tryz.prog 81 #[.pointer (some ⟨p, 0, none⟩), .agg (stepCs 6 i s2 s3 nil6)] w (Answered w B g p { st with at_ := st.at_.set i (some (k + 1)) } ⟨true, true, 0, .sc st.l[k]⟩) := by
  obtain ⟨b, hi⟩ := its_at (h.at_ ▸ hi)
  have h2 := two w (stepCs 6 i s2 s3 nil6)
  obtain ⟨W, hW⟩ : ∃ W, (w.alloc (.cells (stepCs 6 i s2 s3 nil6) 62)).alloc zeroAns = W := ⟨_, rfl⟩
  rw [hW] at h2
  have hB : B ≤ w.heap.size := Nat.le_trans h.l.ge (Nat.le_of_lt h.l.hold.lt)
  have h1 := h.later h2.below
  obtain ⟨r, cap, rfl, hBr, hrl, hil, hcap, hcell, hfr, -⟩ := h1.i.cell hi
  obtain ⟨r2, cap2, pv, rfl, hr2l, hBr2, hcap2, hpc, hpf, hpv⟩ := h1.l.row.at_ hk
  have k0 := hold0 h1.i.hold
  have hpl := h1.i.hold.lt
  have s0 := hold0 h2.st
  have s1 := hold1 h2.st
  have hsl := h2.st.lt
  have hin : (i : Int) < its.length := by omega
  have hd1 : decide ((i : Int) < 0) = false := by simp
  have hd2 : decide (its.length ≤ i) = false := by simp; omega
  have hW' := Lib.hid hW
  have hmn := m_next
  have hsok := hok _ (List.getElem_mem hk)
  obtain ⟨s, hs⟩ : ∃ s, st.l[k] = s := ⟨_, rfl⟩
  rw [hs] at hpv hsok ⊢
  have hX : ∀ q, Im ((W.drewN q).alloc (.cells #[.nilIface] 47)) B g p (.slice (some ⟨r2, 0, none⟩) st.l.length cap2) (.slice (some ⟨r, 0, none⟩) its.length cap) n its st := fun q => (h1.drawn q).later (Ref.below_one' _ (Nat.le_refl _))
  have hXx : ∀ q, Box.Holds ((W.drewN q).alloc (.cells #[.nilIface] 47)) W.heap.size 47 #[.nilIface] := fun q => Box.Holds.made (W.drewN q) 47 #[.nilIface]
  have hcall := Lib.hid fun q => (next_some b g W.heap.size r2 st.l.length cap2 k _ _ .nilIface pv ((W.drewN q).alloc (.cells #[.nilIface] 47)) hk (by omega) ((hX q).i.blk i b k hi).2 (hX q).l.hold (hXx q)
    (by rw [World.cell?_alloc_lt _ _ _ (by exact hr2l)]; exact hpc) hpv.form (by have := (h1.i.blk i b k hi).2.lt; omega)).mono
    (R' := fun e W1 => e = .returned (.bool true) ∧ Nexted w W B g p n (.slice (some ⟨r2, 0, none⟩) st.l.length cap2) (.slice (some ⟨r, 0, none⟩) its.length cap) pv (its.set i (some (b, k + 1))) { st with at_ := st.at_.set i (some (k + 1)) } s W1) (by
      rintro e W1 ⟨rfl, q', rfl⟩
      obtain ⟨im, fr, hx1, kt⟩ := next_mid (q := q') (pv := pv) (hX q) hi (hXx q) (by simp only [Value.ownBlock, ne_eq, Option.some.injEq]; omega) (by have := h2.size; omega)
      refine ⟨rfl, im, (Fr.of_below (S := SM) ((Box.below_drawn h2.below q).alloc h2.below.size (.cells #[.nilIface] 47)) hB).trans fr (fun _ _ _ h => h), hx1, kt.holds ((h2.an.drawn q).alloc (.cells #[.nilIface] 47)) ⟨by decide, by decide⟩, ?_⟩
      exact (hpv.kept (Kept.of_below (show Below W.heap.size W ((W.drewN q).alloc (.cells #[.nilIface] 47)) from (Box.below_drawn (Below.refl _ _) q).alloc (Nat.le_refl _) _))).kept (kt.kept fun _ _ h => ⟨num_ne h _ rfl, num_ne h _ rfl⟩))
  have htell := Lib.hid fun v s W h1 h2 => tell_any v s W h1 h2
  have hWs := Lib.hid h2.size
  have hxf := Lib.hid hpv.form
  clear h h1 h2 hW hX hXx hpv hs
  unfold stepCs zeroAns nil6 at hW'
  unfold stepCs nil6
  go_enter Tryz.func81, Tryz.ntmps81
  go_wp2_with fail
  rw [hW'.out]
  clear hW'
  go_quiet (fail)
  go_wp2_with fail
  go_quiet (fail)
  go_wp2_with fail
  refine (hcall.out _).mono ?_
  rintro e W1 ⟨rfl, him, hfr1, hx1, ha1, hpv1⟩
  have hxc := hold0 hx1
  have hxl := hx1.lt
  have ht := Lib.hid (htell.out pv s W1 hsok hpv1)
  obtain ⟨pt, pu, rfl⟩ := hxf.out
  have him' := Lib.hid him
  have hfr' := Lib.hid hfr1
  have ha1' := Lib.hid ha1
  clear him hfr1 hx1 ha1 hpv1 hcall htell hxf
  go_wp2_with fail
  refine ht.out.mono ?_
  rintro e W2 ⟨⟨y, rfl, hy⟩, hb2⟩
  have ha2 := ha1'.out.later hb2
  obtain ⟨hae, hfi⟩ := answered_end (him'.out.later hb2) (hfr'.out.later hb2 hB) ha2 (by omega) (by omega) ⟨true, true, 0, .sc s⟩ y hy
  obtain ⟨p0, p1, p2, p3, p4, p5, p6, p7, p8, p9, pl, f0, f1, f2, f3, f4, f5, f6, f7, f8, f9⟩ := ans_facts ha2
  have hae' := Lib.hid hae
  have hfi' := Lib.hid hfi
  obtain ⟨yn, ya, yl, yc, yb, yt, rfl⟩ := hy.form
  clear ha2 hae hfi hb2 hy ht him' hfr' ha1'
  unfold V6.arr
  go_wp2
  exact bodyPost_ret (v := .agg (ansCs true true 0 _)) (results_cell_row rfl _ _ (w.heap.size + 1) 64 _ (0, 0) _ rfl hae'.out rfl rfl rfl) rfl hfi'.out
set_option maxHeartbeats 1000000 in
set_option maxRecDepth 100000 in
theorem step_over (B g p n i : Nat) (s2 s3 : Int) (v vi : Value) (its : List (Option (Nat × Nat))) (st : St) (w : World) (h : Im w B g p v vi n its st) (hl : its.length ≤ 1000) (hS : st.l.length ≤ 1000) (hok : ∀ s ∈ st.l, s.ok) (k : Nat) (hi : st.at_[i]? = some (some k)) (hk : st.l.length ≤ k) (hk9 : k ≤ 1000) :
    Calls Tryz.prog 81 #[.pointer (some ⟨p, 0, none⟩), .agg (stepCs 6 i s2 s3 nil6)] w (Answered w B g p st .yes) := by
  obtain ⟨b, hi⟩ := its_at (h.at_ ▸ hi)
  have h2 := two w (stepCs 6 i s2 s3 nil6)
  obtain ⟨W, hW⟩ : ∃ W, (w.alloc (.cells (stepCs 6 i s2 s3 nil6) 62)).alloc zeroAns = W := ⟨_, rfl⟩
  rw [hW] at h2
  have hB : B ≤ w.heap.size := Nat.le_trans h.l.ge (Nat.le_of_lt h.l.hold.lt)
  have h1 := h.later h2.below
  obtain ⟨r, cap, rfl, hBr, hrl, hil, hcap, hcell, hfr, -⟩ := h1.i.cell hi
  obtain ⟨A2, cap2, rfl⟩ := h1.l.row.shape
  have k0 := hold0 h1.i.hold
  have hpl := h1.i.hold.lt
  have s0 := hold0 h2.st
  have s1 := hold1 h2.st
  have hsl := h2.st.lt
  have hin : (i : Int) < its.length := by omega
  have hd1 : decide ((i : Int) < 0) = false := by simp
  have hd2 : decide (its.length ≤ i) = false := by simp; omega
  have hW' := Lib.hid hW
  have hmn := m_next
  have hX : ∀ q, Im ((W.drewN q).alloc (.cells #[.nilIface] 47)) B g p (.slice A2 st.l.length cap2) (.slice (some ⟨r, 0, none⟩) its.length cap) n its st := fun q => (h1.drawn q).later (Ref.below_one' _ (Nat.le_refl _))
  have hXx : ∀ q, Box.Holds ((W.drewN q).alloc (.cells #[.nilIface] 47)) W.heap.size 47 #[.nilIface] := fun q => Box.Holds.made (W.drewN q) 47 #[.nilIface]
  have hcall := Lib.hid fun q => (next_none b g W.heap.size A2 st.l.length cap2 k _ _ ((W.drewN q).alloc (.cells #[.nilIface] 47)) hk (by omega) (by omega) ((hX q).i.blk i b k hi).2 (hX q).l.hold).mono
    (R' := fun e W1 => e = .returned (.bool false) ∧ Im W1 B g p (.slice A2 st.l.length cap2) (.slice (some ⟨r, 0, none⟩) its.length cap) n its st ∧ Fr B SM w W1 ∧ Box.Holds W1 (w.heap.size + 1) 64 #[.bool false, .bool false, .int .i64 0, .int .i64 0, .bool false, .slice none 0 0, .int .u64 0, .string ⟨#[]⟩, .slice none 0 0, .slice none 0 0]) (by
      rintro e W1 ⟨rfl, q', rfl⟩
      exact ⟨rfl, (hX q).drawn q', (Fr.of_below (S := SM) ((Box.below_drawn h2.below q).alloc h2.below.size (.cells #[.nilIface] 47)) hB).drawn q', ((h2.an.drawn q).alloc (.cells #[.nilIface] 47)).drawn q'⟩)
  have hWs := Lib.hid h2.size
  clear h h1 h2 hW hX hXx
  unfold stepCs zeroAns nil6 at hW'
  unfold stepCs nil6
  go_enter Tryz.func81, Tryz.ntmps81
  go_wp2_with fail
  rw [hW'.out]
  clear hW'
  go_quiet (fail)
  go_wp2_with fail
  go_quiet (fail)
  go_wp2_with fail
  refine (hcall.out _).mono ?_
  rintro e W1 ⟨rfl, him, hfr1, ha1⟩
  obtain ⟨hae, hfi⟩ := answered_end him hfr1 ha1 (by omega) (by omega) .yes nil6 (nil6_av none _)
  obtain ⟨p0, p1, p2, p3, p4, p5, p6, p7, p8, p9, pl, f0, f1, f2, f3, f4, f5, f6, f7, f8, f9⟩ := ans_facts ha1
  have hae' := Lib.hid hae
  have hfi' := Lib.hid hfi
  clear him hfr1 ha1 hae hfi hcall
  go_wp2
  exact bodyPost_ret (v := .agg (ansCs true false 0 nil6)) (results_cell_row rfl _ _ (w.heap.size + 1) 64 _ (0, 0) _ rfl hae'.out rfl rfl rfl) rfl hfi'.out
end Go.Proofs.YtafbheamnjmfoaaGreat.Ls

namespace Go.Proofs.YtafbheamnjmfoaaGreat.Ls
open Go.RowKit Go.WideShapes Go.Proofs.YtafbheamnjmfoaaGreat.Sc Go.Proofs.YtafbheamnjmfoaaGreat.VRow
set_option linter.unusedVariables false

/-- behind the step's value -/
structure Pre (w w1 : World) (B g p n : Nat) (v vi : Value) (its : List (Option (Nat × Nat))) (st : St) (c : Array Value) (pv : Value) (a : Sc) : Prop where
  im : Im w1 B g p v vi n its st
  fr : Fr B SM w w1
  st_ : Box.Holds w1 w.heap.size 62 c
  an : Box.Holds w1 (w.heap.size + 1) 64 #[.bool false, .bool false, .int .i64 0, .int .i64 0, .bool false, .slice none 0 0, .int .u64 0, .string ⟨#[]⟩, .slice none 0 0, .slice none 0 0]
  size : w.heap.size + 1 + 1 ≤ w1.heap.size
  pv : IsPv w1 pv a
theorem hold2 {w : World} {g : Nat} {t : TypeId} {x y z : Value} {r : List Value} (h : Box.Holds w g t ⟨x :: y :: z :: r⟩) : w.cell? ⟨g, 2, none⟩ = some z := by
  have := h.cell 2
  simpa using this
theorem hold3 {w : World} {g : Nat} {t : TypeId} {x y z u : Value} {r : List Value} (h : Box.Holds w g t ⟨x :: y :: z :: u :: r⟩) : w.cell? ⟨g, 3, none⟩ = some u := by
  have := h.cell 3
  simpa using this
theorem Pre.drawn {w w1 : World} {B g p n : Nat} {v vi : Value} {its : List (Option (Nat × Nat))} {st : St} {c : Array Value} {pv : Value} {a : Sc} (h : Pre w w1 B g p n v vi its st c pv a) (q : Nat) : Pre w (w1.drewN q) B g p n v vi its st c pv a :=
  ⟨h.im.drawn q, h.fr.drawn q, h.st_.drawn q, h.an.drawn q, h.size, h.pv.kept (fun _ _ _ _ _ hh => hh)⟩
theorem Pre.len {w w1 : World} {B g p n : Nat} {A : Option Addr} {c0 : Nat} {vi : Value} {its : List (Option (Nat × Nat))} {st : St} {c : Array Value} {pv : Value} {a : Sc} (h : Pre w w1 B g p n (.slice A st.l.length c0) vi its st c pv a) (q : Nat) : Calls Tryz.prog 70 #[.pointer (some ⟨g, 0, none⟩)] (w1.drewN q) fun e w' => e = .returned (.int .i64 st.l.length) ∧ w' = w1.drewN q :=
  (llen_any g A st.l.length c0 _ _ (w1.drewN q) (h.drawn q).im.l.hold).mono fun e w' hh => ⟨hh.1, hh.2.symm⟩
theorem pre_scalar {w W : World} {B g p n : Nat} {v vi : Value} {its : List (Option (Nat × Nat))} {st : St} {c : Array Value} (h : Im w B g p v vi n its st) (h2 : Two w W c) (Y : V6) (a : Sc) (ha : a.ok) (hY : IsSc W Y a) : Calls Tryz.prog 18 #[.int .i64 a.kind, .agg Y.arr] W fun e w1 => ∃ pv, e = .returned (.tuple #[pv, .bool true]) ∧ Pre w w1 B g p n v vi its st c pv a := by
  have hB : B ≤ w.heap.size := Nat.le_trans h.l.ge (Nat.le_of_lt h.l.hold.lt)
  refine (scalar_any Y a W ha hY).mono ?_
  rintro e w1 ⟨⟨pv, rfl, hpv⟩, hb⟩
  have hs := hb.size
  have hs2 := h2.size
  exact ⟨pv, rfl, (h.later h2.below).later hb, Fr.of_below (h2.below.trans (hb.mono h2.below.size)) hB, h2.st.later hb, h2.an.later hb, by omega, hpv⟩
theorem Pre.end_ {w w1 w2 : World} {B g p n n' : Nat} {v vi v' vi' : Value} {its its' : List (Option (Nat × Nat))} {st st' : St} {c : Array Value} {pv : Value} {a : Sc} (h : Pre w w1 B g p n v vi its st c pv a) (hB : B ≤ w.heap.size) (him : Im w2 B g p v' vi' n' its' st') (hfr : Fr B SM w1 w2) (an : An) (y : V6) (hy : IsAv none w2 y an.v) :
    Box.Holds w2 (w.heap.size + 1) 64 #[.bool false, .bool false, .int .i64 0, .int .i64 0, .bool false, .slice none 0 0, .int .u64 0, .string ⟨#[]⟩, .slice none 0 0, .slice none 0 0] ∧ Box.Holds (putAns w2 (w.heap.size + 1) an.ok an.is_ an.n y) (w.heap.size + 1) 64 (ansCs an.ok an.is_ an.n y) ∧ Answered w B g p st' an (.returned (.agg (ansCs an.ok an.is_ an.n y))) (putAns w2 (w.heap.size + 1) an.ok an.is_ an.n y) := by
  have ha := hfr.kept.holds h.an ⟨by decide, by decide, by decide, by decide, by decide⟩
  exact ⟨ha, answered_end him (h.fr.trans hfr fun _ _ _ h => h) ha (by omega) (by omega) an y hy⟩
/-- the list has turned -/
theorem Pre.turned {w w1 w2 : World} {B g p n : Nat} {v vi : Value} {its : List (Option (Nat × Nat))} {st : St} {c : Array Value} {pv : Value} {a : Sc} {S : List Sc} {e : Ending} (h : Pre w w1 B g p n v vi its st c pv a) (hf : st.fixed = false) (ht : Turned B g false 0 w1 S e w2) : ∃ v', Im w2 B g p v' vi 0 its { st with l := S } ∧ Fr B SM w1 w2 := by
  obtain ⟨_, ⟨v', hl⟩, hfr⟩ := ht
  unfold St.fixed at hf
  simp only [Bool.or_eq_false_iff, decide_eq_false_iff_not] at hf
  refine ⟨v', ⟨?_, h.im.i.kept hfr.kept (fun _ => ⟨by decide, by decide⟩) (fun _ => ⟨by decide, by decide⟩) (fun _ => ⟨by decide, by decide⟩), h.im.at_, (fun _ => by show 0 = openN st.at_; omega), Nat.zero_le _⟩, hfr.mono (Nat.le_refl _) fun _ _ _ h => ⟨h.1, h.2.1⟩⟩
  simpa only [hf.1] using hl
theorem Pre.cnt {w w1 : World} {B g p n : Nat} {v vi : Value} {its : List (Option (Nat × Nat))} {st : St} {c : Array Value} {pv : Value} {a : Sc} (h : Pre w w1 B g p n v vi its st c pv a) : (st.fixed = false → st.fz = false ∧ n = 0) ∧ (st.fixed = true → (st.fz || decide (0 < n)) = true) := by
  have hc := h.im.cnt
  unfold St.fixed
  cases hf : st.fz with
  | true => simp
  | false =>
    have := hc hf
    subst this
    simp
theorem Pre.frozen {w w1 w2 : World} {B g p n : Nat} {v vi : Value} {its : List (Option (Nat × Nat))} {st : St} {c : Array Value} {pv : Value} {a : Sc} {e : Ending} (h : Pre w w1 B g p n v vi its st c pv a) (ht : Frozen B g v n w1 st.l e w2) : Im w2 B g p v vi n its { st with fz := true } ∧ Fr B SM w1 w2 := by
  obtain ⟨_, hl, hfr⟩ := ht
  exact ⟨⟨hl, h.im.i.kept hfr.kept (fun _ => ⟨by decide, by decide⟩) (fun _ => ⟨by decide, by decide⟩) (fun _ => ⟨by decide, by decide⟩), h.im.at_, (fun hf => by cases hf), h.im.bd⟩, hfr.mono (Nat.le_refl _) fun _ _ _ h => ⟨h.1, h.2.1⟩⟩
theorem Pre.le {w w1 : World} {B g p n : Nat} {v vi : Value} {its : List (Option (Nat × Nat))} {st : St} {c : Array Value} {pv : Value} {a : Sc} (h : Pre w w1 B g p n v vi its st c pv a) (hB : B ≤ w.heap.size) : B ≤ w1.heap.size := by have := h.size; omega
/-- one more iterator -/
theorem it_any {W : World} {B g p n : Nat} {v vi : Value} {its : List (Option (Nat × Nat))} {st : St} (h : Im W B g p v vi n its st) (hn : n < 4294967295) : Calls Tryz.prog 80 #[.pointer (some ⟨g, 0, none⟩)] W fun e W2 => e = .returned (.iface 169 (.pointer (some ⟨W.heap.size, 0, none⟩))) ∧
    Its W2 B p g vi its ∧ (∃ n2, Lst W2 B g v st.fz n2 st.l ∧ (st.fz = false → n2 = n + 1) ∧ n2 ≤ n + 1) ∧ Box.Holds W2 W.heap.size 171 #[.pointer (some ⟨g, 0, none⟩), .int .i64 (0 : Nat)] ∧ Fr B SM W W2 ∧ ∀ (i k : Nat), its[i]? ≠ some (some (W.heap.size, k)) := by
  have hfresh : ∀ (i k : Nat), its[i]? ≠ some (some (W.heap.size, k)) := fun i k hi => by
    have := (h.i.blk i _ k hi).2.lt
    omega
  have hB : B ≤ W.heap.size := Nat.le_trans h.l.ge (Nat.le_of_lt h.l.hold.lt)
  have hal : ∀ W2 : World, Below W2.heap.size W2 (W2.alloc (.cells #[.pointer (some ⟨g, 0, none⟩), .int .i64 0] 171)) := fun W2 => Ref.below_one' _ (Nat.le_refl _)
  cases hf : st.fz with
  | true =>
    have hl := h.l
    rw [hf] at hl
    refine (iterate_frozen g v _ W hl.hold).mono ?_
    rintro e W2 ⟨rfl, rfl⟩
    exact ⟨rfl, h.i.later (hal _), ⟨n, hl.later (hal _), (fun e => by cases e), Nat.le_succ _⟩, Box.Holds.made W _ _, Fr.of_below (hal _) hB, hfresh⟩
  | false =>
    have hl := h.l
    rw [hf] at hl
    refine (iterate_any g v n hn W hl.hold).mono ?_
    rintro e W2 ⟨rfl, rfl⟩
    have hk : KeptT (fun _ t => t ≠ 128) W (W.setCell ⟨g, 2, none⟩ (.int .u32 ((n : Int) + 1))) := KeptT.setCell (p := ⟨g, 2, none⟩) hl.hold (fun h => h rfl) _
    have hl2 : Lst (W.setCell ⟨g, 2, none⟩ (.int .u32 ((n : Int) + 1))) B g v false (n + 1) st.l := by
      refine ⟨?_, hl.row.setCell (p := ⟨g, 2, none⟩) hl.hold rfl (hl.row.ne hl.hold (by decide)) _, hl.ge⟩
      have := hl.hold.put 2 (.int .u32 ((n : Int) + 1))
      rw [show ((n + 1 : Nat) : Int) = (n : Int) + 1 by omega]
      exact this
    have hlit := Box.Holds.made (W.setCell ⟨g, 2, none⟩ (.int .u32 ((n : Int) + 1))) 171 #[.pointer (some ⟨g, 0, none⟩), .int .i64 0]
    rw [World.size_setCell] at hlit
    exact ⟨rfl, (h.i.kept hk (fun _ => by decide) (fun _ => by decide) (fun _ => by decide)).later (hal _), ⟨n + 1, hl2.later (hal _), fun _ => rfl, Nat.le_refl _⟩, hlit, ((Fr.refl B SM W).setCell (p := ⟨g, 2, none⟩) hl.hold hl.ge (fun _ hs => hs.1 rfl) _).alloc hB _, hfresh⟩
theorem openN_snoc (l : List (Option Nat)) (k : Nat) : openN (l ++ [some k]) = openN l + 1 := by simp [openN]
theorem opened_im {W W2 w3 : World} {B g p n n2 b : Nat} {v vi : Value} {its : List (Option (Nat × Nat))} {st : St} {e : Ending} (h : Im W B g p v vi n its st) (hl : Lst W2 B g v st.fz n2 st.l) (hc : st.fz = false → n2 = n + 1) (hle : n2 ≤ n + 1) (hfr : Fr B SM W W2) (ho : Opened W2 B p g b its e w3) :
    ∃ vi', Im w3 B g p v vi' n2 (its ++ [some (b, 0)]) { st with at_ := st.at_ ++ [some 0] } ∧ Fr B SM W w3 := by
  obtain ⟨_, ⟨vi', hi⟩, hf⟩ := ho
  refine ⟨vi', ⟨hl.kept hf.kept (fun _ _ h => ⟨num_ne h _ rfl, num_ne h _ rfl⟩) (fun _ => ⟨by decide, by decide⟩) (fun _ => ⟨by decide, by decide⟩), hi, ?_, fun hz => ?_, by have := h.bd; rw [List.length_append, List.length_singleton]; omega⟩, hfr.trans hf fun _ _ _ h => ⟨h.2.2.1, h.2.2.2.1⟩⟩
  · simp only [h.at_, List.map_append, List.map_cons, List.map_nil]
    rfl
  · rw [hc hz, h.cnt hz]
    exact (openN_snoc _ _).symm
theorem is_plist (v : Value) (w : World) : (Instr.typeAssert (.iface 77 v) 47 77 true).run Tryz.prog w = .ok (.tuple #[v, .bool true]) w := by kernel_rfl
set_option maxHeartbeats 2000000 in
set_option maxRecDepth 100000 in
theorem on_len (B g p n : Nat) (i j m : Int) (v vi : Value) (its : List (Option (Nat × Nat))) (st : St) (w : World) (h : Im w B g p v vi n its st) (hS : st.l.length ≤ 400) (hits : its.length ≤ 1000) (hn : n ≤ 1000) (hok : ∀ s ∈ st.l, s.ok) :
    Calls Tryz.prog 40 #[.pointer (some ⟨g, 0, none⟩), .pointer (some ⟨p, 0, none⟩), .agg (stepCs 4 i j m nil6)] w (Answered w B g p st ⟨true, false, st.l.length, .sc .none⟩) := by
  have h2 := two w (stepCs 4 i j m nil6)
  obtain ⟨W, hW⟩ : ∃ W, (w.alloc (.cells (stepCs 4 i j m nil6) 62)).alloc zeroAns = W := ⟨_, rfl⟩
  rw [hW] at h2
  have hB : B ≤ w.heap.size := Nat.le_trans h.l.ge (Nat.le_of_lt h.l.hold.lt)
  have hsc := Lib.hid (pre_scalar h h2 nil6 .none trivial (nil6_sc _))
  obtain ⟨A0, c0, rfl⟩ := h.l.row.shape
  have hW' := Lib.hid hW
  clear h h2 hW
  unfold stepCs zeroAns nil6 at hW'
  unfold stepCs nil6
  unfold Sc.kind V6.arr nil6 at hsc
  rcases Int.lt_or_le i 0 with hi0 | hi0
  all_goals
    try have hi1 : decide (i ≥ 0) = false := by simp; omega
    try have hi1 : decide (i ≥ 0) = true := by simp; omega
    go_enter Tryz.func40, Tryz.ntmps40
    go_wp2_with fail
    rw [hW'.out]
    clear hW'
    refine hsc.out.mono ?_
    rintro e w1 ⟨pv, rfl, hpre⟩
    have hq := Lib.hid fun q => hpre.len q
    have s0 := hold0 hpre.st_
    have s1 := hold1 hpre.st_
    have s2 := hold2 hpre.st_
    have s3 := hold3 hpre.st_
    have hsl := hpre.st_.lt
    have hpre' := Lib.hid hpre
    obtain ⟨pt, pu, rfl⟩ := hpre.pv.form
    clear hpre hsc
    go_wp2_with fail
    go_quiet (first | (go_at_call 70; with_reducible exact Calls.quiet_of_same (hq.out _)))
    rename_i nq
    go_wp2_with fail
    refine (hq.out _).mono ?_
    rintro e w2 ⟨rfl, rfl⟩
    obtain ⟨ha0, hae0, hfi0⟩ := (hpre'.out.drawn nq).end_ hB (hpre'.out.drawn nq).im (Fr.refl _ _ _) ⟨true, false, st.l.length, .sc .none⟩ nil6 (nil6_av none _)
    obtain ⟨p0, p1, p2, p3, p4, p5, p6, p7, p8, p9, pl, f0, f1, f2, f3, f4, f5, f6, f7, f8, f9⟩ := ans_facts ha0
    have hae := Lib.hid hae0
    have hfi := Lib.hid hfi0
    clear ha0 hae0 hfi0 hpre'
    clear hq
    go_wp2
    exact bodyPost_ret (v := .agg (ansCs true false st.l.length nil6)) (results_cell_row rfl _ _ (w.heap.size + 1) 64 _ (0, 0) _ rfl hae.out rfl rfl rfl) rfl hfi.out
end Go.Proofs.YtafbheamnjmfoaaGreat.Ls
