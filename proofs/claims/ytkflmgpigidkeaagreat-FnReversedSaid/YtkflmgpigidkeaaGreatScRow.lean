/-
  Rows of values without parts, of the reference and of the program, and what append and make do to them.
-/
import Derived.Test.YtkflmgpigidkeaaGreatScTell
import Derived.Laws.MakeOwn
import Derived.LoopTactic
namespace Go.Proofs.YtkflmgpigidkeaaGreat.Sc
open Go.RowKit Go.WideShapes Go.Proofs.YtkflmgpigidkeaaGreat.Own Go.Proofs.YtkflmgpigidkeaaGreat.Num Go.Proofs.YtkflmgpigidkeaaGreat.Ref Go.Proofs.YtkflmgpigidkeaaGreat.Nat_ Go.Proofs.YtkflmgpigidkeaaGreat.Big Go.Proofs.YtkflmgpigidkeaaGreat.VRow
set_option linter.unusedVariables false

/-- one relation at each place of two lists -/
def All {α β : Type} (P : α → β → Prop) (L : List α) (S : List β) : Prop := L.length = S.length ∧ ∀ (j : Nat) (a : α) (b : β), L[j]? = some a → S[j]? = some b → P a b
theorem All.nil {α β : Type} (P : α → β → Prop) : All P [] [] := ⟨rfl, fun j a b h => by simp at h⟩
theorem All.snoc {α β : Type} {P : α → β → Prop} {L : List α} {S : List β} (h : All P L S) {x : α} {y : β} (hp : P x y) : All P (L ++ [x]) (S ++ [y]) := by
  refine ⟨by simp [h.1], fun j a b ha hb => ?_⟩
  by_cases hj : j < L.length
  · rw [List.getElem?_append_left hj] at ha
    rw [List.getElem?_append_left (by rw [← h.1]; exact hj)] at hb
    exact h.2 j a b ha hb
  · rw [List.getElem?_append_right (by omega)] at ha
    rw [List.getElem?_append_right (by rw [← h.1]; omega)] at hb
    have e : j - L.length = 0 := by
      have := (List.getElem?_eq_some_iff.1 ha).1
      simp at this
      omega
    rw [e] at ha
    rw [← h.1, e] at hb
    simp at ha hb
    subst ha hb
    exact hp
theorem All.mono {α β : Type} {P Q : α → β → Prop} {L : List α} {S : List β} (h : All P L S) (hpq : ∀ a b, P a b → Q a b) : All Q L S := ⟨h.1, fun j a b ha hb => hpq a b (h.2 j a b ha hb)⟩
theorem All.get {α β : Type} {P : α → β → Prop} {L : List α} {S : List β} (h : All P L S) {j : Nat} (hj : j < S.length) : ∃ (hj' : j < L.length), P L[j] S[j] := by
  have hj' : j < L.length := by rw [h.1]; exact hj
  exact ⟨hj', h.2 j _ _ (List.getElem?_eq_getElem hj') (List.getElem?_eq_getElem hj)⟩
theorem All.take {α β : Type} {P : α → β → Prop} {L : List α} {S : List β} (h : All P L S) (k : Nat) : All P (L.take k) (S.take k) := by
  refine ⟨by simp [h.1], fun j a b ha hb => ?_⟩
  rw [List.getElem?_take] at ha hb
  split at ha
  · rename_i hk
    rw [if_pos hk] at hb
    exact h.2 j a b ha hb
  · cases ha

/-- the reference's row of these values, its own -/
def Vals (w : World) (B : Nat) (v : Value) (S : List Sc) : Prop := ∃ L, OwnV w B v L ∧ All (IsSc w) L S
/-- the program's -/
def Pvals (w : World) (B : Nat) (v : Value) (S : List Sc) : Prop := ∃ L : List Value, w.ownsRow B 66 1 v L.length L ∧ All (IsPv w) L S
theorem Vals.nil (w : World) (B : Nat) : Vals w B (.slice Option.none 0 0) [] := ⟨[], OwnV.nil _ _, All.nil _⟩
theorem Pvals.nil (w : World) (B : Nat) : Pvals w B (.slice Option.none 0 0) [] := ⟨[], World.ownsRow_nil _ _ _ _, All.nil _⟩
theorem Vals.later {w w' : World} {B : Nat} {v : Value} {S : List Sc} (h : Vals w B v S) (hb : Below w.heap.size w w') : Vals w' B v S := by
  obtain ⟨L, h1, h2⟩ := h
  exact ⟨L, h1.later hb, h2.mono fun a b hab => hab.kept (Kept.of_below hb)⟩
theorem Pvals.later {w w' : World} {B : Nat} {v : Value} {S : List Sc} (h : Pvals w B v S) (hb : Below w.heap.size w w') : Pvals w' B v S := by
  obtain ⟨L, h1, h2⟩ := h
  exact ⟨L, own_below h1 hb, h2.mono fun a b hab => hab.kept (Kept.of_below hb)⟩
theorem Vals.lower {w : World} {B B' : Nat} {v : Value} {S : List Sc} (h : Vals w B v S) (hb : B' ≤ B) : Vals w B' v S := by
  obtain ⟨L, h1, h2⟩ := h
  exact ⟨L, h1.lower hb, h2⟩
theorem Pvals.lower {w : World} {B B' : Nat} {v : Value} {S : List Sc} (h : Pvals w B v S) (hb : B' ≤ B) : Pvals w B' v S := by
  obtain ⟨L, h1, h2⟩ := h
  exact ⟨L, World.ownsRow.mono h1 hb, h2⟩
theorem Vals.eq {w : World} {B : Nat} {v : Value} {S S' : List Sc} (h : Vals w B v S) (e : S = S') : Vals w B v S' := e ▸ h
theorem Pvals.eq {w : World} {B : Nat} {v : Value} {S S' : List Sc} (h : Pvals w B v S) (e : S = S') : Pvals w B v S' := e ▸ h
theorem Vals.shape {w : World} {B : Nat} {v : Value} {S : List Sc} (h : Vals w B v S) : ∃ A cap, v = .slice A S.length cap := by
  obtain ⟨L, h1, h2⟩ := h
  rw [← h2.1]
  exact h1.shape
theorem Pvals.shape {w : World} {B : Nat} {v : Value} {S : List Sc} (h : Pvals w B v S) : ∃ A cap, v = .slice A S.length cap := by
  obtain ⟨L, h1, h2⟩ := h
  rw [← h2.1]
  rcases h1.2 with ⟨rfl, h0⟩ | ⟨g, cap, cur, rfl, _⟩
  · exact ⟨Option.none, 0, by rw [h0]⟩
  · exact ⟨_, _, rfl⟩
/-- the element at a place -/
theorem Vals.at_ {w : World} {B : Nat} {v : Value} {S : List Sc} (h : Vals w B v S) {j : Nat} (hj : j < S.length) : ∃ g cap x, v = .slice (some ⟨g, 0, Option.none⟩) S.length cap ∧ g < w.heap.size ∧ B ≤ g ∧ S.length ≤ cap ∧ At w g j x ∧ IsSc w x S[j] := by
  obtain ⟨L, h1, h2⟩ := h
  obtain ⟨hj', hp⟩ := h2.get hj
  rcases h1.forms with ⟨_, rfl⟩ | ⟨g, cap, rfl, hg, hB, hc, hcs⟩
  · simp at hj'
  · exact ⟨g, cap, L[j], by rw [h2.1], hg, hB, by rw [← h2.1]; exact hc, hcs j hj', hp⟩
theorem Pvals.at_ {w : World} {B : Nat} {v : Value} {S : List Sc} (h : Pvals w B v S) {j : Nat} (hj : j < S.length) : ∃ g cap x, v = .slice (some ⟨g, 0, Option.none⟩) S.length cap ∧ g < w.heap.size ∧ B ≤ g ∧ S.length ≤ cap ∧ w.cell? ⟨g, j, Option.none⟩ = some x ∧ w.frozen? ⟨g, j, Option.none⟩ = false ∧ IsPv w x S[j] := by
  obtain ⟨L, h1, h2⟩ := h
  obtain ⟨hj', hp⟩ := h2.get hj
  rcases id h1.2 with ⟨_, h0⟩ | ⟨g, cap, cur, rfl, hB, hg, hc, _⟩
  · omega
  · exact ⟨g, cap, L[j], by rw [h2.1], (Array.getElem?_eq_some_iff.1 hg).1, hB, by rw [← h2.1]; exact hc, by rw [World.ownsRow.cellAt h1 j (by omega), List.getElem?_eq_getElem hj'], World.ownsRow.frozenAt h1 j, hp⟩

/-- 'append(v, x)' of one value, v the call's own -/
theorem wpList_sc {ops : Array Oper} {rest : List Oper} {o : Oper} {a : Act} {Q : Exit → Act → World → Prop} {w0 wr : World} {B : Nat} (hgd : o.guard = Option.none) (s x : Operand)
    (ho : o.op = .call { callee := .builtin .append, args := #[s, x], argTypes := #[25, 25] })
    (v : Value) (S : List Sc) (hs : a.eval s = v) (hv : Vals wr B v S) (hb : Below B w0 wr) (hB : B ≤ w0.heap.size) (y : V6) (t : Sc) (hy : IsSc wr y t)
    (hx : a.eval x = .slice (some ⟨wr.heap.size, 0, Option.none⟩) 1 1) (hn : S.length ≤ 1000000)
    (h : ∀ v' w', Vals w' B v' (S ++ [t]) → Below B w0 w' → wpList Tryz.prog ops Q rest (a.put o.dst v') w') :
    wpList Tryz.prog ops Q (o :: rest) a (wr.alloc (.cells y.arr 27)) := by
  obtain ⟨L, h1, h2⟩ := hv
  have hal : Below wr.heap.size wr (wr.alloc (.cells y.arr 27)) := below_one' _ (Nat.le_refl _)
  refine wpList_plain hgd fun _ hK => wp_v6 (w0 := w0) s x ho v L hs (h1.later hal) (hb.alloc (Nat.le_trans hB hb.size) _) hB y hy.one (Rem.Holds.made wr _ _) hx (by rw [h2.1]; omega) fun v' w' h3 h4 h5 => hK _ _ (h v' w' ?_ h4)
  have hk : Kept wr w' := (Kept.of_below hal).trans (Kept.grown (h1.later hal) rfl h5)
  exact ⟨_, h3, (h2.mono fun a b hab => hab.kept hk).snoc (hy.kept hk)⟩

theorem info_pv : (Tryz.prog.info? 66).map (fun i => (i.zero, i.size, i.bytes)) = some (some .nilIface, 1, 16) := by kernel_rfl
theorem IsPv.one {w : World} {x : Value} {s : Sc} (h : IsPv w x s) : x.oneCell' = true := by
  cases s with
  | int neg m =>
    obtain ⟨u, B, rfl, _⟩ := h
    rfl
  | none => obtain rfl : x = _ := h; rfl
  | bool b => obtain rfl : x = _ := h; rfl
  | float b => obtain rfl : x = _ := h; rfl
  | text k t => obtain rfl : x = _ := h; rfl
theorem wpList_pv {ops : Array Oper} {rest : List Oper} {o : Oper} {a : Act} {Q : Exit → Act → World → Prop} {w0 wr : World} {B : Nat} (hgd : o.guard = Option.none) (s x : Operand)
    (ho : o.op = .call { callee := .builtin .append, args := #[s, x], argTypes := #[86, 86] })
    (v : Value) (S : List Sc) (hs : a.eval s = v) (hv : Pvals wr B v S) (hb : Below B w0 wr) (hB : B ≤ w0.heap.size) (y : Value) (t : Sc) (hy : IsPv wr y t)
    (hx : a.eval x = .slice (some ⟨wr.heap.size, 0, Option.none⟩) 1 1) (hn : S.length ≤ 1000000)
    (h : ∀ v' w', Pvals w' B v' (S ++ [t]) → Below B w0 w' → wpList Tryz.prog ops Q rest (a.put o.dst v') w') :
    wpList Tryz.prog ops Q (o :: rest) a (wr.alloc (.cells #[y] 66)) := by
  obtain ⟨L, h1, h2⟩ := hv
  obtain ⟨i0, hi, hz0, hz1, hz2⟩ := info_parts info_pv
  have hsz := hb.size
  have hlen := h2.1
  refine wpList_append_own _ hgd s x 86 ho B 66 i0 .nilIface 1 16 Tryz.underlying86 hi hz0 hz1 hz2 rfl (by decide) v L.length L hs (World.ownsRow.alloc h1 _) ⟨wr.heap.size, 0, Option.none⟩ 1 1 [y] hx rfl
    ?_ ?_ (by unfold maxLen; omega) (by omega) (by simp; omega) ?_
  · exact cell_one_new _ _ _
  · intro u hu
    simp at hu
    subst hu
    exact hy.one
  · intro v' w' hown' hg _
    have hal : Below wr.heap.size wr (wr.alloc (.cells #[y] 66)) := below_one' _ (Nat.le_refl _)
    have hk : Kept wr w' := (Kept.of_below hal).trans (Kept.grown (World.ownsRow.alloc h1 _) rfl hg)
    refine h v' w' ⟨L ++ [y], by rw [List.length_append]; exact hown', (h2.mono fun a b hab => hab.kept hk).snoc (hy.kept hk)⟩ ((hb.alloc (by omega) _).grown hg (by simp; omega) fun k hk => ?_)
    exact (World.ownsRow.lt h1 k hk).1

/-- what make lays -/
def madeV (n : Nat) : Obj := .cells (madeCells (Value.cells (.agg #[.int .i64 0, .bool false, .slice Option.none 0 0, .int .u64 0, .string ⟨#[]⟩, .slice Option.none 0 0])) (n * 6)) 27
def madeP (n : Nat) : Obj := .cells (madeCells (Value.cells .nilIface) n) 66
theorem run_mkvals (n : Nat) (hn : n ≤ 1000000) (w : World) : (Instr.makeSlice 25 (.int .i64 0) (.int .i64 (n : Int))).run Tryz.prog w = .ok (.slice (some ⟨w.heap.size, 0, Option.none⟩) 0 n) (w.alloc (madeV n)) := by
  obtain ⟨i0, hi, hz0, hz1, hz2⟩ := info_parts info_v6
  have := run_make (P := Tryz.prog) (w := w) 25 27 i0 _ Tryz.underlying25 hi hz0 .i64 .i64 0 (n : Int) (by omega) (by omega) (by rw [hz2]; omega) (by omega)
  rw [hz1] at this
  simp only [Int.toNat_natCast, Int.toNat_zero] at this
  exact this
theorem run_mkpvs (n : Nat) (hn : n ≤ 1000000) (w : World) : (Instr.makeSlice 86 (.int .i64 0) (.int .i64 (n : Int))).run Tryz.prog w = .ok (.slice (some ⟨w.heap.size, 0, Option.none⟩) 0 n) (w.alloc (madeP n)) := by
  obtain ⟨i0, hi, hz0, hz1, hz2⟩ := info_parts info_pv
  have := run_make (P := Tryz.prog) (w := w) 86 66 i0 _ Tryz.underlying86 hi hz0 .i64 .i64 0 (n : Int) (by omega) (by omega) (by rw [hz2]; omega) (by omega)
  rw [hz1, Nat.mul_one] at this
  simp only [Int.toNat_natCast, Int.toNat_zero] at this
  exact this
theorem made_vals (n : Nat) (hn : n ≤ 1000000) (w : World) (B : Nat) (hB : B ≤ w.heap.size) : Vals (w.alloc (madeV n)) B (.slice (some ⟨w.heap.size, 0, Option.none⟩) 0 n) [] :=
  ⟨[], World.ownsRow_made w _ n hB (by unfold maxLen; omega) (by rw [size_madeCells]), All.nil _⟩
theorem made_pvs (n : Nat) (hn : n ≤ 1000000) (w : World) (B : Nat) (hB : B ≤ w.heap.size) : Pvals (w.alloc (madeP n)) B (.slice (some ⟨w.heap.size, 0, Option.none⟩) 0 n) [] :=
  ⟨[], World.ownsRow_made w _ n hB (by unfold maxLen; omega) (by rw [size_madeCells, Nat.mul_one]), All.nil _⟩
end Go.Proofs.YtkflmgpigidkeaaGreat.Sc
