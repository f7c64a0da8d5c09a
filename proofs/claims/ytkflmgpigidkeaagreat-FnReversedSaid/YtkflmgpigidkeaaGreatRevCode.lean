/-
  The last element first: the package's code.
-/
import Derived.Test.YtkflmgpigidkeaaGreatScPut
import Derived.Test.YtkflmgpigidkeaaGreatRevIter
import Derived.Defers
import Derived.BigRegion
import Derived.IntWalk
import Derived.Deep.DeepCutAuto
import Derived.Deep.Light
namespace Go.Proofs.YtkflmgpigidkeaaGreat.Rev
open Go.RowKit Go.WideShapes Go.Proofs.YtkflmgpigidkeaaGreat.Sc
set_option linter.unusedVariables false

/-- the first i of each end have changed their places -/
def swp (S : List Sc) (i : Nat) : List Sc := (List.range S.length).map fun j => if j < i ∨ S.length ≤ i + j then S.getD (S.length - 1 - j) .none else S.getD j .none
theorem swp_length (S : List Sc) (i : Nat) : (swp S i).length = S.length := by simp [swp]
theorem swp_get (S : List Sc) (i j : Nat) (hj : j < S.length) : (swp S i)[j]'(by rw [swp_length]; exact hj) = if j < i ∨ S.length ≤ i + j then S[S.length - 1 - j] else S[j] := by
  have h2 : S.length - 1 - j < S.length := by omega
  simp [swp, List.getElem?_eq_getElem hj, List.getElem?_eq_getElem h2]
theorem swp_zero (S : List Sc) : swp S 0 = S := by
  apply List.ext_getElem (swp_length _ _)
  intro j h1 h2
  rw [swp_get S 0 j h2, if_neg (by omega)]
theorem swp_end (S : List Sc) (i : Nat) (h : S.length ≤ 2 * i + 1) (h' : 2 * i ≤ S.length) : swp S i = S.reverse := by
  apply List.ext_getElem (by rw [swp_length, List.length_reverse])
  intro j h1 h2
  rw [swp_length] at h1
  rw [swp_get S i j h1, List.getElem_reverse]
  split
  · rfl
  · congr 1; omega
theorem swp_step (S : List Sc) (i m : Nat) (hm : S.length - 1 - i = m) (hi : 2 * i + 1 < S.length) : ((swp S i).set i (S[m]'(by omega))).set m (S[i]'(by omega)) = swp S (i + 1) := by
  apply List.ext_getElem (by rw [List.length_set, List.length_set, swp_length, swp_length])
  intro j h1 h2
  rw [swp_length] at h2
  rw [List.getElem_set, List.getElem_set, swp_get S (i + 1) j h2]
  by_cases e1 : m = j
  · subst e1
    rw [if_pos rfl, if_pos (by omega)]
    congr 1; omega
  · rw [if_neg e1]
    by_cases e2 : i = j
    · subst e2
      rw [if_pos rfl, if_pos (by omega)]
      congr 1; omega
    · rw [if_neg e2, swp_get S i j h2]
      by_cases e3 : j < i ∨ S.length ≤ i + j
      · rw [if_pos e3, if_pos (by omega)]
      · rw [if_neg e3, if_neg (by omega)]

theorem m_iterate (v : Value) (w : World) : (method 495 73 v "Iterate").run Tryz.prog w = .ok (103, v) w := by kernel_rfl
theorem m_next (v : Value) (w : World) : (method 495 216 v "Next").run Tryz.prog w = .ok (283, v) w := by kernel_rfl
theorem m_done (v : Value) (w : World) : (method 495 216 v "Done").run Tryz.prog w = .ok (282, v) w := by kernel_rfl
theorem m_len (v : Value) (w : World) : (method 495 73 v "Len").run Tryz.prog w = .ok (80, v) w := by kernel_rfl
theorem no_sstr (v : Value) (w : World) : (Instr.typeAssert (.iface 73 v) 66 71 true).run Tryz.prog w = .ok (.tuple #[.string ⟨#[]⟩, .bool false]) w := by kernel_rfl
theorem is_indexable (v : Value) (w : World) : (Instr.typeAssert (.iface 73 v) 66 235 true).run Tryz.prog w = .ok (.tuple #[.iface 73 v, .bool true]) w := by kernel_rfl

set_option maxRecDepth 100000 in
theorem len_any (g : Nat) (a : Option Addr) (n c : Nat) (x y : Value) (w : World) (h : Box.Holds w g 142 #[.slice a n c, x, y]) : Calls Tryz.prog 135 #[.iface 73 (.pointer (some ⟨g, 0, none⟩))] w fun e w' => e = .returned (.int .i64 n) ∧ w = w' := by
  have h1 := no_sstr
  have h2 := is_indexable
  have h3 := m_len
  have hc := Lib.hid (llen_any g a n c x y w h)
  clear h
  go_enter Tryz.func135, Tryz.ntmps135
  go_wp2_with fail
  refine hc.out.mono ?_
  rintro e w' ⟨rfl, rfl⟩
  go_wp2
  go_ret
  exact ⟨rfl, rfl⟩
set_option maxRecDepth 100000 in
theorem done_d (b g : Nat) (v i : Value) (it : Nat) (h0 : 0 < it) (hit : it < 4294967296) (u : FrameMode) (w : World) (hb : Box.Holds w b 218 #[.pointer (some ⟨g, 0, none⟩), i]) (h : Box.Holds w g 142 #[v, .bool false, .int .u32 it]) : CallsD Tryz.prog 282 #[.pointer (some ⟨b, 0, none⟩)] u w fun e u' w' => u' = u ∧ (e = .returned (.tuple #[]) ∧ w' = w.setCell ⟨g, 2, none⟩ (.int .u32 ((it : Int) - 1))) := by
  have j0 := hb.cell 0
  have k1 := h.cell 1
  have k2 := h.cell 2
  simp at j0 k1 k2
  have hl := h.lt
  have hl' := hb.lt
  have f2 := h.free 2
  go_enter_d Tryz.func282, Tryz.ntmps282
  go_wp2
  go_end0
  exact ⟨rfl, rfl⟩

/-- what stands below block N: the list, its row -/
structure Base (g B0 : Nat) (v : Value) (S : List Sc) (w1 : World) : Prop where
  hg : Box.Holds w1 g 142 #[v, .bool false, .int .u32 1]
  rows : Pvals w1 B0 v S
  len : S.length ≤ 1000
/-- ahead of round k: the iterator, the variable, what has been gathered -/
structure LR (g : Nat) (S : List Sc) (k : Nat) (out : Value) (w1 wr : World) : Prop where
  it : Box.Holds wr w1.heap.size 218 #[.pointer (some ⟨g, 0, none⟩), .int .i64 k]
  var : ∃ u, Box.Holds wr (w1.heap.size + 2) 66 #[u]
  got : Pvals wr (w1.heap.size + 1) out (S.take k)
  own : ∀ b, out.ownBlock = some b → b ≠ w1.heap.size + 2
  below : Below w1.heap.size w1 wr
/-- behind the iterator's step -/
structure LM (g : Nat) (S : List Sc) (k : Nat) (out p : Value) (w1 wr : World) : Prop where
  it : Box.Holds wr w1.heap.size 218 #[.pointer (some ⟨g, 0, none⟩), .int .i64 ((k + 1 : Nat) : Int)]
  var : Box.Holds wr (w1.heap.size + 2) 66 #[p]
  pv : ∃ hk : k < S.length, IsPv wr p S[k]
  got : Pvals wr (w1.heap.size + 1) out (S.take k)
  own : ∀ b, out.ownBlock = some b → b ≠ w1.heap.size + 2
  below : Below w1.heap.size w1 wr
theorem own_ge {w : World} {B : Nat} {v : Value} {S : List Sc} (h : Pvals w B v S) : ∀ b, v.ownBlock = some b → B ≤ b ∧ b < w.heap.size := by
  obtain ⟨L, h1, h2⟩ := h
  exact World.ownsRow.lt h1
theorem LR.next {g B0 : Nat} {v out : Value} {S : List Sc} {k : Nat} {w1 wr : World} (hb : Base g B0 v S w1) (h : LR g S k out w1 wr) (hk : k < S.length) :
    Calls Tryz.prog 283 #[.pointer (some ⟨w1.heap.size, 0, none⟩), .pointer (some ⟨w1.heap.size + 2, 0, none⟩)] wr fun e w' => e = .returned (.bool true) ∧ ∃ p, LM g S k out p w1 w' := by
  obtain ⟨r, cap, p, rfl, hr, hB, hc, hcell, hfr, hp⟩ := hb.rows.at_ hk
  obtain ⟨u, hu⟩ := h.var
  have hgl := hb.hg.lt
  have hlen := hb.len
  refine (next_some w1.heap.size g (w1.heap.size + 2) r S.length cap k _ _ u p wr hk (by omega) h.it (hb.hg.below h.below hgl) hu ((h.below.cell (p := ⟨r, k, none⟩) hr).trans hcell) hp.form (by omega)).mono ?_
  rintro e w' ⟨rfl, q, rfl⟩
  have i1 : Box.Holds (wr.setCell ⟨w1.heap.size + 2, 0, none⟩ p) w1.heap.size 218 _ := h.it.apart (p := ⟨w1.heap.size + 2, 0, none⟩) (by show w1.heap.size ≠ w1.heap.size + 2; omega) p
  have v1 : Box.Holds (wr.setCell ⟨w1.heap.size + 2, 0, none⟩ p) (w1.heap.size + 2) 66 #[p] := hu.put 0 p
  have o1 : Pvals (wr.setCell ⟨w1.heap.size + 2, 0, none⟩ p) (w1.heap.size + 1) out (S.take k) := h.got.setCell (p := ⟨w1.heap.size + 2, 0, none⟩) hu rfl (fun e => h.own _ e rfl) p
  have o2 : Pvals ((wr.setCell ⟨w1.heap.size + 2, 0, none⟩ p).setCell ⟨w1.heap.size, 1, none⟩ (.int .i64 ((k : Int) + 1))) (w1.heap.size + 1) out (S.take k) := o1.setCell (p := ⟨w1.heap.size, 1, none⟩) i1 rfl (fun e => by have := (own_ge o1 _ e).1; simp only at this; omega) _
  have kp : Kept wr ((wr.setCell ⟨w1.heap.size + 2, 0, none⟩ p).setCell ⟨w1.heap.size, 1, none⟩ (.int .i64 ((k : Int) + 1))) := (Kept.setCell (p := ⟨w1.heap.size + 2, 0, none⟩) hu rfl p).trans (Kept.setCell (p := ⟨w1.heap.size, 1, none⟩) i1 rfl _)
  refine ⟨rfl, p, ?_, ?_, ⟨hk, ?_⟩, ?_, h.own, ?_⟩
  · have := i1.put 1 (.int .i64 ((k : Int) + 1))
    rw [show ((k + 1 : Nat) : Int) = (k : Int) + 1 by omega]
    exact this
  · exact (v1.apart (p := ⟨w1.heap.size, 1, none⟩) (by show w1.heap.size + 2 ≠ w1.heap.size; omega) _).drawn q
  · exact (hp.kept ((Kept.of_below h.below).trans kp)).kept (fun _ _ _ _ _ hh => hh)
  · exact o2.same rfl
  · exact Box.below_drawn ((h.below.setCell (p := ⟨w1.heap.size + 2, 0, none⟩) (by show w1.heap.size ≤ w1.heap.size + 2; omega) p).setCell (p := ⟨w1.heap.size, 1, none⟩) (Nat.le_refl _) _) q
theorem LR.stop {g B0 : Nat} {v out : Value} {S : List Sc} {k : Nat} {w1 wr : World} (hb : Base g B0 v S w1) (h : LR g S k out w1 wr) (hk : S.length ≤ k) (hk2 : k ≤ 1000) :
    Calls Tryz.prog 283 #[.pointer (some ⟨w1.heap.size, 0, none⟩), .pointer (some ⟨w1.heap.size + 2, 0, none⟩)] wr fun e w' => e = .returned (.bool false) ∧ ∃ q, w' = wr.drewN q := by
  obtain ⟨A, c, rfl⟩ := hb.rows.shape
  have hlen := hb.len
  exact next_none w1.heap.size g (w1.heap.size + 2) A S.length c k _ _ wr hk (by omega) (by omega) h.it (hb.hg.below h.below hb.hg.lt)
theorem LM.done {g : Nat} {S : List Sc} {k : Nat} {out p v' : Value} {w1 wr w' : World} (h : LM g S k out p w1 wr) (hv : Pvals w' (w1.heap.size + 1) v' (S.take k ++ [S.getD k .none])) (hb : Below (w1.heap.size + 1) wr w')
    (ho : ∀ b, v'.ownBlock = some b → out.ownBlock = some b ∨ wr.heap.size < b) (hk : ∀ g, some g ≠ out.ownBlock → g < wr.heap.size → w'.heap[g]? = wr.heap[g]?) : LR g S (k + 1) v' w1 w' := by
  obtain ⟨hlt, hp⟩ := h.pv
  have hvl := h.var.lt
  refine ⟨h.it.below hb (Nat.lt_succ_self _), ⟨p, (hk _ (fun e => h.own _ e.symm rfl) hvl).trans h.var⟩, hv.eq ?_, fun b hb' => ?_, h.below.trans (hb.mono (Nat.le_succ _))⟩
  · rw [List.take_succ_eq_append_getElem hlt]
    simp [List.getD, List.getElem?_eq_getElem hlt]
  · rcases ho b hb' with e | e
    · exact h.own b e
    · omega

theorem LR.start {g B0 : Nat} {v : Value} {S : List Sc} {w1 : World} (hb : Base g B0 v S w1) :
    LR g S 0 (.slice (some ⟨w1.heap.size + 1, 0, none⟩) 0 S.length) w1 (((w1.alloc (.cells #[.pointer (some ⟨g, 0, none⟩), .int .i64 0] 218)).alloc (madeP S.length)).alloc (.cells #[.nilIface] 66)) := by
  have hlen := hb.len
  refine ⟨((Box.Holds.made w1 _ _).alloc _).alloc _, ⟨.nilIface, ?_⟩, ?_, fun b hb' => ?_, ((Ref.below_one' _ (Nat.le_refl _)).alloc (by simp) _).alloc (by simp; omega) _⟩
  · have := Box.Holds.made ((w1.alloc (.cells #[.pointer (some ⟨g, 0, none⟩), .int .i64 0] 218)).alloc (madeP S.length)) 66 #[.nilIface]
    simpa using this
  · have := made_pvs S.length (by omega) (w1.alloc (.cells #[.pointer (some ⟨g, 0, none⟩), .int .i64 0] 218)) (w1.heap.size + 1) (by simp)
    rw [World.size_alloc] at this
    exact this.later (Ref.below_one' _ (Nat.le_refl _))
  · simp only [Value.ownBlock, Option.some.injEq] at hb'
    omega
def RevList (g : Nat) (w : World) (S : List Sc) (e : Ending) (w' : World) : Prop := (∃ g2 v2, e = .returned (.tuple #[.iface 73 (.pointer (some ⟨g2, 0, none⟩)), .nilIface]) ∧ Box.Holds w' g2 142 #[v2, .bool false, .int .u32 0] ∧ Pvals w' w.heap.size v2 S ∧ w.heap.size ≤ g2) ∧ Below g w w'

theorem via {P : Program} {c : Code} {Q : Exit → Act → World → Prop} {a : Act} {w W2 : World} (f : Act → Act) (h : ∀ Q' : Exit → Act → World → Prop, Q' .normal (f a) W2 → Code.wp P c Q' a w) (k : Q .normal (f a) W2) : Code.wp P c Q a w := h Q k
/-- while places are changed -/
structure SW (g : Nat) (S : List Sc) (j : Nat) (out : Value) (w1 wr : World) : Prop where
  it : Box.Holds wr w1.heap.size 218 #[.pointer (some ⟨g, 0, none⟩), .int .i64 S.length]
  got : Pvals wr (w1.heap.size + 1) out (swp S j)
  below : Below w1.heap.size w1 wr
theorem SW.start {g : Nat} {S : List Sc} {out : Value} {w1 wr : World} (h : LR g S S.length out w1 wr) (q : Nat) : SW g S 0 out w1 (wr.drewN q) :=
  ⟨h.it.drawn q, (h.got.same rfl).eq (by rw [swp_zero, List.take_length]), Box.below_drawn h.below q⟩
theorem SW.step {g : Nat} {S : List Sc} {j m b co : Nat} {w1 wr : World} {x1 x2 : Value} (h : SW g S j (.slice (some ⟨b, 0, none⟩) S.length co) w1 wr) (hm : S.length - 1 - j = m) (hj : 2 * j + 1 < S.length) (hb : w1.heap.size + 1 ≤ b)
    (h1 : IsPv wr x1 (S[j]'(by omega))) (h2 : IsPv wr x2 (S[m]'(by omega))) : SW g S (j + 1) (.slice (some ⟨b, 0, none⟩) S.length co) w1 ((wr.setCell ⟨b, j, none⟩ x2).setCell ⟨b, m, none⟩ x1).drew := by
  have q1 : Pvals (wr.setCell ⟨b, j, none⟩ x2) (w1.heap.size + 1) (.slice (some ⟨b, 0, none⟩) S.length co) _ := h.got.put (j := j) h2
  have hk : Kept wr (wr.setCell ⟨b, j, none⟩ x2) := by
    obtain ⟨L, o, _⟩ := h.got
    rcases o.2 with ⟨e, _⟩ | ⟨g', cap', cur, e, _, hg, _⟩
    · cases e
    · simp only [Value.slice.injEq, Option.some.injEq, Addr.mk.injEq] at e
      obtain ⟨⟨rfl, -⟩, -⟩ := e
      exact Kept.setCell (p := ⟨b, j, none⟩) hg rfl x2
  have q2 := q1.put (j := m) (h1.kept hk)
  refine ⟨((h.it.apart (p := ⟨b, j, none⟩) (by show w1.heap.size ≠ b; omega) _).apart (p := ⟨b, m, none⟩) (by show w1.heap.size ≠ b; omega) _).drawn 1, (q2.same rfl).eq (swp_step S j m hm hj), ?_⟩
  exact Below.drew ((h.below.setCell (p := ⟨b, j, none⟩) (by show w1.heap.size ≤ b; omega) x2).setCell (p := ⟨b, m, none⟩) (by show w1.heap.size ≤ b; omega) x1)
end Go.Proofs.YtkflmgpigidkeaaGreat.Rev
