/-
  The reference's steps of some kinds alone: a raw step made, whatever the order; a row of raw steps.
-/
import Derived.Test.YtafbheamnjmfoaaGreatDoorAll
import Derived.Test.YtafbheamnjmfoaaGreatLsRunKit
import Derived.Test.YtafbheamnjmfoaaGreatRegAll
namespace Go.Proofs.YtafbheamnjmfoaaGreat.Ls
open Go.RowKit Go.WideShapes Go.Proofs.YtafbheamnjmfoaaGreat.Sc Go.Proofs.YtafbheamnjmfoaaGreat.VRow
set_option linter.unusedVariables false

theorem rawCs_one {k i j m : Int} {y z : V6} (hy : y.One) (hz : z.One) : ∀ u ∈ (rawCs k i j m y z).toList, u.oneCell' = true := by
  intro u hu
  have h' : u ∈ y.cs ∨ u ∈ z.cs ∨ u.oneCell' = true := by
    simp only [rawCs, List.mem_cons, List.mem_nil_iff, or_false] at hu
    simp only [V6.cs, List.mem_cons, List.mem_nil_iff, or_false]
    rcases hu with h | h | h | h | h | h | h | h | h | h | h | h | h | h | h | h | h
    all_goals first | (left; simp [h]; done) | (right; left; simp [h]; done) | (right; right; rw [h]; rfl)
  rcases h' with h' | h' | h'
  · exact hy u h'
  · exact hz u h'
  · exact h'
/-- a raw step's two values (v20, v26), the step (v27), its variable (v28); b20 .. b29: what has come up -/
structure Mo (wr : World) (ri rj rm : Int) (b20 b26 b27 b28 b29 : Bool) (v20 v26 v27 v28 : Value) (W : World) : Prop where
  below : Below wr.heap.size wr W
  ca : b20 = true → ∃ y a, v20 = .agg (V6.arr y) ∧ IsSc W y a ∧ a.ok
  cb : b26 = true → ∃ z b, v26 = .agg (V6.arr z) ∧ IsSc W z b ∧ b.ok
  bd : b27 = true → ∃ y z, v20 = .agg (V6.arr y) ∧ v26 = .agg (V6.arr z) ∧ v27 = .agg (rawCs 4 ri rj rm y z)
  al : b28 = true → ∃ bs c, v28 = .pointer (some ⟨bs, 0, none⟩) ∧ wr.heap.size ≤ bs ∧ Box.Holds W bs 62 c ∧ (b29 = true → v27 = .agg c) ∧ (b29 = false → c = rawCs 0 0 0 0 nil6 nil6)
section
variable {wr W W' : World} {ri rj rm : Int} {b20 b26 b27 b28 b29 : Bool} {v20 v26 v27 v28 : Value}
theorem Mo.later (h : Mo wr ri rj rm b20 b26 b27 b28 b29 v20 v26 v27 v28 W) (hb : Below W.heap.size W W') : Mo wr ri rj rm b20 b26 b27 b28 b29 v20 v26 v27 v28 W' := by
  refine ⟨h.below.trans (hb.mono h.below.size), fun e => ?_, fun e => ?_, h.bd, fun e => ?_⟩
  · obtain ⟨y, a, h1, h2, h3⟩ := h.ca e
    exact ⟨y, a, h1, h2.kept (Kept.of_below hb), h3⟩
  · obtain ⟨y, a, h1, h2, h3⟩ := h.cb e
    exact ⟨y, a, h1, h2.kept (Kept.of_below hb), h3⟩
  · obtain ⟨bs, c, h1, h2, h3, h4, h5⟩ := h.al e
    exact ⟨bs, c, h1, h2, h3.later hb, h4, h5⟩
theorem Mo.seta (h : Mo wr ri rj rm b20 b26 b27 b28 b29 v20 v26 v27 v28 W) (e27 : b27 = false) (hb : Below W.heap.size W W') (y : V6) (a : Sc) (hy : IsSc W' y a) (ha : a.ok) : Mo wr ri rj rm true b26 b27 b28 b29 (.agg y.arr) v26 v27 v28 W' := by
  have h' := h.later hb
  subst e27
  exact ⟨h'.below, fun _ => ⟨y, a, rfl, hy, ha⟩, h'.cb, (fun e => by cases e), h'.al⟩
theorem Mo.setb (h : Mo wr ri rj rm b20 b26 b27 b28 b29 v20 v26 v27 v28 W) (e27 : b27 = false) (hb : Below W.heap.size W W') (y : V6) (a : Sc) (hy : IsSc W' y a) (ha : a.ok) : Mo wr ri rj rm b20 true b27 b28 b29 v20 (.agg y.arr) v27 v28 W' := by
  have h' := h.later hb
  subst e27
  exact ⟨h'.below, h'.ca, fun _ => ⟨y, a, rfl, hy, ha⟩, (fun e => by cases e), h'.al⟩
theorem Mo.build (h : Mo wr ri rj rm b20 b26 b27 b28 b29 v20 v26 v27 v28 W) (e29 : b29 = false) {y z : V6} (hy : v20 = .agg y.arr) (hz : v26 = .agg z.arr) : Mo wr ri rj rm b20 b26 true b28 b29 v20 v26 (.agg (rawCs 4 ri rj rm y z)) v28 W := by
  subst e29
  refine ⟨h.below, h.ca, h.cb, fun _ => ⟨y, z, hy, hz, rfl⟩, fun e => ?_⟩
  obtain ⟨bs, c, h1, h2, h3, h4, h5⟩ := h.al e
  exact ⟨bs, c, h1, h2, h3, (fun e => by cases e), h5⟩
theorem Mo.made (h : Mo wr ri rj rm b20 b26 b27 b28 b29 v20 v26 v27 v28 W) (e29 : b29 = false) : Mo wr ri rj rm b20 b26 b27 true b29 v20 v26 v27 (.pointer (some ⟨W.heap.size, 0, none⟩)) (W.alloc (.cells (rawCs 0 0 0 0 nil6 nil6) 62)) := by
  subst e29
  have h' := h.later (Ref.below_one' (.cells (rawCs 0 0 0 0 nil6 nil6) 62) (Nat.le_refl _))
  exact ⟨h'.below, h'.ca, h'.cb, h'.bd, fun _ => ⟨_, _, rfl, h.below.size, Box.Holds.made _ _ _, (fun e => by cases e), fun _ => rfl⟩⟩
theorem Mo.store {bs : Nat} {c : Array Value} (h : Mo wr ri rj rm b20 b26 b27 b28 b29 v20 v26 v27 v28 W) (h28 : v28 = .pointer (some ⟨bs, 0, none⟩)) (hB : wr.heap.size ≤ bs) (hh : Box.Holds W bs 62 c) {c' : Array Value} (h27 : v27 = .agg c') : Mo wr ri rj rm b20 b26 b27 b28 true v20 v26 v27 v28 (W.setRow bs c') := by
  have hk : Kept W (W.setRow bs c') := fun g cs t fz hn hg => (setRow_other W bs g c' fun e => by
    subst e
    have h1 : W.heap[g]? = _ := hh
    rw [h1] at hg
    cases hg
    cases hn).trans hg
  refine ⟨below_setRow h.below hB c', fun e => ?_, fun e => ?_, h.bd, fun e => ⟨bs, c', h28, hB, setRow_heap W bs c c' _ _ hh, fun _ => h27, fun e => by cases e⟩⟩
  · obtain ⟨y, a, h1, h2, h3⟩ := h.ca e
    exact ⟨y, a, h1, h2.kept hk, h3⟩
  · obtain ⟨y, a, h1, h2, h3⟩ := h.cb e
    exact ⟨y, a, h1, h2.kept hk, h3⟩
theorem arr_inj {y z : V6} (h : Value.agg y.arr = Value.agg z.arr) : y = z := by
  obtain ⟨a, b, c, d, e, f⟩ := y
  obtain ⟨a', b', c', d', e', f'⟩ := z
  simp [V6.arr] at h
  simp [h]
theorem Mo.end_ (h : Mo wr ri rj rm true true true true true v20 v26 v27 v28 W) : ∃ bs y z a b, v28 = .pointer (some ⟨bs, 0, none⟩) ∧ wr.heap.size ≤ bs ∧ Box.Holds W bs 62 (rawCs 4 ri rj rm y z) ∧ IsSc W y a ∧ IsSc W z b ∧ a.ok ∧ b.ok := by
  obtain ⟨y, a, e1, h1, o1⟩ := h.ca rfl
  obtain ⟨z, b, e2, h2, o2⟩ := h.cb rfl
  obtain ⟨y', z', e3, e4, e5⟩ := h.bd rfl
  obtain ⟨bs, c, e6, hB, hh, e7, -⟩ := h.al rfl
  obtain rfl := arr_inj (e1.symm.trans e3)
  obtain rfl := arr_inj (e2.symm.trans e4)
  have e8 := (e7 rfl).symm.trans e5
  simp only [Value.agg.injEq] at e8
  subst e8
  exact ⟨bs, y, z, a, b, e6, hB, hh, h1, h2, o1, o2⟩
end
/-- where a step's cells lie -/
theorem ArgSteps.cells {w W : World} {A : Option Addr} {L : List R17} (h : ArgSteps w A L) (hb : Below w.heap.size w W) {x : Addr} (hx : A = some x) {j : Nat} (hj : j < L.length) :
    (x.add (j * 17)).block < W.heap.size ∧ W.cell? (x.add (j * 17)) = some (.int .i64 L[j].k) ∧ ∀ q u, L[j].cs[q + 1]? = some u → W.cell? ⟨(x.add (j * 17)).block, (x.add (j * 17)).off + (q + 1), none⟩ = some u := by
  have hlt : (x.add (j * 17)).block < w.heap.size := by
    rw [Ref.block_add]
    exact h.lt x hx (by rintro rfl; simp at hj)
  have e : ∀ q, (x.add (j * 17)).add (q + 1) = ⟨(x.add (j * 17)).block, (x.add (j * 17)).off + (q + 1), none⟩ := fun q => by
    unfold Addr.add
    rw [if_neg (by omega)]
  refine ⟨Nat.lt_of_lt_of_le hlt hb.size, (hb.cell hlt).trans ?_, fun q u hu => ?_⟩
  · have := h.at_ x hx j hj 0 _ rfl
    rwa [show (x.add (j * 17)).add 0 = x.add (j * 17) by unfold Addr.add; rw [if_pos rfl]] at this
  · have := h.at_ x hx j hj (q + 1) u hu
    rw [e q] at this
    exact (hb.cell (p := ⟨(x.add (j * 17)).block, (x.add (j * 17)).off + (q + 1), none⟩) hlt).trans this
/-- 'append(steps, s)' of a raw step -/
theorem wpList_raw {ops : Array Oper} {rest : List Oper} {o : Oper} {a : Act} {Q : Exit → Act → World → Prop} {wr : World} {B : Nat} (hgd : o.guard = Option.none) (s x : Operand)
    (ho : o.op = .call { callee := .builtin .append, args := #[s, x], argTypes := #[34, 34] })
    (v : Value) (R : List Rw) (hs : a.eval s = v) (hv : Raws wr B v R) (hB : B ≤ wr.heap.size) (r : Rw) (y z : V6) (hy : IsSc wr y r.a) (hz : IsSc wr z r.b)
    (hx : a.eval x = .slice (some ⟨wr.heap.size, 0, Option.none⟩) 1 1) (hn : R.length ≤ 1000000)
    (h : ∀ v' w', Raws w' B v' (R ++ [r]) → wr.grownBy w' v.ownBlock → (∀ b, v'.ownBlock = some b → v.ownBlock = some b ∨ wr.heap.size < b) → wpList Tryz.prog ops Q rest (a.put o.dst v') w') :
    wpList Tryz.prog ops Q (o :: rest) a (wr.alloc (.cells (rawCs r.k r.i r.j r.m y z) 62)) := by
  obtain ⟨L, h1, h2⟩ := hv
  obtain ⟨i0, hi, hz0, hz1, hz2⟩ := info_parts info_step
  refine wpList_rec Tryz.underlying34 hi hz0 hz1 hz2 rfl (by decide) (by decide) hgd s x ho v L hs h1 hB _ rfl (rawCs_one hy.one hz.one) hx (by rw [h2.1]; exact hn) fun v' w' h3 h4 h5 => h v' w' ⟨_, h3, ?_⟩ h4 h5
  have hk : Kept wr w' := Kept.grown h1.1 rfl h4
  exact (h2.mono fun a b hab => hab.kept hk).snoc ⟨y, z, rfl, hy.kept hk, hz.kept hk⟩
/-- the kinds of a step of a list -/
def Kd (k : Int) : Prop := (k = 0 ∨ k = 1 ∨ k = 2 ∨ k = 3 ∨ k = 27) ∨ (k = 4 ∨ k = 5 ∨ k = 6 ∨ k = 7 ∨ k = 8 ∨ k = 11)
/-- a raw step under way: the steps made so far, this one -/
structure On1 (w : World) (u : Value) (R : List Rw) (bs : Nat) (K i j m : Int) (y z : V6) (a b : Sc) (W : World) : Prop where
  raws : Raws W w.heap.size u R
  hold : Box.Holds W bs 62 (rawCs K i j m y z)
  y : IsSc W y a
  z : IsSc W z b
  below : Below w.heap.size w W
  ne : ∀ g, u.ownBlock = some g → g ≠ bs
  ge : w.heap.size ≤ bs
theorem On1.later {w W W' : World} {u : Value} {R : List Rw} {bs : Nat} {K i j m : Int} {y z : V6} {a b : Sc} (h : On1 w u R bs K i j m y z a b W) (hb : Below W.heap.size W W') : On1 w u R bs K i j m y z a b W' :=
  ⟨h.raws.later hb, h.hold.later hb, h.y.kept (Kept.of_below hb), h.z.kept (Kept.of_below hb), h.below.trans (hb.mono h.below.size), h.ne, h.ge⟩
theorem On1.kind {w W : World} {u : Value} {R : List Rw} {bs : Nat} {K i j m : Int} {y z : V6} {a b : Sc} (h : On1 w u R bs K i j m y z a b W) (K' : Int) : On1 w u R bs K' i j m y z a b (W.setCell ⟨bs, 0, none⟩ (.int .i64 K')) := by
  have hk : KeptT (fun g _ => g ≠ bs) W (W.setCell ⟨bs, 0, none⟩ (.int .i64 K')) := KeptT.setCell (p := ⟨bs, 0, none⟩) h.hold (fun h => h rfl) _
  have hkn : Kept W (W.setCell ⟨bs, 0, none⟩ (.int .i64 K')) := Kept.setCell (p := ⟨bs, 0, none⟩) h.hold rfl _
  refine ⟨?_, h.hold.put 0 _, h.y.kept hkn, h.z.kept hkn, h.below.setCell (p := ⟨bs, 0, none⟩) h.ge _, h.ne, h.ge⟩
  obtain ⟨L, h1, h2⟩ := h.raws
  exact ⟨L, h1.kept hk h.ne, h2.mono fun _ _ hab => hab.kept hkn⟩
end Go.Proofs.YtafbheamnjmfoaaGreat.Ls
