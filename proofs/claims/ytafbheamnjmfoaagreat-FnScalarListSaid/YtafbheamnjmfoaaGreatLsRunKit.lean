/-
  The reference's script of a list: raw steps; a call of Clean, an append of zero among what draws its order.
-/
import Derived.Test.YtafbheamnjmfoaaGreatLsTurns
namespace Go.Proofs.YtafbheamnjmfoaaGreat.Ls
open Go.RowKit Go.WideShapes Go.Proofs.YtafbheamnjmfoaaGreat.Sc Go.Proofs.YtafbheamnjmfoaaGreat.VRow
set_option linter.unusedVariables false

/-- a raw step -/
structure Rw where
  k : Int
  i : Int
  j : Int
  m : Int
  a : Sc
  b : Sc
structure Rw.Good (r : Rw) : Prop where
  a : r.a.ok
  b : r.b.ok
  k : (r.k = 0 ∨ r.k = 1 ∨ r.k = 2 ∨ r.k = 3 ∨ r.k = 27) ∨ (r.k = 4 ∨ r.k = 5 ∨ r.k = 6 ∨ r.k = 7 ∨ r.k = 8 ∨ r.k = 11)
  m1 : -9223372036854775808 ≤ r.m
  m2 : r.m ≤ 9223372036854775807
def IsRw (w : World) (c : List Value) (r : Rw) : Prop := ∃ y z, c = (rawCs r.k r.i r.j r.m y z).toList ∧ IsSc w y r.a ∧ IsSc w z r.b
theorem IsRw.kept {w w' : World} {c : List Value} {r : Rw} (h : IsRw w c r) (hk : Kept w w') : IsRw w' c r := by
  obtain ⟨y, z, h1, h2, h3⟩ := h
  exact ⟨y, z, h1, h2.kept hk, h3.kept hk⟩
def Raws (w : World) (B : Nat) (v : Value) (R : List Rw) : Prop := ∃ L, OwnR 62 17 w B v L ∧ All (IsRw w) L R
theorem Raws.later {w w' : World} {B : Nat} {v : Value} {R : List Rw} (h : Raws w B v R) (hb : Below w.heap.size w w') : Raws w' B v R := by
  obtain ⟨L, h1, h2⟩ := h
  exact ⟨L, h1.later hb, h2.mono fun _ _ hab => hab.kept (Kept.of_below hb)⟩
theorem Raws.shape {w : World} {B : Nat} {v : Value} {R : List Rw} (h : Raws w B v R) : ∃ A cap, v = .slice A R.length cap := by
  obtain ⟨L, h1, h2⟩ := h
  rw [← h2.1]
  exact h1.shape
/-- a call of Clean, as a step of a region that draws -/
theorem step_clean {ops : Array Oper} {o : Oper} {a : Act} {K : Act → World → Prop} {Q : Exit → Act → World → Prop} {E : Prop} {wr : World} (hgd : o.guard = none) (x : Operand)
    (ho : o.op = .call { callee := .value (.func 29), args := #[x, .const (.int .i64 2)], argTypes := #[28, 3] })
    (y : V6) (s : Sc) (hx : a.eval x = .agg y.arr) (hok : s.ok) (hy : IsSc wr y s)
    (h : ∀ yn ya yl yc yb yt w', IsSc w' ⟨.int .i64 s.kind, .bool yn, .slice ya yl yc, .int .u64 yb, .string yt, .slice none 0 0⟩ s → Below wr.heap.size wr w' → K (a.put o.dst (.agg #[.int .i64 s.kind, .bool yn, .slice ya yl yc, .int .u64 yb, .string yt, .slice none 0 0])) w') :
    if Region.wanted o (yielded ops a.tmps) = true then Oper.wp Tryz.prog o a wr K Q else E := by
  have hw : Region.wanted o (yielded ops a.tmps) = true := by simp [Region.wanted, hgd]
  rw [if_pos hw]
  have hrun : (execOp a.eval o).run Tryz.prog wr = .ok (.enter 29 #[.agg y.arr, .int .i64 2]) wr := by
    have e1 : a.eval (.func 29) = .func (.func 29) #[] #[] := rfl
    have e2 : a.eval (.const (.int .i64 2)) = .int .i64 2 := rfl
    simp [execOp, ho, resolve, invoke, hx, e1, e2, Deferred.ofValue]
  unfold Oper.wp
  rw [hrun, Oper.upon_enter]
  refine (clean2_any y s wr hok hy).mono ?_
  rintro e w' ⟨⟨y', rfl, hy'⟩, hb⟩
  obtain ⟨yn, ya, yl, yc, yb, yt, rfl⟩ := hy'.form
  exact h yn ya yl yc yb yt w' hy' hb
/-- an element put behind the list, its cells stored, then the list's variable -/
theorem rl_append {WA w4 : World} {B bl g cap : Nat} {v : Value} {S : List Sc} {y : V6} {t : Sc} (h : Rl WA B bl v S) (hB : B ≤ WA.heap.size) (hg : WA.grownBy w4 v.ownBlock) (hv' : Vals w4 B (.slice (some ⟨g, 0, none⟩) (S.length + 1) cap) (S ++ [.none])) (hlie : v.ownBlock = some g ∨ g = WA.heap.size) (hy : IsSc WA y t) :
    At w4 g S.length nil6 ∧ (∃ cg, Box.Holds w4 g 28 cg) ∧ g ≠ bl ∧ Box.Holds w4 bl 26 #[v] ∧ Hid (Rl (((((((w4.setCell ⟨g, S.length * 6, none⟩ y.k).setCell ⟨g, S.length * 6 + 1, none⟩ y.n).setCell ⟨g, S.length * 6 + 2, none⟩ y.m).setCell ⟨g, S.length * 6 + 3, none⟩ y.b).setCell ⟨g, S.length * 6 + 4, none⟩ y.t).setCell ⟨g, S.length * 6 + 5, none⟩ y.s).setCell ⟨bl, 0, none⟩ (.slice (some ⟨g, 0, none⟩) (S.length + 1) cap)) B bl (.slice (some ⟨g, 0, none⟩) (S.length + 1) cap) (S ++ [t]) ∧ Below B WA (((((((w4.setCell ⟨g, S.length * 6, none⟩ y.k).setCell ⟨g, S.length * 6 + 1, none⟩ y.n).setCell ⟨g, S.length * 6 + 2, none⟩ y.m).setCell ⟨g, S.length * 6 + 3, none⟩ y.b).setCell ⟨g, S.length * 6 + 4, none⟩ y.t).setCell ⟨g, S.length * 6 + 5, none⟩ y.s).setCell ⟨bl, 0, none⟩ (.slice (some ⟨g, 0, none⟩) (S.length + 1) cap))) := by
  obtain ⟨L, hL, _⟩ := h.row
  have hkn : Kept WA w4 := Kept.grown hL rfl hg
  have hbl := own_grown hg h.hold fun e => own_ne hL h.hold (by decide) e
  obtain ⟨g', cap', u, e, hgl, hBg, hc, hat, hu⟩ := hv'.at_ (j := S.length) (by simp)
  simp only [Value.slice.injEq, Option.some.injEq, Addr.mk.injEq, and_true] at e
  obtain ⟨rfl, -⟩ := e
  have hu' : IsSc w4 u .none := by simpa using hu
  obtain rfl : u = nil6 := hu'
  obtain ⟨hv6, ⟨cg, hcg⟩, hf6⟩ := vals_store (j := S.length) hv' (by simp) (hy.kept hkn)
  rw [show (S ++ [Sc.none]).set S.length t = S ++ [t] by simp] at hv6
  have hgr := grown_set (o := S.length * 6 + 5) (u := y.s) (grown_set (o := S.length * 6 + 4) (u := y.t) (grown_set (o := S.length * 6 + 3) (u := y.b) (grown_set (o := S.length * 6 + 2) (u := y.m) (grown_set (o := S.length * 6 + 1) (u := y.n) (grown_set (o := S.length * 6) (u := y.k) (W := w4) (g := g) ⟨rfl, rfl, rfl, Nat.le_refl _, fun _ _ _ => rfl⟩)))))
  have hb1 : Below B WA w4 := (Below.refl B WA).grown hg hB fun k hk => (World.ownsRow.lt hL k hk).1
  have hne : g ≠ bl := holds_ne hcg hbl (by decide)
  refine ⟨hat, ⟨cg, hcg⟩, hne, hbl, ?_⟩
  obtain ⟨W6, hW6⟩ : ∃ W6, ((((((w4.setCell ⟨g, S.length * 6, none⟩ y.k).setCell ⟨g, S.length * 6 + 1, none⟩ y.n).setCell ⟨g, S.length * 6 + 2, none⟩ y.m).setCell ⟨g, S.length * 6 + 3, none⟩ y.b).setCell ⟨g, S.length * 6 + 4, none⟩ y.t).setCell ⟨g, S.length * 6 + 5, none⟩ y.s) = W6 := ⟨_, rfl⟩
  rw [hW6] at hv6 hgr ⊢
  have hb6 := own_grown hgr hbl fun e => hne (Option.some.inj e)
  have hb2 : Below B WA W6 := hb1.grown hgr (Nat.le_trans hB hb1.size) fun k hk => by cases hk; exact hBg
  exact Lib.hid ⟨⟨hb6.put 0 _, vals_put hv6 hb6 (by decide) rfl (p := ⟨bl, 0, none⟩) _, h.ge⟩, hb2.setCell (p := ⟨bl, 0, none⟩) h.ge _⟩
end Go.Proofs.YtafbheamnjmfoaaGreat.Ls
