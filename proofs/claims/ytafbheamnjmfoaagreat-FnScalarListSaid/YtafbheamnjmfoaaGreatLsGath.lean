/-
  The reference's script of a list: an element more, cleaned: what stands whatever the order.
-/
import Derived.Test.YtafbheamnjmfoaaGreatLsRunKit
import Derived.Test.YtafbheamnjmfoaaGreatRegAll
namespace Go.Proofs.YtafbheamnjmfoaaGreat.Ls
open Go.RowKit Go.WideShapes Go.Proofs.YtafbheamnjmfoaaGreat.Sc Go.Proofs.YtafbheamnjmfoaaGreat.VRow
set_option linter.unusedVariables false

def six (W : World) (g o : Nat) (y : V6) : World := (((((W.setCell ⟨g, o, none⟩ y.k).setCell ⟨g, o + 1, none⟩ y.n).setCell ⟨g, o + 2, none⟩ y.m).setCell ⟨g, o + 3, none⟩ y.b).setCell ⟨g, o + 4, none⟩ y.t).setCell ⟨g, o + 5, none⟩ y.s
/-- the list's variable (block bl), its row; the element cleaned (v5), a zero (v7), the longer row (v8); b5 .. b11: what has come up -/
structure Mem5 (w : World) (bl : Nat) (v : Value) (l : List Sc) (s : Sc) (b5 b7 b8 b10 b11 : Bool) (v5 v7 v8 : Value) (W : World) : Prop where
  below : Below w.heap.size w W
  ge : w.heap.size ≤ bl
  hold : Box.Holds W bl 26 #[if b11 then v8 else v]
  row : b8 = false → Vals W w.heap.size v l
  cln : b5 = true → ∃ z, v5 = .agg (V6.arr z) ∧ IsSc W z s
  src : b7 = true → b8 = false → ∃ gb, v7 = .slice (some ⟨gb, 0, none⟩) 1 1 ∧ Rem.Holds W gb 28 nil6.arr
  app : b8 = true → ∃ g cap, v8 = .slice (some ⟨g, 0, none⟩) (l.length + 1) cap ∧ Vals W w.heap.size v8 (l ++ [if b10 then s else .none])
variable {w W W' : World} {bl : Nat} {v : Value} {l : List Sc} {s : Sc} {b5 b7 b8 b10 b11 : Bool} {v5 v7 v8 : Value}
theorem Mem5.later (h : Mem5 w bl v l s b5 b7 b8 b10 b11 v5 v7 v8 W) (hb : Below W.heap.size W W') : Mem5 w bl v l s b5 b7 b8 b10 b11 v5 v7 v8 W' := by
  refine ⟨h.below.trans (hb.mono h.below.size), h.ge, h.hold.later hb, fun e => (h.row e).later hb, fun e => ?_, fun e e' => ?_, fun e => ?_⟩
  · obtain ⟨z, h1, h2⟩ := h.cln e
    exact ⟨z, h1, h2.kept (Kept.of_below hb)⟩
  · obtain ⟨gb, h1, h2⟩ := h.src e e'
    exact ⟨gb, h1, Rem.Holds.later h2 hb⟩
  · obtain ⟨g, cap, h1, h2⟩ := h.app e
    exact ⟨g, cap, h1, h2.later hb⟩
theorem Mem5.clean (h : Mem5 w bl v l s b5 b7 b8 b10 b11 v5 v7 v8 W) (hb : Below W.heap.size W W') (z : V6) (hz : IsSc W' z s) : Mem5 w bl v l s true b7 b8 b10 b11 (.agg z.arr) v7 v8 W' :=
  let h' := h.later hb
  ⟨h'.below, h'.ge, h'.hold, h'.row, fun _ => ⟨z, rfl, hz⟩, h'.src, h'.app⟩
theorem Mem5.zero (h : Mem5 w bl v l s b5 b7 b8 b10 b11 v5 v7 v8 W) (e8 : b8 = false) : Mem5 w bl v l s b5 true b8 b10 b11 v5 (.slice (some ⟨W.heap.size, 0, none⟩) 1 1) v8 (W.alloc (.cells nil6.arr 28)) := by
  subst e8
  have h' := h.later (Ref.below_one' (.cells nil6.arr 28) (Nat.le_refl _))
  exact ⟨h'.below, h'.ge, h'.hold, h'.row, h'.cln, fun _ _ => ⟨_, rfl, Rem.Holds.made W 28 nil6.arr⟩, h'.app⟩
theorem Mem5.append {g cap : Nat} (h : Mem5 w bl v l s b5 b7 b8 b10 b11 v5 v7 v8 W) (e8 : b8 = false) (e10 : b10 = false) (e11 : b11 = false) (hv' : Vals W' w.heap.size (.slice (some ⟨g, 0, none⟩) (l.length + 1) cap) (l ++ [.none])) (hg : W.grownBy W' v.ownBlock) : Mem5 w bl v l s b5 b7 true b10 b11 v5 v7 (.slice (some ⟨g, 0, none⟩) (l.length + 1) cap) W' := by
  subst e8 e10 e11
  obtain ⟨L, hL, _⟩ := h.row rfl
  have hkn : Kept W W' := Kept.grown hL rfl hg
  have hh : Box.Holds W bl 26 #[v] := h.hold
  have hbl := own_grown hg hh fun e => own_ne hL hh (by decide) e
  refine ⟨h.below.grown hg h.below.size fun k hk => (World.ownsRow.lt hL k hk).1, h.ge, hbl, (fun e => by cases e), fun e => ?_, (fun _ e => by cases e), fun _ => ⟨g, cap, rfl, hv'⟩⟩
  obtain ⟨z, h1, h2⟩ := h.cln e
  exact ⟨z, h1, h2.kept hkn⟩
theorem Mem5.put10 {g cap : Nat} {z : V6} (h : Mem5 w bl v l s b5 b7 b8 b10 b11 v5 v7 v8 W) (e5 : b5 = true) (e8 : b8 = true) (e10 : b10 = false) (h5 : v5 = .agg z.arr) (hz : IsSc W z s) (h8 : v8 = .slice (some ⟨g, 0, none⟩) (l.length + 1) cap) :
    At W g l.length nil6 ∧ (∃ cg, Box.Holds W g 28 cg) ∧ Mem5 w bl v l s b5 b7 b8 true b11 v5 v7 v8 (six W g (l.length * 6) z) := by
  subst e5 e8 e10
  obtain ⟨g', cap', e8, hv⟩ := h.app rfl
  rw [h8] at e8 hv
  simp only [Value.slice.injEq, Option.some.injEq, Addr.mk.injEq, and_true, true_and] at e8
  obtain ⟨rfl, rfl⟩ := e8
  have hv' : Vals W w.heap.size (.slice (some ⟨g, 0, none⟩) (l.length + 1) cap) (l ++ [.none]) := hv
  obtain ⟨g', cap', u, e, hgl, hBg, hc, hat, hu⟩ := hv'.at_ (j := l.length) (by simp)
  simp only [Value.slice.injEq, Option.some.injEq, Addr.mk.injEq, and_true] at e
  obtain ⟨rfl, -⟩ := e
  have hu' : IsSc W u .none := by simpa using hu
  obtain rfl : u = nil6 := hu'
  obtain ⟨hv6, ⟨cg, hcg⟩, hf6⟩ := vals_store (j := l.length) hv' (by simp) hz
  rw [show (l ++ [Sc.none]).set l.length s = l ++ [s] by simp] at hv6
  have hgr := grown_set (o := l.length * 6 + 5) (u := z.s) (grown_set (o := l.length * 6 + 4) (u := z.t) (grown_set (o := l.length * 6 + 3) (u := z.b) (grown_set (o := l.length * 6 + 2) (u := z.m) (grown_set (o := l.length * 6 + 1) (u := z.n) (grown_set (o := l.length * 6) (u := z.k) (W := W) (g := g) ⟨rfl, rfl, rfl, Nat.le_refl _, fun _ _ _ => rfl⟩)))))
  have hne : g ≠ bl := holds_ne hcg h.hold (by decide)
  refine ⟨hat, ⟨cg, hcg⟩, h.below.grown hgr h.below.size (fun k hk => by cases hk; exact hBg), h.ge, own_grown hgr h.hold fun e => hne (Option.some.inj e), (fun e => by cases e), fun _ => ⟨z, h5, hz.kept hf6⟩, (fun _ e => by cases e), fun _ => ⟨g, cap, h8, ?_⟩⟩
  rw [h8]
  exact hv6
theorem Mem5.put11 (h : Mem5 w bl v l s b5 b7 b8 b10 b11 v5 v7 v8 W) (e8 : b8 = true) (e11 : b11 = false) : Mem5 w bl v l s b5 b7 b8 b10 true v5 v7 v8 (W.setCell ⟨bl, 0, none⟩ v8) := by
  subst e8 e11
  have hh : Box.Holds W bl 26 #[v] := h.hold
  have hk : Kept W (W.setCell ⟨bl, 0, none⟩ v8) := Kept.setCell (p := ⟨bl, 0, none⟩) hh rfl _
  refine ⟨h.below.setCell (p := ⟨bl, 0, none⟩) h.ge _, h.ge, hh.put 0 _, (fun e => by cases e), fun e => ?_, (fun _ e => by cases e), fun e => ?_⟩
  · obtain ⟨z, h1, h2⟩ := h.cln e
    exact ⟨z, h1, h2.kept hk⟩
  · obtain ⟨g, cap, h1, h2⟩ := h.app e
    exact ⟨g, cap, h1, vals_put h2 hh (by decide) rfl (p := ⟨bl, 0, none⟩) _⟩
/-- 'append(v, zero)' of a value, as one operation -/
theorem wp_zero {o : Oper} {a : Act} {K : Act → World → Prop} {Q : Exit → Act → World → Prop} {wr : World} {B gb : Nat} (hgd : o.guard = none) (s x : Operand)
    (ho : o.op = .call { callee := .builtin .append, args := #[s, x], argTypes := #[26, 26] })
    (v : Value) (S : List Sc) (hs : a.eval s = v) (hv : Vals wr B v S) (hB : B ≤ wr.heap.size) (hsrc : Rem.Holds wr gb 28 nil6.arr)
    (hx : a.eval x = .slice (some ⟨gb, 0, none⟩) 1 1) (hn : S.length ≤ 1000000)
    (h : ∀ g cap w', Vals w' B (.slice (some ⟨g, 0, none⟩) (S.length + 1) cap) (S ++ [.none]) → wr.grownBy w' v.ownBlock → (v.ownBlock = some g ∨ g = wr.heap.size) → K (a.put o.dst (.slice (some ⟨g, 0, none⟩) (S.length + 1) cap)) w') :
    Oper.wp Tryz.prog o a wr K Q := by
  have h1 := step_zero (ops := #[]) (E := True) (Q := Q) (K := K) hgd s x ho v S hs hv hB hsrc hx hn h
  rwa [if_pos (by simp [Region.wanted, hgd])] at h1
/-- the region's invariant: f, what has come up; V, what it has left -/
structure I5 (w : World) (bl : Nat) (v : Value) (l : List Sc) (s : Sc) (u0 : Value) (g0 j : Nat) (y : V6) (f : Nat → Bool) (V : Nat → Value) (W : World) : Prop where
  m : Mem5 w bl v l s (f 5) (f 7) (f 8) (f 10) (f 11) (V 5) (V 7) (V 8) W
  p0 : f 0 = true → V 0 = v
  p1 : f 1 = true → V 1 = u0
  p2 : f 2 = true → V 2 = .int .i64 j
  p3 : f 3 = true → V 3 = .pointer (some ⟨g0, j * 6, none⟩)
  p4 : f 4 = true → V 4 = .agg y.arr
  p6 : f 6 = true → V 6 = .int .i64 l.length
  p9 : f 9 = true → ∃ g cap, V 8 = .slice (some ⟨g, 0, none⟩) (l.length + 1) cap ∧ V 9 = .pointer (some ⟨g, l.length * 6, none⟩)
/-- a step's variable made of a raw step's numbers -/
structure I13 (w wr : World) (sb j : Nat) (u1 : Value) (r : Rw) (f : Nat → Bool) (V : Nat → Value) (W : World) : Prop where
  m : W = if f 22 = true then wr.drew.alloc (.cells (stepCs r.k r.i r.j r.m nil6) 62) else if f 21 = true then wr.drew.alloc (.cells (stepCs 0 0 0 0 nil6) 62) else wr.drew
  b : Below w.heap.size w W
  p0 : f 0 = true → V 0 = u1
  p1 : f 1 = true → V 1 = .int .i64 j
  p2 : f 2 = true → V 2 = .pointer (some ⟨sb, j * 17, none⟩)
  p3 : f 3 = true → V 3 = .pointer (some ⟨sb, j * 17, none⟩)
  p4 : f 4 = true → V 4 = .int .i64 r.k
  p5 : f 5 = true → V 5 = u1
  p6 : f 6 = true → V 6 = .int .i64 j
  p7 : f 7 = true → V 7 = .pointer (some ⟨sb, j * 17, none⟩)
  p8 : f 8 = true → V 8 = .pointer (some ⟨sb, j * 17 + 1, none⟩)
  p9 : f 9 = true → V 9 = .int .i64 r.i
  p10 : f 10 = true → V 10 = u1
  p11 : f 11 = true → V 11 = .int .i64 j
  p12 : f 12 = true → V 12 = .pointer (some ⟨sb, j * 17, none⟩)
  p13 : f 13 = true → V 13 = .pointer (some ⟨sb, j * 17 + 2, none⟩)
  p14 : f 14 = true → V 14 = .int .i64 r.j
  p15 : f 15 = true → V 15 = u1
  p16 : f 16 = true → V 16 = .int .i64 j
  p17 : f 17 = true → V 17 = .pointer (some ⟨sb, j * 17, none⟩)
  p18 : f 18 = true → V 18 = .pointer (some ⟨sb, j * 17 + 3, none⟩)
  p19 : f 19 = true → V 19 = .int .i64 r.m
  p20 : f 20 = true → V 20 = .agg (stepCs r.k r.i r.j r.m nil6)
  p21 : f 21 = true → V 21 = .pointer (some ⟨wr.heap.size, 0, none⟩)
end Go.Proofs.YtafbheamnjmfoaaGreat.Ls
