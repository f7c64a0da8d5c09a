/-
  The reference's step over a list: the law of an append whose element is stored behind it.
-/
import Derived.Test.YtafbheamnjmfoaaGreatLsTurnB
namespace Go.Proofs.YtafbheamnjmfoaaGreat.Ls
open Go.RowKit Go.WideShapes Go.Proofs.YtafbheamnjmfoaaGreat.Sc Go.Proofs.YtafbheamnjmfoaaGreat.VRow
set_option linter.unusedVariables false

theorem rows_set : ∀ (L : List V6) (j : Nat) (hj : j < L.length) (y : V6), rows (L.set j y) = ((((((rows L).set (j * 6) y.k).set (j * 6 + 1) y.n).set (j * 6 + 2) y.m).set (j * 6 + 3) y.b).set (j * 6 + 4) y.t).set (j * 6 + 5) y.s
  | [], _, hj, _ => by simp at hj
  | x :: r, 0, _, y => by simp [rows, V6.cs]
  | x :: r, j + 1, hj, y => by
    have ih := rows_set r j (by simpa using hj) y
    have e : ∀ q, (j + 1) * 6 + q = (j * 6 + q) + 6 := fun q => by omega
    have e0 : (j + 1) * 6 = j * 6 + 6 := by omega
    have ec : ∀ (z : V6) (l : List V6), rows (z :: l) = z.k :: z.n :: z.m :: z.b :: z.t :: z.s :: rows l := fun z l => by simp [rows, V6.cs]
    rw [List.set_cons_succ, ec, ec, ih, e0]
    simp only [show j * 6 + 6 + 1 = j * 6 + 1 + 6 by omega, show j * 6 + 6 + 2 = j * 6 + 2 + 6 by omega, show j * 6 + 6 + 3 = j * 6 + 3 + 6 by omega, show j * 6 + 6 + 4 = j * 6 + 4 + 6 by omega, show j * 6 + 6 + 5 = j * 6 + 5 + 6 by omega, List.set_cons_succ]
/-- six stores into a row of values: an element is another one -/
theorem vals_store {w : World} {B g n c j : Nat} {S : List Sc} {y : V6} {t : Sc} (h : Vals w B (.slice (some ⟨g, 0, none⟩) n c) S) (hj : j < S.length) (hy : IsSc w y t) :
    Vals ((((((w.setCell ⟨g, j * 6, none⟩ y.k).setCell ⟨g, j * 6 + 1, none⟩ y.n).setCell ⟨g, j * 6 + 2, none⟩ y.m).setCell ⟨g, j * 6 + 3, none⟩ y.b).setCell ⟨g, j * 6 + 4, none⟩ y.t).setCell ⟨g, j * 6 + 5, none⟩ y.s) B (.slice (some ⟨g, 0, none⟩) n c) (S.set j t) ∧ (∃ cs, Box.Holds w g 28 cs) ∧ Kept w ((((((w.setCell ⟨g, j * 6, none⟩ y.k).setCell ⟨g, j * 6 + 1, none⟩ y.n).setCell ⟨g, j * 6 + 2, none⟩ y.m).setCell ⟨g, j * 6 + 3, none⟩ y.b).setCell ⟨g, j * 6 + 4, none⟩ y.t).setCell ⟨g, j * 6 + 5, none⟩ y.s) := by
  obtain ⟨L, h1, h2⟩ := h
  have hn : n = L.length := by
    rcases (show w.ownsRow B 28 6 _ L.length (rows L) from h1).2 with ⟨e, _⟩ | ⟨g', cap', cur, e, _⟩
    · cases e
    · simp only [Value.slice.injEq] at e; exact e.2.1
  subst hn
  have hg : ∃ cs, Box.Holds w g 28 cs := by
    rcases (show w.ownsRow B 28 6 _ L.length (rows L) from h1).2 with ⟨e, _⟩ | ⟨g', cap', cur, e, _, hh, _⟩
    · cases e
    · simp only [Value.slice.injEq, Option.some.injEq, Addr.mk.injEq] at e
      obtain ⟨⟨rfl, -⟩, -⟩ := e
      exact ⟨cur, hh⟩
  have hf : ∀ k, k ≠ g → (((((((w.setCell ⟨g, j * 6, none⟩ y.k).setCell ⟨g, j * 6 + 1, none⟩ y.n).setCell ⟨g, j * 6 + 2, none⟩ y.m).setCell ⟨g, j * 6 + 3, none⟩ y.b).setCell ⟨g, j * 6 + 4, none⟩ y.t).setCell ⟨g, j * 6 + 5, none⟩ y.s)).heap[k]? = w.heap[k]? := fun k hk => by
    have e : ∀ (X : World) (o : Nat) (u : Value), (X.setCell ⟨g, o, none⟩ u).heap[k]? = X.heap[k]? := fun X o u => Below.heap_setCell X ⟨g, o, none⟩ u k hk
    rw [e, e, e, e, e, e]
  obtain ⟨cs, hcs⟩ := hg
  have hk : Kept w ((((((w.setCell ⟨g, j * 6, none⟩ y.k).setCell ⟨g, j * 6 + 1, none⟩ y.n).setCell ⟨g, j * 6 + 2, none⟩ y.m).setCell ⟨g, j * 6 + 3, none⟩ y.b).setCell ⟨g, j * 6 + 4, none⟩ y.t).setCell ⟨g, j * 6 + 5, none⟩ y.s) := Kept.of_block (k := g) hcs rfl fun k _ hk => hf k hk
  have o0 := (World.ownsRow.stored (show w.ownsRow B 28 6 _ L.length (rows L) from h1) (j * 6) y.k).1
  have o1 := (World.ownsRow.stored o0 (j * 6 + 1) y.n).1
  have o2 := (World.ownsRow.stored o1 (j * 6 + 2) y.m).1
  have o3 := (World.ownsRow.stored o2 (j * 6 + 3) y.b).1
  have o4 := (World.ownsRow.stored o3 (j * 6 + 4) y.t).1
  have o5 := (World.ownsRow.stored o4 (j * 6 + 5) y.s).1
  rw [← rows_set L j (by rw [h2.1]; exact hj) y] at o5
  refine ⟨⟨L.set j y, ?_, (h2.mono fun a b hab => hab.kept hk).set j (hy.kept hk)⟩, ⟨cs, hcs⟩, hk⟩
  unfold OwnV
  rw [List.length_set]
  exact o5
/-- 'append(v, zero)' of a value, as a step of a region that draws: and where it lies -/
theorem step_zero {ops : Array Oper} {o : Oper} {a : Act} {K : Act → World → Prop} {Q : Exit → Act → World → Prop} {E : Prop} {wr : World} {B gb : Nat} (hgd : o.guard = none) (s x : Operand)
    (ho : o.op = .call { callee := .builtin .append, args := #[s, x], argTypes := #[26, 26] })
    (v : Value) (S : List Sc) (hs : a.eval s = v) (hv : Vals wr B v S) (hB : B ≤ wr.heap.size) (hsrc : Rem.Holds wr gb 28 nil6.arr)
    (hx : a.eval x = .slice (some ⟨gb, 0, none⟩) 1 1) (hn : S.length ≤ 1000000)
    (h : ∀ g cap w', Vals w' B (.slice (some ⟨g, 0, none⟩) (S.length + 1) cap) (S ++ [.none]) → wr.grownBy w' v.ownBlock → (v.ownBlock = some g ∨ g = wr.heap.size) → K (a.put o.dst (.slice (some ⟨g, 0, none⟩) (S.length + 1) cap)) w') :
    if Region.wanted o (yielded ops a.tmps) = true then Oper.wp Tryz.prog o a wr K Q else E := by
  have hw : Region.wanted o (yielded ops a.tmps) = true := by simp [Region.wanted, hgd]
  rw [if_pos hw]
  obtain ⟨L, h1, h2⟩ := hv
  obtain ⟨i0, hi, hz0, hz1, hz2⟩ := info_parts info_v6
  have hlen := h2.1
  refine wp_append_lies _ s x 26 ho B 28 i0 _ 6 88 Tryz.underlying26 hi hz0 hz1 hz2 rfl (by decide) v L.length (rows L) hs h1 ⟨gb, 0, none⟩ 1 1 nil6.cs hx rfl
    (src_cells hsrc) (nil6_sc wr).one (by omega) (by unfold maxLen; omega) (by omega) hB wr.heap.size rfl ?_
  intro g cap w' hown' hg hlies hlt
  have hk : Kept wr w' := Kept.grown h1 rfl hg
  rw [hlen] at hown' ⊢
  refine h g cap w' ⟨L ++ [nil6], ?_, (h2.mono fun a b hab => hab.kept hk).snoc (nil6_sc _)⟩ hg hlies
  unfold OwnV
  rw [rows_snoc, List.length_append, hlen]
  exact hown'
theorem append_bd1 {w WA w4 W6 : World} {B bl bs g cap : Nat} {x : Option Nat} {v : Value} {S : List Sc} {cs craw o : Array Value} {t : Sc} (h : Bd w WA B bl bs x v S cs craw o) (hg : WA.grownBy w4 v.ownBlock) (hcg : ∃ c, Box.Holds w4 g 28 c) (hv6 : Vals W6 B (.slice (some ⟨g, 0, none⟩) (S.length + 1) cap) (S ++ [t])) (h6 : w4.grownBy W6 (some g)) (hlie : v.ownBlock = some g ∨ g = WA.heap.size) :
    Box.Holds w4 bl 26 #[v] ∧ Bd w (W6.setCell ⟨bl, 0, none⟩ (.slice (some ⟨g, 0, none⟩) (S.length + 1) cap)) B bl bs x (.slice (some ⟨g, 0, none⟩) (S.length + 1) cap) (S ++ [t]) cs craw o := by
  obtain ⟨cg, hcg⟩ := hcg
  have hf6 : ∀ k, k < w4.heap.size → k ≠ g → W6.heap[k]? = w4.heap[k]? := fun k hk hn => h6.block k hk fun e => hn (Option.some.inj e)
  have key : ∀ {k : Nat} {u : TypeId} {c : Array Value}, Box.Holds WA k u c → u ≠ 28 → Box.Holds w4 k u c ∧ Box.Holds W6 k u c := fun {k u c} hh hu => by
    have h4 : Box.Holds w4 k u c := own_grown hg hh fun e => by
      obtain ⟨L, hL, _⟩ := h.l.row
      exact own_ne hL hh hu e
    exact ⟨h4, (hf6 k h4.lt fun e => by subst e; exact holds_ne h4 hcg hu rfl).trans h4⟩
  have hWs := h.fr.below.size
  have hfr4 : Fr B (SS bs x) w w4 := by
    obtain ⟨L, hL, _⟩ := h.l.row
    refine h.fr.grown hL (fun b hb hlt hn => ?_) hg h.hB
    rcases h.hv b hb with e | e
    · exact hn.2.1 rfl e.symm
    · omega
  have hgx : ∀ b, (Value.slice (some ⟨g, 0, none⟩) (S.length + 1) cap).ownBlock = some b → x = some b ∨ w.heap.size ≤ b := fun b hb => by
    simp only [Value.ownBlock, Option.some.injEq] at hb
    subst hb
    rcases hlie with e | e
    · exact h.hv _ e
    · right; omega
  have hgB : B ≤ g := by obtain ⟨L, hL, _⟩ := hv6; exact (World.ownsRow.lt hL g rfl).1
  have hfr6 : Fr B (SS bs x) w W6 := by
    refine ⟨hfr4.below.grown h6 (Nat.le_trans h.hB hfr4.below.size) (fun k hk => by cases hk; exact hgB), fun k c u fz hn hh => ?_⟩
    have h4 := hfr4.kept k c u fz hn hh
    by_cases e : k = g
    · subst e
      have h5 : w4.heap[k]? = _ := hcg
      rw [h5] at h4
      cases h4
      have hlt := (Array.getElem?_eq_some_iff.1 hh).1
      rcases hgx k rfl with e | e
      · exact absurd e.symm (hn.2.1 rfl)
      · omega
    · exact (hf6 k (Array.getElem?_eq_some_iff.1 h4).1 e).trans h4
  have hb6 := (key h.l.hold (by decide)).2
  have hk7 : KeptT (fun k _ => k ≠ bl) W6 (W6.setCell ⟨bl, 0, none⟩ (.slice (some ⟨g, 0, none⟩) (S.length + 1) cap)) := KeptT.setCell (p := ⟨bl, 0, none⟩) hb6 (fun h => h rfl) _
  have mk : ∀ {k : Nat} {u : TypeId} {c : Array Value}, Box.Holds WA k u c → u ≠ 28 → u ≠ 26 → Box.Holds (W6.setCell ⟨bl, 0, none⟩ (.slice (some ⟨g, 0, none⟩) (S.length + 1) cap)) k u c := fun {k u c} hh hu hu2 => hk7.holds (key hh hu).2 (holds_ne hh h.l.hold hu2)
  exact ⟨(key h.l.hold (by decide)).1, ⟨hb6.put 0 _, vals_put hv6 hb6 (by decide) rfl (p := ⟨bl, 0, none⟩) _, h.l.ge⟩, mk h.s (by decide) (by decide), mk h.res (by decide) (by decide), mk h.raw (by decide) (by decide), mk h.out (by decide) (by decide), hfr6.setCell (p := ⟨bl, 0, none⟩) hb6 h.l.ge (fun _ hn => hn.1 rfl) _, hgx, h.hbs, h.hB, h.hBs⟩
theorem grown_set {w4 W : World} {g o : Nat} {u : Value} (h : w4.grownBy W (some g)) : w4.grownBy (W.setCell ⟨g, o, none⟩ u) (some g) := ⟨h.os, h.tape, h.output, by rw [World.size_setCell]; exact h.size, fun k hk hn => (Below.heap_setCell W ⟨g, o, none⟩ u k fun e => hn (by rw [e])).trans (h.block k hk hn)⟩
theorem append_bd {w WA w4 : World} {B bl bs g cap : Nat} {x : Option Nat} {v : Value} {S : List Sc} {cs craw o : Array Value} {y : V6} {t : Sc} (h : Bd w WA B bl bs x v S cs craw o) (hg : WA.grownBy w4 v.ownBlock) (hv' : Vals w4 B (.slice (some ⟨g, 0, none⟩) (S.length + 1) cap) (S ++ [.none])) (hlie : v.ownBlock = some g ∨ g = WA.heap.size) (hy : IsSc w4 y t) :
    Box.Holds w4 bl 26 #[v] ∧ Bd w ((((((((w4.setCell ⟨g, S.length * 6, none⟩ y.k).setCell ⟨g, S.length * 6 + 1, none⟩ y.n).setCell ⟨g, S.length * 6 + 2, none⟩ y.m).setCell ⟨g, S.length * 6 + 3, none⟩ y.b).setCell ⟨g, S.length * 6 + 4, none⟩ y.t).setCell ⟨g, S.length * 6 + 5, none⟩ y.s)).setCell ⟨bl, 0, none⟩ (.slice (some ⟨g, 0, none⟩) (S.length + 1) cap)) B bl bs x (.slice (some ⟨g, 0, none⟩) (S.length + 1) cap) (S ++ [t]) cs craw o ∧ IsSc ((((((((w4.setCell ⟨g, S.length * 6, none⟩ y.k).setCell ⟨g, S.length * 6 + 1, none⟩ y.n).setCell ⟨g, S.length * 6 + 2, none⟩ y.m).setCell ⟨g, S.length * 6 + 3, none⟩ y.b).setCell ⟨g, S.length * 6 + 4, none⟩ y.t).setCell ⟨g, S.length * 6 + 5, none⟩ y.s)).setCell ⟨bl, 0, none⟩ (.slice (some ⟨g, 0, none⟩) (S.length + 1) cap)) y t := by
  obtain ⟨hv6, hcg, hf6⟩ := vals_store (j := S.length) hv' (by simp) hy
  rw [show (S ++ [Sc.none]).set S.length t = S ++ [t] by simp] at hv6
  have hgr := grown_set (o := S.length * 6 + 5) (u := y.s) (grown_set (o := S.length * 6 + 4) (u := y.t) (grown_set (o := S.length * 6 + 3) (u := y.b) (grown_set (o := S.length * 6 + 2) (u := y.m) (grown_set (o := S.length * 6 + 1) (u := y.n) (grown_set (o := S.length * 6) (u := y.k) (W := w4) (g := g) ⟨rfl, rfl, rfl, Nat.le_refl _, fun _ _ _ => rfl⟩)))))
  obtain ⟨h1, h2⟩ := append_bd1 h hg hcg hv6 hgr hlie
  have hb4 := own_grown hgr h1 (fun e => by obtain ⟨c, hc⟩ := hcg; exact holds_ne hc h1 (by decide) (Option.some.inj e))
  exact ⟨h1, h2, (hy.kept hf6).kept (Kept.setCell (p := ⟨bl, 0, none⟩) hb4 rfl _)⟩
end Go.Proofs.YtafbheamnjmfoaaGreat.Ls
