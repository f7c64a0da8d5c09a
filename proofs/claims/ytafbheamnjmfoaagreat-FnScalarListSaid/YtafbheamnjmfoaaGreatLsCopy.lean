/-
  The reference's step over a list: the list copied, an element stored.
-/
import Derived.Test.YtafbheamnjmfoaaGreatLsTurnD
namespace Go.Proofs.YtafbheamnjmfoaaGreat.Ls
open Go.RowKit Go.WideShapes Go.Proofs.YtafbheamnjmfoaaGreat.Sc Go.Proofs.YtafbheamnjmfoaaGreat.VRow
set_option linter.unusedVariables false

theorem rows_one : ∀ (L : List V6), (∀ z ∈ L, z.One) → ∀ u ∈ rows L, u.oneCell' = true
  | [], _, u, hu => by simp [rows] at hu
  | z :: l, h, u, hu => by
    rw [show rows (z :: l) = z.cs ++ rows l by simp [rows]] at hu
    rcases List.mem_append.1 hu with hu | hu
    · exact h z (by simp) u hu
    · exact rows_one l (fun y hy => h y (by simp [hy])) u hu
/-- 'append([]Val{}, v...)' -/
theorem wpList_vcopy {ops : Array Oper} {rest : List Oper} {o : Oper} {a : Act} {Q : Exit → Act → World → Prop} {wr : World} {B0 : Nat} (hgd : o.guard = Option.none) (s x : Operand)
    (ho : o.op = .call { callee := .builtin .append, args := #[s, x], argTypes := #[26, 26] })
    (hs : a.eval s = .slice (some ⟨wr.heap.size, 0, none⟩) 0 0) (v : Value) (S : List Sc) (hv : Vals wr B0 v S) (hx : a.eval x = v) (hn : S.length ≤ 1000000)
    (h : ∀ v' w', Vals w' wr.heap.size v' S → Below wr.heap.size wr w' → wpList Tryz.prog ops Q rest (a.put o.dst v') w') :
    wpList Tryz.prog ops Q (o :: rest) a (wr.alloc (.cells #[] 28)) := by
  obtain ⟨i0, hi, hz0, hz1, hz2⟩ := info_parts info_v6
  have hal : Below wr.heap.size wr (wr.alloc (.cells #[] 28)) := Ref.below_one' _ (Nat.le_refl _)
  have hmade : (wr.alloc (.cells #[] 28)).ownsRow wr.heap.size 28 6 (.slice (some ⟨wr.heap.size, 0, none⟩) 0 0) 0 [] := World.ownsRow_made wr #[] 0 (Nat.le_refl _) (by decide) rfl
  obtain ⟨L, h1, h2⟩ := hv
  have hL := h2.1
  rcases id (show wr.ownsRow B0 28 6 v L.length (rows L) from h1).2 with ⟨rfl, h0⟩ | ⟨g, cap, cur, rfl, hB, hg, hc, hm, hcs, htk⟩
  · obtain rfl : L = [] := List.eq_nil_of_length_eq_zero h0
    obtain rfl : S = [] := List.eq_nil_of_length_eq_zero (by simpa using hL.symm)
    refine wpList_append_own_none hgd s x 26 ho wr.heap.size 28 i0 6 Tryz.underlying26 hi _ 0 [] hs hmade hx ?_
    exact h _ _ ⟨[], hmade, All.nil _⟩ hal
  · have hlen : (rows L).length = L.length * 6 := h1.1
    refine wpList_append_own (wr.alloc (.cells #[] 28)) hgd s x 26 ho wr.heap.size 28 i0 _ 6 88 Tryz.underlying26 hi hz0 hz1 hz2 rfl (by decide) _ 0 [] hs hmade ⟨g, 0, none⟩ L.length cap (rows L) hx hlen
      ?_ ?_ (by unfold maxLen; omega) (by omega) (by simp) ?_
    · intro j u hu
      have hjl : j < (rows L).length := (List.getElem?_eq_some_iff.1 hu).1
      have hgl : g < wr.heap.size := (Array.getElem?_eq_some_iff.1 hg).1
      have e : (Addr.mk g 0 none).add j = ⟨g, j, none⟩ := by rw [add_flat, Nat.zero_add]
      rw [e]
      refine (hal.cell (p := ⟨g, j, none⟩) hgl).trans ?_
      rw [← htk, List.getElem?_take] at hu
      split at hu
      · rw [(show Box.Holds wr g 28 cur from hg).cell j]
        simpa using hu
      · cases hu
    · exact rows_one L fun z hz => by
        obtain ⟨j, hj, rfl⟩ := List.getElem_of_mem hz
        have hj' : j < S.length := by rw [← hL]; exact hj
        exact (h2.2 j _ _ (List.getElem?_eq_getElem hj) (List.getElem?_eq_getElem hj')).one
    · intro v' w' hown' hg' _
      have hb' : Below wr.heap.size wr w' := hal.grown hg' (by simp) fun k hk => by simp [Value.ownBlock] at hk; omega
      rw [Nat.zero_add, List.nil_append] at hown'
      exact h v' w' ⟨L, hown', h2.mono fun _ _ hab => hab.kept (Kept.of_below hb')⟩ hb'
/-- the six cells of an element of the list stored anew -/
theorem row_put {w W : World} {B bl bs g n c j : Nat} {x : Option Nat} {S : List Sc} {cs craw o : Array Value} {y : V6} {t : Sc} (h : Bd w W B bl bs x (.slice (some ⟨g, 0, none⟩) n c) S cs craw o) (hj : j < S.length) (hy : IsSc W y t) :
    Bd w ((((((W.setCell ⟨g, j * 6, none⟩ y.k).setCell ⟨g, j * 6 + 1, none⟩ y.n).setCell ⟨g, j * 6 + 2, none⟩ y.m).setCell ⟨g, j * 6 + 3, none⟩ y.b).setCell ⟨g, j * 6 + 4, none⟩ y.t).setCell ⟨g, j * 6 + 5, none⟩ y.s) B bl bs x (.slice (some ⟨g, 0, none⟩) n c) (S.set j t) cs craw o ∧ IsSc ((((((W.setCell ⟨g, j * 6, none⟩ y.k).setCell ⟨g, j * 6 + 1, none⟩ y.n).setCell ⟨g, j * 6 + 2, none⟩ y.m).setCell ⟨g, j * 6 + 3, none⟩ y.b).setCell ⟨g, j * 6 + 4, none⟩ y.t).setCell ⟨g, j * 6 + 5, none⟩ y.s) y t := by
  obtain ⟨hv6, ⟨cg, hcg⟩, hf6⟩ := vals_store h.l.row hj hy
  have hgr := grown_set (o := j * 6 + 5) (u := y.s) (grown_set (o := j * 6 + 4) (u := y.t) (grown_set (o := j * 6 + 3) (u := y.b) (grown_set (o := j * 6 + 2) (u := y.m) (grown_set (o := j * 6 + 1) (u := y.n) (grown_set (o := j * 6) (u := y.k) (W := W) (g := g) ⟨rfl, rfl, rfl, Nat.le_refl _, fun _ _ _ => rfl⟩)))))
  obtain ⟨W6, hW6⟩ : ∃ W6, ((((((W.setCell ⟨g, j * 6, none⟩ y.k).setCell ⟨g, j * 6 + 1, none⟩ y.n).setCell ⟨g, j * 6 + 2, none⟩ y.m).setCell ⟨g, j * 6 + 3, none⟩ y.b).setCell ⟨g, j * 6 + 4, none⟩ y.t).setCell ⟨g, j * 6 + 5, none⟩ y.s) = W6 := ⟨_, rfl⟩
  rw [hW6] at hv6 hf6 hgr ⊢
  have key : ∀ {k : Nat} {u : TypeId} {c : Array Value}, Box.Holds W k u c → u ≠ 28 → Box.Holds W6 k u c := fun {k u c} hh hu => own_grown hgr hh fun e => holds_ne hcg hh (fun e => hu e.symm) (Option.some.inj e)
  have hgB : B ≤ g := by obtain ⟨L, hL, _⟩ := hv6; exact (World.ownsRow.lt hL g rfl).1
  have hfr : Fr B (SS bs x) w W6 := by
    refine ⟨h.fr.below.grown hgr (Nat.le_trans h.hB h.fr.below.size) (fun k hk => by cases hk; exact hgB), fun k c u fz hn hh => ?_⟩
    have h4 := h.fr.kept k c u fz hn hh
    by_cases e : k = g
    · subst e
      have h5 : W.heap[k]? = _ := hcg
      rw [h5] at h4
      cases h4
      have hlt := (Array.getElem?_eq_some_iff.1 hh).1
      rcases h.hv k rfl with e | e
      · exact absurd e.symm (hn.2.1 rfl)
      · omega
    · exact (hgr.block k (Array.getElem?_eq_some_iff.1 h4).1 fun e' => e (Option.some.inj e')).trans h4
  exact ⟨⟨⟨key h.l.hold (by decide), hv6, h.l.ge⟩, key h.s (by decide), key h.res (by decide), key h.raw (by decide), key h.out (by decide), hfr, h.hv, h.hbs, h.hB, h.hBs⟩, hy.kept hf6⟩
end Go.Proofs.YtafbheamnjmfoaaGreat.Ls
