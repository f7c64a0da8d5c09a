/-
  A row of values that came in as an argument.
-/
import Derived.Test.YtkflmgpigidkeaaGreatScList
import Derived.Test.YtkflmgpigidkeaaGreatValDoor
import Derived.Deep.Slices
import Derived.Deep.Fields
import Derived.ChangeSame
namespace Go.Proofs.YtkflmgpigidkeaaGreat.Sc
open Go.Joins Go.ChangeShapes Go.WideShapes Go.ChangeAt Go.RowKit Go.Deep Go.Proofs.YtkflmgpigidkeaaGreat.Own Go.Proofs.YtkflmgpigidkeaaGreat.Num Go.Proofs.YtkflmgpigidkeaaGreat.Ref Go.Proofs.YtkflmgpigidkeaaGreat.VRow
set_option linter.unusedVariables false

section
variable {H : Type} {enc : TypeId × Value → H} {P : Program} {w : World} {base : Nat} {spare : Nat → Bool} {held : Bool}
theorem open_slice_fields {t e : TypeId} {fs : Array Field} {fuel : Nat} {cs : List Value} {x : DataW H × List MemPlace} (ht : P.underlying t = some (.slice e)) (he : P.underlying e = some (.struct fs))
    (hone : oneCellFields P fs = true) (hC : P.cellsOf e = fs.size) (h : DataW.trod enc P w base spare held fuel t cs = some x) :
    (cs = [.slice none 0 0] ∧ x = (.nil, [])) ∨
    ∃ (a : Addr) (len cap m : Nat) (D : Nat → DataW H) (Pl : Nat → List MemPlace), cs = [.slice (some a) len cap] ∧ base ≤ a.block ∧ len ≤ cap ∧ cap ≤ maxLen ∧ m = (if spare a.block then cap else len) ∧
      ∀ i, i < m → ∃ (ys : List (DataW H × List MemPlace)) (n : Nat), ys.length = fs.size ∧
        ∀ (j : Nat) (f : Field), fs[j]? = some f → ∃ (v : Value) (y : DataW H × List MemPlace), w.cell? (a.add (i * fs.size + j)) = some v ∧ ys[j]? = some y ∧ DataW.trod enc P w base spare held n f.type [v] = some y := by
  rcases open_slice ht h with h0 | ⟨a, len, cap, m, n, D, Pl, hcs, hb, hl, hm, hmm, hx, hi⟩
  · exact .inl h0
  · refine .inr ⟨a, len, cap, m, D, Pl, hcs, hb, hl, hm, hmm, fun i him => ?_⟩
    obtain ⟨cs', hc, ht'⟩ := hi i him
    rw [hC] at hc
    obtain ⟨ys, n', hn', hy, hlen, hyl, hf⟩ := DataW.trod_struct he ht'
    obtain ⟨_, hcl, hat⟩ := World.cells?_some hc
    refine ⟨ys, n', hyl, fun j f hj => ?_⟩
    obtain ⟨ho, hk⟩ := hone_of hone j f hj
    have hjl : j < fs.size := (Array.getElem?_eq_some_iff.1 hj).1
    have hcell := hat j hjl
    have hv : cs'[j]? = some (cs'[j]'(by omega)) := List.getElem?_eq_getElem (by omega)
    have h1 := hf j f hj
    rw [ho, hk] at h1
    have hone' : (cs'.drop j).take 1 = [cs'[j]'(by omega)] := by
      rw [List.drop_eq_getElem_cons (by omega)]
      rfl
    rw [hone'] at h1
    have hys : ys[j]? = some (ys[j]'(by omega)) := List.getElem?_eq_getElem (by omega)
    refine ⟨_, _, ?_, hys, h1.trans hys⟩
    rw [← Go.Deep.add_add, hcell, hv]
end

set_option maxRecDepth 100000 in
/-- the six fields of a value that came in -/
theorem el_in {H : Type} {enc : TypeId × Value → H} {w : World} {base n : Nat} {held : Bool} {v0 v1 v2 v3 v4 v5 : Value} {y0 y1 y2 y3 y4 y5 : DataW H × List MemPlace}
    (h0 : DataW.trod enc Tryz.prog w base (fun _ => true) held n 3 [v0] = some y0) (h1 : DataW.trod enc Tryz.prog w base (fun _ => true) held n 4 [v1] = some y1) (h2 : DataW.trod enc Tryz.prog w base (fun _ => true) held n 23 [v2] = some y2)
    (h3 : DataW.trod enc Tryz.prog w base (fun _ => true) held n 24 [v3] = some y3) (h4 : DataW.trod enc Tryz.prog w base (fun _ => true) held n 9 [v4] = some y4) (h5 : DataW.trod enc Tryz.prog w base (fun _ => true) held n 25 [v5] = some y5) : ElIn w ⟨v0, v1, v2, v3, v4, v5⟩ := by
  obtain ⟨k, e0, -, -⟩ := DataW.trod_int Tryz.underlying3 h0
  obtain ⟨neg, e1, -⟩ := DataW.trod_bool Tryz.underlying4 h1
  obtain ⟨b, e3, -, wb⟩ := DataW.trod_int Tryz.underlying24 h3
  obtain ⟨t, e4, -, ht⟩ := DataW.trod_string Tryz.underlying9 h4
  simp only [List.cons.injEq, and_true] at e0 e1 e3 e4
  subst e0 e1 e3 e4
  unfold maxLen at ht
  obtain ⟨b0, b1⟩ := bounds_u64 wb
  obtain ⟨bn, rfl⟩ : ∃ n : Nat, b = n := ⟨b.toNat, by omega⟩
  have hk : ∃ ka kn kc, v5 = .slice ka kn kc ∧ kn ≤ 9223372036854775807 := by
    rcases open_slice Tryz.underlying25 h5 with ⟨e, _⟩ | ⟨a, len, cap, m, n', D, Pl, e, _, hl, hm, _⟩
    · simp only [List.cons.injEq, and_true] at e
      exact ⟨_, _, _, e, by omega⟩
    · simp only [List.cons.injEq, and_true] at e
      unfold maxLen at hm
      exact ⟨_, _, _, e, by omega⟩
  obtain ⟨ka, kn, kc, rfl, hkn⟩ := hk
  rcases open_ints Tryz.underlying23 Tryz.underlying5 (by kernel_rfl) h2 with ⟨e, _⟩ | ⟨x, l, c, zs, e, _, hl, hm, hz, _, hcell, hwz⟩
  · simp only [List.cons.injEq, and_true] at e
    subst e
    exact ⟨k, neg, none, [], 0, bn, t, ka, kn, kc, rfl, .inl ⟨rfl, rfl⟩, Nat.le_refl _, fun _ => rfl, by decide, by omega, hkn, by omega⟩
  · simp only [List.cons.injEq, and_true] at e
    subst e
    obtain ⟨bs, eb, hr⟩ := rd_of_row hl (by simpa using hz) hcell hwz
    subst eb
    unfold maxLen at hm
    exact ⟨k, neg, some x, bs, c, bn, t, ka, kn, kc, rfl, hr, hl, (fun h => by cases h), by omega, by omega, hkn, by omega⟩

theorem add_off (a : Addr) (i j : Nat) (hj : 0 < j) : a.add (i + j) = ⟨(a.add i).block, (a.add i).off + j, none⟩ := by
  rw [← Go.Deep.add_add]
  generalize a.add i = p
  unfold Addr.add
  rw [if_neg (by omega)]
set_option maxRecDepth 100000 in
/-- a row of values that came in -/
theorem vals_in {H : Type} {enc : TypeId × Value → H} {w : World} {base fuel : Nat} {held : Bool} {A : Option Addr} {len cap : Nat} {x : DataW H × List MemPlace}
    (h : DataW.trod enc Tryz.prog w base (fun _ => true) held fuel 25 [.slice A len cap] = some x) : ∃ L : List V6, len = L.length ∧ ArgVals w A L ∧ L.length ≤ maxLen := by
  rcases open_slice_fields Tryz.underlying25 Tryz.underlying27 (by kernel_rfl) (by kernel_rfl) h with ⟨hcs, _⟩ | ⟨a, l, c, m, D, Pl, hcs, hb, hl, hm, hmm, hf⟩
  · simp at hcs
    obtain ⟨rfl, rfl, rfl⟩ := hcs
    exact ⟨[], rfl, ⟨fun h => absurd rfl h, (fun x hx => by cases hx), (fun x hx => by cases hx), fun j hj => absurd hj (Nat.not_lt_zero _)⟩, by simp⟩
  · simp at hcs
    obtain ⟨rfl, rfl, rfl⟩ := hcs
    simp only [if_true] at hmm
    have hel : ∀ i, i < cap → ∃ v : V6, AtA w (a.add (i * 6)) v ∧ ElIn w v := by
      intro i hi
      obtain ⟨ys, n, hyl, hg⟩ := hf i (by omega)
      obtain ⟨v0, y0, c0, -, t0⟩ := hg 0 _ rfl
      obtain ⟨v1, y1, c1, -, t1⟩ := hg 1 _ rfl
      obtain ⟨v2, y2, c2, -, t2⟩ := hg 2 _ rfl
      obtain ⟨v3, y3, c3, -, t3⟩ := hg 3 _ rfl
      obtain ⟨v4, y4, c4, -, t4⟩ := hg 4 _ rfl
      obtain ⟨v5, y5, c5, -, t5⟩ := hg 5 _ rfl
      refine ⟨⟨v0, v1, v2, v3, v4, v5⟩, ⟨c0, ?_, ?_, ?_, ?_, ?_⟩, el_in t0 t1 t2 t3 t4 t5⟩
      · rw [← add_off a (i * 6) 1 (by decide)]; exact c1
      · rw [← add_off a (i * 6) 2 (by decide)]; exact c2
      · rw [← add_off a (i * 6) 3 (by decide)]; exact c3
      · rw [← add_off a (i * 6) 4 (by decide)]; exact c4
      · rw [← add_off a (i * 6) 5 (by decide)]; exact c5
    have hL : ∀ k, k ≤ cap → ∃ L : List V6, L.length = k ∧ ∀ j (hj : j < L.length), AtA w (a.add (j * 6)) L[j] ∧ ElIn w L[j] := by
      intro k
      induction k with
      | zero => exact fun _ => ⟨[], rfl, fun j hj => by simp at hj⟩
      | succ k ih =>
        intro hk
        obtain ⟨L, h1, h2⟩ := ih (by omega)
        obtain ⟨v, h3, h4⟩ := hel k (by omega)
        refine ⟨L ++ [v], by simp [h1], fun j hj => ?_⟩
        by_cases hjl : j < L.length
        · rw [List.getElem_append_left hjl]
          exact h2 j hjl
        · have : j = L.length := by simp at hj; omega
          subst this
          rw [List.getElem_append_right (Nat.le_refl _)]
          simp only [Nat.sub_self, List.getElem_cons_zero]
          rw [h1]
          exact ⟨h3, h4⟩
    obtain ⟨L, h1, h2⟩ := hL len hl
    refine ⟨L, h1.symm, ⟨fun _ => rfl, fun x hx hne => ?_, fun x hx j hj => ?_, fun j hj => (h2 j hj).2⟩, by omega⟩
    · obtain rfl := Option.some.inj hx
      have hpos : 0 < L.length := List.length_pos_iff.2 hne
      have := World.block_lt_of_cell? _ _ (h2 0 hpos).1.1
      rwa [Ref.block_add] at this
    · obtain rfl := Option.some.inj hx
      exact (h2 j hj).1
end Go.Proofs.YtkflmgpigidkeaaGreat.Sc
