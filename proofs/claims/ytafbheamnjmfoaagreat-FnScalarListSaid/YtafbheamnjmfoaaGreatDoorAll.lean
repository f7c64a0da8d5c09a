/-
  A slice of bytes that came in, as a list of bytes. A value that came in as an argument: its cells, and its bytes. A row of values that came in as an argument. The reference's scalars out of what came in: one, a row of them. A row of steps that came in as an argument.
-/
import Derived.Test.YtafbheamnjmfoaaGreatNumOut
import Derived.OpenShut
import Derived.ChangeOld
import Derived.Below
import Derived.Carry
import Derived.Lib.SmallJoins
import Derived.Deep.Slices
import Derived.Test.YtafbheamnjmfoaaGreatScAll
import Derived.Deep.Fields
import Derived.ChangeSame
namespace Go.Proofs.YtafbheamnjmfoaaGreat.Ref
open Go.RowKit Go.WideShapes Go.Proofs.YtafbheamnjmfoaaGreat.Own Go.Proofs.YtafbheamnjmfoaaGreat.Num
set_option linter.unusedVariables false

/-- the bytes of a row of numbers -/
def bytesOf (z : List Int) : List UInt8 := z.map fun n => UInt8.ofNat n.toNat
/-- what came in reads as bytes -/
theorem rd_of_row {w : World} {x : Addr} {len cap : Nat} {zs : List Int} (hlen : len ≤ cap) (hz : zs.length = cap) (hc : ∀ i, i < zs.length → w.cell? (x.add i) = some (.int .u8 (zs.getD i 0))) (hwf : ∀ n ∈ zs, (Lit.int .u8 n).wf = true) :
    ∃ l, l.length = len ∧ Rd w (some x) l := by
  refine ⟨(bytesOf zs).take len, by simp [bytesOf]; omega, .inr ⟨x, rfl, fun h0 => ?_, fun j hj => ?_⟩⟩
  · have h0' : 0 < zs.length := by simp [bytesOf] at h0; omega
    have := World.block_lt_of_cell? _ _ (hc 0 h0')
    rw [block_add] at this
    exact this
  · have hj' : j < zs.length := by simp [bytesOf] at hj; omega
    rw [hc j hj']
    have hg : zs.getD j 0 = zs[j] := by simp [List.getD, List.getElem?_eq_getElem hj']
    obtain ⟨b1, b2⟩ := bounds_u8 (hwf _ (List.getElem_mem hj'))
    rw [hg]
    congr 2
    simp [bytesOf]
    omega
end Go.Proofs.YtafbheamnjmfoaaGreat.Ref

namespace Go.Proofs.YtafbheamnjmfoaaGreat.Ref
open Go.Joins Go.ChangeShapes Go.WideShapes Go.ChangeAt Go.RowKit Go.Deep Go.Proofs.YtafbheamnjmfoaaGreat.Own Go.Proofs.YtafbheamnjmfoaaGreat.Num
set_option linter.unusedVariables false

section
variable {H : Type} {enc : TypeId × Value → H} {P : Program} {w : World} {base : Nat} {spare : Nat → Bool} {held : Bool}
theorem open_agg6 {r : Reach} {b0 : Nat} {t : TypeId} {f0 f1 f2 f3 f4 f5 : Field} {v : Value} {d : DataW H} {p : List MemPlace} (hs : P.underlying t = some (.struct #[f0, f1, f2, f3, f4, f5])) (hone : oneCellFields P #[f0, f1, f2, f3, f4, f5] = true) (hC : P.cellsOf t = 6)
    (hv : Value.okWide P w r b0 t v) (h : DataW.Trod enc P w base spare held t v d p) :
    ∃ (v0 v1 v2 v3 v4 v5 : Value) (y0 y1 y2 y3 y4 y5 : DataW H × List MemPlace) (n : Nat), v = .agg #[v0, v1, v2, v3, v4, v5] ∧ d = .agg [y0.1, y1.1, y2.1, y3.1, y4.1, y5.1] ∧ p = y0.2 ++ (y1.2 ++ (y2.2 ++ (y3.2 ++ (y4.2 ++ y5.2)))) ∧
      DataW.trod enc P w base spare held n f0.type [v0] = some y0 ∧ DataW.trod enc P w base spare held n f1.type [v1] = some y1 ∧ DataW.trod enc P w base spare held n f2.type [v2] = some y2 ∧ DataW.trod enc P w base spare held n f3.type [v3] = some y3 ∧ DataW.trod enc P w base spare held n f4.type [v4] = some y4 ∧ DataW.trod enc P w base spare held n f5.type [v5] = some y5 := by
  obtain ⟨cs, rfl, hsz⟩ := okWide_struct hs hv
  obtain ⟨l⟩ := cs
  match l, hsz.trans hC with
  | [c0, c1, c2, c3, c4, c5], _ =>
    obtain ⟨fuel, hf⟩ := h
    obtain ⟨xs, n, _, hx, _, hlen, hg⟩ := DataW.trod_struct hs hf
    obtain ⟨o0, k0⟩ := hone_of hone 0 f0 rfl
    obtain ⟨o1, k1⟩ := hone_of hone 1 f1 rfl
    obtain ⟨o2, k2⟩ := hone_of hone 2 f2 rfl
    obtain ⟨o3, k3⟩ := hone_of hone 3 f3 rfl
    obtain ⟨o4, k4⟩ := hone_of hone 4 f4 rfl
    obtain ⟨o5, k5⟩ := hone_of hone 5 f5 rfl
    match xs, hlen with
    | [y0, y1, y2, y3, y4, y5], _ =>
      simp only [Prod.mk.injEq] at hx
      exact ⟨c0, c1, c2, c3, c4, c5, y0, y1, y2, y3, y4, y5, n, rfl, by simpa using hx.1, by simpa using hx.2, by simpa [Value.cells, o0, k0] using hg 0 f0 rfl, by simpa [Value.cells, o1, k1] using hg 1 f1 rfl, by simpa [Value.cells, o2, k2] using hg 2 f2 rfl, by simpa [Value.cells, o3, k3] using hg 3 f3 rfl, by simpa [Value.cells, o4, k4] using hg 4 f4 rfl, by simpa [Value.cells, o5, k5] using hg 5 f5 rfl⟩
end

/-- a value that came in: its cells, and its bytes -/
def ValIn (w : World) (v : Value) : Prop := ∃ (k : Int) (neg : Bool) (a : Option Addr) (l : List UInt8) (c : Nat) (b : Int) (t : ByteArray) (ka : Option Addr) (kn kc : Nat), v = .agg #[.int .i64 k, .bool neg, .slice a l.length c, .int .u64 b, .string t, .slice ka kn kc] ∧
  Rd w a l ∧ l.length ≤ c ∧ (a = none → c = 0) ∧ l.length ≤ 9223372036854775807 ∧ t.size ≤ 9223372036854775807 ∧ kn ≤ 9223372036854775807

set_option maxRecDepth 100000 in
theorem val_in {H : Type} {enc : TypeId × Value → H} {w : World} {base : Nat} {held : Bool} {r : Reach} {b0 : Nat} {v : Value} {d : DataW H} {p : List MemPlace}
    (hv : Value.okWide Tryz.prog w r b0 28 v) (h : DataW.Trod enc Tryz.prog w base (fun _ => true) held 28 v d p) : ValIn w v := by
  obtain ⟨v0, v1, v2, v3, v4, v5, y0, y1, y2, y3, y4, y5, n, rfl, -, -, h0, h1, h2, h3, h4, h5⟩ := open_agg6 Tryz.underlying28 (by kernel_rfl) (by kernel_rfl) hv h
  obtain ⟨k, e0, -, -⟩ := DataW.trod_int Tryz.underlying3 h0
  obtain ⟨neg, e1, -⟩ := DataW.trod_bool Tryz.underlying4 h1
  obtain ⟨b, e3, -, -⟩ := DataW.trod_int Tryz.underlying22 h3
  obtain ⟨t, e4, -, ht⟩ := DataW.trod_string Tryz.underlying9 h4
  simp only [List.cons.injEq, and_true] at e0 e1 e3 e4
  subst e0 e1 e3 e4
  unfold maxLen at ht
  have hk : ∃ ka kn kc, v5 = .slice ka kn kc ∧ kn ≤ 9223372036854775807 := by
    rcases open_slice Tryz.underlying26 h5 with ⟨e, _⟩ | ⟨a, len, cap, m, n', D, Pl, e, _, hl, hm, _⟩
    · simp only [List.cons.injEq, and_true] at e
      exact ⟨_, _, _, e, by omega⟩
    · simp only [List.cons.injEq, and_true] at e
      unfold maxLen at hm
      exact ⟨_, _, _, e, by omega⟩
  obtain ⟨ka, kn, kc, rfl, hkn⟩ := hk
  rcases open_ints Tryz.underlying25 Tryz.underlying5 (by kernel_rfl) h2 with ⟨e, _⟩ | ⟨x, l, c, zs, e, _, hl, hm, hz, _, hcell, hwz⟩
  · simp only [List.cons.injEq, and_true] at e
    subst e
    exact ⟨k, neg, none, [], 0, b, t, ka, kn, kc, rfl, .inl ⟨rfl, rfl⟩, Nat.le_refl _, fun _ => rfl, by decide, by omega, hkn⟩
  · simp only [List.cons.injEq, and_true] at e
    subst e
    obtain ⟨bs, eb, hr⟩ := rd_of_row hl (by simpa using hz) hcell hwz
    subst eb
    unfold maxLen at hm
    exact ⟨k, neg, some x, bs, c, b, t, ka, kn, kc, rfl, hr, hl, (fun h => by cases h), by omega, by omega, hkn⟩
end Go.Proofs.YtafbheamnjmfoaaGreat.Ref

namespace Go.Proofs.YtafbheamnjmfoaaGreat.Sc
open Go.Joins Go.ChangeShapes Go.WideShapes Go.ChangeAt Go.RowKit Go.Deep Go.Proofs.YtafbheamnjmfoaaGreat.Own Go.Proofs.YtafbheamnjmfoaaGreat.Num Go.Proofs.YtafbheamnjmfoaaGreat.Ref Go.Proofs.YtafbheamnjmfoaaGreat.VRow
set_option linter.unusedVariables false

section
variable {H : Type} {enc : TypeId × Value → H} {P : Program} {w : World} {base : Nat} {spare : Nat → Bool} {held : Bool}
theorem open_slice_fields {t e : TypeId} {fs : Array Field} {fuel : Nat} {cs : List Value} {x : DataW H × List MemPlace} (ht : P.underlying t = some (.slice e)) (he : P.underlying e = some (.struct fs))
    (hone : oneCellFields P fs = true) (hC : P.cellsOf e = fs.size) (h : DataW.trod enc P w base spare held fuel t cs = some x) :
    (cs = [.slice none 0 0] ∧ x = (.nil, [])) ∨
    ∃ (a : Addr) (len cap m : Nat) (D : Nat → DataW H) (Pl : Nat → List MemPlace), cs = [.slice (some a) len cap] ∧ base ≤ a.block ∧ len ≤ cap ∧ cap ≤ maxLen ∧ m = (if spare a.block then cap else len) ∧
      ∀ i, i < m → ∃ (ys : List (DataW H × List MemPlace)) (n : Nat), ys.length = fs.size ∧
        ∀ (j : Nat) (f : Field), fs[j]? = some f → ∃ (v : Value) (y : DataW H × List MemPlace), w.cell? (a.add (i * fs.size + j)) = some v ∧ ys[j]? = some y ∧ DataW.trod enc P w base spare held n f.type [v] = some y := by
  rcases open_slice ht h with h0 | ⟨a, len, cap, m, n, D, Pl, hcs, hb, hl, hm, hmm, hx, hi⟩
  · exact .inl h0
  · refine .inr ⟨a, len, cap, m, D, Pl, hcs, hb, hl, hm, hmm, fun i him => ?_⟩
    obtain ⟨cs', hc, ht'⟩ := hi i him
    rw [hC] at hc
    obtain ⟨ys, n', hn', hy, hlen, hyl, hf⟩ := DataW.trod_struct he ht'
    obtain ⟨_, hcl, hat⟩ := World.cells?_some hc
    refine ⟨ys, n', hyl, fun j f hj => ?_⟩
    obtain ⟨ho, hk⟩ := hone_of hone j f hj
    have hjl : j < fs.size := (Array.getElem?_eq_some_iff.1 hj).1
    have hcell := hat j hjl
    have hv : cs'[j]? = some (cs'[j]'(by omega)) := List.getElem?_eq_getElem (by omega)
    have h1 := hf j f hj
    rw [ho, hk] at h1
    have hone' : (cs'.drop j).take 1 = [cs'[j]'(by omega)] := by
      rw [List.drop_eq_getElem_cons (by omega)]
      rfl
    rw [hone'] at h1
    have hys : ys[j]? = some (ys[j]'(by omega)) := List.getElem?_eq_getElem (by omega)
    refine ⟨_, _, ?_, hys, h1.trans hys⟩
    rw [← Go.Deep.add_add, hcell, hv]
end

set_option maxRecDepth 100000 in
/-- the six fields of a value that came in -/
theorem el_in {H : Type} {enc : TypeId × Value → H} {w : World} {base n : Nat} {held : Bool} {v0 v1 v2 v3 v4 v5 : Value} {y0 y1 y2 y3 y4 y5 : DataW H × List MemPlace}
    (h0 : DataW.trod enc Tryz.prog w base (fun _ => true) held n 3 [v0] = some y0) (h1 : DataW.trod enc Tryz.prog w base (fun _ => true) held n 4 [v1] = some y1) (h2 : DataW.trod enc Tryz.prog w base (fun _ => true) held n 25 [v2] = some y2)
    (h3 : DataW.trod enc Tryz.prog w base (fun _ => true) held n 22 [v3] = some y3) (h4 : DataW.trod enc Tryz.prog w base (fun _ => true) held n 9 [v4] = some y4) (h5 : DataW.trod enc Tryz.prog w base (fun _ => true) held n 26 [v5] = some y5) : ElIn w ⟨v0, v1, v2, v3, v4, v5⟩ := by
  obtain ⟨k, e0, -, -⟩ := DataW.trod_int Tryz.underlying3 h0
  obtain ⟨neg, e1, -⟩ := DataW.trod_bool Tryz.underlying4 h1
  obtain ⟨b, e3, -, wb⟩ := DataW.trod_int Tryz.underlying22 h3
  obtain ⟨t, e4, -, ht⟩ := DataW.trod_string Tryz.underlying9 h4
  simp only [List.cons.injEq, and_true] at e0 e1 e3 e4
  subst e0 e1 e3 e4
  unfold maxLen at ht
  obtain ⟨b0, b1⟩ := bounds_u64 wb
  obtain ⟨bn, rfl⟩ : ∃ n : Nat, b = n := ⟨b.toNat, by omega⟩
  have hk : ∃ ka kn kc, v5 = .slice ka kn kc ∧ kn ≤ 9223372036854775807 := by
    rcases open_slice Tryz.underlying26 h5 with ⟨e, _⟩ | ⟨a, len, cap, m, n', D, Pl, e, _, hl, hm, _⟩
    · simp only [List.cons.injEq, and_true] at e
      exact ⟨_, _, _, e, by omega⟩
    · simp only [List.cons.injEq, and_true] at e
      unfold maxLen at hm
      exact ⟨_, _, _, e, by omega⟩
  obtain ⟨ka, kn, kc, rfl, hkn⟩ := hk
  rcases open_ints Tryz.underlying25 Tryz.underlying5 (by kernel_rfl) h2 with ⟨e, _⟩ | ⟨x, l, c, zs, e, _, hl, hm, hz, _, hcell, hwz⟩
  · simp only [List.cons.injEq, and_true] at e
    subst e
    exact ⟨k, neg, none, [], 0, bn, t, ka, kn, kc, rfl, .inl ⟨rfl, rfl⟩, Nat.le_refl _, fun _ => rfl, by decide, by omega, hkn, by omega⟩
  · simp only [List.cons.injEq, and_true] at e
    subst e
    obtain ⟨bs, eb, hr⟩ := rd_of_row hl (by simpa using hz) hcell hwz
    subst eb
    unfold maxLen at hm
    exact ⟨k, neg, some x, bs, c, bn, t, ka, kn, kc, rfl, hr, hl, (fun h => by cases h), by omega, by omega, hkn, by omega⟩

theorem add_off (a : Addr) (i j : Nat) (hj : 0 < j) : a.add (i + j) = ⟨(a.add i).block, (a.add i).off + j, none⟩ := by
  rw [← Go.Deep.add_add]
  generalize a.add i = p
  unfold Addr.add
  rw [if_neg (by omega)]
set_option maxRecDepth 100000 in
/-- a row of values that came in -/
theorem vals_in {H : Type} {enc : TypeId × Value → H} {w : World} {base fuel : Nat} {held : Bool} {A : Option Addr} {len cap : Nat} {x : DataW H × List MemPlace}
    (h : DataW.trod enc Tryz.prog w base (fun _ => true) held fuel 26 [.slice A len cap] = some x) : ∃ L : List V6, len = L.length ∧ ArgVals w A L ∧ L.length ≤ maxLen := by
  rcases open_slice_fields Tryz.underlying26 Tryz.underlying28 (by kernel_rfl) (by kernel_rfl) h with ⟨hcs, _⟩ | ⟨a, l, c, m, D, Pl, hcs, hb, hl, hm, hmm, hf⟩
  · simp at hcs
    obtain ⟨rfl, rfl, rfl⟩ := hcs
    exact ⟨[], rfl, ⟨fun h => absurd rfl h, (fun x hx => by cases hx), (fun x hx => by cases hx), fun j hj => absurd hj (Nat.not_lt_zero _)⟩, by simp⟩
  · simp at hcs
    obtain ⟨rfl, rfl, rfl⟩ := hcs
    simp only [if_true] at hmm
    have hel : ∀ i, i < cap → ∃ v : V6, AtA w (a.add (i * 6)) v ∧ ElIn w v := by
      intro i hi
      obtain ⟨ys, n, hyl, hg⟩ := hf i (by omega)
      obtain ⟨v0, y0, c0, -, t0⟩ := hg 0 _ rfl
      obtain ⟨v1, y1, c1, -, t1⟩ := hg 1 _ rfl
      obtain ⟨v2, y2, c2, -, t2⟩ := hg 2 _ rfl
      obtain ⟨v3, y3, c3, -, t3⟩ := hg 3 _ rfl
      obtain ⟨v4, y4, c4, -, t4⟩ := hg 4 _ rfl
      obtain ⟨v5, y5, c5, -, t5⟩ := hg 5 _ rfl
      refine ⟨⟨v0, v1, v2, v3, v4, v5⟩, ⟨c0, ?_, ?_, ?_, ?_, ?_⟩, el_in t0 t1 t2 t3 t4 t5⟩
      · rw [← add_off a (i * 6) 1 (by decide)]; exact c1
      · rw [← add_off a (i * 6) 2 (by decide)]; exact c2
      · rw [← add_off a (i * 6) 3 (by decide)]; exact c3
      · rw [← add_off a (i * 6) 4 (by decide)]; exact c4
      · rw [← add_off a (i * 6) 5 (by decide)]; exact c5
    have hL : ∀ k, k ≤ cap → ∃ L : List V6, L.length = k ∧ ∀ j (hj : j < L.length), AtA w (a.add (j * 6)) L[j] ∧ ElIn w L[j] := by
      intro k
      induction k with
      | zero => exact fun _ => ⟨[], rfl, fun j hj => by simp at hj⟩
      | succ k ih =>
        intro hk
        obtain ⟨L, h1, h2⟩ := ih (by omega)
        obtain ⟨v, h3, h4⟩ := hel k (by omega)
        refine ⟨L ++ [v], by simp [h1], fun j hj => ?_⟩
        by_cases hjl : j < L.length
        · rw [List.getElem_append_left hjl]
          exact h2 j hjl
        · have : j = L.length := by simp at hj; omega
          subst this
          rw [List.getElem_append_right (Nat.le_refl _)]
          simp only [Nat.sub_self, List.getElem_cons_zero]
          rw [h1]
          exact ⟨h3, h4⟩
    obtain ⟨L, h1, h2⟩ := hL len hl
    refine ⟨L, h1.symm, ⟨fun _ => rfl, fun x hx hne => ?_, fun x hx j hj => ?_, fun j hj => (h2 j hj).2⟩, by omega⟩
    · obtain rfl := Option.some.inj hx
      have hpos : 0 < L.length := List.length_pos_iff.2 hne
      have := World.block_lt_of_cell? _ _ (h2 0 hpos).1.1
      rwa [Ref.block_add] at this
    · obtain rfl := Option.some.inj hx
      exact (h2 j hj).1
end Go.Proofs.YtafbheamnjmfoaaGreat.Sc

namespace Go.Proofs.YtafbheamnjmfoaaGreat.Ls
open Go.RowKit Go.WideShapes Go.Proofs.YtafbheamnjmfoaaGreat.Own Go.Proofs.YtafbheamnjmfoaaGreat.Num Go.Proofs.YtafbheamnjmfoaaGreat.Ref Go.Proofs.YtafbheamnjmfoaaGreat.VRow Go.Proofs.YtafbheamnjmfoaaGreat.Sc
set_option linter.unusedVariables false

set_option maxHeartbeats 2000000 in
set_option maxRecDepth 100000 in
theorem scal_any (x : V6) (w : World) (h : ElIn w x) : Calls Tryz.prog 34 #[.agg x.arr] w (SomeSc w) := by
  obtain ⟨W, hW⟩ : ∃ W, (w.alloc (.cells x.arr 28)).alloc (.cells #[.int .i64 0, .bool false, .slice none 0 0, .int .u64 0, .string ⟨#[]⟩, .slice none 0 0] 28) = W := ⟨_, rfl⟩
  have hb1 : Below w.heap.size w W := by rw [← hW]; exact (below_one' _ (Nat.le_refl _)).alloc (by simp) _
  have hk1 : Box.Holds W (w.heap.size + 1) 28 #[.int .i64 0, .bool false, .slice none 0 0, .int .u64 0, .string ⟨#[]⟩, .slice none 0 0] := by
    rw [← hW]
    have := Box.Holds.made (w.alloc (.cells x.arr 28)) 28 #[.int .i64 0, .bool false, .slice none 0 0, .int .u64 0, .string ⟨#[]⟩, .slice none 0 0]
    rwa [World.size_alloc] at this
  have hx1 : Box.Holds W w.heap.size 28 x.arr := by
    rw [← hW]
    exact (Box.Holds.made w 28 x.arr).alloc _
  have hc := Lib.hid (clean_any x W (h.later hb1))
  obtain ⟨k, neg, a, l, c, b, t, ka, kn, kc, rfl, _⟩ := h
  unfold V6.arr at hc hW hx1 ⊢
  dsimp only at hc hW hx1 ⊢
  have hb1' := Lib.hid hb1
  have hk1' := Lib.hid hk1
  have hW' := Lib.hid hW
  obtain ⟨x0, x1, x2, x3, x4, x5, xl, y0, y1, y2, y3, y4, y5⟩ := Rem.val_facts hx1
  clear hb1 hk1 hW hx1
  go_enter Tryz.func34, Tryz.ntmps34
  go_upto_region 1 with fail
  rw [hW'.out]
  clear hW'
  go_wp2_with fail
  refine hc.out.mono ?_
  rintro e w2 ⟨⟨z, s, rfl, hz, hs⟩, hb2⟩
  obtain ⟨zn, za, zl, zc, zb, zt, rfl⟩ := hz.form
  have hk2 := hk1'.out.later hb2
  obtain ⟨p0, p1, p2, p3, p4, p5, pl, f0, f1, f2, f3, f4, f5⟩ := Rem.val_facts hk2
  have hfin := Lib.hid (Rem.six_below (.int .i64 s.kind) (.bool zn) (.slice za zl zc) (.int .u64 zb) (.string zt) (.slice none 0 0) (hb1'.out.trans (hb2.mono hb1'.out.size)) (Nat.le_succ w.heap.size))
  have hz2 := Lib.hid (hz.kept (six_kept (.int .i64 s.kind) (.bool zn) (.slice za zl zc) (.int .u64 zb) (.string zt) (.slice none 0 0) hk2))
  have hs' := Lib.hid hs
  clear hz hs hb2 hb1' hk1' hc hk2 x0 x1 x2 x3 x4 x5 xl y0 y1 y2 y3 y4 y5
  unfold V6.arr
  go_wp2
  exact bodyPost_ret (v := .agg #[.int .i64 s.kind, .bool zn, .slice za zl zc, .int .u64 zb, .string zt, .slice none 0 0]) (by simp [results, Tryz.results34, go_sem, p0, p1, p2, p3, p4, p5]) rfl ⟨⟨_, s, rfl, hz2.out, hs'.out⟩, hfin.out⟩
set_option maxRecDepth 100000 in
theorem scals_any (A : Option Addr) (L : List V6) (cp : Nat) (w : World) (h : ArgVals w A L) (hl : L.length ≤ 2147483647) :
    Calls Tryz.prog 12 #[.slice A L.length cp, .int .i64 0] w fun e w' => (∃ u S, e = .returned u ∧ Vals w' w.heap.size u S ∧ S.length ≤ 16 ∧ ∀ s ∈ S, s.ok) ∧ Below w.heap.size w w' := by
  have hcl := Lib.hid fun x W h => scal_any x W h
  go_enter Tryz.func12, Tryz.ntmps12
  go_wp2
  go_loopw [5, 6] (fun u i wr => ∃ (j : Nat) (S : List Sc), i = .int .i64 j ∧ j ≤ L.length ∧ j ≤ 16 ∧ S.length = j ∧ Vals wr w.heap.size u S ∧ (∀ s ∈ S, s.ok) ∧ Below w.heap.size w wr) (fun _ i _ => L.length - (intOf i).toNat)
  case atStart => exact ⟨0, [], rfl, Nat.zero_le _, Nat.zero_le _, rfl, Vals.nil _ _, (fun s h => by cases h), Below.refl _ _⟩
  case round =>
    obtain ⟨j, S, rfl, hj, hj12, hS, hv, hok, hb⟩ := hrel
    by_cases hlt : j < L.length ∧ j < 16
    · obtain ⟨hlt, hlt2⟩ := hlt
      obtain ⟨x, rfl⟩ := Option.isSome_iff_exists.1 (h.some_ (by rintro rfl; simp at hlt))
      have hxb := h.lt x rfl (by rintro rfl; simp at hlt)
      obtain ⟨y, hy⟩ : ∃ y, L[j] = y := ⟨_, rfl⟩
      obtain ⟨c0, c1, c2, c3, c4, c5⟩ := (h.at_ x rfl j hlt).later hb (by rw [block_add]; exact hxb)
      rw [hy] at c0 c1 c2 c3 c4 c5
      have hcy := Lib.hid (hcl.out y wr ((hy ▸ h.el j hlt : ElIn w y).later hb))
      unfold V6.arr at hcy
      have hv' := Lib.hid hv
      have hb' := Lib.hid hb
      have hS' := Lib.hid hS
      have hok' := Lib.hid hok
      have hBw := hb.size
      clear h hy hv hb hS hok
      go_wp2_with fail
      refine hcy.out.mono ?_
      rintro e w5 ⟨⟨z, s, rfl, hz, hs⟩, hb5⟩
      have hz' := Lib.hid hz
      have hb5' := Lib.hid (hb'.out.trans (hb5.mono hBw))
      have hv5' := Lib.hid (hv'.out.later hb5)
      have hSn : S.length ≤ 1000000 := by rw [hS'.out]; omega
      clear hz hb5 c0 c1 c2 c3 c4 c5
      unfold V6.arr
      go_wp2_with (at_builtin; refine wpList_sc (w0 := w) (B := w.heap.size) (y := z) (t := s) rfl _ _ rfl _ S rfl hv5'.out hb5'.out (Nat.le_refl _) hz'.out rfl hSn ?_; intro v4 w4 hv4 hb4)
      go_roundw
      case rel => exact ⟨j + 1, S ++ [s], by go_num, by omega, by omega, by simp [hS'.out], hv4, fun x hx => by rw [List.mem_append, List.mem_singleton] at hx; rcases hx with hx | rfl; exact hok'.out x hx; exact hs, hb4⟩
      case measure => simp [intOf]; omega
    · have hS12 : S.length ≤ 16 := by omega
      by_cases h1 : j < L.length
      · have h2 : ¬ j < 16 := fun h => hlt ⟨h1, h⟩
        have h2' : decide ((j : Int) < 16) = false := by simp; omega
        go_wp2
        go_ret
        exact ⟨⟨_, S, rfl, hv, hS12, hok⟩, hb⟩
      · go_wp2
        go_ret
        exact ⟨⟨_, S, rfl, hv, hS12, hok⟩, hb⟩
end Go.Proofs.YtafbheamnjmfoaaGreat.Ls

namespace Go.Proofs.YtafbheamnjmfoaaGreat.Ls
open Go.Joins Go.ChangeShapes Go.WideShapes Go.ChangeAt Go.RowKit Go.Deep Go.Proofs.YtafbheamnjmfoaaGreat.Own Go.Proofs.YtafbheamnjmfoaaGreat.Num Go.Proofs.YtafbheamnjmfoaaGreat.Ref Go.Proofs.YtafbheamnjmfoaaGreat.VRow Go.Proofs.YtafbheamnjmfoaaGreat.Sc
set_option linter.unusedVariables false

/-- a step's cells as they came in -/
structure R17 where
  k : Int
  i : Int
  j : Int
  m : Int
  y : V6
  z : V6
  s : Value
def R17.cs (r : R17) : List Value := [.int .i64 r.k, .int .i64 r.i, .int .i64 r.j, .int .i64 r.m, r.y.k, r.y.n, r.y.m, r.y.b, r.y.t, r.y.s, r.z.k, r.z.n, r.z.m, r.z.b, r.z.t, r.z.s, r.s]
structure R17.Good (w : World) (r : R17) : Prop where
  y : ElIn w r.y
  z : ElIn w r.z
  m1 : -9223372036854775808 ≤ r.m
  m2 : r.m ≤ 9223372036854775807
theorem R17.Good.later {w w' : World} {r : R17} (h : r.Good w) (hb : Below w.heap.size w w') : r.Good w' := ⟨h.y.later hb, h.z.later hb, h.m1, h.m2⟩
/-- a row of steps that came in -/
structure ArgSteps (w : World) (A : Option Addr) (L : List R17) : Prop where
  some_ : L ≠ [] → A.isSome
  lt : ∀ x, A = some x → L ≠ [] → x.block < w.heap.size
  at_ : ∀ x, A = some x → ∀ j (hj : j < L.length) q u, L[j].cs[q]? = some u → w.cell? ((x.add (j * 17)).add q) = some u
  el : ∀ j (hj : j < L.length), L[j].Good w
theorem ArgSteps.later {w w' : World} {A : Option Addr} {L : List R17} (h : ArgSteps w A L) (hb : Below w.heap.size w w') : ArgSteps w' A L := by
  refine ⟨h.some_, fun x hx hn => Nat.lt_of_lt_of_le (h.lt x hx hn) hb.size, fun x hx j hj q u hu => ?_, fun j hj => (h.el j hj).later hb⟩
  refine (hb.cell ?_).trans (h.at_ x hx j hj q u hu)
  rw [Ref.block_add, Ref.block_add]
  exact h.lt x hx (by rintro rfl; simp at hj)
theorem list17 {α : Type} (l : List α) (h : l.length = 17) : ∃ c0 c1 c2 c3 c4 c5 c6 c7 c8 c9 c10 c11 c12 c13 c14 c15 c16, l = [c0, c1, c2, c3, c4, c5, c6, c7, c8, c9, c10, c11, c12, c13, c14, c15, c16] := by
  match l, h with
  | [c0, c1, c2, c3, c4, c5, c6, c7, c8, c9, c10, c11, c12, c13, c14, c15, c16], _ => exact ⟨c0, c1, c2, c3, c4, c5, c6, c7, c8, c9, c10, c11, c12, c13, c14, c15, c16, rfl⟩
set_option maxRecDepth 100000 in
/-- the six cells of a value in a step that came in -/
theorem six_in {H : Type} {enc : TypeId × Value → H} {w : World} {base n : Nat} {held : Bool} {v0 v1 v2 v3 v4 v5 : Value} {x : DataW H × List MemPlace}
    (h : DataW.trod enc Tryz.prog w base (fun _ => true) held n 28 [v0, v1, v2, v3, v4, v5] = some x) : ElIn w ⟨v0, v1, v2, v3, v4, v5⟩ := by
  obtain ⟨xs, n', _, _, _, hlen, hg⟩ := DataW.trod_struct Tryz.underlying28 h
  match xs, hlen with
  | [y0, y1, y2, y3, y4, y5], _ =>
    have g0 := hg 0 _ rfl
    have g1 := hg 1 _ rfl
    have g2 := hg 2 _ rfl
    have g3 := hg 3 _ rfl
    have g4 := hg 4 _ rfl
    have g5 := hg 5 _ rfl
    exact el_in g0 g1 g2 g3 g4 g5
set_option maxRecDepth 100000 in
/-- a row of steps that came in -/
theorem steps_in {H : Type} {enc : TypeId × Value → H} {w : World} {base fuel : Nat} {held : Bool} {A : Option Addr} {len cap : Nat} {x : DataW H × List MemPlace}
    (h : DataW.trod enc Tryz.prog w base (fun _ => true) held fuel 34 [.slice A len cap] = some x) : ∃ L : List R17, len = L.length ∧ ArgSteps w A L ∧ L.length ≤ maxLen := by
  rcases open_slice Tryz.underlying34 h with ⟨hcs, _⟩ | ⟨a, l, c, m, n, D, Pl, hcs, hb, hl, hm, hmm, hx, hi⟩
  · simp at hcs
    obtain ⟨rfl, rfl, rfl⟩ := hcs
    exact ⟨[], rfl, ⟨fun h => absurd rfl h, (fun x hx hn => absurd rfl hn), (fun x hx j hj => absurd hj (Nat.not_lt_zero _)), fun j hj => absurd hj (Nat.not_lt_zero _)⟩, by simp⟩
  · simp at hcs
    obtain ⟨rfl, rfl, rfl⟩ := hcs
    simp only [if_true] at hmm
    have hC : Tryz.prog.cellsOf 62 = 17 := by kernel_rfl
    have hel : ∀ i, i < cap → ∃ r : R17, (∀ q u, r.cs[q]? = some u → w.cell? ((a.add (i * 17)).add q) = some u) ∧ r.Good w := by
      intro i hic
      obtain ⟨cs', hc, ht'⟩ := hi i (by omega)
      rw [hC] at hc
      obtain ⟨xs, n', _, _, hlen, hxl, hg⟩ := DataW.trod_struct Tryz.underlying62 ht'
      obtain ⟨_, hcl, hat⟩ := World.cells?_some hc
      obtain ⟨c0, c1, c2, c3, c4, c5, c6, c7, c8, c9, c10, c11, c12, c13, c14, c15, c16, rfl⟩ := list17 cs' (hlen.trans hC)
      match xs, hxl with
      | [y0, y1, y2, y3, y4, y5, y6], _ =>
        have g0 := hg 0 _ rfl
        have g1 := hg 1 _ rfl
        have g2 := hg 2 _ rfl
        have g3 := hg 3 _ rfl
        have g4 := hg 4 _ rfl
        have g5 := hg 5 _ rfl
        obtain ⟨k, e0, -, -⟩ := DataW.trod_int (cs := [c0]) Tryz.underlying3 g0
        obtain ⟨i1, e1, -, -⟩ := DataW.trod_int (cs := [c1]) Tryz.underlying3 g1
        obtain ⟨i2, e2, -, -⟩ := DataW.trod_int (cs := [c2]) Tryz.underlying3 g2
        obtain ⟨i3, e3, -, w3⟩ := DataW.trod_int (cs := [c3]) Tryz.underlying3 g3
        simp only [List.cons.injEq, and_true] at e0 e1 e2 e3
        subst e0 e1 e2 e3
        obtain ⟨m1, m2⟩ := bounds_i64 w3
        refine ⟨⟨k, i1, i2, i3, ⟨c4, c5, c6, c7, c8, c9⟩, ⟨c10, c11, c12, c13, c14, c15⟩, c16⟩, fun q u hu => ?_, ⟨six_in g4, six_in g5, m1, m2⟩⟩
        have hq : q < 17 := (List.getElem?_eq_some_iff.1 hu).1
        exact (hat q hq).trans hu
    have hL : ∀ k, k ≤ cap → ∃ L : List R17, L.length = k ∧ ∀ j (hj : j < L.length), (∀ q u, L[j].cs[q]? = some u → w.cell? ((a.add (j * 17)).add q) = some u) ∧ L[j].Good w := by
      intro k
      induction k with
      | zero => exact fun _ => ⟨[], rfl, fun j hj => by simp at hj⟩
      | succ k ih =>
        intro hk
        obtain ⟨L, h1, h2⟩ := ih (by omega)
        obtain ⟨v, h3, h4⟩ := hel k (by omega)
        refine ⟨L ++ [v], by simp [h1], fun j hj => ?_⟩
        by_cases hjl : j < L.length
        · rw [List.getElem_append_left hjl]
          exact h2 j hjl
        · have : j = L.length := by simp at hj; omega
          subst this
          rw [List.getElem_append_right (Nat.le_refl _)]
          simp only [Nat.sub_self, List.getElem_cons_zero]
          rw [h1]
          exact ⟨h3, h4⟩
    obtain ⟨L, h1, h2⟩ := hL len hl
    refine ⟨L, h1.symm, ⟨fun _ => rfl, fun x hx hne => ?_, fun x hx j hj => ?_, fun j hj => (h2 j hj).2⟩, by omega⟩
    · obtain rfl := Option.some.inj hx
      have hpos : 0 < L.length := List.length_pos_iff.2 hne
      have := World.block_lt_of_cell? _ _ ((h2 0 hpos).1 0 _ rfl)
      rwa [Ref.block_add, Ref.block_add] at this
    · obtain rfl := Option.some.inj hx
      exact (h2 j hj).1
end Go.Proofs.YtafbheamnjmfoaaGreat.Ls
