/-
  A value that came in as an argument: its cells, and its bytes.
-/
import Derived.Test.YtkflmgpigidkeaaGreatRowIn
import Derived.OpenShut
import Derived.ChangeOld
import Derived.Below
import Derived.Carry
import Derived.Lib.SmallJoins
import Derived.Deep.Slices
namespace Go.Proofs.YtkflmgpigidkeaaGreat.Ref
open Go.Joins Go.ChangeShapes Go.WideShapes Go.ChangeAt Go.RowKit Go.Deep Go.Proofs.YtkflmgpigidkeaaGreat.Own Go.Proofs.YtkflmgpigidkeaaGreat.Num
set_option linter.unusedVariables false

section
variable {H : Type} {enc : TypeId × Value → H} {P : Program} {w : World} {base : Nat} {spare : Nat → Bool} {held : Bool}
theorem open_agg6 {r : Reach} {b0 : Nat} {t : TypeId} {f0 f1 f2 f3 f4 f5 : Field} {v : Value} {d : DataW H} {p : List MemPlace} (hs : P.underlying t = some (.struct #[f0, f1, f2, f3, f4, f5])) (hone : oneCellFields P #[f0, f1, f2, f3, f4, f5] = true) (hC : P.cellsOf t = 6)
    (hv : Value.okWide P w r b0 t v) (h : DataW.Trod enc P w base spare held t v d p) :
    ∃ (v0 v1 v2 v3 v4 v5 : Value) (y0 y1 y2 y3 y4 y5 : DataW H × List MemPlace) (n : Nat), v = .agg #[v0, v1, v2, v3, v4, v5] ∧ d = .agg [y0.1, y1.1, y2.1, y3.1, y4.1, y5.1] ∧ p = y0.2 ++ (y1.2 ++ (y2.2 ++ (y3.2 ++ (y4.2 ++ y5.2)))) ∧
      DataW.trod enc P w base spare held n f0.type [v0] = some y0 ∧ DataW.trod enc P w base spare held n f1.type [v1] = some y1 ∧ DataW.trod enc P w base spare held n f2.type [v2] = some y2 ∧ DataW.trod enc P w base spare held n f3.type [v3] = some y3 ∧ DataW.trod enc P w base spare held n f4.type [v4] = some y4 ∧ DataW.trod enc P w base spare held n f5.type [v5] = some y5 := by
  obtain ⟨cs, rfl, hsz⟩ := okWide_struct hs hv
  obtain ⟨l⟩ := cs
  match l, hsz.trans hC with
  | [c0, c1, c2, c3, c4, c5], _ =>
    obtain ⟨fuel, hf⟩ := h
    obtain ⟨xs, n, _, hx, _, hlen, hg⟩ := DataW.trod_struct hs hf
    obtain ⟨o0, k0⟩ := hone_of hone 0 f0 rfl
    obtain ⟨o1, k1⟩ := hone_of hone 1 f1 rfl
    obtain ⟨o2, k2⟩ := hone_of hone 2 f2 rfl
    obtain ⟨o3, k3⟩ := hone_of hone 3 f3 rfl
    obtain ⟨o4, k4⟩ := hone_of hone 4 f4 rfl
    obtain ⟨o5, k5⟩ := hone_of hone 5 f5 rfl
    match xs, hlen with
    | [y0, y1, y2, y3, y4, y5], _ =>
      simp only [Prod.mk.injEq] at hx
      exact ⟨c0, c1, c2, c3, c4, c5, y0, y1, y2, y3, y4, y5, n, rfl, by simpa using hx.1, by simpa using hx.2, by simpa [Value.cells, o0, k0] using hg 0 f0 rfl, by simpa [Value.cells, o1, k1] using hg 1 f1 rfl, by simpa [Value.cells, o2, k2] using hg 2 f2 rfl, by simpa [Value.cells, o3, k3] using hg 3 f3 rfl, by simpa [Value.cells, o4, k4] using hg 4 f4 rfl, by simpa [Value.cells, o5, k5] using hg 5 f5 rfl⟩
end

/-- a value that came in: its cells, and its bytes -/
def ValIn (w : World) (v : Value) : Prop := ∃ (k : Int) (neg : Bool) (a : Option Addr) (l : List UInt8) (c : Nat) (b : Int) (t : ByteArray) (ka : Option Addr) (kn kc : Nat), v = .agg #[.int .i64 k, .bool neg, .slice a l.length c, .int .u64 b, .string t, .slice ka kn kc] ∧
  Rd w a l ∧ l.length ≤ c ∧ (a = none → c = 0) ∧ l.length ≤ 9223372036854775807 ∧ t.size ≤ 9223372036854775807 ∧ kn ≤ 9223372036854775807

set_option maxRecDepth 100000 in
theorem val_in {H : Type} {enc : TypeId × Value → H} {w : World} {base : Nat} {held : Bool} {r : Reach} {b0 : Nat} {v : Value} {d : DataW H} {p : List MemPlace}
    (hv : Value.okWide Tryz.prog w r b0 27 v) (h : DataW.Trod enc Tryz.prog w base (fun _ => true) held 27 v d p) : ValIn w v := by
  obtain ⟨v0, v1, v2, v3, v4, v5, y0, y1, y2, y3, y4, y5, n, rfl, -, -, h0, h1, h2, h3, h4, h5⟩ := open_agg6 Tryz.underlying27 (by kernel_rfl) (by kernel_rfl) hv h
  obtain ⟨k, e0, -, -⟩ := DataW.trod_int Tryz.underlying3 h0
  obtain ⟨neg, e1, -⟩ := DataW.trod_bool Tryz.underlying4 h1
  obtain ⟨b, e3, -, -⟩ := DataW.trod_int Tryz.underlying24 h3
  obtain ⟨t, e4, -, ht⟩ := DataW.trod_string Tryz.underlying9 h4
  simp only [List.cons.injEq, and_true] at e0 e1 e3 e4
  subst e0 e1 e3 e4
  unfold maxLen at ht
  have hk : ∃ ka kn kc, v5 = .slice ka kn kc ∧ kn ≤ 9223372036854775807 := by
    rcases open_slice Tryz.underlying25 h5 with ⟨e, _⟩ | ⟨a, len, cap, m, n', D, Pl, e, _, hl, hm, _⟩
    · simp only [List.cons.injEq, and_true] at e
      exact ⟨_, _, _, e, by omega⟩
    · simp only [List.cons.injEq, and_true] at e
      unfold maxLen at hm
      exact ⟨_, _, _, e, by omega⟩
  obtain ⟨ka, kn, kc, rfl, hkn⟩ := hk
  rcases open_ints Tryz.underlying23 Tryz.underlying5 (by kernel_rfl) h2 with ⟨e, _⟩ | ⟨x, l, c, zs, e, _, hl, hm, hz, _, hcell, hwz⟩
  · simp only [List.cons.injEq, and_true] at e
    subst e
    exact ⟨k, neg, none, [], 0, b, t, ka, kn, kc, rfl, .inl ⟨rfl, rfl⟩, Nat.le_refl _, fun _ => rfl, by decide, by omega, hkn⟩
  · simp only [List.cons.injEq, and_true] at e
    subst e
    obtain ⟨bs, eb, hr⟩ := rd_of_row hl (by simpa using hz) hcell hwz
    subst eb
    unfold maxLen at hm
    exact ⟨k, neg, some x, bs, c, b, t, ka, kn, kc, rfl, hr, hl, (fun h => by cases h), by omega, by omega, hkn⟩
end Go.Proofs.YtkflmgpigidkeaaGreat.Ref
