/-
  The parts of a slice as they are drawn: none, an integer that is an int32, a text.
-/
import Derived.Test.YtaappbnbjpbbcaaSpecVal
import Derived.Test.YtaappbnbjpbbcaaSpecInt5
namespace Go.Proofs.Ytaappbnbjpbbcaa.Ref
open Go.RowKit Go.WideShapes Go.Proofs.Ytaappbnbjpbbcaa.Own Go.Proofs.Ytaappbnbjpbbcaa.Num
set_option linter.unusedVariables false

inductive Part where
  | none
  | num (z : Int)
  | text
def Part.ok : Part → Prop
  | .num z => -2147483648 ≤ z ∧ z ≤ 2147483647
  | _ => True
/-- a value that is such a part -/
def IsPart (w : World) (B : Nat) (v : Value) : Part → Prop
  | .none => v = .agg #[.int .i64 0, .bool false, .slice none 0 0, .int .u64 0, .string ⟨#[]⟩, .slice none 0 0]
  | .num z => IsVal w B v (decide (z < 0)) z.natAbs
  | .text => v = .agg #[.int .i64 4, .bool false, .slice none 0 0, .int .u64 0, .string ⟨#[]⟩, .slice none 0 0]
theorem IsPart.later {w w' : World} {B : Nat} {v : Value} {P : Part} (h : IsPart w B v P) (hb : Below w.heap.size w w') : IsPart w' B v P := by
  cases P
  · exact h
  · exact IsVal.later h hb
  · exact h
theorem IsPart.mono {w : World} {B B' : Nat} {v : Value} {P : Part} (h : IsPart w B v P) (hB : B' ≤ B) : IsPart w B' v P := by
  cases P
  · exact h
  · exact IsVal.mono h hB
  · exact h
theorem IsPart.above {w w' : World} {B : Nat} {v : Value} {P : Part} (h : IsPart w B v P) (hb : Box.Above B w w') : IsPart w' B v P := by
  cases P
  · exact h
  · exact IsVal.above h hb
  · exact h
/-- the cells of such a part -/
theorem IsPart.shape {w : World} {B : Nat} {v : Value} {P : Part} (h : IsPart w B v P) : ∃ k neg a n c t, v = .agg #[.int .i64 k, .bool neg, .slice a n c, .int .u64 0, .string t, .slice none 0 0] := by
  cases P
  · exact ⟨_, _, _, _, _, _, h⟩
  · obtain ⟨u, rfl, ho, _⟩ := h
    obtain ⟨a, c, rfl, -, -⟩ := Rd.of_own ho
    exact ⟨_, _, _, _, _, _, rfl⟩
  · exact ⟨_, _, _, _, _, _, h⟩

/-- some part comes of it -/
def SomePart (w : World) (e : Ending) (w' : World) : Prop := ∃ v P, e = .returned v ∧ Part.ok P ∧ IsPart w' w.heap.size v P ∧ Below w.heap.size w w'

theorem six_above {w1 : World} {s B : Nat} (u0 u1 u2 u3 u4 u5 : Value) (hsB : s < B) :
    Box.Above B w1 ((((((w1.setCell ⟨s, 0, none⟩ u0).setCell ⟨s, 1, none⟩ u1).setCell ⟨s, 2, none⟩ u2).setCell ⟨s, 3, none⟩ u3).setCell ⟨s, 4, none⟩ u4).setCell ⟨s, 5, none⟩ u5) := by
  have h0 := (Box.Above.refl B w1).setCell (p := ⟨s, 0, none⟩) hsB u0
  have h1 := h0.setCell (p := ⟨s, 1, none⟩) hsB u1
  have h2 := h1.setCell (p := ⟨s, 2, none⟩) hsB u2
  have h3 := h2.setCell (p := ⟨s, 3, none⟩) hsB u3
  have h4 := h3.setCell (p := ⟨s, 4, none⟩) hsB u4
  exact h4.setCell (p := ⟨s, 5, none⟩) hsB u5
theorem six_below {w w1 : World} {s B : Nat} (u0 u1 u2 u3 u4 u5 : Value) (hb : Below B w w1) (hs : B ≤ s) :
    Below B w ((((((w1.setCell ⟨s, 0, none⟩ u0).setCell ⟨s, 1, none⟩ u1).setCell ⟨s, 2, none⟩ u2).setCell ⟨s, 3, none⟩ u3).setCell ⟨s, 4, none⟩ u4).setCell ⟨s, 5, none⟩ u5) := by
  have h0 := hb.setCell (p := ⟨s, 0, none⟩) hs u0
  have h1 := h0.setCell (p := ⟨s, 1, none⟩) hs u1
  have h2 := h1.setCell (p := ⟨s, 2, none⟩) hs u2
  have h3 := h2.setCell (p := ⟨s, 3, none⟩) hs u3
  have h4 := h3.setCell (p := ⟨s, 4, none⟩) hs u4
  exact h4.setCell (p := ⟨s, 5, none⟩) hs u5

theorem mag_small {z : Int} (h1 : -2147483648 ≤ z) (h2 : z ≤ 2147483647) : (mag z.natAbs).length ≤ 4 := mag_len_le (by omega)

set_option maxHeartbeats 1000000 in
set_option maxRecDepth 100000 in
theorem steps_num (neg : Bool) (a : Option Addr) (l : List UInt8) (c : Nat) (b : Int) (t : ByteArray) (ka : Option Addr) (kn kc : Nat) (w : World) (h : Rd w a l) (hl : l.length ≤ 2147483647) (hc : l.length ≤ c) (ha : a = none → c = 0) :
    Calls Try.prog 8 #[.agg #[.int .i64 2, .bool neg, .slice a l.length c, .int .u64 b, .string t, .slice ka kn kc]] w (SomePart w) := by
  obtain ⟨V, hV⟩ : ∃ V, be l = V := ⟨_, rfl⟩
  have hVl : (mag V).length ≤ 2147483647 := by
    have := be_lt l
    rw [hV] at this
    exact Nat.le_trans (mag_len_le this) hl
  have hnum := Lib.hid fun W (hb : Below w.heap.size w W) => num_any 2 neg a l c b t ka kn kc W (h.later hb) hl hc ha
  obtain ⟨n, hn⟩ : ∃ n, l.length = n := ⟨_, rfl⟩
  rw [hV, hn] at hnum
  rw [hn]
  obtain ⟨N, hN⟩ : ∃ N, (neg && decide (0 < V)) = N := ⟨_, rfl⟩
  rw [hN] at hnum
  have hint := Lib.hid fun x B W (h : IsInt W B x N V) => rint64_any x N V B W h hVl
  obtain ⟨G, hG⟩ : ∃ G, get64 (sg N V) = G := ⟨_, rfl⟩
  obtain ⟨F, hF⟩ : ∃ F, fits64 (sg N V) = F := ⟨_, rfl⟩
  rw [hG, hF] at hint
  obtain ⟨Z, hZ⟩ : ∃ Z, wrap32 G = Z := ⟨_, rfl⟩
  have hZb : -2147483648 ≤ Z ∧ Z ≤ 2147483647 := by rw [← hZ]; unfold wrap32; omega
  have hsm := Lib.hid fun W => small_any Z (by omega) (by omega) W
  have hiv := Lib.hid fun x B W (h : IsInt W B x (decide (Z < 0)) Z.natAbs) => intval_any x (decide (Z < 0)) Z.natAbs B W h (Nat.le_trans (mag_small hZb.1 hZb.2) (by omega))
  have hok := Lib.hid (show Part.ok (.num Z) from hZb)
  obtain ⟨hZb1, hZb2⟩ := hZb
  have hB2 : Below w.heap.size w ((w.alloc (.cells #[.int .i64 2, .bool neg, .slice a n c, .int .u64 b, .string t, .slice ka kn kc] 26)).alloc (.cells #[.int .i64 0, .bool false, .slice none 0 0, .int .u64 0, .string ⟨#[]⟩, .slice none 0 0] 26)) := (below_one' _ (Nat.le_refl _)).alloc (by simp) _
  have hv2 : Box.Holds ((w.alloc (.cells #[.int .i64 2, .bool neg, .slice a n c, .int .u64 b, .string t, .slice ka kn kc] 26)).alloc (.cells #[.int .i64 0, .bool false, .slice none 0 0, .int .u64 0, .string ⟨#[]⟩, .slice none 0 0] 26)) (w.heap.size + 1) 26 #[.int .i64 0, .bool false, .slice none 0 0, .int .u64 0, .string ⟨#[]⟩, .slice none 0 0] := by
    have := Box.Holds.made (w.alloc (.cells #[.int .i64 2, .bool neg, .slice a n c, .int .u64 b, .string t, .slice ka kn kc] 26)) 26 #[.int .i64 0, .bool false, .slice none 0 0, .int .u64 0, .string ⟨#[]⟩, .slice none 0 0]
    rwa [show (w.alloc (.cells #[.int .i64 2, .bool neg, .slice a n c, .int .u64 b, .string t, .slice ka kn kc] 26)).heap.size = w.heap.size + 1 by simp] at this
  have hsz : ((w.alloc (.cells #[.int .i64 2, .bool neg, .slice a n c, .int .u64 b, .string t, .slice ka kn kc] 26)).alloc (.cells #[.int .i64 0, .bool false, .slice none 0 0, .int .u64 0, .string ⟨#[]⟩, .slice none 0 0] 26)).heap.size = w.heap.size + 2 := by simp
  have hnum2 := Lib.hid (hnum.out _ hB2)
  have hsz' := Lib.hid hsz
  have hB2' := Lib.hid hB2
  have hv2' := Lib.hid hv2
  have hZ' := Lib.hid hZ
  clear hV hn hN hnum hG hF h hl hc ha hB2 hv2 hsz hVl hZ
  go_enter Try.func8, Try.ntmps8
  go_wp2_with fail
  refine hnum2.out.mono ?_
  rintro e w1 ⟨⟨x, rfl, hx⟩, hb1⟩
  go_wp2_with fail
  refine (hint.out _ _ _ hx).mono ?_
  rintro e w2 ⟨rfl, hb2⟩
  clear hx
  have hZ := hZ'.out
  go_wp2_with fail
  refine (hsm.out _).mono ?_
  rintro e w3 ⟨⟨x3, rfl, hx3⟩, hb3⟩
  go_wp2_with fail
  refine (hiv.out _ _ _ hx3).mono ?_
  rintro e w4 ⟨⟨u, rfl, ho⟩, hb4⟩
  clear hx3
  have hsB1 := hB2'.out.size
  have hb12 := hb1.trans (hb2.mono hb1.size)
  have hb13 := hb12.trans (hb3.mono hb12.size)
  have hb14 := hb13.trans (hb4.mono hb13.size)
  have g := hv2'.out.later hb14
  have hB5 := hB2'.out.trans (hb14.mono hB2'.out.size)
  have hs3 := hb13.size
  rw [hsz'.out] at hs3
  obtain ⟨a5, c5, rfl, -, -⟩ := Rd.of_own ho
  have r0 := g.cell 0
  have r1 := g.cell 1
  have r2 := g.cell 2
  have r3 := g.cell 3
  have r4 := g.cell 4
  have r5 := g.cell 5
  simp at r0 r1 r2 r3 r4 r5
  have f0 := g.free 0
  have f1 := g.free 1
  have f2 := g.free 2
  have f3 := g.free 3
  have f4 := g.free 4
  have f5 := g.free 5
  have hl1 := g.lt
  have ho2 := World.ownsRow.mono ho hs3
  have hfin := Lib.hid (show IsPart _ w.heap.size (.agg #[.int .i64 2, .bool (decide (Z < 0)), .slice a5 (mag Z.natAbs).length c5, .int .u64 0, .string ⟨#[]⟩, .slice none 0 0]) (.num Z) from
    IsVal.mono (IsVal.above ⟨_, rfl, ho2, fun hh => by simp at hh; omega⟩ (six_above (.int .i64 2) (.bool (decide (Z < 0))) (.slice a5 (mag Z.natAbs).length c5) (.int .u64 0) (.string ⟨#[]⟩) (.slice none 0 0) (show w.heap.size + 1 < w.heap.size + 2 by omega))) (by omega))
  have hbel := Lib.hid (six_below (s := w.heap.size + 1) (.int .i64 2) (.bool (decide (Z < 0))) (.slice a5 (mag Z.natAbs).length c5) (.int .u64 0) (.string ⟨#[]⟩) (.slice none 0 0) hB5 (by omega))
  generalize (mag Z.natAbs).length = L at *
  generalize decide (Z < 0) = D at *
  clear ho ho2 hB5 g hb1 hb2 hb3 hb4 hb12 hb13 hb14 hs3 hsB1 hv2' hB2' hsz' hnum2 hint hsm hiv
  go_wp2
  exact bodyPost_ret (v := .agg #[.int .i64 2, .bool D, .slice a5 L c5, .int .u64 0, .string ⟨#[]⟩, .slice none 0 0]) (by simp [results, Try.results8, go_sem, r0, r1, r2, r3, r4, r5]) rfl ⟨_, .num Z, rfl, hok.out, hfin.out, hbel.out⟩

set_option maxHeartbeats 1000000 in
set_option maxRecDepth 100000 in
theorem steps_any (k : Int) (neg : Bool) (a : Option Addr) (l : List UInt8) (c : Nat) (b : Int) (t : ByteArray) (ka : Option Addr) (kn kc : Nat) (w : World) (h : Rd w a l) (hl : l.length ≤ 2147483647) (hc : l.length ≤ c) (ha : a = none → c = 0) :
    Calls Try.prog 8 #[.agg #[.int .i64 k, .bool neg, .slice a l.length c, .int .u64 b, .string t, .slice ka kn kc]] w (SomePart w) := by
  by_cases hk : k = 2
  · subst hk
    exact steps_num neg a l c b t ka kn kc w h hl hc ha
  · have b2 : (k == 2) = false := by simp [hk]
    obtain ⟨n, hn⟩ : ∃ n, l.length = n := ⟨_, rfl⟩
    rw [hn]
    have k0 : ((w.alloc (.cells #[.int .i64 k, .bool neg, .slice a n c, .int .u64 b, .string t, .slice ka kn kc] 26)).alloc (.cells #[.int .i64 0, .bool false, .slice none 0 0, .int .u64 0, .string ⟨#[]⟩, .slice none 0 0] 26)).cell? ⟨w.heap.size, 0, none⟩ = some (.int .i64 k) := by rw [World.cell?_alloc_lt _ _ _ (by simp), World.cell?_alloc_at _ _ _ _ rfl]; rfl
    clear hn h hl hc ha hk
    by_cases hk4 : k = 4
    · have b4 : (k == 4) = true := by simp [hk4]
      have ht := Lib.hid fun W => textval_any ⟨#[]⟩ W
      have hB2 : Below w.heap.size w ((w.alloc (.cells #[.int .i64 k, .bool neg, .slice a n c, .int .u64 b, .string t, .slice ka kn kc] 26)).alloc (.cells #[.int .i64 0, .bool false, .slice none 0 0, .int .u64 0, .string ⟨#[]⟩, .slice none 0 0] 26)) := (below_one' _ (Nat.le_refl _)).alloc (by simp) _
      have hv2 : Box.Holds ((w.alloc (.cells #[.int .i64 k, .bool neg, .slice a n c, .int .u64 b, .string t, .slice ka kn kc] 26)).alloc (.cells #[.int .i64 0, .bool false, .slice none 0 0, .int .u64 0, .string ⟨#[]⟩, .slice none 0 0] 26)) (w.heap.size + 1) 26 #[.int .i64 0, .bool false, .slice none 0 0, .int .u64 0, .string ⟨#[]⟩, .slice none 0 0] := by
        have := Box.Holds.made (w.alloc (.cells #[.int .i64 k, .bool neg, .slice a n c, .int .u64 b, .string t, .slice ka kn kc] 26)) 26 #[.int .i64 0, .bool false, .slice none 0 0, .int .u64 0, .string ⟨#[]⟩, .slice none 0 0]
        rwa [show (w.alloc (.cells #[.int .i64 k, .bool neg, .slice a n c, .int .u64 b, .string t, .slice ka kn kc] 26)).heap.size = w.heap.size + 1 by simp] at this
      have hB2' := Lib.hid hB2
      have hv2' := Lib.hid hv2
      clear hk4 hB2 hv2
      go_enter Try.func8, Try.ntmps8
      go_wp2_with fail
      refine (ht.out _).mono ?_
      rintro e w1 ⟨rfl, hb1⟩
      have g := hv2'.out.later hb1
      have hB5 := hB2'.out.trans (hb1.mono hB2'.out.size)
      have r0 := g.cell 0
      have r1 := g.cell 1
      have r2 := g.cell 2
      have r3 := g.cell 3
      have r4 := g.cell 4
      have r5 := g.cell 5
      simp at r0 r1 r2 r3 r4 r5
      have f0 := g.free 0
      have f1 := g.free 1
      have f2 := g.free 2
      have f3 := g.free 3
      have f4 := g.free 4
      have f5 := g.free 5
      have hl1 := g.lt
      have hbel := Lib.hid (six_below (s := w.heap.size + 1) (.int .i64 4) (.bool false) (.slice none 0 0) (.int .u64 0) (.string ⟨#[]⟩) (.slice none 0 0) hB5 (by omega))
      clear hB5 g hb1 hv2' hB2' ht
      go_wp2
      exact bodyPost_ret (v := .agg #[.int .i64 4, .bool false, .slice none 0 0, .int .u64 0, .string ⟨#[]⟩, .slice none 0 0]) (by simp [results, Try.results8, go_sem, r0, r1, r2, r3, r4, r5]) rfl ⟨_, .text, rfl, trivial, rfl, hbel.out⟩
    · have b4 : (k == 4) = false := by simp [hk4]
      clear hk4
      go_enter Try.func8, Try.ntmps8
      go_wp2
      exact bodyPost_ret (v := .agg #[.int .i64 0, .bool false, .slice none 0 0, .int .u64 0, .string ⟨#[]⟩, .slice none 0 0]) (by simp [results, Try.results8, go_sem]) rfl ⟨_, .none, rfl, trivial, rfl, by exact (below_one' _ (Nat.le_refl _)).alloc (by simp) _⟩
end Go.Proofs.Ytaappbnbjpbbcaa.Ref
