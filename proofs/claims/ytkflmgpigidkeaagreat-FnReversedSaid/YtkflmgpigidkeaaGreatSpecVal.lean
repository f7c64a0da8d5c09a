/-
  The reference's values: the integer of a value, the value of an integer, the value of a text.
-/
import Derived.Test.YtkflmgpigidkeaaGreatIsVal
namespace Go.Proofs.YtkflmgpigidkeaaGreat.Ref
open Go.RowKit Go.WideShapes Go.Proofs.YtkflmgpigidkeaaGreat.Own Go.Proofs.YtkflmgpigidkeaaGreat.Num
set_option linter.unusedVariables false

set_option maxHeartbeats 1000000 in
set_option maxRecDepth 100000 in
theorem intval_any (x : Value) (neg : Bool) (m B : Nat) (w : World) (h : IsInt w B x neg m) (hm : (mag m).length ≤ 2147483647) :
    Calls Tryz.prog 75 #[x] w fun e w' => (∃ u, e = .returned (.agg #[.int .i64 2, .bool neg, u, .int .u64 0, .string ⟨#[]⟩, .slice none 0 0]) ∧ Owns w' w.heap.size u (mag m)) ∧ Below w.heap.size w w' := by
  obtain ⟨u, rfl, ho, hpos⟩ := h
  obtain ⟨a, cap, rfl, hr, hc⟩ := Rd.of_own ho
  obtain ⟨n, hn⟩ : ∃ n, (mag m).length = n := ⟨_, rfl⟩
  rw [hn] at hm hc ho ⊢
  have k0 : ((w.alloc (.cells #[.bool neg, .slice a n cap] 79))).cell? ⟨w.heap.size, 0, none⟩ = some (.bool neg) := by rw [World.cell?_alloc_at _ _ _ _ rfl]; rfl
  have k1 : (w.alloc (.cells #[.bool neg, .slice a n cap] 79)).cell? ⟨w.heap.size, 1, none⟩ = some (.slice a n cap) := by rw [World.cell?_alloc_at _ _ _ _ rfl]; rfl
  obtain ⟨o1, ho1⟩ : ∃ o, o = Obj.cells #[.bool neg, .slice a n cap] 79 := ⟨_, rfl⟩
  obtain ⟨o2, ho2⟩ : ∃ o, o = Obj.cells #[.int .i64 0, .bool false, .slice none 0 0, .int .u64 0, .string ⟨#[]⟩, .slice none 0 0] 27 := ⟨_, rfl⟩
  have hsz2 : ((w.alloc o1).alloc o2).heap.size = w.heap.size + 1 + 1 := by simp
  have hB2 : Below w.heap.size w ((w.alloc o1).alloc o2) := ((Below.refl _ _).alloc (Nat.le_refl _) _).alloc (by simp) _
  have hB3 : Below (w.heap.size + 1 + 1) ((w.alloc o1).alloc o2) (((w.alloc o1).alloc o2).alloc (.cells #[] 5)) := (Below.refl _ _).alloc (Nat.le_of_eq hsz2.symm) _
  have hR3 : Rd (((w.alloc o1).alloc o2).alloc (.cells #[] 5)) a (mag m) := (hr.later hB2).later (hsz2 ▸ hB3)
  have hO3 : Owns (((w.alloc o1).alloc o2).alloc (.cells #[] 5)) (w.heap.size + 1 + 1) (.slice (some ⟨w.heap.size + 1 + 1, 0, none⟩) 0 0) [] := by
    have := owns_empty ((w.alloc o1).alloc o2)
    rw [hsz2] at this
    exact this
  have hV3 : Box.Holds ((w.alloc o1).alloc o2) (w.heap.size + 1) 27 #[.int .i64 0, .bool false, .slice none 0 0, .int .u64 0, .string ⟨#[]⟩, .slice none 0 0] := by
    have := Box.Holds.made (w.alloc o1) 27 #[.int .i64 0, .bool false, .slice none 0 0, .int .u64 0, .string ⟨#[]⟩, .slice none 0 0]
    rw [ho2]
    simpa using this
  have hcap := Lib.hid (Rd.cap ho)
  have hN3 : Box.Holds ((w.alloc o1).alloc o2) w.heap.size 79 #[.bool neg, .slice a n cap] := by
    have := (Box.Holds.made w 79 #[.bool neg, .slice a n cap]).alloc o2
    rw [ho1]
    exact this
  have hN3' := Lib.hid hN3
  rw [ho1, ho2] at hN3'
  rw [ho1, ho2] at hB3 hR3 hO3 hV3 hB2 hsz2
  have hB3' := Lib.hid hB3
  have hR3' := Lib.hid hR3
  have hO3' := Lib.hid hO3
  have hV3' := Lib.hid hV3
  have hB2' := Lib.hid hB2
  have hsz2' := Lib.hid hsz2
  have hn' := Lib.hid hn
  clear hN3 hB3 hR3 hO3 hV3 hB2 hsz2 ho1 ho2 hr ho hn
  go_enter Tryz.func75, Tryz.ntmps75
  go_wp2_with fail
  go_region_law (refine step_fresh rfl _ _ rfl _ rfl a n cap rfl (by exact hO3'.out) (by exact ⟨hB3'.out.os, hB3'.out.tape, hB3'.out.output, hB3'.out.size, hB3'.out.block⟩) (Nat.le_of_eq hsz2'.out.symm) (mag m) hn'.out (by exact hR3'.out) hcap.out (by rw [hn'.out]; omega) ?_; intro v' w1 hown1 hb1; obtain ⟨a5, c5, hv5, -, -⟩ := Rd.of_own hown1; subst hv5; have hv1 := hV3'.out.below hb1 (Nat.lt_succ_self _); have hl1 := hv1.lt; have q0 := hv1.cell 0; have q1 := hv1.cell 1; have q2 := hv1.cell 2; have q3 := hv1.cell 3; have q4 := hv1.cell 4; have q5 := hv1.cell 5; simp at q0 q1 q2 q3 q4 q5; have f0 := hv1.free 0; have f1 := hv1.free 1; have f2 := hv1.free 2; have f3 := hv1.free 3; have f4 := hv1.free 4; have f5 := hv1.free 5; have r0 := (hN3'.out.below hb1 (by omega)).cell 0; simp at r0)
  all_goals
    clear hN3' hR3' hO3' hcap k0 k1 r0
    have hfin := Lib.hid (six (.int .i64 2) (.bool neg) (.slice a5 (mag m).length c5) (.int .u64 0) (.string ⟨#[]⟩) (.slice none 0 0) hown1 (Nat.lt_succ_self (w.heap.size + 1)) (hB2'.out.trans (hb1.mono (Nat.le_trans (Nat.le_succ _) (Nat.le_succ _)))) (Nat.le_succ _))
    clear hown1 hB2' hB3' hsz2' hb1 hv1
    go_wp2
    exact bodyPost_ret (v := .agg #[.int .i64 2, .bool neg, .slice a5 (mag m).length c5, .int .u64 0, .string ⟨#[]⟩, .slice none 0 0]) (by simp [results, Tryz.results75, go_sem, q0, q1, q2, q3, q4, q5]) rfl ⟨⟨_, rfl, hfin.out.1⟩, hfin.out.2⟩

theorem IsVal.of_told {w w' : World} {B : Nat} {neg : Bool} {m : Nat} {u : Value} (h : Owns w B u (mag m)) (hp : neg = true → 0 < m) : IsVal w B (.agg #[.int .i64 2, .bool neg, u, .int .u64 0, .string ⟨#[]⟩, .slice none 0 0]) neg m := ⟨u, rfl, h, hp⟩

set_option maxRecDepth 100000 in
theorem num_any (k : Int) (neg : Bool) (a : Option Addr) (l : List UInt8) (c : Nat) (b : Int) (t : ByteArray) (ka : Option Addr) (kn kc : Nat) (w : World) (h : Rd w a l) (hl : l.length ≤ 2147483647) (hc : l.length ≤ c) (ha : a = none → c = 0) :
    Calls Tryz.prog 37 #[.agg #[.int .i64 k, .bool neg, .slice a l.length c, .int .u64 b, .string t, .slice ka kn kc]] w fun e w' => (∃ x, e = .returned x ∧ IsInt w' w.heap.size x (neg && decide (0 < be l)) (be l)) ∧ Below w.heap.size w w' := by
  have hof := Lib.hid fun W (hb : Below w.heap.size w W) => of_any neg a c l W (h.later hb) hl hc ha
  obtain ⟨V, hV⟩ : ∃ V, be l = V := ⟨_, rfl⟩
  obtain ⟨n, hn⟩ : ∃ n, l.length = n := ⟨_, rfl⟩
  rw [hV, hn] at hof
  rw [hV, hn]
  obtain ⟨NN, hNN⟩ : ∃ NN, (neg && decide (0 < V)) = NN := ⟨_, rfl⟩
  rw [hNN] at hof ⊢
  have k1 : ((w.alloc (.cells #[.int .i64 k, .bool neg, .slice a n c, .int .u64 b, .string t, .slice ka kn kc] 27)).alloc (.cells #[.bool false, .slice none 0 0] 79)).cell? ⟨w.heap.size, 1, none⟩ = some (.bool neg) := by rw [World.cell?_alloc_lt _ _ _ (by simp), World.cell?_alloc_at _ _ _ _ rfl]; rfl
  have k2 : ((w.alloc (.cells #[.int .i64 k, .bool neg, .slice a n c, .int .u64 b, .string t, .slice ka kn kc] 27)).alloc (.cells #[.bool false, .slice none 0 0] 79)).cell? ⟨w.heap.size, 2, none⟩ = some (.slice a n c) := by rw [World.cell?_alloc_lt _ _ _ (by simp), World.cell?_alloc_at _ _ _ _ rfl]; rfl
  have hB2 : Below w.heap.size w ((w.alloc (.cells #[.int .i64 k, .bool neg, .slice a n c, .int .u64 b, .string t, .slice ka kn kc] 27)).alloc (.cells #[.bool false, .slice none 0 0] 79)) := (below_one' _ (Nat.le_refl _)).alloc (by simp) _
  have hv2 : Box.Holds ((w.alloc (.cells #[.int .i64 k, .bool neg, .slice a n c, .int .u64 b, .string t, .slice ka kn kc] 27)).alloc (.cells #[.bool false, .slice none 0 0] 79)) (w.heap.size + 1) 79 #[.bool false, .slice none 0 0] := by
    have := Box.Holds.made (w.alloc (.cells #[.int .i64 k, .bool neg, .slice a n c, .int .u64 b, .string t, .slice ka kn kc] 27)) 79 #[.bool false, .slice none 0 0]
    rwa [show (w.alloc (.cells #[.int .i64 k, .bool neg, .slice a n c, .int .u64 b, .string t, .slice ka kn kc] 27)).heap.size = w.heap.size + 1 by simp] at this
  have hof2 := Lib.hid (hof.out _ hB2)
  have hsz : ((w.alloc (.cells #[.int .i64 k, .bool neg, .slice a n c, .int .u64 b, .string t, .slice ka kn kc] 27)).alloc (.cells #[.bool false, .slice none 0 0] 79)).heap.size = w.heap.size + 2 := by simp
  have hsz' := Lib.hid hsz
  have hB2' := Lib.hid hB2
  have hv2' := Lib.hid hv2
  clear hV hn hNN hof h hl hc ha hB2 hv2 hsz
  go_enter Tryz.func37, Tryz.ntmps37
  go_wp2_with fail
  refine hof2.out.mono ?_
  rintro e w1 ⟨⟨x, rfl, hx⟩, hb1⟩
  have g := hv2'.out.later hb1
  have hB3 := hB2'.out.trans (hb1.mono hB2'.out.size)
  obtain ⟨u, rfl, ho, hp⟩ := hx
  obtain ⟨a1, c1, rfl, -, -⟩ := Rd.of_own ho
  have r0 := g.cell 0
  have r1 := g.cell 1
  simp at r0 r1
  have f0 := g.free 0
  have f1 := g.free 1
  have hl1 := g.lt
  obtain ⟨L, hL⟩ : ∃ L, (mag V).length = L := ⟨_, rfl⟩
  rw [hL] at ho ⊢
  rw [hsz'.out] at ho
  have hfin := Lib.hid (show IsInt ((w1.setCell ⟨w.heap.size + 1, 0, none⟩ (.bool NN)).setCell ⟨w.heap.size + 1, 1, none⟩ (.slice a1 L c1)) w.heap.size (.agg #[.bool NN, .slice a1 L c1]) NN V ∧ Below w.heap.size w ((w1.setCell ⟨w.heap.size + 1, 0, none⟩ (.bool NN)).setCell ⟨w.heap.size + 1, 1, none⟩ (.slice a1 L c1)) from by
    have h0 := (Box.Above.refl (w.heap.size + 2) w1).setCell (p := ⟨w.heap.size + 1, 0, none⟩) (Nat.lt_succ_self _) (.bool NN)
    have h1 := h0.setCell (p := ⟨w.heap.size + 1, 1, none⟩) (Nat.lt_succ_self _) (.slice a1 L c1)
    have c0 := hB3.setCell (p := ⟨w.heap.size + 1, 0, none⟩) (Nat.le_succ _) (.bool NN)
    have c1' := c0.setCell (p := ⟨w.heap.size + 1, 1, none⟩) (Nat.le_succ _) (.slice a1 L c1)
    exact ⟨(IsInt.above ⟨_, rfl, ho, hp⟩ h1).mono (by omega), c1'⟩)
  clear ho hp hL hB3 g hb1 hv2' hB2' hsz' hof2
  go_wp2
  exact bodyPost_ret (v := .agg #[.bool NN, .slice a1 L c1]) (by simp [results, Tryz.results37, go_sem, r0, r1]) rfl ⟨⟨_, rfl, hfin.out.1⟩, hfin.out.2⟩

set_option maxRecDepth 100000 in
theorem textval_any (t : ByteArray) (w : World) :
    Calls Tryz.prog 10 #[.string t] w fun e w' => e = .returned (.agg #[.int .i64 4, .bool false, .slice none 0 0, .int .u64 0, .string t, .slice none 0 0]) ∧ Below w.heap.size w w' := by
  go_enter Tryz.func10, Tryz.ntmps10
  go_wp2
  exact bodyPost_ret (v := .agg #[.int .i64 4, .bool false, .slice none 0 0, .int .u64 0, .string t, .slice none 0 0]) (by simp [results, Tryz.results10, go_sem]) rfl ⟨rfl, below_one' _ (Nat.le_refl _)⟩
end Go.Proofs.YtkflmgpigidkeaaGreat.Ref
