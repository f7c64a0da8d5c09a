/-
  The two places that two parts stand for: the call of the program.
-/
import Derived.Test.YtaappbnbjpbbcaaIndTrip
namespace Go.Proofs.Ytaappbnbjpbbcaa.Big
open Go.RowKit Go.WideShapes Go.Proofs.Ytaappbnbjpbbcaa.Own Go.Proofs.Ytaappbnbjpbbcaa.Num Go.Proofs.Ytaappbnbjpbbcaa.Ref Go.Proofs.Ytaappbnbjpbbcaa.Nat_
set_option linter.unusedVariables false

set_option maxHeartbeats 1000000 in
set_option maxRecDepth 100000 in
theorem iind_any (P1 P2 : Part) (h1 : P1.ok) (h2 : P2.ok) (v1 v2 : Value) (B1 B2 : Nat) (n : Int) (hn : 0 ≤ n) (hn2 : n ≤ 2147483647) (w : World) (hv1 : IsPart w B1 v1 P1) (hv2 : IsPart w B2 v2 P2) :
    Calls Try.prog 10 #[v1, v2, .int .i64 n] w fun e w' => e = .returned (if isText P1 || isText P2 then .tuple #[.int .i64 0, .int .i64 0, .bool false, .bool true] else .tuple #[.int .i64 (clampN n (raw n 0 P1)), .int .i64 (clampN n (raw n n P2)), .bool true, .bool true]) ∧ Below w.heap.size w w' := by
  obtain ⟨n1, a1, l1, c1, t1, rfl⟩ := kind_shape hv1
  obtain ⟨n2, a2, l2, c2, t2, rfl⟩ := kind_shape hv2
  have ht := Lib.hid fun W (hb : Below w.heap.size w W) => triple_any P1 P2 h1 h2 n1 n2 a1 a2 l1 c1 l2 c2 t1 t2 B1 B2 W (hv1.later hb) (hv2.later hb)
  have hz := Lib.hid fun W => zz_any P1 P2 h1 h2 n hn hn2 W
  unfold IndOf at hz
  obtain ⟨y1, x1, e1⟩ := pv_shape P1
  obtain ⟨y2, x2, e2⟩ := pv_shape P2
  obtain ⟨y3, x3, e3⟩ := pv_shape .none
  rw [e1, e2] at hz
  rw [e1, e2, e3] at ht
  generalize kindOf P1 = k1 at ht hv1 ⊢
  generalize kindOf P2 = k2 at ht hv2 ⊢
  generalize clampN n (raw n 0 P1) = r1 at hz ⊢
  generalize clampN n (raw n n P2) = r2 at hz ⊢
  have d0 : decide (n < 0) = false := by simp; omega
  have hB2 : Below w.heap.size w ((w.alloc (.cells #[.int .i64 k1, .bool n1, .slice a1 l1 c1, .int .u64 0, .string t1, .slice none 0 0] 26)).alloc (.cells #[.int .i64 k2, .bool n2, .slice a2 l2 c2, .int .u64 0, .string t2, .slice none 0 0] 26)) := (below_one _ (Nat.le_refl _)).alloc (by simp) _
  have ht2 := Lib.hid (ht.out _ hB2)
  have hB2' := Lib.hid hB2
  generalize hx : (isText P1 || isText P2) = X at hz ⊢
  clear e1 e2 e3 hv1 hv2 h1 h2 hB2 ht hx
  cases X
  · simp only [Bool.false_eq_true, if_false] at hz ⊢
    go_enter Try.func10, Try.ntmps10
    go_wp2_with fail
    refine ht2.out.mono ?_
    rintro e w1 ⟨rfl, hb1⟩
    have hbw := Lib.hid (hB2'.out.trans (hb1.mono hB2'.out.size))
    clear hb1 hB2' ht2
    go_wp2_with fail
    refine (hz.out _).mono ?_
    rintro e w2 ⟨rfl, hb2⟩
    have hbel := Lib.hid ((hbw.out.alloc hbw.out.size _).trans (hb2.mono (Nat.le_trans hbw.out.size (by simp))))
    clear hb2 hbw hz
    go_wp2
    exact bodyPost_ret (v := .tuple #[.int .i64 r1, .int .i64 r2, .bool true, .bool true]) (by simp [results, Try.results10, go_sem]) rfl ⟨rfl, hbel.out⟩
  · simp only [if_true] at hz ⊢
    go_enter Try.func10, Try.ntmps10
    go_wp2_with fail
    refine ht2.out.mono ?_
    rintro e w1 ⟨rfl, hb1⟩
    have hbw := Lib.hid (hB2'.out.trans (hb1.mono hB2'.out.size))
    clear hb1 hB2' ht2
    go_wp2_with fail
    refine (hz.out _).mono ?_
    rintro e w2 ⟨⟨v, rfl⟩, hb2⟩
    have hbel := Lib.hid ((hbw.out.alloc hbw.out.size _).trans (hb2.mono (Nat.le_trans hbw.out.size (by simp))))
    clear hb2 hbw hz
    go_wp2
    exact bodyPost_ret (v := .tuple #[.int .i64 0, .int .i64 0, .bool false, .bool true]) (by simp [results, Try.results10, go_sem]) rfl ⟨rfl, hbel.out⟩
end Go.Proofs.Ytaappbnbjpbbcaa.Big
