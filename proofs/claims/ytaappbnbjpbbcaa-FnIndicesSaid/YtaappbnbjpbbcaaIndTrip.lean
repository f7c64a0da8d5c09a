/-
  The two places that two parts stand for: the program's own call.
-/
import Derived.Test.YtaappbnbjpbbcaaIndPlace
namespace Go.Proofs.Ytaappbnbjpbbcaa.Big
open Go.RowKit Go.WideShapes Go.Proofs.Ytaappbnbjpbbcaa.Own Go.Proofs.Ytaappbnbjpbbcaa.Num Go.Proofs.Ytaappbnbjpbbcaa.Ref Go.Proofs.Ytaappbnbjpbbcaa.Nat_
set_option linter.unusedVariables false

/-- the kind of a part's value -/
def kindOf : Part → Int
  | .none => 0
  | .num _ => 2
  | .text => 4

set_option maxRecDepth 100000 in
theorem scalar_any (P : Part) (hP : P.ok) (v : Value) (B : Nat) (w : World) (h : IsPart w B v P) :
    Calls Try.prog 42 #[.int .i64 (kindOf P), v] w fun e w' => e = .returned (.tuple #[pv P, .bool true]) ∧ Below w.heap.size w w' := by
  cases P with
  | none =>
    simp only [IsPart] at h
    subst h
    simp only [kindOf, pv]
    go_enter Try.func42, Try.ntmps42
    go_wp2
    go_ret2
    exact ⟨rfl, below_one _ (Nat.le_refl _)⟩
  | text =>
    simp only [IsPart] at h
    subst h
    simp only [kindOf, pv]
    go_enter Try.func42, Try.ntmps42
    go_wp2
    go_ret2
    exact ⟨rfl, below_one _ (Nat.le_refl _)⟩
  | num z =>
    obtain ⟨hz1, hz2⟩ := hP
    obtain ⟨u, rfl, ho, hp⟩ := h
    obtain ⟨a, c, rfl, hr, hc⟩ := Rd.of_own ho
    have hm := mag_small hz1 hz2
    have hz : sg (decide (z < 0)) z.natAbs = z := by
      unfold sg
      by_cases h0 : z < 0
      · simp [h0]; omega
      · simp [h0]; omega
    have hwh := Lib.hid fun W (hb : Below w.heap.size w W) => whole_any 2 (decide (z < 0)) a (mag z.natAbs) c 0 ⟨#[]⟩ none 0 0 W (hr.later hb) (by omega) hc
    rw [be_mag, hz] at hwh
    have hsm : ∀ w B v, SInt w B v z → v = .agg #[.int .i64 z, .pointer none] := fun w B v h => by
      rcases h with ⟨rfl, _⟩ | ⟨g, ng, U, rfl, _, _, e, hs, _⟩
      · rfl
      · have : isS z = true := by unfold isS; simp; omega
        rw [hs] at this; cases this
    have hsm' := Lib.hid hsm
    generalize (mag z.natAbs).length = L at hwh ⊢
    generalize decide (z < 0) = D at hwh ⊢
    simp only [kindOf, pv]
    clear hr ho hp hm hz hsm hc
    go_enter Try.func42, Try.ntmps42
    go_wp2_with fail
    refine (hwh.out _ (below_one _ (Nat.le_refl _))).mono ?_
    rintro e w1 ⟨⟨v, rfl, hi⟩, hb1⟩
    obtain rfl := hsm'.out _ _ _ hi
    clear hi
    go_wp2
    go_ret2
    exact ⟨rfl, (below_one _ (Nat.le_refl _)).trans (hb1.mono (by simp))⟩

set_option maxRecDepth 100000 in
theorem zz_any (P1 P2 : Part) (h1 : P1.ok) (h2 : P2.ok) (n : Int) (hn : 0 ≤ n) (hn2 : n ≤ 2147483647) (w : World) :
    Calls Try.prog 26 #[pv P1, pv P2, .int .i64 n] w (IndOf P1 P2 n w) := by
  have h := Lib.hid (indices_any P1 P2 h1 h2 n hn hn2 w)
  unfold IndOf at h ⊢
  generalize pv P1 = v1 at h ⊢
  generalize pv P2 = v2 at h ⊢
  generalize clampN n (raw n 0 P1) = c1 at h ⊢
  generalize clampN n (raw n n P2) = c2 at h ⊢
  cases hx : (isText P1 || isText P2)
  · simp only [hx] at h ⊢
    clear hx
    go_enter Try.func26, Try.ntmps26
    go_wp2_with fail
    refine h.out.mono ?_
    rintro e w1 ⟨he, hb⟩
    simp only [Bool.false_eq_true, if_false] at he
    subst he
    go_wp2
    go_ret3
    exact ⟨by simp, hb⟩
  · simp only [hx] at h ⊢
    clear hx
    go_enter Try.func26, Try.ntmps26
    go_wp2_with fail
    refine h.out.mono ?_
    rintro e w1 ⟨he, hb⟩
    simp only [if_true] at he
    obtain ⟨v, rfl⟩ := he
    go_wp2
    go_ret3
    exact ⟨by simp, hb⟩

theorem kind_shape {w : World} {B : Nat} {v : Value} {P : Part} (h : IsPart w B v P) : ∃ neg a n c t, v = .agg #[.int .i64 (kindOf P), .bool neg, .slice a n c, .int .u64 0, .string t, .slice none 0 0] := by
  cases P
  · exact ⟨_, _, _, _, _, h⟩
  · obtain ⟨u, rfl, ho, _⟩ := h
    obtain ⟨a, c, rfl, -, -⟩ := Rd.of_own ho
    exact ⟨_, _, _, _, _, rfl⟩
  · exact ⟨_, _, _, _, _, h⟩

theorem at0 (k1 k2 : Int) (n1 n2 : Bool) (a1 a2 : Option Addr) (l1 c1 l2 c2 : Nat) (t1 t2 : ByteArray) (w : World) :
    (Instr.index 56 (.agg #[.int .i64 k1, .bool n1, .slice a1 l1 c1, .int .u64 0, .string t1, .slice none 0 0, .int .i64 k2, .bool n2, .slice a2 l2 c2, .int .u64 0, .string t2, .slice none 0 0, .int .i64 0, .bool false, .slice none 0 0, .int .u64 0, .string ⟨#[]⟩, .slice none 0 0]) (.int .i64 0)).run Try.prog w =
      .ok (.agg #[.int .i64 k1, .bool n1, .slice a1 l1 c1, .int .u64 0, .string t1, .slice none 0 0]) w := by kernel_rfl
theorem at1 (k1 k2 : Int) (n1 n2 : Bool) (a1 a2 : Option Addr) (l1 c1 l2 c2 : Nat) (t1 t2 : ByteArray) (w : World) :
    (Instr.index 56 (.agg #[.int .i64 k1, .bool n1, .slice a1 l1 c1, .int .u64 0, .string t1, .slice none 0 0, .int .i64 k2, .bool n2, .slice a2 l2 c2, .int .u64 0, .string t2, .slice none 0 0, .int .i64 0, .bool false, .slice none 0 0, .int .u64 0, .string ⟨#[]⟩, .slice none 0 0]) (.int .i64 1)).run Try.prog w =
      .ok (.agg #[.int .i64 k2, .bool n2, .slice a2 l2 c2, .int .u64 0, .string t2, .slice none 0 0]) w := by kernel_rfl
theorem at2 (k1 k2 : Int) (n1 n2 : Bool) (a1 a2 : Option Addr) (l1 c1 l2 c2 : Nat) (t1 t2 : ByteArray) (w : World) :
    (Instr.index 56 (.agg #[.int .i64 k1, .bool n1, .slice a1 l1 c1, .int .u64 0, .string t1, .slice none 0 0, .int .i64 k2, .bool n2, .slice a2 l2 c2, .int .u64 0, .string t2, .slice none 0 0, .int .i64 0, .bool false, .slice none 0 0, .int .u64 0, .string ⟨#[]⟩, .slice none 0 0]) (.int .i64 2)).run Try.prog w =
      .ok (.agg #[.int .i64 0, .bool false, .slice none 0 0, .int .u64 0, .string ⟨#[]⟩, .slice none 0 0]) w := by kernel_rfl

theorem pv_shape (P : Part) : ∃ t x, pv P = .iface t x := by cases P <;> exact ⟨_, _, rfl⟩

def Trip (s : Nat) (v1 v2 v3 : Value) (w wr : World) (i : Value) : Prop :=
  ((i = .int .i64 0 ∧ Box.Holds wr (s + 1) 59 #[.nilIface, .nilIface, .nilIface]) ∨ (i = .int .i64 1 ∧ Box.Holds wr (s + 1) 59 #[v1, .nilIface, .nilIface]) ∨
    (i = .int .i64 2 ∧ Box.Holds wr (s + 1) 59 #[v1, v2, .nilIface]) ∨ (i = .int .i64 3 ∧ Box.Holds wr (s + 1) 59 #[v1, v2, v3])) ∧ Below w.heap.size w wr

set_option maxHeartbeats 1000000 in
set_option maxRecDepth 100000 in
theorem triple_any (P1 P2 : Part) (h1 : P1.ok) (h2 : P2.ok) (n1 n2 : Bool) (a1 a2 : Option Addr) (l1 c1 l2 c2 : Nat) (t1 t2 : ByteArray) (B1 B2 : Nat) (w : World)
    (hv1 : IsPart w B1 (.agg #[.int .i64 (kindOf P1), .bool n1, .slice a1 l1 c1, .int .u64 0, .string t1, .slice none 0 0]) P1) (hv2 : IsPart w B2 (.agg #[.int .i64 (kindOf P2), .bool n2, .slice a2 l2 c2, .int .u64 0, .string t2, .slice none 0 0]) P2) :
    Calls Try.prog 25 #[.agg #[.int .i64 (kindOf P1), .bool n1, .slice a1 l1 c1, .int .u64 0, .string t1, .slice none 0 0, .int .i64 (kindOf P2), .bool n2, .slice a2 l2 c2, .int .u64 0, .string t2, .slice none 0 0, .int .i64 0, .bool false, .slice none 0 0, .int .u64 0, .string ⟨#[]⟩, .slice none 0 0]] w
      fun e w' => e = .returned (.tuple #[.agg #[pv P1, pv P2, pv .none], .bool true]) ∧ Below w.heap.size w w' := by
  have s1 := Lib.hid fun W (hb : Below w.heap.size w W) => scalar_any P1 h1 _ B1 W (hv1.later hb)
  have s2 := Lib.hid fun W (hb : Below w.heap.size w W) => scalar_any P2 h2 _ B2 W (hv2.later hb)
  have s3 := Lib.hid fun W => scalar_any .none trivial _ 0 W rfl
  rw [show kindOf .none = 0 from rfl] at s3
  generalize kindOf P1 = k1 at s1 hv1 ⊢
  generalize kindOf P2 = k2 at s2 hv2 ⊢
  obtain ⟨y1, x1, e1⟩ := pv_shape P1
  obtain ⟨y2, x2, e2⟩ := pv_shape P2
  obtain ⟨y3, x3, e3⟩ := pv_shape .none
  rw [e1] at s1 ⊢
  rw [e2] at s2 ⊢
  rw [e3] at s3 ⊢
  clear e1 e2 e3
  have i0 := at0 k1 k2 n1 n2 a1 a2 l1 c1 l2 c2 t1 t2
  have i1 := at1 k1 k2 n1 n2 a1 a2 l1 c1 l2 c2 t1 t2
  have i2 := at2 k1 k2 n1 n2 a1 a2 l1 c1 l2 c2 t1 t2
  clear hv1 hv2 h1 h2
  go_enter Try.func25, Try.ntmps25
  go_wp2
  have hH0 : Trip w.heap.size (.iface y1 x1) (.iface y2 x2) (.iface y3 x3) w ((w.alloc (.cells #[.int .i64 k1, .bool n1, .slice a1 l1 c1, .int .u64 0, .string t1, .slice none 0 0, .int .i64 k2, .bool n2, .slice a2 l2 c2, .int .u64 0, .string t2, .slice none 0 0, .int .i64 0, .bool false, .slice none 0 0, .int .u64 0, .string ⟨#[]⟩, .slice none 0 0] 56)).alloc (.cells #[.nilIface, .nilIface, .nilIface] 59)) (.int .i64 0) := by
    refine ⟨.inl ⟨rfl, ?_⟩, (below_one _ (Nat.le_refl _)).alloc (by simp) _⟩
    have := Box.Holds.made (w.alloc (.cells #[.int .i64 k1, .bool n1, .slice a1 l1 c1, .int .u64 0, .string t1, .slice none 0 0, .int .i64 k2, .bool n2, .slice a2 l2 c2, .int .u64 0, .string t2, .slice none 0 0, .int .i64 0, .bool false, .slice none 0 0, .int .u64 0, .string ⟨#[]⟩, .slice none 0 0] 56)) 59 #[.nilIface, .nilIface, .nilIface]
    rwa [show (w.alloc (.cells #[.int .i64 k1, .bool n1, .slice a1 l1 c1, .int .u64 0, .string t1, .slice none 0 0, .int .i64 k2, .bool n2, .slice a2 l2 c2, .int .u64 0, .string t2, .slice none 0 0, .int .i64 0, .bool false, .slice none 0 0, .int .u64 0, .string ⟨#[]⟩, .slice none 0 0] 56)).heap.size = w.heap.size + 1 by simp] at this
  have hH0' := Lib.hid hH0
  clear hH0
  go_loopw [9] (fun i wr => Trip w.heap.size (.iface y1 x1) (.iface y2 x2) (.iface y3 x3) w wr i) (fun i _ => (3 - intOf i).toNat)
  case atStart => exact hH0'.out
  case round =>
    clear hH0'
    obtain ⟨hcs, hbw⟩ := hrel
    rcases hcs with ⟨rfl, hH⟩ | ⟨rfl, hH⟩ | ⟨rfl, hH⟩ | ⟨rfl, hH⟩
    · have hH' := Lib.hid hH
      have hbw' := Lib.hid hbw
      clear hH hbw
      go_wp2_with fail
      refine (s1.out _ (hbw'.out.alloc hbw'.out.size _)).mono ?_
      rintro e w5 ⟨rfl, hb5⟩
      have hb6 := (below_one (.cells #[.int .i64 k1, .bool n1, .slice a1 l1 c1, .int .u64 0, .string t1, .slice none 0 0] 26) (Nat.le_refl wr.heap.size)).trans (hb5.mono (by simp))
      have g := hH'.out.later hb6
      have hbw6 := hbw'.out.trans (hb6.mono hbw'.out.size)
      have q0 := g.cell 0
      have q1 := g.cell 1
      have q2 := g.cell 2
      simp at q0 q1 q2
      have f0 := g.free 0
      have f1 := g.free 1
      have f2 := g.free 2
      have lt1 := g.lt
      have hput := Lib.hid (g.put 0 (.iface y1 x1))
      have hbel := Lib.hid (hbw6.setCell (p := ⟨w.heap.size + 1, 0, none⟩) (Nat.le_succ _) (.iface y1 x1))
      clear g hb6 hbw6 hb5 hH' hbw'
      go_wp2_with fail
      go_roundw
      case rel => exact ⟨.inr (.inl ⟨rfl, by simpa using hput.out⟩), hbel.out⟩
      case measure => simp [intOf]
    · have hH' := Lib.hid hH
      have hbw' := Lib.hid hbw
      clear hH hbw
      go_wp2_with fail
      refine (s2.out _ (hbw'.out.alloc hbw'.out.size _)).mono ?_
      rintro e w5 ⟨rfl, hb5⟩
      have hb6 := (below_one (.cells #[.int .i64 k2, .bool n2, .slice a2 l2 c2, .int .u64 0, .string t2, .slice none 0 0] 26) (Nat.le_refl wr.heap.size)).trans (hb5.mono (by simp))
      have g := hH'.out.later hb6
      have hbw6 := hbw'.out.trans (hb6.mono hbw'.out.size)
      have q0 := g.cell 0
      have q1 := g.cell 1
      have q2 := g.cell 2
      simp at q0 q1 q2
      have f0 := g.free 0
      have f1 := g.free 1
      have f2 := g.free 2
      have lt1 := g.lt
      have hput := Lib.hid (g.put 1 (.iface y2 x2))
      have hbel := Lib.hid (hbw6.setCell (p := ⟨w.heap.size + 1, 1, none⟩) (Nat.le_succ _) (.iface y2 x2))
      clear g hb6 hbw6 hb5 hH' hbw'
      go_wp2_with fail
      go_roundw
      case rel => exact ⟨.inr (.inr (.inl ⟨rfl, by simpa using hput.out⟩)), hbel.out⟩
      case measure => simp [intOf]
    · have hH' := Lib.hid hH
      have hbw' := Lib.hid hbw
      clear hH hbw
      go_wp2_with fail
      refine (s3.out _).mono ?_
      rintro e w5 ⟨rfl, hb5⟩
      have hb6 := (below_one (.cells #[.int .i64 0, .bool false, .slice none 0 0, .int .u64 0, .string ⟨#[]⟩, .slice none 0 0] 26) (Nat.le_refl wr.heap.size)).trans (hb5.mono (by simp))
      have g := hH'.out.later hb6
      have hbw6 := hbw'.out.trans (hb6.mono hbw'.out.size)
      have q0 := g.cell 0
      have q1 := g.cell 1
      have q2 := g.cell 2
      simp at q0 q1 q2
      have f0 := g.free 0
      have f1 := g.free 1
      have f2 := g.free 2
      have lt1 := g.lt
      have hput := Lib.hid (g.put 2 (.iface y3 x3))
      have hbel := Lib.hid (hbw6.setCell (p := ⟨w.heap.size + 1, 2, none⟩) (Nat.le_succ _) (.iface y3 x3))
      clear g hb6 hbw6 hb5 hH' hbw'
      go_wp2_with fail
      go_roundw
      case rel => exact ⟨.inr (.inr (.inr ⟨rfl, by simpa using hput.out⟩)), hbel.out⟩
      case measure => simp [intOf]
    · have q0 := hH.cell 0
      have q1 := hH.cell 1
      have q2 := hH.cell 2
      simp at q0 q1 q2
      have f0 := hH.free 0
      have f1 := hH.free 1
      have f2 := hH.free 2
      have lt1 := hH.lt
      have hbw' := Lib.hid hbw
      clear hH hbw
      go_wp2
      refine bodyPost_ret (v := .tuple #[.agg #[.iface y1 x1, .iface y2 x2, .iface y3 x3], .bool true]) (by simp [results, Try.results25, go_sem, q0, q1, q2]) rfl ⟨rfl, ?_⟩
      repeat refine Below.setCell ?_ (Nat.le_succ _) _
      exact hbw'.out

end Go.Proofs.Ytaappbnbjpbbcaa.Big
