/-
  The two places that two parts stand for: the loop of the reference.
-/
import Derived.Test.YtaappbnbjpbbcaaIndSpec
namespace Go.Proofs.Ytaappbnbjpbbcaa.Big
open Go.RowKit Go.WideShapes Go.Proofs.Ytaappbnbjpbbcaa.Own Go.Proofs.Ytaappbnbjpbbcaa.Num Go.Proofs.Ytaappbnbjpbbcaa.Ref Go.Proofs.Ytaappbnbjpbbcaa.Nat_
set_option linter.unusedVariables false


/-- what the reference reckons with a part that is there: its number -/
def Asks (P : Part) (cs : Array Value) (w : World) : Prop := ∃ D M Z, (∀ W, Below w.heap.size w W → Calls Try.prog 20 #[.agg cs] W fun e w' => (∃ x, e = .returned x ∧ IsInt w' W.heap.size x D M) ∧ Below W.heap.size W w') ∧
  (∀ x B W, IsInt W B x D M → Calls Try.prog 12 #[x] W fun e w' => e = .returned (.tuple #[.int .i64 Z, .bool true]) ∧ Below W.heap.size W w') ∧ (∀ z, P = .num z → Z = z)
theorem asks_num (z : Int) (h1 : -2147483648 ≤ z) (h2 : z ≤ 2147483647) (n1 : Bool) (a1 : Option Addr) (l1 c1 : Nat) (t1 : ByteArray) (B : Nat) (w : World)
    (hv : IsPart w B (.agg #[.int .i64 2, .bool n1, .slice a1 l1 c1, .int .u64 0, .string t1, .slice none 0 0]) (.num z)) : Asks (.num z) #[.int .i64 2, .bool n1, .slice a1 l1 c1, .int .u64 0, .string t1, .slice none 0 0] w := by
  obtain ⟨u, e, ho, hp⟩ := hv
  simp only [Value.agg.injEq, Array.mk.injEq, List.cons.injEq, Value.bool.injEq, Value.string.injEq, true_and, and_true] at e
  obtain ⟨rfl, rfl, rfl⟩ := e
  obtain ⟨a, c, e2, hr, hc⟩ := Rd.of_own ho
  simp only [Value.slice.injEq] at e2
  obtain ⟨rfl, rfl, rfl⟩ := e2
  have hm := mag_small h1 h2
  have hz : sg (decide (z < 0)) z.natAbs = z := by
    unfold sg
    by_cases h0 : z < 0
    · simp [h0]; omega
    · simp [h0]; omega
  have hpn : (decide (z < 0) && decide (0 < z.natAbs)) = decide (z < 0) := by
    by_cases h0 : z < 0
    · simp [h0]; omega
    · simp [h0]
  refine ⟨decide (z < 0), z.natAbs, z, fun W hb => ?_, fun x B W h => ?_, fun z' h => by cases h; rfl⟩
  · have := num_any 2 (decide (z < 0)) a1 (mag z.natAbs) c1 0 ⟨#[]⟩ none 0 0 W (hr.later hb) (by omega) hc (Rd.cap ho)
    rw [be_mag, hpn] at this
    exact this
  · have := rint64_any x (decide (z < 0)) z.natAbs B W h (by omega)
    rw [hz, show get64 z = z by unfold get64; rw [fits64_yes (by omega) (by omega)]; rfl, fits64_yes (by omega) (by omega)] at this
    exact this
theorem asks_text (w : World) : Asks .text #[.int .i64 4, .bool false, .slice none 0 0, .int .u64 0, .string ⟨#[]⟩, .slice none 0 0] w := by
  refine ⟨false, 0, 0, fun W hb => ?_, fun x B W h => ?_, fun z h => by cases h⟩
  · exact num_any 4 false none [] 0 0 ⟨#[]⟩ none 0 0 W (.inl ⟨rfl, rfl⟩) (by decide) (by decide) (fun _ => rfl)
  · exact rint64_any x false 0 B W h (by decide)

/-- the three kinds of a part, as the loop asks for them -/
theorem three (P : Part) (hP : P.ok) (n1 : Bool) (a1 : Option Addr) (l1 c1 : Nat) (t1 : ByteArray) (B : Nat) (w : World)
    (hv : IsPart w B (.agg #[.int .i64 (kindOf P), .bool n1, .slice a1 l1 c1, .int .u64 0, .string t1, .slice none 0 0]) P) :
    (kindOf P = 0 ∧ numOf P = 0 ∧ lackOf P = true ∧ isText P = false) ∨
    (∃ z, kindOf P = 2 ∧ numOf P = z ∧ lackOf P = false ∧ isText P = false ∧ -2147483648 ≤ z ∧ z ≤ 2147483647 ∧ Asks (.num z) #[.int .i64 2, .bool n1, .slice a1 l1 c1, .int .u64 0, .string t1, .slice none 0 0] w) ∨
    (kindOf P = 4 ∧ isText P = true ∧ Asks .text #[.int .i64 4, .bool n1, .slice a1 l1 c1, .int .u64 0, .string t1, .slice none 0 0] w) := by
  cases P with
  | none => exact .inl ⟨rfl, rfl, rfl, rfl⟩
  | num z => exact .inr (.inl ⟨z, rfl, rfl, rfl, rfl, hP.1, hP.2, asks_num z hP.1 hP.2 n1 a1 l1 c1 t1 B w hv⟩)
  | text =>
    simp only [IsPart, kindOf, Value.agg.injEq, Array.mk.injEq, List.cons.injEq, Value.bool.injEq, Value.string.injEq, Value.slice.injEq, true_and, and_true] at hv
    obtain ⟨rfl, ⟨rfl, rfl, rfl⟩, rfl⟩ := hv
    exact .inr (.inr ⟨rfl, rfl, asks_text w⟩)

def Tri (s : Nat) (N1 N2 : Int) (L1 L2 : Bool) (T1 T2 : Bool) (w wr : World) (i : Value) : Prop :=
  ((i = .int .i64 0 ∧ Box.Holds wr (s + 1) 83 #[.int .i64 0, .int .i64 0, .int .i64 1] ∧ Box.Holds wr (s + 2) 84 #[.bool false, .bool false, .bool false]) ∨
    (i = .int .i64 1 ∧ T1 = false ∧ Box.Holds wr (s + 1) 83 #[.int .i64 N1, .int .i64 0, .int .i64 1] ∧ Box.Holds wr (s + 2) 84 #[.bool L1, .bool false, .bool false]) ∨
    (i = .int .i64 2 ∧ (T1 = false ∧ T2 = false) ∧ Box.Holds wr (s + 1) 83 #[.int .i64 N1, .int .i64 N2, .int .i64 1] ∧ Box.Holds wr (s + 2) 84 #[.bool L1, .bool L2, .bool false]) ∨
    (i = .int .i64 3 ∧ (T1 = false ∧ T2 = false) ∧ Box.Holds wr (s + 1) 83 #[.int .i64 N1, .int .i64 N2, .int .i64 1] ∧ Box.Holds wr (s + 2) 84 #[.bool L1, .bool L2, .bool true])) ∧ Below w.heap.size w wr

theorem tri_facts {w : World} {s : Nat} {x0 x1 x2 y0 y1 y2 : Value} (hA : Box.Holds w (s + 1) 83 #[x0, x1, x2]) (hB : Box.Holds w (s + 2) 84 #[y0, y1, y2]) :
    w.cell? ⟨s + 1, 0, none⟩ = some x0 ∧ w.cell? ⟨s + 1, 1, none⟩ = some x1 ∧ w.cell? ⟨s + 1, 2, none⟩ = some x2 ∧ w.cell? ⟨s + 2, 0, none⟩ = some y0 ∧ w.cell? ⟨s + 2, 1, none⟩ = some y1 ∧ w.cell? ⟨s + 2, 2, none⟩ = some y2 ∧
    s + 1 < w.heap.size ∧ s + 2 < w.heap.size ∧ (∀ i, w.frozen? ⟨s + 1, i, none⟩ = false) ∧ (∀ i, w.frozen? ⟨s + 2, i, none⟩ = false) := by
  have p0 := hA.cell 0
  have p1 := hA.cell 1
  have p2 := hA.cell 2
  have q0 := hB.cell 0
  have q1 := hB.cell 1
  have q2 := hB.cell 2
  simp at p0 p1 p2 q0 q1 q2
  exact ⟨p0, p1, p2, q0, q1, q2, hA.lt, hB.lt, hA.free, hB.free⟩

/-- the answer -/
def AskOf (P1 P2 : Part) (n : Int) (w : World) (e : Ending) (w' : World) : Prop :=
  e = .returned (if isText P1 || isText P2 then .tuple #[.int .i64 0, .int .i64 0, .int .i64 0, .bool false] else .tuple #[.int .i64 (clampN n (raw n 0 P1)), .int .i64 (clampN n (raw n n P2)), .int .i64 1, .bool true]) ∧ Below w.heap.size w w'

set_option maxHeartbeats 4000000 in
set_option maxRecDepth 100000 in
theorem ask_any (P1 P2 : Part) (h1 : P1.ok) (h2 : P2.ok) (n : Int) (hn : 0 ≤ n) (hn2 : n ≤ 2147483647) (n1 n2 : Bool) (a1 a2 : Option Addr) (l1 c1 l2 c2 : Nat) (t1 t2 : ByteArray) (B1 B2 : Nat) (w : World)
    (hv1 : IsPart w B1 (.agg #[.int .i64 (kindOf P1), .bool n1, .slice a1 l1 c1, .int .u64 0, .string t1, .slice none 0 0]) P1) (hv2 : IsPart w B2 (.agg #[.int .i64 (kindOf P2), .bool n2, .slice a2 l2 c2, .int .u64 0, .string t2, .slice none 0 0]) P2) :
    Calls Try.prog 24 #[.int .i64 n, .agg #[.int .i64 (kindOf P1), .bool n1, .slice a1 l1 c1, .int .u64 0, .string t1, .slice none 0 0, .int .i64 (kindOf P2), .bool n2, .slice a2 l2 c2, .int .u64 0, .string t2, .slice none 0 0, .int .i64 0, .bool false, .slice none 0 0, .int .u64 0, .string ⟨#[]⟩, .slice none 0 0]] w (AskOf P1 P2 n w) := by
  have u1 := three P1 h1 n1 a1 l1 c1 t1 B1 w hv1
  have u2 := three P2 h2 n2 a2 l2 c2 t2 B2 w hv2
  have hend := Lib.hid fun lacks i other (h1 : -2147483648 ≤ i) (h2 : i ≤ 2147483647) W => end_any n hn hn2 lacks i other h1 h2 W
  have r1 : isText P1 = false → endOf n (lackOf P1) (numOf P1) 0 = clampN n (raw n 0 P1) := fun h => endOf_part n 0 P1 h (by unfold clampN; rw [if_neg (by omega), if_neg (by omega)])
  have r2 : isText P2 = false → endOf n (lackOf P2) (numOf P2) n = clampN n (raw n n P2) := fun h => endOf_part n n P2 h (by unfold clampN; rw [if_neg (by omega), if_neg (by omega)])
  unfold AskOf
  have b1 : -2147483648 ≤ numOf P1 ∧ numOf P1 ≤ 2147483647 := by cases P1 <;> simp [numOf, Part.ok] at * <;> omega
  have b2 : -2147483648 ≤ numOf P2 ∧ numOf P2 ≤ 2147483647 := by cases P2 <;> simp [numOf, Part.ok] at * <;> omega
  obtain ⟨b11, b12⟩ := b1
  obtain ⟨b21, b22⟩ := b2
  generalize clampN n (raw n 0 P1) = R1 at r1 ⊢
  generalize clampN n (raw n n P2) = R2 at r2 ⊢
  generalize numOf P1 = N1 at *
  generalize numOf P2 = N2 at *
  generalize lackOf P1 = L1 at *
  generalize lackOf P2 = L2 at *
  generalize isText P1 = T1 at *
  generalize isText P2 = T2 at *
  have u1' := Lib.hid u1
  have u2' := Lib.hid u2
  have r1' := Lib.hid r1
  have r2' := Lib.hid r2
  generalize kindOf P1 = k1 at *
  generalize kindOf P2 = k2 at *
  clear hv1 hv2 h1 h2 u1 u2 r1 r2
  have i0 := at0 k1 k2 n1 n2 a1 a2 l1 c1 l2 c2 t1 t2
  have i1 := at1 k1 k2 n1 n2 a1 a2 l1 c1 l2 c2 t1 t2
  have i2 := at2 k1 k2 n1 n2 a1 a2 l1 c1 l2 c2 t1 t2
  have hH0 : Tri w.heap.size N1 N2 L1 L2 T1 T2 w (((w.alloc (.cells #[.int .i64 k1, .bool n1, .slice a1 l1 c1, .int .u64 0, .string t1, .slice none 0 0, .int .i64 k2, .bool n2, .slice a2 l2 c2, .int .u64 0, .string t2, .slice none 0 0, .int .i64 0, .bool false, .slice none 0 0, .int .u64 0, .string ⟨#[]⟩, .slice none 0 0] 56)).alloc (.cells #[.int .i64 0, .int .i64 0, .int .i64 1] 83)).alloc (.cells #[.bool false, .bool false, .bool false] 84)) (.int .i64 0) := by
    refine ⟨.inl ⟨rfl, ?_, ?_⟩, ((below_one _ (Nat.le_refl _)).alloc (by simp) _).alloc (by simp; omega) _⟩
    · have := (Box.Holds.made (w.alloc (.cells #[.int .i64 k1, .bool n1, .slice a1 l1 c1, .int .u64 0, .string t1, .slice none 0 0, .int .i64 k2, .bool n2, .slice a2 l2 c2, .int .u64 0, .string t2, .slice none 0 0, .int .i64 0, .bool false, .slice none 0 0, .int .u64 0, .string ⟨#[]⟩, .slice none 0 0] 56)) 83 #[.int .i64 0, .int .i64 0, .int .i64 1]).alloc (.cells #[.bool false, .bool false, .bool false] 84)
      rwa [show (w.alloc (.cells #[.int .i64 k1, .bool n1, .slice a1 l1 c1, .int .u64 0, .string t1, .slice none 0 0, .int .i64 k2, .bool n2, .slice a2 l2 c2, .int .u64 0, .string t2, .slice none 0 0, .int .i64 0, .bool false, .slice none 0 0, .int .u64 0, .string ⟨#[]⟩, .slice none 0 0] 56)).heap.size = w.heap.size + 1 by simp] at this
    · have := Box.Holds.made ((w.alloc (.cells #[.int .i64 k1, .bool n1, .slice a1 l1 c1, .int .u64 0, .string t1, .slice none 0 0, .int .i64 k2, .bool n2, .slice a2 l2 c2, .int .u64 0, .string t2, .slice none 0 0, .int .i64 0, .bool false, .slice none 0 0, .int .u64 0, .string ⟨#[]⟩, .slice none 0 0] 56)).alloc (.cells #[.int .i64 0, .int .i64 0, .int .i64 1] 83)) 84 #[.bool false, .bool false, .bool false]
      rwa [show ((w.alloc (.cells #[.int .i64 k1, .bool n1, .slice a1 l1 c1, .int .u64 0, .string t1, .slice none 0 0, .int .i64 k2, .bool n2, .slice a2 l2 c2, .int .u64 0, .string t2, .slice none 0 0, .int .i64 0, .bool false, .slice none 0 0, .int .u64 0, .string ⟨#[]⟩, .slice none 0 0] 56)).alloc (.cells #[.int .i64 0, .int .i64 0, .int .i64 1] 83)).heap.size = w.heap.size + 2 by simp] at this
  have hH0' := Lib.hid hH0
  clear hH0
  go_enter Try.func24, Try.ntmps24
  go_wp2
  go_loopw [19] (fun i wr => Tri w.heap.size N1 N2 L1 L2 T1 T2 w wr i) (fun i _ => (3 - intOf i).toNat)
  case atStart => exact hH0'.out
  case round =>
    clear hH0'
    obtain ⟨hcs, hbw⟩ := hrel
    rcases hcs with ⟨rfl, hA, hB⟩ | ⟨rfl, hT, hA, hB⟩ | ⟨rfl, hT, hA, hB⟩ | ⟨rfl, hT, hA, hB⟩
    · have hA' := Lib.hid hA
      have hB' := Lib.hid hB
      have hbw' := Lib.hid hbw
      clear hA hB hbw
      rcases u1'.out with ⟨rfl, rfl, rfl, rfl⟩ | ⟨z, rfl, rfl, rfl, rfl, hz1, hz2, hask⟩ | ⟨rfl, rfl, hask⟩
      · as_aux_lemma =>
          clear u1' u2' r1' r2' hend
          obtain ⟨p0, p1, p2, q0, q1, q2, s1, s2, f1, f2⟩ := tri_facts (hA'.out.later (below_one (.cells #[.int .i64 0, .bool n1, .slice a1 l1 c1, .int .u64 0, .string t1, .slice none 0 0] 26) (Nat.le_refl _))) (hB'.out.later (below_one (.cells #[.int .i64 0, .bool n1, .slice a1 l1 c1, .int .u64 0, .string t1, .slice none 0 0] 26) (Nat.le_refl _)))
          have hput := Lib.hid ((hB'.out.alloc (.cells #[.int .i64 0, .bool n1, .slice a1 l1 c1, .int .u64 0, .string t1, .slice none 0 0] 26)).put 0 (.bool true))
          have hkeep := Lib.hid ((hA'.out.alloc (.cells #[.int .i64 0, .bool n1, .slice a1 l1 c1, .int .u64 0, .string t1, .slice none 0 0] 26)).apart (p := ⟨w.heap.size + 2, 0, none⟩) (show w.heap.size + 1 ≠ w.heap.size + 2 by omega) (.bool true))
          have hbel := Lib.hid ((hbw'.out.alloc hbw'.out.size (.cells #[.int .i64 0, .bool n1, .slice a1 l1 c1, .int .u64 0, .string t1, .slice none 0 0] 26)).setCell (p := ⟨w.heap.size + 2, 0, none⟩) (show w.heap.size ≤ w.heap.size + 2 by omega) (.bool true))
          have f2_0 := f2 0
          clear hA' hB' hbw' f1 f2
          go_wp2_with fail
          go_roundw
          case rel => exact ⟨.inr (.inl ⟨rfl, rfl, by simpa using hkeep.out, by simpa using hput.out⟩), hbel.out⟩
          case measure => simp [intOf]
      · as_aux_lemma =>
          clear u1' u2' r1' r2' hend
          obtain ⟨D, M, Z, nm, it, hZ⟩ := hask
          have nm' := Lib.hid nm
          have it' := Lib.hid it
          clear nm it
          go_wp2_with fail
          refine (nm'.out _ (hbw'.out.alloc hbw'.out.size _)).mono ?_
          rintro e w5 ⟨⟨x, rfl, hx⟩, hb5⟩
          go_wp2_with fail
          refine (it'.out _ _ _ hx).mono ?_
          rintro e w6 ⟨rfl, hb6⟩
          have hb7 : Below (wr.heap.size + 1) (wr.alloc (.cells #[.int .i64 2, .bool n1, .slice a1 l1 c1, .int .u64 0, .string t1, .slice none 0 0] 26)) w6 := by
            have := hb5.trans (hb6.mono hb5.size)
            simpa using this
          have hb8 : Below wr.heap.size wr w6 := (below_one _ (Nat.le_refl _)).trans (hb7.mono (Nat.le_succ _))
          have hk := ((Box.Holds.made wr 26 #[.int .i64 2, .bool n1, .slice a1 l1 c1, .int .u64 0, .string t1, .slice none 0 0]).below hb7 (Nat.lt_succ_self _)).cell 0
          simp at hk
          have hlk := ((Box.Holds.made wr 26 #[.int .i64 2, .bool n1, .slice a1 l1 c1, .int .u64 0, .string t1, .slice none 0 0]).below hb7 (Nat.lt_succ_self _)).lt
          obtain ⟨p0, p1, p2, q0, q1, q2, s1, s2, f1, f2⟩ := tri_facts (hA'.out.later hb8) (hB'.out.later hb8)
          have hA8 := Lib.hid (hA'.out.later hb8)
          have hB8 := Lib.hid (hB'.out.later hb8)
          have hbw8 := Lib.hid (hbw'.out.trans (hb8.mono hbw'.out.size))
          clear hx hb5 hb6 hb7 hb8 hA' hB' hbw' nm' it'
          obtain rfl : Z = N1 := hZ N1 rfl
          have hw1 : wrap32 Z = Z := by unfold wrap32; omega
          have f1_0 := f1 0
          have hput := Lib.hid (hA8.out.put 0 (.int .i64 Z))
          have hkeep := Lib.hid (hB8.out.apart (p := ⟨w.heap.size + 1, 0, none⟩) (show w.heap.size + 2 ≠ w.heap.size + 1 by omega) (.int .i64 Z))
          have hbel := Lib.hid (hbw8.out.setCell (p := ⟨w.heap.size + 1, 0, none⟩) (show w.heap.size ≤ w.heap.size + 1 by omega) (.int .i64 Z))
          clear hA8 hB8 hbw8 f1 f2 hZ
          go_wp2_with fail
          go_roundw
          case rel => exact ⟨.inr (.inl ⟨rfl, rfl, by simpa using hput.out, by simpa using hkeep.out⟩), hbel.out⟩
          case measure => simp [intOf]
      · as_aux_lemma =>
          clear u1' u2' r1' r2' hend
          obtain ⟨D, M, Z, nm, it, hZ⟩ := hask
          have nm' := Lib.hid nm
          have it' := Lib.hid it
          clear nm it
          go_wp2_with fail
          refine (nm'.out _ (hbw'.out.alloc hbw'.out.size _)).mono ?_
          rintro e w5 ⟨⟨x, rfl, hx⟩, hb5⟩
          go_wp2_with fail
          refine (it'.out _ _ _ hx).mono ?_
          rintro e w6 ⟨rfl, hb6⟩
          have hb7 : Below (wr.heap.size + 1) (wr.alloc (.cells #[.int .i64 4, .bool n1, .slice a1 l1 c1, .int .u64 0, .string t1, .slice none 0 0] 26)) w6 := by
            have := hb5.trans (hb6.mono hb5.size)
            simpa using this
          have hb8 : Below wr.heap.size wr w6 := (below_one _ (Nat.le_refl _)).trans (hb7.mono (Nat.le_succ _))
          have hk := ((Box.Holds.made wr 26 #[.int .i64 4, .bool n1, .slice a1 l1 c1, .int .u64 0, .string t1, .slice none 0 0]).below hb7 (Nat.lt_succ_self _)).cell 0
          simp at hk
          have hlk := ((Box.Holds.made wr 26 #[.int .i64 4, .bool n1, .slice a1 l1 c1, .int .u64 0, .string t1, .slice none 0 0]).below hb7 (Nat.lt_succ_self _)).lt
          obtain ⟨p0, p1, p2, q0, q1, q2, s1, s2, f1, f2⟩ := tri_facts (hA'.out.later hb8) (hB'.out.later hb8)
          have hA8 := Lib.hid (hA'.out.later hb8)
          have hB8 := Lib.hid (hB'.out.later hb8)
          have hbw8 := Lib.hid (hbw'.out.trans (hb8.mono hbw'.out.size))
          clear hx hb5 hb6 hb7 hb8 hA' hB' hbw' nm' it'
          clear f1 f2 hZ hA8 hB8
          go_wp2
          exact bodyPost_ret (v := .tuple #[.int .i64 0, .int .i64 0, .int .i64 0, .bool false]) (by simp [results, Try.results24, go_sem]) rfl ⟨by simp, hbw8.out⟩
    · have hA' := Lib.hid hA
      have hB' := Lib.hid hB
      have hbw' := Lib.hid hbw
      clear hA hB hbw
      subst hT
      rcases u2'.out with ⟨rfl, rfl, rfl, rfl⟩ | ⟨z, rfl, rfl, rfl, rfl, hz1, hz2, hask⟩ | ⟨rfl, rfl, hask⟩
      · as_aux_lemma =>
          clear u1' u2' r1' r2' hend
          obtain ⟨p0, p1, p2, q0, q1, q2, s1, s2, f1, f2⟩ := tri_facts (hA'.out.later (below_one (.cells #[.int .i64 0, .bool n2, .slice a2 l2 c2, .int .u64 0, .string t2, .slice none 0 0] 26) (Nat.le_refl _))) (hB'.out.later (below_one (.cells #[.int .i64 0, .bool n2, .slice a2 l2 c2, .int .u64 0, .string t2, .slice none 0 0] 26) (Nat.le_refl _)))
          have hput := Lib.hid ((hB'.out.alloc (.cells #[.int .i64 0, .bool n2, .slice a2 l2 c2, .int .u64 0, .string t2, .slice none 0 0] 26)).put 1 (.bool true))
          have hkeep := Lib.hid ((hA'.out.alloc (.cells #[.int .i64 0, .bool n2, .slice a2 l2 c2, .int .u64 0, .string t2, .slice none 0 0] 26)).apart (p := ⟨w.heap.size + 2, 1, none⟩) (show w.heap.size + 1 ≠ w.heap.size + 2 by omega) (.bool true))
          have hbel := Lib.hid ((hbw'.out.alloc hbw'.out.size (.cells #[.int .i64 0, .bool n2, .slice a2 l2 c2, .int .u64 0, .string t2, .slice none 0 0] 26)).setCell (p := ⟨w.heap.size + 2, 1, none⟩) (show w.heap.size ≤ w.heap.size + 2 by omega) (.bool true))
          have f2_1 := f2 1
          clear hA' hB' hbw' f1 f2
          go_wp2_with fail
          go_roundw
          case rel => exact ⟨.inr (.inr (.inl ⟨rfl, ⟨rfl, rfl⟩, by simpa using hkeep.out, by simpa using hput.out⟩)), hbel.out⟩
          case measure => simp [intOf]
      · as_aux_lemma =>
          clear u1' u2' r1' r2' hend
          obtain ⟨D, M, Z, nm, it, hZ⟩ := hask
          have nm' := Lib.hid nm
          have it' := Lib.hid it
          clear nm it
          go_wp2_with fail
          refine (nm'.out _ (hbw'.out.alloc hbw'.out.size _)).mono ?_
          rintro e w5 ⟨⟨x, rfl, hx⟩, hb5⟩
          go_wp2_with fail
          refine (it'.out _ _ _ hx).mono ?_
          rintro e w6 ⟨rfl, hb6⟩
          have hb7 : Below (wr.heap.size + 1) (wr.alloc (.cells #[.int .i64 2, .bool n2, .slice a2 l2 c2, .int .u64 0, .string t2, .slice none 0 0] 26)) w6 := by
            have := hb5.trans (hb6.mono hb5.size)
            simpa using this
          have hb8 : Below wr.heap.size wr w6 := (below_one _ (Nat.le_refl _)).trans (hb7.mono (Nat.le_succ _))
          have hk := ((Box.Holds.made wr 26 #[.int .i64 2, .bool n2, .slice a2 l2 c2, .int .u64 0, .string t2, .slice none 0 0]).below hb7 (Nat.lt_succ_self _)).cell 0
          simp at hk
          have hlk := ((Box.Holds.made wr 26 #[.int .i64 2, .bool n2, .slice a2 l2 c2, .int .u64 0, .string t2, .slice none 0 0]).below hb7 (Nat.lt_succ_self _)).lt
          obtain ⟨p0, p1, p2, q0, q1, q2, s1, s2, f1, f2⟩ := tri_facts (hA'.out.later hb8) (hB'.out.later hb8)
          have hA8 := Lib.hid (hA'.out.later hb8)
          have hB8 := Lib.hid (hB'.out.later hb8)
          have hbw8 := Lib.hid (hbw'.out.trans (hb8.mono hbw'.out.size))
          clear hx hb5 hb6 hb7 hb8 hA' hB' hbw' nm' it'
          obtain rfl : Z = N2 := hZ N2 rfl
          have hw1 : wrap32 Z = Z := by unfold wrap32; omega
          have f1_1 := f1 1
          have hput := Lib.hid (hA8.out.put 1 (.int .i64 Z))
          have hkeep := Lib.hid (hB8.out.apart (p := ⟨w.heap.size + 1, 1, none⟩) (show w.heap.size + 2 ≠ w.heap.size + 1 by omega) (.int .i64 Z))
          have hbel := Lib.hid (hbw8.out.setCell (p := ⟨w.heap.size + 1, 1, none⟩) (show w.heap.size ≤ w.heap.size + 1 by omega) (.int .i64 Z))
          clear hA8 hB8 hbw8 f1 f2 hZ
          go_wp2_with fail
          go_roundw
          case rel => exact ⟨.inr (.inr (.inl ⟨rfl, ⟨rfl, rfl⟩, by simpa using hput.out, by simpa using hkeep.out⟩)), hbel.out⟩
          case measure => simp [intOf]
      · as_aux_lemma =>
          clear u1' u2' r1' r2' hend
          obtain ⟨D, M, Z, nm, it, hZ⟩ := hask
          have nm' := Lib.hid nm
          have it' := Lib.hid it
          clear nm it
          go_wp2_with fail
          refine (nm'.out _ (hbw'.out.alloc hbw'.out.size _)).mono ?_
          rintro e w5 ⟨⟨x, rfl, hx⟩, hb5⟩
          go_wp2_with fail
          refine (it'.out _ _ _ hx).mono ?_
          rintro e w6 ⟨rfl, hb6⟩
          have hb7 : Below (wr.heap.size + 1) (wr.alloc (.cells #[.int .i64 4, .bool n2, .slice a2 l2 c2, .int .u64 0, .string t2, .slice none 0 0] 26)) w6 := by
            have := hb5.trans (hb6.mono hb5.size)
            simpa using this
          have hb8 : Below wr.heap.size wr w6 := (below_one _ (Nat.le_refl _)).trans (hb7.mono (Nat.le_succ _))
          have hk := ((Box.Holds.made wr 26 #[.int .i64 4, .bool n2, .slice a2 l2 c2, .int .u64 0, .string t2, .slice none 0 0]).below hb7 (Nat.lt_succ_self _)).cell 0
          simp at hk
          have hlk := ((Box.Holds.made wr 26 #[.int .i64 4, .bool n2, .slice a2 l2 c2, .int .u64 0, .string t2, .slice none 0 0]).below hb7 (Nat.lt_succ_self _)).lt
          obtain ⟨p0, p1, p2, q0, q1, q2, s1, s2, f1, f2⟩ := tri_facts (hA'.out.later hb8) (hB'.out.later hb8)
          have hA8 := Lib.hid (hA'.out.later hb8)
          have hB8 := Lib.hid (hB'.out.later hb8)
          have hbw8 := Lib.hid (hbw'.out.trans (hb8.mono hbw'.out.size))
          clear hx hb5 hb6 hb7 hb8 hA' hB' hbw' nm' it'
          clear f1 f2 hZ hA8 hB8
          go_wp2
          exact bodyPost_ret (v := .tuple #[.int .i64 0, .int .i64 0, .int .i64 0, .bool false]) (by simp [results, Try.results24, go_sem]) rfl ⟨by simp, hbw8.out⟩
    · have hA' := Lib.hid hA
      have hB' := Lib.hid hB
      have hbw' := Lib.hid hbw
      clear hA hB hbw u1' u2' r1' r2' hend
      obtain ⟨rfl, rfl⟩ := hT
      · as_aux_lemma =>
          obtain ⟨p0, p1, p2, q0, q1, q2, s1, s2, f1, f2⟩ := tri_facts (hA'.out.later (below_one (.cells #[.int .i64 0, .bool false, .slice none 0 0, .int .u64 0, .string ⟨#[]⟩, .slice none 0 0] 26) (Nat.le_refl _))) (hB'.out.later (below_one (.cells #[.int .i64 0, .bool false, .slice none 0 0, .int .u64 0, .string ⟨#[]⟩, .slice none 0 0] 26) (Nat.le_refl _)))
          have hput := Lib.hid ((hB'.out.alloc (.cells #[.int .i64 0, .bool false, .slice none 0 0, .int .u64 0, .string ⟨#[]⟩, .slice none 0 0] 26)).put 2 (.bool true))
          have hkeep := Lib.hid ((hA'.out.alloc (.cells #[.int .i64 0, .bool false, .slice none 0 0, .int .u64 0, .string ⟨#[]⟩, .slice none 0 0] 26)).apart (p := ⟨w.heap.size + 2, 2, none⟩) (show w.heap.size + 1 ≠ w.heap.size + 2 by omega) (.bool true))
          have hbel := Lib.hid ((hbw'.out.alloc hbw'.out.size (.cells #[.int .i64 0, .bool false, .slice none 0 0, .int .u64 0, .string ⟨#[]⟩, .slice none 0 0] 26)).setCell (p := ⟨w.heap.size + 2, 2, none⟩) (show w.heap.size ≤ w.heap.size + 2 by omega) (.bool true))
          have f2_2 := f2 2
          clear hA' hB' hbw' f1 f2
          go_wp2_with fail
          go_roundw
          case rel => exact ⟨.inr (.inr (.inr ⟨rfl, ⟨rfl, rfl⟩, by simpa using hkeep.out, by simpa using hput.out⟩)), hbel.out⟩
          case measure => simp [intOf]
    · obtain ⟨rfl, rfl⟩ := hT
      obtain ⟨p0, p1, p2, q0, q1, q2, s1, s2, f1, f2⟩ := tri_facts hA hB
      have hbw' := Lib.hid hbw
      have e1 := r1'.out rfl
      have e2 := r2'.out rfl
      have hq1 := Lib.hid fun W => hend.out L1 N1 0 b11 b12 W
      have hq2 := Lib.hid fun W => hend.out L2 N2 n b21 b22 W
      rw [e1] at hq1
      rw [e2] at hq2
      clear hA hB hbw u1' u2' r1' r2' hend f1 f2 e1 e2
      as_aux_lemma =>
      go_wp2_with fail
      go_quiet ((first | (go_at_call 41; with_reducible exact Calls.quiet_of_same (hq1.out _)) | (go_at_call 41; with_reducible exact Calls.quiet_of_same (hq2.out _))))
      go_wp2
      exact bodyPost_ret (v := .tuple #[.int .i64 R1, .int .i64 R2, .int .i64 1, .bool true]) (by simp [results, Try.results24, go_sem]) rfl ⟨by simp, Box.below_drawn hbw'.out _⟩
end Go.Proofs.Ytaappbnbjpbbcaa.Big
