/-
  The two places that two parts stand for: the program's side.
-/
import Derived.Test.YtaappbnbjpbbcaaParts
import Derived.Test.YtaappbnbjpbbcaaKnown
namespace Go.Proofs.Ytaappbnbjpbbcaa.Big
open Go.RowKit Go.WideShapes Go.Proofs.Ytaappbnbjpbbcaa.Own Go.Proofs.Ytaappbnbjpbbcaa.Num Go.Proofs.Ytaappbnbjpbbcaa.Ref Go.Proofs.Ytaappbnbjpbbcaa.Nat_
set_option linter.unusedVariables false

/-- a part as the package has it -/
def pv : Part → Value
  | .none => .iface 112 (.int .u8 0)
  | .num z => .iface 73 (.agg #[.int .i64 z, .pointer none])
  | .text => .iface 117 (.string ⟨#[]⟩)

/-- a new error -/
def NewError (w : World) (e : Ending) (w' : World) : Prop := ∃ v, e = .returned (.iface 136 v) ∧ Below w.heap.size w w'
set_option maxRecDepth 100000 in
theorem enew_any (t : ByteArray) (w : World) : Calls Try.prog 65 #[.string t] w (NewError w) := by
  go_enter Try.func65, Try.ntmps65
  go_wp2
  go_ret
  exact ⟨_, rfl, below_one _ (Nat.le_refl _)⟩

theorem is_star (v : Value) (w : World) : (Instr.typeAssert (.iface 73 v) 58 73 true).run Try.prog w = .ok (.tuple #[v, .bool true]) w := by kernel_rfl
theorem no_star (t : ByteArray) (w : World) : (Instr.typeAssert (.iface 117 (.string t)) 58 73 true).run Try.prog w = .ok (.tuple #[.agg #[.int .i64 0, .pointer none], .bool false]) w := by kernel_rfl

/-- what an int32 of a part is: a number, or an error -/
def Int32Of (P : Part) (w : World) (e : Ending) (w' : World) : Prop :=
  (match P with
    | .num z => e = .returned (.tuple #[.int .i64 z, .nilIface])
    | _ => ∃ v, e = .returned (.tuple #[.int .i64 0, .iface 136 v])) ∧ Below w.heap.size w w'
set_option maxRecDepth 100000 in
theorem asint_num (z : Int) (w : World) : Calls Try.prog 87 #[pv (.num z)] w (Int32Of (.num z) w) := by
  have h1 := is_star
  have hget := Lib.hid fun W => get_any z none W
  unfold pv
  go_enter Try.func87, Try.ntmps87
  go_wp2_with fail
  refine (hget.out _).mono ?_
  rintro e w1 ⟨rfl, hb⟩
  go_wp2
  go_ret2
  exact ⟨rfl, (below_one _ (Nat.le_refl _)).trans (hb.mono (by simp))⟩
set_option maxRecDepth 100000 in
theorem asint_text (w : World) : Calls Try.prog 87 #[pv .text] w (Int32Of .text w) := by
  have h1 := no_star
  have hn := Lib.hid enew_any
  unfold pv
  go_enter Try.func87, Try.ntmps87
  go_wp2_with fail
  refine (hn.out _ _).mono ?_
  rintro e w1 ⟨v, rfl, hb⟩
  go_wp2
  go_ret2
  exact ⟨⟨_, rfl⟩, (below_one _ (Nat.le_refl _)).trans (hb.mono (by simp))⟩

/-- the place that a part stands for, before it is brought into the sequence -/
def raw (n d : Int) : Part → Int
  | .none => d
  | .num z => if z < 0 then z + n else z
  | .text => 0
def isText : Part → Bool
  | .text => true
  | _ => false
/-- asIndex has written the place into block g, and nothing else that was there -/
def Wrote (P : Part) (n d : Int) (g : Nat) (w : World) (e : Ending) (w' : World) : Prop :=
  (if isText P then ∃ v, e = .returned (.iface 136 v) else e = .returned .nilIface) ∧ Box.Holds w' g 3 #[.int .i64 (raw n d P)] ∧ Below g w w' ∧ Box.Above (g + 1) w w'

theorem neq_none (w : World) : (binOp BinOp.neq 58 (.iface 112 (.int .u8 0)) (.iface 112 (.int .u8 0))).run Try.prog w = .ok (.bool false) w := by kernel_rfl
theorem neq_num (z : Int) (w : World) : (binOp BinOp.neq 58 (.iface 73 (.agg #[.int .i64 z, .pointer none])) (.iface 112 (.int .u8 0))).run Try.prog w = .ok (.bool true) w := by kernel_rfl
theorem neq_text (t : ByteArray) (w : World) : (binOp BinOp.neq 58 (.iface 117 (.string t)) (.iface 112 (.int .u8 0))).run Try.prog w = .ok (.bool true) w := by kernel_rfl

theorem wrote_end {g : Nat} {w w1 : World} (hlt : g < w.heap.size) (hb : Below w.heap.size w w1) (u : Value) : Below g w (w1.setCell ⟨g, 0, none⟩ u) ∧ Box.Above (g + 1) w (w1.setCell ⟨g, 0, none⟩ u) :=
  ⟨(hb.mono (Nat.le_of_lt hlt)).setCell (p := ⟨g, 0, none⟩) (Nat.le_refl g) u, (Box.Above.of_below hb).setCell (p := ⟨g, 0, none⟩) (Nat.lt_succ_self g) u⟩

set_option maxRecDepth 100000 in
theorem asindex_none (n d : Int) (g : Nat) (w : World) (hg : Box.Holds w g 3 #[.int .i64 d]) : Calls Try.prog 64 #[pv .none, .int .i64 n, .pointer (some ⟨g, 0, none⟩)] w (Wrote .none n d g w) := by
  have h1 := neq_none
  unfold pv
  go_enter Try.func64, Try.ntmps64
  go_wp2
  go_ret
  exact ⟨rfl, hg, Below.refl _ _, Box.Above.refl _ _⟩

set_option maxRecDepth 100000 in
theorem asindex_text (n d : Int) (g : Nat) (w : World) (hg : Box.Holds w g 3 #[.int .i64 d]) : Calls Try.prog 64 #[pv .text, .int .i64 n, .pointer (some ⟨g, 0, none⟩)] w (Wrote .text n d g w) := by
  have h1 := neq_text
  have ha := Lib.hid fun W => asint_text W
  have hlt := hg.lt
  have hlt' := hg.lt
  have hg' := Lib.hid hg
  simp only [pv] at ha ⊢
  clear hg
  go_enter Try.func64, Try.ntmps64
  go_wp2_with fail
  refine (ha.out _).mono ?_
  rintro e w1 ⟨⟨v, rfl⟩, hb⟩
  have g1 := hg'.out.later hb
  have q0 := g1.cell 0
  simp at q0
  have f0 := g1.free 0
  have l1 := g1.lt
  have hput := Lib.hid (g1.put 0 (.int .i64 0))
  have hb' := Lib.hid hb
  clear g1 hb
  go_wp2
  go_ret
  refine ⟨⟨_, rfl⟩, ?_, (wrote_end hlt' hb'.out _).1, (wrote_end hlt' hb'.out _).2⟩
  have := hput.out
  simpa [raw] using this

set_option maxRecDepth 100000 in
theorem asindex_num (z n d : Int) (hz : Part.ok (.num z)) (hn : 0 ≤ n) (hn2 : n ≤ 2147483647) (g : Nat) (w : World) (hg : Box.Holds w g 3 #[.int .i64 d]) : Calls Try.prog 64 #[pv (.num z), .int .i64 n, .pointer (some ⟨g, 0, none⟩)] w (Wrote (.num z) n d g w) := by
  obtain ⟨hz1, hz2⟩ := hz
  have h1 := neq_num z
  have ha := Lib.hid fun W => asint_num z W
  have hlt := hg.lt
  have hlt' := hg.lt
  have hg' := Lib.hid hg
  simp only [pv] at ha ⊢
  clear hg
  by_cases h0 : z < 0
  · have d0 : decide (z < 0) = true := by simp [h0]
    have hr : Hid (raw n d (.num z) = z + n) := Lib.hid (by simp [raw, h0])
    clear h0
    go_enter Try.func64, Try.ntmps64
    go_wp2_with fail
    refine (ha.out _).mono ?_
    rintro e w1 ⟨rfl, hb⟩
    have g1 := hg'.out.later hb
    have q0 := g1.cell 0
    simp at q0
    have f0 := g1.free 0
    have l1 := g1.lt
    have hput := Lib.hid ((g1.put 0 (.int .i64 z)).put 0 (.int .i64 (z + n)))
    have hb' := Lib.hid hb
    clear g1 hb
    go_wp2
    go_ret
    refine ⟨rfl, ?_, (wrote_end hlt' hb'.out _).1.setCell (p := ⟨g, 0, none⟩) (Nat.le_refl g) _, (wrote_end hlt' hb'.out _).2.setCell (p := ⟨g, 0, none⟩) (Nat.lt_succ_self g) _⟩
    have := hput.out
    rw [hr.out]
    simpa using this
  · have d0 : decide (z < 0) = false := by simp [h0]
    have hr : Hid (raw n d (.num z) = z) := Lib.hid (by simp [raw, h0])
    clear h0
    go_enter Try.func64, Try.ntmps64
    go_wp2_with fail
    refine (ha.out _).mono ?_
    rintro e w1 ⟨rfl, hb⟩
    have g1 := hg'.out.later hb
    have q0 := g1.cell 0
    simp at q0
    have f0 := g1.free 0
    have l1 := g1.lt
    have hput := Lib.hid (g1.put 0 (.int .i64 z))
    have hb' := Lib.hid hb
    clear g1 hb
    go_wp2
    go_ret
    refine ⟨rfl, ?_, (wrote_end hlt' hb'.out _).1, (wrote_end hlt' hb'.out _).2⟩
    have := hput.out
    rw [hr.out]
    simpa using this

theorem asindex_any (P : Part) (hP : P.ok) (n d : Int) (hn : 0 ≤ n) (hn2 : n ≤ 2147483647) (g : Nat) (w : World) (hg : Box.Holds w g 3 #[.int .i64 d]) : Calls Try.prog 64 #[pv P, .int .i64 n, .pointer (some ⟨g, 0, none⟩)] w (Wrote P n d g w) := by
  cases P
  · exact asindex_none n d g w hg
  · exact asindex_num _ n d hP hn hn2 g w hg
  · exact asindex_text n d g w hg

theorem Holds.above {w w' : World} {g B : Nat} {t : TypeId} {cs : Array Value} (h : Box.Holds w g t cs) (hb : Box.Above B w w') (hB : B ≤ g) : Box.Holds w' g t cs := (hb g hB h.lt).trans h

def clampN (n r : Int) : Int := if r < 0 then 0 else if n < r then n else r
theorem clamp_cases (n r : Int) : (decide (r < 0) = true ∧ clampN n r = 0) ∨ (decide (r < 0) = false ∧ decide (n < r) = true ∧ clampN n r = n) ∨ (decide (r < 0) = false ∧ decide (n < r) = false ∧ clampN n r = r) := by
  unfold clampN
  by_cases h1 : r < 0
  · simp [h1]
  · by_cases h2 : n < r
    · simp [h1, h2]
    · simp [h1, h2]

/-- the two places, or an error -/
def IndOf (P1 P2 : Part) (n : Int) (w : World) (e : Ending) (w' : World) : Prop :=
  (if isText P1 || isText P2 then ∃ v, e = .returned (.tuple #[.int .i64 0, .int .i64 0, .iface 136 v]) else e = .returned (.tuple #[.int .i64 (clampN n (raw n 0 P1)), .int .i64 (clampN n (raw n n P2)), .nilIface])) ∧ Below w.heap.size w w'

theorem two_facts {w : World} {s : Nat} {u v : Value} (hA : Box.Holds w s 3 #[u]) (hB : Box.Holds w (s + 1) 3 #[v]) :
    w.cell? ⟨s, 0, none⟩ = some u ∧ w.cell? ⟨s + 1, 0, none⟩ = some v ∧ s < w.heap.size ∧ s + 1 < w.heap.size ∧ w.frozen? ⟨s, 0, none⟩ = false ∧ w.frozen? ⟨s + 1, 0, none⟩ = false := by
  have p0 := hA.cell 0
  have p1 := hB.cell 0
  simp at p0 p1
  exact ⟨p0, p1, hA.lt, hB.lt, hA.free 0, hB.free 0⟩
theorem two_put {w : World} {s : Nat} {u v : Value} (hA : Box.Holds w s 3 #[u]) (hB : Box.Holds w (s + 1) 3 #[v]) (x : Value) : Box.Holds (w.setCell ⟨s, 0, none⟩ x) s 3 #[x] ∧ Box.Holds (w.setCell ⟨s, 0, none⟩ x) (s + 1) 3 #[v] := by
  refine ⟨?_, hB.apart (show s + 1 ≠ s by omega) x⟩
  have := hA.put 0 x
  simpa using this
theorem two_put' {w : World} {s : Nat} {u v : Value} (hA : Box.Holds w s 3 #[u]) (hB : Box.Holds w (s + 1) 3 #[v]) (x : Value) : Box.Holds (w.setCell ⟨s + 1, 0, none⟩ x) s 3 #[u] ∧ Box.Holds (w.setCell ⟨s + 1, 0, none⟩ x) (s + 1) 3 #[x] := by
  refine ⟨hA.apart (show s ≠ s + 1 by omega) x, ?_⟩
  have := hB.put 0 x
  simpa using this

set_option maxHeartbeats 1000000 in
set_option maxRecDepth 100000 in
theorem indices_any (P1 P2 : Part) (h1 : P1.ok) (h2 : P2.ok) (n : Int) (hn : 0 ≤ n) (hn2 : n ≤ 2147483647) (w : World) :
    Calls Try.prog 43 #[pv P1, pv P2, .int .i64 n] w (IndOf P1 P2 n w) := by
  have ha := Lib.hid fun W g (h : Box.Holds W g 3 #[.int .i64 0]) => asindex_any P1 h1 n 0 hn hn2 g W h
  have hb := Lib.hid fun W g (h : Box.Holds W g 3 #[.int .i64 n]) => asindex_any P2 h2 n n hn hn2 g W h
  have hnew := Lib.hid enew_any
  obtain ⟨v1, hv1⟩ : ∃ v, pv P1 = v := ⟨_, rfl⟩
  obtain ⟨v2, hv2⟩ : ∃ v, pv P2 = v := ⟨_, rfl⟩
  obtain ⟨r1, hr1⟩ : ∃ r, raw n 0 P1 = r := ⟨_, rfl⟩
  obtain ⟨r2, hr2⟩ : ∃ r, raw n n P2 = r := ⟨_, rfl⟩
  obtain ⟨x1, hx1⟩ : ∃ x, isText P1 = x := ⟨_, rfl⟩
  obtain ⟨x2, hx2⟩ : ∃ x, isText P2 = x := ⟨_, rfl⟩
  obtain ⟨c1, hc1⟩ : ∃ c, clampN n r1 = c := ⟨_, rfl⟩
  obtain ⟨c2, hc2⟩ : ∃ c, clampN n r2 = c := ⟨_, rfl⟩
  unfold Wrote at ha hb
  unfold IndOf
  rw [hv1, hr1, hx1] at ha
  rw [hv2, hr2, hx2] at hb
  rw [hv1, hv2, hr1, hr2, hx1, hx2, hc1, hc2]
  have hA : Box.Holds ((w.alloc (.cells #[.int .i64 0] 3)).alloc (.cells #[.int .i64 0] 3)) w.heap.size 3 #[.int .i64 0] := (Box.Holds.made w _ _).alloc _
  have hB : Box.Holds ((w.alloc (.cells #[.int .i64 0] 3)).alloc (.cells #[.int .i64 0] 3)) (w.heap.size + 1) 3 #[.int .i64 0] := by
    have := Box.Holds.made (w.alloc (.cells #[.int .i64 0] 3)) 3 #[.int .i64 0]
    rwa [show (w.alloc (.cells #[.int .i64 0] 3)).heap.size = w.heap.size + 1 by simp] at this
  have hB2 : Below w.heap.size w ((w.alloc (.cells #[.int .i64 0] 3)).alloc (.cells #[.int .i64 0] 3)) := (below_one _ (Nat.le_refl _)).alloc (by simp) _
  have ha2 := Lib.hid (ha.out _ _ hA)
  have hB' := Lib.hid hB
  have hB2' := Lib.hid hB2
  have hcl1 := clamp_cases n r1
  have hcl2 := clamp_cases n r2
  rw [hc1] at hcl1
  rw [hc2] at hcl2
  clear hv1 hv2 hr1 hr2 hx1 hx2 hc1 hc2 hA hB hB2 ha h1 h2
  go_enter Try.func43, Try.ntmps43
  go_wp2_with fail
  refine ha2.out.mono ?_
  rintro e w1 ⟨he, gA, hb1, hab1⟩
  have gB := Holds.above hB'.out hab1 (Nat.le_refl _)
  have hbw1 := hB2'.out.trans (hb1.mono (Nat.le_refl _))
  obtain ⟨p0, p1, l0, l1, f0, f1⟩ := two_facts gA gB
  cases x1
  · simp only [Bool.false_eq_true, if_false] at he
    subst he
    have gA' := Lib.hid gA
    have gB' := Lib.hid gB
    have hbw1' := Lib.hid hbw1
    clear gA gB hb1 hab1 hbw1 ha2 hB' hB2'
    rcases hcl1 with ⟨d1, hc⟩ | ⟨d1, d2, hc⟩ | ⟨d1, d2, hc⟩
    · have hc := hc.symm
      subst hc
      have hp1 := Lib.hid (two_put gA'.out gB'.out (.int .i64 0))
      have hp2 := Lib.hid (two_put' hp1.out.1 hp1.out.2 (.int .i64 n))
      have hb2 := Lib.hid (hb.out _ _ hp2.out.2)
      have hbw2 := Lib.hid ((hbw1'.out.setCell (p := ⟨w.heap.size, 0, none⟩) (Nat.le_refl _) (.int .i64 0)).setCell (p := ⟨w.heap.size + 1, 0, none⟩) (Nat.le_succ _) (.int .i64 n))
      clear hp1
      clear hb
      go_wp2_with fail
      refine hb2.out.mono ?_
      rintro e w2 ⟨he2, gB2, hbb, habb⟩
      have gA2 := hp2.out.1.below hbb (Nat.lt_succ_self _)
      have hbw3 := hbw2.out.trans (hbb.mono (Nat.le_succ _))
      obtain ⟨p0, p1, l0, l1, f0, f1⟩ := two_facts gA2 gB2
      cases x2
      · simp only [Bool.false_eq_true, if_false] at he2
        subst he2
        have hbw3' := Lib.hid hbw3
        clear gA2 gB2 hbb habb hbw3 hp2 hb2 hbw2 gA' gB' hbw1' hnew
        rcases hcl2 with ⟨e1, hc⟩ | ⟨e1, e2, hc⟩ | ⟨e1, e2, hc⟩
        all_goals
          have hc := hc.symm
          subst hc
          go_wp2
          refine bodyPost_ret (v := .tuple #[.int .i64 0, .int .i64 _, .nilIface]) (by simp [results, Try.results43, go_sem, p0, p1]; try rfl) rfl ⟨by simp, ?_⟩
          repeat refine Below.setCell ?_ (by first | exact Nat.le_refl _ | exact Nat.le_succ _) _
          exact hbw3'.out
      · simp only [if_true] at he2
        obtain ⟨v, rfl⟩ := he2
        have hbw3' := Lib.hid hbw3
        have gA2' := Lib.hid gA2
        have gB2' := Lib.hid gB2
        clear gA2 gB2 hbb habb hbw3 hp2 hb2 hbw2 gA' gB' hbw1' hcl2
        go_wp2_with fail
        refine (hnew.out _ _).mono ?_
        rintro e w3 ⟨v3, rfl, hb3⟩
        obtain ⟨p0, p1, l0, l1, f0, f1⟩ := two_facts (gA2'.out.later hb3) (gB2'.out.later hb3)
        have hfin := Lib.hid (((hbw3'.out.trans (hb3.mono hbw3'.out.size)).setCell (p := ⟨w.heap.size, 0, none⟩) (Nat.le_refl _) (.int .i64 0)).setCell (p := ⟨w.heap.size + 1, 0, none⟩) (Nat.le_succ _) (.int .i64 0))
        clear hb3 hbw3' gA2' gB2'
        go_wp2
        exact bodyPost_ret (v := .tuple #[.int .i64 0, .int .i64 0, .iface 136 v3]) (by simp [results, Try.results43, go_sem, p0, p1]) rfl ⟨by simp, hfin.out⟩
    · have hc := hc.symm
      subst hc
      have hp1 := Lib.hid (two_put gA'.out gB'.out (.int .i64 n))
      have hp2 := Lib.hid (two_put' hp1.out.1 hp1.out.2 (.int .i64 n))
      have hb2 := Lib.hid (hb.out _ _ hp2.out.2)
      have hbw2 := Lib.hid ((hbw1'.out.setCell (p := ⟨w.heap.size, 0, none⟩) (Nat.le_refl _) (.int .i64 n)).setCell (p := ⟨w.heap.size + 1, 0, none⟩) (Nat.le_succ _) (.int .i64 n))
      clear hp1
      clear hb
      go_wp2_with fail
      refine hb2.out.mono ?_
      rintro e w2 ⟨he2, gB2, hbb, habb⟩
      have gA2 := hp2.out.1.below hbb (Nat.lt_succ_self _)
      have hbw3 := hbw2.out.trans (hbb.mono (Nat.le_succ _))
      obtain ⟨p0, p1, l0, l1, f0, f1⟩ := two_facts gA2 gB2
      cases x2
      · simp only [Bool.false_eq_true, if_false] at he2
        subst he2
        have hbw3' := Lib.hid hbw3
        clear gA2 gB2 hbb habb hbw3 hp2 hb2 hbw2 gA' gB' hbw1' hnew
        rcases hcl2 with ⟨e1, hc⟩ | ⟨e1, e2, hc⟩ | ⟨e1, e2, hc⟩
        all_goals
          have hc := hc.symm
          subst hc
          go_wp2
          refine bodyPost_ret (v := .tuple #[.int .i64 n, .int .i64 _, .nilIface]) (by simp [results, Try.results43, go_sem, p0, p1]; try rfl) rfl ⟨by simp, ?_⟩
          repeat refine Below.setCell ?_ (by first | exact Nat.le_refl _ | exact Nat.le_succ _) _
          exact hbw3'.out
      · simp only [if_true] at he2
        obtain ⟨v, rfl⟩ := he2
        have hbw3' := Lib.hid hbw3
        have gA2' := Lib.hid gA2
        have gB2' := Lib.hid gB2
        clear gA2 gB2 hbb habb hbw3 hp2 hb2 hbw2 gA' gB' hbw1' hcl2
        go_wp2_with fail
        refine (hnew.out _ _).mono ?_
        rintro e w3 ⟨v3, rfl, hb3⟩
        obtain ⟨p0, p1, l0, l1, f0, f1⟩ := two_facts (gA2'.out.later hb3) (gB2'.out.later hb3)
        have hfin := Lib.hid (((hbw3'.out.trans (hb3.mono hbw3'.out.size)).setCell (p := ⟨w.heap.size, 0, none⟩) (Nat.le_refl _) (.int .i64 0)).setCell (p := ⟨w.heap.size + 1, 0, none⟩) (Nat.le_succ _) (.int .i64 0))
        clear hb3 hbw3' gA2' gB2'
        go_wp2
        exact bodyPost_ret (v := .tuple #[.int .i64 0, .int .i64 0, .iface 136 v3]) (by simp [results, Try.results43, go_sem, p0, p1]) rfl ⟨by simp, hfin.out⟩
    · have hc := hc.symm
      subst hc
      have hp2 := Lib.hid (two_put' gA'.out gB'.out (.int .i64 n))
      have hb2 := Lib.hid (hb.out _ _ hp2.out.2)
      have hbw2 := Lib.hid (hbw1'.out.setCell (p := ⟨w.heap.size + 1, 0, none⟩) (Nat.le_succ _) (.int .i64 n))
      clear hb
      go_wp2_with fail
      refine hb2.out.mono ?_
      rintro e w2 ⟨he2, gB2, hbb, habb⟩
      have gA2 := hp2.out.1.below hbb (Nat.lt_succ_self _)
      have hbw3 := hbw2.out.trans (hbb.mono (Nat.le_succ _))
      obtain ⟨p0, p1, l0, l1, f0, f1⟩ := two_facts gA2 gB2
      cases x2
      · simp only [Bool.false_eq_true, if_false] at he2
        subst he2
        have hbw3' := Lib.hid hbw3
        clear gA2 gB2 hbb habb hbw3 hp2 hb2 hbw2 gA' gB' hbw1' hnew
        rcases hcl2 with ⟨e1, hc⟩ | ⟨e1, e2, hc⟩ | ⟨e1, e2, hc⟩
        all_goals
          have hc := hc.symm
          subst hc
          go_wp2
          refine bodyPost_ret (v := .tuple #[.int .i64 r1, .int .i64 _, .nilIface]) (by simp [results, Try.results43, go_sem, p0, p1]; try rfl) rfl ⟨by simp, ?_⟩
          repeat refine Below.setCell ?_ (by first | exact Nat.le_refl _ | exact Nat.le_succ _) _
          exact hbw3'.out
      · simp only [if_true] at he2
        obtain ⟨v, rfl⟩ := he2
        have hbw3' := Lib.hid hbw3
        have gA2' := Lib.hid gA2
        have gB2' := Lib.hid gB2
        clear gA2 gB2 hbb habb hbw3 hp2 hb2 hbw2 gA' gB' hbw1' hcl2
        go_wp2_with fail
        refine (hnew.out _ _).mono ?_
        rintro e w3 ⟨v3, rfl, hb3⟩
        obtain ⟨p0, p1, l0, l1, f0, f1⟩ := two_facts (gA2'.out.later hb3) (gB2'.out.later hb3)
        have hfin := Lib.hid (((hbw3'.out.trans (hb3.mono hbw3'.out.size)).setCell (p := ⟨w.heap.size, 0, none⟩) (Nat.le_refl _) (.int .i64 0)).setCell (p := ⟨w.heap.size + 1, 0, none⟩) (Nat.le_succ _) (.int .i64 0))
        clear hb3 hbw3' gA2' gB2'
        go_wp2
        exact bodyPost_ret (v := .tuple #[.int .i64 0, .int .i64 0, .iface 136 v3]) (by simp [results, Try.results43, go_sem, p0, p1]) rfl ⟨by simp, hfin.out⟩
  · simp only [if_true] at he
    obtain ⟨v, rfl⟩ := he
    have hbw1' := Lib.hid hbw1
    have gA' := Lib.hid gA
    have gB' := Lib.hid gB
    clear gA gB hb1 hab1 hbw1 hcl1 hcl2 hb ha2 hB' hB2'
    go_wp2_with fail
    refine (hnew.out _ _).mono ?_
    rintro e w3 ⟨v3, rfl, hb3⟩
    obtain ⟨p0, p1, l0, l1, f0, f1⟩ := two_facts (gA'.out.later hb3) (gB'.out.later hb3)
    have hfin := Lib.hid (((hbw1'.out.trans (hb3.mono hbw1'.out.size)).setCell (p := ⟨w.heap.size, 0, none⟩) (Nat.le_refl _) (.int .i64 0)).setCell (p := ⟨w.heap.size + 1, 0, none⟩) (Nat.le_succ _) (.int .i64 0))
    clear hb3 hbw1' gA' gB'
    go_wp2
    exact bodyPost_ret (v := .tuple #[.int .i64 0, .int .i64 0, .iface 136 v3]) (by simp [results, Try.results43, go_sem, p0, p1]) rfl ⟨by simp, hfin.out⟩
end Go.Proofs.Ytaappbnbjpbbcaa.Big
