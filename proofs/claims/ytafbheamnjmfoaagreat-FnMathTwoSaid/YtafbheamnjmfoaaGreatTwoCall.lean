/-
  A math function of two floats, called by the language's built-in.
-/
import Derived.Test.YtafbheamnjmfoaaGreatTwoArg
namespace Go.Proofs.YtafbheamnjmfoaaGreat.Two
open Go.RowKit Go.WideShapes Go.Proofs.YtafbheamnjmfoaaGreat.Box Go.Proofs.YtafbheamnjmfoaaGreat.Own
set_option linter.unusedVariables false

theorem below_one {B : Nat} {w : World} (o : Obj) (h : B ≤ w.heap.size) : Below B w (w.alloc o) := (Below.refl _ _).alloc h _
def MathF (f : FuncId) : Prop := f = 8 ∨ f = 9 ∨ f = 10
theorem hmf (fn : Fn) (first cap : Array Value) (w : World) : (Instr.makeFunc fn first cap).run Tryz.prog w = .ok (.func fn first cap) w := rfl
set_option maxRecDepth 100000 in
theorem clo_two (nm : ByteArray) (f : FuncId) (x y R : Nat) (gn gf ga c : Nat) (bp : Value) (w : World) (hn : w.cell? ⟨gn, 0, none⟩ = some (.string nm)) (hgn : gn < w.heap.size) (hf : w.cell? ⟨gf, 0, none⟩ = some (.func (.func f) #[] #[])) (hgf : gf < w.heap.size)
    (hx : w.cell? ⟨ga, 0, none⟩ = some (.iface 92 (.float .f64 x))) (hy : w.cell? ⟨ga, 1, none⟩ = some (.iface 92 (.float .f64 y))) (hga : ga < w.heap.size)
    (hfs : MathF f) (hR : ∀ w, Calls Tryz.prog f #[.float .f64 x, .float .f64 y] w fun e w' => e = .returned (.float .f64 R) ∧ w' = w) :
    Calls Tryz.prog 89 #[.pointer none, bp, .slice (some ⟨ga, 0, none⟩) 2 c, .slice none 0 0, .pointer (some ⟨gn, 0, none⟩), .pointer (some ⟨gf, 0, none⟩)] w fun e w' => e = .returned (.tuple #[.iface 92 (.float .f64 R), .nilIface]) ∧ Below w.heap.size w w' := by
  have hm := Lib.hid hR
  clear hR
  have h1 : Holds (w.alloc (.cells #[.float .f64 0] 156)) w.heap.size 156 #[.float .f64 0] := Holds.made _ _ _
  obtain ⟨w1, hw1⟩ : ∃ w1, w.alloc (.cells #[.float .f64 0] 156) = w1 := ⟨_, rfl⟩
  have b1 : Below w.heap.size w w1 := by rw [← hw1]; exact below_one _ (Nat.le_refl _)
  have s1 : w1.heap.size = w.heap.size + 1 := by rw [← hw1]; simp
  rw [hw1] at h1
  have h2 : Holds (w1.alloc (.cells #[.float .f64 0] 156)) w1.heap.size 156 #[.float .f64 0] := Holds.made _ _ _
  have h1' := h1.alloc (.cells #[.float .f64 0] 156)
  obtain ⟨w2, hw2⟩ : ∃ w2, w1.alloc (.cells #[.float .f64 0] 156) = w2 := ⟨_, rfl⟩
  have b2 : Below w.heap.size w w2 := by rw [← hw2]; exact b1.alloc (by omega) _
  have s2 : w2.heap.size = w.heap.size + 1 + 1 := by rw [← hw2]; simp; omega
  rw [hw2] at h1' h2
  rw [s1] at h2
  obtain ⟨O, hO⟩ : ∃ O, Obj.cells #[.iface 158 (.pointer (some ⟨w.heap.size, 0, none⟩)), .iface 158 (.pointer (some ⟨w.heap.size + 1, 0, none⟩))] 20 = O := ⟨_, rfl⟩
  have h3 : Holds (w2.alloc O) w2.heap.size 20 #[.iface 158 (.pointer (some ⟨w.heap.size, 0, none⟩)), .iface 158 (.pointer (some ⟨w.heap.size + 1, 0, none⟩))] := by rw [← hO]; exact Holds.made _ _ _
  rw [s2] at h3
  have h1'' := h1'.alloc O
  have h2' := h2.alloc O
  obtain ⟨w3, hw3⟩ : ∃ w3, w2.alloc O = w3 := ⟨_, rfl⟩
  have b3 : Below w.heap.size w w3 := by rw [← hw3]; exact b2.alloc (by omega) _
  rw [hw3] at h3 h1'' h2'
  have hpos := Lib.hid (upos_two nm x y ga (w.heap.size + 1 + 1) w.heap.size (w.heap.size + 1) c 2 (.float .f64 0) (.float .f64 0) w3 ((b3.cell hga).trans hx) ((b3.cell (p := ⟨ga, 1, none⟩) hga).trans hy) (Nat.lt_of_lt_of_le hga b3.size) (h3.cell 0) (h3.cell 1) h3.lt h1'' h2' (by omega) (by omega) (by omega) (by omega) (by omega))
  obtain ⟨w4, hw4⟩ : ∃ w4, (w3.setCell ⟨w.heap.size, 0, none⟩ (.float .f64 x)).setCell ⟨w.heap.size + 1, 0, none⟩ (.float .f64 y) = w4 := ⟨_, rfl⟩
  have g1 : Holds w4 w.heap.size 156 #[.float .f64 x] := by rw [← hw4]; exact ((h1''.put 0 (.float .f64 x)).apart (by show w.heap.size ≠ w.heap.size + 1; omega) _)
  have g2 : Holds w4 (w.heap.size + 1) 156 #[.float .f64 y] := by rw [← hw4]; exact ((h2'.apart (p := ⟨w.heap.size, 0, none⟩) (by show w.heap.size + 1 ≠ w.heap.size; omega) _).put 0 (.float .f64 y))
  have b4 : Below w.heap.size w w4 := by rw [← hw4]; exact (b3.setCell (p := ⟨w.heap.size, 0, none⟩) (Nat.le_refl _) _).setCell (p := ⟨w.heap.size + 1, 0, none⟩) (by show w.heap.size ≤ w.heap.size + 1; omega) _
  rw [hw4] at hpos
  have k1 := g1.cell 0
  have k2 := g2.cell 0
  simp at k1 k2
  have l1 := g1.lt
  have l2 := g2.lt
  have hn4 := (b4.cell (p := ⟨gn, 0, none⟩) hgn).trans hn
  have hf4 := (b4.cell (p := ⟨gf, 0, none⟩) hgf).trans hf
  have hgf4 : gf < w4.heap.size := Nat.lt_of_lt_of_le hgf b4.size
  have hfin := Lib.hid b4
  rw [← hw3, ← hw2, ← hw1, ← hO] at hpos
  clear h1 h1' h1'' h2 h2' h3 hw1 hw2 hw3 hw4 b1 b2 b3 b4 g1 g2 s1 s2 hO hx hy
  go_enter Tryz.func89, Tryz.ntmps89
  go_wp2_with fail
  refine hpos.out.mono ?_
  rintro e w5 ⟨rfl, rfl⟩
  clear hpos hn hf hgn hgf
  rcases hfs with rfl | rfl | rfl
  all_goals
    go_wp2_with fail
    refine (hm.out _).mono ?_
    rintro e w6 ⟨rfl, rfl⟩
    go_wp2
    go_ret2
    exact ⟨rfl, hfin.out⟩
set_option maxRecDepth 100000 in
theorem newb_any (nm : ByteArray) (cap : Array Value) (w : World) : Calls Tryz.prog 88 #[.string nm, .func (.func 89) #[] cap] w fun e w' => e = .returned (.pointer (some ⟨w.heap.size, 0, none⟩)) ∧ w' = w.alloc (.cells #[.string nm, .func (.func 89) #[] cap, .nilIface] 161) := by
  go_enter Tryz.func88, Tryz.ntmps88
  go_wp2
  go_ret
  exact ⟨rfl, rfl⟩
set_option maxRecDepth 100000 in
/-- the built-in of a math function is made -/
theorem newbin_any (nm : ByteArray) (f : FuncId) (w : World) : Calls Tryz.prog 44 #[.string nm, .func (.func f) #[] #[]] w fun e w' => ∃ g gn gf, e = .returned (.pointer (some ⟨g, 0, none⟩)) ∧ Holds w' g 161 #[.string nm, .func (.func 89) #[] #[.pointer (some ⟨gn, 0, none⟩), .pointer (some ⟨gf, 0, none⟩)], .nilIface] ∧ w'.cell? ⟨gn, 0, none⟩ = some (.string nm) ∧ gn < w'.heap.size ∧ w'.cell? ⟨gf, 0, none⟩ = some (.func (.func f) #[] #[]) ∧ gf < w'.heap.size ∧ Below w.heap.size w w' := by
  have hm := hmf
  have h1 : Holds (w.alloc (.cells #[.string nm] 9)) w.heap.size 9 #[.string nm] := Holds.made _ _ _
  obtain ⟨w1, hw1⟩ : ∃ w1, w.alloc (.cells #[.string nm] 9) = w1 := ⟨_, rfl⟩
  have b1 : Below w.heap.size w w1 := by rw [← hw1]; exact below_one _ (Nat.le_refl _)
  have s1 : w1.heap.size = w.heap.size + 1 := by rw [← hw1]; simp
  rw [hw1] at h1
  have h2 : Holds (w1.alloc (.cells #[.func (.func f) #[] #[]] 32)) w1.heap.size 32 #[.func (.func f) #[] #[]] := Holds.made _ _ _
  have h1' := h1.alloc (.cells #[.func (.func f) #[] #[]] 32)
  obtain ⟨w2, hw2⟩ : ∃ w2, w1.alloc (.cells #[.func (.func f) #[] #[]] 32) = w2 := ⟨_, rfl⟩
  have b2 : Below w.heap.size w w2 := by rw [← hw2]; exact b1.alloc (by omega) _
  have s2 : w2.heap.size = w.heap.size + 1 + 1 := by rw [← hw2]; simp; omega
  rw [hw2] at h1' h2
  rw [s1] at h2
  have hn := Lib.hid (newb_any nm #[.pointer (some ⟨w.heap.size, 0, none⟩), .pointer (some ⟨w.heap.size + 1, 0, none⟩)] w2)
  obtain ⟨O, hO⟩ : ∃ O, Obj.cells #[.string nm, .func (.func 89) #[] #[.pointer (some ⟨w.heap.size, 0, none⟩), .pointer (some ⟨w.heap.size + 1, 0, none⟩)], .nilIface] 161 = O := ⟨_, rfl⟩
  have h3 : Holds (w2.alloc O) w2.heap.size 161 #[.string nm, .func (.func 89) #[] #[.pointer (some ⟨w.heap.size, 0, none⟩), .pointer (some ⟨w.heap.size + 1, 0, none⟩)], .nilIface] := by rw [← hO]; exact Holds.made _ _ _
  have h1'' := h1'.alloc O
  have h2' := h2.alloc O
  have b3 : Below w.heap.size w (w2.alloc O) := b2.alloc (by omega) _
  rw [hO] at hn
  have hfin : Hid (∃ g gn gf, w2.heap.size = g ∧ Holds (w2.alloc O) g 161 #[.string nm, .func (.func 89) #[] #[.pointer (some ⟨gn, 0, none⟩), .pointer (some ⟨gf, 0, none⟩)], .nilIface] ∧ (w2.alloc O).cell? ⟨gn, 0, none⟩ = some (.string nm) ∧ gn < (w2.alloc O).heap.size ∧ (w2.alloc O).cell? ⟨gf, 0, none⟩ = some (.func (.func f) #[] #[]) ∧ gf < (w2.alloc O).heap.size ∧ Below w.heap.size w (w2.alloc O)) := Lib.hid ⟨_, _, _, rfl, h3, h1''.cell 0, h1''.lt, h2'.cell 0, h2'.lt, b3⟩
  obtain ⟨w3, hw3⟩ : ∃ w3, w2.alloc O = w3 := ⟨_, rfl⟩
  obtain ⟨G, hG⟩ : ∃ G, w2.heap.size = G := ⟨_, rfl⟩
  rw [hw3, hG] at hn hfin
  rw [← hw2, ← hw1] at hn
  clear h1 h1' h1'' h2 h2' h3 hw1 hw2 hw3 b1 b2 b3 s1 s2 hO hG
  go_enter Tryz.func44, Tryz.ntmps44
  go_wp2_with fail
  refine hn.out.mono ?_
  rintro e w5 ⟨rfl, rfl⟩
  go_wp2
  go_ret
  obtain ⟨g, gn, gf, rfl, h⟩ := hfin.out
  exact ⟨_, gn, gf, rfl, h⟩
set_option maxRecDepth 100000 in
theorem call_two (nm : ByteArray) (f : FuncId) (x y R : Nat) (g gn gf ga c : Nat) (w : World) (hb : Holds w g 161 #[.string nm, .func (.func 89) #[] #[.pointer (some ⟨gn, 0, none⟩), .pointer (some ⟨gf, 0, none⟩)], .nilIface]) (hn : w.cell? ⟨gn, 0, none⟩ = some (.string nm)) (hgn : gn < w.heap.size) (hf : w.cell? ⟨gf, 0, none⟩ = some (.func (.func f) #[] #[])) (hgf : gf < w.heap.size)
    (hx : w.cell? ⟨ga, 0, none⟩ = some (.iface 92 (.float .f64 x))) (hy : w.cell? ⟨ga, 1, none⟩ = some (.iface 92 (.float .f64 y))) (hga : ga < w.heap.size)
    (hfs : MathF f) (hR : ∀ w, Calls Tryz.prog f #[.float .f64 x, .float .f64 y] w fun e w' => e = .returned (.float .f64 R) ∧ w' = w) :
    Calls Tryz.prog 45 #[.pointer (some ⟨g, 0, none⟩), .pointer none, .slice (some ⟨ga, 0, none⟩) 2 c, .slice none 0 0] w fun e w' => e = .returned (.tuple #[.iface 92 (.float .f64 R), .nilIface]) ∧ Below w.heap.size w w' := by
  have hc := Lib.hid (clo_two nm f x y R gn gf ga c (.pointer (some ⟨g, 0, none⟩)) w hn hgn hf hgf hx hy hga hfs hR)
  have k1 := hb.cell 1
  simp at k1
  have l1 := hb.lt
  clear hb hn hgn hf hgf hx hy hga hfs hR
  go_enter Tryz.func45, Tryz.ntmps45
  go_wp2_with fail
  refine hc.out.mono ?_
  rintro e w6 ⟨rfl, hb6⟩
  have hfin := Lib.hid hb6
  clear hb6
  go_wp2
  go_ret2
  exact ⟨rfl, hfin.out⟩
/-- what each of the three doors does -/
def Door (z : FuncId) (x y R : Nat) : Prop := ∀ w : World, Calls Tryz.prog z #[.iface 92 (.float .f64 x), .iface 92 (.float .f64 y)] w fun e w' => e = .returned (.tuple #[.iface 92 (.float .f64 R), .nilIface]) ∧ Below w.heap.size w w'
set_option maxRecDepth 100000 in
theorem zcs_any (x y R : Nat) (hR : ∀ w, Calls Tryz.prog 8 #[.float .f64 x, .float .f64 y] w fun e w' => e = .returned (.float .f64 R) ∧ w' = w) : Door 20 x y R := by
  intro w
  have hf : MathF 8 := by unfold MathF; decide
  have hn := Lib.hid fun w => newbin_any ⟨#[99, 111, 112, 121, 115, 105, 103, 110]⟩ 8 w
  have hc := Lib.hid fun g gn gf ga c w hb hn hgn hf' hgf hx hy hga => call_two ⟨#[99, 111, 112, 121, 115, 105, 103, 110]⟩ 8 x y R g gn gf ga c w hb hn hgn hf' hgf hx hy hga hf hR
  clear hR hf
  go_enter Tryz.func20, Tryz.ntmps20
  go_wp2_with fail
  refine (hn.out _).mono ?_
  rintro e w1 ⟨g, gn, gf, rfl, hb, hn1, hgn, hf1, hgf, hb1⟩
  obtain ⟨O, hO⟩ : ∃ O, Obj.cells #[.iface 92 (.float .f64 x), .iface 92 (.float .f64 y)] 47 = O := ⟨_, rfl⟩
  have ha : Holds (w1.alloc O) w1.heap.size 47 #[.iface 92 (.float .f64 x), .iface 92 (.float .f64 y)] := by rw [← hO]; exact Holds.made _ _ _
  have bO : Below w1.heap.size w1 (w1.alloc O) := below_one _ (Nat.le_refl _)
  have hc' := Lib.hid (hc.out g gn gf w1.heap.size 2 (w1.alloc O) (hb.alloc O) ((bO.cell hgn).trans hn1) (Nat.lt_of_lt_of_le hgn bO.size) ((bO.cell hgf).trans hf1) (Nat.lt_of_lt_of_le hgf bO.size) (ha.cell 0) (ha.cell 1) ha.lt)
  have hbw := Lib.hid (hb1.trans (bO.mono hb1.size))
  obtain ⟨w2, hw2⟩ : ∃ w2, w1.alloc O = w2 := ⟨_, rfl⟩
  rw [hw2] at hbw
  have hsz : Hid (w2.heap.size = (w1.alloc O).heap.size) := Lib.hid (by rw [hw2])
  have hfin : Hid (∀ w', Below (w1.alloc O).heap.size (w1.alloc O) w' → Below w.heap.size w w') := Lib.hid fun w' h => by
    rw [hw2] at h
    exact hbw.out.trans (h.mono hbw.out.size)
  rw [← hO] at hc' hfin
  clear hn hc hb hn1 hgn hf1 hgf hb1 ha bO hbw hw2 hO hsz
  go_wp2_with fail
  refine hc'.out.mono ?_
  rintro e w6 ⟨rfl, hb6⟩
  have hfin' := Lib.hid (hfin.out _ hb6)
  clear hb6 hfin hc'
  go_wp2
  go_ret2
  exact ⟨rfl, hfin'.out⟩
set_option maxRecDepth 100000 in
theorem zmod_any (x y R : Nat) (hR : ∀ w, Calls Tryz.prog 9 #[.float .f64 x, .float .f64 y] w fun e w' => e = .returned (.float .f64 R) ∧ w' = w) : Door 21 x y R := by
  intro w
  have hf : MathF 9 := by unfold MathF; decide
  have hn := Lib.hid fun w => newbin_any ⟨#[109, 111, 100]⟩ 9 w
  have hc := Lib.hid fun g gn gf ga c w hb hn hgn hf' hgf hx hy hga => call_two ⟨#[109, 111, 100]⟩ 9 x y R g gn gf ga c w hb hn hgn hf' hgf hx hy hga hf hR
  clear hR hf
  go_enter Tryz.func21, Tryz.ntmps21
  go_wp2_with fail
  refine (hn.out _).mono ?_
  rintro e w1 ⟨g, gn, gf, rfl, hb, hn1, hgn, hf1, hgf, hb1⟩
  obtain ⟨O, hO⟩ : ∃ O, Obj.cells #[.iface 92 (.float .f64 x), .iface 92 (.float .f64 y)] 47 = O := ⟨_, rfl⟩
  have ha : Holds (w1.alloc O) w1.heap.size 47 #[.iface 92 (.float .f64 x), .iface 92 (.float .f64 y)] := by rw [← hO]; exact Holds.made _ _ _
  have bO : Below w1.heap.size w1 (w1.alloc O) := below_one _ (Nat.le_refl _)
  have hc' := Lib.hid (hc.out g gn gf w1.heap.size 2 (w1.alloc O) (hb.alloc O) ((bO.cell hgn).trans hn1) (Nat.lt_of_lt_of_le hgn bO.size) ((bO.cell hgf).trans hf1) (Nat.lt_of_lt_of_le hgf bO.size) (ha.cell 0) (ha.cell 1) ha.lt)
  have hbw := Lib.hid (hb1.trans (bO.mono hb1.size))
  obtain ⟨w2, hw2⟩ : ∃ w2, w1.alloc O = w2 := ⟨_, rfl⟩
  rw [hw2] at hbw
  have hsz : Hid (w2.heap.size = (w1.alloc O).heap.size) := Lib.hid (by rw [hw2])
  have hfin : Hid (∀ w', Below (w1.alloc O).heap.size (w1.alloc O) w' → Below w.heap.size w w') := Lib.hid fun w' h => by
    rw [hw2] at h
    exact hbw.out.trans (h.mono hbw.out.size)
  rw [← hO] at hc' hfin
  clear hn hc hb hn1 hgn hf1 hgf hb1 ha bO hbw hw2 hO hsz
  go_wp2_with fail
  refine hc'.out.mono ?_
  rintro e w6 ⟨rfl, hb6⟩
  have hfin' := Lib.hid (hfin.out _ hb6)
  clear hb6 hfin hc'
  go_wp2
  go_ret2
  exact ⟨rfl, hfin'.out⟩
set_option maxRecDepth 100000 in
theorem zrem_any (x y R : Nat) (hR : ∀ w, Calls Tryz.prog 10 #[.float .f64 x, .float .f64 y] w fun e w' => e = .returned (.float .f64 R) ∧ w' = w) : Door 22 x y R := by
  intro w
  have hf : MathF 10 := by unfold MathF; decide
  have hn := Lib.hid fun w => newbin_any ⟨#[114, 101, 109, 97, 105, 110, 100, 101, 114]⟩ 10 w
  have hc := Lib.hid fun g gn gf ga c w hb hn hgn hf' hgf hx hy hga => call_two ⟨#[114, 101, 109, 97, 105, 110, 100, 101, 114]⟩ 10 x y R g gn gf ga c w hb hn hgn hf' hgf hx hy hga hf hR
  clear hR hf
  go_enter Tryz.func22, Tryz.ntmps22
  go_wp2_with fail
  refine (hn.out _).mono ?_
  rintro e w1 ⟨g, gn, gf, rfl, hb, hn1, hgn, hf1, hgf, hb1⟩
  obtain ⟨O, hO⟩ : ∃ O, Obj.cells #[.iface 92 (.float .f64 x), .iface 92 (.float .f64 y)] 47 = O := ⟨_, rfl⟩
  have ha : Holds (w1.alloc O) w1.heap.size 47 #[.iface 92 (.float .f64 x), .iface 92 (.float .f64 y)] := by rw [← hO]; exact Holds.made _ _ _
  have bO : Below w1.heap.size w1 (w1.alloc O) := below_one _ (Nat.le_refl _)
  have hc' := Lib.hid (hc.out g gn gf w1.heap.size 2 (w1.alloc O) (hb.alloc O) ((bO.cell hgn).trans hn1) (Nat.lt_of_lt_of_le hgn bO.size) ((bO.cell hgf).trans hf1) (Nat.lt_of_lt_of_le hgf bO.size) (ha.cell 0) (ha.cell 1) ha.lt)
  have hbw := Lib.hid (hb1.trans (bO.mono hb1.size))
  obtain ⟨w2, hw2⟩ : ∃ w2, w1.alloc O = w2 := ⟨_, rfl⟩
  rw [hw2] at hbw
  have hsz : Hid (w2.heap.size = (w1.alloc O).heap.size) := Lib.hid (by rw [hw2])
  have hfin : Hid (∀ w', Below (w1.alloc O).heap.size (w1.alloc O) w' → Below w.heap.size w w') := Lib.hid fun w' h => by
    rw [hw2] at h
    exact hbw.out.trans (h.mono hbw.out.size)
  rw [← hO] at hc' hfin
  clear hn hc hb hn1 hgn hf1 hgf hb1 ha bO hbw hw2 hO hsz
  go_wp2_with fail
  refine hc'.out.mono ?_
  rintro e w6 ⟨rfl, hb6⟩
  have hfin' := Lib.hid (hfin.out _ hb6)
  clear hb6 hfin hc'
  go_wp2
  go_ret2
  exact ⟨rfl, hfin'.out⟩
end Go.Proofs.YtafbheamnjmfoaaGreat.Two
