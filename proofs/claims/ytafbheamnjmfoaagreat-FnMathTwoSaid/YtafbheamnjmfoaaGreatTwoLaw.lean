/-
  The law FnMathTwo: its walk.
-/
import Derived.Test.YtafbheamnjmfoaaGreatTwoImpl
import Derived.Deep.QuietTactic
import Derived.BigQuiet
import Derived.Deep.RegionHeld3
namespace Go.Proofs.YtafbheamnjmfoaaGreat.Two
open Go.RowKit Go.WideShapes Go.Proofs.YtafbheamnjmfoaaGreat.Box Go.Proofs.YtafbheamnjmfoaaGreat.Own
set_option linter.unusedVariables false

set_option maxHeartbeats 2000000 in
set_option maxRecDepth 100000 in
theorem isfloat_any (R : Nat) (w : World) : Calls Tryz.prog 7 #[.agg (six 3 R), .bool true, .float .f64 R] w fun e w' => e = .returned (.bool true) ∧ Below w.heap.size w w' := by
  have hn := Lib.hid fun w => Fl.isnan_any R w
  have htb := tobits
  obtain ⟨T, hT⟩ : ∃ T, decide (Ieee.double.order R R = none) = T := ⟨_, rfl⟩
  rw [hT] at hn
  clear hT
  unfold six
  cases T
  · go_enter Tryz.func7, Tryz.ntmps7
    go_wp2_with fail
    refine (hn.out _).mono ?_
    rintro e w1 ⟨rfl, rfl⟩
    go_wp2_with fail
    go_quiet (fail)
    go_wp2
    go_ret
    exact ⟨rfl, Box.below_drawn (below_one _ (Nat.le_refl _)) _⟩
  · go_enter Tryz.func7, Tryz.ntmps7
    go_wp2_with fail
    refine (hn.out _).mono ?_
    rintro e w1 ⟨rfl, rfl⟩
    go_wp2
    go_ret
    exact ⟨rfl, below_one _ (Nat.le_refl _)⟩
set_option maxHeartbeats 4000000 in
set_option maxRecDepth 100000 in
theorem mathtwo_any (x y : Nat) (hx : x < 18446744073709551616) (hy : y < 18446744073709551616) (w : World) :
    Calls Tryz.prog 3 #[.int .u64 (x : Int), .int .u64 (y : Int)] w fun e w' => e = .returned (.bool true) ∧ Below w.heap.size w w' := by
  obtain ⟨R1, _, h1⟩ := Fl.copysign_some x y hx hy
  obtain ⟨R2, _, h2⟩ := Fl.xmod_some x y hx hy
  obtain ⟨R3, _, h3⟩ := Fl.xrem_some x y hx hy
  have t1 := Lib.hid fun w => two_any 5 x y R1 (.inl ⟨rfl, zcs_any x y R1 h1⟩) w
  have t2 := Lib.hid fun w => two_any 6 x y R2 (.inr (.inl ⟨rfl, zmod_any x y R2 h2⟩)) w
  have t3 := Lib.hid fun w => two_any 7 x y R3 (.inr (.inr ⟨rfl, zrem_any x y R3 h3⟩)) w
  have m1 := Lib.hid h1
  have m2 := Lib.hid h2
  have m3 := Lib.hid h3
  have hi := Lib.hid isfloat_any
  have hfx := fun w => frombits (x : Int) w
  have hfy := fun w => frombits (y : Int) w
  simp only [Int.toNat_natCast] at hfx hfy
  clear h1 h2 h3
  obtain ⟨O1, hO1⟩ : ∃ O, Obj.cells (six 3 x) 28 = O := ⟨_, rfl⟩
  obtain ⟨O2, hO2⟩ : ∃ O, Obj.cells (six 3 y) 28 = O := ⟨_, rfl⟩
  have h1 : Holds (w.alloc O1) w.heap.size 28 (six 3 x) := by rw [← hO1]; exact Holds.made _ _ _
  obtain ⟨w1, hw1⟩ : ∃ w1, w.alloc O1 = w1 := ⟨_, rfl⟩
  have b1 : Below w.heap.size w w1 := by rw [← hw1]; exact below_one _ (Nat.le_refl _)
  have s1 : w1.heap.size = w.heap.size + 1 := by rw [← hw1]; simp
  rw [hw1] at h1
  have h2 : Holds (w1.alloc O2) w1.heap.size 28 (six 3 y) := by rw [← hO2]; exact Holds.made _ _ _
  have h1' := h1.alloc O2
  have b2 : Below w.heap.size w (w1.alloc O2) := b1.alloc (by omega) _
  rw [s1] at h2
  have u1 := Lib.hid (t1.out (w1.alloc O2))
  have hs : Hid (∀ w', Below (w1.alloc O2).heap.size (w1.alloc O2) w' → Holds w' w.heap.size 28 (six 3 x) ∧ Holds w' (w.heap.size + 1) 28 (six 3 y) ∧ Below w.heap.size w w') := Lib.hid fun w' h => ⟨h1'.later h, h2.later h, b2.trans (h.mono b2.size)⟩
  rw [← hw1, ← hO1, ← hO2] at u1 hs
  clear h1 h1' h2 b1 b2 hw1 s1 hO1 hO2 t1
  unfold six at u1 t2 t3 hi hs
  go_enter Tryz.func3, Tryz.ntmps3
  go_wp2_with fail
  refine u1.out.mono ?_
  rintro e w2 ⟨rfl, hb2⟩
  obtain ⟨q1, q2, hbw⟩ := hs.out _ hb2
  have hbw2 := Lib.hid hbw
  obtain ⟨C1, hC1⟩ : ∃ C, Obj.cells #[.int .i64 3, .bool false, .slice none 0 0, .int .u64 R1, .string ⟨#[]⟩, .slice none 0 0] 28 = C := ⟨_, rfl⟩
  have hx2 := Lib.hid (q1.alloc C1)
  have hy2 := Lib.hid (q2.alloc C1)
  have hm1 : Hid (Holds (w2.alloc C1) w2.heap.size 28 #[.int .i64 3, .bool false, .slice none 0 0, .int .u64 R1, .string ⟨#[]⟩, .slice none 0 0]) := Lib.hid (by rw [← hC1]; exact Holds.made _ _ _)
  have hbA : Hid (Below w.heap.size w (w2.alloc C1)) := Lib.hid (hbw.alloc hbw.size _)
  have k0 := q1.cell 0
  have k1 := q1.cell 1
  have k2 := q1.cell 2
  have k3 := q1.cell 3
  have k4 := q1.cell 4
  have k5 := q1.cell 5
  simp at k0 k1 k2 k3 k4 k5
  have j0 := q2.cell 0
  have j1 := q2.cell 1
  have j2 := q2.cell 2
  have j3 := q2.cell 3
  have j4 := q2.cell 4
  have j5 := q2.cell 5
  simp at j0 j1 j2 j3 j4 j5
  have l1 := q1.lt
  have l2 := q2.lt
  have u2 := Lib.hid (t2.out (w2.alloc C1))
  have hs2 : Hid (∀ w', Below (w2.alloc C1).heap.size (w2.alloc C1) w' → Holds w' w.heap.size 28 _ ∧ Holds w' (w.heap.size + 1) 28 _ ∧ Holds w' w2.heap.size 28 _ ∧ Below w.heap.size w w') := Lib.hid fun w' h => ⟨hx2.out.later h, hy2.out.later h, hm1.out.later h, hbA.out.trans (h.mono hbA.out.size)⟩
  rw [← hC1] at u2 hs2
  clear q1 q2 hbw hbw2 hb2 hs u1 hx2 hy2 hm1 hbA hC1 t2
  go_wp2_with fail
  refine u2.out.mono ?_
  rintro e w3 ⟨rfl, hb3⟩
  clear k0 k1 k2 k3 k4 k5 j0 j1 j2 j3 j4 j5 l1 l2
  obtain ⟨q1, q2, q3, hbw⟩ := hs2.out _ hb3
  obtain ⟨C2, hC2⟩ : ∃ C, Obj.cells #[.int .i64 3, .bool false, .slice none 0 0, .int .u64 R2, .string ⟨#[]⟩, .slice none 0 0] 28 = C := ⟨_, rfl⟩
  have hm1 := Lib.hid (q3.alloc C2)
  have hm2 : Hid (Holds (w3.alloc C2) w3.heap.size 28 #[.int .i64 3, .bool false, .slice none 0 0, .int .u64 R2, .string ⟨#[]⟩, .slice none 0 0]) := Lib.hid (by rw [← hC2]; exact Holds.made _ _ _)
  have hbA : Hid (Below w.heap.size w (w3.alloc C2)) := Lib.hid (hbw.alloc hbw.size _)
  have k0 := q1.cell 0
  have k1 := q1.cell 1
  have k2 := q1.cell 2
  have k3 := q1.cell 3
  have k4 := q1.cell 4
  have k5 := q1.cell 5
  simp at k0 k1 k2 k3 k4 k5
  have j0 := q2.cell 0
  have j1 := q2.cell 1
  have j2 := q2.cell 2
  have j3 := q2.cell 3
  have j4 := q2.cell 4
  have j5 := q2.cell 5
  simp at j0 j1 j2 j3 j4 j5
  have l1 := q1.lt
  have l2 := q2.lt
  have u3 := Lib.hid (t3.out (w3.alloc C2))
  have hs3 : Hid (∀ w', Below (w3.alloc C2).heap.size (w3.alloc C2) w' → Holds w' w2.heap.size 28 _ ∧ Holds w' w3.heap.size 28 _ ∧ Below w.heap.size w w') := Lib.hid fun w' h => ⟨hm1.out.later h, hm2.out.later h, hbA.out.trans (h.mono hbA.out.size)⟩
  rw [← hC2] at u3 hs3
  clear q1 q2 q3 hbw hb3 hs2 u2 hm1 hm2 hbA hC2 t3
  go_wp2_with fail
  refine u3.out.mono ?_
  rintro e w4 ⟨rfl, hb4⟩
  clear k0 k1 k2 k3 k4 k5 j0 j1 j2 j3 j4 j5 l1 l2
  obtain ⟨q1, q2, hbw⟩ := hs3.out _ hb4
  clear hs3 u3 hb4
  have hfold : Hid (∀ W, w4.alloc (.cells #[.int .i64 3, .bool false, .slice none 0 0, .int .u64 R3, .string ⟨#[]⟩, .slice none 0 0] 28) = W → Holds W w2.heap.size 28 #[.int .i64 3, .bool false, .slice none 0 0, .int .u64 R1, .string ⟨#[]⟩, .slice none 0 0] ∧ Holds W w3.heap.size 28 #[.int .i64 3, .bool false, .slice none 0 0, .int .u64 R2, .string ⟨#[]⟩, .slice none 0 0] ∧ Holds W w4.heap.size 28 #[.int .i64 3, .bool false, .slice none 0 0, .int .u64 R3, .string ⟨#[]⟩, .slice none 0 0] ∧ Below w.heap.size w W) := Lib.hid fun W hW => by
    rw [← hW]
    exact ⟨q1.alloc _, q2.alloc _, Holds.made _ _ _, hbw.alloc hbw.size _⟩
  clear q1 q2 hbw
  go_wp2_with fail
  obtain ⟨W, hW⟩ : ∃ W, w4.alloc (.cells #[.int .i64 3, .bool false, .slice none 0 0, .int .u64 R3, .string ⟨#[]⟩, .slice none 0 0] 28) = W := ⟨_, rfl⟩
  rw [hW]
  obtain ⟨p1, p2, p3, hbA⟩ := hfold.out W hW
  clear hW hfold
  have hbW := Lib.hid hbA
  have k0 := p1.cell 0
  have k1 := p1.cell 1
  have k2 := p1.cell 2
  have k3 := p1.cell 3
  have k4 := p1.cell 4
  have k5 := p1.cell 5
  simp at k0 k1 k2 k3 k4 k5
  have j0 := p2.cell 0
  have j1 := p2.cell 1
  have j2 := p2.cell 2
  have j3 := p2.cell 3
  have j4 := p2.cell 4
  have j5 := p2.cell 5
  simp at j0 j1 j2 j3 j4 j5
  have i0 := p3.cell 0
  have i1 := p3.cell 1
  have i2 := p3.cell 2
  have i3 := p3.cell 3
  have i4 := p3.cell 4
  have i5 := p3.cell 5
  simp at i0 i1 i2 i3 i4 i5
  have l1 := p1.lt
  have l2 := p2.lt
  have l3 := p3.lt
  have hkey : Hid (∀ q w', Below (W.drewN q).heap.size (W.drewN q) w' → Below W.heap.size W w') := Lib.hid fun q w' hb => (Box.below_drawn (Below.refl _ _) q).trans hb
  have hcl : Hid (∀ V, Below W.heap.size W V → V.cell? ⟨w2.heap.size, 0, none⟩ = some (.int .i64 3) ∧ V.cell? ⟨w2.heap.size, 1, none⟩ = some (.bool false) ∧ V.cell? ⟨w2.heap.size, 2, none⟩ = some (.slice none 0 0) ∧ V.cell? ⟨w2.heap.size, 3, none⟩ = some (.int .u64 R1) ∧ V.cell? ⟨w2.heap.size, 4, none⟩ = some (.string ⟨#[]⟩) ∧ V.cell? ⟨w2.heap.size, 5, none⟩ = some (.slice none 0 0) ∧ V.cell? ⟨w3.heap.size, 0, none⟩ = some (.int .i64 3) ∧ V.cell? ⟨w3.heap.size, 1, none⟩ = some (.bool false) ∧ V.cell? ⟨w3.heap.size, 2, none⟩ = some (.slice none 0 0) ∧ V.cell? ⟨w3.heap.size, 3, none⟩ = some (.int .u64 R2) ∧ V.cell? ⟨w3.heap.size, 4, none⟩ = some (.string ⟨#[]⟩) ∧ V.cell? ⟨w3.heap.size, 5, none⟩ = some (.slice none 0 0) ∧ V.cell? ⟨w4.heap.size, 0, none⟩ = some (.int .i64 3) ∧ V.cell? ⟨w4.heap.size, 1, none⟩ = some (.bool false) ∧ V.cell? ⟨w4.heap.size, 2, none⟩ = some (.slice none 0 0) ∧ V.cell? ⟨w4.heap.size, 3, none⟩ = some (.int .u64 R3) ∧ V.cell? ⟨w4.heap.size, 4, none⟩ = some (.string ⟨#[]⟩) ∧ V.cell? ⟨w4.heap.size, 5, none⟩ = some (.slice none 0 0)) := Lib.hid fun V hb => by
    have p1' := p1.later hb
    have p2' := p2.later hb
    have p3' := p3.later hb
    exact ⟨p1'.cell 0, p1'.cell 1, p1'.cell 2, p1'.cell 3, p1'.cell 4, p1'.cell 5, p2'.cell 0, p2'.cell 1, p2'.cell 2, p2'.cell 3, p2'.cell 4, p2'.cell 5, p3'.cell 0, p3'.cell 1, p3'.cell 2, p3'.cell 3, p3'.cell 4, p3'.cell 5⟩
  clear hbA p1 p2 p3
  go_region_held3 (fun X => X.cell? ⟨w2.heap.size, 0, none⟩ = some (.int .i64 3) ∧ X.cell? ⟨w2.heap.size, 1, none⟩ = some (.bool false) ∧ X.cell? ⟨w2.heap.size, 2, none⟩ = some (.slice none 0 0) ∧ X.cell? ⟨w2.heap.size, 3, none⟩ = some (.int .u64 R1) ∧ X.cell? ⟨w2.heap.size, 4, none⟩ = some (.string ⟨#[]⟩) ∧ X.cell? ⟨w2.heap.size, 5, none⟩ = some (.slice none 0 0) ∧ X.cell? ⟨w3.heap.size, 0, none⟩ = some (.int .i64 3) ∧ X.cell? ⟨w3.heap.size, 1, none⟩ = some (.bool false) ∧ X.cell? ⟨w3.heap.size, 2, none⟩ = some (.slice none 0 0) ∧ X.cell? ⟨w3.heap.size, 3, none⟩ = some (.int .u64 R2) ∧ X.cell? ⟨w3.heap.size, 4, none⟩ = some (.string ⟨#[]⟩) ∧ X.cell? ⟨w3.heap.size, 5, none⟩ = some (.slice none 0 0) ∧ X.cell? ⟨w4.heap.size, 0, none⟩ = some (.int .i64 3) ∧ X.cell? ⟨w4.heap.size, 1, none⟩ = some (.bool false) ∧ X.cell? ⟨w4.heap.size, 2, none⟩ = some (.slice none 0 0) ∧ X.cell? ⟨w4.heap.size, 3, none⟩ = some (.int .u64 R3) ∧ X.cell? ⟨w4.heap.size, 4, none⟩ = some (.string ⟨#[]⟩) ∧ X.cell? ⟨w4.heap.size, 5, none⟩ = some (.slice none 0 0)) (first | go_keep | exact hcl.out _ hb7 | exact hcl.out _ hb6 | exact hcl.out _ hb5) (first
    | (go_at_call 8; refine (m1.out _).mono ?_; rintro e v1 ⟨rfl, rfl⟩)
    | (go_at_call 9; refine (m2.out _).mono ?_; rintro e v2 ⟨rfl, rfl⟩)
    | (go_at_call 10; refine (m3.out _).mono ?_; rintro e v3 ⟨rfl, rfl⟩)
    | (go_at_call 7; have hgo := hb6; refine (hi.out R3 _).mono ?_; rintro e v7 ⟨rfl, hb7'⟩; have hb7 := hb6.trans (hb7'.mono hb6.size))
    | (go_at_call 7; have hgo := hb5; refine (hi.out R2 _).mono ?_; rintro e v6 ⟨rfl, hb6'⟩; have hb6 := hb5.trans (hb6'.mono hb5.size))
    | (go_at_call 7; refine (hi.out R1 _).mono ?_; rintro e v5 ⟨rfl, hb5'⟩; have hb5 := hkey.out _ _ hb5'))
  have hfin := Lib.hid (hbW.out.trans (hb7.mono hbW.out.size))
  clear hb5 hb5' hb6 hb6' hb7 hb7' hcl hkey hbW
  go_wp2
  go_ret
  exact ⟨rfl, hfin.out⟩
end Go.Proofs.YtafbheamnjmfoaaGreat.Two
namespace Go.Proofs.YtafbheamnjmfoaaGreat.fnMathTwo
open Go.RowKit
theorem walk (a0 : Int) (a1 : Int) (w0 : (Lit.int .u64 a0).wf = true) (w1 : (Lit.int .u64 a1).wf = true) (w : World) :
    Calls Tryz.prog 3 #[.int .u64 a0, .int .u64 a1] w fun e w' => e = .returned (.bool true) ∧ Below w.heap.size w w' := by
  have b0 := bounds_u64 w0
  have b1 := bounds_u64 w1
  obtain ⟨x, rfl⟩ : ∃ x : Nat, a0 = x := ⟨a0.toNat, by omega⟩
  obtain ⟨y, rfl⟩ : ∃ y : Nat, a1 = y := ⟨a1.toNat, by omega⟩
  exact Two.mathtwo_any x y (by omega) (by omega) w
end Go.Proofs.YtafbheamnjmfoaaGreat.fnMathTwo
