/-
  impl.MathTwo of two floats.
-/
import Derived.Test.YtafbheamnjmfoaaGreatTwoCall
namespace Go.Proofs.YtafbheamnjmfoaaGreat.Two
open Go.RowKit Go.WideShapes Go.Proofs.YtafbheamnjmfoaaGreat.Box Go.Proofs.YtafbheamnjmfoaaGreat.Own
set_option linter.unusedVariables false

/-- the six cells of a value: a kind and the bits -/
def six (k : Int) (b : Int) : Array Value := #[.int .i64 k, .bool false, .slice none 0 0, .int .u64 b, .string ⟨#[]⟩, .slice none 0 0]
theorem frombits (x : Int) (w : World) : (callFunc 5 #[.int .u64 x]).run Tryz.prog w = .ok (.value (.float .f64 x.toNat)) w := by kernel_rfl
theorem tobits (b : Nat) (w : World) : (callFunc 24 #[.float .f64 b]).run Tryz.prog w = .ok (.value (.int .u64 (b : Int))) w := by kernel_rfl
theorem floatof_any (b : Nat) (w : World) : Calls Tryz.prog 42 #[.int .u64 b] w fun e w' => e = .returned (.float .f64 b) ∧ w = w' := by
  have h := fun w => frombits (b : Int) w
  simp only [Int.toNat_natCast] at h
  go_enter Tryz.func42, Tryz.ntmps42
  go_wp2
  go_ret
  exact ⟨rfl, rfl⟩
theorem bitsof_any (b : Nat) (w : World) : Calls Tryz.prog 87 #[.float .f64 b] w fun e w' => e = .returned (.int .u64 b) ∧ w = w' := by
  have h := fun w => tobits b w
  go_enter Tryz.func87, Tryz.ntmps87
  go_wp2
  go_ret
  exact ⟨rfl, rfl⟩
set_option maxHeartbeats 2000000 in
set_option maxRecDepth 100000 in
theorem scalar_float (b : Nat) (w : World) : Calls Tryz.prog 18 #[.int .i64 3, .agg (six 3 b)] w fun e w' => e = .returned (.tuple #[.iface 92 (.float .f64 b), .bool true]) ∧ Below w.heap.size w w' := by
  have hf := Lib.hid fun W => floatof_any b W
  unfold six
  go_enter Tryz.func18, Tryz.ntmps18
  go_wp2_with fail
  refine (hf.out _).mono ?_
  rintro e w' ⟨rfl, rfl⟩
  go_wp2
  go_ret2
  exact ⟨rfl, below_one _ (Nat.le_refl _)⟩
theorem as_float_none (b : Nat) (w : World) : (Instr.typeAssert (.iface 92 (.float .f64 b)) 47 84 true).run Tryz.prog w = .ok (.tuple #[.int .u8 0, .bool false]) w := by kernel_rfl
theorem as_float_bool (b : Nat) (w : World) : (Instr.typeAssert (.iface 92 (.float .f64 b)) 47 85 true).run Tryz.prog w = .ok (.tuple #[.bool false, .bool false]) w := by kernel_rfl
set_option maxHeartbeats 2000000 in
set_option maxRecDepth 100000 in
theorem tell_float (b : Nat) (w : World) : Calls Tryz.prog 43 #[.iface 92 (.float .f64 b)] w fun e w' => e = .returned (.agg (six 3 b)) ∧ Below w.heap.size w w' := by
  have e0 := fun w => as_float_none b w
  have e1 := fun w => as_float_bool b w
  have e2 := fun w => as_float_int b w
  have e3 := fun w => as_float_float b w
  have hf := Lib.hid fun W => bitsof_any b W
  go_enter Tryz.func43, Tryz.ntmps43
  go_wp2_with fail
  refine (hf.out _).mono ?_
  rintro e w' ⟨rfl, rfl⟩
  go_wp2
  exact bodyPost_ret (v := .agg #[.int .i64 3, .bool false, .slice none 0 0, .int .u64 b, .string ⟨#[]⟩, .slice none 0 0]) (by simp [results, Tryz.results43, go_sem]) rfl ⟨rfl, below_one _ (Nat.le_refl _)⟩
set_option maxHeartbeats 2000000 in
set_option maxRecDepth 100000 in
theorem scalarof_float (b : Nat) (w : World) : Calls Tryz.prog 19 #[.iface 92 (.float .f64 b), .nilIface] w fun e w' => e = .returned (.tuple #[.agg (six 3 b), .bool true]) ∧ Below w.heap.size w w' := by
  obtain ⟨O, hO⟩ : ∃ O, Obj.cells (six 0 0) 28 = O := ⟨_, rfl⟩
  have ht := Lib.hid (tell_float b (w.alloc O))
  have h3 : Holds (w.alloc O) w.heap.size 28 (six 0 0) := by rw [← hO]; exact Holds.made _ _ _
  have bO : Below w.heap.size w (w.alloc O) := below_one _ (Nat.le_refl _)
  have hs : Hid (∀ w', Below (w.alloc O).heap.size (w.alloc O) w' → Holds w' w.heap.size 28 (six 0 0) ∧ Below w.heap.size w w') := Lib.hid fun w' h => ⟨h3.later h, bO.trans (h.mono bO.size)⟩
  rw [← hO] at ht hs
  clear h3 bO hO
  unfold six at ht hs ⊢
  go_enter Tryz.func19, Tryz.ntmps19
  go_wp2_with fail
  refine ht.out.mono ?_
  rintro e w1 ⟨rfl, hb1⟩
  obtain ⟨hk, hbw⟩ := hs.out _ hb1
  have k0 := hk.cell 0
  have k1 := hk.cell 1
  have k2 := hk.cell 2
  have k3 := hk.cell 3
  have k4 := hk.cell 4
  have k5 := hk.cell 5
  simp at k0 k1 k2 k3 k4 k5
  have f0 := hk.free 0
  have f1 := hk.free 1
  have f2 := hk.free 2
  have f3 := hk.free 3
  have f4 := hk.free 4
  have f5 := hk.free 5
  have hl := hk.lt
  have hle : w.heap.size ≤ w.heap.size := Nat.le_refl _
  have hbel := Lib.hid ((((((hbw.setCell (p := ⟨w.heap.size, 0, none⟩) hle (.int .i64 3)).setCell (p := ⟨w.heap.size, 1, none⟩) hle (.bool false)).setCell (p := ⟨w.heap.size, 2, none⟩) hle (.slice none 0 0)).setCell (p := ⟨w.heap.size, 3, none⟩) hle (.int .u64 b)).setCell (p := ⟨w.heap.size, 4, none⟩) hle (.string ⟨#[]⟩)).setCell (p := ⟨w.heap.size, 5, none⟩) hle (.slice none 0 0))
  clear hk hbw hb1 hs ht
  go_wp2
  exact bodyPost_ret (v := .tuple #[.agg #[.int .i64 3, .bool false, .slice none 0 0, .int .u64 b, .string ⟨#[]⟩, .slice none 0 0], .bool true]) (by simp [results, Tryz.results19, go_sem, k0, k1, k2, k3, k4, k5]) rfl ⟨rfl, hbel.out⟩
set_option maxHeartbeats 4000000 in
set_option maxRecDepth 100000 in
theorem two_any (k : Int) (x y R : Nat) (hk : (k = 5 ∧ Door 20 x y R) ∨ (k = 6 ∧ Door 21 x y R) ∨ (k = 7 ∧ Door 22 x y R)) (w : World) : Calls Tryz.prog 6 #[.int .i64 k, .agg (six 3 x), .agg (six 3 y)] w fun e w' => e = .returned (.tuple #[.agg (six 3 R), .bool true]) ∧ Below w.heap.size w w' := by
  obtain ⟨O1, hO1⟩ : ∃ O, Obj.cells (six 3 x) 28 = O := ⟨_, rfl⟩
  obtain ⟨O2, hO2⟩ : ∃ O, Obj.cells (six 3 y) 28 = O := ⟨_, rfl⟩
  obtain ⟨O3, hO3⟩ : ∃ O, Obj.cells (six 0 0) 28 = O := ⟨_, rfl⟩
  have h1 : Holds (w.alloc O1) w.heap.size 28 (six 3 x) := by rw [← hO1]; exact Holds.made _ _ _
  obtain ⟨w1, hw1⟩ : ∃ w1, w.alloc O1 = w1 := ⟨_, rfl⟩
  have b1 : Below w.heap.size w w1 := by rw [← hw1]; exact below_one _ (Nat.le_refl _)
  have s1 : w1.heap.size = w.heap.size + 1 := by rw [← hw1]; simp
  rw [hw1] at h1
  have h2 : Holds (w1.alloc O2) w1.heap.size 28 (six 3 y) := by rw [← hO2]; exact Holds.made _ _ _
  have h1' := h1.alloc O2
  obtain ⟨w2, hw2⟩ : ∃ w2, w1.alloc O2 = w2 := ⟨_, rfl⟩
  have b2 : Below w.heap.size w w2 := by rw [← hw2]; exact b1.alloc (by omega) _
  have s2 : w2.heap.size = w.heap.size + 1 + 1 := by rw [← hw2]; simp; omega
  rw [hw2] at h1' h2
  rw [s1] at h2
  have h3 : Holds (w2.alloc O3) w2.heap.size 28 (six 0 0) := by rw [← hO3]; exact Holds.made _ _ _
  have h1'' := h1'.alloc O3
  have h2' := h2.alloc O3
  rw [s2] at h3
  have b3 : Below w.heap.size w (w2.alloc O3) := b2.alloc (by omega) _
  have hs1 := Lib.hid (scalar_float x (w2.alloc O3))
  have hs : Hid (∀ w', Below (w2.alloc O3).heap.size (w2.alloc O3) w' → Holds w' (w.heap.size + 1) 28 (six 3 y) ∧ Holds w' (w.heap.size + 1 + 1) 28 (six 0 0) ∧ Below w.heap.size w w') := Lib.hid fun w' h => ⟨h2'.later h, h3.later h, b3.trans (h.mono b3.size)⟩
  rw [← hw2, ← hw1, ← hO1, ← hO2, ← hO3] at hs1 hs
  clear h1 h1' h1'' h2 h2' h3 b1 b2 b3 hw1 hw2 s1 s2 hO1 hO2 hO3
  have hs2 := Lib.hid fun w => scalar_float y w
  have hso := Lib.hid fun w => scalarof_float R w
  unfold six at hs1 hs2 hs hso ⊢
  rcases hk with ⟨rfl, hd⟩ | ⟨rfl, hd⟩ | ⟨rfl, hd⟩
  all_goals
    have hz := Lib.hid hd
    clear hd
    go_enter Tryz.func6, Tryz.ntmps6
    go_wp2_with fail
    refine hs1.out.mono ?_
    rintro e w4 ⟨rfl, hb4⟩
    obtain ⟨q2, q3, hbw⟩ := hs.out _ hb4
    have hq := Lib.hid q3
    have hbw4 := Lib.hid hbw
    have k0 := q2.cell 0
    have k1 := q2.cell 1
    have k2 := q2.cell 2
    have k3 := q2.cell 3
    have k4 := q2.cell 4
    have k5 := q2.cell 5
    simp at k0 k1 k2 k3 k4 k5
    have hl := q2.lt
    clear q2 q3 hb4 hbw hs hs1
    go_wp2_with fail
    refine (hs2.out _).mono ?_
    rintro e w5 ⟨rfl, hb5⟩
    have hq5 := Lib.hid (hq.out.later hb5)
    have hbw5 := Lib.hid (hbw4.out.trans (hb5.mono hbw4.out.size))
    clear hb5 hq hbw4 hs2 k0 k1 k2 k3 k4 k5 hl
    go_wp2_with fail
    refine (hz.out _).mono ?_
    rintro e w6 ⟨rfl, hb6⟩
    have hq6 := Lib.hid (hq5.out.later hb6)
    have hbw6 := Lib.hid (hbw5.out.trans (hb6.mono hbw5.out.size))
    clear hb6 hq5 hbw5 hz
    go_wp2_with fail
    refine (hso.out _).mono ?_
    rintro e w7 ⟨rfl, hb7⟩
    have hq7 := hq6.out.later hb7
    have hbw7 := hbw6.out.trans (hb7.mono hbw6.out.size)
    clear hb7 hq6 hbw6 hso
    have k0 := hq7.cell 0
    have k1 := hq7.cell 1
    have k2 := hq7.cell 2
    have k3 := hq7.cell 3
    have k4 := hq7.cell 4
    have k5 := hq7.cell 5
    simp at k0 k1 k2 k3 k4 k5
    have f0 := hq7.free 0
    have f1 := hq7.free 1
    have f2 := hq7.free 2
    have f3 := hq7.free 3
    have f4 := hq7.free 4
    have f5 := hq7.free 5
    have hl := hq7.lt
    have hle : w.heap.size ≤ w.heap.size + 1 + 1 := by omega
    have hbel := Lib.hid ((((((hbw7.setCell (p := ⟨w.heap.size + 1 + 1, 0, none⟩) hle (.int .i64 3)).setCell (p := ⟨w.heap.size + 1 + 1, 1, none⟩) hle (.bool false)).setCell (p := ⟨w.heap.size + 1 + 1, 2, none⟩) hle (.slice none 0 0)).setCell (p := ⟨w.heap.size + 1 + 1, 3, none⟩) hle (.int .u64 R)).setCell (p := ⟨w.heap.size + 1 + 1, 4, none⟩) hle (.string ⟨#[]⟩)).setCell (p := ⟨w.heap.size + 1 + 1, 5, none⟩) hle (.slice none 0 0))
    clear hq7 hbw7
    go_wp2
    exact bodyPost_ret (v := .tuple #[.agg #[.int .i64 3, .bool false, .slice none 0 0, .int .u64 R, .string ⟨#[]⟩, .slice none 0 0], .bool true]) (by simp [results, Tryz.results6, go_sem, k0, k1, k2, k3, k4, k5]) rfl ⟨rfl, hbel.out⟩
end Go.Proofs.YtafbheamnjmfoaaGreat.Two
