/-
  A value without parts, told by the program: its six cells.
-/
import Derived.Test.YtkflmgpigidkeaaGreatScPv
namespace Go.Proofs.YtkflmgpigidkeaaGreat.Sc
open Go.RowKit Go.WideShapes Go.Proofs.YtkflmgpigidkeaaGreat.Own Go.Proofs.YtkflmgpigidkeaaGreat.Num Go.Proofs.YtkflmgpigidkeaaGreat.Ref Go.Proofs.YtkflmgpigidkeaaGreat.Nat_ Go.Proofs.YtkflmgpigidkeaaGreat.Big Go.Proofs.YtkflmgpigidkeaaGreat.VRow
set_option linter.unusedVariables false

theorem as_none_none (w : World) : (Instr.typeAssert (.iface 155 (.int .u8 0)) 66 155 true).run Tryz.prog w = .ok (.tuple #[.int .u8 0, .bool true]) w := by kernel_rfl
theorem as_bool_none (b : Bool) (w : World) : (Instr.typeAssert (.iface 148 (.bool b)) 66 155 true).run Tryz.prog w = .ok (.tuple #[.int .u8 0, .bool false]) w := by kernel_rfl
theorem as_bool_bool (b : Bool) (w : World) : (Instr.typeAssert (.iface 148 (.bool b)) 66 148 true).run Tryz.prog w = .ok (.tuple #[.bool b, .bool true]) w := by kernel_rfl
theorem as_int_none (u : Value) (w : World) : (Instr.typeAssert (.iface 160 (u)) 66 155 true).run Tryz.prog w = .ok (.tuple #[.int .u8 0, .bool false]) w := by kernel_rfl
theorem as_int_bool (u : Value) (w : World) : (Instr.typeAssert (.iface 160 (u)) 66 148 true).run Tryz.prog w = .ok (.tuple #[.bool false, .bool false]) w := by kernel_rfl
theorem as_int_int (u : Value) (w : World) : (Instr.typeAssert (.iface 160 (u)) 66 160 true).run Tryz.prog w = .ok (.tuple #[u, .bool true]) w := by kernel_rfl
theorem as_float_none (b : Nat) (w : World) : (Instr.typeAssert (.iface 162 (.float .f64 b)) 66 155 true).run Tryz.prog w = .ok (.tuple #[.int .u8 0, .bool false]) w := by kernel_rfl
theorem as_float_bool (b : Nat) (w : World) : (Instr.typeAssert (.iface 162 (.float .f64 b)) 66 148 true).run Tryz.prog w = .ok (.tuple #[.bool false, .bool false]) w := by kernel_rfl
theorem as_float_int (b : Nat) (w : World) : (Instr.typeAssert (.iface 162 (.float .f64 b)) 66 160 true).run Tryz.prog w = .ok (.tuple #[.agg #[.int .i64 0, .pointer none], .bool false]) w := by kernel_rfl
theorem as_float_float (b : Nat) (w : World) : (Instr.typeAssert (.iface 162 (.float .f64 b)) 66 162 true).run Tryz.prog w = .ok (.tuple #[.float .f64 b, .bool true]) w := by kernel_rfl
theorem as_str_none (t : ByteArray) (w : World) : (Instr.typeAssert (.iface 71 (.string t)) 66 155 true).run Tryz.prog w = .ok (.tuple #[.int .u8 0, .bool false]) w := by kernel_rfl
theorem as_str_bool (t : ByteArray) (w : World) : (Instr.typeAssert (.iface 71 (.string t)) 66 148 true).run Tryz.prog w = .ok (.tuple #[.bool false, .bool false]) w := by kernel_rfl
theorem as_str_int (t : ByteArray) (w : World) : (Instr.typeAssert (.iface 71 (.string t)) 66 160 true).run Tryz.prog w = .ok (.tuple #[.agg #[.int .i64 0, .pointer none], .bool false]) w := by kernel_rfl
theorem as_str_float (t : ByteArray) (w : World) : (Instr.typeAssert (.iface 71 (.string t)) 66 162 true).run Tryz.prog w = .ok (.tuple #[.float .f64 0, .bool false]) w := by kernel_rfl
theorem as_str_str (t : ByteArray) (w : World) : (Instr.typeAssert (.iface 71 (.string t)) 66 71 true).run Tryz.prog w = .ok (.tuple #[.string t, .bool true]) w := by kernel_rfl
theorem as_bytes_none (t : ByteArray) (w : World) : (Instr.typeAssert (.iface 164 (.string t)) 66 155 true).run Tryz.prog w = .ok (.tuple #[.int .u8 0, .bool false]) w := by kernel_rfl
theorem as_bytes_bool (t : ByteArray) (w : World) : (Instr.typeAssert (.iface 164 (.string t)) 66 148 true).run Tryz.prog w = .ok (.tuple #[.bool false, .bool false]) w := by kernel_rfl
theorem as_bytes_int (t : ByteArray) (w : World) : (Instr.typeAssert (.iface 164 (.string t)) 66 160 true).run Tryz.prog w = .ok (.tuple #[.agg #[.int .i64 0, .pointer none], .bool false]) w := by kernel_rfl
theorem as_bytes_float (t : ByteArray) (w : World) : (Instr.typeAssert (.iface 164 (.string t)) 66 162 true).run Tryz.prog w = .ok (.tuple #[.float .f64 0, .bool false]) w := by kernel_rfl
theorem as_bytes_str (t : ByteArray) (w : World) : (Instr.typeAssert (.iface 164 (.string t)) 66 71 true).run Tryz.prog w = .ok (.tuple #[.string ⟨#[]⟩, .bool false]) w := by kernel_rfl
theorem as_bytes_bytes (t : ByteArray) (w : World) : (Instr.typeAssert (.iface 164 (.string t)) 66 164 true).run Tryz.prog w = .ok (.tuple #[.string t, .bool true]) w := by kernel_rfl
def SomeTold (w : World) (s : Sc) (e : Ending) (w' : World) : Prop := (∃ y, e = .returned (.agg (V6.arr y)) ∧ IsSc w' y s) ∧ Below w.heap.size w w'
section
variable {w : World}
set_option maxHeartbeats 2000000 in
set_option maxRecDepth 100000 in
theorem tell_none : Calls Tryz.prog 81 #[.iface 155 (.int .u8 0)] w (SomeTold w .none) := by
  have e0 := fun w => as_none_none w
  go_enter Tryz.func81, Tryz.ntmps81
  go_wp2
  exact bodyPost_ret (v := .agg #[.int .i64 0, .bool false, .slice none 0 0, .int .u64 0, .string ⟨#[]⟩, .slice none 0 0]) (by simp [results, Tryz.results81, go_sem]) rfl ⟨⟨_, rfl, rfl⟩, below_one' _ (Nat.le_refl _)⟩
set_option maxHeartbeats 2000000 in
set_option maxRecDepth 100000 in
theorem tell_bool (b : Bool) : Calls Tryz.prog 81 #[.iface 148 (.bool b)] w (SomeTold w (.bool b)) := by
  have e0 := fun w => as_bool_none b w
  have e1 := fun w => as_bool_bool b w
  cases b
  · go_enter Tryz.func81, Tryz.ntmps81
    go_wp2
    exact bodyPost_ret (v := .agg #[.int .i64 1, .bool false, .slice none 0 0, .int .u64 0, .string ⟨#[]⟩, .slice none 0 0]) (by simp [results, Tryz.results81, go_sem]) rfl ⟨⟨_, rfl, rfl⟩, below_one' _ (Nat.le_refl _)⟩
  · go_enter Tryz.func81, Tryz.ntmps81
    go_wp2
    exact bodyPost_ret (v := .agg #[.int .i64 1, .bool false, .slice none 0 0, .int .u64 1, .string ⟨#[]⟩, .slice none 0 0]) (by simp [results, Tryz.results81, go_sem]) rfl ⟨⟨_, rfl, rfl⟩, below_one' _ (Nat.le_refl _)⟩
set_option maxHeartbeats 2000000 in
set_option maxRecDepth 100000 in
theorem tell_str (t : ByteArray) : Calls Tryz.prog 81 #[.iface 71 (.string t)] w (SomeTold w (.text false t)) := by
  have e0 := fun w => as_str_none t w
  have e1 := fun w => as_str_bool t w
  have e2 := fun w => as_str_int t w
  have e3 := fun w => as_str_float t w
  have e4 := fun w => as_str_str t w
  go_enter Tryz.func81, Tryz.ntmps81
  go_wp2
  exact bodyPost_ret (v := .agg #[.int .i64 4, .bool false, .slice none 0 0, .int .u64 0, .string t, .slice none 0 0]) (by simp [results, Tryz.results81, go_sem]) rfl ⟨⟨_, rfl, rfl⟩, below_one' _ (Nat.le_refl _)⟩
set_option maxHeartbeats 2000000 in
set_option maxRecDepth 100000 in
theorem tell_bytes (t : ByteArray) : Calls Tryz.prog 81 #[.iface 164 (.string t)] w (SomeTold w (.text true t)) := by
  have e0 := fun w => as_bytes_none t w
  have e1 := fun w => as_bytes_bool t w
  have e2 := fun w => as_bytes_int t w
  have e3 := fun w => as_bytes_float t w
  have e4 := fun w => as_bytes_str t w
  have e5 := fun w => as_bytes_bytes t w
  go_enter Tryz.func81, Tryz.ntmps81
  go_wp2
  exact bodyPost_ret (v := .agg #[.int .i64 5, .bool false, .slice none 0 0, .int .u64 0, .string t, .slice none 0 0]) (by simp [results, Tryz.results81, go_sem]) rfl ⟨⟨_, rfl, rfl⟩, below_one' _ (Nat.le_refl _)⟩
set_option maxHeartbeats 2000000 in
set_option maxRecDepth 100000 in
theorem tell_float (b : Nat) : Calls Tryz.prog 81 #[.iface 162 (.float .f64 b)] w (SomeTold w (.float b)) := by
  have e0 := fun w => as_float_none b w
  have e1 := fun w => as_float_bool b w
  have e2 := fun w => as_float_int b w
  have e3 := fun w => as_float_float b w
  have hf := Lib.hid fun W => bitsof_any b W
  go_enter Tryz.func81, Tryz.ntmps81
  go_wp2_with fail
  refine (hf.out _).mono ?_
  rintro e w' ⟨rfl, rfl⟩
  go_wp2
  exact bodyPost_ret (v := .agg #[.int .i64 3, .bool false, .slice none 0 0, .int .u64 b, .string ⟨#[]⟩, .slice none 0 0]) (by simp [results, Tryz.results81, go_sem]) rfl ⟨⟨_, rfl, rfl⟩, below_one' _ (Nat.le_refl _)⟩
theorem sg_neg (G : Bool) (V : Nat) (h : G = true → 0 < V) : decide (sg G V < 0) = G ∧ (sg G V).natAbs = V := by
  cases G
  · simp [sg]
  · have := h rfl
    simp [sg]; omega
set_option maxHeartbeats 2000000 in
set_option maxRecDepth 100000 in
theorem tell_int (G : Bool) (V : Nat) (hG : G = true → 0 < V) (u : Value) (B : Nat) (h : SInt w B u (sg G V)) : Calls Tryz.prog 81 #[.iface 160 u] w (SomeTold w (.int G V)) := by
  obtain ⟨y, q, rfl⟩ := h.shape
  have e0 := fun w => as_int_none (.agg #[.int .i64 y, .pointer q]) w
  have e1 := fun w => as_int_bool (.agg #[.int .i64 y, .pointer q]) w
  have e2 := fun w => as_int_int (.agg #[.int .i64 y, .pointer q]) w
  obtain ⟨W, hW⟩ : ∃ W, (w.alloc (.cells #[.int .i64 0, .bool false, .slice none 0 0, .int .u64 0, .string ⟨#[]⟩, .slice none 0 0] 27)).alloc (.cells #[.int .i64 y, .pointer q] 160) = W := ⟨_, rfl⟩
  have hb1 : Below w.heap.size w W := by rw [← hW]; exact (below_one' _ (Nat.le_refl _)).alloc (by simp) _
  have hk1 : Box.Holds W w.heap.size 27 #[.int .i64 0, .bool false, .slice none 0 0, .int .u64 0, .string ⟨#[]⟩, .slice none 0 0] := by
    rw [← hW]; exact (Box.Holds.made w _ _).alloc _
  have hnum := Lib.hid (number_any _ _ B W (h.later hb1))
  obtain ⟨g1, g2⟩ := sg_neg G V hG
  rw [g1, g2] at hnum
  have hb1' := Lib.hid hb1
  have hk1' := Lib.hid hk1
  have hW' := Lib.hid hW
  clear hb1 hk1 hW g1 g2 h
  go_enter Tryz.func81, Tryz.ntmps81
  go_wp2_with fail
  rw [hW'.out]
  clear hW'
  refine hnum.out.mono ?_
  rintro e w3 ⟨⟨x, rfl, ua, rfl, hu, hpos⟩, hb3⟩
  obtain ⟨p0, p1, p2, p3, p4, p5, pl, f0, f1, f2, f3, f4, f5⟩ := Rem.val_facts (hk1'.out.later hb3)
  have hmg := Mg.of_rds hu
  obtain ⟨a, c, hue, -⟩ := Mg.of_rds hu
  obtain ⟨n, hn⟩ : ∃ n, (mag V).length = n := ⟨_, rfl⟩
  rw [hn] at hue
  subst hue
  have hfin := Lib.hid (show IsSc ((((((w3.setCell ⟨w.heap.size, 0, none⟩ (.int .i64 2)).setCell ⟨w.heap.size, 1, none⟩ (.bool G)).setCell ⟨w.heap.size, 2, none⟩ (.slice a n c)).setCell ⟨w.heap.size, 3, none⟩ (.int .u64 0)).setCell ⟨w.heap.size, 4, none⟩ (.string ⟨#[]⟩)).setCell ⟨w.heap.size, 5, none⟩ (.slice none 0 0)) (six0 2 G (.slice a n c) 0 ⟨#[]⟩) (.int G V) ∧
      Below w.heap.size w ((((((w3.setCell ⟨w.heap.size, 0, none⟩ (.int .i64 2)).setCell ⟨w.heap.size, 1, none⟩ (.bool G)).setCell ⟨w.heap.size, 2, none⟩ (.slice a n c)).setCell ⟨w.heap.size, 3, none⟩ (.int .u64 0)).setCell ⟨w.heap.size, 4, none⟩ (.string ⟨#[]⟩)).setCell ⟨w.heap.size, 5, none⟩ (.slice none 0 0)) from
    ⟨⟨_, rfl, hmg.kept (six_kept _ _ _ _ _ _ (hk1'.out.later hb3))⟩, Rem.six_below _ _ _ _ _ _ (hb1'.out.trans (hb3.mono hb1'.out.size)) (Nat.le_refl _)⟩)
  clear hb3 hu hmg hk1' hb1' hn hpos
  go_wp2
  exact bodyPost_ret (v := .agg #[.int .i64 2, .bool G, .slice a n c, .int .u64 0, .string ⟨#[]⟩, .slice none 0 0]) (by simp [results, Tryz.results81, go_sem, p0, p1, p2, p3, p4, p5]) rfl ⟨⟨_, rfl, hfin.out.1⟩, hfin.out.2⟩
end
theorem tell_any (v : Value) (s : Sc) (w : World) (hs : s.ok) (hx : IsPv w v s) : Calls Tryz.prog 81 #[v] w (SomeTold w s) := by
  cases s with
  | none =>
    obtain rfl : v = _ := hx
    exact tell_none
  | bool b =>
    obtain rfl : v = _ := hx
    exact tell_bool b
  | float b =>
    obtain rfl : v = _ := hx
    exact tell_float b
  | text k t =>
    obtain rfl : v = _ := hx
    cases k
    · exact tell_str t
    · exact tell_bytes t
  | int G V =>
    obtain ⟨u, B, rfl, h⟩ := hx
    exact tell_int G V hs.1 u B h
end Go.Proofs.YtkflmgpigidkeaaGreat.Sc
