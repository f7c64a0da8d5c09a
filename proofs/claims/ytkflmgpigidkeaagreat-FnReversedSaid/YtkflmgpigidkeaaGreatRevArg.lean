/-
  A list for a variable of the type Iterable.
-/
import Derived.Test.YtkflmgpigidkeaaGreatArgs
namespace Go.Proofs.YtkflmgpigidkeaaGreat.Rev
open Go.RowKit Go.WideShapes Go.Proofs.YtkflmgpigidkeaaGreat.Args
set_option linter.unusedVariables false

theorem ino_0 (a : Addr) (w : World) : (Instr.typeAssert (.iface 198 (.pointer (some a))) 20 201 true).run Tryz.prog w = .ok (.tuple #[.pointer none, .bool false]) w := by kernel_rfl
theorem ino_1 (a : Addr) (w : World) : (Instr.typeAssert (.iface 198 (.pointer (some a))) 20 191 true).run Tryz.prog w = .ok (.tuple #[.pointer none, .bool false]) w := by kernel_rfl
theorem ino_2 (a : Addr) (w : World) : (Instr.typeAssert (.iface 198 (.pointer (some a))) 20 253 true).run Tryz.prog w = .ok (.tuple #[.pointer none, .bool false]) w := by kernel_rfl
theorem ino_3 (a : Addr) (w : World) : (Instr.typeAssert (.iface 198 (.pointer (some a))) 20 255 true).run Tryz.prog w = .ok (.tuple #[.pointer none, .bool false]) w := by kernel_rfl
theorem ino_4 (a : Addr) (w : World) : (Instr.typeAssert (.iface 198 (.pointer (some a))) 20 256 true).run Tryz.prog w = .ok (.tuple #[.pointer none, .bool false]) w := by kernel_rfl
theorem ino_5 (a : Addr) (w : World) : (Instr.typeAssert (.iface 198 (.pointer (some a))) 20 257 true).run Tryz.prog w = .ok (.tuple #[.pointer none, .bool false]) w := by kernel_rfl
theorem ino_6 (a : Addr) (w : World) : (Instr.typeAssert (.iface 198 (.pointer (some a))) 20 258 true).run Tryz.prog w = .ok (.tuple #[.pointer none, .bool false]) w := by kernel_rfl
theorem ino_7 (a : Addr) (w : World) : (Instr.typeAssert (.iface 198 (.pointer (some a))) 20 259 true).run Tryz.prog w = .ok (.tuple #[.pointer none, .bool false]) w := by kernel_rfl
theorem ino_8 (a : Addr) (w : World) : (Instr.typeAssert (.iface 198 (.pointer (some a))) 20 260 true).run Tryz.prog w = .ok (.tuple #[.pointer none, .bool false]) w := by kernel_rfl
theorem ino_9 (a : Addr) (w : World) : (Instr.typeAssert (.iface 198 (.pointer (some a))) 20 243 true).run Tryz.prog w = .ok (.tuple #[.pointer none, .bool false]) w := by kernel_rfl
theorem ino_10 (a : Addr) (w : World) : (Instr.typeAssert (.iface 198 (.pointer (some a))) 20 261 true).run Tryz.prog w = .ok (.tuple #[.pointer none, .bool false]) w := by kernel_rfl
theorem ino_11 (a : Addr) (w : World) : (Instr.typeAssert (.iface 198 (.pointer (some a))) 20 262 true).run Tryz.prog w = .ok (.tuple #[.pointer none, .bool false]) w := by kernel_rfl
theorem ino_12 (a : Addr) (w : World) : (Instr.typeAssert (.iface 198 (.pointer (some a))) 20 263 true).run Tryz.prog w = .ok (.tuple #[.pointer none, .bool false]) w := by kernel_rfl
theorem ino_13 (a : Addr) (w : World) : (Instr.typeAssert (.iface 198 (.pointer (some a))) 20 264 true).run Tryz.prog w = .ok (.tuple #[.pointer none, .bool false]) w := by kernel_rfl
theorem ino_14 (a : Addr) (w : World) : (Instr.typeAssert (.iface 198 (.pointer (some a))) 20 265 true).run Tryz.prog w = .ok (.tuple #[.pointer none, .bool false]) w := by kernel_rfl
theorem ino_15 (a : Addr) (w : World) : (Instr.typeAssert (.iface 198 (.pointer (some a))) 20 267 true).run Tryz.prog w = .ok (.tuple #[.pointer none, .bool false]) w := by kernel_rfl
theorem ino_16 (a : Addr) (w : World) : (Instr.typeAssert (.iface 198 (.pointer (some a))) 20 268 true).run Tryz.prog w = .ok (.tuple #[.pointer none, .bool false]) w := by kernel_rfl
theorem ino_17 (a : Addr) (w : World) : (Instr.typeAssert (.iface 198 (.pointer (some a))) 20 271 true).run Tryz.prog w = .ok (.tuple #[.pointer none, .bool false]) w := by kernel_rfl
theorem is_piter (v : Value) (w : World) : (Instr.typeAssert (.iface 198 v) 20 198 true).run Tryz.prog w = .ok (.tuple #[v, .bool true]) w := by kernel_rfl
theorem is_iter (v : Value) (w : World) : (Instr.typeAssert (.iface 73 v) 66 197 true).run Tryz.prog w = .ok (.tuple #[.iface 73 v, .bool true]) w := by kernel_rfl
set_option maxRecDepth 1000000 in
/-- a variable of the type Iterable takes a list -/
theorem uarg_iter (v u : Value) (g : Nat) (w : World) (hg : g < w.heap.size) (hc : w.cell? ⟨g, 0, none⟩ = some u) (hf : w.frozen? ⟨g, 0, none⟩ = false) :
    Calls Tryz.prog 159 #[.iface 73 v, .iface 198 (.pointer (some ⟨g, 0, none⟩))] w fun e w' => e = .returned .nilIface ∧ w' = w.setCell ⟨g, 0, none⟩ (.iface 73 v) := by
  have i0 := ino_0
  have i1 := ino_1
  have i2 := ino_2
  have i3 := ino_3
  have i4 := ino_4
  have i5 := ino_5
  have i6 := ino_6
  have i7 := ino_7
  have i8 := ino_8
  have i9 := ino_9
  have i10 := ino_10
  have i11 := ino_11
  have i12 := ino_12
  have i13 := ino_13
  have i14 := ino_14
  have i15 := ino_15
  have i16 := ino_16
  have i17 := ino_17
  have h1 := is_piter
  have h3 := is_iter
  go_enter Tryz.func159, Tryz.ntmps159
  go_wp2
  go_ret
  exact ⟨rfl, rfl⟩
/-- one list for a variable of the type Iterable -/
theorem take_iter (nm : ByteArray) (v : Value) (ga c : Nat) (w : World) (hx : w.cell? ⟨ga, 0, none⟩ = some (.iface 73 v)) (hga : ga < w.heap.size) :
    Calls Tryz.prog 130 #[.string nm, .slice (some ⟨ga, 0, none⟩) 1 c, .slice none 0 0, .int .i64 1, .slice (some ⟨w.heap.size + 1, 0, none⟩) 1 1]
      ((w.alloc (.cells #[.nilIface] 197)).alloc (.cells #[.iface 198 (.pointer (some ⟨w.heap.size, 0, none⟩))] 20))
      fun e w' => e = .returned .nilIface ∧ w'.cell? ⟨w.heap.size, 0, none⟩ = some (.iface 73 v) ∧ w.heap.size < w'.heap.size ∧ Below w.heap.size w w' := by
  have hB : Below w.heap.size w ((w.alloc (.cells #[.nilIface] 197)).alloc (.cells #[.iface 198 (.pointer (some ⟨w.heap.size, 0, none⟩))] 20)) := ((Below.refl _ _).alloc (Nat.le_refl _) _).alloc (by simp) _
  have k0 : ((w.alloc (.cells #[.nilIface] 197)).alloc (.cells #[.iface 198 (.pointer (some ⟨w.heap.size, 0, none⟩))] 20)).cell? ⟨w.heap.size, 0, none⟩ = some .nilIface := by
    rw [World.cell?_alloc_lt _ _ _ (by simp), World.cell?_alloc_at _ _ _ _ rfl]; rfl
  have k1 : ((w.alloc (.cells #[.nilIface] 197)).alloc (.cells #[.iface 198 (.pointer (some ⟨w.heap.size, 0, none⟩))] 20)).cell? ⟨w.heap.size + 1, 0, none⟩ = some (.iface 198 (.pointer (some ⟨w.heap.size, 0, none⟩))) := by
    rw [World.cell?_alloc_at _ _ _ _ (by simp)]; rfl
  have f0 : ((w.alloc (.cells #[.nilIface] 197)).alloc (.cells #[.iface 198 (.pointer (some ⟨w.heap.size, 0, none⟩))] 20)).frozen? ⟨w.heap.size, 0, none⟩ = false := by simp
  have hx' := (hB.cell (p := ⟨ga, 0, none⟩) hga).trans hx
  have hs : ((w.alloc (.cells #[.nilIface] 197)).alloc (.cells #[.iface 198 (.pointer (some ⟨w.heap.size, 0, none⟩))] 20)).heap.size = w.heap.size + 2 := by simp
  have hu := uarg_iter v .nilIface w.heap.size _ (by rw [hs]; omega) k0 f0
  refine (upos_one nm _ _ ga (w.heap.size + 1) c 1 _ hx' (by rw [hs]; omega) k1 (by rw [hs]; omega) _ hu (by simp)).mono ?_
  rintro e w' ⟨rfl, rfl⟩
  refine ⟨rfl, ?_, by simp; omega, hB.setCell (Nat.le_refl _) _⟩
  exact World.cell?_setCell_same _ _ _ k0

end Go.Proofs.YtkflmgpigidkeaaGreat.Rev
