/-
  abs of a float is the float without its sign: for every 64 bits. No condition.
-/
import Derived.Test.YtaappbnbjpbbcaaGreatArgs
import Derived.Laws.Cover2
import Derived.Deep.QuietTactic
import Derived.BigQuiet
namespace Go.Proofs.YtaappbnbjpbbcaaGreat.fnAbsFloat
open Go.RowKit Go.WideShapes Go.Proofs.YtaappbnbjpbbcaaGreat.Args
set_option linter.unusedVariables false

theorem frombits (x : Int) (w : World) : (callFunc 5 #[.int .u64 x]).run Tryz.prog w = .ok (.value (.float .f64 x.toNat)) w := by kernel_rfl
theorem tobits (b : Nat) (w : World) : (callFunc 11 #[.float .f64 b]).run Tryz.prog w = .ok (.value (.int .u64 (b : Int))) w := by kernel_rfl
theorem is_float (v : Value) (w : World) : (Instr.typeAssert (.iface 35 v) 30 35 true).run Tryz.prog w = .ok (.tuple #[v, .bool true]) w := by kernel_rfl

/-- a word without its highest bit -/
def low63 (x : Int) : Int := bits BinOp.andNot IntKind.u64 x 9223372036854775808

/-- one argument for a variable of the type Value: the call that takes it -/
theorem take_value (s : ByteArray) (t : TypeId) (x : Value) (ga c : Nat) (w : World) (hx : w.cell? ⟨ga, 0, none⟩ = some (.iface t x)) (hga : ga < w.heap.size) :
    Calls Tryz.prog 12 #[.string s, .slice (some ⟨ga, 0, none⟩) 1 c, .slice none 0 0, .int .i64 1, .slice (some ⟨w.heap.size + 1, 0, none⟩) 1 1]
      ((w.alloc (.cells #[.nilIface] 30)).alloc (.cells #[.iface 47 (.pointer (some ⟨w.heap.size, 0, none⟩))] 20))
      fun e w' => e = .returned .nilIface ∧ w'.cell? ⟨w.heap.size, 0, none⟩ = some (.iface t x) ∧ w.heap.size < w'.heap.size ∧ Below w.heap.size w w' := by
  have hB : Below w.heap.size w ((w.alloc (.cells #[.nilIface] 30)).alloc (.cells #[.iface 47 (.pointer (some ⟨w.heap.size, 0, none⟩))] 20)) := ((Below.refl _ _).alloc (Nat.le_refl _) _).alloc (by simp) _
  have k0 : ((w.alloc (.cells #[.nilIface] 30)).alloc (.cells #[.iface 47 (.pointer (some ⟨w.heap.size, 0, none⟩))] 20)).cell? ⟨w.heap.size, 0, none⟩ = some .nilIface := by
    rw [World.cell?_alloc_lt _ _ _ (by simp), World.cell?_alloc_at _ _ _ _ rfl]; rfl
  have k1 : ((w.alloc (.cells #[.nilIface] 30)).alloc (.cells #[.iface 47 (.pointer (some ⟨w.heap.size, 0, none⟩))] 20)).cell? ⟨w.heap.size + 1, 0, none⟩ = some (.iface 47 (.pointer (some ⟨w.heap.size, 0, none⟩))) := by
    rw [World.cell?_alloc_at _ _ _ _ (by simp)]; rfl
  have f0 : ((w.alloc (.cells #[.nilIface] 30)).alloc (.cells #[.iface 47 (.pointer (some ⟨w.heap.size, 0, none⟩))] 20)).frozen? ⟨w.heap.size, 0, none⟩ = false := by simp
  have hx' := (hB.cell (p := ⟨ga, 0, none⟩) hga).trans hx
  have hs : ((w.alloc (.cells #[.nilIface] 30)).alloc (.cells #[.iface 47 (.pointer (some ⟨w.heap.size, 0, none⟩))] 20)).heap.size = w.heap.size + 2 := by simp
  have hu := uarg_value t x .nilIface w.heap.size _ (by rw [hs]; omega) k0 f0
  refine (upos_one s _ _ ga (w.heap.size + 1) c 1 _ hx' (by rw [hs]; omega) k1 (by rw [hs]; omega) _ hu (by simp)).mono ?_
  rintro e w' ⟨rfl, rfl⟩
  refine ⟨rfl, ?_, by simp; omega, hB.setCell (Nat.le_refl _) _⟩
  exact World.cell?_setCell_same _ _ _ k0

set_option maxRecDepth 100000 in
theorem abs_any (b ga c : Nat) (w : World) (hx : w.cell? ⟨ga, 0, none⟩ = some (.iface 35 (.float .f64 b))) (hga : ga < w.heap.size) (R : Nat) (hR : (low63 (b : Int)).toNat = R) :
    Calls Tryz.prog 10 #[.pointer none, .pointer none, .slice (some ⟨ga, 0, none⟩) 1 c, .slice none 0 0] w fun e w' => e = .returned (.tuple #[.iface 35 (.float .f64 R), .nilIface]) ∧ Below w.heap.size w w' := by
  have h1 := frombits
  have h2 := tobits
  have h3 := is_float
  have ht := Lib.hid fun s => take_value s _ _ ga c w hx hga
  unfold low63 at hR
  clear hx
  go_enter Tryz.func10, Tryz.ntmps10
  go_wp2_with fail
  refine (ht.out _).mono ?_
  rintro e w1 ⟨rfl, k0, hl, hb⟩
  go_wp2
  go_ret2
  exact ⟨rfl, hb⟩

set_option maxRecDepth 100000 in
theorem zz_any (b ga c : Nat) (w : World) (hx : w.cell? ⟨ga, 0, none⟩ = some (.iface 35 (.float .f64 b))) (hga : ga < w.heap.size) (R : Nat) (hR : (low63 (b : Int)).toNat = R) :
    Calls Tryz.prog 7 #[.slice (some ⟨ga, 0, none⟩) 1 c] w fun e w' => e = .returned (.tuple #[.iface 35 (.float .f64 R), .nilIface]) ∧ Below w.heap.size w w' := by
  have ha := Lib.hid (abs_any b ga c w hx hga R hR)
  clear hx hR
  go_enter Tryz.func7, Tryz.ntmps7
  go_wp2_with fail
  refine ha.out.mono ?_
  rintro e w1 ⟨rfl, hb⟩
  go_wp2
  go_ret2
  exact ⟨rfl, hb⟩

set_option maxRecDepth 100000 in
theorem iabs_any (x : Int) (w : World) (R : Nat) (hR : (low63 (x.toNat : Int)).toNat = R) :
    Calls Tryz.prog 4 #[.int .u64 x] w fun e w' => e = .returned (.tuple #[.int .u64 (R : Int), .bool true]) ∧ Below w.heap.size w w' := by
  have h1 := frombits
  have h2 := tobits
  have h3 := is_float
  have hz := Lib.hid fun W c h1 h2 => zz_any x.toNat w.heap.size c W h1 h2 R hR
  clear hR
  go_enter Tryz.func4, Tryz.ntmps4
  go_wp2_with (first | (go_at_call 7; refine (hz.out _ _ (by rw [World.cell?_alloc_at _ _ _ _ rfl]; rfl) (by simp)).mono ?_; rintro e w1 ⟨rfl, hb⟩) | go_in)
  go_ret2
  exact ⟨rfl, ((Below.refl _ _).alloc (Nat.le_refl _) _).trans (hb.mono (by simp))⟩

set_option maxRecDepth 100000 in
theorem walk (a0 : Int) (w0 : (Lit.int .u64 a0).wf = true) (w : World) :
    Calls Tryz.prog 3 #[.int .u64 a0] w fun e w' => e = .returned (.bool true) ∧ Below w.heap.size w w' := by
  have hb := bounds_u64 w0
  have hn : (a0.toNat : Int) = a0 := by omega
  have h1 := frombits
  obtain ⟨R, hR⟩ : ∃ R, (low63 a0).toNat = R := ⟨_, rfl⟩
  have hi := Lib.hid (iabs_any a0 w R (by rw [hn]; exact hR))
  have hlow : (R : Int) = low63 a0 := by
    have : 0 ≤ low63 a0 := by unfold low63; rw [show bits BinOp.andNot IntKind.u64 a0 9223372036854775808 = IntKind.u64.wrap _ from rfl, IntKind.wrap_u64]; omega
    omega
  have he : ((R : Int) == bits BinOp.andNot IntKind.u64 a0 9223372036854775808) = true := by rw [hlow]; unfold low63; simp
  clear w0 hb hn hlow hR
  go_enter Tryz.func3, Tryz.ntmps3
  go_wp2_with (go_at_call 4; refine hi.out.mono ?_; rintro e w1 ⟨rfl, hb⟩)
  go_ret
  exact ⟨rfl, hb⟩
end Go.Proofs.YtaappbnbjpbbcaaGreat.fnAbsFloat
