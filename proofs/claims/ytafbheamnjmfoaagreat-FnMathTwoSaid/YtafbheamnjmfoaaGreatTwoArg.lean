/-
  Two arguments of a math function, each a float: unpacked into two floats.
-/
import Derived.Test.YtafbheamnjmfoaaGreatMathRem
import Derived.Test.YtafbheamnjmfoaaGreatBlk
import Derived.Laws.EntriesVeiled
import Derived.LoopTactic
import Derived.WalkKit
import Derived.Outline
import Derived.WalkSpells
import Derived.WalkLawsBesides
import Derived.Lib.Hide
import Derived.OpenShut
namespace Go.Proofs.YtafbheamnjmfoaaGreat.Two
open Go.RowKit Go.WideShapes Go.Proofs.YtafbheamnjmfoaaGreat.Box
set_option linter.unusedVariables false

@[go_sem] theorem run_store_float (P : Program) (w : World) (a : Addr) (k : FloatKind) (b : Nat) (m : Mode) : (store a (.float k b) m).run P w = stored P w a (.float k b) m := run_store P w a _ m rfl
theorem chk_any (s : ByteArray) (sa : Option Addr) (n c : Nat) (mn mx : Int) (w : World) (h1 : mn ≤ n) (h2 : (n : Int) ≤ mx) (hn : n ≤ 1000000) :
    Calls Tryz.prog 112 #[.string s, .slice sa n c, .slice none 0 0, .int .i64 mn, .int .i64 mx] w fun e w' => e = .returned .nilIface ∧ w = w' := by
  have d1 : decide ((n : Int) < mn) = false := by simp; omega
  have d2 : decide (mx < (n : Int)) = false := by simp; omega
  clear h1 h2
  go_enter Tryz.func112, Tryz.ntmps112
  go_wp2
  go_ret
  exact ⟨rfl, rfl⟩
theorem as_unpk (v : Value) (w : World) : (Instr.typeAssert (.iface 158 v) 20 199 true).run Tryz.prog w = .ok (.tuple #[.iface 158 v, .bool true]) w := by kernel_rfl
theorem as_float_int (b : Nat) (w : World) : (Instr.typeAssert (.iface 92 (.float .f64 b)) 47 90 true).run Tryz.prog w = .ok (.tuple #[.agg #[.int .i64 0, .pointer none], .bool false]) w := by kernel_rfl
theorem as_float_float (b : Nat) (w : World) : (Instr.typeAssert (.iface 92 (.float .f64 b)) 47 92 true).run Tryz.prog w = .ok (.tuple #[.float .f64 b, .bool true]) w := by kernel_rfl
set_option maxRecDepth 100000 in
theorem unp_float (b : Nat) (g : Nat) (u : Value) (w : World) (hg : g < w.heap.size) (hc : w.cell? ⟨g, 0, none⟩ = some u) (hf : w.frozen? ⟨g, 0, none⟩ = false) :
    Calls Tryz.prog 217 #[.pointer (some ⟨g, 0, none⟩), .iface 92 (.float .f64 b)] w fun e w' => e = .returned .nilIface ∧ w' = w.setCell ⟨g, 0, none⟩ (.float .f64 b) := by
  have e1 := fun w => as_float_int b w
  have e2 := fun w => as_float_float b w
  go_enter Tryz.func217, Tryz.ntmps217
  go_wp2
  go_ret
  exact ⟨rfl, rfl⟩
set_option maxRecDepth 100000 in
theorem uarg_float (b : Nat) (g : Nat) (u : Value) (w : World) (hg : g < w.heap.size) (hc : w.cell? ⟨g, 0, none⟩ = some u) (hf : w.frozen? ⟨g, 0, none⟩ = false) :
    Calls Tryz.prog 113 #[.iface 92 (.float .f64 b), .iface 158 (.pointer (some ⟨g, 0, none⟩))] w fun e w' => e = .returned .nilIface ∧ w' = w.setCell ⟨g, 0, none⟩ (.float .f64 b) := by
  have hp := as_unpk
  have hu := Lib.hid (unp_float b g u w hg hc hf)
  clear hg hc hf
  go_enter Tryz.func113, Tryz.ntmps113
  go_wp2_with fail
  refine hu.out.mono ?_
  rintro e w1 ⟨rfl, rfl⟩
  go_wp2
  go_ret
  exact ⟨rfl, rfl⟩
set_option maxRecDepth 100000 in
theorem upos_two (s : ByteArray) (x y : Nat) (ga gv g1 g2 c1 c2 : Nat) (u1 u2 : Value) (w : World) (hx : w.cell? ⟨ga, 0, none⟩ = some (.iface 92 (.float .f64 x))) (hy : w.cell? ⟨ga, 1, none⟩ = some (.iface 92 (.float .f64 y))) (hga : ga < w.heap.size)
    (hp : w.cell? ⟨gv, 0, none⟩ = some (.iface 158 (.pointer (some ⟨g1, 0, none⟩)))) (hq : w.cell? ⟨gv, 1, none⟩ = some (.iface 158 (.pointer (some ⟨g2, 0, none⟩)))) (hgv : gv < w.heap.size)
    (h1 : Holds w g1 156 #[u1]) (h2 : Holds w g2 156 #[u2]) (a1 : ga ≠ g1) (a2 : ga ≠ g2) (v1 : gv ≠ g1) (v2 : gv ≠ g2) (hne : g1 ≠ g2) :
    Calls Tryz.prog 90 #[.string s, .slice (some ⟨ga, 0, none⟩) 2 c1, .slice none 0 0, .int .i64 2, .slice (some ⟨gv, 0, none⟩) 2 c2] w fun e w' => e = .returned .nilIface ∧ w' = (w.setCell ⟨g1, 0, none⟩ (.float .f64 x)).setCell ⟨g2, 0, none⟩ (.float .f64 y) := by
  have hk := Lib.hid (chk_any s (some ⟨ga, 0, none⟩) 2 c1 2 2 w (by omega) (by omega) (by omega))
  have hu1 := Lib.hid (uarg_float x g1 u1 w h1.lt (h1.cell 0) (h1.free 0))
  obtain ⟨F, hF⟩ : ∃ F, w.setCell ⟨g1, 0, none⟩ (.float .f64 x) = F := ⟨_, rfl⟩
  have h2F : Holds F g2 156 #[u2] := by rw [← hF]; exact h2.apart (fun e => hne e.symm) _
  have bF : ∀ k, k ≠ g1 → F.heap[k]? = w.heap[k]? := fun k hk => by rw [← hF]; exact Below.heap_setCell w _ _ k hk
  have hu2 := Lib.hid (uarg_float y g2 u2 F h2F.lt (h2F.cell 0) (h2F.free 0))
  have hy' : F.cell? ⟨ga, 1, none⟩ = some (.iface 92 (.float .f64 y)) := (World.cell?_of_block (bF _ a1)).trans hy
  have hq' : F.cell? ⟨gv, 1, none⟩ = some (.iface 158 (.pointer (some ⟨g2, 0, none⟩))) := (World.cell?_of_block (bF _ v1)).trans hq
  have sF : F.heap.size = w.heap.size := by rw [← hF]; simp
  rw [hF] at hu1
  rw [hF]
  clear hF bF h1 h2 h2F hy hq a1 a2 v1 v2 hne
  have hga' : ga < F.heap.size := by omega
  have hgv' : gv < F.heap.size := by omega
  go_enter Tryz.func90, Tryz.ntmps90
  go_wp2_with fail
  refine hk.out.mono ?_
  rintro e w1 ⟨rfl, rfl⟩
  go_wp2_with fail
  go_loopw [27] (fun i wr => (i = .int .i64 0 ∧ wr = w) ∨ (i = .int .i64 1 ∧ wr = F) ∨ (i = .int .i64 2 ∧ wr = F.setCell ⟨g2, 0, none⟩ (.float .f64 y))) (fun i _ => (2 - intOf i).toNat)
  case atStart => exact .inl ⟨rfl, rfl⟩
  case round =>
    rcases hrel with ⟨rfl, rfl⟩ | ⟨rfl, rfl⟩ | ⟨rfl, rfl⟩
    · go_wp2_with fail
      refine hu1.out.mono ?_
      rintro e w1 ⟨rfl, rfl⟩
      go_wp2_with fail
      go_roundw
      case rel => exact .inr (.inl ⟨rfl, trivial⟩)
      case measure => simp [intOf]
    · go_wp2_with fail
      refine hu2.out.mono ?_
      rintro e w1 ⟨rfl, rfl⟩
      go_wp2_with fail
      go_roundw
      case rel => exact .inr (.inr ⟨rfl, trivial⟩)
      case measure => simp [intOf]
    · go_wp2
      go_ret
      exact ⟨rfl, rfl⟩
end Go.Proofs.YtafbheamnjmfoaaGreat.Two
