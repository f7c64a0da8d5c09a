/-
  A list gone through: its iterator.
-/
import Derived.Test.YtkflmgpigidkeaaGreatScList
import Derived.Test.YtkflmgpigidkeaaGreatRevArg
import Derived.Deep.QuietTactic
import Derived.BigQuiet
import Derived.RegionTactic
namespace Go.Proofs.YtkflmgpigidkeaaGreat.Rev
open Go.RowKit Go.WideShapes Go.Proofs.YtkflmgpigidkeaaGreat.Sc
set_option linter.unusedVariables false

set_option maxRecDepth 100000 in
theorem iterate_any (g : Nat) (v : Value) (it : Nat) (hit : it < 4294967295) (w : World) (h : Box.Holds w g 142 #[v, .bool false, .int .u32 it]) : Calls Tryz.prog 103 #[.pointer (some ⟨g, 0, none⟩)] w fun e w' => e = .returned (.iface 216 (.pointer (some ⟨w.heap.size, 0, none⟩))) ∧ w' = (w.setCell ⟨g, 2, none⟩ (.int .u32 ((it : Int) + 1))).alloc (.cells #[.pointer (some ⟨g, 0, none⟩), .int .i64 0] 218) := by
  have k1 := h.cell 1
  have k2 := h.cell 2
  simp at k1 k2
  have hl := h.lt
  have f2 := h.free 2
  go_enter Tryz.func103, Tryz.ntmps103
  go_wp2
  go_ret
  exact ⟨rfl, rfl⟩
set_option maxRecDepth 100000 in
theorem iterate_frozen (g : Nat) (v u : Value) (w : World) (h : Box.Holds w g 142 #[v, .bool true, u]) : Calls Tryz.prog 103 #[.pointer (some ⟨g, 0, none⟩)] w fun e w' => e = .returned (.iface 216 (.pointer (some ⟨w.heap.size, 0, none⟩))) ∧ w' = w.alloc (.cells #[.pointer (some ⟨g, 0, none⟩), .int .i64 0] 218) := by
  have k1 := h.cell 1
  simp at k1
  have hl := h.lt
  go_enter Tryz.func103, Tryz.ntmps103
  go_wp2
  go_ret
  exact ⟨rfl, rfl⟩
set_option maxRecDepth 100000 in
theorem done_any (b g : Nat) (v i : Value) (it : Nat) (h0 : 0 < it) (hit : it < 4294967296) (w : World) (hb : Box.Holds w b 218 #[.pointer (some ⟨g, 0, none⟩), i]) (h : Box.Holds w g 142 #[v, .bool false, .int .u32 it]) : Calls Tryz.prog 282 #[.pointer (some ⟨b, 0, none⟩)] w fun e w' => e = .returned (.tuple #[]) ∧ w' = w.setCell ⟨g, 2, none⟩ (.int .u32 ((it : Int) - 1)) := by
  have j0 := hb.cell 0
  have k1 := h.cell 1
  have k2 := h.cell 2
  simp at j0 k1 k2
  have hl := h.lt
  have hl' := hb.lt
  have f2 := h.free 2
  go_enter Tryz.func282, Tryz.ntmps282
  go_wp2
  exact bodyPost_end (results_none (by rfl) _ _ _) rfl ⟨rfl, rfl⟩
set_option maxRecDepth 100000 in
theorem done_frozen (b g : Nat) (v i u : Value) (w : World) (hb : Box.Holds w b 218 #[.pointer (some ⟨g, 0, none⟩), i]) (h : Box.Holds w g 142 #[v, .bool true, u]) : Calls Tryz.prog 282 #[.pointer (some ⟨b, 0, none⟩)] w fun e w' => e = .returned (.tuple #[]) ∧ w' = w := by
  have j0 := hb.cell 0
  have k1 := h.cell 1
  simp at j0 k1
  have hl := h.lt
  have hl' := hb.lt
  go_enter Tryz.func282, Tryz.ntmps282
  go_wp2
  exact bodyPost_end (results_none (by rfl) _ _ _) rfl ⟨rfl, rfl⟩

set_option maxRecDepth 100000 in
theorem next_none (b g x : Nat) (a : Option Addr) (n c k : Nat) (y z : Value) (w : World) (hk : n ≤ k) (hn : n ≤ 1000000) (hk2 : k ≤ 1000000) (hb : Box.Holds w b 218 #[.pointer (some ⟨g, 0, none⟩), .int .i64 k]) (h : Box.Holds w g 142 #[.slice a n c, y, z]) :
    Calls Tryz.prog 283 #[.pointer (some ⟨b, 0, none⟩), .pointer (some ⟨x, 0, none⟩)] w fun e w' => e = .returned (.bool false) ∧ ∃ q, w' = w.drewN q := by
  have hq := Lib.hid fun q => (llen_any g a n c y z (w.drewN q) (h.drawn q)).mono (R' := fun e w' => e = .returned (.int .i64 n) ∧ w' = w.drewN q) fun e w' hh => ⟨hh.1, hh.2.symm⟩
  have j0 := hb.cell 0
  have j1 := hb.cell 1
  simp at j0 j1
  have hl' := hb.lt
  have hd : decide (k < n) = false := by simp; omega
  go_enter Tryz.func283, Tryz.ntmps283
  go_wp2_with fail
  go_quiet ((go_at_call 80; with_reducible exact Calls.quiet_of_same (hq.out _)))
  go_wp2
  go_ret
  exact ⟨rfl, _, rfl⟩
set_option maxRecDepth 100000 in
set_option maxHeartbeats 1000000 in
theorem next_some (b g x r : Nat) (n c k : Nat) (y z u p : Value) (w : World) (hk : k < n) (hn : n ≤ 1000000) (hb : Box.Holds w b 218 #[.pointer (some ⟨g, 0, none⟩), .int .i64 k]) (h : Box.Holds w g 142 #[.slice (some ⟨r, 0, none⟩) n c, y, z])
    (hx : Box.Holds w x 66 #[u]) (hr : w.cell? ⟨r, k, none⟩ = some p) (hp1 : ∃ t q, p = .iface t q) (hbx : b ≠ x) :
    Calls Tryz.prog 283 #[.pointer (some ⟨b, 0, none⟩), .pointer (some ⟨x, 0, none⟩)] w fun e w' => e = .returned (.bool true) ∧ ∃ q, w' = ((w.setCell ⟨x, 0, none⟩ p).setCell ⟨b, 1, none⟩ (.int .i64 ((k : Int) + 1))).drewN q := by
  obtain ⟨pt, pq, rfl⟩ := hp1
  have hq := Lib.hid fun q => (llen_any g (some ⟨r, 0, none⟩) n c y z (w.drewN q) (h.drawn q)).mono (R' := fun e w' => e = .returned (.int .i64 n) ∧ w' = w.drewN q) fun e w' hh => ⟨hh.1, hh.2.symm⟩
  have j0 := hb.cell 0
  have j1 := hb.cell 1
  have k0 := h.cell 0
  simp at j0 j1 k0
  have hl := h.lt
  have hl' := hb.lt
  have hxl := hx.lt
  have hrl := World.block_lt_of_cell? _ _ hr
  simp only at hrl
  have fx := hx.free 0
  have fb := hb.free 1
  have x0 := hx.cell 0
  simp at x0
  have j1' : (w.setCell ⟨x, 0, none⟩ (.iface pt pq)).cell? ⟨b, 1, none⟩ = some (.int .i64 k) := by
    have := (hb.apart (p := ⟨x, 0, none⟩) hbx (.iface pt pq)).cell 1
    simpa using this
  have fb' : (w.setCell ⟨x, 0, none⟩ (.iface pt pq)).frozen? ⟨b, 1, none⟩ = false := (hb.apart (p := ⟨x, 0, none⟩) hbx (.iface pt pq)).free 1
  have hd : decide (k < n) = true := by simp; omega
  go_enter Tryz.func283, Tryz.ntmps283
  go_wp2_with fail
  go_quiet ((go_at_call 80; with_reducible exact Calls.quiet_of_same (hq.out _)))
  go_wp2_with fail
  go_region
  all_goals
    go_wp2
    go_ret
    exact ⟨rfl, _, rfl⟩
end Go.Proofs.YtkflmgpigidkeaaGreat.Rev
