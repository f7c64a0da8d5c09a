/-
  A text without what it begins with, or ends with: the reference's methods.
-/
import Derived.Test.YtkflmgpigidkeaaGreatRemSpec
namespace Go.Proofs.YtkflmgpigidkeaaGreat.Rem
open Go.RowKit Go.WideShapes
set_option linter.unusedVariables false

theorem six_put {w : World} {g : Nat} {x0 x1 x2 x3 x4 x5 : Value} (h : Holds w g 27 #[x0, x1, x2, x3, x4, x5]) (u0 u1 u2 u3 u4 u5 : Value) :
    Holds ((((((w.setCell ⟨g, 0, none⟩ u0).setCell ⟨g, 1, none⟩ u1).setCell ⟨g, 2, none⟩ u2).setCell ⟨g, 3, none⟩ u3).setCell ⟨g, 4, none⟩ u4).setCell ⟨g, 5, none⟩ u5) g 27 #[u0, u1, u2, u3, u4, u5] := by
  have := (((((h.put 0 u0).put 1 u1).put 2 u2).put 3 u3).put 4 u4).put 5 u5
  simpa using this

set_option maxHeartbeats 2000000 in
set_option maxRecDepth 100000 in
theorem method_pre (s x : ByteArray) (g c : Nat) (w : World) (hs : s.size ≤ 60) (hx : x.size ≤ 60) (hg : Holds w g 27 #[.int .i64 4, .bool false, .slice none 0 0, .int .u64 0, .string x, .slice none 0 0]) :
    Calls Tryz.prog 30 #[.string s, .string ⟨#[114, 101, 109, 111, 118, 101, 112, 114, 101, 102, 105, 120]⟩, .slice (some ⟨g, 0, none⟩) 1 c] w fun e w' => e = .returned (.tuple #[tv (remP s x), .bool true]) ∧ Below w.heap.size w w' := by
  have ha := Lib.hid fun W => around_pre s x W hs hx
  generalize remP s x = R at ha ⊢
  have hg2 := hg.alloc (.cells #[.int .i64 0, .bool false, .slice none 0 0, .int .u64 0, .string ⟨#[]⟩, .slice none 0 0] 27)
  obtain ⟨q0, q1, q2, q3, q4, q5, ql, -⟩ := val_facts hg2
  clear hg hg2
  unfold tv at *
  go_enter Tryz.func30, Tryz.ntmps30
  go_wp2_with fail
  refine (ha.out _).mono ?_
  rintro e w1 ⟨rfl, hb1⟩
  obtain ⟨hk, hfin⟩ := answer R hb1
  obtain ⟨p0, p1, p2, p3, p4, p5, pl, f0, f1, f2, f3, f4, f5⟩ := val_facts hk
  have hfin' := Lib.hid hfin
  clear hk hfin hb1 q0 q1 q2 q3 q4 q5 ql
  go_wp2
  exact bodyPost_ret (v := .tuple #[.agg #[.int .i64 4, .bool false, .slice none 0 0, .int .u64 0, .string R, .slice none 0 0], .bool true]) (by simp [results, Tryz.results30, go_sem, p0, p1, p2, p3, p4, p5]) rfl ⟨rfl, hfin'.out⟩

set_option maxHeartbeats 2000000 in
set_option maxRecDepth 100000 in
theorem asked_pre (s x : ByteArray) (g c : Nat) (w : World) (hs : s.size ≤ 60) (hx : x.size ≤ 60) (hg : Holds w g 27 #[.int .i64 4, .bool false, .slice none 0 0, .int .u64 0, .string x, .slice none 0 0]) :
    Calls Tryz.prog 9 #[.string s, .string ⟨#[114, 101, 109, 111, 118, 101, 112, 114, 101, 102, 105, 120]⟩, .slice (some ⟨g, 0, none⟩) 1 c] w fun e w' => e = .returned (.tuple #[tv (remP s x), .slice none 0 0, .bool true]) ∧ Below w.heap.size w w' := by
  have ha := Lib.hid fun W h => method_pre s x g c W hs hx h
  have ha2 := Lib.hid (ha.out _ (hg.alloc (.cells #[.int .i64 0, .bool false, .slice none 0 0, .int .u64 0, .string ⟨#[]⟩, .slice none 0 0] 27)))
  clear ha hg
  generalize remP s x = R at ha2 ⊢
  unfold tv at *
  go_enter Tryz.func9, Tryz.ntmps9
  go_wp2_with fail
  refine ha2.out.mono ?_
  rintro e w1 ⟨rfl, hb1⟩
  obtain ⟨hk, hfin⟩ := answer R hb1
  obtain ⟨p0, p1, p2, p3, p4, p5, pl, f0, f1, f2, f3, f4, f5⟩ := val_facts hk
  have hput := six_put hk (.int .i64 4) (.bool false) (.slice none 0 0) (.int .u64 0) (.string R) (.slice none 0 0)
  clear hk hb1
  go_wp2_with fail
  obtain ⟨W5, hW5⟩ : ∃ W5, ((((((w1.setCell ⟨w.heap.size, 0, none⟩ (.int .i64 4)).setCell ⟨w.heap.size, 1, none⟩ (.bool false)).setCell ⟨w.heap.size, 2, none⟩ (.slice none 0 0)).setCell ⟨w.heap.size, 3, none⟩ (.int .u64 0)).setCell ⟨w.heap.size, 4, none⟩ (.string R)).setCell ⟨w.heap.size, 5, none⟩ (.slice none 0 0)) = W5 := ⟨_, rfl⟩
  rw [hW5] at hput hfin ⊢
  obtain ⟨p0, p1, p2, p3, p4, p5, pl, f0, f1, f2, f3, f4, f5⟩ := val_facts hput
  have hfin' := Lib.hid (six_below (s := w.heap.size) (.int .i64 4) (.bool false) (.slice none 0 0) (.int .u64 0) (.string R) (.slice none 0 0) hfin (Nat.le_refl _))
  clear hW5 hput hfin
  go_wp2_with fail
  go_loopw [7, 21] (fun l i wr => l = .slice none 0 0 ∧ i = .int .i64 0 ∧ wr = W5) (fun _ _ _ => 0)
  case atStart => exact ⟨rfl, rfl, rfl⟩
  case round =>
    obtain ⟨rfl, rfl, rfl⟩ := hrel
    go_wp2
    exact bodyPost_ret (v := .tuple #[.agg #[.int .i64 4, .bool false, .slice none 0 0, .int .u64 0, .string R, .slice none 0 0], .slice none 0 0, .bool true]) (by simp [results, Tryz.results9, go_sem, p0, p1, p2, p3, p4, p5]) rfl ⟨rfl, hfin'.out⟩

set_option maxHeartbeats 2000000 in
set_option maxRecDepth 100000 in
theorem method_suf (s x : ByteArray) (g c : Nat) (w : World) (hs : s.size ≤ 60) (hx : x.size ≤ 60) (hg : Holds w g 27 #[.int .i64 4, .bool false, .slice none 0 0, .int .u64 0, .string x, .slice none 0 0]) :
    Calls Tryz.prog 30 #[.string s, .string ⟨#[114, 101, 109, 111, 118, 101, 115, 117, 102, 102, 105, 120]⟩, .slice (some ⟨g, 0, none⟩) 1 c] w fun e w' => e = .returned (.tuple #[tv (remS s x), .bool true]) ∧ Below w.heap.size w w' := by
  have ha := Lib.hid fun W => around_suf s x W hs hx
  generalize remS s x = R at ha ⊢
  have hg2 := hg.alloc (.cells #[.int .i64 0, .bool false, .slice none 0 0, .int .u64 0, .string ⟨#[]⟩, .slice none 0 0] 27)
  obtain ⟨q0, q1, q2, q3, q4, q5, ql, -⟩ := val_facts hg2
  clear hg hg2
  unfold tv at *
  go_enter Tryz.func30, Tryz.ntmps30
  go_wp2_with fail
  refine (ha.out _).mono ?_
  rintro e w1 ⟨rfl, hb1⟩
  obtain ⟨hk, hfin⟩ := answer R hb1
  obtain ⟨p0, p1, p2, p3, p4, p5, pl, f0, f1, f2, f3, f4, f5⟩ := val_facts hk
  have hfin' := Lib.hid hfin
  clear hk hfin hb1 q0 q1 q2 q3 q4 q5 ql
  go_wp2
  exact bodyPost_ret (v := .tuple #[.agg #[.int .i64 4, .bool false, .slice none 0 0, .int .u64 0, .string R, .slice none 0 0], .bool true]) (by simp [results, Tryz.results30, go_sem, p0, p1, p2, p3, p4, p5]) rfl ⟨rfl, hfin'.out⟩

set_option maxHeartbeats 2000000 in
set_option maxRecDepth 100000 in
theorem asked_suf (s x : ByteArray) (g c : Nat) (w : World) (hs : s.size ≤ 60) (hx : x.size ≤ 60) (hg : Holds w g 27 #[.int .i64 4, .bool false, .slice none 0 0, .int .u64 0, .string x, .slice none 0 0]) :
    Calls Tryz.prog 9 #[.string s, .string ⟨#[114, 101, 109, 111, 118, 101, 115, 117, 102, 102, 105, 120]⟩, .slice (some ⟨g, 0, none⟩) 1 c] w fun e w' => e = .returned (.tuple #[tv (remS s x), .slice none 0 0, .bool true]) ∧ Below w.heap.size w w' := by
  have ha := Lib.hid fun W h => method_suf s x g c W hs hx h
  have ha2 := Lib.hid (ha.out _ (hg.alloc (.cells #[.int .i64 0, .bool false, .slice none 0 0, .int .u64 0, .string ⟨#[]⟩, .slice none 0 0] 27)))
  clear ha hg
  generalize remS s x = R at ha2 ⊢
  unfold tv at *
  go_enter Tryz.func9, Tryz.ntmps9
  go_wp2_with fail
  refine ha2.out.mono ?_
  rintro e w1 ⟨rfl, hb1⟩
  obtain ⟨hk, hfin⟩ := answer R hb1
  obtain ⟨p0, p1, p2, p3, p4, p5, pl, f0, f1, f2, f3, f4, f5⟩ := val_facts hk
  have hput := six_put hk (.int .i64 4) (.bool false) (.slice none 0 0) (.int .u64 0) (.string R) (.slice none 0 0)
  clear hk hb1
  go_wp2_with fail
  obtain ⟨W5, hW5⟩ : ∃ W5, ((((((w1.setCell ⟨w.heap.size, 0, none⟩ (.int .i64 4)).setCell ⟨w.heap.size, 1, none⟩ (.bool false)).setCell ⟨w.heap.size, 2, none⟩ (.slice none 0 0)).setCell ⟨w.heap.size, 3, none⟩ (.int .u64 0)).setCell ⟨w.heap.size, 4, none⟩ (.string R)).setCell ⟨w.heap.size, 5, none⟩ (.slice none 0 0)) = W5 := ⟨_, rfl⟩
  rw [hW5] at hput hfin ⊢
  obtain ⟨p0, p1, p2, p3, p4, p5, pl, f0, f1, f2, f3, f4, f5⟩ := val_facts hput
  have hfin' := Lib.hid (six_below (s := w.heap.size) (.int .i64 4) (.bool false) (.slice none 0 0) (.int .u64 0) (.string R) (.slice none 0 0) hfin (Nat.le_refl _))
  clear hW5 hput hfin
  go_wp2_with fail
  go_loopw [7, 21] (fun l i wr => l = .slice none 0 0 ∧ i = .int .i64 0 ∧ wr = W5) (fun _ _ _ => 0)
  case atStart => exact ⟨rfl, rfl, rfl⟩
  case round =>
    obtain ⟨rfl, rfl, rfl⟩ := hrel
    go_wp2
    exact bodyPost_ret (v := .tuple #[.agg #[.int .i64 4, .bool false, .slice none 0 0, .int .u64 0, .string R, .slice none 0 0], .slice none 0 0, .bool true]) (by simp [results, Tryz.results9, go_sem, p0, p1, p2, p3, p4, p5]) rfl ⟨rfl, hfin'.out⟩

end Go.Proofs.YtkflmgpigidkeaaGreat.Rem
