/-
  A text without what it begins with, or ends with: the reference's side.
-/
import Derived.Test.YtkflmgpigidkeaaGreatProg
import Derived.WalkKit
import Derived.LoopTactic
import Derived.Outline
import Derived.WalkSpells
import Derived.WalkLawsBesides
import Derived.Lib.Hide
import Derived.OpenShut
import Derived.Below
namespace Go.Proofs.YtkflmgpigidkeaaGreat.Rem
open Go.RowKit Go.WideShapes
set_option linter.unusedVariables false

theorem below_one {B : Nat} {w : World} (o : Obj) (h : B ≤ w.heap.size) : Below B w (w.alloc o) := (Below.refl _ _).alloc h _
def tv (t : ByteArray) : Value := .agg #[.int .i64 4, .bool false, .slice none 0 0, .int .u64 0, .string t, .slice none 0 0]
def preName : ByteArray := ⟨#[114, 101, 109, 111, 118, 101, 112, 114, 101, 102, 105, 120]⟩
def sufName : ByteArray := ⟨#[114, 101, 109, 111, 118, 101, 115, 117, 102, 102, 105, 120]⟩

set_option maxRecDepth 100000 in
theorem textval_any (t : ByteArray) (w : World) : Calls Tryz.prog 10 #[.string t] w fun e w' => e = .returned (tv t) ∧ Below w.heap.size w w' := by
  go_enter Tryz.func10, Tryz.ntmps10
  go_wp2
  exact bodyPost_ret (v := tv t) (by simp [results, Tryz.results10, go_sem, tv]) rfl ⟨rfl, below_one _ (Nat.le_refl _)⟩

def remP (s x : ByteArray) : ByteArray := if x.size ≤ s.size ∧ ((s.extract 0 x.size).toList == x.toList) = true then s.extract x.size s.size else s
def remS (s x : ByteArray) : ByteArray := if x.size ≤ s.size ∧ ((s.extract (s.size - x.size) s.size).toList == x.toList) = true then s.extract 0 (s.size - x.size) else s

def Holds (w : World) (g : Nat) (t : TypeId) (cs : Array Value) : Prop := w.heap[g]? = some (.cells cs t (0, 0))
theorem Holds.lt {w : World} {g : Nat} {t : TypeId} {cs : Array Value} (h : Holds w g t cs) : g < w.heap.size := (Array.getElem?_eq_some_iff.1 h).1
theorem Holds.cell {w : World} {g : Nat} {t : TypeId} {cs : Array Value} (h : Holds w g t cs) (i : Nat) : w.cell? ⟨g, i, none⟩ = cs[i]? := cell_of_row w g i cs t (0, 0) h
theorem Holds.free {w : World} {g : Nat} {t : TypeId} {cs : Array Value} (h : Holds w g t cs) (i : Nat) : w.frozen? ⟨g, i, none⟩ = false := by
  have h' : w.heap[g]? = some (.cells cs t (0, 0)) := h
  simp [World.frozen?, h']
theorem Holds.made (w : World) (t : TypeId) (cs : Array Value) : Holds (w.alloc (.cells cs t)) w.heap.size t cs := heap_alloc_new w _
theorem Holds.put {w : World} {g : Nat} {t : TypeId} {cs : Array Value} (h : Holds w g t cs) (i : Nat) (u : Value) : Holds (w.setCell ⟨g, i, none⟩ u) g t (cs.setIfInBounds i u) := by
  have h' : w.heap[g]? = some (.cells cs t (0, 0)) := h
  unfold Holds World.setCell
  rw [Array.getElem?_modify, if_pos rfl, h']
  rfl
theorem Holds.apart {w : World} {g : Nat} {t : TypeId} {cs : Array Value} (h : Holds w g t cs) {p : Addr} (hp : g ≠ p.block) (u : Value) : Holds (w.setCell p u) g t cs := (Below.heap_setCell w p u g hp).trans h
theorem Holds.later {w w' : World} {g : Nat} {t : TypeId} {cs : Array Value} (h : Holds w g t cs) (hb : Below w.heap.size w w') : Holds w' g t cs := (hb.block g h.lt).trans h
theorem Holds.below {B : Nat} {w w' : World} {g : Nat} {t : TypeId} {cs : Array Value} (h : Holds w g t cs) (hb : Below B w w') (hg : g < B) : Holds w' g t cs := (hb.block g hg).trans h
theorem Holds.alloc {w : World} {g : Nat} {t : TypeId} {cs : Array Value} (h : Holds w g t cs) (o : Obj) : Holds (w.alloc o) g t cs := h.later ((Below.refl _ _).alloc (Nat.le_refl _) o)

theorem val_facts {w : World} {g : Nat} {x0 x1 x2 x3 x4 x5 : Value} (h : Holds w g 27 #[x0, x1, x2, x3, x4, x5]) :
    w.cell? ⟨g, 0, none⟩ = some x0 ∧ w.cell? ⟨g, 1, none⟩ = some x1 ∧ w.cell? ⟨g, 2, none⟩ = some x2 ∧ w.cell? ⟨g, 3, none⟩ = some x3 ∧ w.cell? ⟨g, 4, none⟩ = some x4 ∧ w.cell? ⟨g, 5, none⟩ = some x5 ∧ g < w.heap.size ∧
    w.frozen? ⟨g, 0, none⟩ = false ∧ w.frozen? ⟨g, 1, none⟩ = false ∧ w.frozen? ⟨g, 2, none⟩ = false ∧ w.frozen? ⟨g, 3, none⟩ = false ∧ w.frozen? ⟨g, 4, none⟩ = false ∧ w.frozen? ⟨g, 5, none⟩ = false := by
  have p0 := h.cell 0
  have p1 := h.cell 1
  have p2 := h.cell 2
  have p3 := h.cell 3
  have p4 := h.cell 4
  have p5 := h.cell 5
  simp at p0 p1 p2 p3 p4 p5
  exact ⟨p0, p1, p2, p3, p4, p5, h.lt, h.free 0, h.free 1, h.free 2, h.free 3, h.free 4, h.free 5⟩
theorem six_below {w w1 : World} {s B : Nat} (u0 u1 u2 u3 u4 u5 : Value) (hb : Below B w w1) (hs : B ≤ s) :
    Below B w ((((((w1.setCell ⟨s, 0, none⟩ u0).setCell ⟨s, 1, none⟩ u1).setCell ⟨s, 2, none⟩ u2).setCell ⟨s, 3, none⟩ u3).setCell ⟨s, 4, none⟩ u4).setCell ⟨s, 5, none⟩ u5) := by
  have h0 := hb.setCell (p := ⟨s, 0, none⟩) hs u0
  have h1 := h0.setCell (p := ⟨s, 1, none⟩) hs u1
  have h2 := h1.setCell (p := ⟨s, 2, none⟩) hs u2
  have h3 := h2.setCell (p := ⟨s, 3, none⟩) hs u3
  have h4 := h3.setCell (p := ⟨s, 4, none⟩) hs u4
  exact h4.setCell (p := ⟨s, 5, none⟩) hs u5
/-- the variable for an answer, and what a call has left behind -/
theorem answer {w w1 : World} (t : ByteArray) (hb : Below (w.alloc (.cells #[.int .i64 0, .bool false, .slice none 0 0, .int .u64 0, .string ⟨#[]⟩, .slice none 0 0] 27)).heap.size (w.alloc (.cells #[.int .i64 0, .bool false, .slice none 0 0, .int .u64 0, .string ⟨#[]⟩, .slice none 0 0] 27)) w1) :
    Holds w1 w.heap.size 27 #[.int .i64 0, .bool false, .slice none 0 0, .int .u64 0, .string ⟨#[]⟩, .slice none 0 0] ∧ Below w.heap.size w ((((((w1.setCell ⟨w.heap.size, 0, none⟩ (.int .i64 4)).setCell ⟨w.heap.size, 1, none⟩ (.bool false)).setCell ⟨w.heap.size, 2, none⟩ (.slice none 0 0)).setCell ⟨w.heap.size, 3, none⟩ (.int .u64 0)).setCell ⟨w.heap.size, 4, none⟩ (.string t)).setCell ⟨w.heap.size, 5, none⟩ (.slice none 0 0)) :=
  ⟨(Holds.made w _ _).later hb, six_below _ _ _ _ _ _ ((below_one _ (Nat.le_refl _)).trans (hb.mono (by simp))) (Nat.le_refl _)⟩

set_option maxHeartbeats 1000000 in
set_option maxRecDepth 100000 in
theorem around_pre (s x : ByteArray) (w : World) (hs : s.size ≤ 60) (hx : x.size ≤ 60) : Calls Tryz.prog 71 #[.string s, .string ⟨#[114, 101, 109, 111, 118, 101, 112, 114, 101, 102, 105, 120]⟩, .string x] w fun e w' => e = .returned (.tuple #[tv (remP s x), .bool true]) ∧ Below w.heap.size w w' := by
  have ht := Lib.hid fun t W => textval_any t W
  unfold tv at *
  by_cases h1 : x.size ≤ s.size
  · cases h2 : ((s.extract 0 x.size).toList == x.toList)
    · skip
      have hr : remP s x = s := by unfold remP; rw [if_neg (fun h => by rw [h2] at h; exact absurd h.2 (by decide))]
      rw [hr]
      clear hr
      go_enter Tryz.func71, Tryz.ntmps71
      go_wp2_with fail
      refine (ht.out _ _).mono ?_
      rintro e w1 ⟨rfl, hb1⟩
      obtain ⟨hk, hfin⟩ := answer (s) hb1
      obtain ⟨p0, p1, p2, p3, p4, p5, pl, f0, f1, f2, f3, f4, f5⟩ := val_facts hk
      have hfin' := Lib.hid hfin
      clear hk hfin hb1
      go_wp2
      exact bodyPost_ret (v := .tuple #[.agg #[.int .i64 4, .bool false, .slice none 0 0, .int .u64 0, .string (s), .slice none 0 0], .bool true]) (by simp [results, Tryz.results71, go_sem, p0, p1, p2, p3, p4, p5]) rfl ⟨rfl, hfin'.out⟩
    · skip
      have hr : remP s x = s.extract x.size s.size := by unfold remP; rw [if_pos ⟨h1, h2⟩]
      rw [hr]
      clear hr
      go_enter Tryz.func71, Tryz.ntmps71
      go_wp2_with fail
      refine (ht.out _ _).mono ?_
      rintro e w1 ⟨rfl, hb1⟩
      obtain ⟨hk, hfin⟩ := answer (s.extract x.size s.size) hb1
      obtain ⟨p0, p1, p2, p3, p4, p5, pl, f0, f1, f2, f3, f4, f5⟩ := val_facts hk
      have hfin' := Lib.hid hfin
      clear hk hfin hb1
      go_wp2
      exact bodyPost_ret (v := .tuple #[.agg #[.int .i64 4, .bool false, .slice none 0 0, .int .u64 0, .string (s.extract x.size s.size), .slice none 0 0], .bool true]) (by simp [results, Tryz.results71, go_sem, p0, p1, p2, p3, p4, p5]) rfl ⟨rfl, hfin'.out⟩
  · skip
    have hr : remP s x = s := by unfold remP; rw [if_neg (fun h => h1 h.1)]
    rw [hr]
    clear hr
    go_enter Tryz.func71, Tryz.ntmps71
    go_wp2_with fail
    refine (ht.out _ _).mono ?_
    rintro e w1 ⟨rfl, hb1⟩
    obtain ⟨hk, hfin⟩ := answer (s) hb1
    obtain ⟨p0, p1, p2, p3, p4, p5, pl, f0, f1, f2, f3, f4, f5⟩ := val_facts hk
    have hfin' := Lib.hid hfin
    clear hk hfin hb1
    go_wp2
    exact bodyPost_ret (v := .tuple #[.agg #[.int .i64 4, .bool false, .slice none 0 0, .int .u64 0, .string (s), .slice none 0 0], .bool true]) (by simp [results, Tryz.results71, go_sem, p0, p1, p2, p3, p4, p5]) rfl ⟨rfl, hfin'.out⟩

set_option maxHeartbeats 1000000 in
set_option maxRecDepth 100000 in
theorem around_suf (s x : ByteArray) (w : World) (hs : s.size ≤ 60) (hx : x.size ≤ 60) : Calls Tryz.prog 71 #[.string s, .string ⟨#[114, 101, 109, 111, 118, 101, 115, 117, 102, 102, 105, 120]⟩, .string x] w fun e w' => e = .returned (.tuple #[tv (remS s x), .bool true]) ∧ Below w.heap.size w w' := by
  have ht := Lib.hid fun t W => textval_any t W
  unfold tv at *
  by_cases h1 : x.size ≤ s.size
  · cases h2 : ((s.extract (s.size - x.size) s.size).toList == x.toList)
    · skip
      have hr : remS s x = s := by unfold remS; rw [if_neg (fun h => by rw [h2] at h; exact absurd h.2 (by decide))]
      rw [hr]
      clear hr
      go_enter Tryz.func71, Tryz.ntmps71
      go_wp2_with fail
      refine (ht.out _ _).mono ?_
      rintro e w1 ⟨rfl, hb1⟩
      obtain ⟨hk, hfin⟩ := answer (s) hb1
      obtain ⟨p0, p1, p2, p3, p4, p5, pl, f0, f1, f2, f3, f4, f5⟩ := val_facts hk
      have hfin' := Lib.hid hfin
      clear hk hfin hb1
      go_wp2
      exact bodyPost_ret (v := .tuple #[.agg #[.int .i64 4, .bool false, .slice none 0 0, .int .u64 0, .string (s), .slice none 0 0], .bool true]) (by simp [results, Tryz.results71, go_sem, p0, p1, p2, p3, p4, p5]) rfl ⟨rfl, hfin'.out⟩
    · skip
      have hr : remS s x = s.extract 0 (s.size - x.size) := by unfold remS; rw [if_pos ⟨h1, h2⟩]
      rw [hr]
      clear hr
      go_enter Tryz.func71, Tryz.ntmps71
      go_wp2_with fail
      refine (ht.out _ _).mono ?_
      rintro e w1 ⟨rfl, hb1⟩
      obtain ⟨hk, hfin⟩ := answer (s.extract 0 (s.size - x.size)) hb1
      obtain ⟨p0, p1, p2, p3, p4, p5, pl, f0, f1, f2, f3, f4, f5⟩ := val_facts hk
      have hfin' := Lib.hid hfin
      clear hk hfin hb1
      go_wp2
      exact bodyPost_ret (v := .tuple #[.agg #[.int .i64 4, .bool false, .slice none 0 0, .int .u64 0, .string (s.extract 0 (s.size - x.size)), .slice none 0 0], .bool true]) (by simp [results, Tryz.results71, go_sem, p0, p1, p2, p3, p4, p5]) rfl ⟨rfl, hfin'.out⟩
  · skip
    have hr : remS s x = s := by unfold remS; rw [if_neg (fun h => h1 h.1)]
    rw [hr]
    clear hr
    go_enter Tryz.func71, Tryz.ntmps71
    go_wp2_with fail
    refine (ht.out _ _).mono ?_
    rintro e w1 ⟨rfl, hb1⟩
    obtain ⟨hk, hfin⟩ := answer (s) hb1
    obtain ⟨p0, p1, p2, p3, p4, p5, pl, f0, f1, f2, f3, f4, f5⟩ := val_facts hk
    have hfin' := Lib.hid hfin
    clear hk hfin hb1
    go_wp2
    exact bodyPost_ret (v := .tuple #[.agg #[.int .i64 4, .bool false, .slice none 0 0, .int .u64 0, .string (s), .slice none 0 0], .bool true]) (by simp [results, Tryz.results71, go_sem, p0, p1, p2, p3, p4, p5]) rfl ⟨rfl, hfin'.out⟩

end Go.Proofs.YtkflmgpigidkeaaGreat.Rem
