/-
  A script's step over a list of values without parts: truth, freeze, clear. A script's step over a list of values without parts: append, set. A script's step over a list of values without parts: index, a new iterator. A script's step over a list of values without parts: with an iterator. A script's step over a list of values without parts: a slice.
-/
import Derived.Test.YtafbheamnjmfoaaGreatLsState0
namespace Go.Proofs.YtafbheamnjmfoaaGreat.Ls
open Go.RowKit Go.WideShapes Go.Proofs.YtafbheamnjmfoaaGreat.Sc Go.Proofs.YtafbheamnjmfoaaGreat.VRow
set_option linter.unusedVariables false

set_option maxHeartbeats 2000000 in
set_option maxRecDepth 100000 in
theorem on_truth (B g p n : Nat) (i j m : Int) (v vi : Value) (its : List (Option (Nat × Nat))) (st : St) (w : World) (h : Im w B g p v vi n its st) (hS : st.l.length ≤ 400) (hits : its.length ≤ 1000) (hn : n ≤ 1000) (hok : ∀ s ∈ st.l, s.ok) :
    Calls Tryz.prog 40 #[.pointer (some ⟨g, 0, none⟩), .pointer (some ⟨p, 0, none⟩), .agg (stepCs 11 i j m nil6)] w (Answered w B g p st ⟨true, decide (0 < st.l.length), 0, .sc .none⟩) := by
  have h2 := two w (stepCs 11 i j m nil6)
  obtain ⟨W, hW⟩ : ∃ W, (w.alloc (.cells (stepCs 11 i j m nil6) 62)).alloc zeroAns = W := ⟨_, rfl⟩
  rw [hW] at h2
  have hB : B ≤ w.heap.size := Nat.le_trans h.l.ge (Nat.le_of_lt h.l.hold.lt)
  have hsc := Lib.hid (pre_scalar h h2 nil6 .none trivial (nil6_sc _))
  obtain ⟨A0, c0, rfl⟩ := h.l.row.shape
  have hW' := Lib.hid hW
  obtain ⟨z, hz⟩ : ∃ z, decide (0 < st.l.length) = z := ⟨_, rfl⟩
  rw [hz]
  clear h h2 hW
  unfold stepCs zeroAns nil6 at hW'
  unfold stepCs nil6
  unfold Sc.kind V6.arr nil6 at hsc
  rcases Int.lt_or_le i 0 with hi0 | hi0
  all_goals
    try have hi1 : decide (i ≥ 0) = false := by simp; omega
    try have hi1 : decide (i ≥ 0) = true := by simp; omega
    go_enter Tryz.func40, Tryz.ntmps40
    go_wp2_with fail
    rw [hW'.out]
    clear hW'
    refine hsc.out.mono ?_
    rintro e w1 ⟨pv, rfl, hpre⟩
    have hq := Lib.hid fun q => hpre.len q
    have s0 := hold0 hpre.st_
    have s1 := hold1 hpre.st_
    have s2 := hold2 hpre.st_
    have s3 := hold3 hpre.st_
    have hsl := hpre.st_.lt
    have hpre' := Lib.hid hpre
    obtain ⟨pt, pu, rfl⟩ := hpre.pv.form
    have ht0 := fun q => ltruth_any g A0 st.l.length c0 _ _ (w1.drewN q) (hpre.drawn q).im.l.hold
    simp only [hz] at ht0
    have ht := Lib.hid ht0
    clear ht0
    clear hpre hsc
    go_wp2_with fail
    go_quiet (first | (go_at_call 70; with_reducible exact Calls.quiet_of_same (hq.out _)))
    rename_i nq
    go_wp2_with fail
    refine (ht.out _).mono ?_
    rintro e w2 ⟨rfl, rfl⟩
    obtain ⟨ha0, hae0, hfi0⟩ := (hpre'.out.drawn nq).end_ hB (hpre'.out.drawn nq).im (Fr.refl _ _ _) ⟨true, z, 0, .sc .none⟩ nil6 (nil6_av none _)
    obtain ⟨p0, p1, p2, p3, p4, p5, p6, p7, p8, p9, pl, f0, f1, f2, f3, f4, f5, f6, f7, f8, f9⟩ := ans_facts ha0
    have hae := Lib.hid hae0
    have hfi := Lib.hid hfi0
    clear ha0 hae0 hfi0 hpre'
    clear hq ht
    go_wp2
    exact bodyPost_ret (v := .agg (ansCs true z 0 nil6)) (results_cell_row rfl _ _ (w.heap.size + 1) 64 _ (0, 0) _ rfl hae.out rfl rfl rfl) rfl hfi.out
set_option maxHeartbeats 2000000 in
set_option maxRecDepth 100000 in
theorem on_freeze (B g p n : Nat) (i j m : Int) (v vi : Value) (its : List (Option (Nat × Nat))) (st : St) (w : World) (h : Im w B g p v vi n its st) (hS : st.l.length ≤ 400) (hits : its.length ≤ 1000) (hn : n ≤ 1000) (hok : ∀ s ∈ st.l, s.ok) (hfz : st.fz = false) :
    Calls Tryz.prog 40 #[.pointer (some ⟨g, 0, none⟩), .pointer (some ⟨p, 0, none⟩), .agg (stepCs 8 i j m nil6)] w (Answered w B g p { st with fz := true } .yes) := by
  have h2 := two w (stepCs 8 i j m nil6)
  obtain ⟨W, hW⟩ : ∃ W, (w.alloc (.cells (stepCs 8 i j m nil6) 62)).alloc zeroAns = W := ⟨_, rfl⟩
  rw [hW] at h2
  have hB : B ≤ w.heap.size := Nat.le_trans h.l.ge (Nat.le_of_lt h.l.hold.lt)
  have hsc := Lib.hid (pre_scalar h h2 nil6 .none trivial (nil6_sc _))
  obtain ⟨A0, c0, rfl⟩ := h.l.row.shape
  have hW' := Lib.hid hW
  clear h h2 hW
  unfold stepCs zeroAns nil6 at hW'
  unfold stepCs nil6
  unfold Sc.kind V6.arr nil6 at hsc
  rcases Int.lt_or_le i 0 with hi0 | hi0
  all_goals
    try have hi1 : decide (i ≥ 0) = false := by simp; omega
    try have hi1 : decide (i ≥ 0) = true := by simp; omega
    go_enter Tryz.func40, Tryz.ntmps40
    go_wp2_with fail
    rw [hW'.out]
    clear hW'
    refine hsc.out.mono ?_
    rintro e w1 ⟨pv, rfl, hpre⟩
    have hq := Lib.hid fun q => hpre.len q
    have s0 := hold0 hpre.st_
    have s1 := hold1 hpre.st_
    have s2 := hold2 hpre.st_
    have s3 := hold3 hpre.st_
    have hsl := hpre.st_.lt
    have hpre' := Lib.hid hpre
    obtain ⟨pt, pu, rfl⟩ := hpre.pv.form
    have hl0 := fun q => (hpre.drawn q).im.l
    simp only [hfz] at hl0
    have hc := Lib.hid fun q => lfreeze_new B g n _ st.l (w1.drewN q) (hl0 q) (by omega)
    clear hl0
    clear hpre hsc
    go_wp2_with fail
    go_quiet (first | (go_at_call 70; with_reducible exact Calls.quiet_of_same (hq.out _)))
    rename_i nq
    go_wp2_with fail
    refine (hc.out _).mono ?_
    rintro e w2 ht
    obtain ⟨him, hfr⟩ := (hpre'.out.drawn nq).frozen ht
    obtain ⟨rfl, -, -⟩ := ht
    obtain ⟨ha0, hae0, hfi0⟩ := (hpre'.out.drawn nq).end_ hB him hfr .yes nil6 (nil6_av none _)
    obtain ⟨p0, p1, p2, p3, p4, p5, p6, p7, p8, p9, pl, f0, f1, f2, f3, f4, f5, f6, f7, f8, f9⟩ := ans_facts ha0
    have hae := Lib.hid hae0
    have hfi := Lib.hid hfi0
    clear ha0 hae0 hfi0 hpre'
    clear hq hc him hfr
    go_wp2
    exact bodyPost_ret (v := .agg (ansCs true false 0 nil6)) (results_cell_row rfl _ _ (w.heap.size + 1) 64 _ (0, 0) _ rfl hae.out rfl rfl rfl) rfl hfi.out
set_option maxHeartbeats 2000000 in
set_option maxRecDepth 100000 in
theorem on_freeze_old (B g p n : Nat) (i j m : Int) (v vi : Value) (its : List (Option (Nat × Nat))) (st : St) (w : World) (h : Im w B g p v vi n its st) (hS : st.l.length ≤ 400) (hits : its.length ≤ 1000) (hn : n ≤ 1000) (hok : ∀ s ∈ st.l, s.ok) (hfz : st.fz = true) :
    Calls Tryz.prog 40 #[.pointer (some ⟨g, 0, none⟩), .pointer (some ⟨p, 0, none⟩), .agg (stepCs 8 i j m nil6)] w (Answered w B g p st .yes) := by
  have h2 := two w (stepCs 8 i j m nil6)
  obtain ⟨W, hW⟩ : ∃ W, (w.alloc (.cells (stepCs 8 i j m nil6) 62)).alloc zeroAns = W := ⟨_, rfl⟩
  rw [hW] at h2
  have hB : B ≤ w.heap.size := Nat.le_trans h.l.ge (Nat.le_of_lt h.l.hold.lt)
  have hsc := Lib.hid (pre_scalar h h2 nil6 .none trivial (nil6_sc _))
  obtain ⟨A0, c0, rfl⟩ := h.l.row.shape
  have hW' := Lib.hid hW
  clear h h2 hW
  unfold stepCs zeroAns nil6 at hW'
  unfold stepCs nil6
  unfold Sc.kind V6.arr nil6 at hsc
  rcases Int.lt_or_le i 0 with hi0 | hi0
  all_goals
    try have hi1 : decide (i ≥ 0) = false := by simp; omega
    try have hi1 : decide (i ≥ 0) = true := by simp; omega
    go_enter Tryz.func40, Tryz.ntmps40
    go_wp2_with fail
    rw [hW'.out]
    clear hW'
    refine hsc.out.mono ?_
    rintro e w1 ⟨pv, rfl, hpre⟩
    have hq := Lib.hid fun q => hpre.len q
    have s0 := hold0 hpre.st_
    have s1 := hold1 hpre.st_
    have s2 := hold2 hpre.st_
    have s3 := hold3 hpre.st_
    have hsl := hpre.st_.lt
    have hpre' := Lib.hid hpre
    obtain ⟨pt, pu, rfl⟩ := hpre.pv.form
    have hl0 := fun q => (hpre.drawn q).im.l.hold
    simp only [hfz] at hl0
    have hc := Lib.hid fun q => lfreeze_old g _ _ (w1.drewN q) (hl0 q)
    clear hl0
    clear hpre hsc
    go_wp2_with fail
    go_quiet (first | (go_at_call 70; with_reducible exact Calls.quiet_of_same (hq.out _)))
    rename_i nq
    go_wp2_with fail
    refine (hc.out _).mono ?_
    rintro e w2 ⟨rfl, rfl⟩
    obtain ⟨ha0, hae0, hfi0⟩ := (hpre'.out.drawn nq).end_ hB (hpre'.out.drawn nq).im (Fr.refl _ _ _) .yes nil6 (nil6_av none _)
    obtain ⟨p0, p1, p2, p3, p4, p5, p6, p7, p8, p9, pl, f0, f1, f2, f3, f4, f5, f6, f7, f8, f9⟩ := ans_facts ha0
    have hae := Lib.hid hae0
    have hfi := Lib.hid hfi0
    clear ha0 hae0 hfi0 hpre'
    clear hq hc
    go_wp2
    exact bodyPost_ret (v := .agg (ansCs true false 0 nil6)) (results_cell_row rfl _ _ (w.heap.size + 1) 64 _ (0, 0) _ rfl hae.out rfl rfl rfl) rfl hfi.out
set_option maxHeartbeats 2000000 in
set_option maxRecDepth 100000 in
theorem on_clear (B g p n : Nat) (i j m : Int) (v vi : Value) (its : List (Option (Nat × Nat))) (st : St) (w : World) (h : Im w B g p v vi n its st) (hS : st.l.length ≤ 400) (hits : its.length ≤ 1000) (hn : n ≤ 1000) (hok : ∀ s ∈ st.l, s.ok) (hf : st.fixed = false) :
    Calls Tryz.prog 40 #[.pointer (some ⟨g, 0, none⟩), .pointer (some ⟨p, 0, none⟩), .agg (stepCs 3 i j m nil6)] w (Answered w B g p { st with l := [] } .yes) := by
  have h2 := two w (stepCs 3 i j m nil6)
  obtain ⟨W, hW⟩ : ∃ W, (w.alloc (.cells (stepCs 3 i j m nil6) 62)).alloc zeroAns = W := ⟨_, rfl⟩
  rw [hW] at h2
  have hB : B ≤ w.heap.size := Nat.le_trans h.l.ge (Nat.le_of_lt h.l.hold.lt)
  have hsc := Lib.hid (pre_scalar h h2 nil6 .none trivial (nil6_sc _))
  obtain ⟨A0, c0, rfl⟩ := h.l.row.shape
  have hW' := Lib.hid hW
  clear h h2 hW
  unfold stepCs zeroAns nil6 at hW'
  unfold stepCs nil6
  unfold Sc.kind V6.arr nil6 at hsc
  rcases Int.lt_or_le i 0 with hi0 | hi0
  all_goals
    try have hi1 : decide (i ≥ 0) = false := by simp; omega
    try have hi1 : decide (i ≥ 0) = true := by simp; omega
    go_enter Tryz.func40, Tryz.ntmps40
    go_wp2_with fail
    rw [hW'.out]
    clear hW'
    refine hsc.out.mono ?_
    rintro e w1 ⟨pv, rfl, hpre⟩
    have hq := Lib.hid fun q => hpre.len q
    have s0 := hold0 hpre.st_
    have s1 := hold1 hpre.st_
    have s2 := hold2 hpre.st_
    have s3 := hold3 hpre.st_
    have hsl := hpre.st_.lt
    have hpre' := Lib.hid hpre
    obtain ⟨pt, pu, rfl⟩ := hpre.pv.form
    obtain ⟨hfz, hn0⟩ := hpre.cnt.1 hf
    subst hn0
    have hl0 := fun q => (hpre.drawn q).im.l
    simp only [hfz] at hl0
    have hc := Lib.hid fun q => lclear_any B g _ st.l (w1.drewN q) (hl0 q) (by omega)
    clear hl0
    clear hpre hsc
    go_wp2_with fail
    go_quiet (first | (go_at_call 70; with_reducible exact Calls.quiet_of_same (hq.out _)))
    rename_i nq
    go_wp2_with fail
    refine (hc.out _).mono ?_
    rintro e w2 ht
    obtain ⟨v', him, hfr⟩ := (hpre'.out.drawn nq).turned hf ht
    obtain ⟨rfl, -, -⟩ := ht
    obtain ⟨ha0, hae0, hfi0⟩ := (hpre'.out.drawn nq).end_ hB him hfr .yes nil6 (nil6_av none _)
    obtain ⟨p0, p1, p2, p3, p4, p5, p6, p7, p8, p9, pl, f0, f1, f2, f3, f4, f5, f6, f7, f8, f9⟩ := ans_facts ha0
    have hae := Lib.hid hae0
    have hfi := Lib.hid hfi0
    clear ha0 hae0 hfi0 hpre'
    clear hq hc him hfr
    go_wp2
    exact bodyPost_ret (v := .agg (ansCs true false 0 nil6)) (results_cell_row rfl _ _ (w.heap.size + 1) 64 _ (0, 0) _ rfl hae.out rfl rfl rfl) rfl hfi.out
set_option maxHeartbeats 2000000 in
set_option maxRecDepth 100000 in
theorem on_clear_no (B g p n : Nat) (i j m : Int) (v vi : Value) (its : List (Option (Nat × Nat))) (st : St) (w : World) (h : Im w B g p v vi n its st) (hS : st.l.length ≤ 400) (hits : its.length ≤ 1000) (hn : n ≤ 1000) (hok : ∀ s ∈ st.l, s.ok) (hf : st.fixed = true) :
    Calls Tryz.prog 40 #[.pointer (some ⟨g, 0, none⟩), .pointer (some ⟨p, 0, none⟩), .agg (stepCs 3 i j m nil6)] w (Answered w B g p st .no) := by
  have h2 := two w (stepCs 3 i j m nil6)
  obtain ⟨W, hW⟩ : ∃ W, (w.alloc (.cells (stepCs 3 i j m nil6) 62)).alloc zeroAns = W := ⟨_, rfl⟩
  rw [hW] at h2
  have hB : B ≤ w.heap.size := Nat.le_trans h.l.ge (Nat.le_of_lt h.l.hold.lt)
  have hsc := Lib.hid (pre_scalar h h2 nil6 .none trivial (nil6_sc _))
  obtain ⟨A0, c0, rfl⟩ := h.l.row.shape
  have hW' := Lib.hid hW
  clear h h2 hW
  unfold stepCs zeroAns nil6 at hW'
  unfold stepCs nil6
  unfold Sc.kind V6.arr nil6 at hsc
  rcases Int.lt_or_le i 0 with hi0 | hi0
  all_goals
    try have hi1 : decide (i ≥ 0) = false := by simp; omega
    try have hi1 : decide (i ≥ 0) = true := by simp; omega
    go_enter Tryz.func40, Tryz.ntmps40
    go_wp2_with fail
    rw [hW'.out]
    clear hW'
    refine hsc.out.mono ?_
    rintro e w1 ⟨pv, rfl, hpre⟩
    have hq := Lib.hid fun q => hpre.len q
    have s0 := hold0 hpre.st_
    have s1 := hold1 hpre.st_
    have s2 := hold2 hpre.st_
    have s3 := hold3 hpre.st_
    have hsl := hpre.st_.lt
    have hpre' := Lib.hid hpre
    obtain ⟨pt, pu, rfl⟩ := hpre.pv.form
    have hf2 := hpre.cnt.2 hf
    have hc := Lib.hid fun q => lclear_no g _ st.fz n (w1.drewN q) (hpre.drawn q).im.l.hold hf2
    have hBw := hpre.le hB
    clear hpre hsc
    go_wp2_with fail
    go_quiet (first | (go_at_call 70; with_reducible exact Calls.quiet_of_same (hq.out _)))
    rename_i nq
    go_wp2_with fail
    refine (hc.out _).mono ?_
    rintro e w2 ⟨⟨ty, u, rfl⟩, hb⟩
    obtain ⟨ha0, hae0, hfi0⟩ := (hpre'.out.drawn nq).end_ hB ((hpre'.out.drawn nq).im.later hb) (Fr.of_below hb hBw) .no nil6 (nil6_av none _)
    obtain ⟨p0, p1, p2, p3, p4, p5, p6, p7, p8, p9, pl, f0, f1, f2, f3, f4, f5, f6, f7, f8, f9⟩ := ans_facts ha0
    have hae := Lib.hid hae0
    have hfi := Lib.hid hfi0
    clear ha0 hae0 hfi0 hpre'
    clear hq hc hb
    go_wp2
    exact bodyPost_ret (v := .agg (ansCs false false 0 nil6)) (results_cell_row rfl _ _ (w.heap.size + 1) 64 _ (0, 0) _ rfl hae.out rfl rfl rfl) rfl hfi.out
end Go.Proofs.YtafbheamnjmfoaaGreat.Ls

namespace Go.Proofs.YtafbheamnjmfoaaGreat.Ls
open Go.RowKit Go.WideShapes Go.Proofs.YtafbheamnjmfoaaGreat.Sc Go.Proofs.YtafbheamnjmfoaaGreat.VRow
set_option linter.unusedVariables false

set_option maxHeartbeats 2000000 in
set_option maxRecDepth 100000 in
theorem on_append (B g p n : Nat) (i j m : Int) (y : V6) (a : Sc) (v vi : Value) (its : List (Option (Nat × Nat))) (st : St) (w : World) (h : Im w B g p v vi n its st) (hS : st.l.length ≤ 400) (hits : its.length ≤ 1000) (hn : n ≤ 1000) (hok : ∀ s ∈ st.l, s.ok) (ha : a.ok) (hy : IsSc w y a) (hf : st.fixed = false) :
    Calls Tryz.prog 40 #[.pointer (some ⟨g, 0, none⟩), .pointer (some ⟨p, 0, none⟩), .agg (stepCs 0 i j m y)] w (Answered w B g p { st with l := st.l ++ [a] } .yes) := by
  obtain ⟨yn, ya, yl, yc, yb, yt, rfl⟩ := hy.form
  have h2 := two w (stepCs 0 i j m ⟨.int .i64 a.kind, .bool yn, .slice ya yl yc, .int .u64 yb, .string yt, .slice none 0 0⟩)
  obtain ⟨W, hW⟩ : ∃ W, (w.alloc (.cells (stepCs 0 i j m ⟨.int .i64 a.kind, .bool yn, .slice ya yl yc, .int .u64 yb, .string yt, .slice none 0 0⟩) 62)).alloc zeroAns = W := ⟨_, rfl⟩
  rw [hW] at h2
  have hB : B ≤ w.heap.size := Nat.le_trans h.l.ge (Nat.le_of_lt h.l.hold.lt)
  have hsc := Lib.hid (pre_scalar h h2 ⟨.int .i64 a.kind, .bool yn, .slice ya yl yc, .int .u64 yb, .string yt, .slice none 0 0⟩ a ha (hy.kept (Kept.of_below h2.below)))
  obtain ⟨A0, c0, rfl⟩ := h.l.row.shape
  have hW' := Lib.hid hW
  clear h h2 hW
  unfold stepCs zeroAns at hW'
  unfold stepCs
  unfold V6.arr at hsc
  rcases Int.lt_or_le i 0 with hi0 | hi0
  all_goals
    try have hi1 : decide (i ≥ 0) = false := by simp; omega
    try have hi1 : decide (i ≥ 0) = true := by simp; omega
    go_enter Tryz.func40, Tryz.ntmps40
    go_wp2_with fail
    rw [hW'.out]
    clear hW'
    refine hsc.out.mono ?_
    rintro e w1 ⟨pv, rfl, hpre⟩
    have hq := Lib.hid fun q => hpre.len q
    have s0 := hold0 hpre.st_
    have s1 := hold1 hpre.st_
    have s2 := hold2 hpre.st_
    have s3 := hold3 hpre.st_
    have hsl := hpre.st_.lt
    have hpre' := Lib.hid hpre
    obtain ⟨pt, pu, rfl⟩ := hpre.pv.form
    obtain ⟨hfz, hn0⟩ := hpre.cnt.1 hf
    subst hn0
    have hl0 := fun q => (hpre.drawn q).im.l
    simp only [hfz] at hl0
    have hc := Lib.hid fun q => lappend_any B g _ _ st.l a (w1.drewN q) (hl0 q) (hpre.drawn q).pv (by omega)
    clear hl0
    clear hpre hsc
    go_wp2_with fail
    go_quiet (first | (go_at_call 70; with_reducible exact Calls.quiet_of_same (hq.out _)))
    rename_i nq
    go_wp2_with fail
    refine (hc.out _).mono ?_
    rintro e w2 ht
    obtain ⟨v', him, hfr⟩ := (hpre'.out.drawn nq).turned hf ht
    obtain ⟨rfl, -, -⟩ := ht
    obtain ⟨ha0, hae0, hfi0⟩ := (hpre'.out.drawn nq).end_ hB him hfr .yes nil6 (nil6_av none _)
    obtain ⟨p0, p1, p2, p3, p4, p5, p6, p7, p8, p9, pl, f0, f1, f2, f3, f4, f5, f6, f7, f8, f9⟩ := ans_facts ha0
    have hae := Lib.hid hae0
    have hfi := Lib.hid hfi0
    clear ha0 hae0 hfi0 hpre'
    clear hq hc him hfr
    go_wp2
    exact bodyPost_ret (v := .agg (ansCs true false 0 nil6)) (results_cell_row rfl _ _ (w.heap.size + 1) 64 _ (0, 0) _ rfl hae.out rfl rfl rfl) rfl hfi.out
set_option maxHeartbeats 2000000 in
set_option maxRecDepth 100000 in
theorem on_append_no (B g p n : Nat) (i j m : Int) (y : V6) (a : Sc) (v vi : Value) (its : List (Option (Nat × Nat))) (st : St) (w : World) (h : Im w B g p v vi n its st) (hS : st.l.length ≤ 400) (hits : its.length ≤ 1000) (hn : n ≤ 1000) (hok : ∀ s ∈ st.l, s.ok) (ha : a.ok) (hy : IsSc w y a) (hf : st.fixed = true) :
    Calls Tryz.prog 40 #[.pointer (some ⟨g, 0, none⟩), .pointer (some ⟨p, 0, none⟩), .agg (stepCs 0 i j m y)] w (Answered w B g p st .no) := by
  obtain ⟨yn, ya, yl, yc, yb, yt, rfl⟩ := hy.form
  have h2 := two w (stepCs 0 i j m ⟨.int .i64 a.kind, .bool yn, .slice ya yl yc, .int .u64 yb, .string yt, .slice none 0 0⟩)
  obtain ⟨W, hW⟩ : ∃ W, (w.alloc (.cells (stepCs 0 i j m ⟨.int .i64 a.kind, .bool yn, .slice ya yl yc, .int .u64 yb, .string yt, .slice none 0 0⟩) 62)).alloc zeroAns = W := ⟨_, rfl⟩
  rw [hW] at h2
  have hB : B ≤ w.heap.size := Nat.le_trans h.l.ge (Nat.le_of_lt h.l.hold.lt)
  have hsc := Lib.hid (pre_scalar h h2 ⟨.int .i64 a.kind, .bool yn, .slice ya yl yc, .int .u64 yb, .string yt, .slice none 0 0⟩ a ha (hy.kept (Kept.of_below h2.below)))
  obtain ⟨A0, c0, rfl⟩ := h.l.row.shape
  have hW' := Lib.hid hW
  clear h h2 hW
  unfold stepCs zeroAns at hW'
  unfold stepCs
  unfold V6.arr at hsc
  rcases Int.lt_or_le i 0 with hi0 | hi0
  all_goals
    try have hi1 : decide (i ≥ 0) = false := by simp; omega
    try have hi1 : decide (i ≥ 0) = true := by simp; omega
    go_enter Tryz.func40, Tryz.ntmps40
    go_wp2_with fail
    rw [hW'.out]
    clear hW'
    refine hsc.out.mono ?_
    rintro e w1 ⟨pv, rfl, hpre⟩
    have hq := Lib.hid fun q => hpre.len q
    have s0 := hold0 hpre.st_
    have s1 := hold1 hpre.st_
    have s2 := hold2 hpre.st_
    have s3 := hold3 hpre.st_
    have hsl := hpre.st_.lt
    have hpre' := Lib.hid hpre
    obtain ⟨pt, pu, rfl⟩ := hpre.pv.form
    have hf2 := hpre.cnt.2 hf
    have hc := Lib.hid fun q y => lappend_no g _ y st.fz n (w1.drewN q) (hpre.drawn q).im.l.hold hf2
    have hBw := hpre.le hB
    clear hpre hsc
    go_wp2_with fail
    go_quiet (first | (go_at_call 70; with_reducible exact Calls.quiet_of_same (hq.out _)))
    rename_i nq
    go_wp2_with fail
    refine (hc.out _ _).mono ?_
    rintro e w2 ⟨⟨ty, u, rfl⟩, hb⟩
    obtain ⟨ha0, hae0, hfi0⟩ := (hpre'.out.drawn nq).end_ hB ((hpre'.out.drawn nq).im.later hb) (Fr.of_below hb hBw) .no nil6 (nil6_av none _)
    obtain ⟨p0, p1, p2, p3, p4, p5, p6, p7, p8, p9, pl, f0, f1, f2, f3, f4, f5, f6, f7, f8, f9⟩ := ans_facts ha0
    have hae := Lib.hid hae0
    have hfi := Lib.hid hfi0
    clear ha0 hae0 hfi0 hpre'
    clear hq hc hb
    go_wp2
    exact bodyPost_ret (v := .agg (ansCs false false 0 nil6)) (results_cell_row rfl _ _ (w.heap.size + 1) 64 _ (0, 0) _ rfl hae.out rfl rfl rfl) rfl hfi.out
set_option maxHeartbeats 2000000 in
set_option maxRecDepth 100000 in
theorem on_set (B g p n : Nat) (i : Nat) (j m : Int) (y : V6) (a : Sc) (v vi : Value) (its : List (Option (Nat × Nat))) (st : St) (w : World) (h : Im w B g p v vi n its st) (hS : st.l.length ≤ 400) (hits : its.length ≤ 1000) (hn : n ≤ 1000) (hok : ∀ s ∈ st.l, s.ok) (ha : a.ok) (hy : IsSc w y a) (hi : i < st.l.length) (hf : st.fixed = false) :
    Calls Tryz.prog 40 #[.pointer (some ⟨g, 0, none⟩), .pointer (some ⟨p, 0, none⟩), .agg (stepCs 1 i j m y)] w (Answered w B g p { st with l := st.l.set i a } .yes) := by
  obtain ⟨yn, ya, yl, yc, yb, yt, rfl⟩ := hy.form
  have h2 := two w (stepCs 1 i j m ⟨.int .i64 a.kind, .bool yn, .slice ya yl yc, .int .u64 yb, .string yt, .slice none 0 0⟩)
  obtain ⟨W, hW⟩ : ∃ W, (w.alloc (.cells (stepCs 1 i j m ⟨.int .i64 a.kind, .bool yn, .slice ya yl yc, .int .u64 yb, .string yt, .slice none 0 0⟩) 62)).alloc zeroAns = W := ⟨_, rfl⟩
  rw [hW] at h2
  have hB : B ≤ w.heap.size := Nat.le_trans h.l.ge (Nat.le_of_lt h.l.hold.lt)
  have hsc := Lib.hid (pre_scalar h h2 ⟨.int .i64 a.kind, .bool yn, .slice ya yl yc, .int .u64 yb, .string yt, .slice none 0 0⟩ a ha (hy.kept (Kept.of_below h2.below)))
  obtain ⟨A0, c0, rfl⟩ := h.l.row.shape
  have hW' := Lib.hid hW
  have hd1 : decide ((i : Int) ≥ 0) = true := by simp
  have hd2 : decide (i < st.l.length) = true := by simpa using hi
  have hi3 : (i : Int) < st.l.length := by omega
  clear h h2 hW
  unfold stepCs zeroAns at hW'
  unfold stepCs
  unfold V6.arr at hsc
  go_enter Tryz.func40, Tryz.ntmps40
  go_wp2_with fail
  rw [hW'.out]
  clear hW'
  refine hsc.out.mono ?_
  rintro e w1 ⟨pv, rfl, hpre⟩
  have hq := Lib.hid fun q => hpre.len q
  have s0 := hold0 hpre.st_
  have s1 := hold1 hpre.st_
  have s2 := hold2 hpre.st_
  have s3 := hold3 hpre.st_
  have hsl := hpre.st_.lt
  have hpre' := Lib.hid hpre
  obtain ⟨pt, pu, rfl⟩ := hpre.pv.form
  obtain ⟨hfz, hn0⟩ := hpre.cnt.1 hf
  subst hn0
  have hl0 := fun q => (hpre.drawn q).im.l
  simp only [hfz] at hl0
  have hc := Lib.hid fun q => lset_any B g i _ _ st.l a (w1.drewN q) (hl0 q) (hpre.drawn q).pv (by omega) hi
  clear hl0
  clear hpre hsc
  go_wp2_with fail
  go_quiet (first | (go_at_call 70; with_reducible exact Calls.quiet_of_same (hq.out _)))
  rename_i nq
  go_wp2_with fail
  refine (hc.out _).mono ?_
  rintro e w2 ht
  obtain ⟨v', him, hfr⟩ := (hpre'.out.drawn nq).turned hf ht
  obtain ⟨rfl, -, -⟩ := ht
  obtain ⟨ha0, hae0, hfi0⟩ := (hpre'.out.drawn nq).end_ hB him hfr .yes nil6 (nil6_av none _)
  obtain ⟨p0, p1, p2, p3, p4, p5, p6, p7, p8, p9, pl, f0, f1, f2, f3, f4, f5, f6, f7, f8, f9⟩ := ans_facts ha0
  have hae := Lib.hid hae0
  have hfi := Lib.hid hfi0
  clear ha0 hae0 hfi0 hpre'
  clear hq hc him hfr
  go_wp2
  exact bodyPost_ret (v := .agg (ansCs true false 0 nil6)) (results_cell_row rfl _ _ (w.heap.size + 1) 64 _ (0, 0) _ rfl hae.out rfl rfl rfl) rfl hfi.out
set_option maxHeartbeats 2000000 in
set_option maxRecDepth 100000 in
theorem on_set_no (B g p n : Nat) (i : Nat) (j m : Int) (y : V6) (a : Sc) (v vi : Value) (its : List (Option (Nat × Nat))) (st : St) (w : World) (h : Im w B g p v vi n its st) (hS : st.l.length ≤ 400) (hits : its.length ≤ 1000) (hn : n ≤ 1000) (hok : ∀ s ∈ st.l, s.ok) (ha : a.ok) (hy : IsSc w y a) (hi : i < st.l.length) (hf : st.fixed = true) :
    Calls Tryz.prog 40 #[.pointer (some ⟨g, 0, none⟩), .pointer (some ⟨p, 0, none⟩), .agg (stepCs 1 i j m y)] w (Answered w B g p st .no) := by
  obtain ⟨yn, ya, yl, yc, yb, yt, rfl⟩ := hy.form
  have h2 := two w (stepCs 1 i j m ⟨.int .i64 a.kind, .bool yn, .slice ya yl yc, .int .u64 yb, .string yt, .slice none 0 0⟩)
  obtain ⟨W, hW⟩ : ∃ W, (w.alloc (.cells (stepCs 1 i j m ⟨.int .i64 a.kind, .bool yn, .slice ya yl yc, .int .u64 yb, .string yt, .slice none 0 0⟩) 62)).alloc zeroAns = W := ⟨_, rfl⟩
  rw [hW] at h2
  have hB : B ≤ w.heap.size := Nat.le_trans h.l.ge (Nat.le_of_lt h.l.hold.lt)
  have hsc := Lib.hid (pre_scalar h h2 ⟨.int .i64 a.kind, .bool yn, .slice ya yl yc, .int .u64 yb, .string yt, .slice none 0 0⟩ a ha (hy.kept (Kept.of_below h2.below)))
  obtain ⟨A0, c0, rfl⟩ := h.l.row.shape
  have hW' := Lib.hid hW
  have hd1 : decide ((i : Int) ≥ 0) = true := by simp
  have hd2 : decide (i < st.l.length) = true := by simpa using hi
  have hi3 : (i : Int) < st.l.length := by omega
  clear h h2 hW
  unfold stepCs zeroAns at hW'
  unfold stepCs
  unfold V6.arr at hsc
  go_enter Tryz.func40, Tryz.ntmps40
  go_wp2_with fail
  rw [hW'.out]
  clear hW'
  refine hsc.out.mono ?_
  rintro e w1 ⟨pv, rfl, hpre⟩
  have hq := Lib.hid fun q => hpre.len q
  have s0 := hold0 hpre.st_
  have s1 := hold1 hpre.st_
  have s2 := hold2 hpre.st_
  have s3 := hold3 hpre.st_
  have hsl := hpre.st_.lt
  have hpre' := Lib.hid hpre
  obtain ⟨pt, pu, rfl⟩ := hpre.pv.form
  have hf2 := hpre.cnt.2 hf
  have hc := Lib.hid fun q y => lset_no g _ y i st.fz n (w1.drewN q) (hpre.drawn q).im.l.hold hf2
  have hBw := hpre.le hB
  clear hpre hsc
  go_wp2_with fail
  go_quiet (first | (go_at_call 70; with_reducible exact Calls.quiet_of_same (hq.out _)))
  rename_i nq
  go_wp2_with fail
  refine (hc.out _ _).mono ?_
  rintro e w2 ⟨⟨ty, u, rfl⟩, hb⟩
  obtain ⟨ha0, hae0, hfi0⟩ := (hpre'.out.drawn nq).end_ hB ((hpre'.out.drawn nq).im.later hb) (Fr.of_below hb hBw) .no nil6 (nil6_av none _)
  obtain ⟨p0, p1, p2, p3, p4, p5, p6, p7, p8, p9, pl, f0, f1, f2, f3, f4, f5, f6, f7, f8, f9⟩ := ans_facts ha0
  have hae := Lib.hid hae0
  have hfi := Lib.hid hfi0
  clear ha0 hae0 hfi0 hpre'
  clear hq hc hb
  go_wp2
  exact bodyPost_ret (v := .agg (ansCs false false 0 nil6)) (results_cell_row rfl _ _ (w.heap.size + 1) 64 _ (0, 0) _ rfl hae.out rfl rfl rfl) rfl hfi.out
end Go.Proofs.YtafbheamnjmfoaaGreat.Ls

namespace Go.Proofs.YtafbheamnjmfoaaGreat.Ls
open Go.RowKit Go.WideShapes Go.Proofs.YtafbheamnjmfoaaGreat.Sc Go.Proofs.YtafbheamnjmfoaaGreat.VRow
set_option linter.unusedVariables false

set_option maxHeartbeats 2000000 in
set_option maxRecDepth 100000 in
theorem on_index (B g p n : Nat) (i : Nat) (j m : Int) (v vi : Value) (its : List (Option (Nat × Nat))) (st : St) (w : World) (h : Im w B g p v vi n its st) (hS : st.l.length ≤ 400) (hits : its.length ≤ 1000) (hn : n ≤ 1000) (hok : ∀ s ∈ st.l, s.ok) (hi : i < st.l.length) :
    Calls Tryz.prog 40 #[.pointer (some ⟨g, 0, none⟩), .pointer (some ⟨p, 0, none⟩), .agg (stepCs 2 i j m nil6)] w (Answered w B g p st ⟨true, false, 0, .sc st.l[i]⟩) := by
  have h2 := two w (stepCs 2 i j m nil6)
  obtain ⟨W, hW⟩ : ∃ W, (w.alloc (.cells (stepCs 2 i j m nil6) 62)).alloc zeroAns = W := ⟨_, rfl⟩
  rw [hW] at h2
  have hB : B ≤ w.heap.size := Nat.le_trans h.l.ge (Nat.le_of_lt h.l.hold.lt)
  have hsc := Lib.hid (pre_scalar h h2 nil6 .none trivial (nil6_sc _))
  obtain ⟨A0, c0, rfl⟩ := h.l.row.shape
  have hW' := Lib.hid hW
  have hd1 : decide ((i : Int) ≥ 0) = true := by simp
  have hd2 : decide (i < st.l.length) = true := by simpa using hi
  have hi3 : (i : Int) < st.l.length := by omega
  have hsok := hok _ (List.getElem_mem hi)
  obtain ⟨s, hs⟩ : ∃ s, st.l[i] = s := ⟨_, rfl⟩
  rw [hs] at hsok ⊢
  clear h h2 hW
  unfold stepCs zeroAns nil6 at hW'
  unfold stepCs nil6
  unfold Sc.kind V6.arr nil6 at hsc
  go_enter Tryz.func40, Tryz.ntmps40
  go_wp2_with fail
  rw [hW'.out]
  clear hW'
  refine hsc.out.mono ?_
  rintro e w1 ⟨pv, rfl, hpre⟩
  have hq := Lib.hid fun q => hpre.len q
  have s0 := hold0 hpre.st_
  have s1 := hold1 hpre.st_
  have s2 := hold2 hpre.st_
  have s3 := hold3 hpre.st_
  have hsl := hpre.st_.lt
  have hpre' := Lib.hid hpre
  obtain ⟨pt, pu, rfl⟩ := hpre.pv.form
  obtain ⟨b, cap, pv2, he, hbl, hBb, hcap, hpc, hpf, hpv2⟩ := hpre.im.l.row.at_ hi
  simp only [Value.slice.injEq, true_and] at he
  obtain ⟨rfl, rfl⟩ := he
  rw [hs] at hpv2
  have hix := Lib.hid fun q => lindex_any g b st.l.length _ _ _ i pv2 (w1.drewN q) (hpre.drawn q).im.l.hold hi (by omega) hpc
  have htl := Lib.hid fun q => tell_any pv2 s (w1.drewN q) hsok (hpv2.kept (fun _ _ _ _ _ hh => hh))
  have hBw := hpre.le hB
  obtain ⟨vt, vu, rfl⟩ := hpv2.form
  clear hpc hpf hpv2
  clear hpre hsc
  go_wp2_with fail
  go_quiet (first | (go_at_call 70; with_reducible exact Calls.quiet_of_same (hq.out _)))
  rename_i nq
  go_wp2_with fail
  refine (hix.out _).mono ?_
  rintro e w2 ⟨rfl, rfl⟩
  go_wp2_with fail
  refine (htl.out _).mono ?_
  rintro e w2 ⟨⟨y, rfl, hy⟩, hb⟩
  obtain ⟨ha0, hae0, hfi0⟩ := (hpre'.out.drawn nq).end_ hB ((hpre'.out.drawn nq).im.later hb) (Fr.of_below hb hBw) ⟨true, false, 0, .sc s⟩ y hy
  obtain ⟨p0, p1, p2, p3, p4, p5, p6, p7, p8, p9, pl, f0, f1, f2, f3, f4, f5, f6, f7, f8, f9⟩ := ans_facts ha0
  have hae := Lib.hid hae0
  have hfi := Lib.hid hfi0
  clear ha0 hae0 hfi0 hpre'
  obtain ⟨yn, ya, yl, yc, yb, yt, rfl⟩ := hy.form
  clear hq hix htl hb hy
  unfold V6.arr
  go_wp2
  exact bodyPost_ret (v := .agg (ansCs true false 0 _)) (results_cell_row rfl _ _ (w.heap.size + 1) 64 _ (0, 0) _ rfl hae.out rfl rfl rfl) rfl hfi.out
set_option maxHeartbeats 2000000 in
set_option maxRecDepth 100000 in
theorem on_open (B g p n : Nat) (i j m : Int) (v vi : Value) (its : List (Option (Nat × Nat))) (st : St) (w : World) (h : Im w B g p v vi n its st) (hS : st.l.length ≤ 400) (hits : its.length ≤ 1000) (hn : n ≤ 1000) (hok : ∀ s ∈ st.l, s.ok) :
    Calls Tryz.prog 40 #[.pointer (some ⟨g, 0, none⟩), .pointer (some ⟨p, 0, none⟩), .agg (stepCs 5 i j m nil6)] w (Answered w B g p { st with at_ := st.at_ ++ [some 0] } ⟨true, false, st.at_.length, .sc .none⟩) := by
  have h2 := two w (stepCs 5 i j m nil6)
  obtain ⟨W, hW⟩ : ∃ W, (w.alloc (.cells (stepCs 5 i j m nil6) 62)).alloc zeroAns = W := ⟨_, rfl⟩
  rw [hW] at h2
  have hB : B ≤ w.heap.size := Nat.le_trans h.l.ge (Nat.le_of_lt h.l.hold.lt)
  have hsc := Lib.hid (pre_scalar h h2 nil6 .none trivial (nil6_sc _))
  obtain ⟨A0, c0, rfl⟩ := h.l.row.shape
  have hW' := Lib.hid hW
  clear h h2 hW
  unfold stepCs zeroAns nil6 at hW'
  unfold stepCs nil6
  unfold Sc.kind V6.arr nil6 at hsc
  rcases Int.lt_or_le i 0 with hi0 | hi0
  all_goals
    try have hi1 : decide (i ≥ 0) = false := by simp; omega
    try have hi1 : decide (i ≥ 0) = true := by simp; omega
    go_enter Tryz.func40, Tryz.ntmps40
    go_wp2_with fail
    rw [hW'.out]
    clear hW'
    refine hsc.out.mono ?_
    rintro e w1 ⟨pv, rfl, hpre⟩
    have hq := Lib.hid fun q => hpre.len q
    have s0 := hold0 hpre.st_
    have s1 := hold1 hpre.st_
    have s2 := hold2 hpre.st_
    have s3 := hold3 hpre.st_
    have hsl := hpre.st_.lt
    have hpre' := Lib.hid hpre
    obtain ⟨pt, pu, rfl⟩ := hpre.pv.form
    have hit := Lib.hid fun q => it_any (hpre.drawn q).im (by omega)
    have hop := Lib.hid fun b vi W h1 h2 h3 h4 => open_any B p g b vi its W h1 hits h2 h3 h4
    have hBw := hpre.le hB
    have hat := hpre.im.at_
    clear hpre hsc
    go_wp2_with fail
    go_quiet (first | (go_at_call 70; with_reducible exact Calls.quiet_of_same (hq.out _)))
    rename_i nq
    go_wp2_with fail
    refine (hit.out _).mono ?_
    rintro e w2 ⟨rfl, hits2, ⟨n2, hl2, hc2, hle2⟩, hlit2, hfr2, hfresh⟩
    have ho2 := Lib.hid (hop.out _ _ w2 hits2 hBw hlit2 hfresh)
    have hmk := Lib.hid fun b e w3 (ho : Opened w2 B p g b its e w3) => opened_im (hpre'.out.drawn nq).im hl2 hc2 hle2 hfr2 ho
    clear hits2 hl2 hc2 hlit2 hfr2 hfresh hit hop
    go_wp2_with fail
    refine ho2.out.mono ?_
    rintro e w3 ho3
    obtain ⟨vi', him, hfr⟩ := hmk.out _ _ _ ho3
    obtain ⟨rfl, -, -⟩ := ho3
    obtain ⟨ha0, hae0, hfi0⟩ := (hpre'.out.drawn nq).end_ hB him hfr ⟨true, false, its.length, .sc .none⟩ nil6 (nil6_av none _)
    obtain ⟨p0, p1, p2, p3, p4, p5, p6, p7, p8, p9, pl, f0, f1, f2, f3, f4, f5, f6, f7, f8, f9⟩ := ans_facts ha0
    have hae := Lib.hid hae0
    have hfi := Lib.hid hfi0
    clear ha0 hae0 hfi0 hpre'
    clear hq ho2 hmk him hfr
    unfold ansCs nil6
    go_wp2
    rw [show st.at_.length = its.length by rw [hat]; simp]
    exact bodyPost_ret (v := .agg (ansCs true false its.length nil6)) (results_cell_row rfl _ _ (w.heap.size + 1) 64 _ (0, 0) _ rfl hae.out rfl rfl rfl) rfl hfi.out
end Go.Proofs.YtafbheamnjmfoaaGreat.Ls

namespace Go.Proofs.YtafbheamnjmfoaaGreat.Ls
open Go.RowKit Go.WideShapes Go.Proofs.YtafbheamnjmfoaaGreat.Sc Go.Proofs.YtafbheamnjmfoaaGreat.VRow
set_option linter.unusedVariables false

set_option maxHeartbeats 2000000 in
set_option maxRecDepth 100000 in
theorem on_done (B g p n : Nat) (i : Nat) (j m : Int) (k : Nat) (v vi : Value) (its : List (Option (Nat × Nat))) (st : St) (w : World) (h : Im w B g p v vi n its st) (hS : st.l.length ≤ 400) (hits : its.length ≤ 1000) (hn : n ≤ 1000) (hok : ∀ s ∈ st.l, s.ok) (hi : st.at_[i]? = some (some k)) :
    Calls Tryz.prog 40 #[.pointer (some ⟨g, 0, none⟩), .pointer (some ⟨p, 0, none⟩), .agg (stepCs 7 i j m nil6)] w (Answered w B g p { st with at_ := st.at_.set i none } .yes) := by
  have h2 := two w (stepCs 7 i j m nil6)
  obtain ⟨W, hW⟩ : ∃ W, (w.alloc (.cells (stepCs 7 i j m nil6) 62)).alloc zeroAns = W := ⟨_, rfl⟩
  rw [hW] at h2
  have hB : B ≤ w.heap.size := Nat.le_trans h.l.ge (Nat.le_of_lt h.l.hold.lt)
  have hsc := Lib.hid (pre_scalar h h2 nil6 .none trivial (nil6_sc _))
  obtain ⟨A0, c0, rfl⟩ := h.l.row.shape
  have hW' := Lib.hid hW
  have hd1 : decide ((i : Int) ≥ 0) = true := by simp
  clear h h2 hW
  unfold stepCs zeroAns nil6 at hW'
  unfold stepCs nil6
  unfold Sc.kind V6.arr nil6 at hsc
  go_enter Tryz.func40, Tryz.ntmps40
  go_wp2_with fail
  rw [hW'.out]
  clear hW'
  refine hsc.out.mono ?_
  rintro e w1 ⟨pv, rfl, hpre⟩
  have hq := Lib.hid fun q => hpre.len q
  have s0 := hold0 hpre.st_
  have s1 := hold1 hpre.st_
  have s2 := hold2 hpre.st_
  have s3 := hold3 hpre.st_
  have hsl := hpre.st_.lt
  have hpre' := Lib.hid hpre
  obtain ⟨pt, pu, rfl⟩ := hpre.pv.form
  have h17 := Lib.hid fun q => (hpre.drawn q).st_
  have hst := Lib.hid fun q => step_done B g p n i j m _ vi its st (w1.drewN q) (hpre.drawn q).im hits (by omega) k hi
  clear hpre hsc
  go_wp2_with fail
  go_quiet (first | (go_at_call 70; with_reducible exact Calls.quiet_of_same (hq.out _)))
  rename_i nq
  go_wp2_with (refine wpList_load_row rfl 62 _ rfl w.heap.size rfl 62 _ (0, 0) _ (h17.out _) Tryz.underlying62 rfl (by kernel_rfl) ?_)
  refine (hst.out _).mono ?_
  rintro e w2 ⟨y, v2, vi2, n2, its2, rfl, hy, him, hfr⟩
  obtain rfl : y = nil6 := hy
  obtain ⟨ha0, hae0, hfi0⟩ := (hpre'.out.drawn nq).end_ hB him hfr .yes nil6 (nil6_av none _)
  obtain ⟨p0, p1, p2, p3, p4, p5, p6, p7, p8, p9, pl, f0, f1, f2, f3, f4, f5, f6, f7, f8, f9⟩ := ans_facts ha0
  have hae := Lib.hid hae0
  have hfi := Lib.hid hfi0
  clear ha0 hae0 hfi0 hpre'
  clear hq hst him hfr
  unfold ansCs nil6
  go_wp2
  exact bodyPost_ret (v := .agg (ansCs true false 0 nil6)) (results_cell_row rfl _ _ (w.heap.size + 1) 64 _ (0, 0) _ rfl hae.out rfl rfl rfl) rfl hfi.out
set_option maxHeartbeats 2000000 in
set_option maxRecDepth 100000 in
theorem on_over (B g p n : Nat) (i : Nat) (j m : Int) (k : Nat) (v vi : Value) (its : List (Option (Nat × Nat))) (st : St) (w : World) (h : Im w B g p v vi n its st) (hS : st.l.length ≤ 400) (hits : its.length ≤ 1000) (hn : n ≤ 1000) (hok : ∀ s ∈ st.l, s.ok) (hi : st.at_[i]? = some (some k)) (hk : st.l.length ≤ k) (hk9 : k ≤ 1000) :
    Calls Tryz.prog 40 #[.pointer (some ⟨g, 0, none⟩), .pointer (some ⟨p, 0, none⟩), .agg (stepCs 6 i j m nil6)] w (Answered w B g p st .yes) := by
  have h2 := two w (stepCs 6 i j m nil6)
  obtain ⟨W, hW⟩ : ∃ W, (w.alloc (.cells (stepCs 6 i j m nil6) 62)).alloc zeroAns = W := ⟨_, rfl⟩
  rw [hW] at h2
  have hB : B ≤ w.heap.size := Nat.le_trans h.l.ge (Nat.le_of_lt h.l.hold.lt)
  have hsc := Lib.hid (pre_scalar h h2 nil6 .none trivial (nil6_sc _))
  obtain ⟨A0, c0, rfl⟩ := h.l.row.shape
  have hW' := Lib.hid hW
  have hd1 : decide ((i : Int) ≥ 0) = true := by simp
  clear h h2 hW
  unfold stepCs zeroAns nil6 at hW'
  unfold stepCs nil6
  unfold Sc.kind V6.arr nil6 at hsc
  go_enter Tryz.func40, Tryz.ntmps40
  go_wp2_with fail
  rw [hW'.out]
  clear hW'
  refine hsc.out.mono ?_
  rintro e w1 ⟨pv, rfl, hpre⟩
  have hq := Lib.hid fun q => hpre.len q
  have s0 := hold0 hpre.st_
  have s1 := hold1 hpre.st_
  have s2 := hold2 hpre.st_
  have s3 := hold3 hpre.st_
  have hsl := hpre.st_.lt
  have hpre' := Lib.hid hpre
  obtain ⟨pt, pu, rfl⟩ := hpre.pv.form
  have h17 := Lib.hid fun q => (hpre.drawn q).st_
  have hst := Lib.hid fun q => step_over B g p n i j m _ vi its st (w1.drewN q) (hpre.drawn q).im hits (by omega) hok k hi hk hk9
  clear hpre hsc
  go_wp2_with fail
  go_quiet (first | (go_at_call 70; with_reducible exact Calls.quiet_of_same (hq.out _)))
  rename_i nq
  go_wp2_with (refine wpList_load_row rfl 62 _ rfl w.heap.size rfl 62 _ (0, 0) _ (h17.out _) Tryz.underlying62 rfl (by kernel_rfl) ?_)
  refine (hst.out _).mono ?_
  rintro e w2 ⟨y, v2, vi2, n2, its2, rfl, hy, him, hfr⟩
  obtain rfl : y = nil6 := hy
  obtain ⟨ha0, hae0, hfi0⟩ := (hpre'.out.drawn nq).end_ hB him hfr .yes nil6 (nil6_av none _)
  obtain ⟨p0, p1, p2, p3, p4, p5, p6, p7, p8, p9, pl, f0, f1, f2, f3, f4, f5, f6, f7, f8, f9⟩ := ans_facts ha0
  have hae := Lib.hid hae0
  have hfi := Lib.hid hfi0
  clear ha0 hae0 hfi0 hpre'
  clear hq hst him hfr
  unfold ansCs nil6
  go_wp2
  exact bodyPost_ret (v := .agg (ansCs true false 0 nil6)) (results_cell_row rfl _ _ (w.heap.size + 1) 64 _ (0, 0) _ rfl hae.out rfl rfl rfl) rfl hfi.out
set_option maxHeartbeats 2000000 in
set_option maxRecDepth 100000 in
theorem on_next (B g p n : Nat) (i : Nat) (j m : Int) (k : Nat) (v vi : Value) (its : List (Option (Nat × Nat))) (st : St) (w : World) (h : Im w B g p v vi n its st) (hS : st.l.length ≤ 400) (hits : its.length ≤ 1000) (hn : n ≤ 1000) (hok : ∀ s ∈ st.l, s.ok) (hi : st.at_[i]? = some (some k)) (hk : k < st.l.length) :
    Calls Tryz.prog 40 #[.pointer (some ⟨g, 0, none⟩), .pointer (some ⟨p, 0, none⟩), .agg (stepCs 6 i j m nil6)] w (Answered w B g p { st with at_ := st.at_.set i (some (k + 1)) } ⟨true, true, 0, .sc st.l[k]⟩) := by
  have h2 := two w (stepCs 6 i j m nil6)
  obtain ⟨W, hW⟩ : ∃ W, (w.alloc (.cells (stepCs 6 i j m nil6) 62)).alloc zeroAns = W := ⟨_, rfl⟩
  rw [hW] at h2
  have hB : B ≤ w.heap.size := Nat.le_trans h.l.ge (Nat.le_of_lt h.l.hold.lt)
  have hsc := Lib.hid (pre_scalar h h2 nil6 .none trivial (nil6_sc _))
  obtain ⟨A0, c0, rfl⟩ := h.l.row.shape
  have hW' := Lib.hid hW
  have hd1 : decide ((i : Int) ≥ 0) = true := by simp
  clear h h2 hW
  unfold stepCs zeroAns nil6 at hW'
  unfold stepCs nil6
  unfold Sc.kind V6.arr nil6 at hsc
  go_enter Tryz.func40, Tryz.ntmps40
  go_wp2_with fail
  rw [hW'.out]
  clear hW'
  refine hsc.out.mono ?_
  rintro e w1 ⟨pv, rfl, hpre⟩
  have hq := Lib.hid fun q => hpre.len q
  have s0 := hold0 hpre.st_
  have s1 := hold1 hpre.st_
  have s2 := hold2 hpre.st_
  have s3 := hold3 hpre.st_
  have hsl := hpre.st_.lt
  have hpre' := Lib.hid hpre
  obtain ⟨pt, pu, rfl⟩ := hpre.pv.form
  have h17 := Lib.hid fun q => (hpre.drawn q).st_
  have hst := Lib.hid fun q => step_next B g p n i j m _ vi its st (w1.drewN q) (hpre.drawn q).im hits (by omega) hok k hi hk
  clear hpre hsc
  go_wp2_with fail
  go_quiet (first | (go_at_call 70; with_reducible exact Calls.quiet_of_same (hq.out _)))
  rename_i nq
  go_wp2_with (refine wpList_load_row rfl 62 _ rfl w.heap.size rfl 62 _ (0, 0) _ (h17.out _) Tryz.underlying62 rfl (by kernel_rfl) ?_)
  refine (hst.out _).mono ?_
  rintro e w2 ⟨y, v2, vi2, n2, its2, rfl, hy, him, hfr⟩
  have hy2 : IsSc w2 y st.l[k] := hy
  obtain ⟨ha0, hae0, hfi0⟩ := (hpre'.out.drawn nq).end_ hB him hfr ⟨true, true, 0, .sc st.l[k]⟩ y hy
  obtain ⟨p0, p1, p2, p3, p4, p5, p6, p7, p8, p9, pl, f0, f1, f2, f3, f4, f5, f6, f7, f8, f9⟩ := ans_facts ha0
  have hae := Lib.hid hae0
  have hfi := Lib.hid hfi0
  clear ha0 hae0 hfi0 hpre'
  obtain ⟨yn, ya, yl, yc, yb, yt, rfl⟩ := hy.form
  clear hq hst him hfr hy
  unfold ansCs
  go_wp2
  exact bodyPost_ret (v := .agg (ansCs true true 0 _)) (results_cell_row rfl _ _ (w.heap.size + 1) 64 _ (0, 0) _ rfl hae.out rfl rfl rfl) rfl hfi.out
end Go.Proofs.YtafbheamnjmfoaaGreat.Ls

namespace Go.Proofs.YtafbheamnjmfoaaGreat.Ls
open Go.RowKit Go.WideShapes Go.Proofs.YtafbheamnjmfoaaGreat.Sc Go.Proofs.YtafbheamnjmfoaaGreat.VRow
set_option linter.unusedVariables false

set_option maxHeartbeats 2000000 in
set_option maxRecDepth 100000 in
theorem on_slice (B g p n : Nat) (i j m : Int) (c : Nat) (x : Int) (v vi : Value) (its : List (Option (Nat × Nat))) (st : St) (w : World) (h : Im w B g p v vi n its st) (hS : st.l.length ≤ 400) (hits : its.length ≤ 1000) (hn : n ≤ 1000) (hok : ∀ s ∈ st.l, s.ok) (hf : Fits st.l.length i j m) (hb1 : -5 ≤ m) (hb2 : m ≤ 5) (hv : Inv st.l.length i j m c x) (hx : ¬ Goes j m x) :
    Calls Tryz.prog 40 #[.pointer (some ⟨g, 0, none⟩), .pointer (some ⟨p, 0, none⟩), .agg (stepCs 27 i j m nil6)] w (Answered w B g p st ⟨true, false, 0, .list (row st.l i m c)⟩) := by
  have h2 := two w (stepCs 27 i j m nil6)
  obtain ⟨W, hW⟩ : ∃ W, (w.alloc (.cells (stepCs 27 i j m nil6) 62)).alloc zeroAns = W := ⟨_, rfl⟩
  rw [hW] at h2
  have hB : B ≤ w.heap.size := Nat.le_trans h.l.ge (Nat.le_of_lt h.l.hold.lt)
  have hsc := Lib.hid (pre_scalar h h2 nil6 .none trivial (nil6_sc _))
  obtain ⟨A0, c0, rfl⟩ := h.l.row.shape
  have hW' := Lib.hid hW
  clear h h2 hW
  unfold stepCs zeroAns nil6 at hW'
  unfold stepCs nil6
  unfold Sc.kind V6.arr nil6 at hsc
  rcases Int.lt_or_le i 0 with hi0 | hi0
  all_goals
    try have hi1 : decide (i ≥ 0) = false := by simp; omega
    try have hi1 : decide (i ≥ 0) = true := by simp; omega
    go_enter Tryz.func40, Tryz.ntmps40
    go_wp2_with fail
    rw [hW'.out]
    clear hW'
    refine hsc.out.mono ?_
    rintro e w1 ⟨pv, rfl, hpre⟩
    have hq := Lib.hid fun q => hpre.len q
    have s0 := hold0 hpre.st_
    have s1 := hold1 hpre.st_
    have s2 := hold2 hpre.st_
    have s3 := hold3 hpre.st_
    have hsl := hpre.st_.lt
    have hpre' := Lib.hid hpre
    obtain ⟨pt, pu, rfl⟩ := hpre.pv.form
    have hf9 := hf
    unfold Fits at hf9
    have hbd := Lib.hid fun q => (bounded_any st.l.length i j m (w1.drewN q) hf9).mono (R' := fun e w' => e = .returned (.bool true) ∧ w' = w1.drewN q) fun e w' hh => ⟨hh.1, hh.2.symm⟩
    have hsx := Lib.hid fun q => lslice_any g B _ _ _ st.l i j m (w1.drewN q) (hpre.drawn q).im.l.hold (hpre.drawn q).im.l.row hS hf hb1 hb2
    have hBw := hpre.le hB
    have hrl : (row st.l i m c).length ≤ 1000 := by rw [row_length]; have := inv_le hv hf; omega
    have hrok := row_ok (st := i) (sp := m) (k := c) hok
    clear hpre hsc
    go_wp2_with fail
    go_quiet (first | (go_at_call 70; with_reducible exact Calls.quiet_of_same (hq.out _)))
    rename_i nq
    go_wp2_with fail
    go_quiet (first | (go_at_call 70; refine (hq.out _).mono ?_; rintro e w2 ⟨rfl, rfl⟩; exact ⟨rfl, _, rfl⟩) | (go_at_call 74; refine (hbd.out _).mono ?_; rintro e w2 ⟨rfl, rfl⟩; exact ⟨rfl, _, rfl⟩))
    go_wp2_with fail
    refine (hsx.out _).mono ?_
    rintro e w2 ⟨c2, x2, hv2, hx2, ⟨g2, v2, rfl, hg2, hp2⟩, hbl2⟩
    obtain rfl := inv_unique hv hv2 hx hx2
    have hel := Lib.hid (elements_any g2 v2 _ _ _ _ w2 hg2 hp2 hrl hrok)
    have hpl := is_plist
    have hb2s := hbl2.size
    clear hg2 hp2 hv2 hx2 hsx hbd
    go_wp2_with fail
    refine hel.out.mono ?_
    rintro e w3 ⟨⟨u, rfl, hu⟩, hb3⟩
    have hb23 := hbl2.trans (hb3.mono hb2s)
    obtain ⟨ha0, hae0, hfi0⟩ := (hpre'.out.drawn _).end_ hB ((hpre'.out.drawn _).im.later hb23) (Fr.of_below hb23 hBw) ⟨true, false, 0, .list (row st.l i m c)⟩ ⟨.int .i64 6, .bool false, .slice none 0 0, .int .u64 0, .string ⟨#[]⟩, u⟩ ⟨u, rfl, hu.lower (Nat.zero_le _), fun b _ e => by cases e⟩
    obtain ⟨p0, p1, p2, p3, p4, p5, p6, p7, p8, p9, pl, f0, f1, f2, f3, f4, f5, f6, f7, f8, f9⟩ := ans_facts ha0
    have hae := Lib.hid hae0
    have hfi := Lib.hid hfi0
    clear ha0 hae0 hfi0 hpre'
    obtain ⟨uA, uc, rfl⟩ := hu.shape
    clear hq hel hbl2 hb3 hb23 hu
    go_wp2
    exact bodyPost_ret (v := .agg (ansCs true false 0 _)) (results_cell_row rfl _ _ (w.heap.size + 1) 64 _ (0, 0) _ rfl hae.out rfl rfl rfl) rfl hfi.out
end Go.Proofs.YtafbheamnjmfoaaGreat.Ls
