/-
  The language's division of integers, to the floor.
-/
import Derived.Test.YtpjkfdgkkpkljaaGreatDoorBigSub
import Derived.Test.YtpjkfdgkkpkljaaGreatDoorDivLarge
import Derived.Test.YtpjkfdgkkpkljaaGreatDoorBigStar
import Derived.Test.YtpjkfdgkkpkljaaGreatDoorNumOut
namespace Go.Proofs.YtpjkfdgkkpkljaaGreatDoor.Big
open Go.RowKit Go.WideShapes Go.Proofs.YtpjkfdgkkpkljaaGreatDoor Go.Proofs.YtpjkfdgkkpkljaaGreatDoor.Own Go.Proofs.YtpjkfdgkkpkljaaGreatDoor.Num Go.Proofs.YtpjkfdgkkpkljaaGreatDoor.Ref Go.Proofs.YtpjkfdgkkpkljaaGreatDoor.Nat_
set_option linter.unusedVariables false

theorem SAt.apart {w : World} {v : Value} {z : Int} (h : SAt w v z) {b : Nat} {t : TypeId} {cs : Array Value} (hb : Box.Holds w b t cs) (ht : t ≠ 111) (ht' : t ≠ 85) (i : Nat) (u : Value) : SAt (w.setCell ⟨b, i, none⟩ u) v z := by
  rcases h with h | ⟨g, neg, V, h1, h2, h3⟩
  · exact .inl h
  · exact .inr ⟨g, neg, V, h1, h2.apart hb ht ht' i u, h3⟩
/-- the magnitude of a quotient to the floor -/
def quoM (n1 n2 : Bool) (X Y : Nat) : Nat := if n1 = n2 ∨ X % Y = 0 then X / Y else X / Y + 1
def quoZ (n1 n2 : Bool) (X Y : Nat) : Int := if n1 = n2 then (quoM n1 n2 X Y : Int) else -(quoM n1 n2 X Y : Int)
theorem tdiv_eq (z1 z2 : Int) (h : z2 ≠ 0) : z1.tdiv z2 = if decide (z1 < 0) = decide (z2 < 0) then ((z1.natAbs / z2.natAbs : Nat) : Int) else -((z1.natAbs / z2.natAbs : Nat) : Int) := by
  by_cases h1 : z1 < 0 <;> by_cases h2 : z2 < 0
  · rw [if_pos (by simp [h1, h2])]
    obtain ⟨a, rfl⟩ : ∃ a : Nat, z1 = -(a : Int) := ⟨z1.natAbs, by omega⟩
    obtain ⟨b, rfl⟩ : ∃ b : Nat, z2 = -(b : Int) := ⟨z2.natAbs, by omega⟩
    simp [Int.neg_tdiv, Int.tdiv_neg, Int.natAbs_neg]
  · rw [if_neg (by simp [h1, h2])]
    obtain ⟨a, rfl⟩ : ∃ a : Nat, z1 = -(a : Int) := ⟨z1.natAbs, by omega⟩
    obtain ⟨b, rfl⟩ : ∃ b : Nat, z2 = (b : Int) := ⟨z2.natAbs, by omega⟩
    simp [Int.neg_tdiv, Int.natAbs_neg]
  · rw [if_neg (by simp [h1, h2])]
    obtain ⟨a, rfl⟩ : ∃ a : Nat, z1 = (a : Int) := ⟨z1.natAbs, by omega⟩
    obtain ⟨b, rfl⟩ : ∃ b : Nat, z2 = -(b : Int) := ⟨z2.natAbs, by omega⟩
    simp [Int.tdiv_neg, Int.natAbs_neg]
  · rw [if_pos (by simp [h1, h2])]
    obtain ⟨a, rfl⟩ : ∃ a : Nat, z1 = (a : Int) := ⟨z1.natAbs, by omega⟩
    obtain ⟨b, rfl⟩ : ∃ b : Nat, z2 = (b : Int) := ⟨z2.natAbs, by omega⟩
    simp
theorem tmod_eq (z1 z2 : Int) (h : z2 ≠ 0) : (z1.tmod z2 == 0) = decide (z1.natAbs % z2.natAbs = 0) := by
  have h1 : (z1.tmod z2).natAbs = z1.natAbs % z2.natAbs := Int.natAbs_tmod z1 z2
  rw [← h1]
  by_cases h0 : z1.tmod z2 = 0
  · simp [h0]
  · have : (z1.tmod z2 == 0) = false := by simpa using h0
    rw [this]
    have h2 : ¬ (z1.tmod z2).natAbs = 0 := by omega
    exact (decide_eq_false h2).symm
/-- the small ones -/
theorem quoZ_small (z1 z2 : Int) (h : z2 ≠ 0) (q : Int) (hq : z1.tdiv z2 = q) : quoZ (decide (z1 < 0)) (decide (z2 < 0)) z1.natAbs z2.natAbs = if decide (z1 < 0) = decide (z2 < 0) ∨ z1.natAbs % z2.natAbs = 0 then q else q - 1 := by
  rw [← hq, tdiv_eq z1 z2 h]
  unfold quoZ quoM
  by_cases h1 : decide (z1 < 0) = decide (z2 < 0)
  · rw [if_pos h1, if_pos h1, if_pos (.inl h1), if_pos (.inl h1)]
  · rw [if_neg h1, if_neg h1]
    by_cases h2 : z1.natAbs % z2.natAbs = 0
    · rw [if_pos (.inr h2), if_pos (.inr h2)]
    · have h3 : ¬ (decide (z1 < 0) = decide (z2 < 0) ∨ z1.natAbs % z2.natAbs = 0) := fun h => h.elim h1 h2
      rw [if_neg h3, if_neg h3]
      omega

set_option maxHeartbeats 2000000 in
set_option maxRecDepth 100000 in
theorem sdiv_small (z1 z2 : Int) (w : World) (h1 : isS z1 = true) (h2 : isS z2 = true) (hz2 : z2 ≠ 0) :
    Calls Tryz.prog 28 #[.agg #[.int .i64 z1, .pointer none], .agg #[.int .i64 z2, .pointer none]] w fun e w' => (∃ u, e = .returned u ∧ SAt w' u (quoZ (decide (z1 < 0)) (decide (z2 < 0)) z1.natAbs z2.natAbs)) ∧ Below w.heap.size w w' := by
  have hget1 := Lib.hid fun w => get_any z1 none w
  have hget2 := Lib.hid fun w => get_any z2 none w
  obtain ⟨b1, b1'⟩ := isS_bounds h1
  obtain ⟨b2, b2'⟩ := isS_bounds h2
  obtain ⟨q, hq⟩ : ∃ q, z1.tdiv z2 = q := ⟨_, rfl⟩
  have hqb : -2147483648 ≤ q ∧ q ≤ 2147483648 := by
    have h9 := tdiv_eq z1 z2 hz2
    rw [hq] at h9
    have h8 : z1.natAbs / z2.natAbs ≤ z1.natAbs := Nat.div_le_self _ _
    obtain ⟨D, hD⟩ : ∃ D, z1.natAbs / z2.natAbs = D := ⟨_, rfl⟩
    rw [hD] at h8 h9
    clear hD
    split at h9 <;> omega
  have hr0 := tmod_eq z1 z2 hz2
  have hnr : (z1.tmod z2 != 0) = !(decide (z1.natAbs % z2.natAbs = 0)) := by rw [← hr0]; rfl
  have hZ := quoZ_small z1 z2 hz2 q hq
  obtain ⟨d0, hd0⟩ : ∃ d, decide (z1.natAbs % z2.natAbs = 0) = d := ⟨_, rfl⟩
  rw [hd0] at hnr
  obtain ⟨Z, hZe⟩ : ∃ Z, quoZ (decide (z1 < 0)) (decide (z2 < 0)) z1.natAbs z2.natAbs = Z := ⟨_, rfl⟩
  rw [hZe] at hZ ⊢
  have hZb : -9223372036854775808 ≤ Z ∧ Z ≤ 9223372036854775807 := by rw [hZ]; split <;> omega
  have hmk := Lib.hid fun w => mi64_any Z hZb.1 hZb.2 w
  have hZ2 : (decide (z1 < 0) = decide (z2 < 0) ∨ d0 = true) ∧ Z = q ∨ (decide (z1 < 0) ≠ decide (z2 < 0) ∧ d0 = false) ∧ Z = q - 1 := by
    by_cases hc : decide (z1 < 0) = decide (z2 < 0) ∨ z1.natAbs % z2.natAbs = 0
    · rw [if_pos hc] at hZ
      refine .inl ⟨hc.imp id (fun h => by rw [← hd0]; simp [h]), hZ⟩
    · rw [if_neg hc] at hZ
      refine .inr ⟨⟨fun h => hc (.inl h), ?_⟩, hZ⟩
      rw [← hd0]
      exact decide_eq_false fun h => hc (.inr h)
  obtain ⟨s1, hq1⟩ : ∃ s, decide (z1 < 0) = s := ⟨_, rfl⟩
  obtain ⟨s2, hq2⟩ : ∃ s, decide (z2 < 0) = s := ⟨_, rfl⟩
  rw [hq1, hq2] at hZ2
  have hw1q : wrap64 q = q := by unfold wrap64; omega
  have hw2q : wrap64 (q - 1) = q - 1 := by unfold wrap64; omega
  have hcase : (s1 = s2 ∧ Z = q) ∨ (s1 ≠ s2 ∧ d0 = true ∧ Z = q) ∨ (s1 ≠ s2 ∧ d0 = false ∧ Z = q - 1) := by
    rcases hZ2 with ⟨h, hz⟩ | ⟨⟨h, h'⟩, hz⟩
    · by_cases hss : s1 = s2
      · exact .inl ⟨hss, hz⟩
      · exact .inr (.inl ⟨hss, h.resolve_left hss, hz⟩)
    · exact .inr (.inr ⟨h, h', hz⟩)
  clear hZ hZe hd0 hZb h1 h2 hr0 hZ2
  obtain ⟨w1, hw1⟩ : ∃ w1, ((w.alloc (.cells #[.int .i64 z1, .pointer none] 61)).alloc (.cells #[.int .i64 z2, .pointer none] 61)).alloc (.cells #[.int .i64 0, .pointer none] 61) = w1 := ⟨_, rfl⟩
  have hs1 : w1.heap.size = w.heap.size + 3 := by rw [← hw1]; simp
  have hb1 : Below w.heap.size w w1 := by rw [← hw1]; exact ((below_one _ (Nat.le_refl _)).alloc (by simp) _).alloc (by simp; omega) _
  have hk1 : Box.Holds w1 w.heap.size 61 #[.int .i64 z1, .pointer none] := by
    rw [← hw1]; exact ((Box.Holds.made w 61 #[.int .i64 z1, .pointer none]).alloc _).alloc _
  have hk2 : Box.Holds w1 (w.heap.size + 1) 61 #[.int .i64 z2, .pointer none] := by
    have := (Box.Holds.made (w.alloc (.cells #[.int .i64 z1, .pointer none] 61)) 61 #[.int .i64 z2, .pointer none]).alloc (.cells #[.int .i64 0, .pointer none] 61)
    rw [show (w.alloc (.cells #[.int .i64 z1, .pointer none] 61)).heap.size = w.heap.size + 1 by simp, hw1] at this
    exact this
  have hk3 : Box.Holds w1 (w.heap.size + 2) 61 #[.int .i64 0, .pointer none] := by
    have := Box.Holds.made ((w.alloc (.cells #[.int .i64 z1, .pointer none] 61)).alloc (.cells #[.int .i64 z2, .pointer none] 61)) 61 #[.int .i64 0, .pointer none]
    rw [show ((w.alloc (.cells #[.int .i64 z1, .pointer none] 61)).alloc (.cells #[.int .i64 z2, .pointer none] 61)).heap.size = w.heap.size + 2 by simp, hw1] at this
    exact this
  have hw1' := Lib.hid hw1
  have hk1' := Lib.hid hk1
  have hk2' := Lib.hid hk2
  have hk3' := Lib.hid hk3
  have hb1' := Lib.hid hb1
  have k10 := hk1.cell 0
  have k11 := hk1.cell 1
  simp at k10 k11
  clear hw1 hk1 hk2 hk3 hb1
  rcases hcase with ⟨hss, rfl⟩ | ⟨hss, rfl, rfl⟩ | ⟨hss, rfl, rfl⟩
  all_goals
    go_enter Tryz.func28, Tryz.ntmps28
    go_wp2_with fail
    rw [hw1'.out]
    refine (hget1.out _).mono ?_
    rintro e w2 ⟨rfl, hb2⟩
    have hk22 := hk2'.out.later hb2
    have k20 := hk22.cell 0
    have k21 := hk22.cell 1
    simp at k20 k21
    have hb2' := Lib.hid hb2
    clear hk22 hb2 k10 k11
    go_wp2_with fail
    refine (hget2.out _).mono ?_
    rintro e w3 ⟨rfl, hb3⟩
    have hb3' := Lib.hid (hb2'.out.trans (hb3.mono hb2'.out.size))
    clear hb3 k20 k21
    go_wp2_with fail
    refine (hmk.out _).mono ?_
    rintro e w4 ⟨⟨v, rfl, hv⟩, hb4⟩
    obtain ⟨y4, p4, rfl⟩ := hv.shape
    have hb4' := hb3'.out.trans (hb4.mono hb3'.out.size)
    have hk := hk3'.out.later hb4'
    have k0 := hk.cell 0
    have k1 := hk.cell 1
    simp at k0 k1
    have f0 := hk.free 0
    have f1 := hk.free 1
    have hlt4 := hk.lt
    have hbel := Lib.hid (((hb1'.out.trans (hb4'.mono hb1'.out.size)).setCell (p := ⟨w.heap.size + 1 + 1, 0, none⟩) (Nat.le_trans (Nat.le_succ _) (Nat.le_succ _)) (.int .i64 y4)).setCell (p := ⟨w.heap.size + 1 + 1, 1, none⟩) (Nat.le_trans (Nat.le_succ _) (Nat.le_succ _)) (.pointer p4))
    have hfin := Lib.hid ((hv.apart hk (by decide) (by decide) 0 (.int .i64 y4)).apart (hk.put 0 _) (by decide) (by decide) 1 (.pointer p4))
    clear hb4 hb4' hk hv
    go_wp2
    exact bodyPost_ret (v := .agg #[.int .i64 y4, .pointer p4]) (by simp [results, Tryz.results28, go_sem, k0, k1]) rfl ⟨⟨_, rfl, hfin.out⟩, hbel.out⟩

theorem star_end (w wr : World) (v : Value) (z : Int) (B g : Nat) (hb : Below w.heap.size w wr) (hk : Box.Holds wr g 61 #[.int .i64 0, .pointer none]) (hg : w.heap.size ≤ g) (hv : SInt wr B v z) :
    ∃ y q, v = .agg #[.int .i64 y, .pointer q] ∧ wr.cell? ⟨g, 0, none⟩ = some (.int .i64 0) ∧ wr.cell? ⟨g, 1, none⟩ = some (.pointer none) ∧ wr.frozen? ⟨g, 0, none⟩ = false ∧ wr.frozen? ⟨g, 1, none⟩ = false ∧ g < wr.heap.size ∧
      SAt ((wr.setCell ⟨g, 0, none⟩ (.int .i64 y)).setCell ⟨g, 1, none⟩ (.pointer q)) (.agg #[.int .i64 y, .pointer q]) z ∧ Below w.heap.size w ((wr.setCell ⟨g, 0, none⟩ (.int .i64 y)).setCell ⟨g, 1, none⟩ (.pointer q)) := by
  obtain ⟨y, q, rfl⟩ := hv.shape
  have k0 := hk.cell 0
  have k1 := hk.cell 1
  simp at k0 k1
  exact ⟨y, q, rfl, k0, k1, hk.free 0, hk.free 1, hk.lt, (hv.at_.apart hk (by decide) (by decide) 0 (.int .i64 y)).apart (hk.put 0 _) (by decide) (by decide) 1 (.pointer q), (hb.setCell (p := ⟨g, 0, none⟩) hg _).setCell (p := ⟨g, 1, none⟩) hg _⟩
theorem SInt.ptrs {w : World} {B1 : Nat} {v : Value} {z : Int} (h : SInt w B1 v z) : (∃ z', v = .agg #[.int .i64 z', .pointer none] ∧ z' = z ∧ isS z = true) ∨ ∃ g, v = .agg #[.int .i64 0, .pointer (some ⟨g, 0, none⟩)] ∧ isS z = false ∧ g < w.heap.size := by
  rcases h with ⟨rfl, hs⟩ | ⟨g, neg, V, rfl, _, hbig, _, hs, _⟩
  · exact .inl ⟨z, rfl, rfl, hs⟩
  · exact .inr ⟨g, rfl, hs, hbig.lt⟩
/-- both as integers of the package -/
def Both (z1 z2 : Int) (wx : World) (gx gy X Y : Nat) (nx ny : Bool) : Prop := BigAt wx gx nx X ∧ BigAt wx gy ny Y ∧ sg nx X = z1 ∧ sg ny Y = z2
theorem sgn_lt (z : Int) : decide (sgn z < 0) = decide (z < 0) := by
  unfold sgn
  by_cases h : z < 0
  · rw [if_pos h, decide_eq_true h]; rfl
  · rw [if_neg h, decide_eq_false h]
    by_cases h0 : z = 0
    · rw [if_pos h0]; rfl
    · rw [if_neg h0]; rfl
theorem sgn_ne (z : Int) : (sgn z != 0) = !(decide (z = 0)) := by
  unfold sgn
  by_cases h : z < 0
  · rw [if_pos h, decide_eq_false (show ¬ z = 0 by omega)]; rfl
  · rw [if_neg h]
    by_cases h0 : z = 0
    · rw [if_pos h0, decide_eq_true h0]; rfl
    · rw [if_neg h0, decide_eq_false h0]; rfl
theorem sg_zero (neg : Bool) (V : Nat) : decide (sg neg V = 0) = decide (V = 0) := by
  unfold sg
  cases neg
  · simp
  · simp
theorem sg_quoZ (n1 n2 : Bool) (X Y : Nat) : quoZ n1 n2 X Y = if n1 = n2 then ((X / Y : Nat) : Int) else if X % Y = 0 then -((X / Y : Nat) : Int) else -((X / Y + 1 : Nat) : Int) := by
  unfold quoZ quoM
  by_cases h1 : n1 = n2
  · rw [if_pos h1, if_pos h1, if_pos (.inl h1)]
  · rw [if_neg h1, if_neg h1]
    by_cases h2 : X % Y = 0
    · rw [if_pos h2, if_pos (.inr h2)]
    · rw [if_neg h2, if_neg (fun h => h.elim h1 h2)]

set_option maxRecDepth 100000 in
theorem onebig_any (w : World) : Calls Tryz.prog 52 #[] w (NewB 1 w) := by
  have h := Lib.hid (newint_any 1 (by omega) (by omega) w)
  go_enter Tryz.func52, Tryz.ntmps52
  go_wp2_with fail
  refine h.out.mono ?_
  rintro e w1 hn
  have hn' := Lib.hid hn
  obtain ⟨g, rfl, -⟩ := hn
  go_wp2
  go_ret
  exact hn'.out
theorem len_up (Q : Nat) : len W (Q + 1) ≤ len W Q + 1 := by
  refine len_le W_two ?_
  have := len_lt W_two Q
  rw [Nat.pow_succ]
  have h4 : W ^ len W Q * 2 ≤ W ^ len W Q * W := Nat.mul_le_mul_left _ W_two
  have h5 : 0 < W ^ len W Q := Nat.pow_pos W_pos
  omega
set_option maxHeartbeats 4000000 in
set_option maxRecDepth 100000 in
theorem sdiv_big (x y : Value) (z1 z2 : Int) (B1 B2 : Nat) (w : World) (hx : SInt w B1 x z1) (hy : SInt w B2 y z2) (hl1 : len W z1.natAbs ≤ 39) (hl2 : len W z2.natAbs ≤ 39) (hz2 : z2 ≠ 0) (hbig : isS z1 = false ∨ isS z2 = false) (h40 : w.cell? ⟨1, 0, none⟩ = some (.int .i64 40)) :
    Calls Tryz.prog 28 #[x, y] w fun e w' => (∃ u, e = .returned u ∧ SAt w' u (quoZ (decide (z1 < 0)) (decide (z2 < 0)) z1.natAbs z2.natAbs)) ∧ Below w.heap.size w w' := by
  have hb1 := Lib.hid fun wr (hW : Below w.heap.size w wr) => sbigv_any x z1 B1 wr (hx.later hW)
  have hb2 := Lib.hid fun wr (hW : Below w.heap.size w wr) => sbigv_any y z2 B2 wr (hy.later hW)
  obtain ⟨a1, p1, hxe⟩ := hx.shape
  obtain ⟨a2, p2, hye⟩ := hy.shape
  have hptr : Hid ((∃ p, p1 = some p) ∨ p1 = none ∧ ∃ q, p2 = some q) := Lib.hid (by
    rcases hx.ptrs with ⟨z', h, -, h1⟩ | ⟨g, h, h1, -⟩
    · rcases hy.ptrs with ⟨z'', h', -, h2⟩ | ⟨g2, h', h2, -⟩
      · rw [h1, h2] at hbig; rcases hbig with h | h <;> cases h
      · rw [hxe] at h
        rw [hye] at h'
        simp only [Value.agg.injEq, Array.mk.injEq, List.cons.injEq, Value.pointer.injEq, and_true] at h h'
        exact .inr ⟨h.2, _, h'.2⟩
    · rw [hxe] at h
      simp only [Value.agg.injEq, Array.mk.injEq, List.cons.injEq, Value.pointer.injEq, and_true] at h
      exact .inl ⟨_, h.2⟩)
  subst hxe hye
  have hget1 := Lib.hid fun w => get_any a1 p1 w
  have hget2 := Lib.hid fun w => get_any a2 p2 w
  obtain ⟨Z, hZ⟩ : ∃ Z, quoZ (decide (z1 < 0)) (decide (z2 < 0)) z1.natAbs z2.natAbs = Z := ⟨_, rfl⟩
  rw [hZ]
  have hZ' := Lib.hid hZ
  obtain ⟨w1, hw1⟩ : ∃ w1, ((w.alloc (.cells #[.int .i64 a1, .pointer p1] 61)).alloc (.cells #[.int .i64 a2, .pointer p2] 61)).alloc (.cells #[.int .i64 0, .pointer none] 61) = w1 := ⟨_, rfl⟩
  have hs1 : w1.heap.size = w.heap.size + 3 := by rw [← hw1]; simp
  have hbw : Below w.heap.size w w1 := by rw [← hw1]; exact ((below_one _ (Nat.le_refl _)).alloc (by simp) _).alloc (by simp; omega) _
  have hk1 : Box.Holds w1 w.heap.size 61 #[.int .i64 a1, .pointer p1] := by
    rw [← hw1]; exact ((Box.Holds.made w 61 #[.int .i64 a1, .pointer p1]).alloc _).alloc _
  have hk2 : Box.Holds w1 (w.heap.size + 1) 61 #[.int .i64 a2, .pointer p2] := by
    have := (Box.Holds.made (w.alloc (.cells #[.int .i64 a1, .pointer p1] 61)) 61 #[.int .i64 a2, .pointer p2]).alloc (.cells #[.int .i64 0, .pointer none] 61)
    rw [show (w.alloc (.cells #[.int .i64 a1, .pointer p1] 61)).heap.size = w.heap.size + 1 by simp, hw1] at this
    exact this
  have hk3 : Box.Holds w1 (w.heap.size + 2) 61 #[.int .i64 0, .pointer none] := by
    have := Box.Holds.made ((w.alloc (.cells #[.int .i64 a1, .pointer p1] 61)).alloc (.cells #[.int .i64 a2, .pointer p2] 61)) 61 #[.int .i64 0, .pointer none]
    rw [show ((w.alloc (.cells #[.int .i64 a1, .pointer p1] 61)).alloc (.cells #[.int .i64 a2, .pointer p2] 61)).heap.size = w.heap.size + 2 by simp, hw1] at this
    exact this
  have hw1' := Lib.hid hw1
  have hk3' := Lib.hid hk3
  have hup : Hid (∀ wx, Below w1.heap.size w1 wx → Below w.heap.size w wx) := Lib.hid fun wx h => hbw.trans (h.mono hbw.size)
  have hkeep : Hid (∀ wx, Below w1.heap.size w1 wx → wx.cell? ⟨w.heap.size, 0, none⟩ = some (.int .i64 a1) ∧ wx.cell? ⟨w.heap.size, 1, none⟩ = some (.pointer p1) ∧ wx.cell? ⟨w.heap.size + 1, 0, none⟩ = some (.int .i64 a2) ∧ wx.cell? ⟨w.heap.size + 1, 1, none⟩ = some (.pointer p2)) := Lib.hid fun wx h => by
    have e1 := hk1.later h
    have e2 := hk2.later h
    have c0 := e1.cell 0
    have c1 := e1.cell 1
    have c2 := e2.cell 0
    have c3 := e2.cell 1
    simp at c0 c1 c2 c3
    exact ⟨c0, c1, c2, c3⟩
  obtain ⟨k10, k11, -, -⟩ := hkeep.out w1 (Below.refl _ _)
  have h40' := Lib.hid h40
  have hob := Lib.hid fun w => onebig_any w
  have hl' := Lib.hid (And.intro hl1 (And.intro hl2 hz2))
  clear hw1 hk1 hk2 hk3 hbw hbig hx hy h40 hl1 hl2 hz2 hZ
  go_enter Tryz.func28, Tryz.ntmps28
  go_wp2_with fail
  rw [hw1'.out]
  refine (hget1.out _).mono ?_
  rintro e w2 ⟨rfl, hb2'⟩
  obtain ⟨-, -, k20, k21⟩ := hkeep.out w2 hb2'
  go_wp2_with fail
  refine (hget2.out _).mono ?_
  rintro e w3 ⟨rfl, hb3⟩
  have hb3' := hb2'.trans (hb3.mono hb2'.size)
  have hbh := Lib.hid hb3'
  clear hb3 hb2' hb3' k20 k21 k10 k11 hget1 hget2
  go_upto_region 3 with fail
  go_cut [30] from 25 (fun v wx => w3 = wx ∧ v = .bool true)
  case first =>
    rcases hptr.out with ⟨p, rfl⟩ | ⟨rfl, q, rfl⟩
    · go_wp2_with fail
      go_meet
      exact ⟨rfl, rfl⟩
    · go_wp2_with fail
      go_meet
      exact ⟨rfl, rfl⟩
  case rest =>
    obtain ⟨rfl, rfl⟩ := hcut
    obtain ⟨c0, c1, c2, c3⟩ := hkeep.out w3 hbh.out
    have hsb1 := Lib.hid (hb1.out w3.drew (hup.out _ (Box.below_drawn hbh.out 1)))
    have hbd := Lib.hid (show Below w1.heap.size w1 w3.drew from Box.below_drawn hbh.out 1)
    go_upto_region 4 with fail
    go_cut [9, 10] from 31 (fun v9 v10 wx => ∃ gx gy X Y nx ny, v9 = .pointer (some ⟨gx, 0, none⟩) ∧ v10 = .pointer (some ⟨gy, 0, none⟩) ∧ Both z1 z2 wx gx gy X Y nx ny ∧ Below w1.heap.size w1 wx)
    case first =>
      go_region_held3 (fun wr => wr.cell? ⟨w.heap.size, 0, none⟩ = some (.int .i64 a1) ∧ wr.cell? ⟨w.heap.size, 1, none⟩ = some (.pointer p1) ∧ wr.cell? ⟨w.heap.size + 1, 0, none⟩ = some (.int .i64 a2) ∧ wr.cell? ⟨w.heap.size + 1, 1, none⟩ = some (.pointer p2))
        (first | go_keep | exact c5 | exact c6)
        (first
          | (go_at_call 49; (with_reducible refine hsb1.out.mono ?_); rintro e w5 ⟨gx, nx, X, rfl, hbx, hzx, hmx, hb5, -⟩; have hb15 := hbd.out.trans (hb5.mono hbd.out.size); have c5 := hkeep.out w5 hb15)
          | (go_at_call 49; (with_reducible refine (hb2.out w5 (hup.out _ hb15)).mono ?_); rintro e w6 ⟨gy, ny, Y, rfl, hby, hzy, hmy, hb6, -⟩; have hb16 := hb15.trans (hb6.mono hb15.size); have hbx6 := hbx.later hb6; have c6 := hkeep.out w6 hb16))
      all_goals
        have hfin := Lib.hid (show Both z1 z2 w6 gx gy X Y nx ny ∧ Below w1.heap.size w1 w6 from ⟨⟨hbx6, hby, hzx, hzy⟩, hb16⟩)
        clear hbx hby hbx6 hb5 hb6 hb15 hb16 hzx hzy
        go_wp2_with fail
        go_meet
        exact ⟨gx, gy, X, Y, nx, ny, rfl, rfl, hfin.out⟩
    case rest =>
      obtain ⟨gx, gy, X, Y, nx, ny, rfl, rfl, ⟨hbx, hby, hzx, hzy⟩, hb1c⟩ := hcut
      have hXz : X = z1.natAbs := by rw [← hzx]; unfold sg; cases nx <;> simp
      have hYz : Y = z2.natAbs := by rw [← hzy]; unfold sg; cases ny <;> simp
      have hnx : decide (z1 < 0) = nx := by
        rw [← hzx]
        obtain ⟨_, _, _, _, hp⟩ := hbx
        unfold sg
        cases nx
        · simp
        · have := hp rfl
          simp
          omega
      have hny : decide (z2 < 0) = ny := by
        rw [← hzy]
        obtain ⟨_, _, _, _, hp⟩ := hby
        unfold sg
        cases ny
        · simp
        · have := hp rfl
          simp
          omega
      have hlX : len W X ≤ 39 := by rw [hXz]; exact hl'.out.1
      have hlY : len W Y ≤ 39 := by rw [hYz]; exact hl'.out.2.1
      have hY0 : 0 < Y := by have := hl'.out.2.2; omega
      have hZq : quoZ nx ny X Y = Z := by rw [← hZ'.out, hnx, hny, hXz, hYz]
      rw [sg_quoZ] at hZq
      have hgx := hbx.lt
      have hgy := hby.lt
      -- the new integers
      obtain ⟨w7, hw7⟩ : ∃ w7, (wc.alloc (.cells #[.bool false, .slice none 0 0] 85)).alloc (.cells #[.bool false, .slice none 0 0] 85) = w7 := ⟨_, rfl⟩
      have hg7 : Box.Holds w7 wc.heap.size 85 #[.bool false, .slice none 0 0] := by rw [← hw7]; exact (Box.Holds.made wc _ _).alloc _
      have hr7 : Box.Holds w7 (wc.heap.size + 1) 85 #[.bool false, .slice none 0 0] := by
        have := Box.Holds.made (wc.alloc (.cells #[.bool false, .slice none 0 0] 85)) 85 #[.bool false, .slice none 0 0]
        rw [show (wc.alloc (.cells #[.bool false, .slice none 0 0] 85)).heap.size = wc.heap.size + 1 by simp, hw7] at this
        exact this
      have hb7 : Below wc.heap.size wc w7 := by rw [← hw7]; exact (below_one _ (Nat.le_refl _)).alloc (by simp) _
      have hsz7 : w7.heap.size = wc.heap.size + 2 := by rw [← hw7]; simp
      have hbx7 := hbx.later hb7
      have hby7 := hby.later hb7
      obtain ⟨vx, Bx, hkx, hox, hpx⟩ := hbx7
      obtain ⟨vy, By, hky, hoy, hpy⟩ := hby7
      have h407 : w7.cell? ⟨1, 0, none⟩ = some (.int .i64 40) := by
        have hv1 : 1 < w.heap.size := World.block_lt_of_cell? w _ h40'.out
        have e1 : Below w.heap.size w w7 := (hup.out _ hb1c).trans (hb7.mono (Nat.le_trans (by omega) hb1c.size))
        exact (e1.cell (p := ⟨1, 0, none⟩) hv1).trans h40'.out
      have hdv := (ndiv_any vx vy X Y Bx By w7.drew hox hoy (by omega) (by omega) hY0 h407).mono (fun e w' h => Parts.undrawn (q := 1) (w := w7) h)
      obtain ⟨ax, cx, rfl, -, -⟩ := hox.slice
      obtain ⟨ay, cy, rfl, -, -⟩ := hoy.slice
      have hQlen : len W (X / Y) ≤ 39 := Nat.le_trans (len_mono W_two (Nat.div_le_self _ _)) hlX
      have hRlen : len W (X % Y) ≤ 39 := Nat.le_trans (len_mono W_two (Nat.mod_le _ _)) hlX
      have hqr := Lib.hid (quorem_of wc.heap.size (wc.heap.size + 1) gx 0 gy 0 (X / Y) (X % Y) nx ny ax _ cx ay _ cy w7 hg7 hr7 (Box.Holds.two hkx 0 _ _ rfl rfl) (Box.Holds.two hky 0 _ _ rfl rfl) hdv (by omega) (by omega) (by omega) hgx hgy)
      have hbx' := Lib.hid hbx
      have hby' := Lib.hid hby
      have hb1c' := Lib.hid hb1c
      have hzx' := Lib.hid hzx
      have hzy' := Lib.hid hzy
      have hb7' := Lib.hid hb7
      have hnn := Lib.hid (And.intro hnx hny)
      have hZq' := Lib.hid hZq
      have hw7' := Lib.hid hw7
      clear hbx hby hb1c hzx hzy hkx hky hox hoy hdv hg7 hr7 hb7 h407 hpx hpy hXz hYz hnx hny hZq hw7 c0 c1 c2 c3 hsb1 hbd hbh hb1 hb2 hkeep hptr
      go_upto_region 6 with fail
      rw [hw7'.out]
      go_wp2_with fail
      refine hqr.out.mono ?_
      rintro e w8 ⟨rfl, ⟨uq, hq8, hqn8⟩, ⟨ur, hr8, hrn8⟩, hb8⟩
      have hbel8 : Below wc.heap.size wc w8 := hb7'.out.trans hb8
      have hbx8 := hbx'.out.later hbel8
      have hby8 := hby'.out.later hbel8
      have hbr8 : BigAt w8 (wc.heap.size + 1) (decide (0 < X % Y) && nx) (X % Y) := ⟨ur, _, hr8, hrn8, fun h => by rw [Bool.and_eq_true] at h; exact of_decide_eq_true h.1⟩
      have hsx := Lib.hid (bsign_at gx nx X w8 hbx8 (by omega))
      have hsy := Lib.hid (bsign_at gy ny Y w8 hby8 (by omega))
      have hsr := Lib.hid (bsign_at (wc.heap.size + 1) _ _ w8 hbr8 (by omega))
      have ex : decide (sgn (sg nx X) < 0) = nx := by rw [sgn_lt, hzx'.out, hnn.out.1]
      have ey : decide (sgn (sg ny Y) < 0) = ny := by rw [sgn_lt, hzy'.out, hnn.out.2]
      have er : (sgn (sg (decide (0 < X % Y) && nx) (X % Y)) != 0) = !(decide (X % Y = 0)) := by rw [sgn_ne, sg_zero]
      obtain ⟨σx, hσx⟩ : ∃ σ, sgn (sg nx X) = σ := ⟨_, rfl⟩
      obtain ⟨σy, hσy⟩ : ∃ σ, sgn (sg ny Y) = σ := ⟨_, rfl⟩
      obtain ⟨σr, hσr⟩ : ∃ σ, sgn (sg (decide (0 < X % Y) && nx) (X % Y)) = σ := ⟨_, rfl⟩
      rw [hσx] at hsx ex
      rw [hσy] at hsy ey
      rw [hσr] at hsr er
      have hBigQ : Big w8 wc.heap.size (decide (0 < X / Y) && (nx != ny)) (X / Y) := ⟨uq, hq8, World.ownsRow.mono hqn8 (by omega), fun h => by rw [Bool.and_eq_true] at h; exact of_decide_eq_true h.1⟩
      have hQ8 := Lib.hid (And.intro hBigQ (And.intro hq8 hqn8))
      have hb18 : Below w1.heap.size w1 w8 := hb1c'.out.trans (hbel8.mono hb1c'.out.size)
      have hb18' := Lib.hid hb18
      have hsz8 := hb8.size
      obtain ⟨Q, hQe⟩ : ∃ Q, X / Y = Q := ⟨_, rfl⟩
      obtain ⟨R, hRe⟩ : ∃ R, X % Y = R := ⟨_, rfl⟩
      rw [hQe] at hQ8 hQlen
      rw [hRe] at er hRlen
      have hZ9 := hZq'.out
      rw [hQe, hRe] at hZ9
      replace hZ9 := Lib.hid hZ9
      clear hb8 hbel8 hbx8 hby8 hbr8 hBigQ hb18 hr8 hrn8 hq8 hqn8 hσx hσy hσr hqr
      by_cases hne : nx = ny
      · subst hne
        go_wp2_with fail
        refine hsx.out.mono ?_
        rintro e w9 ⟨rfl, rfl⟩
        go_wp2_with fail
        refine hsy.out.mono ?_
        rintro e w9 ⟨rfl, rfl⟩
        have hval : sg (decide (0 < Q) && (nx != nx)) Q = Z := by
          have := hZ9.out
          simp only [↓reduceIte] at this
          rw [← this]
          unfold sg
          simp
        have hb9' : Below w1.heap.size w1 w9 := hb18'.out
        have hm := Lib.hid (mbi_any wc.heap.size _ _ w9 hQ8.out.1 (by omega))
        have hbk := Lib.hid hb9'
        clear hsx hsy hsr hb9'
        go_wp2_with fail
        refine hm.out.mono ?_
        rintro e w11 ⟨⟨v11, rfl, hv11⟩, hb11⟩
        have hb111 := hbk.out.trans (hb11.mono hbk.out.size)
        rw [hval] at hv11
        obtain ⟨y11, q11, rfl, k0, k1, f0, f1, hlt11, hfin0⟩ := star_end w w11 v11 Z _ (w.heap.size + 2) (hup.out _ hb111) (hk3'.out.later hb111) (by omega) hv11
        have hfin := Lib.hid hfin0
        clear hfin0 hv11 hm hb11 hb111
        go_wp2
        exact bodyPost_ret (v := .agg #[.int .i64 y11, .pointer q11]) (by simp [results, Tryz.results28, go_sem, k0, k1]) rfl ⟨⟨_, rfl, hfin.out.1⟩, hfin.out.2⟩
      · have hneb : (nx != ny) = true := by simp [hne]
        go_wp2_with fail
        refine hsx.out.mono ?_
        rintro e w9 ⟨rfl, rfl⟩
        go_wp2_with fail
        refine hsy.out.mono ?_
        rintro e w9 ⟨rfl, rfl⟩
        go_wp2_with fail
        refine hsr.out.mono ?_
        rintro e w9 ⟨rfl, rfl⟩
        by_cases hR0 : R = 0
        · have hval : sg (decide (0 < Q) && (nx != ny)) Q = Z := by
            have := hZ9.out
            rw [if_neg hne, if_pos hR0] at this
            rw [← this, hneb]
            unfold sg
            by_cases hQ0 : 0 < Q
            · simp [hQ0]
            · have : Q = 0 := by omega
              simp [this]
          have er' : (σr != 0) = false := by rw [er]; simp [hR0]
          clear er
          have hb9' : Below w1.heap.size w1 w9 := hb18'.out
          have hm := Lib.hid (mbi_any wc.heap.size _ _ w9 hQ8.out.1 (by omega))
          have hbk := Lib.hid hb9'
          clear hsx hsy hsr hb9'
          go_wp2_with fail
          refine hm.out.mono ?_
          rintro e w11 ⟨⟨v11, rfl, hv11⟩, hb11⟩
          have hb111 := hbk.out.trans (hb11.mono hbk.out.size)
          rw [hval] at hv11
          obtain ⟨y11, q11, rfl, k0, k1, f0, f1, hlt11, hfin0⟩ := star_end w w11 v11 Z _ (w.heap.size + 2) (hup.out _ hb111) (hk3'.out.later hb111) (by omega) hv11
          have hfin := Lib.hid hfin0
          clear hfin0 hv11 hm hb11 hb111
          go_wp2
          exact bodyPost_ret (v := .agg #[.int .i64 y11, .pointer q11]) (by simp [results, Tryz.results28, go_sem, k0, k1]) rfl ⟨⟨_, rfl, hfin.out.1⟩, hfin.out.2⟩
        · have er' : (σr != 0) = true := by rw [er]; simp [hR0]
          clear er
          have hval : sg true (Q + 1) = Z := by
            have := hZ9.out
            rw [if_neg hne, if_neg hR0] at this
            rw [← this]
            unfold sg
            simp
          have hlen := len_up Q
          go_wp2_with fail
          refine (hob.out _).mono ?_
          rintro e w10 ⟨h, rfl, hh, hb10, hge⟩
          have hne9 : h ≠ wc.heap.size := by omega
          have hsub : Hid (Calls Tryz.prog 51 #[.pointer (some ⟨wc.heap.size, 0, none⟩), .pointer (some ⟨wc.heap.size, 0, none⟩), .pointer (some ⟨h, 0, none⟩)] w10 fun e w' => e = .returned (.pointer (some ⟨wc.heap.size, 0, none⟩)) ∧ Big w' wc.heap.size true (Q + 1) ∧ Below wc.heap.size w10 w') := Lib.hid (by
            have q1 := hQ8.out.2.1.later hb10
            have q2 := hQ8.out.2.2.later hb10
            rw [hneb] at q1
            rcases Nat.eq_zero_or_pos Q with h0 | h0
            · rw [h0] at q1 q2 ⊢
              exact bsub_zero wc.heap.size h w7.heap.size uq w10 q1 q2 (by omega) (Nat.le_trans hsz8 hb10.size) hh hne9
            · rw [decide_eq_true h0] at q1
              exact bsub_up wc.heap.size h w7.heap.size Q uq w10 q1 q2 (by omega) (Nat.le_trans hsz8 hb10.size) h0 hh hne9 (by omega))
          have hb10' := Lib.hid hb10
          clear hb10 hh
          go_wp2_with fail
          refine hsub.out.mono ?_
          rintro e w12 ⟨rfl, hbg, hb12⟩
          have hb12' : Below w1.heap.size w1 w12 := (hb18'.out.trans (hb10'.out.mono hb18'.out.size)).trans (hb12.mono hb1c'.out.size)
          have hm := Lib.hid (mbi_any wc.heap.size _ _ w12 hbg (by omega))
          have hbk := Lib.hid hb12'
          clear hsx hsy hsr hb12' hbg hb12 hsub
          go_wp2_with fail
          refine hm.out.mono ?_
          rintro e w11 ⟨⟨v11, rfl, hv11⟩, hb11⟩
          have hb111 := hbk.out.trans (hb11.mono hbk.out.size)
          rw [hval] at hv11
          obtain ⟨y11, q11, rfl, k0, k1, f0, f1, hlt11, hfin0⟩ := star_end w w11 v11 Z _ (w.heap.size + 2) (hup.out _ hb111) (hk3'.out.later hb111) (by omega) hv11
          have hfin := Lib.hid hfin0
          clear hfin0 hv11 hm hb11 hb111
          go_wp2
          exact bodyPost_ret (v := .agg #[.int .i64 y11, .pointer q11]) (by simp [results, Tryz.results28, go_sem, k0, k1]) rfl ⟨⟨_, rfl, hfin.out.1⟩, hfin.out.2⟩
/-- the language's quotient, to the floor -/
theorem sdiv_any (x y : Value) (z1 z2 : Int) (B1 B2 : Nat) (w : World) (hx : SInt w B1 x z1) (hy : SInt w B2 y z2) (hl1 : len W z1.natAbs ≤ 39) (hl2 : len W z2.natAbs ≤ 39) (hz2 : z2 ≠ 0) (h40 : w.cell? ⟨1, 0, none⟩ = some (.int .i64 40)) :
    Calls Tryz.prog 28 #[x, y] w fun e w' => (∃ u, e = .returned u ∧ SAt w' u (quoZ (decide (z1 < 0)) (decide (z2 < 0)) z1.natAbs z2.natAbs)) ∧ Below w.heap.size w w' := by
  rcases hx.ptrs with ⟨z', hx1, hz1, h1⟩ | ⟨g, hx1, h1, -⟩
  · rcases hy.ptrs with ⟨z'', hy1, hz2', h2⟩ | ⟨g2, hy1, h2, -⟩
    · subst hx1 hy1 hz1 hz2'
      exact sdiv_small _ _ w h1 h2 hz2
    · exact sdiv_big x y z1 z2 B1 B2 w hx hy hl1 hl2 hz2 (.inr h2) h40
  · exact sdiv_big x y z1 z2 B1 B2 w hx hy hl1 hl2 hz2 (.inl h1) h40
end Go.Proofs.YtpjkfdgkkpkljaaGreatDoor.Big
