/-
  The exclusive or of two integers by sign and magnitude; that of small ones in 64 bits. The language's exclusive or of small integers. The language's exclusive or of integers.
-/
import Derived.Test.YtaappbnbjpbbcaaSpecXor
import Derived.Test.YtaappbnbjpbbcaaStarMake
import Derived.Test.YtaappbnbjpbbcaaStarShift
import Derived.Test.YtaappbnbjpbbcaaBigXor4
namespace Go.Proofs.Ytaappbnbjpbbcaa.Num
open Go.RowKit Go.Proofs.Ytaappbnbjpbbcaa.Ref Go.Proofs.Ytaappbnbjpbbcaa.Big
set_option linter.unusedVariables false

theorem sg_lt (neg : Bool) (V : Nat) (h : neg = true → 0 < V) : decide (sg neg V < 0) = neg := by
  unfold sg
  cases neg
  · simp; try omega
  · have := h rfl
    simp; omega
theorem sg_nat (neg : Bool) (V : Nat) : (sg neg V).natAbs = V := by unfold sg; cases neg <;> simp
theorem xorZ_sg (nx ny : Bool) (X Y : Nat) (hx : nx = true → 0 < X) (hy : ny = true → 0 < Y) : xorZ (sg nx X) (sg ny Y) = sg (xorS nx X ny Y).1 (xorS nx X ny Y).2 := by
  unfold xorZ
  rw [sg_lt nx X hx, sg_lt ny Y hy, sg_nat, sg_nat]

theorem two_ofInt (z : Int) (h1 : -9223372036854775808 ≤ z) (h2 : z ≤ 9223372036854775807) : (BitVec.ofInt 64 z).toNat = two 64 (decide (z < 0)) z.natAbs := by
  rw [BitVec.toNat_ofInt]
  unfold two
  by_cases h : z < 0
  · simp [h]; omega
  · simp [h]; omega
theorem xor_small (z1 z2 : Int) (h1 : isS z1 = true) (h2 : isS z2 = true) : bits BinOp.xor IntKind.i64 z1 z2 = xorZ z1 z2 := by
  have b1 := isS_bounds h1
  have b2 := isS_bounds h2
  show IntKind.i64.wrap ((BitVec.ofInt 64 z1 ^^^ BitVec.ofInt 64 z2).toNat : Int) = _
  rw [BitVec.toNat_xor, two_ofInt z1 (by omega) (by omega), two_ofInt z2 (by omega) (by omega)]
  have hx := two_xor 64 (by omega) (decide (z1 < 0)) (decide (z2 < 0)) z1.natAbs z2.natAbs (by simp; omega) (by simp; omega) (fun h => by simp at h; omega) (fun h => by simp at h; omega)
  unfold xorZ
  rw [← hx]
  have hT : two 64 (decide (z1 < 0)) z1.natAbs ^^^ two 64 (decide (z2 < 0)) z2.natAbs < 2 ^ 64 := by
    refine Nat.xor_lt_two_pow ?_ ?_
    · rw [← two_ofInt z1 (by omega) (by omega)]; exact (BitVec.ofInt 64 z1).isLt
    · rw [← two_ofInt z2 (by omega) (by omega)]; exact (BitVec.ofInt 64 z2).isLt
  obtain ⟨T, hTe⟩ : ∃ T, two 64 (decide (z1 < 0)) z1.natAbs ^^^ two 64 (decide (z2 < 0)) z2.natAbs = T := ⟨_, rfl⟩
  rw [hTe] at hT ⊢
  unfold untwo sg
  rw [IntKind.wrap_i64]
  by_cases h : T < 2 ^ (64 - 1)
  · rw [if_pos h]
    simp at h hT ⊢
    omega
  · rw [if_neg h]
    simp at h hT ⊢
    omega
theorem xor_isS (z1 z2 : Int) (h1 : isS z1 = true) (h2 : isS z2 = true) : isS (xorZ z1 z2) = true := by
  have b1 := isS_bounds h1
  have b2 := isS_bounds h2
  have key : ∀ a b : Nat, a < 2147483648 → b < 2147483648 → a ^^^ b < 2147483648 := fun a b ha hb => by
    have := @Nat.xor_lt_two_pow a b 31 (by simpa using ha) (by simpa using hb)
    simpa using this
  unfold xorZ xorS
  by_cases n1 : z1 < 0 <;> by_cases n2 : z2 < 0
  · have := key (z1.natAbs - 1) (z2.natAbs - 1) (by omega) (by omega)
    simp [n1, n2, sg, isS]; omega
  · have := key (z1.natAbs - 1) z2.natAbs (by omega) (by omega)
    simp [n1, n2, sg, isS]; omega
  · have := key z1.natAbs (z2.natAbs - 1) (by omega) (by omega)
    simp [n1, n2, sg, isS]; omega
  · have := key z1.natAbs z2.natAbs (by omega) (by omega)
    simp [n1, n2, sg, isS]; omega
end Go.Proofs.Ytaappbnbjpbbcaa.Num
namespace Go.Proofs.Ytaappbnbjpbbcaa.Big
open Go.RowKit Go.WideShapes Go.Proofs.Ytaappbnbjpbbcaa.Own Go.Proofs.Ytaappbnbjpbbcaa.Num Go.Proofs.Ytaappbnbjpbbcaa.Ref Go.Proofs.Ytaappbnbjpbbcaa.Nat_
set_option linter.unusedVariables false

/-- an integer of the language that is stored into the result's own cells -/
theorem starEnd (w wr : World) (v : Value) (z : Int) (B g : Nat) (hb : Below w.heap.size w wr) (hk : Box.Holds wr g 73 #[.int .i64 0, .pointer none]) (hg : w.heap.size ≤ g) (hgB : g < B) (hv : SInt wr B v z) :
    ∃ y q, v = .agg #[.int .i64 y, .pointer q] ∧ wr.cell? ⟨g, 0, none⟩ = some (.int .i64 0) ∧ wr.cell? ⟨g, 1, none⟩ = some (.pointer none) ∧ wr.frozen? ⟨g, 0, none⟩ = false ∧ wr.frozen? ⟨g, 1, none⟩ = false ∧ g < wr.heap.size ∧
      SInt ((wr.setCell ⟨g, 0, none⟩ (.int .i64 y)).setCell ⟨g, 1, none⟩ (.pointer q)) w.heap.size (.agg #[.int .i64 y, .pointer q]) z ∧ Below w.heap.size w ((wr.setCell ⟨g, 0, none⟩ (.int .i64 y)).setCell ⟨g, 1, none⟩ (.pointer q)) := by
  obtain ⟨y, q, rfl⟩ := hv.shape
  have k0 := hk.cell 0
  have k1 := hk.cell 1
  simp at k0 k1
  exact ⟨y, q, rfl, k0, k1, hk.free 0, hk.free 1, hk.lt, (hv.put2 hgB).mono hg, (hb.setCell (p := ⟨g, 0, none⟩) hg _).setCell (p := ⟨g, 1, none⟩) hg _⟩
theorem SInt.ptr_same {w : World} {B1 : Nat} {v : Value} {z : Int} (h : SInt w B1 v z) : (∃ z', v = .agg #[.int .i64 z', .pointer none] ∧ z' = z ∧ isS z = true) ∨ ∃ g, v = .agg #[.int .i64 0, .pointer (some ⟨g, 0, none⟩)] ∧ isS z = false ∧ g < w.heap.size := by
  rcases h with ⟨rfl, hs⟩ | ⟨g, neg, V, rfl, _, hbig, _, hs, _⟩
  · exact .inl ⟨z, rfl, rfl, hs⟩
  · exact .inr ⟨g, rfl, hs, hbig.lt⟩

set_option maxHeartbeats 2000000 in
set_option maxRecDepth 100000 in
theorem sxor_small (z1 z2 : Int) (w : World) (h1 : isS z1 = true) (h2 : isS z2 = true) :
    Calls Try.prog 35 #[.agg #[.int .i64 z1, .pointer none], .agg #[.int .i64 z2, .pointer none]] w fun e w' => (∃ u, e = .returned u ∧ SInt w' w.heap.size u (xorZ z1 z2)) ∧ Below w.heap.size w w' := by
  have hget1 := Lib.hid fun w => get_any z1 none w
  have hget2 := Lib.hid fun w => get_any z2 none w
  have hx := xor_small z1 z2 h1 h2
  have hs := Lib.hid (xor_isS z1 z2 h1 h2)
  obtain ⟨Z, hZ⟩ : ∃ Z, xorZ z1 z2 = Z := ⟨_, rfl⟩
  rw [hZ] at hx hs ⊢
  have hmk := Lib.hid fun w => mksmall_any Z w
  obtain ⟨w1, hw1⟩ : ∃ w1, ((w.alloc (.cells #[.int .i64 z1, .pointer none] 73)).alloc (.cells #[.int .i64 z2, .pointer none] 73)).alloc (.cells #[.int .i64 0, .pointer none] 73) = w1 := ⟨_, rfl⟩
  have hs1 : w1.heap.size = w.heap.size + 3 := by rw [← hw1]; simp
  have hb1 : Below w.heap.size w w1 := by rw [← hw1]; exact ((below_one _ (Nat.le_refl _)).alloc (by simp) _).alloc (by simp; omega) _
  have hk1 : Box.Holds w1 w.heap.size 73 #[.int .i64 z1, .pointer none] := by
    rw [← hw1]; exact ((Box.Holds.made w 73 #[.int .i64 z1, .pointer none]).alloc _).alloc _
  have hk2 : Box.Holds w1 (w.heap.size + 1) 73 #[.int .i64 z2, .pointer none] := by
    have := (Box.Holds.made (w.alloc (.cells #[.int .i64 z1, .pointer none] 73)) 73 #[.int .i64 z2, .pointer none]).alloc (.cells #[.int .i64 0, .pointer none] 73)
    rw [show (w.alloc (.cells #[.int .i64 z1, .pointer none] 73)).heap.size = w.heap.size + 1 by simp, hw1] at this
    exact this
  have hk3 : Box.Holds w1 (w.heap.size + 2) 73 #[.int .i64 0, .pointer none] := by
    have := Box.Holds.made ((w.alloc (.cells #[.int .i64 z1, .pointer none] 73)).alloc (.cells #[.int .i64 z2, .pointer none] 73)) 73 #[.int .i64 0, .pointer none]
    rw [show ((w.alloc (.cells #[.int .i64 z1, .pointer none] 73)).alloc (.cells #[.int .i64 z2, .pointer none] 73)).heap.size = w.heap.size + 2 by simp, hw1] at this
    exact this
  have hw1' := Lib.hid hw1
  have hk1' := Lib.hid hk1
  have hk2' := Lib.hid hk2
  have hk3' := Lib.hid hk3
  have hb1' := Lib.hid hb1
  have k10 := hk1.cell 0
  have k11 := hk1.cell 1
  simp at k10 k11
  clear h1 h2 hZ hw1 hk1 hk2 hk3 hb1
  go_enter Try.func35, Try.ntmps35
  go_wp2_with fail
  rw [hw1'.out]
  refine (hget1.out _).mono ?_
  rintro e w2 ⟨rfl, hb2⟩
  have hk22 := hk2'.out.later hb2
  have k20 := hk22.cell 0
  have k21 := hk22.cell 1
  simp at k20 k21
  have hb2' := Lib.hid hb2
  clear hk22 hb2 k10 k11
  go_wp2_with fail
  refine (hget2.out _).mono ?_
  rintro e w3 ⟨rfl, hb3⟩
  have hb3' := Lib.hid (hb2'.out.trans (hb3.mono hb2'.out.size))
  clear hb3 k20 k21
  go_wp2_with fail
  refine (hmk.out _).mono ?_
  rintro e w4 ⟨rfl, hb4⟩
  have hb4' := hb3'.out.trans (hb4.mono hb3'.out.size)
  have hk := hk3'.out.later hb4'
  have k0 := hk.cell 0
  have k1 := hk.cell 1
  simp at k0 k1
  have f0 := hk.free 0
  have f1 := hk.free 1
  have hlt4 := hk.lt
  have hbel := Lib.hid (((hb1'.out.trans (hb4'.mono hb1'.out.size)).setCell (p := ⟨w.heap.size + 1 + 1, 0, none⟩) (Nat.le_trans (Nat.le_succ _) (Nat.le_succ _)) (.int .i64 Z)).setCell (p := ⟨w.heap.size + 1 + 1, 1, none⟩) (Nat.le_trans (Nat.le_succ _) (Nat.le_succ _)) (.pointer none))
  clear hb4 hb4' hk
  go_wp2
  exact bodyPost_ret (v := .agg #[.int .i64 Z, .pointer none]) (by simp [results, Try.results35, go_sem, k0, k1]) rfl ⟨⟨_, rfl, .inl ⟨rfl, hs.out⟩⟩, hbel.out⟩
end Go.Proofs.Ytaappbnbjpbbcaa.Big
namespace Go.Proofs.Ytaappbnbjpbbcaa.Big
open Go.RowKit Go.WideShapes Go.Proofs.Ytaappbnbjpbbcaa.Own Go.Proofs.Ytaappbnbjpbbcaa.Num Go.Proofs.Ytaappbnbjpbbcaa.Ref Go.Proofs.Ytaappbnbjpbbcaa.Nat_
set_option linter.unusedVariables false

theorem bxor_any (g gx gy X Y : Nat) (nx ny : Bool) (w : World) (hg : Box.Holds w g 95 #[.bool false, .slice none 0 0]) (hx : BigAt w gx nx X) (hy : BigAt w gy ny Y) (hm : len W X ≤ 5000) (hm2 : len W Y ≤ 5000) (hpos : 2 ≤ X ∨ 2 ≤ Y) :
    Calls Try.prog 57 #[.pointer (some ⟨g, 0, none⟩), .pointer (some ⟨gx, 0, none⟩), .pointer (some ⟨gy, 0, none⟩)] w fun e w' => (e = .returned (.pointer (some ⟨g, 0, none⟩)) ∧ Big w' g (xorS nx X ny Y).1 (xorS nx X ny Y).2) ∧ Below g w w' := by
  cases nx <;> cases ny
  · exact bxor_ff g gx gy X Y w hg hx hy hm hm2 hpos
  · exact bxor_ft g gx gy X Y w hg hx hy hm hm2 hpos
  · have h := bxor_tf g gy gx Y X w hg hy hx hm2 hm (by omega)
    rw [Nat.xor_comm] at h
    exact h
  · exact bxor_tt g gx gy X Y w hg hx hy hm hm2 hpos
theorem len_xorS (nx ny : Bool) (X Y : Nat) (hm : len W X ≤ 5000) (hm2 : len W Y ≤ 5000) : len W (xorS nx X ny Y).2 ≤ 10000 := by
  have key : ∀ a b, len W a ≤ 5000 → len W b ≤ 5000 → len W (a ^^^ b) ≤ 5000 := fun a b ha hb => len_xor a b 5000 ha hb
  have h1 : len W (X - 1) ≤ 5000 := Nat.le_trans (len_mono W_two (Nat.sub_le X 1)) hm
  have h2 : len W (Y - 1) ≤ 5000 := Nat.le_trans (len_mono W_two (Nat.sub_le Y 1)) hm2
  have h3 : ∀ M, len W M ≤ 5000 → len W (M + 1) ≤ 10000 := fun M hM => by
    refine Nat.le_trans (len_le W_two (n := len W M + 1) ?_) (by omega)
    have := len_lt W_two M
    rw [Nat.pow_succ]
    have h4 : W ^ len W M * 2 ≤ W ^ len W M * W := Nat.mul_le_mul_left _ W_two
    have h5 : 0 < W ^ len W M := Nat.pow_pos W_pos
    omega
  unfold xorS
  cases nx <;> cases ny
  · exact Nat.le_trans (key _ _ hm hm2) (by omega)
  · exact h3 _ (key _ _ hm h2)
  · exact h3 _ (key _ _ h1 hm2)
  · exact Nat.le_trans (key _ _ h1 h2) (by omega)


/-- the call of Xor behind two of bigInt -/
def XorPost (z1 z2 : Int) (g : Nat) (w : World) (e : Ending) (w' : World) : Prop :=
  (∃ N M, e = .returned (.pointer (some ⟨g, 0, none⟩)) ∧ Big w' g N M ∧ sg N M = xorZ z1 z2 ∧ len W M ≤ 10000) ∧ Below g w w'
theorem xorCall (z1 z2 : Int) (hl1 : len W z1.natAbs ≤ 5000) (hl2 : len W z2.natAbs ≤ 5000) (hpos : 2 ≤ z1.natAbs ∨ 2 ≤ z2.natAbs) (g gx gy X Y : Nat) (nx ny : Bool) (w : World) (hg : Box.Holds w g 95 #[.bool false, .slice none 0 0]) (hx : BigAt w gx nx X) (hy : BigAt w gy ny Y)
    (hzx : sg nx X = z1) (hzy : sg ny Y = z2) : Calls Try.prog 57 #[.pointer (some ⟨g, 0, none⟩), .pointer (some ⟨gx, 0, none⟩), .pointer (some ⟨gy, 0, none⟩)] w (XorPost z1 z2 g w) := by
  have hpx : nx = true → 0 < X := by obtain ⟨_, _, _, _, hp⟩ := hx; exact hp
  have hpy : ny = true → 0 < Y := by obtain ⟨_, _, _, _, hp⟩ := hy; exact hp
  have hX : X = z1.natAbs := by rw [← hzx, sg_natAbs]
  have hY : Y = z2.natAbs := by rw [← hzy, sg_natAbs]
  refine (bxor_any g gx gy X Y nx ny w hg hx hy (by rw [hX]; exact hl1) (by rw [hY]; exact hl2) (by rw [hX, hY]; exact hpos)).mono ?_
  rintro e w' ⟨⟨h1, h2⟩, h3⟩
  exact ⟨⟨_, _, h1, h2, by rw [← hzx, ← hzy]; exact (xorZ_sg nx ny X Y hpx hpy).symm, len_xorS nx ny X Y (by rw [hX]; exact hl1) (by rw [hY]; exact hl2)⟩, h3⟩

set_option maxHeartbeats 4000000 in
set_option maxRecDepth 100000 in
theorem sxor_big (x y : Value) (z1 z2 : Int) (B1 B2 : Nat) (w : World) (hx : SInt w B1 x z1) (hy : SInt w B2 y z2) (hl1 : len W z1.natAbs ≤ 5000) (hl2 : len W z2.natAbs ≤ 5000) (hbig : isS z1 = false ∨ isS z2 = false) :
    Calls Try.prog 35 #[x, y] w fun e w' => (∃ u, e = .returned u ∧ SInt w' w.heap.size u (xorZ z1 z2)) ∧ Below w.heap.size w w' := by
  have hpos : 2 ≤ z1.natAbs ∨ 2 ≤ z2.natAbs := by
    rcases hbig with h | h
    · left
      by_cases h0 : 2 ≤ z1.natAbs
      · exact h0
      · have : isS z1 = true := by simp [isS]; omega
        rw [this] at h; cases h
    · right
      by_cases h0 : 2 ≤ z2.natAbs
      · exact h0
      · have : isS z2 = true := by simp [isS]; omega
        rw [this] at h; cases h
  have hb1 := Lib.hid fun wr (hW : Below w.heap.size w wr) => sbigv_any x z1 B1 wr (hx.later hW)
  have hb2 := Lib.hid fun wr (hW : Below w.heap.size w wr) => sbigv_any y z2 B2 wr (hy.later hW)
  have hv1 := Lib.hid fun g hg => hx.ptr_lt (g := g) hg
  have hv2 := Lib.hid fun g hg => hy.ptr_lt (g := g) hg
  have hptr : (∃ a b p, x = .agg #[.int .i64 a, .pointer (some p)] ∧ y = .agg #[.int .i64 b, .pointer none]) ∨ (∃ a b p, x = .agg #[.int .i64 a, .pointer none] ∧ y = .agg #[.int .i64 b, .pointer (some p)]) ∨ (∃ a b p q, x = .agg #[.int .i64 a, .pointer (some p)] ∧ y = .agg #[.int .i64 b, .pointer (some q)]) := by
    rcases hx.ptr_same with ⟨z', rfl, -, h1⟩ | ⟨g, rfl, h1, -⟩ <;> rcases hy.ptr_same with ⟨z'', rfl, -, h2⟩ | ⟨g2, rfl, h2, -⟩
    · rw [h1, h2] at hbig; rcases hbig with h | h <;> cases h
    · exact .inr (.inl ⟨_, _, _, rfl, rfl⟩)
    · exact .inl ⟨_, _, _, rfl, rfl⟩
    · exact .inr (.inr ⟨_, _, _, _, rfl, rfl⟩)
  obtain ⟨a1, p1, rfl⟩ := hx.shape
  obtain ⟨a2, p2, rfl⟩ := hy.shape
  have hget1 := Lib.hid fun w => get_any a1 p1 w
  have hget2 := Lib.hid fun w => get_any a2 p2 w
  obtain ⟨Z, hZ⟩ : ∃ Z, xorZ z1 z2 = Z := ⟨_, rfl⟩
  rw [hZ]
  have hZ' := Lib.hid hZ
  obtain ⟨w1, hw1⟩ : ∃ w1, ((w.alloc (.cells #[.int .i64 a1, .pointer p1] 73)).alloc (.cells #[.int .i64 a2, .pointer p2] 73)).alloc (.cells #[.int .i64 0, .pointer none] 73) = w1 := ⟨_, rfl⟩
  have hs1 : w1.heap.size = w.heap.size + 3 := by rw [← hw1]; simp
  have hbw : Below w.heap.size w w1 := by rw [← hw1]; exact ((below_one _ (Nat.le_refl _)).alloc (by simp) _).alloc (by simp; omega) _
  have hk1 : Box.Holds w1 w.heap.size 73 #[.int .i64 a1, .pointer p1] := by
    rw [← hw1]; exact ((Box.Holds.made w 73 #[.int .i64 a1, .pointer p1]).alloc _).alloc _
  have hk2 : Box.Holds w1 (w.heap.size + 1) 73 #[.int .i64 a2, .pointer p2] := by
    have := (Box.Holds.made (w.alloc (.cells #[.int .i64 a1, .pointer p1] 73)) 73 #[.int .i64 a2, .pointer p2]).alloc (.cells #[.int .i64 0, .pointer none] 73)
    rw [show (w.alloc (.cells #[.int .i64 a1, .pointer p1] 73)).heap.size = w.heap.size + 1 by simp, hw1] at this
    exact this
  have hk3 : Box.Holds w1 (w.heap.size + 2) 73 #[.int .i64 0, .pointer none] := by
    have := Box.Holds.made ((w.alloc (.cells #[.int .i64 a1, .pointer p1] 73)).alloc (.cells #[.int .i64 a2, .pointer p2] 73)) 73 #[.int .i64 0, .pointer none]
    rw [show ((w.alloc (.cells #[.int .i64 a1, .pointer p1] 73)).alloc (.cells #[.int .i64 a2, .pointer p2] 73)).heap.size = w.heap.size + 2 by simp, hw1] at this
    exact this
  have hkeep := Lib.hid fun wr (hW : Below w1.heap.size w1 wr) => cells4 (hk1.later hW) (hk2.later hW)
  have hend := Lib.hid fun wr v z B (hW : Below w1.heap.size w1 wr) (hB : w1.heap.size ≤ B) (hv : SInt wr B v z) => starEnd w wr v z B (w.heap.size + 1 + 1) (hbw.trans (hW.mono hbw.size)) (hk3.later hW) (by omega) (by omega) hv
  have hup := Lib.hid fun wr (hW : Below w1.heap.size w1 wr) => hbw.trans (hW.mono hbw.size)
  have hw1' := Lib.hid hw1
  obtain ⟨k10, k11, -, -⟩ := hkeep.out w1 (Below.refl _ _)
  clear hx hy hZ hw1 hk1 hk2 hk3 hbw hbig
  rcases hptr with ⟨a, b, p, h1, h2⟩ | ⟨a, b, p, h1, h2⟩ | ⟨a, b, p, q, h1, h2⟩
  · simp only [Value.agg.injEq, Array.mk.injEq, List.cons.injEq, Value.pointer.injEq, and_true] at h1 h2
    obtain ⟨-, rfl⟩ := h1
    obtain ⟨-, rfl⟩ := h2
    go_enter Try.func35, Try.ntmps35
    go_wp2_with fail
    rw [hw1'.out]
    refine (hget1.out _).mono ?_
    rintro e w2 ⟨rfl, hb2'⟩
    obtain ⟨-, -, k20, k21⟩ := hkeep.out w2 hb2'
    go_wp2_with fail
    refine (hget2.out _).mono ?_
    rintro e w3 ⟨rfl, hb3⟩
    have hb3' := hb2'.trans (hb3.mono hb2'.size)
    have hbh := Lib.hid hb3'
    obtain ⟨c0, c1, c2, c3⟩ := hkeep.out w3 hb3'
    clear hb3 hb2' hb3' k20 k21
    go_wp2_with fail
    obtain ⟨w4, hw4⟩ : ∃ w4, w3.drew.alloc (.cells #[.bool false, .slice none 0 0] 95) = w4 := ⟨_, rfl⟩
    have hg4 : Box.Holds w4 w3.heap.size 95 #[.bool false, .slice none 0 0] := by rw [← hw4]; exact Box.Holds.made w3.drew _ _
    have hb34 : Below w1.heap.size w1 w4 := by rw [← hw4]; exact (Box.below_drawn hbh.out 1).alloc hbh.out.size _
    have hs34 : w3.heap.size < w4.heap.size := by rw [← hw4]; simp
    have hsb1 := Lib.hid (hb1.out w4 (hup.out _ hb34))
    have hg4' := Lib.hid hg4
    have hb34' := Lib.hid hb34
    have c4 := hkeep.out w4 hb34
    have hs13 := hbh.out.size
    have hw4' := Lib.hid hw4
    clear hg4 hb34 hget1 hget2
    have hbd := Lib.hid (show Below w1.heap.size w1 w3.drew from Box.below_drawn hbh.out 1)
    have hsb1' := Lib.hid (hb1.out w3.drew (hup.out _ hbd.out))
    clear hb1
    go_region_held3 (fun wr => wr.cell? ⟨w.heap.size, 0, none⟩ = some (.int .i64 a1) ∧ wr.cell? ⟨w.heap.size, 1, none⟩ = some (.pointer (some p)) ∧ wr.cell? ⟨w.heap.size + 1, 0, none⟩ = some (.int .i64 a2) ∧ wr.cell? ⟨w.heap.size + 1, 1, none⟩ = some (.pointer none))
      (first | go_keep | (rw [hw4'.out]; exact c4) | exact c4 | exact c5 | exact c5a | exact c6 | exact c6a | exact c7 | exact c8 | exact c9 _ _)
      (first
        | (go_at_call 58; (with_reducible refine hsb1.out.mono ?_); rintro e w5 ⟨gx, nx, X, rfl, hbx, hzx, hmx, hb5, -⟩; have hb15 := hb34'.out.trans (hb5.mono hb34'.out.size); have hg5 := hg4'.out.later hb5; have c5 := hkeep.out w5 hb15)
        | (go_at_call 58; (with_reducible refine hsb1'.out.mono ?_); rintro e w5 ⟨gx, nx, X, rfl, hbx, hzx, hmx, hb5, -⟩; have hb15 := hbd.out.trans (hb5.mono hbd.out.size); have hb15a := hb15.alloc hb15.size (.cells #[.bool false, .slice none 0 0] 95); have hbxa := hbx.later (below_one (.cells #[.bool false, .slice none 0 0] 95) (Nat.le_refl _)); have c5 := hkeep.out w5 hb15; have c5a := hkeep.out _ hb15a)
        | (go_at_call 58; (with_reducible refine (hb2.out w5 (hup.out _ hb15)).mono ?_); rintro e w6 ⟨gy, ny, Y, rfl, hby, hzy, hmy, hb6, -⟩; have hb16 := hb15.trans (hb6.mono hb15.size); have hb16a := hb16.alloc hb16.size (.cells #[.bool false, .slice none 0 0] 95); have hbx6 := hbx.later hb6; have c6 := hkeep.out w6 hb16; have c6a := hkeep.out _ hb16a)
        | (go_at_call 58; (with_reducible refine (hb2.out _ (hup.out _ hb15a)).mono ?_); rintro e w6 ⟨gy, ny, Y, rfl, hby, hzy, hmy, hb6, -⟩; have hb16 := hb15a.trans (hb6.mono hb15a.size); have hbx6 := hbxa.later hb6; have hg6 := (Box.Holds.made w5 95 #[.bool false, .slice none 0 0]).later hb6; have c6 := hkeep.out w6 hb16)
        | (go_at_call 57; have hg6 := hg5.later hb6; (with_reducible refine (xorCall z1 z2 hl1 hl2 hpos w3.heap.size gx gy X Y nx ny w6 hg6 hbx6 hby hzx hzy).mono ?_); rintro e w7 ⟨⟨N, M, rfl, hbg, hsM, hlM⟩, hb7⟩; have hb17 := hb16.trans (hb7.mono hs13); have c7 := hkeep.out w7 hb17)
        | (go_at_call 57; (with_reducible refine (xorCall z1 z2 hl1 hl2 hpos w5.heap.size gx gy X Y nx ny w6 hg6 hbx6 hby hzx hzy).mono ?_); rintro e w7 ⟨⟨N, M, rfl, hbg, hsM, hlM⟩, hb7⟩; have hb17 := hb16.trans (hb7.mono hb15.size); have c7 := hkeep.out w7 hb17)
        | (go_at_call 57; have hg6 := Box.Holds.made w6 95 #[.bool false, .slice none 0 0]; have hbx7 := hbx6.later (below_one (.cells #[.bool false, .slice none 0 0] 95) (Nat.le_refl _)); have hby7 := hby.later (below_one (.cells #[.bool false, .slice none 0 0] 95) (Nat.le_refl _)); (with_reducible refine (xorCall z1 z2 hl1 hl2 hpos w6.heap.size gx gy X Y nx ny _ hg6 hbx7 hby7 hzx hzy).mono ?_); rintro e w7 ⟨⟨N, M, rfl, hbg, hsM, hlM⟩, hb7⟩; have hb17 := hb16a.trans (hb7.mono hb16.size); have c7 := hkeep.out w7 hb17)
        | (go_at_call 50; refine (mbi_any _ _ _ w7 hbg hlM).mono ?_; rintro e w8 ⟨⟨v8, rfl, hv8⟩, hb8⟩; have hb18 := hb17.trans (hb8.mono hb17.size); have c8 := hkeep.out w8 hb18; have c9 := fun u1 u2 => keep4 (g := w.heap.size + 1 + 1) (u1 := u1) (u2 := u2) c8 (by omega) (by omega); obtain ⟨y8, q8, rfl, k0, k1, f0, f1, hlt8, hfin0⟩ := hend.out w8 v8 _ _ hb18 hb17.size hv8; have hfin := Lib.hid hfin0; clear hfin0 hv8))
    all_goals
      go_wp2
      exact bodyPost_ret (v := .agg #[.int .i64 y8, .pointer q8]) (by simp [results, Try.results35, go_sem, k0, k1]) rfl ⟨⟨_, rfl, by rw [← hZ'.out, ← hsM]; exact hfin.out.1⟩, hfin.out.2⟩
  · simp only [Value.agg.injEq, Array.mk.injEq, List.cons.injEq, Value.pointer.injEq, and_true] at h1 h2
    obtain ⟨-, rfl⟩ := h1
    obtain ⟨-, rfl⟩ := h2
    go_enter Try.func35, Try.ntmps35
    go_wp2_with fail
    rw [hw1'.out]
    refine (hget1.out _).mono ?_
    rintro e w2 ⟨rfl, hb2'⟩
    obtain ⟨-, -, k20, k21⟩ := hkeep.out w2 hb2'
    go_wp2_with fail
    refine (hget2.out _).mono ?_
    rintro e w3 ⟨rfl, hb3⟩
    have hb3' := hb2'.trans (hb3.mono hb2'.size)
    have hbh := Lib.hid hb3'
    obtain ⟨c0, c1, c2, c3⟩ := hkeep.out w3 hb3'
    clear hb3 hb2' hb3' k20 k21
    go_wp2_with fail
    obtain ⟨w4, hw4⟩ : ∃ w4, w3.drew.alloc (.cells #[.bool false, .slice none 0 0] 95) = w4 := ⟨_, rfl⟩
    have hg4 : Box.Holds w4 w3.heap.size 95 #[.bool false, .slice none 0 0] := by rw [← hw4]; exact Box.Holds.made w3.drew _ _
    have hb34 : Below w1.heap.size w1 w4 := by rw [← hw4]; exact (Box.below_drawn hbh.out 1).alloc hbh.out.size _
    have hs34 : w3.heap.size < w4.heap.size := by rw [← hw4]; simp
    have hsb1 := Lib.hid (hb1.out w4 (hup.out _ hb34))
    have hg4' := Lib.hid hg4
    have hb34' := Lib.hid hb34
    have c4 := hkeep.out w4 hb34
    have hs13 := hbh.out.size
    have hw4' := Lib.hid hw4
    clear hg4 hb34 hget1 hget2
    have hbd := Lib.hid (show Below w1.heap.size w1 w3.drew from Box.below_drawn hbh.out 1)
    have hsb1' := Lib.hid (hb1.out w3.drew (hup.out _ hbd.out))
    clear hb1
    go_region_held3 (fun wr => wr.cell? ⟨w.heap.size, 0, none⟩ = some (.int .i64 a1) ∧ wr.cell? ⟨w.heap.size, 1, none⟩ = some (.pointer none) ∧ wr.cell? ⟨w.heap.size + 1, 0, none⟩ = some (.int .i64 a2) ∧ wr.cell? ⟨w.heap.size + 1, 1, none⟩ = some (.pointer (some p)))
      (first | go_keep | (rw [hw4'.out]; exact c4) | exact c4 | exact c5 | exact c5a | exact c6 | exact c6a | exact c7 | exact c8 | exact c9 _ _)
      (first
        | (go_at_call 58; (with_reducible refine hsb1.out.mono ?_); rintro e w5 ⟨gx, nx, X, rfl, hbx, hzx, hmx, hb5, -⟩; have hb15 := hb34'.out.trans (hb5.mono hb34'.out.size); have hg5 := hg4'.out.later hb5; have c5 := hkeep.out w5 hb15)
        | (go_at_call 58; (with_reducible refine hsb1'.out.mono ?_); rintro e w5 ⟨gx, nx, X, rfl, hbx, hzx, hmx, hb5, -⟩; have hb15 := hbd.out.trans (hb5.mono hbd.out.size); have hb15a := hb15.alloc hb15.size (.cells #[.bool false, .slice none 0 0] 95); have hbxa := hbx.later (below_one (.cells #[.bool false, .slice none 0 0] 95) (Nat.le_refl _)); have c5 := hkeep.out w5 hb15; have c5a := hkeep.out _ hb15a)
        | (go_at_call 58; (with_reducible refine (hb2.out w5 (hup.out _ hb15)).mono ?_); rintro e w6 ⟨gy, ny, Y, rfl, hby, hzy, hmy, hb6, -⟩; have hb16 := hb15.trans (hb6.mono hb15.size); have hb16a := hb16.alloc hb16.size (.cells #[.bool false, .slice none 0 0] 95); have hbx6 := hbx.later hb6; have c6 := hkeep.out w6 hb16; have c6a := hkeep.out _ hb16a)
        | (go_at_call 58; (with_reducible refine (hb2.out _ (hup.out _ hb15a)).mono ?_); rintro e w6 ⟨gy, ny, Y, rfl, hby, hzy, hmy, hb6, -⟩; have hb16 := hb15a.trans (hb6.mono hb15a.size); have hbx6 := hbxa.later hb6; have hg6 := (Box.Holds.made w5 95 #[.bool false, .slice none 0 0]).later hb6; have c6 := hkeep.out w6 hb16)
        | (go_at_call 57; have hg6 := hg5.later hb6; (with_reducible refine (xorCall z1 z2 hl1 hl2 hpos w3.heap.size gx gy X Y nx ny w6 hg6 hbx6 hby hzx hzy).mono ?_); rintro e w7 ⟨⟨N, M, rfl, hbg, hsM, hlM⟩, hb7⟩; have hb17 := hb16.trans (hb7.mono hs13); have c7 := hkeep.out w7 hb17)
        | (go_at_call 57; (with_reducible refine (xorCall z1 z2 hl1 hl2 hpos w5.heap.size gx gy X Y nx ny w6 hg6 hbx6 hby hzx hzy).mono ?_); rintro e w7 ⟨⟨N, M, rfl, hbg, hsM, hlM⟩, hb7⟩; have hb17 := hb16.trans (hb7.mono hb15.size); have c7 := hkeep.out w7 hb17)
        | (go_at_call 57; have hg6 := Box.Holds.made w6 95 #[.bool false, .slice none 0 0]; have hbx7 := hbx6.later (below_one (.cells #[.bool false, .slice none 0 0] 95) (Nat.le_refl _)); have hby7 := hby.later (below_one (.cells #[.bool false, .slice none 0 0] 95) (Nat.le_refl _)); (with_reducible refine (xorCall z1 z2 hl1 hl2 hpos w6.heap.size gx gy X Y nx ny _ hg6 hbx7 hby7 hzx hzy).mono ?_); rintro e w7 ⟨⟨N, M, rfl, hbg, hsM, hlM⟩, hb7⟩; have hb17 := hb16a.trans (hb7.mono hb16.size); have c7 := hkeep.out w7 hb17)
        | (go_at_call 50; refine (mbi_any _ _ _ w7 hbg hlM).mono ?_; rintro e w8 ⟨⟨v8, rfl, hv8⟩, hb8⟩; have hb18 := hb17.trans (hb8.mono hb17.size); have c8 := hkeep.out w8 hb18; have c9 := fun u1 u2 => keep4 (g := w.heap.size + 1 + 1) (u1 := u1) (u2 := u2) c8 (by omega) (by omega); obtain ⟨y8, q8, rfl, k0, k1, f0, f1, hlt8, hfin0⟩ := hend.out w8 v8 _ _ hb18 hb17.size hv8; have hfin := Lib.hid hfin0; clear hfin0 hv8))
    all_goals
      go_wp2
      exact bodyPost_ret (v := .agg #[.int .i64 y8, .pointer q8]) (by simp [results, Try.results35, go_sem, k0, k1]) rfl ⟨⟨_, rfl, by rw [← hZ'.out, ← hsM]; exact hfin.out.1⟩, hfin.out.2⟩
  · simp only [Value.agg.injEq, Array.mk.injEq, List.cons.injEq, Value.pointer.injEq, and_true] at h1 h2
    obtain ⟨-, rfl⟩ := h1
    obtain ⟨-, rfl⟩ := h2
    go_enter Try.func35, Try.ntmps35
    go_wp2_with fail
    rw [hw1'.out]
    refine (hget1.out _).mono ?_
    rintro e w2 ⟨rfl, hb2'⟩
    obtain ⟨-, -, k20, k21⟩ := hkeep.out w2 hb2'
    go_wp2_with fail
    refine (hget2.out _).mono ?_
    rintro e w3 ⟨rfl, hb3⟩
    have hb3' := hb2'.trans (hb3.mono hb2'.size)
    have hbh := Lib.hid hb3'
    obtain ⟨c0, c1, c2, c3⟩ := hkeep.out w3 hb3'
    clear hb3 hb2' hb3' k20 k21
    go_wp2_with fail
    obtain ⟨w4, hw4⟩ : ∃ w4, w3.drew.alloc (.cells #[.bool false, .slice none 0 0] 95) = w4 := ⟨_, rfl⟩
    have hg4 : Box.Holds w4 w3.heap.size 95 #[.bool false, .slice none 0 0] := by rw [← hw4]; exact Box.Holds.made w3.drew _ _
    have hb34 : Below w1.heap.size w1 w4 := by rw [← hw4]; exact (Box.below_drawn hbh.out 1).alloc hbh.out.size _
    have hs34 : w3.heap.size < w4.heap.size := by rw [← hw4]; simp
    have hsb1 := Lib.hid (hb1.out w4 (hup.out _ hb34))
    have hg4' := Lib.hid hg4
    have hb34' := Lib.hid hb34
    have c4 := hkeep.out w4 hb34
    have hs13 := hbh.out.size
    have hw4' := Lib.hid hw4
    clear hg4 hb34 hget1 hget2
    have hbd := Lib.hid (show Below w1.heap.size w1 w3.drew from Box.below_drawn hbh.out 1)
    have hsb1' := Lib.hid (hb1.out w3.drew (hup.out _ hbd.out))
    clear hb1
    go_region_held3 (fun wr => wr.cell? ⟨w.heap.size, 0, none⟩ = some (.int .i64 a1) ∧ wr.cell? ⟨w.heap.size, 1, none⟩ = some (.pointer (some p)) ∧ wr.cell? ⟨w.heap.size + 1, 0, none⟩ = some (.int .i64 a2) ∧ wr.cell? ⟨w.heap.size + 1, 1, none⟩ = some (.pointer (some q)))
      (first | go_keep | (rw [hw4'.out]; exact c4) | exact c4 | exact c5 | exact c5a | exact c6 | exact c6a | exact c7 | exact c8 | exact c9 _ _)
      (first
        | (go_at_call 58; (with_reducible refine hsb1.out.mono ?_); rintro e w5 ⟨gx, nx, X, rfl, hbx, hzx, hmx, hb5, -⟩; have hb15 := hb34'.out.trans (hb5.mono hb34'.out.size); have hg5 := hg4'.out.later hb5; have c5 := hkeep.out w5 hb15)
        | (go_at_call 58; (with_reducible refine hsb1'.out.mono ?_); rintro e w5 ⟨gx, nx, X, rfl, hbx, hzx, hmx, hb5, -⟩; have hb15 := hbd.out.trans (hb5.mono hbd.out.size); have hb15a := hb15.alloc hb15.size (.cells #[.bool false, .slice none 0 0] 95); have hbxa := hbx.later (below_one (.cells #[.bool false, .slice none 0 0] 95) (Nat.le_refl _)); have c5 := hkeep.out w5 hb15; have c5a := hkeep.out _ hb15a)
        | (go_at_call 58; (with_reducible refine (hb2.out w5 (hup.out _ hb15)).mono ?_); rintro e w6 ⟨gy, ny, Y, rfl, hby, hzy, hmy, hb6, -⟩; have hb16 := hb15.trans (hb6.mono hb15.size); have hb16a := hb16.alloc hb16.size (.cells #[.bool false, .slice none 0 0] 95); have hbx6 := hbx.later hb6; have c6 := hkeep.out w6 hb16; have c6a := hkeep.out _ hb16a)
        | (go_at_call 58; (with_reducible refine (hb2.out _ (hup.out _ hb15a)).mono ?_); rintro e w6 ⟨gy, ny, Y, rfl, hby, hzy, hmy, hb6, -⟩; have hb16 := hb15a.trans (hb6.mono hb15a.size); have hbx6 := hbxa.later hb6; have hg6 := (Box.Holds.made w5 95 #[.bool false, .slice none 0 0]).later hb6; have c6 := hkeep.out w6 hb16)
        | (go_at_call 57; have hg6 := hg5.later hb6; (with_reducible refine (xorCall z1 z2 hl1 hl2 hpos w3.heap.size gx gy X Y nx ny w6 hg6 hbx6 hby hzx hzy).mono ?_); rintro e w7 ⟨⟨N, M, rfl, hbg, hsM, hlM⟩, hb7⟩; have hb17 := hb16.trans (hb7.mono hs13); have c7 := hkeep.out w7 hb17)
        | (go_at_call 57; (with_reducible refine (xorCall z1 z2 hl1 hl2 hpos w5.heap.size gx gy X Y nx ny w6 hg6 hbx6 hby hzx hzy).mono ?_); rintro e w7 ⟨⟨N, M, rfl, hbg, hsM, hlM⟩, hb7⟩; have hb17 := hb16.trans (hb7.mono hb15.size); have c7 := hkeep.out w7 hb17)
        | (go_at_call 57; have hg6 := Box.Holds.made w6 95 #[.bool false, .slice none 0 0]; have hbx7 := hbx6.later (below_one (.cells #[.bool false, .slice none 0 0] 95) (Nat.le_refl _)); have hby7 := hby.later (below_one (.cells #[.bool false, .slice none 0 0] 95) (Nat.le_refl _)); (with_reducible refine (xorCall z1 z2 hl1 hl2 hpos w6.heap.size gx gy X Y nx ny _ hg6 hbx7 hby7 hzx hzy).mono ?_); rintro e w7 ⟨⟨N, M, rfl, hbg, hsM, hlM⟩, hb7⟩; have hb17 := hb16a.trans (hb7.mono hb16.size); have c7 := hkeep.out w7 hb17)
        | (go_at_call 50; refine (mbi_any _ _ _ w7 hbg hlM).mono ?_; rintro e w8 ⟨⟨v8, rfl, hv8⟩, hb8⟩; have hb18 := hb17.trans (hb8.mono hb17.size); have c8 := hkeep.out w8 hb18; have c9 := fun u1 u2 => keep4 (g := w.heap.size + 1 + 1) (u1 := u1) (u2 := u2) c8 (by omega) (by omega); obtain ⟨y8, q8, rfl, k0, k1, f0, f1, hlt8, hfin0⟩ := hend.out w8 v8 _ _ hb18 hb17.size hv8; have hfin := Lib.hid hfin0; clear hfin0 hv8))
    all_goals
      go_wp2
      exact bodyPost_ret (v := .agg #[.int .i64 y8, .pointer q8]) (by simp [results, Try.results35, go_sem, k0, k1]) rfl ⟨⟨_, rfl, by rw [← hZ'.out, ← hsM]; exact hfin.out.1⟩, hfin.out.2⟩

/-- the exclusive or of two integers of the language -/
theorem sxor_any (x y : Value) (z1 z2 : Int) (B1 B2 : Nat) (w : World) (hx : SInt w B1 x z1) (hy : SInt w B2 y z2) (hl1 : len W z1.natAbs ≤ 5000) (hl2 : len W z2.natAbs ≤ 5000) :
    Calls Try.prog 35 #[x, y] w fun e w' => (∃ u, e = .returned u ∧ SInt w' w.heap.size u (xorZ z1 z2)) ∧ Below w.heap.size w w' := by
  rcases hx.ptr_same with ⟨z', hx1, hz1, h1⟩ | ⟨g, hx1, h1, -⟩
  · rcases hy.ptr_same with ⟨z'', hy1, hz2, h2⟩ | ⟨g2, hy1, h2, -⟩
    · subst hx1 hy1 hz1 hz2
      exact sxor_small _ _ w h1 h2
    · exact sxor_big x y z1 z2 B1 B2 w hx hy hl1 hl2 (.inr h2)
  · exact sxor_big x y z1 z2 B1 B2 w hx hy hl1 hl2 (.inl h1)
end Go.Proofs.Ytaappbnbjpbbcaa.Big
