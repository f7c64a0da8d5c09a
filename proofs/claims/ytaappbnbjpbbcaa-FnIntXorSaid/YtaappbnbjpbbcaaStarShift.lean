/-
  The language's integers shifted.
-/
import Derived.Test.YtaappbnbjpbbcaaBigShift
import Derived.Test.YtaappbnbjpbbcaaLawWhole
namespace Go.Proofs.Ytaappbnbjpbbcaa.Big
open Go.RowKit Go.WideShapes Go.Proofs.Ytaappbnbjpbbcaa.Own Go.Proofs.Ytaappbnbjpbbcaa.Num Go.Proofs.Ytaappbnbjpbbcaa.Ref Go.Proofs.Ytaappbnbjpbbcaa.Nat_
set_option linter.unusedVariables false

theorem len_shl (V S : Nat) : len W (V * 2 ^ S) ≤ len W V + (S / 64 + 1) := by
  refine len_le W_two ?_
  rw [Nat.pow_add]
  refine Nat.mul_lt_mul_of_lt_of_le (len_lt W_two V) ?_ (Nat.pow_pos W_pos)
  rw [show W = 2 ^ 64 by rw [W_eq], ← Nat.pow_mul]
  exact Nat.pow_le_pow_right (by decide) (by omega)
theorem sg_shl (neg : Bool) (V S : Nat) : sg neg (V * 2 ^ S) = sg neg V * 2 ^ S := by
  unfold sg
  cases neg
  · simp
  · simp [Int.neg_mul]
/-- to the right, toward the floor -/
def shrZ (z : Int) (S : Nat) : Int := if z < 0 then -(((z.natAbs - 1) / 2 ^ S + 1 : Nat) : Int) else ((z.natAbs / 2 ^ S : Nat) : Int)
theorem sg_natAbs (neg : Bool) (V : Nat) : (sg neg V).natAbs = V := by unfold sg; cases neg <;> simp

/-- where the value's own number lies: below the end of the heap -/
theorem SInt.ptr_lt {w : World} {B : Nat} {v : Value} {z : Int} (h : SInt w B v z) {g : Nat} (hv : v = .agg #[.int .i64 0, .pointer (some ⟨g, 0, none⟩)]) : g < w.heap.size := by
  rcases h with ⟨rfl, _⟩ | ⟨g', neg, V, rfl, _, hbig, _⟩
  · simp at hv
  · simp at hv
    subst hv
    exact hbig.lt

set_option maxHeartbeats 1000000 in
set_option maxRecDepth 100000 in
theorem slsh_any (v : Value) (z : Int) (B S : Nat) (w : World) (h : SInt w B v z) (hz : len W z.natAbs ≤ 4000) (hS : S ≤ 100000) :
    Calls Try.prog 39 #[v, .int .u64 S] w fun e w' => (∃ u, e = .returned u ∧ SInt w' w.heap.size u (z * 2 ^ S)) ∧ Below w.heap.size w w' := by
  have hv := Lib.hid fun g hg => h.ptr_lt (g := g) hg
  obtain ⟨a, p, rfl⟩ := h.shape
  obtain ⟨w1, hw1⟩ : ∃ w1, ((w.alloc (.cells #[.int .i64 a, .pointer p] 73)).alloc (.cells #[.int .i64 0, .pointer none] 73)).alloc (.cells #[.bool false, .slice none 0 0] 95) = w1 := ⟨_, rfl⟩
  have hs1 : w1.heap.size = w.heap.size + 3 := by rw [← hw1]; simp
  have hb1 : Below w.heap.size w w1 := by rw [← hw1]; exact (((Below.refl _ _).alloc (Nat.le_refl _) _).alloc (by simp) _).alloc (by simp; omega) _
  have hg1 : Box.Holds w1 (w.heap.size + 2) 95 #[.bool false, .slice none 0 0] := by
    have := Box.Holds.made ((w.alloc (.cells #[.int .i64 a, .pointer p] 73)).alloc (.cells #[.int .i64 0, .pointer none] 73)) 95 #[.bool false, .slice none 0 0]
    rw [show ((w.alloc (.cells #[.int .i64 a, .pointer p] 73)).alloc (.cells #[.int .i64 0, .pointer none] 73)).heap.size = w.heap.size + 2 by simp, hw1] at this
    exact this
  have hr1 : Box.Holds w1 (w.heap.size + 1) 73 #[.int .i64 0, .pointer none] := by
    have := (Box.Holds.made (w.alloc (.cells #[.int .i64 a, .pointer p] 73)) 73 #[.int .i64 0, .pointer none]).alloc (.cells #[.bool false, .slice none 0 0] 95)
    rw [show (w.alloc (.cells #[.int .i64 a, .pointer p] 73)).heap.size = w.heap.size + 1 by simp, hw1] at this
    exact this
  have hb := Lib.hid (sbigv_any _ z B w1 (h.later hb1))
  have hg1' := Lib.hid hg1
  have hr1' := Lib.hid hr1
  have hb1' := Lib.hid hb1
  have hw1' := Lib.hid hw1
  clear h hg1 hr1 hb1 hw1
  go_enter Try.func39, Try.ntmps39
  go_wp2_with fail
  rw [hw1'.out]
  refine hb.out.mono ?_
  rintro e w2 ⟨gx, neg, V, rfl, hbx, hsz, hm, hb2, hwhere⟩
  have hne : gx ≠ w.heap.size + 2 := by
    rcases hwhere with h | h
    · omega
    · have := hv.out gx h
      omega
  have hVz : V = z.natAbs := by rw [← hsz, sg_natAbs]
  have hg2 := hg1'.out.later hb2
  have hlt2 := hg2.lt
  have hl := Lib.hid (blsh_any (w.heap.size + 2) gx S V neg w2 hg2 hbx hne (by rw [hVz]; omega) hS)
  have hr2 := Lib.hid (hr1'.out.later hb2)
  have hb2' := Lib.hid (hb1'.out.trans (hb2.mono (by omega)))
  have hsz2 := hb2.size
  have hlenS : len W (V * 2 ^ S) ≤ 10000 := by
    have := len_shl V S
    rw [hVz] at this ⊢
    omega
  have hsg := Lib.hid (sg_shl neg V S)
  rw [hsz] at hsg
  have hlenS' := Lib.hid hlenS
  clear hb hbx hsz hm hb2 hwhere hg2 hVz hlenS
  go_wp2_with fail
  refine hl.out.mono ?_
  rintro e w3 ⟨⟨rfl, hbig⟩, hb3⟩
  have hmk := Lib.hid (mbi_any _ _ _ w3 hbig hlenS'.out)
  rw [hsg.out] at hmk
  have hb3' : Below w.heap.size w w3 := hb2'.out.trans (hb3.mono (by omega))
  have hr3 := hr2.out.below hb3 (by omega)
  have hs3 := hb3.size
  have hr3' := Lib.hid hr3
  have hb3'' := Lib.hid hb3'
  clear hl hbig hb3 hb3' hr3 hr2 hb2'
  go_wp2_with fail
  refine hmk.out.mono ?_
  rintro e w4 ⟨⟨u, rfl, hu⟩, hb4⟩
  obtain ⟨y, q, rfl⟩ := hu.shape
  have hr4 := hr3'.out.later hb4
  have k0 := hr4.cell 0
  have k1 := hr4.cell 1
  simp at k0 k1
  have f0 := hr4.free 0
  have f1 := hr4.free 1
  have hlt4 := hr4.lt
  have hfin := Lib.hid ((hu.put2 (b := w.heap.size + 1) (by omega)).mono (Nat.le_succ w.heap.size))
  have hbel := ((hb3''.out.trans (hb4.mono hb3''.out.size)).setCell (p := ⟨w.heap.size + 1, 0, none⟩) (Nat.le_succ _) (.int .i64 y)).setCell (p := ⟨w.heap.size + 1, 1, none⟩) (Nat.le_succ _) (.pointer q)
  clear hu hr4 hb4 hmk
  go_wp2
  exact bodyPost_ret (v := .agg #[.int .i64 y, .pointer q]) (by simp [results, Try.results39, go_sem, k0, k1]) rfl ⟨⟨_, rfl, hfin.out⟩, hbel⟩
def shrN (neg : Bool) (V S : Nat) : Nat := if neg then (V - 1) / 2 ^ S + 1 else V / 2 ^ S
theorem shrN_le (neg : Bool) (V S : Nat) (h : neg = true → 0 < V) : shrN neg V S ≤ V := by
  unfold shrN
  cases neg
  · exact Nat.div_le_self _ _
  · have h1 := Nat.div_le_self (V - 1) (2 ^ S)
    have h2 := h rfl
    rw [if_pos rfl]
    omega
theorem sg_shr (neg : Bool) (V S : Nat) (h : neg = true → 0 < V) : sg neg (shrN neg V S) = shrZ (sg neg V) S := by
  unfold shrZ
  rw [sg_natAbs]
  unfold sg shrN
  cases neg
  · simp; omega
  · have := h rfl
    simp; omega
theorem brsh_any (g gx S V : Nat) (neg : Bool) (w : World) (hg : Box.Holds w g 95 #[.bool false, .slice none 0 0]) (hx : BigAt w gx neg V) (hne : gx ≠ g) (hm : len W V ≤ 5000) (hS : S ≤ 100000) :
    Calls Try.prog 61 #[.pointer (some ⟨g, 0, none⟩), .pointer (some ⟨gx, 0, none⟩), .int .u64 S] w fun e w' => (e = .returned (.pointer (some ⟨g, 0, none⟩)) ∧ Big w' g neg (shrN neg V S)) ∧ Below g w w' := by
  cases neg
  · exact brsh_pos g gx S V w hg hx hne hm hS
  · exact brsh_neg g gx S V w hg hx hne hm hS

set_option maxHeartbeats 1000000 in
set_option maxRecDepth 100000 in
theorem srsh_any (v : Value) (z : Int) (B S : Nat) (w : World) (h : SInt w B v z) (hz : len W z.natAbs ≤ 4000) (hS : S ≤ 100000) :
    Calls Try.prog 38 #[v, .int .u64 S] w fun e w' => (∃ u, e = .returned u ∧ SInt w' w.heap.size u (shrZ z S)) ∧ Below w.heap.size w w' := by
  have hv := Lib.hid fun g hg => h.ptr_lt (g := g) hg
  obtain ⟨a, p, rfl⟩ := h.shape
  obtain ⟨w1, hw1⟩ : ∃ w1, ((w.alloc (.cells #[.int .i64 a, .pointer p] 73)).alloc (.cells #[.int .i64 0, .pointer none] 73)).alloc (.cells #[.bool false, .slice none 0 0] 95) = w1 := ⟨_, rfl⟩
  have hs1 : w1.heap.size = w.heap.size + 3 := by rw [← hw1]; simp
  have hb1 : Below w.heap.size w w1 := by rw [← hw1]; exact (((Below.refl _ _).alloc (Nat.le_refl _) _).alloc (by simp) _).alloc (by simp; omega) _
  have hg1 : Box.Holds w1 (w.heap.size + 2) 95 #[.bool false, .slice none 0 0] := by
    have := Box.Holds.made ((w.alloc (.cells #[.int .i64 a, .pointer p] 73)).alloc (.cells #[.int .i64 0, .pointer none] 73)) 95 #[.bool false, .slice none 0 0]
    rw [show ((w.alloc (.cells #[.int .i64 a, .pointer p] 73)).alloc (.cells #[.int .i64 0, .pointer none] 73)).heap.size = w.heap.size + 2 by simp, hw1] at this
    exact this
  have hr1 : Box.Holds w1 (w.heap.size + 1) 73 #[.int .i64 0, .pointer none] := by
    have := (Box.Holds.made (w.alloc (.cells #[.int .i64 a, .pointer p] 73)) 73 #[.int .i64 0, .pointer none]).alloc (.cells #[.bool false, .slice none 0 0] 95)
    rw [show (w.alloc (.cells #[.int .i64 a, .pointer p] 73)).heap.size = w.heap.size + 1 by simp, hw1] at this
    exact this
  have hb := Lib.hid (sbigv_any _ z B w1 (h.later hb1))
  have hg1' := Lib.hid hg1
  have hr1' := Lib.hid hr1
  have hb1' := Lib.hid hb1
  have hw1' := Lib.hid hw1
  clear h hg1 hr1 hb1 hw1
  go_enter Try.func38, Try.ntmps38
  go_wp2_with fail
  rw [hw1'.out]
  refine hb.out.mono ?_
  rintro e w2 ⟨gx, neg, V, rfl, hbx, hsz, hm, hb2, hwhere⟩
  have hne : gx ≠ w.heap.size + 2 := by
    rcases hwhere with h | h
    · omega
    · have := hv.out gx h
      omega
  have hpos : neg = true → 0 < V := by obtain ⟨_, _, _, _, hp⟩ := hbx; exact hp
  have hVz : V = z.natAbs := by rw [← hsz, sg_natAbs]
  have hg2 := hg1'.out.later hb2
  have hlt2 := hg2.lt
  have hl := Lib.hid (brsh_any (w.heap.size + 2) gx S V neg w2 hg2 hbx hne (by rw [hVz]; omega) hS)
  have hr2 := Lib.hid (hr1'.out.later hb2)
  have hb2' := Lib.hid (hb1'.out.trans (hb2.mono (by omega)))
  have hsz2 := hb2.size
  have hlenS : len W (shrN neg V S) ≤ 10000 := by
    have := len_mono W_two (shrN_le neg V S hpos)
    omega
  have hsg := Lib.hid (sg_shr neg V S hpos)
  rw [hsz] at hsg
  have hlenS' := Lib.hid hlenS
  clear hb hbx hsz hm hb2 hwhere hg2 hVz hlenS
  go_wp2_with fail
  refine hl.out.mono ?_
  rintro e w3 ⟨⟨rfl, hbig⟩, hb3⟩
  have hmk := Lib.hid (mbi_any _ _ _ w3 hbig hlenS'.out)
  rw [hsg.out] at hmk
  have hb3' : Below w.heap.size w w3 := hb2'.out.trans (hb3.mono (by omega))
  have hr3 := hr2.out.below hb3 (by omega)
  have hs3 := hb3.size
  have hr3' := Lib.hid hr3
  have hb3'' := Lib.hid hb3'
  clear hl hbig hb3 hb3' hr3 hr2 hb2'
  go_wp2_with fail
  refine hmk.out.mono ?_
  rintro e w4 ⟨⟨u, rfl, hu⟩, hb4⟩
  obtain ⟨y, q, rfl⟩ := hu.shape
  have hr4 := hr3'.out.later hb4
  have k0 := hr4.cell 0
  have k1 := hr4.cell 1
  simp at k0 k1
  have f0 := hr4.free 0
  have f1 := hr4.free 1
  have hlt4 := hr4.lt
  have hfin := Lib.hid ((hu.put2 (b := w.heap.size + 1) (by omega)).mono (Nat.le_succ w.heap.size))
  have hbel := ((hb3''.out.trans (hb4.mono hb3''.out.size)).setCell (p := ⟨w.heap.size + 1, 0, none⟩) (Nat.le_succ _) (.int .i64 y)).setCell (p := ⟨w.heap.size + 1, 1, none⟩) (Nat.le_succ _) (.pointer q)
  clear hu hr4 hb4 hmk
  go_wp2
  exact bodyPost_ret (v := .agg #[.int .i64 y, .pointer q]) (by simp [results, Try.results38, go_sem, k0, k1]) rfl ⟨⟨_, rfl, hfin.out⟩, hbel⟩
end Go.Proofs.Ytaappbnbjpbbcaa.Big
