/-
  The package's integers that are read alone: one that is made of a number; the one behind an integer of the language.
-/
import Derived.Test.YtpjkfdgkkpkljaaGreatDoorWhole
namespace Go.Proofs.YtpjkfdgkkpkljaaGreatDoor.Big
open Go.RowKit Go.WideShapes Go.Proofs.YtpjkfdgkkpkljaaGreatDoor.Own Go.Proofs.YtpjkfdgkkpkljaaGreatDoor.Num Go.Proofs.YtpjkfdgkkpkljaaGreatDoor.Ref Go.Proofs.YtpjkfdgkkpkljaaGreatDoor.Nat_
set_option linter.unusedVariables false

/-- the integer that block g holds, wherever its words lie -/
def BigAt (w : World) (g : Nat) (neg : Bool) (V : Nat) : Prop := ∃ v B, Box.Holds w g 85 #[.bool neg, v] ∧ IsNat w B v V ∧ (neg = true → 0 < V)
theorem Big.at_ {w : World} {g : Nat} {neg : Bool} {V : Nat} (h : Big w g neg V) : BigAt w g neg V := by
  obtain ⟨v, h1, h2, h3⟩ := h
  exact ⟨v, g + 1, h1, h2, h3⟩
theorem BigAt.lt {w : World} {g : Nat} {neg : Bool} {V : Nat} (h : BigAt w g neg V) : g < w.heap.size := by
  obtain ⟨v, B, h1, _⟩ := h
  exact h1.lt
theorem BigAt.later {w w' : World} {g : Nat} {neg : Bool} {V : Nat} (h : BigAt w g neg V) (hb : Below w.heap.size w w') : BigAt w' g neg V := by
  obtain ⟨v, B, h1, h2, h3⟩ := h
  exact ⟨v, B, h1.later hb, h2.later hb, h3⟩

/-- a new one -/
def NewB (z : Int) (w : World) (e : Ending) (w' : World) : Prop := ∃ g, e = .returned (.pointer (some ⟨g, 0, none⟩)) ∧ BigAt w' g (decide (z < 0)) z.natAbs ∧ Below w.heap.size w w' ∧ w.heap.size ≤ g

theorem own_one (w : World) (x : Nat) : OwnW (w.alloc (.cells #[.int .u64 (x : Int)] 111)) w.heap.size (.slice (some ⟨w.heap.size, 0, none⟩) 1 1) [x] := by
  have := World.ownsRow_lit (base := w.heap.size) (e := 111) (size := 1) w #[.int .u64 (x : Int)] 1 (Nat.le_refl _) (by decide) (by simp)
  simpa [OwnW, ws] using this

set_option maxHeartbeats 1000000 in
set_option maxRecDepth 100000 in
theorem newint_any (z : Int) (h1 : -9223372036854775808 ≤ z) (h2 : z ≤ 9223372036854775807) (w : World) : Calls Tryz.prog 66 #[.int .i64 z] w (NewB z w) := by
  by_cases h0 : z = 0
  · subst h0
    go_enter Tryz.func66, Tryz.ntmps66
    go_wp2
    go_ret
    exact ⟨_, rfl, ⟨_, 0, Box.Holds.made _ _ _, (show IsNat _ 0 (.slice none 0 0) 0 from World.ownsRow_nil _ _ _ _), fun h => by simp at h⟩, below_one _ (Nat.le_refl _), Nat.le_refl _⟩
  · obtain ⟨U, hU⟩ : ∃ U, z.natAbs = U := ⟨_, rfl⟩
    have hU0 : 0 < U := by omega
    have hUW : U < W := by rw [W_eq]; omega
    have hw1 : words U = [U] := by
      rw [words_one hU0 hUW]
      simp [dig, Nat.mod_eq_of_lt hUW]
    have hb0 : (z == 0) = false := by simp [h0]
    have hown : IsNat (w.alloc (.cells #[.int .u64 (U : Int)] 111)) w.heap.size (.slice (some ⟨w.heap.size, 0, none⟩) 1 1) U := by
      unfold IsNat
      rw [hw1]
      exact own_one w U
    have hfin := Lib.hid (show ∀ b : Bool, (b = true → 0 < U) → BigAt ((w.alloc (.cells #[.int .u64 (U : Int)] 111)).alloc (.cells #[.bool b, .slice (some ⟨w.heap.size, 0, none⟩) 1 1] 85)) (w.heap.size + 1) b U ∧ Below w.heap.size w ((w.alloc (.cells #[.int .u64 (U : Int)] 111)).alloc (.cells #[.bool b, .slice (some ⟨w.heap.size, 0, none⟩) 1 1] 85)) from fun b hb => by
      refine ⟨⟨_, w.heap.size, ?_, hown.later (below_one _ (Nat.le_refl _)), hb⟩, (below_one _ (Nat.le_refl _)).alloc (by simp) _⟩
      have := Box.Holds.made (w.alloc (.cells #[.int .u64 (U : Int)] 111)) 85 #[.bool b, .slice (some ⟨w.heap.size, 0, none⟩) 1 1]
      rwa [show (w.alloc (.cells #[.int .u64 (U : Int)] 111)).heap.size = w.heap.size + 1 by simp] at this)
    unfold NewB
    rw [hU]
    by_cases hneg : z < 0
    · have e1 : IntKind.u64.wrap (-IntKind.u64.wrap z) = U := by rw [IntKind.wrap_u64, IntKind.wrap_u64]; omega
      have d0 : decide (z < 0) = true := by simp [hneg]
      rw [d0]
      clear hown hw1 hU h0 hneg
      go_enter Tryz.func66, Tryz.ntmps66
      go_wp2
      go_ret
      exact ⟨_, rfl, (hfin.out true (fun _ => hU0)).1, (hfin.out true (fun _ => hU0)).2, Nat.le_succ _⟩
    · have e1 : IntKind.u64.wrap z = U := by rw [IntKind.wrap_u64]; omega
      have d0 : decide (z < 0) = false := by simp [hneg]
      rw [d0]
      clear hown hw1 hU h0 hneg
      go_enter Tryz.func66, Tryz.ntmps66
      go_wp2
      go_ret
      exact ⟨_, rfl, (hfin.out false (fun h => by cases h)).1, (hfin.out false (fun h => by cases h)).2, Nat.le_succ _⟩

/-- a pointer to the number z -/
def BigOf (z : Int) (w : World) (e : Ending) (w' : World) : Prop := ∃ g neg V, e = .returned (.pointer (some ⟨g, 0, none⟩)) ∧ BigAt w' g neg V ∧ sg neg V = z ∧ len W V ≤ 10000 ∧ Below w.heap.size w w'
theorem sg_abs (z : Int) : sg (decide (z < 0)) z.natAbs = z := by
  unfold sg
  by_cases h0 : z < 0
  · simp [h0]; omega
  · simp [h0]; omega
theorem NewB.of {z : Int} (h1 : -9223372036854775808 ≤ z) (h2 : z ≤ 9223372036854775807) {w : World} {e : Ending} {w' : World} (h : NewB z w e w') : BigOf z w e w' := by
  obtain ⟨g, he, hb, hbel, -⟩ := h
  exact ⟨g, _, _, he, hb, sg_abs z, Nat.le_trans (len_one (by rw [W_eq]; omega)) (by omega), hbel⟩

set_option maxHeartbeats 1000000 in
set_option maxRecDepth 100000 in
theorem sBig_any (v : Value) (z : Int) (B : Nat) (w : World) (h : SInt w B v z) : Calls Tryz.prog 47 #[v] w (BigOf z w) := by
  rcases h with ⟨rfl, hs⟩ | ⟨g, neg, V, rfl, hg, hbig, hz, hs, hm⟩
  · have hbd := isS_bounds hs
    have hget := Lib.hid fun w => get_any z none w
    have hnew := Lib.hid fun W => newint_any z (by omega) (by omega) W
    have hof := Lib.hid (show ∀ W e W', NewB z W e W' → BigOf z W e W' from fun W e W' h => h.of (by omega) (by omega))
    have k0 : (w.alloc (.cells #[.int .i64 z, .pointer none] 61)).cell? ⟨w.heap.size, 0, none⟩ = some (.int .i64 z) := by rw [World.cell?_alloc_at _ _ _ _ rfl]; rfl
    have k1 : (w.alloc (.cells #[.int .i64 z, .pointer none] 61)).cell? ⟨w.heap.size, 1, none⟩ = some (.pointer none) := by rw [World.cell?_alloc_at _ _ _ _ rfl]; rfl
    clear hs
    go_enter Tryz.func47, Tryz.ntmps47
    go_wp2_with fail
    refine (hget.out _).mono ?_
    rintro e w1 ⟨rfl, hb1⟩
    have hbw : Below w.heap.size w w1 := (below_one _ (Nat.le_refl _)).trans (hb1.mono (by simp))
    clear hb1
    go_wp2_with fail
    refine (hnew.out _).mono ?_
    rintro e w2 hnb
    obtain ⟨g, neg, V, rfl, hbig, hz, hm, hb2⟩ := hof.out _ _ _ hnb
    have hfin := Lib.hid (show BigAt w2 g neg V ∧ sg neg V = z ∧ len W V ≤ 10000 ∧ Below w.heap.size w w2 from ⟨hbig, hz, hm, hbw.trans (hb2.mono hbw.size)⟩)
    clear hbig hz hm hb2 hbw hnb
    go_wp2
    go_ret
    exact ⟨_, _, _, rfl, hfin.out.1, hfin.out.2.1, hfin.out.2.2.1, hfin.out.2.2.2⟩
  · have hget := Lib.hid fun w => get_any 0 (some ⟨g, 0, none⟩) w
    have hset := Lib.hid fun g2 W hk hb hlt => bset_any g2 g neg V W hk hb hlt hm
    have k0 : (w.alloc (.cells #[.int .i64 0, .pointer (some ⟨g, 0, none⟩)] 61)).cell? ⟨w.heap.size, 0, none⟩ = some (.int .i64 0) := by rw [World.cell?_alloc_at _ _ _ _ rfl]; rfl
    have k1 : (w.alloc (.cells #[.int .i64 0, .pointer (some ⟨g, 0, none⟩)] 61)).cell? ⟨w.heap.size, 1, none⟩ = some (.pointer (some ⟨g, 0, none⟩)) := by rw [World.cell?_alloc_at _ _ _ _ rfl]; rfl
    have hbig' := Lib.hid hbig
    have hz' := Lib.hid hz
    clear hz hs hbig
    go_enter Tryz.func47, Tryz.ntmps47
    go_wp2_with fail
    refine (hget.out _).mono ?_
    rintro e w1 ⟨rfl, hb1⟩
    have hbw : Below w.heap.size w w1 := (below_one _ (Nat.le_refl _)).trans (hb1.mono (by simp))
    have hs2 := Lib.hid (hset.out w1.heap.size (w1.alloc (.cells #[.bool false, .slice none 0 0] 85)) (Box.Holds.made _ _ _) ((hbig'.out.later hbw).later (below_one _ (Nat.le_refl _))) (hbig'.out.later hbw).lt)
    have hbw' := Lib.hid hbw
    clear hb1 hbw
    go_wp2_with fail
    refine hs2.out.mono ?_
    rintro e w2 ⟨⟨rfl, hbg⟩, hb2⟩
    have hfin := Lib.hid (show BigAt w2 w1.heap.size neg V ∧ sg neg V = z ∧ len W V ≤ 10000 ∧ Below w.heap.size w w2 from ⟨hbg.at_, hz'.out.symm, hm, (hbw'.out.alloc hbw'.out.size _).trans (hb2.mono hbw'.out.size)⟩)
    clear hbg hb2 hbw' hs2 hbig' hz'
    go_wp2
    go_ret
    exact ⟨_, _, _, rfl, hfin.out.1, hfin.out.2.1, hfin.out.2.2.1, hfin.out.2.2.2⟩
end Go.Proofs.YtpjkfdgkkpkljaaGreatDoor.Big
