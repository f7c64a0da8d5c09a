/-
  Starlark's integers: MakeInt64.
-/
import Derived.Test.YtpjkfdgkkpkljaaGreatDoorStarMake
import Derived.Test.YtpjkfdgkkpkljaaGreatDoorNewInt
namespace Go.Proofs.YtpjkfdgkkpkljaaGreatDoor.Big
open Go.RowKit Go.WideShapes Go.Proofs.YtpjkfdgkkpkljaaGreatDoor.Own Go.Proofs.YtpjkfdgkkpkljaaGreatDoor.Num Go.Proofs.YtpjkfdgkkpkljaaGreatDoor.Ref Go.Proofs.YtpjkfdgkkpkljaaGreatDoor.Nat_
set_option linter.unusedVariables false

/-- a store into a block of another type leaves an owned row as it was -/
theorem own_apart {w : World} {B e size n : Nat} {v : Value} {xs : List Value} (h : w.ownsRow B e size v n xs) {b : Nat} {t : TypeId} {cs : Array Value} (hb : Box.Holds w b t cs) (ht : t ≠ e) (i : Nat) (u : Value) : (w.setCell ⟨b, i, none⟩ u).ownsRow B e size v n xs := by
  refine ⟨h.1, ?_⟩
  rcases h.2 with hn | ⟨g, cap, cur, rfl, hB, hg, rest⟩
  · exact .inl hn
  · refine .inr ⟨g, cap, cur, rfl, hB, ?_, rest⟩
    have hne : g ≠ b := by
      rintro rfl
      have h' : w.heap[g]? = some (.cells cs t (0, 0)) := hb
      rw [h'] at hg
      cases hg
      exact ht rfl
    exact (Below.heap_setCell w ⟨b, i, none⟩ u g hne).trans hg
theorem BigAt.apart {w : World} {g : Nat} {neg : Bool} {V : Nat} (h : BigAt w g neg V) {b : Nat} {t : TypeId} {cs : Array Value} (hb : Box.Holds w b t cs) (ht : t ≠ 111) (ht' : t ≠ 85) (i : Nat) (u : Value) : BigAt (w.setCell ⟨b, i, none⟩ u) g neg V := by
  obtain ⟨v, B, h1, h2, h3⟩ := h
  refine ⟨v, B, h1.apart (p := ⟨b, i, none⟩) ?_ u, own_apart h2 hb ht i u, h3⟩
  rintro rfl
  have h' : w.heap[g]? = some (.cells cs t (0, 0)) := hb
  have h'' : w.heap[g]? = some (.cells #[.bool neg, v] 85 (0, 0)) := h1
  rw [h'] at h''
  cases h''
  exact ht' rfl

/-- an integer of the language, its great number anywhere on the heap -/
def SAt (w : World) (v : Value) (z : Int) : Prop :=
  (v = .agg #[.int .i64 z, .pointer none] ∧ isS z = true) ∨
  ∃ g neg V, v = .agg #[.int .i64 0, .pointer (some ⟨g, 0, none⟩)] ∧ BigAt w g neg V ∧ z = sg neg V ∧ isS z = false ∧ len W V ≤ 10000
theorem SInt.at_ {w : World} {B : Nat} {v : Value} {z : Int} (h : SInt w B v z) : SAt w v z := by
  rcases h with h | ⟨g, neg, V, h1, h2, h3, h4⟩
  · exact .inl h
  · exact .inr ⟨g, neg, V, h1, h3.at_, h4⟩

set_option maxHeartbeats 1000000 in
set_option maxRecDepth 100000 in
theorem mi64_any (z : Int) (h1 : -9223372036854775808 ≤ z) (h2 : z ≤ 9223372036854775807) (w : World) :
    Calls Tryz.prog 53 #[.int .i64 z] w fun e w' => (∃ v, e = .returned v ∧ SAt w' v z) ∧ Below w.heap.size w w' := by
  have hmk := Lib.hid fun w => mksmall_any z w
  have hmb := Lib.hid fun p w => mkbig_any p w
  have hnew := Lib.hid fun w => newint_any z h1 h2 w
  by_cases hs : isS z = true
  · have hb := isS_bounds hs
    obtain ⟨b1, b2⟩ := hb
    have hfin := Lib.hid (show ∀ w', SAt w' (.agg #[.int .i64 z, .pointer none]) z from fun w' => .inl ⟨rfl, hs⟩)
    clear hs
    go_enter Tryz.func53, Tryz.ntmps53
    go_wp2_with fail
    refine (hmk.out _).mono ?_
    rintro e w1 ⟨rfl, hb1⟩
    have hk : Box.Holds w1 w.heap.size 61 #[.int .i64 0, .pointer none] := (Box.Holds.made w _ _).later hb1
    have hl1 := hk.lt
    have k0 := hk.cell 0
    have k1 := hk.cell 1
    simp at k0 k1
    have f0 := hk.free 0
    have f1 := hk.free 1
    go_wp2
    exact bodyPost_ret (v := .agg #[.int .i64 z, .pointer none]) (by simp [results, Tryz.results53, go_sem, k0, k1]) rfl ⟨⟨_, rfl, hfin.out _⟩, ((((below_one _ (Nat.le_refl _)).trans (hb1.mono (by simp))).setCell (p := ⟨w.heap.size, 0, none⟩) (Nat.le_refl _) _).setCell (p := ⟨w.heap.size, 1, none⟩) (Nat.le_refl _) _)⟩
  · have hs1 := Lib.hid (show isS z = false by simpa using hs)
    have hor : z < -2147483648 ∨ (-2147483648 ≤ z ∧ 2147483647 < z) := by simp [isS] at hs; omega
    clear hs
    rcases hor with b1 | ⟨b1, b2⟩
    · have c1 : ¬ (-2147483648 ≤ z) := by omega
      go_enter Tryz.func53, Tryz.ntmps53
      go_wp2_with fail
      refine (hnew.out _).mono ?_
      intro e w1 hx
      obtain ⟨g, rfl, hbig, hb1, hg1⟩ := hx
      simp only [World.size_alloc] at hg1
      go_wp2_with fail
      refine (hmb.out _ _).mono ?_
      rintro e w2 ⟨rfl, hb2⟩
      have hb12 := hb1.trans (hb2.mono hb1.size)
      have hk : Box.Holds w2 w.heap.size 61 #[.int .i64 0, .pointer none] := (Box.Holds.made w _ _).later hb12
      have hl1 := hk.lt
      have k0 := hk.cell 0
      have k1 := hk.cell 1
      simp at k0 k1
      have f0 := hk.free 0
      have f1 := hk.free 1
      have hbel := Lib.hid ((below_one (B := w.heap.size) (.cells #[.int .i64 0, .pointer none] 61) (Nat.le_refl _)).trans (hb12.mono (by simp)))
      have hb3 := Lib.hid (((hbig.later hb2).apart hk (by decide) (by decide) 0 (.int .i64 0)).apart (hk.put 0 _) (by decide) (by decide) 1 (.pointer (some ⟨g, 0, none⟩)))
      clear hbig
      go_wp2
      exact bodyPost_ret (v := .agg #[.int .i64 0, .pointer (some ⟨g, 0, none⟩)]) (by simp [results, Tryz.results53, go_sem, k0, k1]) rfl ⟨⟨_, rfl, .inr ⟨g, _, _, rfl, hb3.out, (sg_abs z).symm, hs1.out, Nat.le_trans (len_one (by rw [W_eq]; omega)) (by omega)⟩⟩, (hbel.out.setCell (p := ⟨w.heap.size, 0, none⟩) (Nat.le_refl _) _).setCell (p := ⟨w.heap.size, 1, none⟩) (Nat.le_refl _) _⟩
    · have c1 : ¬ (z ≤ 2147483647) := by omega
      go_enter Tryz.func53, Tryz.ntmps53
      go_wp2_with fail
      refine (hnew.out _).mono ?_
      intro e w1 hx
      obtain ⟨g, rfl, hbig, hb1, hg1⟩ := hx
      simp only [World.size_alloc] at hg1
      go_wp2_with fail
      refine (hmb.out _ _).mono ?_
      rintro e w2 ⟨rfl, hb2⟩
      have hb12 := hb1.trans (hb2.mono hb1.size)
      have hk : Box.Holds w2 w.heap.size 61 #[.int .i64 0, .pointer none] := (Box.Holds.made w _ _).later hb12
      have hl1 := hk.lt
      have k0 := hk.cell 0
      have k1 := hk.cell 1
      simp at k0 k1
      have f0 := hk.free 0
      have f1 := hk.free 1
      have hbel := Lib.hid ((below_one (B := w.heap.size) (.cells #[.int .i64 0, .pointer none] 61) (Nat.le_refl _)).trans (hb12.mono (by simp)))
      have hb3 := Lib.hid (((hbig.later hb2).apart hk (by decide) (by decide) 0 (.int .i64 0)).apart (hk.put 0 _) (by decide) (by decide) 1 (.pointer (some ⟨g, 0, none⟩)))
      clear hbig
      go_wp2
      exact bodyPost_ret (v := .agg #[.int .i64 0, .pointer (some ⟨g, 0, none⟩)]) (by simp [results, Tryz.results53, go_sem, k0, k1]) rfl ⟨⟨_, rfl, .inr ⟨g, _, _, rfl, hb3.out, (sg_abs z).symm, hs1.out, Nat.le_trans (len_one (by rw [W_eq]; omega)) (by omega)⟩⟩, (hbel.out.setCell (p := ⟨w.heap.size, 0, none⟩) (Nat.le_refl _) _).setCell (p := ⟨w.heap.size, 1, none⟩) (Nat.le_refl _) _⟩
end Go.Proofs.YtpjkfdgkkpkljaaGreatDoor.Big
