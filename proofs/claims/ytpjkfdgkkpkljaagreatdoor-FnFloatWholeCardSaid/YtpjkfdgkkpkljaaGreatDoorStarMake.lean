/-
  Starlark's integers: MakeBigInt.
-/
import Derived.Test.YtpjkfdgkkpkljaaGreatDoorStar
namespace Go.Proofs.YtpjkfdgkkpkljaaGreatDoor.Big
open Go.RowKit Go.WideShapes Go.Proofs.YtpjkfdgkkpkljaaGreatDoor.Own Go.Proofs.YtpjkfdgkkpkljaaGreatDoor.Num Go.Proofs.YtpjkfdgkkpkljaaGreatDoor.Ref Go.Proofs.YtpjkfdgkkpkljaaGreatDoor.Nat_
set_option linter.unusedVariables false

/-- an integer of the language: a small one, or a pointer to a great one -/
def SInt (w : World) (B : Nat) (v : Value) (z : Int) : Prop :=
  (v = .agg #[.int .i64 z, .pointer none] ∧ isS z = true) ∨
  ∃ g neg V, v = .agg #[.int .i64 0, .pointer (some ⟨g, 0, none⟩)] ∧ B ≤ g ∧ Big w g neg V ∧ z = sg neg V ∧ isS z = false ∧ len W V ≤ 10000
theorem SInt.later {w w' : World} {B : Nat} {v : Value} {z : Int} (h : SInt w B v z) (hb : Below w.heap.size w w') : SInt w' B v z := by
  rcases h with h | ⟨g, neg, V, h1, h2, h3, h4⟩
  · exact .inl h
  · exact .inr ⟨g, neg, V, h1, h2, h3.later hb, h4⟩
theorem Big.put {w : World} {g : Nat} {neg : Bool} {V : Nat} (h : Big w g neg V) {p : Addr} (hp : p.block < g) (u : Value) : Big (w.setCell p u) g neg V := by
  obtain ⟨v, h1, h2, h3⟩ := h
  exact ⟨v, h1.apart (by omega) u, Box.own_above h2 ((Box.Above.refl _ _).setCell (by omega) u), h3⟩
theorem SInt.mono {w : World} {B B' : Nat} {v : Value} {z : Int} (h : SInt w B v z) (hB : B' ≤ B) : SInt w B' v z := by
  rcases h with h | ⟨g, neg, V, h1, h2, h3⟩
  · exact .inl h
  · exact .inr ⟨g, neg, V, h1, by omega, h3⟩
theorem isS_bounds {z : Int} (h : isS z = true) : -2147483648 ≤ z ∧ z ≤ 2147483647 := by simpa [isS] using h

set_option maxHeartbeats 1000000 in
set_option maxRecDepth 100000 in
theorem mbi_any (g : Nat) (neg : Bool) (V : Nat) (w : World) (h : Big w g neg V) (hm : len W V ≤ 10000) :
    Calls Tryz.prog 43 #[.pointer (some ⟨g, 0, none⟩)] w fun e w' => (∃ v, e = .returned v ∧ SInt w' w.heap.size v (sg neg V)) ∧ Below w.heap.size w w' := by
  have hlt := h.lt
  obtain ⟨Z, hZ⟩ : ∃ Z, sg neg V = Z := ⟨_, rfl⟩
  have hA : Big (w.alloc (.cells #[.int .i64 0, .pointer none] 61)) g neg V := h.later (below_one _ (Nat.le_refl _))
  have his := Lib.hid (issmall_any g neg V _ hA hm)
  rw [hZ] at his ⊢
  by_cases hs : isS Z = true
  · have hbd := isS_bounds hs
    have hi := Lib.hid (int64_any g neg V _ hA hm)
    have hw : wrap64 Z = Z := by unfold wrap64; omega
    rw [hZ, hw] at hi
    rw [hs] at his
    have hmk := Lib.hid fun w => mksmall_any Z w
    have hfin := Lib.hid (show ∀ w', SInt w' w.heap.size (.agg #[.int .i64 Z, .pointer none]) Z from fun w' => .inl ⟨rfl, hs⟩)
    clear hA hZ h hs hw
    go_enter Tryz.func43, Tryz.ntmps43
    go_wp2_with fail
    refine his.out.mono ?_
    rintro e w1 ⟨rfl, rfl⟩
    go_wp2_with fail
    refine hi.out.mono ?_
    rintro e w1 ⟨rfl, rfl⟩
    go_wp2_with fail
    refine (hmk.out _).mono ?_
    rintro e w1 ⟨rfl, hb1⟩
    have hk : Box.Holds w1 w.heap.size 61 #[.int .i64 0, .pointer none] := (Box.Holds.made w _ _).later hb1
    have hl1 := hk.lt
    have k0 := hk.cell 0
    have k1 := hk.cell 1
    simp at k0 k1
    have f0 := hk.free 0
    have f1 := hk.free 1
    go_wp2
    exact bodyPost_ret (v := .agg #[.int .i64 Z, .pointer none]) (by simp [results, Tryz.results43, go_sem, k0, k1]) rfl ⟨⟨_, rfl, hfin.out _⟩, ((((below_one _ (Nat.le_refl _)).trans (hb1.mono (by simp))).setCell (p := ⟨w.heap.size, 0, none⟩) (Nat.le_refl _) _).setCell (p := ⟨w.heap.size, 1, none⟩) (Nat.le_refl _) _)⟩
  · have hs' : isS Z = false := by simpa using hs
    rw [hs'] at his
    have hB : Big ((w.alloc (.cells #[.int .i64 0, .pointer none] 61)).alloc (.cells #[.bool false, .slice none 0 0] 85)) g neg V := hA.later (below_one _ (Nat.le_refl _))
    have hH : Box.Holds ((w.alloc (.cells #[.int .i64 0, .pointer none] 61)).alloc (.cells #[.bool false, .slice none 0 0] 85)) (w.heap.size + 1) 85 #[.bool false, .slice none 0 0] := by
      have := Box.Holds.made (w.alloc (.cells #[.int .i64 0, .pointer none] 61)) 85 #[.bool false, .slice none 0 0]
      simpa using this
    have hset := Lib.hid (bset_any (w.heap.size + 1) g neg V _ hH hB (by omega) hm)
    have hmk := Lib.hid fun w' => mkbig_any ⟨w.heap.size + 1, 0, none⟩ w'
    have hb0 : Below w.heap.size w ((w.alloc (.cells #[.int .i64 0, .pointer none] 61)).alloc (.cells #[.bool false, .slice none 0 0] 85)) := (below_one _ (Nat.le_refl _)).alloc (by simp) _
    have hk0 : Box.Holds ((w.alloc (.cells #[.int .i64 0, .pointer none] 61)).alloc (.cells #[.bool false, .slice none 0 0] 85)) w.heap.size 61 #[.int .i64 0, .pointer none] := (Box.Holds.made w _ _).alloc _
    have hb0' := Lib.hid hb0
    have hk0' := Lib.hid hk0
    have hZ' := Lib.hid hZ
    have hs1 := Lib.hid hs'
    clear hA hB hH hZ h hs hs' hb0 hk0
    go_enter Tryz.func43, Tryz.ntmps43
    go_wp2_with fail
    refine his.out.mono ?_
    rintro e w1 ⟨rfl, rfl⟩
    go_wp2_with fail
    refine hset.out.mono ?_
    rintro e w1 ⟨⟨rfl, hbig⟩, hb1⟩
    go_wp2_with fail
    refine (hmk.out _).mono ?_
    rintro e w2 ⟨rfl, hb2⟩
    have hb12 := hb1.trans (hb2.mono (Nat.le_of_lt hbig.lt))
    have hk : Box.Holds w2 w.heap.size 61 #[.int .i64 0, .pointer none] := hk0'.out.below hb12 (by omega)
    have hl1 := hk.lt
    have k0 := hk.cell 0
    have k1 := hk.cell 1
    simp at k0 k1
    have f0 := hk.free 0
    have f1 := hk.free 1
    have hb3 := ((hbig.later hb2).put (p := ⟨w.heap.size, 0, none⟩) (Nat.lt_succ_self _) (.int .i64 0)).put (p := ⟨w.heap.size, 1, none⟩) (Nat.lt_succ_self _) (.pointer (some ⟨w.heap.size + 1, 0, none⟩))
    have hb3' := Lib.hid hb3
    have hbel : Below w.heap.size w w2 := hb0'.out.trans (hb12.mono (by omega))
    clear hb3 hbig
    go_wp2
    exact bodyPost_ret (v := .agg #[.int .i64 0, .pointer (some ⟨w.heap.size + 1, 0, none⟩)]) (by simp [results, Tryz.results43, go_sem, k0, k1]) rfl ⟨⟨_, rfl, .inr ⟨w.heap.size + 1, neg, V, rfl, by omega, hb3'.out, hZ'.out.symm, hs1.out, hm⟩⟩, (hbel.setCell (p := ⟨w.heap.size, 0, none⟩) (Nat.le_refl _) _).setCell (p := ⟨w.heap.size, 1, none⟩) (Nat.le_refl _) _⟩
end Go.Proofs.YtpjkfdgkkpkljaaGreatDoor.Big
