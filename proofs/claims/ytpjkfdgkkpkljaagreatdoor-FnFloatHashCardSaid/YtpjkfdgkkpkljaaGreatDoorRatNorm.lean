/-
  A fraction's norm where its denominator is one.
-/
import Derived.Test.YtpjkfdgkkpkljaaGreatDoorRatLehmer
import Derived.Test.YtpjkfdgkkpkljaaGreatDoorStarSmall
import Derived.Defers
import Derived.Deep.RegionHeld3
namespace Go.Proofs.YtpjkfdgkkpkljaaGreatDoor.Big
open Go.RowKit Go.WideShapes Go.Proofs.YtpjkfdgkkpkljaaGreatDoor Go.Proofs.YtpjkfdgkkpkljaaGreatDoor.Own Go.Proofs.YtpjkfdgkkpkljaaGreatDoor.Num Go.Proofs.YtpjkfdgkkpkljaaGreatDoor.Ref Go.Proofs.YtpjkfdgkkpkljaaGreatDoor.Nat_
set_option linter.unusedVariables false

theorem getstk_any (w : World) : Calls Tryz.prog 85 #[] w fun e w' => e = .returned (.pointer (some ⟨w.heap.size, 0, none⟩)) ∧ w' = w.alloc (.cells #[.pointer none] 134) := by
  go_enter Tryz.func85, Tryz.ntmps85
  go_wp2
  go_ret
  exact ⟨rfl, rfl⟩
theorem free_deferred (p : Addr) (u : FrameMode) (w : World) (h : w.cell? p = some (.pointer none)) : CallsD Tryz.prog 86 #[.pointer (some p)] u w fun e u' w' => u' = u ∧ (e = .returned (.tuple #[]) ∧ w' = w) := by
  go_enter_d Tryz.func86, Tryz.ntmps86
  go_wp2
  go_end0
  exact ⟨rfl, rfl⟩
theorem newint_new (w : World) : Calls Tryz.prog 66 #[.int .i64 0] w fun e w' => e = .returned (.pointer (some ⟨w.heap.size, 0, none⟩)) ∧ Box.Holds w' w.heap.size 85 #[.bool false, .slice none 0 0] ∧ Below w.heap.size w w' ∧ w'.heap.size = w.heap.size + 1 := by
  refine (newint_zero w).mono ?_
  rintro e w' ⟨rfl, rfl⟩
  exact ⟨rfl, Box.Holds.made _ _ _, below_one _ (Nat.le_refl _), by simp⟩
theorem intone_big (w : World) : Calls Tryz.prog 94 #[] w fun e w' => ∃ g, e = .returned (.pointer (some ⟨g, 0, none⟩)) ∧ w.heap.size < g ∧ BigFrom w' g 0 false 1 ∧ Below w.heap.size w w' := by
  refine (intone_any w).mono ?_
  rintro e w' ⟨rfl, rfl⟩
  have h := one_made w
  refine ⟨_, rfl, Nat.lt_succ_self _, ⟨_, ?_, World.ownsRow.mono (h.later (below_one _ (Nat.le_refl _))) (Nat.zero_le _)⟩, (below_one _ (Nat.le_refl _)).alloc (by simp) _⟩
  have := Box.Holds.made (w.alloc (.cells #[.int .u64 1] 111)) 85 #[.bool false, .slice (some ⟨w.heap.size, 0, none⟩) 1 1]
  simpa using this

set_option maxHeartbeats 4000000 in
set_option maxRecDepth 100000 in
theorem norm_one (g X Ba Bb : Nat) (neg : Bool) (va vb : Value) (w : World) (hk : Box.Holds w g 127 #[.bool neg, va, .bool false, vb]) (hna : IsNat w Ba va X) (hnb : IsNat w Bb vb 1) (hm : len W X ≤ 10000) (hX : 1 < X) :
    Calls Tryz.prog 115 #[.pointer (some ⟨g, 0, none⟩)] w fun e w' => e = .returned (.pointer (some ⟨g, 0, none⟩)) ∧ Below w.heap.size w w' := by
  have hlt := hk.lt
  have hgs := Lib.hid fun w => getstk_any w
  have hone := Lib.hid fun w => intone_big w
  have hpos := (len_pos W_two (v := X)).2 (by omega)
  have l1 : len W 1 = 1 := by decide +kernel
  obtain ⟨a0, c0, rfl, -, -⟩ := hna.slice
  obtain ⟨a1, c1, rfl, -, -⟩ := hnb.slice
  have k0 := hk.cell 0
  have k1 := hk.cell 1
  have k2 := hk.cell 2
  have k3 := hk.cell 3
  simp at k0 k1 k2 k3
  rw [l1] at k3
  have f0 := hk.free 0
  have f2 := hk.free 2
  obtain ⟨n, hn⟩ : ∃ n, len W X = n := ⟨_, rfl⟩
  rw [hn] at k1 hpos
  have hn0 : ((n : Int) == 0) = false := by simp; omega
  have hn' := Lib.hid hn
  have hk' := Lib.hid hk
  have hna' := Lib.hid hna
  have hnb' := Lib.hid hnb
  clear hn hk hna hnb
  go_enter_defers Tryz.func115, Tryz.ntmps115
  go_wp2_with fail
  refine (hgs.out _).mono ?_
  rintro e w1 ⟨rfl, rfl⟩
  go_wp2_with fail
  have hkk := hk'.out
  have hW : ∃ W0, ((w.setCell ⟨g, 0, none⟩ (.bool false)).setCell ⟨g, 2, none⟩ (.bool false)).alloc (.cells #[.pointer none] 134) = W0 ∧ Box.Holds W0 g 127 #[.bool false, .slice a0 (len W X) c0, .bool false, .slice a1 (len W 1) c1] ∧ IsNat W0 Ba (.slice a0 (len W X) c0) X ∧ IsNat W0 Bb (.slice a1 (len W 1) c1) 1 ∧ Below g w W0 ∧ Box.Holds W0 w.heap.size 134 #[.pointer none] ∧ (∀ w', Below w.heap.size W0 w' → Below w.heap.size w (w'.setCell ⟨g, 0, none⟩ (.bool neg))) := by
    have hk1 := hkk.put 0 (.bool false)
    have hk2 := hk1.put 2 (.bool false)
    simp at hk1 hk2
    have hb : Below g w ((w.setCell ⟨g, 0, none⟩ (.bool false)).setCell ⟨g, 2, none⟩ (.bool false)) := ((Below.refl _ _).setCell (p := ⟨g, 0, none⟩) (Nat.le_refl _) _).setCell (p := ⟨g, 2, none⟩) (Nat.le_refl _) _
    have own : ∀ {B : Nat} {v : Value} {l : List Nat}, OwnW w B v l → OwnW (((w.setCell ⟨g, 0, none⟩ (.bool false)).setCell ⟨g, 2, none⟩ (.bool false)).alloc (.cells #[.pointer none] 134)) B v l := fun {B v l} h => OwnW.later (own_apart (own_apart h hkk (by decide) 0 _) hk1 (by decide) 2 _) (below_one _ (Nat.le_refl _))
    have hmade := Box.Holds.made ((w.setCell ⟨g, 0, none⟩ (.bool false)).setCell ⟨g, 2, none⟩ (.bool false)) 134 #[.pointer none]
    refine ⟨_, rfl, hk2.alloc _, own hna'.out, own hnb'.out, hb.alloc (Nat.le_of_lt (by simpa using hlt)) _, by simpa using hmade, fun w' hw' => ?_⟩
    have hsz : w.heap.size ≤ w'.heap.size := by have := hw'.size; simp at this; omega
    refine ⟨hw'.os, hw'.tape, hw'.output, by simpa using hsz, fun g' hg' => ?_⟩
    have hkw := (hk2.alloc (.cells #[.pointer none] 134)).below hw' hlt
    by_cases e : g' = g
    · subst e
      have h1 := hkw.put 0 (.bool neg)
      have h2 : w.heap[g']? = _ := hkk
      rw [h2]
      simp at h1
      exact h1
    · rw [Below.heap_setCell w' ⟨g, 0, none⟩ (.bool neg) g' e, hw'.block g' hg', heap_alloc_old _ _ (by simpa using hg'), Below.heap_setCell _ ⟨g, 2, none⟩ _ g' e, Below.heap_setCell _ ⟨g, 0, none⟩ _ g' e]
  obtain ⟨W0, hW0, hk0, hnA, hnB, hb0, hstk, hlast⟩ := hW
  have hs0 : w.heap.size < W0.heap.size := hstk.lt
  have hlt0 := hk0.lt
  have hnew := Lib.hid fun q => newint_new (W0.drewN q)
  have hgcd : Hid (∀ Wv, Below W0.heap.size W0 Wv → Box.Holds Wv W0.heap.size 85 #[.bool false, .slice none 0 0] → Calls Tryz.prog 138 #[.pointer (some ⟨W0.heap.size, 0, none⟩), .pointer none, .pointer none, .pointer (some ⟨g, 0, none⟩), .pointer (some ⟨g, 2, none⟩)] Wv fun e w' => e = .returned (.pointer (some ⟨W0.heap.size, 0, none⟩)) ∧ BigFrom w' W0.heap.size (W0.heap.size + 1) false 1 ∧ Below W0.heap.size W0 w') := Lib.hid fun Wv hb hz => (gcd_one W0.heap.size g 0 2 X Ba Bb _ _ _ _ Wv hz (hk0.later hb) (Box.Holds.two (hk0.later hb) 0 _ _ rfl rfl) (Box.Holds.two (hk0.later hb) 2 _ _ rfl rfl) (hnA.later hb) (hnB.later hb) hm hX hlt0).mono fun e w' h => ⟨h.1, h.2.1, hb.trans h.2.2⟩
  have c0g := hk0.cell 0
  simp at c0g
  have hbd : Hid (∀ q w1, Below (W0.drewN q).heap.size (W0.drewN q) w1 → Below W0.heap.size W0 w1) := Lib.hid fun q w1 h => (Box.below_drawn (Below.refl _ _) q).trans h
  have hfinal : Hid (∀ w5, Below W0.heap.size W0 w5 → w5.cell? ⟨g, 0, none⟩ = some (.bool false) ∧ w5.frozen? ⟨g, 0, none⟩ = false ∧ w5.cell? ⟨w.heap.size, 0, none⟩ = some (.pointer none) ∧ g < w5.heap.size ∧ w.heap.size < w5.heap.size ∧ (w5.setCell ⟨g, 0, none⟩ (.bool neg)).cell? ⟨w.heap.size, 0, none⟩ = some (.pointer none) ∧ Below w.heap.size w (w5.setCell ⟨g, 0, none⟩ (.bool neg))) := Lib.hid fun w5 h => by
    have h1 := hk0.later h
    have h2 := hstk.later h
    have e1 := h1.cell 0
    have e2 := h2.cell 0
    simp at e1 e2
    refine ⟨e1, h1.free 0, e2, h1.lt, h2.lt, ?_, hlast w5 (h.mono (Nat.le_of_lt hs0))⟩
    rw [World.cell?_setCell_other _ _ _ _ (by intro e; have := congrArg Addr.block e; simp at this; omega)]
    exact e2
  clear hk0 hnA hnB hb0 hstk hlast hkk hk' hna' hnb' k0 k1 k2 k3 f0 f2 hgs
  rw [hW0]
  clear hW0
  go_region_held3 (fun W => W.cell? ⟨g, 0, none⟩ = some (.bool false)) (first | go_keep | exact j1 | exact l1) (first | (go_at_call 66; refine (hnew.out _).mono ?_; rintro e w1 ⟨rfl, hz1, hb1, hs1⟩; have hb1' := hbd.out _ _ hb1; have j1 := (hfinal.out _ hb1').1) | (go_at_call 138; refine (hgcd.out _ hb1' hz1).mono ?_; rintro e w2 ⟨rfl, hg2, hb2⟩; have l1 := (hfinal.out _ hb2).1))
  clear hnew hgcd hz1 hb1 hb1' hs1 j1 c0g
  go_wp2_with fail
  refine (hone.out _).mono ?_
  rintro e w3 ⟨g1, rfl, hg1, ho1, hb3⟩
  have hs2 := hg2
  obtain ⟨u2, hk2, -⟩ := hs2
  have hlt2 := hk2.lt
  have hcmp := Lib.hid (bcmp_one W0.heap.size g1 _ _ w3 (hg2.later hb3) ho1 (by omega))
  have hb23 := hb2.trans (hb3.mono hb2.size)
  clear hg2 ho1 hb3 hk2 hone hb2 l1 hlt2 hg1
  go_wp2_with fail
  refine hcmp.out.mono ?_
  rintro e w5 ⟨rfl, hb5⟩
  obtain ⟨e1, e2, e3, e4, e5, e6, e7⟩ := hfinal.out w5 (hb23.trans (hb5.mono hb23.size))
  have hfin := Lib.hid e7
  clear hcmp hb5 hb23 hfinal e7
  go_wp2
  refine leaves_cons (f := 86) (args := #[.pointer (some ⟨w.heap.size, 0, none⟩)]) (by simp) (by simp [go_sem]) ?_
  refine (free_deferred _ .returning _ e6).mono ?_
  rintro e u' w'' ⟨rfl, rfl, rfl⟩
  exact ⟨_, results_tmp rfl _ _ _, rfl, hfin.out⟩
end Go.Proofs.YtpjkfdgkkpkljaaGreatDoor.Big
