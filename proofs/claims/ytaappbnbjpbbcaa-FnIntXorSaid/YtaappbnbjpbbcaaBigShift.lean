/-
  The package's integers shifted.
-/
import Derived.Test.YtaappbnbjpbbcaaNatAdd
import Derived.Test.YtaappbnbjpbbcaaNewInt
import Derived.Deep.RegionHeld3
namespace Go.Proofs.Ytaappbnbjpbbcaa.Big
open Go.RowKit Go.WideShapes Go.Proofs.Ytaappbnbjpbbcaa.Own Go.Proofs.Ytaappbnbjpbbcaa.Num Go.Proofs.Ytaappbnbjpbbcaa.Ref Go.Proofs.Ytaappbnbjpbbcaa.Nat_
set_option linter.unusedVariables false

set_option maxHeartbeats 1000000 in
set_option maxRecDepth 100000 in
theorem blsh_any (g gx S V : Nat) (neg : Bool) (w : World) (hg : Box.Holds w g 95 #[.bool false, .slice none 0 0]) (hx : BigAt w gx neg V) (hne : gx ≠ g) (hm : len W V ≤ 5000) (hS : S ≤ 100000) :
    Calls Try.prog 62 #[.pointer (some ⟨g, 0, none⟩), .pointer (some ⟨gx, 0, none⟩), .int .u64 S] w fun e w' => (e = .returned (.pointer (some ⟨g, 0, none⟩)) ∧ Big w' g neg (V * 2 ^ S)) ∧ Below g w w' := by
  obtain ⟨v, Bx, hkx, hn, hp⟩ := hx
  have hl := Lib.hid ((nlsh_any v V S Bx w.drew hn hm hS).mono (fun e w' (h : (∃ u, e = .returned u ∧ IsNat w' w.heap.size u (V * 2 ^ S)) ∧ Below w.heap.size w.drew w') => And.intro h.1 ((Box.below_drawn (Below.refl w.heap.size w) 1).trans h.2)))
  obtain ⟨a0, c0, rfl, -, -⟩ := hn.slice
  have k0 := hg.cell 0
  have k1 := hg.cell 1
  have x0 := hkx.cell 0
  have x1 := hkx.cell 1
  simp at k0 k1 x0 x1
  have hlt := hg.lt
  have hltx := hkx.lt
  have hg' := Lib.hid hg
  have hkx' := Lib.hid hkx
  have hp' := Lib.hid (show neg = true → 0 < V * 2 ^ S from fun h => Nat.mul_pos (hp h) (Nat.pow_pos (by decide)))
  obtain ⟨M, hM⟩ : ∃ M, V * 2 ^ S = M := ⟨_, rfl⟩
  obtain ⟨n, hn⟩ : ∃ n, len W V = n := ⟨_, rfl⟩
  rw [hn] at hl x1 hkx'
  rw [hM] at hl hp' ⊢
  clear hM hn hg hkx hp hm
  go_enter Try.func62, Try.ntmps62
  go_wp2_with fail
  go_region_with (go_at_call 85; refine hl.out.mono ?_; rintro e w1 ⟨⟨u, rfl, ho⟩, hb⟩; obtain ⟨a1, c1, rfl, -, -⟩ := ho.slice; have hk := hg'.out.later hb; have hkx1 := hkx'.out.later hb; have k0 := hk.cell 0; have k1 := hk.cell 1; have x0 := hkx1.cell 0; simp at k0 k1 x0; have hlt1 := hk.lt; have f0 := hk.free 0; have f1 := hk.free 1)
  all_goals
    have hfin : Big ((w1.setCell ⟨g, 1, none⟩ (.slice a1 (len W M) c1)).setCell ⟨g, 0, none⟩ (.bool neg)) g neg M := by
      refine ⟨.slice a1 (len W M) c1, ?_, ?_, hp'.out⟩
      · have := (hk.put 1 (.slice a1 (len W M) c1)).put 0 (.bool neg)
        simpa using this
      · exact World.ownsRow.mono (Box.own_above ho (((Box.Above.refl _ _).setCell (by show g < w.heap.size; exact hlt) _).setCell (by show g < w.heap.size; exact hlt) _)) (by omega)
    have hfin' := Lib.hid hfin
    have hbel : Below g w ((w1.setCell ⟨g, 1, none⟩ (.slice a1 (len W M) c1)).setCell ⟨g, 0, none⟩ (.bool neg)) := ((hb.mono (by omega)).setCell (p := ⟨g, 1, none⟩) (Nat.le_refl g) _).setCell (p := ⟨g, 0, none⟩) (Nat.le_refl g) _
    clear hfin ho
    go_wp2
    go_ret
    exact ⟨⟨rfl, hfin'.out⟩, hbel⟩
set_option maxHeartbeats 1000000 in
set_option maxRecDepth 100000 in
theorem brsh_pos (g gx S V : Nat) (w : World) (hg : Box.Holds w g 95 #[.bool false, .slice none 0 0]) (hx : BigAt w gx false V) (hne : gx ≠ g) (hm : len W V ≤ 5000) (hS : S ≤ 100000) :
    Calls Try.prog 61 #[.pointer (some ⟨g, 0, none⟩), .pointer (some ⟨gx, 0, none⟩), .int .u64 S] w fun e w' => (e = .returned (.pointer (some ⟨g, 0, none⟩)) ∧ Big w' g false (V / 2 ^ S)) ∧ Below g w w' := by
  obtain ⟨v, Bx, hkx, hn, hp⟩ := hx
  have hl := Lib.hid ((nrsh_nil v V S Bx w.drew hn hm hS).mono (fun e w' (h : (∃ u, e = .returned u ∧ IsNat w' w.heap.size u (V / 2 ^ S)) ∧ Below w.heap.size w.drew w') => And.intro h.1 ((Box.below_drawn (Below.refl w.heap.size w) 1).trans h.2)))
  obtain ⟨a0, c0, rfl, -, -⟩ := hn.slice
  have k0 := hg.cell 0
  have k1 := hg.cell 1
  have x0 := hkx.cell 0
  have x1 := hkx.cell 1
  simp at k0 k1 x0 x1
  have hlt := hg.lt
  have hltx := hkx.lt
  have hg' := Lib.hid hg
  have hkx' := Lib.hid hkx
  have hp' := Lib.hid (show false = true → 0 < V / 2 ^ S from fun h => by cases h)
  obtain ⟨M, hM⟩ : ∃ M, V / 2 ^ S = M := ⟨_, rfl⟩
  obtain ⟨n, hn⟩ : ∃ n, len W V = n := ⟨_, rfl⟩
  rw [hn] at hl x1 hkx'
  rw [hM] at hl hp' ⊢
  clear hM hn hg hkx hp hm
  go_enter Try.func61, Try.ntmps61
  go_wp2_with fail
  go_region_with (go_at_call 84; refine hl.out.mono ?_; rintro e w1 ⟨⟨u, rfl, ho⟩, hb⟩; obtain ⟨a1, c1, rfl, -, -⟩ := ho.slice; have hk := hg'.out.later hb; have hkx1 := hkx'.out.later hb; have k0 := hk.cell 0; have k1 := hk.cell 1; have x0 := hkx1.cell 0; simp at k0 k1 x0; have hlt1 := hk.lt; have f0 := hk.free 0; have f1 := hk.free 1)
  all_goals
    have hfin : Big ((w1.setCell ⟨g, 1, none⟩ (.slice a1 (len W M) c1)).setCell ⟨g, 0, none⟩ (.bool false)) g false M := by
      refine ⟨.slice a1 (len W M) c1, ?_, ?_, hp'.out⟩
      · have := (hk.put 1 (.slice a1 (len W M) c1)).put 0 (.bool false)
        simpa using this
      · exact World.ownsRow.mono (Box.own_above ho (((Box.Above.refl _ _).setCell (by show g < w.heap.size; exact hlt) _).setCell (by show g < w.heap.size; exact hlt) _)) (by omega)
    have hfin' := Lib.hid hfin
    have hbel : Below g w ((w1.setCell ⟨g, 1, none⟩ (.slice a1 (len W M) c1)).setCell ⟨g, 0, none⟩ (.bool false)) := ((hb.mono (by omega)).setCell (p := ⟨g, 1, none⟩) (Nat.le_refl g) _).setCell (p := ⟨g, 0, none⟩) (Nat.le_refl g) _
    clear hfin ho
    go_wp2
    go_ret
    exact ⟨⟨rfl, hfin'.out⟩, hbel⟩
set_option maxHeartbeats 2000000 in
set_option maxRecDepth 100000 in
theorem brsh_neg (g gx S V : Nat) (w : World) (hg : Box.Holds w g 95 #[.bool false, .slice none 0 0]) (hx : BigAt w gx true V) (hne : gx ≠ g) (hm : len W V ≤ 5000) (hS : S ≤ 100000) :
    Calls Try.prog 61 #[.pointer (some ⟨g, 0, none⟩), .pointer (some ⟨gx, 0, none⟩), .int .u64 S] w fun e w' => (e = .returned (.pointer (some ⟨g, 0, none⟩)) ∧ Big w' g true ((V - 1) / 2 ^ S + 1)) ∧ Below g w w' := by
  obtain ⟨v, Bx, hkx, hn, hp⟩ := hx
  have hV0 : 0 < V := hp rfl
  have hlen1 : len W (V - 1) ≤ 5000 := Nat.le_trans (len_mono W_two (Nat.sub_le V 1)) hm
  have hlen2 : len W ((V - 1) / 2 ^ S) ≤ 5000 := Nat.le_trans (len_mono W_two (Nat.div_le_self _ _)) hlen1
  have hone := Lib.hid fun W (hW : Below w.heap.size w W) => (one_any W).mono (fun e w' (h : (∃ h, e = .returned (.slice (some ⟨h, 0, none⟩) 1 1) ∧ h = W.heap.size ∧ IsNat w' h (.slice (some ⟨h, 0, none⟩) 1 1) 1) ∧ Below W.heap.size W w') => And.intro h.1 (And.intro h.2 (hW.trans (h.2.mono hW.size))))
  have hsub := Lib.hid fun W h (hW : Below w.heap.size w W) (hY : IsNat W h (.slice (some ⟨h, 0, none⟩) 1 1) 1) => (nsub_one v V Bx h h W (hn.later hW) hV0 hm hY).mono (fun e w' (h : (∃ u, e = .returned u ∧ IsNat w' W.heap.size u (V - 1)) ∧ Below W.heap.size W w') => And.intro (show ∃ u, e = .returned u ∧ IsNat w' w.heap.size u (V - 1) from by obtain ⟨⟨u, h1, h2⟩, _⟩ := h; exact ⟨u, h1, h2.mono hW.size⟩) (hW.trans (h.2.mono hW.size)))
  obtain ⟨a0, c0, rfl, -, -⟩ := hn.slice
  have k0 := hg.cell 0
  have k1 := hg.cell 1
  have x0 := hkx.cell 0
  have x1 := hkx.cell 1
  simp at k0 k1 x0 x1
  have hlt := hg.lt
  have hltx := hkx.lt
  have hg' := Lib.hid hg
  have hkx' := Lib.hid hkx
  have hd0 := Lib.hid (Box.below_drawn (Below.refl w.heap.size w) 1)
  obtain ⟨n, hln⟩ : ∃ n, len W V = n := ⟨_, rfl⟩
  rw [hln] at hsub x1 hkx'
  obtain ⟨T, hT⟩ : ∃ T, V - 1 = T := ⟨_, rfl⟩
  rw [hT] at hsub hlen1 hlen2 ⊢
  obtain ⟨R, hR⟩ : ∃ R, T / 2 ^ S = R := ⟨_, rfl⟩
  rw [hR] at hlen2 ⊢
  have hR' := Lib.hid hR
  clear hln hg hkx hp hm hn hV0 hT hR
  go_enter Try.func61, Try.ntmps61
  go_wp2_with fail
  go_region_held3 (fun W => W.cell? ⟨g, 1, none⟩ = some (.slice none 0 0) ∧ W.cell? ⟨gx, 1, none⟩ = some (.slice a0 n c0))
    (first | go_keep | exact ⟨j1, jx1⟩ | exact ⟨l1, lx1⟩)
    (first
      | (go_at_call 79; refine (hone.out _ hd0.out).mono ?_; rintro e w1 ⟨⟨h1, rfl, -, ho1⟩, -, hb1'⟩; have j1 := (hb1'.cell (p := ⟨g, 1, none⟩) hlt).trans k1; have jx1 := (hb1'.cell (p := ⟨gx, 1, none⟩) hltx).trans x1)
      | (go_at_call 78; refine (hsub.out _ _ hb1' ho1).mono ?_; rintro e w2 ⟨⟨t, rfl, ht⟩, hb2⟩; have l1 := (hb2.cell (p := ⟨g, 1, none⟩) hlt).trans k1; have lx1 := (hb2.cell (p := ⟨gx, 1, none⟩) hltx).trans x1))
  have hr := Lib.hid (nrsh_self t T S w.heap.size w w2 ht hb2 hb2.size hlen1 hS)
  rw [hR'.out] at hr
  clear j1 jx1 l1 lx1 ht hb2 ho1 hb1' hsub k0 k1 x0 x1
  go_wp2_with fail
  refine hr.out.mono ?_
  rintro e w3 ⟨⟨t2, rfl, ht2⟩, hb3⟩
  have hadd := Lib.hid fun W h (hW : Below w.heap.size w3 W) (hY : IsNat W h (.slice (some ⟨h, 0, none⟩) 1 1) 1) (ht : IsNat W w.heap.size t2 R) => nadd_one_self t2 R w.heap.size h h w W ht hlen2 (hb3.trans hW) (Nat.le_trans hb3.size hW.size) hY
  have hone2 := Lib.hid ((one_any w3).mono (fun e w' (h : (∃ h, e = .returned (.slice (some ⟨h, 0, none⟩) 1 1) ∧ h = w3.heap.size ∧ IsNat w' h (.slice (some ⟨h, 0, none⟩) 1 1) 1) ∧ Below w3.heap.size w3 w') => And.intro (show ∃ h, e = .returned (.slice (some ⟨h, 0, none⟩) 1 1) ∧ IsNat w' h (.slice (some ⟨h, 0, none⟩) 1 1) 1 from by obtain ⟨⟨h, h1, h2, h3⟩, _⟩ := h; exact ⟨h, h1, h3⟩) h.2))
  have ht2' := Lib.hid ht2
  have hs3 := hb3.size
  have hb3' := Lib.hid hb3
  clear ht2 hr hone hb3
  go_wp2_with fail
  refine hone2.out.mono ?_
  rintro e w4 ⟨⟨h4, rfl, ho4⟩, hb4⟩
  have hadd2 := Lib.hid (hadd.out _ _ (hb4.mono hs3) ho4 (ht2'.out.later hb4))
  clear ho4 hadd
  go_wp2_with fail
  refine hadd2.out.mono ?_
  rintro e w5 ⟨⟨u, rfl, hu⟩, hb5⟩
  obtain ⟨a1, c1, rfl, -, -⟩ := hu.slice
  have hk := hg'.out.later hb5
  have k1 := hk.cell 1
  have k0 := hk.cell 0
  simp at k0 k1
  have hlt1 := hk.lt
  have f0 := hk.free 0
  have f1 := hk.free 1
  have hfin' : Hid (Big ((w5.setCell ⟨g, 1, none⟩ (.slice a1 (len W (R + 1)) c1)).setCell ⟨g, 0, none⟩ (.bool true)) g true (R + 1)) := by
    refine Lib.hid ⟨.slice a1 (len W (R + 1)) c1, ?_, ?_, fun _ => Nat.succ_pos _⟩
    · have := (hk.put 1 (.slice a1 (len W (R + 1)) c1)).put 0 (.bool true)
      simpa using this
    · exact World.ownsRow.mono (Box.own_above hu (((Box.Above.refl _ _).setCell (by show g < w.heap.size; exact hlt) _).setCell (by show g < w.heap.size; exact hlt) _)) (by omega)
  have hbel : Below g w ((w5.setCell ⟨g, 1, none⟩ (.slice a1 (len W (R + 1)) c1)).setCell ⟨g, 0, none⟩ (.bool true)) := ((hb5.mono (by omega)).setCell (p := ⟨g, 1, none⟩) (Nat.le_refl g) _).setCell (p := ⟨g, 0, none⟩) (Nat.le_refl g) _
  clear hu hadd2 hb4 hb5
  go_wp2
  go_ret
  exact ⟨⟨rfl, hfin'.out⟩, hbel⟩
end Go.Proofs.Ytaappbnbjpbbcaa.Big
