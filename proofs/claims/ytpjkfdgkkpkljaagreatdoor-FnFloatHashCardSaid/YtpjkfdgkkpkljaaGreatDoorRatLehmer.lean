/-
  The greatest common divisor of a natural and one: lehmerGCD.
-/
import Derived.Test.YtpjkfdgkkpkljaaGreatDoorRatGcd
namespace Go.Proofs.YtpjkfdgkkpkljaaGreatDoor.Big
open Go.RowKit Go.WideShapes Go.Proofs.YtpjkfdgkkpkljaaGreatDoor Go.Proofs.YtpjkfdgkkpkljaaGreatDoor.Own Go.Proofs.YtpjkfdgkkpkljaaGreatDoor.Num Go.Proofs.YtpjkfdgkkpkljaaGreatDoor.Ref Go.Proofs.YtpjkfdgkkpkljaaGreatDoor.Nat_
set_option linter.unusedVariables false

set_option maxHeartbeats 4000000 in
set_option maxRecDepth 100000 in
/-- of a number of more than one word -/
theorem gcd_long (g ga oa ob X Ba Bb : Nat) (va vb : Value) (cs : Array Value) (t : TypeId) (w : World) (hg : Box.Holds w g 85 #[.bool false, .slice none 0 0]) (hk : Box.Holds w ga t cs) (ha : Two w ga oa (.bool false) va) (hb : Two w ga ob (.bool false) vb) (hna : IsNat w Ba va X) (hnb : IsNat w Bb vb 1) (hm : len W X ≤ 10000) (hl : 2 ≤ len W X) (hne : ga < g) :
    Calls Tryz.prog 138 #[.pointer (some ⟨g, 0, none⟩), .pointer none, .pointer none, .pointer (some ⟨ga, oa, none⟩), .pointer (some ⟨ga, ob, none⟩)] w fun e w' => e = .returned (.pointer (some ⟨g, 0, none⟩)) ∧ BigFrom w' g (g + 1) false 1 ∧ Below g w w' := by
  have hlt := hg.lt
  have hlta := hk.lt
  have l1 : len W 1 = 1 := by decide +kernel
  -- the first copy
  have hA0 : Box.Holds (w.alloc (.cells #[.bool false, .slice none 0 0] 85)) w.heap.size 85 #[.bool false, .slice none 0 0] := Box.Holds.made w _ _
  have hbA := below_one (B := w.heap.size) (.cells #[.bool false, .slice none 0 0] 85) (Nat.le_refl _)
  have hsA := Lib.hid (babs_new w.heap.size ga oa X Ba false va cs t (w.alloc (.cells #[.bool false, .slice none 0 0] 85)) hA0 (ha.later hbA) (hna.later hbA) hm (by omega) (hk.later hbA))
  have hn' := Lib.hid (And.intro hna hnb)
  have hab := Lib.hid (And.intro ha hb)
  have hk' := Lib.hid hk
  have hg' := Lib.hid hg
  clear hg hk ha hb hna hnb hA0 hbA
  go_enter Tryz.func138, Tryz.ntmps138
  go_wp2_with fail
  refine hsA.out.mono ?_
  rintro e w1 ⟨rfl, hA1, hb1⟩
  have hb1' : Below w.heap.size w w1 := (below_one (B := w.heap.size) _ (Nat.le_refl _)).trans hb1
  simp only [World.size_alloc] at hA1
  have hs1 : w.heap.size + 1 ≤ w1.heap.size := by have := hb1.size; simp at this; exact this
  have hbB := below_one (B := w1.heap.size) (w := w1) (.cells #[.bool false, .slice none 0 0] 85) (Nat.le_refl _)
  have hbB' := hb1'.trans (hbB.mono (by omega))
  have hsB := Lib.hid (babs_new w1.heap.size ga ob 1 Bb false vb cs t (w1.alloc (.cells #[.bool false, .slice none 0 0] 85)) (Box.Holds.made w1 _ _) (hab.out.2.later hbB') (hn'.out.2.later hbB') (by omega) (by omega) (hk'.out.later hbB'))
  have hA1' := Lib.hid hA1
  have hb1'' := Lib.hid hb1'
  clear hsA hA1 hb1 hb1' hbB hbB'
  go_wp2_with fail
  refine hsB.out.mono ?_
  rintro e w2 ⟨rfl, hB2, hb2⟩
  simp only [World.size_alloc] at hB2
  have hs2 : w1.heap.size + 1 ≤ w2.heap.size := by have := hb2.size; simp at this; exact this
  have hw12 : Below w1.heap.size w1 w2 := (below_one (B := w1.heap.size) _ (Nat.le_refl _)).trans hb2
  have hA2 := hA1'.out.later hw12
  have hqr : Below w2.heap.size w2 ((w2.alloc (.cells #[.bool false, .slice none 0 0] 85)).alloc (.cells #[.bool false, .slice none 0 0] 85)) := (below_one _ (Nat.le_refl _)).alloc (by simp) _
  obtain ⟨W3, hW3⟩ : ∃ W3, (w2.alloc (.cells #[.bool false, .slice none 0 0] 85)).alloc (.cells #[.bool false, .slice none 0 0] 85) = W3 := ⟨_, rfl⟩
  have hq3 : Box.Holds W3 w2.heap.size 85 #[.bool false, .slice none 0 0] := by rw [← hW3]; exact (Box.Holds.made w2 _ _).alloc _
  have hr3 : Box.Holds W3 (w2.heap.size + 1) 85 #[.bool false, .slice none 0 0] := by
    rw [← hW3]
    have := Box.Holds.made (w2.alloc (.cells #[.bool false, .slice none 0 0] 85)) 85 #[.bool false, .slice none 0 0]
    simpa using this
  rw [hW3] at hqr
  have hA3 := hA2.later hqr
  have hB3 := hB2.later hqr
  have hb3 : Below w.heap.size w W3 := (hb1''.out.trans (hw12.mono (by omega))).trans (hqr.mono (by omega))
  have hs3 := hqr.size
  have hkeep := Lib.hid (And.intro hB2 hqr)
  have hall := Lib.hid (And.intro hA3 (And.intro hB3 (And.intro hq3 (And.intro hr3 hb3))))
  obtain ⟨uA, hkA, hoA⟩ := hA3
  obtain ⟨uB, hkB, hoB⟩ := hB3
  obtain ⟨aA, cA, rfl, -, -⟩ := hoA.slice
  obtain ⟨aB, cB, rfl, -, -⟩ := hoB.slice
  have kA := hkA.cell 1
  have kB := hkB.cell 1
  simp at kA kB
  have hltA := hkA.lt
  have hltB := hkB.lt
  rw [l1] at kB
  obtain ⟨n, hn⟩ : ∃ n, len W X = n := ⟨_, rfl⟩
  rw [hn] at kA hl
  have hc := Lib.hid fun q => ncmp_long aA aB n cA cB hl (W3.drewN q)
  have hn'' := Lib.hid hn
  clear hA1' hsB hB2 hb2 hA2 hq3 hr3 hqr hkA hkB hoA hoB hw12 hb3 hn
  go_wp2_with fail
  clear hW3
  go_quiet ((go_at_call 70; with_reducible exact Calls.quiet_of_same (hc.out _)))
  go_wp2
  go_loop [11, 12, 13, 14, 17] (fun a b c d e => a = .pointer (some ⟨w.heap.size, 0, none⟩) ∧ b = .pointer (some ⟨w1.heap.size, 0, none⟩) ∧ c = .pointer none ∧ d = .pointer none ∧ e = .pointer (some ⟨w2.heap.size + 1, 0, none⟩)) (fun _ _ _ _ _ => 0)
  case atStart => exact ⟨rfl, rfl, rfl, rfl, rfl⟩
  case round =>
    obtain ⟨rfl, rfl, rfl, rfl, rfl⟩ := hrel
    have b1 : decide ((1 : Int) < (n : Int)) = true := by simp; omega
    have b2 : decide (1 < n) = true := by simp; omega
    clear hc
    go_wp2_with fail
    obtain ⟨hA3, hB3, hq3, hr3, hb3⟩ := hall.out
    refine (euclid_one w.heap.size w1.heap.size w2.heap.size (w2.heap.size + 1) X _ _ (W3.drewN nq) hA3 hB3 hq3 hr3 hm (Nat.lt_succ_self _) (by omega) (by omega)).mono ?_
    rintro e w5 ⟨rfl, hr5, hb5⟩
    have hb35 : Below w.heap.size w w5 := (Box.below_drawn hb3 nq).trans (hb5.mono (by omega))
    have hg5 := hg'.out.later hb35
    have hk5 := hk'.out.later hb35
    have ha5 := hab.out.1.later hb35
    obtain ⟨ur, hkr, hor⟩ := hr5
    obtain ⟨ar, cr, rfl, -, -⟩ := hor.slice
    have kr := hkr.cell 1
    simp only [show len W 0 = 0 from rfl] at kr
    simp at kr
    have hltr := hkr.lt
    obtain ⟨uB, hkB5, hoB5⟩ := hkeep.out.1.later ((Box.below_drawn hkeep.out.2 nq).trans hb5)
    have hset := Lib.hid (bset_new g w1.heap.size 0 1 _ false uB _ _ w5 hg5 (Box.Holds.two hkB5 0 _ _ rfl rfl) hoB5 (by omega) (by omega) hkB5)
    obtain ⟨ga0, ga1, ga2, -, -⟩ := ha5
    have hend : Hid (∀ w6, BigFrom w6 g w5.heap.size false 1 → Below g w5 w6 → BigFrom w6 g (g + 1) false 1 ∧ Below g w w6) := Lib.hid fun w6 h1 h2 => by
      have := hb35.size
      obtain ⟨u, h3, h4⟩ := h1
      exact ⟨⟨u, h3, World.ownsRow.mono h4 (by omega)⟩, (hb35.mono (Nat.le_of_lt hlt)).trans h2⟩
    clear hg5 hk5 hkr hor hkB5 hoB5 hA3 hB3 hq3 hr3 hb3 hb5 hb35 hkeep
    go_wp2_with fail
    refine hset.out.mono ?_
    rintro e w6 ⟨rfl, h1, h2⟩
    have hfin := Lib.hid (hend.out _ h1 h2)
    clear h1 h2 hend hset
    go_wp2
    exact bodyPost_ret (v := .pointer (some ⟨g, 0, none⟩)) (by simp [results, Tryz.results138, go_sem]) rfl ⟨rfl, hfin.out⟩
set_option maxHeartbeats 4000000 in
set_option maxRecDepth 100000 in
/-- of a number of one word -/
theorem gcd_word (g ga oa ob X Ba Bb : Nat) (va vb : Value) (cs : Array Value) (t : TypeId) (w : World) (hg : Box.Holds w g 85 #[.bool false, .slice none 0 0]) (hk : Box.Holds w ga t cs) (ha : Two w ga oa (.bool false) va) (hb : Two w ga ob (.bool false) vb) (hna : IsNat w Ba va X) (hnb : IsNat w Bb vb 1) (hX : 1 < X) (hXW : X < W) (hne : ga < g) :
    Calls Tryz.prog 138 #[.pointer (some ⟨g, 0, none⟩), .pointer none, .pointer none, .pointer (some ⟨ga, oa, none⟩), .pointer (some ⟨ga, ob, none⟩)] w fun e w' => e = .returned (.pointer (some ⟨g, 0, none⟩)) ∧ BigFrom w' g (g + 1) false 1 ∧ Below g w w' := by
  have hlt := hg.lt
  have hlta := hk.lt
  have l1 : len W 1 = 1 := by decide +kernel
  have lX : len W X = 1 := by
    have h1 := len_one hXW
    have h2 := (len_pos W_two (v := X)).2 (by omega)
    omega
  have hm : len W X ≤ 10000 := by omega
  -- the first copy
  have hA0 : Box.Holds (w.alloc (.cells #[.bool false, .slice none 0 0] 85)) w.heap.size 85 #[.bool false, .slice none 0 0] := Box.Holds.made w _ _
  have hbA := below_one (B := w.heap.size) (.cells #[.bool false, .slice none 0 0] 85) (Nat.le_refl _)
  have hsA := Lib.hid (babs_new w.heap.size ga oa X Ba false va cs t (w.alloc (.cells #[.bool false, .slice none 0 0] 85)) hA0 (ha.later hbA) (hna.later hbA) hm (by omega) (hk.later hbA))
  have hn' := Lib.hid (And.intro hna hnb)
  have hab := Lib.hid (And.intro ha hb)
  have hk' := Lib.hid hk
  have hg' := Lib.hid hg
  clear hg hk ha hb hna hnb hA0 hbA
  go_enter Tryz.func138, Tryz.ntmps138
  go_wp2_with fail
  refine hsA.out.mono ?_
  rintro e w1 ⟨rfl, hA1, hb1⟩
  have hb1' : Below w.heap.size w w1 := (below_one (B := w.heap.size) _ (Nat.le_refl _)).trans hb1
  simp only [World.size_alloc] at hA1
  have hs1 : w.heap.size + 1 ≤ w1.heap.size := by have := hb1.size; simp at this; exact this
  have hbB := below_one (B := w1.heap.size) (w := w1) (.cells #[.bool false, .slice none 0 0] 85) (Nat.le_refl _)
  have hbB' := hb1'.trans (hbB.mono (by omega))
  have hsB := Lib.hid (babs_new w1.heap.size ga ob 1 Bb false vb cs t (w1.alloc (.cells #[.bool false, .slice none 0 0] 85)) (Box.Holds.made w1 _ _) (hab.out.2.later hbB') (hn'.out.2.later hbB') (by omega) (by omega) (hk'.out.later hbB'))
  have hA1' := Lib.hid hA1
  have hb1'' := Lib.hid hb1'
  clear hsA hA1 hb1 hb1' hbB hbB'
  go_wp2_with fail
  refine hsB.out.mono ?_
  rintro e w2 ⟨rfl, hB2, hb2⟩
  simp only [World.size_alloc] at hB2
  have hs2 : w1.heap.size + 1 ≤ w2.heap.size := by have := hb2.size; simp at this; exact this
  have hw12 : Below w1.heap.size w1 w2 := (below_one (B := w1.heap.size) _ (Nat.le_refl _)).trans hb2
  have hA2 := hA1'.out.later hw12
  have hqr : Below w2.heap.size w2 ((w2.alloc (.cells #[.bool false, .slice none 0 0] 85)).alloc (.cells #[.bool false, .slice none 0 0] 85)) := (below_one _ (Nat.le_refl _)).alloc (by simp) _
  obtain ⟨W3, hW3⟩ : ∃ W3, (w2.alloc (.cells #[.bool false, .slice none 0 0] 85)).alloc (.cells #[.bool false, .slice none 0 0] 85) = W3 := ⟨_, rfl⟩
  have hq3 : Box.Holds W3 w2.heap.size 85 #[.bool false, .slice none 0 0] := by rw [← hW3]; exact (Box.Holds.made w2 _ _).alloc _
  have hr3 : Box.Holds W3 (w2.heap.size + 1) 85 #[.bool false, .slice none 0 0] := by
    rw [← hW3]
    have := Box.Holds.made (w2.alloc (.cells #[.bool false, .slice none 0 0] 85)) 85 #[.bool false, .slice none 0 0]
    simpa using this
  rw [hW3] at hqr
  have hA3 := hA2.later hqr
  have hB3 := hB2.later hqr
  have hb3 : Below w.heap.size w W3 := (hb1''.out.trans (hw12.mono (by omega))).trans (hqr.mono (by omega))
  have hs3 := hqr.size
  have hkeep := Lib.hid (And.intro hB2 hqr)
  have hall := Lib.hid (And.intro hA3 (And.intro hB3 (And.intro hq3 (And.intro hr3 hb3))))
  obtain ⟨uA, hkA, hoA⟩ := hA3
  obtain ⟨uB, hkB, hoB⟩ := hB3
  obtain ⟨aA, cA, rfl, -, -⟩ := hoA.slice
  obtain ⟨aB, cB, rfl, -, -⟩ := hoB.slice
  have kA := hkA.cell 1
  have kB := hkB.cell 1
  simp at kA kB
  have hltA := hkA.lt
  have hltB := hkB.lt
  rw [l1] at kB
  rw [lX] at kA
  have rA : W3.ownsRow (w.heap.size + 1) 111 1 (.slice aA 1 cA) 1 [.int .u64 (X : Int)] := by
    have := hoA
    unfold IsNat OwnW at this
    rw [words_one (by omega) hXW, lX] at this
    have e : ws (dig W X 1) = [.int .u64 (X : Int)] := by simp [dig, ws, Nat.mod_eq_of_lt hXW]
    rw [e] at this
    exact this
  have rB : W3.ownsRow (w1.heap.size + 1) 111 1 (.slice aB 1 cB) 1 [.int .u64 1] := by
    have := hoB
    unfold IsNat OwnW at this
    rw [words_1, l1] at this
    exact this
  obtain ⟨gA, rfl, hgA⟩ : ∃ gA, aA = some ⟨gA, 0, none⟩ ∧ w.heap.size + 1 ≤ gA := by
    rcases rA.2 with ⟨h, _⟩ | ⟨gA, cap, cur, h, hB, _⟩
    · cases h
    · cases h; exact ⟨gA, rfl, hB⟩
  obtain ⟨gB, rfl, hgB⟩ : ∃ gB, aB = some ⟨gB, 0, none⟩ ∧ w1.heap.size + 1 ≤ gB := by
    rcases rB.2 with ⟨h, _⟩ | ⟨gB, cap, cur, h, hB, _⟩
    · cases h
    · cases h; exact ⟨gB, rfl, hB⟩
  have cA0 : W3.cell? ⟨gA, 0, none⟩ = some (.int .u64 (X : Int)) := World.ownsRow.cellAt rA 0 (by omega)
  have cB0 : W3.cell? ⟨gB, 0, none⟩ = some (.int .u64 1) := World.ownsRow.cellAt rB 0 (by omega)
  have fA0 : W3.frozen? ⟨gA, 0, none⟩ = false := World.ownsRow.frozenAt rA 0
  have stA := (World.ownsRow.stored rA 0 (.int .u64 1)).1
  have hgAl : gA < W3.heap.size := by
    rcases rA.2 with ⟨h, _⟩ | ⟨gA', cap, cur, h, hB, hg, _⟩
    · cases h
    · cases h; exact (Array.getElem?_eq_some_iff.1 hg).1
  have hgBl : gB < W3.heap.size := by
    rcases rB.2 with ⟨h, _⟩ | ⟨gB', cap, cur, h, hB, hg, _⟩
    · cases h
    · cases h; exact (Array.getElem?_eq_some_iff.1 hg).1
  have hc := Lib.hid fun q => ncmp_word gA gB cA cB X hX (W3.drewN q) cA0 cB0
  have hfinA : Hid (Box.Holds (W3.setCell ⟨gA, 0, none⟩ (.int .u64 1)) w.heap.size 85 #[.bool false, .slice (some ⟨gA, 0, none⟩) 1 cA] ∧ IsNat (W3.setCell ⟨gA, 0, none⟩ (.int .u64 1)) (w.heap.size + 1) (.slice (some ⟨gA, 0, none⟩) 1 cA) 1 ∧ Below w.heap.size w (W3.setCell ⟨gA, 0, none⟩ (.int .u64 1))) := Lib.hid (by
    refine ⟨?_, ?_, hb3.setCell (p := ⟨gA, 0, none⟩) (by show w.heap.size ≤ gA; omega) _⟩
    · have := hkA.apart (p := ⟨gA, 0, none⟩) (by show w.heap.size ≠ gA; omega) (.int .u64 1)
      rw [lX] at this
      exact this
    · unfold IsNat OwnW
      rw [words_1]
      exact stA)
  have xa : W3.cell? ⟨ga, oa, none⟩ = some (.bool false) := (hab.out.1.later hb3).c0
  have hset : Hid (∀ q, Calls Tryz.prog 61 #[.pointer (some ⟨g, 0, none⟩), .pointer (some ⟨w.heap.size, 0, none⟩)] ((W3.drewN q).setCell ⟨gA, 0, none⟩ (.int .u64 1)) fun e w' => e = .returned (.pointer (some ⟨g, 0, none⟩)) ∧ BigFrom w' g (g + 1) false 1 ∧ Below g w w') := Lib.hid fun q => by
    obtain ⟨k1, k2, k3⟩ := hfinA.out
    have e : (W3.drewN q).setCell ⟨gA, 0, none⟩ (.int .u64 1) = (W3.setCell ⟨gA, 0, none⟩ (.int .u64 1)).drewN q := rfl
    rw [e]
    have k3' := Box.below_drawn k3 q
    refine (bset_new g w.heap.size 0 1 _ false _ _ _ _ (hg'.out.later k3') (Box.Holds.two (k1.drawn q) 0 _ _ rfl rfl) k2 (by omega) (by omega) (k1.drawn q)).mono ?_
    rintro e w' ⟨h1, ⟨u, h2, h3⟩, h4⟩
    have := k3'.size
    exact ⟨h1, ⟨u, h2, World.ownsRow.mono h3 (by omega)⟩, (k3'.mono (Nat.le_of_lt hlt)).trans h4⟩
  clear hA1' hsB hB2 hb2 hA2 hq3 hr3 hqr hkA hkB hoA hoB hw12 hb3 hkeep rA rB stA hfinA
  go_wp2_with fail
  clear hW3
  go_quiet ((go_at_call 70; with_reducible exact Calls.quiet_of (hc.out _)))
  go_wp2
  go_loop [11, 12, 13, 14, 17] (fun a b c d e => a = .pointer (some ⟨w.heap.size, 0, none⟩) ∧ b = .pointer (some ⟨w1.heap.size, 0, none⟩) ∧ c = .pointer none ∧ d = .pointer none ∧ e = .pointer (some ⟨w2.heap.size + 1, 0, none⟩)) (fun _ _ _ _ _ => 0)
  case atStart => exact ⟨rfl, rfl, rfl, rfl, rfl⟩
  case round =>
    obtain ⟨rfl, rfl, rfl, rfl, rfl⟩ := hrel
    clear hc
    go_wp2_with fail
    go_quiet (fail)
    go_wp2
    go_loopw [23, 24] (fun a b wr => ((a = .int .u64 (X : Int) ∧ b = .int .u64 1) ∨ (a = .int .u64 1 ∧ b = .int .u64 0)) ∧ ∃ q, wr = W3.drewN q) (fun _ b _ => (intOf b).toNat)
    case atStart => exact ⟨.inl ⟨rfl, rfl⟩, _, by rw [World.drewN_drewN]⟩
    case round =>
      obtain ⟨hrel, q, rfl⟩ := hrel
      rcases hrel with ⟨rfl, rfl⟩ | ⟨rfl, rfl⟩
      · have hmod : (X : Int).tmod 1 = 0 := by simp
        go_wp2
        go_quiet (fail)
        go_wp2
        go_roundw
        case rel => exact ⟨.inr ⟨rfl, rfl⟩, _, by rw [World.drewN_drewN]⟩
        case measure => simp [intOf]
      · go_wp2_with fail
        refine (hset.out _).mono ?_
        rintro e w6 ⟨rfl, hfin⟩
        have hfin' := Lib.hid hfin
        clear hfin hset
        go_wp2
        exact bodyPost_ret (v := .pointer (some ⟨g, 0, none⟩)) (by simp [results, Tryz.results138, go_sem]) rfl ⟨rfl, hfin'.out⟩
theorem gcd_one (g ga oa ob X Ba Bb : Nat) (va vb : Value) (cs : Array Value) (t : TypeId) (w : World) (hg : Box.Holds w g 85 #[.bool false, .slice none 0 0]) (hk : Box.Holds w ga t cs) (ha : Two w ga oa (.bool false) va) (hb : Two w ga ob (.bool false) vb) (hna : IsNat w Ba va X) (hnb : IsNat w Bb vb 1) (hm : len W X ≤ 10000) (hX : 1 < X) (hne : ga < g) :
    Calls Tryz.prog 138 #[.pointer (some ⟨g, 0, none⟩), .pointer none, .pointer none, .pointer (some ⟨ga, oa, none⟩), .pointer (some ⟨ga, ob, none⟩)] w fun e w' => e = .returned (.pointer (some ⟨g, 0, none⟩)) ∧ BigFrom w' g (g + 1) false 1 ∧ Below g w w' := by
  by_cases h : X < W
  · exact gcd_word g ga oa ob X Ba Bb va vb cs t w hg hk ha hb hna hnb hX h hne
  · refine gcd_long g ga oa ob X Ba Bb va vb cs t w hg hk ha hb hna hnb hm ?_ hne
    have h1 := len_lt W_two X
    rcases Nat.lt_or_ge 1 (len W X) with h2 | h2
    · exact h2
    · have : W ^ len W X ≤ W ^ 1 := Nat.pow_le_pow_right W_pos h2
      rw [Nat.pow_one] at this
      omega
end Go.Proofs.YtpjkfdgkkpkljaaGreatDoor.Big
