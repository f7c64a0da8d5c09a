/-
  The greatest common divisor of a natural and one, as a fraction's norm asks for it. The greatest common divisor of a natural and one: lehmerGCD. A fraction's norm where its denominator is one.
-/
import Derived.Test.YtpjkfdgkkpkljaaGreatDoorBigQuo
import Derived.Test.YtpjkfdgkkpkljaaGreatDoorStarSmall
import Derived.Defers
import Derived.Deep.RegionHeld3
namespace Go.Proofs.YtpjkfdgkkpkljaaGreatDoor.Big
open Go.RowKit Go.WideShapes Go.Proofs.YtpjkfdgkkpkljaaGreatDoor Go.Proofs.YtpjkfdgkkpkljaaGreatDoor.Own Go.Proofs.YtpjkfdgkkpkljaaGreatDoor.Num Go.Proofs.YtpjkfdgkkpkljaaGreatDoor.Ref Go.Proofs.YtpjkfdgkkpkljaaGreatDoor.Nat_
set_option linter.unusedVariables false

/-- the integer of block g, its words from block B on -/
def BigFrom (w : World) (g B : Nat) (neg : Bool) (V : Nat) : Prop := ∃ u, Box.Holds w g 85 #[.bool neg, u] ∧ IsNat w B u V
theorem BigFrom.later {w w' : World} {g B : Nat} {neg : Bool} {V : Nat} (h : BigFrom w g B neg V) (hb : Below w.heap.size w w') : BigFrom w' g B neg V := by
  obtain ⟨u, h1, h2⟩ := h
  exact ⟨u, h1.later hb, h2.later hb⟩
theorem PutAt.new {w w' : World} {g V : Nat} {neg : Bool} (h : PutAt w g 0 neg V w') {b0 v0 : Value} (hk : Box.Holds w g 85 #[b0, v0]) : BigFrom w' g w.heap.size neg V ∧ Below g w w' := by
  obtain ⟨w1, v, hb, ho, rfl⟩ := h
  have hlt := hk.lt
  refine ⟨⟨v, ?_, ?_⟩, ?_⟩
  · have := ((hk.later hb).put 1 v).put 0 (.bool neg)
    simpa using this
  · exact Box.own_above ho (((Box.Above.refl _ _).setCell (p := ⟨g, 0 + 1, none⟩) hlt _).setCell (p := ⟨g, 0, none⟩) hlt _)
  · exact ((hb.mono (Nat.le_of_lt hlt)).setCell (p := ⟨g, 0 + 1, none⟩) (Nat.le_refl _) _).setCell (p := ⟨g, 0, none⟩) (Nat.le_refl _) _
theorem BigFrom.sign {w : World} {g B : Nat} {neg : Bool} {V : Nat} (h : BigFrom w g B neg V) (hB : g < B) (b : Bool) : BigFrom (w.setCell ⟨g, 0, none⟩ (.bool b)) g B b V := by
  obtain ⟨u, h1, h2⟩ := h
  refine ⟨u, ?_, Box.own_above h2 ((Box.Above.refl _ _).setCell (p := ⟨g, 0, none⟩) hB _)⟩
  have := h1.put 0 (.bool b)
  simpa using this

theorem bset_new (g gx ox X B : Nat) (neg : Bool) (v : Value) (cb : Array Value) (tb : TypeId) (w : World) (hg : Box.Holds w g 85 #[.bool false, .slice none 0 0]) (hx : Two w gx ox (.bool neg) v) (hn : IsNat w B v X) (hm : len W X ≤ 10000) (hne : gx ≠ g) (hkb : Box.Holds w gx tb cb) :
    Calls Tryz.prog 61 #[.pointer (some ⟨g, 0, none⟩), .pointer (some ⟨gx, ox, none⟩)] w fun e w' => e = .returned (.pointer (some ⟨g, 0, none⟩)) ∧ BigFrom w' g w.heap.size neg X ∧ Below g w w' :=
  (bset_at g 0 gx ox X B (.bool false) neg v _ cb _ tb w (Box.Holds.two hg 0 _ _ rfl rfl) hx hn hm hne hg hkb).mono fun e w' h => ⟨h.1, h.2.new hg⟩
theorem babs_new (g gx ox X B : Nat) (neg : Bool) (v : Value) (cb : Array Value) (tb : TypeId) (w : World) (hg : Box.Holds w g 85 #[.bool false, .slice none 0 0]) (hx : Two w gx ox (.bool neg) v) (hn : IsNat w B v X) (hm : len W X ≤ 10000) (hne : gx ≠ g) (hkb : Box.Holds w gx tb cb) :
    Calls Tryz.prog 149 #[.pointer (some ⟨g, 0, none⟩), .pointer (some ⟨gx, ox, none⟩)] w fun e w' => e = .returned (.pointer (some ⟨g, 0, none⟩)) ∧ BigFrom w' g w.heap.size false X ∧ Below g w w' :=
  (babs_at g 0 gx ox X B (.bool false) neg v _ cb _ tb w (Box.Holds.two hg 0 _ _ rfl rfl) hx hn hm hne hg hkb).mono fun e w' h => by
    obtain ⟨rfl, w2, hp, rfl⟩ := h
    obtain ⟨h1, h2⟩ := hp.new hg
    exact ⟨rfl, h1.sign hg.lt false, h2.setCell (p := ⟨g, 0, none⟩) (Nat.le_refl _) _⟩

set_option maxRecDepth 100000 in
theorem newint_zero (w : World) : Calls Tryz.prog 66 #[.int .i64 0] w fun e w' => e = .returned (.pointer (some ⟨w.heap.size, 0, none⟩)) ∧ w' = w.alloc (.cells #[.bool false, .slice none 0 0] 85) := by
  go_enter Tryz.func66, Tryz.ntmps66
  go_wp2
  go_ret
  exact ⟨rfl, rfl⟩

set_option maxHeartbeats 1000000 in
set_option maxRecDepth 100000 in
theorem bcmp_one (g1 g2 B1 B2 : Nat) (w : World) (h1 : BigFrom w g1 B1 false 1) (h2 : BigFrom w g2 B2 false 1) (hne : g1 ≠ g2) :
    Calls Tryz.prog 139 #[.pointer (some ⟨g1, 0, none⟩), .pointer (some ⟨g2, 0, none⟩)] w fun e w' => e = .returned (.int .i64 0) ∧ Below w.heap.size w w' := by
  obtain ⟨v1, hk1, ho1⟩ := h1
  obtain ⟨v2, hk2, ho2⟩ := h2
  have hlt1 := hk1.lt
  have hlt2 := hk2.lt
  have hq := eql_other (a := ⟨g1, 0, none⟩) (b := ⟨g2, 0, none⟩) w (by simp only [ne_eq, Addr.mk.injEq, and_true]; omega) hk1 hk2
  have k0 := hk1.cell 0
  have k1 := hk1.cell 1
  have j0 := hk2.cell 0
  have j1 := hk2.cell 1
  simp at k0 k1 j0 j1
  have hc := Lib.hid fun q => ncmp_any v1 v2 1 1 _ _ (w.drewN q) ho1 ho2 (by decide +kernel) (by decide +kernel)
  rw [show cmpN 1 1 = 0 from rfl] at hc
  have hk1' := Lib.hid hk1
  have hcell : Hid (∀ q w1, Below (w.drewN q).heap.size (w.drewN q) w1 → w1.cell? ⟨g1, 0, none⟩ = some (.bool false) ∧ g1 < w1.heap.size) := Lib.hid fun q w1 hb => by
    have hh := (hk1'.out.drawn q).later hb
    have e0 := hh.cell 0
    simp at e0
    exact ⟨e0, hh.lt⟩
  have hbel : Hid (∀ q w1, Below (w.drewN q).heap.size (w.drewN q) w1 → Below w.heap.size w w1) := Lib.hid fun q w1 hb => (Box.below_drawn (Below.refl _ _) q).trans hb
  clear hk1 hk2 ho1 ho2 hk1'
  go_enter Tryz.func139, Tryz.ntmps139
  go_wp2
  go_quiet (fail)
  go_wp2
  go_region_with (go_at_call 70; refine (hc.out _).mono ?_; rintro e w1 ⟨rfl, hb⟩; obtain ⟨e0, hl1⟩ := hcell.out _ _ hb)
  all_goals
    have hfin := hbel.out _ _ hb
    clear hb
    go_wp2
    go_ret
    exact ⟨rfl, hfin⟩

set_option maxHeartbeats 1000000 in
set_option maxRecDepth 100000 in
theorem euclid_one (ga gb gq gr X Ba Bb : Nat) (w : World) (ha : BigFrom w ga Ba false X) (hb : BigFrom w gb Bb false 1) (hq : Box.Holds w gq 85 #[.bool false, .slice none 0 0]) (hr : Box.Holds w gr 85 #[.bool false, .slice none 0 0]) (hm : len W X ≤ 10000) (h1 : gq < gr) (h2 : ga < gq) (h3 : gb < gq) :
    Calls Tryz.prog 153 #[.pointer (some ⟨ga, 0, none⟩), .pointer (some ⟨gb, 0, none⟩), .pointer none, .pointer none, .pointer (some ⟨gq, 0, none⟩), .pointer (some ⟨gr, 0, none⟩), .bool false] w fun e w' => e = .returned (.tuple #[.pointer (some ⟨gb, 0, none⟩), .pointer (some ⟨gr, 0, none⟩), .pointer (some ⟨ga, 0, none⟩), .pointer none, .pointer none]) ∧ BigFrom w' gr w.heap.size false 0 ∧ Below gq w w' := by
  obtain ⟨va, hka, hoa⟩ := ha
  obtain ⟨vb, hkb, hob⟩ := hb
  have hdv := (div_one va vb X Ba Bb w.drew hoa hm hob).mono (fun e w' h => (Parts.of_halves h).undrawn (q := 1) (w := w))
  obtain ⟨a0, c0, rfl, -, -⟩ := hoa.slice
  obtain ⟨a1, c1, rfl, -, -⟩ := hob.slice
  have hqr := Lib.hid (quorem_of gq gr ga 0 gb 0 X 0 false false a0 _ c0 a1 _ c1 w hq hr (Box.Holds.two hka 0 _ _ rfl rfl) (Box.Holds.two hkb 0 _ _ rfl rfl) hdv hm (by decide +kernel) h1 h2 h3)
  clear hka hkb hoa hob hq hr hdv
  go_enter Tryz.func153, Tryz.ntmps153
  go_wp2_with fail
  refine hqr.out.mono ?_
  rintro e w1 ⟨rfl, -, ⟨u, hu1, hu2⟩, hb⟩
  have hfin := Lib.hid (show BigFrom w1 gr w.heap.size false 0 from ⟨u, by simpa using hu1, hu2⟩)
  clear hu1 hu2 hqr
  go_wp2
  exact bodyPost_ret (v := .tuple #[.pointer (some ⟨gb, 0, none⟩), .pointer (some ⟨gr, 0, none⟩), .pointer (some ⟨ga, 0, none⟩), .pointer none, .pointer none]) (by simp [results, Tryz.results153, go_sem]) rfl ⟨rfl, hfin.out, hb⟩

theorem quiet_below {B : Nat} {w w' w'' : World} (h1 : Below B w w') (h2 : Below w'.heap.size w' w'') (hB : B ≤ w'.heap.size) : Below B w w'' := h1.trans (h2.mono hB)

set_option maxRecDepth 100000 in
theorem ncmp_long (a b : Option Addr) (n ca cb : Nat) (hn : 2 ≤ n) (w : World) : Calls Tryz.prog 70 #[.slice a n ca, .slice b 1 cb] w fun e w' => e = .returned (.int .i64 1) ∧ w' = w := by
  have hne : ((n : Int) != 1) = true := by simp; omega
  have h1 : decide ((n : Int) < 1) = false := by simp; omega
  have h1' : decide (n < 1) = false := by simp; omega
  have h2 : decide ((1 : Int) < (n : Int)) = true := by simp; omega
  have h2' : decide (1 < n) = true := by simp; omega
  go_enter Tryz.func70, Tryz.ntmps70
  go_wp2
  go_ret
  exact ⟨rfl, rfl⟩
set_option maxRecDepth 100000 in
theorem ncmp_word (ga gb : Nat) (ca cb X : Nat) (hX : 1 < X) (w : World) (h1 : w.cell? ⟨ga, 0, none⟩ = some (.int .u64 (X : Int))) (h2 : w.cell? ⟨gb, 0, none⟩ = some (.int .u64 1)) : Calls Tryz.prog 70 #[.slice (some ⟨ga, 0, none⟩) 1 ca, .slice (some ⟨gb, 0, none⟩) 1 cb] w fun e w' => e = .returned (.int .i64 1) ∧ ∃ m, w' = w.drewN m := by
  have g1 : ((X : Int) == 1) = false := by simp; omega
  have g2 : decide ((X : Int) < 1) = false := by simp; omega
  have g3 : decide ((1 : Int) < (X : Int)) = true := by simp; omega
  have g3' : decide (1 < X) = true := by simp; omega
  go_enter Tryz.func70, Tryz.ntmps70
  go_wp2
  go_loop [7] (fun i => i = .int .i64 0) (fun _ => 0)
  case atStart => rfl
  case round =>
    subst hrel
    go_wp2
    go_quiet (fail)
    go_wp2
    go_quiet (fail)
    go_wp2
    go_quiet (fail)
    go_wp2
    go_ret
    exact ⟨rfl, _, by rw [World.drewN_drewN, World.drewN_drewN]⟩

end Go.Proofs.YtpjkfdgkkpkljaaGreatDoor.Big
namespace Go.Proofs.YtpjkfdgkkpkljaaGreatDoor.Big
open Go.RowKit Go.WideShapes Go.Proofs.YtpjkfdgkkpkljaaGreatDoor Go.Proofs.YtpjkfdgkkpkljaaGreatDoor.Own Go.Proofs.YtpjkfdgkkpkljaaGreatDoor.Num Go.Proofs.YtpjkfdgkkpkljaaGreatDoor.Ref Go.Proofs.YtpjkfdgkkpkljaaGreatDoor.Nat_
set_option linter.unusedVariables false

set_option maxHeartbeats 4000000 in
set_option maxRecDepth 100000 in
/-- of a number of more than one word -/
theorem gcd_long (g ga oa ob X Ba Bb : Nat) (va vb : Value) (cs : Array Value) (t : TypeId) (w : World) (hg : Box.Holds w g 85 #[.bool false, .slice none 0 0]) (hk : Box.Holds w ga t cs) (ha : Two w ga oa (.bool false) va) (hb : Two w ga ob (.bool false) vb) (hna : IsNat w Ba va X) (hnb : IsNat w Bb vb 1) (hm : len W X ≤ 10000) (hl : 2 ≤ len W X) (hne : ga < g) :
    Calls Tryz.prog 138 #[.pointer (some ⟨g, 0, none⟩), .pointer none, .pointer none, .pointer (some ⟨ga, oa, none⟩), .pointer (some ⟨ga, ob, none⟩)] w fun e w' => e = .returned (.pointer (some ⟨g, 0, none⟩)) ∧ BigFrom w' g (g + 1) false 1 ∧ Below g w w' := by
  have hlt := hg.lt
  have hlta := hk.lt
  have l1 : len W 1 = 1 := by decide +kernel
  -- the first copy
  have hA0 : Box.Holds (w.alloc (.cells #[.bool false, .slice none 0 0] 85)) w.heap.size 85 #[.bool false, .slice none 0 0] := Box.Holds.made w _ _
  have hbA := below_one (B := w.heap.size) (.cells #[.bool false, .slice none 0 0] 85) (Nat.le_refl _)
  have hsA := Lib.hid (babs_new w.heap.size ga oa X Ba false va cs t (w.alloc (.cells #[.bool false, .slice none 0 0] 85)) hA0 (ha.later hbA) (hna.later hbA) hm (by omega) (hk.later hbA))
  have hn' := Lib.hid (And.intro hna hnb)
  have hab := Lib.hid (And.intro ha hb)
  have hk' := Lib.hid hk
  have hg' := Lib.hid hg
  clear hg hk ha hb hna hnb hA0 hbA
  go_enter Tryz.func138, Tryz.ntmps138
  go_wp2_with fail
  refine hsA.out.mono ?_
  rintro e w1 ⟨rfl, hA1, hb1⟩
  have hb1' : Below w.heap.size w w1 := (below_one (B := w.heap.size) _ (Nat.le_refl _)).trans hb1
  simp only [World.size_alloc] at hA1
  have hs1 : w.heap.size + 1 ≤ w1.heap.size := by have := hb1.size; simp at this; exact this
  have hbB := below_one (B := w1.heap.size) (w := w1) (.cells #[.bool false, .slice none 0 0] 85) (Nat.le_refl _)
  have hbB' := hb1'.trans (hbB.mono (by omega))
  have hsB := Lib.hid (babs_new w1.heap.size ga ob 1 Bb false vb cs t (w1.alloc (.cells #[.bool false, .slice none 0 0] 85)) (Box.Holds.made w1 _ _) (hab.out.2.later hbB') (hn'.out.2.later hbB') (by omega) (by omega) (hk'.out.later hbB'))
  have hA1' := Lib.hid hA1
  have hb1'' := Lib.hid hb1'
  clear hsA hA1 hb1 hb1' hbB hbB'
  go_wp2_with fail
  refine hsB.out.mono ?_
  rintro e w2 ⟨rfl, hB2, hb2⟩
  simp only [World.size_alloc] at hB2
  have hs2 : w1.heap.size + 1 ≤ w2.heap.size := by have := hb2.size; simp at this; exact this
  have hw12 : Below w1.heap.size w1 w2 := (below_one (B := w1.heap.size) _ (Nat.le_refl _)).trans hb2
  have hA2 := hA1'.out.later hw12
  have hqr : Below w2.heap.size w2 ((w2.alloc (.cells #[.bool false, .slice none 0 0] 85)).alloc (.cells #[.bool false, .slice none 0 0] 85)) := (below_one _ (Nat.le_refl _)).alloc (by simp) _
  obtain ⟨W3, hW3⟩ : ∃ W3, (w2.alloc (.cells #[.bool false, .slice none 0 0] 85)).alloc (.cells #[.bool false, .slice none 0 0] 85) = W3 := ⟨_, rfl⟩
  have hq3 : Box.Holds W3 w2.heap.size 85 #[.bool false, .slice none 0 0] := by rw [← hW3]; exact (Box.Holds.made w2 _ _).alloc _
  have hr3 : Box.Holds W3 (w2.heap.size + 1) 85 #[.bool false, .slice none 0 0] := by
    rw [← hW3]
    have := Box.Holds.made (w2.alloc (.cells #[.bool false, .slice none 0 0] 85)) 85 #[.bool false, .slice none 0 0]
    simpa using this
  rw [hW3] at hqr
  have hA3 := hA2.later hqr
  have hB3 := hB2.later hqr
  have hb3 : Below w.heap.size w W3 := (hb1''.out.trans (hw12.mono (by omega))).trans (hqr.mono (by omega))
  have hs3 := hqr.size
  have hkeep := Lib.hid (And.intro hB2 hqr)
  have hall := Lib.hid (And.intro hA3 (And.intro hB3 (And.intro hq3 (And.intro hr3 hb3))))
  obtain ⟨uA, hkA, hoA⟩ := hA3
  obtain ⟨uB, hkB, hoB⟩ := hB3
  obtain ⟨aA, cA, rfl, -, -⟩ := hoA.slice
  obtain ⟨aB, cB, rfl, -, -⟩ := hoB.slice
  have kA := hkA.cell 1
  have kB := hkB.cell 1
  simp at kA kB
  have hltA := hkA.lt
  have hltB := hkB.lt
  rw [l1] at kB
  obtain ⟨n, hn⟩ : ∃ n, len W X = n := ⟨_, rfl⟩
  rw [hn] at kA hl
  have hc := Lib.hid fun q => ncmp_long aA aB n cA cB hl (W3.drewN q)
  have hn'' := Lib.hid hn
  clear hA1' hsB hB2 hb2 hA2 hq3 hr3 hqr hkA hkB hoA hoB hw12 hb3 hn
  go_wp2_with fail
  clear hW3
  go_quiet ((go_at_call 70; with_reducible exact Calls.quiet_of_same (hc.out _)))
  go_wp2
  go_loop [11, 12, 13, 14, 17] (fun a b c d e => a = .pointer (some ⟨w.heap.size, 0, none⟩) ∧ b = .pointer (some ⟨w1.heap.size, 0, none⟩) ∧ c = .pointer none ∧ d = .pointer none ∧ e = .pointer (some ⟨w2.heap.size + 1, 0, none⟩)) (fun _ _ _ _ _ => 0)
  case atStart => exact ⟨rfl, rfl, rfl, rfl, rfl⟩
  case round =>
    obtain ⟨rfl, rfl, rfl, rfl, rfl⟩ := hrel
    have b1 : decide ((1 : Int) < (n : Int)) = true := by simp; omega
    have b2 : decide (1 < n) = true := by simp; omega
    clear hc
    go_wp2_with fail
    obtain ⟨hA3, hB3, hq3, hr3, hb3⟩ := hall.out
    refine (euclid_one w.heap.size w1.heap.size w2.heap.size (w2.heap.size + 1) X _ _ (W3.drewN nq) hA3 hB3 hq3 hr3 hm (Nat.lt_succ_self _) (by omega) (by omega)).mono ?_
    rintro e w5 ⟨rfl, hr5, hb5⟩
    have hb35 : Below w.heap.size w w5 := (Box.below_drawn hb3 nq).trans (hb5.mono (by omega))
    have hg5 := hg'.out.later hb35
    have hk5 := hk'.out.later hb35
    have ha5 := hab.out.1.later hb35
    obtain ⟨ur, hkr, hor⟩ := hr5
    obtain ⟨ar, cr, rfl, -, -⟩ := hor.slice
    have kr := hkr.cell 1
    simp only [show len W 0 = 0 from rfl] at kr
    simp at kr
    have hltr := hkr.lt
    obtain ⟨uB, hkB5, hoB5⟩ := hkeep.out.1.later ((Box.below_drawn hkeep.out.2 nq).trans hb5)
    have hset := Lib.hid (bset_new g w1.heap.size 0 1 _ false uB _ _ w5 hg5 (Box.Holds.two hkB5 0 _ _ rfl rfl) hoB5 (by omega) (by omega) hkB5)
    obtain ⟨ga0, ga1, ga2, -, -⟩ := ha5
    have hend : Hid (∀ w6, BigFrom w6 g w5.heap.size false 1 → Below g w5 w6 → BigFrom w6 g (g + 1) false 1 ∧ Below g w w6) := Lib.hid fun w6 h1 h2 => by
      have := hb35.size
      obtain ⟨u, h3, h4⟩ := h1
      exact ⟨⟨u, h3, World.ownsRow.mono h4 (by omega)⟩, (hb35.mono (Nat.le_of_lt hlt)).trans h2⟩
    clear hg5 hk5 hkr hor hkB5 hoB5 hA3 hB3 hq3 hr3 hb3 hb5 hb35 hkeep
    go_wp2_with fail
    refine hset.out.mono ?_
    rintro e w6 ⟨rfl, h1, h2⟩
    have hfin := Lib.hid (hend.out _ h1 h2)
    clear h1 h2 hend hset
    go_wp2
    exact bodyPost_ret (v := .pointer (some ⟨g, 0, none⟩)) (by simp [results, Tryz.results138, go_sem]) rfl ⟨rfl, hfin.out⟩
set_option maxHeartbeats 4000000 in
set_option maxRecDepth 100000 in
/-- of a number of one word -/
theorem gcd_word (g ga oa ob X Ba Bb : Nat) (va vb : Value) (cs : Array Value) (t : TypeId) (w : World) (hg : Box.Holds w g 85 #[.bool false, .slice none 0 0]) (hk : Box.Holds w ga t cs) (ha : Two w ga oa (.bool false) va) (hb : Two w ga ob (.bool false) vb) (hna : IsNat w Ba va X) (hnb : IsNat w Bb vb 1) (hX : 1 < X) (hXW : X < W) (hne : ga < g) :
    Calls Tryz.prog 138 #[.pointer (some ⟨g, 0, none⟩), .pointer none, .pointer none, .pointer (some ⟨ga, oa, none⟩), .pointer (some ⟨ga, ob, none⟩)] w fun e w' => e = .returned (.pointer (some ⟨g, 0, none⟩)) ∧ BigFrom w' g (g + 1) false 1 ∧ Below g w w' := by
  have hlt := hg.lt
  have hlta := hk.lt
  have l1 : len W 1 = 1 := by decide +kernel
  have lX : len W X = 1 := by
    have h1 := len_one hXW
    have h2 := (len_pos W_two (v := X)).2 (by omega)
    omega
  have hm : len W X ≤ 10000 := by omega
  -- the first copy
  have hA0 : Box.Holds (w.alloc (.cells #[.bool false, .slice none 0 0] 85)) w.heap.size 85 #[.bool false, .slice none 0 0] := Box.Holds.made w _ _
  have hbA := below_one (B := w.heap.size) (.cells #[.bool false, .slice none 0 0] 85) (Nat.le_refl _)
  have hsA := Lib.hid (babs_new w.heap.size ga oa X Ba false va cs t (w.alloc (.cells #[.bool false, .slice none 0 0] 85)) hA0 (ha.later hbA) (hna.later hbA) hm (by omega) (hk.later hbA))
  have hn' := Lib.hid (And.intro hna hnb)
  have hab := Lib.hid (And.intro ha hb)
  have hk' := Lib.hid hk
  have hg' := Lib.hid hg
  clear hg hk ha hb hna hnb hA0 hbA
  go_enter Tryz.func138, Tryz.ntmps138
  go_wp2_with fail
  refine hsA.out.mono ?_
  rintro e w1 ⟨rfl, hA1, hb1⟩
  have hb1' : Below w.heap.size w w1 := (below_one (B := w.heap.size) _ (Nat.le_refl _)).trans hb1
  simp only [World.size_alloc] at hA1
  have hs1 : w.heap.size + 1 ≤ w1.heap.size := by have := hb1.size; simp at this; exact this
  have hbB := below_one (B := w1.heap.size) (w := w1) (.cells #[.bool false, .slice none 0 0] 85) (Nat.le_refl _)
  have hbB' := hb1'.trans (hbB.mono (by omega))
  have hsB := Lib.hid (babs_new w1.heap.size ga ob 1 Bb false vb cs t (w1.alloc (.cells #[.bool false, .slice none 0 0] 85)) (Box.Holds.made w1 _ _) (hab.out.2.later hbB') (hn'.out.2.later hbB') (by omega) (by omega) (hk'.out.later hbB'))
  have hA1' := Lib.hid hA1
  have hb1'' := Lib.hid hb1'
  clear hsA hA1 hb1 hb1' hbB hbB'
  go_wp2_with fail
  refine hsB.out.mono ?_
  rintro e w2 ⟨rfl, hB2, hb2⟩
  simp only [World.size_alloc] at hB2
  have hs2 : w1.heap.size + 1 ≤ w2.heap.size := by have := hb2.size; simp at this; exact this
  have hw12 : Below w1.heap.size w1 w2 := (below_one (B := w1.heap.size) _ (Nat.le_refl _)).trans hb2
  have hA2 := hA1'.out.later hw12
  have hqr : Below w2.heap.size w2 ((w2.alloc (.cells #[.bool false, .slice none 0 0] 85)).alloc (.cells #[.bool false, .slice none 0 0] 85)) := (below_one _ (Nat.le_refl _)).alloc (by simp) _
  obtain ⟨W3, hW3⟩ : ∃ W3, (w2.alloc (.cells #[.bool false, .slice none 0 0] 85)).alloc (.cells #[.bool false, .slice none 0 0] 85) = W3 := ⟨_, rfl⟩
  have hq3 : Box.Holds W3 w2.heap.size 85 #[.bool false, .slice none 0 0] := by rw [← hW3]; exact (Box.Holds.made w2 _ _).alloc _
  have hr3 : Box.Holds W3 (w2.heap.size + 1) 85 #[.bool false, .slice none 0 0] := by
    rw [← hW3]
    have := Box.Holds.made (w2.alloc (.cells #[.bool false, .slice none 0 0] 85)) 85 #[.bool false, .slice none 0 0]
    simpa using this
  rw [hW3] at hqr
  have hA3 := hA2.later hqr
  have hB3 := hB2.later hqr
  have hb3 : Below w.heap.size w W3 := (hb1''.out.trans (hw12.mono (by omega))).trans (hqr.mono (by omega))
  have hs3 := hqr.size
  have hkeep := Lib.hid (And.intro hB2 hqr)
  have hall := Lib.hid (And.intro hA3 (And.intro hB3 (And.intro hq3 (And.intro hr3 hb3))))
  obtain ⟨uA, hkA, hoA⟩ := hA3
  obtain ⟨uB, hkB, hoB⟩ := hB3
  obtain ⟨aA, cA, rfl, -, -⟩ := hoA.slice
  obtain ⟨aB, cB, rfl, -, -⟩ := hoB.slice
  have kA := hkA.cell 1
  have kB := hkB.cell 1
  simp at kA kB
  have hltA := hkA.lt
  have hltB := hkB.lt
  rw [l1] at kB
  rw [lX] at kA
  have rA : W3.ownsRow (w.heap.size + 1) 111 1 (.slice aA 1 cA) 1 [.int .u64 (X : Int)] := by
    have := hoA
    unfold IsNat OwnW at this
    rw [words_one (by omega) hXW, lX] at this
    have e : ws (dig W X 1) = [.int .u64 (X : Int)] := by simp [dig, ws, Nat.mod_eq_of_lt hXW]
    rw [e] at this
    exact this
  have rB : W3.ownsRow (w1.heap.size + 1) 111 1 (.slice aB 1 cB) 1 [.int .u64 1] := by
    have := hoB
    unfold IsNat OwnW at this
    rw [words_1, l1] at this
    exact this
  obtain ⟨gA, rfl, hgA⟩ : ∃ gA, aA = some ⟨gA, 0, none⟩ ∧ w.heap.size + 1 ≤ gA := by
    rcases rA.2 with ⟨h, _⟩ | ⟨gA, cap, cur, h, hB, _⟩
    · cases h
    · cases h; exact ⟨gA, rfl, hB⟩
  obtain ⟨gB, rfl, hgB⟩ : ∃ gB, aB = some ⟨gB, 0, none⟩ ∧ w1.heap.size + 1 ≤ gB := by
    rcases rB.2 with ⟨h, _⟩ | ⟨gB, cap, cur, h, hB, _⟩
    · cases h
    · cases h; exact ⟨gB, rfl, hB⟩
  have cA0 : W3.cell? ⟨gA, 0, none⟩ = some (.int .u64 (X : Int)) := World.ownsRow.cellAt rA 0 (by omega)
  have cB0 : W3.cell? ⟨gB, 0, none⟩ = some (.int .u64 1) := World.ownsRow.cellAt rB 0 (by omega)
  have fA0 : W3.frozen? ⟨gA, 0, none⟩ = false := World.ownsRow.frozenAt rA 0
  have stA := (World.ownsRow.stored rA 0 (.int .u64 1)).1
  have hgAl : gA < W3.heap.size := by
    rcases rA.2 with ⟨h, _⟩ | ⟨gA', cap, cur, h, hB, hg, _⟩
    · cases h
    · cases h; exact (Array.getElem?_eq_some_iff.1 hg).1
  have hgBl : gB < W3.heap.size := by
    rcases rB.2 with ⟨h, _⟩ | ⟨gB', cap, cur, h, hB, hg, _⟩
    · cases h
    · cases h; exact (Array.getElem?_eq_some_iff.1 hg).1
  have hc := Lib.hid fun q => ncmp_word gA gB cA cB X hX (W3.drewN q) cA0 cB0
  have hfinA : Hid (Box.Holds (W3.setCell ⟨gA, 0, none⟩ (.int .u64 1)) w.heap.size 85 #[.bool false, .slice (some ⟨gA, 0, none⟩) 1 cA] ∧ IsNat (W3.setCell ⟨gA, 0, none⟩ (.int .u64 1)) (w.heap.size + 1) (.slice (some ⟨gA, 0, none⟩) 1 cA) 1 ∧ Below w.heap.size w (W3.setCell ⟨gA, 0, none⟩ (.int .u64 1))) := Lib.hid (by
    refine ⟨?_, ?_, hb3.setCell (p := ⟨gA, 0, none⟩) (by show w.heap.size ≤ gA; omega) _⟩
    · have := hkA.apart (p := ⟨gA, 0, none⟩) (by show w.heap.size ≠ gA; omega) (.int .u64 1)
      rw [lX] at this
      exact this
    · unfold IsNat OwnW
      rw [words_1]
      exact stA)
  have xa : W3.cell? ⟨ga, oa, none⟩ = some (.bool false) := (hab.out.1.later hb3).c0
  have hset : Hid (∀ q, Calls Tryz.prog 61 #[.pointer (some ⟨g, 0, none⟩), .pointer (some ⟨w.heap.size, 0, none⟩)] ((W3.drewN q).setCell ⟨gA, 0, none⟩ (.int .u64 1)) fun e w' => e = .returned (.pointer (some ⟨g, 0, none⟩)) ∧ BigFrom w' g (g + 1) false 1 ∧ Below g w w') := Lib.hid fun q => by
    obtain ⟨k1, k2, k3⟩ := hfinA.out
    have e : (W3.drewN q).setCell ⟨gA, 0, none⟩ (.int .u64 1) = (W3.setCell ⟨gA, 0, none⟩ (.int .u64 1)).drewN q := rfl
    rw [e]
    have k3' := Box.below_drawn k3 q
    refine (bset_new g w.heap.size 0 1 _ false _ _ _ _ (hg'.out.later k3') (Box.Holds.two (k1.drawn q) 0 _ _ rfl rfl) k2 (by omega) (by omega) (k1.drawn q)).mono ?_
    rintro e w' ⟨h1, ⟨u, h2, h3⟩, h4⟩
    have := k3'.size
    exact ⟨h1, ⟨u, h2, World.ownsRow.mono h3 (by omega)⟩, (k3'.mono (Nat.le_of_lt hlt)).trans h4⟩
  clear hA1' hsB hB2 hb2 hA2 hq3 hr3 hqr hkA hkB hoA hoB hw12 hb3 hkeep rA rB stA hfinA
  go_wp2_with fail
  clear hW3
  go_quiet ((go_at_call 70; with_reducible exact Calls.quiet_of (hc.out _)))
  go_wp2
  go_loop [11, 12, 13, 14, 17] (fun a b c d e => a = .pointer (some ⟨w.heap.size, 0, none⟩) ∧ b = .pointer (some ⟨w1.heap.size, 0, none⟩) ∧ c = .pointer none ∧ d = .pointer none ∧ e = .pointer (some ⟨w2.heap.size + 1, 0, none⟩)) (fun _ _ _ _ _ => 0)
  case atStart => exact ⟨rfl, rfl, rfl, rfl, rfl⟩
  case round =>
    obtain ⟨rfl, rfl, rfl, rfl, rfl⟩ := hrel
    clear hc
    go_wp2_with fail
    go_quiet (fail)
    go_wp2
    go_loopw [23, 24] (fun a b wr => ((a = .int .u64 (X : Int) ∧ b = .int .u64 1) ∨ (a = .int .u64 1 ∧ b = .int .u64 0)) ∧ ∃ q, wr = W3.drewN q) (fun _ b _ => (intOf b).toNat)
    case atStart => exact ⟨.inl ⟨rfl, rfl⟩, _, by rw [World.drewN_drewN]⟩
    case round =>
      obtain ⟨hrel, q, rfl⟩ := hrel
      rcases hrel with ⟨rfl, rfl⟩ | ⟨rfl, rfl⟩
      · have hmod : (X : Int).tmod 1 = 0 := by simp
        go_wp2
        go_quiet (fail)
        go_wp2
        go_roundw
        case rel => exact ⟨.inr ⟨rfl, rfl⟩, _, by rw [World.drewN_drewN]⟩
        case measure => simp [intOf]
      · go_wp2_with fail
        refine (hset.out _).mono ?_
        rintro e w6 ⟨rfl, hfin⟩
        have hfin' := Lib.hid hfin
        clear hfin hset
        go_wp2
        exact bodyPost_ret (v := .pointer (some ⟨g, 0, none⟩)) (by simp [results, Tryz.results138, go_sem]) rfl ⟨rfl, hfin'.out⟩
theorem gcd_one (g ga oa ob X Ba Bb : Nat) (va vb : Value) (cs : Array Value) (t : TypeId) (w : World) (hg : Box.Holds w g 85 #[.bool false, .slice none 0 0]) (hk : Box.Holds w ga t cs) (ha : Two w ga oa (.bool false) va) (hb : Two w ga ob (.bool false) vb) (hna : IsNat w Ba va X) (hnb : IsNat w Bb vb 1) (hm : len W X ≤ 10000) (hX : 1 < X) (hne : ga < g) :
    Calls Tryz.prog 138 #[.pointer (some ⟨g, 0, none⟩), .pointer none, .pointer none, .pointer (some ⟨ga, oa, none⟩), .pointer (some ⟨ga, ob, none⟩)] w fun e w' => e = .returned (.pointer (some ⟨g, 0, none⟩)) ∧ BigFrom w' g (g + 1) false 1 ∧ Below g w w' := by
  by_cases h : X < W
  · exact gcd_word g ga oa ob X Ba Bb va vb cs t w hg hk ha hb hna hnb hX h hne
  · refine gcd_long g ga oa ob X Ba Bb va vb cs t w hg hk ha hb hna hnb hm ?_ hne
    have h1 := len_lt W_two X
    rcases Nat.lt_or_ge 1 (len W X) with h2 | h2
    · exact h2
    · have : W ^ len W X ≤ W ^ 1 := Nat.pow_le_pow_right W_pos h2
      rw [Nat.pow_one] at this
      omega
end Go.Proofs.YtpjkfdgkkpkljaaGreatDoor.Big
namespace Go.Proofs.YtpjkfdgkkpkljaaGreatDoor.Big
open Go.RowKit Go.WideShapes Go.Proofs.YtpjkfdgkkpkljaaGreatDoor Go.Proofs.YtpjkfdgkkpkljaaGreatDoor.Own Go.Proofs.YtpjkfdgkkpkljaaGreatDoor.Num Go.Proofs.YtpjkfdgkkpkljaaGreatDoor.Ref Go.Proofs.YtpjkfdgkkpkljaaGreatDoor.Nat_
set_option linter.unusedVariables false

theorem getstk_any (w : World) : Calls Tryz.prog 85 #[] w fun e w' => e = .returned (.pointer (some ⟨w.heap.size, 0, none⟩)) ∧ w' = w.alloc (.cells #[.pointer none] 134) := by
  go_enter Tryz.func85, Tryz.ntmps85
  go_wp2
  go_ret
  exact ⟨rfl, rfl⟩
theorem free_deferred (p : Addr) (u : FrameMode) (w : World) (h : w.cell? p = some (.pointer none)) : CallsD Tryz.prog 86 #[.pointer (some p)] u w fun e u' w' => u' = u ∧ (e = .returned (.tuple #[]) ∧ w' = w) := by
  go_enter_d Tryz.func86, Tryz.ntmps86
  go_wp2
  go_end0
  exact ⟨rfl, rfl⟩
theorem newint_new (w : World) : Calls Tryz.prog 66 #[.int .i64 0] w fun e w' => e = .returned (.pointer (some ⟨w.heap.size, 0, none⟩)) ∧ Box.Holds w' w.heap.size 85 #[.bool false, .slice none 0 0] ∧ Below w.heap.size w w' ∧ w'.heap.size = w.heap.size + 1 := by
  refine (newint_zero w).mono ?_
  rintro e w' ⟨rfl, rfl⟩
  exact ⟨rfl, Box.Holds.made _ _ _, below_one _ (Nat.le_refl _), by simp⟩
theorem intone_big (w : World) : Calls Tryz.prog 94 #[] w fun e w' => ∃ g, e = .returned (.pointer (some ⟨g, 0, none⟩)) ∧ w.heap.size < g ∧ BigFrom w' g 0 false 1 ∧ Below w.heap.size w w' := by
  refine (intone_any w).mono ?_
  rintro e w' ⟨rfl, rfl⟩
  have h := one_made w
  refine ⟨_, rfl, Nat.lt_succ_self _, ⟨_, ?_, World.ownsRow.mono (h.later (below_one _ (Nat.le_refl _))) (Nat.zero_le _)⟩, (below_one _ (Nat.le_refl _)).alloc (by simp) _⟩
  have := Box.Holds.made (w.alloc (.cells #[.int .u64 1] 111)) 85 #[.bool false, .slice (some ⟨w.heap.size, 0, none⟩) 1 1]
  simpa using this

set_option maxHeartbeats 4000000 in
set_option maxRecDepth 100000 in
theorem norm_one (g X Ba Bb : Nat) (neg : Bool) (va vb : Value) (w : World) (hk : Box.Holds w g 127 #[.bool neg, va, .bool false, vb]) (hna : IsNat w Ba va X) (hnb : IsNat w Bb vb 1) (hm : len W X ≤ 10000) (hX : 1 < X) :
    Calls Tryz.prog 115 #[.pointer (some ⟨g, 0, none⟩)] w fun e w' => e = .returned (.pointer (some ⟨g, 0, none⟩)) ∧ Below w.heap.size w w' := by
  have hlt := hk.lt
  have hgs := Lib.hid fun w => getstk_any w
  have hone := Lib.hid fun w => intone_big w
  have hpos := (len_pos W_two (v := X)).2 (by omega)
  have l1 : len W 1 = 1 := by decide +kernel
  obtain ⟨a0, c0, rfl, -, -⟩ := hna.slice
  obtain ⟨a1, c1, rfl, -, -⟩ := hnb.slice
  have k0 := hk.cell 0
  have k1 := hk.cell 1
  have k2 := hk.cell 2
  have k3 := hk.cell 3
  simp at k0 k1 k2 k3
  rw [l1] at k3
  have f0 := hk.free 0
  have f2 := hk.free 2
  obtain ⟨n, hn⟩ : ∃ n, len W X = n := ⟨_, rfl⟩
  rw [hn] at k1 hpos
  have hn0 : ((n : Int) == 0) = false := by simp; omega
  have hn' := Lib.hid hn
  have hk' := Lib.hid hk
  have hna' := Lib.hid hna
  have hnb' := Lib.hid hnb
  clear hn hk hna hnb
  go_enter_defers Tryz.func115, Tryz.ntmps115
  go_wp2_with fail
  refine (hgs.out _).mono ?_
  rintro e w1 ⟨rfl, rfl⟩
  go_wp2_with fail
  have hkk := hk'.out
  have hW : ∃ W0, ((w.setCell ⟨g, 0, none⟩ (.bool false)).setCell ⟨g, 2, none⟩ (.bool false)).alloc (.cells #[.pointer none] 134) = W0 ∧ Box.Holds W0 g 127 #[.bool false, .slice a0 (len W X) c0, .bool false, .slice a1 (len W 1) c1] ∧ IsNat W0 Ba (.slice a0 (len W X) c0) X ∧ IsNat W0 Bb (.slice a1 (len W 1) c1) 1 ∧ Below g w W0 ∧ Box.Holds W0 w.heap.size 134 #[.pointer none] ∧ (∀ w', Below w.heap.size W0 w' → Below w.heap.size w (w'.setCell ⟨g, 0, none⟩ (.bool neg))) := by
    have hk1 := hkk.put 0 (.bool false)
    have hk2 := hk1.put 2 (.bool false)
    simp at hk1 hk2
    have hb : Below g w ((w.setCell ⟨g, 0, none⟩ (.bool false)).setCell ⟨g, 2, none⟩ (.bool false)) := ((Below.refl _ _).setCell (p := ⟨g, 0, none⟩) (Nat.le_refl _) _).setCell (p := ⟨g, 2, none⟩) (Nat.le_refl _) _
    have own : ∀ {B : Nat} {v : Value} {l : List Nat}, OwnW w B v l → OwnW (((w.setCell ⟨g, 0, none⟩ (.bool false)).setCell ⟨g, 2, none⟩ (.bool false)).alloc (.cells #[.pointer none] 134)) B v l := fun {B v l} h => OwnW.later (own_apart (own_apart h hkk (by decide) 0 _) hk1 (by decide) 2 _) (below_one _ (Nat.le_refl _))
    have hmade := Box.Holds.made ((w.setCell ⟨g, 0, none⟩ (.bool false)).setCell ⟨g, 2, none⟩ (.bool false)) 134 #[.pointer none]
    refine ⟨_, rfl, hk2.alloc _, own hna'.out, own hnb'.out, hb.alloc (Nat.le_of_lt (by simpa using hlt)) _, by simpa using hmade, fun w' hw' => ?_⟩
    have hsz : w.heap.size ≤ w'.heap.size := by have := hw'.size; simp at this; omega
    refine ⟨hw'.os, hw'.tape, hw'.output, by simpa using hsz, fun g' hg' => ?_⟩
    have hkw := (hk2.alloc (.cells #[.pointer none] 134)).below hw' hlt
    by_cases e : g' = g
    · subst e
      have h1 := hkw.put 0 (.bool neg)
      have h2 : w.heap[g']? = _ := hkk
      rw [h2]
      simp at h1
      exact h1
    · rw [Below.heap_setCell w' ⟨g, 0, none⟩ (.bool neg) g' e, hw'.block g' hg', heap_alloc_old _ _ (by simpa using hg'), Below.heap_setCell _ ⟨g, 2, none⟩ _ g' e, Below.heap_setCell _ ⟨g, 0, none⟩ _ g' e]
  obtain ⟨W0, hW0, hk0, hnA, hnB, hb0, hstk, hlast⟩ := hW
  have hs0 : w.heap.size < W0.heap.size := hstk.lt
  have hlt0 := hk0.lt
  have hnew := Lib.hid fun q => newint_new (W0.drewN q)
  have hgcd : Hid (∀ Wv, Below W0.heap.size W0 Wv → Box.Holds Wv W0.heap.size 85 #[.bool false, .slice none 0 0] → Calls Tryz.prog 138 #[.pointer (some ⟨W0.heap.size, 0, none⟩), .pointer none, .pointer none, .pointer (some ⟨g, 0, none⟩), .pointer (some ⟨g, 2, none⟩)] Wv fun e w' => e = .returned (.pointer (some ⟨W0.heap.size, 0, none⟩)) ∧ BigFrom w' W0.heap.size (W0.heap.size + 1) false 1 ∧ Below W0.heap.size W0 w') := Lib.hid fun Wv hb hz => (gcd_one W0.heap.size g 0 2 X Ba Bb _ _ _ _ Wv hz (hk0.later hb) (Box.Holds.two (hk0.later hb) 0 _ _ rfl rfl) (Box.Holds.two (hk0.later hb) 2 _ _ rfl rfl) (hnA.later hb) (hnB.later hb) hm hX hlt0).mono fun e w' h => ⟨h.1, h.2.1, hb.trans h.2.2⟩
  have c0g := hk0.cell 0
  simp at c0g
  have hbd : Hid (∀ q w1, Below (W0.drewN q).heap.size (W0.drewN q) w1 → Below W0.heap.size W0 w1) := Lib.hid fun q w1 h => (Box.below_drawn (Below.refl _ _) q).trans h
  have hfinal : Hid (∀ w5, Below W0.heap.size W0 w5 → w5.cell? ⟨g, 0, none⟩ = some (.bool false) ∧ w5.frozen? ⟨g, 0, none⟩ = false ∧ w5.cell? ⟨w.heap.size, 0, none⟩ = some (.pointer none) ∧ g < w5.heap.size ∧ w.heap.size < w5.heap.size ∧ (w5.setCell ⟨g, 0, none⟩ (.bool neg)).cell? ⟨w.heap.size, 0, none⟩ = some (.pointer none) ∧ Below w.heap.size w (w5.setCell ⟨g, 0, none⟩ (.bool neg))) := Lib.hid fun w5 h => by
    have h1 := hk0.later h
    have h2 := hstk.later h
    have e1 := h1.cell 0
    have e2 := h2.cell 0
    simp at e1 e2
    refine ⟨e1, h1.free 0, e2, h1.lt, h2.lt, ?_, hlast w5 (h.mono (Nat.le_of_lt hs0))⟩
    rw [World.cell?_setCell_other _ _ _ _ (by intro e; have := congrArg Addr.block e; simp at this; omega)]
    exact e2
  clear hk0 hnA hnB hb0 hstk hlast hkk hk' hna' hnb' k0 k1 k2 k3 f0 f2 hgs
  rw [hW0]
  clear hW0
  go_region_held3 (fun W => W.cell? ⟨g, 0, none⟩ = some (.bool false)) (first | go_keep | exact j1 | exact l1) (first | (go_at_call 66; refine (hnew.out _).mono ?_; rintro e w1 ⟨rfl, hz1, hb1, hs1⟩; have hb1' := hbd.out _ _ hb1; have j1 := (hfinal.out _ hb1').1) | (go_at_call 138; refine (hgcd.out _ hb1' hz1).mono ?_; rintro e w2 ⟨rfl, hg2, hb2⟩; have l1 := (hfinal.out _ hb2).1))
  clear hnew hgcd hz1 hb1 hb1' hs1 j1 c0g
  go_wp2_with fail
  refine (hone.out _).mono ?_
  rintro e w3 ⟨g1, rfl, hg1, ho1, hb3⟩
  have hs2 := hg2
  obtain ⟨u2, hk2, -⟩ := hs2
  have hlt2 := hk2.lt
  have hcmp := Lib.hid (bcmp_one W0.heap.size g1 _ _ w3 (hg2.later hb3) ho1 (by omega))
  have hb23 := hb2.trans (hb3.mono hb2.size)
  clear hg2 ho1 hb3 hk2 hone hb2 l1 hlt2 hg1
  go_wp2_with fail
  refine hcmp.out.mono ?_
  rintro e w5 ⟨rfl, hb5⟩
  obtain ⟨e1, e2, e3, e4, e5, e6, e7⟩ := hfinal.out w5 (hb23.trans (hb5.mono hb23.size))
  have hfin := Lib.hid e7
  clear hcmp hb5 hb23 hfinal e7
  go_wp2
  refine leaves_cons (f := 86) (args := #[.pointer (some ⟨w.heap.size, 0, none⟩)]) (by simp) (by simp [go_sem]) ?_
  refine (free_deferred _ .returning _ e6).mono ?_
  rintro e u' w'' ⟨rfl, rfl, rfl⟩
  exact ⟨_, results_tmp rfl _ _ _, rfl, hfin.out⟩
end Go.Proofs.YtpjkfdgkkpkljaaGreatDoor.Big
