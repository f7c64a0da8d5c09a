/-
  The greatest common divisor of a natural and one, as a fraction's norm asks for it.
-/
import Derived.Test.YtpjkfdgkkpkljaaGreatDoorBigQuo
namespace Go.Proofs.YtpjkfdgkkpkljaaGreatDoor.Big
open Go.RowKit Go.WideShapes Go.Proofs.YtpjkfdgkkpkljaaGreatDoor Go.Proofs.YtpjkfdgkkpkljaaGreatDoor.Own Go.Proofs.YtpjkfdgkkpkljaaGreatDoor.Num Go.Proofs.YtpjkfdgkkpkljaaGreatDoor.Ref Go.Proofs.YtpjkfdgkkpkljaaGreatDoor.Nat_
set_option linter.unusedVariables false

/-- the integer of block g, its words from block B on -/
def BigFrom (w : World) (g B : Nat) (neg : Bool) (V : Nat) : Prop := ∃ u, Box.Holds w g 85 #[.bool neg, u] ∧ IsNat w B u V
theorem BigFrom.later {w w' : World} {g B : Nat} {neg : Bool} {V : Nat} (h : BigFrom w g B neg V) (hb : Below w.heap.size w w') : BigFrom w' g B neg V := by
  obtain ⟨u, h1, h2⟩ := h
  exact ⟨u, h1.later hb, h2.later hb⟩
theorem PutAt.new {w w' : World} {g V : Nat} {neg : Bool} (h : PutAt w g 0 neg V w') {b0 v0 : Value} (hk : Box.Holds w g 85 #[b0, v0]) : BigFrom w' g w.heap.size neg V ∧ Below g w w' := by
  obtain ⟨w1, v, hb, ho, rfl⟩ := h
  have hlt := hk.lt
  refine ⟨⟨v, ?_, ?_⟩, ?_⟩
  · have := ((hk.later hb).put 1 v).put 0 (.bool neg)
    simpa using this
  · exact Box.own_above ho (((Box.Above.refl _ _).setCell (p := ⟨g, 0 + 1, none⟩) hlt _).setCell (p := ⟨g, 0, none⟩) hlt _)
  · exact ((hb.mono (Nat.le_of_lt hlt)).setCell (p := ⟨g, 0 + 1, none⟩) (Nat.le_refl _) _).setCell (p := ⟨g, 0, none⟩) (Nat.le_refl _) _
theorem BigFrom.sign {w : World} {g B : Nat} {neg : Bool} {V : Nat} (h : BigFrom w g B neg V) (hB : g < B) (b : Bool) : BigFrom (w.setCell ⟨g, 0, none⟩ (.bool b)) g B b V := by
  obtain ⟨u, h1, h2⟩ := h
  refine ⟨u, ?_, Box.own_above h2 ((Box.Above.refl _ _).setCell (p := ⟨g, 0, none⟩) hB _)⟩
  have := h1.put 0 (.bool b)
  simpa using this

theorem bset_new (g gx ox X B : Nat) (neg : Bool) (v : Value) (cb : Array Value) (tb : TypeId) (w : World) (hg : Box.Holds w g 85 #[.bool false, .slice none 0 0]) (hx : Two w gx ox (.bool neg) v) (hn : IsNat w B v X) (hm : len W X ≤ 10000) (hne : gx ≠ g) (hkb : Box.Holds w gx tb cb) :
    Calls Tryz.prog 61 #[.pointer (some ⟨g, 0, none⟩), .pointer (some ⟨gx, ox, none⟩)] w fun e w' => e = .returned (.pointer (some ⟨g, 0, none⟩)) ∧ BigFrom w' g w.heap.size neg X ∧ Below g w w' :=
  (bset_at g 0 gx ox X B (.bool false) neg v _ cb _ tb w (Box.Holds.two hg 0 _ _ rfl rfl) hx hn hm hne hg hkb).mono fun e w' h => ⟨h.1, h.2.new hg⟩
theorem babs_new (g gx ox X B : Nat) (neg : Bool) (v : Value) (cb : Array Value) (tb : TypeId) (w : World) (hg : Box.Holds w g 85 #[.bool false, .slice none 0 0]) (hx : Two w gx ox (.bool neg) v) (hn : IsNat w B v X) (hm : len W X ≤ 10000) (hne : gx ≠ g) (hkb : Box.Holds w gx tb cb) :
    Calls Tryz.prog 149 #[.pointer (some ⟨g, 0, none⟩), .pointer (some ⟨gx, ox, none⟩)] w fun e w' => e = .returned (.pointer (some ⟨g, 0, none⟩)) ∧ BigFrom w' g w.heap.size false X ∧ Below g w w' :=
  (babs_at g 0 gx ox X B (.bool false) neg v _ cb _ tb w (Box.Holds.two hg 0 _ _ rfl rfl) hx hn hm hne hg hkb).mono fun e w' h => by
    obtain ⟨rfl, w2, hp, rfl⟩ := h
    obtain ⟨h1, h2⟩ := hp.new hg
    exact ⟨rfl, h1.sign hg.lt false, h2.setCell (p := ⟨g, 0, none⟩) (Nat.le_refl _) _⟩

set_option maxRecDepth 100000 in
theorem newint_zero (w : World) : Calls Tryz.prog 66 #[.int .i64 0] w fun e w' => e = .returned (.pointer (some ⟨w.heap.size, 0, none⟩)) ∧ w' = w.alloc (.cells #[.bool false, .slice none 0 0] 85) := by
  go_enter Tryz.func66, Tryz.ntmps66
  go_wp2
  go_ret
  exact ⟨rfl, rfl⟩

set_option maxHeartbeats 1000000 in
set_option maxRecDepth 100000 in
theorem bcmp_one (g1 g2 B1 B2 : Nat) (w : World) (h1 : BigFrom w g1 B1 false 1) (h2 : BigFrom w g2 B2 false 1) (hne : g1 ≠ g2) :
    Calls Tryz.prog 139 #[.pointer (some ⟨g1, 0, none⟩), .pointer (some ⟨g2, 0, none⟩)] w fun e w' => e = .returned (.int .i64 0) ∧ Below w.heap.size w w' := by
  obtain ⟨v1, hk1, ho1⟩ := h1
  obtain ⟨v2, hk2, ho2⟩ := h2
  have hlt1 := hk1.lt
  have hlt2 := hk2.lt
  have hq := eql_other (a := ⟨g1, 0, none⟩) (b := ⟨g2, 0, none⟩) w (by simp only [ne_eq, Addr.mk.injEq, and_true]; omega) hk1 hk2
  have k0 := hk1.cell 0
  have k1 := hk1.cell 1
  have j0 := hk2.cell 0
  have j1 := hk2.cell 1
  simp at k0 k1 j0 j1
  have hc := Lib.hid fun q => ncmp_any v1 v2 1 1 _ _ (w.drewN q) ho1 ho2 (by decide +kernel) (by decide +kernel)
  rw [show cmpN 1 1 = 0 from rfl] at hc
  have hk1' := Lib.hid hk1
  have hcell : Hid (∀ q w1, Below (w.drewN q).heap.size (w.drewN q) w1 → w1.cell? ⟨g1, 0, none⟩ = some (.bool false) ∧ g1 < w1.heap.size) := Lib.hid fun q w1 hb => by
    have hh := (hk1'.out.drawn q).later hb
    have e0 := hh.cell 0
    simp at e0
    exact ⟨e0, hh.lt⟩
  have hbel : Hid (∀ q w1, Below (w.drewN q).heap.size (w.drewN q) w1 → Below w.heap.size w w1) := Lib.hid fun q w1 hb => (Box.below_drawn (Below.refl _ _) q).trans hb
  clear hk1 hk2 ho1 ho2 hk1'
  go_enter Tryz.func139, Tryz.ntmps139
  go_wp2
  go_quiet (fail)
  go_wp2
  go_region_with (go_at_call 70; refine (hc.out _).mono ?_; rintro e w1 ⟨rfl, hb⟩; obtain ⟨e0, hl1⟩ := hcell.out _ _ hb)
  all_goals
    have hfin := hbel.out _ _ hb
    clear hb
    go_wp2
    go_ret
    exact ⟨rfl, hfin⟩

set_option maxHeartbeats 1000000 in
set_option maxRecDepth 100000 in
theorem euclid_one (ga gb gq gr X Ba Bb : Nat) (w : World) (ha : BigFrom w ga Ba false X) (hb : BigFrom w gb Bb false 1) (hq : Box.Holds w gq 85 #[.bool false, .slice none 0 0]) (hr : Box.Holds w gr 85 #[.bool false, .slice none 0 0]) (hm : len W X ≤ 10000) (h1 : gq < gr) (h2 : ga < gq) (h3 : gb < gq) :
    Calls Tryz.prog 153 #[.pointer (some ⟨ga, 0, none⟩), .pointer (some ⟨gb, 0, none⟩), .pointer none, .pointer none, .pointer (some ⟨gq, 0, none⟩), .pointer (some ⟨gr, 0, none⟩), .bool false] w fun e w' => e = .returned (.tuple #[.pointer (some ⟨gb, 0, none⟩), .pointer (some ⟨gr, 0, none⟩), .pointer (some ⟨ga, 0, none⟩), .pointer none, .pointer none]) ∧ BigFrom w' gr w.heap.size false 0 ∧ Below gq w w' := by
  obtain ⟨va, hka, hoa⟩ := ha
  obtain ⟨vb, hkb, hob⟩ := hb
  have hdv := (div_one va vb X Ba Bb w.drew hoa hm hob).mono (fun e w' h => (Parts.of_halves h).undrawn (q := 1) (w := w))
  obtain ⟨a0, c0, rfl, -, -⟩ := hoa.slice
  obtain ⟨a1, c1, rfl, -, -⟩ := hob.slice
  have hqr := Lib.hid (quorem_of gq gr ga 0 gb 0 X 0 false false a0 _ c0 a1 _ c1 w hq hr (Box.Holds.two hka 0 _ _ rfl rfl) (Box.Holds.two hkb 0 _ _ rfl rfl) hdv hm (by decide +kernel) h1 h2 h3)
  clear hka hkb hoa hob hq hr hdv
  go_enter Tryz.func153, Tryz.ntmps153
  go_wp2_with fail
  refine hqr.out.mono ?_
  rintro e w1 ⟨rfl, -, ⟨u, hu1, hu2⟩, hb⟩
  have hfin := Lib.hid (show BigFrom w1 gr w.heap.size false 0 from ⟨u, by simpa using hu1, hu2⟩)
  clear hu1 hu2 hqr
  go_wp2
  exact bodyPost_ret (v := .tuple #[.pointer (some ⟨gb, 0, none⟩), .pointer (some ⟨gr, 0, none⟩), .pointer (some ⟨ga, 0, none⟩), .pointer none, .pointer none]) (by simp [results, Tryz.results153, go_sem]) rfl ⟨rfl, hfin.out, hb⟩

theorem quiet_below {B : Nat} {w w' w'' : World} (h1 : Below B w w') (h2 : Below w'.heap.size w' w'') (hB : B ≤ w'.heap.size) : Below B w w'' := h1.trans (h2.mono hB)

set_option maxRecDepth 100000 in
theorem ncmp_long (a b : Option Addr) (n ca cb : Nat) (hn : 2 ≤ n) (w : World) : Calls Tryz.prog 70 #[.slice a n ca, .slice b 1 cb] w fun e w' => e = .returned (.int .i64 1) ∧ w' = w := by
  have hne : ((n : Int) != 1) = true := by simp; omega
  have h1 : decide ((n : Int) < 1) = false := by simp; omega
  have h1' : decide (n < 1) = false := by simp; omega
  have h2 : decide ((1 : Int) < (n : Int)) = true := by simp; omega
  have h2' : decide (1 < n) = true := by simp; omega
  go_enter Tryz.func70, Tryz.ntmps70
  go_wp2
  go_ret
  exact ⟨rfl, rfl⟩
set_option maxRecDepth 100000 in
theorem ncmp_word (ga gb : Nat) (ca cb X : Nat) (hX : 1 < X) (w : World) (h1 : w.cell? ⟨ga, 0, none⟩ = some (.int .u64 (X : Int))) (h2 : w.cell? ⟨gb, 0, none⟩ = some (.int .u64 1)) : Calls Tryz.prog 70 #[.slice (some ⟨ga, 0, none⟩) 1 ca, .slice (some ⟨gb, 0, none⟩) 1 cb] w fun e w' => e = .returned (.int .i64 1) ∧ ∃ m, w' = w.drewN m := by
  have g1 : ((X : Int) == 1) = false := by simp; omega
  have g2 : decide ((X : Int) < 1) = false := by simp; omega
  have g3 : decide ((1 : Int) < (X : Int)) = true := by simp; omega
  have g3' : decide (1 < X) = true := by simp; omega
  go_enter Tryz.func70, Tryz.ntmps70
  go_wp2
  go_loop [7] (fun i => i = .int .i64 0) (fun _ => 0)
  case atStart => rfl
  case round =>
    subst hrel
    go_wp2
    go_quiet (fail)
    go_wp2
    go_quiet (fail)
    go_wp2
    go_quiet (fail)
    go_wp2
    go_ret
    exact ⟨rfl, _, by rw [World.drewN_drewN, World.drewN_drewN]⟩

end Go.Proofs.YtpjkfdgkkpkljaaGreatDoor.Big
