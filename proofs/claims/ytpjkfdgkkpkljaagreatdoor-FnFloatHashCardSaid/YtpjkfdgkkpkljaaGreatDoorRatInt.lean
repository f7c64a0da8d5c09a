/-
  The package's integers inside a fraction: SetUint64, Set, Abs at any address.
-/
import Derived.Test.YtpjkfdgkkpkljaaGreatDoorRatNat
import Derived.Test.YtpjkfdgkkpkljaaGreatDoorRatLsh
import Derived.Deep.RegionHeld3
namespace Go.Proofs.YtpjkfdgkkpkljaaGreatDoor.Big
open Go.RowKit Go.WideShapes Go.Proofs.YtpjkfdgkkpkljaaGreatDoor.Own Go.Proofs.YtpjkfdgkkpkljaaGreatDoor.Num Go.Proofs.YtpjkfdgkkpkljaaGreatDoor.Ref Go.Proofs.YtpjkfdgkkpkljaaGreatDoor.Nat_
set_option linter.unusedVariables false

/-- the two cells of an integer, at place o of block g -/
structure Two (w : World) (g o : Nat) (b v : Value) : Prop where
  lt : g < w.heap.size
  c0 : w.cell? ⟨g, o, none⟩ = some b
  c1 : w.cell? ⟨g, o + 1, none⟩ = some v
  f0 : w.frozen? ⟨g, o, none⟩ = false
  f1 : w.frozen? ⟨g, o + 1, none⟩ = false
theorem frozen_below {B : Nat} {w w' : World} (h : Below B w w') {p : Addr} (hp : p.block < B) : w'.frozen? p = w.frozen? p := by
  unfold World.frozen?
  rw [h.block p.block hp]
theorem Two.later {w w' : World} {g o : Nat} {b v : Value} (h : Two w g o b v) (hb : Below w.heap.size w w') : Two w' g o b v :=
  ⟨Nat.lt_of_lt_of_le h.lt hb.size, (hb.cell (p := ⟨g, o, none⟩) h.lt).trans h.c0, (hb.cell (p := ⟨g, o + 1, none⟩) h.lt).trans h.c1, (frozen_below hb h.lt).trans h.f0, (frozen_below hb h.lt).trans h.f1⟩
theorem Box.Holds.two {w : World} {g : Nat} {t : TypeId} {cs : Array Value} (h : Box.Holds w g t cs) (o : Nat) (b v : Value) (h0 : cs[o]? = some b) (h1 : cs[o + 1]? = some v) : Two w g o b v :=
  ⟨h.lt, (h.cell o).trans h0, (h.cell (o + 1)).trans h1, h.free o, h.free (o + 1)⟩

/-- what a call leaves that has put a number at place o of block g -/
def PutAt (w : World) (g o : Nat) (neg : Bool) (V : Nat) (w' : World) : Prop :=
  ∃ w1 v, Below w.heap.size w w1 ∧ IsNat w1 w.heap.size v V ∧ w' = (w1.setCell ⟨g, o + 1, none⟩ v).setCell ⟨g, o, none⟩ (.bool neg)

set_option maxRecDepth 100000 in
theorem make_1 (w : World) : Calls Tryz.prog 77 #[.slice none 0 0, .int .i64 1] w fun e w' => e = .returned (.slice (some ⟨w.heap.size, 0, none⟩) 1 1) ∧ w' = w.alloc (.cells #[.int .u64 0] 111) := by
  have hr := fun W => run_new 1 1 (by omega) (by omega) W 1 rfl 1 rfl
  go_enter Tryz.func77, Tryz.ntmps77
  go_wp2
  go_ret
  exact ⟨rfl, rfl⟩
theorem one_word (x : Nat) (h0 : 0 < x) (h1 : x < W) (w : World) : IsNat (w.alloc (.cells #[.int .u64 (x : Int)] 111)) w.heap.size (.slice (some ⟨w.heap.size, 0, none⟩) 1 1) x := by
  have h : Box.Holds (w.alloc (.cells #[.int .u64 (x : Int)] 111)) w.heap.size 111 #[.int .u64 (x : Int)] := Box.Holds.made w _ _
  unfold IsNat OwnW
  rw [words_one h0 h1, dig_length]
  refine ⟨by rw [ws_length, dig_length], .inr ⟨w.heap.size, 1, _, rfl, Nat.le_refl _, h, Nat.le_refl _, by unfold maxLen; omega, by simp, ?_⟩⟩
  have e : dig W x 1 = [x] := by
    apply List.ext_getElem?
    intro j
    by_cases hj : j < 1
    · obtain rfl : j = 0 := by omega
      rw [dig_get _ _ _ _ hj, Nat.pow_zero, Nat.div_one, Nat.mod_eq_of_lt h1]
      rfl
    · rw [List.getElem?_eq_none (by rw [dig_length]; omega), List.getElem?_eq_none (by simp; omega)]
  rw [e]
  rfl
set_option maxRecDepth 100000 in
theorem setword_1 (x : Nat) (h0 : 0 < x) (h1 : x < W) (w : World) :
    Calls Tryz.prog 84 #[.slice none 0 0, .int .u64 x] w fun e w' => (∃ g, e = .returned (.slice (some ⟨g, 0, none⟩) 1 1) ∧ IsNat w' w.heap.size (.slice (some ⟨g, 0, none⟩) 1 1) x) ∧ Below w.heap.size w w' := by
  have hmk := Lib.hid (make_1 w)
  have hfin := Lib.hid (one_word x h0 h1 w)
  have hx : x < 18446744073709551616 := h1
  have hb0 : ((x : Int) == 0) = false := by simp; omega
  clear h1
  go_enter Tryz.func84, Tryz.ntmps84
  go_wp2_with fail
  refine hmk.out.mono ?_
  rintro e w1 ⟨rfl, rfl⟩
  go_wp2
  go_ret
  exact ⟨⟨_, rfl, hfin.out⟩, (Below.refl _ _).alloc (Nat.le_refl _) _⟩
set_option maxRecDepth 100000 in
theorem setu64_1 (x : Nat) (h0 : 0 < x) (h1 : x < W) (w : World) :
    Calls Tryz.prog 136 #[.slice none 0 0, .int .u64 x] w fun e w' => (∃ g, e = .returned (.slice (some ⟨g, 0, none⟩) 1 1) ∧ IsNat w' w.heap.size (.slice (some ⟨g, 0, none⟩) 1 1) x) ∧ Below w.heap.size w w' := by
  have hs := Lib.hid (setword_1 x h0 h1 w)
  have hx : x < 18446744073709551616 := h1
  clear h1
  go_enter Tryz.func136, Tryz.ntmps136
  go_wp2_with fail
  refine hs.out.mono ?_
  rintro e w1 ⟨⟨z, rfl, ho⟩, hb1⟩
  go_wp2
  go_ret
  exact ⟨⟨_, rfl, ho⟩, hb1⟩
set_option maxRecDepth 100000 in
theorem bsetu_at (g o x : Nat) (b : Value) (h0 : 0 < x) (h1 : x < W) (w : World) (hg : Two w g o b (.slice none 0 0)) :
    Calls Tryz.prog 113 #[.pointer (some ⟨g, o, none⟩), .int .u64 x] w fun e w' => e = .returned (.pointer (some ⟨g, o, none⟩)) ∧ ∃ w1 gv, Below w.heap.size w w1 ∧ IsNat w1 w.heap.size (.slice (some ⟨gv, 0, none⟩) 1 1) x ∧ w' = (w1.setCell ⟨g, o + 1, none⟩ (.slice (some ⟨gv, 0, none⟩) 1 1)).setCell ⟨g, o, none⟩ (.bool false) := by
  have hs := Lib.hid (setu64_1 x h0 h1 w)
  have hx : x < 18446744073709551616 := h1
  obtain ⟨hlt, k0, k1, f0, f1⟩ := id hg
  clear h1
  go_enter Tryz.func113, Tryz.ntmps113
  go_wp2_with fail
  refine hs.out.mono ?_
  rintro e w1 ⟨⟨gv, rfl, ho⟩, hb⟩
  obtain ⟨hlt, k0, k1, f0, f1⟩ := hg.later hb
  go_wp2
  go_ret
  exact ⟨rfl, w1, _, hb, ho, rfl⟩

set_option maxHeartbeats 1000000 in
set_option maxRecDepth 100000 in
theorem bset_at (g o gx ox X B : Nat) (b : Value) (neg : Bool) (v : Value) (ca cb : Array Value) (ta tb : TypeId) (w : World) (hg : Two w g o b (.slice none 0 0)) (hx : Two w gx ox (.bool neg) v) (hn : IsNat w B v X) (hm : len W X ≤ 10000) (hne : gx ≠ g) (hka : Box.Holds w g ta ca) (hkb : Box.Holds w gx tb cb) :
    Calls Tryz.prog 61 #[.pointer (some ⟨g, o, none⟩), .pointer (some ⟨gx, ox, none⟩)] w fun e w' => e = .returned (.pointer (some ⟨g, o, none⟩)) ∧ PutAt w g o neg X w' := by
  have hq := neq_other (a := ⟨g, o, none⟩) (b := ⟨gx, ox, none⟩) w (by intro h; cases h; exact hne rfl) hka hkb
  have hs := Lib.hid fun q => nset_any v X B (w.drewN q) hn hm
  obtain ⟨a0, c0, rfl, hc, hr⟩ := hn.slice
  obtain ⟨hlt, k0, k1, f0, f1⟩ := id hg
  obtain ⟨hltx, x0, x1, -, -⟩ := id hx
  obtain ⟨n, hn'⟩ : ∃ n, len W X = n := ⟨_, rfl⟩
  rw [hn'] at hs x1 hx hc
  have hg' : Hid (∀ q w1, Below (w.drewN q).heap.size (w.drewN q) w1 → Two w1 g o b (.slice none 0 0) ∧ Two w1 gx ox (.bool neg) (.slice a0 n c0)) := Lib.hid fun q w1 hb => ⟨hg.later ((Box.below_drawn (Below.refl _ _) q).trans hb), hx.later ((Box.below_drawn (Below.refl _ _) q).trans hb)⟩
  have hend : Hid (∀ q w1 u, Below (w.drewN q).heap.size (w.drewN q) w1 → IsNat w1 (w.drewN q).heap.size u X → PutAt w g o neg X ((w1.setCell ⟨g, o + 1, none⟩ u).setCell ⟨g, o, none⟩ (.bool neg))) := Lib.hid fun q w1 u hb ho => ⟨w1, u, (Box.below_drawn (Below.refl _ _) q).trans hb, ho, rfl⟩
  clear hn' hn hr hka hkb hx
  go_enter Tryz.func61, Tryz.ntmps61
  go_wp2_with fail
  go_region_with (go_at_call 80; refine (hs.out _).mono ?_; rintro e w1 ⟨⟨u, rfl, hu⟩, hb⟩; obtain ⟨a1, c1, hv, -, -⟩ := hu.slice; subst hv; obtain ⟨⟨l1, e0, e1, f0, f1⟩, ⟨lx1, ex0, ex1, fx0, fx1⟩⟩ := hg'.out _ _ hb)
  all_goals
    have hfin := Lib.hid (hend.out _ _ _ hb hu)
    clear hu
    go_wp2
    go_ret
    exact ⟨rfl, hfin.out⟩
set_option maxHeartbeats 1000000 in
set_option maxRecDepth 100000 in
theorem babs_at (g o gx ox X B : Nat) (b : Value) (neg : Bool) (v : Value) (ca cb : Array Value) (ta tb : TypeId) (w : World) (hg : Two w g o b (.slice none 0 0)) (hx : Two w gx ox (.bool neg) v) (hn : IsNat w B v X) (hm : len W X ≤ 10000) (hne : gx ≠ g) (hka : Box.Holds w g ta ca) (hkb : Box.Holds w gx tb cb) :
    Calls Tryz.prog 149 #[.pointer (some ⟨g, o, none⟩), .pointer (some ⟨gx, ox, none⟩)] w fun e w' => e = .returned (.pointer (some ⟨g, o, none⟩)) ∧ ∃ w2, PutAt w g o neg X w2 ∧ w' = w2.setCell ⟨g, o, none⟩ (.bool false) := by
  have hs := Lib.hid (bset_at g o gx ox X B b neg v ca cb ta tb w hg hx hn hm hne hka hkb)
  obtain ⟨hlt, k0, k1, f0, f1⟩ := id hg
  clear hn hx hka hkb
  go_enter Tryz.func149, Tryz.ntmps149
  go_wp2_with fail
  refine hs.out.mono ?_
  rintro e w2 ⟨rfl, hp⟩
  have hp' := Lib.hid hp
  obtain ⟨w1, v1, hb, ho, rfl⟩ := hp
  obtain ⟨a1, c1, rfl, -, -⟩ := ho.slice
  obtain ⟨hlt, k0, k1, f0, f1⟩ := hg.later hb
  clear hs ho
  go_wp2
  go_ret
  exact ⟨rfl, _, hp'.out, rfl⟩
set_option maxHeartbeats 1000000 in
set_option maxRecDepth 100000 in
theorem blsh_at (g o X S B : Nat) (neg : Bool) (gv : Nat) (w : World) (hg : Two w g o (.bool neg) (.slice (some ⟨gv, 0, none⟩) 1 1)) (hn : IsNat w B (.slice (some ⟨gv, 0, none⟩) 1 1) X) (hm : len W X ≤ 5000) (hX : X ≠ 0) (hS : S ≤ 100000) (hS0 : S ≠ 0) :
    Calls Tryz.prog 114 #[.pointer (some ⟨g, o, none⟩), .pointer (some ⟨g, o, none⟩), .int .u64 S] w fun e w' => e = .returned (.pointer (some ⟨g, o, none⟩)) ∧ PutAt w g o neg (X * 2 ^ S) w' := by
  have hs := Lib.hid fun q => nlsh_any1 (some ⟨gv, 0, none⟩) 1 _ X S B (w.drewN q) hn hm hX hS hS0
  obtain ⟨hlt, k0, k1, f0, f1⟩ := id hg
  have hg' : Hid (∀ q w1, Below (w.drewN q).heap.size (w.drewN q) w1 → Two w1 g o (.bool neg) (.slice (some ⟨gv, 0, none⟩) 1 1)) := Lib.hid fun q w1 hb => hg.later ((Box.below_drawn (Below.refl _ _) q).trans hb)
  obtain ⟨M, hM⟩ : ∃ M, X * 2 ^ S = M := ⟨_, rfl⟩
  rw [hM] at hs ⊢
  have hend : Hid (∀ q w1 u, Below (w.drewN q).heap.size (w.drewN q) w1 → IsNat w1 (w.drewN q).heap.size u M → PutAt w g o neg M ((w1.setCell ⟨g, o + 1, none⟩ u).setCell ⟨g, o, none⟩ (.bool neg))) := Lib.hid fun q w1 u hb ho => ⟨w1, u, (Box.below_drawn (Below.refl _ _) q).trans hb, ho, rfl⟩
  clear hM hn hm hX hS0
  go_enter Tryz.func114, Tryz.ntmps114
  go_wp2_with fail
  go_region_with (go_at_call 137; refine (hs.out _).mono ?_; rintro e w1 ⟨⟨u, rfl, hu⟩, hb⟩; obtain ⟨a1, c1, hv, -, -⟩ := hu.slice; subst hv; obtain ⟨l1, e0, e1, f0, f1⟩ := hg'.out _ _ hb)
  all_goals
    have hfin := Lib.hid (hend.out _ _ _ hb hu)
    clear hu
    go_wp2
    go_ret
    exact ⟨rfl, hfin.out⟩
end Go.Proofs.YtpjkfdgkkpkljaaGreatDoor.Big
