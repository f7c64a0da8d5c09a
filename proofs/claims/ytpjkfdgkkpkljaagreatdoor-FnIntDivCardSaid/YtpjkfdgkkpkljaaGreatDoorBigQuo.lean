/-
  (*big.Int).QuoRem, given what the package's division of naturals leaves. (Printed by wip/tools/genquo.py.)
-/
import Derived.Test.YtpjkfdgkkpkljaaGreatDoorRatInt
import Derived.Test.YtpjkfdgkkpkljaaGreatDoorRegKit
import Derived.Deep.Light
namespace Go.Proofs.YtpjkfdgkkpkljaaGreatDoor.Big
open Go.RowKit Go.WideShapes Go.Proofs.YtpjkfdgkkpkljaaGreatDoor Go.Proofs.YtpjkfdgkkpkljaaGreatDoor.Own Go.Proofs.YtpjkfdgkkpkljaaGreatDoor.Num Go.Proofs.YtpjkfdgkkpkljaaGreatDoor.Ref Go.Proofs.YtpjkfdgkkpkljaaGreatDoor.Nat_
set_option linter.unusedVariables false

/-- what a division of naturals leaves: the quotient and the rest -/
def Parts (w : World) (Q R : Nat) (e : Ending) (w' : World) : Prop := (∃ a1 c1 a2 c2, e = .returned (.tuple #[.slice a1 (len W Q) c1, .slice a2 (len W R) c2]) ∧ IsNat w' w.heap.size (.slice a1 (len W Q) c1) Q ∧ IsNat w' w.heap.size (.slice a2 (len W R) c2) R) ∧ Below w.heap.size w w'
theorem Parts.of_halves {w : World} {X : Nat} {e : Ending} {w' : World} (h : Halves w X (.slice none 0 0) e w') : Parts w X 0 e w' := by
  obtain ⟨⟨u, rfl, hu⟩, hb⟩ := h
  obtain ⟨a, c, rfl, -, -⟩ := hu.slice
  exact ⟨⟨a, c, none, 0, rfl, hu, World.ownsRow_nil _ _ _ _⟩, hb⟩
theorem Parts.undrawn {w : World} {q Q R : Nat} {e : Ending} {w' : World} (h : Parts (w.drewN q) Q R e w') : Parts w Q R e w' := ⟨h.1, (Box.below_drawn (Below.refl _ _) q).trans h.2⟩

set_option maxHeartbeats 4000000 in
set_option maxRecDepth 100000 in
theorem quorem_of (g gr gx ox gy oy Q R : Nat) (neg yneg : Bool) (a0 : Option Addr) (n0 c0 : Nat) (ay : Option Addr) (ny cy : Nat) (w : World) (hg : Box.Holds w g 85 #[.bool false, .slice none 0 0]) (hr : Box.Holds w gr 85 #[.bool false, .slice none 0 0]) (hx : Two w gx ox (.bool neg) (.slice a0 n0 c0)) (hy : Two w gy oy (.bool yneg) (.slice ay ny cy))
    (hdv : Calls Tryz.prog 68 #[.slice none 0 0, .pointer none, .slice none 0 0, .slice a0 n0 c0, .slice ay ny cy] w.drew (Parts w Q R)) (hmQ : len W Q ≤ 10000) (hmR : len W R ≤ 10000) (hgr : g < gr) (hxg : gx < g) (hyg : gy < g) :
    Calls Tryz.prog 50 #[.pointer (some ⟨g, 0, none⟩), .pointer (some ⟨gx, ox, none⟩), .pointer (some ⟨gy, oy, none⟩), .pointer (some ⟨gr, 0, none⟩)] w fun e w' => e = .returned (.tuple #[.pointer (some ⟨g, 0, none⟩), .pointer (some ⟨gr, 0, none⟩)]) ∧ (∃ u, Box.Holds w' g 85 #[.bool (decide (0 < Q) && (neg != yneg)), u] ∧ IsNat w' w.heap.size u Q) ∧ (∃ u, Box.Holds w' gr 85 #[.bool (decide (0 < R) && neg), u] ∧ IsNat w' w.heap.size u R) ∧ Below g w w' := by
  have hgne : g ≠ gr := by omega
  have hpQ := len_pos W_two (v := Q)
  have hpR := len_pos W_two (v := R)
  unfold Parts at hdv
  obtain ⟨nq, hnq⟩ : ∃ n, len W Q = n := ⟨_, rfl⟩
  obtain ⟨nr, hnr⟩ : ∃ n, len W R = n := ⟨_, rfl⟩
  rw [hnq] at hdv hpQ hmQ
  rw [hnr] at hdv hpR hmR
  have hdw := Lib.hid hdv
  clear hdv
  obtain ⟨hltx, x0, x1, -, -⟩ := id hx
  obtain ⟨hlty, y0, y1, -, -⟩ := id hy
  have z0 := hg.cell 0
  have z1 := hg.cell 1
  have r0 := hr.cell 0
  have r1 := hr.cell 1
  simp at z0 z1 r0 r1
  have hlt := hg.lt
  have hltr := hr.lt
  have hkey : Hid (∀ w1, Below w.heap.size w w1 → Two w1 g 0 (.bool false) (.slice none 0 0) ∧ Two w1 gr 0 (.bool false) (.slice none 0 0) ∧ Two w1 gx ox (.bool neg) (.slice a0 n0 c0) ∧ Two w1 gy oy (.bool yneg) (.slice ay ny cy)) := Lib.hid fun w1 hb' => ⟨(Box.Holds.two hg 0 _ _ rfl rfl).later hb', (Box.Holds.two hr 0 _ _ rfl rfl).later hb', hx.later hb', hy.later hb'⟩
  have hend : Hid (∀ w1 a1 c1 a2 c2 b1 b2, Below w.heap.size w w1 → IsNat w1 w.heap.size (.slice a1 nq c1) Q → IsNat w1 w.heap.size (.slice a2 nr c2) R → ∃ wb, wb = (w1.setCell ⟨g, 1, none⟩ (.slice a1 nq c1)).setCell ⟨gr, 1, none⟩ (.slice a2 nr c2) ∧ Two wb g 0 (.bool false) (.slice a1 nq c1) ∧ Two wb gr 0 (.bool false) (.slice a2 nr c2) ∧ Two wb gx ox (.bool neg) (.slice a0 n0 c0) ∧ Two wb gy oy (.bool yneg) (.slice ay ny cy) ∧ (∃ u, Box.Holds ((wb.setCell ⟨g, 0, none⟩ (.bool b1)).setCell ⟨gr, 0, none⟩ (.bool b2)) g 85 #[.bool b1, u] ∧ IsNat ((wb.setCell ⟨g, 0, none⟩ (.bool b1)).setCell ⟨gr, 0, none⟩ (.bool b2)) w.heap.size u Q) ∧ (∃ u, Box.Holds ((wb.setCell ⟨g, 0, none⟩ (.bool b1)).setCell ⟨gr, 0, none⟩ (.bool b2)) gr 85 #[.bool b2, u] ∧ IsNat ((wb.setCell ⟨g, 0, none⟩ (.bool b1)).setCell ⟨gr, 0, none⟩ (.bool b2)) w.heap.size u R) ∧ Below g w ((wb.setCell ⟨g, 0, none⟩ (.bool b1)).setCell ⟨gr, 0, none⟩ (.bool b2))) := Lib.hid fun w1 a1 c1 a2 c2 b1 b2 hb hu hv => by
    have hg1 := ((hg.later hb).put 1 (.slice a1 nq c1)).apart (p := ⟨gr, 1, none⟩) hgne (.slice a2 nr c2)
    have hr1 := ((hr.later hb).apart (p := ⟨g, 1, none⟩) (Ne.symm hgne) (.slice a1 nq c1)).put 1 (.slice a2 nr c2)
    have ab : ∀ {B : Nat} {v : Value} {l : List Nat}, OwnW w1 w.heap.size v l → OwnW ((((w1.setCell ⟨g, 1, none⟩ (.slice a1 nq c1)).setCell ⟨gr, 1, none⟩ (.slice a2 nr c2)).setCell ⟨g, 0, none⟩ (.bool b1)).setCell ⟨gr, 0, none⟩ (.bool b2)) w.heap.size v l := fun {B v l} h => Box.own_above h (((((Box.Above.refl _ _).setCell (p := ⟨g, 1, none⟩) hlt _).setCell (p := ⟨gr, 1, none⟩) hltr _).setCell (p := ⟨g, 0, none⟩) hlt _).setCell (p := ⟨gr, 0, none⟩) hltr _)
    have hbg : Below g w w1 := hb.mono (Nat.le_of_lt hlt)
    have bl : Below g w ((((w1.setCell ⟨g, 1, none⟩ (.slice a1 nq c1)).setCell ⟨gr, 1, none⟩ (.slice a2 nr c2)).setCell ⟨g, 0, none⟩ (.bool b1)).setCell ⟨gr, 0, none⟩ (.bool b2)) := (((hbg.setCell (p := ⟨g, 1, none⟩) (Nat.le_refl _) _).setCell (p := ⟨gr, 1, none⟩) (by show g ≤ gr; omega) _).setCell (p := ⟨g, 0, none⟩) (Nat.le_refl _) _).setCell (p := ⟨gr, 0, none⟩) (by show g ≤ gr; omega) _
    have two_put : ∀ {b o : Nat} {x y : Value}, b < g → Two w1 b o x y → Two ((w1.setCell ⟨g, 1, none⟩ (.slice a1 nq c1)).setCell ⟨gr, 1, none⟩ (.slice a2 nr c2)) b o x y := fun {b o x y} hbg h => by
      have hb2 : Below g w1 ((w1.setCell ⟨g, 1, none⟩ (.slice a1 nq c1)).setCell ⟨gr, 1, none⟩ (.slice a2 nr c2)) := ((Below.refl _ _).setCell (p := ⟨g, 1, none⟩) (Nat.le_refl _) _).setCell (p := ⟨gr, 1, none⟩) (by show g ≤ gr; omega) _
      exact ⟨Nat.lt_of_lt_of_le h.lt hb2.size, (hb2.cell (p := ⟨b, o, none⟩) hbg).trans h.c0, (hb2.cell (p := ⟨b, o + 1, none⟩) hbg).trans h.c1, (frozen_below hb2 hbg).trans h.f0, (frozen_below hb2 hbg).trans h.f1⟩
    refine ⟨_, rfl, Box.Holds.two hg1 0 _ _ (by simp) (by simp), Box.Holds.two hr1 0 _ _ (by simp) (by simp), two_put hxg (hx.later hb), two_put hyg (hy.later hb), ⟨.slice a1 nq c1, ?_, ab (B := 0) hu⟩, ⟨.slice a2 nr c2, ?_, ab (B := 0) hv⟩, bl⟩
    · have := (hg1.put 0 (.bool b1)).apart (p := ⟨gr, 0, none⟩) hgne (.bool b2)
      simpa using this
    · have := (hr1.apart (p := ⟨g, 0, none⟩) (Ne.symm hgne) (.bool b1)).put 0 (.bool b2)
      simpa using this
  clear hnq hnr hg hr hx hy hxg hyg hgr
  go_enter Tryz.func50, Tryz.ntmps50
  go_wp2_with fail
  refine Reg.via_call (Θ := World × Option Addr × Nat × Option Addr × Nat) (fun θ => Below w.heap.size w θ.1 ∧ IsNat θ.1 w.heap.size (.slice θ.2.1 nq θ.2.2.1) Q ∧ IsNat θ.1 w.heap.size (.slice θ.2.2.2.1 nr θ.2.2.2.2) R) (fun θ => Reg.fill (Reg.dstOf [some 11, some 12, some 13, some 14, some 15, some 16, some 17, some 18, some 19, some 20, some 21, some 22, some 23, some 24, some 25, some 26, some 27, some 28, some 29, some 10, some 30, some 31, some 32, some 33, none, some 34, some 35, none]) (Reg.valOf [.pointer (some ⟨g, 0, none⟩), .pointer (some ⟨gr, 0, none⟩), .pointer (some ⟨g, 0, none⟩), .pointer (some ⟨g, 0, none⟩), .pointer (some ⟨g, 1, none⟩), .slice none 0 0, .pointer (some ⟨gr, 0, none⟩), .pointer (some ⟨gr, 0, none⟩), .pointer (some ⟨gr, 1, none⟩), .slice none 0 0, .pointer (some ⟨gx, ox, none⟩), .pointer (some ⟨gx, ox, none⟩), .pointer (some ⟨gx, ox + 1, none⟩), .slice a0 n0 c0, .pointer (some ⟨gy, oy, none⟩), .pointer (some ⟨gy, oy, none⟩), .pointer (some ⟨gy, oy + 1, none⟩), .slice ay ny cy, .tuple #[.slice θ.2.1 nq θ.2.2.1, .slice θ.2.2.2.1 nr θ.2.2.2.2], .tuple #[.slice θ.2.1 nq θ.2.2.1, .slice θ.2.2.2.1 nr θ.2.2.2.2], .slice θ.2.1 nq θ.2.2.1, .slice θ.2.2.2.1 nr θ.2.2.2.2, .pointer (some ⟨g, 0, none⟩), .pointer (some ⟨g, 1, none⟩), undef, .pointer (some ⟨gr, 0, none⟩), .pointer (some ⟨gr, 1, none⟩), undef]) 28) (fun θ => (θ.1.setCell ⟨g, 1, none⟩ (.slice θ.2.1 nq θ.2.2.1)).setCell ⟨gr, 1, none⟩ (.slice θ.2.2.2.1 nr θ.2.2.2.2)) (fun a0 => a0.tmps.size = 73 ∧ a0.eval (.tmp 0) = .pointer (some ⟨g, 0, none⟩) ∧ a0.eval (.tmp 1) = .pointer (some ⟨gx, ox, none⟩) ∧ a0.eval (.tmp 2) = .pointer (some ⟨gy, oy, none⟩) ∧ a0.eval (.tmp 3) = .pointer (some ⟨gr, 0, none⟩)) ⟨rfl, rfl, rfl, rfl, rfl⟩ ?h1 ?h2
  case h1 =>
    go_light
    clear hend hpQ hpR
    rintro af Q' ⟨z, e0, e1, e2, e3⟩ hQ
    have b0 : ∀ a' v f, Reg.Held af (Reg.dstOf [some 11, some 12, some 13, some 14, some 15, some 16, some 17, some 18, some 19, some 20, some 21, some 22, some 23, some 24, some 25, some 26, some 27, some 28, some 29, some 10, some 30, some 31, some 32, some 33, none, some 34, some 35, none]) v f a' → a'.eval (.tmp 0) = .pointer (some ⟨g, 0, none⟩) := fun a' v f hH => (hH.rest 0 fun k d _ hd => Reg.dstOf_ne _ 0 (by decide +kernel) hd).trans e0
    have b1 : ∀ a' v f, Reg.Held af (Reg.dstOf [some 11, some 12, some 13, some 14, some 15, some 16, some 17, some 18, some 19, some 20, some 21, some 22, some 23, some 24, some 25, some 26, some 27, some 28, some 29, some 10, some 30, some 31, some 32, some 33, none, some 34, some 35, none]) v f a' → a'.eval (.tmp 1) = .pointer (some ⟨gx, ox, none⟩) := fun a' v f hH => (hH.rest 1 fun k d _ hd => Reg.dstOf_ne _ 1 (by decide +kernel) hd).trans e1
    have b2 : ∀ a' v f, Reg.Held af (Reg.dstOf [some 11, some 12, some 13, some 14, some 15, some 16, some 17, some 18, some 19, some 20, some 21, some 22, some 23, some 24, some 25, some 26, some 27, some 28, some 29, some 10, some 30, some 31, some 32, some 33, none, some 34, some 35, none]) v f a' → a'.eval (.tmp 2) = .pointer (some ⟨gy, oy, none⟩) := fun a' v f hH => (hH.rest 2 fun k d _ hd => Reg.dstOf_ne _ 2 (by decide +kernel) hd).trans e2
    have b3 : ∀ a' v f, Reg.Held af (Reg.dstOf [some 11, some 12, some 13, some 14, some 15, some 16, some 17, some 18, some 19, some 20, some 21, some 22, some 23, some 24, some 25, some 26, some 27, some 28, some 29, some 10, some 30, some 31, some 32, some 33, none, some 34, some 35, none]) v f a' → a'.eval (.tmp 3) = .pointer (some ⟨gr, 0, none⟩) := fun a' v f hH => (hH.rest 3 fun k d _ hd => Reg.dstOf_ne _ 3 (by decide +kernel) hd).trans e3
    refine Reg.wp_region_call (Θ := World × Option Addr × Nat × Option Addr × Nat) (by kernel_rfl) (by decide +kernel) 28 rfl (fun θ => Below w.heap.size w θ.1 ∧ IsNat θ.1 w.heap.size (.slice θ.2.1 nq θ.2.2.1) Q ∧ IsNat θ.1 w.heap.size (.slice θ.2.2.2.1 nr θ.2.2.2.2) R) (Reg.dstOf [some 11, some 12, some 13, some 14, some 15, some 16, some 17, some 18, some 19, some 20, some 21, some 22, some 23, some 24, some 25, some 26, some 27, some 28, some 29, some 10, some 30, some 31, some 32, some 33, none, some 34, some 35, none]) 18 (Reg.valOf [.pointer (some ⟨g, 0, none⟩), .pointer (some ⟨gr, 0, none⟩), .pointer (some ⟨g, 0, none⟩), .pointer (some ⟨g, 0, none⟩), .pointer (some ⟨g, 1, none⟩), .slice none 0 0, .pointer (some ⟨gr, 0, none⟩), .pointer (some ⟨gr, 0, none⟩), .pointer (some ⟨gr, 1, none⟩), .slice none 0 0, .pointer (some ⟨gx, ox, none⟩), .pointer (some ⟨gx, ox, none⟩), .pointer (some ⟨gx, ox + 1, none⟩), .slice a0 n0 c0, .pointer (some ⟨gy, oy, none⟩), .pointer (some ⟨gy, oy, none⟩), .pointer (some ⟨gy, oy + 1, none⟩), .slice ay ny cy, undef, undef, undef, undef, undef, undef, undef, undef, undef, undef]) (fun θ => Reg.valOf [.pointer (some ⟨g, 0, none⟩), .pointer (some ⟨gr, 0, none⟩), .pointer (some ⟨g, 0, none⟩), .pointer (some ⟨g, 0, none⟩), .pointer (some ⟨g, 1, none⟩), .slice none 0 0, .pointer (some ⟨gr, 0, none⟩), .pointer (some ⟨gr, 0, none⟩), .pointer (some ⟨gr, 1, none⟩), .slice none 0 0, .pointer (some ⟨gx, ox, none⟩), .pointer (some ⟨gx, ox, none⟩), .pointer (some ⟨gx, ox + 1, none⟩), .slice a0 n0 c0, .pointer (some ⟨gy, oy, none⟩), .pointer (some ⟨gy, oy, none⟩), .pointer (some ⟨gy, oy + 1, none⟩), .slice ay ny cy, .tuple #[.slice θ.2.1 nq θ.2.2.1, .slice θ.2.2.2.1 nr θ.2.2.2.2], .tuple #[.slice θ.2.1 nq θ.2.2.1, .slice θ.2.2.2.1 nr θ.2.2.2.2], .slice θ.2.1 nq θ.2.2.1, .slice θ.2.2.2.1 nr θ.2.2.2.2, .pointer (some ⟨g, 0, none⟩), .pointer (some ⟨g, 1, none⟩), undef, .pointer (some ⟨gr, 0, none⟩), .pointer (some ⟨gr, 1, none⟩), undef]) (fun θ => Reg.wst2 24 27 (θ.1) (θ.1.setCell ⟨g, 1, none⟩ (.slice θ.2.1 nq θ.2.2.1)) ((θ.1.setCell ⟨g, 1, none⟩ (.slice θ.2.1 nq θ.2.2.1)).setCell ⟨gr, 1, none⟩ (.slice θ.2.2.2.1 nr θ.2.2.2.2))) ?hops (Reg.dstOf_inj _ (by decide +kernel)) (fun k d hd => by rw [z]; exact Reg.dstOf_lt _ 73 (by decide +kernel) hd) ?hpre ?hcall ?hpost (by decide) hQ
    case hops =>
      intro i o ho
      have hi : i < 28 := (Array.getElem?_eq_some_iff.1 ho).1
      have hcs : i = 0 ∨ i = 1 ∨ i = 2 ∨ i = 3 ∨ i = 4 ∨ i = 5 ∨ i = 6 ∨ i = 7 ∨ i = 8 ∨ i = 9 ∨ i = 10 ∨ i = 11 ∨ i = 12 ∨ i = 13 ∨ i = 14 ∨ i = 15 ∨ i = 16 ∨ i = 17 ∨ i = 18 ∨ i = 19 ∨ i = 20 ∨ i = 21 ∨ i = 22 ∨ i = 23 ∨ i = 24 ∨ i = 25 ∨ i = 26 ∨ i = 27 := by omega
      rcases hcs with rfl | rfl | rfl | rfl | rfl | rfl | rfl | rfl | rfl | rfl | rfl | rfl | rfl | rfl | rfl | rfl | rfl | rfl | rfl | rfl | rfl | rfl | rfl | rfl | rfl | rfl | rfl | rfl
      all_goals
        obtain rfl := Option.some.inj ho
        exact ⟨rfl, rfl⟩
    case hpre =>
      intro f a' i o hi hne ho hun hfc hcl hdep hH
      clear hQ
      have hcs : i = 0 ∨ i = 1 ∨ i = 2 ∨ i = 3 ∨ i = 4 ∨ i = 5 ∨ i = 6 ∨ i = 7 ∨ i = 8 ∨ i = 9 ∨ i = 10 ∨ i = 11 ∨ i = 12 ∨ i = 13 ∨ i = 14 ∨ i = 15 ∨ i = 16 ∨ i = 17 ∨ i = 18 ∨ i = 19 ∨ i = 20 ∨ i = 21 ∨ i = 22 ∨ i = 23 ∨ i = 24 ∨ i = 25 ∨ i = 26 ∨ i = 27 := by omega
      rcases hcs with rfl | rfl | rfl | rfl | rfl | rfl | rfl | rfl | rfl | rfl | rfl | rfl | rfl | rfl | rfl | rfl | rfl | rfl | rfl | rfl | rfl | rfl | rfl | rfl | rfl | rfl | rfl | rfl
      · obtain rfl := Option.some.inj ho
        have g0 := Reg.tmp_at (b0 a' _ f hH)
        show (execOp a'.eval _).run _ _ = .ok (.value (.pointer (some ⟨g, 0, none⟩))) _
        go_simp
      · obtain rfl := Option.some.inj ho
        have g0 := Reg.tmp_at (b3 a' _ f hH)
        show (execOp a'.eval _).run _ _ = .ok (.value (.pointer (some ⟨gr, 0, none⟩))) _
        go_simp
      · obtain rfl := Option.some.inj ho
        have g0 := Reg.tmp_at (b0 a' _ f hH)
        show (execOp a'.eval _).run _ _ = .ok (.value (.pointer (some ⟨g, 0, none⟩))) _
        go_simp
      · obtain rfl := Option.some.inj ho
        have g0 : a'.tmps[13]?.getD undef = .pointer (some ⟨g, 0, none⟩) := Reg.tmp_at (hH.got 2 13 (hdep { on := 2, ground := .data } (by simp) rfl) rfl)
        show (execOp a'.eval _).run _ _ = .ok (.value (.pointer (some ⟨g, 0, none⟩))) _
        go_simp
      · obtain rfl := Option.some.inj ho
        have g0 : a'.tmps[14]?.getD undef = .pointer (some ⟨g, 0, none⟩) := Reg.tmp_at (hH.got 3 14 (hdep { on := 3, ground := .data } (by simp) rfl) rfl)
        show (execOp a'.eval _).run _ _ = .ok (.value (.pointer (some ⟨g, 1, none⟩))) _
        go_simp
      · obtain rfl := Option.some.inj ho
        have g0 : a'.tmps[15]?.getD undef = .pointer (some ⟨g, 1, none⟩) := Reg.tmp_at (hH.got 4 15 (hdep { on := 4, ground := .data } (by simp) rfl) rfl)
        show (execOp a'.eval _).run _ _ = .ok (.value (.slice none 0 0)) _
        go_simp
      · obtain rfl := Option.some.inj ho
        have g0 := Reg.tmp_at (b3 a' _ f hH)
        show (execOp a'.eval _).run _ _ = .ok (.value (.pointer (some ⟨gr, 0, none⟩))) _
        go_simp
      · obtain rfl := Option.some.inj ho
        have g0 : a'.tmps[17]?.getD undef = .pointer (some ⟨gr, 0, none⟩) := Reg.tmp_at (hH.got 6 17 (hdep { on := 6, ground := .data } (by simp) rfl) rfl)
        show (execOp a'.eval _).run _ _ = .ok (.value (.pointer (some ⟨gr, 0, none⟩))) _
        go_simp
      · obtain rfl := Option.some.inj ho
        have g0 : a'.tmps[18]?.getD undef = .pointer (some ⟨gr, 0, none⟩) := Reg.tmp_at (hH.got 7 18 (hdep { on := 7, ground := .data } (by simp) rfl) rfl)
        show (execOp a'.eval _).run _ _ = .ok (.value (.pointer (some ⟨gr, 1, none⟩))) _
        go_simp
      · obtain rfl := Option.some.inj ho
        have g0 : a'.tmps[19]?.getD undef = .pointer (some ⟨gr, 1, none⟩) := Reg.tmp_at (hH.got 8 19 (hdep { on := 8, ground := .data } (by simp) rfl) rfl)
        show (execOp a'.eval _).run _ _ = .ok (.value (.slice none 0 0)) _
        go_simp
      · obtain rfl := Option.some.inj ho
        have g0 := Reg.tmp_at (b1 a' _ f hH)
        show (execOp a'.eval _).run _ _ = .ok (.value (.pointer (some ⟨gx, ox, none⟩))) _
        go_simp
      · obtain rfl := Option.some.inj ho
        have g0 : a'.tmps[21]?.getD undef = .pointer (some ⟨gx, ox, none⟩) := Reg.tmp_at (hH.got 10 21 (hdep { on := 10, ground := .data } (by simp) rfl) rfl)
        show (execOp a'.eval _).run _ _ = .ok (.value (.pointer (some ⟨gx, ox, none⟩))) _
        go_simp
      · obtain rfl := Option.some.inj ho
        have g0 : a'.tmps[22]?.getD undef = .pointer (some ⟨gx, ox, none⟩) := Reg.tmp_at (hH.got 11 22 (hdep { on := 11, ground := .data } (by simp) rfl) rfl)
        show (execOp a'.eval _).run _ _ = .ok (.value (.pointer (some ⟨gx, ox + 1, none⟩))) _
        go_simp
      · obtain rfl := Option.some.inj ho
        have g0 : a'.tmps[23]?.getD undef = .pointer (some ⟨gx, ox + 1, none⟩) := Reg.tmp_at (hH.got 12 23 (hdep { on := 12, ground := .data } (by simp) rfl) rfl)
        show (execOp a'.eval _).run _ _ = .ok (.value (.slice a0 n0 c0)) _
        go_simp
      · obtain rfl := Option.some.inj ho
        have g0 := Reg.tmp_at (b2 a' _ f hH)
        show (execOp a'.eval _).run _ _ = .ok (.value (.pointer (some ⟨gy, oy, none⟩))) _
        go_simp
      · obtain rfl := Option.some.inj ho
        have g0 : a'.tmps[25]?.getD undef = .pointer (some ⟨gy, oy, none⟩) := Reg.tmp_at (hH.got 14 25 (hdep { on := 14, ground := .data } (by simp) rfl) rfl)
        show (execOp a'.eval _).run _ _ = .ok (.value (.pointer (some ⟨gy, oy, none⟩))) _
        go_simp
      · obtain rfl := Option.some.inj ho
        have g0 : a'.tmps[26]?.getD undef = .pointer (some ⟨gy, oy, none⟩) := Reg.tmp_at (hH.got 15 26 (hdep { on := 15, ground := .data } (by simp) rfl) rfl)
        show (execOp a'.eval _).run _ _ = .ok (.value (.pointer (some ⟨gy, oy + 1, none⟩))) _
        go_simp
      · obtain rfl := Option.some.inj ho
        have g0 : a'.tmps[27]?.getD undef = .pointer (some ⟨gy, oy + 1, none⟩) := Reg.tmp_at (hH.got 16 27 (hdep { on := 16, ground := .data } (by simp) rfl) rfl)
        show (execOp a'.eval _).run _ _ = .ok (.value (.slice ay ny cy)) _
        go_simp
      · obtain rfl := Option.some.inj ho
        exact absurd rfl hne
      · obtain rfl := Option.some.inj ho
        have h := (hdep { on := 18, ground := .data } (by simp) rfl)
        rw [hfc] at h; cases h
      · obtain rfl := Option.some.inj ho
        have h := (hcl 19 _ rfl (hdep { on := 19, ground := .data } (by simp) rfl) { on := 18, ground := .data } (by simp) rfl)
        rw [hfc] at h; cases h
      · obtain rfl := Option.some.inj ho
        have h := (hcl 19 _ rfl (hdep { on := 19, ground := .data } (by simp) rfl) { on := 18, ground := .data } (by simp) rfl)
        rw [hfc] at h; cases h
      · obtain rfl := Option.some.inj ho
        have h := (hdep { on := 18, ground := .phase } (by simp) rfl)
        rw [hfc] at h; cases h
      · obtain rfl := Option.some.inj ho
        have h := (hdep { on := 18, ground := .phase } (by simp) rfl)
        rw [hfc] at h; cases h
      · obtain rfl := Option.some.inj ho
        have h := (hdep { on := 18, ground := .chain } (by simp) rfl)
        rw [hfc] at h; cases h
      · obtain rfl := Option.some.inj ho
        have h := (hdep { on := 18, ground := .phase } (by simp) rfl)
        rw [hfc] at h; cases h
      · obtain rfl := Option.some.inj ho
        have h := (hdep { on := 18, ground := .phase } (by simp) rfl)
        rw [hfc] at h; cases h
      · obtain rfl := Option.some.inj ho
        have h := (hdep { on := 18, ground := .phase } (by simp) rfl)
        rw [hfc] at h; cases h
    case hcall =>
      intro f a' o ho hfc hcl hdep hH
      obtain rfl := Option.some.inj ho
      have g0 : a'.tmps[16]?.getD undef = .slice none 0 0 := Reg.tmp_at (hH.got 5 16 (hdep { on := 5, ground := .data } (by simp) rfl) rfl)
      have g1 : a'.tmps[20]?.getD undef = .slice none 0 0 := Reg.tmp_at (hH.got 9 20 (hdep { on := 9, ground := .data } (by simp) rfl) rfl)
      have g2 : a'.tmps[24]?.getD undef = .slice a0 n0 c0 := Reg.tmp_at (hH.got 13 24 (hdep { on := 13, ground := .data } (by simp) rfl) rfl)
      have g3 : a'.tmps[28]?.getD undef = .slice ay ny cy := Reg.tmp_at (hH.got 17 28 (hdep { on := 17, ground := .data } (by simp) rfl) rfl)
      have n24 : f 24 = false := by
        cases h : f 24 with
        | false => rfl
        | true =>
          have h2 := (hcl 24 _ rfl h { on := 18, ground := .chain } (by simp) rfl)
          rw [hfc] at h2; cases h2
      have n27 : f 27 = false := by
        cases h : f 27 with
        | false => rfl
        | true =>
          have h2 := (hcl 27 _ rfl h { on := 18, ground := .phase } (by simp) rfl)
          rw [hfc] at h2; cases h2
      refine ⟨68, #[.slice none 0 0, .pointer none, .slice none 0 0, .slice a0 n0 c0, .slice ay ny cy], ?_, ?_⟩
      · go_simp
      · have hsame : ∀ θ : World × Option Addr × Nat × Option Addr × Nat, ∀ j, f j = true → Reg.valOf [.pointer (some ⟨g, 0, none⟩), .pointer (some ⟨gr, 0, none⟩), .pointer (some ⟨g, 0, none⟩), .pointer (some ⟨g, 0, none⟩), .pointer (some ⟨g, 1, none⟩), .slice none 0 0, .pointer (some ⟨gr, 0, none⟩), .pointer (some ⟨gr, 0, none⟩), .pointer (some ⟨gr, 1, none⟩), .slice none 0 0, .pointer (some ⟨gx, ox, none⟩), .pointer (some ⟨gx, ox, none⟩), .pointer (some ⟨gx, ox + 1, none⟩), .slice a0 n0 c0, .pointer (some ⟨gy, oy, none⟩), .pointer (some ⟨gy, oy, none⟩), .pointer (some ⟨gy, oy + 1, none⟩), .slice ay ny cy, undef, undef, undef, undef, undef, undef, undef, undef, undef, undef] j = Reg.valOf [.pointer (some ⟨g, 0, none⟩), .pointer (some ⟨gr, 0, none⟩), .pointer (some ⟨g, 0, none⟩), .pointer (some ⟨g, 0, none⟩), .pointer (some ⟨g, 1, none⟩), .slice none 0 0, .pointer (some ⟨gr, 0, none⟩), .pointer (some ⟨gr, 0, none⟩), .pointer (some ⟨gr, 1, none⟩), .slice none 0 0, .pointer (some ⟨gx, ox, none⟩), .pointer (some ⟨gx, ox, none⟩), .pointer (some ⟨gx, ox + 1, none⟩), .slice a0 n0 c0, .pointer (some ⟨gy, oy, none⟩), .pointer (some ⟨gy, oy, none⟩), .pointer (some ⟨gy, oy + 1, none⟩), .slice ay ny cy, .tuple #[.slice θ.2.1 nq θ.2.2.1, .slice θ.2.2.2.1 nr θ.2.2.2.2], .tuple #[.slice θ.2.1 nq θ.2.2.1, .slice θ.2.2.2.1 nr θ.2.2.2.2], .slice θ.2.1 nq θ.2.2.1, .slice θ.2.2.2.1 nr θ.2.2.2.2, .pointer (some ⟨g, 0, none⟩), .pointer (some ⟨g, 1, none⟩), undef, .pointer (some ⟨gr, 0, none⟩), .pointer (some ⟨gr, 1, none⟩), undef] j := by
          intro θ j hj
          by_cases hjn : j < 28
          · have hcs : j = 0 ∨ j = 1 ∨ j = 2 ∨ j = 3 ∨ j = 4 ∨ j = 5 ∨ j = 6 ∨ j = 7 ∨ j = 8 ∨ j = 9 ∨ j = 10 ∨ j = 11 ∨ j = 12 ∨ j = 13 ∨ j = 14 ∨ j = 15 ∨ j = 16 ∨ j = 17 ∨ j = 18 ∨ j = 19 ∨ j = 20 ∨ j = 21 ∨ j = 22 ∨ j = 23 ∨ j = 24 ∨ j = 25 ∨ j = 26 ∨ j = 27 := by omega
            rcases hcs with rfl | rfl | rfl | rfl | rfl | rfl | rfl | rfl | rfl | rfl | rfl | rfl | rfl | rfl | rfl | rfl | rfl | rfl | rfl | rfl | rfl | rfl | rfl | rfl | rfl | rfl | rfl | rfl
            · rfl
            · rfl
            · rfl
            · rfl
            · rfl
            · rfl
            · rfl
            · rfl
            · rfl
            · rfl
            · rfl
            · rfl
            · rfl
            · rfl
            · rfl
            · rfl
            · rfl
            · rfl
            · rw [hfc] at hj; cases hj
            · have h2 := (hcl 19 _ rfl hj { on := 18, ground := .data } (by simp) rfl)
              rw [hfc] at h2; cases h2
            · have h2 := (hcl 19 _ rfl (hcl 20 _ rfl hj { on := 19, ground := .data } (by simp) rfl) { on := 18, ground := .data } (by simp) rfl)
              rw [hfc] at h2; cases h2
            · have h2 := (hcl 19 _ rfl (hcl 21 _ rfl hj { on := 19, ground := .data } (by simp) rfl) { on := 18, ground := .data } (by simp) rfl)
              rw [hfc] at h2; cases h2
            · have h2 := (hcl 22 _ rfl hj { on := 18, ground := .phase } (by simp) rfl)
              rw [hfc] at h2; cases h2
            · have h2 := (hcl 23 _ rfl hj { on := 18, ground := .phase } (by simp) rfl)
              rw [hfc] at h2; cases h2
            · have h2 := (hcl 24 _ rfl hj { on := 18, ground := .chain } (by simp) rfl)
              rw [hfc] at h2; cases h2
            · have h2 := (hcl 25 _ rfl hj { on := 18, ground := .phase } (by simp) rfl)
              rw [hfc] at h2; cases h2
            · have h2 := (hcl 26 _ rfl hj { on := 18, ground := .phase } (by simp) rfl)
              rw [hfc] at h2; cases h2
            · have h2 := (hcl 27 _ rfl hj { on := 18, ground := .phase } (by simp) rfl)
              rw [hfc] at h2; cases h2
          · unfold Reg.valOf
            rw [List.getD_eq_getElem?_getD, List.getD_eq_getElem?_getD, List.getElem?_eq_none (by show 28 ≤ j; omega), List.getElem?_eq_none (by show 28 ≤ j; omega)]
        clear hQ
        refine hdw.out.mono ?_
        rintro e w2 ⟨⟨a1, c1, a2, c2, rfl, hu, hv⟩, hb⟩
        refine ⟨⟨w2, a1, c1, a2, c2⟩, ⟨hb, hu, hv⟩, rfl, hsame ⟨w2, a1, c1, a2, c2⟩, ?_⟩
        rw [Reg.wst2_none (by simp [n24]) (by simp [n27])]
    case hpost =>
      clear hQ
      rintro ⟨w1, a1, c1, a2, c2⟩ ⟨hb, hu, hv⟩
      obtain ⟨⟨zl, ze0, ze1, zf0, zf1⟩, ⟨rl, re0, re1, rf0, rf1⟩, -, -⟩ := hkey.out _ hb
      have zg : w1.frozen? ⟨g, 1, none⟩ = false := zf1
      have zc : w1.cell? ⟨g, 1, none⟩ = some (.slice none 0 0) := ze1
      have rg : (w1.setCell ⟨g, 1, none⟩ (.slice a1 nq c1)).frozen? ⟨gr, 1, none⟩ = false := by simpa using rf1
      have rc : (w1.setCell ⟨g, 1, none⟩ (.slice a1 nq c1)).cell? ⟨gr, 1, none⟩ = some (.slice none 0 0) := by rw [World.cell?_setCell_other _ _ _ _ (fun e => hgne (congrArg Addr.block e))]; exact re1
      clear ze0 ze1 zf0 zf1 re0 re1 rf0 rf1 zl rl hu hv hb
      intro f a' i o hi hne ho hun hfc hcl hdep hH
      have hcs : i = 0 ∨ i = 1 ∨ i = 2 ∨ i = 3 ∨ i = 4 ∨ i = 5 ∨ i = 6 ∨ i = 7 ∨ i = 8 ∨ i = 9 ∨ i = 10 ∨ i = 11 ∨ i = 12 ∨ i = 13 ∨ i = 14 ∨ i = 15 ∨ i = 16 ∨ i = 17 ∨ i = 18 ∨ i = 19 ∨ i = 20 ∨ i = 21 ∨ i = 22 ∨ i = 23 ∨ i = 24 ∨ i = 25 ∨ i = 26 ∨ i = 27 := by omega
      rcases hcs with rfl | rfl | rfl | rfl | rfl | rfl | rfl | rfl | rfl | rfl | rfl | rfl | rfl | rfl | rfl | rfl | rfl | rfl | rfl | rfl | rfl | rfl | rfl | rfl | rfl | rfl | rfl | rfl
      · obtain rfl := Option.some.inj ho
        have g0 := Reg.tmp_at (b0 a' _ f hH)
        refine ⟨.value (.pointer (some ⟨g, 0, none⟩)), ?_, .inl rfl⟩
        rw [Reg.wst2_no _ _ _ _ _ f 0 (by decide) (by decide)]
        generalize Reg.wst2 _ _ _ _ _ f = Wx
        go_simp
      · obtain rfl := Option.some.inj ho
        have g0 := Reg.tmp_at (b3 a' _ f hH)
        refine ⟨.value (.pointer (some ⟨gr, 0, none⟩)), ?_, .inl rfl⟩
        rw [Reg.wst2_no _ _ _ _ _ f 1 (by decide) (by decide)]
        generalize Reg.wst2 _ _ _ _ _ f = Wx
        go_simp
      · obtain rfl := Option.some.inj ho
        have h := (hcl 3 _ rfl (hcl 4 _ rfl (hcl 5 _ rfl (hcl 18 _ rfl hfc { on := 5, ground := .data } (by simp) rfl) { on := 4, ground := .data } (by simp) rfl) { on := 3, ground := .data } (by simp) rfl) { on := 2, ground := .data } (by simp) rfl)
        rw [hun] at h; cases h
      · obtain rfl := Option.some.inj ho
        have h := (hcl 4 _ rfl (hcl 5 _ rfl (hcl 18 _ rfl hfc { on := 5, ground := .data } (by simp) rfl) { on := 4, ground := .data } (by simp) rfl) { on := 3, ground := .data } (by simp) rfl)
        rw [hun] at h; cases h
      · obtain rfl := Option.some.inj ho
        have h := (hcl 5 _ rfl (hcl 18 _ rfl hfc { on := 5, ground := .data } (by simp) rfl) { on := 4, ground := .data } (by simp) rfl)
        rw [hun] at h; cases h
      · obtain rfl := Option.some.inj ho
        have h := (hcl 18 _ rfl hfc { on := 5, ground := .data } (by simp) rfl)
        rw [hun] at h; cases h
      · obtain rfl := Option.some.inj ho
        have h := (hcl 7 _ rfl (hcl 8 _ rfl (hcl 9 _ rfl (hcl 18 _ rfl hfc { on := 9, ground := .data } (by simp) rfl) { on := 8, ground := .data } (by simp) rfl) { on := 7, ground := .data } (by simp) rfl) { on := 6, ground := .data } (by simp) rfl)
        rw [hun] at h; cases h
      · obtain rfl := Option.some.inj ho
        have h := (hcl 8 _ rfl (hcl 9 _ rfl (hcl 18 _ rfl hfc { on := 9, ground := .data } (by simp) rfl) { on := 8, ground := .data } (by simp) rfl) { on := 7, ground := .data } (by simp) rfl)
        rw [hun] at h; cases h
      · obtain rfl := Option.some.inj ho
        have h := (hcl 9 _ rfl (hcl 18 _ rfl hfc { on := 9, ground := .data } (by simp) rfl) { on := 8, ground := .data } (by simp) rfl)
        rw [hun] at h; cases h
      · obtain rfl := Option.some.inj ho
        have h := (hcl 18 _ rfl hfc { on := 9, ground := .data } (by simp) rfl)
        rw [hun] at h; cases h
      · obtain rfl := Option.some.inj ho
        have h := (hcl 11 _ rfl (hcl 12 _ rfl (hcl 13 _ rfl (hcl 18 _ rfl hfc { on := 13, ground := .data } (by simp) rfl) { on := 12, ground := .data } (by simp) rfl) { on := 11, ground := .data } (by simp) rfl) { on := 10, ground := .data } (by simp) rfl)
        rw [hun] at h; cases h
      · obtain rfl := Option.some.inj ho
        have h := (hcl 12 _ rfl (hcl 13 _ rfl (hcl 18 _ rfl hfc { on := 13, ground := .data } (by simp) rfl) { on := 12, ground := .data } (by simp) rfl) { on := 11, ground := .data } (by simp) rfl)
        rw [hun] at h; cases h
      · obtain rfl := Option.some.inj ho
        have h := (hcl 13 _ rfl (hcl 18 _ rfl hfc { on := 13, ground := .data } (by simp) rfl) { on := 12, ground := .data } (by simp) rfl)
        rw [hun] at h; cases h
      · obtain rfl := Option.some.inj ho
        have h := (hcl 18 _ rfl hfc { on := 13, ground := .data } (by simp) rfl)
        rw [hun] at h; cases h
      · obtain rfl := Option.some.inj ho
        have h := (hcl 15 _ rfl (hcl 16 _ rfl (hcl 17 _ rfl (hcl 18 _ rfl hfc { on := 17, ground := .data } (by simp) rfl) { on := 16, ground := .data } (by simp) rfl) { on := 15, ground := .data } (by simp) rfl) { on := 14, ground := .data } (by simp) rfl)
        rw [hun] at h; cases h
      · obtain rfl := Option.some.inj ho
        have h := (hcl 16 _ rfl (hcl 17 _ rfl (hcl 18 _ rfl hfc { on := 17, ground := .data } (by simp) rfl) { on := 16, ground := .data } (by simp) rfl) { on := 15, ground := .data } (by simp) rfl)
        rw [hun] at h; cases h
      · obtain rfl := Option.some.inj ho
        have h := (hcl 17 _ rfl (hcl 18 _ rfl hfc { on := 17, ground := .data } (by simp) rfl) { on := 16, ground := .data } (by simp) rfl)
        rw [hun] at h; cases h
      · obtain rfl := Option.some.inj ho
        have h := (hcl 18 _ rfl hfc { on := 17, ground := .data } (by simp) rfl)
        rw [hun] at h; cases h
      · obtain rfl := Option.some.inj ho
        exact absurd rfl hne
      · obtain rfl := Option.some.inj ho
        have g0 : a'.tmps[29]?.getD undef = .tuple #[.slice a1 nq c1, .slice a2 nr c2] := Reg.tmp_at (hH.got 18 29 (hdep { on := 18, ground := .data } (by simp) rfl) rfl)
        refine ⟨.value (.tuple #[.slice a1 nq c1, .slice a2 nr c2]), ?_, .inl rfl⟩
        rw [Reg.wst2_no _ _ _ _ _ f 19 (by decide) (by decide)]
        generalize Reg.wst2 _ _ _ _ _ f = Wx
        go_simp
      · obtain rfl := Option.some.inj ho
        have g0 : a'.tmps[10]?.getD undef = .tuple #[.slice a1 nq c1, .slice a2 nr c2] := Reg.tmp_at (hH.got 19 10 (hdep { on := 19, ground := .data } (by simp) rfl) rfl)
        refine ⟨.value (.slice a1 nq c1), ?_, .inl rfl⟩
        rw [Reg.wst2_no _ _ _ _ _ f 20 (by decide) (by decide)]
        generalize Reg.wst2 _ _ _ _ _ f = Wx
        go_simp
      · obtain rfl := Option.some.inj ho
        have g0 : a'.tmps[10]?.getD undef = .tuple #[.slice a1 nq c1, .slice a2 nr c2] := Reg.tmp_at (hH.got 19 10 (hdep { on := 19, ground := .data } (by simp) rfl) rfl)
        refine ⟨.value (.slice a2 nr c2), ?_, .inl rfl⟩
        rw [Reg.wst2_no _ _ _ _ _ f 21 (by decide) (by decide)]
        generalize Reg.wst2 _ _ _ _ _ f = Wx
        go_simp
      · obtain rfl := Option.some.inj ho
        have g0 : a'.tmps[11]?.getD undef = .pointer (some ⟨g, 0, none⟩) := Reg.tmp_at (hH.got 0 11 (hdep { on := 0, ground := .data } (by simp) rfl) rfl)
        refine ⟨.value (.pointer (some ⟨g, 0, none⟩)), ?_, .inl rfl⟩
        rw [Reg.wst2_no _ _ _ _ _ f 22 (by decide) (by decide)]
        generalize Reg.wst2 _ _ _ _ _ f = Wx
        go_simp
      · obtain rfl := Option.some.inj ho
        have g0 : a'.tmps[32]?.getD undef = .pointer (some ⟨g, 0, none⟩) := Reg.tmp_at (hH.got 22 32 (hdep { on := 22, ground := .data } (by simp) rfl) rfl)
        refine ⟨.value (.pointer (some ⟨g, 1, none⟩)), ?_, .inl rfl⟩
        rw [Reg.wst2_no _ _ _ _ _ f 23 (by decide) (by decide)]
        generalize Reg.wst2 _ _ _ _ _ f = Wx
        go_simp
      · obtain rfl := Option.some.inj ho
        have g0 : a'.tmps[33]?.getD undef = .pointer (some ⟨g, 1, none⟩) := Reg.tmp_at (hH.got 23 33 (hdep { on := 23, ground := .data } (by simp) rfl) rfl)
        have g1 : a'.tmps[30]?.getD undef = .slice a1 nq c1 := Reg.tmp_at (hH.got 20 30 (hdep { on := 20, ground := .data } (by simp) rfl) rfl)
        have n27 : f 27 = false := by
          cases h : f 27 with
          | false => rfl
          | true =>
            have h2 := (hcl 27 _ rfl h { on := 24, ground := .chain } (by simp) rfl)
            rw [hun] at h2; cases h2
        refine ⟨.skip, ?_, .inr ⟨rfl, rfl⟩⟩
        rw [Reg.wst2_first n27 (by decide), Reg.wst2_none hun n27]
        go_simp
      · obtain rfl := Option.some.inj ho
        have g0 : a'.tmps[12]?.getD undef = .pointer (some ⟨gr, 0, none⟩) := Reg.tmp_at (hH.got 1 12 (hdep { on := 1, ground := .data } (by simp) rfl) rfl)
        refine ⟨.value (.pointer (some ⟨gr, 0, none⟩)), ?_, .inl rfl⟩
        rw [Reg.wst2_no _ _ _ _ _ f 25 (by decide) (by decide)]
        generalize Reg.wst2 _ _ _ _ _ f = Wx
        go_simp
      · obtain rfl := Option.some.inj ho
        have g0 : a'.tmps[34]?.getD undef = .pointer (some ⟨gr, 0, none⟩) := Reg.tmp_at (hH.got 25 34 (hdep { on := 25, ground := .data } (by simp) rfl) rfl)
        refine ⟨.value (.pointer (some ⟨gr, 1, none⟩)), ?_, .inl rfl⟩
        rw [Reg.wst2_no _ _ _ _ _ f 26 (by decide) (by decide)]
        generalize Reg.wst2 _ _ _ _ _ f = Wx
        go_simp
      · obtain rfl := Option.some.inj ho
        have g0 : a'.tmps[35]?.getD undef = .pointer (some ⟨gr, 1, none⟩) := Reg.tmp_at (hH.got 26 35 (hdep { on := 26, ground := .data } (by simp) rfl) rfl)
        have g1 : a'.tmps[31]?.getD undef = .slice a2 nr c2 := Reg.tmp_at (hH.got 21 31 (hdep { on := 21, ground := .data } (by simp) rfl) rfl)
        have d24 : f 24 = true := (hdep { on := 24, ground := .chain } (by simp) rfl)
        refine ⟨.skip, ?_, .inr ⟨rfl, rfl⟩⟩
        rw [Reg.wst2_second, Reg.wst2_one d24 hun]
        go_simp

  case h2 =>
    rintro ⟨w1, a1, c1, a2, c2⟩ ⟨hb, hu, hv⟩
    simp only at hb hu hv ⊢
    obtain ⟨wb, hwb, ⟨zl, ze0, ze1, zf0, zf1⟩, ⟨rl, re0, re1, rf0, rf1⟩, ⟨xl, xe0, xe1, -, -⟩, ⟨yl, ye0, ye1, -, -⟩, e1, e2, e3⟩ := hend.out w1 a1 c1 a2 c2 (decide (0 < Q) && (neg != yneg)) (decide (0 < R) && neg) hb hu hv
    have zf : wb.frozen? ⟨g, 0, none⟩ = false := zf0
    have hlt := zl
    have hltr := rl
    rw [← hwb]
    have hfin := Lib.hid (And.intro e1 (And.intro e2 e3))
    clear e1 e2 e3 hwb hu hv hb hend hkey hdw x0 x1 y0 y1 z0 z1 r0 r1 hltx hlty
    simp only [Reg.fill, Reg.dstOf, Reg.valOf, List.getD_cons_zero, List.getD_cons_succ, Act.put]
    simp [List.setIfInBounds_toArray, List.set_cons_succ, List.set_cons_zero]
    go_wp2_with fail
    by_cases hq0 : nq = 0
    · have hQ0 : decide (0 < Q) = false := by simp; omega
      subst hq0
      by_cases hr0 : nr = 0
      · have hR0 : decide (0 < R) = false := by simp; omega
        subst hr0
        have hf2 := hfin.out
        rw [hQ0, hR0] at hf2
        simp only [Bool.false_and] at hf2
        have hf3 := Lib.hid hf2
        clear hfin hf2
        refine Reg.via (Reg.fill (Reg.dstOf (some 36 :: some 37 :: some 38 :: some 39 :: some 40 :: some 41 :: some 42 :: some 43 :: some 44 :: some 45 :: some 46 :: some 47 :: some 48 :: some 49 :: some 50 :: some 51 :: some 52 :: some 53 :: some 54 :: some 55 :: some 56 :: some 57 :: some 58 :: some 59 :: some 60 :: some 61 :: some 62 :: some 63 :: some 64 :: some 65 :: some 66 :: some 67 :: some 68 :: none :: some 69 :: some 70 :: none :: [])) (Reg.valOf (.pointer (some ⟨g, 0, none⟩) :: .pointer (some ⟨gr, 0, none⟩) :: .pointer (some ⟨g, 0, none⟩) :: .pointer (some ⟨g, 0, none⟩) :: .pointer (some ⟨g, 1, none⟩) :: .slice a1 0 c1 :: .int .i64 0 :: .bool false :: .bool false :: undef :: undef :: undef :: undef :: undef :: undef :: undef :: undef :: undef :: .bool false :: .pointer (some ⟨gr, 0, none⟩) :: .pointer (some ⟨gr, 0, none⟩) :: .pointer (some ⟨gr, 1, none⟩) :: .slice a2 0 c2 :: .int .i64 0 :: .bool false :: .bool false :: undef :: undef :: undef :: undef :: .bool false :: .pointer (some ⟨g, 0, none⟩) :: .pointer (some ⟨g, 0, none⟩) :: undef :: .pointer (some ⟨gr, 0, none⟩) :: .pointer (some ⟨gr, 0, none⟩) :: undef :: [])) 37) (fun a0 => a0.tmps.size = 73 ∧ a0.eval (.tmp 0) = .pointer (some ⟨g, 0, none⟩) ∧ a0.eval (.tmp 1) = .pointer (some ⟨gx, ox, none⟩) ∧ a0.eval (.tmp 2) = .pointer (some ⟨gy, oy, none⟩) ∧ a0.eval (.tmp 3) = .pointer (some ⟨gr, 0, none⟩)) ⟨rfl, rfl, rfl, rfl, rfl⟩ (W2 := (wb.drew.setCell ⟨g, 0, none⟩ (.bool false)).setCell ⟨gr, 0, none⟩ (.bool false)) ?h1 ?h2
        case h1 =>
          go_light
          clear hf3
          rintro af Q' ⟨z, e0, e1, e2, e3⟩ hQ
          have b0 : ∀ a' v f, Reg.Held af (Reg.dstOf (some 36 :: some 37 :: some 38 :: some 39 :: some 40 :: some 41 :: some 42 :: some 43 :: some 44 :: some 45 :: some 46 :: some 47 :: some 48 :: some 49 :: some 50 :: some 51 :: some 52 :: some 53 :: some 54 :: some 55 :: some 56 :: some 57 :: some 58 :: some 59 :: some 60 :: some 61 :: some 62 :: some 63 :: some 64 :: some 65 :: some 66 :: some 67 :: some 68 :: none :: some 69 :: some 70 :: none :: [])) v f a' → a'.eval (.tmp 0) = .pointer (some ⟨g, 0, none⟩) := fun a' v f hH => (hH.rest 0 fun k d _ hd => Reg.dstOf_ne _ 0 (by decide +kernel) hd).trans e0
          have b1 : ∀ a' v f, Reg.Held af (Reg.dstOf (some 36 :: some 37 :: some 38 :: some 39 :: some 40 :: some 41 :: some 42 :: some 43 :: some 44 :: some 45 :: some 46 :: some 47 :: some 48 :: some 49 :: some 50 :: some 51 :: some 52 :: some 53 :: some 54 :: some 55 :: some 56 :: some 57 :: some 58 :: some 59 :: some 60 :: some 61 :: some 62 :: some 63 :: some 64 :: some 65 :: some 66 :: some 67 :: some 68 :: none :: some 69 :: some 70 :: none :: [])) v f a' → a'.eval (.tmp 1) = .pointer (some ⟨gx, ox, none⟩) := fun a' v f hH => (hH.rest 1 fun k d _ hd => Reg.dstOf_ne _ 1 (by decide +kernel) hd).trans e1
          have b2 : ∀ a' v f, Reg.Held af (Reg.dstOf (some 36 :: some 37 :: some 38 :: some 39 :: some 40 :: some 41 :: some 42 :: some 43 :: some 44 :: some 45 :: some 46 :: some 47 :: some 48 :: some 49 :: some 50 :: some 51 :: some 52 :: some 53 :: some 54 :: some 55 :: some 56 :: some 57 :: some 58 :: some 59 :: some 60 :: some 61 :: some 62 :: some 63 :: some 64 :: some 65 :: some 66 :: some 67 :: some 68 :: none :: some 69 :: some 70 :: none :: [])) v f a' → a'.eval (.tmp 2) = .pointer (some ⟨gy, oy, none⟩) := fun a' v f hH => (hH.rest 2 fun k d _ hd => Reg.dstOf_ne _ 2 (by decide +kernel) hd).trans e2
          have b3 : ∀ a' v f, Reg.Held af (Reg.dstOf (some 36 :: some 37 :: some 38 :: some 39 :: some 40 :: some 41 :: some 42 :: some 43 :: some 44 :: some 45 :: some 46 :: some 47 :: some 48 :: some 49 :: some 50 :: some 51 :: some 52 :: some 53 :: some 54 :: some 55 :: some 56 :: some 57 :: some 58 :: some 59 :: some 60 :: some 61 :: some 62 :: some 63 :: some 64 :: some 65 :: some 66 :: some 67 :: some 68 :: none :: some 69 :: some 70 :: none :: [])) v f a' → a'.eval (.tmp 3) = .pointer (some ⟨gr, 0, none⟩) := fun a' v f hH => (hH.rest 3 fun k d _ hd => Reg.dstOf_ne _ 3 (by decide +kernel) hd).trans e3
          have rz : (wb.drew.setCell ⟨g, 0, none⟩ (.bool false)).frozen? ⟨gr, 0, none⟩ = false := by simpa using rf0
          have rc : (wb.drew.setCell ⟨g, 0, none⟩ (.bool false)).cell? ⟨gr, 0, none⟩ = some (.bool false) := by rw [World.cell?_setCell_other _ _ _ _ (fun e => hgne (congrArg Addr.block e))]; exact re0
          refine Reg.wp_region_guard (by kernel_rfl) (by decide +kernel) 37 rfl (Reg.dstOf (some 36 :: some 37 :: some 38 :: some 39 :: some 40 :: some 41 :: some 42 :: some 43 :: some 44 :: some 45 :: some 46 :: some 47 :: some 48 :: some 49 :: some 50 :: some 51 :: some 52 :: some 53 :: some 54 :: some 55 :: some 56 :: some 57 :: some 58 :: some 59 :: some 60 :: some 61 :: some 62 :: some 63 :: some 64 :: some 65 :: some 66 :: some 67 :: some 68 :: none :: some 69 :: some 70 :: none :: [])) (Reg.valOf (.pointer (some ⟨g, 0, none⟩) :: .pointer (some ⟨gr, 0, none⟩) :: .pointer (some ⟨g, 0, none⟩) :: .pointer (some ⟨g, 0, none⟩) :: .pointer (some ⟨g, 1, none⟩) :: .slice a1 0 c1 :: .int .i64 0 :: .bool false :: .bool false :: undef :: undef :: undef :: undef :: undef :: undef :: undef :: undef :: undef :: .bool false :: .pointer (some ⟨gr, 0, none⟩) :: .pointer (some ⟨gr, 0, none⟩) :: .pointer (some ⟨gr, 1, none⟩) :: .slice a2 0 c2 :: .int .i64 0 :: .bool false :: .bool false :: undef :: undef :: undef :: undef :: .bool false :: .pointer (some ⟨g, 0, none⟩) :: .pointer (some ⟨g, 0, none⟩) :: undef :: .pointer (some ⟨gr, 0, none⟩) :: .pointer (some ⟨gr, 0, none⟩) :: undef :: [])) (Reg.wst2 33 36 (wb.drew) (wb.drew.setCell ⟨g, 0, none⟩ (.bool false)) ((wb.drew.setCell ⟨g, 0, none⟩ (.bool false)).setCell ⟨gr, 0, none⟩ (.bool false))) rfl ?hops (Reg.dstOf_inj _ (by decide +kernel)) (fun k d hd => by rw [z]; exact Reg.dstOf_lt _ 73 (by decide +kernel) hd) ?hguard ?hstep ?hskip ?hwe hQ
          case hops =>
            intro i o ho
            have hi : i < 37 := (Array.getElem?_eq_some_iff.1 ho).1
            have hcs : i = 0 ∨ i = 1 ∨ i = 2 ∨ i = 3 ∨ i = 4 ∨ i = 5 ∨ i = 6 ∨ i = 7 ∨ i = 8 ∨ i = 9 ∨ i = 10 ∨ i = 11 ∨ i = 12 ∨ i = 13 ∨ i = 14 ∨ i = 15 ∨ i = 16 ∨ i = 17 ∨ i = 18 ∨ i = 19 ∨ i = 20 ∨ i = 21 ∨ i = 22 ∨ i = 23 ∨ i = 24 ∨ i = 25 ∨ i = 26 ∨ i = 27 ∨ i = 28 ∨ i = 29 ∨ i = 30 ∨ i = 31 ∨ i = 32 ∨ i = 33 ∨ i = 34 ∨ i = 35 ∨ i = 36 := by omega
            rcases hcs with rfl | rfl | rfl | rfl | rfl | rfl | rfl | rfl | rfl | rfl | rfl | rfl | rfl | rfl | rfl | rfl | rfl | rfl | rfl | rfl | rfl | rfl | rfl | rfl | rfl | rfl | rfl | rfl | rfl | rfl | rfl | rfl | rfl | rfl | rfl | rfl | rfl
            all_goals
              obtain rfl := Option.some.inj ho
              rfl
          case hguard =>
            intro i o p want ho hg
            have hi : i < 37 := (Array.getElem?_eq_some_iff.1 ho).1
            have hcs : i = 0 ∨ i = 1 ∨ i = 2 ∨ i = 3 ∨ i = 4 ∨ i = 5 ∨ i = 6 ∨ i = 7 ∨ i = 8 ∨ i = 9 ∨ i = 10 ∨ i = 11 ∨ i = 12 ∨ i = 13 ∨ i = 14 ∨ i = 15 ∨ i = 16 ∨ i = 17 ∨ i = 18 ∨ i = 19 ∨ i = 20 ∨ i = 21 ∨ i = 22 ∨ i = 23 ∨ i = 24 ∨ i = 25 ∨ i = 26 ∨ i = 27 ∨ i = 28 ∨ i = 29 ∨ i = 30 ∨ i = 31 ∨ i = 32 ∨ i = 33 ∨ i = 34 ∨ i = 35 ∨ i = 36 := by omega
            rcases hcs with rfl | rfl | rfl | rfl | rfl | rfl | rfl | rfl | rfl | rfl | rfl | rfl | rfl | rfl | rfl | rfl | rfl | rfl | rfl | rfl | rfl | rfl | rfl | rfl | rfl | rfl | rfl | rfl | rfl | rfl | rfl | rfl | rfl | rfl | rfl | rfl | rfl
            · obtain rfl := Option.some.inj ho
              cases hg
            · obtain rfl := Option.some.inj ho
              cases hg
            · obtain rfl := Option.some.inj ho
              cases hg
            · obtain rfl := Option.some.inj ho
              cases hg
            · obtain rfl := Option.some.inj ho
              cases hg
            · obtain rfl := Option.some.inj ho
              cases hg
            · obtain rfl := Option.some.inj ho
              cases hg
            · obtain rfl := Option.some.inj ho
              cases hg
            · obtain rfl := Option.some.inj ho
              cases hg
            · obtain rfl := Option.some.inj ho
              obtain ⟨rfl, rfl⟩ := Prod.mk.inj (Option.some.inj hg)
              exact ⟨⟨_, rfl⟩, ⟨_, rfl⟩, { on := 8, ground := .guard }, by simp, rfl, rfl⟩
            · obtain rfl := Option.some.inj ho
              obtain ⟨rfl, rfl⟩ := Prod.mk.inj (Option.some.inj hg)
              exact ⟨⟨_, rfl⟩, ⟨_, rfl⟩, { on := 8, ground := .guard }, by simp, rfl, rfl⟩
            · obtain rfl := Option.some.inj ho
              obtain ⟨rfl, rfl⟩ := Prod.mk.inj (Option.some.inj hg)
              exact ⟨⟨_, rfl⟩, ⟨_, rfl⟩, { on := 8, ground := .guard }, by simp, rfl, rfl⟩
            · obtain rfl := Option.some.inj ho
              obtain ⟨rfl, rfl⟩ := Prod.mk.inj (Option.some.inj hg)
              exact ⟨⟨_, rfl⟩, ⟨_, rfl⟩, { on := 8, ground := .guard }, by simp, rfl, rfl⟩
            · obtain rfl := Option.some.inj ho
              obtain ⟨rfl, rfl⟩ := Prod.mk.inj (Option.some.inj hg)
              exact ⟨⟨_, rfl⟩, ⟨_, rfl⟩, { on := 8, ground := .guard }, by simp, rfl, rfl⟩
            · obtain rfl := Option.some.inj ho
              obtain ⟨rfl, rfl⟩ := Prod.mk.inj (Option.some.inj hg)
              exact ⟨⟨_, rfl⟩, ⟨_, rfl⟩, { on := 8, ground := .guard }, by simp, rfl, rfl⟩
            · obtain rfl := Option.some.inj ho
              obtain ⟨rfl, rfl⟩ := Prod.mk.inj (Option.some.inj hg)
              exact ⟨⟨_, rfl⟩, ⟨_, rfl⟩, { on := 8, ground := .guard }, by simp, rfl, rfl⟩
            · obtain rfl := Option.some.inj ho
              obtain ⟨rfl, rfl⟩ := Prod.mk.inj (Option.some.inj hg)
              exact ⟨⟨_, rfl⟩, ⟨_, rfl⟩, { on := 8, ground := .guard }, by simp, rfl, rfl⟩
            · obtain rfl := Option.some.inj ho
              obtain ⟨rfl, rfl⟩ := Prod.mk.inj (Option.some.inj hg)
              exact ⟨⟨_, rfl⟩, ⟨_, rfl⟩, { on := 8, ground := .guard }, by simp, rfl, rfl⟩
            · obtain rfl := Option.some.inj ho
              cases hg
            · obtain rfl := Option.some.inj ho
              cases hg
            · obtain rfl := Option.some.inj ho
              cases hg
            · obtain rfl := Option.some.inj ho
              cases hg
            · obtain rfl := Option.some.inj ho
              cases hg
            · obtain rfl := Option.some.inj ho
              cases hg
            · obtain rfl := Option.some.inj ho
              cases hg
            · obtain rfl := Option.some.inj ho
              cases hg
            · obtain rfl := Option.some.inj ho
              obtain ⟨rfl, rfl⟩ := Prod.mk.inj (Option.some.inj hg)
              exact ⟨⟨_, rfl⟩, ⟨_, rfl⟩, { on := 25, ground := .guard }, by simp, rfl, rfl⟩
            · obtain rfl := Option.some.inj ho
              obtain ⟨rfl, rfl⟩ := Prod.mk.inj (Option.some.inj hg)
              exact ⟨⟨_, rfl⟩, ⟨_, rfl⟩, { on := 25, ground := .guard }, by simp, rfl, rfl⟩
            · obtain rfl := Option.some.inj ho
              obtain ⟨rfl, rfl⟩ := Prod.mk.inj (Option.some.inj hg)
              exact ⟨⟨_, rfl⟩, ⟨_, rfl⟩, { on := 25, ground := .guard }, by simp, rfl, rfl⟩
            · obtain rfl := Option.some.inj ho
              obtain ⟨rfl, rfl⟩ := Prod.mk.inj (Option.some.inj hg)
              exact ⟨⟨_, rfl⟩, ⟨_, rfl⟩, { on := 25, ground := .guard }, by simp, rfl, rfl⟩
            · obtain rfl := Option.some.inj ho
              cases hg
            · obtain rfl := Option.some.inj ho
              cases hg
            · obtain rfl := Option.some.inj ho
              cases hg
            · obtain rfl := Option.some.inj ho
              cases hg
            · obtain rfl := Option.some.inj ho
              cases hg
            · obtain rfl := Option.some.inj ho
              cases hg
            · obtain rfl := Option.some.inj ho
              cases hg
          case hstep =>
            intro f a' i o hi ho hgt hun hcl hdep hH
            have hcs : i = 0 ∨ i = 1 ∨ i = 2 ∨ i = 3 ∨ i = 4 ∨ i = 5 ∨ i = 6 ∨ i = 7 ∨ i = 8 ∨ i = 9 ∨ i = 10 ∨ i = 11 ∨ i = 12 ∨ i = 13 ∨ i = 14 ∨ i = 15 ∨ i = 16 ∨ i = 17 ∨ i = 18 ∨ i = 19 ∨ i = 20 ∨ i = 21 ∨ i = 22 ∨ i = 23 ∨ i = 24 ∨ i = 25 ∨ i = 26 ∨ i = 27 ∨ i = 28 ∨ i = 29 ∨ i = 30 ∨ i = 31 ∨ i = 32 ∨ i = 33 ∨ i = 34 ∨ i = 35 ∨ i = 36 := by omega
            rcases hcs with rfl | rfl | rfl | rfl | rfl | rfl | rfl | rfl | rfl | rfl | rfl | rfl | rfl | rfl | rfl | rfl | rfl | rfl | rfl | rfl | rfl | rfl | rfl | rfl | rfl | rfl | rfl | rfl | rfl | rfl | rfl | rfl | rfl | rfl | rfl | rfl | rfl
            · obtain rfl := Option.some.inj ho
              have g0 := Reg.tmp_at (b0 a' _ f hH)
              refine ⟨.value (.pointer (some ⟨g, 0, none⟩)), ?_, .inl rfl⟩
              rw [Reg.wst2_no _ _ _ _ _ f 0 (by decide) (by decide)]
              generalize Reg.wst2 _ _ _ _ _ f = Wx
              go_simp
            · obtain rfl := Option.some.inj ho
              have g0 := Reg.tmp_at (b3 a' _ f hH)
              refine ⟨.value (.pointer (some ⟨gr, 0, none⟩)), ?_, .inl rfl⟩
              rw [Reg.wst2_no _ _ _ _ _ f 1 (by decide) (by decide)]
              generalize Reg.wst2 _ _ _ _ _ f = Wx
              go_simp
            · obtain rfl := Option.some.inj ho
              have g0 := Reg.tmp_at (b0 a' _ f hH)
              refine ⟨.value (.pointer (some ⟨g, 0, none⟩)), ?_, .inl rfl⟩
              rw [Reg.wst2_no _ _ _ _ _ f 2 (by decide) (by decide)]
              generalize Reg.wst2 _ _ _ _ _ f = Wx
              go_simp
            · obtain rfl := Option.some.inj ho
              have g0 : a'.tmps[38]?.getD undef = .pointer (some ⟨g, 0, none⟩) := Reg.tmp_at (hH.got 2 38 (hdep { on := 2, ground := .data } (by simp) rfl) rfl)
              refine ⟨.value (.pointer (some ⟨g, 0, none⟩)), ?_, .inl rfl⟩
              rw [Reg.wst2_no _ _ _ _ _ f 3 (by decide) (by decide)]
              generalize Reg.wst2 _ _ _ _ _ f = Wx
              go_simp
            · obtain rfl := Option.some.inj ho
              have g0 : a'.tmps[39]?.getD undef = .pointer (some ⟨g, 0, none⟩) := Reg.tmp_at (hH.got 3 39 (hdep { on := 3, ground := .data } (by simp) rfl) rfl)
              refine ⟨.value (.pointer (some ⟨g, 1, none⟩)), ?_, .inl rfl⟩
              rw [Reg.wst2_no _ _ _ _ _ f 4 (by decide) (by decide)]
              generalize Reg.wst2 _ _ _ _ _ f = Wx
              go_simp
            · obtain rfl := Option.some.inj ho
              have g0 : a'.tmps[40]?.getD undef = .pointer (some ⟨g, 1, none⟩) := Reg.tmp_at (hH.got 4 40 (hdep { on := 4, ground := .data } (by simp) rfl) rfl)
              have n33 : f 33 = false := by
                cases h : f 33 with
                | false => rfl
                | true =>
                  have h2 := (hcl 33 _ rfl h { on := 5, ground := .phase } (by simp) rfl)
                  rw [hun] at h2; cases h2
              have n36 : f 36 = false := by
                cases h : f 36 with
                | false => rfl
                | true =>
                  have h2 := (hcl 36 _ rfl h { on := 5, ground := .phase } (by simp) rfl)
                  rw [hun] at h2; cases h2
              refine ⟨.value (.slice a1 0 c1), ?_, .inl rfl⟩
              rw [Reg.wst2_no _ _ _ _ _ f 5 (by decide) (by decide), Reg.wst2_none n33 n36]
              go_simp
            · obtain rfl := Option.some.inj ho
              have g0 : a'.tmps[41]?.getD undef = .slice a1 0 c1 := Reg.tmp_at (hH.got 5 41 (hdep { on := 5, ground := .data } (by simp) rfl) rfl)
              refine ⟨.value (.int .i64 0), ?_, .inl rfl⟩
              rw [Reg.wst2_no _ _ _ _ _ f 6 (by decide) (by decide)]
              generalize Reg.wst2 _ _ _ _ _ f = Wx
              go_simp
            · obtain rfl := Option.some.inj ho
              have g0 : a'.tmps[42]?.getD undef = .int .i64 0 := Reg.tmp_at (hH.got 6 42 (hdep { on := 6, ground := .data } (by simp) rfl) rfl)
              refine ⟨.value (.bool false), ?_, .inl rfl⟩
              rw [Reg.wst2_no _ _ _ _ _ f 7 (by decide) (by decide)]
              generalize Reg.wst2 _ _ _ _ _ f = Wx
              go_simp
            · obtain rfl := Option.some.inj ho
              have g0 : a'.tmps[43]?.getD undef = .bool false := Reg.tmp_at (hH.got 7 43 (hdep { on := 7, ground := .data } (by simp) rfl) rfl)
              refine ⟨.value (.bool false), ?_, .inl rfl⟩
              rw [Reg.wst2_no _ _ _ _ _ f 8 (by decide) (by decide)]
              generalize Reg.wst2 _ _ _ _ _ f = Wx
              go_simp
            · obtain rfl := Option.some.inj ho
              cases hgt
            · obtain rfl := Option.some.inj ho
              cases hgt
            · obtain rfl := Option.some.inj ho
              cases hgt
            · obtain rfl := Option.some.inj ho
              cases hgt
            · obtain rfl := Option.some.inj ho
              cases hgt
            · obtain rfl := Option.some.inj ho
              cases hgt
            · obtain rfl := Option.some.inj ho
              cases hgt
            · obtain rfl := Option.some.inj ho
              cases hgt
            · obtain rfl := Option.some.inj ho
              cases hgt
            · obtain rfl := Option.some.inj ho
              have g0 : a'.tmps[44]?.getD undef = .bool false := Reg.tmp_at (hH.got 8 44 (hdep { on := 8, ground := .data } (by simp) rfl) rfl)
              have g1 : a'.tmps[53]?.getD undef = undef := Reg.tmp_at (hH.got 17 53 (hdep { on := 17, ground := .data } (by simp) rfl) rfl)
              refine ⟨.value (.bool false), ?_, .inl rfl⟩
              rw [Reg.wst2_no _ _ _ _ _ f 18 (by decide) (by decide)]
              generalize Reg.wst2 _ _ _ _ _ f = Wx
              go_simp
            · obtain rfl := Option.some.inj ho
              have g0 := Reg.tmp_at (b3 a' _ f hH)
              refine ⟨.value (.pointer (some ⟨gr, 0, none⟩)), ?_, .inl rfl⟩
              rw [Reg.wst2_no _ _ _ _ _ f 19 (by decide) (by decide)]
              generalize Reg.wst2 _ _ _ _ _ f = Wx
              go_simp
            · obtain rfl := Option.some.inj ho
              have g0 : a'.tmps[55]?.getD undef = .pointer (some ⟨gr, 0, none⟩) := Reg.tmp_at (hH.got 19 55 (hdep { on := 19, ground := .data } (by simp) rfl) rfl)
              refine ⟨.value (.pointer (some ⟨gr, 0, none⟩)), ?_, .inl rfl⟩
              rw [Reg.wst2_no _ _ _ _ _ f 20 (by decide) (by decide)]
              generalize Reg.wst2 _ _ _ _ _ f = Wx
              go_simp
            · obtain rfl := Option.some.inj ho
              have g0 : a'.tmps[56]?.getD undef = .pointer (some ⟨gr, 0, none⟩) := Reg.tmp_at (hH.got 20 56 (hdep { on := 20, ground := .data } (by simp) rfl) rfl)
              refine ⟨.value (.pointer (some ⟨gr, 1, none⟩)), ?_, .inl rfl⟩
              rw [Reg.wst2_no _ _ _ _ _ f 21 (by decide) (by decide)]
              generalize Reg.wst2 _ _ _ _ _ f = Wx
              go_simp
            · obtain rfl := Option.some.inj ho
              have g0 : a'.tmps[57]?.getD undef = .pointer (some ⟨gr, 1, none⟩) := Reg.tmp_at (hH.got 21 57 (hdep { on := 21, ground := .data } (by simp) rfl) rfl)
              have n33 : f 33 = false := by
                cases h : f 33 with
                | false => rfl
                | true =>
                  have h2 := (hcl 33 _ rfl h { on := 22, ground := .phase } (by simp) rfl)
                  rw [hun] at h2; cases h2
              have n36 : f 36 = false := by
                cases h : f 36 with
                | false => rfl
                | true =>
                  have h2 := (hcl 36 _ rfl h { on := 22, ground := .phase } (by simp) rfl)
                  rw [hun] at h2; cases h2
              refine ⟨.value (.slice a2 0 c2), ?_, .inl rfl⟩
              rw [Reg.wst2_no _ _ _ _ _ f 22 (by decide) (by decide), Reg.wst2_none n33 n36]
              go_simp
            · obtain rfl := Option.some.inj ho
              have g0 : a'.tmps[58]?.getD undef = .slice a2 0 c2 := Reg.tmp_at (hH.got 22 58 (hdep { on := 22, ground := .data } (by simp) rfl) rfl)
              refine ⟨.value (.int .i64 0), ?_, .inl rfl⟩
              rw [Reg.wst2_no _ _ _ _ _ f 23 (by decide) (by decide)]
              generalize Reg.wst2 _ _ _ _ _ f = Wx
              go_simp
            · obtain rfl := Option.some.inj ho
              have g0 : a'.tmps[59]?.getD undef = .int .i64 0 := Reg.tmp_at (hH.got 23 59 (hdep { on := 23, ground := .data } (by simp) rfl) rfl)
              refine ⟨.value (.bool false), ?_, .inl rfl⟩
              rw [Reg.wst2_no _ _ _ _ _ f 24 (by decide) (by decide)]
              generalize Reg.wst2 _ _ _ _ _ f = Wx
              go_simp
            · obtain rfl := Option.some.inj ho
              have g0 : a'.tmps[60]?.getD undef = .bool false := Reg.tmp_at (hH.got 24 60 (hdep { on := 24, ground := .data } (by simp) rfl) rfl)
              refine ⟨.value (.bool false), ?_, .inl rfl⟩
              rw [Reg.wst2_no _ _ _ _ _ f 25 (by decide) (by decide)]
              generalize Reg.wst2 _ _ _ _ _ f = Wx
              go_simp
            · obtain rfl := Option.some.inj ho
              cases hgt
            · obtain rfl := Option.some.inj ho
              cases hgt
            · obtain rfl := Option.some.inj ho
              cases hgt
            · obtain rfl := Option.some.inj ho
              cases hgt
            · obtain rfl := Option.some.inj ho
              have g0 : a'.tmps[61]?.getD undef = .bool false := Reg.tmp_at (hH.got 25 61 (hdep { on := 25, ground := .data } (by simp) rfl) rfl)
              have g1 : a'.tmps[65]?.getD undef = undef := Reg.tmp_at (hH.got 29 65 (hdep { on := 29, ground := .data } (by simp) rfl) rfl)
              refine ⟨.value (.bool false), ?_, .inl rfl⟩
              rw [Reg.wst2_no _ _ _ _ _ f 30 (by decide) (by decide)]
              generalize Reg.wst2 _ _ _ _ _ f = Wx
              go_simp
            · obtain rfl := Option.some.inj ho
              have g0 : a'.tmps[36]?.getD undef = .pointer (some ⟨g, 0, none⟩) := Reg.tmp_at (hH.got 0 36 (hdep { on := 0, ground := .data } (by simp) rfl) rfl)
              refine ⟨.value (.pointer (some ⟨g, 0, none⟩)), ?_, .inl rfl⟩
              rw [Reg.wst2_no _ _ _ _ _ f 31 (by decide) (by decide)]
              generalize Reg.wst2 _ _ _ _ _ f = Wx
              go_simp
            · obtain rfl := Option.some.inj ho
              have g0 : a'.tmps[67]?.getD undef = .pointer (some ⟨g, 0, none⟩) := Reg.tmp_at (hH.got 31 67 (hdep { on := 31, ground := .data } (by simp) rfl) rfl)
              refine ⟨.value (.pointer (some ⟨g, 0, none⟩)), ?_, .inl rfl⟩
              rw [Reg.wst2_no _ _ _ _ _ f 32 (by decide) (by decide)]
              generalize Reg.wst2 _ _ _ _ _ f = Wx
              go_simp
            · obtain rfl := Option.some.inj ho
              have g0 : a'.tmps[68]?.getD undef = .pointer (some ⟨g, 0, none⟩) := Reg.tmp_at (hH.got 32 68 (hdep { on := 32, ground := .data } (by simp) rfl) rfl)
              have g1 : a'.tmps[54]?.getD undef = .bool false := Reg.tmp_at (hH.got 18 54 (hdep { on := 18, ground := .data } (by simp) rfl) rfl)
              have n36 : f 36 = false := by
                cases h : f 36 with
                | false => rfl
                | true =>
                  have h2 := (hcl 36 _ rfl h { on := 33, ground := .chain } (by simp) rfl)
                  rw [hun] at h2; cases h2
              refine ⟨.skip, ?_, .inr ⟨rfl, rfl⟩⟩
              rw [Reg.wst2_first n36 (by decide), Reg.wst2_none hun n36]
              go_simp
            · obtain rfl := Option.some.inj ho
              have g0 : a'.tmps[37]?.getD undef = .pointer (some ⟨gr, 0, none⟩) := Reg.tmp_at (hH.got 1 37 (hdep { on := 1, ground := .data } (by simp) rfl) rfl)
              refine ⟨.value (.pointer (some ⟨gr, 0, none⟩)), ?_, .inl rfl⟩
              rw [Reg.wst2_no _ _ _ _ _ f 34 (by decide) (by decide)]
              generalize Reg.wst2 _ _ _ _ _ f = Wx
              go_simp
            · obtain rfl := Option.some.inj ho
              have g0 : a'.tmps[69]?.getD undef = .pointer (some ⟨gr, 0, none⟩) := Reg.tmp_at (hH.got 34 69 (hdep { on := 34, ground := .data } (by simp) rfl) rfl)
              refine ⟨.value (.pointer (some ⟨gr, 0, none⟩)), ?_, .inl rfl⟩
              rw [Reg.wst2_no _ _ _ _ _ f 35 (by decide) (by decide)]
              generalize Reg.wst2 _ _ _ _ _ f = Wx
              go_simp
            · obtain rfl := Option.some.inj ho
              have g0 : a'.tmps[70]?.getD undef = .pointer (some ⟨gr, 0, none⟩) := Reg.tmp_at (hH.got 35 70 (hdep { on := 35, ground := .data } (by simp) rfl) rfl)
              have g1 : a'.tmps[66]?.getD undef = .bool false := Reg.tmp_at (hH.got 30 66 (hdep { on := 30, ground := .data } (by simp) rfl) rfl)
              have d33 : f 33 = true := (hdep { on := 33, ground := .chain } (by simp) rfl)
              refine ⟨.skip, ?_, .inr ⟨rfl, rfl⟩⟩
              rw [Reg.wst2_second, Reg.wst2_one d33 hun]
              go_simp
          case hskip =>
            intro i o ho hgt
            have hi : i < 37 := (Array.getElem?_eq_some_iff.1 ho).1
            have hcs : i = 0 ∨ i = 1 ∨ i = 2 ∨ i = 3 ∨ i = 4 ∨ i = 5 ∨ i = 6 ∨ i = 7 ∨ i = 8 ∨ i = 9 ∨ i = 10 ∨ i = 11 ∨ i = 12 ∨ i = 13 ∨ i = 14 ∨ i = 15 ∨ i = 16 ∨ i = 17 ∨ i = 18 ∨ i = 19 ∨ i = 20 ∨ i = 21 ∨ i = 22 ∨ i = 23 ∨ i = 24 ∨ i = 25 ∨ i = 26 ∨ i = 27 ∨ i = 28 ∨ i = 29 ∨ i = 30 ∨ i = 31 ∨ i = 32 ∨ i = 33 ∨ i = 34 ∨ i = 35 ∨ i = 36 := by omega
            rcases hcs with rfl | rfl | rfl | rfl | rfl | rfl | rfl | rfl | rfl | rfl | rfl | rfl | rfl | rfl | rfl | rfl | rfl | rfl | rfl | rfl | rfl | rfl | rfl | rfl | rfl | rfl | rfl | rfl | rfl | rfl | rfl | rfl | rfl | rfl | rfl | rfl | rfl
            · obtain rfl := Option.some.inj ho
              exact absurd rfl hgt
            · obtain rfl := Option.some.inj ho
              exact absurd rfl hgt
            · obtain rfl := Option.some.inj ho
              exact absurd rfl hgt
            · obtain rfl := Option.some.inj ho
              exact absurd rfl hgt
            · obtain rfl := Option.some.inj ho
              exact absurd rfl hgt
            · obtain rfl := Option.some.inj ho
              exact absurd rfl hgt
            · obtain rfl := Option.some.inj ho
              exact absurd rfl hgt
            · obtain rfl := Option.some.inj ho
              exact absurd rfl hgt
            · obtain rfl := Option.some.inj ho
              exact absurd rfl hgt
            · obtain rfl := Option.some.inj ho
              exact ⟨rfl, rfl, fun f => Reg.wst2_no _ _ _ _ _ f 9 (by decide) (by decide)⟩
            · obtain rfl := Option.some.inj ho
              exact ⟨rfl, rfl, fun f => Reg.wst2_no _ _ _ _ _ f 10 (by decide) (by decide)⟩
            · obtain rfl := Option.some.inj ho
              exact ⟨rfl, rfl, fun f => Reg.wst2_no _ _ _ _ _ f 11 (by decide) (by decide)⟩
            · obtain rfl := Option.some.inj ho
              exact ⟨rfl, rfl, fun f => Reg.wst2_no _ _ _ _ _ f 12 (by decide) (by decide)⟩
            · obtain rfl := Option.some.inj ho
              exact ⟨rfl, rfl, fun f => Reg.wst2_no _ _ _ _ _ f 13 (by decide) (by decide)⟩
            · obtain rfl := Option.some.inj ho
              exact ⟨rfl, rfl, fun f => Reg.wst2_no _ _ _ _ _ f 14 (by decide) (by decide)⟩
            · obtain rfl := Option.some.inj ho
              exact ⟨rfl, rfl, fun f => Reg.wst2_no _ _ _ _ _ f 15 (by decide) (by decide)⟩
            · obtain rfl := Option.some.inj ho
              exact ⟨rfl, rfl, fun f => Reg.wst2_no _ _ _ _ _ f 16 (by decide) (by decide)⟩
            · obtain rfl := Option.some.inj ho
              exact ⟨rfl, rfl, fun f => Reg.wst2_no _ _ _ _ _ f 17 (by decide) (by decide)⟩
            · obtain rfl := Option.some.inj ho
              exact absurd rfl hgt
            · obtain rfl := Option.some.inj ho
              exact absurd rfl hgt
            · obtain rfl := Option.some.inj ho
              exact absurd rfl hgt
            · obtain rfl := Option.some.inj ho
              exact absurd rfl hgt
            · obtain rfl := Option.some.inj ho
              exact absurd rfl hgt
            · obtain rfl := Option.some.inj ho
              exact absurd rfl hgt
            · obtain rfl := Option.some.inj ho
              exact absurd rfl hgt
            · obtain rfl := Option.some.inj ho
              exact absurd rfl hgt
            · obtain rfl := Option.some.inj ho
              exact ⟨rfl, rfl, fun f => Reg.wst2_no _ _ _ _ _ f 26 (by decide) (by decide)⟩
            · obtain rfl := Option.some.inj ho
              exact ⟨rfl, rfl, fun f => Reg.wst2_no _ _ _ _ _ f 27 (by decide) (by decide)⟩
            · obtain rfl := Option.some.inj ho
              exact ⟨rfl, rfl, fun f => Reg.wst2_no _ _ _ _ _ f 28 (by decide) (by decide)⟩
            · obtain rfl := Option.some.inj ho
              exact ⟨rfl, rfl, fun f => Reg.wst2_no _ _ _ _ _ f 29 (by decide) (by decide)⟩
            · obtain rfl := Option.some.inj ho
              exact absurd rfl hgt
            · obtain rfl := Option.some.inj ho
              exact absurd rfl hgt
            · obtain rfl := Option.some.inj ho
              exact absurd rfl hgt
            · obtain rfl := Option.some.inj ho
              exact absurd rfl hgt
            · obtain rfl := Option.some.inj ho
              exact absurd rfl hgt
            · obtain rfl := Option.some.inj ho
              exact absurd rfl hgt
            · obtain rfl := Option.some.inj ho
              exact absurd rfl hgt
          case hwe => rfl
        case h2 =>
          simp only [Reg.fill, Reg.dstOf, Reg.valOf, List.getD_cons_zero, List.getD_cons_succ, Act.put]
          simp [List.setIfInBounds_toArray, List.set_cons_succ, List.set_cons_zero]
          go_wp2
          go_ret2
          rw [hQ0, hR0]
          simp only [Bool.false_and]
          exact ⟨rfl, hf3.out.1, hf3.out.2.1, Box.below_drawn hf3.out.2.2 1⟩
      · have hR0 : decide (0 < R) = true := by simp; omega
        have br : decide ((0 : Int) < (nr : Int)) = true := by simp; omega
        have br' : decide (0 < nr) = true := by simp; omega
        have hf2 := hfin.out
        rw [hQ0, hR0] at hf2
        simp only [Bool.false_and, Bool.true_and] at hf2
        have hf3 := Lib.hid hf2
        clear hfin hf2
        refine Reg.via (Reg.fill (Reg.dstOf (some 36 :: some 37 :: some 38 :: some 39 :: some 40 :: some 41 :: some 42 :: some 43 :: some 44 :: some 45 :: some 46 :: some 47 :: some 48 :: some 49 :: some 50 :: some 51 :: some 52 :: some 53 :: some 54 :: some 55 :: some 56 :: some 57 :: some 58 :: some 59 :: some 60 :: some 61 :: some 62 :: some 63 :: some 64 :: some 65 :: some 66 :: some 67 :: some 68 :: none :: some 69 :: some 70 :: none :: [])) (Reg.valOf (.pointer (some ⟨g, 0, none⟩) :: .pointer (some ⟨gr, 0, none⟩) :: .pointer (some ⟨g, 0, none⟩) :: .pointer (some ⟨g, 0, none⟩) :: .pointer (some ⟨g, 1, none⟩) :: .slice a1 0 c1 :: .int .i64 0 :: .bool false :: .bool false :: undef :: undef :: undef :: undef :: undef :: undef :: undef :: undef :: undef :: .bool false :: .pointer (some ⟨gr, 0, none⟩) :: .pointer (some ⟨gr, 0, none⟩) :: .pointer (some ⟨gr, 1, none⟩) :: .slice a2 nr c2 :: .int .i64 (nr : Int) :: .bool true :: .bool true :: .pointer (some ⟨gx, ox, none⟩) :: .pointer (some ⟨gx, ox, none⟩) :: .pointer (some ⟨gx, ox, none⟩) :: .bool neg :: .bool neg :: .pointer (some ⟨g, 0, none⟩) :: .pointer (some ⟨g, 0, none⟩) :: undef :: .pointer (some ⟨gr, 0, none⟩) :: .pointer (some ⟨gr, 0, none⟩) :: undef :: [])) 37) (fun a0 => a0.tmps.size = 73 ∧ a0.eval (.tmp 0) = .pointer (some ⟨g, 0, none⟩) ∧ a0.eval (.tmp 1) = .pointer (some ⟨gx, ox, none⟩) ∧ a0.eval (.tmp 2) = .pointer (some ⟨gy, oy, none⟩) ∧ a0.eval (.tmp 3) = .pointer (some ⟨gr, 0, none⟩)) ⟨rfl, rfl, rfl, rfl, rfl⟩ (W2 := (wb.drew.setCell ⟨g, 0, none⟩ (.bool false)).setCell ⟨gr, 0, none⟩ (.bool neg)) ?h1 ?h2
        case h1 =>
          go_light
          clear hf3
          rintro af Q' ⟨z, e0, e1, e2, e3⟩ hQ
          have b0 : ∀ a' v f, Reg.Held af (Reg.dstOf (some 36 :: some 37 :: some 38 :: some 39 :: some 40 :: some 41 :: some 42 :: some 43 :: some 44 :: some 45 :: some 46 :: some 47 :: some 48 :: some 49 :: some 50 :: some 51 :: some 52 :: some 53 :: some 54 :: some 55 :: some 56 :: some 57 :: some 58 :: some 59 :: some 60 :: some 61 :: some 62 :: some 63 :: some 64 :: some 65 :: some 66 :: some 67 :: some 68 :: none :: some 69 :: some 70 :: none :: [])) v f a' → a'.eval (.tmp 0) = .pointer (some ⟨g, 0, none⟩) := fun a' v f hH => (hH.rest 0 fun k d _ hd => Reg.dstOf_ne _ 0 (by decide +kernel) hd).trans e0
          have b1 : ∀ a' v f, Reg.Held af (Reg.dstOf (some 36 :: some 37 :: some 38 :: some 39 :: some 40 :: some 41 :: some 42 :: some 43 :: some 44 :: some 45 :: some 46 :: some 47 :: some 48 :: some 49 :: some 50 :: some 51 :: some 52 :: some 53 :: some 54 :: some 55 :: some 56 :: some 57 :: some 58 :: some 59 :: some 60 :: some 61 :: some 62 :: some 63 :: some 64 :: some 65 :: some 66 :: some 67 :: some 68 :: none :: some 69 :: some 70 :: none :: [])) v f a' → a'.eval (.tmp 1) = .pointer (some ⟨gx, ox, none⟩) := fun a' v f hH => (hH.rest 1 fun k d _ hd => Reg.dstOf_ne _ 1 (by decide +kernel) hd).trans e1
          have b2 : ∀ a' v f, Reg.Held af (Reg.dstOf (some 36 :: some 37 :: some 38 :: some 39 :: some 40 :: some 41 :: some 42 :: some 43 :: some 44 :: some 45 :: some 46 :: some 47 :: some 48 :: some 49 :: some 50 :: some 51 :: some 52 :: some 53 :: some 54 :: some 55 :: some 56 :: some 57 :: some 58 :: some 59 :: some 60 :: some 61 :: some 62 :: some 63 :: some 64 :: some 65 :: some 66 :: some 67 :: some 68 :: none :: some 69 :: some 70 :: none :: [])) v f a' → a'.eval (.tmp 2) = .pointer (some ⟨gy, oy, none⟩) := fun a' v f hH => (hH.rest 2 fun k d _ hd => Reg.dstOf_ne _ 2 (by decide +kernel) hd).trans e2
          have b3 : ∀ a' v f, Reg.Held af (Reg.dstOf (some 36 :: some 37 :: some 38 :: some 39 :: some 40 :: some 41 :: some 42 :: some 43 :: some 44 :: some 45 :: some 46 :: some 47 :: some 48 :: some 49 :: some 50 :: some 51 :: some 52 :: some 53 :: some 54 :: some 55 :: some 56 :: some 57 :: some 58 :: some 59 :: some 60 :: some 61 :: some 62 :: some 63 :: some 64 :: some 65 :: some 66 :: some 67 :: some 68 :: none :: some 69 :: some 70 :: none :: [])) v f a' → a'.eval (.tmp 3) = .pointer (some ⟨gr, 0, none⟩) := fun a' v f hH => (hH.rest 3 fun k d _ hd => Reg.dstOf_ne _ 3 (by decide +kernel) hd).trans e3
          have rz : (wb.drew.setCell ⟨g, 0, none⟩ (.bool false)).frozen? ⟨gr, 0, none⟩ = false := by simpa using rf0
          have rc : (wb.drew.setCell ⟨g, 0, none⟩ (.bool false)).cell? ⟨gr, 0, none⟩ = some (.bool false) := by rw [World.cell?_setCell_other _ _ _ _ (fun e => hgne (congrArg Addr.block e))]; exact re0
          refine Reg.wp_region_guard (by kernel_rfl) (by decide +kernel) 37 rfl (Reg.dstOf (some 36 :: some 37 :: some 38 :: some 39 :: some 40 :: some 41 :: some 42 :: some 43 :: some 44 :: some 45 :: some 46 :: some 47 :: some 48 :: some 49 :: some 50 :: some 51 :: some 52 :: some 53 :: some 54 :: some 55 :: some 56 :: some 57 :: some 58 :: some 59 :: some 60 :: some 61 :: some 62 :: some 63 :: some 64 :: some 65 :: some 66 :: some 67 :: some 68 :: none :: some 69 :: some 70 :: none :: [])) (Reg.valOf (.pointer (some ⟨g, 0, none⟩) :: .pointer (some ⟨gr, 0, none⟩) :: .pointer (some ⟨g, 0, none⟩) :: .pointer (some ⟨g, 0, none⟩) :: .pointer (some ⟨g, 1, none⟩) :: .slice a1 0 c1 :: .int .i64 0 :: .bool false :: .bool false :: undef :: undef :: undef :: undef :: undef :: undef :: undef :: undef :: undef :: .bool false :: .pointer (some ⟨gr, 0, none⟩) :: .pointer (some ⟨gr, 0, none⟩) :: .pointer (some ⟨gr, 1, none⟩) :: .slice a2 nr c2 :: .int .i64 (nr : Int) :: .bool true :: .bool true :: .pointer (some ⟨gx, ox, none⟩) :: .pointer (some ⟨gx, ox, none⟩) :: .pointer (some ⟨gx, ox, none⟩) :: .bool neg :: .bool neg :: .pointer (some ⟨g, 0, none⟩) :: .pointer (some ⟨g, 0, none⟩) :: undef :: .pointer (some ⟨gr, 0, none⟩) :: .pointer (some ⟨gr, 0, none⟩) :: undef :: [])) (Reg.wst2 33 36 (wb.drew) (wb.drew.setCell ⟨g, 0, none⟩ (.bool false)) ((wb.drew.setCell ⟨g, 0, none⟩ (.bool false)).setCell ⟨gr, 0, none⟩ (.bool neg))) rfl ?hops (Reg.dstOf_inj _ (by decide +kernel)) (fun k d hd => by rw [z]; exact Reg.dstOf_lt _ 73 (by decide +kernel) hd) ?hguard ?hstep ?hskip ?hwe hQ
          case hops =>
            intro i o ho
            have hi : i < 37 := (Array.getElem?_eq_some_iff.1 ho).1
            have hcs : i = 0 ∨ i = 1 ∨ i = 2 ∨ i = 3 ∨ i = 4 ∨ i = 5 ∨ i = 6 ∨ i = 7 ∨ i = 8 ∨ i = 9 ∨ i = 10 ∨ i = 11 ∨ i = 12 ∨ i = 13 ∨ i = 14 ∨ i = 15 ∨ i = 16 ∨ i = 17 ∨ i = 18 ∨ i = 19 ∨ i = 20 ∨ i = 21 ∨ i = 22 ∨ i = 23 ∨ i = 24 ∨ i = 25 ∨ i = 26 ∨ i = 27 ∨ i = 28 ∨ i = 29 ∨ i = 30 ∨ i = 31 ∨ i = 32 ∨ i = 33 ∨ i = 34 ∨ i = 35 ∨ i = 36 := by omega
            rcases hcs with rfl | rfl | rfl | rfl | rfl | rfl | rfl | rfl | rfl | rfl | rfl | rfl | rfl | rfl | rfl | rfl | rfl | rfl | rfl | rfl | rfl | rfl | rfl | rfl | rfl | rfl | rfl | rfl | rfl | rfl | rfl | rfl | rfl | rfl | rfl | rfl | rfl
            all_goals
              obtain rfl := Option.some.inj ho
              rfl
          case hguard =>
            intro i o p want ho hg
            have hi : i < 37 := (Array.getElem?_eq_some_iff.1 ho).1
            have hcs : i = 0 ∨ i = 1 ∨ i = 2 ∨ i = 3 ∨ i = 4 ∨ i = 5 ∨ i = 6 ∨ i = 7 ∨ i = 8 ∨ i = 9 ∨ i = 10 ∨ i = 11 ∨ i = 12 ∨ i = 13 ∨ i = 14 ∨ i = 15 ∨ i = 16 ∨ i = 17 ∨ i = 18 ∨ i = 19 ∨ i = 20 ∨ i = 21 ∨ i = 22 ∨ i = 23 ∨ i = 24 ∨ i = 25 ∨ i = 26 ∨ i = 27 ∨ i = 28 ∨ i = 29 ∨ i = 30 ∨ i = 31 ∨ i = 32 ∨ i = 33 ∨ i = 34 ∨ i = 35 ∨ i = 36 := by omega
            rcases hcs with rfl | rfl | rfl | rfl | rfl | rfl | rfl | rfl | rfl | rfl | rfl | rfl | rfl | rfl | rfl | rfl | rfl | rfl | rfl | rfl | rfl | rfl | rfl | rfl | rfl | rfl | rfl | rfl | rfl | rfl | rfl | rfl | rfl | rfl | rfl | rfl | rfl
            · obtain rfl := Option.some.inj ho
              cases hg
            · obtain rfl := Option.some.inj ho
              cases hg
            · obtain rfl := Option.some.inj ho
              cases hg
            · obtain rfl := Option.some.inj ho
              cases hg
            · obtain rfl := Option.some.inj ho
              cases hg
            · obtain rfl := Option.some.inj ho
              cases hg
            · obtain rfl := Option.some.inj ho
              cases hg
            · obtain rfl := Option.some.inj ho
              cases hg
            · obtain rfl := Option.some.inj ho
              cases hg
            · obtain rfl := Option.some.inj ho
              obtain ⟨rfl, rfl⟩ := Prod.mk.inj (Option.some.inj hg)
              exact ⟨⟨_, rfl⟩, ⟨_, rfl⟩, { on := 8, ground := .guard }, by simp, rfl, rfl⟩
            · obtain rfl := Option.some.inj ho
              obtain ⟨rfl, rfl⟩ := Prod.mk.inj (Option.some.inj hg)
              exact ⟨⟨_, rfl⟩, ⟨_, rfl⟩, { on := 8, ground := .guard }, by simp, rfl, rfl⟩
            · obtain rfl := Option.some.inj ho
              obtain ⟨rfl, rfl⟩ := Prod.mk.inj (Option.some.inj hg)
              exact ⟨⟨_, rfl⟩, ⟨_, rfl⟩, { on := 8, ground := .guard }, by simp, rfl, rfl⟩
            · obtain rfl := Option.some.inj ho
              obtain ⟨rfl, rfl⟩ := Prod.mk.inj (Option.some.inj hg)
              exact ⟨⟨_, rfl⟩, ⟨_, rfl⟩, { on := 8, ground := .guard }, by simp, rfl, rfl⟩
            · obtain rfl := Option.some.inj ho
              obtain ⟨rfl, rfl⟩ := Prod.mk.inj (Option.some.inj hg)
              exact ⟨⟨_, rfl⟩, ⟨_, rfl⟩, { on := 8, ground := .guard }, by simp, rfl, rfl⟩
            · obtain rfl := Option.some.inj ho
              obtain ⟨rfl, rfl⟩ := Prod.mk.inj (Option.some.inj hg)
              exact ⟨⟨_, rfl⟩, ⟨_, rfl⟩, { on := 8, ground := .guard }, by simp, rfl, rfl⟩
            · obtain rfl := Option.some.inj ho
              obtain ⟨rfl, rfl⟩ := Prod.mk.inj (Option.some.inj hg)
              exact ⟨⟨_, rfl⟩, ⟨_, rfl⟩, { on := 8, ground := .guard }, by simp, rfl, rfl⟩
            · obtain rfl := Option.some.inj ho
              obtain ⟨rfl, rfl⟩ := Prod.mk.inj (Option.some.inj hg)
              exact ⟨⟨_, rfl⟩, ⟨_, rfl⟩, { on := 8, ground := .guard }, by simp, rfl, rfl⟩
            · obtain rfl := Option.some.inj ho
              obtain ⟨rfl, rfl⟩ := Prod.mk.inj (Option.some.inj hg)
              exact ⟨⟨_, rfl⟩, ⟨_, rfl⟩, { on := 8, ground := .guard }, by simp, rfl, rfl⟩
            · obtain rfl := Option.some.inj ho
              cases hg
            · obtain rfl := Option.some.inj ho
              cases hg
            · obtain rfl := Option.some.inj ho
              cases hg
            · obtain rfl := Option.some.inj ho
              cases hg
            · obtain rfl := Option.some.inj ho
              cases hg
            · obtain rfl := Option.some.inj ho
              cases hg
            · obtain rfl := Option.some.inj ho
              cases hg
            · obtain rfl := Option.some.inj ho
              cases hg
            · obtain rfl := Option.some.inj ho
              obtain ⟨rfl, rfl⟩ := Prod.mk.inj (Option.some.inj hg)
              exact ⟨⟨_, rfl⟩, ⟨_, rfl⟩, { on := 25, ground := .guard }, by simp, rfl, rfl⟩
            · obtain rfl := Option.some.inj ho
              obtain ⟨rfl, rfl⟩ := Prod.mk.inj (Option.some.inj hg)
              exact ⟨⟨_, rfl⟩, ⟨_, rfl⟩, { on := 25, ground := .guard }, by simp, rfl, rfl⟩
            · obtain rfl := Option.some.inj ho
              obtain ⟨rfl, rfl⟩ := Prod.mk.inj (Option.some.inj hg)
              exact ⟨⟨_, rfl⟩, ⟨_, rfl⟩, { on := 25, ground := .guard }, by simp, rfl, rfl⟩
            · obtain rfl := Option.some.inj ho
              obtain ⟨rfl, rfl⟩ := Prod.mk.inj (Option.some.inj hg)
              exact ⟨⟨_, rfl⟩, ⟨_, rfl⟩, { on := 25, ground := .guard }, by simp, rfl, rfl⟩
            · obtain rfl := Option.some.inj ho
              cases hg
            · obtain rfl := Option.some.inj ho
              cases hg
            · obtain rfl := Option.some.inj ho
              cases hg
            · obtain rfl := Option.some.inj ho
              cases hg
            · obtain rfl := Option.some.inj ho
              cases hg
            · obtain rfl := Option.some.inj ho
              cases hg
            · obtain rfl := Option.some.inj ho
              cases hg
          case hstep =>
            intro f a' i o hi ho hgt hun hcl hdep hH
            have hcs : i = 0 ∨ i = 1 ∨ i = 2 ∨ i = 3 ∨ i = 4 ∨ i = 5 ∨ i = 6 ∨ i = 7 ∨ i = 8 ∨ i = 9 ∨ i = 10 ∨ i = 11 ∨ i = 12 ∨ i = 13 ∨ i = 14 ∨ i = 15 ∨ i = 16 ∨ i = 17 ∨ i = 18 ∨ i = 19 ∨ i = 20 ∨ i = 21 ∨ i = 22 ∨ i = 23 ∨ i = 24 ∨ i = 25 ∨ i = 26 ∨ i = 27 ∨ i = 28 ∨ i = 29 ∨ i = 30 ∨ i = 31 ∨ i = 32 ∨ i = 33 ∨ i = 34 ∨ i = 35 ∨ i = 36 := by omega
            rcases hcs with rfl | rfl | rfl | rfl | rfl | rfl | rfl | rfl | rfl | rfl | rfl | rfl | rfl | rfl | rfl | rfl | rfl | rfl | rfl | rfl | rfl | rfl | rfl | rfl | rfl | rfl | rfl | rfl | rfl | rfl | rfl | rfl | rfl | rfl | rfl | rfl | rfl
            · obtain rfl := Option.some.inj ho
              have g0 := Reg.tmp_at (b0 a' _ f hH)
              refine ⟨.value (.pointer (some ⟨g, 0, none⟩)), ?_, .inl rfl⟩
              rw [Reg.wst2_no _ _ _ _ _ f 0 (by decide) (by decide)]
              generalize Reg.wst2 _ _ _ _ _ f = Wx
              go_simp
            · obtain rfl := Option.some.inj ho
              have g0 := Reg.tmp_at (b3 a' _ f hH)
              refine ⟨.value (.pointer (some ⟨gr, 0, none⟩)), ?_, .inl rfl⟩
              rw [Reg.wst2_no _ _ _ _ _ f 1 (by decide) (by decide)]
              generalize Reg.wst2 _ _ _ _ _ f = Wx
              go_simp
            · obtain rfl := Option.some.inj ho
              have g0 := Reg.tmp_at (b0 a' _ f hH)
              refine ⟨.value (.pointer (some ⟨g, 0, none⟩)), ?_, .inl rfl⟩
              rw [Reg.wst2_no _ _ _ _ _ f 2 (by decide) (by decide)]
              generalize Reg.wst2 _ _ _ _ _ f = Wx
              go_simp
            · obtain rfl := Option.some.inj ho
              have g0 : a'.tmps[38]?.getD undef = .pointer (some ⟨g, 0, none⟩) := Reg.tmp_at (hH.got 2 38 (hdep { on := 2, ground := .data } (by simp) rfl) rfl)
              refine ⟨.value (.pointer (some ⟨g, 0, none⟩)), ?_, .inl rfl⟩
              rw [Reg.wst2_no _ _ _ _ _ f 3 (by decide) (by decide)]
              generalize Reg.wst2 _ _ _ _ _ f = Wx
              go_simp
            · obtain rfl := Option.some.inj ho
              have g0 : a'.tmps[39]?.getD undef = .pointer (some ⟨g, 0, none⟩) := Reg.tmp_at (hH.got 3 39 (hdep { on := 3, ground := .data } (by simp) rfl) rfl)
              refine ⟨.value (.pointer (some ⟨g, 1, none⟩)), ?_, .inl rfl⟩
              rw [Reg.wst2_no _ _ _ _ _ f 4 (by decide) (by decide)]
              generalize Reg.wst2 _ _ _ _ _ f = Wx
              go_simp
            · obtain rfl := Option.some.inj ho
              have g0 : a'.tmps[40]?.getD undef = .pointer (some ⟨g, 1, none⟩) := Reg.tmp_at (hH.got 4 40 (hdep { on := 4, ground := .data } (by simp) rfl) rfl)
              have n33 : f 33 = false := by
                cases h : f 33 with
                | false => rfl
                | true =>
                  have h2 := (hcl 33 _ rfl h { on := 5, ground := .phase } (by simp) rfl)
                  rw [hun] at h2; cases h2
              have n36 : f 36 = false := by
                cases h : f 36 with
                | false => rfl
                | true =>
                  have h2 := (hcl 36 _ rfl h { on := 5, ground := .phase } (by simp) rfl)
                  rw [hun] at h2; cases h2
              refine ⟨.value (.slice a1 0 c1), ?_, .inl rfl⟩
              rw [Reg.wst2_no _ _ _ _ _ f 5 (by decide) (by decide), Reg.wst2_none n33 n36]
              go_simp
            · obtain rfl := Option.some.inj ho
              have g0 : a'.tmps[41]?.getD undef = .slice a1 0 c1 := Reg.tmp_at (hH.got 5 41 (hdep { on := 5, ground := .data } (by simp) rfl) rfl)
              refine ⟨.value (.int .i64 0), ?_, .inl rfl⟩
              rw [Reg.wst2_no _ _ _ _ _ f 6 (by decide) (by decide)]
              generalize Reg.wst2 _ _ _ _ _ f = Wx
              go_simp
            · obtain rfl := Option.some.inj ho
              have g0 : a'.tmps[42]?.getD undef = .int .i64 0 := Reg.tmp_at (hH.got 6 42 (hdep { on := 6, ground := .data } (by simp) rfl) rfl)
              refine ⟨.value (.bool false), ?_, .inl rfl⟩
              rw [Reg.wst2_no _ _ _ _ _ f 7 (by decide) (by decide)]
              generalize Reg.wst2 _ _ _ _ _ f = Wx
              go_simp
            · obtain rfl := Option.some.inj ho
              have g0 : a'.tmps[43]?.getD undef = .bool false := Reg.tmp_at (hH.got 7 43 (hdep { on := 7, ground := .data } (by simp) rfl) rfl)
              refine ⟨.value (.bool false), ?_, .inl rfl⟩
              rw [Reg.wst2_no _ _ _ _ _ f 8 (by decide) (by decide)]
              generalize Reg.wst2 _ _ _ _ _ f = Wx
              go_simp
            · obtain rfl := Option.some.inj ho
              cases hgt
            · obtain rfl := Option.some.inj ho
              cases hgt
            · obtain rfl := Option.some.inj ho
              cases hgt
            · obtain rfl := Option.some.inj ho
              cases hgt
            · obtain rfl := Option.some.inj ho
              cases hgt
            · obtain rfl := Option.some.inj ho
              cases hgt
            · obtain rfl := Option.some.inj ho
              cases hgt
            · obtain rfl := Option.some.inj ho
              cases hgt
            · obtain rfl := Option.some.inj ho
              cases hgt
            · obtain rfl := Option.some.inj ho
              have g0 : a'.tmps[44]?.getD undef = .bool false := Reg.tmp_at (hH.got 8 44 (hdep { on := 8, ground := .data } (by simp) rfl) rfl)
              have g1 : a'.tmps[53]?.getD undef = undef := Reg.tmp_at (hH.got 17 53 (hdep { on := 17, ground := .data } (by simp) rfl) rfl)
              refine ⟨.value (.bool false), ?_, .inl rfl⟩
              rw [Reg.wst2_no _ _ _ _ _ f 18 (by decide) (by decide)]
              generalize Reg.wst2 _ _ _ _ _ f = Wx
              go_simp
            · obtain rfl := Option.some.inj ho
              have g0 := Reg.tmp_at (b3 a' _ f hH)
              refine ⟨.value (.pointer (some ⟨gr, 0, none⟩)), ?_, .inl rfl⟩
              rw [Reg.wst2_no _ _ _ _ _ f 19 (by decide) (by decide)]
              generalize Reg.wst2 _ _ _ _ _ f = Wx
              go_simp
            · obtain rfl := Option.some.inj ho
              have g0 : a'.tmps[55]?.getD undef = .pointer (some ⟨gr, 0, none⟩) := Reg.tmp_at (hH.got 19 55 (hdep { on := 19, ground := .data } (by simp) rfl) rfl)
              refine ⟨.value (.pointer (some ⟨gr, 0, none⟩)), ?_, .inl rfl⟩
              rw [Reg.wst2_no _ _ _ _ _ f 20 (by decide) (by decide)]
              generalize Reg.wst2 _ _ _ _ _ f = Wx
              go_simp
            · obtain rfl := Option.some.inj ho
              have g0 : a'.tmps[56]?.getD undef = .pointer (some ⟨gr, 0, none⟩) := Reg.tmp_at (hH.got 20 56 (hdep { on := 20, ground := .data } (by simp) rfl) rfl)
              refine ⟨.value (.pointer (some ⟨gr, 1, none⟩)), ?_, .inl rfl⟩
              rw [Reg.wst2_no _ _ _ _ _ f 21 (by decide) (by decide)]
              generalize Reg.wst2 _ _ _ _ _ f = Wx
              go_simp
            · obtain rfl := Option.some.inj ho
              have g0 : a'.tmps[57]?.getD undef = .pointer (some ⟨gr, 1, none⟩) := Reg.tmp_at (hH.got 21 57 (hdep { on := 21, ground := .data } (by simp) rfl) rfl)
              have n33 : f 33 = false := by
                cases h : f 33 with
                | false => rfl
                | true =>
                  have h2 := (hcl 33 _ rfl h { on := 22, ground := .phase } (by simp) rfl)
                  rw [hun] at h2; cases h2
              have n36 : f 36 = false := by
                cases h : f 36 with
                | false => rfl
                | true =>
                  have h2 := (hcl 36 _ rfl h { on := 22, ground := .phase } (by simp) rfl)
                  rw [hun] at h2; cases h2
              refine ⟨.value (.slice a2 nr c2), ?_, .inl rfl⟩
              rw [Reg.wst2_no _ _ _ _ _ f 22 (by decide) (by decide), Reg.wst2_none n33 n36]
              go_simp
            · obtain rfl := Option.some.inj ho
              have g0 : a'.tmps[58]?.getD undef = .slice a2 nr c2 := Reg.tmp_at (hH.got 22 58 (hdep { on := 22, ground := .data } (by simp) rfl) rfl)
              refine ⟨.value (.int .i64 (nr : Int)), ?_, .inl rfl⟩
              rw [Reg.wst2_no _ _ _ _ _ f 23 (by decide) (by decide)]
              generalize Reg.wst2 _ _ _ _ _ f = Wx
              go_simp
            · obtain rfl := Option.some.inj ho
              have g0 : a'.tmps[59]?.getD undef = .int .i64 (nr : Int) := Reg.tmp_at (hH.got 23 59 (hdep { on := 23, ground := .data } (by simp) rfl) rfl)
              refine ⟨.value (.bool true), ?_, .inl rfl⟩
              rw [Reg.wst2_no _ _ _ _ _ f 24 (by decide) (by decide)]
              generalize Reg.wst2 _ _ _ _ _ f = Wx
              go_simp
            · obtain rfl := Option.some.inj ho
              have g0 : a'.tmps[60]?.getD undef = .bool true := Reg.tmp_at (hH.got 24 60 (hdep { on := 24, ground := .data } (by simp) rfl) rfl)
              refine ⟨.value (.bool true), ?_, .inl rfl⟩
              rw [Reg.wst2_no _ _ _ _ _ f 25 (by decide) (by decide)]
              generalize Reg.wst2 _ _ _ _ _ f = Wx
              go_simp
            · obtain rfl := Option.some.inj ho
              have g0 := Reg.tmp_at (b1 a' _ f hH)
              refine ⟨.value (.pointer (some ⟨gx, ox, none⟩)), ?_, .inl rfl⟩
              rw [Reg.wst2_no _ _ _ _ _ f 26 (by decide) (by decide)]
              generalize Reg.wst2 _ _ _ _ _ f = Wx
              go_simp
            · obtain rfl := Option.some.inj ho
              have g0 : a'.tmps[62]?.getD undef = .pointer (some ⟨gx, ox, none⟩) := Reg.tmp_at (hH.got 26 62 (hdep { on := 26, ground := .data } (by simp) rfl) rfl)
              refine ⟨.value (.pointer (some ⟨gx, ox, none⟩)), ?_, .inl rfl⟩
              rw [Reg.wst2_no _ _ _ _ _ f 27 (by decide) (by decide)]
              generalize Reg.wst2 _ _ _ _ _ f = Wx
              go_simp
            · obtain rfl := Option.some.inj ho
              have g0 : a'.tmps[63]?.getD undef = .pointer (some ⟨gx, ox, none⟩) := Reg.tmp_at (hH.got 27 63 (hdep { on := 27, ground := .data } (by simp) rfl) rfl)
              refine ⟨.value (.pointer (some ⟨gx, ox, none⟩)), ?_, .inl rfl⟩
              rw [Reg.wst2_no _ _ _ _ _ f 28 (by decide) (by decide)]
              generalize Reg.wst2 _ _ _ _ _ f = Wx
              go_simp
            · obtain rfl := Option.some.inj ho
              have g0 : a'.tmps[64]?.getD undef = .pointer (some ⟨gx, ox, none⟩) := Reg.tmp_at (hH.got 28 64 (hdep { on := 28, ground := .data } (by simp) rfl) rfl)
              have n33 : f 33 = false := by
                cases h : f 33 with
                | false => rfl
                | true =>
                  have h2 := (hcl 33 _ rfl h { on := 29, ground := .phase } (by simp) rfl)
                  rw [hun] at h2; cases h2
              have n36 : f 36 = false := by
                cases h : f 36 with
                | false => rfl
                | true =>
                  have h2 := (hcl 36 _ rfl h { on := 29, ground := .phase } (by simp) rfl)
                  rw [hun] at h2; cases h2
              refine ⟨.value (.bool neg), ?_, .inl rfl⟩
              rw [Reg.wst2_no _ _ _ _ _ f 29 (by decide) (by decide), Reg.wst2_none n33 n36]
              go_simp
            · obtain rfl := Option.some.inj ho
              have g0 : a'.tmps[61]?.getD undef = .bool true := Reg.tmp_at (hH.got 25 61 (hdep { on := 25, ground := .data } (by simp) rfl) rfl)
              have g1 : a'.tmps[65]?.getD undef = .bool neg := Reg.tmp_at (hH.got 29 65 (hdep { on := 29, ground := .data } (by simp) rfl) rfl)
              refine ⟨.value (.bool neg), ?_, .inl rfl⟩
              rw [Reg.wst2_no _ _ _ _ _ f 30 (by decide) (by decide)]
              generalize Reg.wst2 _ _ _ _ _ f = Wx
              go_simp
            · obtain rfl := Option.some.inj ho
              have g0 : a'.tmps[36]?.getD undef = .pointer (some ⟨g, 0, none⟩) := Reg.tmp_at (hH.got 0 36 (hdep { on := 0, ground := .data } (by simp) rfl) rfl)
              refine ⟨.value (.pointer (some ⟨g, 0, none⟩)), ?_, .inl rfl⟩
              rw [Reg.wst2_no _ _ _ _ _ f 31 (by decide) (by decide)]
              generalize Reg.wst2 _ _ _ _ _ f = Wx
              go_simp
            · obtain rfl := Option.some.inj ho
              have g0 : a'.tmps[67]?.getD undef = .pointer (some ⟨g, 0, none⟩) := Reg.tmp_at (hH.got 31 67 (hdep { on := 31, ground := .data } (by simp) rfl) rfl)
              refine ⟨.value (.pointer (some ⟨g, 0, none⟩)), ?_, .inl rfl⟩
              rw [Reg.wst2_no _ _ _ _ _ f 32 (by decide) (by decide)]
              generalize Reg.wst2 _ _ _ _ _ f = Wx
              go_simp
            · obtain rfl := Option.some.inj ho
              have g0 : a'.tmps[68]?.getD undef = .pointer (some ⟨g, 0, none⟩) := Reg.tmp_at (hH.got 32 68 (hdep { on := 32, ground := .data } (by simp) rfl) rfl)
              have g1 : a'.tmps[54]?.getD undef = .bool false := Reg.tmp_at (hH.got 18 54 (hdep { on := 18, ground := .data } (by simp) rfl) rfl)
              have n36 : f 36 = false := by
                cases h : f 36 with
                | false => rfl
                | true =>
                  have h2 := (hcl 36 _ rfl h { on := 33, ground := .chain } (by simp) rfl)
                  rw [hun] at h2; cases h2
              refine ⟨.skip, ?_, .inr ⟨rfl, rfl⟩⟩
              rw [Reg.wst2_first n36 (by decide), Reg.wst2_none hun n36]
              go_simp
            · obtain rfl := Option.some.inj ho
              have g0 : a'.tmps[37]?.getD undef = .pointer (some ⟨gr, 0, none⟩) := Reg.tmp_at (hH.got 1 37 (hdep { on := 1, ground := .data } (by simp) rfl) rfl)
              refine ⟨.value (.pointer (some ⟨gr, 0, none⟩)), ?_, .inl rfl⟩
              rw [Reg.wst2_no _ _ _ _ _ f 34 (by decide) (by decide)]
              generalize Reg.wst2 _ _ _ _ _ f = Wx
              go_simp
            · obtain rfl := Option.some.inj ho
              have g0 : a'.tmps[69]?.getD undef = .pointer (some ⟨gr, 0, none⟩) := Reg.tmp_at (hH.got 34 69 (hdep { on := 34, ground := .data } (by simp) rfl) rfl)
              refine ⟨.value (.pointer (some ⟨gr, 0, none⟩)), ?_, .inl rfl⟩
              rw [Reg.wst2_no _ _ _ _ _ f 35 (by decide) (by decide)]
              generalize Reg.wst2 _ _ _ _ _ f = Wx
              go_simp
            · obtain rfl := Option.some.inj ho
              have g0 : a'.tmps[70]?.getD undef = .pointer (some ⟨gr, 0, none⟩) := Reg.tmp_at (hH.got 35 70 (hdep { on := 35, ground := .data } (by simp) rfl) rfl)
              have g1 : a'.tmps[66]?.getD undef = .bool neg := Reg.tmp_at (hH.got 30 66 (hdep { on := 30, ground := .data } (by simp) rfl) rfl)
              have d33 : f 33 = true := (hdep { on := 33, ground := .chain } (by simp) rfl)
              refine ⟨.skip, ?_, .inr ⟨rfl, rfl⟩⟩
              rw [Reg.wst2_second, Reg.wst2_one d33 hun]
              go_simp
          case hskip =>
            intro i o ho hgt
            have hi : i < 37 := (Array.getElem?_eq_some_iff.1 ho).1
            have hcs : i = 0 ∨ i = 1 ∨ i = 2 ∨ i = 3 ∨ i = 4 ∨ i = 5 ∨ i = 6 ∨ i = 7 ∨ i = 8 ∨ i = 9 ∨ i = 10 ∨ i = 11 ∨ i = 12 ∨ i = 13 ∨ i = 14 ∨ i = 15 ∨ i = 16 ∨ i = 17 ∨ i = 18 ∨ i = 19 ∨ i = 20 ∨ i = 21 ∨ i = 22 ∨ i = 23 ∨ i = 24 ∨ i = 25 ∨ i = 26 ∨ i = 27 ∨ i = 28 ∨ i = 29 ∨ i = 30 ∨ i = 31 ∨ i = 32 ∨ i = 33 ∨ i = 34 ∨ i = 35 ∨ i = 36 := by omega
            rcases hcs with rfl | rfl | rfl | rfl | rfl | rfl | rfl | rfl | rfl | rfl | rfl | rfl | rfl | rfl | rfl | rfl | rfl | rfl | rfl | rfl | rfl | rfl | rfl | rfl | rfl | rfl | rfl | rfl | rfl | rfl | rfl | rfl | rfl | rfl | rfl | rfl | rfl
            · obtain rfl := Option.some.inj ho
              exact absurd rfl hgt
            · obtain rfl := Option.some.inj ho
              exact absurd rfl hgt
            · obtain rfl := Option.some.inj ho
              exact absurd rfl hgt
            · obtain rfl := Option.some.inj ho
              exact absurd rfl hgt
            · obtain rfl := Option.some.inj ho
              exact absurd rfl hgt
            · obtain rfl := Option.some.inj ho
              exact absurd rfl hgt
            · obtain rfl := Option.some.inj ho
              exact absurd rfl hgt
            · obtain rfl := Option.some.inj ho
              exact absurd rfl hgt
            · obtain rfl := Option.some.inj ho
              exact absurd rfl hgt
            · obtain rfl := Option.some.inj ho
              exact ⟨rfl, rfl, fun f => Reg.wst2_no _ _ _ _ _ f 9 (by decide) (by decide)⟩
            · obtain rfl := Option.some.inj ho
              exact ⟨rfl, rfl, fun f => Reg.wst2_no _ _ _ _ _ f 10 (by decide) (by decide)⟩
            · obtain rfl := Option.some.inj ho
              exact ⟨rfl, rfl, fun f => Reg.wst2_no _ _ _ _ _ f 11 (by decide) (by decide)⟩
            · obtain rfl := Option.some.inj ho
              exact ⟨rfl, rfl, fun f => Reg.wst2_no _ _ _ _ _ f 12 (by decide) (by decide)⟩
            · obtain rfl := Option.some.inj ho
              exact ⟨rfl, rfl, fun f => Reg.wst2_no _ _ _ _ _ f 13 (by decide) (by decide)⟩
            · obtain rfl := Option.some.inj ho
              exact ⟨rfl, rfl, fun f => Reg.wst2_no _ _ _ _ _ f 14 (by decide) (by decide)⟩
            · obtain rfl := Option.some.inj ho
              exact ⟨rfl, rfl, fun f => Reg.wst2_no _ _ _ _ _ f 15 (by decide) (by decide)⟩
            · obtain rfl := Option.some.inj ho
              exact ⟨rfl, rfl, fun f => Reg.wst2_no _ _ _ _ _ f 16 (by decide) (by decide)⟩
            · obtain rfl := Option.some.inj ho
              exact ⟨rfl, rfl, fun f => Reg.wst2_no _ _ _ _ _ f 17 (by decide) (by decide)⟩
            · obtain rfl := Option.some.inj ho
              exact absurd rfl hgt
            · obtain rfl := Option.some.inj ho
              exact absurd rfl hgt
            · obtain rfl := Option.some.inj ho
              exact absurd rfl hgt
            · obtain rfl := Option.some.inj ho
              exact absurd rfl hgt
            · obtain rfl := Option.some.inj ho
              exact absurd rfl hgt
            · obtain rfl := Option.some.inj ho
              exact absurd rfl hgt
            · obtain rfl := Option.some.inj ho
              exact absurd rfl hgt
            · obtain rfl := Option.some.inj ho
              exact absurd rfl hgt
            · obtain rfl := Option.some.inj ho
              exact absurd rfl hgt
            · obtain rfl := Option.some.inj ho
              exact absurd rfl hgt
            · obtain rfl := Option.some.inj ho
              exact absurd rfl hgt
            · obtain rfl := Option.some.inj ho
              exact absurd rfl hgt
            · obtain rfl := Option.some.inj ho
              exact absurd rfl hgt
            · obtain rfl := Option.some.inj ho
              exact absurd rfl hgt
            · obtain rfl := Option.some.inj ho
              exact absurd rfl hgt
            · obtain rfl := Option.some.inj ho
              exact absurd rfl hgt
            · obtain rfl := Option.some.inj ho
              exact absurd rfl hgt
            · obtain rfl := Option.some.inj ho
              exact absurd rfl hgt
            · obtain rfl := Option.some.inj ho
              exact absurd rfl hgt
          case hwe => rfl
        case h2 =>
          simp only [Reg.fill, Reg.dstOf, Reg.valOf, List.getD_cons_zero, List.getD_cons_succ, Act.put]
          simp [List.setIfInBounds_toArray, List.set_cons_succ, List.set_cons_zero]
          go_wp2
          go_ret2
          rw [hQ0, hR0]
          simp only [Bool.false_and, Bool.true_and]
          exact ⟨rfl, hf3.out.1, hf3.out.2.1, Box.below_drawn hf3.out.2.2 1⟩
    · have hQ0 : decide (0 < Q) = true := by simp; omega
      have bq : decide ((0 : Int) < (nq : Int)) = true := by simp; omega
      have bq' : decide (0 < nq) = true := by simp; omega
      by_cases hr0 : nr = 0
      · have hR0 : decide (0 < R) = false := by simp; omega
        subst hr0
        have hf2 := hfin.out
        rw [hQ0, hR0] at hf2
        simp only [Bool.false_and, Bool.true_and] at hf2
        have hf3 := Lib.hid hf2
        clear hfin hf2
        refine Reg.via (Reg.fill (Reg.dstOf (some 36 :: some 37 :: some 38 :: some 39 :: some 40 :: some 41 :: some 42 :: some 43 :: some 44 :: some 45 :: some 46 :: some 47 :: some 48 :: some 49 :: some 50 :: some 51 :: some 52 :: some 53 :: some 54 :: some 55 :: some 56 :: some 57 :: some 58 :: some 59 :: some 60 :: some 61 :: some 62 :: some 63 :: some 64 :: some 65 :: some 66 :: some 67 :: some 68 :: none :: some 69 :: some 70 :: none :: [])) (Reg.valOf (.pointer (some ⟨g, 0, none⟩) :: .pointer (some ⟨gr, 0, none⟩) :: .pointer (some ⟨g, 0, none⟩) :: .pointer (some ⟨g, 0, none⟩) :: .pointer (some ⟨g, 1, none⟩) :: .slice a1 nq c1 :: .int .i64 (nq : Int) :: .bool true :: .bool true :: .pointer (some ⟨gx, ox, none⟩) :: .pointer (some ⟨gx, ox, none⟩) :: .pointer (some ⟨gx, ox, none⟩) :: .bool neg :: .pointer (some ⟨gy, oy, none⟩) :: .pointer (some ⟨gy, oy, none⟩) :: .pointer (some ⟨gy, oy, none⟩) :: .bool yneg :: .bool (neg != yneg) :: .bool (neg != yneg) :: .pointer (some ⟨gr, 0, none⟩) :: .pointer (some ⟨gr, 0, none⟩) :: .pointer (some ⟨gr, 1, none⟩) :: .slice a2 0 c2 :: .int .i64 0 :: .bool false :: .bool false :: undef :: undef :: undef :: undef :: .bool false :: .pointer (some ⟨g, 0, none⟩) :: .pointer (some ⟨g, 0, none⟩) :: undef :: .pointer (some ⟨gr, 0, none⟩) :: .pointer (some ⟨gr, 0, none⟩) :: undef :: [])) 37) (fun a0 => a0.tmps.size = 73 ∧ a0.eval (.tmp 0) = .pointer (some ⟨g, 0, none⟩) ∧ a0.eval (.tmp 1) = .pointer (some ⟨gx, ox, none⟩) ∧ a0.eval (.tmp 2) = .pointer (some ⟨gy, oy, none⟩) ∧ a0.eval (.tmp 3) = .pointer (some ⟨gr, 0, none⟩)) ⟨rfl, rfl, rfl, rfl, rfl⟩ (W2 := (wb.drew.setCell ⟨g, 0, none⟩ (.bool (neg != yneg))).setCell ⟨gr, 0, none⟩ (.bool false)) ?h1 ?h2
        case h1 =>
          go_light
          clear hf3
          rintro af Q' ⟨z, e0, e1, e2, e3⟩ hQ
          have b0 : ∀ a' v f, Reg.Held af (Reg.dstOf (some 36 :: some 37 :: some 38 :: some 39 :: some 40 :: some 41 :: some 42 :: some 43 :: some 44 :: some 45 :: some 46 :: some 47 :: some 48 :: some 49 :: some 50 :: some 51 :: some 52 :: some 53 :: some 54 :: some 55 :: some 56 :: some 57 :: some 58 :: some 59 :: some 60 :: some 61 :: some 62 :: some 63 :: some 64 :: some 65 :: some 66 :: some 67 :: some 68 :: none :: some 69 :: some 70 :: none :: [])) v f a' → a'.eval (.tmp 0) = .pointer (some ⟨g, 0, none⟩) := fun a' v f hH => (hH.rest 0 fun k d _ hd => Reg.dstOf_ne _ 0 (by decide +kernel) hd).trans e0
          have b1 : ∀ a' v f, Reg.Held af (Reg.dstOf (some 36 :: some 37 :: some 38 :: some 39 :: some 40 :: some 41 :: some 42 :: some 43 :: some 44 :: some 45 :: some 46 :: some 47 :: some 48 :: some 49 :: some 50 :: some 51 :: some 52 :: some 53 :: some 54 :: some 55 :: some 56 :: some 57 :: some 58 :: some 59 :: some 60 :: some 61 :: some 62 :: some 63 :: some 64 :: some 65 :: some 66 :: some 67 :: some 68 :: none :: some 69 :: some 70 :: none :: [])) v f a' → a'.eval (.tmp 1) = .pointer (some ⟨gx, ox, none⟩) := fun a' v f hH => (hH.rest 1 fun k d _ hd => Reg.dstOf_ne _ 1 (by decide +kernel) hd).trans e1
          have b2 : ∀ a' v f, Reg.Held af (Reg.dstOf (some 36 :: some 37 :: some 38 :: some 39 :: some 40 :: some 41 :: some 42 :: some 43 :: some 44 :: some 45 :: some 46 :: some 47 :: some 48 :: some 49 :: some 50 :: some 51 :: some 52 :: some 53 :: some 54 :: some 55 :: some 56 :: some 57 :: some 58 :: some 59 :: some 60 :: some 61 :: some 62 :: some 63 :: some 64 :: some 65 :: some 66 :: some 67 :: some 68 :: none :: some 69 :: some 70 :: none :: [])) v f a' → a'.eval (.tmp 2) = .pointer (some ⟨gy, oy, none⟩) := fun a' v f hH => (hH.rest 2 fun k d _ hd => Reg.dstOf_ne _ 2 (by decide +kernel) hd).trans e2
          have b3 : ∀ a' v f, Reg.Held af (Reg.dstOf (some 36 :: some 37 :: some 38 :: some 39 :: some 40 :: some 41 :: some 42 :: some 43 :: some 44 :: some 45 :: some 46 :: some 47 :: some 48 :: some 49 :: some 50 :: some 51 :: some 52 :: some 53 :: some 54 :: some 55 :: some 56 :: some 57 :: some 58 :: some 59 :: some 60 :: some 61 :: some 62 :: some 63 :: some 64 :: some 65 :: some 66 :: some 67 :: some 68 :: none :: some 69 :: some 70 :: none :: [])) v f a' → a'.eval (.tmp 3) = .pointer (some ⟨gr, 0, none⟩) := fun a' v f hH => (hH.rest 3 fun k d _ hd => Reg.dstOf_ne _ 3 (by decide +kernel) hd).trans e3
          have rz : (wb.drew.setCell ⟨g, 0, none⟩ (.bool (neg != yneg))).frozen? ⟨gr, 0, none⟩ = false := by simpa using rf0
          have rc : (wb.drew.setCell ⟨g, 0, none⟩ (.bool (neg != yneg))).cell? ⟨gr, 0, none⟩ = some (.bool false) := by rw [World.cell?_setCell_other _ _ _ _ (fun e => hgne (congrArg Addr.block e))]; exact re0
          refine Reg.wp_region_guard (by kernel_rfl) (by decide +kernel) 37 rfl (Reg.dstOf (some 36 :: some 37 :: some 38 :: some 39 :: some 40 :: some 41 :: some 42 :: some 43 :: some 44 :: some 45 :: some 46 :: some 47 :: some 48 :: some 49 :: some 50 :: some 51 :: some 52 :: some 53 :: some 54 :: some 55 :: some 56 :: some 57 :: some 58 :: some 59 :: some 60 :: some 61 :: some 62 :: some 63 :: some 64 :: some 65 :: some 66 :: some 67 :: some 68 :: none :: some 69 :: some 70 :: none :: [])) (Reg.valOf (.pointer (some ⟨g, 0, none⟩) :: .pointer (some ⟨gr, 0, none⟩) :: .pointer (some ⟨g, 0, none⟩) :: .pointer (some ⟨g, 0, none⟩) :: .pointer (some ⟨g, 1, none⟩) :: .slice a1 nq c1 :: .int .i64 (nq : Int) :: .bool true :: .bool true :: .pointer (some ⟨gx, ox, none⟩) :: .pointer (some ⟨gx, ox, none⟩) :: .pointer (some ⟨gx, ox, none⟩) :: .bool neg :: .pointer (some ⟨gy, oy, none⟩) :: .pointer (some ⟨gy, oy, none⟩) :: .pointer (some ⟨gy, oy, none⟩) :: .bool yneg :: .bool (neg != yneg) :: .bool (neg != yneg) :: .pointer (some ⟨gr, 0, none⟩) :: .pointer (some ⟨gr, 0, none⟩) :: .pointer (some ⟨gr, 1, none⟩) :: .slice a2 0 c2 :: .int .i64 0 :: .bool false :: .bool false :: undef :: undef :: undef :: undef :: .bool false :: .pointer (some ⟨g, 0, none⟩) :: .pointer (some ⟨g, 0, none⟩) :: undef :: .pointer (some ⟨gr, 0, none⟩) :: .pointer (some ⟨gr, 0, none⟩) :: undef :: [])) (Reg.wst2 33 36 (wb.drew) (wb.drew.setCell ⟨g, 0, none⟩ (.bool (neg != yneg))) ((wb.drew.setCell ⟨g, 0, none⟩ (.bool (neg != yneg))).setCell ⟨gr, 0, none⟩ (.bool false))) rfl ?hops (Reg.dstOf_inj _ (by decide +kernel)) (fun k d hd => by rw [z]; exact Reg.dstOf_lt _ 73 (by decide +kernel) hd) ?hguard ?hstep ?hskip ?hwe hQ
          case hops =>
            intro i o ho
            have hi : i < 37 := (Array.getElem?_eq_some_iff.1 ho).1
            have hcs : i = 0 ∨ i = 1 ∨ i = 2 ∨ i = 3 ∨ i = 4 ∨ i = 5 ∨ i = 6 ∨ i = 7 ∨ i = 8 ∨ i = 9 ∨ i = 10 ∨ i = 11 ∨ i = 12 ∨ i = 13 ∨ i = 14 ∨ i = 15 ∨ i = 16 ∨ i = 17 ∨ i = 18 ∨ i = 19 ∨ i = 20 ∨ i = 21 ∨ i = 22 ∨ i = 23 ∨ i = 24 ∨ i = 25 ∨ i = 26 ∨ i = 27 ∨ i = 28 ∨ i = 29 ∨ i = 30 ∨ i = 31 ∨ i = 32 ∨ i = 33 ∨ i = 34 ∨ i = 35 ∨ i = 36 := by omega
            rcases hcs with rfl | rfl | rfl | rfl | rfl | rfl | rfl | rfl | rfl | rfl | rfl | rfl | rfl | rfl | rfl | rfl | rfl | rfl | rfl | rfl | rfl | rfl | rfl | rfl | rfl | rfl | rfl | rfl | rfl | rfl | rfl | rfl | rfl | rfl | rfl | rfl | rfl
            all_goals
              obtain rfl := Option.some.inj ho
              rfl
          case hguard =>
            intro i o p want ho hg
            have hi : i < 37 := (Array.getElem?_eq_some_iff.1 ho).1
            have hcs : i = 0 ∨ i = 1 ∨ i = 2 ∨ i = 3 ∨ i = 4 ∨ i = 5 ∨ i = 6 ∨ i = 7 ∨ i = 8 ∨ i = 9 ∨ i = 10 ∨ i = 11 ∨ i = 12 ∨ i = 13 ∨ i = 14 ∨ i = 15 ∨ i = 16 ∨ i = 17 ∨ i = 18 ∨ i = 19 ∨ i = 20 ∨ i = 21 ∨ i = 22 ∨ i = 23 ∨ i = 24 ∨ i = 25 ∨ i = 26 ∨ i = 27 ∨ i = 28 ∨ i = 29 ∨ i = 30 ∨ i = 31 ∨ i = 32 ∨ i = 33 ∨ i = 34 ∨ i = 35 ∨ i = 36 := by omega
            rcases hcs with rfl | rfl | rfl | rfl | rfl | rfl | rfl | rfl | rfl | rfl | rfl | rfl | rfl | rfl | rfl | rfl | rfl | rfl | rfl | rfl | rfl | rfl | rfl | rfl | rfl | rfl | rfl | rfl | rfl | rfl | rfl | rfl | rfl | rfl | rfl | rfl | rfl
            · obtain rfl := Option.some.inj ho
              cases hg
            · obtain rfl := Option.some.inj ho
              cases hg
            · obtain rfl := Option.some.inj ho
              cases hg
            · obtain rfl := Option.some.inj ho
              cases hg
            · obtain rfl := Option.some.inj ho
              cases hg
            · obtain rfl := Option.some.inj ho
              cases hg
            · obtain rfl := Option.some.inj ho
              cases hg
            · obtain rfl := Option.some.inj ho
              cases hg
            · obtain rfl := Option.some.inj ho
              cases hg
            · obtain rfl := Option.some.inj ho
              obtain ⟨rfl, rfl⟩ := Prod.mk.inj (Option.some.inj hg)
              exact ⟨⟨_, rfl⟩, ⟨_, rfl⟩, { on := 8, ground := .guard }, by simp, rfl, rfl⟩
            · obtain rfl := Option.some.inj ho
              obtain ⟨rfl, rfl⟩ := Prod.mk.inj (Option.some.inj hg)
              exact ⟨⟨_, rfl⟩, ⟨_, rfl⟩, { on := 8, ground := .guard }, by simp, rfl, rfl⟩
            · obtain rfl := Option.some.inj ho
              obtain ⟨rfl, rfl⟩ := Prod.mk.inj (Option.some.inj hg)
              exact ⟨⟨_, rfl⟩, ⟨_, rfl⟩, { on := 8, ground := .guard }, by simp, rfl, rfl⟩
            · obtain rfl := Option.some.inj ho
              obtain ⟨rfl, rfl⟩ := Prod.mk.inj (Option.some.inj hg)
              exact ⟨⟨_, rfl⟩, ⟨_, rfl⟩, { on := 8, ground := .guard }, by simp, rfl, rfl⟩
            · obtain rfl := Option.some.inj ho
              obtain ⟨rfl, rfl⟩ := Prod.mk.inj (Option.some.inj hg)
              exact ⟨⟨_, rfl⟩, ⟨_, rfl⟩, { on := 8, ground := .guard }, by simp, rfl, rfl⟩
            · obtain rfl := Option.some.inj ho
              obtain ⟨rfl, rfl⟩ := Prod.mk.inj (Option.some.inj hg)
              exact ⟨⟨_, rfl⟩, ⟨_, rfl⟩, { on := 8, ground := .guard }, by simp, rfl, rfl⟩
            · obtain rfl := Option.some.inj ho
              obtain ⟨rfl, rfl⟩ := Prod.mk.inj (Option.some.inj hg)
              exact ⟨⟨_, rfl⟩, ⟨_, rfl⟩, { on := 8, ground := .guard }, by simp, rfl, rfl⟩
            · obtain rfl := Option.some.inj ho
              obtain ⟨rfl, rfl⟩ := Prod.mk.inj (Option.some.inj hg)
              exact ⟨⟨_, rfl⟩, ⟨_, rfl⟩, { on := 8, ground := .guard }, by simp, rfl, rfl⟩
            · obtain rfl := Option.some.inj ho
              obtain ⟨rfl, rfl⟩ := Prod.mk.inj (Option.some.inj hg)
              exact ⟨⟨_, rfl⟩, ⟨_, rfl⟩, { on := 8, ground := .guard }, by simp, rfl, rfl⟩
            · obtain rfl := Option.some.inj ho
              cases hg
            · obtain rfl := Option.some.inj ho
              cases hg
            · obtain rfl := Option.some.inj ho
              cases hg
            · obtain rfl := Option.some.inj ho
              cases hg
            · obtain rfl := Option.some.inj ho
              cases hg
            · obtain rfl := Option.some.inj ho
              cases hg
            · obtain rfl := Option.some.inj ho
              cases hg
            · obtain rfl := Option.some.inj ho
              cases hg
            · obtain rfl := Option.some.inj ho
              obtain ⟨rfl, rfl⟩ := Prod.mk.inj (Option.some.inj hg)
              exact ⟨⟨_, rfl⟩, ⟨_, rfl⟩, { on := 25, ground := .guard }, by simp, rfl, rfl⟩
            · obtain rfl := Option.some.inj ho
              obtain ⟨rfl, rfl⟩ := Prod.mk.inj (Option.some.inj hg)
              exact ⟨⟨_, rfl⟩, ⟨_, rfl⟩, { on := 25, ground := .guard }, by simp, rfl, rfl⟩
            · obtain rfl := Option.some.inj ho
              obtain ⟨rfl, rfl⟩ := Prod.mk.inj (Option.some.inj hg)
              exact ⟨⟨_, rfl⟩, ⟨_, rfl⟩, { on := 25, ground := .guard }, by simp, rfl, rfl⟩
            · obtain rfl := Option.some.inj ho
              obtain ⟨rfl, rfl⟩ := Prod.mk.inj (Option.some.inj hg)
              exact ⟨⟨_, rfl⟩, ⟨_, rfl⟩, { on := 25, ground := .guard }, by simp, rfl, rfl⟩
            · obtain rfl := Option.some.inj ho
              cases hg
            · obtain rfl := Option.some.inj ho
              cases hg
            · obtain rfl := Option.some.inj ho
              cases hg
            · obtain rfl := Option.some.inj ho
              cases hg
            · obtain rfl := Option.some.inj ho
              cases hg
            · obtain rfl := Option.some.inj ho
              cases hg
            · obtain rfl := Option.some.inj ho
              cases hg
          case hstep =>
            intro f a' i o hi ho hgt hun hcl hdep hH
            have hcs : i = 0 ∨ i = 1 ∨ i = 2 ∨ i = 3 ∨ i = 4 ∨ i = 5 ∨ i = 6 ∨ i = 7 ∨ i = 8 ∨ i = 9 ∨ i = 10 ∨ i = 11 ∨ i = 12 ∨ i = 13 ∨ i = 14 ∨ i = 15 ∨ i = 16 ∨ i = 17 ∨ i = 18 ∨ i = 19 ∨ i = 20 ∨ i = 21 ∨ i = 22 ∨ i = 23 ∨ i = 24 ∨ i = 25 ∨ i = 26 ∨ i = 27 ∨ i = 28 ∨ i = 29 ∨ i = 30 ∨ i = 31 ∨ i = 32 ∨ i = 33 ∨ i = 34 ∨ i = 35 ∨ i = 36 := by omega
            rcases hcs with rfl | rfl | rfl | rfl | rfl | rfl | rfl | rfl | rfl | rfl | rfl | rfl | rfl | rfl | rfl | rfl | rfl | rfl | rfl | rfl | rfl | rfl | rfl | rfl | rfl | rfl | rfl | rfl | rfl | rfl | rfl | rfl | rfl | rfl | rfl | rfl | rfl
            · obtain rfl := Option.some.inj ho
              have g0 := Reg.tmp_at (b0 a' _ f hH)
              refine ⟨.value (.pointer (some ⟨g, 0, none⟩)), ?_, .inl rfl⟩
              rw [Reg.wst2_no _ _ _ _ _ f 0 (by decide) (by decide)]
              generalize Reg.wst2 _ _ _ _ _ f = Wx
              go_simp
            · obtain rfl := Option.some.inj ho
              have g0 := Reg.tmp_at (b3 a' _ f hH)
              refine ⟨.value (.pointer (some ⟨gr, 0, none⟩)), ?_, .inl rfl⟩
              rw [Reg.wst2_no _ _ _ _ _ f 1 (by decide) (by decide)]
              generalize Reg.wst2 _ _ _ _ _ f = Wx
              go_simp
            · obtain rfl := Option.some.inj ho
              have g0 := Reg.tmp_at (b0 a' _ f hH)
              refine ⟨.value (.pointer (some ⟨g, 0, none⟩)), ?_, .inl rfl⟩
              rw [Reg.wst2_no _ _ _ _ _ f 2 (by decide) (by decide)]
              generalize Reg.wst2 _ _ _ _ _ f = Wx
              go_simp
            · obtain rfl := Option.some.inj ho
              have g0 : a'.tmps[38]?.getD undef = .pointer (some ⟨g, 0, none⟩) := Reg.tmp_at (hH.got 2 38 (hdep { on := 2, ground := .data } (by simp) rfl) rfl)
              refine ⟨.value (.pointer (some ⟨g, 0, none⟩)), ?_, .inl rfl⟩
              rw [Reg.wst2_no _ _ _ _ _ f 3 (by decide) (by decide)]
              generalize Reg.wst2 _ _ _ _ _ f = Wx
              go_simp
            · obtain rfl := Option.some.inj ho
              have g0 : a'.tmps[39]?.getD undef = .pointer (some ⟨g, 0, none⟩) := Reg.tmp_at (hH.got 3 39 (hdep { on := 3, ground := .data } (by simp) rfl) rfl)
              refine ⟨.value (.pointer (some ⟨g, 1, none⟩)), ?_, .inl rfl⟩
              rw [Reg.wst2_no _ _ _ _ _ f 4 (by decide) (by decide)]
              generalize Reg.wst2 _ _ _ _ _ f = Wx
              go_simp
            · obtain rfl := Option.some.inj ho
              have g0 : a'.tmps[40]?.getD undef = .pointer (some ⟨g, 1, none⟩) := Reg.tmp_at (hH.got 4 40 (hdep { on := 4, ground := .data } (by simp) rfl) rfl)
              have n33 : f 33 = false := by
                cases h : f 33 with
                | false => rfl
                | true =>
                  have h2 := (hcl 33 _ rfl h { on := 5, ground := .phase } (by simp) rfl)
                  rw [hun] at h2; cases h2
              have n36 : f 36 = false := by
                cases h : f 36 with
                | false => rfl
                | true =>
                  have h2 := (hcl 36 _ rfl h { on := 5, ground := .phase } (by simp) rfl)
                  rw [hun] at h2; cases h2
              refine ⟨.value (.slice a1 nq c1), ?_, .inl rfl⟩
              rw [Reg.wst2_no _ _ _ _ _ f 5 (by decide) (by decide), Reg.wst2_none n33 n36]
              go_simp
            · obtain rfl := Option.some.inj ho
              have g0 : a'.tmps[41]?.getD undef = .slice a1 nq c1 := Reg.tmp_at (hH.got 5 41 (hdep { on := 5, ground := .data } (by simp) rfl) rfl)
              refine ⟨.value (.int .i64 (nq : Int)), ?_, .inl rfl⟩
              rw [Reg.wst2_no _ _ _ _ _ f 6 (by decide) (by decide)]
              generalize Reg.wst2 _ _ _ _ _ f = Wx
              go_simp
            · obtain rfl := Option.some.inj ho
              have g0 : a'.tmps[42]?.getD undef = .int .i64 (nq : Int) := Reg.tmp_at (hH.got 6 42 (hdep { on := 6, ground := .data } (by simp) rfl) rfl)
              refine ⟨.value (.bool true), ?_, .inl rfl⟩
              rw [Reg.wst2_no _ _ _ _ _ f 7 (by decide) (by decide)]
              generalize Reg.wst2 _ _ _ _ _ f = Wx
              go_simp
            · obtain rfl := Option.some.inj ho
              have g0 : a'.tmps[43]?.getD undef = .bool true := Reg.tmp_at (hH.got 7 43 (hdep { on := 7, ground := .data } (by simp) rfl) rfl)
              refine ⟨.value (.bool true), ?_, .inl rfl⟩
              rw [Reg.wst2_no _ _ _ _ _ f 8 (by decide) (by decide)]
              generalize Reg.wst2 _ _ _ _ _ f = Wx
              go_simp
            · obtain rfl := Option.some.inj ho
              have g0 := Reg.tmp_at (b1 a' _ f hH)
              refine ⟨.value (.pointer (some ⟨gx, ox, none⟩)), ?_, .inl rfl⟩
              rw [Reg.wst2_no _ _ _ _ _ f 9 (by decide) (by decide)]
              generalize Reg.wst2 _ _ _ _ _ f = Wx
              go_simp
            · obtain rfl := Option.some.inj ho
              have g0 : a'.tmps[45]?.getD undef = .pointer (some ⟨gx, ox, none⟩) := Reg.tmp_at (hH.got 9 45 (hdep { on := 9, ground := .data } (by simp) rfl) rfl)
              refine ⟨.value (.pointer (some ⟨gx, ox, none⟩)), ?_, .inl rfl⟩
              rw [Reg.wst2_no _ _ _ _ _ f 10 (by decide) (by decide)]
              generalize Reg.wst2 _ _ _ _ _ f = Wx
              go_simp
            · obtain rfl := Option.some.inj ho
              have g0 : a'.tmps[46]?.getD undef = .pointer (some ⟨gx, ox, none⟩) := Reg.tmp_at (hH.got 10 46 (hdep { on := 10, ground := .data } (by simp) rfl) rfl)
              refine ⟨.value (.pointer (some ⟨gx, ox, none⟩)), ?_, .inl rfl⟩
              rw [Reg.wst2_no _ _ _ _ _ f 11 (by decide) (by decide)]
              generalize Reg.wst2 _ _ _ _ _ f = Wx
              go_simp
            · obtain rfl := Option.some.inj ho
              have g0 : a'.tmps[47]?.getD undef = .pointer (some ⟨gx, ox, none⟩) := Reg.tmp_at (hH.got 11 47 (hdep { on := 11, ground := .data } (by simp) rfl) rfl)
              have n33 : f 33 = false := by
                cases h : f 33 with
                | false => rfl
                | true =>
                  have h2 := (hcl 33 _ rfl h { on := 12, ground := .phase } (by simp) rfl)
                  rw [hun] at h2; cases h2
              have n36 : f 36 = false := by
                cases h : f 36 with
                | false => rfl
                | true =>
                  have h2 := (hcl 36 _ rfl h { on := 12, ground := .phase } (by simp) rfl)
                  rw [hun] at h2; cases h2
              refine ⟨.value (.bool neg), ?_, .inl rfl⟩
              rw [Reg.wst2_no _ _ _ _ _ f 12 (by decide) (by decide), Reg.wst2_none n33 n36]
              go_simp
            · obtain rfl := Option.some.inj ho
              have g0 := Reg.tmp_at (b2 a' _ f hH)
              refine ⟨.value (.pointer (some ⟨gy, oy, none⟩)), ?_, .inl rfl⟩
              rw [Reg.wst2_no _ _ _ _ _ f 13 (by decide) (by decide)]
              generalize Reg.wst2 _ _ _ _ _ f = Wx
              go_simp
            · obtain rfl := Option.some.inj ho
              have g0 : a'.tmps[49]?.getD undef = .pointer (some ⟨gy, oy, none⟩) := Reg.tmp_at (hH.got 13 49 (hdep { on := 13, ground := .data } (by simp) rfl) rfl)
              refine ⟨.value (.pointer (some ⟨gy, oy, none⟩)), ?_, .inl rfl⟩
              rw [Reg.wst2_no _ _ _ _ _ f 14 (by decide) (by decide)]
              generalize Reg.wst2 _ _ _ _ _ f = Wx
              go_simp
            · obtain rfl := Option.some.inj ho
              have g0 : a'.tmps[50]?.getD undef = .pointer (some ⟨gy, oy, none⟩) := Reg.tmp_at (hH.got 14 50 (hdep { on := 14, ground := .data } (by simp) rfl) rfl)
              refine ⟨.value (.pointer (some ⟨gy, oy, none⟩)), ?_, .inl rfl⟩
              rw [Reg.wst2_no _ _ _ _ _ f 15 (by decide) (by decide)]
              generalize Reg.wst2 _ _ _ _ _ f = Wx
              go_simp
            · obtain rfl := Option.some.inj ho
              have g0 : a'.tmps[51]?.getD undef = .pointer (some ⟨gy, oy, none⟩) := Reg.tmp_at (hH.got 15 51 (hdep { on := 15, ground := .data } (by simp) rfl) rfl)
              have n33 : f 33 = false := by
                cases h : f 33 with
                | false => rfl
                | true =>
                  have h2 := (hcl 33 _ rfl h { on := 16, ground := .phase } (by simp) rfl)
                  rw [hun] at h2; cases h2
              have n36 : f 36 = false := by
                cases h : f 36 with
                | false => rfl
                | true =>
                  have h2 := (hcl 36 _ rfl h { on := 16, ground := .phase } (by simp) rfl)
                  rw [hun] at h2; cases h2
              refine ⟨.value (.bool yneg), ?_, .inl rfl⟩
              rw [Reg.wst2_no _ _ _ _ _ f 16 (by decide) (by decide), Reg.wst2_none n33 n36]
              go_simp
            · obtain rfl := Option.some.inj ho
              have g0 : a'.tmps[48]?.getD undef = .bool neg := Reg.tmp_at (hH.got 12 48 (hdep { on := 12, ground := .data } (by simp) rfl) rfl)
              have g1 : a'.tmps[52]?.getD undef = .bool yneg := Reg.tmp_at (hH.got 16 52 (hdep { on := 16, ground := .data } (by simp) rfl) rfl)
              refine ⟨.value (.bool (neg != yneg)), ?_, .inl rfl⟩
              rw [Reg.wst2_no _ _ _ _ _ f 17 (by decide) (by decide)]
              generalize Reg.wst2 _ _ _ _ _ f = Wx
              go_simp
              cases neg <;> cases yneg <;> rfl
            · obtain rfl := Option.some.inj ho
              have g0 : a'.tmps[44]?.getD undef = .bool true := Reg.tmp_at (hH.got 8 44 (hdep { on := 8, ground := .data } (by simp) rfl) rfl)
              have g1 : a'.tmps[53]?.getD undef = .bool (neg != yneg) := Reg.tmp_at (hH.got 17 53 (hdep { on := 17, ground := .data } (by simp) rfl) rfl)
              refine ⟨.value (.bool (neg != yneg)), ?_, .inl rfl⟩
              rw [Reg.wst2_no _ _ _ _ _ f 18 (by decide) (by decide)]
              generalize Reg.wst2 _ _ _ _ _ f = Wx
              go_simp
            · obtain rfl := Option.some.inj ho
              have g0 := Reg.tmp_at (b3 a' _ f hH)
              refine ⟨.value (.pointer (some ⟨gr, 0, none⟩)), ?_, .inl rfl⟩
              rw [Reg.wst2_no _ _ _ _ _ f 19 (by decide) (by decide)]
              generalize Reg.wst2 _ _ _ _ _ f = Wx
              go_simp
            · obtain rfl := Option.some.inj ho
              have g0 : a'.tmps[55]?.getD undef = .pointer (some ⟨gr, 0, none⟩) := Reg.tmp_at (hH.got 19 55 (hdep { on := 19, ground := .data } (by simp) rfl) rfl)
              refine ⟨.value (.pointer (some ⟨gr, 0, none⟩)), ?_, .inl rfl⟩
              rw [Reg.wst2_no _ _ _ _ _ f 20 (by decide) (by decide)]
              generalize Reg.wst2 _ _ _ _ _ f = Wx
              go_simp
            · obtain rfl := Option.some.inj ho
              have g0 : a'.tmps[56]?.getD undef = .pointer (some ⟨gr, 0, none⟩) := Reg.tmp_at (hH.got 20 56 (hdep { on := 20, ground := .data } (by simp) rfl) rfl)
              refine ⟨.value (.pointer (some ⟨gr, 1, none⟩)), ?_, .inl rfl⟩
              rw [Reg.wst2_no _ _ _ _ _ f 21 (by decide) (by decide)]
              generalize Reg.wst2 _ _ _ _ _ f = Wx
              go_simp
            · obtain rfl := Option.some.inj ho
              have g0 : a'.tmps[57]?.getD undef = .pointer (some ⟨gr, 1, none⟩) := Reg.tmp_at (hH.got 21 57 (hdep { on := 21, ground := .data } (by simp) rfl) rfl)
              have n33 : f 33 = false := by
                cases h : f 33 with
                | false => rfl
                | true =>
                  have h2 := (hcl 33 _ rfl h { on := 22, ground := .phase } (by simp) rfl)
                  rw [hun] at h2; cases h2
              have n36 : f 36 = false := by
                cases h : f 36 with
                | false => rfl
                | true =>
                  have h2 := (hcl 36 _ rfl h { on := 22, ground := .phase } (by simp) rfl)
                  rw [hun] at h2; cases h2
              refine ⟨.value (.slice a2 0 c2), ?_, .inl rfl⟩
              rw [Reg.wst2_no _ _ _ _ _ f 22 (by decide) (by decide), Reg.wst2_none n33 n36]
              go_simp
            · obtain rfl := Option.some.inj ho
              have g0 : a'.tmps[58]?.getD undef = .slice a2 0 c2 := Reg.tmp_at (hH.got 22 58 (hdep { on := 22, ground := .data } (by simp) rfl) rfl)
              refine ⟨.value (.int .i64 0), ?_, .inl rfl⟩
              rw [Reg.wst2_no _ _ _ _ _ f 23 (by decide) (by decide)]
              generalize Reg.wst2 _ _ _ _ _ f = Wx
              go_simp
            · obtain rfl := Option.some.inj ho
              have g0 : a'.tmps[59]?.getD undef = .int .i64 0 := Reg.tmp_at (hH.got 23 59 (hdep { on := 23, ground := .data } (by simp) rfl) rfl)
              refine ⟨.value (.bool false), ?_, .inl rfl⟩
              rw [Reg.wst2_no _ _ _ _ _ f 24 (by decide) (by decide)]
              generalize Reg.wst2 _ _ _ _ _ f = Wx
              go_simp
            · obtain rfl := Option.some.inj ho
              have g0 : a'.tmps[60]?.getD undef = .bool false := Reg.tmp_at (hH.got 24 60 (hdep { on := 24, ground := .data } (by simp) rfl) rfl)
              refine ⟨.value (.bool false), ?_, .inl rfl⟩
              rw [Reg.wst2_no _ _ _ _ _ f 25 (by decide) (by decide)]
              generalize Reg.wst2 _ _ _ _ _ f = Wx
              go_simp
            · obtain rfl := Option.some.inj ho
              cases hgt
            · obtain rfl := Option.some.inj ho
              cases hgt
            · obtain rfl := Option.some.inj ho
              cases hgt
            · obtain rfl := Option.some.inj ho
              cases hgt
            · obtain rfl := Option.some.inj ho
              have g0 : a'.tmps[61]?.getD undef = .bool false := Reg.tmp_at (hH.got 25 61 (hdep { on := 25, ground := .data } (by simp) rfl) rfl)
              have g1 : a'.tmps[65]?.getD undef = undef := Reg.tmp_at (hH.got 29 65 (hdep { on := 29, ground := .data } (by simp) rfl) rfl)
              refine ⟨.value (.bool false), ?_, .inl rfl⟩
              rw [Reg.wst2_no _ _ _ _ _ f 30 (by decide) (by decide)]
              generalize Reg.wst2 _ _ _ _ _ f = Wx
              go_simp
            · obtain rfl := Option.some.inj ho
              have g0 : a'.tmps[36]?.getD undef = .pointer (some ⟨g, 0, none⟩) := Reg.tmp_at (hH.got 0 36 (hdep { on := 0, ground := .data } (by simp) rfl) rfl)
              refine ⟨.value (.pointer (some ⟨g, 0, none⟩)), ?_, .inl rfl⟩
              rw [Reg.wst2_no _ _ _ _ _ f 31 (by decide) (by decide)]
              generalize Reg.wst2 _ _ _ _ _ f = Wx
              go_simp
            · obtain rfl := Option.some.inj ho
              have g0 : a'.tmps[67]?.getD undef = .pointer (some ⟨g, 0, none⟩) := Reg.tmp_at (hH.got 31 67 (hdep { on := 31, ground := .data } (by simp) rfl) rfl)
              refine ⟨.value (.pointer (some ⟨g, 0, none⟩)), ?_, .inl rfl⟩
              rw [Reg.wst2_no _ _ _ _ _ f 32 (by decide) (by decide)]
              generalize Reg.wst2 _ _ _ _ _ f = Wx
              go_simp
            · obtain rfl := Option.some.inj ho
              have g0 : a'.tmps[68]?.getD undef = .pointer (some ⟨g, 0, none⟩) := Reg.tmp_at (hH.got 32 68 (hdep { on := 32, ground := .data } (by simp) rfl) rfl)
              have g1 : a'.tmps[54]?.getD undef = .bool (neg != yneg) := Reg.tmp_at (hH.got 18 54 (hdep { on := 18, ground := .data } (by simp) rfl) rfl)
              have n36 : f 36 = false := by
                cases h : f 36 with
                | false => rfl
                | true =>
                  have h2 := (hcl 36 _ rfl h { on := 33, ground := .chain } (by simp) rfl)
                  rw [hun] at h2; cases h2
              refine ⟨.skip, ?_, .inr ⟨rfl, rfl⟩⟩
              rw [Reg.wst2_first n36 (by decide), Reg.wst2_none hun n36]
              go_simp
            · obtain rfl := Option.some.inj ho
              have g0 : a'.tmps[37]?.getD undef = .pointer (some ⟨gr, 0, none⟩) := Reg.tmp_at (hH.got 1 37 (hdep { on := 1, ground := .data } (by simp) rfl) rfl)
              refine ⟨.value (.pointer (some ⟨gr, 0, none⟩)), ?_, .inl rfl⟩
              rw [Reg.wst2_no _ _ _ _ _ f 34 (by decide) (by decide)]
              generalize Reg.wst2 _ _ _ _ _ f = Wx
              go_simp
            · obtain rfl := Option.some.inj ho
              have g0 : a'.tmps[69]?.getD undef = .pointer (some ⟨gr, 0, none⟩) := Reg.tmp_at (hH.got 34 69 (hdep { on := 34, ground := .data } (by simp) rfl) rfl)
              refine ⟨.value (.pointer (some ⟨gr, 0, none⟩)), ?_, .inl rfl⟩
              rw [Reg.wst2_no _ _ _ _ _ f 35 (by decide) (by decide)]
              generalize Reg.wst2 _ _ _ _ _ f = Wx
              go_simp
            · obtain rfl := Option.some.inj ho
              have g0 : a'.tmps[70]?.getD undef = .pointer (some ⟨gr, 0, none⟩) := Reg.tmp_at (hH.got 35 70 (hdep { on := 35, ground := .data } (by simp) rfl) rfl)
              have g1 : a'.tmps[66]?.getD undef = .bool false := Reg.tmp_at (hH.got 30 66 (hdep { on := 30, ground := .data } (by simp) rfl) rfl)
              have d33 : f 33 = true := (hdep { on := 33, ground := .chain } (by simp) rfl)
              refine ⟨.skip, ?_, .inr ⟨rfl, rfl⟩⟩
              rw [Reg.wst2_second, Reg.wst2_one d33 hun]
              go_simp
          case hskip =>
            intro i o ho hgt
            have hi : i < 37 := (Array.getElem?_eq_some_iff.1 ho).1
            have hcs : i = 0 ∨ i = 1 ∨ i = 2 ∨ i = 3 ∨ i = 4 ∨ i = 5 ∨ i = 6 ∨ i = 7 ∨ i = 8 ∨ i = 9 ∨ i = 10 ∨ i = 11 ∨ i = 12 ∨ i = 13 ∨ i = 14 ∨ i = 15 ∨ i = 16 ∨ i = 17 ∨ i = 18 ∨ i = 19 ∨ i = 20 ∨ i = 21 ∨ i = 22 ∨ i = 23 ∨ i = 24 ∨ i = 25 ∨ i = 26 ∨ i = 27 ∨ i = 28 ∨ i = 29 ∨ i = 30 ∨ i = 31 ∨ i = 32 ∨ i = 33 ∨ i = 34 ∨ i = 35 ∨ i = 36 := by omega
            rcases hcs with rfl | rfl | rfl | rfl | rfl | rfl | rfl | rfl | rfl | rfl | rfl | rfl | rfl | rfl | rfl | rfl | rfl | rfl | rfl | rfl | rfl | rfl | rfl | rfl | rfl | rfl | rfl | rfl | rfl | rfl | rfl | rfl | rfl | rfl | rfl | rfl | rfl
            · obtain rfl := Option.some.inj ho
              exact absurd rfl hgt
            · obtain rfl := Option.some.inj ho
              exact absurd rfl hgt
            · obtain rfl := Option.some.inj ho
              exact absurd rfl hgt
            · obtain rfl := Option.some.inj ho
              exact absurd rfl hgt
            · obtain rfl := Option.some.inj ho
              exact absurd rfl hgt
            · obtain rfl := Option.some.inj ho
              exact absurd rfl hgt
            · obtain rfl := Option.some.inj ho
              exact absurd rfl hgt
            · obtain rfl := Option.some.inj ho
              exact absurd rfl hgt
            · obtain rfl := Option.some.inj ho
              exact absurd rfl hgt
            · obtain rfl := Option.some.inj ho
              exact absurd rfl hgt
            · obtain rfl := Option.some.inj ho
              exact absurd rfl hgt
            · obtain rfl := Option.some.inj ho
              exact absurd rfl hgt
            · obtain rfl := Option.some.inj ho
              exact absurd rfl hgt
            · obtain rfl := Option.some.inj ho
              exact absurd rfl hgt
            · obtain rfl := Option.some.inj ho
              exact absurd rfl hgt
            · obtain rfl := Option.some.inj ho
              exact absurd rfl hgt
            · obtain rfl := Option.some.inj ho
              exact absurd rfl hgt
            · obtain rfl := Option.some.inj ho
              exact absurd rfl hgt
            · obtain rfl := Option.some.inj ho
              exact absurd rfl hgt
            · obtain rfl := Option.some.inj ho
              exact absurd rfl hgt
            · obtain rfl := Option.some.inj ho
              exact absurd rfl hgt
            · obtain rfl := Option.some.inj ho
              exact absurd rfl hgt
            · obtain rfl := Option.some.inj ho
              exact absurd rfl hgt
            · obtain rfl := Option.some.inj ho
              exact absurd rfl hgt
            · obtain rfl := Option.some.inj ho
              exact absurd rfl hgt
            · obtain rfl := Option.some.inj ho
              exact absurd rfl hgt
            · obtain rfl := Option.some.inj ho
              exact ⟨rfl, rfl, fun f => Reg.wst2_no _ _ _ _ _ f 26 (by decide) (by decide)⟩
            · obtain rfl := Option.some.inj ho
              exact ⟨rfl, rfl, fun f => Reg.wst2_no _ _ _ _ _ f 27 (by decide) (by decide)⟩
            · obtain rfl := Option.some.inj ho
              exact ⟨rfl, rfl, fun f => Reg.wst2_no _ _ _ _ _ f 28 (by decide) (by decide)⟩
            · obtain rfl := Option.some.inj ho
              exact ⟨rfl, rfl, fun f => Reg.wst2_no _ _ _ _ _ f 29 (by decide) (by decide)⟩
            · obtain rfl := Option.some.inj ho
              exact absurd rfl hgt
            · obtain rfl := Option.some.inj ho
              exact absurd rfl hgt
            · obtain rfl := Option.some.inj ho
              exact absurd rfl hgt
            · obtain rfl := Option.some.inj ho
              exact absurd rfl hgt
            · obtain rfl := Option.some.inj ho
              exact absurd rfl hgt
            · obtain rfl := Option.some.inj ho
              exact absurd rfl hgt
            · obtain rfl := Option.some.inj ho
              exact absurd rfl hgt
          case hwe => rfl
        case h2 =>
          simp only [Reg.fill, Reg.dstOf, Reg.valOf, List.getD_cons_zero, List.getD_cons_succ, Act.put]
          simp [List.setIfInBounds_toArray, List.set_cons_succ, List.set_cons_zero]
          go_wp2
          go_ret2
          rw [hQ0, hR0]
          simp only [Bool.false_and, Bool.true_and]
          exact ⟨rfl, hf3.out.1, hf3.out.2.1, Box.below_drawn hf3.out.2.2 1⟩
      · have hR0 : decide (0 < R) = true := by simp; omega
        have br : decide ((0 : Int) < (nr : Int)) = true := by simp; omega
        have br' : decide (0 < nr) = true := by simp; omega
        have hf2 := hfin.out
        rw [hQ0, hR0] at hf2
        simp only [Bool.true_and] at hf2
        have hf3 := Lib.hid hf2
        clear hfin hf2
        refine Reg.via (Reg.fill (Reg.dstOf (some 36 :: some 37 :: some 38 :: some 39 :: some 40 :: some 41 :: some 42 :: some 43 :: some 44 :: some 45 :: some 46 :: some 47 :: some 48 :: some 49 :: some 50 :: some 51 :: some 52 :: some 53 :: some 54 :: some 55 :: some 56 :: some 57 :: some 58 :: some 59 :: some 60 :: some 61 :: some 62 :: some 63 :: some 64 :: some 65 :: some 66 :: some 67 :: some 68 :: none :: some 69 :: some 70 :: none :: [])) (Reg.valOf (.pointer (some ⟨g, 0, none⟩) :: .pointer (some ⟨gr, 0, none⟩) :: .pointer (some ⟨g, 0, none⟩) :: .pointer (some ⟨g, 0, none⟩) :: .pointer (some ⟨g, 1, none⟩) :: .slice a1 nq c1 :: .int .i64 (nq : Int) :: .bool true :: .bool true :: .pointer (some ⟨gx, ox, none⟩) :: .pointer (some ⟨gx, ox, none⟩) :: .pointer (some ⟨gx, ox, none⟩) :: .bool neg :: .pointer (some ⟨gy, oy, none⟩) :: .pointer (some ⟨gy, oy, none⟩) :: .pointer (some ⟨gy, oy, none⟩) :: .bool yneg :: .bool (neg != yneg) :: .bool (neg != yneg) :: .pointer (some ⟨gr, 0, none⟩) :: .pointer (some ⟨gr, 0, none⟩) :: .pointer (some ⟨gr, 1, none⟩) :: .slice a2 nr c2 :: .int .i64 (nr : Int) :: .bool true :: .bool true :: .pointer (some ⟨gx, ox, none⟩) :: .pointer (some ⟨gx, ox, none⟩) :: .pointer (some ⟨gx, ox, none⟩) :: .bool neg :: .bool neg :: .pointer (some ⟨g, 0, none⟩) :: .pointer (some ⟨g, 0, none⟩) :: undef :: .pointer (some ⟨gr, 0, none⟩) :: .pointer (some ⟨gr, 0, none⟩) :: undef :: [])) 37) (fun a0 => a0.tmps.size = 73 ∧ a0.eval (.tmp 0) = .pointer (some ⟨g, 0, none⟩) ∧ a0.eval (.tmp 1) = .pointer (some ⟨gx, ox, none⟩) ∧ a0.eval (.tmp 2) = .pointer (some ⟨gy, oy, none⟩) ∧ a0.eval (.tmp 3) = .pointer (some ⟨gr, 0, none⟩)) ⟨rfl, rfl, rfl, rfl, rfl⟩ (W2 := (wb.drew.setCell ⟨g, 0, none⟩ (.bool (neg != yneg))).setCell ⟨gr, 0, none⟩ (.bool neg)) ?h1 ?h2
        case h1 =>
          go_light
          clear hf3
          rintro af Q' ⟨z, e0, e1, e2, e3⟩ hQ
          have b0 : ∀ a' v f, Reg.Held af (Reg.dstOf (some 36 :: some 37 :: some 38 :: some 39 :: some 40 :: some 41 :: some 42 :: some 43 :: some 44 :: some 45 :: some 46 :: some 47 :: some 48 :: some 49 :: some 50 :: some 51 :: some 52 :: some 53 :: some 54 :: some 55 :: some 56 :: some 57 :: some 58 :: some 59 :: some 60 :: some 61 :: some 62 :: some 63 :: some 64 :: some 65 :: some 66 :: some 67 :: some 68 :: none :: some 69 :: some 70 :: none :: [])) v f a' → a'.eval (.tmp 0) = .pointer (some ⟨g, 0, none⟩) := fun a' v f hH => (hH.rest 0 fun k d _ hd => Reg.dstOf_ne _ 0 (by decide +kernel) hd).trans e0
          have b1 : ∀ a' v f, Reg.Held af (Reg.dstOf (some 36 :: some 37 :: some 38 :: some 39 :: some 40 :: some 41 :: some 42 :: some 43 :: some 44 :: some 45 :: some 46 :: some 47 :: some 48 :: some 49 :: some 50 :: some 51 :: some 52 :: some 53 :: some 54 :: some 55 :: some 56 :: some 57 :: some 58 :: some 59 :: some 60 :: some 61 :: some 62 :: some 63 :: some 64 :: some 65 :: some 66 :: some 67 :: some 68 :: none :: some 69 :: some 70 :: none :: [])) v f a' → a'.eval (.tmp 1) = .pointer (some ⟨gx, ox, none⟩) := fun a' v f hH => (hH.rest 1 fun k d _ hd => Reg.dstOf_ne _ 1 (by decide +kernel) hd).trans e1
          have b2 : ∀ a' v f, Reg.Held af (Reg.dstOf (some 36 :: some 37 :: some 38 :: some 39 :: some 40 :: some 41 :: some 42 :: some 43 :: some 44 :: some 45 :: some 46 :: some 47 :: some 48 :: some 49 :: some 50 :: some 51 :: some 52 :: some 53 :: some 54 :: some 55 :: some 56 :: some 57 :: some 58 :: some 59 :: some 60 :: some 61 :: some 62 :: some 63 :: some 64 :: some 65 :: some 66 :: some 67 :: some 68 :: none :: some 69 :: some 70 :: none :: [])) v f a' → a'.eval (.tmp 2) = .pointer (some ⟨gy, oy, none⟩) := fun a' v f hH => (hH.rest 2 fun k d _ hd => Reg.dstOf_ne _ 2 (by decide +kernel) hd).trans e2
          have b3 : ∀ a' v f, Reg.Held af (Reg.dstOf (some 36 :: some 37 :: some 38 :: some 39 :: some 40 :: some 41 :: some 42 :: some 43 :: some 44 :: some 45 :: some 46 :: some 47 :: some 48 :: some 49 :: some 50 :: some 51 :: some 52 :: some 53 :: some 54 :: some 55 :: some 56 :: some 57 :: some 58 :: some 59 :: some 60 :: some 61 :: some 62 :: some 63 :: some 64 :: some 65 :: some 66 :: some 67 :: some 68 :: none :: some 69 :: some 70 :: none :: [])) v f a' → a'.eval (.tmp 3) = .pointer (some ⟨gr, 0, none⟩) := fun a' v f hH => (hH.rest 3 fun k d _ hd => Reg.dstOf_ne _ 3 (by decide +kernel) hd).trans e3
          have rz : (wb.drew.setCell ⟨g, 0, none⟩ (.bool (neg != yneg))).frozen? ⟨gr, 0, none⟩ = false := by simpa using rf0
          have rc : (wb.drew.setCell ⟨g, 0, none⟩ (.bool (neg != yneg))).cell? ⟨gr, 0, none⟩ = some (.bool false) := by rw [World.cell?_setCell_other _ _ _ _ (fun e => hgne (congrArg Addr.block e))]; exact re0
          refine Reg.wp_region_guard (by kernel_rfl) (by decide +kernel) 37 rfl (Reg.dstOf (some 36 :: some 37 :: some 38 :: some 39 :: some 40 :: some 41 :: some 42 :: some 43 :: some 44 :: some 45 :: some 46 :: some 47 :: some 48 :: some 49 :: some 50 :: some 51 :: some 52 :: some 53 :: some 54 :: some 55 :: some 56 :: some 57 :: some 58 :: some 59 :: some 60 :: some 61 :: some 62 :: some 63 :: some 64 :: some 65 :: some 66 :: some 67 :: some 68 :: none :: some 69 :: some 70 :: none :: [])) (Reg.valOf (.pointer (some ⟨g, 0, none⟩) :: .pointer (some ⟨gr, 0, none⟩) :: .pointer (some ⟨g, 0, none⟩) :: .pointer (some ⟨g, 0, none⟩) :: .pointer (some ⟨g, 1, none⟩) :: .slice a1 nq c1 :: .int .i64 (nq : Int) :: .bool true :: .bool true :: .pointer (some ⟨gx, ox, none⟩) :: .pointer (some ⟨gx, ox, none⟩) :: .pointer (some ⟨gx, ox, none⟩) :: .bool neg :: .pointer (some ⟨gy, oy, none⟩) :: .pointer (some ⟨gy, oy, none⟩) :: .pointer (some ⟨gy, oy, none⟩) :: .bool yneg :: .bool (neg != yneg) :: .bool (neg != yneg) :: .pointer (some ⟨gr, 0, none⟩) :: .pointer (some ⟨gr, 0, none⟩) :: .pointer (some ⟨gr, 1, none⟩) :: .slice a2 nr c2 :: .int .i64 (nr : Int) :: .bool true :: .bool true :: .pointer (some ⟨gx, ox, none⟩) :: .pointer (some ⟨gx, ox, none⟩) :: .pointer (some ⟨gx, ox, none⟩) :: .bool neg :: .bool neg :: .pointer (some ⟨g, 0, none⟩) :: .pointer (some ⟨g, 0, none⟩) :: undef :: .pointer (some ⟨gr, 0, none⟩) :: .pointer (some ⟨gr, 0, none⟩) :: undef :: [])) (Reg.wst2 33 36 (wb.drew) (wb.drew.setCell ⟨g, 0, none⟩ (.bool (neg != yneg))) ((wb.drew.setCell ⟨g, 0, none⟩ (.bool (neg != yneg))).setCell ⟨gr, 0, none⟩ (.bool neg))) rfl ?hops (Reg.dstOf_inj _ (by decide +kernel)) (fun k d hd => by rw [z]; exact Reg.dstOf_lt _ 73 (by decide +kernel) hd) ?hguard ?hstep ?hskip ?hwe hQ
          case hops =>
            intro i o ho
            have hi : i < 37 := (Array.getElem?_eq_some_iff.1 ho).1
            have hcs : i = 0 ∨ i = 1 ∨ i = 2 ∨ i = 3 ∨ i = 4 ∨ i = 5 ∨ i = 6 ∨ i = 7 ∨ i = 8 ∨ i = 9 ∨ i = 10 ∨ i = 11 ∨ i = 12 ∨ i = 13 ∨ i = 14 ∨ i = 15 ∨ i = 16 ∨ i = 17 ∨ i = 18 ∨ i = 19 ∨ i = 20 ∨ i = 21 ∨ i = 22 ∨ i = 23 ∨ i = 24 ∨ i = 25 ∨ i = 26 ∨ i = 27 ∨ i = 28 ∨ i = 29 ∨ i = 30 ∨ i = 31 ∨ i = 32 ∨ i = 33 ∨ i = 34 ∨ i = 35 ∨ i = 36 := by omega
            rcases hcs with rfl | rfl | rfl | rfl | rfl | rfl | rfl | rfl | rfl | rfl | rfl | rfl | rfl | rfl | rfl | rfl | rfl | rfl | rfl | rfl | rfl | rfl | rfl | rfl | rfl | rfl | rfl | rfl | rfl | rfl | rfl | rfl | rfl | rfl | rfl | rfl | rfl
            all_goals
              obtain rfl := Option.some.inj ho
              rfl
          case hguard =>
            intro i o p want ho hg
            have hi : i < 37 := (Array.getElem?_eq_some_iff.1 ho).1
            have hcs : i = 0 ∨ i = 1 ∨ i = 2 ∨ i = 3 ∨ i = 4 ∨ i = 5 ∨ i = 6 ∨ i = 7 ∨ i = 8 ∨ i = 9 ∨ i = 10 ∨ i = 11 ∨ i = 12 ∨ i = 13 ∨ i = 14 ∨ i = 15 ∨ i = 16 ∨ i = 17 ∨ i = 18 ∨ i = 19 ∨ i = 20 ∨ i = 21 ∨ i = 22 ∨ i = 23 ∨ i = 24 ∨ i = 25 ∨ i = 26 ∨ i = 27 ∨ i = 28 ∨ i = 29 ∨ i = 30 ∨ i = 31 ∨ i = 32 ∨ i = 33 ∨ i = 34 ∨ i = 35 ∨ i = 36 := by omega
            rcases hcs with rfl | rfl | rfl | rfl | rfl | rfl | rfl | rfl | rfl | rfl | rfl | rfl | rfl | rfl | rfl | rfl | rfl | rfl | rfl | rfl | rfl | rfl | rfl | rfl | rfl | rfl | rfl | rfl | rfl | rfl | rfl | rfl | rfl | rfl | rfl | rfl | rfl
            · obtain rfl := Option.some.inj ho
              cases hg
            · obtain rfl := Option.some.inj ho
              cases hg
            · obtain rfl := Option.some.inj ho
              cases hg
            · obtain rfl := Option.some.inj ho
              cases hg
            · obtain rfl := Option.some.inj ho
              cases hg
            · obtain rfl := Option.some.inj ho
              cases hg
            · obtain rfl := Option.some.inj ho
              cases hg
            · obtain rfl := Option.some.inj ho
              cases hg
            · obtain rfl := Option.some.inj ho
              cases hg
            · obtain rfl := Option.some.inj ho
              obtain ⟨rfl, rfl⟩ := Prod.mk.inj (Option.some.inj hg)
              exact ⟨⟨_, rfl⟩, ⟨_, rfl⟩, { on := 8, ground := .guard }, by simp, rfl, rfl⟩
            · obtain rfl := Option.some.inj ho
              obtain ⟨rfl, rfl⟩ := Prod.mk.inj (Option.some.inj hg)
              exact ⟨⟨_, rfl⟩, ⟨_, rfl⟩, { on := 8, ground := .guard }, by simp, rfl, rfl⟩
            · obtain rfl := Option.some.inj ho
              obtain ⟨rfl, rfl⟩ := Prod.mk.inj (Option.some.inj hg)
              exact ⟨⟨_, rfl⟩, ⟨_, rfl⟩, { on := 8, ground := .guard }, by simp, rfl, rfl⟩
            · obtain rfl := Option.some.inj ho
              obtain ⟨rfl, rfl⟩ := Prod.mk.inj (Option.some.inj hg)
              exact ⟨⟨_, rfl⟩, ⟨_, rfl⟩, { on := 8, ground := .guard }, by simp, rfl, rfl⟩
            · obtain rfl := Option.some.inj ho
              obtain ⟨rfl, rfl⟩ := Prod.mk.inj (Option.some.inj hg)
              exact ⟨⟨_, rfl⟩, ⟨_, rfl⟩, { on := 8, ground := .guard }, by simp, rfl, rfl⟩
            · obtain rfl := Option.some.inj ho
              obtain ⟨rfl, rfl⟩ := Prod.mk.inj (Option.some.inj hg)
              exact ⟨⟨_, rfl⟩, ⟨_, rfl⟩, { on := 8, ground := .guard }, by simp, rfl, rfl⟩
            · obtain rfl := Option.some.inj ho
              obtain ⟨rfl, rfl⟩ := Prod.mk.inj (Option.some.inj hg)
              exact ⟨⟨_, rfl⟩, ⟨_, rfl⟩, { on := 8, ground := .guard }, by simp, rfl, rfl⟩
            · obtain rfl := Option.some.inj ho
              obtain ⟨rfl, rfl⟩ := Prod.mk.inj (Option.some.inj hg)
              exact ⟨⟨_, rfl⟩, ⟨_, rfl⟩, { on := 8, ground := .guard }, by simp, rfl, rfl⟩
            · obtain rfl := Option.some.inj ho
              obtain ⟨rfl, rfl⟩ := Prod.mk.inj (Option.some.inj hg)
              exact ⟨⟨_, rfl⟩, ⟨_, rfl⟩, { on := 8, ground := .guard }, by simp, rfl, rfl⟩
            · obtain rfl := Option.some.inj ho
              cases hg
            · obtain rfl := Option.some.inj ho
              cases hg
            · obtain rfl := Option.some.inj ho
              cases hg
            · obtain rfl := Option.some.inj ho
              cases hg
            · obtain rfl := Option.some.inj ho
              cases hg
            · obtain rfl := Option.some.inj ho
              cases hg
            · obtain rfl := Option.some.inj ho
              cases hg
            · obtain rfl := Option.some.inj ho
              cases hg
            · obtain rfl := Option.some.inj ho
              obtain ⟨rfl, rfl⟩ := Prod.mk.inj (Option.some.inj hg)
              exact ⟨⟨_, rfl⟩, ⟨_, rfl⟩, { on := 25, ground := .guard }, by simp, rfl, rfl⟩
            · obtain rfl := Option.some.inj ho
              obtain ⟨rfl, rfl⟩ := Prod.mk.inj (Option.some.inj hg)
              exact ⟨⟨_, rfl⟩, ⟨_, rfl⟩, { on := 25, ground := .guard }, by simp, rfl, rfl⟩
            · obtain rfl := Option.some.inj ho
              obtain ⟨rfl, rfl⟩ := Prod.mk.inj (Option.some.inj hg)
              exact ⟨⟨_, rfl⟩, ⟨_, rfl⟩, { on := 25, ground := .guard }, by simp, rfl, rfl⟩
            · obtain rfl := Option.some.inj ho
              obtain ⟨rfl, rfl⟩ := Prod.mk.inj (Option.some.inj hg)
              exact ⟨⟨_, rfl⟩, ⟨_, rfl⟩, { on := 25, ground := .guard }, by simp, rfl, rfl⟩
            · obtain rfl := Option.some.inj ho
              cases hg
            · obtain rfl := Option.some.inj ho
              cases hg
            · obtain rfl := Option.some.inj ho
              cases hg
            · obtain rfl := Option.some.inj ho
              cases hg
            · obtain rfl := Option.some.inj ho
              cases hg
            · obtain rfl := Option.some.inj ho
              cases hg
            · obtain rfl := Option.some.inj ho
              cases hg
          case hstep =>
            intro f a' i o hi ho hgt hun hcl hdep hH
            have hcs : i = 0 ∨ i = 1 ∨ i = 2 ∨ i = 3 ∨ i = 4 ∨ i = 5 ∨ i = 6 ∨ i = 7 ∨ i = 8 ∨ i = 9 ∨ i = 10 ∨ i = 11 ∨ i = 12 ∨ i = 13 ∨ i = 14 ∨ i = 15 ∨ i = 16 ∨ i = 17 ∨ i = 18 ∨ i = 19 ∨ i = 20 ∨ i = 21 ∨ i = 22 ∨ i = 23 ∨ i = 24 ∨ i = 25 ∨ i = 26 ∨ i = 27 ∨ i = 28 ∨ i = 29 ∨ i = 30 ∨ i = 31 ∨ i = 32 ∨ i = 33 ∨ i = 34 ∨ i = 35 ∨ i = 36 := by omega
            rcases hcs with rfl | rfl | rfl | rfl | rfl | rfl | rfl | rfl | rfl | rfl | rfl | rfl | rfl | rfl | rfl | rfl | rfl | rfl | rfl | rfl | rfl | rfl | rfl | rfl | rfl | rfl | rfl | rfl | rfl | rfl | rfl | rfl | rfl | rfl | rfl | rfl | rfl
            · obtain rfl := Option.some.inj ho
              have g0 := Reg.tmp_at (b0 a' _ f hH)
              refine ⟨.value (.pointer (some ⟨g, 0, none⟩)), ?_, .inl rfl⟩
              rw [Reg.wst2_no _ _ _ _ _ f 0 (by decide) (by decide)]
              generalize Reg.wst2 _ _ _ _ _ f = Wx
              go_simp
            · obtain rfl := Option.some.inj ho
              have g0 := Reg.tmp_at (b3 a' _ f hH)
              refine ⟨.value (.pointer (some ⟨gr, 0, none⟩)), ?_, .inl rfl⟩
              rw [Reg.wst2_no _ _ _ _ _ f 1 (by decide) (by decide)]
              generalize Reg.wst2 _ _ _ _ _ f = Wx
              go_simp
            · obtain rfl := Option.some.inj ho
              have g0 := Reg.tmp_at (b0 a' _ f hH)
              refine ⟨.value (.pointer (some ⟨g, 0, none⟩)), ?_, .inl rfl⟩
              rw [Reg.wst2_no _ _ _ _ _ f 2 (by decide) (by decide)]
              generalize Reg.wst2 _ _ _ _ _ f = Wx
              go_simp
            · obtain rfl := Option.some.inj ho
              have g0 : a'.tmps[38]?.getD undef = .pointer (some ⟨g, 0, none⟩) := Reg.tmp_at (hH.got 2 38 (hdep { on := 2, ground := .data } (by simp) rfl) rfl)
              refine ⟨.value (.pointer (some ⟨g, 0, none⟩)), ?_, .inl rfl⟩
              rw [Reg.wst2_no _ _ _ _ _ f 3 (by decide) (by decide)]
              generalize Reg.wst2 _ _ _ _ _ f = Wx
              go_simp
            · obtain rfl := Option.some.inj ho
              have g0 : a'.tmps[39]?.getD undef = .pointer (some ⟨g, 0, none⟩) := Reg.tmp_at (hH.got 3 39 (hdep { on := 3, ground := .data } (by simp) rfl) rfl)
              refine ⟨.value (.pointer (some ⟨g, 1, none⟩)), ?_, .inl rfl⟩
              rw [Reg.wst2_no _ _ _ _ _ f 4 (by decide) (by decide)]
              generalize Reg.wst2 _ _ _ _ _ f = Wx
              go_simp
            · obtain rfl := Option.some.inj ho
              have g0 : a'.tmps[40]?.getD undef = .pointer (some ⟨g, 1, none⟩) := Reg.tmp_at (hH.got 4 40 (hdep { on := 4, ground := .data } (by simp) rfl) rfl)
              have n33 : f 33 = false := by
                cases h : f 33 with
                | false => rfl
                | true =>
                  have h2 := (hcl 33 _ rfl h { on := 5, ground := .phase } (by simp) rfl)
                  rw [hun] at h2; cases h2
              have n36 : f 36 = false := by
                cases h : f 36 with
                | false => rfl
                | true =>
                  have h2 := (hcl 36 _ rfl h { on := 5, ground := .phase } (by simp) rfl)
                  rw [hun] at h2; cases h2
              refine ⟨.value (.slice a1 nq c1), ?_, .inl rfl⟩
              rw [Reg.wst2_no _ _ _ _ _ f 5 (by decide) (by decide), Reg.wst2_none n33 n36]
              go_simp
            · obtain rfl := Option.some.inj ho
              have g0 : a'.tmps[41]?.getD undef = .slice a1 nq c1 := Reg.tmp_at (hH.got 5 41 (hdep { on := 5, ground := .data } (by simp) rfl) rfl)
              refine ⟨.value (.int .i64 (nq : Int)), ?_, .inl rfl⟩
              rw [Reg.wst2_no _ _ _ _ _ f 6 (by decide) (by decide)]
              generalize Reg.wst2 _ _ _ _ _ f = Wx
              go_simp
            · obtain rfl := Option.some.inj ho
              have g0 : a'.tmps[42]?.getD undef = .int .i64 (nq : Int) := Reg.tmp_at (hH.got 6 42 (hdep { on := 6, ground := .data } (by simp) rfl) rfl)
              refine ⟨.value (.bool true), ?_, .inl rfl⟩
              rw [Reg.wst2_no _ _ _ _ _ f 7 (by decide) (by decide)]
              generalize Reg.wst2 _ _ _ _ _ f = Wx
              go_simp
            · obtain rfl := Option.some.inj ho
              have g0 : a'.tmps[43]?.getD undef = .bool true := Reg.tmp_at (hH.got 7 43 (hdep { on := 7, ground := .data } (by simp) rfl) rfl)
              refine ⟨.value (.bool true), ?_, .inl rfl⟩
              rw [Reg.wst2_no _ _ _ _ _ f 8 (by decide) (by decide)]
              generalize Reg.wst2 _ _ _ _ _ f = Wx
              go_simp
            · obtain rfl := Option.some.inj ho
              have g0 := Reg.tmp_at (b1 a' _ f hH)
              refine ⟨.value (.pointer (some ⟨gx, ox, none⟩)), ?_, .inl rfl⟩
              rw [Reg.wst2_no _ _ _ _ _ f 9 (by decide) (by decide)]
              generalize Reg.wst2 _ _ _ _ _ f = Wx
              go_simp
            · obtain rfl := Option.some.inj ho
              have g0 : a'.tmps[45]?.getD undef = .pointer (some ⟨gx, ox, none⟩) := Reg.tmp_at (hH.got 9 45 (hdep { on := 9, ground := .data } (by simp) rfl) rfl)
              refine ⟨.value (.pointer (some ⟨gx, ox, none⟩)), ?_, .inl rfl⟩
              rw [Reg.wst2_no _ _ _ _ _ f 10 (by decide) (by decide)]
              generalize Reg.wst2 _ _ _ _ _ f = Wx
              go_simp
            · obtain rfl := Option.some.inj ho
              have g0 : a'.tmps[46]?.getD undef = .pointer (some ⟨gx, ox, none⟩) := Reg.tmp_at (hH.got 10 46 (hdep { on := 10, ground := .data } (by simp) rfl) rfl)
              refine ⟨.value (.pointer (some ⟨gx, ox, none⟩)), ?_, .inl rfl⟩
              rw [Reg.wst2_no _ _ _ _ _ f 11 (by decide) (by decide)]
              generalize Reg.wst2 _ _ _ _ _ f = Wx
              go_simp
            · obtain rfl := Option.some.inj ho
              have g0 : a'.tmps[47]?.getD undef = .pointer (some ⟨gx, ox, none⟩) := Reg.tmp_at (hH.got 11 47 (hdep { on := 11, ground := .data } (by simp) rfl) rfl)
              have n33 : f 33 = false := by
                cases h : f 33 with
                | false => rfl
                | true =>
                  have h2 := (hcl 33 _ rfl h { on := 12, ground := .phase } (by simp) rfl)
                  rw [hun] at h2; cases h2
              have n36 : f 36 = false := by
                cases h : f 36 with
                | false => rfl
                | true =>
                  have h2 := (hcl 36 _ rfl h { on := 12, ground := .phase } (by simp) rfl)
                  rw [hun] at h2; cases h2
              refine ⟨.value (.bool neg), ?_, .inl rfl⟩
              rw [Reg.wst2_no _ _ _ _ _ f 12 (by decide) (by decide), Reg.wst2_none n33 n36]
              go_simp
            · obtain rfl := Option.some.inj ho
              have g0 := Reg.tmp_at (b2 a' _ f hH)
              refine ⟨.value (.pointer (some ⟨gy, oy, none⟩)), ?_, .inl rfl⟩
              rw [Reg.wst2_no _ _ _ _ _ f 13 (by decide) (by decide)]
              generalize Reg.wst2 _ _ _ _ _ f = Wx
              go_simp
            · obtain rfl := Option.some.inj ho
              have g0 : a'.tmps[49]?.getD undef = .pointer (some ⟨gy, oy, none⟩) := Reg.tmp_at (hH.got 13 49 (hdep { on := 13, ground := .data } (by simp) rfl) rfl)
              refine ⟨.value (.pointer (some ⟨gy, oy, none⟩)), ?_, .inl rfl⟩
              rw [Reg.wst2_no _ _ _ _ _ f 14 (by decide) (by decide)]
              generalize Reg.wst2 _ _ _ _ _ f = Wx
              go_simp
            · obtain rfl := Option.some.inj ho
              have g0 : a'.tmps[50]?.getD undef = .pointer (some ⟨gy, oy, none⟩) := Reg.tmp_at (hH.got 14 50 (hdep { on := 14, ground := .data } (by simp) rfl) rfl)
              refine ⟨.value (.pointer (some ⟨gy, oy, none⟩)), ?_, .inl rfl⟩
              rw [Reg.wst2_no _ _ _ _ _ f 15 (by decide) (by decide)]
              generalize Reg.wst2 _ _ _ _ _ f = Wx
              go_simp
            · obtain rfl := Option.some.inj ho
              have g0 : a'.tmps[51]?.getD undef = .pointer (some ⟨gy, oy, none⟩) := Reg.tmp_at (hH.got 15 51 (hdep { on := 15, ground := .data } (by simp) rfl) rfl)
              have n33 : f 33 = false := by
                cases h : f 33 with
                | false => rfl
                | true =>
                  have h2 := (hcl 33 _ rfl h { on := 16, ground := .phase } (by simp) rfl)
                  rw [hun] at h2; cases h2
              have n36 : f 36 = false := by
                cases h : f 36 with
                | false => rfl
                | true =>
                  have h2 := (hcl 36 _ rfl h { on := 16, ground := .phase } (by simp) rfl)
                  rw [hun] at h2; cases h2
              refine ⟨.value (.bool yneg), ?_, .inl rfl⟩
              rw [Reg.wst2_no _ _ _ _ _ f 16 (by decide) (by decide), Reg.wst2_none n33 n36]
              go_simp
            · obtain rfl := Option.some.inj ho
              have g0 : a'.tmps[48]?.getD undef = .bool neg := Reg.tmp_at (hH.got 12 48 (hdep { on := 12, ground := .data } (by simp) rfl) rfl)
              have g1 : a'.tmps[52]?.getD undef = .bool yneg := Reg.tmp_at (hH.got 16 52 (hdep { on := 16, ground := .data } (by simp) rfl) rfl)
              refine ⟨.value (.bool (neg != yneg)), ?_, .inl rfl⟩
              rw [Reg.wst2_no _ _ _ _ _ f 17 (by decide) (by decide)]
              generalize Reg.wst2 _ _ _ _ _ f = Wx
              go_simp
              cases neg <;> cases yneg <;> rfl
            · obtain rfl := Option.some.inj ho
              have g0 : a'.tmps[44]?.getD undef = .bool true := Reg.tmp_at (hH.got 8 44 (hdep { on := 8, ground := .data } (by simp) rfl) rfl)
              have g1 : a'.tmps[53]?.getD undef = .bool (neg != yneg) := Reg.tmp_at (hH.got 17 53 (hdep { on := 17, ground := .data } (by simp) rfl) rfl)
              refine ⟨.value (.bool (neg != yneg)), ?_, .inl rfl⟩
              rw [Reg.wst2_no _ _ _ _ _ f 18 (by decide) (by decide)]
              generalize Reg.wst2 _ _ _ _ _ f = Wx
              go_simp
            · obtain rfl := Option.some.inj ho
              have g0 := Reg.tmp_at (b3 a' _ f hH)
              refine ⟨.value (.pointer (some ⟨gr, 0, none⟩)), ?_, .inl rfl⟩
              rw [Reg.wst2_no _ _ _ _ _ f 19 (by decide) (by decide)]
              generalize Reg.wst2 _ _ _ _ _ f = Wx
              go_simp
            · obtain rfl := Option.some.inj ho
              have g0 : a'.tmps[55]?.getD undef = .pointer (some ⟨gr, 0, none⟩) := Reg.tmp_at (hH.got 19 55 (hdep { on := 19, ground := .data } (by simp) rfl) rfl)
              refine ⟨.value (.pointer (some ⟨gr, 0, none⟩)), ?_, .inl rfl⟩
              rw [Reg.wst2_no _ _ _ _ _ f 20 (by decide) (by decide)]
              generalize Reg.wst2 _ _ _ _ _ f = Wx
              go_simp
            · obtain rfl := Option.some.inj ho
              have g0 : a'.tmps[56]?.getD undef = .pointer (some ⟨gr, 0, none⟩) := Reg.tmp_at (hH.got 20 56 (hdep { on := 20, ground := .data } (by simp) rfl) rfl)
              refine ⟨.value (.pointer (some ⟨gr, 1, none⟩)), ?_, .inl rfl⟩
              rw [Reg.wst2_no _ _ _ _ _ f 21 (by decide) (by decide)]
              generalize Reg.wst2 _ _ _ _ _ f = Wx
              go_simp
            · obtain rfl := Option.some.inj ho
              have g0 : a'.tmps[57]?.getD undef = .pointer (some ⟨gr, 1, none⟩) := Reg.tmp_at (hH.got 21 57 (hdep { on := 21, ground := .data } (by simp) rfl) rfl)
              have n33 : f 33 = false := by
                cases h : f 33 with
                | false => rfl
                | true =>
                  have h2 := (hcl 33 _ rfl h { on := 22, ground := .phase } (by simp) rfl)
                  rw [hun] at h2; cases h2
              have n36 : f 36 = false := by
                cases h : f 36 with
                | false => rfl
                | true =>
                  have h2 := (hcl 36 _ rfl h { on := 22, ground := .phase } (by simp) rfl)
                  rw [hun] at h2; cases h2
              refine ⟨.value (.slice a2 nr c2), ?_, .inl rfl⟩
              rw [Reg.wst2_no _ _ _ _ _ f 22 (by decide) (by decide), Reg.wst2_none n33 n36]
              go_simp
            · obtain rfl := Option.some.inj ho
              have g0 : a'.tmps[58]?.getD undef = .slice a2 nr c2 := Reg.tmp_at (hH.got 22 58 (hdep { on := 22, ground := .data } (by simp) rfl) rfl)
              refine ⟨.value (.int .i64 (nr : Int)), ?_, .inl rfl⟩
              rw [Reg.wst2_no _ _ _ _ _ f 23 (by decide) (by decide)]
              generalize Reg.wst2 _ _ _ _ _ f = Wx
              go_simp
            · obtain rfl := Option.some.inj ho
              have g0 : a'.tmps[59]?.getD undef = .int .i64 (nr : Int) := Reg.tmp_at (hH.got 23 59 (hdep { on := 23, ground := .data } (by simp) rfl) rfl)
              refine ⟨.value (.bool true), ?_, .inl rfl⟩
              rw [Reg.wst2_no _ _ _ _ _ f 24 (by decide) (by decide)]
              generalize Reg.wst2 _ _ _ _ _ f = Wx
              go_simp
            · obtain rfl := Option.some.inj ho
              have g0 : a'.tmps[60]?.getD undef = .bool true := Reg.tmp_at (hH.got 24 60 (hdep { on := 24, ground := .data } (by simp) rfl) rfl)
              refine ⟨.value (.bool true), ?_, .inl rfl⟩
              rw [Reg.wst2_no _ _ _ _ _ f 25 (by decide) (by decide)]
              generalize Reg.wst2 _ _ _ _ _ f = Wx
              go_simp
            · obtain rfl := Option.some.inj ho
              have g0 := Reg.tmp_at (b1 a' _ f hH)
              refine ⟨.value (.pointer (some ⟨gx, ox, none⟩)), ?_, .inl rfl⟩
              rw [Reg.wst2_no _ _ _ _ _ f 26 (by decide) (by decide)]
              generalize Reg.wst2 _ _ _ _ _ f = Wx
              go_simp
            · obtain rfl := Option.some.inj ho
              have g0 : a'.tmps[62]?.getD undef = .pointer (some ⟨gx, ox, none⟩) := Reg.tmp_at (hH.got 26 62 (hdep { on := 26, ground := .data } (by simp) rfl) rfl)
              refine ⟨.value (.pointer (some ⟨gx, ox, none⟩)), ?_, .inl rfl⟩
              rw [Reg.wst2_no _ _ _ _ _ f 27 (by decide) (by decide)]
              generalize Reg.wst2 _ _ _ _ _ f = Wx
              go_simp
            · obtain rfl := Option.some.inj ho
              have g0 : a'.tmps[63]?.getD undef = .pointer (some ⟨gx, ox, none⟩) := Reg.tmp_at (hH.got 27 63 (hdep { on := 27, ground := .data } (by simp) rfl) rfl)
              refine ⟨.value (.pointer (some ⟨gx, ox, none⟩)), ?_, .inl rfl⟩
              rw [Reg.wst2_no _ _ _ _ _ f 28 (by decide) (by decide)]
              generalize Reg.wst2 _ _ _ _ _ f = Wx
              go_simp
            · obtain rfl := Option.some.inj ho
              have g0 : a'.tmps[64]?.getD undef = .pointer (some ⟨gx, ox, none⟩) := Reg.tmp_at (hH.got 28 64 (hdep { on := 28, ground := .data } (by simp) rfl) rfl)
              have n33 : f 33 = false := by
                cases h : f 33 with
                | false => rfl
                | true =>
                  have h2 := (hcl 33 _ rfl h { on := 29, ground := .phase } (by simp) rfl)
                  rw [hun] at h2; cases h2
              have n36 : f 36 = false := by
                cases h : f 36 with
                | false => rfl
                | true =>
                  have h2 := (hcl 36 _ rfl h { on := 29, ground := .phase } (by simp) rfl)
                  rw [hun] at h2; cases h2
              refine ⟨.value (.bool neg), ?_, .inl rfl⟩
              rw [Reg.wst2_no _ _ _ _ _ f 29 (by decide) (by decide), Reg.wst2_none n33 n36]
              go_simp
            · obtain rfl := Option.some.inj ho
              have g0 : a'.tmps[61]?.getD undef = .bool true := Reg.tmp_at (hH.got 25 61 (hdep { on := 25, ground := .data } (by simp) rfl) rfl)
              have g1 : a'.tmps[65]?.getD undef = .bool neg := Reg.tmp_at (hH.got 29 65 (hdep { on := 29, ground := .data } (by simp) rfl) rfl)
              refine ⟨.value (.bool neg), ?_, .inl rfl⟩
              rw [Reg.wst2_no _ _ _ _ _ f 30 (by decide) (by decide)]
              generalize Reg.wst2 _ _ _ _ _ f = Wx
              go_simp
            · obtain rfl := Option.some.inj ho
              have g0 : a'.tmps[36]?.getD undef = .pointer (some ⟨g, 0, none⟩) := Reg.tmp_at (hH.got 0 36 (hdep { on := 0, ground := .data } (by simp) rfl) rfl)
              refine ⟨.value (.pointer (some ⟨g, 0, none⟩)), ?_, .inl rfl⟩
              rw [Reg.wst2_no _ _ _ _ _ f 31 (by decide) (by decide)]
              generalize Reg.wst2 _ _ _ _ _ f = Wx
              go_simp
            · obtain rfl := Option.some.inj ho
              have g0 : a'.tmps[67]?.getD undef = .pointer (some ⟨g, 0, none⟩) := Reg.tmp_at (hH.got 31 67 (hdep { on := 31, ground := .data } (by simp) rfl) rfl)
              refine ⟨.value (.pointer (some ⟨g, 0, none⟩)), ?_, .inl rfl⟩
              rw [Reg.wst2_no _ _ _ _ _ f 32 (by decide) (by decide)]
              generalize Reg.wst2 _ _ _ _ _ f = Wx
              go_simp
            · obtain rfl := Option.some.inj ho
              have g0 : a'.tmps[68]?.getD undef = .pointer (some ⟨g, 0, none⟩) := Reg.tmp_at (hH.got 32 68 (hdep { on := 32, ground := .data } (by simp) rfl) rfl)
              have g1 : a'.tmps[54]?.getD undef = .bool (neg != yneg) := Reg.tmp_at (hH.got 18 54 (hdep { on := 18, ground := .data } (by simp) rfl) rfl)
              have n36 : f 36 = false := by
                cases h : f 36 with
                | false => rfl
                | true =>
                  have h2 := (hcl 36 _ rfl h { on := 33, ground := .chain } (by simp) rfl)
                  rw [hun] at h2; cases h2
              refine ⟨.skip, ?_, .inr ⟨rfl, rfl⟩⟩
              rw [Reg.wst2_first n36 (by decide), Reg.wst2_none hun n36]
              go_simp
            · obtain rfl := Option.some.inj ho
              have g0 : a'.tmps[37]?.getD undef = .pointer (some ⟨gr, 0, none⟩) := Reg.tmp_at (hH.got 1 37 (hdep { on := 1, ground := .data } (by simp) rfl) rfl)
              refine ⟨.value (.pointer (some ⟨gr, 0, none⟩)), ?_, .inl rfl⟩
              rw [Reg.wst2_no _ _ _ _ _ f 34 (by decide) (by decide)]
              generalize Reg.wst2 _ _ _ _ _ f = Wx
              go_simp
            · obtain rfl := Option.some.inj ho
              have g0 : a'.tmps[69]?.getD undef = .pointer (some ⟨gr, 0, none⟩) := Reg.tmp_at (hH.got 34 69 (hdep { on := 34, ground := .data } (by simp) rfl) rfl)
              refine ⟨.value (.pointer (some ⟨gr, 0, none⟩)), ?_, .inl rfl⟩
              rw [Reg.wst2_no _ _ _ _ _ f 35 (by decide) (by decide)]
              generalize Reg.wst2 _ _ _ _ _ f = Wx
              go_simp
            · obtain rfl := Option.some.inj ho
              have g0 : a'.tmps[70]?.getD undef = .pointer (some ⟨gr, 0, none⟩) := Reg.tmp_at (hH.got 35 70 (hdep { on := 35, ground := .data } (by simp) rfl) rfl)
              have g1 : a'.tmps[66]?.getD undef = .bool neg := Reg.tmp_at (hH.got 30 66 (hdep { on := 30, ground := .data } (by simp) rfl) rfl)
              have d33 : f 33 = true := (hdep { on := 33, ground := .chain } (by simp) rfl)
              refine ⟨.skip, ?_, .inr ⟨rfl, rfl⟩⟩
              rw [Reg.wst2_second, Reg.wst2_one d33 hun]
              go_simp
          case hskip =>
            intro i o ho hgt
            have hi : i < 37 := (Array.getElem?_eq_some_iff.1 ho).1
            have hcs : i = 0 ∨ i = 1 ∨ i = 2 ∨ i = 3 ∨ i = 4 ∨ i = 5 ∨ i = 6 ∨ i = 7 ∨ i = 8 ∨ i = 9 ∨ i = 10 ∨ i = 11 ∨ i = 12 ∨ i = 13 ∨ i = 14 ∨ i = 15 ∨ i = 16 ∨ i = 17 ∨ i = 18 ∨ i = 19 ∨ i = 20 ∨ i = 21 ∨ i = 22 ∨ i = 23 ∨ i = 24 ∨ i = 25 ∨ i = 26 ∨ i = 27 ∨ i = 28 ∨ i = 29 ∨ i = 30 ∨ i = 31 ∨ i = 32 ∨ i = 33 ∨ i = 34 ∨ i = 35 ∨ i = 36 := by omega
            rcases hcs with rfl | rfl | rfl | rfl | rfl | rfl | rfl | rfl | rfl | rfl | rfl | rfl | rfl | rfl | rfl | rfl | rfl | rfl | rfl | rfl | rfl | rfl | rfl | rfl | rfl | rfl | rfl | rfl | rfl | rfl | rfl | rfl | rfl | rfl | rfl | rfl | rfl
            · obtain rfl := Option.some.inj ho
              exact absurd rfl hgt
            · obtain rfl := Option.some.inj ho
              exact absurd rfl hgt
            · obtain rfl := Option.some.inj ho
              exact absurd rfl hgt
            · obtain rfl := Option.some.inj ho
              exact absurd rfl hgt
            · obtain rfl := Option.some.inj ho
              exact absurd rfl hgt
            · obtain rfl := Option.some.inj ho
              exact absurd rfl hgt
            · obtain rfl := Option.some.inj ho
              exact absurd rfl hgt
            · obtain rfl := Option.some.inj ho
              exact absurd rfl hgt
            · obtain rfl := Option.some.inj ho
              exact absurd rfl hgt
            · obtain rfl := Option.some.inj ho
              exact absurd rfl hgt
            · obtain rfl := Option.some.inj ho
              exact absurd rfl hgt
            · obtain rfl := Option.some.inj ho
              exact absurd rfl hgt
            · obtain rfl := Option.some.inj ho
              exact absurd rfl hgt
            · obtain rfl := Option.some.inj ho
              exact absurd rfl hgt
            · obtain rfl := Option.some.inj ho
              exact absurd rfl hgt
            · obtain rfl := Option.some.inj ho
              exact absurd rfl hgt
            · obtain rfl := Option.some.inj ho
              exact absurd rfl hgt
            · obtain rfl := Option.some.inj ho
              exact absurd rfl hgt
            · obtain rfl := Option.some.inj ho
              exact absurd rfl hgt
            · obtain rfl := Option.some.inj ho
              exact absurd rfl hgt
            · obtain rfl := Option.some.inj ho
              exact absurd rfl hgt
            · obtain rfl := Option.some.inj ho
              exact absurd rfl hgt
            · obtain rfl := Option.some.inj ho
              exact absurd rfl hgt
            · obtain rfl := Option.some.inj ho
              exact absurd rfl hgt
            · obtain rfl := Option.some.inj ho
              exact absurd rfl hgt
            · obtain rfl := Option.some.inj ho
              exact absurd rfl hgt
            · obtain rfl := Option.some.inj ho
              exact absurd rfl hgt
            · obtain rfl := Option.some.inj ho
              exact absurd rfl hgt
            · obtain rfl := Option.some.inj ho
              exact absurd rfl hgt
            · obtain rfl := Option.some.inj ho
              exact absurd rfl hgt
            · obtain rfl := Option.some.inj ho
              exact absurd rfl hgt
            · obtain rfl := Option.some.inj ho
              exact absurd rfl hgt
            · obtain rfl := Option.some.inj ho
              exact absurd rfl hgt
            · obtain rfl := Option.some.inj ho
              exact absurd rfl hgt
            · obtain rfl := Option.some.inj ho
              exact absurd rfl hgt
            · obtain rfl := Option.some.inj ho
              exact absurd rfl hgt
            · obtain rfl := Option.some.inj ho
              exact absurd rfl hgt
          case hwe => rfl
        case h2 =>
          simp only [Reg.fill, Reg.dstOf, Reg.valOf, List.getD_cons_zero, List.getD_cons_succ, Act.put]
          simp [List.setIfInBounds_toArray, List.set_cons_succ, List.set_cons_zero]
          go_wp2
          go_ret2
          rw [hQ0, hR0]
          simp only [Bool.true_and]
          exact ⟨rfl, hf3.out.1, hf3.out.2.1, Box.below_drawn hf3.out.2.2 1⟩
end Go.Proofs.YtpjkfdgkkpkljaaGreatDoor.Big
