/-
  The package's integers: one out of a number of 64 bits; how two compare.
-/
import Derived.Test.YtpjkfdgkkpkljaaGreatDoorStarMake
namespace Go.Proofs.YtpjkfdgkkpkljaaGreatDoor.Big
open Go.RowKit Go.WideShapes Go.Proofs.YtpjkfdgkkpkljaaGreatDoor.Own Go.Proofs.YtpjkfdgkkpkljaaGreatDoor.Num Go.Proofs.YtpjkfdgkkpkljaaGreatDoor.Ref Go.Proofs.YtpjkfdgkkpkljaaGreatDoor.Nat_
set_option linter.unusedVariables false

theorem words_one {x : Nat} (h0 : 0 < x) (h1 : x < W) : words x = dig W x 1 := by
  have h2 := (len_pos W_two (v := x)).2 h0
  have h3 := len_one h1
  unfold words
  rw [show len W x = 1 by omega]

set_option maxRecDepth 100000 in
theorem setword_any (x : Nat) (h0 : 0 < x) (h1 : x < W) (w : World) :
    Calls Tryz.prog 84 #[.slice none 0 0, .int .u64 x] w fun e w' => (∃ v, e = .returned v ∧ IsNat w' w.heap.size v x) ∧ Below w.heap.size w w' := by
  have hmk := Lib.hid (make_any 1 (by omega) w)
  have hx : x < 18446744073709551616 := h1
  have hwd := Lib.hid (words_one h0 h1)
  have hset := Lib.hid (ws_set x 0 1 x (by rw [Nat.pow_zero, Nat.div_one]; exact Nat.mod_eq_of_lt h1))
  have hb0 : ((x : Int) == 0) = false := by simp; omega
  have h1' := Lib.hid h1
  clear h1
  go_enter Tryz.func84, Tryz.ntmps84
  go_wp2_with fail
  refine hmk.out.mono ?_
  rintro e w1 ⟨⟨z, rfl, ho⟩, hb1⟩
  rcases ho.shape with ⟨rfl, hn⟩ | ⟨g, zc, rfl, hg, hB, hzc, hcell⟩
  · have := congrArg List.length hn; rw [dig_length] at this; simp at this
  · rw [dig_length] at ho hzc ⊢
    have hrow : w1.ownsRow w.heap.size 111 1 (.slice (some ⟨g, 0, none⟩) 1 zc) 1 (ws (dig W (x % W ^ 0) 1)) := by
      have := ho
      unfold OwnW at this
      rw [dig_length] at this
      rw [Nat.pow_zero, Nat.mod_one]
      exact this
    have hc0 := World.ownsRow.cellAt hrow 0 (by omega)
    have hf0 := World.ownsRow.frozenAt hrow 0
    have hst := World.ownsRow.stored hrow 0 (.int .u64 (x : Int))
    rw [hset.out] at hst
    obtain ⟨cv, hcv⟩ : ∃ cv, (ws (dig W (x % W ^ 0) 1))[0]? = some cv := ⟨_, List.getElem?_eq_getElem (by rw [ws_length, dig_length]; omega)⟩
    rw [hcv] at hc0
    have hfin := Lib.hid (show IsNat (w1.setCell ⟨g, 0, none⟩ (.int .u64 (x : Int))) w.heap.size (.slice (some ⟨g, 0, none⟩) 1 zc) x by
      have := hst.1
      rw [Nat.pow_one, Nat.mod_eq_of_lt h1'.out] at this
      unfold IsNat OwnW
      rw [hwd.out, dig_length]
      exact this)
    clear hrow hst hcv ho hcell
    go_wp2
    go_ret
    exact ⟨⟨_, rfl, hfin.out⟩, hb1.setCell hB _⟩

set_option maxRecDepth 100000 in
theorem setu64_any (x : Nat) (h0 : 0 < x) (h1 : x < W) (w : World) :
    Calls Tryz.prog 136 #[.slice none 0 0, .int .u64 x] w fun e w' => (∃ v, e = .returned v ∧ IsNat w' w.heap.size v x) ∧ Below w.heap.size w w' := by
  have hs := Lib.hid (setword_any x h0 h1 w)
  have hx : x < 18446744073709551616 := h1
  clear h1
  go_enter Tryz.func136, Tryz.ntmps136
  go_wp2_with fail
  refine hs.out.mono ?_
  rintro e w1 ⟨⟨z, rfl, ho⟩, hb1⟩
  go_wp2
  go_ret
  exact ⟨⟨_, rfl, ho⟩, hb1⟩

theorem Big.made2 {w1 : World} {g B : Nat} {a1 : Option Addr} {n1 c1 : Nat} {V : Nat} (hk : Box.Holds w1 g 85 #[.bool false, .slice none 0 0]) (ho : IsNat w1 B (.slice a1 n1 c1) V) (hg : g < B) (b : Bool) (hb : b = true → 0 < V) :
    Big ((w1.setCell ⟨g, 1, none⟩ (.slice a1 n1 c1)).setCell ⟨g, 0, none⟩ (.bool b)) g b V := by
  refine ⟨.slice a1 n1 c1, ?_, ?_, hb⟩
  · have := (hk.put 1 (.slice a1 n1 c1)).put 0 (.bool b)
    simpa using this
  · exact World.ownsRow.mono (Box.own_above ho (((Box.Above.refl _ _).setCell (by show g < B; exact hg) _).setCell (by show g < B; exact hg) _)) (by omega)

set_option maxRecDepth 100000 in
theorem set64_any (g : Nat) (z : Int) (hz : z ≠ 0) (h1 : -9223372036854775808 ≤ z) (h2 : z ≤ 9223372036854775807) (w : World) (hg : Box.Holds w g 85 #[.bool false, .slice none 0 0]) :
    Calls Tryz.prog 150 #[.pointer (some ⟨g, 0, none⟩), .int .i64 z] w fun e w' => (e = .returned (.pointer (some ⟨g, 0, none⟩)) ∧ Big w' g (decide (z < 0)) z.natAbs) ∧ Below g w w' := by
  obtain ⟨U, hU⟩ : ∃ U, z.natAbs = U := ⟨_, rfl⟩
  rw [hU]
  have hU0 : 0 < U := by omega
  have hs := Lib.hid (setu64_any U hU0 (by rw [W_eq]; omega) w)
  have k0 := hg.cell 0
  have k1 := hg.cell 1
  simp at k0 k1
  have hlt := hg.lt
  have hg' := Lib.hid hg
  have hfin : Hid (∀ w1 a1 n1 c1 b, Below w.heap.size w w1 → IsNat w1 w.heap.size (.slice a1 n1 c1) U → Big ((w1.setCell ⟨g, 1, none⟩ (.slice a1 n1 c1)).setCell ⟨g, 0, none⟩ (.bool b)) g b U) := Lib.hid fun w1 a1 n1 c1 b hb ho => Big.made2 (hg'.out.later hb) ho hlt b (fun _ => hU0)
  clear hg
  by_cases h0 : z < 0
  · have hd : decide (z < 0) = true := by simp [h0]
    have e1 : IntKind.u64.wrap (wrap64 (-z)) = U := by rw [IntKind.wrap_u64]; unfold wrap64; omega
    rw [hd]
    have e1' := e1
    clear hU h0 hz
    go_enter Tryz.func150, Tryz.ntmps150
    go_wp2_with fail
    refine hs.out.mono ?_
    rintro e w1 ⟨⟨v, rfl, ho⟩, hb⟩
    obtain ⟨a1, c1, hv, -, -⟩ := ho.slice
    subst hv
    have hk := hg'.out.later hb
    have k0 := hk.cell 0
    have k1 := hk.cell 1
    simp at k0 k1
    have hlt1 := hk.lt
    have f0 := hk.free 0
    have f1 := hk.free 1
    have hf := Lib.hid (hfin.out _ _ _ _ true hb ho)
    clear ho
    go_wp2
    go_ret
    exact ⟨⟨rfl, hf.out⟩, ((hb.mono (by omega)).setCell (p := ⟨g, 1, none⟩) (Nat.le_refl g) _).setCell (p := ⟨g, 0, none⟩) (Nat.le_refl g) _⟩
  · have hd : decide (z < 0) = false := by simp [h0]
    have e1 : IntKind.u64.wrap z = U := by rw [IntKind.wrap_u64]; omega
    rw [hd]
    clear hU hz
    go_enter Tryz.func150, Tryz.ntmps150
    go_wp2_with fail
    refine hs.out.mono ?_
    rintro e w1 ⟨⟨v, rfl, ho⟩, hb⟩
    obtain ⟨a1, c1, hv, -, -⟩ := ho.slice
    subst hv
    have hk := hg'.out.later hb
    have k0 := hk.cell 0
    have k1 := hk.cell 1
    simp at k0 k1
    have hlt1 := hk.lt
    have f0 := hk.free 0
    have f1 := hk.free 1
    have hf := Lib.hid (hfin.out _ _ _ _ false hb ho)
    clear ho
    go_wp2
    go_ret
    exact ⟨⟨rfl, hf.out⟩, ((hb.mono (by omega)).setCell (p := ⟨g, 1, none⟩) (Nat.le_refl g) _).setCell (p := ⟨g, 0, none⟩) (Nat.le_refl g) _⟩

end Go.Proofs.YtpjkfdgkkpkljaaGreatDoor.Big
