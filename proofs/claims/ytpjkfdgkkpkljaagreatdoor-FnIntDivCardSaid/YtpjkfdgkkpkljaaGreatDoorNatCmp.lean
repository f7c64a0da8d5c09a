/-
  The package's naturals: how two compare.
-/
import Derived.Test.YtpjkfdgkkpkljaaGreatDoorNatBits
namespace Go.Proofs.YtpjkfdgkkpkljaaGreatDoor.Nat_
open Go.RowKit Go.WideShapes Go.Proofs.YtpjkfdgkkpkljaaGreatDoor.Own Go.Proofs.YtpjkfdgkkpkljaaGreatDoor.Num Go.Proofs.YtpjkfdgkkpkljaaGreatDoor.Ref
set_option linter.unusedVariables false

/-- a slice's address leads to the words of a number -/
def RdW (w : World) (B : Nat) (a : Option Addr) (V : Nat) : Prop :=
  (a = none ∧ V = 0) ∨ ∃ g, a = some ⟨g, 0, none⟩ ∧ g < w.heap.size ∧ B ≤ g ∧ ∀ j, j < len W V → w.cell? ⟨g, j, none⟩ = some (.int .u64 ((V / W ^ j % W : Nat) : Int))
theorem RdW.later {w w' : World} {B : Nat} {a : Option Addr} {V : Nat} (h : RdW w B a V) (hb : Below w.heap.size w w') : RdW w' B a V := by
  rcases h with h | ⟨g, rfl, hg, hB, hc⟩
  · exact .inl h
  · exact .inr ⟨g, rfl, Nat.lt_of_lt_of_le hg hb.size, hB, fun j hj => (hb.cell hg).trans (hc j hj)⟩
theorem RdW.at_ {w : World} {B : Nat} {a : Option Addr} {V : Nat} (h : RdW w B a V) {j : Nat} (hj : j < len W V) : ∃ g, a = some ⟨g, 0, none⟩ ∧ w.cell? ⟨g, j, none⟩ = some (.int .u64 ((V / W ^ j % W : Nat) : Int)) := by
  rcases h with ⟨_, rfl⟩ | ⟨g, rfl, _, _, hc⟩
  · rw [len_zero] at hj; omega
  · exact ⟨g, rfl, hc j hj⟩
theorem IsNat.slice {w : World} {B : Nat} {v : Value} {V : Nat} (h : IsNat w B v V) : ∃ a cap, v = .slice a (len W V) cap ∧ len W V ≤ cap ∧ RdW w B a V := by
  rcases h.shape with ⟨rfl, rfl⟩ | ⟨g, cap, rfl, hg, hB, hc, hcell⟩
  · exact ⟨none, 0, rfl, Nat.le_refl _, .inl ⟨rfl, rfl⟩⟩
  · exact ⟨_, cap, rfl, hc, .inr ⟨g, rfl, hg, hB, hcell⟩⟩

set_option maxRecDepth 100000 in
theorem ncmp_any (x y : Value) (u v B1 B2 : Nat) (w : World) (hx : IsNat w B1 x u) (hy : IsNat w B2 y v) (hu : len W u ≤ 10000) (hv : len W v ≤ 10000) :
    Calls Tryz.prog 70 #[x, y] w fun e w' => e = .returned (.int .i64 (cmpN u v)) ∧ Below w.heap.size w w' := by
  obtain ⟨a1, c1, rfl, hc1, h1⟩ := hx.slice
  obtain ⟨a2, c2, rfl, hc2, h2⟩ := hy.slice
  clear hx hy
  rcases Nat.lt_trichotomy (len W u) (len W v) with hlt | heq | hgt
  · rw [cmpN_len W_two hlt]
    have hne : ((((len W u : Nat)) : Int) != (len W v : Nat)) = true := by simp; omega
    clear h1 h2
    go_enter Tryz.func70, Tryz.ntmps70
    go_wp2
    go_ret
    exact ⟨rfl, Below.refl _ _⟩
  · obtain ⟨n, hlu⟩ : ∃ n, len W u = n := ⟨_, rfl⟩
    have hlv : len W v = n := by omega
    have hne : ((n : Int) != n) = false := by simp
    have hbu := len_lt W_two u
    have hbv := len_lt W_two v
    rw [hlu] at hbu
    rw [hlv] at hbv
    have hst := Lib.hid (show u / W ^ n = v / W ^ n by rw [Nat.div_eq_of_lt hbu, Nat.div_eq_of_lt hbv])
    rw [hlu] at hu hc1 ⊢
    rw [hlv] at hv hc2 ⊢
    obtain ⟨Z, hZ⟩ : ∃ Z, cmpN u v = Z := ⟨_, rfl⟩
    rw [hZ]
    have hZ' := Lib.hid hZ
    have hlu' := Lib.hid hlu
    have hlv' := Lib.hid hlv
    cases n with
    | zero =>
      have h00 : u = v := by rw [Nat.pow_zero] at hbu hbv; omega
      have hr := cmpN_eq h00
      rw [hZ] at hr
      subst hr
      clear hbu hbv hZ hlu hlv heq h1 h2 h00 hst
      go_enter Tryz.func70, Tryz.ntmps70
      go_wp2
      go_ret
      exact ⟨rfl, Below.refl _ _⟩
    | succ m =>
    have hm0 : (((m + 1 : Nat) : Int) == 0) = false := by simp; omega
    clear hbu hbv hZ hlu hlv heq
    go_enter Tryz.func70, Tryz.ntmps70
    go_wp2
    go_loopw [7] (fun i wr => ∃ k : Nat, i = .int .i64 k ∧ k ≤ m ∧ Hid (u / W ^ (k + 1) = v / W ^ (k + 1)) ∧ Below w.heap.size w wr) (fun i _ => (intOf i).toNat)
    case atStart => exact ⟨m, by go_num, Nat.le_refl _, hst, Below.refl _ _⟩
    case round =>
      obtain ⟨k, rfl, hk, hq, hb⟩ := hrel
      obtain ⟨x, rfl, hx⟩ := (h1.later hb).at_ (j := k) (by rw [hlu'.out]; omega)
      obtain ⟨y, rfl, hy⟩ := (h2.later hb).at_ (j := k) (by rw [hlv'.out]; omega)
      have hq' := hq.out
      obtain ⟨X, hX⟩ : ∃ X, u / W ^ k % W = X := ⟨_, rfl⟩
      obtain ⟨Y, hY⟩ : ∃ Y, v / W ^ k % W = Y := ⟨_, rfl⟩
      have hXW : X < 18446744073709551616 := by rw [← hX]; exact Nat.mod_lt _ W_pos
      have hYW : Y < 18446744073709551616 := by rw [← hY]; exact Nat.mod_lt _ W_pos
      have hlo := Lib.hid fun (h : X < Y) => cmpN_lt W_pos hq' (by rw [hX, hY]; exact h)
      have hhi := Lib.hid fun (h : Y < X) => cmpN_gt W_pos hq' (by rw [hX, hY]; exact h)
      have hsame := Lib.hid fun (h : X = Y) => div_of_digit hq' (by rw [hX, hY]; exact h)
      rw [hX] at hx
      rw [hY] at hy
      have h1' := Lib.hid h1
      have h2' := Lib.hid h2
      clear hX hY hq' h1 h2
      rcases Nat.lt_trichotomy X Y with hxy | hxy | hxy
      · have g1 : ((X : Int) == Y) = false := by simp; omega
        have g2 : decide (X < Y) = true := by simp; omega
        have hr := hlo.out hxy
        rw [hZ'.out] at hr
        subst hr
        clear hxy
        by_cases hk0 : k = 0
        · subst hk0
          go_wp2
          go_quiet (fail)
          go_wp2
          go_quiet (fail)
          go_wp2
          go_ret
          exact ⟨rfl, Box.below_drawn (Box.below_drawn hb _) _⟩
        · have b0 : (0 : Int) < (k : Int) := by omega
          have b3 : decide ((0 : Int) < (k : Int)) = true := by simp; omega
          have b4 : decide (0 < k) = true := by simp; omega
          go_wp2
          go_quiet (fail)
          go_wp2
          go_quiet (fail)
          go_wp2
          go_ret
          exact ⟨rfl, Box.below_drawn (Box.below_drawn hb _) _⟩
      · have g1 : ((X : Int) == Y) = true := by simp; omega
        have g2 : decide (X < Y) = false := by simp; omega
        have g3 : decide (Y < X) = false := by simp; omega
        have hs := Lib.hid (hsame.out hxy)
        clear hxy
        by_cases hk0 : k = 0
        · subst hk0
          have hr := hs.out
          rw [Nat.pow_zero, Nat.div_one, Nat.div_one] at hr
          have hr := cmpN_eq hr
          rw [hZ'.out] at hr
          subst hr
          go_wp2
          go_quiet (fail)
          go_wp2
          go_quiet (fail)
          go_wp2
          go_quiet (fail)
          go_wp2
          go_ret
          exact ⟨rfl, Box.below_drawn (Box.below_drawn (Box.below_drawn hb _) _) _⟩
        · have b0 : (0 : Int) < (k : Int) := by omega
          have b3 : decide ((0 : Int) < (k : Int)) = true := by simp; omega
          have b4 : decide (0 < k) = true := by simp; omega
          obtain ⟨j, rfl⟩ : ∃ j, k = j + 1 := ⟨k - 1, by omega⟩
          go_wp2
          go_quiet (fail)
          go_wp2
          go_roundw
          case rel => exact ⟨j, by go_num, by omega, hs, Box.below_drawn hb _⟩
          case measure => simp [intOf]
      · have g1 : ((X : Int) == Y) = false := by simp; omega
        have g2 : decide (X < Y) = false := by simp; omega
        have g3 : decide (Y < X) = true := by simp; omega
        have hr := hhi.out hxy
        rw [hZ'.out] at hr
        subst hr
        clear hxy
        by_cases hk0 : k = 0
        · subst hk0
          go_wp2
          go_quiet (fail)
          go_wp2
          go_quiet (fail)
          go_wp2
          go_quiet (fail)
          go_wp2
          go_ret
          exact ⟨rfl, Box.below_drawn (Box.below_drawn (Box.below_drawn hb _) _) _⟩
        · have b0 : (0 : Int) < (k : Int) := by omega
          have b3 : decide ((0 : Int) < (k : Int)) = true := by simp; omega
          have b4 : decide (0 < k) = true := by simp; omega
          go_wp2
          go_quiet (fail)
          go_wp2
          go_quiet (fail)
          go_wp2
          go_quiet (fail)
          go_wp2
          go_ret
          exact ⟨rfl, Box.below_drawn (Box.below_drawn (Box.below_drawn hb _) _) _⟩
  · rw [cmpN_len' W_two hgt]
    have hne : ((((len W u : Nat)) : Int) != (len W v : Nat)) = true := by simp; omega
    clear h1 h2
    go_enter Tryz.func70, Tryz.ntmps70
    go_wp2
    go_ret
    exact ⟨rfl, Below.refl _ _⟩
end Go.Proofs.YtpjkfdgkkpkljaaGreatDoor.Nat_
