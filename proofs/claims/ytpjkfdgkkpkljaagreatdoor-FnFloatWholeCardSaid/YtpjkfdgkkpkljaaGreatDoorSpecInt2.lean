/-
  The reference's integers: how magnitudes compare, their digits, the lowest 64 bits.
-/
import Derived.Test.YtpjkfdgkkpkljaaGreatDoorSpecInt
import Derived.Deep.DeepCutAuto
namespace Go.Proofs.YtpjkfdgkkpkljaaGreatDoor.Ref
open Go.RowKit Go.WideShapes Go.Proofs.YtpjkfdgkkpkljaaGreatDoor.Own Go.Proofs.YtpjkfdgkkpkljaaGreatDoor.Num
set_option linter.unusedVariables false

theorem Rd.at_ {w : World} {a : Option Addr} {l : List UInt8} (h : Rd w a l) {k : Nat} (hk : k < l.length) : ∃ x, a = some x ∧ w.cell? (x.add k) = some (.int .u8 (l[k].toNat : Int)) := by
  rcases h with ⟨_, rfl⟩ | ⟨x, rfl, _, hc⟩
  · simp at hk
  · exact ⟨x, rfl, hc k hk⟩
theorem mag_at (v k : Nat) (h : k < (mag v).length) : ((mag v)[k]).toNat = v / 256 ^ (len 256 v - 1 - k) % 256 := by
  have hk : k < len 256 v := by rw [← mag_length]; exact h
  have h1 := mag_get v k hk
  rw [List.getElem?_eq_getElem h] at h1
  rw [Option.some.inj h1]
  simp

set_option maxRecDepth 100000 in
theorem digit_any (a : Option Addr) (cap : Nat) (l : List UInt8) (i : Nat) (w : World) (h : Rd w a l) (hl : l.length ≤ 2147483647) (hi : i ≤ 2147483647) (hc : l.length ≤ cap) :
    Calls Tryz.prog 40 #[.slice a l.length cap, .int .i64 i] w fun e w' => e = .returned (.int .i64 (digitAt l i)) ∧ w = w' := by
  by_cases hlt : i < l.length
  · obtain ⟨x, rfl, hx⟩ := h.at_ (k := l.length - 1 - i) (by omega)
    have hd := digitAt_in l i hlt
    rw [hd] at hx
    obtain ⟨D, hD⟩ : ∃ D, digitAt l i = D := ⟨_, rfl⟩
    have hD256 : D < 256 := by rw [← hD]; unfold digitAt; exact Nat.mod_lt _ (by omega)
    rw [hD] at hx ⊢
    clear hd hD h
    have k3 : ((l.length : Int) - 1 - i).toNat = l.length - 1 - i := by omega
    go_enter Tryz.func40, Tryz.ntmps40
    go_wp2
    go_ret
    exact ⟨rfl, rfl⟩
  · rw [digitAt_out l i (by omega)]
    go_enter Tryz.func40, Tryz.ntmps40
    go_wp2
    go_ret
    exact ⟨rfl, rfl⟩

set_option maxRecDepth 100000 in
theorem order_any (a1 a2 : Option Addr) (c1 c2 : Nat) (u v : Nat) (w : World) (h1 : Rd w a1 (mag u)) (h2 : Rd w a2 (mag v)) (hu : (mag u).length ≤ 2147483647) (hv : (mag v).length ≤ 2147483647) (hc1 : (mag u).length ≤ c1) (hc2 : (mag v).length ≤ c2) :
    Calls Tryz.prog 39 #[.slice a1 (mag u).length c1, .slice a2 (mag v).length c2] w fun e w' => e = .returned (.int .i64 (cmpN u v)) ∧ Below w.heap.size w w' := by
  have l1 := mag_length u
  have l2 := mag_length v
  rcases Nat.lt_trichotomy (len 256 u) (len 256 v) with hlt | heq | hgt
  · rw [cmpN_len (by omega) hlt]
    have hne : ((((mag u).length : Nat) : Int) != (mag v).length) = true := by simp; omega
    have hlt' : (mag u).length < (mag v).length := by omega
    clear h1 h2 l1 l2 hlt
    go_enter Tryz.func39, Tryz.ntmps39
    go_wp2
    go_ret
    exact ⟨rfl, Below.refl _ _⟩
  · obtain ⟨n, hn⟩ : ∃ n, (mag u).length = n := ⟨_, rfl⟩
    have hn2 : (mag v).length = n := by omega
    have hlu : len 256 u = n := by omega
    have hlv : len 256 v = n := by omega
    have hne : ((n : Int) != n) = false := by simp
    have hbu := len_lt (b := 256) (by omega) u
    have hbv := len_lt (b := 256) (by omega) v
    rw [hlu] at hbu
    rw [hlv] at hbv
    have hst := Lib.hid (show u / 256 ^ n = v / 256 ^ n by rw [Nat.div_eq_of_lt hbu, Nat.div_eq_of_lt hbv])
    rw [hn] at hu hc1 ⊢
    rw [hn2] at hv hc2 ⊢
    obtain ⟨Z, hZ⟩ : ∃ Z, cmpN u v = Z := ⟨_, rfl⟩
    rw [hZ]
    have hZ' := Lib.hid hZ
    have hn' := Lib.hid hn
    have hn2' := Lib.hid hn2
    have hlu' := Lib.hid hlu
    have hlv' := Lib.hid hlv
    clear hbu hbv hZ hn hn2 hlu hlv l1 l2 heq
    go_enter Tryz.func39, Tryz.ntmps39
    go_wp2
    go_loopw [5] (fun i wr => ∃ k : Nat, i = .int .i64 k ∧ k ≤ n ∧ Hid (u / 256 ^ (n - k) = v / 256 ^ (n - k)) ∧ Below w.heap.size w wr) (fun i _ => n - (intOf i).toNat)
    case atStart => exact ⟨0, rfl, Nat.zero_le _, by rw [Nat.sub_zero]; exact hst, Below.refl _ _⟩
    case round =>
      obtain ⟨k, rfl, hk, hq, hb⟩ := hrel
      by_cases hlt : k < n
      · obtain ⟨x, rfl, hx⟩ := (h1.later hb).at_ (k := k) (by rw [hn'.out]; exact hlt)
        obtain ⟨y, rfl, hy⟩ := (h2.later hb).at_ (k := k) (by rw [hn2'.out]; exact hlt)
        rw [mag_at, hlu'.out] at hx
        rw [mag_at, hlv'.out] at hy
        have hq' := hq.out
        rw [show n - k = (n - 1 - k) + 1 by omega] at hq'
        obtain ⟨X, hX⟩ : ∃ X, u / 256 ^ (n - 1 - k) % 256 = X := ⟨_, rfl⟩
        obtain ⟨Y, hY⟩ : ∃ Y, v / 256 ^ (n - 1 - k) % 256 = Y := ⟨_, rfl⟩
        have hX256 : X < 256 := by rw [← hX]; exact Nat.mod_lt _ (by omega)
        have hY256 : Y < 256 := by rw [← hY]; exact Nat.mod_lt _ (by omega)
        have hlo := Lib.hid fun (h : X < Y) => cmpN_lt (b := 256) (by omega) hq' (by rw [hX, hY]; exact h)
        have hhi := Lib.hid fun (h : Y < X) => cmpN_gt (b := 256) (by omega) hq' (by rw [hX, hY]; exact h)
        have hsame := Lib.hid fun (h : X = Y) => div_of_digit hq' (by rw [hX, hY]; exact h)
        rw [hX] at hx
        rw [hY] at hy
        have b1 : (0 : Int) ≤ (k : Int) := by omega
        have b2 : (k : Int) < (n : Int) := by omega
        have h1' := Lib.hid h1
        have h2' := Lib.hid h2
        clear hX hY hq' h1 h2
        rcases Nat.lt_trichotomy X Y with hxy | hxy | hxy
        · have g1 : ((X : Int) != Y) = true := by simp; omega
          have g2 : decide (X < Y) = true := by simp; omega
          have hr := hlo.out hxy
          rw [hZ'.out] at hr
          subst hr
          clear hxy
          go_wp2
          go_quiet (fail)
          go_wp2
          go_quiet (fail)
          go_wp2
          go_ret
          exact ⟨rfl, Box.below_drawn (Box.below_drawn hb _) _⟩
        · have g1 : ((X : Int) != Y) = false := by simp; omega
          have hr := Lib.hid (hsame.out hxy)
          clear hxy
          go_wp2
          go_quiet (fail)
          go_wp2
          go_roundw
          case rel => exact ⟨k + 1, by go_num, by omega, by rw [show n - (k + 1) = n - 1 - k by omega]; exact hr, Box.below_drawn hb _⟩
          case measure => simp [intOf]; omega
        · have g1 : ((X : Int) != Y) = true := by simp; omega
          have g2 : decide (X < Y) = false := by simp; omega
          have hr := hhi.out hxy
          rw [hZ'.out] at hr
          subst hr
          clear hxy
          go_wp2
          go_quiet (fail)
          go_wp2
          go_quiet (fail)
          go_wp2
          go_ret
          exact ⟨rfl, Box.below_drawn (Box.below_drawn hb _) _⟩
      · obtain rfl : k = n := by omega
        have hq' := hq.out
        rw [Nat.sub_self, Nat.pow_zero, Nat.div_one, Nat.div_one] at hq'
        have hr := cmpN_eq hq'
        rw [hZ'.out] at hr
        subst hr
        clear hq'
        go_wp2
        go_ret
        exact ⟨rfl, hb⟩
  · rw [cmpN_len' (by omega) hgt]
    have hne : ((((mag u).length : Nat) : Int) != (mag v).length) = true := by simp; omega
    have hlt' : (mag v).length < (mag u).length := by omega
    clear h1 h2 l1 l2 hgt
    go_enter Tryz.func39, Tryz.ntmps39
    go_wp2
    go_ret
    exact ⟨rfl, Below.refl _ _⟩

theorem ofInt_u64 (a : Nat) (ha : a < 18446744073709551616) : (BitVec.ofInt 64 (a : Int)).toNat = a := by
  rw [BitVec.ofInt_natCast, BitVec.toNat_ofNat]; exact Nat.mod_eq_of_lt (by omega)
theorem u64_or (a b : Nat) (ha : a < 18446744073709551616) (hb : b < 18446744073709551616) : bits .or .u64 (a : Int) (b : Int) = ((a ||| b : Nat) : Int) := by
  have hx : a ||| b < 2 ^ 64 := Nat.or_lt_two_pow (by omega) (by omega)
  show IntKind.u64.wrap ((BitVec.ofInt 64 (a : Int) ||| BitVec.ofInt 64 (b : Int)).toNat : Int) = _
  rw [BitVec.toNat_or, ofInt_u64 a ha, ofInt_u64 b hb, IntKind.wrap_u64]
  omega
theorem or_256 (a b : Nat) (ha : a % 256 = 0) (hb : b < 256) : a ||| b = a + b := by
  have : a = 2 ^ 8 * (a / 256) := by omega
  rw [this, ← Nat.two_pow_add_eq_or_of_lt (show b < 2 ^ 8 from hb)]
theorem low_bits (U D Z : Nat) (hU : U * 256 % 18446744073709551616 + D = Z) (hD : D < 256) :
    bits BinOp.or IntKind.u64 (IntKind.u64.wrap ((U : Int) * 256)) (D : Int) = (Z : Int) := by
  have e1 : IntKind.u64.wrap ((U : Int) * 256) = ((U * 256 % 18446744073709551616 : Nat) : Int) := by rw [IntKind.wrap_u64]; omega
  rw [e1, u64_or _ _ (by omega) (by omega), or_256 _ _ (by omega) hD, hU]

end Go.Proofs.YtpjkfdgkkpkljaaGreatDoor.Ref
