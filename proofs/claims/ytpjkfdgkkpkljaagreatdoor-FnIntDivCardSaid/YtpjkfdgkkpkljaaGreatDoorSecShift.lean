/-
  Sections of rows of words, shifted: to the left into another row, to the right in place.
-/
import Derived.Test.YtpjkfdgkkpkljaaGreatDoorSec
import Derived.Test.YtpjkfdgkkpkljaaGreatDoorLshVec
namespace Go.Proofs.YtpjkfdgkkpkljaaGreatDoor.Nat_
open Go.RowKit Go.WideShapes Go.Proofs.YtpjkfdgkkpkljaaGreatDoor Go.Proofs.YtpjkfdgkkpkljaaGreatDoor.Own Go.Proofs.YtpjkfdgkkpkljaaGreatDoor.Num Go.Proofs.YtpjkfdgkkpkljaaGreatDoor.Ref
set_option linter.unusedVariables false

theorem sec_or (x1 x0 s t : Nat) (h0 : x0 < W) (ht : 64 - s = t) (hs : s ≤ 64) : bits BinOp.or IntKind.u64 ((x0 : Int) / 2 ^ s) (IntKind.u64.wrap ((x1 : Int) * 2 ^ t)) = ((x0 / 2 ^ s + x1 * 2 ^ t % W : Nat) : Int) := by
  have hW := W_split s hs
  rw [ht] at hW
  have e1 : IntKind.u64.wrap ((x1 : Int) * 2 ^ t) = ((x1 * 2 ^ t % W : Nat) : Int) := by
    rw [IntKind.wrap_u64, W_eq]; simp
  have e2 : (x0 : Int) / 2 ^ s = ((x0 / 2 ^ s : Nat) : Int) := by simp
  have hl : x0 / 2 ^ s < 2 ^ t := Nat.div_lt_of_lt_mul (by rw [Nat.mul_comm, ← hW]; exact h0)
  rw [e1, e2, Go.u64_or_nat _ _ (show x0 / 2 ^ s < 18446744073709551616 from Nat.lt_of_le_of_lt (Nat.div_le_self _ _) h0) (show x1 * 2 ^ t % W < 18446744073709551616 from Nat.mod_lt _ (by decide)), Nat.or_comm, or_add _ _ t _ hl, Nat.add_comm]
  rw [hW, Nat.mul_comm, Nat.mul_mod_mul_left, Nat.mul_mod_right]

set_option maxHeartbeats 2000000 in
set_option maxRecDepth 100000 in
theorem lshg_sec (X s m gz cz gx dx cx : Nat) (L : List Value) (w : World) (hz : Wd w gz L) (hx : Src w gx dx m 0 X) (hX : X < W ^ m) (hn2 : m ≤ L.length) (hne : gx ≠ gz) (hm1 : 0 < m) (hm2 : m ≤ 10000) (hdx : dx ≤ 10000) (hcz : m ≤ cz) (hcx : m ≤ cx) (hs1 : 0 < s) (hs2 : s < 64) :
    Calls Tryz.prog 126 #[.slice (some ⟨gz, 0, none⟩) m cz, .slice (some ⟨gx, dx, none⟩) m cx, .int .u64 s] w fun e w' => e = .returned (.int .u64 ((X * 2 ^ s / W ^ m % W : Nat) : Int)) ∧ Wd w' gz (mix L 0 (X * 2 ^ s) 0 m) ∧ Only gz w w' := by
  obtain ⟨p, hp⟩ : ∃ p, m = p + 1 := ⟨m - 1, by omega⟩
  subst hp
  have hst := Lib.hid (show Wd w gz (mix L 0 (X * 2 ^ s) (p + 1) (p + 1)) ∧ Only gz w w ∧ Src w gx dx (p + 1) 0 X from ⟨by rw [mix_nil (Nat.le_refl _)]; exact hz, Only.refl _ _, hx⟩)
  have htop := hx p (by omega) (by omega)
  obtain ⟨D, hD⟩ : ∃ D, X / W ^ p % W = D := ⟨_, rfl⟩
  rw [hD] at htop
  have hD' := Lib.hid hD
  have hX' := Lib.hid hX
  have hne' := Lib.hid hne
  obtain ⟨t, ht⟩ : ∃ t, 64 - s = t := ⟨_, rfl⟩
  have ht' : IntKind.u64.wrap (64 - (s : Int)) = t := by rw [IntKind.wrap_u64]; omega
  have hs0 : ((s : Int) == 0) = false := by simp; omega
  have e1 := and63 s hs2
  have e2 := and63 t (by omega)
  have ht64 : t ≤ 64 := by omega
  clear hz hx hD hX hne
  go_enter Tryz.func126, Tryz.ntmps126
  go_wp2
  obtain ⟨T, hT⟩ : ∃ T : Int, (D : Int) / 2 ^ t = T := ⟨_, rfl⟩
  rw [hT]
  go_loopw [8] (fun i wr => ∃ k : Nat, k ≤ p ∧ i = .int .i64 k ∧ Hid (Wd wr gz (mix L 0 (X * 2 ^ s) (k + 1) (p + 1)) ∧ Only gz w wr ∧ Src wr gx dx (p + 1) 0 X)) (fun i _ => (intOf i).toNat)
  case atStart => exact ⟨p, by omega, rfl, hst⟩
  case round =>
    clear hst htop
    obtain ⟨k, hk, rfl, hI⟩ := hrel
    obtain ⟨hz, ho, hx⟩ := hI.out
    cases k with
    | succ k =>
      have hx1 := hx (k + 1) (by omega) (by omega)
      have hx0 := hx k (by omega) (by omega)
      obtain ⟨⟨cv, hc0⟩, hf0⟩ := hz.some_ (p := k + 1) (by rw [mix_length]; omega)
      obtain ⟨X1, hX1⟩ : ∃ X1, X / W ^ (k + 1) % W = X1 := ⟨_, rfl⟩
      obtain ⟨X0, hX0⟩ : ∃ X0, X / W ^ k % W = X0 := ⟨_, rfl⟩
      rw [hX1] at hx1
      rw [hX0] at hx0
      have ek : ((k + 1 : Nat) : Int) - 1 = k := by omega
      have hX0W : X0 < W := by rw [← hX0]; exact Nat.mod_lt _ (by decide)
      have hfin := Lib.hid (show Wd (wr.setCell ⟨gz, k + 1, none⟩ (.int .u64 (bits BinOp.or IntKind.u64 (IntKind.u64.wrap ((X1 : Int) * 2 ^ s)) ((X0 : Int) / 2 ^ t)))).drew gz (mix L 0 (X * 2 ^ s) (k + 1) (p + 1)) ∧ Only gz w (wr.setCell ⟨gz, k + 1, none⟩ (.int .u64 (bits BinOp.or IntKind.u64 (IntKind.u64.wrap ((X1 : Int) * 2 ^ s)) ((X0 : Int) / 2 ^ t)))).drew ∧ Src (wr.setCell ⟨gz, k + 1, none⟩ (.int .u64 (bits BinOp.or IntKind.u64 (IntKind.u64.wrap ((X1 : Int) * 2 ^ s)) ((X0 : Int) / 2 ^ t)))).drew gx dx (p + 1) 0 X from by
        refine ⟨?_, (ho.setCell _ _).drew, (Src.putDown hx (k + 1) _ hne'.out).drew⟩
        rw [word_or X1 X0 s t hX0W ht (by omega)]
        have e3 : X1 * 2 ^ s % W + X0 / 2 ^ t = X * 2 ^ s / W ^ (k + 1) % W := by rw [shl_word X s k (by omega), hX1, hX0, ht]
        rw [e3]
        have hq := mix_down (L := L) (o := 0) (R := X * 2 ^ s) (b := p + 1) (k := k + 1) (by omega) (by omega)
        rw [Nat.zero_add] at hq
        rw [← hq]
        exact hz.put _ _)
      clear hz hX1 hX0 hX0W hI ho hx
      go_wp2_with fail
      go_region
      go_wp2
      go_roundw
      case rel => exact ⟨k, by omega, rfl, hfin⟩
      case measure => simp [intOf]
    | zero =>
      have hx0 := hx 0 (by omega) (by omega)
      rw [Nat.add_zero] at hx0
      obtain ⟨⟨cv, hc0⟩, hf0⟩ := hz.some_ (p := 0) (by rw [mix_length]; omega)
      obtain ⟨X0, hX0⟩ : ∃ X0, X / W ^ 0 % W = X0 := ⟨_, rfl⟩
      rw [hX0] at hx0
      have hTe : T = ((X * 2 ^ s / W ^ (p + 1) % W : Nat) : Int) := by
        have e5 : X * 2 ^ s / W ^ (p + 1) % W = D / 2 ^ t := by
          rw [shl_word X s p (by omega), hD'.out, ht, Nat.div_eq_of_lt hX'.out]; simp
        rw [e5, ← hT]; simp
      have hfin := Lib.hid (show Wd (wr.setCell ⟨gz, 0, none⟩ (.int .u64 (IntKind.u64.wrap ((X0 : Int) * 2 ^ s)))) gz (mix L 0 (X * 2 ^ s) 0 (p + 1)) ∧ Only gz w (wr.setCell ⟨gz, 0, none⟩ (.int .u64 (IntKind.u64.wrap ((X0 : Int) * 2 ^ s)))) from by
        refine ⟨?_, ho.setCell _ _⟩
        have e1 : IntKind.u64.wrap ((X0 : Int) * 2 ^ s) = ((X0 * 2 ^ s % W : Nat) : Int) := by
          rw [IntKind.wrap_u64, W_eq]; simp
        rw [e1]
        have e3 : X0 * 2 ^ s % W = X * 2 ^ s / W ^ 0 % W := by rw [shl_word0 X s, hX0]
        rw [e3]
        have hq := mix_down (L := L) (o := 0) (R := X * 2 ^ s) (b := p + 1) (k := 0) (by omega) (by omega)
        rw [Nat.add_zero] at hq
        rw [← hq]
        exact hz.put _ _)
      have hTe' := Lib.hid hTe
      clear hT hTe hX0 hz hI ho hx
      go_wp2
      go_ret
      exact ⟨by rw [← hTe'.out]; rfl, hfin.out⟩
set_option maxRecDepth 100000 in
theorem lshv_sec (X s m gz cz gx dx cx : Nat) (L : List Value) (w : World) (hz : Wd w gz L) (hx : Src w gx dx m 0 X) (hX : X < W ^ m) (hn2 : m ≤ L.length) (hne : gx ≠ gz) (hm1 : 0 < m) (hm2 : m ≤ 10000) (hdx : dx ≤ 10000) (hcz : m ≤ cz) (hcx : m ≤ cx) (hs1 : 0 < s) (hs2 : s < 64) :
    Calls Tryz.prog 104 #[.slice (some ⟨gz, 0, none⟩) m cz, .slice (some ⟨gx, dx, none⟩) m cx, .int .u64 s] w fun e w' => e = .returned (.int .u64 ((X * 2 ^ s / W ^ m % W : Nat) : Int)) ∧ Wd w' gz (mix L 0 (X * 2 ^ s) 0 m) ∧ Only gz w w' := by
  have hin := Lib.hid (lshg_sec X s m gz cz gx dx cx L w hz hx hX hn2 hne hm1 hm2 hdx hcz hcx hs1 hs2)
  clear hz hx hX
  go_enter Tryz.func104, Tryz.ntmps104
  go_wp2_with fail
  refine hin.out.mono ?_
  rintro e w1 ⟨rfl, ho⟩
  have hfin := Lib.hid ho
  clear ho hin
  go_wp2
  go_ret
  exact ⟨rfl, hfin.out⟩

set_option maxHeartbeats 2000000 in
set_option maxRecDepth 100000 in
/-- in place -/
theorem rshg_sec (Y s n gz cz cx : Nat) (L : List Value) (w : World) (hz : Wd w gz L) (hx : Src w gz 0 n 0 Y) (hn1 : 0 < n) (hn2 : n ≤ L.length) (hN : n ≤ 10000) (hY : Y < W ^ n) (hs1 : 0 < s) (hs2 : s < 64)
    (hcx : n ≤ cx) (hcz : n ≤ cz) :
    Calls Tryz.prog 131 #[.slice (some ⟨gz, 0, none⟩) n cz, .slice (some ⟨gz, 0, none⟩) n cx, .int .u64 s] w fun e w' => (∃ u, e = .returned (.int .u64 u)) ∧ Wd w' gz (mix L 0 (Y / 2 ^ s) 0 n) ∧ Only gz w w' := by
  have hst := Lib.hid (show Wd w gz (mix L 0 (Y / 2 ^ s) 0 0) ∧ Only gz w w ∧ Src w gz 0 n 0 Y from ⟨by rw [mix_nil (Nat.le_refl _)]; exact hz, Only.refl _ _, hx⟩)
  obtain ⟨p, hp⟩ : ∃ p, n = p + 1 := ⟨n - 1, by omega⟩
  subst hp
  have hc0 := hx 0 (by omega) (by omega)
  rw [Nat.add_zero] at hc0
  obtain ⟨D, hD⟩ : ∃ D, Y / W ^ 0 % W = D := ⟨_, rfl⟩
  rw [hD] at hc0
  obtain ⟨t, ht⟩ : ∃ t, 64 - s = t := ⟨_, rfl⟩
  have ht' : IntKind.u64.wrap (64 - (s : Int)) = t := by rw [IntKind.wrap_u64]; omega
  have hs0 : ((s : Int) == 0) = false := by simp; omega
  have e1 := and63 s hs2
  have e2 := and63 t (by omega)
  have ht64 : t ≤ 64 := by omega
  have hY' := Lib.hid hY
  clear hz hx hD hY
  go_enter Tryz.func131, Tryz.ntmps131
  go_wp2
  go_loopw [8] (fun i wr => ∃ k : Nat, k ≤ p ∧ i = .int .i64 ((k + 1 : Nat) : Int) ∧ Hid (Wd wr gz (mix L 0 (Y / 2 ^ s) 0 k) ∧ Only gz w wr ∧ Src wr gz 0 (p + 1) k Y)) (fun i _ => p + 1 - (intOf i).toNat)
  case atStart => exact ⟨0, by omega, rfl, hst⟩
  case round =>
    clear hst hc0
    obtain ⟨k, hk, rfl, hI⟩ := hrel
    obtain ⟨hz, ho, hx⟩ := hI.out
    obtain ⟨-, hf0⟩ := hz.some_ (p := k) (by rw [mix_length]; omega)
    obtain ⟨X0, hX0⟩ : ∃ X0, Y / W ^ k % W = X0 := ⟨_, rfl⟩
    have hx0 := hx k (by omega) (by omega)
    rw [hX0, Nat.zero_add] at hx0
    have hX0W : X0 < W := by rw [← hX0]; exact Nat.mod_lt _ (by decide)
    have ek : ((k + 1 : Nat) : Int) - 1 = k := by omega
    by_cases hlt : k < p
    · obtain ⟨X1, hX1⟩ : ∃ X1, Y / W ^ (k + 1) % W = X1 := ⟨_, rfl⟩
      have hx1 := hx (k + 1) (by omega) (by omega)
      rw [hX1, Nat.zero_add] at hx1
      obtain ⟨D, hD⟩ : ∃ D, Y / 2 ^ s / W ^ k % W = D := ⟨_, rfl⟩
      have hor : bits BinOp.or IntKind.u64 ((X0 : Int) / 2 ^ s) (IntKind.u64.wrap ((X1 : Int) * 2 ^ t)) = (D : Int) := by
        rw [sec_or X1 X0 s t hX0W ht (by omega), ← hX0, ← hX1, ← ht, ← shr_word Y s k (by omega), hD]
      have hfin := Lib.hid (show Wd (wr.setCell ⟨gz, k, none⟩ (.int .u64 (D : Int))).drew gz (mix L 0 (Y / 2 ^ s) 0 (k + 1)) ∧ Only gz w (wr.setCell ⟨gz, k, none⟩ (.int .u64 (D : Int))).drew ∧ Src (wr.setCell ⟨gz, k, none⟩ (.int .u64 (D : Int))).drew gz 0 (p + 1) (k + 1) Y from by
        refine ⟨?_, (ho.setCell _ _).drew, ?_⟩
        · have hq := mix_up (L := L) (o := 0) (R := Y / 2 ^ s) (a := 0) (k := k) (by omega) (by omega)
          rw [Nat.zero_add, hD] at hq
          rw [← hq]
          exact hz.put _ _
        · have := Src.put (oz := 0) (gz := gz) hx (.int .u64 (D : Int)) (.inr (.inr (Nat.le_refl _)))
          rw [Nat.zero_add] at this
          exact this.drew)
      clear hX1 hX0 hX0W hD hz hx hI ho
      go_wp2_with fail
      go_region
      go_wp2
      go_roundw
      case rel => exact ⟨k + 1, by omega, by go_num, hfin⟩
      case measure => simp [intOf]; omega
    · obtain rfl : k = p := by omega
      obtain ⟨D, hD⟩ : ∃ D, Y / 2 ^ s / W ^ k % W = D := ⟨_, rfl⟩
      have hDX : (X0 : Int) / 2 ^ s = (D : Int) := by
        have e5 : D = X0 / 2 ^ s := by
          rw [← hD, shr_word Y s k (by omega), hX0, Nat.div_eq_of_lt hY'.out]; simp
        rw [e5]; simp
      have hfin := Lib.hid (show Wd (wr.setCell ⟨gz, k, none⟩ (.int .u64 (D : Int))) gz (mix L 0 (Y / 2 ^ s) 0 (k + 1)) ∧ Only gz w (wr.setCell ⟨gz, k, none⟩ (.int .u64 (D : Int))) from by
        refine ⟨?_, ho.setCell _ _⟩
        have hq := mix_up (L := L) (o := 0) (R := Y / 2 ^ s) (a := 0) (k := k) (by omega) (by omega)
        rw [Nat.zero_add, hD] at hq
        rw [← hq]
        exact hz.put _ _)
      clear hX0 hX0W hD hz hx hI ho
      go_wp2
      go_ret
      exact ⟨⟨_, rfl⟩, hfin.out⟩
set_option maxRecDepth 100000 in
theorem rshv_sec (Y s n gz cz cx : Nat) (L : List Value) (w : World) (hz : Wd w gz L) (hx : Src w gz 0 n 0 Y) (hn1 : 0 < n) (hn2 : n ≤ L.length) (hN : n ≤ 10000) (hY : Y < W ^ n) (hs1 : 0 < s) (hs2 : s < 64)
    (hcx : n ≤ cx) (hcz : n ≤ cz) :
    Calls Tryz.prog 108 #[.slice (some ⟨gz, 0, none⟩) n cz, .slice (some ⟨gz, 0, none⟩) n cx, .int .u64 s] w fun e w' => (∃ u, e = .returned (.int .u64 u)) ∧ Wd w' gz (mix L 0 (Y / 2 ^ s) 0 n) ∧ Only gz w w' := by
  have hin := Lib.hid (rshg_sec Y s n gz cz cx L w hz hx hn1 hn2 hN hY hs1 hs2 hcx hcz)
  clear hz hx hY
  go_enter Tryz.func108, Tryz.ntmps108
  go_wp2_with fail
  refine hin.out.mono ?_
  rintro e w1 ⟨⟨u, rfl⟩, ho⟩
  have hfin := Lib.hid ho
  clear ho hin
  go_wp2
  go_ret
  exact ⟨⟨_, rfl⟩, hfin.out⟩
end Go.Proofs.YtpjkfdgkkpkljaaGreatDoor.Nat_
