/-
  A row of words shifted to the right into a row, or within itself.
-/
import Derived.Test.YtaappbnbjpbbcaaVec
import Derived.Test.YtaappbnbjpbbcaaLshVec
namespace Go.Proofs.Ytaappbnbjpbbcaa.Nat_
open Go.RowKit Go.WideShapes Go.Proofs.Ytaappbnbjpbbcaa.Own Go.Proofs.Ytaappbnbjpbbcaa.Num Go.Proofs.Ytaappbnbjpbbcaa.Ref
set_option linter.unusedVariables false

theorem word_or_r (x1 x0 s t : Nat) (h0 : x0 < W) (ht : 64 - s = t) (hs : s ≤ 64) : bits BinOp.or IntKind.u64 ((x0 : Int) / 2 ^ s) (IntKind.u64.wrap ((x1 : Int) * 2 ^ t)) = ((x0 / 2 ^ s + x1 * 2 ^ t % W : Nat) : Int) := by
  have hW := W_split s hs
  rw [ht] at hW
  have e1 : IntKind.u64.wrap ((x1 : Int) * 2 ^ t) = ((x1 * 2 ^ t % W : Nat) : Int) := by
    rw [IntKind.wrap_u64, W_eq]; simp
  have e2 : (x0 : Int) / 2 ^ s = ((x0 / 2 ^ s : Nat) : Int) := by simp
  have hl : x0 / 2 ^ s < 2 ^ t := Nat.div_lt_of_lt_mul (by rw [Nat.mul_comm, ← hW]; exact h0)
  rw [e1, e2, Go.u64_or_nat _ _ (show x0 / 2 ^ s < 18446744073709551616 from Nat.lt_of_le_of_lt (Nat.div_le_self _ _) h0) (show x1 * 2 ^ t % W < 18446744073709551616 from Nat.mod_lt _ (by decide)), Nat.or_comm, or_add _ _ t _ hl, Nat.add_comm]
  rw [hW, Nat.mul_comm, Nat.mul_mod_mul_left, Nat.mul_mod_right]

set_option maxHeartbeats 2000000 in
set_option maxRecDepth 100000 in
theorem rshg_any (Y s n N gz cc cz gx d cx B : Nat) (L : List Value) (w0 w : World) (hz : VecAt B w0 w gz N cc (Y / 2 ^ s) 0 L) (hx : Src w gx d n 0 Y) (hn1 : 0 < n) (hn2 : n ≤ N) (hN : N ≤ 10000) (hY : Y < W ^ n) (hs1 : 0 < s) (hs2 : s < 64)
    (hcx : n ≤ cx) (hcz : n ≤ cz) (hd : d ≤ 10000) :
    Calls Try.prog 116 #[.slice (some ⟨gz, 0, none⟩) n cz, .slice (some ⟨gx, d, none⟩) n cx, .int .u64 s] w fun e w' => (∃ u, e = .returned (.int .u64 u)) ∧ VecAt B w0 w' gz N cc (Y / 2 ^ s) n L := by
  have hst := Lib.hid (And.intro hz hx)
  obtain ⟨p, hp⟩ : ∃ p, n = p + 1 := ⟨n - 1, by omega⟩
  subst hp
  have hc0 := hx 0 (by omega) (by omega)
  rw [Nat.add_zero] at hc0
  obtain ⟨D, hD⟩ : ∃ D, Y / W ^ 0 % W = D := ⟨_, rfl⟩
  rw [hD] at hc0
  obtain ⟨t, ht⟩ : ∃ t, 64 - s = t := ⟨_, rfl⟩
  have ht' : IntKind.u64.wrap (64 - (s : Int)) = t := by rw [IntKind.wrap_u64]; omega
  have hs0 : ((s : Int) == 0) = false := by simp; omega
  have e1 := and63 s hs2
  have e2 := and63 t (by omega)
  have ht64 : t ≤ 64 := by omega
  have hY' := Lib.hid hY
  clear hz hx hD hY
  go_enter Try.func116, Try.ntmps116
  go_wp2
  go_loopw [8] (fun i wr => ∃ k : Nat, k ≤ p ∧ i = .int .i64 ((k + 1 : Nat) : Int) ∧ Hid (VecAt B w0 wr gz N cc (Y / 2 ^ s) k L ∧ Src wr gx d (p + 1) k Y)) (fun i _ => p + 1 - (intOf i).toNat)
  case atStart => exact ⟨0, by omega, rfl, hst⟩
  case round =>
    clear hst hc0
    obtain ⟨k, hk, rfl, hI⟩ := hrel
    obtain ⟨hz, hx⟩ := hI.out
    obtain ⟨⟨cv, hcv⟩, hf0⟩ := hz.cell (by omega)
    obtain ⟨X0, hX0⟩ : ∃ X0, Y / W ^ k % W = X0 := ⟨_, rfl⟩
    have hx0 := hx k (by omega) (by omega)
    rw [hX0] at hx0
    have hX0W : X0 < W := by rw [← hX0]; exact Nat.mod_lt _ (by decide)
    have ek : ((k + 1 : Nat) : Int) - 1 = k := by omega
    by_cases hlt : k < p
    · obtain ⟨X1, hX1⟩ : ∃ X1, Y / W ^ (k + 1) % W = X1 := ⟨_, rfl⟩
      have hx1 := hx (k + 1) (by omega) (by omega)
      rw [hX1] at hx1
      obtain ⟨D, hD⟩ : ∃ D, Y / 2 ^ s / W ^ k % W = D := ⟨_, rfl⟩
      have hor : bits BinOp.or IntKind.u64 ((X0 : Int) / 2 ^ s) (IntKind.u64.wrap ((X1 : Int) * 2 ^ t)) = (D : Int) := by
        rw [word_or_r X1 X0 s t hX0W ht (by omega), ← hX0, ← hX1, ← ht, ← shr_word Y s k (by omega), hD]
      have hfin := Lib.hid (show VecAt B w0 (wr.setCell ⟨gz, k, none⟩ (.int .u64 (D : Int))).drew gz N cc (Y / 2 ^ s) (k + 1) L ∧ Src (wr.setCell ⟨gz, k, none⟩ (.int .u64 (D : Int))).drew gx d (p + 1) (k + 1) Y from
        ⟨(hz.store (by omega) D hD).drew, (hx.store (.int .u64 (D : Int)) (by omega) (.inr (by omega))).drew⟩)
      clear hX1 hX0 hX0W hD hz hx hI
      go_wp2_with fail
      go_region
      go_wp2
      go_roundw
      case rel => exact ⟨k + 1, by omega, by go_num, hfin⟩
      case measure => simp [intOf]; omega
    · obtain rfl : k = p := by omega
      obtain ⟨D, hD⟩ : ∃ D, Y / 2 ^ s / W ^ k % W = D := ⟨_, rfl⟩
      have hDX : (X0 : Int) / 2 ^ s = (D : Int) := by
        have e5 : D = X0 / 2 ^ s := by
          rw [← hD, shr_word Y s k (by omega), hX0, Nat.div_eq_of_lt hY'.out]; simp
        rw [e5]; simp
      have hfin := Lib.hid (show VecAt B w0 (wr.setCell ⟨gz, k, none⟩ (.int .u64 (D : Int))) gz N cc (Y / 2 ^ s) (k + 1) L from
        hz.store (by omega) D hD)
      clear hX0 hX0W hD hz hx hI
      go_wp2
      go_ret
      exact ⟨⟨_, rfl⟩, hfin.out⟩

set_option maxHeartbeats 2000000 in
set_option maxRecDepth 100000 in
theorem rshv_any (Y s n N gz cc cz gx d cx B : Nat) (L : List Value) (w0 w : World) (hz : VecAt B w0 w gz N cc (Y / 2 ^ s) 0 L) (hx : Src w gx d n 0 Y) (hn1 : 0 < n) (hn2 : n ≤ N) (hN : N ≤ 10000) (hY : Y < W ^ n) (hs1 : 0 < s) (hs2 : s < 64)
    (hcx : n ≤ cx) (hcz : n ≤ cz) (hd : d ≤ 10000) :
    Calls Try.prog 104 #[.slice (some ⟨gz, 0, none⟩) n cz, .slice (some ⟨gx, d, none⟩) n cx, .int .u64 s] w fun e w' => (∃ u, e = .returned (.int .u64 u)) ∧ VecAt B w0 w' gz N cc (Y / 2 ^ s) n L := by
  have hin := Lib.hid (rshg_any Y s n N gz cc cz gx d cx B L w0 w hz hx hn1 hn2 hN hY hs1 hs2 hcx hcz hd)
  clear hz hx hY
  go_enter Try.func104, Try.ntmps104
  go_wp2_with fail
  refine hin.out.mono ?_
  rintro e w1 ⟨⟨u, rfl⟩, ho⟩
  have hfin := Lib.hid ho
  clear ho hin
  go_wp2
  go_ret
  exact ⟨⟨_, rfl⟩, hfin.out⟩
end Go.Proofs.Ytaappbnbjpbbcaa.Nat_
