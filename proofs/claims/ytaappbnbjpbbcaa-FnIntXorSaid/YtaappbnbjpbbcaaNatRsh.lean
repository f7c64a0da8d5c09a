/-
  A row of words shifted to the right into a row, or within itself. A natural shifted to the right: into a new one, or in place. A natural shifted to the right by any number of places: into a new one, or in place.
-/
import Derived.Test.YtaappbnbjpbbcaaVec
import Derived.Test.YtaappbnbjpbbcaaLshVec
import Derived.Test.YtaappbnbjpbbcaaNatLsh
namespace Go.Proofs.Ytaappbnbjpbbcaa.Nat_
open Go.RowKit Go.WideShapes Go.Proofs.Ytaappbnbjpbbcaa.Own Go.Proofs.Ytaappbnbjpbbcaa.Num Go.Proofs.Ytaappbnbjpbbcaa.Ref
set_option linter.unusedVariables false

theorem word_or_r (x1 x0 s t : Nat) (h0 : x0 < W) (ht : 64 - s = t) (hs : s ≤ 64) : bits BinOp.or IntKind.u64 ((x0 : Int) / 2 ^ s) (IntKind.u64.wrap ((x1 : Int) * 2 ^ t)) = ((x0 / 2 ^ s + x1 * 2 ^ t % W : Nat) : Int) := by
  have hW := W_split s hs
  rw [ht] at hW
  have e1 : IntKind.u64.wrap ((x1 : Int) * 2 ^ t) = ((x1 * 2 ^ t % W : Nat) : Int) := by
    rw [IntKind.wrap_u64, W_eq]; simp
  have e2 : (x0 : Int) / 2 ^ s = ((x0 / 2 ^ s : Nat) : Int) := by simp
  have hl : x0 / 2 ^ s < 2 ^ t := Nat.div_lt_of_lt_mul (by rw [Nat.mul_comm, ← hW]; exact h0)
  rw [e1, e2, Go.u64_or_nat _ _ (show x0 / 2 ^ s < 18446744073709551616 from Nat.lt_of_le_of_lt (Nat.div_le_self _ _) h0) (show x1 * 2 ^ t % W < 18446744073709551616 from Nat.mod_lt _ (by decide)), Nat.or_comm, or_add _ _ t _ hl, Nat.add_comm]
  rw [hW, Nat.mul_comm, Nat.mul_mod_mul_left, Nat.mul_mod_right]

set_option maxHeartbeats 2000000 in
set_option maxRecDepth 100000 in
theorem rshg_any (Y s n N gz cc cz gx d cx B : Nat) (L : List Value) (w0 w : World) (hz : VecAt B w0 w gz N cc (Y / 2 ^ s) 0 L) (hx : Src w gx d n 0 Y) (hn1 : 0 < n) (hn2 : n ≤ N) (hN : N ≤ 10000) (hY : Y < W ^ n) (hs1 : 0 < s) (hs2 : s < 64)
    (hcx : n ≤ cx) (hcz : n ≤ cz) (hd : d ≤ 10000) :
    Calls Try.prog 116 #[.slice (some ⟨gz, 0, none⟩) n cz, .slice (some ⟨gx, d, none⟩) n cx, .int .u64 s] w fun e w' => (∃ u, e = .returned (.int .u64 u)) ∧ VecAt B w0 w' gz N cc (Y / 2 ^ s) n L := by
  have hst := Lib.hid (And.intro hz hx)
  obtain ⟨p, hp⟩ : ∃ p, n = p + 1 := ⟨n - 1, by omega⟩
  subst hp
  have hc0 := hx 0 (by omega) (by omega)
  rw [Nat.add_zero] at hc0
  obtain ⟨D, hD⟩ : ∃ D, Y / W ^ 0 % W = D := ⟨_, rfl⟩
  rw [hD] at hc0
  obtain ⟨t, ht⟩ : ∃ t, 64 - s = t := ⟨_, rfl⟩
  have ht' : IntKind.u64.wrap (64 - (s : Int)) = t := by rw [IntKind.wrap_u64]; omega
  have hs0 : ((s : Int) == 0) = false := by simp; omega
  have e1 := and63 s hs2
  have e2 := and63 t (by omega)
  have ht64 : t ≤ 64 := by omega
  have hY' := Lib.hid hY
  clear hz hx hD hY
  go_enter Try.func116, Try.ntmps116
  go_wp2
  go_loopw [8] (fun i wr => ∃ k : Nat, k ≤ p ∧ i = .int .i64 ((k + 1 : Nat) : Int) ∧ Hid (VecAt B w0 wr gz N cc (Y / 2 ^ s) k L ∧ Src wr gx d (p + 1) k Y)) (fun i _ => p + 1 - (intOf i).toNat)
  case atStart => exact ⟨0, by omega, rfl, hst⟩
  case round =>
    clear hst hc0
    obtain ⟨k, hk, rfl, hI⟩ := hrel
    obtain ⟨hz, hx⟩ := hI.out
    obtain ⟨⟨cv, hcv⟩, hf0⟩ := hz.cell (by omega)
    obtain ⟨X0, hX0⟩ : ∃ X0, Y / W ^ k % W = X0 := ⟨_, rfl⟩
    have hx0 := hx k (by omega) (by omega)
    rw [hX0] at hx0
    have hX0W : X0 < W := by rw [← hX0]; exact Nat.mod_lt _ (by decide)
    have ek : ((k + 1 : Nat) : Int) - 1 = k := by omega
    by_cases hlt : k < p
    · obtain ⟨X1, hX1⟩ : ∃ X1, Y / W ^ (k + 1) % W = X1 := ⟨_, rfl⟩
      have hx1 := hx (k + 1) (by omega) (by omega)
      rw [hX1] at hx1
      obtain ⟨D, hD⟩ : ∃ D, Y / 2 ^ s / W ^ k % W = D := ⟨_, rfl⟩
      have hor : bits BinOp.or IntKind.u64 ((X0 : Int) / 2 ^ s) (IntKind.u64.wrap ((X1 : Int) * 2 ^ t)) = (D : Int) := by
        rw [word_or_r X1 X0 s t hX0W ht (by omega), ← hX0, ← hX1, ← ht, ← shr_word Y s k (by omega), hD]
      have hfin := Lib.hid (show VecAt B w0 (wr.setCell ⟨gz, k, none⟩ (.int .u64 (D : Int))).drew gz N cc (Y / 2 ^ s) (k + 1) L ∧ Src (wr.setCell ⟨gz, k, none⟩ (.int .u64 (D : Int))).drew gx d (p + 1) (k + 1) Y from
        ⟨(hz.store (by omega) D hD).drew, (hx.store (.int .u64 (D : Int)) (by omega) (.inr (by omega))).drew⟩)
      clear hX1 hX0 hX0W hD hz hx hI
      go_wp2_with fail
      go_region
      go_wp2
      go_roundw
      case rel => exact ⟨k + 1, by omega, by go_num, hfin⟩
      case measure => simp [intOf]; omega
    · obtain rfl : k = p := by omega
      obtain ⟨D, hD⟩ : ∃ D, Y / 2 ^ s / W ^ k % W = D := ⟨_, rfl⟩
      have hDX : (X0 : Int) / 2 ^ s = (D : Int) := by
        have e5 : D = X0 / 2 ^ s := by
          rw [← hD, shr_word Y s k (by omega), hX0, Nat.div_eq_of_lt hY'.out]; simp
        rw [e5]; simp
      have hfin := Lib.hid (show VecAt B w0 (wr.setCell ⟨gz, k, none⟩ (.int .u64 (D : Int))) gz N cc (Y / 2 ^ s) (k + 1) L from
        hz.store (by omega) D hD)
      clear hX0 hX0W hD hz hx hI
      go_wp2
      go_ret
      exact ⟨⟨_, rfl⟩, hfin.out⟩

set_option maxHeartbeats 2000000 in
set_option maxRecDepth 100000 in
theorem rshv_any (Y s n N gz cc cz gx d cx B : Nat) (L : List Value) (w0 w : World) (hz : VecAt B w0 w gz N cc (Y / 2 ^ s) 0 L) (hx : Src w gx d n 0 Y) (hn1 : 0 < n) (hn2 : n ≤ N) (hN : N ≤ 10000) (hY : Y < W ^ n) (hs1 : 0 < s) (hs2 : s < 64)
    (hcx : n ≤ cx) (hcz : n ≤ cz) (hd : d ≤ 10000) :
    Calls Try.prog 104 #[.slice (some ⟨gz, 0, none⟩) n cz, .slice (some ⟨gx, d, none⟩) n cx, .int .u64 s] w fun e w' => (∃ u, e = .returned (.int .u64 u)) ∧ VecAt B w0 w' gz N cc (Y / 2 ^ s) n L := by
  have hin := Lib.hid (rshg_any Y s n N gz cc cz gx d cx B L w0 w hz hx hn1 hn2 hN hY hs1 hs2 hcx hcz hd)
  clear hz hx hY
  go_enter Try.func104, Try.ntmps104
  go_wp2_with fail
  refine hin.out.mono ?_
  rintro e w1 ⟨⟨u, rfl⟩, ho⟩
  have hfin := Lib.hid ho
  clear ho hin
  go_wp2
  go_ret
  exact ⟨⟨_, rfl⟩, hfin.out⟩
end Go.Proofs.Ytaappbnbjpbbcaa.Nat_
namespace Go.Proofs.Ytaappbnbjpbbcaa.Nat_
open Go.RowKit Go.WideShapes Go.Proofs.Ytaappbnbjpbbcaa.Own Go.Proofs.Ytaappbnbjpbbcaa.Num Go.Proofs.Ytaappbnbjpbbcaa.Ref
set_option linter.unusedVariables false

set_option maxRecDepth 100000 in
theorem make_room (a : Option Addr) (l n c : Nat) (w : World) (hn : n ≤ c) (h : a = none → n = 0) : Calls Try.prog 88 #[.slice a l c, .int .i64 n] w fun e w' => e = .returned (.slice a n c) ∧ w = w' := by
  cases a with
  | none =>
    obtain rfl : n = 0 := h rfl
    clear h
    go_enter Try.func88, Try.ntmps88
    go_wp2
    go_ret
    exact ⟨rfl, rfl⟩
  | some a =>
    clear h
    go_enter Try.func88, Try.ntmps88
    go_wp2
    go_ret
    exact ⟨rfl, rfl⟩

/-- what make hands out: a row of at least n words, not begun; the words of x from d on stand as they were -/
def MadeAt (B : Nat) (w0 : World) (gx d n Y R : Nat) (e : Ending) (w' : World) : Prop :=
  ∃ gz c N L, e = .returned (.slice (some ⟨gz, 0, none⟩) n c) ∧ VecAt B w0 w' gz N c R 0 L ∧ Src w' gx d n 0 Y ∧ n ≤ N ∧ n ≤ c ∧ N ≤ 10000

set_option maxHeartbeats 2000000 in
set_option maxRecDepth 100000 in
theorem nrsh_main (za : Option Addr) (zl zc : Nat) (X S d s m n gx cx B : Nat) (w0 w : World) (hm : len W X = m) (hmk : Calls Try.prog 88 #[.slice za zl zc, .int .i64 n] w (MadeAt B w0 gx d n (X / W ^ d) (X / 2 ^ S)))
    (hd : S / 64 = d) (hs : S % 64 = s) (hS0 : S ≠ 0) (hS : S ≤ 100000) (hn : d + n = m) (hn0 : 0 < n) (hm2 : m ≤ 5000) (hcx : m ≤ cx) :
    Calls Try.prog 84 #[.slice za zl zc, .slice (some ⟨gx, 0, none⟩) m cx, .int .u64 S] w fun e w' => (∃ u, e = .returned u ∧ IsNat w' B u (X / 2 ^ S)) ∧ Below B w0 w' := by
  have hX : X < W ^ m := by rw [← hm]; exact len_lt W_two X
  have hY : X / W ^ d < W ^ n := by
    refine Nat.div_lt_of_lt_mul ?_
    rw [← Nat.pow_add, hn]
    exact hX
  have hXS : X / 2 ^ S = X / W ^ d / 2 ^ s := by
    rw [show W = 2 ^ 64 by rw [W_eq], ← Nat.pow_mul, Nat.div_div_eq_div_mul, ← Nat.pow_add]
    congr 2
    omega
  have hYS : X / 2 ^ S < W ^ n := by rw [hXS]; exact Nat.lt_of_le_of_lt (Nat.div_le_self _ _) hY
  have hb0 : ((S : Int) == 0) = false := by simp; omega
  have hd' : (S : Int) / 64 = d := by omega
  have hs' : (S : Int) % 64 = s := by omega
  have hn' : (m : Int) - d = n := by omega
  have hmn : (m : Int) - n = d := by omega
  have hnorm := Lib.hid fun (v : Value) W' (h : OwnW W' B v (dig W (X / 2 ^ S) n)) => norm_any v (X / 2 ^ S) n B W' h hYS (by omega)
  have hmk' := Lib.hid hmk
  have hXS' := Lib.hid hXS
  have hY' := Lib.hid hY
  have hYS' := Lib.hid hYS
  have hsS := Lib.hid hs
  clear hX hY hXS hYS hmk hm hd hs
  go_enter Try.func84, Try.ntmps84
  go_wp2_with fail
  refine hmk'.out.mono ?_
  rintro e w1 ⟨gz, c, N, L, rfl, hz, hx, hnN, hnc, hN⟩
  by_cases h0 : s = 0
  · subst h0
    have e0 : (S : Int) % 64 = 0 := by omega
    obtain ⟨w2, hcp, hz2⟩ := hz.copy hx 93 93 Try.underlying93 n (by omega) (by omega) (fun j hj => by
      rw [hXS'.out, Nat.pow_zero, Nat.div_one]) (some ⟨gz, 0, none⟩) (some ⟨gx, d, none⟩) c (cx - d) n (m - d) (by show n = min (m - d) n; omega) (fun _ => ⟨rfl, rfl⟩)
    rw [Nat.zero_add] at hz2
    have hnm := Lib.hid (hnorm.out _ _ (hz2.own hnN))
    have hbel := Lib.hid hz2.2.1
    clear hz hx hz2 hs'
    go_wp2_with fail
    refine hnm.out.mono ?_
    rintro e w3 ⟨⟨u, rfl, hu⟩, rfl⟩
    go_wp2
    go_ret
    exact ⟨⟨_, rfl, hu⟩, hbel.out⟩
  · have hb1 : ((s : Int) == 0) = false := by simp; omega
    have hv := Lib.hid (rshv_any (X / W ^ d) s n N gz c c gx d (cx - d) B L w0 w1 (by rw [← hXS'.out]; exact hz) hx hn0 hnN hN hY'.out (by omega) (by have := hsS.out; omega) (by omega) hnc (by omega))
    clear hz hx
    go_wp2_with fail
    rw [show m - d = n by omega]
    refine hv.out.mono ?_
    rintro e w2 ⟨⟨u, rfl⟩, hz⟩
    rw [← hXS'.out] at hz
    have hnm := Lib.hid (hnorm.out _ _ (hz.own hnN))
    have hbel := Lib.hid hz.2.1
    clear hz
    go_wp2_with fail
    refine hnm.out.mono ?_
    rintro e w3 ⟨⟨u, rfl, hu⟩, rfl⟩
    go_wp2
    go_ret
    exact ⟨⟨_, rfl, hu⟩, hbel.out⟩
theorem info_wd : ∃ j, Try.prog.info? 140 = some j ∧ j.size ≠ 0 := by
  have h : (Try.prog.info? 140).map (fun j => decide (j.size ≠ 0)) = some true := by kernel_rfl
  cases hj : Try.prog.info? 140 with
  | none => rw [hj] at h; cases h
  | some j => rw [hj] at h; exact ⟨j, rfl, by simpa using h⟩
theorem eql_word (a : Addr) (w : World) : (binOp BinOp.eql 156 (.pointer (some a)) (.pointer (some a))).run Try.prog w = .ok (.bool true) w := by
  obtain ⟨j, hj, hs⟩ := info_wd
  exact run_eql_ptr_same w a Try.underlying156 hj
set_option maxRecDepth 100000 in
theorem same_self (g m c : Nat) (w : World) (hm : 0 < m) (hm2 : m ≤ 10000) : Calls Try.prog 102 #[.slice (some ⟨g, 0, none⟩) m c, .slice (some ⟨g, 0, none⟩) m c] w fun e w' => e = .returned (.bool true) ∧ ∃ q, w' = w.drewN q := by
  have hq := eql_word ⟨g, 0, none⟩
  have hb : ((m : Int) == (m : Int)) = true := by simp
  have hb1 : decide ((0 : Int) < (m : Int)) = true := by simp; omega
  have hb2 : decide (0 < m) = true := by simp; omega
  go_enter Try.func102, Try.ntmps102
  go_wp2
  go_quiet (fail)
  go_wp2
  go_ret
  exact ⟨rfl, _, rfl⟩
set_option maxRecDepth 100000 in
theorem same_none (g c : Nat) (w : World) : Calls Try.prog 102 #[.slice (some ⟨g, 0, none⟩) 0 c, .slice (some ⟨g, 0, none⟩) 0 c] w fun e w' => e = .returned (.bool false) ∧ ∃ q, w' = w.drewN q := by
  go_enter Try.func102, Try.ntmps102
  go_wp2
  go_quiet (fail)
  go_wp2
  go_ret
  exact ⟨rfl, _, rfl⟩
set_option maxRecDepth 100000 in
theorem alias_self (g m c : Nat) (w : World) (hc : c ≤ 9223372036854775807) : Calls Try.prog 103 #[.slice (some ⟨g, 0, none⟩) m c, .slice (some ⟨g, 0, none⟩) m c] w fun e w' => e = .returned (.bool (decide (0 < c))) ∧ ∃ q, w' = w.drewN q := by
  by_cases h0 : c = 0
  · subst h0
    rw [show decide (0 < 0) = false from rfl]
    go_enter Try.func103, Try.ntmps103
    go_wp2
    go_quiet (fail)
    go_wp2
    go_ret
    exact ⟨rfl, _, rfl⟩
  · have hb2 : decide (0 < c) = true := by simp; omega
    have hb1 : decide ((0 : Int) < (c : Int)) = true := by simp; omega
    rw [hb2]
    obtain ⟨p, rfl⟩ : ∃ p, c = p + 1 := ⟨c - 1, by omega⟩
    have hq := eql_word ⟨g, p, none⟩
    have e1 : ((p + 1 : Nat) : Int) - 1 = p := by omega
    go_enter Try.func103, Try.ntmps103
    go_wp2
    go_quiet (fail)
    go_wp2
    go_ret
    exact ⟨rfl, _, rfl⟩
end Go.Proofs.Ytaappbnbjpbbcaa.Nat_
namespace Go.Proofs.Ytaappbnbjpbbcaa.Nat_
open Go.RowKit Go.WideShapes Go.Proofs.Ytaappbnbjpbbcaa.Own Go.Proofs.Ytaappbnbjpbbcaa.Num Go.Proofs.Ytaappbnbjpbbcaa.Ref
set_option linter.unusedVariables false

theorem IsNat.mono {w : World} {B B' : Nat} {v : Value} {V : Nat} (h : IsNat w B v V) (hB : B' ≤ B) : IsNat w B' v V := World.ownsRow.mono h hB
theorem shr_zero {X S m : Nat} (hm : len W X = m) (h : m ≤ S / 64) : X / 2 ^ S = 0 := by
  refine Nat.div_eq_of_lt (Nat.lt_of_lt_of_le (len_lt W_two X) ?_)
  rw [hm, show W = 2 ^ 64 by rw [W_eq], ← Nat.pow_mul]
  exact Nat.pow_le_pow_right (by decide) (by omega)

set_option maxRecDepth 100000 in
/-- nothing is left over -/
theorem nrsh_gone (za : Option Addr) (zl zc m c S d : Nat) (a : Option Addr) (w : World) (hd : S / 64 = d) (hS0 : S ≠ 0) (hS : S ≤ 100000) (hm : m ≤ d) (hz : za = none → zc = 0) (hzl : zl ≤ zc) :
    Calls Try.prog 84 #[.slice za zl zc, .slice a m c, .int .u64 S] w fun e w' => e = .returned (.slice za 0 zc) ∧ w = w' := by
  have hb0 : ((S : Int) == 0) = false := by simp; omega
  have hd' : (S : Int) / 64 = d := by omega
  have hle : (m : Int) - d ≤ 0 := by omega
  have hdb : d ≤ 10000 := by omega
  clear hd
  cases za with
  | none =>
    obtain rfl : zc = 0 := hz rfl
    clear hz
    go_enter Try.func84, Try.ntmps84
    go_wp2
    go_ret
    exact ⟨rfl, rfl⟩
  | some x =>
    clear hz
    go_enter Try.func84, Try.ntmps84
    go_wp2
    go_ret
    exact ⟨rfl, rfl⟩

set_option maxHeartbeats 1000000 in
set_option maxRecDepth 100000 in
/-- into a new one -/
theorem nrsh_nil (v : Value) (X S Bx : Nat) (w : World) (h : IsNat w Bx v X) (hm2 : len W X ≤ 5000) (hS : S ≤ 100000) :
    Calls Try.prog 84 #[.slice none 0 0, v, .int .u64 S] w fun e w' => (∃ u, e = .returned u ∧ IsNat w' w.heap.size u (X / 2 ^ S)) ∧ Below w.heap.size w w' := by
  by_cases hS0 : S = 0
  · subst hS0
    rw [Nat.pow_zero, Nat.div_one]
    have hset := Lib.hid fun p => nset_any v X Bx (w.drewN p) h (by omega)
    obtain ⟨a, c, rfl, hc, hr⟩ := h.slice
    obtain ⟨m, hmm⟩ : ∃ m, len W X = m := ⟨_, rfl⟩
    have hsm := Lib.hid (same_nil a m c w (by omega))
    have hal := Lib.hid fun w => alias_nil a m c w
    rw [hmm] at hc hm2 hset ⊢
    clear hr h hmm
    go_enter Try.func84, Try.ntmps84
    go_wp2_with fail
    refine hsm.out.mono ?_
    rintro e w1 ⟨rfl, p, rfl⟩
    go_wp2_with fail
    refine (hal.out _).mono ?_
    rintro e w1 ⟨rfl, q, rfl⟩
    go_wp2_with fail
    refine (hset.out (p + q)).mono ?_
    rintro e w1 ⟨⟨z, rfl, hz⟩, hb1⟩
    go_wp2
    go_ret
    exact ⟨⟨_, rfl, hz⟩, (Box.below_drawn (Below.refl _ _) (p + q)).trans hb1⟩
  · obtain ⟨m, hmm⟩ : ∃ m, len W X = m := ⟨_, rfl⟩
    by_cases hmd : m ≤ S / 64
    · obtain ⟨a, c, rfl, hc, hr⟩ := h.slice
      rw [hmm]
      refine (nrsh_gone none 0 0 m c S (S / 64) a w rfl hS0 hS hmd (fun _ => rfl) (Nat.le_refl _)).mono ?_
      rintro e w' ⟨rfl, rfl⟩
      rw [shr_zero hmm hmd]
      exact ⟨⟨_, rfl, World.ownsRow_nil _ _ _ _⟩, Below.refl _ _⟩
    · obtain ⟨a, c, rfl, hc, hr⟩ := h.slice
      obtain ⟨g, rfl, -⟩ := hr.at_ (j := 0) (by omega)
      rw [hmm] at hc h ⊢
      obtain ⟨d, hd⟩ : ∃ d, S / 64 = d := ⟨_, rfl⟩
      obtain ⟨n, hn⟩ : ∃ n, d + n = m := ⟨m - d, by omega⟩
      have hsrc := h.src d hmm
      have hlt : g < w.heap.size := by
        rcases hr with ⟨h0, _⟩ | ⟨g', e, hg, _⟩
        · cases h0
        · cases e; exact hg
      rw [show m - d = n by omega] at hsrc
      refine nrsh_main none 0 0 X S d (S % 64) m n g c w.heap.size w w hmm ?_ hd rfl hS0 hS hn (by omega) (by omega) hc
      refine (make_any n (by omega) w).mono ?_
      rintro e w1 ⟨⟨z, rfl, hz⟩, hb1⟩
      rcases hz.shape with ⟨_, h0⟩ | ⟨gz, cz, rfl, hgz, hBz, hcz, hcell⟩
      · have := congrArg List.length h0
        rw [dig_length] at this
        simp at this
        omega
      · rw [dig_length] at hcz hz ⊢
        exact ⟨gz, cz, n, _, rfl, hz.vec hb1 hBz _, hsrc.later hb1 hlt, Nat.le_refl _, hcz, by omega⟩

set_option maxRecDepth 100000 in
theorem nset_zero (g c : Nat) (w : World) : Calls Try.prog 91 #[.slice (some ⟨g, 0, none⟩) 0 c, .slice (some ⟨g, 0, none⟩) 0 c] w fun e w' => e = .returned (.slice (some ⟨g, 0, none⟩) 0 c) ∧ w = w' := by
  have hmk := Lib.hid (make_room (some ⟨g, 0, none⟩) 0 0 c w (by omega) (fun h => by cases h))
  have hcp := fun ty => run_copy_none (P := Try.prog) w 93 93 ty 140 (some ⟨g, 0, none⟩) (some ⟨g, 0, none⟩) 0 c 0 c Try.underlying93 size_word (by simp)
  go_enter Try.func91, Try.ntmps91
  go_wp2_with fail
  refine hmk.out.mono ?_
  rintro e w1 ⟨rfl, rfl⟩
  go_wp2
  go_ret
  exact ⟨rfl, rfl⟩

set_option maxHeartbeats 1000000 in
set_option maxRecDepth 100000 in
/-- in place -/
theorem nrsh_self (v : Value) (X S B : Nat) (w0 w : World) (h : IsNat w B v X) (hb : Below B w0 w) (hB : B ≤ w.heap.size) (hm2 : len W X ≤ 5000) (hS : S ≤ 100000) :
    Calls Try.prog 84 #[v, v, .int .u64 S] w fun e w' => (∃ u, e = .returned u ∧ IsNat w' B u (X / 2 ^ S)) ∧ Below B w0 w' := by
  obtain ⟨a, c, rfl, hc, hr⟩ := h.slice
  by_cases ha : a = none
  · subst ha
    have hc0 : len W X = 0 ∧ c = 0 := by
      rcases h.2 with ⟨e, _⟩ | ⟨g', c', cur, e, _⟩
      · simp only [Value.slice.injEq, true_and] at e; exact e
      · cases e
    rw [hc0.1, hc0.2] at h ⊢
    refine (nrsh_nil _ X S B w h hm2 hS).mono ?_
    rintro e w1 ⟨⟨u, rfl, hu⟩, hb1⟩
    exact ⟨⟨u, rfl, hu.mono hB⟩, hb.trans (hb1.mono hB)⟩
  · obtain ⟨g, rfl, hg, hBg⟩ : ∃ g, a = some ⟨g, 0, none⟩ ∧ g < w.heap.size ∧ B ≤ g := by
      rcases hr with ⟨h0, _⟩ | ⟨g, h0, h1, h2, _⟩
      · exact absurd h0 ha
      · exact ⟨g, h0, h1, h2⟩
    clear hr ha
    obtain ⟨m, hmm⟩ : ∃ m, len W X = m := ⟨_, rfl⟩
    rw [hmm] at h hc hm2 ⊢
    have hc9 : c ≤ 9223372036854775807 := by
      rcases h.2 with ⟨e, _⟩ | ⟨g', c', cur, e, _, _, _, hmx, _⟩
      · cases e
      · simp only [Value.slice.injEq] at e
        obtain ⟨-, -, rfl⟩ := e
        exact hmx
    by_cases hS0 : S = 0
    · subst hS0
      rw [Nat.pow_zero, Nat.div_one]
      have h' := Lib.hid h
      have hb' := Lib.hid hb
      by_cases hm0 : m = 0
      · subst hm0
        have hsm := Lib.hid (same_none g c w)
        have hal := Lib.hid fun W => alias_self g 0 c W (by omega)
        have hset := Lib.hid fun W => nset_zero g c W
        have hfin := Lib.hid (show ∀ p, IsNat (w.drewN p) B (.slice (some ⟨g, 0, none⟩) 0 c) X from fun p => h)
        clear h hb hmm
        by_cases hc0 : c = 0
        · subst hc0
          go_enter Try.func84, Try.ntmps84
          go_wp2_with fail
          refine hsm.out.mono ?_
          rintro e w1 ⟨rfl, p, rfl⟩
          go_wp2_with fail
          refine (hal.out _).mono ?_
          rintro e w1 ⟨rfl, q, rfl⟩
          go_wp2_with fail
          refine (hset.out _).mono ?_
          rintro e w1 ⟨rfl, rfl⟩
          go_wp2
          go_ret
          exact ⟨⟨_, rfl, hfin.out _⟩, Box.below_drawn hb'.out (p + q)⟩
        · have hd : decide (0 < c) = true := by simp; omega
          rw [hd] at hal
          clear hd
          go_enter Try.func84, Try.ntmps84
          go_wp2_with fail
          refine hsm.out.mono ?_
          rintro e w1 ⟨rfl, p, rfl⟩
          go_wp2_with fail
          refine (hal.out _).mono ?_
          rintro e w1 ⟨rfl, q, rfl⟩
          go_wp2
          go_ret
          exact ⟨⟨_, rfl, hfin.out _⟩, Box.below_drawn hb'.out (p + q)⟩
      · have hsm := Lib.hid (same_self g m c w (by omega) (by omega))
        have hfin := Lib.hid (show ∀ p, IsNat (w.drewN p) B (.slice (some ⟨g, 0, none⟩) m c) X from fun p => h)
        clear h hb hmm
        go_enter Try.func84, Try.ntmps84
        go_wp2_with fail
        refine hsm.out.mono ?_
        rintro e w1 ⟨rfl, p, rfl⟩
        go_wp2
        go_ret
        exact ⟨⟨_, rfl, hfin.out _⟩, Box.below_drawn hb'.out p⟩
    · by_cases hmd : m ≤ S / 64
      · refine (nrsh_gone (some ⟨g, 0, none⟩) m c m c S (S / 64) _ w rfl hS0 hS hmd (fun h => by cases h) hc).mono ?_
        rintro e w' ⟨rfl, rfl⟩
        rw [shr_zero hmm hmd]
        have hv := (h.vec hmm hb hBg 0).own (Nat.zero_le _)
        exact ⟨⟨_, rfl, hv⟩, hb⟩
      · obtain ⟨d, hd⟩ : ∃ d, S / 64 = d := ⟨_, rfl⟩
        obtain ⟨n, hn⟩ : ∃ n, d + n = m := ⟨m - d, by omega⟩
        have hsrc := h.src d hmm
        rw [show m - d = n by omega] at hsrc
        refine nrsh_main (some ⟨g, 0, none⟩) m c X S d (S % 64) m n g c B w0 w hmm ?_ hd rfl hS0 hS hn (by omega) (by omega) hc
        refine (make_room (some ⟨g, 0, none⟩) m n c w (by omega) (fun h => by cases h)).mono ?_
        rintro e w1 ⟨rfl, rfl⟩
        exact ⟨g, c, m, _, rfl, h.vec hmm hb hBg _, hsrc, by omega, by omega, by omega⟩
end Go.Proofs.Ytaappbnbjpbbcaa.Nat_
