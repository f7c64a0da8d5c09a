/-
  Two words by one: the package's own Div64.
-/
import Derived.Test.YtpjkfdgkkpkljaaGreatDoorShelf
import Derived.Test.YtpjkfdgkkpkljaaGreatDoorKnuthLaw
import Derived.WalkKit
import Derived.LoopTactic
import Derived.Outline
import Derived.WalkSpells
import Derived.WalkLawsBesides
import Derived.Lib.Hide
import Derived.BigQuiet
import Derived.BigGuardPart
import Derived.Deep.DeepCutAuto
import Derived.Deep.CutBlock
import Derived.Deep.Cut
namespace Go.Proofs.YtpjkfdgkkpkljaaGreatDoor.Knuth
open Go.RowKit Go.WideShapes
set_option linter.unusedVariables false

set_option maxRecDepth 100000 in
/-- nothing above: one word by one -/
theorem d64_zero (l y : Nat) (hl : l < 18446744073709551616) (hy : y < 18446744073709551616) (hy0 : 0 < y) (w : World) : Calls Tryz.prog 142 #[.int .u64 0, .int .u64 l, .int .u64 y] w fun e w' => e = .returned (.tuple #[.int .u64 ((l / y : Nat) : Int), .int .u64 ((l % y : Nat) : Int)]) ∧ ∃ q, w' = w.drewN q := by
  have e1 : ((y : Int) == 0) = false := by simp; omega
  have e2 : ¬ (y : Int) = 0 := by omega
  have d1 : decide ((y : Int) ≤ 0) = false := by simp; omega
  have e3 : IntKind.u64.wrap ((l : Int) / (y : Int)) = ((l / y : Nat) : Int) := by
    have h1 := Nat.div_le_self l y
    have h2 : (l : Int) / (y : Int) = ((l / y : Nat) : Int) := (Int.natCast_ediv _ _).symm
    rw [h2]
    generalize l / y = q at h1 ⊢
    show (q : Int) % 18446744073709551616 = _
    omega
  go_enter Tryz.func142, Tryz.ntmps142
  go_wp2_with fail
  go_quiet (fail)
  go_wp2
  go_ret2
  refine ⟨?_, _, rfl⟩
  show Ending.returned (.tuple #[.int .u64 ((l : Int) / (y : Int)), .int .u64 ((l : Int) % (y : Int))]) = _
  rw [Int.natCast_ediv, Int.natCast_emod]
theorem bitlen_high (y : Nat) (h : 9223372036854775808 ≤ y) (hy : y < 18446744073709551616) : Lib.bitLen y = 64 := by
  have h1 := Lib.bitLen_shift 63 y (by omega) (by omega)
  have h2 : y / 2 ^ 63 = 1 := by omega
  rw [h1, h2]
  rfl
theorem mask32 (y : Nat) (hy : y < 18446744073709551616) : bits BinOp.and .u64 (y : Int) 4294967295 = ((y % 4294967296 : Nat) : Int) := by
  have := Go.u64_and_nat y 4294967295 (by omega) (by omega)
  rw [show (4294967295 : Nat) = 2 ^ 32 - 1 by rfl, Nat.and_two_pow_sub_one_eq_mod] at this
  exact this
set_option maxHeartbeats 1000000 in
set_option maxRecDepth 100000 in
/-- two words by one that begins with a 1 -/
theorem d64_high (h l y : Nat) (hh : h < y) (hh0 : 0 < h) (hl : l < 18446744073709551616) (hy : y < 18446744073709551616) (hy0 : 9223372036854775808 ≤ y) (w : World) : Calls Tryz.prog 142 #[.int .u64 h, .int .u64 l, .int .u64 y] w fun e w' => e = .returned (.tuple #[.int .u64 (((h * 18446744073709551616 + l) / y : Nat) : Int), .int .u64 (((h * 18446744073709551616 + l) % y : Nat) : Int)]) ∧ w' = w := by
  have hz : Hid (∀ w, Calls Tryz.prog 156 #[.int .u64 y] w fun e w' => e = .returned (.int .i64 0) ∧ w' = w) := Lib.hid fun w => by
    have := Tryz.bits_LeadingZeros64 (y : Int) w (by omega) (by omega)
    rw [Int.toNat_natCast, bitlen_high y hy0 hy] at this
    exact this
  have e2 : ¬ (y : Int) = 0 := by omega
  have d1 : decide ((y : Int) ≤ (h : Int)) = false := by simp; omega
  obtain ⟨y1, hy1⟩ : ∃ y1, y / 4294967296 = y1 := ⟨_, rfl⟩
  obtain ⟨y0, hy0'⟩ : ∃ y0, y % 4294967296 = y0 := ⟨_, rfl⟩
  obtain ⟨l1, hl1⟩ : ∃ l1, l / 4294967296 = l1 := ⟨_, rfl⟩
  obtain ⟨l0, hl0⟩ : ∃ l0, l % 4294967296 = l0 := ⟨_, rfl⟩
  have a1 : (y : Int) / 4294967296 = (y1 : Int) := by omega
  have a2 : bits BinOp.and .u64 (y : Int) 4294967295 = (y0 : Int) := by rw [mask32 y hy, hy0']
  have a3 : (l : Int) / 18446744073709551616 = 0 := by omega
  have a4 : bits BinOp.or .u64 (h : Int) 0 = (h : Int) := by
    have := Go.u64_or_nat h 0 (by omega) (by omega)
    rw [Nat.or_zero] at this
    exact this
  have a5 : (l : Int) / 4294967296 = (l1 : Int) := by omega
  have a6 : bits BinOp.and .u64 (l : Int) 4294967295 = (l0 : Int) := by rw [mask32 l hl, hl0]
  have ey : y = y1 * 4294967296 + y0 := by omega
  have el : l = l1 * 4294967296 + l0 := by omega
  have by1 : 2147483648 ≤ y1 ∧ y1 < 4294967296 := by omega
  have by0 : y0 < 4294967296 := by omega
  have bl1 : l1 < 4294967296 := by omega
  have bl0 : l0 < 4294967296 := by omega
  obtain ⟨g, hg⟩ : ∃ g, h / y1 = g := ⟨_, rfl⟩
  obtain ⟨r, hr⟩ : ∃ r, h % y1 = r := ⟨_, rfl⟩
  have hgr : h = g * y1 + r := by
    have := Nat.div_add_mod h y1
    rw [hg, hr, Nat.mul_comm] at this
    exact this.symm
  have hrl : r < y1 := by rw [← hr]; exact Nat.mod_lt _ (by omega)
  have hgl : g ≤ h := by rw [← hg]; exact Nat.div_le_self _ _
  have a7 : (h : Int) / (y1 : Int) = (g : Int) := by rw [← hg]; exact (Int.natCast_ediv _ _).symm
  obtain ⟨P, hP⟩ : ∃ P, g * y1 = P := ⟨_, rfl⟩
  have a9 : IntKind.u64.wrap ((g : Int) * (y1 : Int)) = (P : Int) := by
    have : (g : Int) * (y1 : Int) = (P : Int) := by rw [← hP]; simp
    rw [this]
    show (P : Int) % 18446744073709551616 = _
    omega
  have a8 : IntKind.u64.wrap ((h : Int) - (P : Int)) = (r : Int) := by
    have : (h : Int) - (P : Int) = (r : Int) := by omega
    rw [this]
    show (r : Int) % 18446744073709551616 = _
    omega
  obtain ⟨q, hq⟩ : ∃ q, (h * 4294967296 + l1) / y = q := ⟨_, rfl⟩
  have hqy := Nat.div_add_mod (h * 4294967296 + l1) y
  have hqr := Nat.mod_lt (h * 4294967296 + l1) (show 0 < y by omega)
  obtain ⟨R1, hR1⟩ : ∃ R1, (h * 4294967296 + l1) % y = R1 := ⟨_, rfl⟩
  rw [hq, hR1] at hqy
  rw [hR1] at hqr
  have hql : q < 4294967296 := by rw [← hq]; exact digit_lt hh bl1
  have hqlo : q * (y1 * 4294967296 + y0) ≤ h * 4294967296 + l1 := by rw [← ey, Nat.mul_comm q]; omega
  have hqhi : h * 4294967296 + l1 < (q + 1) * (y1 * 4294967296 + y0) := by rw [← ey, Nat.mul_comm (q + 1), Nat.mul_add, Nat.mul_one]; omega
  have hhy : h < y1 * 4294967296 + y0 := by omega
  have hgq : q ≤ g := by rw [← hg]; exact half_first (by omega) bl1 hqlo
  have K := Lib.hid (And.intro hqlo (And.intro hqhi (And.intro hhy (And.intro hgq (And.intro hgr (And.intro ey (And.intro el hqy)))))))
  clear hy1 hy0' hl1 hl0 hg hr hP hq hR1 hqlo hqhi hhy hgq hgr ey el hqy
  obtain ⟨QQ, hQQ⟩ : ∃ QQ, (h * 18446744073709551616 + l) / y = QQ := ⟨_, rfl⟩
  obtain ⟨RR, hRR⟩ : ∃ RR, (h * 18446744073709551616 + l) % y = RR := ⟨_, rfl⟩
  rw [hQQ, hRR]
  have hQR := Lib.hid (And.intro hQQ hRR)
  clear hQQ hRR
  go_enter Tryz.func142, Tryz.ntmps142
  go_wp2_with fail
  refine (hz.out _).mono ?_
  rintro e w1 ⟨rfl, rfl⟩
  go_upto_block 0 with fail
  go_cut [15] (fun v wr => v = .int .u64 (q : Int) ∧ wr = w1)
  case first =>
    go_wp2_with fail
    go_loopw [15, 16] (fun v u wr => ∃ q1 r1 : Nat, v = .int .u64 (q1 : Int) ∧ u = .int .u64 (r1 : Int) ∧ wr = w1 ∧ Hid (h = q1 * y1 + r1) ∧ q ≤ q1 ∧ q1 ≤ h ∧ r1 < 4294967296) (fun v _ _ => (intOf v).toNat)
    case atStart =>
      obtain ⟨k1, k2, k3, k4, k5, k6, k7, k8⟩ := K.out
      exact ⟨g, r, rfl, rfl, rfl, k5, k4, hgl, by omega⟩
    case round =>
      obtain ⟨q1, r1, rfl, rfl, rfl, hh1, hle, hq1h, hr1⟩ := hrel
      obtain ⟨k1, k2, k3, k4, k5, k6, k7, k8⟩ := K.out
      obtain ⟨S, hS⟩ : ∃ S, 4294967296 * r1 = S := ⟨_, rfl⟩
      obtain ⟨S2, hS2⟩ : ∃ S2, S + l1 = S2 := ⟨_, rfl⟩
      have s1 : IntKind.u64.wrap (4294967296 * (r1 : Int)) = (S : Int) := by
        show (4294967296 * (r1 : Int)) % 18446744073709551616 = _
        omega
      have s2 : IntKind.u64.wrap ((S : Int) + (l1 : Int)) = (S2 : Int) := by
        show ((S : Int) + (l1 : Int)) % 18446744073709551616 = _
        omega
      have hSS : 4294967296 * r1 + l1 = S2 := by omega
      clear hS hS2
      by_cases hdown : 4294967296 ≤ q1 ∨ 4294967296 * r1 + l1 < q1 * y0
      · have hlt := half_down hh1.out k1 hql hle hdown
        obtain ⟨q2, hq2⟩ : ∃ q2, q1 = q2 + 1 := ⟨q1 - 1, by omega⟩
        obtain ⟨r2, hr2⟩ : ∃ r2, r1 + y1 = r2 := ⟨_, rfl⟩
        have hh2 : Hid (h = q2 * y1 + r2) := Lib.hid (by have := hh1.out; rw [hq2, Nat.add_mul, Nat.one_mul] at this; omega)
        have i1 : IntKind.u64.wrap ((q1 : Int) - 1) = (q2 : Int) := by
          show ((q1 : Int) - 1) % 18446744073709551616 = _
          omega
        have i2 : IntKind.u64.wrap ((r1 : Int) + (y1 : Int)) = (r2 : Int) := by
          show ((r1 : Int) + (y1 : Int)) % 18446744073709551616 = _
          omega
        have hqq2 : q ≤ q2 := by omega
        have hq2h : q2 ≤ h := by omega
        have hlt2 : q2 < q1 := by omega
        have hbk : 4294967296 ≤ r2 → q2 = q := half_break hh2.out k3 by0 k2 hqq2
        have hbk' := Lib.hid hbk
        have hrb : r2 < 4294967296 ∨ 4294967296 ≤ r2 := by omega
        have X := Lib.hid (And.intro hqq2 (And.intro hq2h (And.intro hlt2 hrb)))
        clear hbk hq2 hr2 k1 k2 k3 k4 k5 k6 k7 k8 hh1 hlt K hqq2 hq2h hlt2 hrb hr1 hle hq1h
        replace by1 := Lib.hid by1
        replace by0 := Lib.hid by0
        replace bl1 := Lib.hid bl1
        replace bl0 := Lib.hid bl0
        replace hql := Lib.hid hql
        replace hrl := Lib.hid hrl
        replace hgl := Lib.hid hgl
        replace hqr := Lib.hid hqr
        replace hh := Lib.hid hh
        replace hh0 := Lib.hid hh0
        replace hl := Lib.hid hl
        replace hy := Lib.hid hy
        replace hy0 := Lib.hid hy0
        rcases Nat.lt_or_ge q1 4294967296 with hA | hA
        · have hg : S2 < q1 * y0 := by omega
          replace by0 := by0.out
          have hm : q1 * y0 < 18446744073709551616 := Nat.lt_of_le_of_lt (Nat.mul_le_mul (show q1 ≤ 4294967295 by omega) (show y0 ≤ 4294967295 by omega)) (by decide)
          obtain ⟨M, hM⟩ : ∃ M, q1 * y0 = M := ⟨_, rfl⟩
          rw [hM] at hm hg
          have hMi : IntKind.u64.wrap ((q1 : Int) * (y0 : Int)) = (M : Int) := by
            have : (q1 : Int) * (y0 : Int) = (M : Int) := by rw [← hM]; simp
            rw [this]
            show (M : Int) % 18446744073709551616 = _
            omega
          clear hM hdown
          clear hSS
          by_cases hbr : 4294967296 ≤ r2
          · have hq2q := Lib.hid (hbk'.out hbr)
            have dR : decide ((4294967296 : Int) ≤ (r2 : Int)) = true := decide_eq_true (by omega)
            clear hbk' hbr
            go_wp2_with fail
            go_meet
            exact ⟨by rw [hq2q.out], rfl⟩
          · have dR : decide ((4294967296 : Int) ≤ (r2 : Int)) = false := decide_eq_false (by omega)
            replace hbr := Lib.hid hbr
            go_wp2_with fail
            all_goals
              refine ⟨⟨q2, r2, rfl, rfl, trivial, hh2, X.out.1, X.out.2.1, by have := hbr.out; omega⟩, ?_⟩
              have := X.out.2.2.1
              simp [intOf]
              omega
        · clear hdown
          clear hSS
          by_cases hbr : 4294967296 ≤ r2
          · have hq2q := Lib.hid (hbk'.out hbr)
            have dR : decide ((4294967296 : Int) ≤ (r2 : Int)) = true := decide_eq_true (by omega)
            clear hbk' hbr
            go_wp2_with fail
            go_meet
            exact ⟨by rw [hq2q.out], rfl⟩
          · have dR : decide ((4294967296 : Int) ≤ (r2 : Int)) = false := decide_eq_false (by omega)
            replace hbr := Lib.hid hbr
            go_wp2_with fail
            all_goals
              refine ⟨⟨q2, r2, rfl, rfl, trivial, hh2, X.out.1, X.out.2.1, by have := hbr.out; omega⟩, ?_⟩
              have := X.out.2.2.1
              simp [intOf]
              omega
      · have hA : q1 < 4294967296 := by omega
        have hg : q1 * y0 ≤ 4294967296 * r1 + l1 := by omega
        have heq : q1 = q := half_stop hh1.out k2 hle hg
        have hm : q1 * y0 < 18446744073709551616 := Nat.lt_of_le_of_lt (Nat.mul_le_mul (show q1 ≤ 4294967295 by omega) (show y0 ≤ 4294967295 by omega)) (by decide)
        obtain ⟨M, hM⟩ : ∃ M, q1 * y0 = M := ⟨_, rfl⟩
        rw [hM] at hm hg
        have hMi : (q1 : Int) * (y0 : Int) = (M : Int) := by rw [← hM]; simp
        clear hM hdown k1 k2 k3 k4 k5 k6 k7 k8 hh1 K
        have heq' := Lib.hid heq
        clear heq
        go_wp2_with fail
        go_meet
        exact ⟨by rw [heq'.out], rfl⟩
  case rest =>
    obtain ⟨rfl, rfl⟩ := hcut
    obtain ⟨k1, k2, k3, k4, k5, k6, k7, k8⟩ := K.out
    obtain ⟨U, hU⟩ : ∃ U, h * 4294967296 + l1 = U := ⟨_, rfl⟩
    have r1w : IntKind.u64.wrap (IntKind.u64.wrap (IntKind.u64.wrap ((h : Int) * 4294967296) + (l1 : Int)) - IntKind.u64.wrap ((q : Int) * (y : Int))) = (R1 : Int) := by
      obtain ⟨T, hT⟩ : ∃ T, q * y = T := ⟨_, rfl⟩
      have hTi : (q : Int) * (y : Int) = (T : Int) := by rw [← hT]; simp
      rw [hTi]
      rw [Nat.mul_comm y, hT] at k8
      show ((((h : Int) * 4294967296 % 18446744073709551616 + (l1 : Int)) % 18446744073709551616 - (T : Int) % 18446744073709551616) % 18446744073709551616) = _
      omega
    obtain ⟨g2, hg2⟩ : ∃ g2, R1 / y1 = g2 := ⟨_, rfl⟩
    obtain ⟨r', hr2'⟩ : ∃ r', R1 % y1 = r' := ⟨_, rfl⟩
    have hgr2 : R1 = g2 * y1 + r' := by
      have := Nat.div_add_mod R1 y1
      rw [hg2, hr2', Nat.mul_comm] at this
      exact this.symm
    have hrl2 : r' < y1 := by rw [← hr2']; exact Nat.mod_lt _ (by omega)
    have hgl2 : g2 ≤ R1 := by rw [← hg2]; exact Nat.div_le_self _ _
    have b7 : (R1 : Int) / (y1 : Int) = (g2 : Int) := by rw [← hg2]; exact (Int.natCast_ediv _ _).symm
    obtain ⟨P2, hP2⟩ : ∃ P2, g2 * y1 = P2 := ⟨_, rfl⟩
    have b9 : IntKind.u64.wrap ((g2 : Int) * (y1 : Int)) = (P2 : Int) := by
      have : (g2 : Int) * (y1 : Int) = (P2 : Int) := by rw [← hP2]; simp
      rw [this]
      show (P2 : Int) % 18446744073709551616 = _
      omega
    have b8 : IntKind.u64.wrap ((R1 : Int) - (P2 : Int)) = (r' : Int) := by
      have : (R1 : Int) - (P2 : Int) = (r' : Int) := by omega
      rw [this]
      show (r' : Int) % 18446744073709551616 = _
      omega
    obtain ⟨p, hp⟩ : ∃ p, (R1 * 4294967296 + l0) / y = p := ⟨_, rfl⟩
    have hpy := Nat.div_add_mod (R1 * 4294967296 + l0) y
    have hpr := Nat.mod_lt (R1 * 4294967296 + l0) (show 0 < y by omega)
    obtain ⟨R2, hR2⟩ : ∃ R2, (R1 * 4294967296 + l0) % y = R2 := ⟨_, rfl⟩
    rw [hp, hR2] at hpy
    rw [hR2] at hpr
    have hpl : p < 4294967296 := by rw [← hp]; exact digit_lt hqr bl0
    have hplo : p * (y1 * 4294967296 + y0) ≤ R1 * 4294967296 + l0 := by rw [← k6, Nat.mul_comm p]; omega
    have hphi : R1 * 4294967296 + l0 < (p + 1) * (y1 * 4294967296 + y0) := by
      obtain ⟨Z, hZ⟩ : ∃ Z, R1 * 4294967296 + l0 = Z := ⟨_, rfl⟩
      rw [hZ] at hpy ⊢
      rw [← k6, Nat.mul_comm (p + 1), Nat.mul_add, Nat.mul_one]
      clear hplo hgr2 hgl2 b7 b8 b9 k8 r1w hZ
      omega
    have hpg : p ≤ g2 := by rw [← hg2]; exact half_first (by omega) bl0 hplo
    have hRy : R1 < y1 * 4294967296 + y0 := by rw [← k6]; exact hqr
    have K2 := Lib.hid (And.intro hplo (And.intro hphi (And.intro hRy (And.intro hpg (And.intro hgr2 (And.intro k6 (And.intro k7 hpy)))))))
    clear hRy hg2 hr2' hgr2 hP2 hp hR2 hplo hphi hpg hpy k1 k2 k3 k4 k5 k6 k7 k8 hU
    go_upto_block 2 with fail
    go_cut [18] (fun v wr => v = .int .u64 (p : Int) ∧ wr = wc)
    case first =>
      go_wp2_with fail
      go_loopw [18, 16] (fun v u wr => ∃ q1 r1 : Nat, v = .int .u64 (q1 : Int) ∧ u = .int .u64 (r1 : Int) ∧ wr = wc ∧ Hid (R1 = q1 * y1 + r1) ∧ p ≤ q1 ∧ q1 ≤ R1 ∧ r1 < 4294967296) (fun v _ _ => (intOf v).toNat)
      case atStart =>
        obtain ⟨k1, k2, k3, k4, k5, k6, k7, k8⟩ := K2.out
        exact ⟨g2, r', rfl, rfl, rfl, k5, k4, hgl2, by omega⟩
      case round =>
        obtain ⟨q1, r1, rfl, rfl, rfl, hh1, hle, hq1h, hr1⟩ := hrel
        obtain ⟨k1, k2, k3, k4, k5, k6, k7, k8⟩ := K2.out
        obtain ⟨S, hS⟩ : ∃ S, 4294967296 * r1 = S := ⟨_, rfl⟩
        obtain ⟨S2, hS2⟩ : ∃ S2, S + l0 = S2 := ⟨_, rfl⟩
        have s1 : IntKind.u64.wrap (4294967296 * (r1 : Int)) = (S : Int) := by
          show (4294967296 * (r1 : Int)) % 18446744073709551616 = _
          omega
        have s2 : IntKind.u64.wrap ((S : Int) + (l0 : Int)) = (S2 : Int) := by
          show ((S : Int) + (l0 : Int)) % 18446744073709551616 = _
          omega
        have hSS : 4294967296 * r1 + l0 = S2 := by omega
        clear hS hS2
        by_cases hdown : 4294967296 ≤ q1 ∨ 4294967296 * r1 + l0 < q1 * y0
        · have hlt := half_down hh1.out k1 hpl hle hdown
          obtain ⟨q2, hq2⟩ : ∃ q2, q1 = q2 + 1 := ⟨q1 - 1, by omega⟩
          obtain ⟨r2, hr2⟩ : ∃ r2, r1 + y1 = r2 := ⟨_, rfl⟩
          have hh2 : Hid (R1 = q2 * y1 + r2) := Lib.hid (by have := hh1.out; rw [hq2, Nat.add_mul, Nat.one_mul] at this; omega)
          have i1 : IntKind.u64.wrap ((q1 : Int) - 1) = (q2 : Int) := by
            show ((q1 : Int) - 1) % 18446744073709551616 = _
            omega
          have i2 : IntKind.u64.wrap ((r1 : Int) + (y1 : Int)) = (r2 : Int) := by
            show ((r1 : Int) + (y1 : Int)) % 18446744073709551616 = _
            omega
          have hqq2 : p ≤ q2 := by omega
          have hq2h : q2 ≤ R1 := by omega
          have hlt2 : q2 < q1 := by omega
          have hbk : 4294967296 ≤ r2 → q2 = p := half_break hh2.out k3 by0 k2 hqq2
          have hbk' := Lib.hid hbk
          have hrb : r2 < 4294967296 ∨ 4294967296 ≤ r2 := by omega
          have X := Lib.hid (And.intro hqq2 (And.intro hq2h (And.intro hlt2 hrb)))
          clear hbk hq2 hr2 k1 k2 k3 k4 k5 k6 k7 k8 hh1 hlt K2 hqq2 hq2h hlt2 hrb hr1 hle hq1h
          replace by1 := Lib.hid by1
          replace by0 := Lib.hid by0
          replace bl1 := Lib.hid bl1
          replace bl0 := Lib.hid bl0
          replace hpl := Lib.hid hpl
          replace hrl2 := Lib.hid hrl2
          replace hgl2 := Lib.hid hgl2
          replace hqr := Lib.hid hqr
          replace hl := Lib.hid hl
          replace hy := Lib.hid hy
          replace hy0 := Lib.hid hy0
          rcases Nat.lt_or_ge q1 4294967296 with hA | hA
          · have hg : S2 < q1 * y0 := by omega
            replace by0 := by0.out
            have hm : q1 * y0 < 18446744073709551616 := Nat.lt_of_le_of_lt (Nat.mul_le_mul (show q1 ≤ 4294967295 by omega) (show y0 ≤ 4294967295 by omega)) (by decide)
            obtain ⟨M, hM⟩ : ∃ M, q1 * y0 = M := ⟨_, rfl⟩
            rw [hM] at hm hg
            have hMi : IntKind.u64.wrap ((q1 : Int) * (y0 : Int)) = (M : Int) := by
              have : (q1 : Int) * (y0 : Int) = (M : Int) := by rw [← hM]; simp
              rw [this]
              show (M : Int) % 18446744073709551616 = _
              omega
            clear hM hdown
            clear hSS
            by_cases hbr : 4294967296 ≤ r2
            · have hq2q := Lib.hid (hbk'.out hbr)
              have dR : decide ((4294967296 : Int) ≤ (r2 : Int)) = true := decide_eq_true (by omega)
              clear hbk' hbr
              go_wp2_with fail
              go_meet
              exact ⟨by rw [hq2q.out], rfl⟩
            · have dR : decide ((4294967296 : Int) ≤ (r2 : Int)) = false := decide_eq_false (by omega)
              replace hbr := Lib.hid hbr
              go_wp2_with fail
              all_goals
                refine ⟨⟨q2, r2, rfl, rfl, trivial, hh2, X.out.1, X.out.2.1, by have := hbr.out; omega⟩, ?_⟩
                have := X.out.2.2.1
                simp [intOf]
                omega
          · clear hdown
            clear hSS
            by_cases hbr : 4294967296 ≤ r2
            · have hq2q := Lib.hid (hbk'.out hbr)
              have dR : decide ((4294967296 : Int) ≤ (r2 : Int)) = true := decide_eq_true (by omega)
              clear hbk' hbr
              go_wp2_with fail
              go_meet
              exact ⟨by rw [hq2q.out], rfl⟩
            · have dR : decide ((4294967296 : Int) ≤ (r2 : Int)) = false := decide_eq_false (by omega)
              replace hbr := Lib.hid hbr
              go_wp2_with fail
              all_goals
                refine ⟨⟨q2, r2, rfl, rfl, trivial, hh2, X.out.1, X.out.2.1, by have := hbr.out; omega⟩, ?_⟩
                have := X.out.2.2.1
                simp [intOf]
                omega
        · have hA : q1 < 4294967296 := by omega
          have hg : q1 * y0 ≤ 4294967296 * r1 + l0 := by omega
          have heq : q1 = p := half_stop hh1.out k2 hle hg
          have hm : q1 * y0 < 18446744073709551616 := Nat.lt_of_le_of_lt (Nat.mul_le_mul (show q1 ≤ 4294967295 by omega) (show y0 ≤ 4294967295 by omega)) (by decide)
          obtain ⟨M, hM⟩ : ∃ M, q1 * y0 = M := ⟨_, rfl⟩
          rw [hM] at hm hg
          have hMi : (q1 : Int) * (y0 : Int) = (M : Int) := by rw [← hM]; simp
          clear hM hdown k1 k2 k3 k4 k5 k6 k7 k8 hh1 K2
          have heq' := Lib.hid heq
          clear heq
          go_wp2_with fail
          go_meet
          exact ⟨by rw [heq'.out], rfl⟩
    case rest =>
      obtain ⟨rfl, rfl⟩ := hcut
      obtain ⟨k1, k2, k3, k4, k5, k6, k7, k8⟩ := K.out
      obtain ⟨j1, j2, j3, j4, j5, j6, j7, j8⟩ := K2.out
      have hall := halves (b := 4294967296) (y := y) (u := h) (u1 := l1) (u0 := l0) (q1 := q) (q0 := p) (r1 := R1) (r0 := R2) (by rw [Nat.mul_comm q]; omega) (by rw [Nat.mul_comm p]; omega)
      obtain ⟨hq1, hr1⟩ := hQR.out
      have hX : h * 18446744073709551616 + l = (q * 4294967296 + p) * y + R2 := by
        rw [← hall]
        clear hall hq1 hr1 k1 k2 k8 j1 j2 j8 r1w a9 a8 b7 b8 b9
        omega
      have hQ : QQ = q * 4294967296 + p := by
        rw [← hq1, hX, Nat.mul_comm _ y, Nat.mul_add_div (by omega), Nat.div_eq_of_lt hpr, Nat.add_zero]
      have hR : RR = R2 := by
        rw [← hr1, hX, Nat.mul_comm _ y, Nat.mul_add_mod, Nat.mod_eq_of_lt hpr]
      have z1 : IntKind.u64.wrap (IntKind.u64.wrap ((q : Int) * 4294967296) + (p : Int)) = (QQ : Int) := by
        show (((q : Int) * 4294967296 % 18446744073709551616 + (p : Int)) % 18446744073709551616) = _
        omega
      have z3 : Hid ((q : Int) * 4294967296 + (p : Int) = (QQ : Int)) := Lib.hid (by omega)
      have z2 : IntKind.u64.wrap (IntKind.u64.wrap (IntKind.u64.wrap ((R1 : Int) * 4294967296) + (l0 : Int)) - IntKind.u64.wrap ((p : Int) * (y : Int))) = (RR : Int) := by
        obtain ⟨T, hT⟩ : ∃ T, p * y = T := ⟨_, rfl⟩
        have hTi : (p : Int) * (y : Int) = (T : Int) := by rw [← hT]; simp
        rw [hTi]
        rw [Nat.mul_comm y, hT] at j8
        clear hall hX hQ k8 r1w
        show ((((R1 : Int) * 4294967296 % 18446744073709551616 + (l0 : Int)) % 18446744073709551616 - (T : Int) % 18446744073709551616) % 18446744073709551616) = _
        omega
      clear hall hX hQ hR hq1 hr1 k1 k2 k3 k4 k5 k6 k7 k8 j1 j2 j3 j4 j5 j6 j7 j8
      go_wp2
      go_ret2
      refine ⟨?_, rfl⟩
      show Ending.returned (.tuple #[.int .u64 ((q : Int) * 4294967296 + (p : Int)), .int .u64 (RR : Int)]) = _
      rw [z3.out]
end Go.Proofs.YtpjkfdgkkpkljaaGreatDoor.Knuth
