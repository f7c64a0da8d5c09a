/-
  Long division, digit by digit: the package's divBasic.
-/
import Derived.Test.YtpjkfdgkkpkljaaGreatDoorKnuthStep
import Derived.Test.YtpjkfdgkkpkljaaGreatDoorStack
import Derived.Test.YtpjkfdgkkpkljaaGreatDoorDivWW
import Derived.Deep.CutBlock
import Derived.Deep.CutRange
import Derived.Deep.DeepCutAuto
import Derived.Deep.LoopGhost
import Derived.BigGuardPart
import Derived.StillTailTactics
namespace Go.Proofs.YtpjkfdgkkpkljaaGreatDoor.Nat_
open Go.RowKit Go.WideShapes Go.Proofs.YtpjkfdgkkpkljaaGreatDoor Go.Proofs.YtpjkfdgkkpkljaaGreatDoor.Own Go.Proofs.YtpjkfdgkkpkljaaGreatDoor.Num Go.Proofs.YtpjkfdgkkpkljaaGreatDoor.Ref Go.Proofs.YtpjkfdgkkpkljaaGreatDoor.Knuth
set_option linter.unusedVariables false

/-- but three blocks nothing has turned -/
structure Tri (g1 g2 g3 : Nat) (w w' : World) : Prop where
  os : w'.os = w.os
  tape : w'.tape = w.tape
  output : w'.output = w.output
  size : w'.heap.size = w.heap.size
  block : ∀ k, k ≠ g1 → k ≠ g2 → k ≠ g3 → w'.heap[k]? = w.heap[k]?
theorem Tri.refl (g1 g2 g3 : Nat) (w : World) : Tri g1 g2 g3 w w := ⟨rfl, rfl, rfl, rfl, fun _ _ _ _ => rfl⟩
theorem Tri.only {g g1 g2 g3 : Nat} {a w w' : World} (h : Tri g1 g2 g3 a w) (k : Only g w w') (hg : g = g1 ∨ g = g2 ∨ g = g3) : Tri g1 g2 g3 a w' :=
  ⟨k.os.trans h.os, k.tape.trans h.tape, k.output.trans h.output, k.size.trans h.size, fun i h1 h2 h3 => (k.block i (by rcases hg with rfl | rfl | rfl <;> assumption)).trans (h.block i h1 h2 h3)⟩
theorem Tri.drawn {g1 g2 g3 : Nat} {a w : World} (h : Tri g1 g2 g3 a w) (n : Nat) : Tri g1 g2 g3 a (w.drewN n) := ⟨h.os, h.tape, h.output, h.size, h.block⟩

/-- the state of the division when the digits from place k on stand -/
structure Div (gq gu gv bx m n N U V : Nat) (Lq Lu : List Value) (lx : Nat) (w1 : World) (k : Nat) (w : World) : Prop where
  u : Wd w gu (mix Lu 0 (left U V k) 0 N)
  q : Wd w gq (mix Lq 0 (U / V) k m)
  x : ∃ Lx, Wd w bx Lx ∧ Lx.length = lx
  v : Src w gv 0 n 0 V
  t : Tri gu gq bx w1 w

theorem mcarry_top {V qh n : Nat} (hV : V < W ^ n) (hq : qh < W) : mcarry V qh 0 n = (V * qh + 0) / W ^ n % W := by
  have h := mcarry_lt V qh 0 n hq W_pos
  unfold mcarry at h ⊢
  rw [Nat.mod_eq_of_lt hV] at h ⊢
  exact (Nat.mod_eq_of_lt h).symm
/-- what the division leaves -/
def Done (gq gu m N U V : Nat) (Lq Lu : List Value) (g : Nat) (w w' : World) : Prop :=
  Wd w' gq (mix Lq 0 (U / V) 0 m) ∧ Wd w' gu (mix Lu 0 (U % V) 0 N) ∧ Below g w w'

set_option maxHeartbeats 4000000 in
set_option maxRecDepth 100000 in
theorem basic_any (p n N m V U gq cq g l gu cu gv cv : Nat) (b : Option Nat) (Lq Lu Lv : List Value) (w : World) (hnp : p + 2 = n) (hN : m + n = N) (hm : 0 < m) (hm9 : m ≤ 1000) (hp9 : p ≤ 900)
    (hq : Wd w gq Lq) (hql : m ≤ Lq.length) (hu : Wd w gu Lu) (hul : N ≤ Lu.length) (hus : Src w gu 0 N 0 U) (hU : U < 9223372036854775808 * W ^ (m + (p + 1)))
    (hv : Wd w gv Lv) (hvs : Src w gv 0 n 0 V) (hV : V < W ^ (p + 2)) (hn : 9223372036854775808 * W ^ (p + 1) ≤ V)
    (hst : Stk w g b l) (hl : l ≤ 5000) (hbv : b = some gv → n ≤ l) (hbq : b ≠ some gq) (hbu : b ≠ some gu) (hgq : g < gq) (hgu : g < gu) (h1 : gu ≠ gq) (h2 : gv ≠ gq) (h3 : gv ≠ gu) (hcq : m ≤ cq) (hcu : N ≤ cu) (hcv : n ≤ cv) (hcu9 : cu ≤ maxLen) (hcq9 : cq ≤ maxLen) (hcv9 : cv ≤ maxLen) :
    Calls Tryz.prog 106 #[.slice (some ⟨gq, 0, none⟩) m cq, .pointer (some ⟨g, 0, none⟩), .slice (some ⟨gu, 0, none⟩) N cu, .slice (some ⟨gv, 0, none⟩) n cv] w fun e w' => e = .returned (.tuple #[]) ∧ Done gq gu m N U V Lq Lu g w w' ∧ ∃ b' l', Stk w' g b' l' ∧ l ≤ l' := by
  have hV0 : 0 < V := k_vpos hn
  have hsv := Lib.hid fun w (h : Stk w g b l) => save_any g b l w h
  obtain ⟨n1, hn1⟩ : ∃ n1, n + 1 = n1 := ⟨_, rfl⟩
  have hgot := Lib.hid (snat_any g b l n1 w hst (by omega) (by omega) (by omega))
  obtain ⟨p1, hp1⟩ : ∃ p1, p + 1 = p1 := ⟨_, rfl⟩
  have i1 : (n : Int) + 1 = (n1 : Int) := by omega
  have i2 : (n : Int) - 1 = (p1 : Int) := by omega
  have i3 : (n : Int) - 2 = (p : Int) := by omega
  have i4 : (N : Int) - (n : Int) = (m : Int) := by omega
  obtain ⟨v1, hv1⟩ : ∃ v1, V / W ^ (p + 1) = v1 := ⟨_, rfl⟩
  obtain ⟨v2, hv2⟩ : ∃ v2, V / W ^ p % W = v2 := ⟨_, rfl⟩
  obtain ⟨k1, k2⟩ := k_v1 hV hn
  rw [hv1] at k1 k2
  have cv1 := hvs p1 (by omega) (by omega)
  rw [Nat.zero_add, ← hp1, hv1, Nat.mod_eq_of_lt k2, hp1] at cv1
  have hrcp := Lib.hid fun w => rcp_any v1 (by omega) k2 w
  have hkeep := Lib.hid (And.intro hq (And.intro hu (And.intro hv (And.intro hus (And.intro hvs hst)))))
  have hnz := nz_high k1 k2
  obtain ⟨M, hM⟩ : ∃ M, rcp (v1 * 2 ^ nz v1) = M := ⟨_, rfl⟩
  have hdw := Lib.hid fun x1 x0 w h1 h0 => divww_any x1 x0 v1 k2 h1 h0 w
  rw [hM] at hrcp hdw
  have k2' : v1 < 18446744073709551616 := k2
  clear hnz hM hq hu hv hus
  have hst' := Lib.hid hst
  have cv1' := Lib.hid cv1
  have hvs' := Lib.hid hvs
  have hU' := Lib.hid hU
  have hV' := Lib.hid hV
  have hn' := Lib.hid hn
  have hbv' := Lib.hid hbv
  replace hcu9 : cu ≤ 9223372036854775807 := by unfold maxLen at hcu9; omega
  replace hcq9 : cq ≤ 9223372036854775807 := by unfold maxLen at hcq9; omega
  replace hcv9 : cv ≤ 9223372036854775807 := by unfold maxLen at hcv9; omega
  clear hst hvs cv1 hU hV hn hbv
  go_enter_defers Tryz.func106, Tryz.ntmps106
  go_wp2_with fail
  refine (hsv.out _ hst'.out).mono ?_
  rintro e w0 ⟨rfl, rfl⟩
  go_wp2_with fail
  refine hgot.out.mono ?_
  rintro e w1 ⟨bx, ox, cx, Lx, b', l', rfl, g1, g2, g3, g4, g5, g6, g7, g8, g9, g10, g11, g12, g13, g14⟩
  obtain ⟨hq, hu, hv, hus, hvs, -⟩ := hkeep.out
  obtain ⟨hq1, hqx⟩ := g13 gq Lq hbq hq
  obtain ⟨hu1, hux⟩ := g13 gu Lu hbu hu
  obtain ⟨hvs1, hvx⟩ := g12 gv Lv n V hv hbv'.out hvs
  obtain ⟨hus1, -⟩ := g12 gu Lu N U hu (fun h => absurd h hbu) hus
  have cv1 := hvs1 p1 (by omega) (by omega)
  rw [Nat.zero_add, ← hp1, hv1, Nat.mod_eq_of_lt k2, hp1] at cv1
  have hux' := Lib.hid (show U < V * W ^ (m + 1) from by
    refine Nat.lt_of_lt_of_le hU'.out ?_
    have := Nat.mul_le_mul_right (W ^ m) hn'.out
    rw [Nat.mul_assoc, ← Nat.pow_add] at this
    rw [show m + (p + 1) = p + 1 + m by omega]
    refine Nat.le_trans this ?_
    rw [Nat.pow_succ, ← Nat.mul_assoc]
    exact Nat.le_mul_of_pos_right _ W_pos)
  have hD0 := Lib.hid (show ∀ q, Div gq gu gv bx m n N U V Lq Lu Lx.length w1 (m + 1) (w1.drewN q) from fun q => by
    refine ⟨?_, ?_, ⟨Lx, g2, rfl⟩, hvs1, (Tri.refl _ _ _ _).drawn q⟩
    · have e : mix Lu 0 (left U V (m + 1)) 0 N = Lu := by
        have e1 : left U V (m + 1) = U := Nat.mod_eq_of_lt hux'.out
        rw [e1]
        refine (mix_ext rfl (by omega) (fun i hi => ?_) (fun i hi => rfl)).symm
        have := hus1.get hu1 i (by omega) (by omega)
        rw [Nat.zero_add] at this
        exact this
      rw [e]
      exact hu1
    · rw [mix_nil (by omega)]
      exact hq1)
  have hstk : Hid (∀ wr, Tri gu gq bx w1 wr → (∃ L, Wd wr bx L ∧ L.length = Lx.length) → Stk wr g b' l') := Lib.hid fun wr ht hx => by
    rcases g9 with rfl | rfl
    · obtain ⟨z1, z2⟩ := g5
      exact ⟨(ht.block g (by omega) (by omega) (by omega)).trans z1, z2⟩
    · obtain ⟨gi, c, L0, z1, z2, z3, z4, z5, z6, z7, z8⟩ := g5
      obtain ⟨L, y1, y2⟩ := hx
      have hL0 : L0 = Lx := by
        have e1 : w1.heap[bx]? = some (.cells L0.toArray 111 (0, 0)) := z3
        have e2 : w1.heap[bx]? = some (.cells Lx.toArray 111 (0, 0)) := g2
        rw [e1] at e2
        simpa using e2
      exact ⟨gi, c, L, (ht.block g (by omega) (by omega) (by omega)).trans z1, (ht.block gi (Ne.symm (hu1.ne_inner z2)) (Ne.symm (hq1.ne_inner z2)) (Ne.symm (g2.ne_inner z2))).trans z2, y1, by rw [y2, ← hL0, z4], z5, z6, z7, z8⟩
  have hst1 := Lib.hid (And.intro g6 g10)
  have hvx' := Lib.hid hvx
  clear hq hu hv hus hvs hkeep hgot hq1 hu1 hvs1 hus1 g2 g5 g8 g9 g10 g12 g13 hvx hsv hst' hvs' cv1'
  go_wp2_with fail
  refine (hrcp.out _).mono ?_
  rintro e w2 ⟨rfl, q, rfl⟩
  have hD := Lib.hid (hD0.out q)
  clear hD0 hrcp cv1
  go_wp2_with fail
  go_loopg [13, 14] (m + 1) (fun k x i wr => k ≤ m + 1 ∧ x = .int .u64 ((left U V k / W ^ (k + p1) % W : Nat) : Int) ∧ i = .int .i64 ((k : Int) - 1) ∧ Hid (Div gq gu gv bx m n N U V Lq Lu Lx.length w1 k wr))
  case atStart =>
    refine ⟨Nat.le_refl _, ?_, by go_num, hD⟩
    have e1 : left U V (m + 1) / W ^ (m + 1 + p1) = 0 := by
      have e2 : left U V (m + 1) = U := Nat.mod_eq_of_lt hux'.out
      rw [e2]
      refine Nat.div_eq_of_lt (Nat.lt_of_lt_of_le hU'.out ?_)
      rw [show m + 1 + p1 = (m + (p + 1)) + 1 by omega, Nat.pow_succ, Nat.mul_comm]
      exact Nat.mul_le_mul_left _ (by rw [W_eq]; omega)
    rw [e1]
    rfl
  case round =>
    obtain ⟨hk, rfl, rfl, hI⟩ := hrel
    clear hD
    cases gk with
    | zero =>
      obtain ⟨hs2, hs3⟩ := hst1.out
      have hfin : Hid (∀ w', Back wr g b' l w' → Done gq gu m N U V Lq Lu g w0 w' ∧ ∃ b' l', Stk w' g b' l' ∧ l ≤ l') := Lib.hid fun w' hb => by
        obtain ⟨z1, z2, z3, z4⟩ := hb
        have e0 : left U V 0 = U % V := by unfold left; rw [Nat.pow_zero, Nat.mul_one]
        have hu9 := hI.out.u
        rw [e0] at hu9
        have ht9 := hI.out.t
        refine ⟨⟨z3 _ _ hI.out.q, z3 _ _ hu9, ?_⟩, b', l, z1, Nat.le_refl _⟩
        refine (Below.trans hs3 (Below.trans ⟨ht9.os, ht9.tape, ht9.output, Nat.le_of_eq ht9.size.symm, fun k hk => ht9.block k (by omega) (by omega) (by omega)⟩ z2))
      have hstw : Stk wr g b' l' := hstk.out wr hI.out.t hI.out.x
      have hdef := Lib.hid (restore_deferred g b' l' l .returning wr hstw hs2)
      have c0 : ((0 : Nat) : Int) - 1 = -1 := rfl
      rw [c0]
      clear hstw hs2 hs3
      go_wp2_with fail
      refine leaves_cons (f := 100) (args := #[.pointer (some ⟨g, 0, none⟩), .int .i64 (l : Int)]) (by simp) (by simp [go_sem]) ?_
      refine hdef.out.mono ?_
      rintro e u' w'' ⟨rfl, rfl, hb⟩
      exact ⟨_, results_none rfl _ _ _, rfl, hfin.out _ hb⟩
    | succ j =>
      have ij : ((j + 1 : Nat) : Int) - 1 = (j : Int) := by omega
      rw [ij]
      obtain ⟨X, hX⟩ : ∃ X, left U V (j + 1) / W ^ j = X := ⟨_, rfl⟩
      have hXV : X < V * W := by rw [← hX]; exact left_top hV0 j
      obtain ⟨q, hqd⟩ : ∃ q, X / V = q := ⟨_, rfl⟩
      obtain ⟨top, htop⟩ : ∃ top, X / W ^ (p + 2) = top := ⟨_, rfl⟩
      have htv : top ≤ v1 := by rw [← htop, ← hv1]; exact k_top hXV
      have etop : left U V (j + 1) / W ^ (j + 1 + p1) % W = top := by
        rw [show j + 1 + p1 = j + (p + 2) by omega, Nat.pow_add, ← Nat.div_div_eq_div_mul, hX, htop, Nat.mod_eq_of_lt (by omega)]
      rw [etop]
      obtain ⟨u1, hu1⟩ : ∃ u1, X / W ^ (p + 1) % W = u1 := ⟨_, rfl⟩
      obtain ⟨u2, hu2⟩ : ∃ u2, X / W ^ p % W = u2 := ⟨_, rfl⟩
      obtain ⟨jn, hjn⟩ : ∃ jn, j + n = jn := ⟨_, rfl⟩
      obtain ⟨a1, ha1⟩ : ∃ a1, j + p1 = a1 := ⟨_, rfl⟩
      obtain ⟨a2, ha2⟩ : ∃ a2, j + p = a2 := ⟨_, rfl⟩
      have j1 : (j : Int) + (n : Int) = (jn : Int) := by omega
      have j2 : (jn : Int) - 1 = (a1 : Int) := by omega
      have j3 : (jn : Int) - 2 = (a2 : Int) := by omega
      have cu1 := hI.out.u.cell a1
      rw [mix_at a1 (by omega) hul, ← ha1, ← hp1, Nat.pow_add, ← Nat.div_div_eq_div_mul, hX, hu1, hp1, ha1] at cu1
      have cu2 := hI.out.u.cell a2
      rw [mix_at a2 (by omega) hul, ← ha2, Nat.pow_add, ← Nat.div_div_eq_div_mul, hX, hu2, ha2] at cu2
      have cw1 := hI.out.v p1 (by omega) (by omega)
      rw [Nat.zero_add, ← hp1, hv1, Nat.mod_eq_of_lt k2, hp1] at cw1
      have cw2 := hI.out.v p (by omega) (by omega)
      rw [Nat.zero_add, hv2] at cw2
      have hmu : gu < wr.heap.size := hI.out.u.lt
      have hX' := Lib.hid hX
      have hXV' := Lib.hid hXV
      have hqd' := Lib.hid hqd
      have htop' := Lib.hid htop
      have hu1' := Lib.hid hu1
      have hu2' := Lib.hid hu2
      have hv1' := Lib.hid hv1
      have hv2' := Lib.hid hv2
      have hu1W : u1 < W := by rw [← hu1]; exact Nat.mod_lt _ W_pos
      have hu2W : u2 < W := by rw [← hu2]; exact Nat.mod_lt _ W_pos
      have hv2W : v2 < W := by rw [← hv2]; exact Nat.mod_lt _ W_pos
      clear hX hXV hqd htop hu1 hu2 etop
      go_upto_if 51 with fail
      go_cut [15, 16, 17, 18, 19, 20] from 45 to 200 (fun v _ _ _ _ _ wx => wr = wx ∧ ∃ qh : Nat, v = .int .u64 (qh : Int) ∧ q ≤ qh ∧ qh ≤ q + 1 ∧ qh < W ∧ (top < v1 → qh ≤ (top * W + u1) / v1))
      case first =>
        rcases Nat.lt_or_ge top v1 with hlt | hge
        · have d1 : ((top : Int) != (v1 : Int)) = true := by simp; omega
          have hcall := Lib.hid fun w => hdw.out top u1 w hlt hu1W
          obtain ⟨tw, htw⟩ : ∃ tw, top * W + u1 = tw := ⟨_, rfl⟩
          rw [htw] at hcall
          obtain ⟨qh, hqh⟩ : ∃ qh, tw / v1 = qh := ⟨_, rfl⟩
          obtain ⟨rh, hrh⟩ : ∃ rh, tw % v1 = rh := ⟨_, rfl⟩
          rw [hqh, hrh] at hcall
          have hend := Lib.hid (show (top * W + u1) / v1 = qh by rw [htw, hqh])
          have htq : tw = qh * v1 + rh := by rw [← hqh, ← hrh, Nat.mul_comm]; exact (Nat.div_add_mod _ _).symm
          have hrv : rh < v1 := by rw [← hrh]; exact Nat.mod_lt _ (by omega)
          have hqW : qh < W := by rw [← hqh, ← htw]; exact digit_lt hlt hu1W
          have htwp : topw p X = tw := by unfold topw; rw [htop'.out, hu1'.out, htw]
          have hqq : q ≤ qh := by
            have := k_first (p := p) (X := X) hV0 (by rw [hv1'.out]; omega)
            rw [hv1'.out, htwp, hqh, hqd'.out] at this
            exact this
          have hmul := Lib.hid fun w => mulww_any qh v2 hqW hv2W w
          have hgr := Lib.hid fun x1 x2 y1 w h2 => greater_any x1 x2 y1 u2 h2 hu2W w
          obtain ⟨t1, ht1⟩ : ∃ t1, qh * v2 / W = t1 := ⟨_, rfl⟩
          obtain ⟨t0, ht0⟩ : ∃ t0, qh * v2 % W = t0 := ⟨_, rfl⟩
          rw [ht1, ht0] at hmul
          have K := Lib.hid (And.intro htq (And.intro hqq (And.intro hqW (And.intro ht1 (And.intro ht0 hrv)))))
          have htwp' := Lib.hid htwp
          clear htq hqq hrv hqW htwp hqh hrh htw ht1 ht0
          go_wp2_with fail
          refine (hcall.out _).mono ?_
          rintro e w2 ⟨rfl, rfl⟩
          go_wp2_with fail
          refine (hmul.out _).mono ?_
          rintro e w3 ⟨rfl, rfl⟩
          clear hcall hmul
          go_wp2_with fail
          go_loopg [15, 16, 18, 19] qh (fun k a b c d wx => w3 = wx ∧ k ≤ qh ∧ a = .int .u64 (k : Int) ∧ ∃ r x1 x0 : Nat, b = .int .u64 (r : Int) ∧ c = .int .u64 (x1 : Int) ∧ d = .int .u64 (x0 : Int) ∧ r < W ∧ x1 < W ∧ x0 < W ∧ Hid (tw = k * v1 + r ∧ q ≤ k ∧ k * v2 = x1 * W + x0))
          case atStart =>
            obtain ⟨m1, m2, m3, m4, m5, m6⟩ := K.out
            refine ⟨rfl, Nat.le_refl _, rfl, rh, t1, t0, rfl, rfl, rfl, by omega, ?_, ?_, Lib.hid ⟨m1, m2, ?_⟩⟩
            · rw [← m4]
              refine Nat.div_lt_of_lt_mul (Nat.lt_of_le_of_lt (Nat.mul_le_mul_right _ (Nat.le_of_lt m3)) ?_)
              exact Nat.mul_lt_mul_of_pos_left hv2W W_pos
            · rw [← m5]
              exact Nat.mod_lt _ W_pos
            · rw [← m4, ← m5, Nat.mul_comm _ W]
              exact (Nat.div_add_mod _ _).symm
          case round =>
            obtain ⟨rfl, hkq, rfl, r, x1, x0, rfl, rfl, rfl, hr, hx1, hx0, hI2⟩ := hrel
            obtain ⟨m1, m2, m3⟩ := hI2.out
            have hgc := Lib.hid fun w => hgr.out x1 x0 r w hx0
            rw [← m3] at hgc
            by_cases hgt : r * W + u2 < gk * v2
            · have hdn : q + 1 ≤ gk := by
                have := k_down (p := p) (V := V) (X := X) (qh := gk) (rh := r) hV0 (by rw [htwp'.out, hv1'.out]; exact m1) (by rw [hqd'.out]; exact m2) (by rw [hu2'.out, hv2'.out]; exact hgt)
                rw [hqd'.out] at this
                exact this
              have e1 : decide (r * W + u2 < gk * v2) = true := decide_eq_true hgt
              rw [e1] at hgc
              obtain ⟨k2n, hk2⟩ : ∃ k2n, gk = k2n + 1 := ⟨gk - 1, by omega⟩
              have hkW : gk < W := by have := K.out.2.2.1; omega
              have hkn : IntKind.u64.wrap ((gk : Int) - 1) = (k2n : Int) := by rw [IntKind.wrap_u64]; rw [W_eq] at hkW; omega
              have hpr : k2n * v2 + v2 = x1 * W + x0 := by rw [← m3, hk2, Nat.add_mul, Nat.one_mul]
              have htw2 : tw = k2n * v1 + (r + v1) := by rw [m1, hk2, Nat.add_mul, Nat.one_mul]; omega
              have hq2 : q ≤ k2n := by omega
              rcases Nat.lt_or_ge (r + v1) W with hrw | hrw
              · obtain ⟨r2, hr2⟩ : ∃ r2, r + v1 = r2 := ⟨_, rfl⟩
                rw [hr2] at htw2 hrw
                have f1 : IntKind.u64.wrap ((r : Int) + (v1 : Int)) = (r2 : Int) := by rw [IntKind.wrap_u64]; rw [W_eq] at hrw; omega
                have d2 : decide ((r2 : Int) < (v1 : Int)) = false := decide_eq_false (by omega)
                have d2' : decide (r2 < v1) = false := decide_eq_false (by omega)
                rcases Nat.lt_or_ge x0 v2 with hb | hb
                · have d3 : decide ((x0 : Int) < (v2 : Int)) = true := decide_eq_true (by omega)
                  have d3' : decide (x0 < v2) = true := decide_eq_true hb
                  obtain ⟨y1, hy1⟩ : ∃ y1, x1 = y1 + 1 := ⟨x1 - 1, by
                    rcases Nat.eq_zero_or_pos x1 with h | h
                    · exfalso; rw [h, Nat.zero_mul] at hpr; omega
                    · omega⟩
                  obtain ⟨y0, hy0⟩ : ∃ y0, x0 + W - v2 = y0 := ⟨_, rfl⟩
                  have f2 : IntKind.u64.wrap ((x1 : Int) - 1) = (y1 : Int) := by rw [IntKind.wrap_u64]; rw [W_eq] at hx1; omega
                  have f3 : IntKind.u64.wrap ((x0 : Int) - (v2 : Int)) = (y0 : Int) := by rw [IntKind.wrap_u64]; rw [W_eq] at hx0 hv2W hy0; omega
                  have hpr2 : k2n * v2 = y1 * W + y0 := by rw [hy1, Nat.add_mul, Nat.one_mul] at hpr; omega
                  have hfin := Lib.hid (show k2n ≤ qh ∧ k2n < gk ∧ r2 < W ∧ y1 < W ∧ y0 < W ∧ Hid (tw = k2n * v1 + r2 ∧ q ≤ k2n ∧ k2n * v2 = y1 * W + y0) from ⟨by omega, by omega, hrw, by omega, by omega, Lib.hid ⟨htw2, hq2, hpr2⟩⟩)
                  clear hb hy1 hy0 hpr hpr2 hr2 hrw htw2 hq2 hk2 hkW hdn e1 hgt m1 m2 m3 hI2 hkq hr hx1 hx0
                  go_wp2_with fail
                  refine (hgc.out _).mono ?_
                  rintro e w2 ⟨rfl, rfl⟩
                  go_wp2_with fail
                  go_roundg k2n
                  case measure => exact hfin.out.2.1
                  case rel =>
                    obtain ⟨z1, z2, z3, z4, z5, z6⟩ := hfin.out
                    exact ⟨rfl, z1, rfl, r2, y1, y0, rfl, rfl, rfl, z3, z4, z5, z6⟩
                · have d3 : decide ((x0 : Int) < (v2 : Int)) = false := decide_eq_false (by omega)
                  have d3' : decide (x0 < v2) = false := decide_eq_false (by omega)
                  obtain ⟨y0, hy0⟩ : ∃ y0, x0 - v2 = y0 := ⟨_, rfl⟩
                  have f3 : IntKind.u64.wrap ((x0 : Int) - (v2 : Int)) = (y0 : Int) := by rw [IntKind.wrap_u64]; rw [W_eq] at hx0; omega
                  have hpr2 : k2n * v2 = x1 * W + y0 := by omega
                  have hfin := Lib.hid (show k2n ≤ qh ∧ k2n < gk ∧ r2 < W ∧ x1 < W ∧ y0 < W ∧ Hid (tw = k2n * v1 + r2 ∧ q ≤ k2n ∧ k2n * v2 = x1 * W + y0) from ⟨by omega, by omega, hrw, hx1, by omega, Lib.hid ⟨htw2, hq2, hpr2⟩⟩)
                  clear hb hy0 hpr hpr2 hr2 hrw htw2 hq2 hk2 hkW hdn e1 hgt m1 m2 m3 hI2 hkq hr hx1 hx0
                  go_wp2_with fail
                  refine (hgc.out _).mono ?_
                  rintro e w2 ⟨rfl, rfl⟩
                  go_wp2_with fail
                  go_roundg k2n
                  case measure => exact hfin.out.2.1
                  case rel =>
                    obtain ⟨z1, z2, z3, z4, z5, z6⟩ := hfin.out
                    exact ⟨rfl, z1, rfl, r2, x1, y0, rfl, rfl, rfl, z3, z4, z5, z6⟩
              · have hle : k2n ≤ q + 1 := by
                  have := k_break (p := p) (V := V) (X := X) (qh := k2n) (rh := r + v1) hn'.out hXV'.out (by rw [htwp'.out, hv1'.out]; exact htw2) hrw (by omega)
                  rw [hqd'.out] at this
                  exact this
                obtain ⟨r2, hr2⟩ : ∃ r2, r + v1 - W = r2 := ⟨_, rfl⟩
                have f1 : IntKind.u64.wrap ((r : Int) + (v1 : Int)) = (r2 : Int) := by rw [IntKind.wrap_u64]; rw [W_eq] at hrw hr hr2; omega
                have d2 : decide ((r2 : Int) < (v1 : Int)) = true := decide_eq_true (by omega)
                have d2' : decide (r2 < v1) = true := decide_eq_true (by omega)
                have hfin := Lib.hid (show q ≤ k2n ∧ k2n ≤ q + 1 ∧ k2n < W ∧ (top < v1 → k2n ≤ (top * W + u1) / v1) from ⟨hq2, hle, by omega, fun _ => by rw [hend.out]; omega⟩)
                clear hle hpr hr2 hrw htw2 hq2 hk2 hkW hdn e1 hgt m1 m2 m3 hI2 hkq hr hx1 hx0
                go_wp2_with fail
                refine (hgc.out _).mono ?_
                rintro e w2 ⟨rfl, rfl⟩
                go_wp2_with fail
                go_meet
                exact ⟨rfl, k2n, rfl, hfin.out⟩
            · have hle : gk ≤ q + 1 := by
                have := k_stop (p := p) (V := V) (X := X) (qh := gk) (rh := r) hn'.out hXV'.out (by rw [htwp'.out, hv1'.out]; exact m1) (by rw [hu2'.out, hv2'.out]; omega)
                rw [hqd'.out] at this
                exact this
              have e1 : decide (r * W + u2 < gk * v2) = false := decide_eq_false hgt
              rw [e1] at hgc
              have hfin := Lib.hid (show q ≤ gk ∧ gk ≤ q + 1 ∧ gk < W ∧ (top < v1 → gk ≤ (top * W + u1) / v1) from ⟨m2, hle, by have := K.out.2.2.1; omega, fun _ => by rw [hend.out]; exact hkq⟩)
              clear hgt hle e1 m1 m2 m3 hI2
              go_wp2_with fail
              refine (hgc.out _).mono ?_
              rintro e w2 ⟨rfl, rfl⟩
              go_wp2_with fail
              go_meet
              exact ⟨rfl, gk, rfl, hfin.out⟩
        · obtain rfl : top = v1 := by omega
          have d1 : ((top : Int) != (top : Int)) = false := by simp
          have hq1 : W ≤ q + 2 := by
            have := k_eq hn'.out (show X / W ^ (p + 2) = V / W ^ (p + 1) by rw [htop'.out, hv1'.out])
            rw [hqd'.out] at this
            exact this
          have hq2 : q < W := by rw [← hqd'.out]; exact k_q hXV'.out
          have hfin := Lib.hid (And.intro hq1 hq2)
          clear hq1 hq2
          go_wp2_with fail
          go_meet
          exact ⟨rfl, 18446744073709551615, rfl, by have := hfin.out.2; rw [W_eq] at this; omega, by have := hfin.out.1; rw [W_eq] at this; omega, by decide, fun h => absurd h (Nat.lt_irrefl _)⟩
      case rest =>
        obtain ⟨rfl, qh, rfl, c1, c2, c3, c4⟩ := hcut
        obtain ⟨Lx', hx, hxl⟩ := hI.out.x
        have hmc := Lib.hid fun w2 h1 h2 => mulv_sec V qh 0 n bx ox cx gv 0 cv Lx' w2 h1 h2 c3 W_pos (by omega) (by rcases hvx'.out with h | h; exact .inl h; exact .inr (.inl (by omega))) (by omega) hcv (by omega) (by omega) (by omega)
        have hmcall := Lib.hid (hmc.out wr hx hI.out.v)
        have et := mcarry_top (V := V) (qh := qh) (n := n) (by rw [← hnp]; exact hV'.out) c3
        obtain ⟨C, hC⟩ : ∃ C, mcarry V qh 0 n = C := ⟨_, rfl⟩
        rw [hC] at hmcall et
        have et' := Lib.hid et
        have c3' := Lib.hid c3
        have hvL := Lib.hid (show gv = bx → ∀ t, t < n → Lx'[t]? = some (.int .u64 ((V / W ^ t % W : Nat) : Int)) from fun h t ht => by
          have h9 := hI.out.v
          rw [h] at h9
          have := h9.get hx t (by omega) ht
          rw [Nat.zero_add] at this
          exact this)
        clear hmc hx hC et cu1 cu2 cw1 cw2 j3 ha2 hu1W hu2W hv2W
        go_wp2_with fail
        refine hmcall.out.mono ?_
        rintro e w2 ⟨rfl, hx2, ho2⟩
        obtain ⟨⟨cvx, hcx⟩, hfx⟩ := hx2.some_ (p := ox + n) (by rw [mix_length]; omega)
        -- what stands behind the product
        have hW3 : ∃ w3, w2.setCell ⟨bx, ox + n, none⟩ (.int .u64 (C : Int)) = w3 ∧ Wd w3 bx (mix Lx' ox (V * qh + 0) 0 (n + 1)) ∧ Wd w3 gu (mix Lu 0 (left U V (j + 1)) 0 N) ∧ Wd w3 gq (mix Lq 0 (U / V) (j + 1) m) ∧ Src w3 gv 0 n 0 V ∧ Tri gu gq bx w1 w3 := by
          have ho3 : Only bx wr (w2.setCell ⟨bx, ox + n, none⟩ (.int .u64 (C : Int))) := ho2.setCell _ _
          refine ⟨_, rfl, ?_, ho3.wd hI.out.u hux, ho3.wd hI.out.q hqx, ?_, hI.out.t.only ho3 (.inr (.inr rfl))⟩
          · rw [← mix_up (by omega) (Nat.zero_le _), ← et'.out]
            exact hx2.put _ _
          · by_cases hvb : gv = bx
            · have hno : n ≤ ox := by rcases hvx'.out with h | h; exact absurd hvb h; exact h
              have hx3 : Wd (w2.setCell ⟨bx, ox + n, none⟩ (.int .u64 (C : Int))) bx (mix Lx' ox (V * qh + 0) 0 (n + 1)) := by
                rw [← mix_up (by omega) (Nat.zero_le _), ← et'.out]
                exact hx2.put _ _
              have := hx3.src (d := 0) (n := n) (k := 0) (Y := V) fun t _ ht => by
                rw [mix_out _ (by omega), Nat.zero_add]
                exact hvL.out hvb t ht
              rw [← hvb] at this
              rw [← hvb]
              exact this
            · exact ho3.src hI.out.v hvb
        obtain ⟨w3, hw3, hx3, hu3, hq3, hv3, ht3⟩ := hW3
        have hxl3 : (mix Lx' ox (V * qh + 0) 0 (n + 1)).length = Lx.length := by rw [mix_length]; exact hxl
        have hmu3 := hu3.lt
        have hmx3 := hx3.lt
        have hmq3 := hq3.lt
        have hclose : Hid (∀ w4, Wd w4 gu (mix Lu 0 (left U V j) 0 N) → Tri gu gq bx w1 w4 → Wd w4 gq (mix Lq 0 (U / V) (j + 1) m) → (∃ L, Wd w4 bx L ∧ L.length = Lx.length) → Src w4 gv 0 n 0 V → j < m → Div gq gu gv bx m n N U V Lq Lu Lx.length w1 j (w4.setCell ⟨gq, j, none⟩ (.int .u64 (q : Int)))) := Lib.hid fun w4 k1 k2 k3 k4 k5 k6 => by
          have ho : Only gq w4 (w4.setCell ⟨gq, j, none⟩ (.int .u64 (q : Int))) := (Only.refl _ _).setCell _ _
          obtain ⟨L, k7, k8⟩ := k4
          refine ⟨ho.wd k1 h1, ?_, ⟨L, ho.wd k7 (Ne.symm hqx), k8⟩, ho.src k5 h2, k2.only ho (.inr (.inl rfl))⟩
          have hq := mix_down (L := Lq) (o := 0) (R := U / V) (b := m) (k := j) (by omega) k6
          rw [Nat.zero_add, ← left_digit j, hX'.out, hqd'.out] at hq
          rw [← hq]
          exact k3.put _ _
        by_cases hjm : j = m
        · subst hjm
          have hXU : X = U / W ^ j := by
            rw [← hX'.out]
            unfold left
            rw [Nat.mod_eq_of_lt hux'.out]
          have htop0 : top = 0 := by
            rw [← htop'.out, hXU, Nat.div_div_eq_div_mul, ← Nat.pow_add]
            refine Nat.div_eq_of_lt (Nat.lt_of_lt_of_le hU'.out ?_)
            rw [show j + (p + 2) = (j + (p + 1)) + 1 by omega, Nat.pow_succ, Nat.mul_comm]
            exact Nat.mul_le_mul_left _ (by rw [W_eq]; omega)
          have hu1s : u1 < 9223372036854775808 := by
            rw [← hu1'.out, hXU, Nat.div_div_eq_div_mul, ← Nat.pow_add]
            refine Nat.lt_of_le_of_lt (Nat.mod_le _ _) (Nat.div_lt_of_lt_mul ?_)
            rw [Nat.mul_comm]
            exact hU'.out
          have hqh0 : qh = 0 := by
            have h9 := c4 (by omega)
            rw [htop0, Nat.zero_mul, Nat.zero_add, Nat.div_eq_of_lt (by omega)] at h9
            omega
          subst hqh0
          obtain rfl : q = 0 := by omega
          have hC0 : C = 0 := by rw [et'.out, Nat.mul_zero, Nat.add_zero, Nat.zero_div, Nat.zero_mod]
          subst hC0
          replace hw3 : w2.setCell ⟨bx, ox + n, none⟩ (.int .u64 0) = w3 := hw3
          obtain ⟨jn1, hjn1⟩ : ∃ jn1, j + n1 = jn1 := ⟨_, rfl⟩
          have j4 : (j : Int) + (n1 : Int) = (jn1 : Int) := by omega
          have j5 : (n1 : Int) - 1 = (n : Int) := by omega
          have d4 : decide ((N : Int) < (jn1 : Int)) = true := decide_eq_true (by omega)
          have d4' : decide (N < jn1) = true := decide_eq_true (by omega)
          have j6 : jn - j = n := by omega
          have l3 : j ≤ jn := by omega
          have l4 : jn ≤ cu := by omega
          have l5 : ¬ cu = j := by omega
          have l6 : IntKind.i64.wrap (jn1 : Int) = (jn1 : Int) := by rw [IntKind.wrap_i64]; omega
          have l7 : IntKind.i64.wrap (n : Int) = (n : Int) := by rw [IntKind.wrap_i64]; omega
          have l8 : IntKind.i64.wrap (jn : Int) = (jn : Int) := by rw [IntKind.wrap_i64]; omega
          have l9 : n ≤ cx := by omega
          have c126 := hx3.cell (ox + n)
          rw [mix_in n (by omega) (by omega) (by omega), Nat.mul_zero, Nat.add_zero, Nat.zero_div, Nat.zero_mod] at c126
          replace c126 : w3.cell? ⟨bx, ox + n, none⟩ = some (.int .u64 0) := c126
          have hsame : left U V j = left U V (j + 1) := by
            have h9 := left_next (U := U) hV0 j
            have hX0 : X % V = X := by
              have := Nat.div_add_mod X V
              rw [hqd'.out, Nat.mul_zero, Nat.zero_add] at this
              exact this
            rw [hX'.out, hX0, ← hX'.out, Nat.mul_comm, Nat.div_add_mod] at h9
            exact h9
          have hsrcX : Src w3 gu j n 0 X := hu3.src fun t _ ht => by
            rw [mix_at (j + t) (by omega) hul, Nat.pow_add, ← Nat.div_div_eq_div_mul, hX'.out]
          have hsrcY : Src w3 bx ox n 0 (V * 0 + 0) := fun t a b => (hx3.wrote (n := n + 1) (by omega)) t a (by omega)
          have hsub := Lib.hid fun cz cx' cy (h1 : n ≤ cz) (h2 : n ≤ cx') (h3 : n ≤ cy) => subv_sec X (V * 0 + 0) n gu j cz gu j cx' bx ox cy _ w3.drew hu3 hsrcX hsrcY (by omega) (by rw [mix_length]; omega) (.inr (.inr (Nat.le_refl _))) (.inl (Ne.symm hux)) (by omega) h2 h3 h1 (by omega) (by omega) (by omega)
          have hq3' := Lib.hid hq3
          have hv3' := Lib.hid hv3
          have ht3' := Lib.hid ht3
          have hx3' := Lib.hid hx3
          have hsame' := Lib.hid hsame
          clear hsrcX hsrcY hx3 hu3 hq3 hv3 ht3 ho2 hx2 hmcall hXU htop0 hu1s et' hclose hsame c4
          go_upto_region 28 with fail
          clear hw3 hcx hfx
          go_still_tail 15, (by kernel_rfl)
          change wpList _ _ _ _ _ w3.drew
          go_wp2_with fail
          refine (hsub.out _ _ _ (by omega) (by omega) l9).mono ?_
          rintro e w4 ⟨rfl, hu4, ho4⟩
          have hb0 : borrow X (V * 0 + 0) n = 0 := by
            unfold borrow
            rw [Nat.mul_zero, Nat.add_zero, Nat.zero_mod, if_neg (Nat.not_lt_zero _)]
          rw [hb0]
          have hu5 : mix (mix Lu 0 (left U V (j + 1)) 0 N) j (X - (V * 0 + 0)) 0 n = mix Lu 0 (left U V (j + 1)) 0 N := mix_same hul (by omega) fun t ht => by
            rw [Nat.mul_zero, Nat.add_zero, Nat.sub_zero, Nat.pow_add, ← Nat.div_div_eq_div_mul, hX'.out]
          rw [hu5] at hu4
          have ca1 := hu4.cell a1
          rw [mix_at a1 (by omega) hul] at ca1
          obtain ⟨nx, hnx⟩ : ∃ nx, left U V (j + 1) / W ^ a1 % W = nx := ⟨_, rfl⟩
          rw [hnx] at ca1
          have hfin := Lib.hid (show Div gq gu gv bx j n N 0 V Lq Lu Lx.length w1 j w4 → True from fun _ => trivial)
          have hfin2 := Lib.hid (show Div gq gu gv bx j n N U V Lq Lu Lx.length w1 j w4 from by
            refine ⟨by rw [hsame'.out]; exact hu4, ?_, ⟨_, ho4.wd (w := w3.drew) hx3'.out (Ne.symm hux), hxl3⟩, ho4.src (w := w3.drew) hv3'.out h3, (ht3'.out.drawn 1).only ho4 (.inl rfl)⟩
            have h9 := ho4.wd (w := w3.drew) hq3'.out (Ne.symm h1)
            rw [mix_nil (by omega)] at h9
            rw [mix_nil (by omega)]
            exact h9)
          have hnx' := Lib.hid hnx
          have hmu4 := hu4.lt
          clear hu4 ho4 hu5 hb0 hnx hsub hfin
          go_wp2_with fail
          go_roundg j
          case measure => omega
          case rel => exact ⟨by omega, by rw [hsame'.out, ha1, hnx'.out], rfl, hfin2⟩
        · have hjm' : ((j : Int) == (m : Int)) = false := by simp; omega
          obtain ⟨jn1, hjn1⟩ : ∃ jn1, j + n1 = jn1 := ⟨_, rfl⟩
          have j4 : (j : Int) + (n1 : Int) = (jn1 : Int) := by omega
          have d4 : decide ((N : Int) < (jn1 : Int)) = false := decide_eq_false (by omega)
          have d4' : decide (N < jn1) = false := decide_eq_false (by omega)
          have j5 : jn1 - j = n1 := by omega
          have j6 : jn - j = n := by omega
          have l1 : j ≤ jn1 := by omega
          have l2 : jn1 ≤ cu := by omega
          have l3 : j ≤ jn := by omega
          have l4 : jn ≤ cu := by omega
          have l5 : ¬ cu = j := by omega
          have l6 : IntKind.i64.wrap (jn1 : Int) = (jn1 : Int) := by rw [IntKind.wrap_i64]; omega
          have l7 : IntKind.i64.wrap (n1 : Int) = (n1 : Int) := by rw [IntKind.wrap_i64]; omega
          have l8 : IntKind.i64.wrap (jn : Int) = (jn : Int) := by rw [IntKind.wrap_i64]; omega
          have hbor : V * qh + 0 ≤ X + W ^ n1 := by
            have h1 : V * qh ≤ V * (q + 1) := Nat.mul_le_mul_left _ c2
            have h2 : q * V ≤ X := by rw [← hqd'.out]; exact k_qle V X
            have h3 : V * (q + 1) = q * V + V := by rw [Nat.mul_add, Nat.mul_one, Nat.mul_comm]
            have h4 : V ≤ W ^ n1 := by
              refine Nat.le_trans (Nat.le_of_lt hV'.out) ?_
              rw [hnp, ← hn1]
              exact Nat.pow_le_pow_right W_pos (by omega)
            omega
          have hsrcX : Src w3 gu j n1 0 (X + W ^ n1) := hu3.src fun t _ ht => by
            rw [mix_at (j + t) (by omega) hul, Nat.pow_add, ← Nat.div_div_eq_div_mul, hX'.out]
            have := word_add X 1 n1 t ht
            rw [Nat.one_mul] at this
            rw [this]
          have hsrcY : Src w3 bx ox n1 0 (V * qh + 0) := by
            have := hx3.wrote (n := n + 1) (by omega)
            rw [hn1] at this
            exact this
          have hsub := Lib.hid fun cz cx' cy (h1 : n1 ≤ cz) (h2 : n1 ≤ cx') (h3 : n1 ≤ cy) => subv_sec (X + W ^ n1) (V * qh + 0) n1 gu j cz gu j cx' bx ox cy _ w3.drew hu3 hsrcX hsrcY hbor (by rw [mix_length]; omega) (.inr (.inr (Nat.le_refl _))) (.inl (Ne.symm hux)) (by omega) h2 h3 h1 (by omega) (by omega) (by omega)
          have hq3' := Lib.hid hq3
          have hv3' := Lib.hid hv3
          have ht3' := Lib.hid ht3
          have hx3' := Lib.hid hx3
          have hu3' := Lib.hid hu3
          clear hbor hsrcX hsrcY hx3 hu3 hq3 hv3 ht3 ho2 hx2 hmcall
          go_upto_region 28 with fail
          clear hw3 hcx hfx
          go_still_tail 15, (by kernel_rfl)
          change wpList _ _ _ _ _ w3.drew
          go_wp2_with fail
          refine (hsub.out _ _ _ (by omega) (by omega) g1).mono ?_
          rintro e w4 ⟨rfl, hu4, ho4⟩
          have hjl : j < m := by omega
          have hqv : q * V ≤ X := by rw [← hqd'.out]; exact k_qle V X
          have hqv2 : X < (q + 1) * V := by rw [← hqd'.out]; exact k_qlt hn'.out
          have hXn : X < W ^ n1 := by
            refine Nat.lt_of_lt_of_le hXV'.out ?_
            rw [← hn1, ← hnp, Nat.pow_succ]
            exact Nat.mul_le_mul_right _ (Nat.le_of_lt hV'.out)
          have hYn : V * qh < W ^ n1 := by
            have h1 : V * qh < W ^ n * W := Nat.mul_lt_mul_of_lt_of_le (by rw [← hnp]; exact hV'.out) (Nat.le_of_lt c3) W_pos
            rw [← hn1, Nat.pow_succ]
            exact h1
          have hmodV : X % V = X - q * V := by
            have := Nat.div_add_mod X V
            rw [hqd'.out, Nat.mul_comm] at this
            omega
          have hbw : borrow (X + W ^ n1) (V * qh + 0) n1 = if X < V * qh then 1 else 0 := by
            unfold borrow
            rw [Nat.add_mod_right, Nat.mod_eq_of_lt hXn, Nat.add_zero, Nat.mod_eq_of_lt hYn]
          have hlt4 : Tri gu gq bx w1 w4 := (ht3'.out.drawn 1).only ho4 (.inl rfl)
          have hq4 : Wd w4 gq (mix Lq 0 (U / V) (j + 1) m) := ho4.wd (w := w3.drew) hq3'.out (Ne.symm h1)
          have hx4 : Wd w4 bx (mix Lx' ox (V * qh + 0) 0 (n + 1)) := ho4.wd (w := w3.drew) hx3'.out (Ne.symm hux)
          have hv4 : Src w4 gv 0 n 0 V := ho4.src (w := w3.drew) hv3'.out h3
          have hq0 : qh = q ∨ qh = q + 1 := by omega
          rcases hq0 with rfl | rfl
          · have hnb : ¬ X < V * qh := by rw [Nat.mul_comm]; omega
            rw [hbw, if_neg hnb]
            have hu5 : mix (mix Lu 0 (left U V (j + 1)) 0 N) j (X + W ^ n1 - (V * qh + 0)) 0 n1 = mix Lu 0 (left U V j) 0 N := by
              refine sec_next (n := n) (c := 1) hV0 (by rw [← hnp]; exact hV'.out) (by omega) hul (by rw [mix_length, mix_length]) (fun t ht => ?_) (fun i hi => ?_)
              · rw [mix_in t (by omega) (by omega) (by rw [mix_length]; omega), hX'.out, hmodV, Nat.one_mul, hn1]
                have e9 : X + W ^ n1 - (V * qh + 0) = X - qh * V + W ^ n1 := by rw [Nat.mul_comm V]; omega
                rw [e9]
              · exact mix_out i (by omega)
            rw [hu5] at hu4
            have ca1 := hu4.cell a1
            rw [mix_at a1 (by omega) hul] at ca1
            obtain ⟨nx, hnx⟩ : ∃ nx, left U V j / W ^ a1 % W = nx := ⟨_, rfl⟩
            rw [hnx] at ca1
            obtain ⟨⟨cvq, hcq4⟩, hfq4⟩ := hq4.some_ (p := j) (by rw [mix_length]; omega)
            have hfin := Lib.hid (hclose.out w4 hu4 hlt4 hq4 ⟨_, hx4, hxl3⟩ hv4 hjl)
            have hnx' := Lib.hid hnx
            have hmu4 := hu4.lt
            have hmq4 := hq4.lt
            clear hu4 hq4 hx4 hv4 hlt4 ho4 hu5 hnb hbw hmodV hYn hXn hqv hqv2 hnx hsub
            go_wp2_with fail
            go_roundg j
            case measure => omega
            case rel => exact ⟨by omega, by rw [ha1, hnx'.out], rfl, hfin⟩
          · have hyb : X < V * (q + 1) := by rw [Nat.mul_comm]; exact hqv2
            rw [hbw, if_pos hyb]
            obtain ⟨S, hS⟩ : ∃ S, X + W ^ n1 - (V * (q + 1) + 0) = S := ⟨_, rfl⟩
            rw [hS] at hu4
            have hSV : S + V = X % V + 1 * W ^ (n + 1) := by
              rw [hn1, Nat.one_mul, hmodV, ← hS]
              have := k_back (V := V) (X := X) (q := q) (M := W ^ n1) hqv hqv2 (by rw [Nat.mul_comm]; exact Nat.le_of_lt hYn)
              rw [Nat.mul_comm V, Nat.add_zero]
              exact this
            have hsrcS : Src w4 gu j n 0 S := fun t a b => (hu4.wrote (n := n1) (by rw [mix_length]; omega)) t a (by omega)
            have hadd := Lib.hid fun cz cx' cy (k1 : n ≤ cz) (k2 : n ≤ cx') (k3 : n ≤ cy) => addv_sec S V n gu j cz gu j cx' gv 0 cy _ w4.drew hu4 hsrcS hv4 (by rw [mix_length, mix_length]; omega) (.inr (.inr (Nat.le_refl _))) (.inl h3) (by omega) k2 k3 k1 (by omega) (by omega) (by omega)
            have hmu4 := hu4.lt
            have hmv4 : gv < w4.heap.size := World.block_lt_of_cell? w4 _ (hv4 0 (by omega) (by omega))
            have hu4' := Lib.hid hu4
            have hlt4' := Lib.hid hlt4
            have hq4' := Lib.hid hq4
            have hx4' := Lib.hid hx4
            have hv4' := Lib.hid hv4
            have hSV' := Lib.hid hSV
            have d5 : decide ((n : Int) < (n1 : Int)) = true := decide_eq_true (by omega)
            have d5' : decide (n < n1) = true := decide_eq_true (by omega)
            clear hu4 hq4 hx4 hv4 hlt4 ho4 hyb hbw hmodV hYn hXn hqv hqv2 hsub hsrcS hSV hS
            go_upto_region 30 with fail
            go_still_tail 13, (by kernel_rfl)
            change wpList _ _ _ _ _ w4.drew
            go_wp2_with fail
            refine (hadd.out _ _ _ (by omega) (by omega) hcv).mono ?_
            rintro e w5 ⟨rfl, hu5, ho5⟩
            have ejn : j + n = jn := hjn
            obtain ⟨sn, hsn⟩ : ∃ sn, S / W ^ n % W = sn := ⟨_, rfl⟩
            have hVn : V / W ^ n % W = 0 := by rw [Nat.div_eq_of_lt (by rw [← hnp]; exact hV'.out), Nat.zero_mod]
            have hsum := (carry_word S V n sn 0 hsn hVn).1
            have hcc := carry_le S V n
            have csn := hu5.cell jn
            rw [← ejn, mix_out (j + n) (by omega), mix_in n (by omega) (by omega) (by rw [mix_length]; omega), hsn, ejn] at csn
            obtain ⟨-, fsn⟩ := hu5.some_ (p := jn) (by rw [mix_length, mix_length, mix_length]; omega)
            obtain ⟨cc, hce⟩ : ∃ cc, carry S V n = cc := ⟨_, rfl⟩
            rw [hce] at hsum hcc
            rw [hce]
            obtain ⟨tn, htn⟩ : ∃ tn, (S + V) / W ^ n % W = tn := ⟨_, rfl⟩
            have hsnW : sn < W := by rw [← hsn]; exact Nat.mod_lt _ W_pos
            rw [htn, Nat.add_zero] at hsum
            have ktn : IntKind.u64.wrap ((sn : Int) + (cc : Int)) = (tn : Int) := by rw [IntKind.wrap_u64, hsum, W_eq]; omega
            have kq : IntKind.u64.wrap (q : Int) = (q : Int) := by rw [IntKind.wrap_u64]; rw [W_eq] at c3; omega
            -- the row behind the carry
            have hW6 : ∃ w6, w5.setCell ⟨gu, jn, none⟩ (.int .u64 (tn : Int)) = w6 ∧ Wd w6 gu (mix Lu 0 (left U V j) 0 N) ∧ Tri gu gq bx w1 w6 ∧ Wd w6 gq (mix Lq 0 (U / V) (j + 1) m) ∧ (∃ L, Wd w6 bx L ∧ L.length = Lx.length) ∧ Src w6 gv 0 n 0 V := by
              have ho6 : Only gu w4.drew (w5.setCell ⟨gu, jn, none⟩ (.int .u64 (tn : Int))) := ho5.setCell _ _
              refine ⟨_, rfl, ?_, (hlt4'.out.drawn 1).only ho6 (.inl rfl), ho6.wd (w := w4.drew) hq4'.out (Ne.symm h1), ⟨_, ho6.wd (w := w4.drew) hx4'.out (Ne.symm hux), hxl3⟩, ho6.src (w := w4.drew) hv4'.out h3⟩
              have hp := hu5.put jn (.int .u64 (tn : Int))
              have e1 := mix_up (L := mix (mix Lu 0 (left U V (j + 1)) 0 N) j S 0 n1) (o := j) (R := S + V) (a := 0) (k := n) (by rw [mix_length, mix_length]; omega) (by omega)
              rw [htn, ejn] at e1
              rw [e1] at hp
              have e2 : mix (mix (mix Lu 0 (left U V (j + 1)) 0 N) j S 0 n1) j (S + V) 0 (n + 1) = mix Lu 0 (left U V j) 0 N := by
                refine sec_next (n := n) (c := 1) hV0 (by rw [← hnp]; exact hV'.out) (by omega) hul (by rw [mix_length, mix_length, mix_length]) (fun t ht => ?_) (fun i hi => ?_)
                · rw [mix_in t (by omega) (by omega) (by rw [mix_length, mix_length]; omega), hX'.out, hSV'.out]
                · rw [mix_out i (by omega), mix_out i (by omega)]
              rw [e2] at hp
              exact hp
            obtain ⟨w6, hw6, hu6, ht6, hq6, hx6, hv6⟩ := hW6
            have ca1 := hu6.cell a1
            rw [mix_at a1 (by omega) hul] at ca1
            obtain ⟨nx, hnx⟩ : ∃ nx, left U V j / W ^ a1 % W = nx := ⟨_, rfl⟩
            rw [hnx] at ca1
            obtain ⟨⟨cvq, hcq4⟩, hfq4⟩ := hq6.some_ (p := j) (by rw [mix_length]; omega)
            have hfin := Lib.hid (hclose.out w6 hu6 ht6 hq6 hx6 hv6 hjl)
            have hnx' := Lib.hid hnx
            have hmu6 := hu6.lt
            have hmq6 := hq6.lt
            have hmu5 := hu5.lt
            clear hu6 hq6 hx6 hv6 ht6 ho5 hu5 hnx hsum hcc hce htn hsnW hsn hVn hadd
            go_wp2_with fail
            go_roundg j
            case measure => omega
            case rel => exact ⟨by omega, by rw [ha1, hnx'.out], rfl, hfin⟩
end Go.Proofs.YtpjkfdgkkpkljaaGreatDoor.Nat_
