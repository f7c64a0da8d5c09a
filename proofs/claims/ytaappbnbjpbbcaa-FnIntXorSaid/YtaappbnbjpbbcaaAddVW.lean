/-
  A borrow taken from a row of words, into another row. A carry given to a row of words, into another row or in place. A carry given to a row of words in place.
-/
import Derived.Test.YtaappbnbjpbbcaaVecOneLaw
import Derived.Deep.RegionLaw
namespace Go.Proofs.Ytaappbnbjpbbcaa.Nat_
open Go.RowKit Go.WideShapes Go.Proofs.Ytaappbnbjpbbcaa.Own Go.Proofs.Ytaappbnbjpbbcaa.Num Go.Proofs.Ytaappbnbjpbbcaa.Ref
set_option linter.unusedVariables false

/-- the built-in copy, its run known, as one step of a region that draws its order -/
theorem step_copy_run {P : Program} {ops : Array Oper} {o : Oper} {a : Act} {w : World} {K : Act → World → Prop} {Q : Exit → Act → World → Prop} {E : Prop}
    (hg : o.guard = none) (d s : Operand) (dT sT : TypeId) (ho : o.op = .call { callee := .builtin .copy, args := #[d, s], argTypes := #[dT, sT] })
    (vd vs : Value) (hd : a.eval d = vd) (hs : a.eval s = vs) (n : Int) (w' : World) (hrun : ∀ ty, (Builtin.copy_ #[dT, sT] ty #[vd, vs]).run P w = .ok (goInt n) w')
    (hK : K (a.put o.dst (goInt n)) w') :
    if Region.wanted o (yielded ops a.tmps) = true then Oper.wp P o a w K Q else E := by
  have hw : Region.wanted o (yielded ops a.tmps) = true := by simp [Region.wanted, hg]
  rw [if_pos hw]
  unfold Oper.wp
  simp [execOp, ho, resolve, invoke, builtin, hd, hs, hrun, Result.andThen]
  exact hK

set_option maxHeartbeats 2000000 in
set_option maxRecDepth 100000 in
theorem subvw_apart (X Y k0 n m N gz cc cz gx cx B : Nat) (L : List Value) (w0 w : World) (hz : VecAt B w0 w gz N cc (X - Y) k0 L) (hx : Src w gx 0 m k0 X) (hgx : WBlk w gx) (hne : gx ≠ gz) (hXY : Y ≤ X) (hY : Y < W ^ k0)
    (hm : k0 + n = m) (hn : 0 < n) (hmN : m ≤ N) (hN : N ≤ 10000) (hcx : n ≤ cx) (hcz : n ≤ cz) :
    Calls Try.prog 98 #[.slice (some ⟨gz, k0, none⟩) n cz, .slice (some ⟨gx, k0, none⟩) n cx, .int .u64 ((borrow X Y k0 : Nat) : Int)] w fun e w' => e = .returned (.int .u64 ((borrow X Y m : Nat) : Int)) ∧ VecAt B w0 w' gz N cc (X - Y) m L := by
  obtain ⟨x, hxe⟩ : ∃ x, X / W ^ k0 % W = x := ⟨_, rfl⟩
  obtain ⟨b, hbe⟩ : ∃ b, borrow X Y k0 = b := ⟨_, rfl⟩
  have hb1 : b ≤ 1 := by rw [← hbe]; exact borrow_le X Y k0
  obtain ⟨ho1, ho2⟩ := borrow_on X Y k0 x hXY hY k0 (Nat.le_refl _) hxe
  rw [hbe] at ho1 ho2
  have hx0 := hx k0 (Nat.le_refl _) (by omega)
  rw [hxe, Nat.zero_add] at hx0
  obtain ⟨⟨cv, hcv⟩, hf0⟩ := hz.cell (by omega)
  have hcall := Lib.hid fun W => (bsub_any x b 0 (by omega) W).mono (fun e w' (h : _ ∧ W = w') => And.intro h.1 h.2.symm)
  rw [Nat.add_zero, Nat.sub_zero] at hcall
  obtain ⟨D, hD⟩ : ∃ D, (x + W - b) % W = D := ⟨_, rfl⟩
  rw [hD] at ho1 hcall
  obtain ⟨C, hC⟩ : ∃ C : Nat, (if x < b then 1 else 0 : Nat) = C := ⟨_, rfl⟩
  rw [hC] at ho2 hcall
  rw [hbe]
  have hz1 := fun q => (hz.store (by omega) D ho1).drewN q
  have hx1 : ∀ q, Src ((w.setCell ⟨gz, k0, none⟩ (.int .u64 (D : Int))).drewN q) gx 0 m (k0 + 1) X := fun q => Src.store hx (gz := gz) (i := k0) (.int .u64 (D : Int)) (Nat.le_succ k0) (.inl hne)
  have hg1 : ∀ q, WBlk ((w.setCell ⟨gz, k0, none⟩ (.int .u64 (D : Int))).drewN q) gx := fun q => WBlk.store hgx gz k0 (.int .u64 (D : Int))
  have hst := Lib.hid (And.intro hz1 (And.intro hx1 hg1))
  have hne' : (⟨gz, k0, none⟩ : Addr) ≠ ⟨gx, k0, none⟩ := fun e => hne (by cases e; rfl)
  have hq := Lib.hid fun W h1 h2 => neq_blk W hne' h1 h2
  have hnn := Lib.hid fun k (hk : k0 ≤ k) hb j => borrow_none X Y k hXY (Nat.lt_of_lt_of_le hY (Nat.pow_le_pow_right (by decide) hk)) hb j
  have hon := Lib.hid fun x j hj hx => borrow_on X Y k0 x hXY hY j hj hx
  have hC1 : C = 0 ∨ C = 1 := by rw [← hC]; split <;> omega
  have hn0 : ((n : Int) == 0) = false := by simp; omega
  have ho2' := Lib.hid ho2
  clear hz hx hgx hxe hbe ho1 hD hC hz1 hx1 hg1 hXY hY ho2
  go_enter Try.func98, Try.ntmps98
  go_wp2_with fail
  refine (hcall.out _).mono ?_
  rintro e w1 ⟨rfl, rfl⟩
  rcases hC1 with rfl | rfl
  · have hq1 := fun q => hq.out ((w1.setCell ⟨gz, k0, none⟩ (.int .u64 (D : Int))).drewN q) (hst.out.1 0).blk (hst.out.2.2 0)
    go_wp2_with fail
    go_quiet (fail)
    by_cases hn1 : n = 1
    · subst hn1
      have hcp := fun dp sp dc sc ty => run_copy_none (P := Try.prog) ((w1.setCell ⟨gz, k0, none⟩ (.int .u64 (D : Int))).drewN (nq + 1)) 92 92 ty 140 dp sp 0 dc 0 sc Try.underlying92 size_word (by simp)
      have hz2 := hst.out.1 (nq + 1)
      have hb2 := ho2'.out
      rw [hm] at hz2 hb2
      have hz2' := Lib.hid hz2
      have hb2' := Lib.hid hb2
      clear hz2 hb2
      by_cases hcz1 : cz = 1 <;> by_cases hcx1 : cx = 1
      all_goals
        go_wp2_with fail
        go_region_law ((with_reducible refine step_copy_run rfl _ _ _ _ rfl _ _ rfl rfl _ _ (hcp _ _ _ _) ?_))
        all_goals
          go_wp2
          go_ret
          exact ⟨by rw [hb2'.out]; rfl, hz2'.out⟩
    · have hb0 := hnn.out (k0 + 1) (by omega) (by have := ho2'.out; exact this)
      have h1n : (1 : Int) ≤ n := by omega
      have hcz1 : ¬ (cz = 1) := by omega
      have hcx1 : ¬ (cx = 1) := by omega
      obtain ⟨w2, hcp, hz2⟩ := VecAt.copy (hst.out.1 (nq + 1)) (hst.out.2.1 (nq + 1)) 92 92 Try.underlying92 (n - 1) (by omega) (by omega) (fun j hj => (hb0 j).2) (some ⟨gz, k0 + 1, none⟩) (some ⟨gx, 0 + (k0 + 1), none⟩) (cz - 1) (cx - 1) (n - 1) (n - 1) (by simp) (fun _ => ⟨rfl, rfl⟩)
      rw [Nat.zero_add] at hcp
      have hb2 := (hb0 (n - 1)).1
      rw [show k0 + 1 + (n - 1) = m by omega] at hz2 hb2
      have hz2' := Lib.hid hz2
      have hb2' := Lib.hid hb2
      clear hz2 hb0 hb2
      go_wp2_with fail
      go_region_law ((with_reducible refine step_copy_run rfl _ _ _ _ rfl _ _ rfl rfl _ _ hcp ?_))
      all_goals
        go_wp2
        go_ret
        exact ⟨by rw [hb2'.out]; rfl, hz2'.out⟩
  · go_wp2_with fail
    clear hx0 hf0 hcv
    go_loopw [9] (fun c wr => ∃ i : Nat, 1 ≤ i ∧ i ≤ n ∧ c = .int .i64 (i : Int) ∧ Hid (borrow X Y (k0 + i) = 1 ∧ VecAt B w0 wr gz N cc (X - Y) (k0 + i) L ∧ Src wr gx 0 m (k0 + i) X ∧ WBlk wr gx)) (fun c _ => n - (intOf c).toNat)
    case atStart => exact ⟨1, by omega, by omega, rfl, Lib.hid ⟨ho2'.out, hst.out.1 0, hst.out.2.1 0, hst.out.2.2 0⟩⟩
    case round =>
      clear hst ho2' hcall
      obtain ⟨i, hi1, hi, rfl, hI⟩ := hrel
      by_cases hlt : i < n
      · obtain ⟨hbi, hz, hx, hgx⟩ := hI.out
        obtain ⟨x, hxe⟩ : ∃ x, X / W ^ (k0 + i) % W = x := ⟨_, rfl⟩
        obtain ⟨ho1, ho2⟩ := hon.out x (k0 + i) (by omega) hxe
        rw [hbi] at ho1 ho2
        have hx0 := hx (k0 + i) (Nat.le_refl _) (by omega)
        rw [hxe, Nat.zero_add] at hx0
        obtain ⟨⟨cv, hcv⟩, hf0⟩ := hz.cell (by omega)
        have hxW : x < W := by rw [← hxe]; exact Nat.mod_lt _ W_pos
        by_cases hx9 : x = 0
        · subst hx9
          rw [if_pos (by omega)] at ho2
          have hD : (X - Y) / W ^ (k0 + i) % W = 18446744073709551615 := ho1
          have hfin := Lib.hid (show borrow X Y (k0 + (i + 1)) = 1 ∧ VecAt B w0 (wr.setCell ⟨gz, k0 + i, none⟩ (.int .u64 18446744073709551615)) gz N cc (X - Y) (k0 + (i + 1)) L ∧ Src (wr.setCell ⟨gz, k0 + i, none⟩ (.int .u64 18446744073709551615)) gx 0 m (k0 + (i + 1)) X ∧ WBlk (wr.setCell ⟨gz, k0 + i, none⟩ (.int .u64 18446744073709551615)) gx from
            ⟨ho2, hz.store (by omega) 18446744073709551615 hD, Src.store hx (.int .u64 18446744073709551615) (by omega) (.inl hne), WBlk.store hgx gz (k0 + i) _⟩)
          clear hxe ho1 ho2 hz hx hgx hbi hI hD hxW
          go_wp2
          go_roundw
          case rel => exact ⟨i + 1, by omega, by omega, by go_num, hfin⟩
          case measure => simp [intOf]; omega
        · rw [if_neg (by omega)] at ho2
          obtain ⟨D, rfl⟩ : ∃ D, x = D + 1 := ⟨x - 1, by omega⟩
          have hD : (X - Y) / W ^ (k0 + i) % W = D := by
            rw [ho1, show D + 1 + W - 1 = D + W by omega, Nat.add_mod_right]
            exact Nat.mod_eq_of_lt (by omega)
          have hx9' : (((D + 1 : Nat) : Int) == 0) = false := by simp; omega
          have hx8' : (((D + 1 : Nat) : Int) != 0) = true := by simp; omega
          have hxD : ((D + 1 : Nat) : Int) - 1 = D := by omega
          have hxD' : IntKind.u64.wrap (((D + 1 : Nat) : Int) - 1) = D := by rw [hxD, IntKind.wrap_u64]; rw [W_eq] at hxW; omega
          have hz1 := fun q => (hz.store (by omega) D hD).drewN q
          have hx1 : ∀ q, Src ((wr.setCell ⟨gz, k0 + i, none⟩ (.int .u64 (D : Int))).drewN q) gx 0 m (k0 + i + 1) X := fun q => Src.store hx (gz := gz) (i := k0 + i) (.int .u64 (D : Int)) (Nat.le_succ _) (.inl hne)
          have hq1 := fun q => hq.out ((wr.setCell ⟨gz, k0 + i, none⟩ (.int .u64 (D : Int))).drewN q) (hz1 q).blk (WBlk.store hgx gz (k0 + i) (.int .u64 (D : Int)))
          have hb0 := hnn.out (k0 + i + 1) (by omega) ho2
          have hst := Lib.hid (And.intro hz1 (And.intro hx1 hb0))
          have hxW' : D < 18446744073709551615 := by rw [W_eq] at hxW; omega
          clear hxe ho1 ho2 hz hx hgx hbi hI hD hxW hz1 hx1 hb0 hx9
          go_wp2_with fail
          go_quiet (fail)
          go_wp2_with fail
          obtain ⟨i', hi'⟩ : ∃ i', i + 1 = i' := ⟨_, rfl⟩
          have hw1 : IntKind.i64.wrap ((i : Int) + 1) = i' := by rw [IntWalk.i64_in _ (by omega)]; omega
          have h1n : (i' : Int) ≤ n := by omega
          by_cases hlast : i' = n
          · subst hlast
            have hcp := fun dp sp dc sc ty => run_copy_none (P := Try.prog) ((wr.setCell ⟨gz, k0 + i, none⟩ (.int .u64 (D : Int))).drewN (nq + 1)) 92 92 ty 140 dp sp 0 dc 0 sc Try.underlying92 size_word (by simp)
            have hz2 := hst.out.1 (nq + 1)
            have hb2 := (hst.out.2.2 0).1
            rw [show k0 + i + 1 = m by omega] at hz2 hb2
            have hz2' := Lib.hid hz2
            have hb2' := Lib.hid hb2
            clear hz2 hb2
            by_cases hcz1 : cz = i' <;> by_cases hcx1 : cx = i'
            all_goals
              go_wp2_with fail
              go_region_law ((with_reducible refine step_copy_run rfl _ _ _ _ rfl _ _ rfl rfl _ _ (hcp _ _ _ _) ?_))
              all_goals
                go_wp2
                go_ret
                exact ⟨by rw [hb2'.out]; rfl, hz2'.out⟩
          · have hcz1 : ¬ (cz = i') := by omega
            have hcx1 : ¬ (cx = i') := by omega
            obtain ⟨w2, hcp, hz2⟩ := VecAt.copy (hst.out.1 (nq + 1)) (hst.out.2.1 (nq + 1)) 92 92 Try.underlying92 (n - i') (by omega) (by omega) (fun j hj => (hst.out.2.2 j).2) (some ⟨gz, k0 + i + 1, none⟩) (some ⟨gx, 0 + (k0 + i + 1), none⟩) (cz - i') (cx - i') (n - i') (n - i') (by simp) (fun _ => ⟨rfl, rfl⟩)
            rw [Nat.zero_add, Nat.add_assoc k0 i 1, hi'] at hcp
            have hb2 := (hst.out.2.2 (n - i')).1
            rw [show k0 + i + 1 + (n - i') = m by omega] at hz2 hb2
            have hz2' := Lib.hid hz2
            have hb2' := Lib.hid hb2
            clear hz2 hb2
            go_wp2_with fail
            go_region_law ((with_reducible refine step_copy_run rfl _ _ _ _ rfl _ _ rfl rfl _ _ hcp ?_))
            all_goals
              go_wp2
              go_ret
              exact ⟨by rw [hb2'.out]; rfl, hz2'.out⟩
      · obtain rfl : i = n := by omega
        have hfin := hI.out
        rw [hm] at hfin
        have hfin' := Lib.hid hfin
        clear hI hfin
        go_wp2
        go_ret
        exact ⟨by rw [hfin'.out.1]; rfl, hfin'.out.2.1⟩
end Go.Proofs.Ytaappbnbjpbbcaa.Nat_
namespace Go.Proofs.Ytaappbnbjpbbcaa.Nat_
open Go.RowKit Go.WideShapes Go.Proofs.Ytaappbnbjpbbcaa.Own Go.Proofs.Ytaappbnbjpbbcaa.Num Go.Proofs.Ytaappbnbjpbbcaa.Ref
set_option linter.unusedVariables false

set_option maxHeartbeats 2000000 in
set_option maxRecDepth 100000 in
theorem addvw_apart (X Y k0 n m N gz cc cz gx cx B : Nat) (L : List Value) (w0 w : World) (hz : VecAt B w0 w gz N cc (X + Y) k0 L) (hx : Src w gx 0 m k0 X) (hgx : WBlk w gx) (hne : gx ≠ gz) (hY : Y < W ^ k0)
    (hm : k0 + n = m) (hn : 0 < n) (hmN : m ≤ N) (hN : N ≤ 10000) (hcx : n ≤ cx) (hcz : n ≤ cz) :
    Calls Try.prog 100 #[.slice (some ⟨gz, k0, none⟩) n cz, .slice (some ⟨gx, k0, none⟩) n cx, .int .u64 ((carry X Y k0 : Nat) : Int)] w fun e w' => e = .returned (.int .u64 ((carry X Y m : Nat) : Int)) ∧ VecAt B w0 w' gz N cc (X + Y) m L := by
  obtain ⟨x, hxe⟩ : ∃ x, X / W ^ k0 % W = x := ⟨_, rfl⟩
  obtain ⟨b, hbe⟩ : ∃ b, carry X Y k0 = b := ⟨_, rfl⟩
  have hb1 : b ≤ 1 := by rw [← hbe]; exact carry_le X Y k0
  obtain ⟨ho1, ho2⟩ := carry_on X Y k0 x hY k0 (Nat.le_refl _) hxe
  rw [hbe] at ho1 ho2
  have hx0 := hx k0 (Nat.le_refl _) (by omega)
  rw [hxe, Nat.zero_add] at hx0
  obtain ⟨⟨cv, hcv⟩, hf0⟩ := hz.cell (by omega)
  have hcall := Lib.hid fun W => (badd_any x b 0 (by omega) W).mono (fun e w' (h : _ ∧ W = w') => And.intro h.1 h.2.symm)
  rw [Nat.add_zero] at hcall
  obtain ⟨D, hD⟩ : ∃ D, (x + b) % W = D := ⟨_, rfl⟩
  rw [hD] at ho1 hcall
  obtain ⟨C, hC⟩ : ∃ C, (x + b) / W = C := ⟨_, rfl⟩
  rw [hC] at ho2 hcall
  rw [hbe]
  have hz1 := fun q => (hz.store (by omega) D ho1).drewN q
  have hx1 : ∀ q, Src ((w.setCell ⟨gz, k0, none⟩ (.int .u64 (D : Int))).drewN q) gx 0 m (k0 + 1) X := fun q => Src.store hx (gz := gz) (i := k0) (.int .u64 (D : Int)) (Nat.le_succ k0) (.inl hne)
  have hg1 : ∀ q, WBlk ((w.setCell ⟨gz, k0, none⟩ (.int .u64 (D : Int))).drewN q) gx := fun q => WBlk.store hgx gz k0 (.int .u64 (D : Int))
  have hst := Lib.hid (And.intro hz1 (And.intro hx1 hg1))
  have hne' : (⟨gz, k0, none⟩ : Addr) ≠ ⟨gx, k0, none⟩ := fun e => hne (by cases e; rfl)
  have hq := Lib.hid fun W h1 h2 => neq_blk W hne' h1 h2
  have hnn := Lib.hid fun k (hk : k0 ≤ k) hb j => carry_none X Y k (Nat.lt_of_lt_of_le hY (Nat.pow_le_pow_right (by decide) hk)) hb j
  have hon := Lib.hid fun x j hj hx => carry_on X Y k0 x hY j hj hx
  have hC1 : C = 0 ∨ C = 1 := by
    have hxW : x < W := by rw [← hxe]; exact Nat.mod_lt _ W_pos
    rw [← hC]
    rw [W_eq] at hxW ⊢
    omega
  have hn0 : ((n : Int) == 0) = false := by simp; omega
  have ho2' := Lib.hid ho2
  clear hz hx hgx hxe hbe ho1 hD hC hz1 hx1 hg1 hY ho2
  go_enter Try.func100, Try.ntmps100
  go_wp2_with fail
  refine (hcall.out _).mono ?_
  rintro e w1 ⟨rfl, rfl⟩
  rcases hC1 with rfl | rfl
  · have hq1 := fun q => hq.out ((w1.setCell ⟨gz, k0, none⟩ (.int .u64 (D : Int))).drewN q) (hst.out.1 0).blk (hst.out.2.2 0)
    go_wp2_with fail
    go_quiet (fail)
    by_cases hn1 : n = 1
    · subst hn1
      have hcp := fun dp sp dc sc ty => run_copy_none (P := Try.prog) ((w1.setCell ⟨gz, k0, none⟩ (.int .u64 (D : Int))).drewN (nq + 1)) 92 92 ty 140 dp sp 0 dc 0 sc Try.underlying92 size_word (by simp)
      have hz2 := hst.out.1 (nq + 1)
      have hb2 := ho2'.out
      rw [hm] at hz2 hb2
      have hz2' := Lib.hid hz2
      have hb2' := Lib.hid hb2
      clear hz2 hb2
      by_cases hcz1 : cz = 1 <;> by_cases hcx1 : cx = 1
      all_goals
        go_wp2_with fail
        go_region_law ((with_reducible refine step_copy_run rfl _ _ _ _ rfl _ _ rfl rfl _ _ (hcp _ _ _ _) ?_))
        all_goals
          go_wp2
          go_ret
          exact ⟨by rw [hb2'.out]; rfl, hz2'.out⟩
    · have hb0 := hnn.out (k0 + 1) (by omega) (by have := ho2'.out; exact this)
      have h1n : (1 : Int) ≤ n := by omega
      have hcz1 : ¬ (cz = 1) := by omega
      have hcx1 : ¬ (cx = 1) := by omega
      obtain ⟨w2, hcp, hz2⟩ := VecAt.copy (hst.out.1 (nq + 1)) (hst.out.2.1 (nq + 1)) 92 92 Try.underlying92 (n - 1) (by omega) (by omega) (fun j hj => (hb0 j).2) (some ⟨gz, k0 + 1, none⟩) (some ⟨gx, 0 + (k0 + 1), none⟩) (cz - 1) (cx - 1) (n - 1) (n - 1) (by simp) (fun _ => ⟨rfl, rfl⟩)
      rw [Nat.zero_add] at hcp
      have hb2 := (hb0 (n - 1)).1
      rw [show k0 + 1 + (n - 1) = m by omega] at hz2 hb2
      have hz2' := Lib.hid hz2
      have hb2' := Lib.hid hb2
      clear hz2 hb0 hb2
      go_wp2_with fail
      go_region_law ((with_reducible refine step_copy_run rfl _ _ _ _ rfl _ _ rfl rfl _ _ hcp ?_))
      all_goals
        go_wp2
        go_ret
        exact ⟨by rw [hb2'.out]; rfl, hz2'.out⟩
  · go_wp2_with fail
    clear hx0 hf0 hcv
    go_loopw [9] (fun c wr => ∃ i : Nat, 1 ≤ i ∧ i ≤ n ∧ c = .int .i64 (i : Int) ∧ Hid (carry X Y (k0 + i) = 1 ∧ VecAt B w0 wr gz N cc (X + Y) (k0 + i) L ∧ Src wr gx 0 m (k0 + i) X ∧ WBlk wr gx)) (fun c _ => n - (intOf c).toNat)
    case atStart => exact ⟨1, by omega, by omega, rfl, Lib.hid ⟨ho2'.out, hst.out.1 0, hst.out.2.1 0, hst.out.2.2 0⟩⟩
    case round =>
      clear hst ho2' hcall
      obtain ⟨i, hi1, hi, rfl, hI⟩ := hrel
      by_cases hlt : i < n
      · obtain ⟨hbi, hz, hx, hgx⟩ := hI.out
        obtain ⟨x, hxe⟩ : ∃ x, X / W ^ (k0 + i) % W = x := ⟨_, rfl⟩
        obtain ⟨ho1, ho2⟩ := hon.out x (k0 + i) (by omega) hxe
        rw [hbi] at ho1 ho2
        have hx0 := hx (k0 + i) (Nat.le_refl _) (by omega)
        rw [hxe, Nat.zero_add] at hx0
        obtain ⟨⟨cv, hcv⟩, hf0⟩ := hz.cell (by omega)
        have hxW : x < W := by rw [← hxe]; exact Nat.mod_lt _ W_pos
        by_cases hx9 : x = 18446744073709551615
        · subst hx9
          have ho2 : carry X Y (k0 + i + 1) = 1 := ho2
          have hD : (X + Y) / W ^ (k0 + i) % W = 0 := ho1
          have hfin := Lib.hid (show carry X Y (k0 + (i + 1)) = 1 ∧ VecAt B w0 (wr.setCell ⟨gz, k0 + i, none⟩ (.int .u64 0)) gz N cc (X + Y) (k0 + (i + 1)) L ∧ Src (wr.setCell ⟨gz, k0 + i, none⟩ (.int .u64 0)) gx 0 m (k0 + (i + 1)) X ∧ WBlk (wr.setCell ⟨gz, k0 + i, none⟩ (.int .u64 0)) gx from
            ⟨ho2, hz.store (by omega) 0 hD, Src.store hx (.int .u64 0) (by omega) (.inl hne), WBlk.store hgx gz (k0 + i) _⟩)
          clear hxe ho1 ho2 hz hx hgx hbi hI hD hxW
          go_wp2
          go_roundw
          case rel => exact ⟨i + 1, by omega, by omega, by go_num, hfin⟩
          case measure => simp [intOf]; omega
        · have hxW9 : x < 18446744073709551615 := by rw [W_eq] at hxW; omega
          have ho2 : carry X Y (k0 + i + 1) = 0 := by rw [ho2]; exact Nat.div_eq_of_lt (by rw [W_eq]; omega)
          obtain ⟨D, hDe⟩ : ∃ D, x + 1 = D := ⟨_, rfl⟩
          have hD : (X + Y) / W ^ (k0 + i) % W = D := by
            rw [ho1, hDe]
            exact Nat.mod_eq_of_lt (by rw [W_eq]; omega)
          have hx9' : (((x : Nat) : Int) == 18446744073709551615) = false := by simp; omega
          have hx8' : (((x : Nat) : Int) != 18446744073709551615) = true := by simp; omega
          have hxD : ((x : Nat) : Int) + 1 = D := by omega
          have hxD' : IntKind.u64.wrap (((x : Nat) : Int) + 1) = D := by rw [hxD, IntKind.wrap_u64]; omega
          have hz1 := fun q => (hz.store (by omega) D hD).drewN q
          have hx1 : ∀ q, Src ((wr.setCell ⟨gz, k0 + i, none⟩ (.int .u64 (D : Int))).drewN q) gx 0 m (k0 + i + 1) X := fun q => Src.store hx (gz := gz) (i := k0 + i) (.int .u64 (D : Int)) (Nat.le_succ _) (.inl hne)
          have hq1 := fun q => hq.out ((wr.setCell ⟨gz, k0 + i, none⟩ (.int .u64 (D : Int))).drewN q) (hz1 q).blk (WBlk.store hgx gz (k0 + i) (.int .u64 (D : Int)))
          have hb0 := hnn.out (k0 + i + 1) (by omega) ho2
          have hst := Lib.hid (And.intro hz1 (And.intro hx1 hb0))
          clear hxe ho1 ho2 hz hx hgx hbi hI hD hxW hz1 hx1 hb0 hx9
          go_wp2_with fail
          go_quiet (fail)
          go_wp2_with fail
          obtain ⟨i', hi'⟩ : ∃ i', i + 1 = i' := ⟨_, rfl⟩
          have hw1 : IntKind.i64.wrap ((i : Int) + 1) = i' := by rw [IntWalk.i64_in _ (by omega)]; omega
          have h1n : (i' : Int) ≤ n := by omega
          by_cases hlast : i' = n
          · subst hlast
            have hcp := fun dp sp dc sc ty => run_copy_none (P := Try.prog) ((wr.setCell ⟨gz, k0 + i, none⟩ (.int .u64 (D : Int))).drewN (nq + 1)) 92 92 ty 140 dp sp 0 dc 0 sc Try.underlying92 size_word (by simp)
            have hz2 := hst.out.1 (nq + 1)
            have hb2 := (hst.out.2.2 0).1
            rw [show k0 + i + 1 = m by omega] at hz2 hb2
            have hz2' := Lib.hid hz2
            have hb2' := Lib.hid hb2
            clear hz2 hb2
            by_cases hcz1 : cz = i' <;> by_cases hcx1 : cx = i'
            all_goals
              go_wp2_with fail
              go_region_law ((with_reducible refine step_copy_run rfl _ _ _ _ rfl _ _ rfl rfl _ _ (hcp _ _ _ _) ?_))
              all_goals
                go_wp2
                go_ret
                exact ⟨by rw [hb2'.out]; rfl, hz2'.out⟩
          · have hcz1 : ¬ (cz = i') := by omega
            have hcx1 : ¬ (cx = i') := by omega
            obtain ⟨w2, hcp, hz2⟩ := VecAt.copy (hst.out.1 (nq + 1)) (hst.out.2.1 (nq + 1)) 92 92 Try.underlying92 (n - i') (by omega) (by omega) (fun j hj => (hst.out.2.2 j).2) (some ⟨gz, k0 + i + 1, none⟩) (some ⟨gx, 0 + (k0 + i + 1), none⟩) (cz - i') (cx - i') (n - i') (n - i') (by simp) (fun _ => ⟨rfl, rfl⟩)
            rw [Nat.zero_add, Nat.add_assoc k0 i 1, hi'] at hcp
            have hb2 := (hst.out.2.2 (n - i')).1
            rw [show k0 + i + 1 + (n - i') = m by omega] at hz2 hb2
            have hz2' := Lib.hid hz2
            have hb2' := Lib.hid hb2
            clear hz2 hb2
            go_wp2_with fail
            go_region_law ((with_reducible refine step_copy_run rfl _ _ _ _ rfl _ _ rfl rfl _ _ hcp ?_))
            all_goals
              go_wp2
              go_ret
              exact ⟨by rw [hb2'.out]; rfl, hz2'.out⟩
      · obtain rfl : i = n := by omega
        have hfin := hI.out
        rw [hm] at hfin
        have hfin' := Lib.hid hfin
        clear hI hfin
        go_wp2
        go_ret
        exact ⟨by rw [hfin'.out.1]; rfl, hfin'.out.2.1⟩
end Go.Proofs.Ytaappbnbjpbbcaa.Nat_
namespace Go.Proofs.Ytaappbnbjpbbcaa.Nat_
open Go.RowKit Go.WideShapes Go.Proofs.Ytaappbnbjpbbcaa.Own Go.Proofs.Ytaappbnbjpbbcaa.Num Go.Proofs.Ytaappbnbjpbbcaa.Ref
set_option linter.unusedVariables false

/-- the old words, in place -/
def Stands (X k m : Nat) (L : List Value) : Prop := ∀ j, k ≤ j → j < m → L[j]? = some (.int .u64 ((X / W ^ j % W : Nat) : Int))

set_option maxHeartbeats 2000000 in
set_option maxRecDepth 100000 in
theorem addvw_self (X Y k0 n m N gz cc cz cx B : Nat) (L : List Value) (w0 w : World) (hz : VecAt B w0 w gz N cc (X + Y) k0 L) (hL : Stands X k0 m L) (hY : Y < W ^ k0)
    (hm : k0 + n = m) (hn : 0 < n) (hmN : m ≤ N) (hN : N ≤ 10000) (hcx : n ≤ cx) (hcz : n ≤ cz) :
    Calls Try.prog 100 #[.slice (some ⟨gz, k0, none⟩) n cz, .slice (some ⟨gz, k0, none⟩) n cx, .int .u64 ((carry X Y k0 : Nat) : Int)] w fun e w' => e = .returned (.int .u64 ((carry X Y m : Nat) : Int)) ∧ VecAt B w0 w' gz N cc (X + Y) m L := by
  have hcell : ∀ (wr : World) k, VecAt B w0 wr gz N cc (X + Y) k L → k0 ≤ k → k < m → wr.cell? ⟨gz, k, none⟩ = some (.int .u64 ((X / W ^ k % W : Nat) : Int)) := fun wr k hv h1 h2 => by
    have hc := World.ownsRow.cellAt hv.1 k (by omega)
    rw [hc, rowTo_get _ _ _ _ (Nat.le_refl _) (by have := hv.2.2.2; omega), hL k h1 h2]
  obtain ⟨x, hxe⟩ : ∃ x, X / W ^ k0 % W = x := ⟨_, rfl⟩
  obtain ⟨b, hbe⟩ : ∃ b, carry X Y k0 = b := ⟨_, rfl⟩
  have hb1 : b ≤ 1 := by rw [← hbe]; exact carry_le X Y k0
  obtain ⟨ho1, ho2⟩ := carry_on X Y k0 x hY k0 (Nat.le_refl _) hxe
  rw [hbe] at ho1 ho2
  have hx0 := hcell w k0 hz (Nat.le_refl _) (by omega)
  rw [hxe] at hx0
  obtain ⟨⟨cv, hcv⟩, hf0⟩ := hz.cell (by omega)
  clear hcv
  have hcall := Lib.hid fun W => (badd_any x b 0 (by omega) W).mono (fun e w' (h : _ ∧ W = w') => And.intro h.1 h.2.symm)
  rw [Nat.add_zero] at hcall
  obtain ⟨D, hD⟩ : ∃ D, (x + b) % W = D := ⟨_, rfl⟩
  rw [hD] at ho1 hcall
  have hxW0 : x < W := by rw [← hxe]; exact Nat.mod_lt _ W_pos
  obtain ⟨C, hC⟩ : ∃ C, (x + b) / W = C := ⟨_, rfl⟩
  have hC1 : C = 0 ∨ C = 1 := by
    rw [← hC]
    rw [W_eq] at hxW0 ⊢
    omega
  rw [hC] at ho2 hcall
  rw [hbe]
  have hz1 := Lib.hid fun q => (hz.store (by omega) D ho1).drewN q
  have hq := Lib.hid fun W => neq_self ⟨gz, k0, none⟩ W
  have hnn := Lib.hid fun k (hk : k0 ≤ k) hb j => carry_none X Y k (Nat.lt_of_lt_of_le hY (Nat.pow_le_pow_right (by decide) hk)) hb j
  have hon := Lib.hid fun x j hj hx => carry_on X Y k0 x hY j hj hx
  have hend := Lib.hid (show ∀ (wr : World) k, VecAt B w0 wr gz N cc (X + Y) k L → k0 ≤ k → k ≤ m → carry X Y k = 0 → carry X Y m = 0 ∧ VecAt B w0 wr gz N cc (X + Y) m L from fun wr k hv h1 h2 h3 => by
    have hk := hnn.out k h1 h3
    refine ⟨by rw [show m = k + (m - k) by omega]; exact (hk _).1, hv.rest m h2 hmN fun j hj1 hj2 => ?_⟩
    rw [hL j (by omega) hj2, show j = k + (j - k) by omega, (hk _).2])
  have hn0 : ((n : Int) == 0) = false := by simp; omega
  have ho2' := Lib.hid ho2
  have hcell' := Lib.hid hcell
  clear hz hL hxe hbe ho1 hD hC hY ho2 hcell hxW0
  go_enter Try.func100, Try.ntmps100
  go_wp2_with fail
  refine (hcall.out _).mono ?_
  rintro e w1 ⟨rfl, rfl⟩
  rcases hC1 with rfl | rfl
  · have hq1 := fun q => hq.out ((w1.setCell ⟨gz, k0, none⟩ (.int .u64 (D : Int))).drewN q)
    have hfin := Lib.hid fun q => hend.out _ _ (hz1.out q) (by omega) (by omega) ho2'.out
    go_wp2_with fail
    go_quiet (fail)
    go_wp2
    go_ret
    exact ⟨by rw [(hfin.out 0).1]; rfl, (hfin.out _).2⟩
  · go_wp2_with fail
    clear hx0 hf0
    go_loopw [9] (fun c wr => ∃ i : Nat, 1 ≤ i ∧ i ≤ n ∧ c = .int .i64 (i : Int) ∧ Hid (carry X Y (k0 + i) = 1 ∧ VecAt B w0 wr gz N cc (X + Y) (k0 + i) L)) (fun c _ => n - (intOf c).toNat)
    case atStart => exact ⟨1, by omega, by omega, rfl, Lib.hid ⟨ho2'.out, hz1.out 0⟩⟩
    case round =>
      clear ho2' hcall hz1
      obtain ⟨i, hi1, hi, rfl, hI⟩ := hrel
      by_cases hlt : i < n
      · obtain ⟨hbi, hz⟩ := hI.out
        obtain ⟨x, hxe⟩ : ∃ x, X / W ^ (k0 + i) % W = x := ⟨_, rfl⟩
        obtain ⟨ho1, ho2⟩ := hon.out x (k0 + i) (by omega) hxe
        rw [hbi] at ho1 ho2
        have hx0 := hcell'.out wr (k0 + i) hz (by omega) (by omega)
        rw [hxe] at hx0
        obtain ⟨-, hf0⟩ := hz.cell (by omega)
        have hxW : x < W := by rw [← hxe]; exact Nat.mod_lt _ W_pos
        by_cases hx9 : x = 18446744073709551615
        · subst hx9
          have ho2 : carry X Y (k0 + i + 1) = 1 := ho2
          have hD : (X + Y) / W ^ (k0 + i) % W = 0 := ho1
          have hfin := Lib.hid (show carry X Y (k0 + (i + 1)) = 1 ∧ VecAt B w0 (wr.setCell ⟨gz, k0 + i, none⟩ (.int .u64 0)) gz N cc (X + Y) (k0 + (i + 1)) L from
            ⟨ho2, hz.store (by omega) 0 hD⟩)
          clear hxe ho1 ho2 hz hbi hI hD hxW
          go_wp2
          go_roundw
          case rel => exact ⟨i + 1, by omega, by omega, by go_num, hfin⟩
          case measure => simp [intOf]; omega
        · have hxW9 : x < 18446744073709551615 := by rw [W_eq] at hxW; omega
          have ho2 : carry X Y (k0 + i + 1) = 0 := by rw [ho2]; exact Nat.div_eq_of_lt (by rw [W_eq]; omega)
          obtain ⟨D, hDe⟩ : ∃ D, x + 1 = D := ⟨_, rfl⟩
          have hD : (X + Y) / W ^ (k0 + i) % W = D := by
            rw [ho1, hDe]
            exact Nat.mod_eq_of_lt (by rw [W_eq]; omega)
          have hx9' : (((x : Nat) : Int) == 18446744073709551615) = false := by simp; omega
          have hx8' : (((x : Nat) : Int) != 18446744073709551615) = true := by simp; omega
          have hxD : ((x : Nat) : Int) + 1 = D := by omega
          have hxD' : IntKind.u64.wrap (((x : Nat) : Int) + 1) = D := by rw [hxD, IntKind.wrap_u64]; omega
          have hfin := Lib.hid fun q => hend.out _ _ ((hz.store (by omega) D hD).drewN q) (by omega) (by omega) ho2
          have hq1 := fun q => hq.out ((wr.setCell ⟨gz, k0 + i, none⟩ (.int .u64 (D : Int))).drewN q)
          clear hxe ho1 ho2 hz hbi hI hD hxW hx9 hDe
          go_wp2_with fail
          go_quiet (fail)
          go_wp2
          go_ret
          exact ⟨by rw [(hfin.out 0).1]; rfl, (hfin.out _).2⟩
      · obtain rfl : i = n := by omega
        have hfin := hI.out
        rw [hm] at hfin
        have hfin' := Lib.hid hfin
        clear hI hfin
        go_wp2
        go_ret
        exact ⟨by rw [hfin'.out.1]; rfl, hfin'.out.2⟩
end Go.Proofs.Ytaappbnbjpbbcaa.Nat_
