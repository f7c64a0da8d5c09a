/-
  A text cut between its words from the end on: the small functions, and the statement.
-/
import Derived.Test.YtnenjlgpdejfaaaDoorWords
import Derived.Test.YtnenjlgpdejfaaaDoorStrs
import Derived.Test.YtnenjlgpdejfaaaDoorUtf
import Derived.LoopTactic
import Derived.Outline
import Derived.WalkSpells
import Derived.WalkLawsBesides
import Derived.Lib.Hide
import Derived.OpenShut
import Derived.Deep.QuietTactic
import Derived.BigQuiet
import Derived.BigRegion
import Derived.DataShut
import Derived.Deep.CutBlock
import Derived.Deep.LoopGhost
import Derived.Deep.AppendLies
import Derived.Deep.DeepCutAuto
import Derived.Lib.SpaceU
namespace Go.Proofs.YtnenjlgpdejfaaaDoor.fnSplitSpaceBack
open Go.Proofs.YtnenjlgpdejfaaaDoor.Split Go.RowKit Go.WideShapes Go.Proofs.YtnenjlgpdejfaaaDoor.Utf Go.Proofs.YtnenjlgpdejfaaaDoor.Strs
set_option linter.unusedVariables false



set_option maxRecDepth 100000 in
theorem same_any (L : List ByteArray) (va vb : Value) (w : World) (B1 B2 : Nat) (h1 : OwnS w B1 va L) (h2 : OwnS w B2 vb L) (hL : L.length ≤ 100000) :
    Calls Tryd.prog 13 #[va, vb] w fun e w' => e = .returned (.bool true) ∧ Below w.heap.size w w' := by
  obtain ⟨A1, c1, rfl⟩ := h1.shape
  obtain ⟨A2, c2, rfl⟩ := h2.shape
  have hn : ((L.length : Int) != L.length) = false := by simp
  go_enter Tryd.func13, Tryd.ntmps13
  go_wp2
  go_loop [14] (fun i => ∃ j : Nat, i = .int .i64 j ∧ j ≤ L.length) (fun i => L.length - (intOf i).toNat)
  case atStart => exact ⟨0, rfl, Nat.zero_le _⟩
  case round =>
    obtain ⟨j, rfl, hj⟩ := hrel
    by_cases hlt : j < L.length
    · obtain ⟨g1, cc1, e1, hg1, hB1, k1⟩ := h1.slice (by omega)
      obtain ⟨g2, cc2, e2, hg2, hB2, k2⟩ := h2.slice (by omega)
      simp only [Value.slice.injEq, true_and] at e1 e2
      obtain ⟨rfl, rfl⟩ := e1
      obtain ⟨rfl, rfl⟩ := e2
      have d1 := k1 j hlt
      have d2 := k2 j hlt
      have hadd : ∀ g : Nat, ((⟨g, 0, none⟩ : Addr).add j) = ⟨g, j, none⟩ := fun g => by unfold Addr.add; split <;> simp_all
      rw [hadd] at d1 d2
      obtain ⟨t, ht⟩ : ∃ t, L[j] = t := ⟨_, rfl⟩
      rw [ht] at d1 d2
      clear k1 k2 ht hadd
      go_wp2
      go_round
      case rel => exact ⟨j + 1, by go_num, by omega⟩
      case measure => simp [intOf]; omega
    · go_wp2
      go_ret
      exact ⟨rfl, Below.refl _ _⟩

def Answer (s : ByteArray) (e : Ending) : Prop := e = .returned (.bool false) ∨ (e = .returned (.bool true) ∧ s.size ≤ 400 ∧ ∀ k, k < s.size → at' s k < 128)
set_option maxRecDepth 100000 in
theorem ascii_any (s : ByteArray) (w : World) (hs : s.size ≤ 2147483647) :
    Calls Tryd.prog 16 #[.string s] w fun e w' => Answer s e ∧ w = w' := by
  go_enter Tryd.func16, Tryd.ntmps16
  go_wp2
  go_loop [3] (fun i => ∃ j : Nat, i = .int .i64 j ∧ j ≤ s.size ∧ Hid (∀ k, k < j → at' s k < 128)) (fun i => s.size - (intOf i).toNat)
  case atStart => exact ⟨0, rfl, Nat.zero_le _, fun k hk => by omega⟩
  case round =>
    obtain ⟨j, rfl, hj, ha⟩ := hrel
    by_cases hlt : j < s.size
    · obtain ⟨c, hc⟩ : ∃ c, s[j] = c := ⟨_, rfl⟩
      have hat : at' s j = c.toNat := by rw [at_get s j hlt, hc]
      have hat' := Lib.hid hat
      have hcl := UInt8.toNat_lt c
      clear hat
      have hnext : c.toNat < 128 → ∀ k, k < j + 1 → at' s k < 128 := fun h k hk => by
        rcases Nat.lt_or_ge k j with h1 | h1
        · exact ha.out k h1
        · obtain rfl : k = j := by omega
          rw [hat'.out]; exact h
      have hnext' := Lib.hid hnext
      clear hnext
      by_cases h1 : 127 ≤ c.toNat
      · have b1 : decide (127 ≤ (c.toNat : Int)) = true := by simp; omega
        clear h1
        go_wp2
        go_ret
        exact ⟨.inl rfl, rfl⟩
      · have b1 : decide (127 ≤ (c.toNat : Int)) = false := by simp; omega
        by_cases h2 : 32 ≤ c.toNat
        · have b2 : decide ((c.toNat : Int) < 32) = false := by simp; omega
          go_wp2
          go_round
          case rel => exact ⟨j + 1, by go_num, by omega, hnext'.out (by omega)⟩
          case measure => simp [intOf]; omega
        · have b2 : decide ((c.toNat : Int) < 32) = true := by simp; omega
          have h32 : ((c.toNat : Int) != 32) = true := by simp; omega
          by_cases h3 : 9 ≤ c.toNat
          · have b3 : decide ((c.toNat : Int) < 9) = false := by simp; omega
            by_cases h4 : c.toNat ≤ 13
            · have b4 : decide (13 < (c.toNat : Int)) = false := by simp; omega
              go_wp2
              go_round
              case rel => exact ⟨j + 1, by go_num, by omega, hnext'.out (by omega)⟩
              case measure => simp [intOf]; omega
            · have b4 : decide (13 < (c.toNat : Int)) = true := by simp; omega
              go_wp2
              go_ret
              exact ⟨.inl rfl, rfl⟩
          · have b3 : decide ((c.toNat : Int) < 9) = true := by simp; omega
            go_wp2
            go_ret
            exact ⟨.inl rfl, rfl⟩
    · obtain rfl : j = s.size := by omega
      by_cases h4 : s.size ≤ 400
      · have h5 : decide ((s.size : Int) ≤ 400) = true := by simp; omega
        go_wp2
        go_ret
        exact ⟨.inr ⟨rfl, h4, ha.out⟩, rfl⟩
      · have h5 : decide ((s.size : Int) ≤ 400) = false := by simp; omega
        go_wp2
        go_ret
        exact ⟨.inl rfl, rfl⟩

def SomeB (e : Ending) : Prop := ∃ b, e = .returned (.bool b)
set_option maxRecDepth 100000 in
theorem ends_any (s : ByteArray) (w : World) (hs : s.size ≤ 2147483647) :
    Calls Tryd.prog 17 #[.string s, .bool false] w fun e w' => SomeB e ∧ w = w' := by
  by_cases h0 : s.size = 0
  · have he : s.toList.isEmpty = true := by
      rw [Lib.toList_data]
      have : s.data.toList.length = 0 := by simpa using h0
      cases h : s.data.toList with
      | nil => rfl
      | cons a b => rw [h] at this; simp at this
    clear h0
    go_enter Tryd.func17, Tryd.ntmps17
    go_wp2
    go_ret
    exact ⟨⟨_, rfl⟩, rfl⟩
  · have he : s.toList.isEmpty = false := by
      rw [Lib.toList_data]
      cases h : s.data.toList with
      | nil =>
        have : s.data.toList.length = s.size := by simp
        rw [h] at this
        exact absurd this.symm h0
      | cons a b => rfl
    have hp : 0 < s.size := by omega
    clear h0
    go_enter Tryd.func17, Tryd.ntmps17
    go_wp2
    all_goals
      go_ret
      exact ⟨⟨_, rfl⟩, rfl⟩

theorem zz_any (s : ByteArray) (most : Nat) (hm : most ≤ 100) (w : World) (hs : s.size ≤ 400) (hA : ∀ k, k < s.size → at' s k < 128) (hT : Tabs w) :
    Calls Tryd.prog 18 #[.string s, .int .i64 most] w fun e w' => (∃ v, e = .returned v ∧ OwnS w' w.heap.size v (pieces s (run (wh s) most s.size none []))) ∧ Below w.heap.size w w' := by
  have hz : Calls Tryd.prog 29 #[.string s, .int .i64 most] w fun e w' => (∃ v, e = .returned v ∧ OwnS w' w.heap.size v (pieces s (run (wh s) most s.size none []))) ∧ Below w.heap.size w w' := by
    have hr := Lib.hid (rs_any s most hm w hs hA hT)
    obtain ⟨R, hR⟩ : ∃ R, pieces s (run (wh s) most s.size none []) = R := ⟨_, rfl⟩
    rw [hR] at hr ⊢
    clear hA hR
    go_enter Tryd.func29, Tryd.ntmps29
    go_wp2_with (go_at_call 43; refine hr.out.mono ?_; rintro e1 w1 ⟨⟨v, rfl, ho⟩, hb⟩)
    go_ret
    exact ⟨⟨v, rfl, ho⟩, hb⟩
  have hr := Lib.hid hz
  obtain ⟨R, hR⟩ : ∃ R, pieces s (run (wh s) most s.size none []) = R := ⟨_, rfl⟩
  rw [hR] at hr ⊢
  clear hA hR hz
  go_enter Tryd.func18, Tryd.ntmps18
  go_wp2_with (go_at_call 29; refine hr.out.mono ?_; rintro e1 w1 ⟨⟨v, rfl, ho⟩, hb⟩)
  go_ret
  exact ⟨⟨v, rfl, ho⟩, hb⟩

theorem Words_any (s : ByteArray) (most : Nat) (hm : most ≤ 100) (w : World) (hs : s.size ≤ 2147483647) :
    Calls Tryd.prog 15 #[.string s, .bool true, .int .i64 most] w fun e w' => (∃ v, e = .returned v ∧ OwnS w' w.heap.size v (pieces s (run (wh s) most s.size none []))) ∧ Below w.heap.size w w' := by
  have hr := Lib.hid (words_any s most hm w hs)
  obtain ⟨R, hR⟩ : ∃ R, pieces s (run (wh s) most s.size none []) = R := ⟨_, rfl⟩
  rw [hR] at hr ⊢
  clear hR
  go_enter Tryd.func15, Tryd.ntmps15
  go_wp2_with (go_at_call 28; refine hr.out.mono ?_; rintro e1 w1 ⟨⟨v, rfl, ho⟩, hb⟩)
  go_ret
  exact ⟨⟨v, rfl, ho⟩, hb⟩

def ab : ByteArray := ⟨#[97, 32, 98]⟩
theorem ab_two : (pieces ab (run (wh ab) 1 ab.size none [])).length = 2 := by rw [pieces_length]; decide +kernel
theorem ab_ascii : ∀ k, k < ab.size → at' ab k < 128 := by
  intro k hk
  have hk3 : k < 3 := hk
  obtain rfl | rfl | rfl : k = 0 ∨ k = 1 ∨ k = 2 := by omega
  all_goals decide

set_option maxHeartbeats 400000 in
set_option maxRecDepth 100000 in
theorem walk (a0 : ByteArray) (a1 : Int) (w0 : a0.size ≤ maxLen) (w1 : (Lit.int .u8 a1).wf = true) (w : World) (hT : Tabs w) :
    Calls Tryd.prog 5 #[.string a0, .int .u8 a1] w fun e w' => e = .returned (.bool true) ∧ Below w.heap.size w w' := by
  by_cases hl : a0.size ≤ 2147483647
  · have hw : 0 ≤ a1 ∧ a1 ≤ 255 := (Lit.wf_int_iff .u8 a1).1 w1
    obtain ⟨m, rfl⟩ : ∃ m : Nat, a1 = m := ⟨a1.toNat, by omega⟩
    obtain ⟨D, hD⟩ : ∃ D, m % 12 = D := ⟨_, rfl⟩
    have hD2 : D < 12 := by omega
    have hm : (m : Int) % 12 = D := by omega
    have hW := Lib.hid fun w => Words_any a0 D (by omega) w hl
    obtain ⟨R, hR⟩ : ∃ R, pieces a0 (run (wh a0) D a0.size none []) = R := ⟨_, rfl⟩
    have hRl : R.length ≤ 12 := by
      rw [← hR, pieces_length]
      have := run_length (wh a0) D a0.size none [] (Nat.zero_le _)
      omega
    have hZ := Lib.hid fun w h1 h2 h3 => zz_any a0 D (by omega) w h1 h2 h3
    rw [hR] at hW hZ
    have hab := Lib.hid fun w h3 => zz_any ab 1 (by omega) w (by decide) ab_ascii h3
    have habl := ab_two
    obtain ⟨R2, hR2⟩ : ∃ R, pieces ab (run (wh ab) 1 ab.size none []) = R := ⟨_, rfl⟩
    rw [hR2] at hab habl
    clear hR hR2 hD w0 w1
    have habl' := Lib.hid habl
    clear habl
    go_enter Tryd.func5, Tryd.ntmps5
    go_wp2_with fail
    refine (hW.out _).mono ?_
    rintro e w1 ⟨⟨v, rfl, ho⟩, hb1⟩
    obtain ⟨A1, c1, rfl⟩ := ho.shape
    go_wp2_with fail
    refine (ascii_any a0 _ hl).mono ?_
    rintro e w2 ⟨he, rfl⟩
    rcases he with rfl | ⟨rfl, h4, h128⟩
    · go_wp2
      go_ret
      exact ⟨rfl, hb1⟩
    · have h128' := Lib.hid h128
      clear h128
      go_wp2_with fail
      refine (ends_any a0 _ hl).mono ?_
      rintro e w2 ⟨⟨b, rfl⟩, rfl⟩
      cases b
      · skip
        go_wp2_with fail
        refine (hZ.out _ h4 h128'.out (hT.later hb1)).mono ?_
        rintro e w3 ⟨⟨v3, rfl, ho3⟩, hb3⟩
        go_wp2_with fail
        refine (same_any R _ _ _ _ _ ho3 (ho.later hb3) (by omega)).mono ?_
        rintro e w4 ⟨rfl, hb4⟩
        have hb14 := hb1.trans ((hb3.trans (hb4.mono hb3.size)).mono hb1.size)
        go_wp2_with fail
        refine (hab.out _ (hT.later hb14)).mono ?_
        rintro e w5 ⟨⟨v5, rfl, ho5⟩, hb5⟩
        obtain ⟨A5, c5, rfl⟩ := ho5.shape
        rw [habl'.out]
        go_wp2
        go_ret
        exact ⟨rfl, hb14.trans (hb5.mono hb14.size)⟩
      · by_cases hlt : D < R.length
        · have hB : decide ((D : Int) < R.length) = true := by simp; omega
          go_wp2
          go_ret
          exact ⟨rfl, hb1⟩
        · have hB : decide ((D : Int) < R.length) = false := by simp; omega
          go_wp2_with fail
          refine (hZ.out _ h4 h128'.out (hT.later hb1)).mono ?_
          rintro e w3 ⟨⟨v3, rfl, ho3⟩, hb3⟩
          go_wp2_with fail
          refine (same_any R _ _ _ _ _ ho3 (ho.later hb3) (by omega)).mono ?_
          rintro e w4 ⟨rfl, hb4⟩
          have hb14 := hb1.trans ((hb3.trans (hb4.mono hb3.size)).mono hb1.size)
          go_wp2_with fail
          refine (hab.out _ (hT.later hb14)).mono ?_
          rintro e w5 ⟨⟨v5, rfl, ho5⟩, hb5⟩
          obtain ⟨A5, c5, rfl⟩ := ho5.shape
          rw [habl'.out]
          go_wp2
          go_ret
          exact ⟨rfl, hb14.trans (hb5.mono hb14.size)⟩
  · go_enter Tryd.func5, Tryd.ntmps5
    go_wp2
    go_ret
    exact ⟨rfl, Below.refl _ _⟩
end Go.Proofs.YtnenjlgpdejfaaaDoor.fnSplitSpaceBack
