/-
  The place behind a text: the walks of the package's code and of the reference's.
-/
import Derived.Test.YtnenjlgpdejfaaaDoorPlaceLaw
import Derived.LoopTactic
import Derived.Outline
import Derived.WalkSpells
import Derived.WalkLawsBesides
import Derived.Lib.Hide
import Derived.OpenShut
import Derived.Deep.RegionWith
import Derived.Deep.QuietTactic
import Derived.BigQuiet
namespace Go.Proofs.YtnenjlgpdejfaaaDoor.fnPlaceBehind
open Go.RowKit Go.WideShapes Go.Proofs.YtnenjlgpdejfaaaDoor.Utf
set_option linter.unusedVariables false

theorem extract_extract (s : ByteArray) (k n m : Nat) (hm : m = (s.extract k s.size).size) (hk : k ≤ s.size) : (s.extract k s.size).extract n m = s.extract (k + n) s.size := by
  subst hm
  have : ∀ a b : ByteArray, a.data.toList = b.data.toList → a = b := fun a b h => by
    cases a with | mk a => cases b with | mk b => simp at h; simp [h]
  apply this
  rw [Lib.extract_data, Lib.extract_data, Lib.extract_data, List.drop_take, List.drop_drop, List.take_take]
  congr 1
  simp; omega

theorem behind_any (s : ByteArray) (line col : Int) (w : World) (hs : s.size ≤ 2000) (hT : Tabs w) (h1 : 1 ≤ line) (h2 : line ≤ 16777216) (h3 : 1 ≤ col) (h4 : col ≤ 16777216) :
    Calls Tryd.prog 20 #[.int .i32 line, .int .i32 col, .string s] w fun e w' => e = .returned (.tuple #[.int .i32 (behind s s.size 0 line col).1, .int .i32 (behind s s.size 0 line col).2]) ∧ Below w.heap.size w w' := by
  obtain ⟨R, hR⟩ : ∃ R, behind s s.size 0 line col = R := ⟨_, rfl⟩
  rw [hR]
  have hR' := Lib.hid hR
  clear hR
  have hs0 : s.extract 0 s.size = s := by simp
  go_enter Tryd.func20, Tryd.ntmps20
  go_wp2
  go_loopw [0, 1, 2] (fun l c v wr => ∃ (k f : Nat) (x y : Int), k ≤ s.size ∧ v = .string (s.extract k s.size) ∧ l = .int .i32 x ∧ c = .int .i32 y ∧ Hid (behind s f k x y = R) ∧ s.size ≤ k + f ∧ 1 ≤ x ∧ x ≤ 16777216 + k ∧ 1 ≤ y ∧ y ≤ 16777216 + k ∧ Below w.heap.size w wr)
    (fun _ _ v _ => match v with | .string t => t.size | _ => 0)
  case atStart => exact ⟨0, s.size, line, col, Nat.zero_le _, by rw [hs0], rfl, rfl, hR', by omega, h1, by omega, h3, by omega, Below.refl _ _⟩
  case round =>
    obtain ⟨k, f, x, y, hk, rfl, rfl, rfl, hf', hkf, b1, b2, b3, b4, hb⟩ := hrel
    by_cases hlt : k < s.size
    · have hTr := Lib.hid (hT.below hb hT.lt.1 hT.lt.2)
      have w1 := width_pos s k
      have w2 := width_le s k hlt
      have r1 := rune_le s k
      have hsz := hb.size
      go_wp2_with (go_at_call 24; refine (decode_any s k hlt _ hTr.out).mono ?_; rintro e w' ⟨rfl, hb'⟩)
      · have hc : ((rune s k : Int) == 10) = true := by assumption
        have hc' : rune s k = 10 := by simp at hc; omega
        go_roundw
        case rel =>
          cases f with
          | zero => omega
          | succ f =>
            have hf := hf'.out
            rw [behind, if_pos hlt, if_pos hc'] at hf
            exact ⟨k + width s k, f, x + 1, 1, by omega, congrArg Value.string (extract_extract s k _ _ (by simp) hk), rfl, rfl, hf, by omega, by omega, by omega, by omega, by omega, hb.trans (hb'.mono hsz)⟩
        case measure => simp; omega
      · have hc : ((rune s k : Int) == 10) = false := by assumption
        have hc' : ¬ rune s k = 10 := by simp at hc; omega
        go_roundw
        case rel =>
          cases f with
          | zero => omega
          | succ f =>
            have hf := hf'.out
            rw [behind, if_pos hlt, if_neg hc'] at hf
            exact ⟨k + width s k, f, x, y + 1, by omega, congrArg Value.string (extract_extract s k _ _ (by simp) hk), rfl, rfl, hf, by omega, by omega, by omega, by omega, by omega, hb.trans (hb'.mono hsz)⟩
        case measure => simp; omega
    · have hz : (s.extract k s.size).size = 0 := by simp; omega
      go_wp2
      go_ret2
      have hf := hf'.out
      rw [behind_end s f k x y hlt] at hf
      exact ⟨by rw [← hf]; rfl, hb⟩

theorem get_one (s : ByteArray) (k : Nat) (hk : k < s.size) : (s.extract k (k + 1)).toList = [s.get! k] := by
  rw [Lib.toList_data, Lib.extract_data, show k + 1 - k = 1 by omega, List.take_one]
  have h2 : k < s.data.toList.length := by simpa using hk
  rw [List.head?_drop, List.getElem?_eq_getElem h2]
  have : s.get! k = s.data.toList[k] := by
    have := Lib.getD_get!' s k
    rw [← this, List.getD_eq_getElem?_getD, List.getElem?_eq_getElem h2]
    rfl
  rw [this]; rfl
theorem byte_yes {s : ByteArray} {k : Nat} (hk : k < s.size) (h : ((s.extract k (k + 1)).toList == [10]) = true) : at' s k = 10 := by
  rw [get_one s k hk] at h
  simp at h
  unfold at'; rw [h]; rfl
theorem byte_no {s : ByteArray} {k : Nat} (hk : k < s.size) (h : ((s.extract k (k + 1)).toList == [10]) = false) : ¬ at' s k = 10 := by
  rw [get_one s k hk] at h
  simp at h
  intro e
  exact h (UInt8.toNat_inj.1 e)

/-- the count of lines' ends -/
theorem count_any (s : ByteArray) (w : World) (hs : s.size ≤ 2000) :
    Calls Tryd.prog 53 #[.string s, .string ⟨#[10]⟩] w fun e w' => e = .returned (.int .i64 (nls s s.size 0)) ∧ w = w' := by
  go_enter Tryd.func53, Tryd.ntmps53
  go_wp2
  go_loop [5, 6] (fun c i => ∃ (k : Nat), k ≤ s.size ∧ i = .int .i64 k ∧ c = .int .i64 (nls s k 0)) (fun _ i => s.size - (intOf i).toNat)
  case atStart => exact ⟨0, Nat.zero_le _, rfl, rfl⟩
  case round =>
    obtain ⟨k, hk, rfl, rfl⟩ := hrel
    have hn := nls_le s k 0
    by_cases hlt : k < s.size
    · go_wp2
      · have hc := byte_yes hlt (by assumption)
        go_round
        case rel => exact ⟨k + 1, by omega, by go_num, by rw [nls_add s k 1 0]; simp [nls, hc]⟩
        case measure => simp [intOf]; omega
      · have hc := byte_no hlt (by assumption)
        go_round
        case rel => exact ⟨k + 1, by omega, by go_num, by rw [nls_add s k 1 0]; simp [nls, hc]⟩
        case measure => simp [intOf]; omega
    · go_wp2
      go_ret
      have : k = s.size := by omega
      subst this
      exact ⟨rfl, rfl⟩

theorem runes_any (s : ByteArray) (w : World) (hs : s.size ≤ 2000) :
    Calls Tryd.prog 55 #[.string s] w fun e w' => e = .returned (.int .i64 (Lib.runeCount s)) ∧ ∃ o, w' = w.alloc o := by
  refine (Tryd.utf8_RuneCountInString s w (by omega)).mono ?_
  rintro e w' ⟨rfl, pos, rfl⟩
  exact ⟨rfl, _, rfl⟩

theorem add_any (p : Option Addr) (line col : Int) (s : ByteArray) (w : World) (hs : s.size ≤ 2000) (h1 : 1 ≤ line) (h2 : line ≤ 16777216) (h3 : 1 ≤ col) (h4 : col ≤ 16777216) :
    Calls Tryd.prog 44 #[.agg #[.pointer p, .int .i32 line, .int .i32 col], .string s] w fun e w' =>
      e = .returned (.agg #[.pointer p, .int .i32 (behind s s.size 0 line col).1, .int .i32 (behind s s.size 0 line col).2]) ∧ ∃ o1 o2 o3, w' = (((w.alloc o1).alloc o2).alloc o3).drew := by
  have hb := behind_eq s s.size 0 line col (Nat.zero_le _) (by omega)
  rw [hb]
  have hn := nls_le s s.size 0
  simp only [Nat.sub_zero]
  by_cases hz : nls s s.size 0 = 0
  · rw [if_pos hz]
    go_enter Tryd.func44, Tryd.ntmps44
    go_wp2_with (go_at_call 53; refine (count_any s _ hs).mono ?_; rintro e w' ⟨rfl, rfl⟩)
    have hrc := Lib.runeCount_le s
    have e1 : IntKind.i32.wrap (Lib.runeCount s : Int) = Lib.runeCount s := IntWalk.i32_in _ (by omega)
    have e2 : IntKind.i32.wrap (col + (Lib.runeCount s : Int)) = col + Lib.runeCount s := IntWalk.i32_in _ (by omega)
    go_region_with (go_at_call 55; refine (runes_any s _ (by omega)).mono ?_; rintro e w' ⟨rfl, o, rfl⟩)
    all_goals go_wp2
    all_goals
      refine bodyPost_ret (v := .agg #[.pointer p, .int .i32 line, .int .i32 (col + Lib.runeCount s)]) (by simp [results, Tryd.results44, go_sem]) rfl ⟨rfl, _, _, _, rfl⟩
  · rw [if_neg hz]
    obtain ⟨L, hL, hLl⟩ : ∃ L : Nat, Lib.lastIndexByte s 10 = L ∧ L < s.size := by
      rcases Lib.lastIdx_spec s 10 s.size with ⟨h5, h6⟩ | ⟨i0, h5, h6, h7, h8⟩
      · exact absurd (nls_zero s s.size 0 fun j _ hj => fun e => h6 j (by omega) ((get_data s j).2 e)) hz
      · exact ⟨i0, h6, h5⟩
    have hlast : lastNl s = L + 1 := by unfold lastNl; rw [hL]; omega
    have hcount : Lib.runeCount (s.extract (L + 1) s.size) = Lib.runeCountFrom s s.size (L + 1) := by
      unfold Lib.runeCount
      rw [Lib.tail_count, Lib.tail_size, Nat.add_zero]
      exact Lib.fuel_enough s _ _ _ (by omega) (by omega)
    rw [hlast]
    obtain ⟨C, hC⟩ : ∃ C, Lib.runeCountFrom s s.size (L + 1) = C := ⟨_, rfl⟩
    have hCle : C ≤ s.size := by rw [← hC]; exact Lib.runeCountFrom_le s _ _
    rw [hC] at hcount ⊢
    clear hC hlast hb
    have hcount' := Lib.hid hcount
    clear hcount
    obtain ⟨M, hM⟩ : ∃ M, nls s s.size 0 = M := ⟨_, rfl⟩
    have hcnt := count_any s
    rw [hM] at hcnt hn hz ⊢
    clear hM
    have hcnt' := Lib.hid hcnt
    clear hcnt
    have e0 : IntKind.i32.wrap (M : Int) = M := IntWalk.i32_in _ (by omega)
    have e3 : IntKind.i32.wrap (line + (M : Int)) = line + M := IntWalk.i32_in _ (by omega)
    have e1 : IntKind.i32.wrap (C : Int) = C := IntWalk.i32_in _ (by omega)
    have e2 : IntKind.i32.wrap (1 + (C : Int)) = 1 + C := IntWalk.i32_in _ (by omega)
    have hlc : ∀ w, Calls Tryd.prog 54 #[.string s, .string ⟨#[10]⟩] w fun e w' => e = .returned (.int .i64 L) ∧ w' = w := fun w => by
      have := Tryd.strings_LastIndex_one s ⟨#[10]⟩ rfl (by omega) w
      rw [show (((⟨#[10]⟩ : ByteArray)[0]'(by decide)).toNat : Int) = 10 from rfl, hL] at this
      exact this
    have hlc' := Lib.hid hlc
    clear hlc hL
    have hrc : ∀ w, Calls Tryd.prog 55 #[.string (s.extract (L + 1) s.size)] w fun e w' => e = .returned (.int .i64 C) ∧ ∃ o, w' = w.alloc o := fun w => by
      rw [← hcount'.out]; exact runes_any _ w (by rw [Lib.tail_size]; omega)
    have hrc' := Lib.hid hrc
    clear hrc
    go_enter Tryd.func44, Tryd.ntmps44
    go_wp2_with (first | (go_at_call 53; refine (hcnt'.out _ hs).mono ?_; rintro e w' ⟨rfl, rfl⟩) | (go_at_call 54; refine (hlc'.out _).mono ?_; rintro e w' ⟨rfl, rfl⟩))
    go_region_with (go_at_call 55; refine (hrc'.out _).mono ?_; rintro e w' ⟨rfl, o, rfl⟩)
    all_goals go_wp2
    all_goals
      refine bodyPost_ret (v := .agg #[.pointer p, .int .i32 (line + M), .int .i32 (1 + C)]) (by simp [results, Tryd.results44, go_sem]) rfl ⟨rfl, _, _, _, rfl⟩

theorem mk_any (p : Option Addr) (line col : Int) (w : World) :
    Calls Tryd.prog 31 #[.pointer p, .int .i32 line, .int .i32 col] w fun e w' => e = .returned (.agg #[.pointer p, .int .i32 line, .int .i32 col]) ∧ ∃ o, w' = w.alloc o := by
  go_enter Tryd.func31, Tryd.ntmps31
  go_wp2
  exact bodyPost_ret (v := .agg #[.pointer p, .int .i32 line, .int .i32 col]) (by simp [results, Tryd.results31, go_sem]) rfl ⟨rfl, _, rfl⟩

theorem zzadd_any (p : Option Addr) (line col : Int) (s : ByteArray) (w : World) (hs : s.size ≤ 2000) (h1 : 1 ≤ line) (h2 : line ≤ 16777216) (h3 : 1 ≤ col) (h4 : col ≤ 16777216) (L C : Int) (hL : (behind s s.size 0 line col).1 = L) (hC : (behind s s.size 0 line col).2 = C) :
    Calls Tryd.prog 30 #[.agg #[.pointer p, .int .i32 line, .int .i32 col], .string s] w fun e w' => e = .returned (.agg #[.pointer p, .int .i32 L, .int .i32 C]) ∧ ∃ o1 o2 o3 o4 o5, w' = (((((w.alloc o1).alloc o2).alloc o3).alloc o4).alloc o5).drew := by
  have ha := add_any p line col s
  rw [hL, hC] at ha
  have ha' := Lib.hid ha
  clear ha hL hC
  go_enter Tryd.func30, Tryd.ntmps30
  go_wp2_with (go_at_call 44; refine (ha'.out _ hs h1 h2 h3 h4).mono ?_; rintro e w1 ⟨rfl, o1, o2, o3, rfl⟩)
  exact bodyPost_ret (v := .agg #[.pointer p, .int .i32 L, .int .i32 C]) (by simp [results, Tryd.results30, go_sem]) rfl ⟨rfl, _, _, _, _, _, rfl⟩

theorem iplace_any (line col : Int) (s : ByteArray) (w : World) (hs : s.size ≤ 2000) (h1 : 1 ≤ line) (h2 : line ≤ 16777216) (h3 : 1 ≤ col) (h4 : col ≤ 16777216) :
    Calls Tryd.prog 19 #[.int .i32 line, .int .i32 col, .string s] w fun e w' => e = .returned (.tuple #[.int .i32 (behind s s.size 0 line col).1, .int .i32 (behind s s.size 0 line col).2]) ∧ Below w.heap.size w w' := by
  obtain ⟨L, hL⟩ : ∃ L, (behind s s.size 0 line col).1 = L := ⟨_, rfl⟩
  obtain ⟨C, hC⟩ : ∃ C, (behind s s.size 0 line col).2 = C := ⟨_, rfl⟩
  have hz : ∀ p w, _ := fun p w => zzadd_any p line col s w hs h1 h2 h3 h4 L C hL hC
  rw [hL, hC]
  have hz' := Lib.hid hz
  clear hz hL hC
  go_enter Tryd.func19, Tryd.ntmps19
  go_wp2_with (first | (go_at_call 31; refine (mk_any _ _ _ _).mono ?_; rintro e w1 ⟨rfl, o, rfl⟩) | (go_at_call 30; refine (hz'.out _ _).mono ?_; rintro e w1 ⟨rfl, o1, o2, o3, o4, o5, rfl⟩))
  go_quiet (fail)
  go_wp2
  go_ret2
  exact ⟨rfl, below_drewN (by repeat (first | exact Below.refl _ _ | apply Below.drew | (refine Below.alloc ?_ (by first | (simp; done) | (simp; omega)) _))) _⟩

theorem mask_any (x : Int) : 0 ≤ bits BinOp.and .i32 x 16777215 ∧ bits BinOp.and .i32 x 16777215 ≤ 16777215 := by
  unfold bits
  simp only []
  have h : (BitVec.ofInt IntKind.i32.bits x &&& BitVec.ofInt IntKind.i32.bits 16777215).toNat ≤ 16777215 := by
    rw [BitVec.toNat_and]
    exact Nat.le_trans Nat.and_le_right (by decide)
  rw [IntKind.wrap_i32]
  omega

theorem walk (a0 : Int) (a1 : Int) (a2 : ByteArray) (w0 : (Lit.int .i32 a0).wf = true) (w1 : (Lit.int .i32 a1).wf = true) (w2 : a2.size ≤ maxLen) (w : World) (hT : Tabs w) :
    Calls Tryd.prog 6 #[.int .i32 a0, .int .i32 a1, .string a2] w fun e w' => e = .returned (.bool true) ∧ Below w.heap.size w w' := by
  clear w0 w1
  by_cases hl : a2.size ≤ 2147483647
  · obtain ⟨m0, m1⟩ := mask_any a0
    obtain ⟨m2, m3⟩ := mask_any a1
    by_cases h4 : a2.size ≤ 2000
    all_goals
      go_enter Tryd.func6, Tryd.ntmps6
      go_wp2_with fail
      refine (iplace_any _ _ _ _ (by first | exact h4 | simp; omega) (by omega) (by omega) (by omega) (by omega)).mono ?_
      rintro e w1 ⟨rfl, hb1⟩
      go_wp2_with fail
      refine (behind_any _ _ _ _ (by first | exact h4 | simp; omega) (hT.later hb1) (by omega) (by omega) (by omega) (by omega)).mono ?_
      rintro e w3 ⟨rfl, hb2⟩
      go_wp2
      go_ret
      exact ⟨rfl, hb1.trans (hb2.mono hb1.size)⟩
  · go_enter Tryd.func6, Tryd.ntmps6
    go_wp2
    go_ret
    exact ⟨rfl, Below.refl _ _⟩
end Go.Proofs.YtnenjlgpdejfaaaDoor.fnPlaceBehind
