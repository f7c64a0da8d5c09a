/-
  A text cut between its words from the end on: the walks of the package's code and of the reference's.
-/
import Derived.Test.YtnenjlgpdejfaaaDoorSplitLaw
import Derived.Test.YtnenjlgpdejfaaaDoorStrs
import Derived.Test.YtnenjlgpdejfaaaDoorUtf
import Derived.LoopTactic
import Derived.Outline
import Derived.WalkSpells
import Derived.WalkLawsBesides
import Derived.Lib.Hide
import Derived.OpenShut
import Derived.Deep.QuietTactic
import Derived.BigQuiet
import Derived.BigRegion
import Derived.Deep.CutBlock
import Derived.Deep.AppendLies
import Derived.Deep.DeepCutAuto
import Derived.Lib.SpaceU
namespace Go.Proofs.YtnenjlgpdejfaaaDoor.Split
open Go.RowKit Go.WideShapes Go.Proofs.YtnenjlgpdejfaaaDoor.Utf Go.Proofs.YtnenjlgpdejfaaaDoor.Strs
set_option linter.unusedVariables false

theorem blank_true {c : Nat} (h : blank c = true) : c = 32 ∨ (9 ≤ c ∧ c ≤ 13) := by simpa [blank] using h
theorem blank_false {c : Nat} (h : blank c = false) : c ≠ 32 ∧ (c < 9 ∨ 13 < c) := by
  unfold blank at h; simp at h; omega
set_option maxRecDepth 100000 in
theorem space_yes (c : Nat) (h : c < 128) (hb : blank c = true) (w : World) :
    Calls Tryd.prog 52 #[.int .i32 c] w fun e w' => e = .returned (.bool true) ∧ w = w' := by
  rcases blank_true hb with rfl | ⟨h1, h2⟩
  · go_enter Tryd.func52, Tryd.ntmps52
    go_wp2
    go_ret
    exact ⟨rfl, rfl⟩
  · have h3 : ((c : Int) == 32) = false := by simp; omega
    have h4 : decide ((c : Int) ≤ 13) = true := by simp; omega
    have h5 : decide (9 ≤ (c : Int)) = true := by simp; omega
    go_enter Tryd.func52, Tryd.ntmps52
    go_wp2
    go_ret
    exact ⟨rfl, rfl⟩
set_option maxRecDepth 100000 in
theorem space_no (c : Nat) (h : c < 128) (hb : blank c = false) (w : World) :
    Calls Tryd.prog 52 #[.int .i32 c] w fun e w' => e = .returned (.bool false) ∧ w = w' := by
  obtain ⟨h0, h1⟩ := blank_false hb
  have h3 : ((c : Int) == 32) = false := by simp; omega
  rcases h1 with h1 | h1
  · have h5 : decide (9 ≤ (c : Int)) = false := by simp; omega
    go_enter Tryd.func52, Tryd.ntmps52
    go_wp2
    go_ret
    exact ⟨rfl, rfl⟩
  · have h4 : decide ((c : Int) ≤ 13) = false := by simp; omega
    have h5 : decide (9 ≤ (c : Int)) = true := by simp; omega
    go_enter Tryd.func52, Tryd.ntmps52
    go_wp2
    go_ret
    exact ⟨rfl, rfl⟩
set_option maxRecDepth 100000 in
theorem blank_yes (c : Nat) (h : c < 256) (hb : blank c = true) (w : World) :
    Calls Tryd.prog 42 #[.int .u8 c] w fun e w' => e = .returned (.bool true) ∧ w = w' := by
  rcases blank_true hb with rfl | ⟨h1, h2⟩
  · go_enter Tryd.func42, Tryd.ntmps42
    go_wp2
    go_ret
    exact ⟨rfl, rfl⟩
  · have h3 : ((c : Int) == 32) = false := by simp; omega
    have h4 : decide ((c : Int) ≤ 13) = true := by simp; omega
    have h5 : decide (9 ≤ (c : Int)) = true := by simp; omega
    go_enter Tryd.func42, Tryd.ntmps42
    go_wp2
    go_ret
    exact ⟨rfl, rfl⟩
set_option maxRecDepth 100000 in
theorem blank_no (c : Nat) (h : c < 256) (hb : blank c = false) (w : World) :
    Calls Tryd.prog 42 #[.int .u8 c] w fun e w' => e = .returned (.bool false) ∧ w = w' := by
  obtain ⟨h0, h1⟩ := blank_false hb
  have h3 : ((c : Int) == 32) = false := by simp; omega
  rcases h1 with h1 | h1
  · have h5 : decide (9 ≤ (c : Int)) = false := by simp; omega
    go_enter Tryd.func42, Tryd.ntmps42
    go_wp2
    go_ret
    exact ⟨rfl, rfl⟩
  · have h4 : decide ((c : Int) ≤ 13) = false := by simp; omega
    have h5 : decide (9 ≤ (c : Int)) = true := by simp; omega
    go_enter Tryd.func42, Tryd.ntmps42
    go_wp2
    go_ret
    exact ⟨rfl, rfl⟩

theorem at_get (s : ByteArray) (k : Nat) (h : k < s.size) : at' s k = (s[k]).toNat := by
  unfold at'
  have : s.get! k = s[k] := by
    cases s with
    | mk d => show d[k]! = d[k]; exact getElem!_pos d k h
  rw [this]
/-- the decoder at the end of an ASCII text -/
theorem last_any (s : ByteArray) (k : Nat) (hk : k < s.size) (h : at' s k < 128) (w : World) (hT : Tabs w) (hs : s.size ≤ 9223372036854775807) :
    Calls Tryd.prog 51 #[.string (s.extract 0 (k + 1))] w fun e w' => e = .returned (.tuple #[.int .i32 (at' s k), .int .i64 1]) ∧ Below w.heap.size w w' := by
  have hl : (s.extract 0 (k + 1)).data.toList = s.data.toList.take (k + 1) := by
    rw [Lib.extract_data]; simp
  have hd : Lib.decodeLastL (s.extract 0 (k + 1)).data.toList = (at' s k, 1) := by
    rw [hl]
    have hlen : (s.data.toList.take (k + 1)).length = k + 1 := by simp; omega
    have hne : s.data.toList.take (k + 1) ≠ [] := by intro h0; rw [h0] at hlen; simp at hlen
    have hg : ((s.data.toList.take (k + 1)).getD ((s.data.toList.take (k + 1)).length - 1) 0).toNat = at' s k := by
      rw [hlen, Nat.add_sub_cancel, List.getD_eq_getElem?_getD, List.getElem?_take, if_pos (by omega), at_get s k hk, List.getElem?_eq_getElem (by simpa using hk)]
      rfl
    unfold Lib.decodeLastL
    rw [if_neg hne, hg, if_pos h]
  have := Tryd.utf8_DecodeLastRuneInString (s.extract 0 (k + 1)) w (by simp; omega) hT
  rw [hd] at this
  exact this

/-- the texts of pieces -/
def pieces (s : ByteArray) (l : List (Nat × Nat)) : List ByteArray := l.map fun q => s.extract q.1 q.2
theorem pieces_length (s : ByteArray) (l : List (Nat × Nat)) : (pieces s l).length = l.length := by simp [pieces]
def oe : Option Nat → Int
  | none => -1
  | some e => e

/-- the relation of the package's first loop -/
def RelR (s : ByteArray) (most : Nat) (w : World) (R : List (Nat × Nat)) (v : Value) (k : Nat) (o : Option Nat) (wr : World) : Prop :=
  ∃ acc : List (Nat × Nat), run (wh s) most k o acc = R ∧ k ≤ s.size ∧ OwnS wr w.heap.size v (pieces s acc.reverse) ∧ acc.length ≤ most ∧ (∀ e, o = some e → k < e ∧ e ≤ s.size) ∧ Below w.heap.size w wr

theorem sw_cells (L : List ByteArray) (j : Nat) (hj : j < L.length / 2) : (sw (ss L) j)[j]? = some (.string (L.getD j ⟨#[]⟩)) ∧ (sw (ss L) j)[L.length - 1 - j]? = some (.string (L.getD (L.length - 1 - j) ⟨#[]⟩)) ∧
    (ss L).getD j undef = .string (L.getD j ⟨#[]⟩) ∧ (ss L).getD (L.length - 1 - j) undef = .string (L.getD (L.length - 1 - j) ⟨#[]⟩) := by
  have hl := ss_length L
  have h1 : ∀ k, k < L.length → (ss L).getD k undef = .string (L.getD k ⟨#[]⟩) := fun k hk => by
    simp [ss, List.getD_eq_getElem?_getD, List.getElem?_eq_getElem hk]
  refine ⟨?_, ?_, h1 _ (by omega), h1 _ (by omega)⟩
  · rw [sw_get _ _ _ (by omega), if_neg (by omega), h1 _ (by omega)]
  · rw [sw_get _ _ _ (by omega), if_neg (by omega), h1 _ (by omega)]

theorem owns_rev {w : World} {B : Nat} {v : Value} {L M : List ByteArray} (hM : M = L.reverse) (h : w.ownsRow B 9 1 v L.length (ss L).reverse) : OwnS w B v M := by
  subst hM
  unfold OwnS
  rw [List.length_reverse]
  simpa [ss] using h

set_option maxHeartbeats 1000000 in
set_option maxRecDepth 100000 in
theorem rs_any (s : ByteArray) (most : Nat) (hm : most ≤ 100) (w : World) (hs : s.size ≤ 400) (hA : ∀ k, k < s.size → at' s k < 128) (hT : Tabs w) :
    Calls Tryd.prog 43 #[.string s, .int .i64 most] w fun e w' => (∃ v, e = .returned v ∧ OwnS w' w.heap.size v (pieces s (run (wh s) most s.size none []))) ∧ Below w.heap.size w w' := by
  obtain ⟨R, hR⟩ : ∃ R, run (wh s) most s.size none [] = R := ⟨_, rfl⟩
  rw [hR]
  have hR' := Lib.hid hR
  have hA' := Lib.hid hA
  clear hR hA
  obtain ⟨i0, hi, hz0, hz1, hz2⟩ := info_parts info_str
  go_enter Tryd.func43, Tryd.ntmps43
  go_upto_block 0 with (at_make; refine wpList_make_own _ rfl _ _ 25 rfl w.heap.size 9 i0 (.string ⟨#[]⟩) 1 Tryd.underlying25 hi hz0 hz1 .i64 .i64 _ (most + 1) rfl rfl (by omega) (by rw [hz2]; omega) (by unfold maxLen; omega) (Nat.le_refl _) ?_; intro w2 hown2 hg2)
  have hb2 : Below w.heap.size w w2 := (Below.refl _ _).grown hg2 (Nat.le_refl _) (fun k hk => by simp at hk)
  clear hg2
  go_cut [5, 6] (fun v e wr => ∃ (o : Option Nat) (acc : List (Nat × Nat)), e = .int .i64 (oe o) ∧ OwnS wr w.heap.size v (pieces s acc.reverse) ∧ (o = none → acc = R) ∧ (∀ x, o = some x → (0, x) :: acc = R ∧ x ≤ s.size) ∧ acc.length ≤ most ∧ Below w.heap.size w wr)
  case first =>
    go_wp2_with fail
    go_loopw [5, 6, 7] (fun v e i wr => ∃ (k : Nat) (o : Option Nat), i = .int .i64 k ∧ e = .int .i64 (oe o) ∧ RelR s most w R v k o wr) (fun _ _ i _ => (intOf i).toNat)
    case atStart => exact ⟨s.size, none, rfl, rfl, [], hR'.out, Nat.le_refl _, hown2, Nat.zero_le _, fun e he => by (cases he), hb2⟩
    case round =>
      obtain ⟨k, o, rfl, rfl, acc, hrun, hk, hown, hacc, ho, hb⟩ := hrel
      have hrun' := Lib.hid hrun
      have ho' := Lib.hid ho
      clear hrun ho hR' hown2 hb2
      have hol : (pieces s acc.reverse).length = acc.length := by rw [pieces_length, List.length_reverse]
      obtain ⟨A, cap, rfl⟩ := hown.shape
      rw [hol] at hown ⊢
      obtain ⟨n, hn⟩ : ∃ n, acc.length = n := ⟨_, rfl⟩
      rw [hn] at hown hacc ⊢
      have hn' := Lib.hid hn
      have hol' := Lib.hid hol
      clear hol hn
      cases k with
      | succ k =>
        have h128 := hA'.out k (by omega)
        have hTr := Lib.hid (hT.later hb)
        have hsz := hb.size
        obtain ⟨c, hc⟩ : ∃ c, at' s k = c := ⟨_, rfl⟩
        have hdec := last_any s k (by omega) (by omega)
        rw [hc] at hdec h128
        have hdec' := Lib.hid hdec
        have hws : wh s k = blank c := by unfold wh; rw [hc]
        clear hdec hc
        by_cases hw : blank c = true
        · have hws' := Lib.hid (hws.trans hw)
          have hw' := Lib.hid hw
          clear hws hw
          cases o with
          | none =>
            have hoe : oe none = -1 := rfl
            go_wp2_with (first | (go_at_call 51; refine (hdec'.out _ hTr.out (by omega)).mono ?_; rintro e3 w3 ⟨rfl, hb3⟩) | (go_at_call 52; refine (space_yes c h128 hw'.out _).mono ?_; rintro e4 w4 ⟨rfl, rfl⟩))
            go_roundw
            case rel => exact ⟨k, none, rfl, rfl, acc, run_skip hrun'.out hws'.out, by omega, hown.later hb3, by have := hn'.out; omega, fun e he => by (cases he), hb.trans (hb3.mono hsz)⟩
            case measure => simp [intOf]
          | some e =>
            have hoe : oe (some e) = (e : Int) := rfl
            obtain ⟨he1, he2⟩ := ho'.out e rfl
            by_cases hl : n = most
            · have hlb : ((n : Int) == (most : Int)) = true := by simp; omega
              have hl' := Lib.hid hl
              clear hl
              go_wp2_with (first | (go_at_call 51; refine (hdec'.out _ hTr.out (by omega)).mono ?_; rintro e3 w3 ⟨rfl, hb3⟩) | (go_at_call 52; refine (space_yes c h128 hw'.out _).mono ?_; rintro e4 w4 ⟨rfl, rfl⟩))
              go_meet
              refine ⟨some e, acc, rfl, hown.later hb3, fun h => by (cases h), fun x hx => ?_, by have := hn'.out; omega, hb.trans (hb3.mono hsz)⟩
              obtain rfl : e = x := Option.some.inj hx
              exact ⟨run_stop hrun'.out hws'.out (hn'.out.trans hl'.out), he2⟩
            · have hlb : ((n : Int) == (most : Int)) = false := by simp; omega
              have hl' := Lib.hid hl
              clear hl
              go_wp2_with (first | (go_at_call 51; refine (hdec'.out _ hTr.out (by omega)).mono ?_; rintro e3 w3 ⟨rfl, hb3⟩) | (go_at_call 52; refine (space_yes c h128 hw'.out _).mono ?_; rintro e4 w4 ⟨rfl, rfl⟩) | (at_builtin; refine wpList_str rfl _ _ rfl _ (pieces s acc.reverse) rfl (hown.later hb3) (hb.trans (hb3.mono hsz)) (Nat.le_refl _) _ rfl (by rw [hol'.out, hn'.out]; omega) ?_; intro v4 w5 hown5 hb5))
              go_roundw
              case rel => exact ⟨k, none, rfl, rfl, (k + 1, e) :: acc, run_cut hrun'.out hws'.out (fun h => hl'.out (hn'.out.symm.trans h)), by omega, hown5.eq (by simp [pieces]), by have := hn'.out; have := hl'.out; simp; omega, fun e he => by (cases he), hb5⟩
              case measure => simp [intOf]
        · have hwf : blank c = false := by simpa using hw
          have hws' := Lib.hid (hws.trans hwf)
          have hw' := Lib.hid hwf
          clear hws hw hwf
          cases o with
          | none =>
            have hoe : oe none = -1 := rfl
            go_wp2_with (first | (go_at_call 51; refine (hdec'.out _ hTr.out (by omega)).mono ?_; rintro e3 w3 ⟨rfl, hb3⟩) | (go_at_call 52; refine (space_no c h128 hw'.out _).mono ?_; rintro e4 w4 ⟨rfl, rfl⟩))
            go_roundw
            case rel => exact ⟨k, some (k + 1), rfl, by go_num, acc, run_open hrun'.out hws'.out, by omega, hown.later hb3, by have := hn'.out; omega, fun e he => by (obtain rfl := Option.some.inj he; omega), hb.trans (hb3.mono hsz)⟩
            case measure => simp [intOf]
          | some e =>
            have hoe : oe (some e) = (e : Int) := rfl
            obtain ⟨he1, he2⟩ := ho'.out e rfl
            go_wp2_with (first | (go_at_call 51; refine (hdec'.out _ hTr.out (by omega)).mono ?_; rintro e3 w3 ⟨rfl, hb3⟩) | (go_at_call 52; refine (space_no c h128 hw'.out _).mono ?_; rintro e4 w4 ⟨rfl, rfl⟩))
            go_roundw
            case rel => exact ⟨k, some e, rfl, rfl, acc, run_on hrun'.out hws'.out, by omega, hown.later hb3, by have := hn'.out; omega, fun x he => by (obtain rfl := Option.some.inj he; omega), hb.trans (hb3.mono hsz)⟩
            case measure => simp [intOf]
      | zero =>
        go_wp2
        go_meet
        refine ⟨o, acc, rfl, hown, fun h => ?_, fun x hx => ?_, by have := hn'.out; omega, hb⟩
        · have := hrun'.out
          rw [h] at this
          exact this
        · have := hrun'.out
          rw [hx] at this
          exact ⟨this, (ho'.out x hx).2⟩
  case rest =>
    clear hown2 hb2 hR'
    obtain ⟨o, acc, rfl, hown, hR1, hR2, hacc, hb⟩ := hcut
    obtain ⟨A, cap, rfl⟩ := hown.shape
    have hol : (pieces s acc.reverse).length = acc.length := by rw [pieces_length, List.length_reverse]
    have hol' := Lib.hid hol
    have hle : (pieces s acc.reverse).length ≤ most := by omega
    clear hol
    have hR1' := Lib.hid hR1
    have hR2' := Lib.hid hR2
    clear hR1 hR2
    cases o with
    | none =>
      have hoe : oe none = -1 := rfl
      have hR1 := hR1'.out rfl
      subst hR1
      clear hR1' hR2'
      have hown1 := hown
      have hle1 := hle
      obtain ⟨L, hL⟩ : ∃ L, pieces s acc.reverse = L := ⟨_, rfl⟩
      rw [hL]
      clear hoe
      have hoe : oe none = -1 := rfl
      go_wp2
      have hrev : pieces s acc = L.reverse := by rw [← hL]; simp [pieces]
      rw [hL] at hown1 hle1
      have hown0 : wc.ownsRow w.heap.size 9 1 (.slice A L.length cap) L.length (sw (ss L) 0) := by rw [sw_zero]; exact hown1
      have hrev' := Lib.hid hrev
      clear hL hrev hown1
      go_loopw [11] (fun i wr => ∃ j : Nat, i = .int .i64 j ∧ j ≤ L.length / 2 ∧ wr.ownsRow w.heap.size 9 1 (.slice A L.length cap) L.length (sw (ss L) j) ∧ Below w.heap.size w wr) (fun i _ => L.length - (intOf i).toNat)
      case atStart => exact ⟨0, rfl, Nat.zero_le _, hown0, hb⟩
      case round =>
        clear hown0 hb
        obtain ⟨j, rfl, hj, hownj, hbj⟩ := hrel
        by_cases hlt : j < L.length / 2
        · obtain ⟨g, cap2, hg, hgB, hglt⟩ := World.ownsRow.form hownj (by omega)
          simp only [Value.slice.injEq, true_and] at hg
          obtain ⟨rfl, rfl⟩ := hg
          obtain ⟨s1, s2, s3, s4⟩ := sw_cells L j hlt
          have hc1 := (World.ownsRow.cellAt hownj j (by omega)).trans s1
          have hc2 := (World.ownsRow.cellAt hownj (L.length - 1 - j) (by omega)).trans s2
          have hf1 := World.ownsRow.frozenAt hownj j
          have hf2 := World.ownsRow.frozenAt hownj (L.length - 1 - j)
          obtain ⟨t1, ht1⟩ : ∃ t, L.getD j ⟨#[]⟩ = t := ⟨_, rfl⟩
          obtain ⟨t2, ht2⟩ : ∃ t, L.getD (L.length - 1 - j) ⟨#[]⟩ = t := ⟨_, rfl⟩
          rw [ht1] at hc1 s3
          rw [ht2] at hc2 s4
          have hst := sw_step (ss L) j (by rw [ss_length]; exact hlt)
          rw [ss_length, s3, s4] at hst
          have hst' := Lib.hid hst
          clear s1 s2 s3 s4 ht1 ht2 hst
          have k1 : IntKind.i64.wrap ((L.length : Int) - 1) = L.length - 1 := IntWalk.i64_in _ (by omega)
          have k2 : IntKind.i64.wrap ((L.length : Int) - 1 - j) = L.length - 1 - j := IntWalk.i64_in _ (by omega)
          have k3 : ((L.length : Int) - 1 - j).toNat = L.length - 1 - j := by omega
          have k4 : (0 : Int) ≤ (L.length : Int) - 1 - j := by omega
          have k5 : (L.length : Int) - 1 - j < L.length := by omega
          have k6 : (0 : Int) ≤ (j : Int) := by omega
          have k7 : (j : Int) < L.length := by omega
          go_wp2
          go_region
          go_wp2
          go_roundw
          case rel =>
            refine ⟨j + 1, by go_num, by omega, ?_, ?_⟩
            · have o1 := World.ownsRow.stored hownj j (.string t2)
              have o2 := World.ownsRow.stored o1.1 (L.length - 1 - j) (.string t1)
              rw [hst'.out] at o2
              exact o2.1
            · exact ((hbj.setCell hgB _).setCell hgB _).drew
          case measure => simp [intOf]; omega
        · go_wp2
          go_ret
          exact ⟨⟨_, rfl, owns_rev hrev'.out (sw_end _ j (by rw [ss_length]; exact hlt) ▸ hownj)⟩, hbj⟩
    | some e =>
      have hoe : oe (some e) = (e : Int) := rfl
      obtain ⟨hR2, he⟩ := hR2'.out e rfl
      subst hR2
      clear hR1' hR2'
      go_wp2_with (at_builtin; refine wpList_str rfl _ _ rfl _ (pieces s acc.reverse) rfl hown hb (Nat.le_refl _) _ rfl (by omega) ?_; intro v4 w5 hown5 hb5; obtain ⟨L, hL⟩ : ∃ L, pieces s acc.reverse ++ [s.extract 0 e] = L := ⟨_, rfl⟩; rw [hL] at hown5; have hL' := Lib.hid hL; clear hL; obtain ⟨A1, cap1, rfl⟩ := hown5.shape)
      have hown1 := hown5
      have hle1 : (pieces s acc.reverse ++ [s.extract 0 e]).length ≤ most + 1 := by rw [List.length_append]; simp; omega
      have hL := hL'.out
      have hrev : pieces s ((0, e) :: acc) = L.reverse := by rw [← hL]; simp [pieces]
      rw [hL] at hle1
      have hown0 : w5.ownsRow w.heap.size 9 1 (.slice A1 L.length cap1) L.length (sw (ss L) 0) := by rw [sw_zero]; exact hown1
      have hrev' := Lib.hid hrev
      clear hL hrev hown1
      go_loopw [11] (fun i wr => ∃ j : Nat, i = .int .i64 j ∧ j ≤ L.length / 2 ∧ wr.ownsRow w.heap.size 9 1 (.slice A1 L.length cap1) L.length (sw (ss L) j) ∧ Below w.heap.size w wr) (fun i _ => L.length - (intOf i).toNat)
      case atStart => exact ⟨0, rfl, Nat.zero_le _, hown0, hb5⟩
      case round =>
        clear hown0 hb5
        obtain ⟨j, rfl, hj, hownj, hbj⟩ := hrel
        by_cases hlt : j < L.length / 2
        · obtain ⟨g, cap2, hg, hgB, hglt⟩ := World.ownsRow.form hownj (by omega)
          simp only [Value.slice.injEq, true_and] at hg
          obtain ⟨rfl, rfl⟩ := hg
          obtain ⟨s1, s2, s3, s4⟩ := sw_cells L j hlt
          have hc1 := (World.ownsRow.cellAt hownj j (by omega)).trans s1
          have hc2 := (World.ownsRow.cellAt hownj (L.length - 1 - j) (by omega)).trans s2
          have hf1 := World.ownsRow.frozenAt hownj j
          have hf2 := World.ownsRow.frozenAt hownj (L.length - 1 - j)
          obtain ⟨t1, ht1⟩ : ∃ t, L.getD j ⟨#[]⟩ = t := ⟨_, rfl⟩
          obtain ⟨t2, ht2⟩ : ∃ t, L.getD (L.length - 1 - j) ⟨#[]⟩ = t := ⟨_, rfl⟩
          rw [ht1] at hc1 s3
          rw [ht2] at hc2 s4
          have hst := sw_step (ss L) j (by rw [ss_length]; exact hlt)
          rw [ss_length, s3, s4] at hst
          have hst' := Lib.hid hst
          clear s1 s2 s3 s4 ht1 ht2 hst
          have k1 : IntKind.i64.wrap ((L.length : Int) - 1) = L.length - 1 := IntWalk.i64_in _ (by omega)
          have k2 : IntKind.i64.wrap ((L.length : Int) - 1 - j) = L.length - 1 - j := IntWalk.i64_in _ (by omega)
          have k3 : ((L.length : Int) - 1 - j).toNat = L.length - 1 - j := by omega
          have k4 : (0 : Int) ≤ (L.length : Int) - 1 - j := by omega
          have k5 : (L.length : Int) - 1 - j < L.length := by omega
          have k6 : (0 : Int) ≤ (j : Int) := by omega
          have k7 : (j : Int) < L.length := by omega
          go_wp2
          go_region
          go_wp2
          go_roundw
          case rel =>
            refine ⟨j + 1, by go_num, by omega, ?_, ?_⟩
            · have o1 := World.ownsRow.stored hownj j (.string t2)
              have o2 := World.ownsRow.stored o1.1 (L.length - 1 - j) (.string t1)
              rw [hst'.out] at o2
              exact o2.1
            · exact ((hbj.setCell hgB _).setCell hgB _).drew
          case measure => simp [intOf]; omega
        · go_wp2
          go_ret
          exact ⟨⟨_, rfl, owns_rev hrev'.out (sw_end _ j (by rw [ss_length]; exact hlt) ▸ hownj)⟩, hbj⟩
end Go.Proofs.YtnenjlgpdejfaaaDoor.Split
