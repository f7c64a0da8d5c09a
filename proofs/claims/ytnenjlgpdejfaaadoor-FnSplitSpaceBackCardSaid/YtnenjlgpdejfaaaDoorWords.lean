/-
  A text cut between its words from the end on: the walk of the reference's code.
-/
import Derived.Test.YtnenjlgpdejfaaaDoorSplit
import Derived.Test.YtnenjlgpdejfaaaDoorStrs
import Derived.Test.YtnenjlgpdejfaaaDoorUtf
import Derived.LoopTactic
import Derived.Outline
import Derived.WalkSpells
import Derived.WalkLawsBesides
import Derived.Lib.Hide
import Derived.OpenShut
import Derived.Deep.QuietTactic
import Derived.BigQuiet
import Derived.BigRegion
import Derived.Deep.CutBlock
import Derived.Deep.LoopGhost
import Derived.Deep.AppendLies
import Derived.Deep.DeepCutAuto
import Derived.Lib.SpaceU
namespace Go.Proofs.YtnenjlgpdejfaaaDoor.Split
open Go.RowKit Go.WideShapes Go.Proofs.YtnenjlgpdejfaaaDoor.Utf Go.Proofs.YtnenjlgpdejfaaaDoor.Strs
set_option linter.unusedVariables false


theorem extract_pre (s : ByteArray) (n k : Nat) (h : k ≤ n) : (s.extract 0 n).extract 0 k = s.extract 0 k := by
  have : ∀ a b : ByteArray, a.data.toList = b.data.toList → a = b := fun a b h => by
    cases a with | mk a => cases b with | mk b => simp at h; simp [h]
  apply this
  rw [Lib.extract_data, Lib.extract_data, Lib.extract_data]
  simp only [List.drop_zero, Nat.sub_zero]
  rw [List.take_take, Nat.min_eq_left h]
theorem extract_suf (s : ByteArray) (n k m : Nat) (hm : m = n) : (s.extract 0 n).extract k m = s.extract k n := by
  subst hm
  have : ∀ a b : ByteArray, a.data.toList = b.data.toList → a = b := fun a b h => by
    cases a with | mk a => cases b with | mk b => simp at h; simp [h]
  apply this
  rw [Lib.extract_data, Lib.extract_data, Lib.extract_data]
  rw [List.drop_zero, Nat.sub_zero, List.drop_take, List.take_take, Nat.min_self]
theorem extract_last (s : ByteArray) (k : Nat) (h : k < s.size) (h2 : k < (s.extract 0 (k + 1)).size) : ((s.extract 0 (k + 1))[k]'h2).toNat = at' s k := by
  rw [at_get s k h]
  simp only [ByteArray.getElem_extract, Nat.zero_add]

/-- the relation of the reference's outer loop -/
def RelW (s : ByteArray) (most : Nat) (w : World) (R : List (Nat × Nat)) (v : Value) (k : Nat) (wr : World) : Prop :=
  ∃ acc : List (Nat × Nat), run (wh s) most k none acc = R ∧ k ≤ s.size ∧ OwnS wr w.heap.size v (pieces s acc) ∧ acc.length ≤ most + 1 ∧ (0 < k → acc.length ≤ most) ∧ Below w.heap.size w wr

set_option maxHeartbeats 1000000 in
set_option maxRecDepth 100000 in
theorem words_any (s : ByteArray) (most : Nat) (hm : most ≤ 100) (w : World) (hs : s.size ≤ 2147483647) :
    Calls Tryd.prog 28 #[.string s, .bool true, .int .i64 most] w fun e w' => (∃ v, e = .returned v ∧ OwnS w' w.heap.size v (pieces s (run (wh s) most s.size none []))) ∧ Below w.heap.size w w' := by
  obtain ⟨R, hR⟩ : ∃ R, run (wh s) most s.size none [] = R := ⟨_, rfl⟩
  rw [hR]
  have hR' := Lib.hid hR
  clear hR
  have hs0 : s.extract 0 s.size = s := by simp
  go_enter Tryd.func28, Tryd.ntmps28
  go_wp2
  go_loopg [0, 7] s.size (fun k x v wr => x = .string (s.extract 0 k) ∧ RelW s most w R v k wr)
  case atStart => exact ⟨by rw [hs0], [], hR'.out, Nat.le_refl _, OwnS.nil _ _, Nat.zero_le _, fun _ => Nat.zero_le _, Below.refl _ _⟩
  case round =>
    obtain ⟨rfl, acc, hrun, hk, hown, hacc, hacc2, hb⟩ := hrel
    have hrun' := Lib.hid hrun
    have hacc2' := Lib.hid hacc2
    clear hrun hR' hacc2 hs0
    go_upto_block 2 with fail
    go_cut [0] (fun x wx => wr = wx ∧ ∃ k : Nat, x = .string (s.extract 0 k) ∧ run (wh s) most k none acc = R ∧ k ≤ gk ∧ (0 < k → wh s (k - 1) = false ∧ acc.length ≤ most))
    case first =>
      go_wp2_with fail
      go_loopg [0] gk (fun k x wx => wr = wx ∧ x = .string (s.extract 0 k) ∧ run (wh s) most k none acc = R ∧ k ≤ gk)
      case atStart => exact ⟨rfl, rfl, hrun'.out, Nat.le_refl _⟩
      case round =>
        obtain ⟨rfl, rfl, hr, hkk⟩ := hrel
        have hr' := Lib.hid hr
        clear hr
        cases gk with
        | zero =>
          have hz : (s.extract 0 0).size = 0 := by simp
          obtain ⟨X, hX⟩ : ∃ X, s.extract 0 0 = X := ⟨_, rfl⟩
          rw [hX] at hz ⊢
          have hX' := Lib.hid hX
          clear hX
          go_wp2
          go_meet
          exact ⟨rfl, 0, congrArg Value.string hX'.out.symm, hr'.out, hkk, fun h => by omega⟩
        | succ n =>
          obtain ⟨X, hX⟩ : ∃ X, s.extract 0 (n + 1) = X := ⟨_, rfl⟩
          have hXs : X.size = n + 1 := by rw [← hX]; simp; omega
          have hXn : n < X.size := by omega
          obtain ⟨c, hc⟩ : ∃ c, X[n] = c := ⟨_, rfl⟩
          have hct : c.toNat = at' s n := by
            subst hc hX; exact extract_last s n (by omega) hXn
          have hX' := Lib.hid hX
          rw [hX]
          have hws : wh s n = blank c.toNat := by unfold wh; rw [hct]
          have hcl := UInt8.toNat_lt c
          clear hX hct
          by_cases hw : blank c.toNat = true
          · have hws' := Lib.hid (hws.trans hw)
            have hw' := Lib.hid hw
            clear hws hw
            go_wp2_with (go_at_call 42; refine (blank_yes c.toNat hcl hw'.out _).mono ?_; rintro e4 w4 ⟨rfl, rfl⟩)
            go_roundg n
            case measure => omega
            case rel => exact ⟨rfl, congrArg Value.string (by rw [← hX'.out]; exact extract_pre s (n + 1) n (by omega)), run_skip hr'.out hws'.out, by omega⟩
          · have hwf : blank c.toNat = false := by simpa using hw
            have hws' := Lib.hid (hws.trans hwf)
            have hw' := Lib.hid hwf
            clear hws hw hwf
            go_wp2_with (go_at_call 42; refine (blank_no c.toNat hcl hw'.out _).mono ?_; rintro e4 w4 ⟨rfl, rfl⟩)
            go_meet
            exact ⟨rfl, n + 1, congrArg Value.string hX'.out.symm, hr'.out, hkk, fun _ => ⟨hws'.out, hacc2'.out (by omega)⟩⟩
    case rest =>
      obtain ⟨rfl, k, rfl, hr, hkk, hk0⟩ := hcut
      have hr' := Lib.hid hr
      have hk0' := Lib.hid hk0
      clear hr hk0 hrun'
      obtain ⟨A, cap, rfl⟩ := hown.shape
      cases k with
      | zero =>
        have hz : (s.extract 0 0).toList = [] := by simp
        obtain ⟨X, hX⟩ : ∃ X, s.extract 0 0 = X := ⟨_, rfl⟩
        rw [hX] at hz ⊢
        have hX' := Lib.hid hX
        clear hX
        go_wp2
        go_ret
        exact ⟨⟨_, rfl, hown.eq (congrArg (pieces s) hr'.out)⟩, hb⟩
      | succ n =>
        obtain ⟨X, hX⟩ : ∃ X, s.extract 0 (n + 1) = X := ⟨_, rfl⟩
        have hXs : X.size = n + 1 := by rw [← hX]; simp; omega
        have hXe : X.toList.isEmpty = false := by
          rw [Lib.toList_data]
          have : X.data.toList.length = n + 1 := by simpa using hXs
          cases h : X.data.toList with
          | nil => rw [h] at this; simp at this
          | cons a b => rfl
        have hX' := Lib.hid hX
        rw [hX]
        clear hX
        obtain ⟨N, hN⟩ : ∃ N, acc.length = N := ⟨_, rfl⟩
        have hpl : (pieces s acc).length = N := by rw [pieces_length, hN]
        obtain ⟨hwn, hNm⟩ := hk0'.out (by omega)
        rw [hN] at hacc hNm
        rw [hpl] at hown ⊢
        have hN' := Lib.hid hN
        have hpl' := Lib.hid hpl
        have hwn' := Lib.hid hwn
        clear hN hpl hwn hk0' hacc2'
        go_upto_block 4 with fail
        go_cut [8] (fun iv wx => wr = wx ∧ ∃ j : Nat, iv = .int .i64 j ∧ j ≤ n ∧ run (wh s) most j (some (n + 1)) acc = R ∧ (0 < j → N ≠ most ∧ wh s (j - 1) = true))
        case first =>
          go_wp2_with fail
          go_loopg [8] (n + 1) (fun j iv wx => wr = wx ∧ iv = .int .i64 (j : Nat) ∧ run (wh s) most j (some (n + 1)) acc = R ∧ j ≤ n + 1)
          case atStart => exact ⟨rfl, by go_num, run_open' hr'.out hwn'.out, Nat.le_refl _⟩
          case round =>
            obtain ⟨rfl, rfl, hj, hjn⟩ := hrel
            have hj' := Lib.hid hj
            clear hj
            cases gk with
            | zero =>
              go_wp2
              go_meet
              exact ⟨rfl, 0, rfl, Nat.zero_le _, hj'.out, fun h => by omega⟩
            | succ j =>
              have hXn : j < X.size := by omega
              by_cases hl : N = most
              · have hlb : ((N : Int) == (most : Int)) = true := by simp; omega
                have hl' := Lib.hid hl
                clear hl
                go_wp2
                go_roundg j
                case measure => omega
                case rel => exact ⟨rfl, by go_num, run_back hj'.out (.inl (hN'.out.trans hl'.out)), by omega⟩
              · have hlb : ((N : Int) == (most : Int)) = false := by simp; omega
                have hl' := Lib.hid hl
                clear hl
                obtain ⟨c, hc⟩ : ∃ c, X[j] = c := ⟨_, rfl⟩
                have hct : c.toNat = at' s j := by
                  have hX := hX'.out
                  subst hc hX
                  rw [at_get s j (by omega)]
                  simp only [ByteArray.getElem_extract, Nat.zero_add]
                have hws : wh s j = blank c.toNat := by unfold wh; rw [hct]
                have hcl := UInt8.toNat_lt c
                clear hct
                by_cases hw : blank c.toNat = true
                · have hws' := Lib.hid (hws.trans hw)
                  have hw' := Lib.hid hw
                  clear hws hw
                  go_wp2_with (go_at_call 42; refine (blank_yes c.toNat hcl hw'.out _).mono ?_; rintro e4 w4 ⟨rfl, rfl⟩)
                  go_meet
                  refine ⟨rfl, j + 1, by go_num, ?_, hj'.out, fun _ => ⟨hl'.out, hws'.out⟩⟩
                  rcases Nat.lt_or_ge j n with h | h
                  · exact h
                  · obtain rfl : j = n := by omega
                    have h1 := hwn'.out
                    rw [Nat.add_sub_cancel, hws'.out] at h1
                    cases h1
                · have hwf : blank c.toNat = false := by simpa using hw
                  have hws' := Lib.hid (hws.trans hwf)
                  have hw' := Lib.hid hwf
                  clear hws hw hwf
                  go_wp2_with (go_at_call 42; refine (blank_no c.toNat hcl hw'.out _).mono ?_; rintro e4 w4 ⟨rfl, rfl⟩)
                  go_roundg j
                  case measure => omega
                  case rel => exact ⟨rfl, by go_num, run_back hj'.out (.inr hws'.out), by omega⟩
        case rest =>
          obtain ⟨rfl, j, rfl, hjn, hj, hj0⟩ := hcut
          have hj' := Lib.hid hj
          have hj0' := Lib.hid hj0
          clear hj hj0
          go_wp2_with (at_builtin; go_loud (refine wpList_front rfl _ _ rfl _ (pieces s acc) rfl (hown) hb (Nat.le_refl _) _ rfl (by rw [hpl'.out]; omega) ?_; intro v4 w5 hown5 hb5))
          go_roundg j
          case measure => omega
          case rel =>
            refine ⟨congrArg Value.string (by rw [← hX'.out]; exact extract_pre s (n + 1) j (by omega)), (j, n + 1) :: acc, run_piece hj'.out (fun h => ⟨by rw [hN'.out]; exact (hj0'.out h).1, (hj0'.out h).2⟩), by omega, hown5.eq ?_, by simp only [List.length_cons]; have := hN'.out; omega, fun h => ?_, hb5⟩
            · simp only [pieces, List.map_cons]
              congr 1
              rw [← hX'.out]
              exact extract_suf s (n + 1) j _ (by first | rfl | (simp; omega))
            · have := (hj0'.out h).1
              have := hN'.out
              simp only [List.length_cons]; omega
end Go.Proofs.YtnenjlgpdejfaaaDoor.Split
