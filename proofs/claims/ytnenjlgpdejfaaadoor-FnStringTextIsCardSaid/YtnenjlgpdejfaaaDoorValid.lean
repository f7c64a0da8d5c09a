/-
  A text with a question mark in the place of what is no UTF-8: the reference's function returns some text that is no longer.
-/
import Derived.Test.YtnenjlgpdejfaaaDoorBytes
import Derived.Test.YtnenjlgpdejfaaaDoorUtf
import Derived.LoopTactic
import Derived.Outline
import Derived.WalkSpells
import Derived.WalkLawsBesides
import Derived.Lib.Hide
import Derived.OpenShut
import Derived.Deep.QuietTactic
import Derived.BigQuiet
import Derived.Deep.LoopGhost
namespace Go.Proofs.YtnenjlgpdejfaaaDoor.Vld
open Go.RowKit Go.WideShapes Go.Proofs.YtnenjlgpdejfaaaDoor.Utf Go.Proofs.YtnenjlgpdejfaaaDoor.Own
set_option linter.unusedVariables false

def Some (B : Nat) (e : Ending) : Prop := ∃ u : ByteArray, e = .returned (.string u) ∧ u.size ≤ B
def RelV (s : ByteArray) (w : World) (v : Value) (k : Nat) (wr : World) : Prop :=
  ∃ l : List UInt8, k ≤ s.size ∧ l.length ≤ k ∧ Owns wr w.heap.size v l ∧ Below w.heap.size w wr

set_option maxRecDepth 100000 in
theorem valid_any (s : ByteArray) (w : World) (hs : s.size ≤ 2147483647) (hT : Tabs w) :
    Calls Tryd.prog 12 #[.string s] w fun e w' => Some s.size e ∧ Below w.heap.size w w' := by
  go_enter Tryd.func12, Tryd.ntmps12
  go_wp2
  go_loopg [3, 4] s.size (fun m v i wr => ∃ k : Nat, i = .int .i64 k ∧ m = s.size - k ∧ RelV s w v k wr)
  case atStart => exact ⟨0, rfl, by omega, [], Nat.zero_le _, Nat.zero_le _, Owns.nil _ _, Below.refl _ _⟩
  case round =>
    obtain ⟨k, rfl, hm, l, hk, hl, hown, hb⟩ := hrel
    have hm' := Lib.hid hm
    clear hm
    by_cases hlt : k < s.size
    · have w1 := width_pos s k
      have w2 := width_le s k hlt
      have r1 := rune_le s k
      have hsz := hb.size
      have hTr := Lib.hid (hT.later hb)
      have hdec := Lib.hid fun w h => decode_any s k hlt w h
      have hmk := hm'.out
      obtain ⟨n, hn⟩ : ∃ n, width s k = n := ⟨_, rfl⟩
      obtain ⟨r, hr⟩ : ∃ r, rune s k = r := ⟨_, rfl⟩
      rw [hn] at w1 w2 hdec
      rw [hr] at r1 hdec
      clear hn hr
      by_cases h1 : r = 65533
      · have b1 : ((r : Int) == 65533) = true := by simp; omega
        by_cases h2 : n < 2
        · have b2 : decide ((n : Int) < 2) = true := by simp; omega
          have h1' := Lib.hid h1
          clear h1 hmk
          go_wp2_with (first | (go_at_call 24; refine (hdec.out _ hTr.out).mono ?_; rintro e w3 ⟨rfl, hb3⟩) | (at_builtin; refine wpList_byte rfl _ _ rfl _ _ rfl (hown.later hb3) (hb.trans (hb3.mono hsz)) (Nat.le_refl _) 63 rfl (by omega) ?_; intro v' w4 hown4 hb4))
          go_roundg (s.size - (k + n))
          case measure => have := hm'.out; omega
          case rel => exact ⟨k + n, by go_num, rfl, l ++ [63], by omega, by simp; omega, hown4, hb4⟩
        · have b2 : decide ((n : Int) < 2) = false := by simp; omega
          have h1' := Lib.hid h1
          clear h1 hmk
          go_wp2_with (first | (go_at_call 24; refine (hdec.out _ hTr.out).mono ?_; rintro e w3 ⟨rfl, hb3⟩) | (at_builtin; refine wpList_text rfl _ _ rfl _ _ rfl (hown.later hb3) (hb.trans (hb3.mono hsz)) (Nat.le_refl _) _ rfl (by simp; omega) ?_; intro v' w4 hown4 hb4))
          go_roundg (s.size - (k + n))
          case measure => have := hm'.out; omega
          case rel => exact ⟨k + n, by go_num, rfl, _, by omega, by simp; omega, hown4, hb4⟩
      · have b1 : ((r : Int) == 65533) = false := by simp; omega
        have h1' := Lib.hid h1
        clear h1 hmk
        go_wp2_with (first | (go_at_call 24; refine (hdec.out _ hTr.out).mono ?_; rintro e w3 ⟨rfl, hb3⟩) | (at_builtin; refine wpList_text rfl _ _ rfl _ _ rfl (hown.later hb3) (hb.trans (hb3.mono hsz)) (Nat.le_refl _) _ rfl (by simp; omega) ?_; intro v' w4 hown4 hb4))
        go_roundg (s.size - (k + n))
        case measure => have := hm'.out; omega
        case rel => exact ⟨k + n, by go_num, rfl, _, by omega, by simp; omega, hown4, hb4⟩
    · have hcv := hown.conv
      go_wp2
      go_ret
      exact ⟨⟨_, rfl, by show l.toArray.size ≤ s.size; rw [List.size_toArray]; omega⟩, hb⟩
end Go.Proofs.YtnenjlgpdejfaaaDoor.Vld
