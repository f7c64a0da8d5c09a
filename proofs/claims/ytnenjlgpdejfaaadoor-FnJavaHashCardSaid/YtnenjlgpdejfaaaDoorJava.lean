/-
  The hash of a text: what the package reckons going through the text's runes is what the reference reckons decoding rune by rune.
-/
import Derived.Test.YtnenjlgpdejfaaaDoorOwn
import Derived.Test.YtnenjlgpdejfaaaDoorUtf
import Derived.LoopTactic
import Derived.Outline
import Derived.WalkSpells
import Derived.WalkLawsBesides
import Derived.Lib.Hide
import Derived.OpenShut
namespace Go.Proofs.YtnenjlgpdejfaaaDoor.fnJavaHash
open Go.RowKit Go.WideShapes Go.Proofs.YtnenjlgpdejfaaaDoor.Own Go.Proofs.YtnenjlgpdejfaaaDoor.Utf
set_option linter.unusedVariables false

/-- the hash from a place on -/
def hashFrom (s : ByteArray) : Nat → Nat → Int → Int
  | 0, _, h => h
  | f + 1, i, h => if i < s.size then hashFrom s f (i + width s i) (wrap32 (wrap32 (31 * h) + rune s i)) else h
theorem hashFrom_end (s : ByteArray) (f i : Nat) (h : Int) (hi : ¬ i < s.size) : hashFrom s f i h = h := by
  cases f <;> simp [hashFrom, hi]

theorem unit_any (s : ByteArray) (w : World) (hs : s.size ≤ 400) (hT : Tabs w) :
    Calls Tryd.prog 11 #[.string s] w fun e w' => e = .returned (.int .i32 (hashFrom s s.size 0 0)) ∧ Below w.heap.size w w' := by
  go_enter Tryd.func11, Tryd.ntmps11
  go_wp2
  go_loopw [3, 4] (fun h i wr => ∃ (k f : Nat) (n : Int), k ≤ s.size ∧ i = .int .i64 k ∧ h = .int .i32 n ∧ hashFrom s f k n = hashFrom s s.size 0 0 ∧ s.size ≤ k + f ∧ Below w.heap.size w wr)
    (fun _ i _ => s.size - (intOf i).toNat)
  case atStart => exact ⟨0, s.size, 0, Nat.zero_le _, rfl, rfl, rfl, by omega, Below.refl _ _⟩
  case round =>
    obtain ⟨k, f, n, hk, rfl, rfl, hf, hkf, hb⟩ := hrel
    have hf' := Lib.hid hf
    clear hf
    by_cases hlt : k < s.size
    · have hTr := Lib.hid (hT.below hb hT.lt.1 hT.lt.2)
      have w1 := width_pos s k
      have w2 := width_le s k hlt
      have r1 := rune_le s k
      have hsz := hb.size
      go_wp2_with (go_at_call 24; refine (decode_any s k hlt _ hTr.out).mono ?_; rintro e w' ⟨rfl, hb'⟩)
      go_roundw
      case rel =>
        have hf := hf'.out
        cases f with
        | zero => omega
        | succ f =>
          rw [hashFrom, if_pos hlt] at hf
          exact ⟨k + width s k, f, _, by omega, by go_num, rfl, hf, by omega, hb.trans (hb'.mono hsz)⟩
      case measure => simp [intOf]; omega
    · go_wp2
      go_ret
      have hf := hf'.out
      rw [hashFrom_end s f k n hlt] at hf
      exact ⟨by rw [← hf]; rfl, hb⟩

theorem surr_any (r : Int) (w : World) (h : r < 55296 ∨ 57343 < r) :
    Calls Tryd.prog 48 #[.int .i32 r] w fun e w' => e = .returned (.bool false) ∧ w = w' := by
  rcases h with h | h
  · go_enter Tryd.func48, Tryd.ntmps48
    go_wp2
    go_ret
    exact ⟨rfl, rfl⟩
  · have h' : ¬ r < 57344 := by omega
    have h'' : 55296 ≤ r := by omega
    go_enter Tryd.func48, Tryd.ntmps48
    go_wp2
    go_ret
    exact ⟨rfl, rfl⟩

set_option maxRecDepth 100000 in
theorem java_any (s : ByteArray) (w : World) (hs : s.size ≤ 400) :
    Calls Tryd.prog 38 #[.string s] w fun e w' => e = .returned (.int .i32 (hashFrom s s.size 0 0)) ∧ Below w.heap.size w w' := by
  go_enter Tryd.func38, Tryd.ntmps38
  go_wp2
  go_loopw [2] (fun h wr => ∃ (k f : Nat) (n : Int), wr = w.iter s k ∧ h = .int .i32 n ∧ hashFrom s f k n = hashFrom s s.size 0 0 ∧ s.size ≤ k + f)
    (fun _ wr => s.size - wr.iterPos w.heap.size)
  case atStart => exact ⟨0, s.size, 0, rfl, rfl, rfl, by omega⟩
  case round =>
    obtain ⟨k, f, n, rfl, rfl, hf, hkf⟩ := hrel
    have hf' := Lib.hid hf
    clear hf
    by_cases hlt : k < s.size
    · have hnx : ∀ ty, (Instr.next (.pointer (some ⟨w.heap.size, 0, none⟩)) true ty).run Tryd.prog (w.iter s k) = .ok (.tuple #[.bool true, .int .i64 k, .int .i32 (rune s k)]) (w.iter s (k + width s k)) := fun ty => run_next_any w s k ty hlt
      have w1 := width_pos s k
      have r1 := rune_le s k
      have r2 := rune_ok s k
      · go_wp2_with (go_at_call 48; refine (surr_any _ _ (by omega)).mono ?_; rintro e w' ⟨rfl, rfl⟩)
        go_roundw
        case rel =>
          have hf := hf'.out
          cases f with
          | zero => omega
          | succ f =>
            rw [hashFrom, if_pos hlt] at hf
            exact ⟨k + width s k, f, _, rfl, rfl, hf, by omega⟩
        case measure => simp; omega
    · have hnx : ∀ ty, (Instr.next (.pointer (some ⟨w.heap.size, 0, none⟩)) true ty).run Tryd.prog (w.iter s k) = _ := fun ty => run_next_end w s k ty hlt
      go_wp2
      go_ret
      have hf := hf'.out
      rw [hashFrom_end s f k n hlt] at hf
      exact ⟨by rw [← hf]; rfl, (Below.refl _ _).alloc (Nat.le_refl _) _⟩

theorem chars_any (s : ByteArray) (w : World) (hs : s.size ≤ 400) (hT : Tabs w) :
    Calls Tryd.prog 9 #[.string s] w fun e w' => (∃ t : ByteArray, e = .returned (.string t) ∧ t.size ≤ 400) ∧ Below w.heap.size w w' := by
  go_enter Tryd.func9, Tryd.ntmps9
  go_wp2
  go_loopw [3, 4] (fun v i wr => ∃ (k : Nat) (l : List UInt8), k ≤ s.size ∧ i = .int .i64 k ∧ l.length ≤ k ∧ wr.ownsRow w.heap.size 5 1 v l.length (bs l) ∧ Below w.heap.size w wr)
    (fun _ i _ => s.size - (intOf i).toNat)
  case atStart => exact ⟨0, [], Nat.zero_le _, rfl, Nat.le_refl _, World.ownsRow_nil _ _ _ _, Below.refl _ _⟩
  case round =>
    obtain ⟨k, l, hk, rfl, hl, hown, hb⟩ := hrel
    by_cases hlt : k < s.size
    · have hTr := Lib.hid (hT.below hb hT.lt.1 hT.lt.2)
      have w1 := width_pos s k
      have w2 := width_le s k hlt
      have r1 := rune_le s k
      have hsz := hb.size
      go_wp2_with fail
      refine (decode_any s k hlt _ hTr.out).mono ?_
      rintro e w' ⟨rfl, hb'⟩
      have hown' : w'.ownsRow w.heap.size 5 1 _ l.length (bs l) := own_below hown hb'
      have hb2 := hb.trans (hb'.mono hsz)
      by_cases hr : 65535 < rune s k
      · go_wp2_with (at_builtin; refine wpList_append_byte rfl _ _ rfl _ _ _ rfl hown' hb2 (Nat.le_refl _) 63 rfl (by omega) ?_; intro v' w1 hown1 hb1)
        go_roundw
        case rel => exact ⟨k + width s k, l ++ [63], by omega, by go_num, by simp; omega, by simpa using hown1, hb1⟩
        case measure => simp [intOf]; omega
      · go_wp2_with (at_builtin; refine wpList_append_text rfl _ _ rfl _ _ _ rfl hown' hb2 (Nat.le_refl _) _ rfl (by simp; omega) ?_; intro v' w1 hown1 hb1)
        go_roundw
        case rel => exact ⟨k + width s k, l ++ (s.extract k (k + width s k)).data.toList, by omega, by go_num, by simp; omega, by rw [List.length_append]; exact hown1, hb1⟩
        case measure => simp [intOf]; omega
    · have hcv := conv_own hown
      go_wp2
      go_ret
      exact ⟨⟨_, rfl, by simp [ByteArray.size]; omega⟩, hb⟩

theorem ijh_any (s : ByteArray) (w : World) (hs : s.size ≤ 400) :
    Calls Tryd.prog 10 #[.string s] w fun e w' => e = .returned (.int .i32 (hashFrom s s.size 0 0)) ∧ Below w.heap.size w w' := by
  go_enter Tryd.func10, Tryd.ntmps10
  go_wp2_with (first | (go_at_call 38; refine (java_any s _ hs).mono ?_; rintro e w' ⟨rfl, hb⟩) | go_in)
  go_ret
  exact ⟨rfl, hb⟩

theorem h97 : hashFrom ⟨#[97]⟩ (⟨#[97]⟩ : ByteArray).size 0 0 = 97 := by kernel_rfl

theorem walk (a0 : ByteArray) (w0 : a0.size ≤ maxLen) (w : World) (hT : Tabs w) :
    Calls Tryd.prog 3 #[.string a0] w fun e w' => e = .returned (.bool true) ∧ Below w.heap.size w w' := by
  by_cases hl : a0.size ≤ 2147483647
  · by_cases h4 : a0.size ≤ 400
    all_goals
      go_enter Tryd.func3, Tryd.ntmps3
      go_wp2_with fail
      refine (chars_any _ _ (by first | exact h4 | simp; omega) hT).mono ?_
      rintro e w1 ⟨⟨t, rfl, ht⟩, hb1⟩
      go_wp2_with fail
      refine (ijh_any t _ ht).mono ?_
      rintro e w2 ⟨rfl, hb2⟩
      go_wp2_with fail
      refine (unit_any t _ ht ((hT.later hb1).later hb2)).mono ?_
      rintro e w3 ⟨rfl, hb3⟩
      go_wp2_with fail
      refine (ijh_any ⟨#[97]⟩ _ (by decide)).mono ?_
      rintro e w4 ⟨rfl, hb4⟩
      rw [h97]
      go_wp2
      go_ret
      exact ⟨rfl, ((hb1.trans (hb2.mono hb1.size)).trans (hb3.mono (Nat.le_trans hb1.size hb2.size))).trans (hb4.mono (Nat.le_trans (Nat.le_trans hb1.size hb2.size) hb3.size))⟩
  · go_enter Tryd.func3, Tryd.ntmps3
    go_wp2
    go_ret
    exact ⟨rfl, Below.refl _ _⟩
end Go.Proofs.YtnenjlgpdejfaaaDoor.fnJavaHash
