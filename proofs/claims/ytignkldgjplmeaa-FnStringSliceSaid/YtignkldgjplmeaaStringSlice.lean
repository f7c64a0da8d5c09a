/-
  Each so many-th byte of a string: what the package's Slice gives is what the reference's loop gathers. The plain part and the walks.
-/
import Derived.Test.YtignkldgjplmeaaOwn
import Derived.WalkKit
import Derived.LoopTactic
import Derived.Outline
import Derived.WalkSpells
import Derived.WalkLawsBesides
import Derived.Deep.QuietTactic
import Derived.BigQuiet
import Derived.Lib.Hide
import Derived.OpenShut
import Derived.Lib.Strings
namespace Go.Proofs.Ytignkldgjplmeaa.fnStringSlice
open Go.RowKit Go.WideShapes Go.Proofs.Ytignkldgjplmeaa.Own
set_option linter.unusedVariables false

def Goes (e s i : Int) : Prop := 0 < s ∧ i < e ∨ s < 0 ∧ e < i
def pos (st s : Int) (k : Nat) : Int := st + k * s
theorem pos_succ (st s : Int) (k : Nat) : pos st s (k + 1) = pos st s k + s := by
  unfold pos; rw [Int.natCast_add, Int.add_mul]; simp; omega
def row (l : List UInt8) (st s : Int) (k : Nat) : List UInt8 := (List.range k).map fun j => l.getD (pos st s j).toNat 0
theorem row_succ (l : List UInt8) (st s : Int) (k : Nat) : row l st s (k + 1) = row l st s k ++ [l.getD (pos st s k).toNat 0] := by
  simp [row, List.range_succ]
theorem row_length (l : List UInt8) (st s : Int) (k : Nat) : (row l st s k).length = k := by simp [row]

structure Inv (n : Nat) (st e s : Int) (k : Nat) (i : Int) : Prop where
  all : ∀ j, j < k → Goes e s (pos st s j)
  at_ : i = pos st s k
  up : 0 < s → st + k ≤ i ∧ i < e + s ∨ 0 < s ∧ k = 0 ∧ i = st
  down : s < 0 → i ≤ st - k ∧ e + s < i ∨ s < 0 ∧ k = 0 ∧ i = st
def Fits (n : Nat) (st e s : Int) : Prop := 0 < s ∧ 0 ≤ st ∧ st ≤ e ∧ e ≤ n ∨ s < 0 ∧ -1 ≤ e ∧ e ≤ st ∧ st < n

theorem inv_zero (n : Nat) (st e s : Int) : Inv n st e s 0 st :=
  ⟨fun j h => by omega, by simp [pos], fun h => .inr ⟨h, rfl, rfl⟩, fun h => .inr ⟨h, rfl, rfl⟩⟩
theorem inv_step {n : Nat} {st e s : Int} {k : Nat} {i : Int} (h : Inv n st e s k i) (hf : Fits n st e s) (hg : Goes e s i) : Inv n st e s (k + 1) (i + s) := by
  refine ⟨fun j hj => ?_, by rw [pos_succ, h.at_], fun hs => ?_, fun hs => ?_⟩
  · rcases Nat.lt_or_ge j k with hj' | hj'
    · exact h.all j hj'
    · obtain rfl : j = k := by omega
      rw [← h.at_]; exact hg
  · left
    have := h.up hs
    unfold Goes at hg; unfold Fits at hf
    omega
  · left
    have := h.down hs
    unfold Goes at hg; unfold Fits at hf
    omega
theorem inv_bounds {n : Nat} {st e s : Int} {k : Nat} {i : Int} (h : Inv n st e s k i) (hf : Fits n st e s) (hg : Goes e s i) : 0 ≤ i ∧ i < n ∧ k < n := by
  have h1 := h.up
  have h2 := h.down
  unfold Goes at hg; unfold Fits at hf
  omega
theorem inv_unique {n : Nat} {st e s : Int} {k k' : Nat} {i i' : Int} (h : Inv n st e s k i) (h' : Inv n st e s k' i') (hn : ¬ Goes e s i) (hn' : ¬ Goes e s i') : k = k' := by
  rcases Nat.lt_trichotomy k k' with hk | hk | hk
  · exact absurd (h.at_ ▸ h'.all k hk) hn
  · exact hk
  · exact absurd (h'.at_ ▸ h.all k' hk) hn'

theorem row_next {s : ByteArray} {st e sp : Int} {k : Nat} {n : Int} (h : Inv s.size st e sp k n) (hn : n.toNat < s.size) :
    row s.data.toList st sp k ++ [s[n.toNat]] = row s.data.toList st sp (k + 1) := by
  rw [row_succ, ← h.at_]
  congr 2
  rw [List.getD_eq_getElem?_getD, List.getElem?_eq_getElem (by simpa using hn)]
  rfl

theorem taken_any (s : ByteArray) (st e sp : Int) (w : World) (hs : s.size ≤ 400) (hf : Fits s.size st e sp) (h1 : -5 ≤ sp) (h2 : sp ≤ 5) :
    Calls Try.prog 12 #[.string s, .int .i64 st, .int .i64 e, .int .i64 sp] w fun r w' =>
      ∃ k i, Inv s.size st e sp k i ∧ ¬ Goes e sp i ∧ r = .returned (.string ⟨(row s.data.toList st sp k).toArray⟩) ∧ Below w.heap.size w w' := by
  have hf' := hf
  unfold Fits at hf'
  go_enter Try.func12, Try.ntmps12
  go_wp2
  go_loopw [9, 10] (fun v i wr => ∃ (k : Nat) (n : Int), i = .int .i64 n ∧ Inv s.size st e sp k n ∧ -1000 ≤ n ∧ n ≤ 1000 ∧ k ≤ 400 ∧ wr.ownsRow w.heap.size 5 1 v k (bs (row s.data.toList st sp k)) ∧ Below w.heap.size w wr)
    (fun _ i _ => if 0 < sp then (e - intOf i).toNat else (intOf i - e).toNat)
  case atStart => exact ⟨0, st, rfl, inv_zero _ _ _ _, by omega, by omega, by omega, World.ownsRow_nil _ _ _ _, Below.refl _ _⟩
  case round =>
    obtain ⟨k, n, rfl, hinv, hn1, hn2, hk, hown, hb⟩ := hrel
    by_cases hg : Goes e sp n
    · have hbd := inv_bounds hinv hf hg
      have hst := inv_step hinv hf hg
      have hrow := Lib.hid (row_next hinv (by omega))
      rcases hg with ⟨hg1, hg2⟩ | ⟨hg1, hg2⟩
      all_goals
        go_wp2_with (at_builtin; refine wpList_append_byte rfl _ _ rfl _ _ _ rfl hown hb (Nat.le_refl _) _ rfl (by omega) ?_; intro v' w1 hown1 hb1)
        go_roundw
        case rel => exact ⟨k + 1, n + sp, rfl, hst, by omega, by omega, by omega, hrow.out ▸ hown1, hb1⟩
        case measure => simp only [intOf]; split <;> omega
    · have hg' := hg
      unfold Goes at hg'
      have hcv := conv_own hown
      go_wp2
      all_goals
        go_ret
        exact ⟨k, n, hinv, hg, rfl, hb⟩

theorem ret_int {k : IntKind} {a b : Int} (h : a = b) : Ending.returned (.int k a) = .returned (.int k b) := by rw [h]
def sgn (x : Int) : Int := if 0 < x then 1 else if x < 0 then -1 else 0
theorem sgn_eq (x : Int) (h1 : -1000 ≤ x) (h2 : x ≤ 1000) :
    wrap64 (bits BinOp.or IntKind.u64 (IntKind.u64.wrap (x / 9223372036854775808)) (IntKind.u64.wrap (-x) / 9223372036854775808)) = sgn x := by
  rw [IntKind.wrap_u64, IntKind.wrap_u64]
  rcases Int.lt_trichotomy x 0 with h | h | h
  · rw [show x / 9223372036854775808 % 18446744073709551616 = 18446744073709551615 by omega, show -x % 18446744073709551616 / 9223372036854775808 = 0 by omega, sgn, if_neg (by omega), if_pos h]; kernel_rfl
  · subst h; kernel_rfl
  · rw [show x / 9223372036854775808 % 18446744073709551616 = 0 by omega, show -x % 18446744073709551616 / 9223372036854775808 = 1 by omega, sgn, if_pos h]; kernel_rfl
theorem signum_any (x : Int) (w : World) (h1 : -1000 ≤ x) (h2 : x ≤ 1000) :
    Calls Try.prog 28 #[.int .i64 x] w fun r w' => r = .returned (.int .i64 (sgn x)) ∧ w = w' := by
  have h64 : Calls Try.prog 31 #[.int .i64 x] w fun r w' => r = .returned (.int .i64 (sgn x)) ∧ w = w' := by
    go_enter Try.func31, Try.ntmps31
    go_wp2
    go_ret
    exact ⟨ret_int (sgn_eq x h1 h2), rfl⟩
  go_enter Try.func28, Try.ntmps28
  go_wp2_with (go_at_call 31; refine h64.mono ?_; rintro e w' ⟨rfl, rfl⟩)
  go_ret
  exact ⟨rfl, rfl⟩

theorem sgn_goes {e sp n : Int} (h : Goes e sp n) : (sgn (e - n) == sgn sp) = true := by
  unfold Goes at h; unfold sgn
  rcases h with ⟨h, h'⟩ | ⟨h, h'⟩
  · rw [if_pos (by omega), if_pos h]; rfl
  · rw [if_neg (by omega), if_pos (by omega), if_neg (by omega), if_pos h]; rfl
theorem sgn_stops {e sp n : Int} (hs : sp ≠ 0) (h : ¬ Goes e sp n) : (sgn (e - n) == sgn sp) = false := by
  unfold Goes at h; unfold sgn
  rcases Int.lt_trichotomy sp 0 with h0 | h0 | h0
  · rw [if_neg (show ¬ 0 < sp by omega), if_pos h0, if_neg (show ¬ e - n < 0 by omega)]; split <;> rfl
  · omega
  · rw [if_pos h0, if_neg (show ¬ 0 < e - n by omega)]; split <;> rfl
theorem ext_eq {a b : ByteArray} (h : a.data.toList = b.data.toList) : a = b := by
  cases a with | mk a => cases b with | mk b => simp at h; simp [h]
theorem row_one (s : ByteArray) (st e : Int) (h0 : 0 ≤ st) (h1 : st ≤ e) (h2 : e ≤ s.size) :
    s.extract st.toNat e.toNat = ⟨(row s.data.toList st 1 (e - st).toNat).toArray⟩ := by
  apply ext_eq
  rw [Lib.extract_data]
  apply List.ext_getElem?
  intro i
  simp only [row, pos]
  rcases Nat.lt_or_ge i (e - st).toNat with hi | hi
  · have hi2 : st.toNat + i < s.data.toList.length := by simp; omega
    have e1 : (st + (i : Int) * 1).toNat = st.toNat + i := by omega
    rw [List.getElem?_take, if_pos (by omega), List.getElem?_drop, List.getElem?_map, List.getElem?_range hi]
    simp only [Option.map_some, e1]
    rw [List.getD_eq_getElem?_getD, List.getElem?_eq_getElem hi2]
    rfl
  · rw [List.getElem?_eq_none (by simp; omega), List.getElem?_eq_none (by simp; omega)]

theorem slice_any (s : ByteArray) (st e sp : Int) (w : World) (hs : s.size ≤ 400) (hf : Fits s.size st e sp) (h1 : -5 ≤ sp) (h2 : sp ≤ 5) :
    Calls Try.prog 23 #[.string s, .int .i64 st, .int .i64 e, .int .i64 sp] w fun r w' =>
      ∃ k i, Inv s.size st e sp k i ∧ ¬ Goes e sp i ∧ r = .returned (.iface 47 (.string ⟨(row s.data.toList st sp k).toArray⟩)) ∧ Below w.heap.size w w' := by
  have hf' := hf
  unfold Fits at hf'
  by_cases hone : sp = 1
  · subst hone
    go_enter Try.func23, Try.ntmps23
    go_wp2
    go_ret
    refine ⟨(e - st).toNat, e, ⟨fun j hj => ?_, ?_, fun _ => ?_, fun _ => ?_⟩, ?_, by rw [row_one s st e (by omega) (by omega) (by omega)]; rfl, Below.refl _ _⟩
    · unfold Goes pos; omega
    · unfold pos; omega
    · omega
    · omega
    · unfold Goes; omega
  · have hone' : (sp == 1) = false := by simpa using hone
    go_enter Try.func23, Try.ntmps23
    go_wp2_with (go_at_call 28; refine (signum_any _ _ (by omega) (by omega)).mono ?_; rintro e w' ⟨rfl, rfl⟩)
    go_loopw [10, 11] (fun v i wr => ∃ (k : Nat) (n : Int), i = .int .i64 n ∧ Inv s.size st e sp k n ∧ -500 ≤ n ∧ n ≤ 500 ∧ k ≤ 400 ∧ wr.ownsRow w.heap.size 5 1 v k (bs (row s.data.toList st sp k)) ∧ Below w.heap.size w wr)
      (fun _ i _ => if 0 < sp then (e - intOf i).toNat else (intOf i - e).toNat)
    case atStart => exact ⟨0, st, rfl, inv_zero _ _ _ _, by omega, by omega, by omega, World.ownsRow_nil _ _ _ _, Below.refl _ _⟩
    case round =>
      obtain ⟨k, n, rfl, hinv, hn1, hn2, hk, hown, hb⟩ := hrel
      by_cases hg : Goes e sp n
      · have hbd := inv_bounds hinv hf hg
        have hst := inv_step hinv hf hg
        have hrow := Lib.hid (row_next hinv (by omega))
        have hsg := sgn_goes hg
        unfold Goes at hg
        go_wp2_with (first | (go_at_call 28; refine (signum_any _ _ (by omega) (by omega)).mono ?_; rintro e w' ⟨rfl, rfl⟩) | (at_builtin; refine wpList_append_byte rfl _ _ rfl _ _ _ rfl hown hb (Nat.le_refl _) _ rfl (by omega) ?_; intro v' w1 hown1 hb1))
        go_roundw
        case rel => exact ⟨k + 1, n + sp, rfl, hst, by omega, by omega, by omega, hrow.out ▸ hown1, hb1⟩
        case measure => simp only [intOf]; split <;> omega
      · have hsg := sgn_stops (by omega) hg
        have hcv := conv_own hown
        go_wp2_with (go_at_call 28; refine (signum_any _ _ (by omega) (by omega)).mono ?_; rintro e w' ⟨rfl, rfl⟩)
        go_ret
        exact ⟨k, n, hinv, hg, rfl, hb⟩

theorem turn_any (x m : Int) (w : World) (hm : 1 ≤ m) (hm2 : m ≤ 1000) :
    Calls Try.prog 21 #[.int .i64 x, .int .i64 m] w fun r w' => (∃ y, r = .returned (.int .i64 y) ∧ 0 ≤ y ∧ y < m) ∧ w = w' := by
  have t1 : x.tmod m < m := Int.tmod_lt_of_pos x (by omega)
  have t2 : -m < x.tmod m := by
    have h : -x.tmod m < m := by rw [← Int.neg_tmod]; exact Int.tmod_lt_of_pos (-x) (by omega)
    omega
  have hm0 : (m == 0) = false := by simp; omega
  have t3 := Int.emod_lt_of_pos (x.tmod m + m) (show 0 < m by omega)
  have t4 := Int.emod_nonneg (x.tmod m + m) (show m ≠ 0 by omega)
  go_enter Try.func21, Try.ntmps21
  go_wp2
  go_ret
  exact ⟨⟨_, rfl, by omega, by omega⟩, rfl⟩

theorem bounded_any (n st e sp : Int) (w : World) (hf : 0 < sp ∧ 0 ≤ st ∧ st ≤ e ∧ e ≤ n ∨ sp < 0 ∧ -1 ≤ e ∧ e ≤ st ∧ st < n) :
    Calls Try.prog 22 #[.int .i64 n, .int .i64 st, .int .i64 e, .int .i64 sp] w fun r w' => r = .returned (.bool true) ∧ w = w' := by
  rcases hf with ⟨a, b, c, d⟩ | ⟨a, b, c, d⟩
  all_goals
    go_enter Try.func22, Try.ntmps22
    go_wp2
    go_ret
    exact ⟨rfl, rfl⟩

theorem ends_any (n st e sp : Int) (w : World) (h0 : 0 ≤ n) (h1 : n ≤ 400) (b1 : -9223372036854775808 ≤ sp) (b2 : sp ≤ 9223372036854775807) :
    Calls Try.prog 10 #[.int .i64 n, .int .i64 st, .int .i64 e, .int .i64 sp] w fun r w' =>
      (∃ a b c : Int, r = .returned (.tuple #[.int .i64 a, .int .i64 b, .int .i64 c]) ∧ (0 < c ∧ 0 ≤ a ∧ a ≤ b ∧ b ≤ n ∨ c < 0 ∧ -1 ≤ b ∧ b ≤ a ∧ a < n) ∧ -5 ≤ c ∧ c ≤ 5) ∧ w = w' := by
  go_enter Try.func10, Try.ntmps10
  go_wp2_with (go_at_call 21; refine (turn_any _ _ _ (by omega) (by omega)).mono ?_; rintro e w' ⟨⟨y, rfl, hy0, hy1⟩, rfl⟩)
  all_goals
    go_ret3
    exact ⟨⟨_, _, _, rfl, by omega, by omega, by omega⟩, rfl⟩

theorem assert_str (v : Value) (w : World) : (Instr.typeAssert (.iface 47 v) 53 47 true).run Try.prog w = .ok (.tuple #[v, .bool true]) w := by kernel_rfl

theorem islice_any (s : ByteArray) (st e sp : Int) (w : World) (hs : s.size ≤ 400) (hf : Fits s.size st e sp) (h1 : -5 ≤ sp) (h2 : sp ≤ 5) :
    Calls Try.prog 11 #[.string s, .int .i64 st, .int .i64 e, .int .i64 sp] w fun r w' =>
      ∃ k i, Inv s.size st e sp k i ∧ ¬ Goes e sp i ∧ r = .returned (.string ⟨(row s.data.toList st sp k).toArray⟩) ∧ Below w.heap.size w w' := by
  have hta := assert_str
  go_enter Try.func11, Try.ntmps11
  go_wp2_with (first | (go_at_call 22; refine (bounded_any _ _ _ _ _ hf).mono ?_; rintro e w' ⟨rfl, rfl⟩) | (go_at_call 23; refine (slice_any _ _ _ _ _ hs hf h1 h2).mono ?_; rintro e w' ⟨k, i, hinv, hg, rfl, hb⟩))
  go_ret
  exact ⟨k, i, hinv, hg, rfl, hb⟩

theorem inv_ab : Inv (⟨#[97, 98]⟩ : ByteArray).size 1 (-1) (-1) 2 (-1) := by
  refine ⟨fun j hj => ?_, by simp [pos], fun h => by omega, fun h => by omega⟩
  unfold Goes pos; omega
theorem row_ab : row (⟨#[97, 98]⟩ : ByteArray).data.toList 1 (-1) 2 = [98, 97] := by decide

/-- the law on the prefix -/
theorem rest (s : ByteArray) (n : Int) (hn : n = s.size) (hs : s.size ≤ 400) (a b c : Int) (hf : 0 < c ∧ 0 ≤ a ∧ a ≤ b ∧ b ≤ n ∨ c < 0 ∧ -1 ≤ b ∧ b ≤ a ∧ a < n) : Fits s.size a b c := by
  subst hn; exact hf

theorem walk (a0 : ByteArray) (a1 : Int) (a2 : Int) (a3 : Int) (w0 : a0.size ≤ maxLen) (w1 : (Lit.int .i64 a1).wf = true) (w2 : (Lit.int .i64 a2).wf = true) (w3 : (Lit.int .i64 a3).wf = true) (w : World) :
    Calls Try.prog 5 #[.string a0, .int .i64 a1, .int .i64 a2, .int .i64 a3] w fun e w' => e = .returned (.bool true) ∧ Below w.heap.size w w' := by
  have hb3 := bounds_i64 w3
  clear w1 w2 w3
  by_cases hl : a0.size ≤ 2147483647
  · by_cases h4 : a0.size ≤ 400
    all_goals
      go_enter Try.func5, Try.ntmps5
      go_wp2_with fail
      refine (ends_any _ _ _ _ _ (by omega) (by omega) hb3.1 hb3.2).mono ?_
      rintro e w' ⟨⟨a, b, c, rfl, hf, hc1, hc2⟩, rfl⟩
      first | have hf' := rest a0 _ rfl h4 a b c hf | have hf' := rest (a0.extract 0 400) (min 400 a0.size : Nat) (by simp) (by simp; omega) a b c hf
      go_wp2_with fail
      refine (islice_any _ _ _ _ _ (by first | exact h4 | simp; omega) hf' hc1 hc2).mono ?_
      rintro e w' ⟨k, i, hinv, hg, rfl, hb⟩
      go_wp2_with fail
      refine (taken_any _ _ _ _ _ (by first | exact h4 | simp; omega) hf' hc1 hc2).mono ?_
      rintro e w'' ⟨k', i', hinv', hg', rfl, hb'⟩
      obtain rfl := inv_unique hinv hinv' hg hg'
      go_wp2_with fail
      refine (islice_any _ 1 (-1) (-1) _ (by decide) (by unfold Fits; decide) (by decide) (by decide)).mono ?_
      rintro e w3 ⟨k', i', hinv', hg', rfl, hb3⟩
      obtain rfl := inv_unique inv_ab hinv' (by unfold Goes; decide) hg'
      rw [row_ab]
      go_wp2
      go_ret
      exact ⟨rfl, (hb.trans (hb'.mono hb.size)).trans (hb3.mono (Nat.le_trans hb.size hb'.size))⟩
  · go_enter Try.func5, Try.ntmps5
    go_wp2
    go_ret
    exact ⟨rfl, Below.refl _ _⟩
end Go.Proofs.Ytignkldgjplmeaa.fnStringSlice
