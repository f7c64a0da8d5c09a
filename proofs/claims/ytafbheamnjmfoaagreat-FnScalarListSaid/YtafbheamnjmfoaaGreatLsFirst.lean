/-
  A script over a list of values without parts: its states, its steps, what each answers; which elements a slice has. What the ends of a slice are brought to; signs; bounds. Which blocks a call turns; rows of records that a call owns; rows of steps and of answers. The reference's guard: whether a list may be changed, an open iterator's number.
-/
import Derived.Test.YtafbheamnjmfoaaGreatScAll
import Derived.WalkKit
import Derived.LoopTactic
import Derived.Outline
import Derived.WalkSpells
import Derived.WalkLawsBesides
import Derived.Deep.QuietTactic
import Derived.BigQuiet
import Derived.Lib.Hide
namespace Go.Proofs.YtafbheamnjmfoaaGreat.Ls
open Go.RowKit Go.WideShapes Go.Proofs.YtafbheamnjmfoaaGreat.Sc
set_option linter.unusedVariables false

/-- a slice goes on -/
def Goes (e s i : Int) : Prop := 0 < s ∧ i < e ∨ s < 0 ∧ e < i
def pos (st s : Int) (k : Nat) : Int := st + k * s
theorem pos_succ (st s : Int) (k : Nat) : pos st s (k + 1) = pos st s k + s := by
  unfold pos; rw [Int.natCast_add, Int.add_mul]; simp; omega
/-- the first k elements of a slice -/
def row (l : List Sc) (st s : Int) (k : Nat) : List Sc := (List.range k).map fun j => l.getD (pos st s j).toNat .none
theorem row_succ (l : List Sc) (st s : Int) (k : Nat) : row l st s (k + 1) = row l st s k ++ [l.getD (pos st s k).toNat .none] := by
  simp [row, List.range_succ]
theorem row_length (l : List Sc) (st s : Int) (k : Nat) : (row l st s k).length = k := by simp [row]
structure Inv (n : Nat) (st e s : Int) (k : Nat) (i : Int) : Prop where
  all : ∀ j, j < k → Goes e s (pos st s j)
  at_ : i = pos st s k
  up : 0 < s → st + k ≤ i ∧ i < e + s ∨ 0 < s ∧ k = 0 ∧ i = st
  down : s < 0 → i ≤ st - k ∧ e + s < i ∨ s < 0 ∧ k = 0 ∧ i = st
def Fits (n : Nat) (st e s : Int) : Prop := 0 < s ∧ 0 ≤ st ∧ st ≤ e ∧ e ≤ n ∨ s < 0 ∧ -1 ≤ e ∧ e ≤ st ∧ st < n
theorem inv_zero (n : Nat) (st e s : Int) : Inv n st e s 0 st :=
  ⟨fun j h => by omega, by simp [pos], fun h => .inr ⟨h, rfl, rfl⟩, fun h => .inr ⟨h, rfl, rfl⟩⟩
theorem inv_step {n : Nat} {st e s : Int} {k : Nat} {i : Int} (h : Inv n st e s k i) (hf : Fits n st e s) (hg : Goes e s i) : Inv n st e s (k + 1) (i + s) := by
  refine ⟨fun j hj => ?_, by rw [pos_succ, h.at_], fun hs => ?_, fun hs => ?_⟩
  · rcases Nat.lt_or_ge j k with hj' | hj'
    · exact h.all j hj'
    · obtain rfl : j = k := by omega
      rw [← h.at_]; exact hg
  · left
    have := h.up hs
    unfold Goes at hg; unfold Fits at hf
    omega
  · left
    have := h.down hs
    unfold Goes at hg; unfold Fits at hf
    omega
theorem inv_bounds {n : Nat} {st e s : Int} {k : Nat} {i : Int} (h : Inv n st e s k i) (hf : Fits n st e s) (hg : Goes e s i) : 0 ≤ i ∧ i < n ∧ k < n := by
  have h1 := h.up
  have h2 := h.down
  unfold Goes at hg; unfold Fits at hf
  omega
theorem inv_unique {n : Nat} {st e s : Int} {k k' : Nat} {i i' : Int} (h : Inv n st e s k i) (h' : Inv n st e s k' i') (hn : ¬ Goes e s i) (hn' : ¬ Goes e s i') : k = k' := by
  rcases Nat.lt_trichotomy k k' with hk | hk | hk
  · exact absurd (h.at_ ▸ h'.all k hk) hn
  · exact hk
  · exact absurd (h'.at_ ▸ h.all k' hk) hn'
theorem inv_le {n : Nat} {st e s : Int} {k : Nat} {i : Int} (h : Inv n st e s k i) (hf : Fits n st e s) : k ≤ n := by
  rcases Nat.eq_zero_or_pos k with h0 | h0
  · omega
  · have h1 := h.all (k - 1) (by omega)
    obtain ⟨q, hq⟩ : ∃ q, k - 1 = q := ⟨_, rfl⟩
    rw [hq] at h1
    unfold Goes pos at h1
    unfold Fits at hf
    rcases h1 with ⟨h1, h2⟩ | ⟨h1, h2⟩
    · have := Int.mul_le_mul_of_nonneg_left (show (1 : Int) ≤ s by omega) (show (0 : Int) ≤ (q : Int) by omega)
      omega
    · have := Int.mul_le_mul_of_nonneg_left (show s ≤ (-1 : Int) by omega) (show (0 : Int) ≤ (q : Int) by omega)
      omega
theorem row_next {l : List Sc} {st e sp : Int} {k : Nat} {i : Int} (h : Inv l.length st e sp k i) (hi : i.toNat < l.length) : row l st sp k ++ [l[i.toNat]] = row l st sp (k + 1) := by
  rw [row_succ, ← h.at_]
  congr 2
  rw [List.getD_eq_getElem?_getD, List.getElem?_eq_getElem hi]
  rfl
theorem row_mem {l : List Sc} {st sp : Int} {k : Nat} {s : Sc} (h : s ∈ row l st sp k) : s ∈ l ∨ s = .none := by
  simp only [row, List.mem_map, List.mem_range] at h
  obtain ⟨j, -, rfl⟩ := h
  rw [List.getD_eq_getElem?_getD]
  cases hj : l[(pos st sp j).toNat]? with
  | none => exact .inr rfl
  | some x => exact .inl (List.mem_of_getElem? hj)
theorem row_ok {l : List Sc} {st sp : Int} {k : Nat} (h : ∀ s ∈ l, s.ok) : ∀ s ∈ row l st sp k, s.ok := by
  intro s hs
  rcases row_mem hs with h1 | rfl
  · exact h s h1
  · exact trivial
theorem row_one (l : List Sc) (st e : Int) (h0 : 0 ≤ st) (h1 : st ≤ e) (h2 : e ≤ l.length) : (l.drop st.toNat).take (e - st).toNat = row l st 1 (e - st).toNat := by
  apply List.ext_getElem?
  intro i
  simp only [row, pos]
  rcases Nat.lt_or_ge i (e - st).toNat with hi | hi
  · have hi2 : st.toNat + i < l.length := by omega
    have e1 : (st + (i : Int) * 1).toNat = st.toNat + i := by omega
    rw [List.getElem?_take, if_pos (by omega), List.getElem?_drop, List.getElem?_map, List.getElem?_range hi]
    simp only [Option.map_some, e1]
    rw [List.getD_eq_getElem?_getD, List.getElem?_eq_getElem hi2]
    rfl
  · rw [List.getElem?_eq_none (by simp; omega), List.getElem?_eq_none (by simp; omega)]
theorem inv_one (n : Nat) (st e : Int) (h0 : 0 ≤ st) (h1 : st ≤ e) (h2 : e ≤ n) : Inv n st e 1 (e - st).toNat e ∧ ¬ Goes e 1 e := by
  refine ⟨⟨fun j hj => ?_, ?_, fun _ => ?_, fun _ => ?_⟩, ?_⟩
  · unfold Goes pos; omega
  · unfold pos; omega
  · omega
  · omega
  · unfold Goes; omega

/-- what a step answers: a value, or several -/
inductive Av where
  | sc (s : Sc)
  | list (l : List Sc)
structure An where
  ok : Bool
  is_ : Bool
  n : Nat
  v : Av
def An.yes : An := ⟨true, false, 0, .sc .none⟩
def An.no : An := ⟨false, false, 0, .sc .none⟩
/-- a step, as it is handed to the program -/
inductive Sp where
  | append (a : Sc)
  | set (i : Nat) (a : Sc)
  | index (i : Nat)
  | clear
  | len
  | open_
  | next (i : Nat)
  | done (i : Nat)
  | freeze
  | truth
  | slice (i j k : Int)
/-- the list's elements; whether it is frozen; of each iterator the place of what comes next, none of one that is done -/
structure St where
  l : List Sc
  fz : Bool
  at_ : List (Option Nat)
def openN (l : List (Option Nat)) : Nat := l.countP Option.isSome
def St.fixed (s : St) : Bool := s.fz || decide (0 < openN s.at_)
inductive Step : St → Sp → St → An → Prop
  | append {st : St} {a : Sc} (ha : a.ok) (h : st.fixed = false) : Step st (.append a) { st with l := st.l ++ [a] } .yes
  | append_no {st : St} {a : Sc} (ha : a.ok) (h : st.fixed = true) : Step st (.append a) st .no
  | set {st : St} {i : Nat} {a : Sc} (ha : a.ok) (hi : i < st.l.length) (h : st.fixed = false) : Step st (.set i a) { st with l := st.l.set i a } .yes
  | set_no {st : St} {i : Nat} {a : Sc} (ha : a.ok) (hi : i < st.l.length) (h : st.fixed = true) : Step st (.set i a) st .no
  | index {st : St} {i : Nat} (hi : i < st.l.length) : Step st (.index i) st ⟨true, false, 0, .sc st.l[i]⟩
  | clear {st : St} (h : st.fixed = false) : Step st .clear { st with l := [] } .yes
  | clear_no {st : St} (h : st.fixed = true) : Step st .clear st .no
  | len {st : St} : Step st .len st ⟨true, false, st.l.length, .sc .none⟩
  | open_ {st : St} : Step st .open_ { st with at_ := st.at_ ++ [some 0] } ⟨true, false, st.at_.length, .sc .none⟩
  | next {st : St} {i p : Nat} (hi : st.at_[i]? = some (some p)) (hp : p < st.l.length) : Step st (.next i) { st with at_ := st.at_.set i (some (p + 1)) } ⟨true, true, 0, .sc st.l[p]⟩
  | next_no {st : St} {i p : Nat} (hi : st.at_[i]? = some (some p)) (hp : st.l.length ≤ p) : Step st (.next i) st .yes
  | done {st : St} {i p : Nat} (hi : st.at_[i]? = some (some p)) : Step st (.done i) { st with at_ := st.at_.set i none } .yes
  | freeze {st : St} : Step st .freeze { st with fz := true } .yes
  | truth {st : St} : Step st .truth st ⟨true, decide (0 < st.l.length), 0, .sc .none⟩
  | slice {st : St} {i j k m : Int} {c : Nat} (hf : Fits st.l.length i j k) (h1 : -5 ≤ k) (h2 : k ≤ 5) (hv : Inv st.l.length i j k c m) (hn : ¬ Goes j k m) : Step st (.slice i j k) st ⟨true, false, 0, .list (row st.l i k c)⟩
/-- within bounds -/
structure St.In (s : St) (n : Nat) : Prop where
  ok : ∀ x ∈ s.l, x.ok
  len : s.l.length ≤ n
  its : s.at_.length ≤ n
  pl : ∀ (i p : Nat), s.at_[i]? = some (some p) → p ≤ n
theorem Step.in_ {s s' : St} {p : Sp} {a : An} {n : Nat} (h : Step s p s' a) (hs : s.In n) : s'.In (n + 1) := by
  obtain ⟨h1, h2, h3, h4⟩ := hs
  have h4' : ∀ (i q : Nat), s.at_[i]? = some (some q) → q ≤ n + 1 := fun i q hq => Nat.le_succ_of_le (h4 i q hq)
  have h2' := Nat.le_succ_of_le h2
  have h3' := Nat.le_succ_of_le h3
  cases h with
  | append ha => exact ⟨fun x hx => by rw [List.mem_append, List.mem_singleton] at hx; rcases hx with hx | rfl; exact h1 x hx; exact ha, by simp; omega, h3', h4'⟩
  | set ha hi => exact ⟨fun x hx => by rcases List.mem_or_eq_of_mem_set hx with hx | rfl; exact h1 x hx; exact ha, by simp; omega, h3', h4'⟩
  | clear => exact ⟨(fun x hx => by cases hx), Nat.zero_le _, h3', h4'⟩
  | open_ =>
    refine ⟨h1, h2', by simp; omega, fun i q hq => ?_⟩
    simp only at hq
    rw [List.getElem?_append] at hq
    split at hq
    · exact h4' i q hq
    · simp only [List.getElem?_singleton] at hq
      split at hq
      · simp at hq; omega
      · cases hq
  | next hi hp =>
    rename_i i p
    refine ⟨h1, h2', by simp; omega, fun j q hq => ?_⟩
    simp only at hq
    rw [List.getElem?_set] at hq
    split at hq
    · split at hq
      · simp at hq
        omega
      · cases hq
    · exact h4' j q hq
  | done hi =>
    rename_i i p
    refine ⟨h1, h2', by simp; omega, fun j q hq => ?_⟩
    simp only at hq
    rw [List.getElem?_set] at hq
    split at hq
    · split at hq
      · cases hq
      · cases hq
    · exact h4' j q hq
  | append_no => exact ⟨h1, h2', h3', h4'⟩
  | set_no => exact ⟨h1, h2', h3', h4'⟩
  | index => exact ⟨h1, h2', h3', h4'⟩
  | clear_no => exact ⟨h1, h2', h3', h4'⟩
  | len => exact ⟨h1, h2', h3', h4'⟩
  | next_no => exact ⟨h1, h2', h3', h4'⟩
  | freeze => exact ⟨h1, h2', h3', h4'⟩
  | truth => exact ⟨h1, h2', h3', h4'⟩
  | slice => exact ⟨h1, h2', h3', h4'⟩
/-- the answers of steps, one behind the other, from a state on -/
structure Run (T : Nat → St) (S : List Sp) (A : List An) : Prop where
  len : A.length = S.length
  at_ : ∀ j s a, S[j]? = some s → A[j]? = some a → Step (T j) s (T (j + 1)) a
theorem Run.nil (s : St) : Run (fun _ => s) [] [] := ⟨rfl, fun j s a h => by simp at h⟩
theorem Run.snoc {T : Nat → St} {S : List Sp} {A : List An} (h : Run T S A) {s : Sp} {a : An} {t : St} (hs : Step (T S.length) s t a) : ∃ T', T' 0 = T 0 ∧ T' (S.length + 1) = t ∧ Run T' (S ++ [s]) (A ++ [a]) := by
  refine ⟨fun k => if k ≤ S.length then T k else t, by simp, if_neg (by omega), by simp [h.len], fun j x y hx hy => ?_⟩
  by_cases hj : j < S.length
  · rw [List.getElem?_append_left hj] at hx
    rw [List.getElem?_append_left (by rw [h.len]; exact hj)] at hy
    simp only [show j ≤ S.length by omega, show j + 1 ≤ S.length by omega, if_true]
    exact h.at_ j x y hx hy
  · have hjl : j = S.length := by
      have := (List.getElem?_eq_some_iff.1 hx).1
      simp at this; omega
    subst hjl
    rw [List.getElem?_append_right (Nat.le_refl _)] at hx
    rw [List.getElem?_append_right (by rw [h.len]; exact Nat.le_refl _), h.len] at hy
    simp at hx hy
    subst hx hy
    simp only [Nat.le_refl, if_true, show ¬ S.length + 1 ≤ S.length by omega, if_false]
    exact hs
theorem Run.in_ {T : Nat → St} {S : List Sp} {A : List An} (h : Run T S A) {n : Nat} (h0 : (T 0).In n) : ∀ j, j ≤ S.length → (T j).In (n + j)
  | 0, _ => h0
  | j + 1, hj => by
    have hjl : j < S.length := by omega
    exact (h.at_ j _ _ (List.getElem?_eq_getElem hjl) (List.getElem?_eq_getElem (by rw [h.len]; exact hjl))).in_ (h.in_ h0 j (by omega))
end Go.Proofs.YtafbheamnjmfoaaGreat.Ls

namespace Go.Proofs.YtafbheamnjmfoaaGreat.Ls
open Go.RowKit Go.WideShapes Go.Proofs.YtafbheamnjmfoaaGreat.Sc
set_option linter.unusedVariables false

theorem ret_int {k : IntKind} {a b : Int} (h : a = b) : Ending.returned (.int k a) = .returned (.int k b) := by rw [h]
def sgn (x : Int) : Int := if 0 < x then 1 else if x < 0 then -1 else 0
theorem sgn_eq (x : Int) (h1 : -1000 ≤ x) (h2 : x ≤ 1000) :
    wrap64 (bits BinOp.or IntKind.u64 (IntKind.u64.wrap (x / 9223372036854775808)) (IntKind.u64.wrap (-x) / 9223372036854775808)) = sgn x := by
  rw [IntKind.wrap_u64, IntKind.wrap_u64]
  rcases Int.lt_trichotomy x 0 with h | h | h
  · rw [show x / 9223372036854775808 % 18446744073709551616 = 18446744073709551615 by omega, show -x % 18446744073709551616 / 9223372036854775808 = 0 by omega, sgn, if_neg (by omega), if_pos h]; kernel_rfl
  · subst h; kernel_rfl
  · rw [show x / 9223372036854775808 % 18446744073709551616 = 0 by omega, show -x % 18446744073709551616 / 9223372036854775808 = 1 by omega, sgn, if_pos h]; kernel_rfl
theorem signum_any (x : Int) (w : World) (h1 : -1000 ≤ x) (h2 : x ≤ 1000) :
    Calls Tryz.prog 102 #[.int .i64 x] w fun r w' => r = .returned (.int .i64 (sgn x)) ∧ w = w' := by
  have h64 : Calls Tryz.prog 119 #[.int .i64 x] w fun r w' => r = .returned (.int .i64 (sgn x)) ∧ w = w' := by
    go_enter Tryz.func119, Tryz.ntmps119
    go_wp2
    go_ret
    exact ⟨ret_int (sgn_eq x h1 h2), rfl⟩
  go_enter Tryz.func102, Tryz.ntmps102
  go_wp2_with (go_at_call 119; refine h64.mono ?_; rintro e w' ⟨rfl, rfl⟩)
  go_ret
  exact ⟨rfl, rfl⟩

theorem sgn_goes {e sp n : Int} (h : Goes e sp n) : (sgn (e - n) == sgn sp) = true := by
  unfold Goes at h; unfold sgn
  rcases h with ⟨h, h'⟩ | ⟨h, h'⟩
  · rw [if_pos (by omega), if_pos h]; rfl
  · rw [if_neg (by omega), if_pos (by omega), if_neg (by omega), if_pos h]; rfl
theorem sgn_stops {e sp n : Int} (hs : sp ≠ 0) (h : ¬ Goes e sp n) : (sgn (e - n) == sgn sp) = false := by
  unfold Goes at h; unfold sgn
  rcases Int.lt_trichotomy sp 0 with h0 | h0 | h0
  · rw [if_neg (show ¬ 0 < sp by omega), if_pos h0, if_neg (show ¬ e - n < 0 by omega)]; split <;> rfl
  · omega
  · rw [if_pos h0, if_neg (show ¬ 0 < e - n by omega)]; split <;> rfl
theorem turn_any (x m : Int) (w : World) (hm : 1 ≤ m) (hm2 : m ≤ 1000) :
    Calls Tryz.prog 57 #[.int .i64 x, .int .i64 m] w fun r w' => (∃ y, r = .returned (.int .i64 y) ∧ 0 ≤ y ∧ y < m) ∧ w = w' := by
  have t1 : x.tmod m < m := Int.tmod_lt_of_pos x (by omega)
  have t2 : -m < x.tmod m := by
    have h : -x.tmod m < m := by rw [← Int.neg_tmod]; exact Int.tmod_lt_of_pos (-x) (by omega)
    omega
  have hm0 : (m == 0) = false := by simp; omega
  have t3 := Int.emod_lt_of_pos (x.tmod m + m) (show 0 < m by omega)
  have t4 := Int.emod_nonneg (x.tmod m + m) (show m ≠ 0 by omega)
  go_enter Tryz.func57, Tryz.ntmps57
  go_wp2
  go_ret
  exact ⟨⟨_, rfl, by omega, by omega⟩, rfl⟩

theorem bounded_any (n st e sp : Int) (w : World) (hf : 0 < sp ∧ 0 ≤ st ∧ st ≤ e ∧ e ≤ n ∨ sp < 0 ∧ -1 ≤ e ∧ e ≤ st ∧ st < n) :
    Calls Tryz.prog 74 #[.int .i64 n, .int .i64 st, .int .i64 e, .int .i64 sp] w fun r w' => r = .returned (.bool true) ∧ w = w' := by
  rcases hf with ⟨a, b, c, d⟩ | ⟨a, b, c, d⟩
  all_goals
    go_enter Tryz.func74, Tryz.ntmps74
    go_wp2
    go_ret
    exact ⟨rfl, rfl⟩

theorem ends_any (n st e sp : Int) (w : World) (h0 : 0 ≤ n) (h1 : n ≤ 400) (b1 : -9223372036854775808 ≤ sp) (b2 : sp ≤ 9223372036854775807) :
    Calls Tryz.prog 59 #[.int .i64 n, .int .i64 st, .int .i64 e, .int .i64 sp] w fun r w' =>
      (∃ a b c : Int, r = .returned (.tuple #[.int .i64 a, .int .i64 b, .int .i64 c]) ∧ (0 < c ∧ 0 ≤ a ∧ a ≤ b ∧ b ≤ n ∨ c < 0 ∧ -1 ≤ b ∧ b ≤ a ∧ a < n) ∧ -5 ≤ c ∧ c ≤ 5) ∧ w = w' := by
  go_enter Tryz.func59, Tryz.ntmps59
  go_wp2_with (go_at_call 57; refine (turn_any _ _ _ (by omega) (by omega)).mono ?_; rintro e w' ⟨⟨y, rfl, hy0, hy1⟩, rfl⟩)
  all_goals
    go_ret3
    exact ⟨⟨_, _, _, rfl, by omega, by omega, by omega⟩, rfl⟩

end Go.Proofs.YtafbheamnjmfoaaGreat.Ls

namespace Go.Proofs.YtafbheamnjmfoaaGreat.Ls
open Go.RowKit Go.WideShapes Go.Proofs.YtafbheamnjmfoaaGreat.Sc Go.Proofs.YtafbheamnjmfoaaGreat.VRow
set_option linter.unusedVariables false

/-- each block that S names is as it was -/
def KeptT (S : Nat → TypeId → Prop) (w w' : World) : Prop := ∀ (g : Nat) (cs : Array Value) (t : TypeId) (fz : Nat × Nat), S g t → w.heap[g]? = some (.cells cs t fz) → w'.heap[g]? = some (.cells cs t fz)
theorem KeptT.refl (S : Nat → TypeId → Prop) (w : World) : KeptT S w w := fun _ _ _ _ _ h => h
theorem KeptT.trans {S S' : Nat → TypeId → Prop} {a b c : World} (h : KeptT S a b) (h' : KeptT S' b c) (hS : ∀ g t, g < a.heap.size → S g t → S' g t) : KeptT S a c := fun g cs t fz hn hh => h' g cs t fz (hS g t (Array.getElem?_eq_some_iff.1 hh).1 hn) (h g cs t fz hn hh)
theorem KeptT.mono {S S' : Nat → TypeId → Prop} {a b : World} (h : KeptT S a b) (hS : ∀ g t, g < a.heap.size → S' g t → S g t) : KeptT S' a b := fun g cs t fz hn hh => h g cs t fz (hS g t (Array.getElem?_eq_some_iff.1 hh).1 hn) hh
theorem KeptT.of_below {S : Nat → TypeId → Prop} {w w' : World} (h : Below w.heap.size w w') : KeptT S w w' := fun g cs t fz _ hh => (h.block g (Array.getElem?_eq_some_iff.1 hh).1).trans hh
theorem KeptT.of_block {S : Nat → TypeId → Prop} {w w' : World} {k : Nat} {cs : Array Value} {t : TypeId} {fz : Nat × Nat} (hk : w.heap[k]? = some (.cells cs t fz)) (ht : ¬ S k t) (h : ∀ g, g < w.heap.size → g ≠ k → w'.heap[g]? = w.heap[g]?) : KeptT S w w' := fun g cs' t' fz' hn hh => by
  have hg := (Array.getElem?_eq_some_iff.1 hh).1
  by_cases e : g = k
  · subst e
    rw [hk] at hh
    cases hh
    exact absurd hn ht
  · exact (h g hg e).trans hh
theorem KeptT.setCell {S : Nat → TypeId → Prop} {w : World} {p : Addr} {cs : Array Value} {t : TypeId} (hk : Box.Holds w p.block t cs) (ht : ¬ S p.block t) (u : Value) : KeptT S w (w.setCell p u) :=
  KeptT.of_block hk ht fun g _ hne => Below.heap_setCell w p u g hne
theorem KeptT.grown {S : Nat → TypeId → Prop} {w w' : World} {B e size n : Nat} {v : Value} {xs : List Value} (hown : w.ownsRow B e size v n xs) (he : ∀ b, v.ownBlock = some b → ¬ S b e) (hg : w.grownBy w' v.ownBlock) : KeptT S w w' := by
  rcases hown.2 with ⟨rfl, _⟩ | ⟨g, cap, cur, rfl, _, hh, _⟩
  · exact fun g cs t fz _ hh => (hg.block g (Array.getElem?_eq_some_iff.1 hh).1 (by simp [Value.ownBlock])).trans hh
  · exact KeptT.of_block hh (he g rfl) fun k hk hne => hg.block k hk (by simp [Value.ownBlock]; omega)
theorem KeptT.drawn {S : Nat → TypeId → Prop} {a w : World} (h : KeptT S a w) (n : Nat) : KeptT S a (w.drewN n) := h
theorem KeptT.holds {S : Nat → TypeId → Prop} {w w' : World} {g : Nat} {t : TypeId} {cs : Array Value} (h : KeptT S w w') (hg : Box.Holds w g t cs) (hn : S g t) : Box.Holds w' g t cs := h g cs t (0, 0) hn hg
theorem KeptT.own {S : Nat → TypeId → Prop} {w w' : World} {B e size n : Nat} {v : Value} {xs : List Value} (hb : KeptT S w w') (h : w.ownsRow B e size v n xs) (hn : ∀ b, v.ownBlock = some b → S b e) : w'.ownsRow B e size v n xs := by
  refine ⟨h.1, ?_⟩
  rcases h.2 with h0 | ⟨g, cap, cur, rfl, hB, hg, rest⟩
  · exact .inl h0
  · exact .inr ⟨g, cap, cur, rfl, hB, hb g _ _ _ (hn g rfl) hg, rest⟩
theorem KeptT.kept {S : Nat → TypeId → Prop} {w w' : World} (h : KeptT S w w') (hS : ∀ g t, numT t = true → S g t) : Kept w w' := fun g cs t fz hn hh => h g cs t fz (hS g t hn) hh
/-- nothing below B has turned, and what S names is as it was -/
structure Fr (B : Nat) (S : Nat → TypeId → Prop) (w w' : World) : Prop where
  below : Below B w w'
  kept : KeptT S w w'
theorem Fr.refl (B : Nat) (S : Nat → TypeId → Prop) (w : World) : Fr B S w w := ⟨Below.refl _ _, KeptT.refl _ _⟩
theorem Fr.trans {B : Nat} {S S' : Nat → TypeId → Prop} {a b c : World} (h : Fr B S a b) (h' : Fr B S' b c) (hS : ∀ g t, g < a.heap.size → S g t → S' g t) : Fr B S a c := ⟨h.below.trans h'.below, h.kept.trans h'.kept hS⟩
theorem Fr.mono {B B' : Nat} {S S' : Nat → TypeId → Prop} {a b : World} (h : Fr B S a b) (hB : B' ≤ B) (hS : ∀ g t, g < a.heap.size → S' g t → S g t) : Fr B' S' a b := ⟨h.below.mono hB, h.kept.mono hS⟩
theorem Fr.later {B : Nat} {S : Nat → TypeId → Prop} {a w w' : World} (h : Fr B S a w) (hb : Below w.heap.size w w') (hB : B ≤ a.heap.size) : Fr B S a w' := h.trans (S' := S) ⟨hb.mono (Nat.le_trans hB h.below.size), KeptT.of_below hb⟩ fun _ _ _ h => h
theorem Fr.of_below {B : Nat} {S : Nat → TypeId → Prop} {w w' : World} (h : Below w.heap.size w w') (hB : B ≤ w.heap.size) : Fr B S w w' := ⟨h.mono hB, KeptT.of_below h⟩
theorem Fr.alloc {B : Nat} {S : Nat → TypeId → Prop} {a w : World} (h : Fr B S a w) (hB : B ≤ a.heap.size) (o : Obj) : Fr B S a (w.alloc o) := h.later (Ref.below_one' o (Nat.le_refl _)) hB
theorem Fr.drawn {B : Nat} {S : Nat → TypeId → Prop} {a w : World} (h : Fr B S a w) (n : Nat) : Fr B S a (w.drewN n) := ⟨Box.below_drawn h.below n, h.kept⟩
theorem Fr.setCell {B : Nat} {S : Nat → TypeId → Prop} {a w : World} (h : Fr B S a w) {p : Addr} {cs : Array Value} {t : TypeId} (hk : Box.Holds w p.block t cs) (hB : B ≤ p.block) (ht : p.block < a.heap.size → ¬ S p.block t) (u : Value) : Fr B S a (w.setCell p u) := by
  refine ⟨h.below.setCell hB u, fun g cs' t' fz' hn hh => ?_⟩
  have h1 := h.kept g cs' t' fz' hn hh
  by_cases e : g = p.block
  · subst e
    have hk' : w.heap[p.block]? = some (.cells cs t (0, 0)) := hk
    rw [hk'] at h1
    cases h1
    exact absurd hn (ht (Array.getElem?_eq_some_iff.1 hh).1)
  · exact (Below.heap_setCell w p u g e).trans h1
theorem Fr.grown {B : Nat} {S : Nat → TypeId → Prop} {a w w' : World} {e size n : Nat} {v : Value} {xs : List Value} (h : Fr B S a w) (hown : w.ownsRow B e size v n xs) (he : ∀ b, v.ownBlock = some b → b < a.heap.size → ¬ S b e) (hg : w.grownBy w' v.ownBlock) (hB : B ≤ a.heap.size) : Fr B S a w' := by
  refine ⟨h.below.grown hg (Nat.le_trans hB h.below.size) fun k hk => (World.ownsRow.lt hown k hk).1, fun g cs t fz hn hh => ?_⟩
  have h1 := h.kept g cs t fz hn hh
  have hgl := (Array.getElem?_eq_some_iff.1 hh).1
  refine (hg.block g (Array.getElem?_eq_some_iff.1 h1).1 fun eg => ?_).trans h1
  rcases hown.2 with ⟨rfl, _⟩ | ⟨b, cap, cur, rfl, _, hb, _⟩
  · cases eg
  · simp only [Value.ownBlock, Option.some.injEq] at eg
    subst eg
    rw [hb] at h1
    cases h1
    exact he g rfl hgl hn

/-- numbers' blocks, and values' blocks, but for one -/
def SX (x : Option Nat) (g : Nat) (t : TypeId) : Prop := numT t = true ∨ t = 28 ∧ some g ≠ x
def KeptX (x : Option Nat) (w w' : World) : Prop := KeptT (SX x) w w'
theorem KeptX.kept {x : Option Nat} {w w' : World} (h : KeptX x w w') : Kept w w' := fun g cs t fz hn hh => h g cs t fz (.inl hn) hh
theorem KeptX.trans {x x' : Option Nat} {a b c : World} (h : KeptX x a b) (h' : KeptX x' b c) (hx : ∀ g, x' = some g → x = some g ∨ a.heap.size ≤ g) : KeptX x a c := KeptT.trans h h' fun g t hl hn => by
  rcases hn with hn | ⟨ht, hg⟩
  · exact .inl hn
  · refine .inr ⟨ht, fun e => ?_⟩
    rcases hx g e.symm with h1 | h1
    · exact hg h1.symm
    · omega

/-- a row of records of k cells each, its own -/
def OwnR (e : TypeId) (k : Nat) (w : World) (B : Nat) (v : Value) (L : List (List Value)) : Prop := w.ownsRow B e k v L.length L.flatten ∧ ∀ x ∈ L, x.length = k
theorem flat_length {k : Nat} : ∀ {L : List (List Value)}, (∀ x ∈ L, x.length = k) → L.flatten.length = L.length * k
  | [], _ => by simp
  | x :: r, h => by
    have := flat_length (L := r) fun y hy => h y (List.mem_cons_of_mem _ hy)
    rw [List.flatten_cons, List.length_append, this, h x List.mem_cons_self, List.length_cons, Nat.add_mul, Nat.one_mul, Nat.add_comm]
theorem flat_at {k : Nat} : ∀ (L : List (List Value)), (∀ x ∈ L, x.length = k) → ∀ (j : Nat) (hj : j < L.length) (i : Nat), i < k → L.flatten[j * k + i]? = L[j][i]?
  | [], _, j, hj, _, _ => by simp at hj
  | x :: r, h, 0, hj, i, hi => by
    have hx := h x List.mem_cons_self
    simp only [List.flatten_cons, Nat.zero_mul, Nat.zero_add, List.getElem_cons_zero]
    rw [List.getElem?_append_left (by omega)]
  | x :: r, h, j + 1, hj, i, hi => by
    have hx := h x List.mem_cons_self
    have := flat_at r (fun y hy => h y (List.mem_cons_of_mem _ hy)) j (by simpa using hj) i hi
    simp only [List.flatten_cons, List.getElem_cons_succ]
    rw [List.getElem?_append_right (by rw [hx, Nat.add_mul]; omega), ← this]
    congr 1
    rw [hx, Nat.add_mul]; omega
theorem OwnR.nil (e : TypeId) (k : Nat) (w : World) (B : Nat) : OwnR e k w B (.slice none 0 0) [] := ⟨World.ownsRow_nil _ _ _ _, fun x h => by cases h⟩
theorem OwnR.kept {e : TypeId} {k : Nat} {S : Nat → TypeId → Prop} {w w' : World} {B : Nat} {v : Value} {L : List (List Value)} (h : OwnR e k w B v L) (hb : KeptT S w w') (hn : ∀ b, v.ownBlock = some b → S b e) : OwnR e k w' B v L := ⟨hb.own h.1 hn, h.2⟩
theorem OwnR.later {e : TypeId} {k : Nat} {w w' : World} {B : Nat} {v : Value} {L : List (List Value)} (h : OwnR e k w B v L) (hb : Below w.heap.size w w') : OwnR e k w' B v L := ⟨Own.own_below h.1 hb, h.2⟩
theorem OwnR.lower {e : TypeId} {k : Nat} {w : World} {B B' : Nat} {v : Value} {L : List (List Value)} (h : OwnR e k w B v L) (hB : B' ≤ B) : OwnR e k w B' v L := ⟨World.ownsRow.mono h.1 hB, h.2⟩
theorem OwnR.lt {e : TypeId} {k : Nat} {w : World} {B : Nat} {v : Value} {L : List (List Value)} (h : OwnR e k w B v L) : ∀ b, v.ownBlock = some b → B ≤ b ∧ b < w.heap.size := World.ownsRow.lt h.1
theorem OwnR.forms {e : TypeId} {k : Nat} {w : World} {B : Nat} {v : Value} {L : List (List Value)} (h : OwnR e k w B v L) :
    (v = .slice none 0 0 ∧ L = []) ∨ ∃ g cap, v = .slice (some ⟨g, 0, none⟩) L.length cap ∧ g < w.heap.size ∧ B ≤ g ∧ L.length ≤ cap ∧ (∃ cur, w.heap[g]? = some (.cells cur e (0, 0))) ∧ ∀ j (hj : j < L.length) i, i < k → w.cell? ⟨g, j * k + i, none⟩ = L[j][i]? := by
  rcases h.1.2 with ⟨rfl, h0⟩ | ⟨g, cap, cur, rfl, hB, hg, hc, _⟩
  · exact .inl ⟨rfl, List.eq_nil_of_length_eq_zero h0⟩
  · refine .inr ⟨g, cap, rfl, (Array.getElem?_eq_some_iff.1 hg).1, hB, hc, ⟨cur, hg⟩, fun j hj i hi => ?_⟩
    have hlt : j * k + i < L.length * k := by
      have : (j + 1) * k ≤ L.length * k := Nat.mul_le_mul_right _ hj
      rw [Nat.add_mul] at this
      omega
    rw [World.ownsRow.cellAt h.1 (j * k + i) hlt, flat_at L h.2 j hj i hi]
theorem OwnR.shape {e : TypeId} {k : Nat} {w : World} {B : Nat} {v : Value} {L : List (List Value)} (h : OwnR e k w B v L) : ∃ A cap, v = .slice A L.length cap := by
  rcases h.forms with ⟨rfl, rfl⟩ | ⟨g, cap, rfl, _⟩
  · exact ⟨none, 0, rfl⟩
  · exact ⟨_, _, rfl⟩

/-- 'append(v, x)' of one record, v the call's own, x in a new block -/
theorem wpList_rec {t e : TypeId} {k bytes : Nat} {i0 : TypeInfo} {z : Value} (ht : Tryz.prog.underlying t = some (.slice e)) (hi : Tryz.prog.info? e = some i0) (hz0 : i0.zero = some z) (hz1 : i0.size = k) (hz2 : i0.bytes = bytes) (hzs : z.cells.size = k) (hk : 0 < k) (hbt : bytes ≤ 1000)
    {ops : Array Oper} {rest : List Oper} {o : Oper} {a : Act} {Q : Exit → Act → World → Prop} {wr : World} {B : Nat} (hgd : o.guard = Option.none) (s x : Operand)
    (ho : o.op = .call { callee := .builtin .append, args := #[s, x], argTypes := #[t, t] })
    (v : Value) (L : List (List Value)) (hs : a.eval s = v) (hv : OwnR e k wr B v L) (hB : B ≤ wr.heap.size) (c : Array Value) (hc : c.size = k) (h1 : ∀ u ∈ c.toList, u.oneCell' = true)
    (hx : a.eval x = .slice (some ⟨wr.heap.size, 0, Option.none⟩) 1 1) (hn : L.length ≤ 1000000)
    (h : ∀ v' w', OwnR e k w' B v' (L ++ [c.toList]) → wr.grownBy w' v.ownBlock → (∀ b, v'.ownBlock = some b → v.ownBlock = some b ∨ wr.heap.size < b) → wpList Tryz.prog ops Q rest (a.put o.dst v') w') :
    wpList Tryz.prog ops Q (o :: rest) a (wr.alloc (.cells c e)) := by
  have hb1 : (L.length + 1) * bytes ≤ (1000000 + 1) * 1000 := Nat.mul_le_mul (by omega) hbt
  refine wpList_plain hgd fun _ hK => wp_append_lies _ s x t ho B e i0 z k bytes ht hi hz0 hz1 hz2 hzs hk v L.length L.flatten hs (World.ownsRow.alloc hv.1 _) ⟨wr.heap.size, 0, Option.none⟩ 1 1 c.toList hx (by simp [hc])
    ?_ h1 (by omega) (by unfold maxLen; omega) (by omega) (by simp; omega) (wr.heap.size + 1) (by simp) ?_
  · intro j u hu
    rw [show ((⟨wr.heap.size, 0, none⟩ : Addr).add j) = ⟨wr.heap.size, j, none⟩ by unfold Addr.add; split <;> simp_all]
    rw [(Box.Holds.made wr e c).cell j, ← hu]
    simp
  · intro g cap w' hown' hg hlies hlt
    refine hK _ _ (h _ w' ⟨by rw [List.length_append, List.flatten_append]; simpa using hown', fun y hy => ?_⟩ ⟨hg.os, hg.tape, hg.output, ?_, fun b hb hbn => ?_⟩ ?_)
    · rw [List.mem_append, List.mem_singleton] at hy
      rcases hy with hy | rfl
      · exact hv.2 y hy
      · simp [hc]
    · have := hg.size; simp at this; omega
    · exact (hg.block b (by simp; omega) hbn).trans (heap_alloc_old wr _ hb)
    · intro b hb
      simp only [Value.ownBlock, Option.some.injEq] at hb
      subst hb
      rcases hlies with e | e
      · exact .inl e
      · exact .inr (by omega)

/-- what a value that is told looks like -/
def IsAv (x : Option Nat) (w : World) (y : V6) : Av → Prop
  | .sc s => IsSc w y s
  | .list l => ∃ u, y = ⟨.int .i64 6, .bool false, .slice none 0 0, .int .u64 0, .string ⟨#[]⟩, u⟩ ∧ Vals w 0 u l ∧ (∀ b, u.ownBlock = some b → x ≠ some b)
theorem vals_kept {x : Option Nat} {w w' : World} {B : Nat} {u : Value} {l : List Sc} (h : Vals w B u l) (hk : KeptX x w w') (hn : ∀ b, u.ownBlock = some b → x ≠ some b) : Vals w' B u l := by
  obtain ⟨L, h1, h2⟩ := h
  refine ⟨L, ⟨h1.1, ?_⟩, h2.mono fun a b hab => hab.kept hk.kept⟩
  rcases h1.2 with h0 | ⟨g, cap, cur, rfl, hB, hg, rest⟩
  · exact .inl h0
  · exact .inr ⟨g, cap, cur, rfl, hB, hk g _ _ _ (.inr ⟨rfl, fun e => hn g rfl e.symm⟩) hg, rest⟩
theorem IsAv.kept {x x' : Option Nat} {w w' : World} {y : V6} {v : Av} (h : IsAv x w y v) (hk : KeptX x w w') (hx : ∀ g, x' = some g → x = some g ∨ w.heap.size ≤ g) : IsAv x' w' y v := by
  cases v with
  | sc s => exact IsSc.kept h hk.kept
  | list l =>
    obtain ⟨u, h1, h2, h3⟩ := h
    refine ⟨u, h1, vals_kept h2 hk h3, fun b hb e => ?_⟩
    rcases hx b e with h4 | h4
    · exact h3 b hb h4
    · obtain ⟨L, h5, _⟩ := h2
      have := (World.ownsRow.lt h5 b hb).2
      omega
theorem IsAv.one {x : Option Nat} {w : World} {y : V6} {v : Av} (h : IsAv x w y v) : y.One := by
  cases v with
  | sc s => exact IsSc.one h
  | list l =>
    obtain ⟨u, rfl, h2, _⟩ := h
    obtain ⟨A, cap, rfl⟩ := h2.shape
    intro u hu
    simp [V6.cs] at hu
    rcases hu with rfl | rfl | rfl | rfl | rfl | rfl <;> rfl
/-- an answer's ten cells -/
def ansCs (ok is_ : Bool) (n : Int) (y : V6) : Array Value := #[.bool ok, .bool is_, .int .i64 n, y.k, y.n, y.m, y.b, y.t, y.s, .slice none 0 0]
def IsAn (x : Option Nat) (w : World) (c : List Value) (a : An) : Prop := ∃ y, c = (ansCs a.ok a.is_ a.n y).toList ∧ IsAv x w y a.v
/-- a step's seventeen cells -/
def stepCs (k i j s : Int) (y : V6) : Array Value := #[.int .i64 k, .int .i64 i, .int .i64 j, .int .i64 s, y.k, y.n, y.m, y.b, y.t, y.s, .int .i64 0, .bool false, .slice none 0 0, .int .u64 0, .string ⟨#[]⟩, .slice none 0 0, .slice none 0 0]
def Sp.fits (k i j s : Int) (a : Sc) : Sp → Prop
  | .append x => k = 0 ∧ a = x
  | .set n x => k = 1 ∧ i = n ∧ a = x
  | .index n => k = 2 ∧ i = n ∧ a = .none
  | .clear => k = 3 ∧ a = .none
  | .len => k = 4 ∧ a = .none
  | .open_ => k = 5 ∧ a = .none
  | .next n => k = 6 ∧ i = n ∧ a = .none
  | .done n => k = 7 ∧ i = n ∧ a = .none
  | .freeze => k = 8 ∧ a = .none
  | .truth => k = 11 ∧ a = .none
  | .slice x y z => k = 27 ∧ i = x ∧ j = y ∧ s = z ∧ a = .none
def IsSp (w : World) (c : List Value) (p : Sp) : Prop := ∃ k i j s y a, c = (stepCs k i j s y).toList ∧ IsSc w y a ∧ p.fits k i j s a
theorem IsSp.kept {w w' : World} {c : List Value} {p : Sp} (h : IsSp w c p) (hk : Kept w w') : IsSp w' c p := by
  obtain ⟨k, i, j, s, y, a, h1, h2, h3⟩ := h
  exact ⟨k, i, j, s, y, a, h1, h2.kept hk, h3⟩
theorem IsAn.kept {x x' : Option Nat} {w w' : World} {c : List Value} {a : An} (h : IsAn x w c a) (hk : KeptX x w w') (hx : ∀ g, x' = some g → x = some g ∨ w.heap.size ≤ g) : IsAn x' w' c a := by
  obtain ⟨y, h1, h2⟩ := h
  exact ⟨y, h1, h2.kept hk hx⟩
theorem stepCs_one {k i j s : Int} {y : V6} (h : y.One) : ∀ u ∈ (stepCs k i j s y).toList, u.oneCell' = true := by
  intro u hu
  have h' : u ∈ y.cs ∨ u.oneCell' = true := by
    simp only [stepCs, List.mem_cons, List.mem_nil_iff, or_false] at hu
    simp only [V6.cs, List.mem_cons, List.mem_nil_iff, or_false]
    rcases hu with h | h | h | h | h | h | h | h | h | h | h | h | h | h | h | h | h
    all_goals first | (left; simp [h]; done) | (right; rw [h]; rfl)
  rcases h' with h' | h'
  · exact h u h'
  · exact h'
theorem ansCs_one {ok is_ : Bool} {n : Int} {y : V6} (h : y.One) : ∀ u ∈ (ansCs ok is_ n y).toList, u.oneCell' = true := by
  intro u hu
  have h' : u ∈ y.cs ∨ u.oneCell' = true := by
    simp only [ansCs, List.mem_cons, List.mem_nil_iff, or_false] at hu
    simp only [V6.cs, List.mem_cons, List.mem_nil_iff, or_false]
    rcases hu with h | h | h | h | h | h | h | h | h | h
    all_goals first | (left; simp [h]; done) | (right; rw [h]; rfl)
  rcases h' with h' | h'
  · exact h u h'
  · exact h'
theorem info_step : (Tryz.prog.info? 62).map (fun i => (i.zero, i.size, i.bytes)) = some (some (.agg #[.int .i64 0, .int .i64 0, .int .i64 0, .int .i64 0, .int .i64 0, .bool false, .slice none 0 0, .int .u64 0, .string ⟨#[]⟩, .slice none 0 0, .int .i64 0, .bool false, .slice none 0 0, .int .u64 0, .string ⟨#[]⟩, .slice none 0 0, .slice none 0 0]), 17, 232) := by kernel_rfl
theorem info_ans : (Tryz.prog.info? 64).map (fun i => (i.zero, i.size, i.bytes)) = some (some (.agg #[.bool false, .bool false, .int .i64 0, .int .i64 0, .bool false, .slice none 0 0, .int .u64 0, .string ⟨#[]⟩, .slice none 0 0, .slice none 0 0]), 10, 128) := by kernel_rfl
/-- a row of steps, a row of answers -/
def Steps (w : World) (B : Nat) (v : Value) (S : List Sp) : Prop := ∃ L, OwnR 62 17 w B v L ∧ All (IsSp w) L S
def Anss (x : Option Nat) (w : World) (B : Nat) (v : Value) (S : List An) : Prop := ∃ L, OwnR 64 10 w B v L ∧ All (IsAn x w) L S
theorem Steps.nil (w : World) (B : Nat) : Steps w B (.slice none 0 0) [] := ⟨[], OwnR.nil _ _ _ _, All.nil _⟩
theorem Anss.nil (x : Option Nat) (w : World) (B : Nat) : Anss x w B (.slice none 0 0) [] := ⟨[], OwnR.nil _ _ _ _, All.nil _⟩
theorem Steps.kept {S : Nat → TypeId → Prop} {w w' : World} {B : Nat} {v : Value} {P : List Sp} (h : Steps w B v P) (hb : KeptT S w w') (hk : Kept w w') (hn : ∀ b, v.ownBlock = some b → S b 62) : Steps w' B v P := by
  obtain ⟨L, h1, h2⟩ := h
  exact ⟨L, h1.kept hb hn, h2.mono fun a b hab => hab.kept hk⟩
theorem Anss.kept {S : Nat → TypeId → Prop} {x x' : Option Nat} {w w' : World} {B : Nat} {v : Value} {A : List An} (h : Anss x w B v A) (hb : KeptT S w w') (hk : KeptX x w w') (hn : ∀ b, v.ownBlock = some b → S b 64) (hx : ∀ g, x' = some g → x = some g ∨ w.heap.size ≤ g) : Anss x' w' B v A := by
  obtain ⟨L, h1, h2⟩ := h
  exact ⟨L, h1.kept hb hn, h2.mono fun a b hab => hab.kept hk hx⟩
theorem Steps.lt {w : World} {B : Nat} {v : Value} {S : List Sp} (h : Steps w B v S) : ∀ b, v.ownBlock = some b → B ≤ b ∧ b < w.heap.size := by obtain ⟨L, h1, _⟩ := h; exact h1.lt
theorem Anss.lt {x : Option Nat} {w : World} {B : Nat} {v : Value} {S : List An} (h : Anss x w B v S) : ∀ b, v.ownBlock = some b → B ≤ b ∧ b < w.heap.size := by obtain ⟨L, h1, _⟩ := h; exact h1.lt
theorem Steps.shape {w : World} {B : Nat} {v : Value} {S : List Sp} (h : Steps w B v S) : ∃ A cap, v = .slice A S.length cap := by obtain ⟨L, h1, h2⟩ := h; rw [← h2.1]; exact h1.shape
theorem Anss.shape {x : Option Nat} {w : World} {B : Nat} {v : Value} {S : List An} (h : Anss x w B v S) : ∃ A cap, v = .slice A S.length cap := by obtain ⟨L, h1, h2⟩ := h; rw [← h2.1]; exact h1.shape

/-- 'append(steps, s)' -/
theorem wpList_step {ops : Array Oper} {rest : List Oper} {o : Oper} {a : Act} {Q : Exit → Act → World → Prop} {wr : World} {B : Nat} (hgd : o.guard = Option.none) (s x : Operand)
    (ho : o.op = .call { callee := .builtin .append, args := #[s, x], argTypes := #[34, 34] })
    (v : Value) (S : List Sp) (hs : a.eval s = v) (hv : Steps wr B v S) (hB : B ≤ wr.heap.size) (k i j m : Int) (y : V6) (t : Sc) (p : Sp) (hy : IsSc wr y t) (hp : p.fits k i j m t)
    (hx : a.eval x = .slice (some ⟨wr.heap.size, 0, Option.none⟩) 1 1) (hn : S.length ≤ 1000000)
    (h : ∀ v' w', Steps w' B v' (S ++ [p]) → wr.grownBy w' v.ownBlock → (∀ b, v'.ownBlock = some b → v.ownBlock = some b ∨ wr.heap.size < b) → wpList Tryz.prog ops Q rest (a.put o.dst v') w') :
    wpList Tryz.prog ops Q (o :: rest) a (wr.alloc (.cells (stepCs k i j m y) 62)) := by
  obtain ⟨L, h1, h2⟩ := hv
  obtain ⟨i0, hi, hz0, hz1, hz2⟩ := info_parts info_step
  refine wpList_rec Tryz.underlying34 hi hz0 hz1 hz2 rfl (by decide) (by decide) hgd s x ho v L hs h1 hB _ rfl (stepCs_one hy.one) hx (by rw [h2.1]; exact hn) fun v' w' h3 h4 h5 => h v' w' ⟨_, h3, ?_⟩ h4 h5
  have hk : Kept wr w' := Kept.grown h1.1 rfl h4
  exact (h2.mono fun a b hab => hab.kept hk).snoc ⟨k, i, j, m, y, t, rfl, hy.kept hk, hp⟩
theorem wpList_ans {ops : Array Oper} {rest : List Oper} {o : Oper} {a : Act} {Q : Exit → Act → World → Prop} {wr : World} {B : Nat} {ex : Option Nat} (hgd : o.guard = Option.none) (s x : Operand)
    (ho : o.op = .call { callee := .builtin .append, args := #[s, x], argTypes := #[36, 36] })
    (v : Value) (S : List An) (hs : a.eval s = v) (hv : Anss ex wr B v S) (hB : B ≤ wr.heap.size) (y : V6) (p : An) (hy : IsAv ex wr y p.v)
    (hx : a.eval x = .slice (some ⟨wr.heap.size, 0, Option.none⟩) 1 1) (hn : S.length ≤ 1000000)
    (h : ∀ v' w', Anss ex w' B v' (S ++ [p]) → wr.grownBy w' v.ownBlock → (∀ b, v'.ownBlock = some b → v.ownBlock = some b ∨ wr.heap.size < b) → wpList Tryz.prog ops Q rest (a.put o.dst v') w') :
    wpList Tryz.prog ops Q (o :: rest) a (wr.alloc (.cells (ansCs p.ok p.is_ p.n y) 64)) := by
  obtain ⟨L, h1, h2⟩ := hv
  obtain ⟨i0, hi, hz0, hz1, hz2⟩ := info_parts info_ans
  refine wpList_rec Tryz.underlying36 hi hz0 hz1 hz2 rfl (by decide) (by decide) hgd s x ho v L hs h1 hB _ rfl (ansCs_one hy.one) hx (by rw [h2.1]; exact hn) fun v' w' h3 h4 h5 => h v' w' ⟨_, h3, ?_⟩ h4 h5
  have hk : KeptX ex wr w' := KeptT.grown h1.1 (fun b _ hs => by rcases hs with hs | hs; cases hs; exact absurd hs.1 (by decide)) h4
  exact (h2.mono fun a b hab => hab.kept hk fun g hg => .inl hg).snoc ⟨y, rfl, hy.kept hk fun g hg => .inl hg⟩
end Go.Proofs.YtafbheamnjmfoaaGreat.Ls

namespace Go.Proofs.YtafbheamnjmfoaaGreat.Ls
open Go.RowKit Go.WideShapes Go.Proofs.YtafbheamnjmfoaaGreat.Sc Go.Proofs.YtafbheamnjmfoaaGreat.VRow
set_option linter.unusedVariables false

def plV : Option Nat → Value
  | none => .int .i64 (-1)
  | some p => .int .i64 p
theorem plV_one (o : Option Nat) : (plV o).oneCell' = true := by cases o <;> rfl
/-- the guard's cells, and its row of places -/
structure Gd (w : World) (B bg : Nat) (va : Value) (st : St) : Prop where
  hold : Box.Holds w bg 60 #[.bool st.fz, va, .int .i64 (openN st.at_)]
  row : w.ownsRow B 3 1 va st.at_.length (st.at_.map plV)
  ge : B ≤ bg
theorem Gd.kept {P : Nat → TypeId → Prop} {w w' : World} {B bg : Nat} {va : Value} {st : St} (h : Gd w B bg va st) (hk : KeptT P w w') (h1 : ∀ g, P g 60) (h2 : ∀ g, P g 3) : Gd w' B bg va st :=
  ⟨hk.holds h.hold (h1 _), hk.own h.row fun _ _ => h2 _, h.ge⟩
theorem Gd.later {w w' : World} {B bg : Nat} {va : Value} {st : St} (h : Gd w B bg va st) (hb : Below w.heap.size w w') : Gd w' B bg va st := h.kept (KeptT.of_below (S := fun _ _ => True) hb) (fun _ => trivial) (fun _ => trivial)
theorem Gd.shape {w : World} {B bg : Nat} {va : Value} {st : St} (h : Gd w B bg va st) : ∃ A c, va = .slice A st.at_.length c := by
  rcases h.row.2 with ⟨e, h0⟩ | ⟨g', cap, cur, e, _⟩
  · exact ⟨_, _, by rw [e, h0]⟩
  · exact ⟨_, _, e⟩
theorem Gd.cell {w : World} {B bg : Nat} {va : Value} {st : St} (h : Gd w B bg va st) {i : Nat} (hi : i < st.at_.length) : ∃ r cap, va = .slice (some ⟨r, 0, none⟩) st.at_.length cap ∧ B ≤ r ∧ r < w.heap.size ∧ st.at_.length ≤ cap ∧ w.cell? ⟨r, i, none⟩ = some (plV st.at_[i]) ∧ w.frozen? ⟨r, i, none⟩ = false ∧ ∃ cs, Box.Holds w r 3 cs := by
  rcases id h.row.2 with ⟨_, h0⟩ | ⟨r, cap, cur, e, hB, hr, hc, _⟩
  · omega
  · have row := h.row
    rw [e] at row
    refine ⟨r, cap, e, hB, (Array.getElem?_eq_some_iff.1 hr).1, hc, ?_, World.ownsRow.frozenAt row i, cur, hr⟩
    rw [World.ownsRow.cellAt row i (by omega), List.getElem?_map, List.getElem?_eq_getElem hi]
    rfl
theorem Gd.open_le {w : World} {B bg : Nat} {va : Value} {st : St} (h : Gd w B bg va st) : openN st.at_ ≤ st.at_.length := List.countP_le_length

set_option maxRecDepth 100000 in
theorem fixed_any {w : World} {B bg : Nat} {va : Value} {st : St} (h : Gd w B bg va st) : Calls Tryz.prog 32 #[.pointer (some ⟨bg, 0, none⟩)] w fun e w' => e = .returned (.bool st.fixed) ∧ w = w' := by
  have k0 := h.hold.cell 0
  have k2 := h.hold.cell 2
  simp at k0 k2
  have hl := h.hold.lt
  obtain ⟨n, hn⟩ : ∃ n, openN st.at_ = n := ⟨_, rfl⟩
  obtain ⟨z, hz⟩ : ∃ z, decide (0 < n) = z := ⟨_, rfl⟩
  have hfx : st.fixed = (st.fz || z) := by unfold St.fixed; rw [hn, hz]
  rw [hfx]
  rw [hn] at k2
  cases hf : st.fz with
  | true =>
    rw [hf] at k0
    clear h hfx hz
    go_enter Tryz.func32, Tryz.ntmps32
    go_wp2
    go_ret
    exact ⟨rfl, rfl⟩
  | false =>
    rw [hf] at k0
    have hz' : decide (0 < n) = z := hz
    clear h hfx
    go_enter Tryz.func32, Tryz.ntmps32
    go_wp2
    go_ret
    exact ⟨rfl, rfl⟩

theorem openN_take_succ {l : List (Option Nat)} {i : Nat} (hi : i < l.length) : openN (l.take (i + 1)) = openN (l.take i) + if l[i].isSome then 1 else 0 := by
  rw [List.take_succ_eq_append_getElem hi]
  simp only [openN, List.countP_append, List.countP_cons, List.countP_nil]
  omega
theorem openN_take_le (l : List (Option Nat)) (i : Nat) : openN (l.take i) ≤ openN l := (List.take_sublist i l).countP_le
/-- an open iterator, or none -/
def Picked (st : St) (w : World) (e : Ending) (w' : World) : Prop := ((openN st.at_ = 0 ∧ e = .returned (.tuple #[.int .i64 0, .bool false])) ∨ ∃ (i p : Nat), st.at_[i]? = some (some p) ∧ e = .returned (.tuple #[.int .i64 i, .bool true])) ∧ w = w'
set_option maxHeartbeats 1000000 in
set_option maxRecDepth 100000 in
theorem pick_any {w : World} {B bg : Nat} {va : Value} {st : St} (x : Int) (h : Gd w B bg va st) (hl : st.at_.length ≤ 900) : Calls Tryz.prog 56 #[.pointer (some ⟨bg, 0, none⟩), .int .i64 x] w (Picked st w) := by
  obtain ⟨A0, c0, rfl⟩ := h.shape
  have k1 := h.hold.cell 1
  have k2 := h.hold.cell 2
  simp at k1 k2
  have hgl := h.hold.lt
  have hle := h.open_le
  have ht := Lib.hid fun m h1 h2 W => turn_any x m W h1 h2
  obtain ⟨n, hn⟩ : ∃ n, openN st.at_ = n := ⟨_, rfl⟩
  rw [hn] at k2 hle
  have h' := Lib.hid h
  clear h
  by_cases h0 : n = 0
  · subst h0
    go_enter Tryz.func56, Tryz.ntmps56
    go_wp2
    go_ret2
    exact ⟨.inl ⟨hn, rfl⟩, rfl⟩
  · have hne : ((n : Int) == 0) = false := by simp; omega
    go_enter Tryz.func56, Tryz.ntmps56
    go_wp2_with fail
    refine (ht.out _ (by omega) (by omega) _).mono ?_
    rintro e w' ⟨⟨y, rfl, hy0, hy1⟩, rfl⟩
    obtain ⟨K, rfl⟩ : ∃ K : Nat, y = K := ⟨y.toNat, by omega⟩
    have hK : K < n := by omega
    clear hy0 hy1
    go_wp2_with fail
    go_loopw [6, 7] (fun k i wr => ∃ (j q : Nat), i = .int .i64 j ∧ k = .int .i64 q ∧ j ≤ st.at_.length ∧ Hid (openN (st.at_.take j) + q = K) ∧ wr = w) (fun _ i _ => st.at_.length - (intOf i).toNat)
    case atStart => exact ⟨0, K, rfl, rfl, Nat.zero_le _, Lib.hid (by simp [openN]), rfl⟩
    case round =>
      obtain ⟨j, q, rfl, rfl, hj, hc, rfl⟩ := hrel
      by_cases hlt : j < st.at_.length
      · obtain ⟨r, cap, he, hB, hrl, hcap, hcell, hfr, -⟩ := h'.out.cell hlt
        simp only [Value.slice.injEq, true_and] at he
        obtain ⟨rfl, rfl⟩ := he
        have hs := Lib.hid (openN_take_succ hlt)
        have hget := List.getElem?_eq_getElem hlt
        cases ha : st.at_[j] with
        | none =>
          rw [ha] at hcell hs hget
          simp only [plV] at hcell
          have hc2 := Lib.hid (show openN (st.at_.take (j + 1)) + q = K by have h1 := hs.out; have h2 := hc.out; simp at h1; omega)
          clear hs hc
          go_wp2
          go_roundw
          case rel => exact ⟨j + 1, q, by go_num, rfl, by omega, hc2, trivial⟩
          case measure => simp [intOf]; omega
        | some p =>
          rw [ha] at hcell hs hget
          simp only [plV] at hcell
          by_cases hq : q = 0
          · subst hq
            have hfin := Lib.hid (show Picked st wr (.returned (.tuple #[.int .i64 j, .bool true])) wr from ⟨.inr ⟨j, p, hget, rfl⟩, rfl⟩)
            clear hs hc
            go_wp2
            go_ret2
            exact hfin.out
          · have hq0 : ((q : Int) == 0) = false := by simp; omega
            obtain ⟨q', rfl⟩ : ∃ q', q = q' + 1 := ⟨q - 1, by omega⟩
            have hc2 := Lib.hid (show openN (st.at_.take (j + 1)) + q' = K by have h1 := hs.out; have h2 := hc.out; simp at h1; omega)
            have hqb := Lib.hid (show q' + 1 ≤ K by have h2 := hc.out; omega)
            have hqb2 := hqb.out
            clear hs hc hqb
            go_wp2
            go_roundw
            case rel => exact ⟨j + 1, q', by go_num, by go_num, by omega, hc2, trivial⟩
            case measure => simp [intOf]; omega
      · exfalso
        obtain rfl : j = st.at_.length := by omega
        have h2 := hc.out
        rw [List.take_length, hn] at h2
        omega
end Go.Proofs.YtafbheamnjmfoaaGreat.Ls
