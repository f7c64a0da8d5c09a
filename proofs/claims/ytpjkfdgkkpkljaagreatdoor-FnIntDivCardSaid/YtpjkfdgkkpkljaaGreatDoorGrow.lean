/-
  slices.Grow at rows of words.
-/
import Derived.Test.YtpjkfdgkkpkljaaGreatDoorSec
import Derived.Lib.AppendZerosOnto
import Derived.Lib.Walk
import Derived.Lib.SliceRun
namespace Go.Proofs.YtpjkfdgkkpkljaaGreatDoor.Nat_
open Go.RowKit Go.WideShapes Go.Proofs.YtpjkfdgkkpkljaaGreatDoor Go.Proofs.YtpjkfdgkkpkljaaGreatDoor.Own Go.Proofs.YtpjkfdgkkpkljaaGreatDoor.Num Go.Proofs.YtpjkfdgkkpkljaaGreatDoor.Ref
set_option linter.unusedVariables false

theorem size_zeros (z : Array Value) (n : Nat) : (Builtin.zeroCells z n).size = n * z.size := by simp [Builtin.zeroCells]
theorem toArray_app (L : List Value) (A B : Array Value) : L.toArray ++ A ++ B = List.toArray (L ++ A.toList ++ B.toList) := by
  apply Array.ext'
  simp
/-- no room: a new row, the old words first -/
theorem run_grow (T tn : TypeId) (hT : Tryz.prog.underlying T = some (.slice 111)) (kn : IntKind) (htn : Tryz.prog.underlying tn = some (.int kn)) (base : Option Addr) (l c n : Nat) (L : List Value) (w : World) (hlc : l ≤ c) (hL : L.length = c) (hb : ∀ g, base = some g → ∃ g', g = ⟨g', 0, none⟩ ∧ Wd w g' L) (h0 : base = none → c = 0) (hn : c < l + n) (hbig : l + n ≤ 100000) :
    ∃ c' L', (∀ ty, (Builtin.append_ #[T, tn] ty #[.slice base c c, .int .i64 ((n : Int) - ((c : Int) - (l : Int)))]).run Tryz.prog w = .ok (.slice (some ⟨w.heap.size, 0, none⟩) (l + n) c') (w.drew.alloc (.cells (List.toArray L') 111))) ∧ L'.length = c' ∧ l + n ≤ c' ∧ c' ≤ maxLen ∧ ∀ j, j < c → L'[j]? = L[j]? := by
  obtain ⟨i0, hi, hz0, hz1, hz2⟩ := info_parts info_word
  have hold : (Builtin.firstCells i0.size c (.slice base c c)).run Tryz.prog w.drew = .ok L.toArray w.drew := by
    cases base with
    | none =>
      have h1 := h0 rfl
      subst h1
      have hc0 : L = [] := List.length_eq_zero_iff.1 hL
      rw [hc0]
      exact run_firstCells_none w.drew i0.size 0 0 0
    | some a =>
      obtain ⟨g', rfl, hw⟩ := hb a rfl
      refine run_firstCells_some w.drew i0.size c ⟨g', 0, none⟩ c c L (by rw [hz1, Nat.mul_one, hL]) fun j v hj => ?_
      have e : ((⟨g', 0, none⟩ : Addr).add j) = ⟨g', j, none⟩ := by unfold Addr.add; split <;> simp_all
      rw [e]
      exact (hw.cell j).trans hj
  have hck : c + (l + n - c) = l + n := by omega
  have h := fun ty => Lib.run_append_grow_zeros w T tn ty 111 i0 (.int .u64 0) .i64 kn hT htn hi hz0 base c c L hold (l + n - c) (by omega) (by rw [hz1]; omega) (by omega) (by omega) (by rw [hz2]; omega) (by rw [hck]; exact growslice_fits hn (by rw [hz2]; omega))
  rw [hck] at h
  rw [show (n : Int) - ((c : Int) - (l : Int)) = ((l + n - c : Nat) : Int) by omega]
  have hG := grownCap_ge w (l + n) c 111
  refine ⟨grownCap w (l + n) c 111, L ++ (Builtin.zeroCells (Value.cells (.int .u64 0)) (l + n - c)).toList ++ (Builtin.zeroCells (Value.cells (.int .u64 0)) (grownCap w (l + n) c 111 - (l + n))).toList, ?_, ?_, hG, grownCap_le_maxLen w _ _ _ (by unfold maxLen; omega), fun j hj => ?_⟩
  · intro ty
    rw [h, toArray_app]
  · have hs : (Value.cells (.int .u64 0)).size = 1 := rfl
    simp only [List.length_append, Array.length_toList, size_zeros, hs, hL]
    omega
  · rw [List.append_assoc, List.getElem?_append_left (by omega)]

/-- what Grow hands out: the same row, or a new one -/
def Grown (w : World) (base : Option Addr) (l c n : Nat) (L : List Value) (e : Ending) (w' : World) : Prop :=
  (l + n ≤ c ∧ e = .returned (.slice base l c) ∧ w' = w) ∨ (c < l + n ∧ ∃ c' L', e = .returned (.slice (some ⟨w.heap.size, 0, none⟩) l c') ∧ w' = w.drew.alloc (.cells (List.toArray L') 111) ∧ L'.length = c' ∧ l + n ≤ c' ∧ c' ≤ maxLen ∧ ∀ j, j < c → L'[j]? = L[j]?)

set_option maxHeartbeats 4000000 in
set_option maxRecDepth 100000 in
theorem grown_any (base : Option Addr) (l c n : Nat) (L : List Value) (w : World) (hlc : l ≤ c) (hL : L.length = c) (hc63 : c ≤ maxLen) (hb : ∀ g, base = some g → ∃ g', g = ⟨g', 0, none⟩ ∧ Wd w g' L) (h0 : base = none → c = 0) (hbig : l + n ≤ 100000) :
    Calls Tryz.prog 124 #[.slice base l c, .int .i64 n] w (Grown w base l c n L) := by
  unfold maxLen at hc63
  have h1 : ¬ ((n : Int) < 0) := by omega
  have h2 : wrap64 ((c : Int) - (l : Int)) = (c : Int) - (l : Int) := by unfold wrap64; omega
  have h3 : wrap64 ((n : Int) - ((c : Int) - (l : Int))) = (n : Int) - ((c : Int) - (l : Int)) := by unfold wrap64; omega
  rcases Nat.lt_or_ge c (l + n) with hn | hn
  · have h4 : (n : Int) - ((c : Int) - (l : Int)) > 0 := by omega
    obtain ⟨c', L', hr, h6, h7, h8, h9⟩ := run_grow 83 3 Tryz.underlying83 .i64 Tryz.underlying3 base l c n L w hlc hL hb h0 hn hbig
    have h8' : c' ≤ 9223372036854775807 := by unfold maxLen at h8; omega
    have hfin := Lib.hid (show Grown w base l c n L (.returned (.slice (some ⟨w.heap.size, 0, none⟩) l c')) (w.drew.alloc (.cells (List.toArray L') 111)) from .inr ⟨hn, c', L', rfl, rfl, h6, h7, h8, h9⟩)
    clear h6 h8 h9 hb hL
    go_enter Tryz.func124, Tryz.ntmps124
    cases base with
    | none =>
      have hc0 := h0 rfl
      subst hc0
      obtain rfl : l = 0 := by omega
      go_wp2_with (at_builtin; refine Lib.wpList_append_run _ rfl _ _ _ _ rfl _ _ rfl rfl _ _ (hr _) ?_)
      all_goals (go_ret; exact hfin.out)
    | some a =>
      obtain ⟨ab, ao, asp⟩ := a
      go_wp2_with (at_builtin; refine Lib.wpList_append_run _ rfl _ _ _ _ rfl _ _ rfl rfl _ _ (hr _) ?_)
      all_goals (go_ret; exact hfin.out)
  · have h4 : ¬ ((n : Int) - ((c : Int) - (l : Int)) > 0) := by omega
    have hfin := Lib.hid (show Grown w base l c n L (.returned (.slice base l c)) w from .inl ⟨hn, rfl, rfl⟩)
    clear hb hL
    go_enter Tryz.func124, Tryz.ntmps124
    go_wp2
    go_ret
    exact hfin.out

set_option maxHeartbeats 4000000 in
set_option maxRecDepth 100000 in
theorem groww_any (base : Option Addr) (l c n : Nat) (L : List Value) (w : World) (hlc : l ≤ c) (hL : L.length = c) (hc63 : c ≤ maxLen) (hb : ∀ g, base = some g → ∃ g', g = ⟨g', 0, none⟩ ∧ Wd w g' L) (h0 : base = none → c = 0) (hbig : l + n ≤ 100000) :
    Calls Tryz.prog 144 #[.slice base l c, .int .i64 n] w (Grown w base l c n L) := by
  unfold maxLen at hc63
  have h1 : ¬ ((n : Int) < 0) := by omega
  have h2 : wrap64 ((c : Int) - (l : Int)) = (c : Int) - (l : Int) := by unfold wrap64; omega
  have h3 : wrap64 ((n : Int) - ((c : Int) - (l : Int))) = (n : Int) - ((c : Int) - (l : Int)) := by unfold wrap64; omega
  rcases Nat.lt_or_ge c (l + n) with hn | hn
  · have h4 : (n : Int) - ((c : Int) - (l : Int)) > 0 := by omega
    obtain ⟨c', L', hr, h6, h7, h8, h9⟩ := run_grow 82 3 Tryz.underlying82 .i64 Tryz.underlying3 base l c n L w hlc hL hb h0 hn hbig
    have h8' : c' ≤ 9223372036854775807 := by unfold maxLen at h8; omega
    have hfin := Lib.hid (show Grown w base l c n L (.returned (.slice (some ⟨w.heap.size, 0, none⟩) l c')) (w.drew.alloc (.cells (List.toArray L') 111)) from .inr ⟨hn, c', L', rfl, rfl, h6, h7, h8, h9⟩)
    clear h6 h8 h9 hb hL
    go_enter Tryz.func144, Tryz.ntmps144
    cases base with
    | none =>
      have hc0 := h0 rfl
      subst hc0
      obtain rfl : l = 0 := by omega
      go_wp2_with (at_builtin; refine Lib.wpList_append_run _ rfl _ _ _ _ rfl _ _ rfl rfl _ _ (hr _) ?_)
      all_goals (go_ret; exact hfin.out)
    | some a =>
      obtain ⟨ab, ao, asp⟩ := a
      go_wp2_with (at_builtin; refine Lib.wpList_append_run _ rfl _ _ _ _ rfl _ _ rfl rfl _ _ (hr _) ?_)
      all_goals (go_ret; exact hfin.out)
  · have h4 : ¬ ((n : Int) - ((c : Int) - (l : Int)) > 0) := by omega
    have hfin := Lib.hid (show Grown w base l c n L (.returned (.slice base l c)) w from .inl ⟨hn, rfl, rfl⟩)
    clear hb hL
    go_enter Tryz.func144, Tryz.ntmps144
    go_wp2
    go_ret
    exact hfin.out
end Go.Proofs.YtpjkfdgkkpkljaaGreatDoor.Nat_
