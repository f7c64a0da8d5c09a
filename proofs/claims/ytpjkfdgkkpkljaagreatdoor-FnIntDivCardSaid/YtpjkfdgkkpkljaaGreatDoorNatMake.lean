/-
  The package's naturals: a new row of zeros.
-/
import Derived.Test.YtpjkfdgkkpkljaaGreatDoorNat
import Derived.Laws.MakeOwn
namespace Go.Proofs.YtpjkfdgkkpkljaaGreatDoor.Nat_
open Go.RowKit Go.WideShapes Go.Proofs.YtpjkfdgkkpkljaaGreatDoor.Own Go.Proofs.YtpjkfdgkkpkljaaGreatDoor.Num
set_option linter.unusedVariables false

theorem info_word : (Tryz.prog.info? 111).map (fun i => (i.zero, i.size, i.bytes)) = some (some (.int .u64 0), 1, 8) := by kernel_rfl
theorem dig_nil (n : Nat) : dig W 0 n = List.replicate n 0 := by
  apply List.ext_getElem?
  intro j
  by_cases h : j < n
  · rw [dig_get _ _ _ _ h, List.getElem?_replicate, if_pos h]; simp
  · rw [List.getElem?_eq_none (by rw [dig_length]; omega), List.getElem?_eq_none (by simp; omega)]
theorem zeros_cells (c : Nat) : madeCells (Value.cells (.int .u64 0)) c = (ws (List.replicate c 0)).toArray := by
  apply Array.ext'
  simp [madeCells, ws, Value.cells, Array.toList_range]
  apply List.ext_getElem?
  intro j
  by_cases h : j < c
  · simp [h, Nat.mod_one]
  · rw [List.getElem?_eq_none (by simp; omega), List.getElem?_eq_none (by simp; omega)]
theorem run_new (n c : Nat) (hnc : n ≤ c) (hc : c ≤ 1000000) (w : World) (l : Int) (hl : l = n) (cc : Int) (hcc : cc = c) :
    (Instr.makeSlice 83 (.int .i64 l) (.int .i64 cc)).run Tryz.prog w = .ok (.slice (some ⟨w.heap.size, 0, none⟩) n c) (w.alloc (.cells (ws (List.replicate c 0)).toArray 111)) := by
  obtain ⟨i0, hi, hz0, hz1, hz2⟩ := info_parts info_word
  subst hl hcc
  have := run_make (P := Tryz.prog) (w := w) 83 111 i0 (.int .u64 0) Tryz.underlying83 hi hz0 .i64 .i64 (n : Int) (c : Int) (by omega) (by omega) (by rw [hz2]; omega) (by omega)
  rw [hz1, Nat.mul_one] at this
  simp only [Int.toNat_natCast] at this
  rw [zeros_cells] at this
  exact this
theorem own_new (n c B : Nat) (hnc : n ≤ c) (hc : c ≤ 1000000) (w : World) (hB : B ≤ w.heap.size) : OwnW (w.alloc (.cells (ws (List.replicate c 0)).toArray 111)) B (.slice (some ⟨w.heap.size, 0, none⟩) n c) (dig W 0 n) := by
  unfold OwnW
  rw [dig_length, dig_nil]
  refine ⟨by simp [ws], .inr ⟨w.heap.size, c, _, rfl, hB, heap_alloc_new w _, hnc, by unfold maxLen; omega, by simp [ws], ?_⟩⟩
  simp [ws, List.take_replicate]
  omega

set_option maxRecDepth 100000 in
/-- a new row of n zeros, n from 2 on -/
theorem make_any (n : Nat) (hn : n ≤ 10000) (w : World) :
    Calls Tryz.prog 77 #[.slice none 0 0, .int .i64 n] w fun e w' => (∃ v, e = .returned v ∧ OwnW w' w.heap.size v (dig W 0 n)) ∧ Below w.heap.size w w' := by
  rcases Nat.lt_trichotomy n 1 with h | h | h
  · obtain rfl : n = 0 := by omega
    go_enter Tryz.func77, Tryz.ntmps77
    go_wp2
    go_ret
    exact ⟨⟨_, rfl, World.ownsRow_nil _ _ _ _⟩, Below.refl _ _⟩
  · subst h
    have hr := fun W => run_new 1 1 (by omega) (by omega) W 1 rfl 1 rfl
    go_enter Tryz.func77, Tryz.ntmps77
    go_wp2
    go_ret
    exact ⟨⟨_, rfl, own_new 1 1 _ (by omega) (by omega) w (Nat.le_refl _)⟩, (Below.refl _ _).alloc (Nat.le_refl _) _⟩
  · have hr := fun W => run_new n (n + 4) (by omega) (by omega) W n rfl (n + 4) (by omega)
    have hb : ((n : Int) == 1) = false := by simp; omega
    go_enter Tryz.func77, Tryz.ntmps77
    go_wp2
    go_ret
    exact ⟨⟨_, rfl, own_new n (n + 4) _ (by omega) (by omega) w (Nat.le_refl _)⟩, (Below.refl _ _).alloc (Nat.le_refl _) _⟩
end Go.Proofs.YtpjkfdgkkpkljaaGreatDoor.Nat_
