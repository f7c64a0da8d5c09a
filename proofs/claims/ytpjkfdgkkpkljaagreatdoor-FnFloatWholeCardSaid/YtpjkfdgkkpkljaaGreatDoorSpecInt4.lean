/-
  The reference's integers: the eight bytes of a number, and the integer of a number.
-/
import Derived.Test.YtpjkfdgkkpkljaaGreatDoorSpecInt
namespace Go.Proofs.YtpjkfdgkkpkljaaGreatDoor.Ref
open Go.RowKit Go.WideShapes Go.Proofs.YtpjkfdgkkpkljaaGreatDoor.Own Go.Proofs.YtpjkfdgkkpkljaaGreatDoor.Num
set_option linter.unusedVariables false

def part (u i : Nat) : List UInt8 := (List.range 8).map fun k => if i ≤ k then UInt8.ofNat (u / 256 ^ (7 - k) % 256) else 0
theorem part_length (u i : Nat) : (part u i).length = 8 := by simp [part]
theorem part_zero (u : Nat) : part u 0 = bytes8 u := by
  apply List.ext_getElem?
  intro k
  by_cases hk : k < 8
  · rw [bytes8_get u k hk]; simp [part, hk]
  · rw [List.getElem?_eq_none (by rw [part_length]; omega), List.getElem?_eq_none (by rw [bytes8_length]; omega)]
theorem part_step (u j : Nat) (hj : j < 8) : (bs (part u (j + 1))).set j (.int .u8 ((u / 256 ^ (7 - j) % 256 : Nat) : Int)) = bs (part u j) := by
  have e : (Value.int .u8 ((u / 256 ^ (7 - j) % 256 : Nat) : Int)) = .int .u8 ((UInt8.ofNat (u / 256 ^ (7 - j) % 256)).toNat : Int) := by simp
  rw [e]
  unfold bs
  rw [← List.map_set]
  congr 1
  apply List.ext_getElem?
  intro k
  rw [List.getElem?_set]
  by_cases hk : k < 8
  · by_cases h1 : j = k
    · subst h1; simp [part, hk]
    · rw [if_neg h1]; simp [part, hk]
      by_cases h2 : j ≤ k
      · rw [if_pos (by omega), if_pos h2]
      · rw [if_neg (by omega), if_neg h2]
  · rw [List.getElem?_eq_none (by rw [part_length]; omega), List.getElem?_eq_none (l := part u j) (by rw [part_length]; omega)]
    split
    · rw [if_neg (by rw [part_length]; omega)]
    · rfl

theorem part_eight (u : Nat) : part u 8 = part 0 0 := by
  apply List.ext_getElem?
  intro k
  by_cases hk : k < 8
  · simp [part, hk]; omega
  · rw [List.getElem?_eq_none (by rw [part_length]; omega), List.getElem?_eq_none (by rw [part_length]; omega)]

set_option maxRecDepth 100000 in
theorem bytesof_any (u : Nat) (hu : u < 18446744073709551616) (w : World) :
    Calls Tryz.prog 21 #[.int .u64 u] w fun e w' => (∃ v, e = .returned v ∧ Owns w' w.heap.size v (bytes8 u)) ∧ Below w.heap.size w w' := by
  have hmk : ∀ w : World, (Instr.makeSlice 22 (.int .i64 8) (.int .i64 8)).run Tryz.prog w = .ok (.slice (some ⟨w.heap.size, 0, none⟩) 8 8) (w.alloc (.cells (bs (part 0 0)).toArray 5)) := fun w => by kernel_rfl
  go_enter Tryz.func21, Tryz.ntmps21
  go_wp2
  have hown : (w.alloc (.cells (bs (part 0 0)).toArray 5)).ownsRow w.heap.size 5 1 (.slice (some ⟨w.heap.size, 0, none⟩) 8 8) 8 (bs (part u 8)) := by
    rw [part_eight]
    have := World.ownsRow_lit (base := w.heap.size) (e := 5) (size := 1) w (bs (part 0 0)).toArray 8 (Nat.le_refl _) (by decide) (by simp [bs, part_length])
    simpa using this
  have hb0 : Below w.heap.size w (w.alloc (.cells (bs (part 0 0)).toArray 5)) := (Below.refl _ _).alloc (Nat.le_refl _) _
  clear hmk
  go_loopw [0, 4] (fun x i wr => ∃ j : Nat, j ≤ 8 ∧ i = .int .i64 ((j : Int) - 1) ∧ x = .int .u64 ((u / 256 ^ (8 - j) : Nat) : Int) ∧ wr.ownsRow w.heap.size 5 1 (.slice (some ⟨w.heap.size, 0, none⟩) 8 8) 8 (bs (part u j)) ∧ Below w.heap.size w wr) (fun _ i _ => (intOf i + 1).toNat)
  case atStart => exact ⟨8, by omega, rfl, by simp, hown, hb0⟩
  case round =>
    clear hown hb0
    obtain ⟨j, hj, rfl, rfl, hown, hb⟩ := hrel
    cases j with
    | succ j =>
      have e : ((j + 1 : Nat) : Int) - 1 = j := by omega
      rw [e]
      have hc0 := World.ownsRow.cellAt hown j (by omega)
      have hf0 := World.ownsRow.frozenAt hown j
      obtain ⟨cv, hcv⟩ : ∃ cv, (bs (part u (j + 1)))[j]? = some cv := ⟨_, List.getElem?_eq_getElem (by rw [bs_length, part_length]; omega)⟩
      rw [hcv] at hc0
      have hst := World.ownsRow.stored hown j (.int .u8 ((u / 256 ^ (7 - j) % 256 : Nat) : Int))
      rw [part_step u j (by omega)] at hst
      rw [show 8 - (j + 1) = 7 - j by omega]
      have hdiv : u / 256 ^ (7 - j) / 256 = u / 256 ^ (8 - j) := by rw [Nat.div_div_eq_div_mul, ← Nat.pow_succ]; congr 2; omega
      obtain ⟨U, hU⟩ : ∃ U, u / 256 ^ (7 - j) = U := ⟨_, rfl⟩
      have hUlt : U < 18446744073709551616 := by rw [← hU]; exact Nat.lt_of_le_of_lt (Nat.div_le_self _ _) hu
      rw [hU] at hst hdiv ⊢
      obtain ⟨M, hM⟩ : ∃ M, U % 256 = M := ⟨_, rfl⟩
      have hM' : IntKind.u8.wrap (U : Int) = M := by rw [IntKind.wrap_u8]; omega
      obtain ⟨Q, hQ⟩ : ∃ Q, U / 256 = Q := ⟨_, rfl⟩
      have hQ' : (U : Int) / 256 = Q := by omega
      rw [hM] at hst
      rw [hQ] at hdiv
      have hdiv' := Lib.hid hdiv
      clear hcv e hU hM hQ hdiv
      go_wp2
      go_roundw
      case rel => exact ⟨j, by omega, rfl, by rw [hdiv'.out], hst.1, hb.setCell (Nat.le_refl _) _⟩
      case measure => simp [intOf]
    | zero =>
      go_wp2
      go_ret
      rw [part_zero] at hown
      exact ⟨⟨_, rfl, by unfold Owns; rw [bytes8_length]; exact hown⟩, hb⟩

/-- the magnitude of a number of 64 bits with a sign -/
def absN (z : Int) : Nat := z.natAbs
set_option maxRecDepth 100000 in
theorem small_any (z : Int) (h1 : -9223372036854775808 ≤ z) (h2 : z ≤ 9223372036854775807) (w : World) :
    Calls Tryz.prog 8 #[.int .i64 z] w fun e w' => (∃ v, e = .returned v ∧ IsInt w' w.heap.size v (decide (z < 0)) z.natAbs) ∧ Below w.heap.size w w' := by
  obtain ⟨U, hU⟩ : ∃ U, z.natAbs = U := ⟨_, rfl⟩
  have hUlt : U < 18446744073709551616 := by omega
  have hby := Lib.hid fun w => bytesof_any U hUlt w
  have hof := Lib.hid fun b a cap W (h : Rd W a (bytes8 U)) hc ha => of_any b a cap (bytes8 U) W h (by rw [bytes8_length]; omega) hc ha
  rw [bytes8_length, be_bytes8 U hUlt] at hof
  rw [hU]
  by_cases hz : z < 0
  · have hd : decide (z < 0) = true := by simp [hz]
    have e1 : IntKind.u64.wrap (-IntKind.u64.wrap z) = U := by rw [IntKind.wrap_u64, IntKind.wrap_u64]; omega
    have hU0 : 0 < U := by omega
    have hp : decide (0 < U) = true := by simp; omega
    rw [hd]
    rw [hp] at hof
    have hU0' := Lib.hid hU0
    clear hU h1 h2 hUlt hp hU0
    go_enter Tryz.func8, Tryz.ntmps8
    go_wp2_with fail
    refine (hby.out _).mono ?_
    rintro e w1 ⟨⟨v, rfl, ho⟩, hb1⟩
    obtain ⟨a, cap, rfl, hr, hc⟩ := Rd.of_own ho
    have hcn : a = none → cap = 0 := fun h => by
      subst h
      rcases hr with ⟨_, h0⟩ | ⟨x, h0, _⟩
      · have := bytes8_length U; rw [h0] at this; simp at this
      · cases h0
    rw [bytes8_length] at hc ⊢
    go_wp2_with fail
    refine (hof.out true a cap _ hr hc hcn).mono ?_
    rintro e w2 ⟨⟨v2, rfl, u2, rfl, ho2, hp2⟩, hb2⟩
    obtain ⟨a2, c2, rfl, hr2, hc2⟩ := Rd.of_own ho2
    obtain ⟨n2, hn2⟩ : ∃ n, (mag U).length = n := ⟨_, rfl⟩
    rw [hn2] at ho2 ⊢
    have hsz1 := hb1.size
    have hsz2 := hb2.size
    simp at hsz1
    have hb12 : Below (w.heap.size + 1) (w.alloc (.cells #[.bool false, .slice none 0 0] 24)) w2 := by
      have := hb1.trans (hb2.mono hb1.size)
      simpa using this
    have hk : Box.Holds w2 w.heap.size 24 #[.bool false, .slice none 0 0] := (Box.Holds.made w _ _).below hb12 (by omega)
    have k0 := hk.cell 0
    have k1 := hk.cell 1
    simp at k0 k1
    have f0 := hk.free 0
    have f1 := hk.free 1
    have hfin := Lib.hid (World.ownsRow.mono (Box.own_above ho2 (((Box.Above.refl _ _).setCell (p := ⟨w.heap.size, 0, none⟩) (by show w.heap.size < w1.heap.size; omega) (.bool true)).setCell (p := ⟨w.heap.size, 1, none⟩) (by show w.heap.size < w1.heap.size; omega) (.slice a2 n2 c2))) (show w.heap.size ≤ w1.heap.size by omega))
    have hbel : Below w.heap.size w w2 := ((Below.refl _ _).alloc (Nat.le_refl _) _).trans (hb12.mono (by omega))
    go_wp2
    exact bodyPost_ret (v := .agg #[.bool true, .slice a2 n2 c2]) (by simp [results, Tryz.results8, go_sem, k0, k1]) rfl ⟨⟨_, rfl, .slice a2 n2 c2, rfl, hfin.out, fun _ => hU0'.out⟩, (hbel.setCell (Nat.le_refl _) _).setCell (Nat.le_refl _) _⟩
  · have hd : decide (z < 0) = false := by simp [hz]
    have e1 : IntKind.u64.wrap z = U := by rw [IntKind.wrap_u64]; omega
    rw [hd]
    clear hU h1 h2 hUlt
    go_enter Tryz.func8, Tryz.ntmps8
    go_wp2_with fail
    refine (hby.out _).mono ?_
    rintro e w1 ⟨⟨v, rfl, ho⟩, hb1⟩
    obtain ⟨a, cap, rfl, hr, hc⟩ := Rd.of_own ho
    have hcn : a = none → cap = 0 := fun h => by
      subst h
      rcases hr with ⟨_, h0⟩ | ⟨x, h0, _⟩
      · have := bytes8_length U; rw [h0] at this; simp at this
      · cases h0
    rw [bytes8_length] at hc ⊢
    go_wp2_with fail
    refine (hof.out false a cap _ hr hc hcn).mono ?_
    rintro e w2 ⟨⟨v2, rfl, u2, rfl, ho2, hp2⟩, hb2⟩
    obtain ⟨a2, c2, rfl, hr2, hc2⟩ := Rd.of_own ho2
    obtain ⟨n2, hn2⟩ : ∃ n, (mag U).length = n := ⟨_, rfl⟩
    rw [hn2] at ho2 ⊢
    have hsz1 := hb1.size
    have hsz2 := hb2.size
    simp at hsz1
    have hb12 : Below (w.heap.size + 1) (w.alloc (.cells #[.bool false, .slice none 0 0] 24)) w2 := by
      have := hb1.trans (hb2.mono hb1.size)
      simpa using this
    have hk : Box.Holds w2 w.heap.size 24 #[.bool false, .slice none 0 0] := (Box.Holds.made w _ _).below hb12 (by omega)
    have k0 := hk.cell 0
    have k1 := hk.cell 1
    simp at k0 k1
    have f0 := hk.free 0
    have f1 := hk.free 1
    have hfin := Lib.hid (World.ownsRow.mono (Box.own_above ho2 (((Box.Above.refl _ _).setCell (p := ⟨w.heap.size, 0, none⟩) (by show w.heap.size < w1.heap.size; omega) (.bool false)).setCell (p := ⟨w.heap.size, 1, none⟩) (by show w.heap.size < w1.heap.size; omega) (.slice a2 n2 c2))) (show w.heap.size ≤ w1.heap.size by omega))
    have hbel : Below w.heap.size w w2 := ((Below.refl _ _).alloc (Nat.le_refl _) _).trans (hb12.mono (by omega))
    go_wp2
    exact bodyPost_ret (v := .agg #[.bool false, .slice a2 n2 c2]) (by simp [results, Tryz.results8, go_sem, k0, k1]) rfl ⟨⟨_, rfl, .slice a2 n2 c2, rfl, hfin.out, fun h => by cases h⟩, (hbel.setCell (Nat.le_refl _) _).setCell (Nat.le_refl _) _⟩
end Go.Proofs.YtpjkfdgkkpkljaaGreatDoor.Ref
