/-
  The digits of a product, a carry at a time. Plain. The reference's product of two integers.
-/
import Derived.Test.YtpjkfdgkkpkljaaGreatDoorSetLaw
import Derived.Test.YtpjkfdgkkpkljaaGreatDoorIntOut
import Derived.Test.YtpjkfdgkkpkljaaGreatDoorSpecInt4
import Derived.Test.YtpjkfdgkkpkljaaGreatDoorSpecInt2
import Derived.Test.YtpjkfdgkkpkljaaGreatDoorStarSmall
import Derived.Laws.MakeOwn
namespace Go.Proofs.YtpjkfdgkkpkljaaGreatDoor.Num
set_option linter.unusedVariables false

/-- a number with one digit put in another's place -/
def putDig (b A j d : Nat) : Nat := A / b ^ (j + 1) * b ^ (j + 1) + d * b ^ j + A % b ^ j
theorem dig_parts {b : Nat} (hb : 0 < b) (A j : Nat) : A = A / b ^ (j + 1) * b ^ (j + 1) + A / b ^ j % b * b ^ j + A % b ^ j := by
  have h1 := Nat.div_add_mod A (b ^ j)
  have h2 := Nat.div_add_mod (A / b ^ j) b
  rw [Nat.div_div_eq_div_mul, ← Nat.pow_succ] at h2
  have h3 : A / b ^ j * b ^ j = A / b ^ (j + 1) * b ^ (j + 1) + A / b ^ j % b * b ^ j := by
    conv => lhs; rw [← h2]
    rw [Nat.add_mul, Nat.pow_succ, Nat.mul_comm b, Nat.mul_assoc, Nat.mul_comm b]
  rw [Nat.mul_comm] at h1
  omega
theorem dig_put {b : Nat} (hb : 0 < b) (A n j d : Nat) (hd : d < b) : (dig b A n).set j d = dig b (putDig b A j d) n := by
  have hj : 0 < b ^ j := Nat.pow_pos hb
  have hj1 : 0 < b ^ (j + 1) := Nat.pow_pos hb
  have hlow : d * b ^ j + A % b ^ j < b ^ (j + 1) := by
    have h1 := Nat.mod_lt A hj
    have h2 : d * b ^ j + b ^ j ≤ b * b ^ j := by rw [← Nat.succ_mul]; exact Nat.mul_le_mul_right _ hd
    rw [Nat.pow_succ, Nat.mul_comm _ b]
    omega
  have e1 : putDig b A j d % b ^ j = A % b ^ j := by
    unfold putDig
    rw [Nat.pow_succ, Nat.mul_comm (b ^ j) b, ← Nat.mul_assoc, ← Nat.add_mul, Nat.mul_comm _ (b ^ j), Nat.mul_add_mod, Nat.mod_mod]
  have e2 : putDig b A j d / b ^ (j + 1) = A / b ^ (j + 1) := by
    unfold putDig
    rw [Nat.add_assoc, Nat.mul_comm, Nat.mul_add_div hj1, Nat.div_eq_of_lt hlow, Nat.add_zero]
  have e3 : putDig b A j d / b ^ j % b = d := by
    unfold putDig
    rw [Nat.pow_succ, Nat.mul_comm (b ^ j) b, ← Nat.mul_assoc, ← Nat.add_mul, Nat.mul_comm _ (b ^ j), Nat.mul_add_div hj, Nat.div_eq_of_lt (Nat.mod_lt _ hj), Nat.add_zero, Nat.mul_comm _ b, Nat.mul_add_mod, Nat.mod_eq_of_lt hd]
  apply List.ext_getElem?
  intro k
  rw [List.getElem?_set]
  by_cases hk : k < n
  · rw [dig_get _ _ _ _ hk, dig_get _ _ _ _ hk, dig_length]
    rcases Nat.lt_trichotomy k j with h | h | h
    · rw [if_neg (by omega)]
      have m1 := mod_digit hb A j k
      have m2 := mod_digit hb (putDig b A j d) j k
      rw [if_pos h] at m1 m2
      rw [e1] at m2
      rw [← m1, m2]
    · subst h
      rw [if_pos rfl, if_pos hk, e3]
    · rw [if_neg (by omega)]
      have hs : ∀ V, V / b ^ k = V / b ^ (j + 1) / b ^ (k - j - 1) := fun V => by rw [Nat.div_div_eq_div_mul, ← Nat.pow_add, show j + 1 + (k - j - 1) = k by omega]
      rw [hs A, hs (putDig b A j d), e2]
  · rw [List.getElem?_eq_none (l := dig b _ n) (by rw [dig_length]; omega), List.getElem?_eq_none (l := dig b _ n) (by rw [dig_length]; omega)]
    split
    · rw [if_neg (by rw [dig_length]; omega)]
    · rfl
/-- one more product, its carry -/
theorem mul_step (A c j z T s : Nat) (h : A + c * 256 ^ j = T) (hs : A / 256 ^ j % 256 + z + c = s) : putDig 256 A j (s % 256) + s / 256 * 256 ^ (j + 1) = T + z * 256 ^ j := by
  have hp := dig_parts (b := 256) (by decide) A j
  unfold putDig
  have h1 : s % 256 * 256 ^ j + s / 256 * 256 ^ (j + 1) = s * 256 ^ j := by
    have h2 := Nat.div_add_mod s 256
    conv => rhs; rw [← h2]
    rw [Nat.add_mul, Nat.pow_succ, Nat.mul_comm 256 (s / 256), Nat.mul_assoc, Nat.mul_comm 256]
    omega
  have h3 : s * 256 ^ j = A / 256 ^ j % 256 * 256 ^ j + z * 256 ^ j + c * 256 ^ j := by rw [← hs, Nat.add_mul, Nat.add_mul]
  omega
/-- the partial product: rows 0 .. i of x, the first k digits of y in row i -/
def rowSum (x y i k : Nat) : Nat := x % 256 ^ i * y + x / 256 ^ i % 256 * (y % 256 ^ k) * 256 ^ i
theorem rowSum_zero (x y i : Nat) : rowSum x y i 0 = x % 256 ^ i * y := by
  unfold rowSum
  rw [Nat.pow_zero, Nat.mod_one, Nat.mul_zero, Nat.zero_mul, Nat.add_zero]
theorem rowSum_step (x y i k : Nat) : rowSum x y i (k + 1) = rowSum x y i k + x / 256 ^ i % 256 * (y / 256 ^ k % 256) * 256 ^ (i + k) := by
  unfold rowSum
  have h : y % 256 ^ (k + 1) = y % 256 ^ k + 256 ^ k * (y / 256 ^ k % 256) := by rw [Nat.pow_succ, Nat.mod_mul]
  rw [h, Nat.mul_add, Nat.add_mul, Nat.pow_add, Nat.add_assoc]
  congr 2
  rw [Nat.mul_comm (256 ^ k), ← Nat.mul_assoc, Nat.mul_assoc, Nat.mul_comm (256 ^ k)]
theorem rowSum_full (x y i k : Nat) (h : y < 256 ^ k) : rowSum x y i k = x % 256 ^ (i + 1) * y := by
  unfold rowSum
  rw [Nat.mod_eq_of_lt h, Nat.pow_succ, Nat.mod_mul, Nat.add_mul]
  congr 1
  rw [Nat.mul_right_comm, Nat.mul_comm (x / 256 ^ i % 256)]
theorem rowSum_lt (x y i k n : Nat) (hy : y < 256 ^ n) : rowSum x y i k < 256 ^ (i + 1 + n) := by
  have hle : rowSum x y i k ≤ x % 256 ^ (i + 1) * y := by
    have e : x % 256 ^ (i + 1) * y = x % 256 ^ i * y + x / 256 ^ i % 256 * y * 256 ^ i := by
      rw [Nat.pow_succ, Nat.mod_mul, Nat.add_mul]
      congr 1
      rw [Nat.mul_comm (256 ^ i), Nat.mul_right_comm]
    rw [e]
    unfold rowSum
    have := Nat.mul_le_mul_right (256 ^ i) (Nat.mul_le_mul_left (x / 256 ^ i % 256) (Nat.mod_le y (256 ^ k)))
    omega
  have h1 : x % 256 ^ (i + 1) < 256 ^ (i + 1) := Nat.mod_lt _ (Nat.pow_pos (by decide))
  rw [Nat.pow_add]
  exact Nat.lt_of_le_of_lt hle (Nat.mul_lt_mul_of_lt_of_le h1 (Nat.le_of_lt hy) (Nat.lt_of_le_of_lt (Nat.zero_le _) hy))
/-- while a carry is left its place lies within the row -/
theorem carry_place (x y i k n A c : Nat) (hy : y < 256 ^ n) (h : A + c * 256 ^ (i + k) = rowSum x y i k) (hc : 0 < c) : k ≤ n := by
  have h1 := rowSum_lt x y i k n hy
  have h2 : 256 ^ (i + k) < 256 ^ (i + 1 + n) := by
    have := Nat.le_mul_of_pos_left (256 ^ (i + k)) hc
    omega
  have h3 := (Nat.pow_lt_pow_iff_right (by decide : 1 < 256)).1 h2
  omega
end Go.Proofs.YtpjkfdgkkpkljaaGreatDoor.Num
namespace Go.Proofs.YtpjkfdgkkpkljaaGreatDoor.Ref
open Go.RowKit Go.WideShapes Go.Proofs.YtpjkfdgkkpkljaaGreatDoor.Own Go.Proofs.YtpjkfdgkkpkljaaGreatDoor.Num Go.Proofs.YtpjkfdgkkpkljaaGreatDoor.Nat_ Go.Proofs.YtpjkfdgkkpkljaaGreatDoor.Big
set_option linter.unusedVariables false

def iis (l : List Nat) : List Value := l.map fun (d : Nat) => Value.int .i64 (d : Int)
theorem iis_length (l : List Nat) : (iis l).length = l.length := by simp [iis]
theorem info_int : (Tryz.prog.info? 3).map (fun i => (i.zero, i.size, i.bytes)) = some (some (.int .i64 0), 1, 8) := by kernel_rfl
theorem zeros_i (c : Nat) : madeCells (Value.cells (.int .i64 0)) c = (iis (List.replicate c 0)).toArray := by
  apply Array.ext'
  simp [madeCells, iis, Value.cells, Array.toList_range]
  apply List.ext_getElem?
  intro j
  by_cases h : j < c
  · simp [h, Nat.mod_one]
  · rw [List.getElem?_eq_none (by simp; omega), List.getElem?_eq_none (by simp; omega)]
theorem dig_nil8 (n : Nat) : dig 256 0 n = List.replicate n 0 := by
  apply List.ext_getElem?
  intro j
  by_cases h : j < n
  · rw [dig_get _ _ _ _ h, List.getElem?_replicate, if_pos h]; simp
  · rw [List.getElem?_eq_none (by rw [dig_length]; omega), List.getElem?_eq_none (by simp; omega)]
theorem run_newi (n : Nat) (hc : n ≤ 1000000) (w : World) (l : Int) (hl : l = n) :
    (Instr.makeSlice 113 (.int .i64 l) (.int .i64 l)).run Tryz.prog w = .ok (.slice (some ⟨w.heap.size, 0, none⟩) n n) (w.alloc (.cells (iis (dig 256 0 n)).toArray 3)) := by
  obtain ⟨i0, hi, hz0, hz1, hz2⟩ := info_parts info_int
  subst hl
  have := run_make (P := Tryz.prog) (w := w) 113 3 i0 (.int .i64 0) Tryz.underlying113 hi hz0 .i64 .i64 (n : Int) (n : Int) (by omega) (by omega) (by rw [hz2]; omega) (by omega)
  rw [hz1, Nat.mul_one] at this
  simp only [Int.toNat_natCast] at this
  rw [zeros_i, ← dig_nil8] at this
  exact this
theorem own_newi (n B : Nat) (hc : n ≤ 1000000) (w : World) (hB : B ≤ w.heap.size) : (w.alloc (.cells (iis (dig 256 0 n)).toArray 3)).ownsRow B 3 1 (.slice (some ⟨w.heap.size, 0, none⟩) n n) n (iis (dig 256 0 n)) := by
  refine ⟨by rw [iis_length, dig_length]; omega, .inr ⟨w.heap.size, n, _, rfl, hB, heap_alloc_new w _, Nat.le_refl _, by unfold maxLen; omega, by simp [iis, dig_length], ?_⟩⟩
  simp only [Nat.mul_one]
  rw [List.take_of_length_le (by simp [iis, dig_length])]
theorem iis_set (A n j d : Nat) (hd : d < 256) : (iis (dig 256 A n)).set j (.int .i64 (d : Int)) = iis (dig 256 (putDig 256 A j d) n) := by
  rw [← dig_put (by decide) A n j d hd]
  unfold iis
  rw [List.map_set]
theorem iis_get (A n j : Nat) (h : j < n) : (iis (dig 256 A n))[j]? = some (.int .i64 ((A / 256 ^ j % 256 : Nat) : Int)) := by
  unfold iis
  rw [List.getElem?_map, dig_get _ _ _ _ h]
  rfl

/-- the byte at a place of a row, one more digit written -/
theorem rev8_put (R N t D : Nat) (ht : t < N) (hD : R / 256 ^ t % 256 = D) : (bs (rev8 (R % 256 ^ t) N)).set (N - 1 - t) (.int .u8 (D : Int)) = bs (rev8 (R % 256 ^ (t + 1)) N) := by
  have hD2 : D < 256 := by rw [← hD]; exact Nat.mod_lt _ (by omega)
  rw [← rev8_set R N t D ht hD]
  unfold bs
  rw [List.map_set]
  congr 2
  simp; omega
theorem neq_bool (a b : Bool) (w : World) : (binOp BinOp.neq 4 (.bool a) (.bool b)).run Tryz.prog w = .ok (.bool (a != b)) w := by cases a <;> cases b <;> kernel_rfl

set_option maxHeartbeats 4000000 in
set_option maxRecDepth 100000 in
theorem mul_any (v1 v2 : Value) (n1 n2 : Bool) (u v B1 B2 : Nat) (w : World) (h1 : IsInt w B1 v1 n1 u) (h2 : IsInt w B2 v2 n2 v) (hl1 : len 256 u ≤ 10000) (hl2 : len 256 v ≤ 10000) :
    Calls Tryz.prog 58 #[v1, v2] w fun e w' => (∃ x, e = .returned x ∧ IsInt w' w.heap.size x ((n1 != n2) && decide (0 < u * v)) (u * v)) ∧ Below w.heap.size w w' := by
  obtain ⟨x1, rfl, ho1, hp1⟩ := h1
  obtain ⟨x2, rfl, ho2, hp2⟩ := h2
  obtain ⟨a1, c1, rfl, hr1, hc1⟩ := Rd.of_own ho1
  obtain ⟨a2, c2, rfl, hr2, hc2⟩ := Rd.of_own ho2
  have hd1 := Lib.hid fun (W : World) (h : Rd W a1 (mag u)) i (hi : i ≤ 2147483647) => (digit_any a1 c1 (mag u) i W h (by rw [mag_length]; omega) hi hc1).mono (fun e w' (h : _ ∧ W = w') => And.intro h.1 h.2.symm)
  have hd2 := Lib.hid fun (W : World) (h : Rd W a2 (mag v)) i (hi : i ≤ 2147483647) => (digit_any a2 c2 (mag v) i W h (by rw [mag_length]; omega) hi hc2).mono (fun e w' (h : _ ∧ W = w') => And.intro h.1 h.2.symm)
  unfold digitAt at hd1 hd2
  rw [be_mag] at hd1 hd2
  rw [mag_length] at hd1 hd2 hc1 hc2 ⊢
  rw [mag_length]
  have hul := len_lt (b := 256) (by decide) u
  have hvl := len_lt (b := 256) (by decide) v
  obtain ⟨m, hm⟩ : ∃ m, len 256 u = m := ⟨_, rfl⟩
  obtain ⟨n, hn⟩ : ∃ n, len 256 v = n := ⟨_, rfl⟩
  rw [hm] at hl1 hul hd1 hc1 ⊢
  rw [hn] at hl2 hvl hd2 hc2 ⊢
  obtain ⟨N, hN⟩ : ∃ N, m + n = N := ⟨_, rfl⟩
  have hNi : (m : Int) + n = N := by omega
  obtain ⟨K, hK⟩ : ∃ K, N + 1 = K := ⟨_, rfl⟩
  have hN1 : (N : Int) + 1 = (K : Int) := by omega
  have hprod : u * v < 256 ^ N := by
    rw [← hN, Nat.pow_add]
    exact Nat.mul_lt_mul_of_lt_of_le hul (Nat.le_of_lt hvl) (Nat.pow_pos (by decide))
  obtain ⟨W0, hW0⟩ : ∃ W0, ((w.alloc (.cells #[.bool n1, .slice a1 m c1] 24)).alloc (.cells #[.bool n2, .slice a2 n c2] 24)).alloc (.cells #[.bool false, .slice none 0 0] 24) = W0 := ⟨_, rfl⟩
  have hb0 : Below w.heap.size w W0 := by rw [← hW0]; exact ((below_one _ (Nat.le_refl _)).alloc (by simp) _).alloc (by simp; omega) _
  obtain ⟨D, hD⟩ : ∃ D, w.heap.size + 3 = D := ⟨_, rfl⟩
  have hs0 : W0.heap.size = D := by rw [← hW0, ← hD]; simp
  have hx0 : Box.Holds W0 w.heap.size 24 #[.bool n1, .slice a1 m c1] := by rw [← hW0]; exact ((Box.Holds.made w _ _).alloc _).alloc _
  have hy0 : Box.Holds W0 (w.heap.size + 1) 24 #[.bool n2, .slice a2 n c2] := by
    rw [← hW0]
    have := (Box.Holds.made (w.alloc (.cells #[.bool n1, .slice a1 m c1] 24)) 24 #[.bool n2, .slice a2 n c2]).alloc (.cells #[.bool false, .slice none 0 0] 24)
    simpa using this
  have hz0 : Box.Holds W0 (w.heap.size + 1 + 1) 24 #[.bool false, .slice none 0 0] := by
    rw [← hW0]
    have := Box.Holds.made ((w.alloc (.cells #[.bool n1, .slice a1 m c1] 24)).alloc (.cells #[.bool n2, .slice a2 n c2] 24)) 24 #[.bool false, .slice none 0 0]
    simpa using this
  have hrun := Lib.hid fun (W : World) => run_newi K (by omega) W K rfl
  have hrun2 := Lib.hid fun (W : World) => run_new8 N (by omega) W N rfl
  have k1 := hx0.cell 1
  have j1 := hy0.cell 1
  simp at k1 j1
  have hl0x := hx0.lt
  have hl0y := hy0.lt
  have hr1' := Lib.hid (hr1.later hb0)
  have hr2' := Lib.hid (hr2.later hb0)
  have hall := Lib.hid (And.intro hx0 (And.intro hy0 (And.intro hz0 hb0)))
  have hul' := Lib.hid hul
  have hvl' := Lib.hid hvl
  have hprod' := Lib.hid hprod
  clear hr1 hr2 ho1 ho2 hp1 hp2 hul hvl hprod hm hn hx0 hy0 hz0 hb0
  obtain ⟨R, hR⟩ : ∃ R, u * v = R := ⟨_, rfl⟩
  rw [hR]
  have hR' := Lib.hid hR
  clear hR
  have hr0 := hrun.out W0
  have hst : Hid ((W0.alloc (.cells (iis (dig 256 0 K)).toArray 3)).ownsRow D 3 1 (.slice (some ⟨D, 0, none⟩) K K) K (iis (dig 256 (u % 256 ^ 0 * v) K)) ∧ Below D W0 (W0.alloc (.cells (iis (dig 256 0 K)).toArray 3))) := Lib.hid (by
    rw [← hs0]
    exact ⟨by rw [Nat.pow_zero, Nat.mod_one, Nat.zero_mul]; exact own_newi K _ (by omega) W0 (Nat.le_refl _), below_one _ (Nat.le_refl _)⟩)
  go_enter Tryz.func58, Tryz.ntmps58
  go_wp2
  clear hr0
  go_loopw [7] (fun i wr => ∃ k : Nat, i = .int .i64 k ∧ k ≤ m ∧ Hid (wr.ownsRow D 3 1 (.slice (some ⟨D, 0, none⟩) K K) K (iis (dig 256 (u % 256 ^ k * v) K)) ∧ Below D W0 wr)) (fun i _ => m - (intOf i).toNat)
  case atStart => exact ⟨0, rfl, Nat.zero_le _, hst⟩
  case round =>
    clear hst
    obtain ⟨i, rfl, hi, hI⟩ := hrel
    have hbx := hI.out.2
    have hxk := (hall.out.1.below hbx (by omega)).cell 1
    have hyk := (hall.out.2.1.below hbx (by omega)).cell 1
    simp at hxk hyk
    by_cases hlt : i < m
    · have hlt1 : decide ((i : Int) < (m : Int)) = true := by simp; omega
      have hlt2 : decide (i < m) = true := by simp; omega
      have hlx : w.heap.size < wr.heap.size := by have := hbx.size; omega
      have hown0 := hI.out.1
      have hbx' := Lib.hid hbx
      have hst2 : Hid ((u % 256 ^ i * v) + 0 * 256 ^ (i + 0) = rowSum u v i 0 ∧ wr.ownsRow D 3 1 (.slice (some ⟨D, 0, none⟩) K K) K (iis (dig 256 (u % 256 ^ i * v) K)) ∧ Below D W0 wr) := Lib.hid ⟨by rw [rowSum_zero, Nat.zero_mul, Nat.add_zero], hown0, hbx⟩
      clear hown0 hI hyk hbx
      go_wp2
      go_loopw [8, 9] (fun c kk wq => ∃ (k A cc : Nat), kk = .int .i64 k ∧ c = .int .i64 cc ∧ cc ≤ 255 ∧ k ≤ n + 1 ∧ Hid (A + cc * 256 ^ (i + k) = rowSum u v i k ∧ wq.ownsRow D 3 1 (.slice (some ⟨D, 0, none⟩) K K) K (iis (dig 256 A K)) ∧ Below D W0 wq)) (fun _ kk _ => n + 2 - (intOf kk).toNat)
      case atStart => exact ⟨0, _, 0, rfl, rfl, by omega, by omega, hst2⟩
      case round =>
        clear hst2 hxk hlx
        obtain ⟨k, A, cc, rfl, rfl, hcc, hk, hJ⟩ := hrel
        obtain ⟨hsum, hown, hbq⟩ := hJ.out
        have hxb := hall.out.1.below hbq (by omega)
        have hyb := hall.out.2.1.below hbq (by omega)
        have hxk := hxb.cell 1
        have hyk := hyb.cell 1
        simp at hxk hyk
        have hlx := hxb.lt
        have hly := hyb.lt
        by_cases hrun1 : k < n ∨ 0 < cc
        · have hkn : k ≤ n := by
            rcases hrun1 with h | h
            · omega
            · exact carry_place u v i k n A cc hvl'.out hsum h
          obtain ⟨J, hJJ⟩ : ∃ J, i + k = J := ⟨_, rfl⟩
          have hJi : (i : Int) + k = J := by omega
          have hJK : J < K := by omega
          have hJKi : (J : Int) < (K : Int) := by omega
          rw [hJJ] at hsum
          have hcell := World.ownsRow.cellAt hown J (by omega)
          rw [iis_get A K J hJK] at hcell
          have hfrz := World.ownsRow.frozenAt hown J
          have hbq' : Below W0.heap.size W0 wr := by rw [hs0]; exact hbq
          have e1 := Lib.hid fun q => hd1.out (wr.drewN q) (hr1'.out.later (Box.below_drawn hbq' q)) i (by omega)
          have e2 := Lib.hid fun q => hd2.out (wr.drewN q) (hr2'.out.later (Box.below_drawn hbq' q)) k (by omega)
          obtain ⟨a, ha⟩ : ∃ a, A / 256 ^ J % 256 = a := ⟨_, rfl⟩
          obtain ⟨x, hx⟩ : ∃ x, u / 256 ^ i % 256 = x := ⟨_, rfl⟩
          obtain ⟨y, hy⟩ : ∃ y, v / 256 ^ k % 256 = y := ⟨_, rfl⟩
          have ha9 : a < 256 := by rw [← ha]; exact Nat.mod_lt _ (by omega)
          have hx9 : x < 256 := by rw [← hx]; exact Nat.mod_lt _ (by omega)
          have hy9 : y < 256 := by rw [← hy]; exact Nat.mod_lt _ (by omega)
          obtain ⟨z, hz⟩ : ∃ z, x * y = z := ⟨_, rfl⟩
          have hz9 : z ≤ 65025 := by rw [← hz]; exact Nat.mul_le_mul (by omega : x ≤ 255) (by omega : y ≤ 255)
          have hzi : (x : Int) * (y : Int) = (z : Int) := by rw [← hz]; simp
          obtain ⟨s, hs⟩ : ∃ s, a + z + cc = s := ⟨_, rfl⟩
          have hsi : (a : Int) + z + cc = s := by omega
          have hstep := mul_step A cc J z (rowSum u v i k) s hsum (by rw [ha]; exact hs)
          rw [← hz, ← hx, ← hy, ← hJJ, ← rowSum_step, hJJ] at hstep
          obtain ⟨d, hd⟩ : ∃ d, s % 256 = d := ⟨_, rfl⟩
          obtain ⟨c', hc'⟩ : ∃ c', s / 256 = c' := ⟨_, rfl⟩
          have hdi : (s : Int) % 256 = d := by omega
          have hci : (s : Int) / 256 = c' := by omega
          have hd9 : d < 256 := by omega
          have hc9 : c' ≤ 255 := by omega
          rw [hd, hc'] at hstep
          rw [ha] at hcell
          rw [hx] at e1
          rw [hy] at e2
          have hst := (World.ownsRow.stored hown J (.int .i64 (d : Int))).1
          rw [iis_set A K J d hd9] at hst
          have hJ1 : J + 1 = i + (k + 1) := by omega
          rw [hJ1] at hstep
          have hfin : Hid (∀ q, putDig 256 A J d + c' * 256 ^ (i + (k + 1)) = rowSum u v i (k + 1) ∧ ((wr.drewN q).setCell ⟨D, J, none⟩ (.int .i64 (d : Int))).ownsRow D 3 1 (.slice (some ⟨D, 0, none⟩) K K) K (iis (dig 256 (putDig 256 A J d) K)) ∧ Below D W0 ((wr.drewN q).setCell ⟨D, J, none⟩ (.int .i64 (d : Int)))) := Lib.hid fun q => ⟨hstep, hst, (Box.below_drawn hbq q).setCell (Nat.le_refl _) _⟩
          have hkk : k + 1 ≤ n + 1 := by omega
          have hDl : D < wr.heap.size := by
            rcases hown.2 with ⟨h, _⟩ | ⟨g', c', cells, h, _, hh, _⟩
            · cases h
            · cases h; exact (Array.getElem?_eq_some_iff.mp hh).1
          clear hsum hown hbq hxb hyb hJ hst hstep hbq' ha hx hy hz hs hd hc' hJJ hJ1 hkn
          by_cases hkn : k < n
          · have g1 : decide ((k : Int) < (n : Int)) = true := by simp; omega
            have g1' : decide (k < n) = true := by simp; omega
            clear hrun1
            go_wp2_with fail
            go_quiet ((first | (go_at_call 40; with_reducible exact Calls.quiet_of_same (e1.out _)) | (go_at_call 40; with_reducible exact Calls.quiet_of_same (e2.out _))))
            go_wp2
            go_roundw
            case rel => exact ⟨k + 1, _, c', by go_num, rfl, hc9, hkk, hfin.out _⟩
            case measure => simp [intOf]; omega
          · have g1 : decide ((k : Int) < (n : Int)) = false := by simp; omega
            have g1' : decide (k < n) = false := by simp; omega
            have hcp : 0 < cc := by omega
            have g2 : decide ((0 : Int) < (cc : Int)) = true := by simp; omega
            have g2' : decide (0 < cc) = true := by simp; omega
            clear hrun1
            go_wp2_with fail
            go_quiet ((first | (go_at_call 40; with_reducible exact Calls.quiet_of_same (e1.out _)) | (go_at_call 40; with_reducible exact Calls.quiet_of_same (e2.out _))))
            go_wp2
            go_roundw
            case rel => exact ⟨k + 1, _, c', by go_num, rfl, hc9, hkk, hfin.out _⟩
            case measure => simp [intOf]; omega
        · have hk0 : n ≤ k := by omega
          obtain rfl : cc = 0 := by omega
          have g1 : decide ((k : Int) < (n : Int)) = false := by simp; omega
          have g1' : decide (k < n) = false := by simp; omega
          have hA : A = u % 256 ^ (i + 1) * v := by
            rw [← rowSum_full u v i k (Nat.lt_of_lt_of_le hvl'.out (Nat.pow_le_pow_right (by decide) hk0)), ← hsum, Nat.zero_mul, Nat.add_zero]
          rw [hA] at hown
          have hnext := Lib.hid (And.intro hown hbq)
          clear hsum hown hbq hxb hyb hJ hA hrun1
          go_wp2
          go_roundw
          case rel => exact ⟨i + 1, by go_num, by omega, hnext⟩
          case measure => simp [intOf]; omega
    · obtain rfl : i = m := by omega
      have hlt1 : decide ((i : Int) < (i : Int)) = false := by simp
      have hlt2 : decide (i < i) = false := by simp
      obtain ⟨hown, -⟩ := hI.out
      rw [Nat.mod_eq_of_lt hul'.out] at hown
      have hRlt := hprod'.out
      rw [hR'.out] at hown hRlt
      have hlx : w.heap.size < wr.heap.size := by have := hbx.size; omega
      obtain ⟨E, hE⟩ : ∃ E, wr.heap.size = E := ⟨_, rfl⟩
      have hDE : D < E := by
        rw [← hE]
        rcases hown.2 with ⟨h, _⟩ | ⟨g', c', cells, h, _, hh, _⟩
        · cases h
        · cases h; exact (Array.getElem?_eq_some_iff.mp hh).1
      have hrn := hrun2.out wr
      rw [hE] at hrn hlx
      have hst3 : Hid ((wr.alloc (.cells (bs (rev8 0 N)).toArray 5)).ownsRow E 5 1 (.slice (some ⟨E, 0, none⟩) N N) N (bs (rev8 (R % 256 ^ 0) N)) ∧ Below E wr (wr.alloc (.cells (bs (rev8 0 N)).toArray 5))) := Lib.hid (by
        rw [← hE]
        exact ⟨by rw [Nat.pow_zero, Nat.mod_one]; exact own_new8 N _ (by omega) wr (Nat.le_refl _), below_one _ (Nat.le_refl _)⟩)
      have hof := Lib.hid fun b W (h : Rd W (some ⟨E, 0, none⟩) (rev8 R N)) => of_any b (some ⟨E, 0, none⟩) N (rev8 R N) W h (by rw [rev8_length]; omega) (by rw [rev8_length]; exact Nat.le_refl _) (fun h => by cases h)
      rw [rev8_length, show be (rev8 R N) = R from be_dig N R hRlt] at hof
      have hnq := neq_bool n1 n2
      have hown' := Lib.hid hown
      have hbx' := Lib.hid hbx
      have hRlt' := Lib.hid hRlt
      clear hown hI hyk hRlt hbx
      go_wp2
      go_loopw [12] (fun t wq => ∃ k : Nat, t = .int .i64 k ∧ k ≤ N ∧ Hid (wq.ownsRow E 5 1 (.slice (some ⟨E, 0, none⟩) N N) N (bs (rev8 (R % 256 ^ k) N)) ∧ Below E wr wq)) (fun t _ => N - (intOf t).toNat)
      case atStart => exact ⟨0, rfl, Nat.zero_le _, hst3⟩
      case round =>
        clear hst3 hrn
        obtain ⟨k, rfl, hk, hJ⟩ := hrel
        obtain ⟨hrow, hbq⟩ := hJ.out
        by_cases hkN : k < N
        · have g1 : decide ((k : Int) < (N : Int)) = true := by simp; omega
          have g1' : decide (k < N) = true := by simp; omega
          have hdw := hown'.out
          have hcell := World.ownsRow.cellAt hdw k (by omega)
          rw [iis_get R K k (by omega)] at hcell
          have hcell2 := (hbq.cell (p := ⟨D, k, none⟩) hDE).trans hcell
          obtain ⟨d, hd⟩ : ∃ d, R / 256 ^ k % 256 = d := ⟨_, rfl⟩
          rw [hd] at hcell2
          have hd9 : d < 256 := by rw [← hd]; exact Nat.mod_lt _ (by omega)
          have hd8 : IntKind.u8.wrap (d : Int) = d := by rw [IntKind.wrap_u8]; omega
          obtain ⟨I, hI'⟩ : ∃ I, N - 1 - k = I := ⟨_, rfl⟩
          have hIi : (N : Int) - 1 - k = I := by omega
          have hIN : I < N := by omega
          have hkK : (k : Int) < (K : Int) := by omega
          have hst := (World.ownsRow.stored hrow I (.int .u8 (d : Int))).1
          rw [← hI', rev8_put R N k d hkN hd, hI'] at hst
          have hc0 := World.ownsRow.cellAt hrow I (by omega)
          have hf0 := World.ownsRow.frozenAt hrow I
          obtain ⟨cv, hcv⟩ : ∃ cv, (bs (rev8 (R % 256 ^ k) N))[I]? = some cv := ⟨_, List.getElem?_eq_getElem (by rw [bs_length, rev8_length]; omega)⟩
          rw [hcv] at hc0
          have hfin := Lib.hid (show _ ∧ _ from ⟨hst, (hbq.setCell (Nat.le_refl _) _ : Below E _ (wr.setCell ⟨E, I, none⟩ (.int .u8 (d : Int))))⟩)
          have hEl : E < wr.heap.size := by
            rcases hrow.2 with ⟨h, _⟩ | ⟨g', c', cells, h, _, hh, _⟩
            · cases h
            · cases h; exact (Array.getElem?_eq_some_iff.mp hh).1
          have hDl : D < wr.heap.size := by omega
          clear hst hrow hbq hJ hdw hcell hcv hd hI'
          go_wp2
          go_roundw
          case rel => exact ⟨k + 1, by go_num, by omega, hfin⟩
          case measure => simp [intOf]; omega
        · obtain rfl : k = N := by omega
          have g1 : decide ((k : Int) < (k : Int)) = false := by simp
          rw [Nat.mod_eq_of_lt hRlt'.out] at hrow
          have hEl : E < wr.heap.size := by
            rcases hrow.2 with ⟨h, _⟩ | ⟨g', c', cells, h, _, hh, _⟩
            · cases h
            · cases h; exact (Array.getElem?_eq_some_iff.mp hh).1
          have hrd := rd_drop hrow (rev8_length _ _) hEl 0 (Nat.zero_le _)
          have hct := Lib.hid fun b => hof.out b wr hrd
          have hb03 : Below D W0 wr := hbx'.out.trans (hbq.mono (by omega))
          have hxb := hall.out.1.below hb03 (by omega)
          have hyb := hall.out.2.1.below hb03 (by omega)
          have hzb := hall.out.2.2.1.below hb03 (by omega)
          have hbw : Below w.heap.size w wr := hall.out.2.2.2.trans (hb03.mono (by omega))
          have kx := hxb.cell 0
          have ky := hyb.cell 0
          simp at kx ky
          have hlx := hxb.lt
          have hly := hyb.lt
          have hzb' := Lib.hid (And.intro hzb hbw)
          clear hrow hrd hbq hof hxb hyb hzb hbw hb03 hJ
          go_wp2_with fail
          refine (hct.out _).mono ?_
          rintro e w5 ⟨⟨x, rfl, hx⟩, hb5⟩
          have hz5 := hzb'.out.1.later hb5
          have hbw5 := hzb'.out.2.trans (hb5.mono hzb'.out.2.size)
          have hsz := hzb'.out.2.size
          obtain ⟨xs, rfl, hxo, hxp⟩ := hx
          obtain ⟨ax, cx, rfl, -, -⟩ := Rd.of_own hxo
          obtain ⟨L, hL⟩ : ∃ L, (mag R).length = L := ⟨_, rfl⟩
          rw [hL] at hxo ⊢
          have kz0 := hz5.cell 0
          have kz1 := hz5.cell 1
          simp at kz0 kz1
          have fz0 := hz5.free 0
          have fz1 := hz5.free 1
          have hlz := hz5.lt
          have hxo' := Lib.hid (own_apart (own_apart (World.ownsRow.mono hxo hsz) hz5 (by decide) 0 (.bool ((n1 != n2) && decide (0 < R)))) (hz5.put 0 _) (by decide) 1 (.slice ax L cx))
          have hble := Lib.hid ((hbw5.setCell (p := ⟨w.heap.size + 1 + 1, 0, none⟩) (by show w.heap.size ≤ w.heap.size + 1 + 1; omega) (.bool ((n1 != n2) && decide (0 < R)))).setCell (p := ⟨w.heap.size + 1 + 1, 1, none⟩) (by show w.heap.size ≤ w.heap.size + 1 + 1; omega) (.slice ax L cx))
          clear hxo hb5 hz5 hbw5 hct hzb'
          go_wp2
          exact bodyPost_ret (v := .agg #[.bool ((n1 != n2) && decide (0 < R)), .slice ax L cx]) (by simp [results, Tryz.results58, go_sem, kz0, kz1]) rfl ⟨⟨_, rfl, _, rfl, hL ▸ hxo'.out, hxp⟩, hble.out⟩
end Go.Proofs.YtpjkfdgkkpkljaaGreatDoor.Ref
