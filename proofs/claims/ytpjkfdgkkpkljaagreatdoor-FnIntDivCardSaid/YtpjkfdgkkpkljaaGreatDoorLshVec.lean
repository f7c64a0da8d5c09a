/-
  The row that a shift to the left writes, word for word, from its end on. The row of words shifted to the left into a fresh row. The shift's vector function behind its name. The built-in clear on words that are zero already: nothing turns.
-/
import Derived.Test.YtpjkfdgkkpkljaaGreatDoorShiftLaw
import Derived.Test.YtpjkfdgkkpkljaaGreatDoorNatMake
import Derived.Test.YtpjkfdgkkpkljaaGreatDoorNatCmp
import Derived.Laws.CopyRow
import Derived.BigFrame
namespace Go.Proofs.YtpjkfdgkkpkljaaGreatDoor.Nat_
open Go.RowKit Go.Proofs.YtpjkfdgkkpkljaaGreatDoor.Num

/-- the words from place d + i on, of m words that stand at place d -/
def shlRow (X s d m i N : Nat) : List Nat := (List.range N).map fun k => if d + i ≤ k ∧ k < d + m then X * 2 ^ s / W ^ (k - d) % W else 0
theorem shlRow_length (X s d m i N : Nat) : (shlRow X s d m i N).length = N := by simp [shlRow]
theorem shlRow_get (X s d m i N k : Nat) (h : k < N) : (shlRow X s d m i N)[k]? = some (if d + i ≤ k ∧ k < d + m then X * 2 ^ s / W ^ (k - d) % W else 0) := by simp [shlRow, h]
theorem shlRow_start (X s d m N : Nat) : shlRow X s d m m N = dig W 0 N := by
  rw [dig_nil]
  apply List.ext_getElem?
  intro k
  by_cases h : k < N
  · rw [shlRow_get _ _ _ _ _ _ _ h, if_neg (by omega), List.getElem?_replicate, if_pos h]
  · rw [List.getElem?_eq_none (by rw [shlRow_length]; omega), List.getElem?_eq_none (by simp; omega)]
theorem shlRow_step (X s d m i N : Nat) (hi : i < m) : (shlRow X s d m (i + 1) N).set (d + i) (X * 2 ^ s / W ^ i % W) = shlRow X s d m i N := by
  apply List.ext_getElem?
  intro k
  rw [List.getElem?_set]
  by_cases h : k < N
  · by_cases h1 : d + i = k
    · subst h1
      rw [if_pos rfl, if_pos (by rw [shlRow_length]; exact h), shlRow_get _ _ _ _ _ _ _ h, if_pos (by omega), Nat.add_sub_cancel_left]
    · rw [if_neg h1, shlRow_get _ _ _ _ _ _ _ h, shlRow_get _ _ _ _ _ _ _ h]
      by_cases h2 : d + i ≤ k ∧ k < d + m
      · rw [if_pos h2, if_pos (by omega)]
      · rw [if_neg h2, if_neg (by omega)]
  · rw [List.getElem?_eq_none (l := shlRow X s d m (i + 1) N) (by rw [shlRow_length]; omega), List.getElem?_eq_none (l := shlRow X s d m i N) (by rw [shlRow_length]; omega)]
    split
    · rw [if_neg (by rw [shlRow_length]; omega)]
    · rfl
theorem shlRow_end (X s d m : Nat) : (shlRow X s d m 0 (d + m + 1)).set (d + m) (X * 2 ^ s / W ^ m % W) = dig W (X * 2 ^ s * W ^ d) (d + m + 1) := by
  apply List.ext_getElem?
  intro k
  rw [List.getElem?_set]
  by_cases h : k < d + m + 1
  · rw [dig_get _ _ _ _ h]
    have hW : ∀ j, 0 < W ^ j := fun j => Nat.pow_pos (by decide)
    by_cases hd : d ≤ k
    · have e : X * 2 ^ s * W ^ d / W ^ k = X * 2 ^ s / W ^ (k - d) := by
        rw [show W ^ k = W ^ (k - d) * W ^ d by rw [← Nat.pow_add]; congr 1; omega, Nat.mul_div_mul_right _ _ (hW d)]
      rw [e]
      by_cases h1 : d + m = k
      · subst h1
        rw [if_pos rfl, if_pos (by rw [shlRow_length]; exact h), Nat.add_sub_cancel_left]
      · rw [if_neg h1, shlRow_get _ _ _ _ _ _ _ h, if_pos (by omega)]
    · have e : X * 2 ^ s * W ^ d / W ^ k % W = 0 := by
        have hWd : W ^ d = W ^ (d - k - 1) * W * W ^ k := by
          rw [← Nat.pow_succ, ← Nat.pow_add]
          congr 1
          omega
        rw [hWd, ← Nat.mul_assoc, ← Nat.mul_assoc]
        rw [Nat.mul_div_cancel _ (hW k), Nat.mul_mod_left]
      rw [e, if_neg (by omega), shlRow_get _ _ _ _ _ _ _ h, if_neg (by omega)]
  · rw [List.getElem?_eq_none (l := dig W _ _) (by rw [dig_length]; omega)]
    split
    · omega
    · rw [List.getElem?_eq_none (by rw [shlRow_length]; omega)]
end Go.Proofs.YtpjkfdgkkpkljaaGreatDoor.Nat_
namespace Go.Proofs.YtpjkfdgkkpkljaaGreatDoor.Nat_
open Go.RowKit Go.WideShapes Go.Proofs.YtpjkfdgkkpkljaaGreatDoor.Own Go.Proofs.YtpjkfdgkkpkljaaGreatDoor.Num Go.Proofs.YtpjkfdgkkpkljaaGreatDoor.Ref
set_option linter.unusedVariables false

theorem and63 (s : Nat) (h : s < 64) : bits BinOp.and IntKind.u64 (s : Int) 63 = s := by
  have : ∀ k : Fin 64, bits BinOp.and IntKind.u64 ((k.val : Nat) : Int) 63 = (k.val : Nat) := by decide
  exact this ⟨s, h⟩
theorem word_or (x1 x0 s t : Nat) (h0 : x0 < W) (ht : 64 - s = t) (hs : s ≤ 64) : bits BinOp.or IntKind.u64 (IntKind.u64.wrap ((x1 : Int) * 2 ^ s)) ((x0 : Int) / 2 ^ t) = ((x1 * 2 ^ s % W + x0 / 2 ^ t : Nat) : Int) := by
  have hW := W_split s hs
  rw [ht] at hW
  have e1 : IntKind.u64.wrap ((x1 : Int) * 2 ^ s) = ((x1 * 2 ^ s % W : Nat) : Int) := by
    rw [IntKind.wrap_u64, W_eq]; simp
  have e2 : (x0 : Int) / 2 ^ t = ((x0 / 2 ^ t : Nat) : Int) := by simp
  have hl : x0 / 2 ^ t < 2 ^ s := Nat.div_lt_of_lt_mul (by rw [← hW]; exact h0)
  rw [e1, e2, Go.u64_or_nat _ _ (show x1 * 2 ^ s % W < 18446744073709551616 from Nat.mod_lt _ (by decide)) (show x0 / 2 ^ t < 18446744073709551616 from Nat.lt_of_le_of_lt (Nat.div_le_self _ _) h0), or_add _ _ s _ hl]
  rw [hW, Nat.mod_mul_left_mod, Nat.mul_mod_left]
set_option maxHeartbeats 2000000 in
set_option maxRecDepth 100000 in
theorem lshg_any (v : Value) (X s d m N B gz cz : Nat) (w0 w : World) (h : IsNat w0 B v X) (hm : len W X = m) (hm1 : 0 < m) (hm2 : m ≤ 10000) (hd : d ≤ 10000) (hs1 : 0 < s) (hs2 : s < 64)
    (hN : d + m + 1 = N) (hgz : w0.heap.size ≤ gz) (hb0 : Below w0.heap.size w0 w) (cc : Nat)
    (hz : w.ownsRow w0.heap.size 111 1 (.slice (some ⟨gz, 0, none⟩) N cc) N (ws (shlRow X s d m m N))) :
    Calls Tryz.prog 126 #[.slice (some ⟨gz, d, none⟩) m cz, v, .int .u64 s] w fun e w' => (e = .returned (.int .u64 ((X * 2 ^ s / W ^ m % W : Nat) : Int)) ∧
      w'.ownsRow w0.heap.size 111 1 (.slice (some ⟨gz, 0, none⟩) N cc) N (ws (shlRow X s d m 0 N))) ∧ Below w0.heap.size w0 w' := by
  obtain ⟨a, c, rfl, hc, hr⟩ := h.slice
  rw [hm] at hc ⊢
  have hr' := Lib.hid hr
  have hm' := Lib.hid hm
  obtain ⟨g, rfl, htop⟩ := (hr.later hb0).at_ (j := m - 1) (by omega)
  have hst := Lib.hid (show w.ownsRow w0.heap.size 111 1 (.slice (some ⟨gz, 0, none⟩) N cc) N (ws (shlRow X s d m m N)) ∧ Below w0.heap.size w0 w from ⟨hz, hb0⟩)
  obtain ⟨D, hD⟩ : ∃ D, X / W ^ (m - 1) % W = D := ⟨_, rfl⟩
  rw [hD] at htop
  obtain ⟨p, hp⟩ : ∃ p, m = p + 1 := ⟨m - 1, by omega⟩
  subst hp
  rw [Nat.add_sub_cancel] at htop hD
  have hD' := Lib.hid hD
  obtain ⟨t, ht⟩ : ∃ t, 64 - s = t := ⟨_, rfl⟩
  have ht' : IntKind.u64.wrap (64 - (s : Int)) = t := by rw [IntKind.wrap_u64]; omega
  have e1 := and63 s hs2
  have e2 := and63 t (by omega)
  have ht64 : t ≤ 64 := by omega
  clear hz hb0 hr hm h hD
  go_enter Tryz.func126, Tryz.ntmps126
  go_wp2
  obtain ⟨T, hT⟩ : ∃ T : Int, (D : Int) / 2 ^ t = T := ⟨_, rfl⟩
  rw [hT]
  go_loopw [8] (fun i wr => ∃ k : Nat, k ≤ p ∧ i = .int .i64 k ∧ Hid (wr.ownsRow w0.heap.size 111 1 (.slice (some ⟨gz, 0, none⟩) N cc) N (ws (shlRow X s d (p + 1) (k + 1) N)) ∧ Below w0.heap.size w0 wr)) (fun i _ => (intOf i).toNat)
  case atStart => exact ⟨p, by omega, rfl, hst⟩
  case round =>
    clear hst htop
    obtain ⟨k, hk, rfl, hI⟩ := hrel
    cases k with
    | succ k =>
      obtain ⟨hz, hb⟩ := hI.out
      have hra := hr'.out.later hb
      obtain ⟨_, e, hx1⟩ := hra.at_ (j := k + 1) (by rw [hm'.out]; omega)
      cases e
      obtain ⟨_, e, hx0⟩ := hra.at_ (j := k) (by rw [hm'.out]; omega)
      cases e
      have hc0 := World.ownsRow.cellAt hz (d + (k + 1)) (by omega)
      have hf0 := World.ownsRow.frozenAt hz (d + (k + 1))
      obtain ⟨cv, hcv⟩ : ∃ cv, (ws (shlRow X s d (p + 1) (k + 1 + 1) N))[d + (k + 1)]? = some cv := ⟨_, List.getElem?_eq_getElem (by rw [ws_length, shlRow_length]; omega)⟩
      rw [hcv] at hc0
      obtain ⟨X1, hX1⟩ : ∃ X1, X / W ^ (k + 1) % W = X1 := ⟨_, rfl⟩
      obtain ⟨X0, hX0⟩ : ∃ X0, X / W ^ k % W = X0 := ⟨_, rfl⟩
      rw [hX1] at hx1
      rw [hX0] at hx0
      have ek : ((k + 1 : Nat) : Int) - 1 = k := by omega
      have hX0W : X0 < W := by rw [← hX0]; exact Nat.mod_lt _ (by decide)
      have hfin := Lib.hid (show ((wr.setCell ⟨gz, d + (k + 1), none⟩ (.int .u64 (bits BinOp.or IntKind.u64 (IntKind.u64.wrap ((X1 : Int) * 2 ^ s)) ((X0 : Int) / 2 ^ t)))).drew.ownsRow w0.heap.size 111 1 (.slice (some ⟨gz, 0, none⟩) N cc) N (ws (shlRow X s d (p + 1) (k + 1) N)) ∧ Below w0.heap.size w0 (wr.setCell ⟨gz, d + (k + 1), none⟩ (.int .u64 (bits BinOp.or IntKind.u64 (IntKind.u64.wrap ((X1 : Int) * 2 ^ s)) ((X0 : Int) / 2 ^ t)))).drew) from by
        have h1 := (World.ownsRow.stored hz (d + (k + 1)) (.int .u64 (bits BinOp.or IntKind.u64 (IntKind.u64.wrap ((X1 : Int) * 2 ^ s)) ((X0 : Int) / 2 ^ t)))).1
        rw [word_or X1 X0 s t hX0W ht (by omega)] at h1 ⊢
        have e3 : X1 * 2 ^ s % W + X0 / 2 ^ t = X * 2 ^ s / W ^ (k + 1) % W := by rw [shl_word X s k (by omega), hX1, hX0, ht]
        rw [e3] at h1 ⊢
        have e4 : (ws (shlRow X s d (p + 1) (k + 1 + 1) N)).set (d + (k + 1)) (.int .u64 ((X * 2 ^ s / W ^ (k + 1) % W : Nat) : Int)) = ws (shlRow X s d (p + 1) (k + 1) N) := by
          rw [← shlRow_step X s d (p + 1) (k + 1) N (by omega)]; unfold ws; rw [List.map_set]
        rw [e4] at h1
        exact ⟨h1, Box.below_drawn (hb.setCell hgz _) 1⟩)
      clear hz hcv hra hX1 hX0 hX0W hI
      go_wp2_with fail
      go_region
      go_wp2
      go_roundw
      case rel => exact ⟨k, by omega, rfl, hfin⟩
      case measure => simp [intOf]
    | zero =>
      obtain ⟨hz, hb⟩ := hI.out
      have hra := hr'.out.later hb
      obtain ⟨_, e, hx0⟩ := hra.at_ (j := 0) (by rw [hm'.out]; omega)
      cases e
      have hc0 := World.ownsRow.cellAt hz d (by omega)
      have hf0 := World.ownsRow.frozenAt hz d
      obtain ⟨cv, hcv⟩ : ∃ cv, (ws (shlRow X s d (p + 1) (0 + 1) N))[d]? = some cv := ⟨_, List.getElem?_eq_getElem (by rw [ws_length, shlRow_length]; omega)⟩
      rw [hcv] at hc0
      obtain ⟨X0, hX0⟩ : ∃ X0, X / W ^ 0 % W = X0 := ⟨_, rfl⟩
      rw [hX0] at hx0
      have hXlt : X < W ^ (p + 1) := by rw [← hm'.out]; exact len_lt W_two X
      have hTe : T = ((X * 2 ^ s / W ^ (p + 1) % W : Nat) : Int) := by
        have e5 : X * 2 ^ s / W ^ (p + 1) % W = D / 2 ^ t := by
          rw [shl_word X s p (by omega), hD'.out, ht, Nat.div_eq_of_lt hXlt]; simp
        rw [e5, ← hT]; simp
      have hfin := Lib.hid (show (wr.setCell ⟨gz, d, none⟩ (.int .u64 (IntKind.u64.wrap ((X0 : Int) * 2 ^ s)))).ownsRow w0.heap.size 111 1 (.slice (some ⟨gz, 0, none⟩) N cc) N (ws (shlRow X s d (p + 1) 0 N)) ∧ Below w0.heap.size w0 (wr.setCell ⟨gz, d, none⟩ (.int .u64 (IntKind.u64.wrap ((X0 : Int) * 2 ^ s)))) from by
        have h1 := (World.ownsRow.stored hz d (.int .u64 (IntKind.u64.wrap ((X0 : Int) * 2 ^ s)))).1
        have e1 : IntKind.u64.wrap ((X0 : Int) * 2 ^ s) = ((X0 * 2 ^ s % W : Nat) : Int) := by
          rw [IntKind.wrap_u64, W_eq]; simp
        rw [e1] at h1 ⊢
        have e3 : X0 * 2 ^ s % W = X * 2 ^ s / W ^ 0 % W := by rw [shl_word0 X s, hX0]
        rw [e3] at h1 ⊢
        have e4 : (ws (shlRow X s d (p + 1) (0 + 1) N)).set d (.int .u64 ((X * 2 ^ s / W ^ 0 % W : Nat) : Int)) = ws (shlRow X s d (p + 1) 0 N) := by
          rw [← shlRow_step X s d (p + 1) 0 N (by omega)]; unfold ws; rw [List.map_set]; rfl
        rw [e4] at h1
        exact ⟨h1, hb.setCell hgz _⟩)
      have hTe' := Lib.hid hTe
      clear hcv hra hT hTe hX0 hz hI hb
      go_wp2
      go_ret
      exact ⟨⟨by rw [← hTe'.out]; rfl, hfin.out.1⟩, hfin.out.2⟩
end Go.Proofs.YtpjkfdgkkpkljaaGreatDoor.Nat_
namespace Go.Proofs.YtpjkfdgkkpkljaaGreatDoor.Nat_
open Go.RowKit Go.WideShapes Go.Proofs.YtpjkfdgkkpkljaaGreatDoor.Own Go.Proofs.YtpjkfdgkkpkljaaGreatDoor.Num Go.Proofs.YtpjkfdgkkpkljaaGreatDoor.Ref
set_option linter.unusedVariables false

set_option maxRecDepth 100000 in
theorem lshv_any (v : Value) (X s d m N B gz cz : Nat) (w0 w : World) (h : IsNat w0 B v X) (hm : len W X = m) (hm1 : 0 < m) (hm2 : m ≤ 10000) (hd : d ≤ 10000) (hs1 : 0 < s) (hs2 : s < 64)
    (hN : d + m + 1 = N) (hgz : w0.heap.size ≤ gz) (hb0 : Below w0.heap.size w0 w) (cc : Nat)
    (hz : w.ownsRow w0.heap.size 111 1 (.slice (some ⟨gz, 0, none⟩) N cc) N (ws (shlRow X s d m m N))) :
    Calls Tryz.prog 104 #[.slice (some ⟨gz, d, none⟩) m cz, v, .int .u64 s] w fun e w' => (e = .returned (.int .u64 ((X * 2 ^ s / W ^ m % W : Nat) : Int)) ∧
      w'.ownsRow w0.heap.size 111 1 (.slice (some ⟨gz, 0, none⟩) N cc) N (ws (shlRow X s d m 0 N))) ∧ Below w0.heap.size w0 w' := by
  have hin := Lib.hid (lshg_any v X s d m N B gz cz w0 w h hm hm1 hm2 hd hs1 hs2 hN hgz hb0 cc hz)
  clear h hz hb0
  go_enter Tryz.func104, Tryz.ntmps104
  go_wp2_with fail
  refine hin.out.mono ?_
  rintro e w1 ⟨⟨rfl, ho⟩, hb⟩
  have hfin := Lib.hid (And.intro ho hb)
  clear ho hb hin
  go_wp2
  go_ret
  exact ⟨⟨rfl, hfin.out.1⟩, hfin.out.2⟩
end Go.Proofs.YtpjkfdgkkpkljaaGreatDoor.Nat_
namespace Go.Proofs.YtpjkfdgkkpkljaaGreatDoor.Nat_
open Go.RowKit Go.WideShapes Go.Proofs.YtpjkfdgkkpkljaaGreatDoor.Own Go.Proofs.YtpjkfdgkkpkljaaGreatDoor.Num
set_option linter.unusedVariables false

theorem clear_zero (g N d B c : Nat) (L : List Nat) (w : World) (hz : w.ownsRow B 111 1 (.slice (some ⟨g, 0, none⟩) N c) N (ws L)) (hd : d ≤ N) (hL : ∀ j, j < d → L[j]? = some 0) :
    (Builtin.clear_ #[83] 0 #[.slice (some ⟨g, 0, none⟩) d c]).run Tryz.prog w = .ok (.tuple #[]) w := by
  obtain ⟨i0, hi, hz0, hz1, hz2⟩ := info_parts info_word
  have hc : (Builtin.zeroCells (Value.cells (.int .u64 0)) d).toList = ws (List.replicate d 0) := by
    simp [Builtin.zeroCells, ws, Value.cells, Array.toList_range]
    apply List.ext_getElem?
    intro j
    by_cases h : j < d
    · simp [h, Nat.mod_one]
    · rw [List.getElem?_eq_none (by simp; omega), List.getElem?_eq_none (by simp; omega)]
  rcases hz.2 with ⟨h, _⟩ | ⟨g', c', cur, e, hB, hg, hcl, hm, hs, ht⟩
  · cases h
  · cases e
    have hun : Tryz.prog.underlying 83 = some (.slice 111) := Tryz.underlying83
    by_cases h0 : d = 0
    · subst h0
      simp [Builtin.clear_, run_underlying hun]
    · simp [Builtin.clear_, run_underlying hun]
      have e : (cur.toList.take (0 + 0) ++ ws (List.replicate d 0) ++ cur.toList.drop (0 + 0 + (ws (List.replicate d 0)).length)).toArray = cur := by
        apply Array.ext'
        apply List.ext_getElem?
        intro j
        have hln : (ws (List.replicate d 0)).length = d := by simp [ws]
        rw [hln]
        simp only [Nat.add_zero, Nat.zero_add, List.take_zero, List.nil_append]
        by_cases h : j < d
        · rw [List.getElem?_append_left (by rw [hln]; exact h)]
          have h1 : cur.toList[j]? = (ws L)[j]? := by rw [← ht, List.getElem?_take, if_pos (by omega)]
          rw [h1]
          unfold ws
          rw [List.getElem?_map, List.getElem?_map, hL j h, List.getElem?_replicate, if_pos h]
        · rw [List.getElem?_append_right (by rw [hln]; omega), List.getElem?_drop, hln]
          rw [show d + (j - d) = j by omega]
      rw [hc, run_storeCells_at Tryz.prog g 0 111 (ws (List.replicate d 0)) 0 cur w hg (by simp [ws]; omega) (by intro v hv; simp [ws] at hv; obtain ⟨_, rfl⟩ := hv; rfl), e, setRow_self w g cur 111 (0, 0) hg]
      rfl
end Go.Proofs.YtpjkfdgkkpkljaaGreatDoor.Nat_
