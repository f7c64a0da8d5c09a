/-
  A natural shifted to the left into a new one. Words copied into a row that a call owns; the package's set. A natural shifted to the left into a new one: by any number of places.
-/
import Derived.Test.YtpjkfdgkkpkljaaGreatDoorLshVec
import Derived.Test.YtpjkfdgkkpkljaaGreatDoorNatCmp
import Derived.Test.YtpjkfdgkkpkljaaGreatDoorNatMake
import Derived.Laws.CopyRow
import Derived.Laws.CopyOwn
namespace Go.Proofs.YtpjkfdgkkpkljaaGreatDoor.Nat_
open Go.RowKit Go.WideShapes Go.Proofs.YtpjkfdgkkpkljaaGreatDoor.Own Go.Proofs.YtpjkfdgkkpkljaaGreatDoor.Num Go.Proofs.YtpjkfdgkkpkljaaGreatDoor.Ref
set_option linter.unusedVariables false

set_option maxHeartbeats 2000000 in
set_option maxRecDepth 100000 in
theorem nlsh_main (v : Value) (X S m B : Nat) (w : World) (h : IsNat w B v X) (hm : len W X = m) (hm1 : 0 < m) (hm2 : m ≤ 5000) (hS : S ≤ 100000) (hS1 : S % 64 ≠ 0) :
    Calls Tryz.prog 137 #[.slice none 0 0, v, .int .u64 S] w fun e w' => (∃ u, e = .returned u ∧ IsNat w' w.heap.size u (X * 2 ^ S)) ∧ Below w.heap.size w w' := by
  obtain ⟨d, hd⟩ : ∃ d, S / 64 = d := ⟨_, rfl⟩
  obtain ⟨s, hs⟩ : ∃ s, S % 64 = s := ⟨_, rfl⟩
  have hd' : (S : Int) / 64 = d := by omega
  have hs' : (S : Int) % 64 = s := by omega
  have hS0 : ((S : Int) == 0) = false := by simp; omega
  have hs0 : ((s : Int) == 0) = false := by simp; omega
  have hm0 : ((m : Int) == 0) = false := by simp; omega
  obtain ⟨n, hn⟩ : ∃ n, m + d = n := ⟨_, rfl⟩
  have hn' : (m : Int) + d = n := by omega
  obtain ⟨N, hN⟩ : ∃ N, n + 1 = N := ⟨_, rfl⟩
  have hn1 : (n : Int) + 1 = N := by omega
  have hn9 : n ≤ 9000 := by omega
  have hnm : (n : Int) - m = d := by omega
  have hmk := Lib.hid (make_any N (by omega) w)
  have h' := Lib.hid h
  obtain ⟨a, c, rfl, hc, hr⟩ := h.slice
  obtain ⟨g, rfl, htop⟩ := hr.at_ (j := 0) (by omega)
  rw [hm] at hc ⊢
  go_enter Tryz.func137, Tryz.ntmps137
  go_wp2_with fail
  refine hmk.out.mono ?_
  rintro e w1 ⟨⟨z, rfl, hz⟩, hb1⟩
  rcases hz.shape with ⟨_, h0⟩ | ⟨gz, cz, rfl, hgz, hBz, hcz, hcell⟩
  · have := congrArg List.length h0
    rw [dig_length] at this
    simp at this
    omega
  rw [dig_length] at hcz ⊢
  by_cases hd0 : d = 0
  · subst hd0
    obtain rfl : n = m := by omega
    clear hnm hn'
    simp only [Int.natCast_zero] at hd'
    have hz' := Lib.hid hz
    have hb1' := Lib.hid hb1
    have hmE := hm
    have hlv := Lib.hid (lshv_any _ X s 0 n N B gz cz w w1 h'.out hm hm1 (by omega) (by omega) (by omega) (by omega) (by omega) hBz hb1 cz (by
      rw [shlRow_start]
      have := hz
      unfold OwnW at this
      rw [dig_length] at this
      exact this))
    clear hz hcell hb1 htop hr
    go_wp2_with fail
    have hlv2 := hlv.out
    rw [hmE] at hlv2
    refine hlv2.mono ?_
    rintro e w2 ⟨⟨rfl, ho⟩, hb2⟩
    have hc0 := World.ownsRow.cellAt ho n (by omega)
    have hf0 := World.ownsRow.frozenAt ho n
    obtain ⟨cv, hcv⟩ : ∃ cv, (ws (shlRow X s 0 n 0 N))[n]? = some cv := ⟨_, List.getElem?_eq_getElem (by rw [ws_length, shlRow_length]; omega)⟩
    rw [hcv] at hc0
    obtain ⟨T, hT⟩ : ∃ T, X * 2 ^ s / W ^ n % W = T := ⟨_, rfl⟩
    rw [hT]
    have hst := (World.ownsRow.stored ho n (.int .u64 (T : Int))).1
    have hXS : X * 2 ^ s * W ^ 0 = X * 2 ^ S := by
      rw [Nat.mul_assoc, show W = 2 ^ 64 by rw [W_eq], ← Nat.pow_mul, ← Nat.pow_add]
      congr 2
      omega
    have hset : (ws (shlRow X s 0 n 0 N)).set n (.int .u64 (T : Int)) = ws (dig W (X * 2 ^ S) N) := by
      have h1 := shlRow_end X s 0 n
      rw [hT, show 0 + n = n by omega, hN, hXS] at h1
      rw [← h1]; unfold ws; rw [List.map_set]
    rw [hset] at hst
    have hbs : Below w.heap.size w (w2.setCell ⟨gz, n, none⟩ (.int .u64 (T : Int))) := hb2.setCell hBz _
    have hcl := clear_zero gz N 0 w.heap.size cz (dig W (X * 2 ^ S) N) _ hst (by omega) (fun j hj => by
      rw [dig_get _ _ _ _ (by omega), ← hXS]
      congr 1
      have hWd : W ^ 0 = W ^ (0 - j - 1) * W * W ^ j := by
        rw [← Nat.pow_succ, ← Nat.pow_add]
        congr 1
        omega
      rw [hWd, ← Nat.mul_assoc, ← Nat.mul_assoc, Nat.mul_div_cancel _ (Nat.pow_pos (by decide)), Nat.mul_mod_left])
    have hnorm := Lib.hid (norm_any (.slice (some ⟨gz, 0, none⟩) N cz) (X * 2 ^ S) N w.heap.size (w2.setCell ⟨gz, n, none⟩ (.int .u64 (T : Int))) (by
      unfold OwnW; rw [dig_length]; exact hst) (by
      have hXlt : X < W ^ n := by rw [← hmE]; exact len_lt W_two X
      rw [← hXS]
      have h2s : 2 ^ s ≤ W := by rw [W_split s (by omega)]; exact Nat.le_mul_of_pos_left _ (Nat.pow_pos (by omega))
      rw [show N = n + 1 + 0 by omega, Nat.pow_add]
      refine Nat.mul_lt_mul_of_pos_right ?_ (Nat.pow_pos (by decide))
      rw [Nat.pow_succ]
      exact Nat.mul_lt_mul_of_lt_of_le hXlt h2s (by decide)) (by omega))
    have hbs' := Lib.hid hbs
    clear ho hb2 hcv hlv2 hlv hmk hst hset hbs hT hXS
    go_wp2_with fail
    refine hnorm.out.mono ?_
    rintro e w3 ⟨⟨u, rfl, hu⟩, rfl⟩
    go_wp2
    go_ret
    exact ⟨⟨_, rfl, hu⟩, hbs'.out⟩
  · have hz' := Lib.hid hz
    have hb1' := Lib.hid hb1
    have hmE := hm
    have hlv := Lib.hid (lshv_any _ X s d m N B gz (cz - d) w w1 h'.out hm hm1 (by omega) (by omega) (by omega) (by omega) (by omega) hBz hb1 cz (by
      rw [shlRow_start]
      have := hz
      unfold OwnW at this
      rw [dig_length] at this
      exact this))
    clear hz hcell hb1 htop hr
    go_wp2_with fail
    rw [show n - d = m by omega]
    have hlv2 := hlv.out
    rw [hmE] at hlv2
    refine hlv2.mono ?_
    rintro e w2 ⟨⟨rfl, ho⟩, hb2⟩
    have hc0 := World.ownsRow.cellAt ho n (by omega)
    have hf0 := World.ownsRow.frozenAt ho n
    obtain ⟨cv, hcv⟩ : ∃ cv, (ws (shlRow X s d m 0 N))[n]? = some cv := ⟨_, List.getElem?_eq_getElem (by rw [ws_length, shlRow_length]; omega)⟩
    rw [hcv] at hc0
    obtain ⟨T, hT⟩ : ∃ T, X * 2 ^ s / W ^ m % W = T := ⟨_, rfl⟩
    rw [hT]
    have hst := (World.ownsRow.stored ho n (.int .u64 (T : Int))).1
    have hXS : X * 2 ^ s * W ^ d = X * 2 ^ S := by
      rw [Nat.mul_assoc, show W = 2 ^ 64 by rw [W_eq], ← Nat.pow_mul, ← Nat.pow_add]
      congr 2
      omega
    have hset : (ws (shlRow X s d m 0 N)).set n (.int .u64 (T : Int)) = ws (dig W (X * 2 ^ S) N) := by
      have h1 := shlRow_end X s d m
      rw [hT, show d + m = n by omega, hN, hXS] at h1
      rw [← h1]; unfold ws; rw [List.map_set]
    rw [hset] at hst
    have hbs : Below w.heap.size w (w2.setCell ⟨gz, n, none⟩ (.int .u64 (T : Int))) := hb2.setCell hBz _
    have hcl := clear_zero gz N d w.heap.size cz (dig W (X * 2 ^ S) N) _ hst (by omega) (fun j hj => by
      rw [dig_get _ _ _ _ (by omega), ← hXS]
      congr 1
      have hWd : W ^ d = W ^ (d - j - 1) * W * W ^ j := by
        rw [← Nat.pow_succ, ← Nat.pow_add]
        congr 1
        omega
      rw [hWd, ← Nat.mul_assoc, ← Nat.mul_assoc, Nat.mul_div_cancel _ (Nat.pow_pos (by decide)), Nat.mul_mod_left])
    have hnorm := Lib.hid (norm_any (.slice (some ⟨gz, 0, none⟩) N cz) (X * 2 ^ S) N w.heap.size (w2.setCell ⟨gz, n, none⟩ (.int .u64 (T : Int))) (by
      unfold OwnW; rw [dig_length]; exact hst) (by
      have hXlt : X < W ^ m := by rw [← hmE]; exact len_lt W_two X
      rw [← hXS]
      have h2s : 2 ^ s ≤ W := by rw [W_split s (by omega)]; exact Nat.le_mul_of_pos_left _ (Nat.pow_pos (by omega))
      rw [show N = m + 1 + d by omega, Nat.pow_add]
      refine Nat.mul_lt_mul_of_pos_right ?_ (Nat.pow_pos (by decide))
      rw [Nat.pow_succ]
      exact Nat.mul_lt_mul_of_lt_of_le hXlt h2s (by decide)) (by omega))
    have hbs' := Lib.hid hbs
    clear ho hb2 hcv hlv2 hlv hmk hst hset hbs hT hXS
    go_wp2_with fail
    refine hnorm.out.mono ?_
    rintro e w3 ⟨⟨u, rfl, hu⟩, rfl⟩
    go_wp2
    go_ret
    exact ⟨⟨_, rfl, hu⟩, hbs'.out⟩
end Go.Proofs.YtpjkfdgkkpkljaaGreatDoor.Nat_
namespace Go.Proofs.YtpjkfdgkkpkljaaGreatDoor.Nat_
open Go.RowKit Go.WideShapes Go.Proofs.YtpjkfdgkkpkljaaGreatDoor.Own Go.Proofs.YtpjkfdgkkpkljaaGreatDoor.Num Go.Proofs.YtpjkfdgkkpkljaaGreatDoor.Ref
set_option linter.unusedVariables false

theorem size_word : (Tryz.prog.info? 111).map (·.size) = some 1 := by kernel_rfl
theorem ws_one (l : List Nat) : ∀ v ∈ ws l, v.oneCell' = true := by
  intro v hv
  simp [ws] at hv
  obtain ⟨_, _, rfl⟩ := hv
  rfl
/-- words copied into an owned row, whatever it held -/
theorem copy_vals (dT sT : TypeId) (hdT : Tryz.prog.underlying dT = some (.slice 111)) (g N c d dc n sc : Nat) (B : Nat) (L : List Value) (S : List Nat) (a : Addr) (w0 w : World)
    (hz : w.ownsRow B 111 1 (.slice (some ⟨g, 0, none⟩) N c) N L) (hn : S.length = n) (hd : d + n ≤ N)
    (hsrc : ∀ j v, (ws S)[j]? = some v → w.cell? (a.add j) = some v) (dLen sLen : Nat) (hmin : n = Nat.min sLen dLen) (B0 : Nat) (hb : Below B0 w0 w) (hB : B0 ≤ B) :
    ∃ w', (∀ ty, (Builtin.copy_ #[dT, sT] ty #[.slice (some ⟨g, d, none⟩) dLen dc, .slice (some a) sLen sc]).run Tryz.prog w = .ok (goInt n) w') ∧
      w'.ownsRow B 111 1 (.slice (some ⟨g, 0, none⟩) N c) N (L.take d ++ ws S ++ L.drop (d + n)) ∧ Below B0 w0 w' := by
  have hL : L.length = N := by have := hz.1; omega
  rcases hz.2 with ⟨h, _⟩ | ⟨g', c', cur, e, hB', hg, hcl, hm, hs, ht⟩
  · cases h
  · cases e
    rw [Nat.mul_one] at hs ht
    refine ⟨w.setRow g (cur.toList.take d ++ ws S ++ cur.toList.drop (d + n)).toArray, fun ty => ?_, ?_, ?_⟩
    · have := run_copy_row (P := Tryz.prog) w dT sT ty 111 g d dLen dc a sLen sc cur 111 (ws S) hdT size_word hg (by rw [ws_length, hn]; exact hmin) hsrc (by rw [ws_length, hn]; omega) (ws_one S)
      rw [ws_length, hn] at this
      exact this
    · have hlen : (cur.toList.take d ++ ws S ++ cur.toList.drop (d + n)).length = c := by
        simp only [List.length_append, List.length_take, List.length_drop, ws_length, Array.length_toList, hn]
        omega
      refine ⟨by simp only [ws_length, List.length_append, List.length_take, List.length_drop, hn, hL]; omega, .inr ⟨g, c, _, rfl, hB', setRow_heap w g cur _ 111 (0, 0) hg, hcl, hm, by rw [List.size_toArray, hlen, Nat.mul_one], ?_⟩⟩
      rw [Nat.mul_one]
      show (cur.toList.take d ++ ws S ++ cur.toList.drop (d + n)).take N = _
      have h1 : (cur.toList.take d) = L.take d := by
        have : cur.toList.take d = (cur.toList.take N).take d := by rw [List.take_take, Nat.min_eq_left (by omega)]
        rw [this, ht]
      have h2 : (cur.toList.drop (d + n)).take (N - (d + n)) = L.drop (d + n) := by
        have : (cur.toList.drop (d + n)).take (N - (d + n)) = (cur.toList.take N).drop (d + n) := by rw [List.drop_take]
        rw [this, ht]
      have h3 : (cur.toList.take d ++ ws S).length = d + n := by
        simp only [List.length_append, List.length_take, ws_length, Array.length_toList, hn]; omega
      rw [List.take_append, h3, h2, List.take_of_length_le (by rw [h3]; omega), h1]
    · exact below_setRow hb (by omega) _

/-- words copied into an owned row -/
theorem copy_words (dT sT : TypeId) (hdT : Tryz.prog.underlying dT = some (.slice 111)) (g N c d dc n sc : Nat) (B : Nat) (L S : List Nat) (a : Addr) (w0 w : World)
    (hz : w.ownsRow B 111 1 (.slice (some ⟨g, 0, none⟩) N c) N (ws L)) (hn : S.length = n) (hd : d + n ≤ N)
    (hsrc : ∀ j v, (ws S)[j]? = some v → w.cell? (a.add j) = some v) (dLen sLen : Nat) (hmin : n = Nat.min sLen dLen) (B0 : Nat) (hb : Below B0 w0 w) (hB : B0 ≤ B) :
    ∃ w', (∀ ty, (Builtin.copy_ #[dT, sT] ty #[.slice (some ⟨g, d, none⟩) dLen dc, .slice (some a) sLen sc]).run Tryz.prog w = .ok (goInt n) w') ∧
      w'.ownsRow B 111 1 (.slice (some ⟨g, 0, none⟩) N c) N (ws (L.take d ++ S ++ L.drop (d + n))) ∧ Below B0 w0 w' := by
  obtain ⟨w', h1, h2, h3⟩ := copy_vals dT sT hdT g N c d dc n sc B (ws L) S a w0 w hz hn hd hsrc dLen sLen hmin B0 hb hB
  refine ⟨w', h1, ?_, h3⟩
  have e : ws (L.take d ++ S ++ L.drop (d + n)) = (ws L).take d ++ ws S ++ (ws L).drop (d + n) := by unfold ws; simp [List.map_take, List.map_drop]
  rw [e]
  exact h2

theorem cell_add (g j : Nat) : ((⟨g, 0, none⟩ : Addr).add j) = ⟨g, j, none⟩ := by unfold Addr.add; split <;> simp_all
theorem cell_add' (g d j : Nat) : ((⟨g, d, none⟩ : Addr).add j) = ⟨g, d + j, none⟩ := by unfold Addr.add; split <;> simp_all
/-- the words of a number, as a copy reads them -/
theorem RdW.src {w : World} {B : Nat} {a : Option Addr} {V : Nat} (h : RdW w B a V) {j : Nat} {v : Value} (hj : (ws (words V))[j]? = some v) : ∃ g, a = some ⟨g, 0, none⟩ ∧ w.cell? ((⟨g, 0, none⟩ : Addr).add j) = some v := by
  unfold ws words at hj
  rw [List.getElem?_map] at hj
  by_cases hlt : j < len W V
  · obtain ⟨g, rfl, hc⟩ := h.at_ hlt
    refine ⟨g, rfl, ?_⟩
    rw [cell_add, hc]
    rw [dig_get _ _ _ _ hlt] at hj
    exact hj
  · rw [List.getElem?_eq_none (by rw [dig_length]; omega)] at hj
    cases hj

set_option maxHeartbeats 1000000 in
set_option maxRecDepth 100000 in
theorem nset_any (v : Value) (X B : Nat) (w : World) (h : IsNat w B v X) (hm : len W X ≤ 10000) :
    Calls Tryz.prog 80 #[.slice none 0 0, v] w fun e w' => (∃ u, e = .returned u ∧ IsNat w' w.heap.size u X) ∧ Below w.heap.size w w' := by
  obtain ⟨a, c, rfl, hc, hr⟩ := h.slice
  obtain ⟨m, hmm⟩ : ∃ m, len W X = m := ⟨_, rfl⟩
  have hmk := Lib.hid (make_any m (by omega) w)
  have hr' := Lib.hid hr
  have hmm' := Lib.hid hmm
  rw [hmm] at hc hm ⊢
  clear hr h hmm
  go_enter Tryz.func80, Tryz.ntmps80
  go_wp2_with fail
  refine hmk.out.mono ?_
  rintro e w1 ⟨⟨z, rfl, hz⟩, hb1⟩
  rcases hz.shape with ⟨rfl, h0⟩ | ⟨gz, cz, rfl, hgz, hBz, hcz, hcell⟩
  · have h1 := congrArg List.length h0
    rw [dig_length] at h1
    simp at h1
    subst h1
    have hcp := fun ty => run_copy_none (P := Tryz.prog) w1 83 83 ty 111 none a 0 0 0 c Tryz.underlying83 size_word (by simp)
    have hX : words X = [] := by unfold words; rw [hmm'.out]; rfl
    have hfin := Lib.hid (show IsNat w1 w.heap.size (.slice none 0 0) X by unfold IsNat; rw [hX]; exact World.ownsRow_nil _ _ _ _)
    clear hz
    go_wp2
    go_ret
    exact ⟨⟨_, rfl, hfin.out⟩, hb1⟩
  · rw [dig_length] at hcz ⊢
    have hz2 : w1.ownsRow w.heap.size 111 1 (.slice (some ⟨gz, 0, none⟩) m cz) m (ws (dig W 0 m)) := by
      have := hz
      unfold OwnW at this
      rw [dig_length] at this
      exact this
    by_cases hm0 : m = 0
    · subst hm0
      have hcp := fun ty => run_copy_none (P := Tryz.prog) w1 83 83 ty 111 (some ⟨gz, 0, none⟩) a 0 cz 0 c Tryz.underlying83 size_word (by simp)
      have hX : words X = [] := by unfold words; rw [hmm'.out]; rfl
      have hfin := Lib.hid (show IsNat w1 w.heap.size (.slice (some ⟨gz, 0, none⟩) 0 cz) X by unfold IsNat; rw [hX]; exact hz2)
      clear hz hz2 hcell
      go_wp2
      go_ret
      exact ⟨⟨_, rfl, hfin.out⟩, hb1⟩
    · have hr1 := hr'.out.later hb1
      obtain ⟨g, rfl, -⟩ := hr1.at_ (j := 0) (by rw [hmm'.out]; omega)
      obtain ⟨w2, hcp, ho, hb2⟩ := copy_words 83 83 Tryz.underlying83 gz m cz 0 cz m c w.heap.size (dig W 0 m) (words X) ⟨g, 0, none⟩ w w1 hz2 (by unfold words; rw [dig_length, hmm'.out]) (by omega) (fun j v hj => by
        obtain ⟨g', e, h⟩ := hr1.src hj
        cases e
        exact h) m m (by simp) _ hb1 (Nat.le_refl _)
      have hfin := Lib.hid (show IsNat w2 w.heap.size (.slice (some ⟨gz, 0, none⟩) m cz) X by
        have hlen : (words X).length = m := by unfold words; rw [dig_length, hmm'.out]
        unfold IsNat OwnW
        rw [hlen]
        simpa [List.drop_eq_nil_of_le, dig_length] using ho)
      clear hz hz2 hcell hr1 ho
      go_wp2
      go_ret
      exact ⟨⟨_, rfl, hfin.out⟩, hb2⟩
end Go.Proofs.YtpjkfdgkkpkljaaGreatDoor.Nat_
namespace Go.Proofs.YtpjkfdgkkpkljaaGreatDoor.Nat_
open Go.RowKit Go.WideShapes Go.Proofs.YtpjkfdgkkpkljaaGreatDoor.Own Go.Proofs.YtpjkfdgkkpkljaaGreatDoor.Num Go.Proofs.YtpjkfdgkkpkljaaGreatDoor.Ref
set_option linter.unusedVariables false

theorem dig_shift (X d m N : Nat) (hX : X < W ^ m) (hN : d + m ≤ N) : (dig W 0 N).take d ++ dig W X m ++ (dig W 0 N).drop (d + m) = dig W (X * W ^ d) N := by
  have hW : ∀ j, 0 < W ^ j := fun j => Nat.pow_pos (by decide)
  apply List.ext_getElem?
  intro k
  have l1 : ((dig W 0 N).take d).length = d := by rw [List.length_take, dig_length]; omega
  have l2 : ((dig W 0 N).take d ++ dig W X m).length = d + m := by rw [List.length_append, l1, dig_length]
  have z : ∀ j, j < N → (dig W 0 N)[j]? = some 0 := fun j h => by rw [dig_get _ _ _ _ h]; simp
  by_cases h : k < N
  · rw [dig_get _ _ _ _ h]
    by_cases h1 : k < d
    · have e : X * W ^ d / W ^ k % W = 0 := by
        have hWd : W ^ d = W ^ (d - k - 1) * W * W ^ k := by
          rw [← Nat.pow_succ, ← Nat.pow_add]
          congr 1
          omega
        rw [hWd, ← Nat.mul_assoc, ← Nat.mul_assoc]
        rw [Nat.mul_div_cancel _ (hW k), Nat.mul_mod_left]
      rw [e, List.getElem?_append_left (by rw [l2]; omega), List.getElem?_append_left (by rw [l1]; omega), List.getElem?_take, if_pos h1, z _ (by omega)]
    · have e : X * W ^ d / W ^ k = X / W ^ (k - d) := by
        rw [show W ^ k = W ^ (k - d) * W ^ d by rw [← Nat.pow_add]; congr 1; omega, Nat.mul_div_mul_right _ _ (hW d)]
      rw [e]
      by_cases h2 : k < d + m
      · rw [List.getElem?_append_left (by rw [l2]; omega), List.getElem?_append_right (by rw [l1]; omega), l1, dig_get _ _ _ _ (by omega)]
      · have e0 : X / W ^ (k - d) = 0 := Nat.div_eq_of_lt (Nat.lt_of_lt_of_le hX (Nat.pow_le_pow_right (by decide) (by omega)))
        rw [e0, List.getElem?_append_right (by rw [l2]; omega), l2, List.getElem?_drop, z _ (by omega)]
        rfl
  · rw [List.getElem?_eq_none (l := dig W (X * W ^ d) N) (by rw [dig_length]; omega), List.getElem?_eq_none]
    rw [List.length_append, l2, List.length_drop, dig_length]
    omega

set_option maxRecDepth 100000 in
theorem same_nil (a : Option Addr) (m c : Nat) (w : World) (hm : m ≤ 10000) : Calls Tryz.prog 148 #[.slice none 0 0, .slice a m c] w fun e w' => e = .returned (.bool false) ∧ ∃ q, w' = w.drewN q := by
  by_cases h0 : m = 0
  · subst h0
    go_enter Tryz.func148, Tryz.ntmps148
    go_wp2
    go_quiet (fail)
    go_wp2
    go_ret
    exact ⟨rfl, _, rfl⟩
  · have hb : ((0 : Int) == (m : Int)) = false := by simp; omega
    go_enter Tryz.func148, Tryz.ntmps148
    go_wp2
    go_quiet (fail)
    go_wp2
    go_ret
    exact ⟨rfl, _, rfl⟩
set_option maxRecDepth 100000 in
theorem alias_nil (a : Option Addr) (m c : Nat) (w : World) : Calls Tryz.prog 105 #[.slice none 0 0, .slice a m c] w fun e w' => e = .returned (.bool false) ∧ ∃ q, w' = w.drewN q := by
  go_enter Tryz.func105, Tryz.ntmps105
  go_wp2
  go_quiet (fail)
  go_wp2
  go_ret
  exact ⟨rfl, _, rfl⟩

set_option maxHeartbeats 2000000 in
set_option maxRecDepth 100000 in
/-- nothing is shifted -/
theorem nlsh_none (v : Value) (X B : Nat) (w : World) (h : IsNat w B v X) (hm2 : len W X ≤ 5000) :
    Calls Tryz.prog 137 #[.slice none 0 0, v, .int .u64 0] w fun e w' => (∃ u, e = .returned u ∧ IsNat w' w.heap.size u X) ∧ Below w.heap.size w w' := by
  have hset := Lib.hid fun p => nset_any v X B (w.drewN p) h (by omega)
  obtain ⟨a, c, rfl, hc, hr⟩ := h.slice
  obtain ⟨m, hmm⟩ : ∃ m, len W X = m := ⟨_, rfl⟩
  have hsm := Lib.hid (same_nil a m c w (by omega))
  have hal := Lib.hid fun w => alias_nil a m c w
  rw [hmm] at hc hm2 hset ⊢
  clear hr h hmm
  go_enter Tryz.func137, Tryz.ntmps137
  go_wp2_with fail
  refine hsm.out.mono ?_
  rintro e w1 ⟨rfl, p, rfl⟩
  go_wp2_with fail
  refine (hal.out _).mono ?_
  rintro e w1 ⟨rfl, q, rfl⟩
  go_wp2_with fail
  refine (hset.out (p + q)).mono ?_
  rintro e w1 ⟨⟨z, rfl, hz⟩, hb1⟩
  go_wp2
  go_ret
  exact ⟨⟨_, rfl, hz⟩, (Box.below_drawn (Below.refl _ _) (p + q)).trans hb1⟩

set_option maxHeartbeats 2000000 in
set_option maxRecDepth 100000 in
/-- 0 is shifted -/
theorem nlsh_zero (v : Value) (S B : Nat) (w : World) (h : IsNat w B v 0) (hS : S ≤ 100000) (hS0 : S ≠ 0) :
    Calls Tryz.prog 137 #[.slice none 0 0, v, .int .u64 S] w fun e w' => (∃ u, e = .returned u ∧ IsNat w' w.heap.size u 0) ∧ Below w.heap.size w w' := by
  obtain ⟨a, c, rfl, hc, hr⟩ := h.slice
  have hb : ((S : Int) == 0) = false := by simp; omega
  have hfin := Lib.hid (show IsNat w w.heap.size (.slice none 0 0) 0 from World.ownsRow_nil _ _ _ _)
  rw [show len W 0 = 0 from rfl] at hc ⊢
  clear hr h
  go_enter Tryz.func137, Tryz.ntmps137
  go_wp2
  go_ret
  exact ⟨⟨_, rfl, hfin.out⟩, Below.refl _ _⟩

set_option maxHeartbeats 2000000 in
set_option maxRecDepth 100000 in
/-- by whole words -/
theorem nlsh_words (v : Value) (X S d m B : Nat) (w : World) (h : IsNat w B v X) (hm : len W X = m) (hm1 : 0 < m) (hm2 : m ≤ 5000) (hS : S ≤ 100000) (hS1 : S = 64 * d) (hd0 : 0 < d) :
    Calls Tryz.prog 137 #[.slice none 0 0, v, .int .u64 S] w fun e w' => (∃ u, e = .returned u ∧ IsNat w' w.heap.size u (X * 2 ^ S)) ∧ Below w.heap.size w w' := by
  have hd' : (S : Int) / 64 = d := by omega
  have hs' : (S : Int) % 64 = 0 := by omega
  have hS0 : ((S : Int) == 0) = false := by simp; omega
  have hm0 : ((m : Int) == 0) = false := by simp; omega
  obtain ⟨n, hn⟩ : ∃ n, m + d = n := ⟨_, rfl⟩
  have hn' : (m : Int) + d = n := by omega
  obtain ⟨N, hN⟩ : ∃ N, n + 1 = N := ⟨_, rfl⟩
  have hn1 : (n : Int) + 1 = N := by omega
  have hn9 : n ≤ 9000 := by omega
  have hnm : (n : Int) - m = d := by omega
  have hmk := Lib.hid (make_any N (by omega) w)
  have h' := Lib.hid h
  obtain ⟨a, c, rfl, hc, hr⟩ := h.slice
  obtain ⟨g, rfl, htop⟩ := hr.at_ (j := 0) (by omega)
  have hX : X < W ^ m := by rw [← hm]; exact len_lt W_two X
  have hXS : X * W ^ d = X * 2 ^ S := by
    rw [show W = 2 ^ 64 by rw [W_eq], ← Nat.pow_mul, hS1]
  rw [hm] at hc ⊢
  have hX' := Lib.hid hX
  have hXS' := Lib.hid hXS
  have hS1' := Lib.hid hS1
  clear hX hXS hS1 htop
  have hr' := Lib.hid hr
  have hm' := Lib.hid hm
  clear hr hm h
  go_enter Tryz.func137, Tryz.ntmps137
  go_wp2_with fail
  refine hmk.out.mono ?_
  rintro e w1 ⟨⟨z, rfl, hz⟩, hb1⟩
  rcases hz.shape with ⟨_, h0⟩ | ⟨gz, cz, rfl, hgz, hBz, hcz, hcell⟩
  · have := congrArg List.length h0
    rw [dig_length] at this
    simp at this
    omega
  rw [dig_length] at hcz ⊢
  have hz2 : w1.ownsRow w.heap.size 111 1 (.slice (some ⟨gz, 0, none⟩) N cz) N (ws (dig W 0 N)) := by
    have := hz
    unfold OwnW at this
    rw [dig_length] at this
    exact this
  have hr1 := hr'.out.later hb1
  obtain ⟨w2, hcp, ho, hb2⟩ := copy_words 83 83 Tryz.underlying83 gz N cz d (cz - d) m c w.heap.size (dig W 0 N) (words X) ⟨g, 0, none⟩ w w1 hz2 (by unfold words; rw [dig_length, hm'.out]) (by omega) (fun j v hj => by
    obtain ⟨g', e, h⟩ := hr1.src hj
    cases e
    exact h) (n - d) m (by show m = min m (n - d); omega) _ hb1 (Nat.le_refl _)
  have hwd : words X = dig W X m := by unfold words; rw [hm'.out]
  rw [hwd, dig_shift X d m N hX'.out (by omega), hXS'.out] at ho
  have hc0 := World.ownsRow.cellAt ho n (by omega)
  have hf0 := World.ownsRow.frozenAt ho n
  obtain ⟨cv, hcv⟩ : ∃ cv, (ws (dig W (X * 2 ^ S) N))[n]? = some cv := ⟨_, List.getElem?_eq_getElem (by rw [ws_length, dig_length]; omega)⟩
  rw [hcv] at hc0
  have hst := (World.ownsRow.stored ho n (.int .u64 0)).1
  have hXlt : X * W ^ d < W ^ n := by
    rw [← hn, Nat.pow_add]
    exact Nat.mul_lt_mul_of_pos_right hX'.out (Nat.pow_pos (by decide))
  rw [hXS'.out] at hXlt
  have hset : (ws (dig W (X * 2 ^ S) N)).set n (.int .u64 0) = ws (dig W (X * 2 ^ S) N) := by
    apply List.ext_getElem?
    intro k
    rw [List.getElem?_set]
    by_cases hk : n = k
    · subst hk
      rw [if_pos rfl, if_pos (by rw [ws_length, dig_length]; omega)]
      unfold ws
      rw [List.getElem?_map, dig_get _ _ _ _ (by omega), Nat.div_eq_of_lt hXlt]
      rfl
    · rw [if_neg hk]
  rw [hset] at hst
  have hbs : Below w.heap.size w (w2.setCell ⟨gz, n, none⟩ (.int .u64 0)) := hb2.setCell hBz _
  have hcl := clear_zero gz N d w.heap.size cz (dig W (X * 2 ^ S) N) _ hst (by omega) (fun j hj => by
    rw [dig_get _ _ _ _ (by omega), ← hXS'.out]
    congr 1
    have hWd : W ^ d = W ^ (d - j - 1) * W * W ^ j := by
      rw [← Nat.pow_succ, ← Nat.pow_add]
      congr 1
      omega
    rw [hWd, ← Nat.mul_assoc, ← Nat.mul_assoc, Nat.mul_div_cancel _ (Nat.pow_pos (by decide)), Nat.mul_mod_left])
  have hnorm := Lib.hid (norm_any (.slice (some ⟨gz, 0, none⟩) N cz) (X * 2 ^ S) N w.heap.size (w2.setCell ⟨gz, n, none⟩ (.int .u64 0)) (by
    unfold OwnW; rw [dig_length]; exact hst) (Nat.lt_of_lt_of_le hXlt (Nat.pow_le_pow_right (by decide) (by omega))) (by omega))
  have hbs' := Lib.hid hbs
  clear hz hz2 hcell hr1 hmk hwd ho hb2 hcv hst hset hbs hXlt
  go_wp2_with fail
  refine hnorm.out.mono ?_
  rintro e w3 ⟨⟨u, rfl, hu⟩, rfl⟩
  go_wp2
  go_ret
  exact ⟨⟨_, rfl, hu⟩, hbs'.out⟩

/-- a natural shifted to the left -/
theorem nlsh_any (v : Value) (X S B : Nat) (w : World) (h : IsNat w B v X) (hm : len W X ≤ 5000) (hS : S ≤ 100000) :
    Calls Tryz.prog 137 #[.slice none 0 0, v, .int .u64 S] w fun e w' => (∃ u, e = .returned u ∧ IsNat w' w.heap.size u (X * 2 ^ S)) ∧ Below w.heap.size w w' := by
  by_cases h0 : S = 0
  · subst h0
    rw [Nat.pow_zero, Nat.mul_one]
    exact nlsh_none v X B w h hm
  · by_cases hX : X = 0
    · subst hX
      rw [Nat.zero_mul]
      exact nlsh_zero v S B w h hS h0
    · have hpos := (len_pos W_two (v := X)).2 (by omega)
      by_cases h64 : S % 64 = 0
      · exact nlsh_words v X S (S / 64) _ B w h rfl hpos hm hS (by omega) (by omega)
      · exact nlsh_main v X S _ B w h rfl hpos hm hS h64
end Go.Proofs.YtpjkfdgkkpkljaaGreatDoor.Nat_
