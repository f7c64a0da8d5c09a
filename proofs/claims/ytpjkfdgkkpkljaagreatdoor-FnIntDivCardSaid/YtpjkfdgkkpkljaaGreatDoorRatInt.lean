/-
  The package's natural numbers: one, and what a division by one gives. A natural shifted to the left into a row that has room for one word alone. The package's integers inside a fraction: SetUint64, Set, Abs at any address.
-/
import Derived.Test.YtpjkfdgkkpkljaaGreatDoorNatLsh
import Derived.Test.YtpjkfdgkkpkljaaGreatDoorBigStar
import Derived.Defers
import Derived.Deep.RegionHeld3
namespace Go.Proofs.YtpjkfdgkkpkljaaGreatDoor.Big
open Go.RowKit Go.WideShapes Go.Proofs.YtpjkfdgkkpkljaaGreatDoor.Own Go.Proofs.YtpjkfdgkkpkljaaGreatDoor.Num Go.Proofs.YtpjkfdgkkpkljaaGreatDoor.Ref Go.Proofs.YtpjkfdgkkpkljaaGreatDoor.Nat_
set_option linter.unusedVariables false

theorem words_1 : words 1 = [1] := by decide +kernel
theorem one_made (w : World) : IsNat (w.alloc (.cells #[.int .u64 1] 111)) w.heap.size (.slice (some ⟨w.heap.size, 0, none⟩) 1 1) 1 := by
  unfold IsNat OwnW
  rw [words_1]
  exact World.ownsRow_lit (base := w.heap.size) (e := 111) (size := 1) w #[.int .u64 1] 1 (Nat.le_refl _) (by decide) (by simp)
theorem natone_any (w : World) : Calls Tryz.prog 116 #[] w fun e w' => e = .returned (.slice (some ⟨w.heap.size, 0, none⟩) 1 1) ∧ w' = w.alloc (.cells #[.int .u64 1] 111) := by
  go_enter Tryz.func116, Tryz.ntmps116
  go_wp2
  go_ret
  exact ⟨rfl, rfl⟩
set_option maxRecDepth 100000 in
theorem intone_any (w : World) : Calls Tryz.prog 94 #[] w fun e w' => e = .returned (.pointer (some ⟨w.heap.size + 1, 0, none⟩)) ∧ w' = (w.alloc (.cells #[.int .u64 1] 111)).alloc (.cells #[.bool false, .slice (some ⟨w.heap.size, 0, none⟩) 1 1] 85) := by
  have h := Lib.hid fun W => natone_any W
  go_enter Tryz.func94, Tryz.ntmps94
  go_wp2_with fail
  refine (h.out _).mono ?_
  rintro e w' ⟨rfl, rfl⟩
  go_wp2
  go_ret
  exact ⟨by simp, rfl⟩
set_option maxRecDepth 100000 in
theorem setword_zero (w : World) : Calls Tryz.prog 84 #[.slice none 0 0, .int .u64 0] w fun e w' => e = .returned (.slice none 0 0) ∧ w = w' := by
  go_enter Tryz.func84, Tryz.ntmps84
  go_wp2
  go_ret
  exact ⟨rfl, rfl⟩

def Halves (w : World) (X : Nat) (r : Value) (e : Ending) (w' : World) : Prop := (∃ u, e = .returned (.tuple #[u, r]) ∧ IsNat w' w.heap.size u X) ∧ Below w.heap.size w w'
set_option maxRecDepth 100000 in
theorem divw_one (v : Value) (X B : Nat) (w : World) (h : IsNat w B v X) (hm : len W X ≤ 10000) : Calls Tryz.prog 83 #[.slice none 0 0, v, .int .u64 1] w (Halves w X (.int .u64 0)) := by
  have hs := Lib.hid (nset_any v X B w h hm)
  obtain ⟨a, c, rfl, hc, hr⟩ := h.slice
  obtain ⟨n, hn⟩ : ∃ n, len W X = n := ⟨_, rfl⟩
  rw [hn] at hs hc hm ⊢
  clear h hr hn
  go_enter Tryz.func83, Tryz.ntmps83
  go_wp2_with fail
  refine hs.out.mono ?_
  rintro e w' ⟨⟨u, rfl, hu⟩, hb⟩
  have hfin := Lib.hid (show Halves w X (.int .u64 0) (.returned (.tuple #[u, .int .u64 0])) w' from ⟨⟨u, rfl, hu⟩, hb⟩)
  clear hu hb hs
  go_wp2
  go_ret2
  exact hfin.out
set_option maxRecDepth 100000 in
theorem div_one (v d : Value) (X B B2 : Nat) (w : World) (h : IsNat w B v X) (hm : len W X ≤ 10000) (hd : IsNat w B2 d 1) : Calls Tryz.prog 68 #[.slice none 0 0, .pointer none, .slice none 0 0, v, d] w (Halves w X (.slice none 0 0)) := by
  have hs := Lib.hid (divw_one v X B w h hm)
  have hz := Lib.hid fun W => setword_zero W
  obtain ⟨a, c, rfl, hc, hr⟩ := h.slice
  have hd' : w.ownsRow B2 111 1 d 1 [.int .u64 1] := by
    have := hd
    unfold IsNat OwnW at this
    rw [words_1] at this
    exact this
  obtain ⟨g, cd, rfl, hg, hc0⟩ : ∃ g cd, d = .slice (some ⟨g, 0, none⟩) 1 cd ∧ g < w.heap.size ∧ w.cell? ⟨g, 0, none⟩ = some (.int .u64 1) := by
    rcases id hd'.2 with ⟨_, h0⟩ | ⟨g, cd, cur, rfl, _, hg, _⟩
    · cases h0
    · exact ⟨g, cd, rfl, (Array.getElem?_eq_some_iff.1 hg).1, World.ownsRow.cellAt hd' 0 (by decide)⟩
  obtain ⟨n, hn⟩ : ∃ n, len W X = n := ⟨_, rfl⟩
  rw [hn] at hs hc hm ⊢
  clear h hr hn hd hd'
  go_enter Tryz.func68, Tryz.ntmps68
  go_wp2_with fail
  refine hs.out.mono ?_
  rintro e w' ⟨⟨u, rfl, hu⟩, hb⟩
  have hfin := Lib.hid (show Halves w X (.slice none 0 0) (.returned (.tuple #[u, .slice none 0 0])) w' from ⟨⟨u, rfl, hu⟩, hb⟩)
  clear hu hb hs
  go_wp2_with fail
  refine (hz.out _).mono ?_
  rintro e w' ⟨rfl, rfl⟩
  go_wp2
  go_ret2
  exact hfin.out
end Go.Proofs.YtpjkfdgkkpkljaaGreatDoor.Big
namespace Go.Proofs.YtpjkfdgkkpkljaaGreatDoor.Nat_
open Go.RowKit Go.WideShapes Go.Proofs.YtpjkfdgkkpkljaaGreatDoor.Own Go.Proofs.YtpjkfdgkkpkljaaGreatDoor.Num Go.Proofs.YtpjkfdgkkpkljaaGreatDoor.Ref
set_option linter.unusedVariables false

set_option maxRecDepth 100000 in
/-- a row of n zeros where there is less room -/
theorem make_cap (az : Option Addr) (nz cz n : Nat) (h1 : 1 < n) (hc : cz < n) (hn : n ≤ 10000) (w : World) :
    Calls Tryz.prog 77 #[.slice az nz cz, .int .i64 n] w fun e w' => (∃ v, e = .returned v ∧ OwnW w' w.heap.size v (dig W 0 n)) ∧ Below w.heap.size w w' := by
  have hr := fun W => run_new n (n + 4) (by omega) (by omega) W n rfl (n + 4) (by omega)
  have hb : ((n : Int) == 1) = false := by simp; omega
  go_enter Tryz.func77, Tryz.ntmps77
  go_wp2
  go_ret
  exact ⟨⟨_, rfl, own_new n (n + 4) _ (by omega) (by omega) w (Nat.le_refl _)⟩, (Below.refl _ _).alloc (Nat.le_refl _) _⟩

set_option maxHeartbeats 2000000 in
set_option maxRecDepth 100000 in
theorem nlsh_main1 (az : Option Addr) (nz : Nat) (v : Value) (X S m B : Nat) (w : World) (h : IsNat w B v X) (hm : len W X = m) (hm1 : 0 < m) (hm2 : m ≤ 5000) (hS : S ≤ 100000) (hS1 : S % 64 ≠ 0) :
    Calls Tryz.prog 137 #[.slice az nz 1, v, .int .u64 S] w fun e w' => (∃ u, e = .returned u ∧ IsNat w' w.heap.size u (X * 2 ^ S)) ∧ Below w.heap.size w w' := by
  obtain ⟨d, hd⟩ : ∃ d, S / 64 = d := ⟨_, rfl⟩
  obtain ⟨s, hs⟩ : ∃ s, S % 64 = s := ⟨_, rfl⟩
  have hd' : (S : Int) / 64 = d := by omega
  have hs' : (S : Int) % 64 = s := by omega
  have hS0 : ((S : Int) == 0) = false := by simp; omega
  have hs0 : ((s : Int) == 0) = false := by simp; omega
  have hm0 : ((m : Int) == 0) = false := by simp; omega
  obtain ⟨n, hn⟩ : ∃ n, m + d = n := ⟨_, rfl⟩
  have hn' : (m : Int) + d = n := by omega
  obtain ⟨N, hN⟩ : ∃ N, n + 1 = N := ⟨_, rfl⟩
  have hn1 : (n : Int) + 1 = N := by omega
  have hn9 : n ≤ 9000 := by omega
  have hnm : (n : Int) - m = d := by omega
  have hmk := Lib.hid (make_cap az nz 1 N (by omega) (by omega) (by omega) w)
  have h' := Lib.hid h
  obtain ⟨a, c, rfl, hc, hr⟩ := h.slice
  obtain ⟨g, rfl, htop⟩ := hr.at_ (j := 0) (by omega)
  rw [hm] at hc ⊢
  go_enter Tryz.func137, Tryz.ntmps137
  go_wp2_with fail
  refine hmk.out.mono ?_
  rintro e w1 ⟨⟨z, rfl, hz⟩, hb1⟩
  rcases hz.shape with ⟨_, h0⟩ | ⟨gz, cz, rfl, hgz, hBz, hcz, hcell⟩
  · have := congrArg List.length h0
    rw [dig_length] at this
    simp at this
    omega
  rw [dig_length] at hcz ⊢
  by_cases hd0 : d = 0
  · subst hd0
    obtain rfl : n = m := by omega
    clear hnm hn'
    simp only [Int.natCast_zero] at hd'
    have hz' := Lib.hid hz
    have hb1' := Lib.hid hb1
    have hmE := hm
    have hlv := Lib.hid (lshv_any _ X s 0 n N B gz cz w w1 h'.out hm hm1 (by omega) (by omega) (by omega) (by omega) (by omega) hBz hb1 cz (by
      rw [shlRow_start]
      have := hz
      unfold OwnW at this
      rw [dig_length] at this
      exact this))
    clear hz hcell hb1 htop hr
    go_wp2_with fail
    have hlv2 := hlv.out
    rw [hmE] at hlv2
    refine hlv2.mono ?_
    rintro e w2 ⟨⟨rfl, ho⟩, hb2⟩
    have hc0 := World.ownsRow.cellAt ho n (by omega)
    have hf0 := World.ownsRow.frozenAt ho n
    obtain ⟨cv, hcv⟩ : ∃ cv, (ws (shlRow X s 0 n 0 N))[n]? = some cv := ⟨_, List.getElem?_eq_getElem (by rw [ws_length, shlRow_length]; omega)⟩
    rw [hcv] at hc0
    obtain ⟨T, hT⟩ : ∃ T, X * 2 ^ s / W ^ n % W = T := ⟨_, rfl⟩
    rw [hT]
    have hst := (World.ownsRow.stored ho n (.int .u64 (T : Int))).1
    have hXS : X * 2 ^ s * W ^ 0 = X * 2 ^ S := by
      rw [Nat.mul_assoc, show W = 2 ^ 64 by rw [W_eq], ← Nat.pow_mul, ← Nat.pow_add]
      congr 2
      omega
    have hset : (ws (shlRow X s 0 n 0 N)).set n (.int .u64 (T : Int)) = ws (dig W (X * 2 ^ S) N) := by
      have h1 := shlRow_end X s 0 n
      rw [hT, show 0 + n = n by omega, hN, hXS] at h1
      rw [← h1]; unfold ws; rw [List.map_set]
    rw [hset] at hst
    have hbs : Below w.heap.size w (w2.setCell ⟨gz, n, none⟩ (.int .u64 (T : Int))) := hb2.setCell hBz _
    have hcl := clear_zero gz N 0 w.heap.size cz (dig W (X * 2 ^ S) N) _ hst (by omega) (fun j hj => by
      rw [dig_get _ _ _ _ (by omega), ← hXS]
      congr 1
      have hWd : W ^ 0 = W ^ (0 - j - 1) * W * W ^ j := by
        rw [← Nat.pow_succ, ← Nat.pow_add]
        congr 1
        omega
      rw [hWd, ← Nat.mul_assoc, ← Nat.mul_assoc, Nat.mul_div_cancel _ (Nat.pow_pos (by decide)), Nat.mul_mod_left])
    have hnorm := Lib.hid (norm_any (.slice (some ⟨gz, 0, none⟩) N cz) (X * 2 ^ S) N w.heap.size (w2.setCell ⟨gz, n, none⟩ (.int .u64 (T : Int))) (by
      unfold OwnW; rw [dig_length]; exact hst) (by
      have hXlt : X < W ^ n := by rw [← hmE]; exact len_lt W_two X
      rw [← hXS]
      have h2s : 2 ^ s ≤ W := by rw [W_split s (by omega)]; exact Nat.le_mul_of_pos_left _ (Nat.pow_pos (by omega))
      rw [show N = n + 1 + 0 by omega, Nat.pow_add]
      refine Nat.mul_lt_mul_of_pos_right ?_ (Nat.pow_pos (by decide))
      rw [Nat.pow_succ]
      exact Nat.mul_lt_mul_of_lt_of_le hXlt h2s (by decide)) (by omega))
    have hbs' := Lib.hid hbs
    clear ho hb2 hcv hlv2 hlv hmk hst hset hbs hT hXS
    go_wp2_with fail
    refine hnorm.out.mono ?_
    rintro e w3 ⟨⟨u, rfl, hu⟩, rfl⟩
    go_wp2
    go_ret
    exact ⟨⟨_, rfl, hu⟩, hbs'.out⟩
  · have hz' := Lib.hid hz
    have hb1' := Lib.hid hb1
    have hmE := hm
    have hlv := Lib.hid (lshv_any _ X s d m N B gz (cz - d) w w1 h'.out hm hm1 (by omega) (by omega) (by omega) (by omega) (by omega) hBz hb1 cz (by
      rw [shlRow_start]
      have := hz
      unfold OwnW at this
      rw [dig_length] at this
      exact this))
    clear hz hcell hb1 htop hr
    go_wp2_with fail
    rw [show n - d = m by omega]
    have hlv2 := hlv.out
    rw [hmE] at hlv2
    refine hlv2.mono ?_
    rintro e w2 ⟨⟨rfl, ho⟩, hb2⟩
    have hc0 := World.ownsRow.cellAt ho n (by omega)
    have hf0 := World.ownsRow.frozenAt ho n
    obtain ⟨cv, hcv⟩ : ∃ cv, (ws (shlRow X s d m 0 N))[n]? = some cv := ⟨_, List.getElem?_eq_getElem (by rw [ws_length, shlRow_length]; omega)⟩
    rw [hcv] at hc0
    obtain ⟨T, hT⟩ : ∃ T, X * 2 ^ s / W ^ m % W = T := ⟨_, rfl⟩
    rw [hT]
    have hst := (World.ownsRow.stored ho n (.int .u64 (T : Int))).1
    have hXS : X * 2 ^ s * W ^ d = X * 2 ^ S := by
      rw [Nat.mul_assoc, show W = 2 ^ 64 by rw [W_eq], ← Nat.pow_mul, ← Nat.pow_add]
      congr 2
      omega
    have hset : (ws (shlRow X s d m 0 N)).set n (.int .u64 (T : Int)) = ws (dig W (X * 2 ^ S) N) := by
      have h1 := shlRow_end X s d m
      rw [hT, show d + m = n by omega, hN, hXS] at h1
      rw [← h1]; unfold ws; rw [List.map_set]
    rw [hset] at hst
    have hbs : Below w.heap.size w (w2.setCell ⟨gz, n, none⟩ (.int .u64 (T : Int))) := hb2.setCell hBz _
    have hcl := clear_zero gz N d w.heap.size cz (dig W (X * 2 ^ S) N) _ hst (by omega) (fun j hj => by
      rw [dig_get _ _ _ _ (by omega), ← hXS]
      congr 1
      have hWd : W ^ d = W ^ (d - j - 1) * W * W ^ j := by
        rw [← Nat.pow_succ, ← Nat.pow_add]
        congr 1
        omega
      rw [hWd, ← Nat.mul_assoc, ← Nat.mul_assoc, Nat.mul_div_cancel _ (Nat.pow_pos (by decide)), Nat.mul_mod_left])
    have hnorm := Lib.hid (norm_any (.slice (some ⟨gz, 0, none⟩) N cz) (X * 2 ^ S) N w.heap.size (w2.setCell ⟨gz, n, none⟩ (.int .u64 (T : Int))) (by
      unfold OwnW; rw [dig_length]; exact hst) (by
      have hXlt : X < W ^ m := by rw [← hmE]; exact len_lt W_two X
      rw [← hXS]
      have h2s : 2 ^ s ≤ W := by rw [W_split s (by omega)]; exact Nat.le_mul_of_pos_left _ (Nat.pow_pos (by omega))
      rw [show N = m + 1 + d by omega, Nat.pow_add]
      refine Nat.mul_lt_mul_of_pos_right ?_ (Nat.pow_pos (by decide))
      rw [Nat.pow_succ]
      exact Nat.mul_lt_mul_of_lt_of_le hXlt h2s (by decide)) (by omega))
    have hbs' := Lib.hid hbs
    clear ho hb2 hcv hlv2 hlv hmk hst hset hbs hT hXS
    go_wp2_with fail
    refine hnorm.out.mono ?_
    rintro e w3 ⟨⟨u, rfl, hu⟩, rfl⟩
    go_wp2
    go_ret
    exact ⟨⟨_, rfl, hu⟩, hbs'.out⟩
set_option maxHeartbeats 2000000 in
set_option maxRecDepth 100000 in
/-- by whole words -/
theorem nlsh_words1 (az : Option Addr) (nz : Nat) (v : Value) (X S d m B : Nat) (w : World) (h : IsNat w B v X) (hm : len W X = m) (hm1 : 0 < m) (hm2 : m ≤ 5000) (hS : S ≤ 100000) (hS1 : S = 64 * d) (hd0 : 0 < d) :
    Calls Tryz.prog 137 #[.slice az nz 1, v, .int .u64 S] w fun e w' => (∃ u, e = .returned u ∧ IsNat w' w.heap.size u (X * 2 ^ S)) ∧ Below w.heap.size w w' := by
  have hd' : (S : Int) / 64 = d := by omega
  have hs' : (S : Int) % 64 = 0 := by omega
  have hS0 : ((S : Int) == 0) = false := by simp; omega
  have hm0 : ((m : Int) == 0) = false := by simp; omega
  obtain ⟨n, hn⟩ : ∃ n, m + d = n := ⟨_, rfl⟩
  have hn' : (m : Int) + d = n := by omega
  obtain ⟨N, hN⟩ : ∃ N, n + 1 = N := ⟨_, rfl⟩
  have hn1 : (n : Int) + 1 = N := by omega
  have hn9 : n ≤ 9000 := by omega
  have hnm : (n : Int) - m = d := by omega
  have hmk := Lib.hid (make_cap az nz 1 N (by omega) (by omega) (by omega) w)
  have h' := Lib.hid h
  obtain ⟨a, c, rfl, hc, hr⟩ := h.slice
  obtain ⟨g, rfl, htop⟩ := hr.at_ (j := 0) (by omega)
  have hX : X < W ^ m := by rw [← hm]; exact len_lt W_two X
  have hXS : X * W ^ d = X * 2 ^ S := by
    rw [show W = 2 ^ 64 by rw [W_eq], ← Nat.pow_mul, hS1]
  rw [hm] at hc ⊢
  have hX' := Lib.hid hX
  have hXS' := Lib.hid hXS
  have hS1' := Lib.hid hS1
  clear hX hXS hS1 htop
  have hr' := Lib.hid hr
  have hm' := Lib.hid hm
  clear hr hm h
  go_enter Tryz.func137, Tryz.ntmps137
  go_wp2_with fail
  refine hmk.out.mono ?_
  rintro e w1 ⟨⟨z, rfl, hz⟩, hb1⟩
  rcases hz.shape with ⟨_, h0⟩ | ⟨gz, cz, rfl, hgz, hBz, hcz, hcell⟩
  · have := congrArg List.length h0
    rw [dig_length] at this
    simp at this
    omega
  rw [dig_length] at hcz ⊢
  have hz2 : w1.ownsRow w.heap.size 111 1 (.slice (some ⟨gz, 0, none⟩) N cz) N (ws (dig W 0 N)) := by
    have := hz
    unfold OwnW at this
    rw [dig_length] at this
    exact this
  have hr1 := hr'.out.later hb1
  obtain ⟨w2, hcp, ho, hb2⟩ := copy_words 83 83 Tryz.underlying83 gz N cz d (cz - d) m c w.heap.size (dig W 0 N) (words X) ⟨g, 0, none⟩ w w1 hz2 (by unfold words; rw [dig_length, hm'.out]) (by omega) (fun j v hj => by
    obtain ⟨g', e, h⟩ := hr1.src hj
    cases e
    exact h) (n - d) m (by show m = min m (n - d); omega) _ hb1 (Nat.le_refl _)
  have hwd : words X = dig W X m := by unfold words; rw [hm'.out]
  rw [hwd, dig_shift X d m N hX'.out (by omega), hXS'.out] at ho
  have hc0 := World.ownsRow.cellAt ho n (by omega)
  have hf0 := World.ownsRow.frozenAt ho n
  obtain ⟨cv, hcv⟩ : ∃ cv, (ws (dig W (X * 2 ^ S) N))[n]? = some cv := ⟨_, List.getElem?_eq_getElem (by rw [ws_length, dig_length]; omega)⟩
  rw [hcv] at hc0
  have hst := (World.ownsRow.stored ho n (.int .u64 0)).1
  have hXlt : X * W ^ d < W ^ n := by
    rw [← hn, Nat.pow_add]
    exact Nat.mul_lt_mul_of_pos_right hX'.out (Nat.pow_pos (by decide))
  rw [hXS'.out] at hXlt
  have hset : (ws (dig W (X * 2 ^ S) N)).set n (.int .u64 0) = ws (dig W (X * 2 ^ S) N) := by
    apply List.ext_getElem?
    intro k
    rw [List.getElem?_set]
    by_cases hk : n = k
    · subst hk
      rw [if_pos rfl, if_pos (by rw [ws_length, dig_length]; omega)]
      unfold ws
      rw [List.getElem?_map, dig_get _ _ _ _ (by omega), Nat.div_eq_of_lt hXlt]
      rfl
    · rw [if_neg hk]
  rw [hset] at hst
  have hbs : Below w.heap.size w (w2.setCell ⟨gz, n, none⟩ (.int .u64 0)) := hb2.setCell hBz _
  have hcl := clear_zero gz N d w.heap.size cz (dig W (X * 2 ^ S) N) _ hst (by omega) (fun j hj => by
    rw [dig_get _ _ _ _ (by omega), ← hXS'.out]
    congr 1
    have hWd : W ^ d = W ^ (d - j - 1) * W * W ^ j := by
      rw [← Nat.pow_succ, ← Nat.pow_add]
      congr 1
      omega
    rw [hWd, ← Nat.mul_assoc, ← Nat.mul_assoc, Nat.mul_div_cancel _ (Nat.pow_pos (by decide)), Nat.mul_mod_left])
  have hnorm := Lib.hid (norm_any (.slice (some ⟨gz, 0, none⟩) N cz) (X * 2 ^ S) N w.heap.size (w2.setCell ⟨gz, n, none⟩ (.int .u64 0)) (by
    unfold OwnW; rw [dig_length]; exact hst) (Nat.lt_of_lt_of_le hXlt (Nat.pow_le_pow_right (by decide) (by omega))) (by omega))
  have hbs' := Lib.hid hbs
  clear hz hz2 hcell hr1 hmk hwd ho hb2 hcv hst hset hbs hXlt
  go_wp2_with fail
  refine hnorm.out.mono ?_
  rintro e w3 ⟨⟨u, rfl, hu⟩, rfl⟩
  go_wp2
  go_ret
  exact ⟨⟨_, rfl, hu⟩, hbs'.out⟩


/-- a natural shifted to the left, into a row of one word -/
theorem nlsh_any1 (az : Option Addr) (nz : Nat) (v : Value) (X S B : Nat) (w : World) (h : IsNat w B v X) (hm : len W X ≤ 5000) (hX : X ≠ 0) (hS : S ≤ 100000) (h0 : S ≠ 0) :
    Calls Tryz.prog 137 #[.slice az nz 1, v, .int .u64 S] w fun e w' => (∃ u, e = .returned u ∧ IsNat w' w.heap.size u (X * 2 ^ S)) ∧ Below w.heap.size w w' := by
  have hpos := (len_pos W_two (v := X)).2 (by omega)
  by_cases h64 : S % 64 = 0
  · exact nlsh_words1 az nz v X S (S / 64) _ B w h rfl hpos hm hS (by omega) (by omega)
  · exact nlsh_main1 az nz v X S _ B w h rfl hpos hm hS h64
end Go.Proofs.YtpjkfdgkkpkljaaGreatDoor.Nat_
namespace Go.Proofs.YtpjkfdgkkpkljaaGreatDoor.Big
open Go.RowKit Go.WideShapes Go.Proofs.YtpjkfdgkkpkljaaGreatDoor.Own Go.Proofs.YtpjkfdgkkpkljaaGreatDoor.Num Go.Proofs.YtpjkfdgkkpkljaaGreatDoor.Ref Go.Proofs.YtpjkfdgkkpkljaaGreatDoor.Nat_
set_option linter.unusedVariables false

/-- the two cells of an integer, at place o of block g -/
structure Two (w : World) (g o : Nat) (b v : Value) : Prop where
  lt : g < w.heap.size
  c0 : w.cell? ⟨g, o, none⟩ = some b
  c1 : w.cell? ⟨g, o + 1, none⟩ = some v
  f0 : w.frozen? ⟨g, o, none⟩ = false
  f1 : w.frozen? ⟨g, o + 1, none⟩ = false
theorem frozen_below {B : Nat} {w w' : World} (h : Below B w w') {p : Addr} (hp : p.block < B) : w'.frozen? p = w.frozen? p := by
  unfold World.frozen?
  rw [h.block p.block hp]
theorem Two.later {w w' : World} {g o : Nat} {b v : Value} (h : Two w g o b v) (hb : Below w.heap.size w w') : Two w' g o b v :=
  ⟨Nat.lt_of_lt_of_le h.lt hb.size, (hb.cell (p := ⟨g, o, none⟩) h.lt).trans h.c0, (hb.cell (p := ⟨g, o + 1, none⟩) h.lt).trans h.c1, (frozen_below hb h.lt).trans h.f0, (frozen_below hb h.lt).trans h.f1⟩
theorem Box.Holds.two {w : World} {g : Nat} {t : TypeId} {cs : Array Value} (h : Box.Holds w g t cs) (o : Nat) (b v : Value) (h0 : cs[o]? = some b) (h1 : cs[o + 1]? = some v) : Two w g o b v :=
  ⟨h.lt, (h.cell o).trans h0, (h.cell (o + 1)).trans h1, h.free o, h.free (o + 1)⟩

/-- what a call leaves that has put a number at place o of block g -/
def PutAt (w : World) (g o : Nat) (neg : Bool) (V : Nat) (w' : World) : Prop :=
  ∃ w1 v, Below w.heap.size w w1 ∧ IsNat w1 w.heap.size v V ∧ w' = (w1.setCell ⟨g, o + 1, none⟩ v).setCell ⟨g, o, none⟩ (.bool neg)

set_option maxRecDepth 100000 in
theorem make_1 (w : World) : Calls Tryz.prog 77 #[.slice none 0 0, .int .i64 1] w fun e w' => e = .returned (.slice (some ⟨w.heap.size, 0, none⟩) 1 1) ∧ w' = w.alloc (.cells #[.int .u64 0] 111) := by
  have hr := fun W => run_new 1 1 (by omega) (by omega) W 1 rfl 1 rfl
  go_enter Tryz.func77, Tryz.ntmps77
  go_wp2
  go_ret
  exact ⟨rfl, rfl⟩
theorem one_word (x : Nat) (h0 : 0 < x) (h1 : x < W) (w : World) : IsNat (w.alloc (.cells #[.int .u64 (x : Int)] 111)) w.heap.size (.slice (some ⟨w.heap.size, 0, none⟩) 1 1) x := by
  have h : Box.Holds (w.alloc (.cells #[.int .u64 (x : Int)] 111)) w.heap.size 111 #[.int .u64 (x : Int)] := Box.Holds.made w _ _
  unfold IsNat OwnW
  rw [words_one h0 h1, dig_length]
  refine ⟨by rw [ws_length, dig_length], .inr ⟨w.heap.size, 1, _, rfl, Nat.le_refl _, h, Nat.le_refl _, by unfold maxLen; omega, by simp, ?_⟩⟩
  have e : dig W x 1 = [x] := by
    apply List.ext_getElem?
    intro j
    by_cases hj : j < 1
    · obtain rfl : j = 0 := by omega
      rw [dig_get _ _ _ _ hj, Nat.pow_zero, Nat.div_one, Nat.mod_eq_of_lt h1]
      rfl
    · rw [List.getElem?_eq_none (by rw [dig_length]; omega), List.getElem?_eq_none (by simp; omega)]
  rw [e]
  rfl
set_option maxRecDepth 100000 in
theorem setword_1 (x : Nat) (h0 : 0 < x) (h1 : x < W) (w : World) :
    Calls Tryz.prog 84 #[.slice none 0 0, .int .u64 x] w fun e w' => (∃ g, e = .returned (.slice (some ⟨g, 0, none⟩) 1 1) ∧ IsNat w' w.heap.size (.slice (some ⟨g, 0, none⟩) 1 1) x) ∧ Below w.heap.size w w' := by
  have hmk := Lib.hid (make_1 w)
  have hfin := Lib.hid (one_word x h0 h1 w)
  have hx : x < 18446744073709551616 := h1
  have hb0 : ((x : Int) == 0) = false := by simp; omega
  clear h1
  go_enter Tryz.func84, Tryz.ntmps84
  go_wp2_with fail
  refine hmk.out.mono ?_
  rintro e w1 ⟨rfl, rfl⟩
  go_wp2
  go_ret
  exact ⟨⟨_, rfl, hfin.out⟩, (Below.refl _ _).alloc (Nat.le_refl _) _⟩
set_option maxRecDepth 100000 in
theorem setu64_1 (x : Nat) (h0 : 0 < x) (h1 : x < W) (w : World) :
    Calls Tryz.prog 136 #[.slice none 0 0, .int .u64 x] w fun e w' => (∃ g, e = .returned (.slice (some ⟨g, 0, none⟩) 1 1) ∧ IsNat w' w.heap.size (.slice (some ⟨g, 0, none⟩) 1 1) x) ∧ Below w.heap.size w w' := by
  have hs := Lib.hid (setword_1 x h0 h1 w)
  have hx : x < 18446744073709551616 := h1
  clear h1
  go_enter Tryz.func136, Tryz.ntmps136
  go_wp2_with fail
  refine hs.out.mono ?_
  rintro e w1 ⟨⟨z, rfl, ho⟩, hb1⟩
  go_wp2
  go_ret
  exact ⟨⟨_, rfl, ho⟩, hb1⟩
set_option maxRecDepth 100000 in
theorem bsetu_at (g o x : Nat) (b : Value) (h0 : 0 < x) (h1 : x < W) (w : World) (hg : Two w g o b (.slice none 0 0)) :
    Calls Tryz.prog 113 #[.pointer (some ⟨g, o, none⟩), .int .u64 x] w fun e w' => e = .returned (.pointer (some ⟨g, o, none⟩)) ∧ ∃ w1 gv, Below w.heap.size w w1 ∧ IsNat w1 w.heap.size (.slice (some ⟨gv, 0, none⟩) 1 1) x ∧ w' = (w1.setCell ⟨g, o + 1, none⟩ (.slice (some ⟨gv, 0, none⟩) 1 1)).setCell ⟨g, o, none⟩ (.bool false) := by
  have hs := Lib.hid (setu64_1 x h0 h1 w)
  have hx : x < 18446744073709551616 := h1
  obtain ⟨hlt, k0, k1, f0, f1⟩ := id hg
  clear h1
  go_enter Tryz.func113, Tryz.ntmps113
  go_wp2_with fail
  refine hs.out.mono ?_
  rintro e w1 ⟨⟨gv, rfl, ho⟩, hb⟩
  obtain ⟨hlt, k0, k1, f0, f1⟩ := hg.later hb
  go_wp2
  go_ret
  exact ⟨rfl, w1, _, hb, ho, rfl⟩

set_option maxHeartbeats 1000000 in
set_option maxRecDepth 100000 in
theorem bset_at (g o gx ox X B : Nat) (b : Value) (neg : Bool) (v : Value) (ca cb : Array Value) (ta tb : TypeId) (w : World) (hg : Two w g o b (.slice none 0 0)) (hx : Two w gx ox (.bool neg) v) (hn : IsNat w B v X) (hm : len W X ≤ 10000) (hne : gx ≠ g) (hka : Box.Holds w g ta ca) (hkb : Box.Holds w gx tb cb) :
    Calls Tryz.prog 61 #[.pointer (some ⟨g, o, none⟩), .pointer (some ⟨gx, ox, none⟩)] w fun e w' => e = .returned (.pointer (some ⟨g, o, none⟩)) ∧ PutAt w g o neg X w' := by
  have hq := neq_other (a := ⟨g, o, none⟩) (b := ⟨gx, ox, none⟩) w (by intro h; cases h; exact hne rfl) hka hkb
  have hs := Lib.hid fun q => nset_any v X B (w.drewN q) hn hm
  obtain ⟨a0, c0, rfl, hc, hr⟩ := hn.slice
  obtain ⟨hlt, k0, k1, f0, f1⟩ := id hg
  obtain ⟨hltx, x0, x1, -, -⟩ := id hx
  obtain ⟨n, hn'⟩ : ∃ n, len W X = n := ⟨_, rfl⟩
  rw [hn'] at hs x1 hx hc
  have hg' : Hid (∀ q w1, Below (w.drewN q).heap.size (w.drewN q) w1 → Two w1 g o b (.slice none 0 0) ∧ Two w1 gx ox (.bool neg) (.slice a0 n c0)) := Lib.hid fun q w1 hb => ⟨hg.later ((Box.below_drawn (Below.refl _ _) q).trans hb), hx.later ((Box.below_drawn (Below.refl _ _) q).trans hb)⟩
  have hend : Hid (∀ q w1 u, Below (w.drewN q).heap.size (w.drewN q) w1 → IsNat w1 (w.drewN q).heap.size u X → PutAt w g o neg X ((w1.setCell ⟨g, o + 1, none⟩ u).setCell ⟨g, o, none⟩ (.bool neg))) := Lib.hid fun q w1 u hb ho => ⟨w1, u, (Box.below_drawn (Below.refl _ _) q).trans hb, ho, rfl⟩
  clear hn' hn hr hka hkb hx
  go_enter Tryz.func61, Tryz.ntmps61
  go_wp2_with fail
  go_region_with (go_at_call 80; refine (hs.out _).mono ?_; rintro e w1 ⟨⟨u, rfl, hu⟩, hb⟩; obtain ⟨a1, c1, hv, -, -⟩ := hu.slice; subst hv; obtain ⟨⟨l1, e0, e1, f0, f1⟩, ⟨lx1, ex0, ex1, fx0, fx1⟩⟩ := hg'.out _ _ hb)
  all_goals
    have hfin := Lib.hid (hend.out _ _ _ hb hu)
    clear hu
    go_wp2
    go_ret
    exact ⟨rfl, hfin.out⟩
set_option maxHeartbeats 1000000 in
set_option maxRecDepth 100000 in
theorem babs_at (g o gx ox X B : Nat) (b : Value) (neg : Bool) (v : Value) (ca cb : Array Value) (ta tb : TypeId) (w : World) (hg : Two w g o b (.slice none 0 0)) (hx : Two w gx ox (.bool neg) v) (hn : IsNat w B v X) (hm : len W X ≤ 10000) (hne : gx ≠ g) (hka : Box.Holds w g ta ca) (hkb : Box.Holds w gx tb cb) :
    Calls Tryz.prog 149 #[.pointer (some ⟨g, o, none⟩), .pointer (some ⟨gx, ox, none⟩)] w fun e w' => e = .returned (.pointer (some ⟨g, o, none⟩)) ∧ ∃ w2, PutAt w g o neg X w2 ∧ w' = w2.setCell ⟨g, o, none⟩ (.bool false) := by
  have hs := Lib.hid (bset_at g o gx ox X B b neg v ca cb ta tb w hg hx hn hm hne hka hkb)
  obtain ⟨hlt, k0, k1, f0, f1⟩ := id hg
  clear hn hx hka hkb
  go_enter Tryz.func149, Tryz.ntmps149
  go_wp2_with fail
  refine hs.out.mono ?_
  rintro e w2 ⟨rfl, hp⟩
  have hp' := Lib.hid hp
  obtain ⟨w1, v1, hb, ho, rfl⟩ := hp
  obtain ⟨a1, c1, rfl, -, -⟩ := ho.slice
  obtain ⟨hlt, k0, k1, f0, f1⟩ := hg.later hb
  clear hs ho
  go_wp2
  go_ret
  exact ⟨rfl, _, hp'.out, rfl⟩
set_option maxHeartbeats 1000000 in
set_option maxRecDepth 100000 in
theorem blsh_at (g o X S B : Nat) (neg : Bool) (gv : Nat) (w : World) (hg : Two w g o (.bool neg) (.slice (some ⟨gv, 0, none⟩) 1 1)) (hn : IsNat w B (.slice (some ⟨gv, 0, none⟩) 1 1) X) (hm : len W X ≤ 5000) (hX : X ≠ 0) (hS : S ≤ 100000) (hS0 : S ≠ 0) :
    Calls Tryz.prog 114 #[.pointer (some ⟨g, o, none⟩), .pointer (some ⟨g, o, none⟩), .int .u64 S] w fun e w' => e = .returned (.pointer (some ⟨g, o, none⟩)) ∧ PutAt w g o neg (X * 2 ^ S) w' := by
  have hs := Lib.hid fun q => nlsh_any1 (some ⟨gv, 0, none⟩) 1 _ X S B (w.drewN q) hn hm hX hS hS0
  obtain ⟨hlt, k0, k1, f0, f1⟩ := id hg
  have hg' : Hid (∀ q w1, Below (w.drewN q).heap.size (w.drewN q) w1 → Two w1 g o (.bool neg) (.slice (some ⟨gv, 0, none⟩) 1 1)) := Lib.hid fun q w1 hb => hg.later ((Box.below_drawn (Below.refl _ _) q).trans hb)
  obtain ⟨M, hM⟩ : ∃ M, X * 2 ^ S = M := ⟨_, rfl⟩
  rw [hM] at hs ⊢
  have hend : Hid (∀ q w1 u, Below (w.drewN q).heap.size (w.drewN q) w1 → IsNat w1 (w.drewN q).heap.size u M → PutAt w g o neg M ((w1.setCell ⟨g, o + 1, none⟩ u).setCell ⟨g, o, none⟩ (.bool neg))) := Lib.hid fun q w1 u hb ho => ⟨w1, u, (Box.below_drawn (Below.refl _ _) q).trans hb, ho, rfl⟩
  clear hM hn hm hX hS0
  go_enter Tryz.func114, Tryz.ntmps114
  go_wp2_with fail
  go_region_with (go_at_call 137; refine (hs.out _).mono ?_; rintro e w1 ⟨⟨u, rfl, hu⟩, hb⟩; obtain ⟨a1, c1, hv, -, -⟩ := hu.slice; subst hv; obtain ⟨l1, e0, e1, f0, f1⟩ := hg'.out _ _ hb)
  all_goals
    have hfin := Lib.hid (hend.out _ _ _ hb hu)
    clear hu
    go_wp2
    go_ret
    exact ⟨rfl, hfin.out⟩
end Go.Proofs.YtpjkfdgkkpkljaaGreatDoor.Big
