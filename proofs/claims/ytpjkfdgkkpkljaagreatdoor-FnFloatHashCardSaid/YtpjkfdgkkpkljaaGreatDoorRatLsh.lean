/-
  A natural shifted to the left into a row that has room for one word alone.
-/
import Derived.Test.YtpjkfdgkkpkljaaGreatDoorNatLsh
namespace Go.Proofs.YtpjkfdgkkpkljaaGreatDoor.Nat_
open Go.RowKit Go.WideShapes Go.Proofs.YtpjkfdgkkpkljaaGreatDoor.Own Go.Proofs.YtpjkfdgkkpkljaaGreatDoor.Num Go.Proofs.YtpjkfdgkkpkljaaGreatDoor.Ref
set_option linter.unusedVariables false

set_option maxRecDepth 100000 in
/-- a row of n zeros where there is less room -/
theorem make_cap (az : Option Addr) (nz cz n : Nat) (h1 : 1 < n) (hc : cz < n) (hn : n ≤ 10000) (w : World) :
    Calls Tryz.prog 77 #[.slice az nz cz, .int .i64 n] w fun e w' => (∃ v, e = .returned v ∧ OwnW w' w.heap.size v (dig W 0 n)) ∧ Below w.heap.size w w' := by
  have hr := fun W => run_new n (n + 4) (by omega) (by omega) W n rfl (n + 4) (by omega)
  have hb : ((n : Int) == 1) = false := by simp; omega
  go_enter Tryz.func77, Tryz.ntmps77
  go_wp2
  go_ret
  exact ⟨⟨_, rfl, own_new n (n + 4) _ (by omega) (by omega) w (Nat.le_refl _)⟩, (Below.refl _ _).alloc (Nat.le_refl _) _⟩

set_option maxHeartbeats 2000000 in
set_option maxRecDepth 100000 in
theorem nlsh_main1 (az : Option Addr) (nz : Nat) (v : Value) (X S m B : Nat) (w : World) (h : IsNat w B v X) (hm : len W X = m) (hm1 : 0 < m) (hm2 : m ≤ 5000) (hS : S ≤ 100000) (hS1 : S % 64 ≠ 0) :
    Calls Tryz.prog 137 #[.slice az nz 1, v, .int .u64 S] w fun e w' => (∃ u, e = .returned u ∧ IsNat w' w.heap.size u (X * 2 ^ S)) ∧ Below w.heap.size w w' := by
  obtain ⟨d, hd⟩ : ∃ d, S / 64 = d := ⟨_, rfl⟩
  obtain ⟨s, hs⟩ : ∃ s, S % 64 = s := ⟨_, rfl⟩
  have hd' : (S : Int) / 64 = d := by omega
  have hs' : (S : Int) % 64 = s := by omega
  have hS0 : ((S : Int) == 0) = false := by simp; omega
  have hs0 : ((s : Int) == 0) = false := by simp; omega
  have hm0 : ((m : Int) == 0) = false := by simp; omega
  obtain ⟨n, hn⟩ : ∃ n, m + d = n := ⟨_, rfl⟩
  have hn' : (m : Int) + d = n := by omega
  obtain ⟨N, hN⟩ : ∃ N, n + 1 = N := ⟨_, rfl⟩
  have hn1 : (n : Int) + 1 = N := by omega
  have hn9 : n ≤ 9000 := by omega
  have hnm : (n : Int) - m = d := by omega
  have hmk := Lib.hid (make_cap az nz 1 N (by omega) (by omega) (by omega) w)
  have h' := Lib.hid h
  obtain ⟨a, c, rfl, hc, hr⟩ := h.slice
  obtain ⟨g, rfl, htop⟩ := hr.at_ (j := 0) (by omega)
  rw [hm] at hc ⊢
  go_enter Tryz.func137, Tryz.ntmps137
  go_wp2_with fail
  refine hmk.out.mono ?_
  rintro e w1 ⟨⟨z, rfl, hz⟩, hb1⟩
  rcases hz.shape with ⟨_, h0⟩ | ⟨gz, cz, rfl, hgz, hBz, hcz, hcell⟩
  · have := congrArg List.length h0
    rw [dig_length] at this
    simp at this
    omega
  rw [dig_length] at hcz ⊢
  by_cases hd0 : d = 0
  · subst hd0
    obtain rfl : n = m := by omega
    clear hnm hn'
    simp only [Int.natCast_zero] at hd'
    have hz' := Lib.hid hz
    have hb1' := Lib.hid hb1
    have hmE := hm
    have hlv := Lib.hid (lshv_any _ X s 0 n N B gz cz w w1 h'.out hm hm1 (by omega) (by omega) (by omega) (by omega) (by omega) hBz hb1 cz (by
      rw [shlRow_start]
      have := hz
      unfold OwnW at this
      rw [dig_length] at this
      exact this))
    clear hz hcell hb1 htop hr
    go_wp2_with fail
    have hlv2 := hlv.out
    rw [hmE] at hlv2
    refine hlv2.mono ?_
    rintro e w2 ⟨⟨rfl, ho⟩, hb2⟩
    have hc0 := World.ownsRow.cellAt ho n (by omega)
    have hf0 := World.ownsRow.frozenAt ho n
    obtain ⟨cv, hcv⟩ : ∃ cv, (ws (shlRow X s 0 n 0 N))[n]? = some cv := ⟨_, List.getElem?_eq_getElem (by rw [ws_length, shlRow_length]; omega)⟩
    rw [hcv] at hc0
    obtain ⟨T, hT⟩ : ∃ T, X * 2 ^ s / W ^ n % W = T := ⟨_, rfl⟩
    rw [hT]
    have hst := (World.ownsRow.stored ho n (.int .u64 (T : Int))).1
    have hXS : X * 2 ^ s * W ^ 0 = X * 2 ^ S := by
      rw [Nat.mul_assoc, show W = 2 ^ 64 by rw [W_eq], ← Nat.pow_mul, ← Nat.pow_add]
      congr 2
      omega
    have hset : (ws (shlRow X s 0 n 0 N)).set n (.int .u64 (T : Int)) = ws (dig W (X * 2 ^ S) N) := by
      have h1 := shlRow_end X s 0 n
      rw [hT, show 0 + n = n by omega, hN, hXS] at h1
      rw [← h1]; unfold ws; rw [List.map_set]
    rw [hset] at hst
    have hbs : Below w.heap.size w (w2.setCell ⟨gz, n, none⟩ (.int .u64 (T : Int))) := hb2.setCell hBz _
    have hcl := clear_zero gz N 0 w.heap.size cz (dig W (X * 2 ^ S) N) _ hst (by omega) (fun j hj => by
      rw [dig_get _ _ _ _ (by omega), ← hXS]
      congr 1
      have hWd : W ^ 0 = W ^ (0 - j - 1) * W * W ^ j := by
        rw [← Nat.pow_succ, ← Nat.pow_add]
        congr 1
        omega
      rw [hWd, ← Nat.mul_assoc, ← Nat.mul_assoc, Nat.mul_div_cancel _ (Nat.pow_pos (by decide)), Nat.mul_mod_left])
    have hnorm := Lib.hid (norm_any (.slice (some ⟨gz, 0, none⟩) N cz) (X * 2 ^ S) N w.heap.size (w2.setCell ⟨gz, n, none⟩ (.int .u64 (T : Int))) (by
      unfold OwnW; rw [dig_length]; exact hst) (by
      have hXlt : X < W ^ n := by rw [← hmE]; exact len_lt W_two X
      rw [← hXS]
      have h2s : 2 ^ s ≤ W := by rw [W_split s (by omega)]; exact Nat.le_mul_of_pos_left _ (Nat.pow_pos (by omega))
      rw [show N = n + 1 + 0 by omega, Nat.pow_add]
      refine Nat.mul_lt_mul_of_pos_right ?_ (Nat.pow_pos (by decide))
      rw [Nat.pow_succ]
      exact Nat.mul_lt_mul_of_lt_of_le hXlt h2s (by decide)) (by omega))
    have hbs' := Lib.hid hbs
    clear ho hb2 hcv hlv2 hlv hmk hst hset hbs hT hXS
    go_wp2_with fail
    refine hnorm.out.mono ?_
    rintro e w3 ⟨⟨u, rfl, hu⟩, rfl⟩
    go_wp2
    go_ret
    exact ⟨⟨_, rfl, hu⟩, hbs'.out⟩
  · have hz' := Lib.hid hz
    have hb1' := Lib.hid hb1
    have hmE := hm
    have hlv := Lib.hid (lshv_any _ X s d m N B gz (cz - d) w w1 h'.out hm hm1 (by omega) (by omega) (by omega) (by omega) (by omega) hBz hb1 cz (by
      rw [shlRow_start]
      have := hz
      unfold OwnW at this
      rw [dig_length] at this
      exact this))
    clear hz hcell hb1 htop hr
    go_wp2_with fail
    rw [show n - d = m by omega]
    have hlv2 := hlv.out
    rw [hmE] at hlv2
    refine hlv2.mono ?_
    rintro e w2 ⟨⟨rfl, ho⟩, hb2⟩
    have hc0 := World.ownsRow.cellAt ho n (by omega)
    have hf0 := World.ownsRow.frozenAt ho n
    obtain ⟨cv, hcv⟩ : ∃ cv, (ws (shlRow X s d m 0 N))[n]? = some cv := ⟨_, List.getElem?_eq_getElem (by rw [ws_length, shlRow_length]; omega)⟩
    rw [hcv] at hc0
    obtain ⟨T, hT⟩ : ∃ T, X * 2 ^ s / W ^ m % W = T := ⟨_, rfl⟩
    rw [hT]
    have hst := (World.ownsRow.stored ho n (.int .u64 (T : Int))).1
    have hXS : X * 2 ^ s * W ^ d = X * 2 ^ S := by
      rw [Nat.mul_assoc, show W = 2 ^ 64 by rw [W_eq], ← Nat.pow_mul, ← Nat.pow_add]
      congr 2
      omega
    have hset : (ws (shlRow X s d m 0 N)).set n (.int .u64 (T : Int)) = ws (dig W (X * 2 ^ S) N) := by
      have h1 := shlRow_end X s d m
      rw [hT, show d + m = n by omega, hN, hXS] at h1
      rw [← h1]; unfold ws; rw [List.map_set]
    rw [hset] at hst
    have hbs : Below w.heap.size w (w2.setCell ⟨gz, n, none⟩ (.int .u64 (T : Int))) := hb2.setCell hBz _
    have hcl := clear_zero gz N d w.heap.size cz (dig W (X * 2 ^ S) N) _ hst (by omega) (fun j hj => by
      rw [dig_get _ _ _ _ (by omega), ← hXS]
      congr 1
      have hWd : W ^ d = W ^ (d - j - 1) * W * W ^ j := by
        rw [← Nat.pow_succ, ← Nat.pow_add]
        congr 1
        omega
      rw [hWd, ← Nat.mul_assoc, ← Nat.mul_assoc, Nat.mul_div_cancel _ (Nat.pow_pos (by decide)), Nat.mul_mod_left])
    have hnorm := Lib.hid (norm_any (.slice (some ⟨gz, 0, none⟩) N cz) (X * 2 ^ S) N w.heap.size (w2.setCell ⟨gz, n, none⟩ (.int .u64 (T : Int))) (by
      unfold OwnW; rw [dig_length]; exact hst) (by
      have hXlt : X < W ^ m := by rw [← hmE]; exact len_lt W_two X
      rw [← hXS]
      have h2s : 2 ^ s ≤ W := by rw [W_split s (by omega)]; exact Nat.le_mul_of_pos_left _ (Nat.pow_pos (by omega))
      rw [show N = m + 1 + d by omega, Nat.pow_add]
      refine Nat.mul_lt_mul_of_pos_right ?_ (Nat.pow_pos (by decide))
      rw [Nat.pow_succ]
      exact Nat.mul_lt_mul_of_lt_of_le hXlt h2s (by decide)) (by omega))
    have hbs' := Lib.hid hbs
    clear ho hb2 hcv hlv2 hlv hmk hst hset hbs hT hXS
    go_wp2_with fail
    refine hnorm.out.mono ?_
    rintro e w3 ⟨⟨u, rfl, hu⟩, rfl⟩
    go_wp2
    go_ret
    exact ⟨⟨_, rfl, hu⟩, hbs'.out⟩
set_option maxHeartbeats 2000000 in
set_option maxRecDepth 100000 in
/-- by whole words -/
theorem nlsh_words1 (az : Option Addr) (nz : Nat) (v : Value) (X S d m B : Nat) (w : World) (h : IsNat w B v X) (hm : len W X = m) (hm1 : 0 < m) (hm2 : m ≤ 5000) (hS : S ≤ 100000) (hS1 : S = 64 * d) (hd0 : 0 < d) :
    Calls Tryz.prog 137 #[.slice az nz 1, v, .int .u64 S] w fun e w' => (∃ u, e = .returned u ∧ IsNat w' w.heap.size u (X * 2 ^ S)) ∧ Below w.heap.size w w' := by
  have hd' : (S : Int) / 64 = d := by omega
  have hs' : (S : Int) % 64 = 0 := by omega
  have hS0 : ((S : Int) == 0) = false := by simp; omega
  have hm0 : ((m : Int) == 0) = false := by simp; omega
  obtain ⟨n, hn⟩ : ∃ n, m + d = n := ⟨_, rfl⟩
  have hn' : (m : Int) + d = n := by omega
  obtain ⟨N, hN⟩ : ∃ N, n + 1 = N := ⟨_, rfl⟩
  have hn1 : (n : Int) + 1 = N := by omega
  have hn9 : n ≤ 9000 := by omega
  have hnm : (n : Int) - m = d := by omega
  have hmk := Lib.hid (make_cap az nz 1 N (by omega) (by omega) (by omega) w)
  have h' := Lib.hid h
  obtain ⟨a, c, rfl, hc, hr⟩ := h.slice
  obtain ⟨g, rfl, htop⟩ := hr.at_ (j := 0) (by omega)
  have hX : X < W ^ m := by rw [← hm]; exact len_lt W_two X
  have hXS : X * W ^ d = X * 2 ^ S := by
    rw [show W = 2 ^ 64 by rw [W_eq], ← Nat.pow_mul, hS1]
  rw [hm] at hc ⊢
  have hX' := Lib.hid hX
  have hXS' := Lib.hid hXS
  have hS1' := Lib.hid hS1
  clear hX hXS hS1 htop
  have hr' := Lib.hid hr
  have hm' := Lib.hid hm
  clear hr hm h
  go_enter Tryz.func137, Tryz.ntmps137
  go_wp2_with fail
  refine hmk.out.mono ?_
  rintro e w1 ⟨⟨z, rfl, hz⟩, hb1⟩
  rcases hz.shape with ⟨_, h0⟩ | ⟨gz, cz, rfl, hgz, hBz, hcz, hcell⟩
  · have := congrArg List.length h0
    rw [dig_length] at this
    simp at this
    omega
  rw [dig_length] at hcz ⊢
  have hz2 : w1.ownsRow w.heap.size 111 1 (.slice (some ⟨gz, 0, none⟩) N cz) N (ws (dig W 0 N)) := by
    have := hz
    unfold OwnW at this
    rw [dig_length] at this
    exact this
  have hr1 := hr'.out.later hb1
  obtain ⟨w2, hcp, ho, hb2⟩ := copy_words 83 83 Tryz.underlying83 gz N cz d (cz - d) m c w.heap.size (dig W 0 N) (words X) ⟨g, 0, none⟩ w w1 hz2 (by unfold words; rw [dig_length, hm'.out]) (by omega) (fun j v hj => by
    obtain ⟨g', e, h⟩ := hr1.src hj
    cases e
    exact h) (n - d) m (by show m = min m (n - d); omega) _ hb1 (Nat.le_refl _)
  have hwd : words X = dig W X m := by unfold words; rw [hm'.out]
  rw [hwd, dig_shift X d m N hX'.out (by omega), hXS'.out] at ho
  have hc0 := World.ownsRow.cellAt ho n (by omega)
  have hf0 := World.ownsRow.frozenAt ho n
  obtain ⟨cv, hcv⟩ : ∃ cv, (ws (dig W (X * 2 ^ S) N))[n]? = some cv := ⟨_, List.getElem?_eq_getElem (by rw [ws_length, dig_length]; omega)⟩
  rw [hcv] at hc0
  have hst := (World.ownsRow.stored ho n (.int .u64 0)).1
  have hXlt : X * W ^ d < W ^ n := by
    rw [← hn, Nat.pow_add]
    exact Nat.mul_lt_mul_of_pos_right hX'.out (Nat.pow_pos (by decide))
  rw [hXS'.out] at hXlt
  have hset : (ws (dig W (X * 2 ^ S) N)).set n (.int .u64 0) = ws (dig W (X * 2 ^ S) N) := by
    apply List.ext_getElem?
    intro k
    rw [List.getElem?_set]
    by_cases hk : n = k
    · subst hk
      rw [if_pos rfl, if_pos (by rw [ws_length, dig_length]; omega)]
      unfold ws
      rw [List.getElem?_map, dig_get _ _ _ _ (by omega), Nat.div_eq_of_lt hXlt]
      rfl
    · rw [if_neg hk]
  rw [hset] at hst
  have hbs : Below w.heap.size w (w2.setCell ⟨gz, n, none⟩ (.int .u64 0)) := hb2.setCell hBz _
  have hcl := clear_zero gz N d w.heap.size cz (dig W (X * 2 ^ S) N) _ hst (by omega) (fun j hj => by
    rw [dig_get _ _ _ _ (by omega), ← hXS'.out]
    congr 1
    have hWd : W ^ d = W ^ (d - j - 1) * W * W ^ j := by
      rw [← Nat.pow_succ, ← Nat.pow_add]
      congr 1
      omega
    rw [hWd, ← Nat.mul_assoc, ← Nat.mul_assoc, Nat.mul_div_cancel _ (Nat.pow_pos (by decide)), Nat.mul_mod_left])
  have hnorm := Lib.hid (norm_any (.slice (some ⟨gz, 0, none⟩) N cz) (X * 2 ^ S) N w.heap.size (w2.setCell ⟨gz, n, none⟩ (.int .u64 0)) (by
    unfold OwnW; rw [dig_length]; exact hst) (Nat.lt_of_lt_of_le hXlt (Nat.pow_le_pow_right (by decide) (by omega))) (by omega))
  have hbs' := Lib.hid hbs
  clear hz hz2 hcell hr1 hmk hwd ho hb2 hcv hst hset hbs hXlt
  go_wp2_with fail
  refine hnorm.out.mono ?_
  rintro e w3 ⟨⟨u, rfl, hu⟩, rfl⟩
  go_wp2
  go_ret
  exact ⟨⟨_, rfl, hu⟩, hbs'.out⟩


/-- a natural shifted to the left, into a row of one word -/
theorem nlsh_any1 (az : Option Addr) (nz : Nat) (v : Value) (X S B : Nat) (w : World) (h : IsNat w B v X) (hm : len W X ≤ 5000) (hX : X ≠ 0) (hS : S ≤ 100000) (h0 : S ≠ 0) :
    Calls Tryz.prog 137 #[.slice az nz 1, v, .int .u64 S] w fun e w' => (∃ u, e = .returned u ∧ IsNat w' w.heap.size u (X * 2 ^ S)) ∧ Below w.heap.size w w' := by
  have hpos := (len_pos W_two (v := X)).2 (by omega)
  by_cases h64 : S % 64 = 0
  · exact nlsh_words1 az nz v X S (S / 64) _ B w h rfl hpos hm hS (by omega) (by omega)
  · exact nlsh_main1 az nz v X S _ B w h rfl hpos hm hS h64
end Go.Proofs.YtpjkfdgkkpkljaaGreatDoor.Nat_
