/-
  FnFloatWhole: its parts. FnFloatWhole: the walk.
-/
import Derived.Test.YtpjkfdgkkpkljaaGreatDoorSpecWhole
import Derived.Test.YtpjkfdgkkpkljaaGreatDoorNumberAt
import Derived.Test.YtpjkfdgkkpkljaaGreatDoorIsInt
import Derived.Test.YtpjkfdgkkpkljaaGreatDoorSpecInt4
import Derived.Test.YtpjkfdgkkpkljaaGreatDoorFloatHashLaw
import Derived.Deep.RegionHeld3
namespace Go.Proofs.YtpjkfdgkkpkljaaGreatDoor.Big
open Go.RowKit Go.WideShapes Go.Proofs.YtpjkfdgkkpkljaaGreatDoor.Own Go.Proofs.YtpjkfdgkkpkljaaGreatDoor.Num Go.Proofs.YtpjkfdgkkpkljaaGreatDoor.Ref Go.Proofs.YtpjkfdgkkpkljaaGreatDoor.Nat_ Go.Proofs.YtpjkfdgkkpkljaaGreatDoor.Fl
set_option linter.unusedVariables false

theorem finite_self {b : Nat} (h : fexp b < 2047) : Ieee.double.order b b = some .eq := by
  rcases order_self b with h1 | h1
  · have := nan_exp h1; omega
  · exact h1
set_option maxRecDepth 100000 in
theorem isnan_any (b : Nat) (w : World) : Calls Tryz.prog 32 #[.float .f64 b] w fun e w' => e = .returned (.bool (decide (Ieee.double.order b b = none))) ∧ w' = w := by
  have hf : FloatKind.f64.format = Ieee.double := rfl
  rcases order_self b with h | h
  · simp only [h, decide_true]
    go_enter Tryz.func32, Tryz.ntmps32
    go_wp2
    go_ret
    exact ⟨rfl, rfl⟩
  · simp only [h, reduceCtorEq, decide_false]
    go_enter Tryz.func32, Tryz.ntmps32
    go_wp2
    go_ret
    exact ⟨rfl, rfl⟩
set_option maxRecDepth 100000 in
theorem isinf_any (b : Nat) (hb : b < 18446744073709551616) (w : World) : Calls Tryz.prog 33 #[.float .f64 b, .int .i64 0] w fun e w' => e = .returned (.bool (Ieee.double.order (b % 9223372036854775808) 9218868437227405311 == some .gt)) ∧ w' = w := by
  have hf : FloatKind.f64.format = Ieee.double := rfl
  have ha := Lib.hid fun w => abs_any b hb w
  obtain ⟨T, hT⟩ : ∃ T, (Ieee.double.order (b % 9223372036854775808) 9218868437227405311 == some .gt) = T := ⟨_, rfl⟩
  rw [hT]
  go_enter Tryz.func33, Tryz.ntmps33
  go_wp2_with fail
  refine (ha.out _).mono ?_
  rintro e w1 ⟨rfl, rfl⟩
  go_wp2
  go_ret
  exact ⟨rfl, rfl⟩
set_option maxRecDepth 100000 in
theorem finite_any (b : Nat) (hb : b < 18446744073709551616) (w : World) : Calls Tryz.prog 16 #[.float .f64 b] w fun e w' => e = .returned (.bool (decide (fexp b < 2047))) ∧ w' = w := by
  have hn := Lib.hid fun w => isnan_any b w
  have hi := Lib.hid fun w => isinf_any b hb w
  by_cases h : fexp b < 2047
  · have e1 : decide (Ieee.double.order b b = none) = false := by rw [finite_self h]; rfl
    have e2 : (Ieee.double.order (b % 9223372036854775808) 9218868437227405311 == some .gt) = false := by
      rcases finite_le b h with e | e <;> rw [e] <;> rfl
    rw [e1] at hn
    rw [e2] at hi
    rw [decide_eq_true h]
    go_enter Tryz.func16, Tryz.ntmps16
    go_wp2_with fail
    refine (hn.out _).mono ?_
    rintro e w1 ⟨rfl, rfl⟩
    go_wp2_with fail
    refine (hi.out _).mono ?_
    rintro e w1 ⟨rfl, rfl⟩
    go_wp2
    go_ret
    exact ⟨rfl, rfl⟩
  · rw [decide_eq_false h]
    rcases order_self b with hs | hs
    · rw [hs] at hn
      simp only [decide_true] at hn
      go_enter Tryz.func16, Tryz.ntmps16
      go_wp2_with fail
      refine (hn.out _).mono ?_
      rintro e w1 ⟨rfl, rfl⟩
      go_wp2
      go_ret
      exact ⟨rfl, rfl⟩
    · have e1 : decide (Ieee.double.order b b = none) = false := by rw [hs]; rfl
      have e2 : (Ieee.double.order (b % 9223372036854775808) 9218868437227405311 == some .gt) = true := by
        have he : fexp b = 2047 := by have := fexp_lt b; omega
        rcases read_big b he with e | ⟨n, f, e⟩
        · rcases read_big (b % 9223372036854775808) (by rw [abs_exp]; exact he) with e' | ⟨n, f, e'⟩
          · unfold Ieee.Format.order
            rw [e', max_read, abs_neg]
            rfl
          · rcases infinite_not b he with e2 | e2
            · exfalso
              unfold Ieee.Format.read at e e'
              rw [d_sign, d_binade, d_inf, d_least] at e e'
              simp only [Nat.mod_mod] at e e'
              split at e
              · cases e
              · rename_i g1
                split at e
                · cases e
                · rename_i g2
                  split at e
                  · rename_i g3
                    rw [if_neg g1, if_neg g2, if_pos g3] at e'
                    cases e'
                  · cases e
            · rw [e2]; rfl
        · exfalso
          unfold Ieee.Format.order at hs
          rw [e] at hs
          simp [Ieee.Datum.order] at hs
      rw [e1] at hn
      rw [e2] at hi
      go_enter Tryz.func16, Tryz.ntmps16
      go_wp2_with fail
      refine (hn.out _).mono ?_
      rintro e w1 ⟨rfl, rfl⟩
      go_wp2_with fail
      refine (hi.out _).mono ?_
      rintro e w1 ⟨rfl, rfl⟩
      go_wp2
      go_ret
      exact ⟨rfl, rfl⟩

set_option maxHeartbeats 1000000 in
set_option maxRecDepth 100000 in
theorem zwhole_any (b : Nat) (hb : b < 18446744073709551616) (hf : fexp b < 2047) (w : World) :
    Calls Tryz.prog 36 #[.float .f64 b] w fun e w' => (∃ v, e = .returned v ∧ SAt w' v (ftrunc b)) ∧ Below w.heap.size w w' := by
  have hc := Lib.hid fun w => cuts b hb hf w
  go_enter Tryz.func36, Tryz.ntmps36
  go_wp2_with fail
  refine (hc.out _).mono ?_
  rintro e w1 ⟨⟨v, rfl, hv⟩, hb1⟩
  obtain ⟨a, p, rfl⟩ := hv.shape
  have hk : Box.Holds w1 w.heap.size 61 #[.int .i64 0, .pointer none] := (Box.Holds.made w _ _).later hb1
  have hl1 := hk.lt
  have k0 := hk.cell 0
  have k1 := hk.cell 1
  simp at k0 k1
  have f0 := hk.free 0
  have f1 := hk.free 1
  have hv' := Lib.hid (own_SAt (own_SAt hv hk (by decide) (by decide) 0 (.int .i64 a)) (hk.put 0 _) (by decide) (by decide) 1 (.pointer p))
  clear hv
  go_wp2
  exact bodyPost_ret (v := .agg #[.int .i64 a, .pointer p]) (by simp [results, Tryz.results36, go_sem, k0, k1]) rfl ⟨⟨_, rfl, hv'.out⟩, ((((below_one _ (Nat.le_refl _)).trans (hb1.mono (by simp))).setCell (p := ⟨w.heap.size, 0, none⟩) (Nat.le_refl _) _).setCell (p := ⟨w.heap.size, 1, none⟩) (Nat.le_refl _) _)⟩
end Go.Proofs.YtpjkfdgkkpkljaaGreatDoor.Big
namespace Go.Proofs.YtpjkfdgkkpkljaaGreatDoor.Big
open Go.RowKit Go.WideShapes Go.Proofs.YtpjkfdgkkpkljaaGreatDoor.Own Go.Proofs.YtpjkfdgkkpkljaaGreatDoor.Num Go.Proofs.YtpjkfdgkkpkljaaGreatDoor.Ref Go.Proofs.YtpjkfdgkkpkljaaGreatDoor.Nat_ Go.Proofs.YtpjkfdgkkpkljaaGreatDoor.Fl
set_option linter.unusedVariables false

set_option maxHeartbeats 1000000 in
set_option maxRecDepth 100000 in
theorem iwhole_any (b : Nat) (hb : b < 18446744073709551616) (hf : fexp b < 2047) (w : World) :
    Calls Tryz.prog 18 #[.int .u64 (b : Int)] w fun e w' => (∃ x, e = .returned x ∧ IsValR w' w.heap.size x (decide (ftrunc b < 0)) (ftrunc b).natAbs) ∧ Below w.heap.size w w' := by
  have hz := Lib.hid fun w => zwhole_any b hb hf w
  have hn := Lib.hid fun v w h => number_at v (ftrunc b) w h
  obtain ⟨Z, hZ⟩ : ∃ Z, ftrunc b = Z := ⟨_, rfl⟩
  rw [hZ] at hz hn ⊢
  obtain ⟨neg, hneg⟩ : ∃ neg, decide (Z < 0) = neg := ⟨_, rfl⟩
  obtain ⟨V, hV⟩ : ∃ V, Z.natAbs = V := ⟨_, rfl⟩
  rw [hneg, hV] at hn ⊢
  have hres := Lib.hid (Box.Holds.made w 28 #[.int .i64 0, .bool false, .slice none 0 0, .int .u64 0, .string ⟨#[]⟩, .slice none 0 0])
  have hb0 := Lib.hid (below_one (B := w.heap.size) (w := w) (.cells #[.int .i64 0, .bool false, .slice none 0 0, .int .u64 0, .string ⟨#[]⟩, .slice none 0 0] 28) (Nat.le_refl _))
  clear hneg hV
  go_enter Tryz.func18, Tryz.ntmps18
  go_wp2_with fail
  refine (floatof_any b _).mono ?_
  rintro e w1 ⟨rfl, rfl⟩
  go_wp2_with fail
  refine (hz.out _).mono ?_
  rintro e w2 ⟨⟨v, rfl, hv⟩, hb2⟩
  have hn2 := Lib.hid (hn.out v w2 hv)
  have hk2 := Lib.hid (hres.out.later hb2)
  have hs2 : w.heap.size + 1 ≤ w2.heap.size := by have := hb2.size; simpa using this
  have hbw2 := Lib.hid (hb0.out.trans (hb2.mono (by simp)))
  clear hz hn hv hb2 hres hb0
  go_wp2_with fail
  refine hn2.out.mono ?_
  rintro e w3 ⟨⟨x, rfl, u, rfl, hu, hp⟩, hb3⟩
  have hk3 := hk2.out.later hb3
  have hbw3 := hbw2.out.trans (hb3.mono (by omega))
  obtain ⟨ua, uc, rfl, -⟩ := id hu
  obtain ⟨n, hnn⟩ : ∃ n, (mag V).length = n := ⟨_, rfl⟩
  have k0 := hk3.cell 0
  have k1 := hk3.cell 1
  have k2 := hk3.cell 2
  have k3 := hk3.cell 3
  have k4 := hk3.cell 4
  have k5 := hk3.cell 5
  simp at k0 k1 k2 k3 k4 k5
  have f0 := hk3.free 0
  have f1 := hk3.free 1
  have f2 := hk3.free 2
  have f3 := hk3.free 3
  have f4 := hk3.free 4
  have f5 := hk3.free 5
  have hl3 := hk3.lt
  rw [hnn] at hu ⊢
  have hl2 : w.heap.size < w2.heap.size := by omega
  have hab : Box.Above w2.heap.size w3 _ := ((((((Box.Above.refl w2.heap.size w3).setCell (p := ⟨w.heap.size, 0, none⟩) hl2 (.int .i64 2)).setCell (p := ⟨w.heap.size, 1, none⟩) hl2 (.bool neg)).setCell (p := ⟨w.heap.size, 2, none⟩) hl2 (.slice ua n uc)).setCell (p := ⟨w.heap.size, 3, none⟩) hl2 (.int .u64 0)).setCell (p := ⟨w.heap.size, 4, none⟩) hl2 (.string ⟨#[]⟩)).setCell (p := ⟨w.heap.size, 5, none⟩) hl2 (.slice none 0 0)
  have hfin := Lib.hid ((RdS.above hu hab (by simp)).mono (Nat.le_of_lt hl2))
  have hle : w.heap.size ≤ w.heap.size := Nat.le_refl _
  have hbel := Lib.hid ((((((hbw3.setCell (p := ⟨w.heap.size, 0, none⟩) hle (.int .i64 2)).setCell (p := ⟨w.heap.size, 1, none⟩) hle (.bool neg)).setCell (p := ⟨w.heap.size, 2, none⟩) hle (.slice ua n uc)).setCell (p := ⟨w.heap.size, 3, none⟩) hle (.int .u64 0)).setCell (p := ⟨w.heap.size, 4, none⟩) hle (.string ⟨#[]⟩)).setCell (p := ⟨w.heap.size, 5, none⟩) hle (.slice none 0 0))
  clear hu hab hb3 hk3 hbw3 hn2 hk2 hbw2
  go_wp2
  exact bodyPost_ret (v := .agg #[.int .i64 2, .bool neg, .slice ua n uc, .int .u64 0, .string ⟨#[]⟩, .slice none 0 0]) (by simp [results, Tryz.results18, go_sem, k0, k1, k2, k3, k4, k5]) rfl ⟨⟨_, rfl, _, rfl, hfin.out, hp⟩, hbel.out⟩

theorem trunc_sign (b : Nat) : decide (ftrunc b < 0) = (fneg b && decide (0 < floorP (fman b) (fpow b))) ∧ (ftrunc b).natAbs = floorP (fman b) (fpow b) := by
  unfold ftrunc sgnd
  cases fneg b
  · simp
  · simp
theorem read_int {w : World} {B : Nat} {v : Value} {l : List UInt8} (h : Owns w B v l) : RdS w B v l := by
  obtain ⟨a, c, rfl, hr, hc⟩ := Rd.of_own h
  refine ⟨a, c, rfl, hr, hc, fun h0 => ?_, fun x hx => ?_⟩
  · rcases h.2 with ⟨e, _⟩ | ⟨g, c', cur, e, _⟩
    · simp only [Value.slice.injEq] at e; exact e.2.2
    · subst h0; cases e
  · rcases h.2 with ⟨e, _⟩ | ⟨g, c', cur, e, hB, hh, _⟩
    · subst hx; cases e
    · subst hx; cases e; exact ⟨hB, _, _, hh⟩
theorem two_half : fexp 13836183955189006336 = 1024 ∧ ftrunc 13836183955189006336 = -2 := by decide +kernel
theorem seven_half : fexp 4620130267728707584 < 2047 := by decide +kernel

set_option maxHeartbeats 4000000 in
set_option maxRecDepth 100000 in
theorem wholelaw_any (x : Nat) (hx : x < 18446744073709551616) (w : World) :
    Calls Tryz.prog 5 #[.int .u64 (x : Int)] w fun e w' => e = .returned (.bool true) ∧ Below w.heap.size w w' := by
  have hfi := Lib.hid fun w => finite_any x hx w
  have hfb := frombits
  have htb := tobits
  obtain ⟨b, hb, hf, hbx⟩ : ∃ b, b < 18446744073709551616 ∧ fexp b < 2047 ∧ ((fexp x < 2047 ∧ b = x) ∨ (¬ fexp x < 2047 ∧ b = 4620130267728707584)) := by
    by_cases h : fexp x < 2047
    · exact ⟨x, hx, h, .inl ⟨h, rfl⟩⟩
    · exact ⟨_, by decide, seven_half, .inr ⟨h, rfl⟩⟩
  obtain ⟨t1, t2⟩ := trunc_sign b
  have hwh := Lib.hid fun w => wholef_any b hb hf w
  have hiw := Lib.hid fun w => iwhole_any b hb hf w
  have hiw2 : Hid (∀ w : World, Calls Tryz.prog 18 #[.int .u64 13836183955189006336] w fun e w' => (∃ x, e = .returned x ∧ IsValR w' w.heap.size x true 2) ∧ Below w.heap.size w w') := Lib.hid fun w => by
    have := iwhole_any 13836183955189006336 (by decide) (by rw [two_half.1]; decide) w
    rw [two_half.2] at this
    exact this
  have hsm : Hid (∀ w : World, Calls Tryz.prog 8 #[.int .i64 (-2)] w fun e w' => (∃ v, e = .returned v ∧ IsInt w' w.heap.size v true 2) ∧ Below w.heap.size w w') := Lib.hid fun w => small_any (-2) (by decide) (by decide) w
  have hisB : Hid (∀ Wv x y B1 B2, IsValR Wv B1 x true 2 → IsInt Wv B2 y true 2 → Calls Tryz.prog 11 #[x, y] Wv fun e w' => e = .returned (.bool true) ∧ Below Wv.heap.size Wv w') := Lib.hid fun Wv x y B1 B2 h1 h2 => by
    obtain ⟨u, rfl, ho, -⟩ := h2
    obtain ⟨a, c, rfl, -, -⟩ := Rd.of_own ho
    exact is_any x _ true 2 B1 B2 Wv h1 (read_int ho) (by decide +kernel)
  rw [t1, t2] at hiw
  obtain ⟨V, hV⟩ : ∃ V, floorP (fman b) (fpow b) = V := ⟨_, rfl⟩
  obtain ⟨neg, hneg⟩ : ∃ neg, (fneg b && decide (0 < V)) = neg := ⟨_, rfl⟩
  have hVl : (mag V).length ≤ 2147483647 := by
    rw [mag_length]
    obtain ⟨T, hT⟩ : ∃ T, T = 128 := ⟨_, rfl⟩
    refine Nat.le_trans (len_le (b := 256) (by decide) (n := T) ?_) (by omega)
    rw [show (256 : Nat) ^ T = 2 ^ (8 * T) by rw [show (256 : Nat) = 2 ^ 8 by rfl, ← Nat.pow_mul], ← hV]
    have h1 := fman_lt b
    have h2 := pow_top b hf
    unfold floorP
    refine Nat.lt_of_le_of_lt (Nat.div_le_self _ _) ?_
    refine Nat.lt_of_lt_of_le (Nat.mul_lt_mul_of_pos_right h1 (Nat.two_pow_pos _)) ?_
    rw [show (9007199254740992 : Nat) = 2 ^ 53 by rfl, ← Nat.pow_add]
    exact Nat.pow_le_pow_right (by decide) (by omega)
  rw [hV, hneg] at hwh hiw
  clear t1 t2 hV hneg hb hf
  go_enter Tryz.func5, Tryz.ntmps5
  go_wp2_with fail
  refine (hfi.out _).mono ?_
  rintro e w1 ⟨rfl, rfl⟩
  rcases hbx with ⟨hfx, rfl⟩ | ⟨hfx, rfl⟩
  all_goals
    first | (rw [decide_eq_true hfx]) | (rw [decide_eq_false hfx])
    go_wp2_with fail
    refine (hwh.out _).mono ?_
    rintro e w2 ⟨⟨y, t, rfl, hy⟩, hb2⟩
    obtain ⟨ys, rfl, hyo, -⟩ := hy
    obtain ⟨a, c, rfl, -, -⟩ := Rd.of_own hyo
    have hrd := read_int hyo
    obtain ⟨L, hL⟩ : ∃ L, (mag V).length = L := ⟨_, rfl⟩
    rw [hL] at hyo hrd ⊢
    obtain ⟨W3, hW3⟩ : ∃ W3, w2.alloc (.cells #[.bool neg, .slice a L c] 24) = W3 := ⟨_, rfl⟩
    have hk3 : Box.Holds W3 w2.heap.size 24 #[.bool neg, .slice a L c] := by rw [← hW3]; exact Box.Holds.made _ _ _
    have hb3 : Below w2.heap.size w2 W3 := by rw [← hW3]; exact below_one _ (Nat.le_refl _)
    have hbw3 := Lib.hid (hb2.trans (hb3.mono hb2.size))
    have hrd3 := hrd.later hb3
    have k0 := hk3.cell 0
    have k1 := hk3.cell 1
    simp at k0 k1
    have hl3 := hk3.lt
    have hisA : Hid (∀ Wv x B1, Below W3.heap.size W3 Wv → IsValR Wv B1 x neg V → Calls Tryz.prog 11 #[x, .agg #[.bool neg, .slice a L c]] Wv fun e w' => e = .returned (.bool true) ∧ Below W3.heap.size W3 w') := Lib.hid fun Wv x B1 hb h1 => (is_any x _ neg V B1 _ Wv h1 (hrd3.later hb) (by rw [hL]; omega)).mono fun e w' h => ⟨h.1, hb.trans (h.2.mono hb.size)⟩
    have hkey : Hid (∀ q w3, Below (W3.drewN q).heap.size (W3.drewN q) w3 → Below W3.heap.size W3 w3) := Lib.hid fun q w3 hb => (Box.below_drawn (Below.refl _ _) q).trans hb
    have hcl : Hid (∀ w3, Below W3.heap.size W3 w3 → w3.cell? ⟨w2.heap.size, 0, none⟩ = some (.bool neg) ∧ w3.cell? ⟨w2.heap.size, 1, none⟩ = some (.slice a L c)) := Lib.hid fun w3 hb => ⟨(hb.cell (p := ⟨w2.heap.size, 0, none⟩) hl3).trans k0, (hb.cell (p := ⟨w2.heap.size, 1, none⟩) hl3).trans k1⟩
    have hval : Hid (∀ wa wb B x, IsValR wa B x true 2 → Below wa.heap.size wa wb → IsValR wb B x true 2) := Lib.hid fun wa wb B x h hb => by
      obtain ⟨u, e1, e2, e3⟩ := h
      exact ⟨u, e1, e2.later hb, e3⟩
    clear hyo hrd hk3 hb3 hb2 hrd3
    go_wp2_with fail
    clear hW3
    go_region_held3 (fun W => W.cell? ⟨w2.heap.size, 0, none⟩ = some (.bool neg) ∧ W.cell? ⟨w2.heap.size, 1, none⟩ = some (.slice a L c)) (first | go_keep | exact hcl.out _ hb8 | exact hcl.out _ hb7 | exact hcl.out _ hb6 | exact hcl.out _ hb5 | exact hcl.out _ hb4) (first
      | (go_at_call 18; have hgo := hb5; refine (hiw2.out _).mono ?_; rintro e w6 ⟨⟨x6, rfl, hx6⟩, hb6'⟩; have hb6 := hb5.trans (hb6'.mono hb5.size))
      | (go_at_call 18; refine (hiw.out _).mono ?_; rintro e w4 ⟨⟨x4, rfl, hx4⟩, hb4'⟩; have hb4 := hkey.out _ _ hb4')
      | (go_at_call 8; refine (hsm.out _).mono ?_; rintro e w7 ⟨⟨x7, rfl, hx7⟩, hb7'⟩; have hb7 := hb6.trans (hb7'.mono hb6.size); have hx67 := hval.out _ _ _ _ hx6 hb7')
      | (go_at_call 11; have hgo := hx67; refine (hisB.out _ _ _ _ _ hx67 hx7).mono ?_; rintro e w8 ⟨rfl, hb8'⟩; have hb8 := hb7.trans (hb8'.mono hb7.size))
      | (go_at_call 11; refine (hisA.out _ _ _ hb4 hx4).mono ?_; rintro e w5 ⟨rfl, hb5⟩))
    have hfin := Lib.hid (hbw3.out.trans (hb8.mono hbw3.out.size))
    clear hiw2 hsm hisB hiw hwh hisA hkey hcl hval hx4 hx6 hx7 hx67 hb4 hb4' hb5 hb6 hb6' hb7 hb7' hb8 hb8' hbw3
    go_wp2
    go_ret
    exact ⟨rfl, hfin.out⟩
end Go.Proofs.YtpjkfdgkkpkljaaGreatDoor.Big
namespace Go.Proofs.YtpjkfdgkkpkljaaGreatDoor.fnFloatWhole
open Go.RowKit
theorem walk (a0 : Int) (w0 : (Lit.int .u64 a0).wf = true) (w : World) (_hT : True) :
    Calls Tryz.prog 5 #[.int .u64 a0] w fun e w' => e = .returned (.bool true) ∧ Below w.heap.size w w' := by
  have b0 := bounds_u64 w0
  obtain ⟨x, rfl⟩ : ∃ x : Nat, a0 = x := ⟨a0.toNat, by omega⟩
  exact Big.wholelaw_any x (by omega) w
end Go.Proofs.YtpjkfdgkkpkljaaGreatDoor.fnFloatWhole
