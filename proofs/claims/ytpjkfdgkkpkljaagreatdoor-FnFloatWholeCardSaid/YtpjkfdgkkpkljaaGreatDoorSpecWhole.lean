/-
  The reference's whole part of a float.
-/
import Derived.Test.YtpjkfdgkkpkljaaGreatDoorSpecMul
import Derived.Test.YtpjkfdgkkpkljaaGreatDoorSpecInt3
import Derived.Test.YtpjkfdgkkpkljaaGreatDoorRatCut
import Derived.Deep.RegionHeld3
namespace Go.Proofs.YtpjkfdgkkpkljaaGreatDoor.Ref
open Go.RowKit Go.WideShapes Go.Proofs.YtpjkfdgkkpkljaaGreatDoor.Own Go.Proofs.YtpjkfdgkkpkljaaGreatDoor.Num Go.Proofs.YtpjkfdgkkpkljaaGreatDoor.Nat_ Go.Proofs.YtpjkfdgkkpkljaaGreatDoor.Big Go.Proofs.YtpjkfdgkkpkljaaGreatDoor.Fl
set_option linter.unusedVariables false

/-- an integer of the reference put into a variable's block -/
theorem put_int {w : World} {B z : Nat} {x : Value} {neg : Bool} {m : Nat} {cs : Array Value} (h : IsInt w B x neg m) (hz : Box.Holds w z 24 cs) (hc : cs.size = 2) : ∃ a c, x = .agg #[.bool neg, .slice a (len 256 m) c] ∧ IsInt ((w.setCell ⟨z, 0, none⟩ (.bool neg)).setCell ⟨z, 1, none⟩ (.slice a (len 256 m) c)) B x neg m ∧ Box.Holds ((w.setCell ⟨z, 0, none⟩ (.bool neg)).setCell ⟨z, 1, none⟩ (.slice a (len 256 m) c)) z 24 #[.bool neg, .slice a (len 256 m) c] := by
  obtain ⟨xs, rfl, ho, hp⟩ := h
  obtain ⟨a, c, rfl, -, -⟩ := Rd.of_own ho
  have ho' := own_apart (own_apart ho hz (by decide) 0 (.bool neg)) (hz.put 0 _) (by decide) 1 (.slice a (len 256 m) c)
  rw [mag_length]
  refine ⟨a, c, rfl, ⟨_, rfl, ?_, hp⟩, ?_⟩
  · rw [mag_length] at ho'
    unfold Owns
    rw [mag_length]
    exact ho'
  · have := (hz.put 0 (.bool neg)).put 1 (.slice a (len 256 m) c)
    rcases cs with ⟨l⟩
    rcases l with _ | ⟨x0, _ | ⟨x1, _ | ⟨x2, l⟩⟩⟩ <;> simp at hc
    simpa using this
theorem shl_u8 (r : Nat) (h : r < 8) : IntKind.u8.wrap (2 ^ r) = ((2 ^ r : Nat) : Int) := by
  have : ∀ r : Fin 8, IntKind.u8.wrap (2 ^ r.val) = ((2 ^ r.val : Nat) : Int) := by decide
  exact this ⟨r, h⟩

set_option maxHeartbeats 1000000 in
set_option maxRecDepth 100000 in
theorem power_any (n : Nat) (hn : n ≤ 2000) (w : World) :
    Calls Tryz.prog 59 #[.int .i64 n] w fun e w' => (∃ x, e = .returned x ∧ IsInt w' w.heap.size x false (2 ^ n)) ∧ Below w.heap.size w w' := by
  obtain ⟨q, hq⟩ : ∃ q, n / 8 = q := ⟨_, rfl⟩
  obtain ⟨r, hr⟩ : ∃ r, n % 8 = r := ⟨_, rfl⟩
  have hqi : (n : Int) / 8 = q := by omega
  have hri : (n : Int) % 8 = r := by omega
  have hr8 : r < 8 := by omega
  obtain ⟨N, hN⟩ : ∃ N, q + 1 = N := ⟨_, rfl⟩
  have hNi : (q : Int) + 1 = N := by omega
  have hsh := shl_u8 r hr8
  obtain ⟨P, hP⟩ : ∃ P, 2 ^ n = P := ⟨_, rfl⟩
  have hlow : P % 256 ^ q = 0 := by
    rw [← hP, show (256 : Nat) ^ q = 2 ^ (8 * q) by rw [show (256 : Nat) = 2 ^ 8 by rfl, ← Nat.pow_mul], show n = 8 * q + r by omega, Nat.pow_add, Nat.mul_mod_right]
  have hdig : P / 256 ^ q % 256 = 2 ^ r := by
    rw [← hP, show (256 : Nat) ^ q = 2 ^ (8 * q) by rw [show (256 : Nat) = 2 ^ 8 by rfl, ← Nat.pow_mul], show n = 8 * q + r by omega, Nat.pow_add, Nat.mul_div_cancel_left _ (Nat.two_pow_pos _)]
    have h2 : 2 ^ r < 2 ^ 8 := Nat.pow_lt_pow_right (by decide) hr8
    exact Nat.mod_eq_of_lt h2
  have hlt : P < 256 ^ N := by
    rw [← hP, show (256 : Nat) ^ N = 2 ^ (8 * N) by rw [show (256 : Nat) = 2 ^ 8 by rfl, ← Nat.pow_mul]]
    exact Nat.pow_lt_pow_right (by decide) (by omega)
  obtain ⟨D, hD⟩ : ∃ D, 2 ^ r = D := ⟨_, rfl⟩
  rw [hD] at hdig hsh
  rw [hP]
  obtain ⟨W1, hW1⟩ : ∃ W1, w.alloc (.cells #[.bool false, .slice none 0 0] 24) = W1 := ⟨_, rfl⟩
  have hb1 : Below w.heap.size w W1 := by rw [← hW1]; exact below_one _ (Nat.le_refl _)
  have hs1 : W1.heap.size = w.heap.size + 1 := by rw [← hW1]; simp
  have hz1 : Box.Holds W1 w.heap.size 24 #[.bool false, .slice none 0 0] := by rw [← hW1]; exact Box.Holds.made _ _ _
  have hrn := run_new8 N (by omega) W1 N rfl
  have hrow := own_new8 N W1.heap.size (by omega) W1 (Nat.le_refl _)
  have hst := (World.ownsRow.stored hrow 0 (.int .u8 (D : Int))).1
  have hput := rev8_put P N q D (by omega) hdig
  rw [hlow, show N - 1 - q = 0 by omega, hN, Nat.mod_eq_of_lt hlt] at hput
  rw [hput] at hst
  obtain ⟨E, hE⟩ : ∃ E, w.heap.size + 1 = E := ⟨_, rfl⟩
  rw [hE] at hs1
  rw [hs1] at hrn hrow hst
  have hc0 := World.ownsRow.cellAt hrow 0 (by omega)
  have hf0 := World.ownsRow.frozenAt hrow 0
  obtain ⟨cv, hcv⟩ : ∃ cv, (bs (rev8 0 N))[0]? = some cv := ⟨_, List.getElem?_eq_getElem (by rw [bs_length, rev8_length]; omega)⟩
  rw [hcv] at hc0
  obtain ⟨W2, hW2⟩ : ∃ W2, W1.alloc (.cells (bs (rev8 0 N)).toArray 5) = W2 := ⟨_, rfl⟩
  rw [hW2] at hrn hrow hst hc0 hf0
  have hb2 : Below E W1 W2 := by rw [← hW2]; exact below_one _ (Nat.le_of_eq hs1.symm)
  have hlE : E < W2.heap.size := by rw [← hW2]; simp; omega
  have hrd := rd_drop hst (rev8_length _ _) (by simpa using hlE) 0 (Nat.zero_le _)
  have hof := Lib.hid (of_any false (some ⟨E, 0, none⟩) N (rev8 P N) _ hrd (by rw [rev8_length]; omega) (by rw [rev8_length]; exact Nat.le_refl _) (fun h => by cases h))
  rw [rev8_length, show be (rev8 P N) = P from be_dig N P hlt] at hof
  have hb3 : Below E W1 (W2.setCell ⟨E, 0, none⟩ (.int .u8 (D : Int))) := hb2.setCell (Nat.le_refl _) _
  have hkeep := Lib.hid (And.intro (hz1.below hb3 (by omega)) (hb1.trans (hb3.mono (by omega))))
  clear hb1 hz1 hrow hst hput hcv hrd hb2 hb3 hP hlow hdig hlt hD hN
  go_enter Tryz.func59, Tryz.ntmps59
  go_wp2_with fail
  refine hof.out.mono ?_
  rintro e w5 ⟨⟨x, rfl, hx⟩, hb5⟩
  have hz5 := hkeep.out.1.later hb5
  have hs5 : w.heap.size ≤ (W2.setCell ⟨E, 0, none⟩ (.int .u8 (D : Int))).heap.size := hkeep.out.2.size
  have hbw := hkeep.out.2.trans (hb5.mono hs5)
  obtain ⟨a, c, rfl, hx', -⟩ := put_int (hx.mono hs5) hz5 rfl
  simp only [Bool.false_and] at hx' ⊢
  have kz0 := hz5.cell 0
  have kz1 := hz5.cell 1
  simp at kz0 kz1
  have fz0 := hz5.free 0
  have fz1 := hz5.free 1
  have hlz := hz5.lt
  have hx2 := Lib.hid hx'
  clear hx hx' hz5 hof hkeep hb5 hW1 hW2
  go_wp2
  exact bodyPost_ret (v := .agg #[.bool false, .slice a (len 256 P) c]) (by simp [results, Tryz.results59, go_sem, kz0, kz1]) rfl ⟨⟨_, rfl, hx2.out⟩, (hbw.setCell (p := ⟨w.heap.size, 0, none⟩) (Nat.le_refl _) _).setCell (p := ⟨w.heap.size, 1, none⟩) (Nat.le_refl _) _⟩

set_option maxHeartbeats 1000000 in
set_option maxRecDepth 100000 in
theorem lsh_any (v : Value) (neg : Bool) (m n B : Nat) (w : World) (h : IsInt w B v neg m) (hm : 0 < m) (hl : len 256 m ≤ 5000) (hn : n ≤ 2000) :
    Calls Tryz.prog 35 #[v, .int .i64 n] w fun e w' => (∃ x, e = .returned x ∧ IsInt w' w.heap.size x neg (m * 2 ^ n)) ∧ Below w.heap.size w w' := by
  obtain ⟨xs, rfl, ho, hp⟩ := id h
  obtain ⟨a, c, rfl, hr, hc⟩ := Rd.of_own ho
  obtain ⟨L, hL⟩ : ∃ L, (mag m).length = L := ⟨_, rfl⟩
  rw [hL] at h ho hc ⊢
  have hL0 : 0 < L := by rw [← hL, mag_length]; exact (len_pos (b := 256) (by decide) (v := m)).2 hm
  obtain ⟨W1, hW1⟩ : ∃ W1, (w.alloc (.cells #[.bool neg, .slice a L c] 24)).alloc (.cells #[.bool false, .slice none 0 0] 24) = W1 := ⟨_, rfl⟩
  have hb1 : Below w.heap.size w W1 := by rw [← hW1]; exact (below_one _ (Nat.le_refl _)).alloc (by simp) _
  have hx1 : Box.Holds W1 w.heap.size 24 #[.bool neg, .slice a L c] := by rw [← hW1]; exact (Box.Holds.made w _ _).alloc _
  have hz1 : Box.Holds W1 (w.heap.size + 1) 24 #[.bool false, .slice none 0 0] := by
    rw [← hW1]
    have := Box.Holds.made (w.alloc (.cells #[.bool neg, .slice a L c] 24)) 24 #[.bool false, .slice none 0 0]
    simpa using this
  have hzz := Lib.hid (zero_any _ neg m B W1 (h.later hb1) (by rw [hL]; have := hL ▸ mag_length m; omega))
  rw [show decide (m = 0) = false by simp; omega] at hzz
  have hpow := Lib.hid fun w => power_any n hn w
  have hlp : len 256 (2 ^ n) ≤ 10000 := by
    refine Nat.le_trans (len_le (b := 256) (by decide) (n := n + 1) ?_) (by omega)
    rw [show (256 : Nat) ^ (n + 1) = 2 ^ (8 * (n + 1)) by rw [show (256 : Nat) = 2 ^ 8 by rfl, ← Nat.pow_mul]]
    exact Nat.pow_lt_pow_right (by decide) (by omega)
  obtain ⟨P, hP⟩ : ∃ P, 2 ^ n = P := ⟨_, rfl⟩
  have hP0 : 0 < m * P := Nat.mul_pos hm (by rw [← hP]; exact Nat.two_pow_pos n)
  rw [hP] at hpow hlp ⊢
  have hmul : Hid (∀ W3 x B2, Below W1.heap.size W1 W3 → IsInt W3 B2 x false P → Calls Tryz.prog 58 #[.agg #[.bool neg, .slice a L c], x] W3 fun e w' => (∃ x, e = .returned x ∧ IsInt w' W3.heap.size x neg (m * P)) ∧ Below W3.heap.size W3 w') := Lib.hid fun W3 x B2 hb hx => (mul_any _ x neg false m P B B2 W3 ((h.later hb1).later hb) hx (by omega) hlp).mono fun e w' h => ⟨by
      obtain ⟨⟨y, h1, h2⟩, -⟩ := h
      refine ⟨y, h1, ?_⟩
      rw [decide_eq_true hP0, Bool.and_true] at h2
      have e : (neg != false) = neg := by cases neg <;> rfl
      rw [e] at h2
      exact h2, h.2⟩
  have hs1 : W1.heap.size = w.heap.size + 2 := by rw [← hW1]; simp
  have k0 := hx1.cell 0
  have k1 := hx1.cell 1
  simp at k0 k1
  have hl1 := hx1.lt
  have hall := Lib.hid (And.intro hx1 (And.intro hz1 hb1))
  clear hP hP0 h ho hr hx1 hz1 hb1 hL hp
  go_enter Tryz.func35, Tryz.ntmps35
  go_wp2_with fail
  refine hzz.out.mono ?_
  rintro e W2 ⟨rfl, o, hW2⟩
  have hb2 : Below W1.heap.size W1 W2 := by rw [hW2]; exact below_one _ (Nat.le_refl _)
  have hx2 := hall.out.1.later hb2
  have k0 := hx2.cell 0
  have k1 := hx2.cell 1
  simp at k0 k1
  have hl2 := hx2.lt
  have hs2 : W1.heap.size ≤ W2.heap.size := hb2.size
  have hkey : Hid (∀ q w3, Below (W2.drewN q).heap.size (W2.drewN q) w3 → w3.cell? ⟨w.heap.size, 0, none⟩ = some (.bool neg) ∧ w3.cell? ⟨w.heap.size, 1, none⟩ = some (.slice a L c) ∧ Below W1.heap.size W1 w3) := Lib.hid fun q w3 hb => by
    have hb' : Below W1.heap.size W1 w3 := hb2.trans (((Box.below_drawn (Below.refl _ _) q).trans hb).mono hs2)
    have h1 := hall.out.1.later hb'
    have e0 := h1.cell 0
    have e1 := h1.cell 1
    simp at e0 e1
    exact ⟨e0, e1, hb'⟩
  have hend : Hid (∀ w4 B2 y, Below W1.heap.size W1 w4 → W1.heap.size ≤ B2 → IsInt w4 B2 y neg (m * P) → ∃ ya yc, y = .agg #[.bool neg, .slice ya (len 256 (m * P)) yc] ∧ w4.cell? ⟨w.heap.size + 1, 0, none⟩ = some (.bool false) ∧ w4.cell? ⟨w.heap.size + 1, 1, none⟩ = some (.slice none 0 0) ∧ w4.frozen? ⟨w.heap.size + 1, 0, none⟩ = false ∧ w4.frozen? ⟨w.heap.size + 1, 1, none⟩ = false ∧ w.heap.size + 1 < w4.heap.size ∧ IsInt ((w4.setCell ⟨w.heap.size + 1, 0, none⟩ (.bool neg)).setCell ⟨w.heap.size + 1, 1, none⟩ (.slice ya (len 256 (m * P)) yc)) w.heap.size y neg (m * P) ∧ Below w.heap.size w ((w4.setCell ⟨w.heap.size + 1, 0, none⟩ (.bool neg)).setCell ⟨w.heap.size + 1, 1, none⟩ (.slice ya (len 256 (m * P)) yc))) := Lib.hid fun w4 B2 y hb hB hy => by
    have hz4 := hall.out.2.1.later hb
    have hbw := hall.out.2.2.trans (hb.mono (by omega))
    obtain ⟨ya, yc, rfl, h1, h2⟩ := put_int (hy.mono (by omega : w.heap.size ≤ B2)) hz4 rfl
    have e0 := hz4.cell 0
    have e1 := hz4.cell 1
    simp at e0 e1
    exact ⟨ya, yc, rfl, e0, e1, hz4.free 0, hz4.free 1, hz4.lt, h1, (hbw.setCell (p := ⟨w.heap.size + 1, 0, none⟩) (by show w.heap.size ≤ w.heap.size + 1; omega) _).setCell (p := ⟨w.heap.size + 1, 1, none⟩) (by show w.heap.size ≤ w.heap.size + 1; omega) _⟩
  clear hb2 hW2 hall hzz hW1 hx2
  go_wp2_with fail
  go_region_held3 (fun W => W.cell? ⟨w.heap.size, 0, none⟩ = some (.bool neg) ∧ W.cell? ⟨w.heap.size, 1, none⟩ = some (.slice a L c)) (first | go_keep | exact ⟨j0, j1⟩ | exact ⟨l0, l1⟩) (first | (go_at_call 59; refine (hpow.out _).mono ?_; rintro e w3 ⟨⟨x, rfl, hx⟩, hb3⟩; obtain ⟨j0, j1, hb3'⟩ := hkey.out _ _ hb3) | (go_at_call 58; refine (hmul.out _ _ _ hb3' hx).mono ?_; rintro e w4 ⟨⟨y, rfl, hy⟩, hb4⟩; have h3 := hb3'.size; have l0 := (hb4.cell (p := ⟨w.heap.size, 0, none⟩) (by show w.heap.size < w3.heap.size; omega)).trans j0; have l1 := (hb4.cell (p := ⟨w.heap.size, 1, none⟩) (by show w.heap.size < w3.heap.size; omega)).trans j1; obtain ⟨ya, yc, rfl, z0, z1, zf0, zf1, zl, hy', hbl⟩ := hend.out _ _ _ (hb3'.trans (hb4.mono h3)) h3 hy))
  all_goals
    have hfin := Lib.hid (And.intro hy' hbl)
    clear hy hy' hbl hx hb3 hb3' hb4 hend hkey hpow hmul
    go_wp2
    exact bodyPost_ret (v := .agg #[.bool neg, .slice ya (len 256 (m * P)) yc]) (by simp [results, Tryz.results35, go_sem, z0, z1]) rfl ⟨⟨_, rfl, hfin.out.1⟩, hfin.out.2⟩

theorem sign_bit (b : Nat) (hb : b < 18446744073709551616) : ((b : Int) / 9223372036854775808 == 1) = fneg b := by
  unfold fneg
  rw [show b / 9223372036854775808 % 2 = b / 9223372036854775808 by omega]
  rw [Bool.eq_iff_iff]
  simp
  omega
set_option maxRecDepth 100000 in
theorem parts_any (b : Nat) (hb : b < 18446744073709551616) (w : World) :
    Calls Tryz.prog 34 #[.float .f64 b] w fun e w' => e = .returned (.tuple #[.bool (fneg b), .int .u64 (fman b), .int .i64 (fpow b)]) ∧ w' = w := by
  have e1 := and_fr b hb
  have e2 := and_exp b hb
  have hfr := ffr_lt b
  have he := fexp_lt b
  have e3 := or_fr (ffr b) hfr
  have e4 := sign_bit b hb
  have htb := tobits b
  unfold fman fpow
  by_cases h0 : fexp b = 0
  · rw [if_pos h0, if_pos h0]
    rw [h0] at e2
    obtain ⟨F, hF⟩ : ∃ F, ffr b = F := ⟨_, rfl⟩
    obtain ⟨S, hS⟩ : ∃ S, fneg b = S := ⟨_, rfl⟩
    rw [hF] at e1 e3 hfr ⊢
    rw [hS] at e4 ⊢
    clear hF hS h0 he
    go_enter Tryz.func34, Tryz.ntmps34
    go_wp2
    exact bodyPost_ret (v := .tuple #[.bool S, .int .u64 F, .int .i64 (-1074)]) (by simp [results, Tryz.results34, go_sem]) rfl ⟨rfl, rfl⟩
  · rw [if_neg h0, if_neg h0]
    obtain ⟨F, hF⟩ : ∃ F, ffr b = F := ⟨_, rfl⟩
    obtain ⟨S, hS⟩ : ∃ S, fneg b = S := ⟨_, rfl⟩
    obtain ⟨E, hE⟩ : ∃ E, fexp b = E := ⟨_, rfl⟩
    rw [hF] at e1 e3 hfr ⊢
    rw [hS] at e4 ⊢
    rw [hE] at e2 he h0 ⊢
    have hE0 : ((E : Int) == 0) = false := by simp; omega
    obtain ⟨M, hM⟩ : ∃ M, 4503599627370496 + F = M := ⟨_, rfl⟩
    rw [hM] at e3 ⊢
    clear hF hS hE hM
    go_enter Tryz.func34, Tryz.ntmps34
    go_wp2
    exact bodyPost_ret (v := .tuple #[.bool S, .int .u64 M, .int .i64 ((E : Int) - 1075)]) (by simp [results, Tryz.results34, go_sem]) rfl ⟨rfl, rfl⟩

theorem of_bytes8 (b : Bool) (u B : Nat) (hu : u < 18446744073709551616) (v : Value) (W : World) (h : Owns W B v (bytes8 u)) : Calls Tryz.prog 20 #[.bool b, v] W fun e w' => (∃ x, e = .returned x ∧ IsInt w' W.heap.size x (b && decide (0 < u)) u) ∧ Below W.heap.size W w' := by
  obtain ⟨a, c, rfl, hr, hc⟩ := Rd.of_own h
  have := of_any b a c (bytes8 u) W hr (by rw [bytes8_length]; omega) hc (fun h => by
    subst h
    rcases hr with ⟨_, h0⟩ | ⟨x, h0, _⟩
    · have := bytes8_length u; rw [h0] at this; simp at this
    · cases h0)
  rw [be_bytes8 u hu] at this
  exact this
theorem floor_small (M s : Nat) (h : M < 2 ^ s) : floorP M (-(s : Int)) = 0 := by
  unfold floorP
  rw [show (-(s : Int)).toNat = 0 by omega, show (- -(s : Int)).toNat = s by omega, Nat.pow_zero, Nat.mul_one, Nat.div_eq_of_lt h]
theorem floor_neg (M s : Nat) : floorP M (-(s : Int)) = M / 2 ^ s := by
  unfold floorP
  rw [show (-(s : Int)).toNat = 0 by omega, show (- -(s : Int)).toNat = s by omega, Nat.pow_zero, Nat.mul_one]
theorem floor_pos (M s : Nat) : floorP M (s : Int) = M * 2 ^ s := by
  unfold floorP
  rw [show (s : Int).toNat = s by omega, show (-(s : Int)).toNat = 0 by omega, Nat.pow_zero, Nat.div_one]
theorem zero_int (w : World) (B : Nat) : IsInt w B (.agg #[.bool false, .slice none 0 0]) false 0 := ⟨_, rfl, Owns.nil _ _, fun h => by cases h⟩

set_option maxHeartbeats 2000000 in
set_option maxRecDepth 100000 in
theorem wholef_any (b : Nat) (hb : b < 18446744073709551616) (hf : fexp b < 2047) (w : World) :
    Calls Tryz.prog 17 #[.float .f64 b] w fun e w' => (∃ x t, e = .returned (.tuple #[x, .bool t]) ∧ IsInt w' w.heap.size x (fneg b && decide (0 < floorP (fman b) (fpow b))) (floorP (fman b) (fpow b))) ∧ Below w.heap.size w w' := by
  have hpt := Lib.hid fun w => parts_any b hb w
  have hM := fman_lt b
  have hMp : 0 ≤ fpow b → 0 < fman b := fun h => by
    unfold fpow at h
    unfold fman
    split <;> omega
  obtain ⟨neg, hneg⟩ : ∃ neg, fneg b = neg := ⟨_, rfl⟩
  obtain ⟨M, hMM⟩ : ∃ M, fman b = M := ⟨_, rfl⟩
  obtain ⟨p, hp⟩ : ∃ p, fpow b = p := ⟨_, rfl⟩
  have hp1 : p ≤ 971 := by rw [← hp]; exact pow_top b hf
  have hp2 : -1074 ≤ p := by rw [← hp]; unfold fpow; split <;> omega
  rw [hneg, hMM, hp] at hpt ⊢
  rw [hMM] at hM
  rw [hMM, hp] at hMp
  have hby := Lib.hid fun w => bytesof_any M (by omega) w
  have hof := Lib.hid fun (b : Bool) v W B h => of_bytes8 b M B (by omega) v W h
  clear hneg hMM hp hb hf
  -- what is ahead of the test
  have hres : Box.Holds (w.alloc (.cells #[.bool false, .slice none 0 0] 24)) w.heap.size 24 #[.bool false, .slice none 0 0] := Box.Holds.made _ _ _
  have hb0 := below_one (B := w.heap.size) (w := w) (.cells #[.bool false, .slice none 0 0] 24) (Nat.le_refl _)
  have hpre := Lib.hid (And.intro hres hb0)
  clear hres hb0
  rcases Int.lt_or_le p 0 with hneg0 | hpos
  · obtain ⟨s, rfl⟩ : ∃ s : Nat, p = -(s : Int) := ⟨(-p).toNat, by omega⟩
    by_cases h63 : 63 < s
    · have hM2 : M < 2 ^ s := Nat.lt_of_lt_of_le hM (by rw [show (9007199254740992 : Nat) = 2 ^ 53 by rfl]; exact Nat.pow_le_pow_right (by decide) (by omega))
      rw [floor_small M s hM2]
      have g1 : decide ((0 : Int) ≤ -(s : Int)) = false := by simp; omega
      have g2 : decide (-(s : Int) < -63) = true := by simp; omega
      clear hM2 hMp
      go_enter Tryz.func17, Tryz.ntmps17
      go_wp2_with fail
      refine (hpt.out _).mono ?_
      rintro e w1 ⟨rfl, rfl⟩
      go_wp2_with fail
      refine (hby.out _).mono ?_
      rintro e w2 ⟨⟨u, rfl, hu⟩, hb2⟩
      have hof' := Lib.hid (hof.out neg u w2 _ hu)
      clear hof hby hu
      go_wp2_with fail
      refine hof'.out.mono ?_
      rintro e w3 ⟨⟨x, rfl, hx⟩, hb3⟩
      have hb13 : Below (w.heap.size + 1) (w.alloc (.cells #[.bool false, .slice none 0 0] 24)) w3 := by
        have h2 := hb2.trans (hb3.mono hb2.size)
        simpa using h2
      have hr3 := hpre.out.1.below hb13 (by omega)
      have hbw3 := hpre.out.2.trans (hb13.mono (by omega))
      obtain ⟨xs, rfl, hxo, hxp⟩ := id hx
      obtain ⟨a, c, rfl, -, -⟩ := Rd.of_own hxo
      obtain ⟨L, hL⟩ : ∃ L, (mag M).length = L := ⟨_, rfl⟩
      rw [hL] at hx hxo ⊢
      obtain ⟨sg0, hsg0⟩ : ∃ sg0, (neg && decide (0 < M)) = sg0 := ⟨_, rfl⟩
      rw [hsg0]
      have hbv := below_one (B := w3.heap.size) (w := w3) (.cells #[.bool sg0, .slice a L c] 24) (Nat.le_refl _)
      have hr4 := Lib.hid (And.intro (hr3.later hbv) (hbw3.trans (hbv.mono hbw3.size)))
      have hs3 := hbw3.size
      clear hx hxo hxp hr3 hbw3 hb13 hb2 hb3 hof' hbv hpt hpre hsg0
      have hz5 := hr4.out.1
      have hbw5 := hr4.out.2
      have kz0 := hz5.cell 0
      have kz1 := hz5.cell 1
      simp at kz0 kz1
      have fz0 := hz5.free 0
      have fz1 := hz5.free 1
      have hlz := hz5.lt
      have e1 : (neg && decide (0 < 0)) = false := by simp
      clear hz5 hr4
      go_wp2
      exact bodyPost_ret (v := .tuple #[.agg #[.bool false, .slice none 0 0], .bool ((M : Int) == 0)]) (by simp [results, Tryz.results17, go_sem, kz0, kz1]) rfl ⟨⟨_, _, rfl, by rw [e1]; exact zero_int _ _⟩, (hbw5.setCell (p := ⟨w.heap.size, 0, none⟩) (Nat.le_refl _) _).setCell (p := ⟨w.heap.size, 1, none⟩) (Nat.le_refl _) _⟩
    · have hs1 : 1 ≤ s := by omega
      rw [floor_neg]
      have hdl : M / 2 ^ s < 18446744073709551616 := Nat.lt_of_le_of_lt (Nat.div_le_self _ _) (by omega)
      have hby2 := Lib.hid fun w => bytesof_any (M / 2 ^ s) hdl w
      have hof2 := Lib.hid fun (b : Bool) v W B h => of_bytes8 b (M / 2 ^ s) B hdl v W h
      have hsh : (M : Int) / 2 ^ s = ((M / 2 ^ s : Nat) : Int) := by simp
      obtain ⟨V, hV⟩ : ∃ V, M / 2 ^ s = V := ⟨_, rfl⟩
      rw [hV] at hby2 hof2 hsh ⊢
      have g1 : decide ((0 : Int) ≤ -(s : Int)) = false := by simp; omega
      have g2 : decide (-(s : Int) < -63) = false := by simp; omega
      clear hMp hV hdl
      obtain ⟨T, hT⟩ : ∃ T, bits BinOp.and IntKind.u64 (M : Int) (IntKind.u64.wrap (IntKind.u64.wrap (2 ^ s) - 1)) = T := ⟨_, rfl⟩
      go_enter Tryz.func17, Tryz.ntmps17
      go_wp2_with fail
      refine (hpt.out _).mono ?_
      rintro e w1 ⟨rfl, rfl⟩
      go_wp2_with fail
      refine (hby.out _).mono ?_
      rintro e w2 ⟨⟨u, rfl, hu⟩, hb2⟩
      have hof' := Lib.hid (hof.out neg u w2 _ hu)
      clear hof hby hu
      go_wp2_with fail
      refine hof'.out.mono ?_
      rintro e w3 ⟨⟨x, rfl, hx⟩, hb3⟩
      have hb13 : Below (w.heap.size + 1) (w.alloc (.cells #[.bool false, .slice none 0 0] 24)) w3 := by
        have h2 := hb2.trans (hb3.mono hb2.size)
        simpa using h2
      have hr3 := hpre.out.1.below hb13 (by omega)
      have hbw3 := hpre.out.2.trans (hb13.mono (by omega))
      obtain ⟨xs, rfl, hxo, hxp⟩ := id hx
      obtain ⟨a, c, rfl, -, -⟩ := Rd.of_own hxo
      obtain ⟨L, hL⟩ : ∃ L, (mag M).length = L := ⟨_, rfl⟩
      rw [hL] at hx hxo ⊢
      obtain ⟨sg0, hsg0⟩ : ∃ sg0, (neg && decide (0 < M)) = sg0 := ⟨_, rfl⟩
      rw [hsg0]
      have hbv := below_one (B := w3.heap.size) (w := w3) (.cells #[.bool sg0, .slice a L c] 24) (Nat.le_refl _)
      have hr4 := Lib.hid (And.intro (hr3.later hbv) (hbw3.trans (hbv.mono hbw3.size)))
      have hs3 := hbw3.size
      clear hx hxo hxp hr3 hbw3 hb13 hb2 hb3 hof' hbv hpt hpre hsg0
      go_wp2_with fail
      refine (hby2.out _).mono ?_
      rintro e w5 ⟨⟨u5, rfl, hu5⟩, hb5⟩
      have hof3 := Lib.hid (hof2.out neg u5 w5 _ hu5)
      have hz5' := Lib.hid (hr4.out.1.later hb5)
      have hs4 : w.heap.size ≤ (w3.alloc (.cells #[.bool sg0, .slice a L c] 24)).heap.size := hr4.out.2.size
      have hbw5' := Lib.hid (hr4.out.2.trans (hb5.mono hs4))
      clear hof2 hby2 hu5 hb5 hr4
      go_wp2_with fail
      refine hof3.out.mono ?_
      rintro e w6 ⟨⟨y, rfl, hy⟩, hb6⟩
      have hz6 := hz5'.out.later hb6
      have hs6 : w.heap.size ≤ w5.heap.size := hbw5'.out.size
      have hbw6 := hbw5'.out.trans (hb6.mono hs6)
      obtain ⟨ya, yc, rfl, hy', -⟩ := put_int (hy.mono hs6) hz6 rfl
      have kz0 := hz6.cell 0
      have kz1 := hz6.cell 1
      simp at kz0 kz1
      have fz0 := hz6.free 0
      have fz1 := hz6.free 1
      have hlz := hz6.lt
      have hy2 := Lib.hid hy'
      clear hy hy' hz6 hof3 hz5' hbw5' hb6
      go_wp2
      exact bodyPost_ret (v := .tuple #[.agg #[.bool (neg && decide (0 < V)), .slice ya (len 256 V) yc], .bool (T == 0)]) (by simp [results, Tryz.results17, go_sem, kz0, kz1]) rfl ⟨⟨_, _, rfl, hy2.out⟩, (hbw6.setCell (p := ⟨w.heap.size, 0, none⟩) (Nat.le_refl _) _).setCell (p := ⟨w.heap.size, 1, none⟩) (Nat.le_refl _) _⟩
  · obtain ⟨S, rfl⟩ : ∃ S : Nat, p = S := ⟨p.toNat, by omega⟩
    have hM0 := hMp hpos
    have hlsh := Lib.hid fun v B W (h : IsInt W B v neg M) => lsh_any v neg M S B W h hM0 (Nat.le_trans (len_le (b := 256) (by decide) (n := 8) (by omega)) (by omega)) (by omega)
    have hV0 : 0 < M * 2 ^ S := Nat.mul_pos hM0 (Nat.two_pow_pos S)
    rw [floor_pos, decide_eq_true hV0, Bool.and_true]
    rw [decide_eq_true hM0] at hof
    simp only [Bool.and_true] at hof
    obtain ⟨V, hV⟩ : ∃ V, M * 2 ^ S = V := ⟨_, rfl⟩
    rw [hV] at hlsh ⊢
    have hg : decide ((0 : Int) ≤ (S : Int)) = true := by simp
    clear hV0 hV hMp
    go_enter Tryz.func17, Tryz.ntmps17
    go_wp2_with fail
    refine (hpt.out _).mono ?_
    rintro e w1 ⟨rfl, rfl⟩
    go_wp2_with fail
    refine (hby.out _).mono ?_
    rintro e w2 ⟨⟨u, rfl, hu⟩, hb2⟩
    have hof' := Lib.hid (hof.out neg u w2 _ hu)
    clear hof hby hu
    go_wp2_with fail
    refine hof'.out.mono ?_
    rintro e w3 ⟨⟨x, rfl, hx⟩, hb3⟩
    have hb13 : Below (w.heap.size + 1) (w.alloc (.cells #[.bool false, .slice none 0 0] 24)) w3 := by
      have h2 := hb2.trans (hb3.mono hb2.size)
      simpa using h2
    have hr3 := hpre.out.1.below hb13 (by omega)
    have hbw3 := hpre.out.2.trans (hb13.mono (by omega))
    obtain ⟨xs, rfl, hxo, hxp⟩ := id hx
    obtain ⟨a, c, rfl, -, -⟩ := Rd.of_own hxo
    obtain ⟨L, hL⟩ : ∃ L, (mag M).length = L := ⟨_, rfl⟩
    rw [hL] at hx hxo ⊢
    have hbv := below_one (B := w3.heap.size) (w := w3) (.cells #[.bool neg, .slice a L c] 24) (Nat.le_refl _)
    have hlsh3 := Lib.hid (hlsh.out _ _ _ (hx.later hbv))
    have hr4 := Lib.hid (And.intro (hr3.later hbv) (hbw3.trans (hbv.mono hbw3.size)))
    have hs3 := hbw3.size
    clear hx hxo hxp hr3 hbw3 hb13 hb2 hb3 hof' hlsh hbv hpt hpre
    go_wp2_with fail
    refine hlsh3.out.mono ?_
    rintro e w5 ⟨⟨y, rfl, hy⟩, hb5⟩
    have hs4 : w.heap.size ≤ (w3.alloc (.cells #[.bool neg, .slice a L c] 24)).heap.size := hr4.out.2.size
    have hz5 := hr4.out.1.later hb5
    have hbw5 := hr4.out.2.trans (hb5.mono hs4)
    obtain ⟨ya, yc, rfl, hy', -⟩ := put_int (hy.mono hs4) hz5 rfl
    have kz0 := hz5.cell 0
    have kz1 := hz5.cell 1
    simp at kz0 kz1
    have fz0 := hz5.free 0
    have fz1 := hz5.free 1
    have hlz := hz5.lt
    have hy2 := Lib.hid hy'
    clear hy hy' hz5 hlsh3 hr4 hb5
    go_wp2
    exact bodyPost_ret (v := .tuple #[.agg #[.bool neg, .slice ya (len 256 V) yc], .bool true]) (by simp [results, Tryz.results17, go_sem, kz0, kz1]) rfl ⟨⟨_, _, rfl, hy2.out⟩, (hbw5.setCell (p := ⟨w.heap.size, 0, none⟩) (Nat.le_refl _) _).setCell (p := ⟨w.heap.size, 1, none⟩) (Nat.le_refl _) _⟩
end Go.Proofs.YtpjkfdgkkpkljaaGreatDoor.Ref
