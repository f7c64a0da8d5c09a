/-
  A great float as a fraction: SetFloat64. finiteFloatToInt, whatever the size of the float.
-/
import Derived.Test.YtpjkfdgkkpkljaaGreatDoorRatGcd
import Derived.Test.YtpjkfdgkkpkljaaGreatDoorFloatInt
import Derived.Test.YtpjkfdgkkpkljaaGreatDoorFloatFin
import Derived.Deep.RegionHeld3
import Derived.StillTailTactics
import Derived.Test.YtpjkfdgkkpkljaaGreatDoorFloatHash
namespace Go.Proofs.YtpjkfdgkkpkljaaGreatDoor.Big
open Go.RowKit Go.WideShapes Go.Proofs.YtpjkfdgkkpkljaaGreatDoor Go.Proofs.YtpjkfdgkkpkljaaGreatDoor.Own Go.Proofs.YtpjkfdgkkpkljaaGreatDoor.Num Go.Proofs.YtpjkfdgkkpkljaaGreatDoor.Ref Go.Proofs.YtpjkfdgkkpkljaaGreatDoor.Nat_ Go.Proofs.YtpjkfdgkkpkljaaGreatDoor.Fl
set_option linter.unusedVariables false

theorem and_fr (b : Nat) (hb : b < 18446744073709551616) : bits BinOp.and IntKind.u64 (b : Int) 4503599627370495 = ((ffr b : Nat) : Int) := by
  rw [show (4503599627370495 : Int) = ((4503599627370495 : Nat) : Int) from rfl, Go.u64_and_nat b _ hb (by omega), show (4503599627370495 : Nat) = 2 ^ 52 - 1 by rfl, Nat.and_two_pow_sub_one_eq_mod]
  rfl
theorem and_exp (b : Nat) (hb : b < 18446744073709551616) : bits BinOp.and IntKind.u64 ((b : Int) / 4503599627370496) 2047 = ((fexp b : Nat) : Int) := by
  rw [show (b : Int) / 4503599627370496 = ((b / 4503599627370496 : Nat) : Int) by omega, show (2047 : Int) = ((2047 : Nat) : Int) from rfl, Go.u64_and_nat _ _ (by omega) (by omega), show (2047 : Nat) = 2 ^ 11 - 1 by rfl, Nat.and_two_pow_sub_one_eq_mod]
  rfl
theorem or_fr (x : Nat) (hx : x < 4503599627370496) : bits BinOp.or IntKind.u64 (x : Int) 4503599627370496 = ((4503599627370496 + x : Nat) : Int) := by
  rw [show (4503599627370496 : Int) = ((4503599627370496 : Nat) : Int) from rfl, Go.u64_or_nat _ _ (by omega) (by omega), show (4503599627370496 : Nat) = 2 ^ 52 by rfl, Nat.or_comm]
  congr 1
  have := Nat.two_pow_add_eq_or_of_lt (i := 52) (b := x) hx 1
  rw [Nat.mul_one] at this
  exact this.symm
theorem and_one (x : Nat) (hx : x < 18446744073709551616) : bits BinOp.and IntKind.u64 (x : Int) 1 = ((x % 2 : Nat) : Int) := by
  rw [show (1 : Int) = ((1 : Nat) : Int) from rfl, Go.u64_and_nat _ _ hx (by omega), Nat.and_one_is_mod]
theorem zero_read : Ieee.double.read 0 = .number false 0 (-1074) := by decide +kernel
theorem below_zero (b : Nat) (h : fexp b < 2047) (h1 : 0 < fexp b) : (FloatKind.f64.format.order b 0 == some .lt) = fneg b := by
  have e : Ieee.double.order b 0 = some (if fneg b then .lt else .gt) := by
    unfold Ieee.Format.order
    rw [read_num b h, zero_read]
    simp only [Ieee.Datum.order, signed_eq, Option.some.injEq]
    have hm : 0 < fman b := by unfold fman; rw [if_neg (by omega)]; omega
    have hp := Nat.mul_pos hm (Nat.two_pow_pos (fpow b - min (fpow b) (-1074)).toNat)
    rw [cmp_int]
    unfold sgnd
    rw [Nat.zero_mul]
    cases fneg b
    · simp only [Bool.false_eq_true, if_false]
      rw [if_neg (by omega), if_neg (by omega)]
    · simp only [if_true, Bool.false_eq_true, if_false]
      rw [if_pos (by omega)]
  rw [show FloatKind.f64.format.order b 0 = _ from e]
  cases fneg b <;> rfl

/-- what a store of two cells does to a fraction's block -/
theorem keep_two {w : World} {g o : Nat} {b v : Value} {cs : Array Value} (hk : Box.Holds w g 127 cs) {B Y : Nat} {x : Value} (h : IsNat w B x Y) : IsNat ((w.setCell ⟨g, o + 1, none⟩ v).setCell ⟨g, o, none⟩ b) B x Y :=
  own_apart (own_apart h hk (by decide) (o + 1) v) (hk.put (o + 1) v) (by decide) o b
theorem PutAt.rat0 {w w' : World} {g V : Nat} {neg : Bool} {b0 v0 b2 v2 : Value} (hk : Box.Holds w g 127 #[b0, v0, b2, v2]) (h : PutAt w g 0 neg V w') : (∃ u, Box.Holds w' g 127 #[.bool neg, u, b2, v2] ∧ IsNat w' w.heap.size u V) ∧ Below g w w' ∧ ∀ B x Y, IsNat w B x Y → IsNat w' B x Y := by
  obtain ⟨w1, v, hb, ho, rfl⟩ := h
  have hk1 := hk.later hb
  refine ⟨⟨v, ?_, keep_two hk1 ho⟩, ((hb.mono (Nat.le_of_lt hk.lt)).setCell (p := ⟨g, 0 + 1, none⟩) (Nat.le_refl _) _).setCell (p := ⟨g, 0, none⟩) (Nat.le_refl _) _, fun B x Y hx => keep_two hk1 (hx.later hb)⟩
  have := (hk1.put (0 + 1) v).put 0 (.bool neg)
  simpa using this
theorem PutAt.rat2 {w w' : World} {g V : Nat} {neg : Bool} {b0 v0 b2 v2 : Value} (hk : Box.Holds w g 127 #[b0, v0, b2, v2]) (h : PutAt w g 2 neg V w') : (∃ u, Box.Holds w' g 127 #[b0, v0, .bool neg, u] ∧ IsNat w' w.heap.size u V) ∧ Below g w w' ∧ ∀ B x Y, IsNat w B x Y → IsNat w' B x Y := by
  obtain ⟨w1, v, hb, ho, rfl⟩ := h
  have hk1 := hk.later hb
  refine ⟨⟨v, ?_, keep_two hk1 ho⟩, ((hb.mono (Nat.le_of_lt hk.lt)).setCell (p := ⟨g, 2 + 1, none⟩) (Nat.le_refl _) _).setCell (p := ⟨g, 2, none⟩) (Nat.le_refl _) _, fun B x Y hx => keep_two hk1 (hx.later hb)⟩
  have := (hk1.put (2 + 1) v).put 2 (.bool neg)
  simpa using this

set_option maxHeartbeats 4000000 in
set_option maxRecDepth 100000 in
theorem setf_big (g b : Nat) (hb : b < 18446744073709551616) (h1 : 1086 ≤ fexp b) (h2 : fexp b < 2047) (w : World) (hk : Box.Holds w g 127 #[.bool false, .slice none 0 0, .bool false, .slice none 0 0]) :
    Calls Tryz.prog 92 #[.pointer (some ⟨g, 0, none⟩), .float .f64 b] w fun e w' => (e = .returned (.pointer (some ⟨g, 0, none⟩)) ∧ ∃ va vb, Box.Holds w' g 127 #[.bool (fneg b), va, .bool false, vb] ∧ IsNat w' w.heap.size va ((4503599627370496 + ffr b) * 2 ^ (fexp b - 1075)) ∧ IsNat w' w.heap.size vb 1) ∧ Below g w w' := by
  have e1 := and_fr b hb
  have e2 := and_exp b hb
  have hfr := ffr_lt b
  have e3 := or_fr (ffr b) hfr
  have e5 := below_zero b h2 (by omega)
  have htb := tobits b
  obtain ⟨neg, hneg⟩ : ∃ neg, fneg b = neg := ⟨_, rfl⟩
  rw [hneg] at e5 ⊢
  obtain ⟨F, hF⟩ : ∃ F, ffr b = F := ⟨_, rfl⟩
  rw [hF] at e1 e3 hfr ⊢
  obtain ⟨E, hE⟩ : ∃ E, fexp b = E := ⟨_, rfl⟩
  rw [hE] at e2 h1 h2 ⊢
  obtain ⟨M, hM⟩ : ∃ M, 4503599627370496 + F = M := ⟨_, rfl⟩
  rw [hM] at e3 ⊢
  have hM1 : 4503599627370496 ≤ M := by omega
  have hM2 : M < 9007199254740992 := by omega
  obtain ⟨S, hS⟩ : ∃ S, E - 1075 = S := ⟨_, rfl⟩
  rw [hS]
  have hS1 : 11 ≤ S := by omega
  have hS2 : S ≤ 1000 := by omega
  have hE0 : ((E : Int) == 2047) = false := by simp; omega
  have hE1 : ((E : Int) == 0) = false := by simp; omega
  have sh : (52 : Int) - ((E : Int) - 1023) = -(S : Int) := by omega
  have sh0 : decide ((0 : Int) < -(S : Int)) = false := by simp
  have e4 := and_one M (by omega)
  have hsu := Lib.hid (bsetu_at g 0 M (.bool false) (by omega) (by rw [W_eq]; omega) w (Box.Holds.two hk 0 _ _ rfl rfl))
  have hk' := Lib.hid hk
  have hlt := hk.lt
  have hX : 1 < M * 2 ^ S := by
    have := Nat.mul_le_mul (show 2 ≤ M by omega) (show 1 ≤ 2 ^ S from Nat.one_le_two_pow)
    omega
  have hlen : len W (M * 2 ^ S) ≤ 10000 := by
    obtain ⟨T, hT⟩ : ∃ T, T = 40 := ⟨_, rfl⟩
    refine Nat.le_trans (len_le W_two (n := T) ?_) (by omega)
    rw [W_pow2]
    refine Nat.lt_of_lt_of_le (Nat.mul_lt_mul_of_pos_right hM2 (Nat.two_pow_pos S)) ?_
    rw [show (9007199254740992 : Nat) = 2 ^ 53 by rfl, ← Nat.pow_add]
    exact Nat.pow_le_pow_right (by omega) (by omega)
  have hone := Lib.hid fun w => intone_big w
  have hpar : M % 2 = 0 ∨ M % 2 = 1 := by omega
  obtain ⟨P, hP⟩ : ∃ P, M % 2 = P := ⟨_, rfl⟩
  rw [hP] at e4 hpar
  obtain ⟨X, hXX⟩ : ∃ X, M * 2 ^ S = X := ⟨_, rfl⟩
  rw [hXX] at hX hlen ⊢
  have hXX' := Lib.hid hXX
  clear hM hF hE hneg hk hb hP hXX
  go_enter Tryz.func92, Tryz.ntmps92
  go_wp2_with fail
  go_loop [6, 8] (fun m s => m = .int .u64 (M : Int) ∧ s = .int .i64 (-(S : Int))) (fun _ _ => 0)
  case atStart => exact ⟨rfl, rfl⟩
  case round =>
    obtain ⟨rfl, rfl⟩ := hrel
    have hcut : ∀ (Z : Prop), Z → Z := fun _ z => z
    rcases hpar with rfl | rfl
    all_goals
      go_wp2_with fail
      refine hsu.out.mono ?_
      rintro e wA ⟨rfl, w1, gv, hb1, hn1, hwA⟩
      have hk1 := hk'.out.later hb1
      have hkA : Box.Holds wA g 127 #[.bool false, .slice (some ⟨gv, 0, none⟩) 1 1, .bool false, .slice none 0 0] := by
        rw [hwA]
        have := (hk1.put (0 + 1) (.slice (some ⟨gv, 0, none⟩) 1 1)).put 0 (.bool false)
        simpa using this
      have hnA : IsNat wA w.heap.size (.slice (some ⟨gv, 0, none⟩) 1 1) M := by rw [hwA]; exact keep_two hk1 hn1
      have hbA : Below g w wA := by rw [hwA]; exact ((hb1.mono (Nat.le_of_lt hlt)).setCell (p := ⟨g, 0 + 1, none⟩) (Nat.le_refl _) _).setCell (p := ⟨g, 0, none⟩) (Nat.le_refl _) _
      have hsA : w.heap.size ≤ wA.heap.size := by rw [hwA]; simpa using hb1.size
      clear hwA hk1 hb1 hn1 hsu
      have kA := hkA.cell 0
      simp at kA
      have fA := hkA.free 0
      have hltA := hkA.lt
      have hB : ∃ wB, wA.setCell ⟨g, 0, none⟩ (.bool neg) = wB ∧ Box.Holds wB g 127 #[.bool neg, .slice (some ⟨gv, 0, none⟩) 1 1, .bool false, .slice none 0 0] ∧ IsNat wB w.heap.size (.slice (some ⟨gv, 0, none⟩) 1 1) M ∧ Below g w wB ∧ wB.heap.size = wA.heap.size := by
        refine ⟨_, rfl, ?_, own_apart hnA hkA (by decide) 0 _, hbA.setCell (p := ⟨g, 0, none⟩) (Nat.le_refl _) _, by simp⟩
        have := hkA.put 0 (.bool neg)
        simpa using this
      obtain ⟨wB, hwB, hkB, hnB, hbB, hsB⟩ := hB
      clear hkA hnA hbA
      go_wp2_with fail
      clear hwB kA fA hltA
      have hltB := hkB.lt
      have hset : Hid (∀ Wv g1 q, Below (wB.drewN q).heap.size (wB.drewN q) Wv → (wB.drewN q).heap.size < g1 → BigFrom Wv g1 0 false 1 → Calls Tryz.prog 61 #[.pointer (some ⟨g, 2, none⟩), .pointer (some ⟨g1, 0, none⟩)] Wv fun e w' => e = .returned (.pointer (some ⟨g, 2, none⟩)) ∧ (∃ u, Box.Holds w' g 127 #[.bool neg, .slice (some ⟨gv, 0, none⟩) 1 1, .bool false, u] ∧ IsNat w' w.heap.size u 1) ∧ Below g w w' ∧ IsNat w' w.heap.size (.slice (some ⟨gv, 0, none⟩) 1 1) M ∧ w.heap.size ≤ w'.heap.size) := Lib.hid fun Wv g1 q hb hg1 ho => by
        have hb' : Below wB.heap.size wB Wv := (Box.below_drawn (Below.refl _ _) q).trans hb
        have hkv := hkB.later hb'
        obtain ⟨u1, hku, hou⟩ := ho
        have hg1' : wB.heap.size < g1 := hg1
        refine (bset_at g 2 g1 0 1 0 (.bool false) false u1 _ _ _ _ Wv (Box.Holds.two hkv 2 _ _ rfl rfl) (Box.Holds.two hku 0 _ _ rfl rfl) hou (by decide +kernel) (by omega) hkv hku).mono ?_
        rintro e w' ⟨rfl, hp⟩
        obtain ⟨⟨u, h1, h2⟩, h3, h4⟩ := hp.rat2 hkv
        have hs1 := hb'.size
        have hs2 := h3.size
        exact ⟨rfl, ⟨u, h1, World.ownsRow.mono h2 (by omega)⟩, (hbB.trans (hb'.mono (Nat.le_of_lt hltB))).trans h3, h4 _ _ _ (hnB.later hb'), by omega⟩
      have cB := hkB.cell 0
      simp at cB
      clear hkB hnB hbB
      go_region_held3 (fun W => W.frozen? ⟨g, 0, none⟩ = W.frozen? ⟨g, 0, none⟩) (first | go_keep | rfl) (first | (go_at_call 94; refine (hone.out _).mono ?_; rintro e w3 ⟨g1, rfl, hg1, ho1, hb3⟩) | (go_at_call 61; refine (hset.out _ _ _ hb3 hg1 ho1).mono ?_; rintro e w4 ⟨rfl, ⟨u, hk4, hu4⟩, hb4, hn4, hs4⟩))
      clear hset hone cB hb3 ho1 hg1
      have hlsh : Hid (∀ q, Calls Tryz.prog 114 #[.pointer (some ⟨g, 0, none⟩), .pointer (some ⟨g, 0, none⟩), .int .u64 S] (w4.drewN q) fun e w' => e = .returned (.pointer (some ⟨g, 0, none⟩)) ∧ (∃ va, Box.Holds w' g 127 #[.bool neg, va, .bool false, u] ∧ IsNat w' w.heap.size va X ∧ IsNat w' w.heap.size u 1) ∧ Below g w w') := Lib.hid fun q => by
        refine (blsh_at g 0 M S w.heap.size neg gv (w4.drewN q) (Box.Holds.two (hk4.drawn q) 0 _ _ rfl rfl) hn4 (Nat.le_trans (len_one (by rw [W_eq]; omega)) (by omega)) (by omega) (by omega) (by omega)).mono ?_
        rintro e w' ⟨rfl, hp⟩
        rw [hXX'.out] at hp
        obtain ⟨⟨va, h1, h2⟩, h3, h4⟩ := hp.rat0 (hk4.drawn q)
        exact ⟨rfl, ⟨va, h1, World.ownsRow.mono h2 hs4, h4 _ _ _ hu4⟩, (Box.below_drawn hb4 q).trans h3⟩
      clear hk4 hu4 hb4 hn4
      go_wp2_with fail
      go_still_tail 9, (by kernel_rfl)
      change wpList _ _ _ _ _ w4.drew
      go_wp2_with fail
      refine (hlsh.out 1).mono ?_
      rintro e w6 ⟨rfl, ⟨va, hk6, hv6, hu6⟩, hb6⟩
      have hs6 := hb6.size
      have hnorm := Lib.hid (norm_one g X _ _ neg va u w6 hk6 hv6 hu6 hlen hX)
      have hend : Hid (∀ w7, Below w6.heap.size w6 w7 → (∃ va vb, Box.Holds w7 g 127 #[.bool neg, va, .bool false, vb] ∧ IsNat w7 w.heap.size va X ∧ IsNat w7 w.heap.size vb 1) ∧ Below g w w7) := Lib.hid fun w7 h => ⟨⟨va, u, hk6.later h, hv6.later h, hu6.later h⟩, hb6.trans (h.mono (by omega))⟩
      clear hk6 hv6 hu6 hb6 hlsh
      go_wp2_with fail
      refine hnorm.out.mono ?_
      rintro e w7 ⟨rfl, hb7⟩
      have hfin := Lib.hid (hend.out _ hb7)
      clear hb7 hend hnorm
      go_wp2
      go_ret
      exact ⟨⟨rfl, hfin.out.1⟩, hfin.out.2⟩

set_option maxRecDepth 100000 in
theorem rational_big (b : Nat) (hb : b < 18446744073709551616) (h1 : 1086 ≤ fexp b) (h2 : fexp b < 2047) (w : World) :
    Calls Tryz.prog 72 #[.float .f64 b] w fun e w' => ∃ g, e = .returned (.pointer (some ⟨g, 0, none⟩)) ∧ (∃ va vb B, Box.Holds w' g 127 #[.bool (fneg b), va, .bool false, vb] ∧ IsNat w' B va ((4503599627370496 + ffr b) * 2 ^ (fexp b - 1075)) ∧ IsNat w' B vb 1) ∧ Below w.heap.size w w' := by
  have hk := Box.Holds.made w 127 #[.bool false, .slice none 0 0, .bool false, .slice none 0 0]
  have hs := Lib.hid (setf_big w.heap.size b hb h1 h2 _ hk)
  clear hk
  go_enter Tryz.func72, Tryz.ntmps72
  go_wp2_with fail
  refine hs.out.mono ?_
  rintro e w1 ⟨⟨rfl, va, vb, hk1, hv1, hu1⟩, hb1⟩
  have hfin := Lib.hid (And.intro (⟨va, vb, _, hk1, hv1, hu1⟩ : ∃ va vb B, Box.Holds w1 w.heap.size 127 #[.bool (fneg b), va, .bool false, vb] ∧ IsNat w1 B va ((4503599627370496 + ffr b) * 2 ^ (fexp b - 1075)) ∧ IsNat w1 B vb 1) ((below_one _ (Nat.le_refl _)).trans hb1))
  clear hk1 hv1 hu1 hb1 hs
  go_wp2
  go_ret
  exact ⟨_, rfl, hfin.out.1, hfin.out.2⟩
end Go.Proofs.YtpjkfdgkkpkljaaGreatDoor.Big
namespace Go.Proofs.YtpjkfdgkkpkljaaGreatDoor.Big
open Go.RowKit Go.WideShapes Go.Proofs.YtpjkfdgkkpkljaaGreatDoor Go.Proofs.YtpjkfdgkkpkljaaGreatDoor.Own Go.Proofs.YtpjkfdgkkpkljaaGreatDoor.Num Go.Proofs.YtpjkfdgkkpkljaaGreatDoor.Ref Go.Proofs.YtpjkfdgkkpkljaaGreatDoor.Nat_ Go.Proofs.YtpjkfdgkkpkljaaGreatDoor.Fl
set_option linter.unusedVariables false

set_option maxHeartbeats 1000000 in
set_option maxRecDepth 100000 in
theorem bdiv_one (g gx ox gy oy X B B2 : Nat) (neg : Bool) (v d : Value) (w : World) (hg : Box.Holds w g 85 #[.bool false, .slice none 0 0]) (hx : Two w gx ox (.bool neg) v) (hy : Two w gy oy (.bool false) d) (hn : IsNat w B v X) (hd : IsNat w B2 d 1) (hm : len W X ≤ 10000) (hX : 0 < X) (hxg : gx < g) (hyg : gy < g) :
    Calls Tryz.prog 73 #[.pointer (some ⟨g, 0, none⟩), .pointer (some ⟨gx, ox, none⟩), .pointer (some ⟨gy, oy, none⟩)] w fun e w' => e = .returned (.pointer (some ⟨g, 0, none⟩)) ∧ Big w' g neg X ∧ Below g w w' := by
  have hlt := hg.lt
  have hb := below_one (B := w.heap.size) (.cells #[.bool false, .slice none 0 0] 85) (Nat.le_refl _)
  obtain ⟨a0, c0, rfl, -, -⟩ := hn.slice
  obtain ⟨a1, c1, rfl, -, -⟩ := hd.slice
  have hb' := Box.below_drawn hb 1
  have hdv := (div_one _ _ X B B2 (w.alloc (.cells #[.bool false, .slice none 0 0] 85)).drew (hn.later hb') hm (hd.later hb')).mono (fun e w' h => (Parts.of_halves h).undrawn (q := 1) (w := w.alloc (.cells #[.bool false, .slice none 0 0] 85)))
  have hq := Lib.hid (quorem_of g w.heap.size gx ox gy oy X 0 neg false a0 _ c0 a1 _ c1 (w.alloc (.cells #[.bool false, .slice none 0 0] 85)) (hg.alloc _) (Box.Holds.made w _ _) (hx.later hb) (hy.later hb) hdv hm (by decide +kernel) hlt hxg hyg)
  obtain ⟨hlty, y0, y1, -, -⟩ := id hy
  have e1 : (decide (0 < X) && (neg != false)) = neg := by rw [decide_eq_true hX]; cases neg <;> rfl
  have e2 : (decide (0 < 0) && neg) = false := by simp
  rw [e1, e2] at hq
  have hbg := Lib.hid (hb.mono (Nat.le_of_lt hlt))
  clear hdv hg hx hy hn hd hb
  go_enter Tryz.func73, Tryz.ntmps73
  go_wp2_with fail
  refine hq.out.mono ?_
  rintro e w1 ⟨rfl, ⟨u, h1, h2⟩, ⟨r, h3, h4⟩, hb1⟩
  have k0 := h3.cell 0
  simp at k0
  have hl := h3.lt
  have hfin : Hid (Big w1 g neg X ∧ Below g w w1) := Lib.hid ⟨⟨u, h1, World.ownsRow.mono h2 (by simp; omega), fun _ => hX⟩, hbg.out.trans hb1⟩
  clear h1 h2 h3 h4 hb1 hq hbg
  go_wp2
  go_ret
  exact ⟨rfl, hfin.out⟩
set_option maxRecDepth 100000 in
theorem num_any (g : Nat) (w : World) (hlt : g < w.heap.size) : Calls Tryz.prog 74 #[.pointer (some ⟨g, 0, none⟩)] w fun e w' => e = .returned (.pointer (some ⟨g, 0, none⟩)) ∧ w' = w := by
  go_enter Tryz.func74, Tryz.ntmps74
  go_wp2
  go_ret
  exact ⟨rfl, rfl⟩
set_option maxRecDepth 100000 in
theorem denom_one (g : Nat) (a : Option Addr) (c : Nat) (w : World) (hlt : g < w.heap.size) (h : w.cell? ⟨g, 3, none⟩ = some (.slice a 1 c)) : Calls Tryz.prog 75 #[.pointer (some ⟨g, 0, none⟩)] w fun e w' => e = .returned (.pointer (some ⟨g, 2, none⟩)) ∧ w' = w := by
  go_enter Tryz.func75, Tryz.ntmps75
  go_wp2
  go_ret
  exact ⟨rfl, rfl⟩

set_option maxHeartbeats 1000000 in
set_option maxRecDepth 100000 in
theorem fti_big (b : Nat) (hb : b < 18446744073709551616) (hf : fexp b < 2047) (hs : ¬ Small b) (w : World) :
    Calls Tryz.prog 55 #[.float .f64 b] w fun e w' => (∃ v, e = .returned v ∧ SAt w' v (ftrunc b)) ∧ Below w.heap.size w w' := by
  obtain ⟨h1, h2⟩ := big_whole b hf hs
  have ho := big_order b hf hs
  have hrat := Lib.hid fun w => rational_big b hb h1 hf w
  have hnum := Lib.hid num_any
  have hden := Lib.hid denom_one
  have hX : 0 < (4503599627370496 + ffr b) * 2 ^ (fexp b - 1075) := Nat.mul_pos (by omega) (Nat.two_pow_pos _)
  have hlen : len W ((4503599627370496 + ffr b) * 2 ^ (fexp b - 1075)) ≤ 10000 := by
    obtain ⟨T, hT⟩ : ∃ T, T = 40 := ⟨_, rfl⟩
    refine Nat.le_trans (len_le W_two (n := T) ?_) (by omega)
    rw [W_pow2]
    have := ffr_lt b
    refine Nat.lt_of_lt_of_le (Nat.mul_lt_mul_of_pos_right (show 4503599627370496 + ffr b < 9007199254740992 by omega) (Nat.two_pow_pos _)) ?_
    rw [show (9007199254740992 : Nat) = 2 ^ 53 by rfl, ← Nat.pow_add]
    exact Nat.pow_le_pow_right (by omega) (by omega)
  rw [h2]
  obtain ⟨X, hXX⟩ : ∃ X, (4503599627370496 + ffr b) * 2 ^ (fexp b - 1075) = X := ⟨_, rfl⟩
  rw [hXX] at hrat hX hlen ⊢
  have hsg : sgnd (fneg b) X = sg (fneg b) X := rfl
  rw [hsg]
  have c0 : (FloatKind.f64.format.order 14114281232179134464 b == some .lt || FloatKind.f64.format.order 14114281232179134464 b == some .eq) = !fneg b ∧ (fneg b = false → (FloatKind.f64.format.order b 4890909195324358656 == some .lt) = false) := by
    rcases ho with ⟨e1, e2⟩ | ⟨e1, e2, e3⟩
    · rw [show FloatKind.f64.format.order 14114281232179134464 b = some .gt from e2, e1]
      exact ⟨rfl, fun h => by cases h⟩
    · rw [show FloatKind.f64.format.order 14114281232179134464 b = some .lt from e2, e1]
      refine ⟨rfl, fun _ => ?_⟩
      rcases e3 with e3 | e3
      · rw [show FloatKind.f64.format.order b 4890909195324358656 = some .eq from e3]; rfl
      · rw [show FloatKind.f64.format.order b 4890909195324358656 = some .gt from e3]; rfl
  obtain ⟨c1, c2⟩ := c0
  obtain ⟨neg, hneg⟩ : ∃ neg, fneg b = neg := ⟨_, rfl⟩
  rw [hneg] at c1 c2 hrat ⊢
  clear hneg hXX h1 h2 ho hf hs hsg hb
  have hb0 := below_one (B := w.heap.size) (w := w) (.cells #[.int .i64 0, .pointer none] 61) (Nat.le_refl _)
  have hst := Box.Holds.made w 61 #[.int .i64 0, .pointer none]
  have hrest : Hid (∀ w1 g va vb B, Box.Holds w1 g 127 #[.bool neg, va, .bool false, vb] → IsNat w1 B va X → IsNat w1 B vb 1 → Calls Tryz.prog 73 #[.pointer (some ⟨w1.heap.size, 0, none⟩), .pointer (some ⟨g, 0, none⟩), .pointer (some ⟨g, 2, none⟩)] (w1.alloc (.cells #[.bool false, .slice none 0 0] 85)) fun e w' => e = .returned (.pointer (some ⟨w1.heap.size, 0, none⟩)) ∧ Big w' w1.heap.size neg X ∧ Below w1.heap.size w1 w') := Lib.hid fun w1 g va vb B hk ha hb => by
    have hbo := below_one (B := w1.heap.size) (w := w1) (.cells #[.bool false, .slice none 0 0] 85) (Nat.le_refl _)
    exact (bdiv_one w1.heap.size g 0 g 2 X B B neg va vb _ (Box.Holds.made w1 _ _) (Box.Holds.two (hk.alloc _) 0 _ _ rfl rfl) (Box.Holds.two (hk.alloc _) 2 _ _ rfl rfl) (ha.later hbo) (hb.later hbo) hlen hX hk.lt hk.lt).mono fun e w' h => ⟨h.1, h.2.1, hbo.trans h.2.2⟩
  have hmb := Lib.hid fun g w (h : Big w g neg X) => mbi_any g neg X w h hlen
  have hst' := Lib.hid (And.intro hst hb0)
  clear hst hb0
  have l1 : len W 1 = 1 := by decide +kernel
  cases neg
  · have c3 := c2 rfl
    simp only [Bool.not_false] at c1
    clear c2
    go_enter Tryz.func55, Tryz.ntmps55
    go_wp2_with fail
    refine (hrat.out _).mono ?_
    rintro e w1 ⟨g, rfl, ⟨va, vb, B, hk, ha, hb⟩, hb1⟩
    have hst1 := hst'.out.1.later hb1
    have hbw1 : Below w.heap.size w w1 := hst'.out.2.trans (hb1.mono (by simp))
    have hlt := hk.lt
    have hdv := Lib.hid (hrest.out w1 g va vb B hk ha hb)
    obtain ⟨a1, cc1, rfl, -, -⟩ := hb.slice
    have k3 := hk.cell 3
    simp at k3
    rw [l1] at k3
    have k3' : (w1.alloc (.cells #[.bool false, .slice none 0 0] 85)).cell? ⟨g, 3, none⟩ = some (.slice a1 1 cc1) := ((below_one (B := w1.heap.size) _ (Nat.le_refl _)).cell (p := ⟨g, 3, none⟩) hlt).trans k3
    have hstk := Lib.hid (And.intro hst1 hbw1)
    clear hrat hrest hk ha hb hb1 hst1 hbw1 k3
    go_wp2_with fail
    refine (hnum.out g _ (by simp; omega)).mono ?_
    rintro e w2 ⟨rfl, rfl⟩
    go_wp2_with fail
    refine (hden.out g a1 cc1 _ (by simp; omega) k3').mono ?_
    rintro e w2 ⟨rfl, rfl⟩
    go_wp2_with fail
    refine hdv.out.mono ?_
    rintro e w2 ⟨rfl, hbig, hb2⟩
    have hcall := Lib.hid (hmb.out _ _ hbig)
    have hb2' := Lib.hid hb2
    clear hdv hbig hmb hb2 k3'
    go_wp2_with fail
    refine hcall.out.mono ?_
    rintro e w3 ⟨⟨v, rfl, hv⟩, hb3⟩
    have hb13 : Below w1.heap.size w1 w3 := hb2'.out.trans (hb3.mono hb2'.out.size)
    have hk3 := hstk.out.1.later hb13
    have hbw := hstk.out.2.trans (hb13.mono hstk.out.2.size)
    obtain ⟨za, zp, rfl⟩ := hv.at_.shape
    have hl3 := hk3.lt
    have k0 := hk3.cell 0
    have k1 := hk3.cell 1
    simp at k0 k1
    have f0 := hk3.free 0
    have f1 := hk3.free 1
    have hv' := Lib.hid (own_SAt (own_SAt hv.at_ hk3 (by decide) (by decide) 0 (.int .i64 za)) (hk3.put 0 _) (by decide) (by decide) 1 (.pointer zp))
    clear hv hb3 hb13 hcall hb2' hstk hst'
    go_wp2
    exact bodyPost_ret (v := .agg #[.int .i64 za, .pointer zp]) (by simp [results, Tryz.results55, go_sem, k0, k1]) rfl ⟨⟨_, rfl, hv'.out⟩, (hbw.setCell (p := ⟨w.heap.size, 0, none⟩) (Nat.le_refl _) _).setCell (p := ⟨w.heap.size, 1, none⟩) (Nat.le_refl _) _⟩
  · simp only [Bool.not_true] at c1
    clear c2
    go_enter Tryz.func55, Tryz.ntmps55
    go_wp2_with fail
    refine (hrat.out _).mono ?_
    rintro e w1 ⟨g, rfl, ⟨va, vb, B, hk, ha, hb⟩, hb1⟩
    have hst1 := hst'.out.1.later hb1
    have hbw1 : Below w.heap.size w w1 := hst'.out.2.trans (hb1.mono (by simp))
    have hlt := hk.lt
    have hdv := Lib.hid (hrest.out w1 g va vb B hk ha hb)
    obtain ⟨a1, cc1, rfl, -, -⟩ := hb.slice
    have k3 := hk.cell 3
    simp at k3
    rw [l1] at k3
    have k3' : (w1.alloc (.cells #[.bool false, .slice none 0 0] 85)).cell? ⟨g, 3, none⟩ = some (.slice a1 1 cc1) := ((below_one (B := w1.heap.size) _ (Nat.le_refl _)).cell (p := ⟨g, 3, none⟩) hlt).trans k3
    have hstk := Lib.hid (And.intro hst1 hbw1)
    clear hrat hrest hk ha hb hb1 hst1 hbw1 k3
    go_wp2_with fail
    refine (hnum.out g _ (by simp; omega)).mono ?_
    rintro e w2 ⟨rfl, rfl⟩
    go_wp2_with fail
    refine (hden.out g a1 cc1 _ (by simp; omega) k3').mono ?_
    rintro e w2 ⟨rfl, rfl⟩
    go_wp2_with fail
    refine hdv.out.mono ?_
    rintro e w2 ⟨rfl, hbig, hb2⟩
    have hcall := Lib.hid (hmb.out _ _ hbig)
    have hb2' := Lib.hid hb2
    clear hdv hbig hmb hb2 k3'
    go_wp2_with fail
    refine hcall.out.mono ?_
    rintro e w3 ⟨⟨v, rfl, hv⟩, hb3⟩
    have hb13 : Below w1.heap.size w1 w3 := hb2'.out.trans (hb3.mono hb2'.out.size)
    have hk3 := hstk.out.1.later hb13
    have hbw := hstk.out.2.trans (hb13.mono hstk.out.2.size)
    obtain ⟨za, zp, rfl⟩ := hv.at_.shape
    have hl3 := hk3.lt
    have k0 := hk3.cell 0
    have k1 := hk3.cell 1
    simp at k0 k1
    have f0 := hk3.free 0
    have f1 := hk3.free 1
    have hv' := Lib.hid (own_SAt (own_SAt hv.at_ hk3 (by decide) (by decide) 0 (.int .i64 za)) (hk3.put 0 _) (by decide) (by decide) 1 (.pointer zp))
    clear hv hb3 hb13 hcall hb2' hstk hst'
    go_wp2
    exact bodyPost_ret (v := .agg #[.int .i64 za, .pointer zp]) (by simp [results, Tryz.results55, go_sem, k0, k1]) rfl ⟨⟨_, rfl, hv'.out⟩, (hbw.setCell (p := ⟨w.heap.size, 0, none⟩) (Nat.le_refl _) _).setCell (p := ⟨w.heap.size, 1, none⟩) (Nat.le_refl _) _⟩

theorem cuts : Cuts := fun b hb hf w => by
  by_cases hs : Small b
  · exact fti_small b hs w
  · exact fti_big b hb hf hs w
end Go.Proofs.YtpjkfdgkkpkljaaGreatDoor.Big
