/-
  The reference's integers: how magnitudes compare, their digits, the lowest 64 bits. The reference's integers: the eight bytes of a number, and the integer of a number. The reference's integers: their signs, and how two compare. The reference's sum and difference of magnitudes. The reference's integers as integers: their shape, what is stored into a result's cells. The reference's quotient and rest of two magnitudes, a bit at a time; its floor. The reference's floor of a quotient. The question whether the program's value is the reference's integer.
-/
import Derived.Test.YtpjkfdgkkpkljaaGreatDoorSpecInt
import Derived.Deep.DeepCutAuto
import Derived.Deep.RegionWith
import Derived.Deep.DrawnRows
import Derived.Test.YtpjkfdgkkpkljaaGreatDoorNumOut
import Derived.Test.YtpjkfdgkkpkljaaGreatDoorShiftLaw
import Derived.Deep.RegionHeld3
import Derived.BigQuiet
namespace Go.Proofs.YtpjkfdgkkpkljaaGreatDoor.Ref
open Go.RowKit Go.WideShapes Go.Proofs.YtpjkfdgkkpkljaaGreatDoor.Own Go.Proofs.YtpjkfdgkkpkljaaGreatDoor.Num
set_option linter.unusedVariables false

theorem Rd.at_ {w : World} {a : Option Addr} {l : List UInt8} (h : Rd w a l) {k : Nat} (hk : k < l.length) : ∃ x, a = some x ∧ w.cell? (x.add k) = some (.int .u8 (l[k].toNat : Int)) := by
  rcases h with ⟨_, rfl⟩ | ⟨x, rfl, _, hc⟩
  · simp at hk
  · exact ⟨x, rfl, hc k hk⟩
theorem mag_at (v k : Nat) (h : k < (mag v).length) : ((mag v)[k]).toNat = v / 256 ^ (len 256 v - 1 - k) % 256 := by
  have hk : k < len 256 v := by rw [← mag_length]; exact h
  have h1 := mag_get v k hk
  rw [List.getElem?_eq_getElem h] at h1
  rw [Option.some.inj h1]
  simp

set_option maxRecDepth 100000 in
theorem digit_any (a : Option Addr) (cap : Nat) (l : List UInt8) (i : Nat) (w : World) (h : Rd w a l) (hl : l.length ≤ 2147483647) (hi : i ≤ 2147483647) (hc : l.length ≤ cap) :
    Calls Tryz.prog 40 #[.slice a l.length cap, .int .i64 i] w fun e w' => e = .returned (.int .i64 (digitAt l i)) ∧ w = w' := by
  by_cases hlt : i < l.length
  · obtain ⟨x, rfl, hx⟩ := h.at_ (k := l.length - 1 - i) (by omega)
    have hd := digitAt_in l i hlt
    rw [hd] at hx
    obtain ⟨D, hD⟩ : ∃ D, digitAt l i = D := ⟨_, rfl⟩
    have hD256 : D < 256 := by rw [← hD]; unfold digitAt; exact Nat.mod_lt _ (by omega)
    rw [hD] at hx ⊢
    clear hd hD h
    have k3 : ((l.length : Int) - 1 - i).toNat = l.length - 1 - i := by omega
    go_enter Tryz.func40, Tryz.ntmps40
    go_wp2
    go_ret
    exact ⟨rfl, rfl⟩
  · rw [digitAt_out l i (by omega)]
    go_enter Tryz.func40, Tryz.ntmps40
    go_wp2
    go_ret
    exact ⟨rfl, rfl⟩

set_option maxRecDepth 100000 in
theorem order_any (a1 a2 : Option Addr) (c1 c2 : Nat) (u v : Nat) (w : World) (h1 : Rd w a1 (mag u)) (h2 : Rd w a2 (mag v)) (hu : (mag u).length ≤ 2147483647) (hv : (mag v).length ≤ 2147483647) (hc1 : (mag u).length ≤ c1) (hc2 : (mag v).length ≤ c2) :
    Calls Tryz.prog 39 #[.slice a1 (mag u).length c1, .slice a2 (mag v).length c2] w fun e w' => e = .returned (.int .i64 (cmpN u v)) ∧ Below w.heap.size w w' := by
  have l1 := mag_length u
  have l2 := mag_length v
  rcases Nat.lt_trichotomy (len 256 u) (len 256 v) with hlt | heq | hgt
  · rw [cmpN_len (by omega) hlt]
    have hne : ((((mag u).length : Nat) : Int) != (mag v).length) = true := by simp; omega
    have hlt' : (mag u).length < (mag v).length := by omega
    clear h1 h2 l1 l2 hlt
    go_enter Tryz.func39, Tryz.ntmps39
    go_wp2
    go_ret
    exact ⟨rfl, Below.refl _ _⟩
  · obtain ⟨n, hn⟩ : ∃ n, (mag u).length = n := ⟨_, rfl⟩
    have hn2 : (mag v).length = n := by omega
    have hlu : len 256 u = n := by omega
    have hlv : len 256 v = n := by omega
    have hne : ((n : Int) != n) = false := by simp
    have hbu := len_lt (b := 256) (by omega) u
    have hbv := len_lt (b := 256) (by omega) v
    rw [hlu] at hbu
    rw [hlv] at hbv
    have hst := Lib.hid (show u / 256 ^ n = v / 256 ^ n by rw [Nat.div_eq_of_lt hbu, Nat.div_eq_of_lt hbv])
    rw [hn] at hu hc1 ⊢
    rw [hn2] at hv hc2 ⊢
    obtain ⟨Z, hZ⟩ : ∃ Z, cmpN u v = Z := ⟨_, rfl⟩
    rw [hZ]
    have hZ' := Lib.hid hZ
    have hn' := Lib.hid hn
    have hn2' := Lib.hid hn2
    have hlu' := Lib.hid hlu
    have hlv' := Lib.hid hlv
    clear hbu hbv hZ hn hn2 hlu hlv l1 l2 heq
    go_enter Tryz.func39, Tryz.ntmps39
    go_wp2
    go_loopw [5] (fun i wr => ∃ k : Nat, i = .int .i64 k ∧ k ≤ n ∧ Hid (u / 256 ^ (n - k) = v / 256 ^ (n - k)) ∧ Below w.heap.size w wr) (fun i _ => n - (intOf i).toNat)
    case atStart => exact ⟨0, rfl, Nat.zero_le _, by rw [Nat.sub_zero]; exact hst, Below.refl _ _⟩
    case round =>
      obtain ⟨k, rfl, hk, hq, hb⟩ := hrel
      by_cases hlt : k < n
      · obtain ⟨x, rfl, hx⟩ := (h1.later hb).at_ (k := k) (by rw [hn'.out]; exact hlt)
        obtain ⟨y, rfl, hy⟩ := (h2.later hb).at_ (k := k) (by rw [hn2'.out]; exact hlt)
        rw [mag_at, hlu'.out] at hx
        rw [mag_at, hlv'.out] at hy
        have hq' := hq.out
        rw [show n - k = (n - 1 - k) + 1 by omega] at hq'
        obtain ⟨X, hX⟩ : ∃ X, u / 256 ^ (n - 1 - k) % 256 = X := ⟨_, rfl⟩
        obtain ⟨Y, hY⟩ : ∃ Y, v / 256 ^ (n - 1 - k) % 256 = Y := ⟨_, rfl⟩
        have hX256 : X < 256 := by rw [← hX]; exact Nat.mod_lt _ (by omega)
        have hY256 : Y < 256 := by rw [← hY]; exact Nat.mod_lt _ (by omega)
        have hlo := Lib.hid fun (h : X < Y) => cmpN_lt (b := 256) (by omega) hq' (by rw [hX, hY]; exact h)
        have hhi := Lib.hid fun (h : Y < X) => cmpN_gt (b := 256) (by omega) hq' (by rw [hX, hY]; exact h)
        have hsame := Lib.hid fun (h : X = Y) => div_of_digit hq' (by rw [hX, hY]; exact h)
        rw [hX] at hx
        rw [hY] at hy
        have b1 : (0 : Int) ≤ (k : Int) := by omega
        have b2 : (k : Int) < (n : Int) := by omega
        have h1' := Lib.hid h1
        have h2' := Lib.hid h2
        clear hX hY hq' h1 h2
        rcases Nat.lt_trichotomy X Y with hxy | hxy | hxy
        · have g1 : ((X : Int) != Y) = true := by simp; omega
          have g2 : decide (X < Y) = true := by simp; omega
          have hr := hlo.out hxy
          rw [hZ'.out] at hr
          subst hr
          clear hxy
          go_wp2
          go_quiet (fail)
          go_wp2
          go_quiet (fail)
          go_wp2
          go_ret
          exact ⟨rfl, Box.below_drawn (Box.below_drawn hb _) _⟩
        · have g1 : ((X : Int) != Y) = false := by simp; omega
          have hr := Lib.hid (hsame.out hxy)
          clear hxy
          go_wp2
          go_quiet (fail)
          go_wp2
          go_roundw
          case rel => exact ⟨k + 1, by go_num, by omega, by rw [show n - (k + 1) = n - 1 - k by omega]; exact hr, Box.below_drawn hb _⟩
          case measure => simp [intOf]; omega
        · have g1 : ((X : Int) != Y) = true := by simp; omega
          have g2 : decide (X < Y) = false := by simp; omega
          have hr := hhi.out hxy
          rw [hZ'.out] at hr
          subst hr
          clear hxy
          go_wp2
          go_quiet (fail)
          go_wp2
          go_quiet (fail)
          go_wp2
          go_ret
          exact ⟨rfl, Box.below_drawn (Box.below_drawn hb _) _⟩
      · obtain rfl : k = n := by omega
        have hq' := hq.out
        rw [Nat.sub_self, Nat.pow_zero, Nat.div_one, Nat.div_one] at hq'
        have hr := cmpN_eq hq'
        rw [hZ'.out] at hr
        subst hr
        clear hq'
        go_wp2
        go_ret
        exact ⟨rfl, hb⟩
  · rw [cmpN_len' (by omega) hgt]
    have hne : ((((mag u).length : Nat) : Int) != (mag v).length) = true := by simp; omega
    have hlt' : (mag v).length < (mag u).length := by omega
    clear h1 h2 l1 l2 hgt
    go_enter Tryz.func39, Tryz.ntmps39
    go_wp2
    go_ret
    exact ⟨rfl, Below.refl _ _⟩

theorem ofInt_u64 (a : Nat) (ha : a < 18446744073709551616) : (BitVec.ofInt 64 (a : Int)).toNat = a := by
  rw [BitVec.ofInt_natCast, BitVec.toNat_ofNat]; exact Nat.mod_eq_of_lt (by omega)
theorem u64_or (a b : Nat) (ha : a < 18446744073709551616) (hb : b < 18446744073709551616) : bits .or .u64 (a : Int) (b : Int) = ((a ||| b : Nat) : Int) := by
  have hx : a ||| b < 2 ^ 64 := Nat.or_lt_two_pow (by omega) (by omega)
  show IntKind.u64.wrap ((BitVec.ofInt 64 (a : Int) ||| BitVec.ofInt 64 (b : Int)).toNat : Int) = _
  rw [BitVec.toNat_or, ofInt_u64 a ha, ofInt_u64 b hb, IntKind.wrap_u64]
  omega
theorem or_256 (a b : Nat) (ha : a % 256 = 0) (hb : b < 256) : a ||| b = a + b := by
  have : a = 2 ^ 8 * (a / 256) := by omega
  rw [this, ← Nat.two_pow_add_eq_or_of_lt (show b < 2 ^ 8 from hb)]
theorem low_bits (U D Z : Nat) (hU : U * 256 % 18446744073709551616 + D = Z) (hD : D < 256) :
    bits BinOp.or IntKind.u64 (IntKind.u64.wrap ((U : Int) * 256)) (D : Int) = (Z : Int) := by
  have e1 : IntKind.u64.wrap ((U : Int) * 256) = ((U * 256 % 18446744073709551616 : Nat) : Int) := by rw [IntKind.wrap_u64]; omega
  rw [e1, u64_or _ _ (by omega) (by omega), or_256 _ _ (by omega) hD, hU]

end Go.Proofs.YtpjkfdgkkpkljaaGreatDoor.Ref

namespace Go.Proofs.YtpjkfdgkkpkljaaGreatDoor.Ref
open Go.RowKit Go.WideShapes Go.Proofs.YtpjkfdgkkpkljaaGreatDoor.Own Go.Proofs.YtpjkfdgkkpkljaaGreatDoor.Num
set_option linter.unusedVariables false

def part (u i : Nat) : List UInt8 := (List.range 8).map fun k => if i ≤ k then UInt8.ofNat (u / 256 ^ (7 - k) % 256) else 0
theorem part_length (u i : Nat) : (part u i).length = 8 := by simp [part]
theorem part_zero (u : Nat) : part u 0 = bytes8 u := by
  apply List.ext_getElem?
  intro k
  by_cases hk : k < 8
  · rw [bytes8_get u k hk]; simp [part, hk]
  · rw [List.getElem?_eq_none (by rw [part_length]; omega), List.getElem?_eq_none (by rw [bytes8_length]; omega)]
theorem part_step (u j : Nat) (hj : j < 8) : (bs (part u (j + 1))).set j (.int .u8 ((u / 256 ^ (7 - j) % 256 : Nat) : Int)) = bs (part u j) := by
  have e : (Value.int .u8 ((u / 256 ^ (7 - j) % 256 : Nat) : Int)) = .int .u8 ((UInt8.ofNat (u / 256 ^ (7 - j) % 256)).toNat : Int) := by simp
  rw [e]
  unfold bs
  rw [← List.map_set]
  congr 1
  apply List.ext_getElem?
  intro k
  rw [List.getElem?_set]
  by_cases hk : k < 8
  · by_cases h1 : j = k
    · subst h1; simp [part, hk]
    · rw [if_neg h1]; simp [part, hk]
      by_cases h2 : j ≤ k
      · rw [if_pos (by omega), if_pos h2]
      · rw [if_neg (by omega), if_neg h2]
  · rw [List.getElem?_eq_none (by rw [part_length]; omega), List.getElem?_eq_none (l := part u j) (by rw [part_length]; omega)]
    split
    · rw [if_neg (by rw [part_length]; omega)]
    · rfl

theorem part_eight (u : Nat) : part u 8 = part 0 0 := by
  apply List.ext_getElem?
  intro k
  by_cases hk : k < 8
  · simp [part, hk]; omega
  · rw [List.getElem?_eq_none (by rw [part_length]; omega), List.getElem?_eq_none (by rw [part_length]; omega)]

set_option maxRecDepth 100000 in
theorem bytesof_any (u : Nat) (hu : u < 18446744073709551616) (w : World) :
    Calls Tryz.prog 21 #[.int .u64 u] w fun e w' => (∃ v, e = .returned v ∧ Owns w' w.heap.size v (bytes8 u)) ∧ Below w.heap.size w w' := by
  have hmk : ∀ w : World, (Instr.makeSlice 22 (.int .i64 8) (.int .i64 8)).run Tryz.prog w = .ok (.slice (some ⟨w.heap.size, 0, none⟩) 8 8) (w.alloc (.cells (bs (part 0 0)).toArray 5)) := fun w => by kernel_rfl
  go_enter Tryz.func21, Tryz.ntmps21
  go_wp2
  have hown : (w.alloc (.cells (bs (part 0 0)).toArray 5)).ownsRow w.heap.size 5 1 (.slice (some ⟨w.heap.size, 0, none⟩) 8 8) 8 (bs (part u 8)) := by
    rw [part_eight]
    have := World.ownsRow_lit (base := w.heap.size) (e := 5) (size := 1) w (bs (part 0 0)).toArray 8 (Nat.le_refl _) (by decide) (by simp [bs, part_length])
    simpa using this
  have hb0 : Below w.heap.size w (w.alloc (.cells (bs (part 0 0)).toArray 5)) := (Below.refl _ _).alloc (Nat.le_refl _) _
  clear hmk
  go_loopw [0, 4] (fun x i wr => ∃ j : Nat, j ≤ 8 ∧ i = .int .i64 ((j : Int) - 1) ∧ x = .int .u64 ((u / 256 ^ (8 - j) : Nat) : Int) ∧ wr.ownsRow w.heap.size 5 1 (.slice (some ⟨w.heap.size, 0, none⟩) 8 8) 8 (bs (part u j)) ∧ Below w.heap.size w wr) (fun _ i _ => (intOf i + 1).toNat)
  case atStart => exact ⟨8, by omega, rfl, by simp, hown, hb0⟩
  case round =>
    clear hown hb0
    obtain ⟨j, hj, rfl, rfl, hown, hb⟩ := hrel
    cases j with
    | succ j =>
      have e : ((j + 1 : Nat) : Int) - 1 = j := by omega
      rw [e]
      have hc0 := World.ownsRow.cellAt hown j (by omega)
      have hf0 := World.ownsRow.frozenAt hown j
      obtain ⟨cv, hcv⟩ : ∃ cv, (bs (part u (j + 1)))[j]? = some cv := ⟨_, List.getElem?_eq_getElem (by rw [bs_length, part_length]; omega)⟩
      rw [hcv] at hc0
      have hst := World.ownsRow.stored hown j (.int .u8 ((u / 256 ^ (7 - j) % 256 : Nat) : Int))
      rw [part_step u j (by omega)] at hst
      rw [show 8 - (j + 1) = 7 - j by omega]
      have hdiv : u / 256 ^ (7 - j) / 256 = u / 256 ^ (8 - j) := by rw [Nat.div_div_eq_div_mul, ← Nat.pow_succ]; congr 2; omega
      obtain ⟨U, hU⟩ : ∃ U, u / 256 ^ (7 - j) = U := ⟨_, rfl⟩
      have hUlt : U < 18446744073709551616 := by rw [← hU]; exact Nat.lt_of_le_of_lt (Nat.div_le_self _ _) hu
      rw [hU] at hst hdiv ⊢
      obtain ⟨M, hM⟩ : ∃ M, U % 256 = M := ⟨_, rfl⟩
      have hM' : IntKind.u8.wrap (U : Int) = M := by rw [IntKind.wrap_u8]; omega
      obtain ⟨Q, hQ⟩ : ∃ Q, U / 256 = Q := ⟨_, rfl⟩
      have hQ' : (U : Int) / 256 = Q := by omega
      rw [hM] at hst
      rw [hQ] at hdiv
      have hdiv' := Lib.hid hdiv
      clear hcv e hU hM hQ hdiv
      go_wp2
      go_roundw
      case rel => exact ⟨j, by omega, rfl, by rw [hdiv'.out], hst.1, hb.setCell (Nat.le_refl _) _⟩
      case measure => simp [intOf]
    | zero =>
      go_wp2
      go_ret
      rw [part_zero] at hown
      exact ⟨⟨_, rfl, by unfold Owns; rw [bytes8_length]; exact hown⟩, hb⟩

/-- the magnitude of a number of 64 bits with a sign -/
def absN (z : Int) : Nat := z.natAbs
set_option maxRecDepth 100000 in
theorem small_any (z : Int) (h1 : -9223372036854775808 ≤ z) (h2 : z ≤ 9223372036854775807) (w : World) :
    Calls Tryz.prog 8 #[.int .i64 z] w fun e w' => (∃ v, e = .returned v ∧ IsInt w' w.heap.size v (decide (z < 0)) z.natAbs) ∧ Below w.heap.size w w' := by
  obtain ⟨U, hU⟩ : ∃ U, z.natAbs = U := ⟨_, rfl⟩
  have hUlt : U < 18446744073709551616 := by omega
  have hby := Lib.hid fun w => bytesof_any U hUlt w
  have hof := Lib.hid fun b a cap W (h : Rd W a (bytes8 U)) hc ha => of_any b a cap (bytes8 U) W h (by rw [bytes8_length]; omega) hc ha
  rw [bytes8_length, be_bytes8 U hUlt] at hof
  rw [hU]
  by_cases hz : z < 0
  · have hd : decide (z < 0) = true := by simp [hz]
    have e1 : IntKind.u64.wrap (-IntKind.u64.wrap z) = U := by rw [IntKind.wrap_u64, IntKind.wrap_u64]; omega
    have hU0 : 0 < U := by omega
    have hp : decide (0 < U) = true := by simp; omega
    rw [hd]
    rw [hp] at hof
    have hU0' := Lib.hid hU0
    clear hU h1 h2 hUlt hp hU0
    go_enter Tryz.func8, Tryz.ntmps8
    go_wp2_with fail
    refine (hby.out _).mono ?_
    rintro e w1 ⟨⟨v, rfl, ho⟩, hb1⟩
    obtain ⟨a, cap, rfl, hr, hc⟩ := Rd.of_own ho
    have hcn : a = none → cap = 0 := fun h => by
      subst h
      rcases hr with ⟨_, h0⟩ | ⟨x, h0, _⟩
      · have := bytes8_length U; rw [h0] at this; simp at this
      · cases h0
    rw [bytes8_length] at hc ⊢
    go_wp2_with fail
    refine (hof.out true a cap _ hr hc hcn).mono ?_
    rintro e w2 ⟨⟨v2, rfl, u2, rfl, ho2, hp2⟩, hb2⟩
    obtain ⟨a2, c2, rfl, hr2, hc2⟩ := Rd.of_own ho2
    obtain ⟨n2, hn2⟩ : ∃ n, (mag U).length = n := ⟨_, rfl⟩
    rw [hn2] at ho2 ⊢
    have hsz1 := hb1.size
    have hsz2 := hb2.size
    simp at hsz1
    have hb12 : Below (w.heap.size + 1) (w.alloc (.cells #[.bool false, .slice none 0 0] 24)) w2 := by
      have := hb1.trans (hb2.mono hb1.size)
      simpa using this
    have hk : Box.Holds w2 w.heap.size 24 #[.bool false, .slice none 0 0] := (Box.Holds.made w _ _).below hb12 (by omega)
    have k0 := hk.cell 0
    have k1 := hk.cell 1
    simp at k0 k1
    have f0 := hk.free 0
    have f1 := hk.free 1
    have hfin := Lib.hid (World.ownsRow.mono (Box.own_above ho2 (((Box.Above.refl _ _).setCell (p := ⟨w.heap.size, 0, none⟩) (by show w.heap.size < w1.heap.size; omega) (.bool true)).setCell (p := ⟨w.heap.size, 1, none⟩) (by show w.heap.size < w1.heap.size; omega) (.slice a2 n2 c2))) (show w.heap.size ≤ w1.heap.size by omega))
    have hbel : Below w.heap.size w w2 := ((Below.refl _ _).alloc (Nat.le_refl _) _).trans (hb12.mono (by omega))
    go_wp2
    exact bodyPost_ret (v := .agg #[.bool true, .slice a2 n2 c2]) (by simp [results, Tryz.results8, go_sem, k0, k1]) rfl ⟨⟨_, rfl, .slice a2 n2 c2, rfl, hfin.out, fun _ => hU0'.out⟩, (hbel.setCell (Nat.le_refl _) _).setCell (Nat.le_refl _) _⟩
  · have hd : decide (z < 0) = false := by simp [hz]
    have e1 : IntKind.u64.wrap z = U := by rw [IntKind.wrap_u64]; omega
    rw [hd]
    clear hU h1 h2 hUlt
    go_enter Tryz.func8, Tryz.ntmps8
    go_wp2_with fail
    refine (hby.out _).mono ?_
    rintro e w1 ⟨⟨v, rfl, ho⟩, hb1⟩
    obtain ⟨a, cap, rfl, hr, hc⟩ := Rd.of_own ho
    have hcn : a = none → cap = 0 := fun h => by
      subst h
      rcases hr with ⟨_, h0⟩ | ⟨x, h0, _⟩
      · have := bytes8_length U; rw [h0] at this; simp at this
      · cases h0
    rw [bytes8_length] at hc ⊢
    go_wp2_with fail
    refine (hof.out false a cap _ hr hc hcn).mono ?_
    rintro e w2 ⟨⟨v2, rfl, u2, rfl, ho2, hp2⟩, hb2⟩
    obtain ⟨a2, c2, rfl, hr2, hc2⟩ := Rd.of_own ho2
    obtain ⟨n2, hn2⟩ : ∃ n, (mag U).length = n := ⟨_, rfl⟩
    rw [hn2] at ho2 ⊢
    have hsz1 := hb1.size
    have hsz2 := hb2.size
    simp at hsz1
    have hb12 : Below (w.heap.size + 1) (w.alloc (.cells #[.bool false, .slice none 0 0] 24)) w2 := by
      have := hb1.trans (hb2.mono hb1.size)
      simpa using this
    have hk : Box.Holds w2 w.heap.size 24 #[.bool false, .slice none 0 0] := (Box.Holds.made w _ _).below hb12 (by omega)
    have k0 := hk.cell 0
    have k1 := hk.cell 1
    simp at k0 k1
    have f0 := hk.free 0
    have f1 := hk.free 1
    have hfin := Lib.hid (World.ownsRow.mono (Box.own_above ho2 (((Box.Above.refl _ _).setCell (p := ⟨w.heap.size, 0, none⟩) (by show w.heap.size < w1.heap.size; omega) (.bool false)).setCell (p := ⟨w.heap.size, 1, none⟩) (by show w.heap.size < w1.heap.size; omega) (.slice a2 n2 c2))) (show w.heap.size ≤ w1.heap.size by omega))
    have hbel : Below w.heap.size w w2 := ((Below.refl _ _).alloc (Nat.le_refl _) _).trans (hb12.mono (by omega))
    go_wp2
    exact bodyPost_ret (v := .agg #[.bool false, .slice a2 n2 c2]) (by simp [results, Tryz.results8, go_sem, k0, k1]) rfl ⟨⟨_, rfl, .slice a2 n2 c2, rfl, hfin.out, fun h => by cases h⟩, (hbel.setCell (Nat.le_refl _) _).setCell (Nat.le_refl _) _⟩
end Go.Proofs.YtpjkfdgkkpkljaaGreatDoor.Ref

namespace Go.Proofs.YtpjkfdgkkpkljaaGreatDoor.Ref
open Go.RowKit Go.WideShapes Go.Proofs.YtpjkfdgkkpkljaaGreatDoor.Own Go.Proofs.YtpjkfdgkkpkljaaGreatDoor.Num
set_option linter.unusedVariables false

theorem mag_pos (m : Nat) : 0 < (mag m).length ↔ 0 < m := by rw [mag_length]; exact len_pos (by omega)

set_option maxRecDepth 100000 in
theorem zero_any (x : Value) (neg : Bool) (m B : Nat) (w : World) (h : IsInt w B x neg m) (hm : (mag m).length ≤ 2147483647) :
    Calls Tryz.prog 7 #[x] w fun e w' => e = .returned (.bool (decide (m = 0))) ∧ ∃ o, w' = w.alloc o := by
  obtain ⟨u, rfl, ho, hpos⟩ := h
  obtain ⟨a, cap, rfl, hr, hc⟩ := Rd.of_own ho
  have hp := mag_pos m
  obtain ⟨n, hn⟩ : ∃ n, (mag m).length = n := ⟨_, rfl⟩
  rw [hn] at hm hc hp ⊢
  have k1 : (w.alloc (.cells #[.bool neg, .slice a n cap] 24)).cell? ⟨w.heap.size, 1, none⟩ = some (.slice a n cap) := by rw [World.cell?_alloc_at _ _ _ _ rfl]; rfl
  clear hn hr ho hpos
  by_cases h0 : m = 0
  · have hb : ((n : Int) == 0) = true := by simp; omega
    have hd : decide (m = 0) = true := by simp [h0]
    rw [hd]
    clear h0 hp hd
    go_enter Tryz.func7, Tryz.ntmps7
    go_wp2
    go_ret
    exact ⟨rfl, _, rfl⟩
  · have hb : ((n : Int) == 0) = false := by simp; omega
    have hd : decide (m = 0) = false := by simp [h0]
    rw [hd]
    clear h0 hp hd
    go_enter Tryz.func7, Tryz.ntmps7
    go_wp2
    go_ret
    exact ⟨rfl, _, rfl⟩

end Go.Proofs.YtpjkfdgkkpkljaaGreatDoor.Ref

namespace Go.Proofs.YtpjkfdgkkpkljaaGreatDoor.Ref
open Go.RowKit Go.WideShapes Go.Proofs.YtpjkfdgkkpkljaaGreatDoor.Own Go.Proofs.YtpjkfdgkkpkljaaGreatDoor.Num Go.Proofs.YtpjkfdgkkpkljaaGreatDoor.Nat_ Go.Proofs.YtpjkfdgkkpkljaaGreatDoor.Big
set_option linter.unusedVariables false

/-- the digits of a sum, a carry at a time -/
theorem add_carry8 (a b k c s : Nat) (hc : (a % 256 ^ k + b % 256 ^ k) / 256 ^ k = c) (hs : a / 256 ^ k % 256 + b / 256 ^ k % 256 + c = s) :
    (a + b) / 256 ^ k % 256 = s % 256 ∧ (a % 256 ^ (k + 1) + b % 256 ^ (k + 1)) / 256 ^ (k + 1) = s / 256 := by
  have hp : 0 < 256 ^ k := Nat.pow_pos (by omega)
  have ha : a % 256 ^ (k + 1) = a % 256 ^ k + 256 ^ k * (a / 256 ^ k % 256) := by rw [Nat.pow_succ, Nat.mod_mul]
  have hb : b % 256 ^ (k + 1) = b % 256 ^ k + 256 ^ k * (b / 256 ^ k % 256) := by rw [Nat.pow_succ, Nat.mod_mul]
  constructor
  · have h1 : (a + b) / 256 ^ k = a / 256 ^ k + b / 256 ^ k + c := by
      have ea := Nat.div_add_mod a (256 ^ k)
      have eb := Nat.div_add_mod b (256 ^ k)
      have : a + b = 256 ^ k * (a / 256 ^ k + b / 256 ^ k) + (a % 256 ^ k + b % 256 ^ k) := by rw [Nat.mul_add]; omega
      rw [this, Nat.mul_add_div hp, hc]
    rw [h1, ← hs]
    omega
  · rw [ha, hb, Nat.pow_succ, ← Nat.div_div_eq_div_mul]
    have : a % 256 ^ k + 256 ^ k * (a / 256 ^ k % 256) + (b % 256 ^ k + 256 ^ k * (b / 256 ^ k % 256)) = 256 ^ k * (a / 256 ^ k % 256 + b / 256 ^ k % 256) + (a % 256 ^ k + b % 256 ^ k) := by rw [Nat.mul_add]; omega
    rw [this, Nat.mul_add_div hp, hc, hs]
def car8 (u v k : Nat) : Nat := (u % 256 ^ k + v % 256 ^ k) / 256 ^ k
theorem car8_le (u v k : Nat) : car8 u v k ≤ 1 := by
  have hp : 0 < 256 ^ k := Nat.pow_pos (by omega)
  have h1 := Nat.mod_lt u hp
  have h2 := Nat.mod_lt v hp
  have : car8 u v k < 2 := (Nat.div_lt_iff_lt_mul hp).2 (by omega)
  omega
/-- the byte at a place of a row, one more digit written -/
theorem rev8_step (R N t D : Nat) (ht : t < N) (hD : R / 256 ^ t % 256 = D) : (bs (rev8 (R % 256 ^ t) N)).set (N - 1 - t) (.int .u8 (D : Int)) = bs (rev8 (R % 256 ^ (t + 1)) N) := by
  have hD2 : D < 256 := by rw [← hD]; exact Nat.mod_lt _ (by omega)
  rw [← rev8_set R N t D ht hD]
  unfold bs
  rw [List.map_set]
  congr 2
  simp; omega
theorem be_rev8 (R N : Nat) (h : R < 256 ^ N) : be (rev8 R N) = R := be_dig N R h

theorem mod_succ8 (a k : Nat) : a % 256 ^ (k + 1) = a % 256 ^ k + 256 ^ k * (a / 256 ^ k % 256) := by rw [Nat.pow_succ, Nat.mod_mul]
/-- the words of a difference, a borrow at a time -/
theorem sub_borrow8 (a b k : Nat) (hab : b ≤ a) :
    (a - b) / 256 ^ k % 256 = (a / 256 ^ k % 256 + 256 - b / 256 ^ k % 256 - (if a % 256 ^ k < b % 256 ^ k then 1 else 0)) % 256 := by
  have hp : 0 < 256 ^ k := Nat.pow_pos (by omega)
  obtain ⟨h1, h2, h3⟩ := sub_div a b (256 ^ k) _ _ _ _ hp rfl rfl rfl rfl hab
  rw [h3]
  obtain ⟨c, hc, hc1⟩ : ∃ c, (if a % 256 ^ k < b % 256 ^ k then 1 else 0) = c ∧ c ≤ 1 := by
    refine ⟨_, rfl, ?_⟩; split <;> omega
  rw [hc] at h1 ⊢
  obtain ⟨A, hA⟩ : ∃ A, a / 256 ^ k = A := ⟨_, rfl⟩
  obtain ⟨B, hB⟩ : ∃ B, b / 256 ^ k = B := ⟨_, rfl⟩
  rw [hA, hB] at h1 h2 ⊢
  clear hA hB h3 hc hp
  omega
/-- the next borrow -/
theorem borrow_next8 (a b k : Nat) : a % 256 ^ (k + 1) < b % 256 ^ (k + 1) ↔ (a / 256 ^ k % 256 < b / 256 ^ k % 256 + (if a % 256 ^ k < b % 256 ^ k then 1 else 0)) := by
  have hp : 0 < 256 ^ k := Nat.pow_pos (by omega)
  have ma := Nat.mod_lt a hp
  have mb := Nat.mod_lt b hp
  rw [mod_succ8, mod_succ8]
  obtain ⟨x, hx⟩ : ∃ x, a / 256 ^ k % 256 = x := ⟨_, rfl⟩
  obtain ⟨y, hy⟩ : ∃ y, b / 256 ^ k % 256 = y := ⟨_, rfl⟩
  rw [hx, hy]
  obtain ⟨ra, hra⟩ : ∃ r, a % 256 ^ k = r := ⟨_, rfl⟩
  obtain ⟨rb, hrb⟩ : ∃ r, b % 256 ^ k = r := ⟨_, rfl⟩
  rw [hra] at ma ⊢
  rw [hrb] at mb ⊢
  clear hx hy hra hrb
  rcases Nat.lt_trichotomy x y with h | h | h
  · have : 256 ^ k * x + 256 ^ k ≤ 256 ^ k * y := by rw [← Nat.mul_succ]; exact Nat.mul_le_mul_left _ h
    constructor
    · intro _; omega
    · intro _; omega
  · subst h
    split <;> omega
  · have : 256 ^ k * y + 256 ^ k ≤ 256 ^ k * x := by rw [← Nat.mul_succ]; exact Nat.mul_le_mul_left _ h
    constructor
    · intro _; omega
    · intro hh; split at hh <;> omega

def bor8 (u v k : Nat) : Nat := if u % 256 ^ k < v % 256 ^ k then 1 else 0
theorem bor8_le (u v k : Nat) : bor8 u v k ≤ 1 := by unfold bor8; split <;> omega
theorem bor8_step (u v k x y b : Nat) (h : v ≤ u) (hx : u / 256 ^ k % 256 = x) (hy : v / 256 ^ k % 256 = y) (hb : bor8 u v k = b) :
    (u - v) / 256 ^ k % 256 = (x + 256 - y - b) % 256 ∧ bor8 u v (k + 1) = if x < y + b then 1 else 0 := by
  subst hx hy hb
  refine ⟨sub_borrow8 u v k h, ?_⟩
  have hn := borrow_next8 u v k
  unfold bor8
  by_cases h1 : u % 256 ^ (k + 1) < v % 256 ^ (k + 1)
  · rw [if_pos h1, if_pos (hn.mp h1)]
  · rw [if_neg h1, if_neg (fun h2 => h1 (hn.mpr h2))]

set_option maxHeartbeats 2000000 in
set_option maxRecDepth 100000 in
theorem sum_any (a1 a2 : Option Addr) (c1 c2 : Nat) (l1 l2 : List UInt8) (w : World) (h1 : Rd w a1 l1) (h2 : Rd w a2 l2) (hl1 : l1.length ≤ 100000) (hl2 : l2.length ≤ 100000) (hc1 : l1.length ≤ c1) (hc2 : l2.length ≤ c2) :
    Calls Tryz.prog 23 #[.slice a1 l1.length c1, .slice a2 l2.length c2] w fun e w' => (∃ v, e = .returned v ∧ Owns w' w.heap.size v (mag (be l1 + be l2))) ∧ Below w.heap.size w w' := by
  have hd1 := Lib.hid fun (W : World) (h : Rd W a1 l1) i (hi : i ≤ 2147483647) => (digit_any a1 c1 l1 i W h (by omega) hi hc1).mono (fun e w' (h : _ ∧ W = w') => And.intro h.1 h.2.symm)
  have hd2 := Lib.hid fun (W : World) (h : Rd W a2 l2) i (hi : i ≤ 2147483647) => (digit_any a2 c2 l2 i W h (by omega) hi hc2).mono (fun e w' (h : _ ∧ W = w') => And.intro h.1 h.2.symm)
  obtain ⟨u, hu⟩ : ∃ u, be l1 = u := ⟨_, rfl⟩
  obtain ⟨v, hv⟩ : ∃ v, be l2 = v := ⟨_, rfl⟩
  have hum := be_lt l1
  have hvm := be_lt l2
  rw [hu] at hum ⊢
  rw [hv] at hvm ⊢
  unfold digitAt at hd1 hd2
  rw [hu] at hd1
  rw [hv] at hd2
  obtain ⟨m, hm⟩ : ∃ m, l1.length = m := ⟨_, rfl⟩
  obtain ⟨n, hn⟩ : ∃ n, l2.length = n := ⟨_, rfl⟩
  rw [hm] at hl1 hc1 hum hd1 ⊢
  rw [hn] at hl2 hc2 hvm hd2 ⊢
  obtain ⟨M, hM⟩ : ∃ M, max m n = M := ⟨_, rfl⟩
  obtain ⟨N, hN⟩ : ∃ N, M + 1 = N := ⟨_, rfl⟩
  have hmx : max (m : Int) (n : Int) + 1 = N := by omega
  have hrun := run_new8 N (by omega) w N rfl
  have hown := own_new8 N w.heap.size (by omega) w (Nat.le_refl _)
  have hb1 : Below w.heap.size w (w.alloc (.cells (bs (rev8 0 N)).toArray 5)) := below_one _ (Nat.le_refl _)
  have h1' := Lib.hid h1
  have h2' := Lib.hid h2
  have hR : u + v < 256 ^ N := by
    have e1 : 256 ^ m ≤ 256 ^ M := Nat.pow_le_pow_right (by decide) (by omega)
    have e2 : 256 ^ n ≤ 256 ^ M := Nat.pow_le_pow_right (by decide) (by omega)
    rw [← hN, Nat.pow_succ]
    omega
  have hst := Lib.hid (show (w.alloc (.cells (bs (rev8 0 N)).toArray 5)).ownsRow w.heap.size 5 1 (.slice (some ⟨w.heap.size, 0, none⟩) N N) N (bs (rev8 ((u + v) % 256 ^ 0) N)) ∧ Below w.heap.size w (w.alloc (.cells (bs (rev8 0 N)).toArray 5)) from
    ⟨by rw [Nat.pow_zero, Nat.mod_one]; exact hown, hb1⟩)
  have hR' := Lib.hid hR
  clear hown hb1 hum hvm hR hu hv hm hn hM h1 h2
  go_enter Tryz.func23, Tryz.ntmps23
  go_wp2
  have hcut := Lib.hid fun W (h : Rd W (some ⟨w.heap.size, 0, none⟩) (rev8 (u + v) N)) => cut_any (some ⟨w.heap.size, 0, none⟩) N (rev8 (u + v) N) W h (by rw [rev8_length]; omega) (by rw [rev8_length]; exact Nat.le_refl _) (fun h => by cases h)
  rw [rev8_length, be_rev8 _ _ hR'.out] at hcut
  go_loopw [7, 8] (fun c i wr => ∃ k : Nat, k ≤ N ∧ i = .int .i64 k ∧ c = .int .i64 ((car8 u v k : Nat) : Int) ∧ Hid (wr.ownsRow w.heap.size 5 1 (.slice (some ⟨w.heap.size, 0, none⟩) N N) N (bs (rev8 ((u + v) % 256 ^ k) N)) ∧ Below w.heap.size w wr)) (fun _ i _ => N - (intOf i).toNat)
  case atStart => exact ⟨0, by omega, rfl, by unfold car8; simp [Nat.mod_one], hst⟩
  case round =>
    clear hst
    obtain ⟨k, hk, rfl, rfl, hI⟩ := hrel
    have hc1' := car8_le u v k
    obtain ⟨c, hce⟩ : ∃ c, car8 u v k = c := ⟨_, rfl⟩
    rw [hce] at hc1' ⊢
    have hce' := Lib.hid hce
    clear hce
    by_cases hlt : k < N
    · obtain ⟨hown, hb⟩ := hI.out
      have e1 := Lib.hid (hd1.out wr (h1'.out.later hb) k (by omega))
      have e2 := Lib.hid (hd2.out wr (h2'.out.later hb) k (by omega))
      obtain ⟨x, hx⟩ : ∃ x, u / 256 ^ k % 256 = x := ⟨_, rfl⟩
      obtain ⟨y, hy⟩ : ∃ y, v / 256 ^ k % 256 = y := ⟨_, rfl⟩
      have hx9 : x < 256 := by rw [← hx]; exact Nat.mod_lt _ (by omega)
      have hy9 : y < 256 := by rw [← hy]; exact Nat.mod_lt _ (by omega)
      obtain ⟨s, hs⟩ : ∃ s, x + y + c = s := ⟨_, rfl⟩
      have hs' : (x : Int) + y + c = s := by omega
      obtain ⟨hdig, hcar⟩ := add_carry8 u v k c s hce'.out (by rw [hx, hy]; exact hs)
      rw [hx] at e1
      rw [hy] at e2
      obtain ⟨D, hD⟩ : ∃ D, s % 256 = D := ⟨_, rfl⟩
      obtain ⟨Q, hQ⟩ : ∃ Q, s / 256 = Q := ⟨_, rfl⟩
      have hD' : (s : Int) % 256 = D := by omega
      have hQ' : (s : Int) / 256 = Q := by omega
      have hD8 : IntKind.u8.wrap (D : Int) = D := by rw [IntKind.wrap_u8]; omega
      obtain ⟨I, hI'⟩ : ∃ I, N - 1 - k = I := ⟨_, rfl⟩
      have hIi : (N : Int) - 1 - k = I := by omega
      have hIN : I < N := by omega
      have hst := (World.ownsRow.stored hown I (.int .u8 (D : Int))).1
      rw [← hI', rev8_step (u + v) N k D hlt (by rw [hdig, hD]), hI'] at hst
      have hc0 := World.ownsRow.cellAt hown I (by omega)
      have hf0 := World.ownsRow.frozenAt hown I
      obtain ⟨cv, hcv⟩ : ∃ cv, (bs (rev8 ((u + v) % 256 ^ k) N))[I]? = some cv := ⟨_, List.getElem?_eq_getElem (by rw [bs_length, rev8_length]; omega)⟩
      rw [hcv] at hc0
      have hfin := Lib.hid (show _ ∧ _ from ⟨hst, (hb.setCell (Nat.le_refl _) _ : Below w.heap.size w (wr.setCell ⟨w.heap.size, I, none⟩ (.int .u8 (D : Int))))⟩)
      have hcar' : Hid (car8 u v (k + 1) = Q) := Lib.hid (hcar.trans hQ)
      clear hcv hx hy hs hD hQ hI' hst hown hb hI hdig hcar
      go_wp2_with fail
      refine e1.out.mono ?_
      rintro e w1 ⟨rfl, rfl⟩
      go_wp2_with fail
      refine e2.out.mono ?_
      rintro e w1 ⟨rfl, rfl⟩
      go_wp2
      go_roundw
      case rel => exact ⟨k + 1, by omega, by go_num, by rw [hcar'.out], hfin⟩
      case measure => simp [intOf]; omega
    · obtain rfl : k = N := by omega
      obtain ⟨hown, hb⟩ := hI.out
      rw [Nat.mod_eq_of_lt hR'.out] at hown
      have hrd := rd_drop hown (rev8_length _ _) (by
        rcases hown.2 with ⟨h, _⟩ | ⟨g', c', cells, h, _, hh, _⟩
        · cases h
        · cases h; exact (Array.getElem?_eq_some_iff.mp hh).1) 0 (Nat.zero_le _)
      have hct := Lib.hid (hcut.out wr hrd)
      have hb' := Lib.hid hb
      clear hI hown hb hrd hcut
      go_wp2_with fail
      refine hct.out.mono ?_
      rintro e w2 ⟨⟨v2, rfl, hv2⟩, hb2⟩
      go_wp2
      go_ret
      exact ⟨⟨_, rfl, World.ownsRow.mono hv2 hb'.out.size⟩, hb'.out.trans (hb2.mono hb'.out.size)⟩
set_option maxHeartbeats 2000000 in
set_option maxRecDepth 100000 in
theorem less_any (a1 a2 : Option Addr) (c1 c2 : Nat) (l1 l2 : List UInt8) (w : World) (h1 : Rd w a1 l1) (h2 : Rd w a2 l2) (hl1 : l1.length ≤ 100000) (hl2 : l2.length ≤ 100000) (hc1 : l1.length ≤ c1) (hc2 : l2.length ≤ c2) (hle : be l2 ≤ be l1) :
    Calls Tryz.prog 24 #[.slice a1 l1.length c1, .slice a2 l2.length c2] w fun e w' => (∃ v, e = .returned v ∧ Owns w' w.heap.size v (mag (be l1 - be l2))) ∧ Below w.heap.size w w' := by
  have hd1 := Lib.hid fun (W : World) (h : Rd W a1 l1) i (hi : i ≤ 2147483647) => (digit_any a1 c1 l1 i W h (by omega) hi hc1).mono (fun e w' (h : _ ∧ W = w') => And.intro h.1 h.2.symm)
  have hd2 := Lib.hid fun (W : World) (h : Rd W a2 l2) i (hi : i ≤ 2147483647) => (digit_any a2 c2 l2 i W h (by omega) hi hc2).mono (fun e w' (h : _ ∧ W = w') => And.intro h.1 h.2.symm)
  obtain ⟨u, hu⟩ : ∃ u, be l1 = u := ⟨_, rfl⟩
  obtain ⟨v, hv⟩ : ∃ v, be l2 = v := ⟨_, rfl⟩
  have hum := be_lt l1
  rw [hu] at hum hle ⊢
  rw [hv] at hle ⊢
  unfold digitAt at hd1 hd2
  rw [hu] at hd1
  rw [hv] at hd2
  obtain ⟨N, hm⟩ : ∃ N, l1.length = N := ⟨_, rfl⟩
  obtain ⟨n, hn⟩ : ∃ n, l2.length = n := ⟨_, rfl⟩
  rw [hm] at hl1 hc1 hum hd1 ⊢
  rw [hn] at hl2 hc2 hd2 ⊢
  have hrun := run_new8 N (by omega) w N rfl
  have hown := own_new8 N w.heap.size (by omega) w (Nat.le_refl _)
  have hb1 : Below w.heap.size w (w.alloc (.cells (bs (rev8 0 N)).toArray 5)) := below_one _ (Nat.le_refl _)
  have h1' := Lib.hid h1
  have h2' := Lib.hid h2
  have hR : u - v < 256 ^ N := Nat.lt_of_le_of_lt (Nat.sub_le _ _) hum
  have hst := Lib.hid (show (w.alloc (.cells (bs (rev8 0 N)).toArray 5)).ownsRow w.heap.size 5 1 (.slice (some ⟨w.heap.size, 0, none⟩) N N) N (bs (rev8 ((u - v) % 256 ^ 0) N)) ∧ Below w.heap.size w (w.alloc (.cells (bs (rev8 0 N)).toArray 5)) from
    ⟨by rw [Nat.pow_zero, Nat.mod_one]; exact hown, hb1⟩)
  have hR' := Lib.hid hR
  have hle' := Lib.hid hle
  clear hown hb1 hum hR hu hv hm hn h1 h2 hle
  go_enter Tryz.func24, Tryz.ntmps24
  go_wp2
  have hcut := Lib.hid fun W (h : Rd W (some ⟨w.heap.size, 0, none⟩) (rev8 (u - v) N)) => cut_any (some ⟨w.heap.size, 0, none⟩) N (rev8 (u - v) N) W h (by rw [rev8_length]; omega) (by rw [rev8_length]; exact Nat.le_refl _) (fun h => by cases h)
  rw [rev8_length, be_rev8 _ _ hR'.out] at hcut
  go_loopw [6, 7] (fun c i wr => ∃ k : Nat, k ≤ N ∧ i = .int .i64 k ∧ c = .int .i64 ((bor8 u v k : Nat) : Int) ∧ Hid (wr.ownsRow w.heap.size 5 1 (.slice (some ⟨w.heap.size, 0, none⟩) N N) N (bs (rev8 ((u - v) % 256 ^ k) N)) ∧ Below w.heap.size w wr)) (fun _ i _ => N - (intOf i).toNat)
  case atStart => exact ⟨0, by omega, rfl, by unfold bor8; simp [Nat.mod_one], hst⟩
  case round =>
    clear hst
    obtain ⟨k, hk, rfl, rfl, hI⟩ := hrel
    have hc1' := bor8_le u v k
    obtain ⟨c, hce⟩ : ∃ c, bor8 u v k = c := ⟨_, rfl⟩
    rw [hce] at hc1' ⊢
    have hce' := Lib.hid hce
    clear hce
    by_cases hlt : k < N
    · obtain ⟨hown, hb⟩ := hI.out
      have e1 := Lib.hid (hd1.out wr (h1'.out.later hb) k (by omega))
      have e2 := Lib.hid (hd2.out wr (h2'.out.later hb) k (by omega))
      obtain ⟨x, hx⟩ : ∃ x, u / 256 ^ k % 256 = x := ⟨_, rfl⟩
      obtain ⟨y, hy⟩ : ∃ y, v / 256 ^ k % 256 = y := ⟨_, rfl⟩
      have hx9 : x < 256 := by rw [← hx]; exact Nat.mod_lt _ (by omega)
      have hy9 : y < 256 := by rw [← hy]; exact Nat.mod_lt _ (by omega)
      obtain ⟨hdig, hcar⟩ := bor8_step u v k x y c hle'.out hx hy hce'.out
      rw [hx] at e1
      rw [hy] at e2
      obtain ⟨D, hD⟩ : ∃ D, (x + 256 - y - c) % 256 = D := ⟨_, rfl⟩
      obtain ⟨Q, hQ⟩ : ∃ Q : Nat, (if x < y + c then 1 else 0 : Nat) = Q := ⟨_, rfl⟩
      obtain ⟨I, hI'⟩ : ∃ I, N - 1 - k = I := ⟨_, rfl⟩
      have hIi : (N : Int) - 1 - k = I := by omega
      have hIN : I < N := by omega
      have hst := (World.ownsRow.stored hown I (.int .u8 (D : Int))).1
      rw [← hI', rev8_step (u - v) N k D hlt (by rw [hdig, hD]), hI'] at hst
      have hc0 := World.ownsRow.cellAt hown I (by omega)
      have hf0 := World.ownsRow.frozenAt hown I
      obtain ⟨cv, hcv⟩ : ∃ cv, (bs (rev8 ((u - v) % 256 ^ k) N))[I]? = some cv := ⟨_, List.getElem?_eq_getElem (by rw [bs_length, rev8_length]; omega)⟩
      rw [hcv] at hc0
      have hfin := Lib.hid (show _ ∧ _ from ⟨hst, (hb.setCell (Nat.le_refl _) _ : Below w.heap.size w (wr.setCell ⟨w.heap.size, I, none⟩ (.int .u8 (D : Int))))⟩)
      have hcar' : Hid (bor8 u v (k + 1) = Q) := Lib.hid (hcar.trans hQ)
      by_cases hneg : x < y + c
      · rw [if_pos hneg] at hQ
        subst hQ
        have hDe : (x : Int) - y - c + 256 = D := by omega
        have hD8 : IntKind.u8.wrap (D : Int) = D := by rw [IntKind.wrap_u8]; omega
        have hlt0 : (x : Int) - y - c < 0 := by omega
        clear hcv hx hy hD hI' hst hown hb hI hdig hcar
        go_wp2_with fail
        refine e1.out.mono ?_
        rintro e w1 ⟨rfl, rfl⟩
        go_wp2_with fail
        refine e2.out.mono ?_
        rintro e w1 ⟨rfl, rfl⟩
        go_wp2
        go_roundw
        case rel => exact ⟨k + 1, by omega, by go_num, by rw [hcar'.out]; rfl, hfin⟩
        case measure => simp [intOf]; omega
      · rw [if_neg hneg] at hQ
        subst hQ
        have hDe : (x : Int) - y - c = D := by omega
        have hD8 : IntKind.u8.wrap (D : Int) = D := by rw [IntKind.wrap_u8]; omega
        have hlt0 : ¬ ((D : Int) < 0) := by omega
        clear hcv hx hy hD hI' hst hown hb hI hdig hcar
        go_wp2_with fail
        refine e1.out.mono ?_
        rintro e w1 ⟨rfl, rfl⟩
        go_wp2_with fail
        refine e2.out.mono ?_
        rintro e w1 ⟨rfl, rfl⟩
        go_wp2
        go_roundw
        case rel => exact ⟨k + 1, by omega, by go_num, by rw [hcar'.out]; rfl, hfin⟩
        case measure => simp [intOf]; omega
    · obtain rfl : k = N := by omega
      obtain ⟨hown, hb⟩ := hI.out
      rw [Nat.mod_eq_of_lt hR'.out] at hown
      have hrd := rd_drop hown (rev8_length _ _) (by
        rcases hown.2 with ⟨h, _⟩ | ⟨g', c', cells, h, _, hh, _⟩
        · cases h
        · cases h; exact (Array.getElem?_eq_some_iff.mp hh).1) 0 (Nat.zero_le _)
      have hct := Lib.hid (hcut.out wr hrd)
      have hb' := Lib.hid hb
      clear hI hown hb hrd hcut
      go_wp2_with fail
      refine hct.out.mono ?_
      rintro e w2 ⟨⟨v2, rfl, hv2⟩, hb2⟩
      go_wp2
      go_ret
      exact ⟨⟨_, rfl, World.ownsRow.mono hv2 hb'.out.size⟩, hb'.out.trans (hb2.mono hb'.out.size)⟩
end Go.Proofs.YtpjkfdgkkpkljaaGreatDoor.Ref

namespace Go.Proofs.YtpjkfdgkkpkljaaGreatDoor.Ref
open Go.RowKit Go.WideShapes Go.Proofs.YtpjkfdgkkpkljaaGreatDoor.Own Go.Proofs.YtpjkfdgkkpkljaaGreatDoor.Num Go.Proofs.YtpjkfdgkkpkljaaGreatDoor.Nat_ Go.Proofs.YtpjkfdgkkpkljaaGreatDoor.Big
set_option linter.unusedVariables false

theorem sg_abs2 (neg : Bool) (V : Nat) : (sg neg V).natAbs = V := by unfold sg; cases neg <;> simp
/-- the reference's integer of a number -/
def IsZ (w : World) (B : Nat) (v : Value) (z : Int) : Prop := IsInt w B v (decide (z < 0)) z.natAbs
theorem IsInt.z {w : World} {B : Nat} {v : Value} {neg : Bool} {m : Nat} (h : IsInt w B v (neg && decide (0 < m)) m) : IsZ w B v (sg neg m) := by
  unfold IsZ
  rw [sg_abs2]
  have : decide (sg neg m < 0) = (neg && decide (0 < m)) := by unfold sg; cases neg <;> simp <;> omega
  rw [this]
  exact h
theorem IsZ.int {w : World} {B : Nat} {v : Value} {z : Int} (h : IsZ w B v z) : IsInt w B v (decide (z < 0)) z.natAbs := h
theorem IsInt.toZ {w : World} {B : Nat} {v : Value} {neg : Bool} {m : Nat} (h : IsInt w B v neg m) : IsZ w B v (sg neg m) := by
  refine IsInt.z ?_
  obtain ⟨u, h1, h2, h3⟩ := h
  have : (neg && decide (0 < m)) = neg := by cases neg; rfl; simp [h3 rfl]
  rw [this]
  exact ⟨u, h1, h2, h3⟩

theorem RdS_of_own {w : World} {B : Nat} {v : Value} {l : List UInt8} (h : Owns w B v l) : RdS w B v l := by
  obtain ⟨a, c, rfl, hr, hc⟩ := Rd.of_own h
  refine ⟨a, c, rfl, hr, hc, fun h0 => ?_, fun x hx => ?_⟩
  · rcases h.2 with ⟨e, _⟩ | ⟨g, c', cur, e, _⟩
    · simp only [Value.slice.injEq] at e; exact e.2.2
    · subst h0; cases e
  · rcases h.2 with ⟨e, _⟩ | ⟨g, c', cur, e, hB, hh, _⟩
    · subst hx; cases e
    · subst hx; cases e; exact ⟨hB, _, _, hh⟩
theorem IsInt.shape {w : World} {B : Nat} {v : Value} {neg : Bool} {m : Nat} (h : IsInt w B v neg m) : ∃ a c, v = .agg #[.bool neg, .slice a (mag m).length c] ∧ Rd w a (mag m) ∧ (mag m).length ≤ c ∧ (a = none → c = 0) := by
  obtain ⟨u, rfl, ho, hp⟩ := h
  obtain ⟨a, c, rfl, hr, hc, hn, -⟩ := RdS_of_own ho
  exact ⟨a, c, rfl, hr, hc, hn⟩
theorem IsInt.put2 {w : World} {B : Nat} {neg : Bool} {m : Nat} {x y : Value} (h : IsInt w B (.agg #[x, y]) neg m) {b : Nat} (hb : b < B) (u1 u2 : Value) : IsInt ((w.setCell ⟨b, 0, none⟩ u1).setCell ⟨b, 1, none⟩ u2) B (.agg #[x, y]) neg m := by
  obtain ⟨u, h1, h2, h3⟩ := h
  exact ⟨u, h1, Box.own_above h2 (((Box.Above.refl _ _).setCell (by exact hb) _).setCell (by exact hb) _), h3⟩
theorem cells4 {W : World} {b : Nat} {t1 t2 : TypeId} {x0 x1 y0 y1 : Value} (h1 : Box.Holds W b t1 #[x0, x1]) (h2 : Box.Holds W (b + 1) t2 #[y0, y1]) :
    W.cell? ⟨b, 0, none⟩ = some x0 ∧ W.cell? ⟨b, 1, none⟩ = some x1 ∧ W.cell? ⟨b + 1, 0, none⟩ = some y0 ∧ W.cell? ⟨b + 1, 1, none⟩ = some y1 := by
  have k0 := h1.cell 0
  have k1 := h1.cell 1
  have j0 := h2.cell 0
  have j1 := h2.cell 1
  simp at k0 k1 j0 j1
  exact ⟨k0, k1, j0, j1⟩
theorem sg_diff (X Y : Bool) (m1 m2 : Nat) (h : X ≠ Y) (hm : m2 ≤ m1) : sg X (m1 - m2) = sg X m1 + sg Y m2 := by
  unfold sg
  cases X <;> cases Y <;> simp at h ⊢ <;> omega
theorem keep4 {W : World} {b g : Nat} {x0 x1 y0 y1 u1 u2 : Value} (h : W.cell? ⟨b, 0, none⟩ = some x0 ∧ W.cell? ⟨b, 1, none⟩ = some x1 ∧ W.cell? ⟨b + 1, 0, none⟩ = some y0 ∧ W.cell? ⟨b + 1, 1, none⟩ = some y1) (h1 : g ≠ b) (h2 : g ≠ b + 1) :
    ((W.setCell ⟨g, 0, none⟩ u1).setCell ⟨g, 1, none⟩ u2).cell? ⟨b, 0, none⟩ = some x0 ∧ ((W.setCell ⟨g, 0, none⟩ u1).setCell ⟨g, 1, none⟩ u2).cell? ⟨b, 1, none⟩ = some x1 ∧
      ((W.setCell ⟨g, 0, none⟩ u1).setCell ⟨g, 1, none⟩ u2).cell? ⟨b + 1, 0, none⟩ = some y0 ∧ ((W.setCell ⟨g, 0, none⟩ u1).setCell ⟨g, 1, none⟩ u2).cell? ⟨b + 1, 1, none⟩ = some y1 := by
  have key : ∀ (c i : Nat), g ≠ c → ((W.setCell ⟨g, 0, none⟩ u1).setCell ⟨g, 1, none⟩ u2).cell? ⟨c, i, none⟩ = W.cell? ⟨c, i, none⟩ := fun c i hc => by
    rw [World.cell?_setCell_far _ _ _ _ hc, World.cell?_setCell_far _ _ _ _ hc]
  rw [key b 0 h1, key b 1 h1, key (b + 1) 0 h2, key (b + 1) 1 h2]
  exact h
/-- an integer that is stored into the result's own cells -/
theorem addEnd (w W : World) (v : Value) (N : Bool) (M B g : Nat) (hb : Below w.heap.size w W) (hk : Box.Holds W g 24 #[.bool false, .slice none 0 0]) (hg : w.heap.size ≤ g) (hgB : g < B) (hv : IsInt W B v N M) :
    ∃ a n c, v = .agg #[.bool N, .slice a n c] ∧ W.cell? ⟨g, 0, none⟩ = some (.bool false) ∧ W.cell? ⟨g, 1, none⟩ = some (.slice none 0 0) ∧ W.frozen? ⟨g, 0, none⟩ = false ∧ W.frozen? ⟨g, 1, none⟩ = false ∧ g < W.heap.size ∧
      IsInt ((W.setCell ⟨g, 0, none⟩ (.bool N)).setCell ⟨g, 1, none⟩ (.slice a n c)) w.heap.size (.agg #[.bool N, .slice a n c]) N M ∧ Below w.heap.size w ((W.setCell ⟨g, 0, none⟩ (.bool N)).setCell ⟨g, 1, none⟩ (.slice a n c)) := by
  obtain ⟨a, c, rfl, -, -, -⟩ := hv.shape
  have k0 := hk.cell 0
  have k1 := hk.cell 1
  simp at k0 k1
  exact ⟨a, _, c, rfl, k0, k1, hk.free 0, hk.free 1, hk.lt, (hv.put2 hgB _ _).mono (by omega), (hb.setCell (p := ⟨g, 0, none⟩) hg _).setCell (p := ⟨g, 1, none⟩) hg _⟩
theorem mag_len_add (a b : Nat) (ha : (mag a).length ≤ 50000) (hb : (mag b).length ≤ 50000) : (mag (a + b)).length ≤ 100000 := by
  rw [mag_length] at *
  have h1 := len_lt (b := 256) (by omega) a
  have h2 := len_lt (b := 256) (by omega) b
  refine Nat.le_trans (len_le (b := 256) (by omega) (n := max (len 256 a) (len 256 b) + 1) ?_) (by omega)
  have e1 : 256 ^ len 256 a ≤ 256 ^ max (len 256 a) (len 256 b) := Nat.pow_le_pow_right (by decide) (by omega)
  have e2 : 256 ^ len 256 b ≤ 256 ^ max (len 256 a) (len 256 b) := Nat.pow_le_pow_right (by decide) (by omega)
  rw [Nat.pow_succ]
  omega
theorem mag_len_mono {a b : Nat} (h : a ≤ b) : (mag a).length ≤ (mag b).length := by
  rw [mag_length, mag_length]
  exact len_mono (by omega) h
end Go.Proofs.YtpjkfdgkkpkljaaGreatDoor.Ref

namespace Go.Proofs.YtpjkfdgkkpkljaaGreatDoor.Ref
open Go.RowKit Go.WideShapes Go.Proofs.YtpjkfdgkkpkljaaGreatDoor.Own Go.Proofs.YtpjkfdgkkpkljaaGreatDoor.Num Go.Proofs.YtpjkfdgkkpkljaaGreatDoor.Nat_ Go.Proofs.YtpjkfdgkkpkljaaGreatDoor.Big
set_option linter.unusedVariables false

theorem pow256 (j : Nat) : (256 : Nat) ^ j = 2 ^ (8 * j) := by rw [show (256 : Nat) = 2 ^ 8 by rfl, ← Nat.pow_mul]
theorem pow_split (m : Nat) : (2 : Nat) ^ m = 256 ^ (m / 8) * 2 ^ (m % 8) := by
  rw [pow256, ← Nat.pow_add]
  congr 1
  omega
/-- the bit at a place of a row -/
theorem bit_row (u m : Nat) : u / 256 ^ (m / 8) % 256 / 2 ^ (m % 8) % 2 = u / 2 ^ m % 2 := by
  rw [pow_split m, ← Nat.div_div_eq_div_mul]
  obtain ⟨A, hA⟩ : ∃ A, u / 256 ^ (m / 8) = A := ⟨_, rfl⟩
  rw [hA]
  have h8 : m % 8 < 8 := Nat.mod_lt _ (by omega)
  obtain ⟨s, hs⟩ : ∃ s, m % 8 = s := ⟨_, rfl⟩
  rw [hs] at h8 ⊢
  clear hs hA
  rcases s with _ | _ | _ | _ | _ | _ | _ | _ | s
  all_goals first | omega | (simp only [Nat.reducePow, Nat.reduceAdd]; omega)
theorem byte_up (q s D : Nat) (hs : s < 8) (hD : 2 * q * 2 ^ s % 256 = D) : D ||| 2 ^ s = D + 2 ^ s ∧ D + 2 ^ s < 256 ∧ (2 * q + 1) * 2 ^ s % 256 = D + 2 ^ s ∧ (2 * q + 1) * 2 ^ s / 256 = 2 * q * 2 ^ s / 256 := by
  have key : ∃ e, D = 2 ^ (s + 1) * e := by
    rcases s with _ | _ | _ | _ | _ | _ | _ | _ | s
    all_goals first | omega | (simp only [Nat.reducePow, Nat.reduceAdd] at *; first | exact ⟨D / 2, by omega⟩ | exact ⟨D / 4, by omega⟩ | exact ⟨D / 8, by omega⟩ | exact ⟨D / 16, by omega⟩ | exact ⟨D / 32, by omega⟩ | exact ⟨D / 64, by omega⟩ | exact ⟨D / 128, by omega⟩ | exact ⟨D / 256, by omega⟩)
  obtain ⟨e, he⟩ := key
  refine ⟨by rw [he]; exact (Nat.two_pow_add_eq_or_of_lt (Nat.pow_lt_pow_right (by decide) (Nat.lt_succ_self s)) e).symm, ?_⟩
  clear he
  rcases s with _ | _ | _ | _ | _ | _ | _ | _ | s
  all_goals first | omega | (simp only [Nat.reducePow, Nat.reduceAdd] at *; omega)
/-- a bit set in a row of bytes -/
theorem rev8_bit (q m N D : Nat) (hm : m < 8 * N) (hD : 2 * q * 2 ^ m / 256 ^ (m / 8) % 256 = D) :
    D ||| 2 ^ (m % 8) = D + 2 ^ (m % 8) ∧ D + 2 ^ (m % 8) < 256 ∧ (bs (rev8 (2 * q * 2 ^ m) N)).set (N - 1 - m / 8) (.int .u8 ((D + 2 ^ (m % 8) : Nat) : Int)) = bs (rev8 ((2 * q + 1) * 2 ^ m) N) := by
  obtain ⟨j, hj⟩ : ∃ j, m / 8 = j := ⟨_, rfl⟩
  obtain ⟨s, hs⟩ : ∃ s, m % 8 = s := ⟨_, rfl⟩
  have h8 : s < 8 := by omega
  have hjN : j < N := by omega
  have hp := pow_split m
  rw [hj, hs] at hp
  rw [hj] at hD ⊢
  rw [hs]
  have e1 : ∀ x, x * 2 ^ m = x * 2 ^ s * 256 ^ j := fun x => by rw [hp, Nat.mul_comm (256 ^ j), Nat.mul_assoc]
  have hpos : 0 < 256 ^ j := Nat.pow_pos (by omega)
  rw [e1, Nat.mul_div_cancel _ hpos] at hD
  obtain ⟨k1, k2, k3, k4⟩ := byte_up q s D h8 hD
  refine ⟨k1, k2, ?_⟩
  have e : rev8 ((2 * q + 1) * 2 ^ m) N = (rev8 (2 * q * 2 ^ m) N).set (N - 1 - j) (UInt8.ofNat (D + 2 ^ s)) := by
    apply List.ext_getElem?
    intro i
    rw [List.getElem?_set, rev8_length]
    by_cases hi : i < N
    · rw [rev8_get _ _ _ hi, rev8_get _ _ _ hi]
      by_cases hij : N - 1 - j = i
      · rw [if_pos hij, if_pos (by omega), show N - 1 - i = j by omega, e1, Nat.mul_div_cancel _ hpos, k3]
      · rw [if_neg hij]
        congr 2
        obtain ⟨t, ht⟩ : ∃ t, N - 1 - i = t := ⟨_, rfl⟩
        rw [ht, e1, e1]
        rcases Nat.lt_or_ge t j with h | h
        · have e2 : ∀ x, x * 256 ^ j / 256 ^ t % 256 = 0 := fun x => by
            rw [show j = t + (1 + (j - t - 1)) by omega, Nat.pow_add, Nat.mul_comm (256 ^ t), ← Nat.mul_assoc, Nat.mul_div_cancel _ (Nat.pow_pos (by omega)), Nat.pow_add, Nat.pow_one, Nat.mul_comm 256, ← Nat.mul_assoc, Nat.mul_mod_left]
          rw [e2, e2]
        · have e2 : ∀ x, x * 256 ^ j / 256 ^ t = x / 256 / 256 ^ (t - j - 1) := fun x => by
            rw [show 256 ^ t = 256 ^ j * 256 * 256 ^ (t - j - 1) by rw [← Nat.pow_succ, ← Nat.pow_add]; congr 1; omega, ← Nat.div_div_eq_div_mul, ← Nat.div_div_eq_div_mul, Nat.mul_div_cancel _ hpos]
          rw [e2, e2, k4]
    · have n1 : (rev8 ((2 * q + 1) * 2 ^ m) N)[i]? = none := List.getElem?_eq_none (by rw [rev8_length]; omega)
      have n2 : (rev8 (2 * q * 2 ^ m) N)[i]? = none := List.getElem?_eq_none (by rw [rev8_length]; omega)
      rw [n1, n2, if_neg (by omega)]
  rw [e]
  unfold bs
  rw [List.map_set]
  obtain ⟨P, hP⟩ : ∃ P, D + 2 ^ s = P := ⟨_, rfl⟩
  rw [hP] at k2 ⊢
  congr 2
  simp
  omega
/-- the quotient and rest, one bit on -/
theorem split_step (u v m q R b : Nat) (hv : 0 < v) (hq : u / 2 ^ (m + 1) / v = q) (hR : u / 2 ^ (m + 1) % v = R) (hb : u / 2 ^ m % 2 = b) :
    R < v ∧ (2 * R + b < v → u / 2 ^ m / v = 2 * q ∧ u / 2 ^ m % v = 2 * R + b) ∧ (v ≤ 2 * R + b → u / 2 ^ m / v = 2 * q + 1 ∧ u / 2 ^ m % v = 2 * R + b - v) := by
  have h1 : u / 2 ^ (m + 1) = u / 2 ^ m / 2 := by rw [Nat.pow_succ, Nat.div_div_eq_div_mul]
  obtain ⟨A, hA⟩ : ∃ A, u / 2 ^ m = A := ⟨_, rfl⟩
  rw [h1, hA] at hq hR
  rw [hA] at hb ⊢
  have e1 := Nat.div_add_mod (A / 2) v
  have e2 := Nat.mod_lt (A / 2) hv
  rw [hq, hR] at e1
  rw [hR] at e2
  have e3 : A = 2 * (v * q + R) + b := by omega
  have hb2 : b < 2 := by omega
  have c1 : v * (2 * q) = 2 * (v * q) := by rw [← Nat.mul_assoc, Nat.mul_comm v 2, Nat.mul_assoc]
  refine ⟨e2, fun h => ?_, fun h => ?_⟩
  · have := (Nat.div_mod_unique (a := A) (b := v) (c := 2 * R + b) (d := 2 * q) hv).2 ⟨by rw [c1]; omega, h⟩
    exact this
  · have := (Nat.div_mod_unique (a := A) (b := v) (c := 2 * R + b - v) (d := 2 * q + 1) hv).2 ⟨by rw [Nat.mul_succ, c1]; omega, by omega⟩
    exact this

theorem i64_and1 (n : Int) : bits .and .i64 n 1 = n % 2 := by
  have h127 : (BitVec.ofInt 64 1).toNat = 2 ^ 1 - 1 := by decide
  have key : (BitVec.ofInt 64 n &&& BitVec.ofInt 64 1).toNat = (n % ((2 ^ 64 : Nat) : Int)).toNat % 2 ^ 1 := by
    rw [BitVec.toNat_and, BitVec.toNat_ofInt, h127, Nat.and_two_pow_sub_one_eq_mod]
  show IntKind.i64.wrap ((BitVec.ofInt 64 n &&& BitVec.ofInt 64 1).toNat : Nat) = n % 2
  rw [key, IntKind.wrap_i64]
  omega

set_option maxRecDepth 100000 in
theorem bit_any (a : Option Addr) (cap : Nat) (l : List UInt8) (i : Nat) (w : World) (h : Rd w a l) (hl : l.length ≤ 100000) (hi : i ≤ 1000000) (hc : l.length ≤ cap) :
    Calls Tryz.prog 38 #[.slice a l.length cap, .int .i64 i] w fun e w' => e = .returned (.int .i64 ((be l / 2 ^ i % 2 : Nat) : Int)) ∧ w' = w := by
  have hd := Lib.hid (digit_any a cap l (i / 8) w h (by omega) (by omega) hc)
  rw [← bit_row (be l) i]
  unfold digitAt at hd
  obtain ⟨D, hD⟩ : ∃ D, be l / 256 ^ (i / 8) % 256 = D := ⟨_, rfl⟩
  have hD8 : D < 256 := by rw [← hD]; exact Nat.mod_lt _ (by omega)
  rw [hD] at hd ⊢
  obtain ⟨j, hj⟩ : ∃ j, i / 8 = j := ⟨_, rfl⟩
  obtain ⟨s, hs⟩ : ∃ s, i % 8 = s := ⟨_, rfl⟩
  have hs8 : s < 8 := by omega
  have hji : (i : Int) / 8 = j := by omega
  have hsi : (i : Int) % 8 = s := by omega
  rw [hj] at hd
  rw [hs]
  obtain ⟨n, hn⟩ : ∃ n, l.length = n := ⟨_, rfl⟩
  rw [hn] at hd ⊢
  clear hD hj hs hn h
  go_enter Tryz.func38, Tryz.ntmps38
  go_wp2_with (go_at_call 40; refine hd.out.mono ?_; rintro e w2 ⟨rfl, rfl⟩)
  rw [i64_and1]
  go_ret
  exact ⟨by go_num, rfl⟩

theorem sum_own {W : World} {B1 B2 : Nat} {x y : Value} {X Y : Nat} (hx : Owns W B1 x (mag X)) (hy : Owns W B2 y (mag Y)) (hX : len 256 X ≤ 2000) (hY : len 256 Y ≤ 2000) :
    Calls Tryz.prog 23 #[x, y] W fun e w' => (∃ v, e = .returned v ∧ Owns w' W.heap.size v (mag (X + Y))) ∧ Below W.heap.size W w' := by
  obtain ⟨a1, c1, rfl, h1, hc1⟩ := Rd.of_own hx
  obtain ⟨a2, c2, rfl, h2, hc2⟩ := Rd.of_own hy
  have := sum_any a1 a2 c1 c2 (mag X) (mag Y) W h1 h2 (by rw [mag_length]; omega) (by rw [mag_length]; omega) hc1 hc2
  rw [be_mag, be_mag] at this
  exact this
theorem less_own {W : World} {B1 : Nat} {x : Value} {X Y : Nat} {a2 : Option Addr} {c2 : Nat} (hx : Owns W B1 x (mag X)) (h2 : Rd W a2 (mag Y)) (hc2 : (mag Y).length ≤ c2) (hX : len 256 X ≤ 2000) (hY : len 256 Y ≤ 2000) (h : Y ≤ X) :
    Calls Tryz.prog 24 #[x, .slice a2 (mag Y).length c2] W fun e w' => (∃ v, e = .returned v ∧ Owns w' W.heap.size v (mag (X - Y))) ∧ Below W.heap.size W w' := by
  obtain ⟨a1, c1, rfl, h1, hc1⟩ := Rd.of_own hx
  have := less_any a1 a2 c1 c2 (mag X) (mag Y) W h1 h2 (by rw [mag_length]; omega) (by rw [mag_length]; omega) hc1 hc2 (by rw [be_mag, be_mag]; exact h)
  rw [be_mag, be_mag] at this
  exact this
theorem order_own {W : World} {B1 : Nat} {x : Value} {X Y : Nat} {a2 : Option Addr} {c2 : Nat} (hx : Owns W B1 x (mag X)) (h2 : Rd W a2 (mag Y)) (hc2 : (mag Y).length ≤ c2) (hX : len 256 X ≤ 2000) (hY : len 256 Y ≤ 2000) :
    Calls Tryz.prog 39 #[x, .slice a2 (mag Y).length c2] W fun e w' => e = .returned (.int .i64 (cmpN X Y)) ∧ Below W.heap.size W w' := by
  obtain ⟨a1, c1, rfl, h1, hc1⟩ := Rd.of_own hx
  exact order_any a1 a2 c1 c2 X Y W h1 h2 (by rw [mag_length]; omega) (by rw [mag_length]; omega) hc1 hc2
theorem shl_u8' (r : Nat) (h : r < 8) : IntKind.u8.wrap (2 ^ r) = ((2 ^ r : Nat) : Int) := by
  have : ∀ r : Fin 8, IntKind.u8.wrap (2 ^ r.val) = ((2 ^ r.val : Nat) : Int) := by decide
  exact this ⟨r, h⟩
theorem own_one (W : World) : Owns (W.alloc (.cells #[.int .u8 1] 5)) W.heap.size (.slice (some ⟨W.heap.size, 0, none⟩) 1 1) (mag 1) := by
  have := World.ownsRow_lit (base := W.heap.size) (e := 5) (size := 1) W #[.int .u8 1] 1 (Nat.le_refl _) (by decide) (by simp)
  exact this
theorem cmpN_ge {X Y : Nat} (h : Y ≤ X) : 0 ≤ cmpN X Y := by unfold cmpN; split; omega; split <;> omega
theorem cmpN_not {X Y : Nat} (h : X < Y) : ¬ 0 ≤ cmpN X Y := by unfold cmpN; rw [if_pos h]; omega

set_option maxHeartbeats 2000000 in
set_option maxRecDepth 100000 in
theorem split_any (a1 a2 : Option Addr) (c1 c2 : Nat) (l : List UInt8) (v : Nat) (w : World) (h1 : Rd w a1 l) (h2 : Rd w a2 (mag v)) (hl : l.length ≤ 1000) (hlv : len 256 v ≤ 1000) (hc1 : l.length ≤ c1) (hc2 : (mag v).length ≤ c2) (hv : 0 < v) :
    Calls Tryz.prog 22 #[.slice a1 l.length c1, .slice a2 (mag v).length c2] w fun e w' => (∃ q r, e = .returned (.tuple #[q, r]) ∧ Owns w' w.heap.size q (mag (be l / v)) ∧ Owns w' w.heap.size r (mag (be l % v))) ∧ Below w.heap.size w w' := by
  have hbit := Lib.hid fun (W : World) (hW : Below w.heap.size w W) i (hi : i ≤ 1000000) => bit_any a1 c1 l i W (h1.later hW) (by omega) hi hc1
  have hord := Lib.hid fun (W : World) B x X (hW : Below w.heap.size w W) (hx : Owns W B x (mag X)) hX => order_own (Y := v) (a2 := a2) (c2 := c2) hx (h2.later hW) hc2 hX (by omega)
  have hless := Lib.hid fun (W : World) B x X (hW : Below w.heap.size w W) (hx : Owns W B x (mag X)) hX hXv => less_own (Y := v) (a2 := a2) (c2 := c2) hx (h2.later hW) hc2 hX (by omega) hXv
  obtain ⟨u, hu⟩ : ∃ u, be l = u := ⟨_, rfl⟩
  have hul := be_lt l
  rw [hu] at hul hbit ⊢
  obtain ⟨N, hN⟩ : ∃ N, l.length = N := ⟨_, rfl⟩
  rw [hN] at hl hul hbit ⊢
  obtain ⟨nv, hnv⟩ : ∃ n, (mag v).length = n := ⟨_, rfl⟩
  rw [hnv] at hord hless ⊢
  have hvl := len_lt (b := 256) (by omega) v
  obtain ⟨lv, hlv'⟩ : ∃ n, len 256 v = n := ⟨_, rfl⟩
  rw [hlv'] at hvl hlv
  have hX := Lib.hid (show ∀ X, X < 2 * v → len 256 X ≤ 2000 from fun X h => by
    have : X < 256 ^ (lv + 1) := by rw [Nat.pow_succ]; omega
    have := len_le (b := 256) (by omega) this
    omega)
  have hv' := Lib.hid hv
  have hu' := Lib.hid hul
  have hrun := run_new8 N (by omega) w N rfl
  obtain ⟨wq, hwq⟩ : ∃ wq, w.alloc (.cells (bs (rev8 0 N)).toArray 5) = wq := ⟨_, rfl⟩
  have hown : wq.ownsRow w.heap.size 5 1 (.slice (some ⟨w.heap.size, 0, none⟩) N N) N (bs (rev8 0 N)) := by rw [← hwq]; exact own_new8 N w.heap.size (by omega) w (Nat.le_refl _)
  have hbq : Below w.heap.size w wq := by rw [← hwq]; exact below_one _ (Nat.le_refl _)
  have hsq : wq.heap.size = w.heap.size + 1 := by rw [← hwq]; simp
  rw [hwq] at hrun
  have hstart := Lib.hid (show Owns (wq.alloc (.cells #[] 5)) w.heap.size (.slice (some ⟨w.heap.size + 1, 0, none⟩) 0 0) (mag (u / 2 ^ (8 * N) % v)) ∧ (wq.alloc (.cells #[] 5)).ownsRow w.heap.size 5 1 (.slice (some ⟨w.heap.size, 0, none⟩) N N) N (bs (rev8 (u / 2 ^ (8 * N) / v * 2 ^ (8 * N)) N)) ∧ Below w.heap.size w (wq.alloc (.cells #[] 5)) from by
    rw [pow256] at hul
    rw [Nat.div_eq_of_lt hul, Nat.zero_mod, Nat.zero_div, Nat.zero_mul]
    rw [← hsq]
    exact ⟨World.ownsRow.mono (owns_empty wq) hbq.size, own_below hown (below_one _ (Nat.le_refl _)), hbq.trans ((below_one _ (Nat.le_refl _)).mono hbq.size)⟩)
  clear hwq hown hbq hul hu hN hnv hvl hlv' hlv h1 h2 hv
  go_enter Tryz.func22, Tryz.ntmps22
  go_wp2
  have hcut := Lib.hid fun W (h : Rd W (some ⟨w.heap.size, 0, none⟩) (rev8 (u / v) N)) => cut_any (some ⟨w.heap.size, 0, none⟩) N (rev8 (u / v) N) W h (by rw [rev8_length]; omega) (by rw [rev8_length]; exact Nat.le_refl _) (fun h => by cases h)
  rw [rev8_length] at hcut
  go_loopw [7, 8] (fun r i wr => ∃ (k : Nat) (I : Int), k ≤ 8 * N ∧ I + 1 = k ∧ i = .int .i64 I ∧ Hid (Owns wr w.heap.size r (mag (u / 2 ^ k % v)) ∧ wr.ownsRow w.heap.size 5 1 (.slice (some ⟨w.heap.size, 0, none⟩) N N) N (bs (rev8 (u / 2 ^ k / v * 2 ^ k) N)) ∧ Below w.heap.size w wr)) (fun _ i _ => (intOf i + 1).toNat)
  case atStart => exact ⟨8 * N, 8 * (N : Int) - 1, Nat.le_refl _, by omega, rfl, hstart⟩
  case round =>
    clear hstart
    obtain ⟨k, I0, hk, hI0, rfl, hI⟩ := hrel
    rcases k with _ | m
    · obtain rfl : I0 = -1 := by omega
      obtain ⟨hown, hrow, hb⟩ := hI.out
      rw [Nat.pow_zero, Nat.div_one] at hown hrow
      rw [Nat.mul_one] at hrow
      have hrd := rd_drop hrow (rev8_length _ _) (by
        rcases hrow.2 with ⟨h, _⟩ | ⟨g', c', cells, h, _, hh, _⟩
        · cases h
        · cases h; exact (Array.getElem?_eq_some_iff.mp hh).1) 0 (Nat.zero_le _)
      have hct := hcut.out wr hrd
      rw [be_rev8 _ _ (Nat.lt_of_le_of_lt (Nat.div_le_self _ _) hu'.out)] at hct
      have hct' := Lib.hid hct
      have hb' := Lib.hid hb
      have hown' := Lib.hid hown
      clear hI hown hrow hb hrd hcut hct
      go_wp2_with fail
      refine hct'.out.mono ?_
      rintro e w2 ⟨⟨v2, rfl, hv2⟩, hb2⟩
      have hfin := Lib.hid (show Owns w2 w.heap.size v2 (mag (u / v)) ∧ Owns w2 w.heap.size u7 (mag (u % v)) ∧ Below w.heap.size w w2 from ⟨World.ownsRow.mono hv2 hb'.out.size, hown'.out.later hb2, hb'.out.trans (hb2.mono hb'.out.size)⟩)
      clear hv2 hb2 hb' hown' hct'
      go_wp2
      refine bodyPost_ret (results_tmp2 rfl _ _ _) rfl ?_
      exact ⟨⟨_, _, rfl, hfin.out.1, hfin.out.2.1⟩, hfin.out.2.2⟩
    · obtain rfl : I0 = m := by omega
      obtain ⟨hown, hrow, hb⟩ := hI.out
      obtain ⟨q, hq⟩ : ∃ q, u / 2 ^ (m + 1) / v = q := ⟨_, rfl⟩
      obtain ⟨R, hR⟩ : ∃ R, u / 2 ^ (m + 1) % v = R := ⟨_, rfl⟩
      obtain ⟨b, hbb⟩ : ∃ b, u / 2 ^ m % 2 = b := ⟨_, rfl⟩
      have hb2 : b = 0 ∨ b = 1 := by omega
      have hstep0 := split_step u v m q R b hv'.out hq hR hbb
      have hRv := hstep0.1
      rw [hR] at hown
      rw [hq, show q * 2 ^ (m + 1) = 2 * q * 2 ^ m by rw [Nat.pow_succ, Nat.mul_comm 2 q, Nat.mul_assoc, Nat.mul_comm 2]] at hrow
      obtain ⟨D, hD⟩ : ∃ D, 2 * q * 2 ^ m / 256 ^ (m / 8) % 256 = D := ⟨_, rfl⟩
      have hD8 : D < 256 := by rw [← hD]; exact Nat.mod_lt _ (by omega)
      obtain ⟨d1, d2, d3⟩ := rev8_bit q m N D (by omega) hD
      have hsh := shl_u8' (m % 8) (by omega)
      obtain ⟨j, hj⟩ : ∃ j, m / 8 = j := ⟨_, rfl⟩
      obtain ⟨s, hs⟩ : ∃ s, m % 8 = s := ⟨_, rfl⟩
      have hji : (m : Int) / 8 = j := by omega
      have hsi : (m : Int) % 8 = s := by omega
      have hs8 : s < 8 := by omega
      rw [hs] at d1 d2 d3 hsh
      obtain ⟨P, hP⟩ : ∃ P, 2 ^ s = P := ⟨_, rfl⟩
      rw [hP] at d1 d2 d3 hsh
      have hor : bits BinOp.or IntKind.u8 (D : Int) (P : Int) = ((D + P : Nat) : Int) := by rw [u8_or_nat D P (by omega) (by omega), d1]
      have hbyte0 : (bs (rev8 (2 * q * 2 ^ m) N))[N - 1 - m / 8]? = some (.int .u8 (D : Int)) := by
        unfold bs
        rw [List.getElem?_map, rev8_get _ _ _ (by omega), show N - 1 - (N - 1 - m / 8) = m / 8 by omega, hD]
        simp
        omega
      rw [hj] at d3 hbyte0
      have hjN : j < N := by omega
      obtain ⟨I, hI'⟩ : ∃ I, N - 1 - j = I := ⟨_, rfl⟩
      rw [hI'] at d3 hbyte0
      have hIi : (N : Int) - 1 - j = I := by omega
      have hIN : I < N := by omega
      have hset := Lib.hid d3
      have hbyte := Lib.hid hbyte0
      have hstep := Lib.hid hstep0
      have hs0 := Lib.hid (sum_own hown hown (hX.out R (by omega)) (hX.out R (by omega)))
      have hown' := Lib.hid hown
      have hrow' := Lib.hid hrow
      have hb' := Lib.hid hb
      clear hI hown hrow hb hD d3 hbyte0 hq hR hj hs hP hI' d1 hstep0
      go_wp2_with fail
      refine hs0.out.mono ?_
      rintro e w2 ⟨⟨v2, rfl, hv2⟩, hb2'⟩
      have hb02 := Lib.hid (hb'.out.trans (hb2'.mono hb'.out.size))
      have hx2 := Lib.hid (show Owns w2 w.heap.size v2 (mag (R + R)) from World.ownsRow.mono hv2 hb'.out.size)
      have hrow2 := Lib.hid (own_below hrow'.out hb2')
      have hbt := hbit.out w2 hb02.out m (by omega)
      rw [hbb] at hbt
      have hbt' := Lib.hid hbt
      clear hv2 hb2' hs0 hown' hrow' hb' hbb hbt
      go_wp2_with fail
      refine hbt'.out.mono ?_
      rintro e w2 ⟨rfl, rfl⟩
      rcases hb2 with rfl | rfl
      · obtain ⟨X, hXe⟩ : ∃ X, R + R = X := ⟨_, rfl⟩
        have hX2 : X < 2 * v := by omega
        have hbx := hb02
        have hx := hx2
        have hrowx := hrow2
        rw [hXe] at hx
        clear hb02 hx2 hrow2 hbt'
        go_wp2_with fail
        refine (hord.out _ _ _ X hbx.out hx.out (hX.out _ hX2)).mono ?_
        rintro e w6 ⟨rfl, hb6⟩
        by_cases hge : v ≤ X
        · have hcmp := cmpN_ge hge
          obtain ⟨σ, hσ⟩ : ∃ σ, cmpN X v = σ := ⟨_, rfl⟩
          rw [hσ] at hcmp ⊢
          have hb06 := Lib.hid (hbx.out.trans (hb6.mono hbx.out.size))
          have hx6 := Lib.hid (hx.out.later hb6)
          have hrow6 := Lib.hid (own_below hrowx.out hb6)
          obtain ⟨hq1, hr1⟩ := hstep.out.2.2 (by omega)
          have hlt6 : w.heap.size < w6.heap.size := World.block_lt_of_cell? w6 _ (World.ownsRow.cellAt hrow6.out I (by omega) |>.trans hbyte.out)
          have hq1' := Lib.hid hq1
          have hr1' := Lib.hid hr1
          have hless' := Lib.hid (hless.out _ _ _ X hb06.out hx6.out (hX.out _ hX2) hge)
          clear hb6 hx hbx hrowx hσ hq1 hr1 hge
          go_wp2_with fail
          refine hless'.out.mono ?_
          rintro e w7 ⟨⟨x7, rfl, hx7⟩, hb7⟩
          have hb07 := hb06.out.trans (hb7.mono hb06.out.size)
          have hrow7 := own_below hrow6.out hb7
          have hc0 := (World.ownsRow.cellAt hrow7 I (by omega)).trans hbyte.out
          have hf0 := World.ownsRow.frozenAt hrow7 I
          have hst := (World.ownsRow.stored hrow7 I (.int .u8 ((D + P : Nat) : Int))).1
          rw [hset.out] at hst
          have hfin := Lib.hid (show Owns (w7.setCell ⟨w.heap.size, I, none⟩ (.int .u8 ((D + P : Nat) : Int))) w.heap.size x7 (mag (u / 2 ^ m % v)) ∧ (w7.setCell ⟨w.heap.size, I, none⟩ (.int .u8 ((D + P : Nat) : Int))).ownsRow w.heap.size 5 1 (.slice (some ⟨w.heap.size, 0, none⟩) N N) N (bs (rev8 (u / 2 ^ m / v * 2 ^ m) N)) ∧ Below w.heap.size w (w7.setCell ⟨w.heap.size, I, none⟩ (.int .u8 ((D + P : Nat) : Int))) from
            ⟨by rw [hr1'.out, show 2 * R + 0 - v = X - v by omega]; exact World.ownsRow.mono (ownsRow_setCell_below hx7 (a := ⟨w.heap.size, I, none⟩) hlt6 _) (by omega), by rw [hq1'.out]; exact hst, hb07.setCell (Nat.le_refl _) _⟩)
          clear hx7 hb7 hb07 hrow7 hrow6 hx6 hst hq1' hr1' hstep hset hbyte hb06 hless'
          go_wp2
          go_roundw
          case rel => exact ⟨m, (m : Int) - 1, by omega, by omega, by go_num, hfin⟩
          case measure => simp [intOf]
        · have hcmp := cmpN_not (Nat.lt_of_not_le hge)
          obtain ⟨σ, hσ⟩ : ∃ σ, cmpN X v = σ := ⟨_, rfl⟩
          rw [hσ] at hcmp ⊢
          obtain ⟨hq1, hr1⟩ := hstep.out.2.1 (by omega)
          have hfin := Lib.hid (show Owns w6 w.heap.size v2 (mag (u / 2 ^ m % v)) ∧ w6.ownsRow w.heap.size 5 1 (.slice (some ⟨w.heap.size, 0, none⟩) N N) N (bs (rev8 (u / 2 ^ m / v * 2 ^ m) N)) ∧ Below w.heap.size w w6 from
            ⟨by rw [hr1, show 2 * R + 0 = X by omega]; exact hx.out.later hb6, by rw [hq1]; exact own_below hrowx.out hb6, hbx.out.trans (hb6.mono hbx.out.size)⟩)
          clear hb6 hx hbx hrowx hσ hstep hset hbyte hq1 hr1 hge
          go_wp2
          go_roundw
          case rel => exact ⟨m, (m : Int) - 1, by omega, by omega, by go_num, hfin⟩
          case measure => simp [intOf]

      · have hw3 : Hid (Below w2.heap.size w2 (w2.alloc (.cells #[.int .u8 1] 5)) ∧ Owns (w2.alloc (.cells #[.int .u8 1] 5)) w2.heap.size (.slice (some ⟨w2.heap.size, 0, none⟩) 1 1) (mag 1)) := Lib.hid ⟨below_one _ (Nat.le_refl _), own_one w2⟩
        have hs1 := Lib.hid (sum_own (hx2.out.later hw3.out.1) hw3.out.2 (hX.out (R + R) (by omega)) (by decide))
        clear hbt'
        go_wp2_with fail
        refine hs1.out.mono ?_
        rintro e w5 ⟨⟨v5, rfl, hv5⟩, hb5⟩
        obtain ⟨X, hXe⟩ : ∃ X, R + R + 1 = X := ⟨_, rfl⟩
        have hX2 : X < 2 * v := by omega
        have hb03 := hb02.out.trans (hw3.out.1.mono hb02.out.size)
        have hbx := Lib.hid (hb03.trans (hb5.mono hb03.size))
        have hx := Lib.hid (show Owns w5 w.heap.size v5 (mag (R + R + 1)) from World.ownsRow.mono hv5 hb03.size)
        have hrowx := Lib.hid (own_below (own_below hrow2.out hw3.out.1) hb5)
        rw [hXe] at hx
        clear hb02 hx2 hrow2 hw3 hs1 hv5 hb5 hb03
        go_wp2_with fail
        refine (hord.out _ _ _ X hbx.out hx.out (hX.out _ hX2)).mono ?_
        rintro e w6 ⟨rfl, hb6⟩
        by_cases hge : v ≤ X
        · have hcmp := cmpN_ge hge
          obtain ⟨σ, hσ⟩ : ∃ σ, cmpN X v = σ := ⟨_, rfl⟩
          rw [hσ] at hcmp ⊢
          have hb06 := Lib.hid (hbx.out.trans (hb6.mono hbx.out.size))
          have hx6 := Lib.hid (hx.out.later hb6)
          have hrow6 := Lib.hid (own_below hrowx.out hb6)
          obtain ⟨hq1, hr1⟩ := hstep.out.2.2 (by omega)
          have hlt6 : w.heap.size < w6.heap.size := World.block_lt_of_cell? w6 _ (World.ownsRow.cellAt hrow6.out I (by omega) |>.trans hbyte.out)
          have hq1' := Lib.hid hq1
          have hr1' := Lib.hid hr1
          have hless' := Lib.hid (hless.out _ _ _ X hb06.out hx6.out (hX.out _ hX2) hge)
          clear hb6 hx hbx hrowx hσ hq1 hr1 hge
          go_wp2_with fail
          refine hless'.out.mono ?_
          rintro e w7 ⟨⟨x7, rfl, hx7⟩, hb7⟩
          have hb07 := hb06.out.trans (hb7.mono hb06.out.size)
          have hrow7 := own_below hrow6.out hb7
          have hc0 := (World.ownsRow.cellAt hrow7 I (by omega)).trans hbyte.out
          have hf0 := World.ownsRow.frozenAt hrow7 I
          have hst := (World.ownsRow.stored hrow7 I (.int .u8 ((D + P : Nat) : Int))).1
          rw [hset.out] at hst
          have hfin := Lib.hid (show Owns (w7.setCell ⟨w.heap.size, I, none⟩ (.int .u8 ((D + P : Nat) : Int))) w.heap.size x7 (mag (u / 2 ^ m % v)) ∧ (w7.setCell ⟨w.heap.size, I, none⟩ (.int .u8 ((D + P : Nat) : Int))).ownsRow w.heap.size 5 1 (.slice (some ⟨w.heap.size, 0, none⟩) N N) N (bs (rev8 (u / 2 ^ m / v * 2 ^ m) N)) ∧ Below w.heap.size w (w7.setCell ⟨w.heap.size, I, none⟩ (.int .u8 ((D + P : Nat) : Int))) from
            ⟨by rw [hr1'.out, show 2 * R + 1 - v = X - v by omega]; exact World.ownsRow.mono (ownsRow_setCell_below hx7 (a := ⟨w.heap.size, I, none⟩) hlt6 _) (by omega), by rw [hq1'.out]; exact hst, hb07.setCell (Nat.le_refl _) _⟩)
          clear hx7 hb7 hb07 hrow7 hrow6 hx6 hst hq1' hr1' hstep hset hbyte hb06 hless'
          go_wp2
          go_roundw
          case rel => exact ⟨m, (m : Int) - 1, by omega, by omega, by go_num, hfin⟩
          case measure => simp [intOf]
        · have hcmp := cmpN_not (Nat.lt_of_not_le hge)
          obtain ⟨σ, hσ⟩ : ∃ σ, cmpN X v = σ := ⟨_, rfl⟩
          rw [hσ] at hcmp ⊢
          obtain ⟨hq1, hr1⟩ := hstep.out.2.1 (by omega)
          have hfin := Lib.hid (show Owns w6 w.heap.size v5 (mag (u / 2 ^ m % v)) ∧ w6.ownsRow w.heap.size 5 1 (.slice (some ⟨w.heap.size, 0, none⟩) N N) N (bs (rev8 (u / 2 ^ m / v * 2 ^ m) N)) ∧ Below w.heap.size w w6 from
            ⟨by rw [hr1, show 2 * R + 1 = X by omega]; exact hx.out.later hb6, by rw [hq1]; exact own_below hrowx.out hb6, hbx.out.trans (hb6.mono hbx.out.size)⟩)
          clear hb6 hx hbx hrowx hσ hstep hset hbyte hq1 hr1 hge
          go_wp2
          go_roundw
          case rel => exact ⟨m, (m : Int) - 1, by omega, by omega, by go_num, hfin⟩
          case measure => simp [intOf]
end Go.Proofs.YtpjkfdgkkpkljaaGreatDoor.Ref

namespace Go.Proofs.YtpjkfdgkkpkljaaGreatDoor.Ref
open Go.RowKit Go.WideShapes Go.Proofs.YtpjkfdgkkpkljaaGreatDoor.Own Go.Proofs.YtpjkfdgkkpkljaaGreatDoor.Num Go.Proofs.YtpjkfdgkkpkljaaGreatDoor.Nat_ Go.Proofs.YtpjkfdgkkpkljaaGreatDoor.Big
set_option linter.unusedVariables false

theorem of_own {W : World} {B M : Nat} {x : Value} (b : Bool) (hx : Owns W B x (mag M)) (hM : len 256 M ≤ 2000) :
    Calls Tryz.prog 20 #[.bool b, x] W fun e w' => (∃ v, e = .returned v ∧ IsInt w' W.heap.size v (b && decide (0 < M)) M) ∧ Below W.heap.size W w' := by
  obtain ⟨a, c, rfl, hr, hc, hn, -⟩ := RdS_of_own hx
  have := of_any b a c (mag M) W hr (by rw [mag_length]; omega) hc hn
  rw [be_mag] at this
  exact this
theorem less_rd {W : World} {B1 : Nat} {x : Value} {X Y : Nat} {a2 : Option Addr} {c2 : Nat} (hx : Owns W B1 x (mag Y)) (h2 : Rd W a2 (mag X)) (hc2 : (mag X).length ≤ c2) (hX : len 256 X ≤ 2000) (hY : len 256 Y ≤ 2000) (h : Y ≤ X) :
    Calls Tryz.prog 24 #[.slice a2 (mag X).length c2, x] W fun e w' => (∃ v, e = .returned v ∧ Owns w' W.heap.size v (mag (X - Y))) ∧ Below W.heap.size W w' := by
  obtain ⟨a1, c1, rfl, h1, hc1⟩ := Rd.of_own hx
  have := less_any a2 a1 c2 c1 (mag X) (mag Y) W h2 h1 (by rw [mag_length]; omega) (by rw [mag_length]; omega) hc2 hc1 (by rw [be_mag, be_mag]; exact h)
  rw [be_mag, be_mag] at this
  exact this
/-- two integers that are stored into the results' own cells -/
theorem floorEnd (w W : World) (v4 v5 : Value) (N4 N5 : Bool) (M4 M5 B4 B5 g : Nat) (hb : Below w.heap.size w W) (hk4 : Box.Holds W g 24 #[.bool false, .slice none 0 0]) (hk5 : Box.Holds W (g + 1) 24 #[.bool false, .slice none 0 0]) (hg : w.heap.size ≤ g) (hgB4 : g + 1 < B4) (hgB5 : g + 1 < B5) (hv4 : IsInt W B4 v4 N4 M4) (hv5 : IsInt W B5 v5 N5 M5) :
    ∃ a n c a' n' c', v4 = .agg #[.bool N4, .slice a n c] ∧ v5 = .agg #[.bool N5, .slice a' n' c'] ∧ W.cell? ⟨g, 0, none⟩ = some (.bool false) ∧ W.cell? ⟨g, 1, none⟩ = some (.slice none 0 0) ∧ W.frozen? ⟨g, 0, none⟩ = false ∧ W.frozen? ⟨g, 1, none⟩ = false ∧ g < W.heap.size ∧
      W.cell? ⟨g + 1, 0, none⟩ = some (.bool false) ∧ W.cell? ⟨g + 1, 1, none⟩ = some (.slice none 0 0) ∧ W.frozen? ⟨g + 1, 0, none⟩ = false ∧ W.frozen? ⟨g + 1, 1, none⟩ = false ∧ g + 1 < W.heap.size ∧
      IsInt ((((W.setCell ⟨g, 0, none⟩ (.bool N4)).setCell ⟨g, 1, none⟩ (.slice a n c)).setCell ⟨g + 1, 0, none⟩ (.bool N5)).setCell ⟨g + 1, 1, none⟩ (.slice a' n' c')) w.heap.size (.agg #[.bool N4, .slice a n c]) N4 M4 ∧ Below w.heap.size w ((((W.setCell ⟨g, 0, none⟩ (.bool N4)).setCell ⟨g, 1, none⟩ (.slice a n c)).setCell ⟨g + 1, 0, none⟩ (.bool N5)).setCell ⟨g + 1, 1, none⟩ (.slice a' n' c')) := by
  obtain ⟨a, c, rfl, -, -, -⟩ := hv4.shape
  obtain ⟨a', c', rfl, -, -, -⟩ := hv5.shape
  have k0 := hk4.cell 0
  have k1 := hk4.cell 1
  have k2 := hk5.cell 0
  have k3 := hk5.cell 1
  simp at k0 k1 k2 k3
  exact ⟨a, _, c, a', _, c', rfl, rfl, k0, k1, hk4.free 0, hk4.free 1, hk4.lt, k2, k3, hk5.free 0, hk5.free 1, hk5.lt, ((hv4.put2 (b := g) (by omega) _ _).put2 (b := g + 1) hgB4 _ _).mono (by omega),
    (((hb.setCell (p := ⟨g, 0, none⟩) hg _).setCell (p := ⟨g, 1, none⟩) hg _).setCell (p := ⟨g + 1, 0, none⟩) (Nat.le_succ_of_le hg) _).setCell (p := ⟨g + 1, 1, none⟩) (Nat.le_succ_of_le hg) _⟩
theorem keepY {W : World} {b g h : Nat} {y0 y1 u1 u2 u3 u4 : Value} (hy : W.cell? ⟨b, 0, none⟩ = some y0 ∧ W.cell? ⟨b, 1, none⟩ = some y1) (h1 : g ≠ b) (h2 : h ≠ b) :
    ((W.setCell ⟨g, 0, none⟩ u1).setCell ⟨g, 1, none⟩ u2).cell? ⟨b, 0, none⟩ = some y0 ∧ ((W.setCell ⟨g, 0, none⟩ u1).setCell ⟨g, 1, none⟩ u2).cell? ⟨b, 1, none⟩ = some y1 ∧
      ((((W.setCell ⟨g, 0, none⟩ u1).setCell ⟨g, 1, none⟩ u2).setCell ⟨h, 0, none⟩ u3).setCell ⟨h, 1, none⟩ u4).cell? ⟨b, 0, none⟩ = some y0 ∧ ((((W.setCell ⟨g, 0, none⟩ u1).setCell ⟨g, 1, none⟩ u2).setCell ⟨h, 0, none⟩ u3).setCell ⟨h, 1, none⟩ u4).cell? ⟨b, 1, none⟩ = some y1 := by
  refine ⟨?_, ?_, ?_, ?_⟩
  · rw [World.cell?_setCell_far _ _ _ _ h1, World.cell?_setCell_far _ _ _ _ h1]; exact hy.1
  · rw [World.cell?_setCell_far _ _ _ _ h1, World.cell?_setCell_far _ _ _ _ h1]; exact hy.2
  · rw [World.cell?_setCell_far _ _ _ _ h2, World.cell?_setCell_far _ _ _ _ h2, World.cell?_setCell_far _ _ _ _ h1, World.cell?_setCell_far _ _ _ _ h1]; exact hy.1
  · rw [World.cell?_setCell_far _ _ _ _ h2, World.cell?_setCell_far _ _ _ _ h2, World.cell?_setCell_far _ _ _ _ h1, World.cell?_setCell_far _ _ _ _ h1]; exact hy.2

set_option maxHeartbeats 2000000 in
set_option maxRecDepth 100000 in
theorem floor_any (x y : Value) (X Y : Bool) (m1 m2 : Nat) (B1 B2 : Nat) (w : World) (hx : IsInt w B1 x X m1) (hy : IsInt w B2 y Y m2) (hl1 : len 256 m1 ≤ 1000) (hl2 : len 256 m2 ≤ 1000) (hm2 : 0 < m2) :
    Calls Tryz.prog 10 #[x, y] w fun e w' => (∃ q r N M, e = .returned (.tuple #[q, r]) ∧ IsInt w' w.heap.size q N M ∧ sg N M = (if X = Y then ((m1 / m2 : Nat) : Int) else if m1 % m2 = 0 then -((m1 / m2 : Nat) : Int) else -((m1 / m2 + 1 : Nat) : Int)) ∧ ∃ b a n c, r = .agg #[.bool b, .slice a n c]) ∧ Below w.heap.size w w' := by
  obtain ⟨a1, c1, rfl, hr1, hc1, ha1⟩ := hx.shape
  obtain ⟨a2, c2, rfl, hr2, hc2, ha2⟩ := hy.shape
  have hsplit := Lib.hid fun W (hW : Below w.heap.size w W) => split_any a1 a2 c1 c2 (mag m1) m2 W (hr1.later hW) (hr2.later hW) (by rw [mag_length]; exact hl1) hl2 hc1 hc2 hm2
  simp only [be_mag] at hsplit
  have hless := Lib.hid fun W B u M (hW : Below w.heap.size w W) (hu : Owns W B u (mag M)) (hM : len 256 M ≤ 2000) (h : M ≤ m2) => less_rd (X := m2) (a2 := a2) (c2 := c2) hu (hr2.later hW) hc2 (by omega) hM h
  obtain ⟨Q, hQ⟩ : ∃ Q, m1 / m2 = Q := ⟨_, rfl⟩
  obtain ⟨R, hR⟩ : ∃ R, m1 % m2 = R := ⟨_, rfl⟩
  have hRm : R < m2 := by rw [← hR]; exact Nat.mod_lt _ hm2
  have hQl : len 256 Q ≤ 1000 := Nat.le_trans (len_mono (by omega) (by rw [← hQ]; exact Nat.div_le_self _ _)) hl1
  have hRl : len 256 R ≤ 1000 := Nat.le_trans (len_mono (by omega) (Nat.le_of_lt hRm)) hl2
  have hQl1 : len 256 (Q + 1) ≤ 2000 := by
    have h1 := len_lt (b := 256) (by omega) Q
    obtain ⟨k, hk⟩ : ∃ k, len 256 Q = k := ⟨_, rfl⟩
    rw [hk] at h1 hQl
    have h2 : Q + 1 < 256 ^ (k + 1) := by
      have := Nat.pow_pos (a := 256) (n := k) (by omega)
      rw [Nat.pow_succ]
      omega
    have := len_le (b := 256) (by omega) h2
    omega
  have hDl : len 256 (m2 - R) ≤ 1000 := Nat.le_trans (len_mono (by omega) (Nat.sub_le _ _)) hl2
  rw [hQ, hR] at hsplit ⊢
  have hRz := mag_length R
  have hR0 : len 256 R = 0 ↔ R = 0 := by
    constructor
    · intro h
      rcases Nat.eq_zero_or_pos R with h0 | h0
      · exact h0
      · have := len_pos (b := 256) (by omega) (v := R); omega
    · rintro rfl; rfl
  obtain ⟨n1, hn1⟩ : ∃ n, (mag m1).length = n := ⟨_, rfl⟩
  obtain ⟨n2, hn2⟩ : ∃ n, (mag m2).length = n := ⟨_, rfl⟩
  rw [hn1, hn2] at hsplit
  rw [hn2] at hless
  rw [hn1, hn2]
  obtain ⟨w1, hw1⟩ : ∃ w1, (((w.alloc (.cells #[.bool X, .slice a1 n1 c1] 24)).alloc (.cells #[.bool Y, .slice a2 n2 c2] 24)).alloc (.cells #[.bool false, .slice none 0 0] 24)).alloc (.cells #[.bool false, .slice none 0 0] 24) = w1 := ⟨_, rfl⟩
  have hs1 : w1.heap.size = w.heap.size + 4 := by rw [← hw1]; simp
  have hb1 : Below w.heap.size w w1 := by rw [← hw1]; exact (((below_one _ (Nat.le_refl _)).alloc (by simp) _).alloc (by simp; omega) _).alloc (by simp; omega) _
  have hk1 : Box.Holds w1 w.heap.size 24 #[.bool X, .slice a1 n1 c1] := by
    rw [← hw1]; exact (((Box.Holds.made w 24 #[.bool X, .slice a1 n1 c1]).alloc _).alloc _).alloc _
  have hk2 : Box.Holds w1 (w.heap.size + 1) 24 #[.bool Y, .slice a2 n2 c2] := by
    have := ((Box.Holds.made (w.alloc (.cells #[.bool X, .slice a1 n1 c1] 24)) 24 #[.bool Y, .slice a2 n2 c2]).alloc (.cells #[.bool false, .slice none 0 0] 24)).alloc (.cells #[.bool false, .slice none 0 0] 24)
    rw [show (w.alloc (.cells #[.bool X, .slice a1 n1 c1] 24)).heap.size = w.heap.size + 1 by simp, hw1] at this
    exact this
  have hk3 : Box.Holds w1 (w.heap.size + 1 + 1) 24 #[.bool false, .slice none 0 0] := by
    have := (Box.Holds.made ((w.alloc (.cells #[.bool X, .slice a1 n1 c1] 24)).alloc (.cells #[.bool Y, .slice a2 n2 c2] 24)) 24 #[.bool false, .slice none 0 0]).alloc (.cells #[.bool false, .slice none 0 0] 24)
    rw [show ((w.alloc (.cells #[.bool X, .slice a1 n1 c1] 24)).alloc (.cells #[.bool Y, .slice a2 n2 c2] 24)).heap.size = w.heap.size + 1 + 1 by simp, hw1] at this
    exact this
  have hk4 : Box.Holds w1 (w.heap.size + 1 + 1 + 1) 24 #[.bool false, .slice none 0 0] := by
    have := Box.Holds.made (((w.alloc (.cells #[.bool X, .slice a1 n1 c1] 24)).alloc (.cells #[.bool Y, .slice a2 n2 c2] 24)).alloc (.cells #[.bool false, .slice none 0 0] 24)) 24 #[.bool false, .slice none 0 0]
    rw [show (((w.alloc (.cells #[.bool X, .slice a1 n1 c1] 24)).alloc (.cells #[.bool Y, .slice a2 n2 c2] 24)).alloc (.cells #[.bool false, .slice none 0 0] 24)).heap.size = w.heap.size + 1 + 1 + 1 by simp, hw1] at this
    exact this
  have hkx := Lib.hid fun W (hW : Below w1.heap.size w1 W) => cells4 (hk1.later hW) (hk2.later hW)
  have hky := Lib.hid fun W (hW : Below w1.heap.size w1 W) => And.intro (cells4 (hk1.later hW) (hk2.later hW)).2.2.1 (cells4 (hk1.later hW) (hk2.later hW)).2.2.2
  have hbw := Lib.hid fun W (hW : Below w1.heap.size w1 W) => hb1.trans (hW.mono hb1.size)
  have hend := Lib.hid fun W v4 v5 N4 N5 M4 M5 B4 B5 (hW : Below w1.heap.size w1 W) (hB4 : w1.heap.size ≤ B4) (hB5 : w1.heap.size ≤ B5) (hv4 : IsInt W B4 v4 N4 M4) (hv5 : IsInt W B5 v5 N5 M5) => floorEnd w W v4 v5 N4 N5 M4 M5 B4 B5 (w.heap.size + 1 + 1) (hb1.trans (hW.mono hb1.size)) (hk3.later hW) (hk4.later hW) (by omega) (by omega) (by omega) hv4 hv5
  have hw1' := Lib.hid hw1
  have hof := Lib.hid fun W B M u b (hu : Owns W B u (mag M)) (hM : len 256 M ≤ 2000) => of_own b hu hM
  obtain ⟨Z, hZ⟩ : ∃ Z, (if X = Y then ((Q : Nat) : Int) else if R = 0 then -((Q : Nat) : Int) else -((Q + 1 : Nat) : Int)) = Z := ⟨_, rfl⟩
  rw [hZ]
  have hZ' := Lib.hid hZ
  have j1 := hkx.out w1 (Below.refl _ _)
  obtain ⟨jx0, jx1, jy0, jy1⟩ := j1
  clear hx hy hr1 hr2 hQ hR hn1 hn2 hw1 hb1 hk1 hk2 hk3 hk4 hZ
  by_cases hXY : X = Y
  · subst hXY
    go_enter Tryz.func10, Tryz.ntmps10
    go_wp2_with fail
    rw [hw1'.out]
    refine (hsplit.out _ (hbw.out _ (Below.refl _ _))).mono ?_
    rintro e w2 ⟨⟨q, r, rfl, hq, hr⟩, hb2⟩
    obtain ⟨jx0, jx1, jy0, jy1⟩ := hkx.out w2 hb2
    have hb2' := Lib.hid hb2
    have hq' := Lib.hid hq
    have hr' := Lib.hid hr
    clear hb2 hq hr
    go_wp2_with fail
    have hd0 := Lib.hid (Box.below_drawn (Below.refl w2.heap.size w2) 1)
    have hqd := Lib.hid (hq'.out.later hd0.out)
    have hsz2 := hb2'.out.size
    have hb2d := Lib.hid (hb2'.out.trans (hd0.out.mono hb2'.out.size))
    have j2 := hky.out w2.drew hb2d.out
    have hN : (false && decide (0 < Q)) = false := rfl
    go_region_held3 (fun W => W.cell? ⟨w.heap.size + 1, 0, none⟩ = some (.bool X) ∧ W.cell? ⟨w.heap.size + 1, 1, none⟩ = some (.slice a2 n2 c2))
      (first | go_keep | exact j2 | exact j3 | exact j4 | exact ⟨(j5 _ _ _ _).1, (j5 _ _ _ _).2.1⟩ | exact ⟨(j5 _ _ _ _).2.2.1, (j5 _ _ _ _).2.2.2⟩)
      (first
        | (go_at_call 20; have hgo := hv3; refine (hof.out w3 _ R r X (hr'.out.later hb23) (by omega)).mono ?_; rintro e w4 ⟨⟨v4, rfl, hv4⟩, hb4⟩; have hb04 := hb03.trans (hb4.mono hb03.size); have j4 := hky.out w4 hb04; have j5 := fun u1 u2 u3 u4 => keepY (g := w.heap.size + 1 + 1) (h := w.heap.size + 1 + 1 + 1) (u1 := u1) (u2 := u2) (u3 := u3) (u4 := u4) j4 (by omega) (by omega); obtain ⟨a3, n3, c3, a4, n4, c4, rfl, rfl, k0, k1, f0, f1, hlt, k2, k3, f2, f3, hlt', hfin⟩ := hend.out w4 v3 v4 _ _ _ _ _ _ hb04 hb2d.out.size hb03.size (hv3.later hb4) hv4; have hfin' := Lib.hid hfin; clear hfin hv4 hv3 hgo)
        | (go_at_call 20; refine (hof.out w2.drew _ Q q false hqd.out (by omega)).mono ?_; rintro e w3 ⟨⟨v3, rfl, hv3⟩, hb3⟩; have hb23 := hd0.out.trans (hb3.mono hd0.out.size); have hb03 := hb2'.out.trans (hb23.mono hb2'.out.size); have j3 := hky.out w3 hb03))
    obtain ⟨N4, hN4⟩ : ∃ N, (X && decide (0 < R)) = N := ⟨_, rfl⟩
    rw [hN4] at hfin' ⊢
    clear hN4 j2 j3 j4 j5 hb3 hb4 hb03 hb04 hb23
    go_wp2
    refine bodyPost_ret (v := .tuple #[.agg #[.bool false, .slice a3 n3 c3], .agg #[.bool N4, .slice a4 n4 c4]]) (by simp [results, Tryz.results10, go_sem, k0, k1, k2, k3]) rfl ?_
    exact ⟨⟨_, _, _, _, rfl, hfin'.out.1, by rw [← hZ'.out, if_pos trivial]; rfl, _, _, _, _, rfl⟩, hfin'.out.2⟩
  · have hXY1 : (X == Y) = false := by simp [hXY]
    by_cases hR00 : R = 0
    · have hn3 : (mag R).length = 0 := by rw [hRz]; exact hR0.2 hR00
      go_enter Tryz.func10, Tryz.ntmps10
      go_wp2_with fail
      rw [hw1'.out]
      refine (hsplit.out _ (hbw.out _ (Below.refl _ _))).mono ?_
      rintro e w2 ⟨⟨q, r, rfl, hq, hr⟩, hb2⟩
      obtain ⟨jx0, jx1, jy0, jy1⟩ := hkx.out w2 hb2
      obtain ⟨ar, cr, rfl, -, -⟩ := Rd.of_own hr
      rw [hn3]
      have hb2' := Lib.hid hb2
      have hq' := Lib.hid (hof.out w2 _ Q q true hq (by omega))
      have hr' := Lib.hid (show IsInt w2 w2.heap.size (.agg #[.bool false, .slice none 0 0]) false 0 from ⟨_, rfl, World.ownsRow_nil _ _ _ _, fun h => by cases h⟩)
      clear hb2 hq hr
      go_wp2_with fail
      refine hq'.out.mono ?_
      rintro e w3 ⟨⟨v3, rfl, hv3⟩, hb3⟩
      have hb03 := hb2'.out.trans (hb3.mono hb2'.out.size)
      obtain ⟨a3, n3, c3, a4, n4, c4, rfl, h4e, k0, k1, f0, f1, hlt, k2, k3, f2, f3, hlt', hfin⟩ := hend.out w3 v3 _ _ _ _ _ _ _ hb03 hb2'.out.size hb2'.out.size hv3 (hr'.out.later hb3)
      simp only [Value.agg.injEq, Array.mk.injEq, List.cons.injEq, Value.slice.injEq, and_true, true_and] at h4e
      obtain ⟨rfl, rfl, rfl⟩ := h4e
      have hfin' := Lib.hid hfin
      obtain ⟨N3, hN3⟩ : ∃ N, (true && decide (0 < Q)) = N := ⟨_, rfl⟩
      rw [hN3] at hfin' ⊢
      have hN3' := Lib.hid hN3
      clear hfin hv3 hb3 hb03 hq' hr' hN3 jx0 jx1 jy0 jy1
      go_wp2
      refine bodyPost_ret (v := .tuple #[.agg #[.bool N3, .slice a3 n3 c3], .agg #[.bool false, .slice none 0 0]]) (by simp [results, Tryz.results10, go_sem, k0, k1, k2, k3]) rfl ?_
      exact ⟨⟨_, _, _, _, rfl, hfin'.out.1, by rw [← hZ'.out, if_neg hXY, if_pos hR00, ← hN3'.out]; unfold sg; by_cases hQ0 : 0 < Q <;> simp [hQ0] <;> omega, _, _, _, _, rfl⟩, hfin'.out.2⟩
    · obtain ⟨n3, hn3e⟩ : ∃ n, (mag R).length = n := ⟨_, rfl⟩
      have hn3 : ((n3 : Int) == 0) = false := by
        have : n3 ≠ 0 := by rw [← hn3e, hRz]; exact fun h => hR00 (hR0.1 h)
        simp; omega
      go_enter Tryz.func10, Tryz.ntmps10
      go_wp2_with fail
      rw [hw1'.out]
      refine (hsplit.out _ (hbw.out _ (Below.refl _ _))).mono ?_
      rintro e w2 ⟨⟨q, r, rfl, hq, hr⟩, hb2⟩
      obtain ⟨jx0, jx1, jy0, jy1⟩ := hkx.out w2 hb2
      have hr' := Lib.hid hr
      obtain ⟨ar, cr, rfl, -, -⟩ := Rd.of_own hr
      rw [hn3e] at hr' ⊢
      have hb2' := Lib.hid hb2
      have hd0 := Lib.hid (Box.below_drawn (Below.refl w2.heap.size w2) 1)
      have hal := Lib.hid (show Below w2.heap.size w2 (w2.drew.alloc (.cells #[.int .u8 1] 5)) from hd0.out.trans ((show Below w2.drew.heap.size w2.drew (w2.drew.alloc (.cells #[.int .u8 1] 5)) from below_one _ (Nat.le_refl _)).mono hd0.out.size))
      have hsum := Lib.hid (show Calls Tryz.prog 23 #[q, .slice (some ⟨w2.heap.size, 0, none⟩) 1 1] (w2.drew.alloc (.cells #[.int .u8 1] 5)) _ from sum_own (hq.later hal.out) (own_one w2.drew) (by omega) (by decide))
      have hba := Lib.hid (hb2'.out.trans (hal.out.mono hb2'.out.size))
      have j2 := hky.out w2.drew (hb2'.out.trans (hd0.out.mono hb2'.out.size))
      have j2a := hky.out _ hba.out
      have hsz2 := hb2'.out.size
      clear hb2 hq hr
      go_wp2_with fail
      go_region_held3 (fun W => W.cell? ⟨w.heap.size + 1, 0, none⟩ = some (.bool Y) ∧ W.cell? ⟨w.heap.size + 1, 1, none⟩ = some (.slice a2 n2 c2))
        (first | go_keep | exact j2 | exact j2a | exact j3 | exact j4 | exact j5 | exact j6 | exact ⟨(j7 _ _ _ _).1, (j7 _ _ _ _).2.1⟩ | exact ⟨(j7 _ _ _ _).2.2.1, (j7 _ _ _ _).2.2.2⟩)
        (first
          | (go_at_call 20; have hgo := hv5; refine (hof.out w5 _ (m2 - R) v5 Y hv5 (by omega)).mono ?_; rintro e w6 ⟨⟨v6, rfl, hv6⟩, hb6⟩; have hb06 := hb05.trans (hb6.mono hb05.size); have j6 := hky.out w6 hb06; have j7 := fun u1 u2 u3 u4 => keepY (g := w.heap.size + 1 + 1) (h := w.heap.size + 1 + 1 + 1) (u1 := u1) (u2 := u2) (u3 := u3) (u4 := u4) j6 (by omega) (by omega); obtain ⟨a4, n4, c4, a5, n5, c5, rfl, rfl, k0, k1, f0, f1, hlt, k2, k3, f2, f3, hlt', hfin⟩ := hend.out w6 v4 v6 _ _ _ _ _ _ hb06 hb03.size hb05.size ((hv4.later hb5).later hb6) hv6; have hfin' := Lib.hid hfin; clear hfin hv4 hv6 hv5 hgo)
          | (go_at_call 24; refine (hless.out w4 _ _ R (hbw.out _ hb04) (hr'.out.later (hb24)) (by omega) (by omega)).mono ?_; rintro e w5 ⟨⟨v5, rfl, hv5⟩, hb5⟩; have hb05 := hb04.trans (hb5.mono hb04.size); have j5 := hky.out w5 hb05)
          | (go_at_call 20; refine (hof.out w3 _ (Q + 1) v3 true hv3 (by omega)).mono ?_; rintro e w4 ⟨⟨v4, rfl, hv4⟩, hb4⟩; have hb04 := hb03.trans (hb4.mono hb03.size); have hb24 := hb23.trans (hb4.mono hb23.size); have j4 := hky.out w4 hb04)
          | (go_at_call 23; refine hsum.out.mono ?_; rintro e w3 ⟨⟨v3, rfl, hv3⟩, hb3⟩; have hb23 := hal.out.trans (hb3.mono hal.out.size); have hb03 := hb2'.out.trans (hb23.mono hb2'.out.size); have j3 := hky.out w3 hb03))
      rw [show (true && decide (0 < Q + 1)) = true by simp] at hfin'
      obtain ⟨N5, hN5⟩ : ∃ N, (Y && decide (0 < m2 - R)) = N := ⟨_, rfl⟩
      rw [hN5] at hfin' ⊢
      clear hN5 j2 j2a j3 j4 j5 j6 j7 hb3 hb4 hb5 hb6 hb03 hb04 hb05 hb06 hb23 hb24 hv3
      go_wp2
      refine bodyPost_ret (v := .tuple #[.agg #[.bool true, .slice a4 n4 c4], .agg #[.bool N5, .slice a5 n5 c5]]) (by simp [results, Tryz.results10, go_sem, k0, k1, k2, k3]) rfl ?_
      exact ⟨⟨_, _, _, _, rfl, hfin'.out.1, by rw [← hZ'.out, if_neg hXY, if_neg hR00]; unfold sg; simp, _, _, _, _, rfl⟩, hfin'.out.2⟩
end Go.Proofs.YtpjkfdgkkpkljaaGreatDoor.Ref

namespace Go.Proofs.YtpjkfdgkkpkljaaGreatDoor.Big
open Go.RowKit Go.WideShapes Go.Proofs.YtpjkfdgkkpkljaaGreatDoor.Own Go.Proofs.YtpjkfdgkkpkljaaGreatDoor.Num Go.Proofs.YtpjkfdgkkpkljaaGreatDoor.Ref Go.Proofs.YtpjkfdgkkpkljaaGreatDoor.Nat_
set_option linter.unusedVariables false

set_option maxHeartbeats 2000000 in
set_option maxRecDepth 100000 in
theorem is_any (v u : Value) (neg : Bool) (m B B' : Nat) (w : World) (h : IsValR w B v neg m) (hx : RdS w B' u (mag m)) (hm : (mag m).length ≤ 2147483647) :
    Calls Tryz.prog 11 #[v, .agg #[.bool neg, u]] w fun e w' => e = .returned (.bool true) ∧ Below w.heap.size w w' := by
  obtain ⟨v2, rfl, ⟨a, c, rfl, hr, hc, hn, _⟩, _⟩ := h
  obtain ⟨a2, c2, rfl, hr2, hc2, hn2, _⟩ := hx
  obtain ⟨l, hl⟩ : ∃ l, mag m = l := ⟨_, rfl⟩
  rw [hl] at hr hr2 hc hc2 hm ⊢
  obtain ⟨n, hln⟩ : ∃ n, l.length = n := ⟨_, rfl⟩
  rw [hln] at hc hc2 hm ⊢
  obtain ⟨w1, hw1⟩ : ∃ w1, ((w.alloc (.cells #[.int .i64 2, .bool neg, .slice a n c, .int .u64 0, .string ⟨#[]⟩, .slice none 0 0] 28)).alloc (.cells #[.bool neg, .slice a2 n c2] 24)) = w1 := ⟨_, rfl⟩
  have hb1 : Below w.heap.size w w1 := by rw [← hw1]; exact ((Below.refl _ _).alloc (Nat.le_refl _) _).alloc (by simp) _
  have hk1 : Box.Holds w1 w.heap.size 28 #[.int .i64 2, .bool neg, .slice a n c, .int .u64 0, .string ⟨#[]⟩, .slice none 0 0] := by
    rw [← hw1]; exact (Box.Holds.made w _ _).alloc _
  have hk2 : Box.Holds w1 (w.heap.size + 1) 24 #[.bool neg, .slice a2 n c2] := by
    have := Box.Holds.made (w.alloc (.cells #[.int .i64 2, .bool neg, .slice a n c, .int .u64 0, .string ⟨#[]⟩, .slice none 0 0] 28)) 24 #[.bool neg, .slice a2 n c2]
    rwa [World.size_alloc, hw1] at this
  have hr' := Lib.hid (hr.later hb1)
  have hr2' := Lib.hid (hr2.later hb1)
  have k0 := hk1.cell 0
  have k1 := hk1.cell 1
  have k2 := hk1.cell 2
  have k3 := hk1.cell 3
  have k4 := hk1.cell 4
  have k5 := hk1.cell 5
  have j0 := hk2.cell 0
  have j1 := hk2.cell 1
  simp at k0 k1 k2 k3 k4 k5 j0 j1
  have hb1' := Lib.hid hb1
  have hln' := Lib.hid hln
  clear hr hr2 hk1 hk2 hb1 hl hln
  subst hw1
  go_enter Tryz.func11, Tryz.ntmps11
  go_wp2
  obtain ⟨w1, hw1⟩ : ∃ w1, ((w.alloc (.cells #[.int .i64 2, .bool neg, .slice a n c, .int .u64 0, .string ⟨#[]⟩, .slice none 0 0] 28)).alloc (.cells #[.bool neg, .slice a2 n c2] 24)) = w1 := ⟨_, rfl⟩
  rw [hw1] at hr' hr2' k0 k1 k2 k3 k4 k5 j0 j1 hb1' ⊢
  clear hw1 k0 k1 k3 k4 k5 j0
  have hst := Lib.hid (show w1.cell? ⟨w.heap.size, 2, none⟩ = some (.slice a n c) ∧ w1.cell? ⟨w.heap.size + 1, 1, none⟩ = some (.slice a2 n c2) ∧ Rd w1 a l ∧ Rd w1 a2 l ∧ Below w.heap.size w w1 from ⟨k2, j1, hr'.out, hr2'.out, hb1'.out⟩)
  clear k2 j1 hr' hr2' hb1'
  go_loopw [5, 44] (fun _ i wr => ∃ k : Nat, k ≤ n ∧ i = .int .i64 k ∧ Hid (wr.cell? ⟨w.heap.size, 2, none⟩ = some (.slice a n c) ∧ wr.cell? ⟨w.heap.size + 1, 1, none⟩ = some (.slice a2 n c2) ∧ Rd wr a l ∧ Rd wr a2 l ∧ Below w.heap.size w wr)) (fun _ i _ => n - (intOf i).toNat)
  case atStart => exact ⟨0, Nat.zero_le _, rfl, hst⟩
  case round =>
    clear hst
    obtain ⟨k, hk, rfl, hI⟩ := hrel
    by_cases hlt : k < n
    · obtain ⟨k2, j1, hr, hr2, hb1⟩ := hI.out
      obtain ⟨x, rfl, hx⟩ := hr.at_ (k := k) (by rw [hln'.out]; exact hlt)
      obtain ⟨x2, rfl, hx2⟩ := hr2.at_ (k := k) (by rw [hln'.out]; exact hlt)
      obtain ⟨b, hb⟩ : ∃ b, l[k]'(by rw [hln'.out]; exact hlt) = b := ⟨_, rfl⟩
      rw [hb] at hx hx2
      have hdr := Lib.hid (fun q : Nat => (show Hid (((wr.drewN q).cell? ⟨w.heap.size, 2, none⟩ = some (.slice (some x) n c)) ∧ ((wr.drewN q).cell? ⟨w.heap.size + 1, 1, none⟩ = some (.slice (some x2) n c2)) ∧ Rd (wr.drewN q) (some x) l ∧ Rd (wr.drewN q) (some x2) l ∧ Below w.heap.size w (wr.drewN q)) from Lib.hid ⟨k2, j1, hr, hr2, Box.below_drawn hb1 q⟩))
      clear hb hr hr2 hn hn2 hln' hI hb1
      go_wp2_with fail
      go_quiet (fail)
      go_wp2
      go_roundw
      case rel => exact ⟨k + 1, by omega, by simp, hdr.out _⟩
      case measure => simp [intOf]; omega
    · have : k = n := by omega
      subst this
      go_wp2
      go_ret
      exact ⟨rfl, hI.out.2.2.2.2⟩
end Go.Proofs.YtpjkfdgkkpkljaaGreatDoor.Big
