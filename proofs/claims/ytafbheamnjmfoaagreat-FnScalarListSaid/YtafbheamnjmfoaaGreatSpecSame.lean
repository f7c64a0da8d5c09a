/-
  The reference's integers: how magnitudes compare, their digits, the lowest 64 bits. The reference's integers: their signs, and how two compare. The reference's integers: their signs, and how two compare. The reference's question whether two values are told alike, at two of one value without parts.
-/
import Derived.Test.YtafbheamnjmfoaaGreatSpecFirst
import Derived.Deep.DeepCutAuto
import Derived.Deep.RegionWith
import Derived.Deep.DrawnRows
import Derived.Test.YtafbheamnjmfoaaGreatScAll
import Derived.Deep.RegionHeld3
namespace Go.Proofs.YtafbheamnjmfoaaGreat.Ref
open Go.RowKit Go.WideShapes Go.Proofs.YtafbheamnjmfoaaGreat.Own Go.Proofs.YtafbheamnjmfoaaGreat.Num
set_option linter.unusedVariables false

theorem Rd.at_ {w : World} {a : Option Addr} {l : List UInt8} (h : Rd w a l) {k : Nat} (hk : k < l.length) : ∃ x, a = some x ∧ w.cell? (x.add k) = some (.int .u8 (l[k].toNat : Int)) := by
  rcases h with ⟨_, rfl⟩ | ⟨x, rfl, _, hc⟩
  · simp at hk
  · exact ⟨x, rfl, hc k hk⟩
theorem mag_at (v k : Nat) (h : k < (mag v).length) : ((mag v)[k]).toNat = v / 256 ^ (len 256 v - 1 - k) % 256 := by
  have hk : k < len 256 v := by rw [← mag_length]; exact h
  have h1 := mag_get v k hk
  rw [List.getElem?_eq_getElem h] at h1
  rw [Option.some.inj h1]
  simp

set_option maxRecDepth 100000 in
theorem digit_any (a : Option Addr) (cap : Nat) (l : List UInt8) (i : Nat) (w : World) (h : Rd w a l) (hl : l.length ≤ 2147483647) (hi : i ≤ 2147483647) (hc : l.length ≤ cap) :
    Calls Tryz.prog 142 #[.slice a l.length cap, .int .i64 i] w fun e w' => e = .returned (.int .i64 (digitAt l i)) ∧ w = w' := by
  by_cases hlt : i < l.length
  · obtain ⟨x, rfl, hx⟩ := h.at_ (k := l.length - 1 - i) (by omega)
    have hd := digitAt_in l i hlt
    rw [hd] at hx
    obtain ⟨D, hD⟩ : ∃ D, digitAt l i = D := ⟨_, rfl⟩
    have hD256 : D < 256 := by rw [← hD]; unfold digitAt; exact Nat.mod_lt _ (by omega)
    rw [hD] at hx ⊢
    clear hd hD h
    have k3 : ((l.length : Int) - 1 - i).toNat = l.length - 1 - i := by omega
    go_enter Tryz.func142, Tryz.ntmps142
    go_wp2
    go_ret
    exact ⟨rfl, rfl⟩
  · rw [digitAt_out l i (by omega)]
    go_enter Tryz.func142, Tryz.ntmps142
    go_wp2
    go_ret
    exact ⟨rfl, rfl⟩

set_option maxRecDepth 100000 in
theorem order_any (a1 a2 : Option Addr) (c1 c2 : Nat) (u v : Nat) (w : World) (h1 : Rd w a1 (mag u)) (h2 : Rd w a2 (mag v)) (hu : (mag u).length ≤ 2147483647) (hv : (mag v).length ≤ 2147483647) (hc1 : (mag u).length ≤ c1) (hc2 : (mag v).length ≤ c2) :
    Calls Tryz.prog 100 #[.slice a1 (mag u).length c1, .slice a2 (mag v).length c2] w fun e w' => e = .returned (.int .i64 (cmpN u v)) ∧ Below w.heap.size w w' := by
  have l1 := mag_length u
  have l2 := mag_length v
  rcases Nat.lt_trichotomy (len 256 u) (len 256 v) with hlt | heq | hgt
  · rw [cmpN_len (by omega) hlt]
    have hne : ((((mag u).length : Nat) : Int) != (mag v).length) = true := by simp; omega
    have hlt' : (mag u).length < (mag v).length := by omega
    clear h1 h2 l1 l2 hlt
    go_enter Tryz.func100, Tryz.ntmps100
    go_wp2
    go_ret
    exact ⟨rfl, Below.refl _ _⟩
  · obtain ⟨n, hn⟩ : ∃ n, (mag u).length = n := ⟨_, rfl⟩
    have hn2 : (mag v).length = n := by omega
    have hlu : len 256 u = n := by omega
    have hlv : len 256 v = n := by omega
    have hne : ((n : Int) != n) = false := by simp
    have hbu := len_lt (b := 256) (by omega) u
    have hbv := len_lt (b := 256) (by omega) v
    rw [hlu] at hbu
    rw [hlv] at hbv
    have hst := Lib.hid (show u / 256 ^ n = v / 256 ^ n by rw [Nat.div_eq_of_lt hbu, Nat.div_eq_of_lt hbv])
    rw [hn] at hu hc1 ⊢
    rw [hn2] at hv hc2 ⊢
    obtain ⟨Z, hZ⟩ : ∃ Z, cmpN u v = Z := ⟨_, rfl⟩
    rw [hZ]
    have hZ' := Lib.hid hZ
    have hn' := Lib.hid hn
    have hn2' := Lib.hid hn2
    have hlu' := Lib.hid hlu
    have hlv' := Lib.hid hlv
    clear hbu hbv hZ hn hn2 hlu hlv l1 l2 heq
    go_enter Tryz.func100, Tryz.ntmps100
    go_wp2
    go_loopw [5] (fun i wr => ∃ k : Nat, i = .int .i64 k ∧ k ≤ n ∧ Hid (u / 256 ^ (n - k) = v / 256 ^ (n - k)) ∧ Below w.heap.size w wr) (fun i _ => n - (intOf i).toNat)
    case atStart => exact ⟨0, rfl, Nat.zero_le _, by rw [Nat.sub_zero]; exact hst, Below.refl _ _⟩
    case round =>
      obtain ⟨k, rfl, hk, hq, hb⟩ := hrel
      by_cases hlt : k < n
      · obtain ⟨x, rfl, hx⟩ := (h1.later hb).at_ (k := k) (by rw [hn'.out]; exact hlt)
        obtain ⟨y, rfl, hy⟩ := (h2.later hb).at_ (k := k) (by rw [hn2'.out]; exact hlt)
        rw [mag_at, hlu'.out] at hx
        rw [mag_at, hlv'.out] at hy
        have hq' := hq.out
        rw [show n - k = (n - 1 - k) + 1 by omega] at hq'
        obtain ⟨X, hX⟩ : ∃ X, u / 256 ^ (n - 1 - k) % 256 = X := ⟨_, rfl⟩
        obtain ⟨Y, hY⟩ : ∃ Y, v / 256 ^ (n - 1 - k) % 256 = Y := ⟨_, rfl⟩
        have hX256 : X < 256 := by rw [← hX]; exact Nat.mod_lt _ (by omega)
        have hY256 : Y < 256 := by rw [← hY]; exact Nat.mod_lt _ (by omega)
        have hlo := Lib.hid fun (h : X < Y) => cmpN_lt (b := 256) (by omega) hq' (by rw [hX, hY]; exact h)
        have hhi := Lib.hid fun (h : Y < X) => cmpN_gt (b := 256) (by omega) hq' (by rw [hX, hY]; exact h)
        have hsame := Lib.hid fun (h : X = Y) => div_of_digit hq' (by rw [hX, hY]; exact h)
        rw [hX] at hx
        rw [hY] at hy
        have b1 : (0 : Int) ≤ (k : Int) := by omega
        have b2 : (k : Int) < (n : Int) := by omega
        have h1' := Lib.hid h1
        have h2' := Lib.hid h2
        clear hX hY hq' h1 h2
        rcases Nat.lt_trichotomy X Y with hxy | hxy | hxy
        · have g1 : ((X : Int) != Y) = true := by simp; omega
          have g2 : decide (X < Y) = true := by simp; omega
          have hr := hlo.out hxy
          rw [hZ'.out] at hr
          subst hr
          clear hxy
          go_wp2
          go_quiet (fail)
          go_wp2
          go_quiet (fail)
          go_wp2
          go_ret
          exact ⟨rfl, Box.below_drawn (Box.below_drawn hb _) _⟩
        · have g1 : ((X : Int) != Y) = false := by simp; omega
          have hr := Lib.hid (hsame.out hxy)
          clear hxy
          go_wp2
          go_quiet (fail)
          go_wp2
          go_roundw
          case rel => exact ⟨k + 1, by go_num, by omega, by rw [show n - (k + 1) = n - 1 - k by omega]; exact hr, Box.below_drawn hb _⟩
          case measure => simp [intOf]; omega
        · have g1 : ((X : Int) != Y) = true := by simp; omega
          have g2 : decide (X < Y) = false := by simp; omega
          have hr := hhi.out hxy
          rw [hZ'.out] at hr
          subst hr
          clear hxy
          go_wp2
          go_quiet (fail)
          go_wp2
          go_quiet (fail)
          go_wp2
          go_ret
          exact ⟨rfl, Box.below_drawn (Box.below_drawn hb _) _⟩
      · obtain rfl : k = n := by omega
        have hq' := hq.out
        rw [Nat.sub_self, Nat.pow_zero, Nat.div_one, Nat.div_one] at hq'
        have hr := cmpN_eq hq'
        rw [hZ'.out] at hr
        subst hr
        clear hq'
        go_wp2
        go_ret
        exact ⟨rfl, hb⟩
  · rw [cmpN_len' (by omega) hgt]
    have hne : ((((mag u).length : Nat) : Int) != (mag v).length) = true := by simp; omega
    have hlt' : (mag v).length < (mag u).length := by omega
    clear h1 h2 l1 l2 hgt
    go_enter Tryz.func100, Tryz.ntmps100
    go_wp2
    go_ret
    exact ⟨rfl, Below.refl _ _⟩

theorem ofInt_u64 (a : Nat) (ha : a < 18446744073709551616) : (BitVec.ofInt 64 (a : Int)).toNat = a := by
  rw [BitVec.ofInt_natCast, BitVec.toNat_ofNat]; exact Nat.mod_eq_of_lt (by omega)
theorem u64_or (a b : Nat) (ha : a < 18446744073709551616) (hb : b < 18446744073709551616) : bits .or .u64 (a : Int) (b : Int) = ((a ||| b : Nat) : Int) := by
  have hx : a ||| b < 2 ^ 64 := Nat.or_lt_two_pow (by omega) (by omega)
  show IntKind.u64.wrap ((BitVec.ofInt 64 (a : Int) ||| BitVec.ofInt 64 (b : Int)).toNat : Int) = _
  rw [BitVec.toNat_or, ofInt_u64 a ha, ofInt_u64 b hb, IntKind.wrap_u64]
  omega
theorem or_256 (a b : Nat) (ha : a % 256 = 0) (hb : b < 256) : a ||| b = a + b := by
  have : a = 2 ^ 8 * (a / 256) := by omega
  rw [this, ← Nat.two_pow_add_eq_or_of_lt (show b < 2 ^ 8 from hb)]
theorem low_bits (U D Z : Nat) (hU : U * 256 % 18446744073709551616 + D = Z) (hD : D < 256) :
    bits BinOp.or IntKind.u64 (IntKind.u64.wrap ((U : Int) * 256)) (D : Int) = (Z : Int) := by
  have e1 : IntKind.u64.wrap ((U : Int) * 256) = ((U * 256 % 18446744073709551616 : Nat) : Int) := by rw [IntKind.wrap_u64]; omega
  rw [e1, u64_or _ _ (by omega) (by omega), or_256 _ _ (by omega) hD, hU]

end Go.Proofs.YtafbheamnjmfoaaGreat.Ref

namespace Go.Proofs.YtafbheamnjmfoaaGreat.Ref
open Go.RowKit Go.WideShapes Go.Proofs.YtafbheamnjmfoaaGreat.Own Go.Proofs.YtafbheamnjmfoaaGreat.Num
set_option linter.unusedVariables false

theorem mag_pos (m : Nat) : 0 < (mag m).length ↔ 0 < m := by rw [mag_length]; exact len_pos (by omega)

set_option maxRecDepth 100000 in
theorem zero_any (x : Value) (neg : Bool) (m B : Nat) (w : World) (h : IsInt w B x neg m) (hm : (mag m).length ≤ 2147483647) :
    Calls Tryz.prog 118 #[x] w fun e w' => e = .returned (.bool (decide (m = 0))) ∧ ∃ o, w' = w.alloc o := by
  obtain ⟨u, rfl, ho, hpos⟩ := h
  obtain ⟨a, cap, rfl, hr, hc⟩ := Rd.of_own ho
  have hp := mag_pos m
  obtain ⟨n, hn⟩ : ∃ n, (mag m).length = n := ⟨_, rfl⟩
  rw [hn] at hm hc hp ⊢
  have k1 : (w.alloc (.cells #[.bool neg, .slice a n cap] 110)).cell? ⟨w.heap.size, 1, none⟩ = some (.slice a n cap) := by rw [World.cell?_alloc_at _ _ _ _ rfl]; rfl
  clear hn hr ho hpos
  by_cases h0 : m = 0
  · have hb : ((n : Int) == 0) = true := by simp; omega
    have hd : decide (m = 0) = true := by simp [h0]
    rw [hd]
    clear h0 hp hd
    go_enter Tryz.func118, Tryz.ntmps118
    go_wp2
    go_ret
    exact ⟨rfl, _, rfl⟩
  · have hb : ((n : Int) == 0) = false := by simp; omega
    have hd : decide (m = 0) = false := by simp [h0]
    rw [hd]
    clear h0 hp hd
    go_enter Tryz.func118, Tryz.ntmps118
    go_wp2
    go_ret
    exact ⟨rfl, _, rfl⟩

end Go.Proofs.YtafbheamnjmfoaaGreat.Ref

namespace Go.Proofs.YtafbheamnjmfoaaGreat.Ref
open Go.RowKit Go.WideShapes Go.Proofs.YtafbheamnjmfoaaGreat.Own Go.Proofs.YtafbheamnjmfoaaGreat.Num
set_option linter.unusedVariables false

set_option maxRecDepth 100000 in
theorem sign_any (x : Value) (neg : Bool) (m B : Nat) (w : World) (h : IsInt w B x neg m) (hm : (mag m).length ≤ 2147483647) :
    Calls Tryz.prog 99 #[x] w fun e w' => e = .returned (.int .i64 (sgn (sg neg m))) ∧ ∃ o1 o2, w' = (w.alloc o1).alloc o2 := by
  have h' := h
  obtain ⟨u, rfl, ho, hpos⟩ := h'
  obtain ⟨a, cap, rfl, hr, hc⟩ := Rd.of_own ho
  obtain ⟨n, hn⟩ : ∃ n, (mag m).length = n := ⟨_, rfl⟩
  have k0 : ∀ n, ∀ o, ((w.alloc (.cells #[.bool neg, .slice a n cap] 110)).alloc o).cell? ⟨w.heap.size, 0, none⟩ = some (.bool neg) := fun n o => by rw [World.cell?_alloc_lt _ _ _ (by simp), World.cell?_alloc_at _ _ _ _ rfl]; rfl
  have k1 : ∀ n, (w.alloc (.cells #[.bool neg, .slice a n cap] 110)).cell? ⟨w.heap.size, 1, none⟩ = some (.slice a n cap) := fun n => by rw [World.cell?_alloc_at _ _ _ _ rfl]; rfl
  have hz := Lib.hid (zero_any _ neg m B _ (h.later ((Below.refl _ _).alloc (Nat.le_refl _) (.cells #[.bool neg, .slice a (mag m).length cap] 110))) hm)
  rw [hn] at hz ⊢
  have k0 := k0 n
  have k1 := k1 n
  clear hr ho hn h
  by_cases h0 : m = 0
  · have hd : decide (m = 0) = true := by simp [h0]
    have hneg : neg = false := by cases neg; rfl; exact absurd (hpos rfl) (by omega)
    have hs : sgn (sg neg m) = 0 := by rw [h0, hneg]; rfl
    rw [hs]
    rw [hd] at hz
    clear hs h0 hd hpos hneg
    go_enter Tryz.func99, Tryz.ntmps99
    go_wp2_with fail
    refine hz.out.mono ?_
    rintro e w1 ⟨rfl, o, rfl⟩
    go_wp2
    go_ret
    exact ⟨rfl, _, _, rfl⟩
  · have hd : decide (m = 0) = false := by simp [h0]
    rw [hd] at hz
    cases neg
    · have hs : sgn (sg false m) = 1 := by unfold sgn sg; simp; omega
      rw [hs]
      clear hs h0 hd hpos
      go_enter Tryz.func99, Tryz.ntmps99
      go_wp2_with fail
      refine hz.out.mono ?_
      rintro e w1 ⟨rfl, o, rfl⟩
      go_wp2
      go_ret
      exact ⟨rfl, _, _, rfl⟩
    · have hs : sgn (sg true m) = -1 := by unfold sgn sg; simp; omega
      rw [hs]
      clear hs h0 hd hpos
      go_enter Tryz.func99, Tryz.ntmps99
      go_wp2_with fail
      refine hz.out.mono ?_
      rintro e w1 ⟨rfl, o, rfl⟩
      go_wp2
      go_ret
      exact ⟨rfl, _, _, rfl⟩

/-- the sign's contract in whatever later world -/
theorem sign_later (x : Value) (neg : Bool) (m B : Nat) (w : World) (h : IsInt w B x neg m) (hm : (mag m).length ≤ 2147483647) (S : Int) (hS : sgn (sg neg m) = S) :
    ∀ W, Below w.heap.size w W → Calls Tryz.prog 99 #[x] W fun e w' => e = .returned (.int .i64 S) ∧ ∃ o1 o2, w' = (W.alloc o1).alloc o2 := fun W hb => by
  subst hS
  exact sign_any x neg m B W (h.later hb) hm

theorem below_call {w W : World} (h : Below w.heap.size w W) (o1 o2 : Obj) : Below w.heap.size w ((W.drew.alloc o1).alloc o2) := by
  have := h.size
  exact (h.drew.alloc (show w.heap.size ≤ W.drew.heap.size from this) _).alloc (by simp; show w.heap.size ≤ W.drew.heap.size + 1; have : W.drew.heap.size = W.heap.size := rfl; omega) _

set_option maxHeartbeats 1000000 in
set_option maxRecDepth 100000 in
theorem cmp_any (x y : Value) (xn yn : Bool) (a b B : Nat) (w : World) (hx : IsInt w B x xn a) (hy : IsInt w B y yn b) (ha : (mag a).length ≤ 2147483647) (hb : (mag b).length ≤ 2147483647) :
    Calls Tryz.prog 68 #[x, y] w fun e w' => e = .returned (.int .i64 (cmpZ (sg xn a) (sg yn b))) ∧ Below w.heap.size w w' := by
  obtain ⟨S1, hS1⟩ : ∃ S, sgn (sg xn a) = S := ⟨_, rfl⟩
  obtain ⟨S2, hS2⟩ : ∃ S, sgn (sg yn b) = S := ⟨_, rfl⟩
  obtain ⟨Z, hZ⟩ : ∃ Z, cmpZ (sg xn a) (sg yn b) = Z := ⟨_, rfl⟩
  have s1 := Lib.hid (sign_later x xn a B w hx ha S1 hS1)
  have s2 := Lib.hid (sign_later y yn b B w hy hb S2 hS2)
  have hS1' := Lib.hid hS1
  have hS2' := Lib.hid hS2
  rw [hZ]
  have hZ' := Lib.hid hZ
  obtain ⟨u1, rfl, ho1, hp1⟩ := hx
  obtain ⟨u2, rfl, ho2, hp2⟩ := hy
  obtain ⟨a1, c1, rfl, hr1, hc1⟩ := Rd.of_own ho1
  obtain ⟨a2, c2, rfl, hr2, hc2⟩ := Rd.of_own ho2
  have hp1' := Lib.hid hp1
  have hp2' := Lib.hid hp2
  have hr1' := Lib.hid hr1
  have hr2' := Lib.hid hr2
  obtain ⟨n1, hn1⟩ : ∃ n, (mag a).length = n := ⟨_, rfl⟩
  obtain ⟨n2, hn2⟩ : ∃ n, (mag b).length = n := ⟨_, rfl⟩
  have ord := Lib.hid fun W (h : Below w.heap.size w W) => order_any a1 a2 c1 c2 a b W (hr1'.out.later h) (hr2'.out.later h) ha hb hc1 hc2
  have ord' := Lib.hid fun W (h : Below w.heap.size w W) => order_any a2 a1 c2 c1 b a W (hr2'.out.later h) (hr1'.out.later h) hb ha hc2 hc1
  rw [hn1, hn2] at ord ord'
  rw [hn1] at s1 ⊢
  rw [hn2] at s2 ⊢
  clear ho1 ho2 hp1 hp2 hr1 hr2 hZ hS1 hS2 hn1 hn2 hc1 hc2 ha hb
  obtain ⟨W2, hW2⟩ : ∃ W2, (w.alloc (.cells #[.bool xn, .slice a1 n1 c1] 110)).alloc (.cells #[.bool yn, .slice a2 n2 c2] 110) = W2 := ⟨_, rfl⟩
  have hB2 : Below w.heap.size w W2 := by rw [← hW2]; exact ((Below.refl _ _).alloc (Nat.le_refl _) _).alloc (by simp) _
  have hs2 : W2.heap.size = w.heap.size + 2 := by rw [← hW2]; simp
  have h1 : Box.Holds W2 w.heap.size 110 #[.bool xn, .slice a1 n1 c1] := by rw [← hW2]; exact (Box.Holds.made w _ _).alloc _
  have h2 : Box.Holds W2 (w.heap.size + 1) 110 #[.bool yn, .slice a2 n2 c2] := by
    rw [← hW2]
    have := Box.Holds.made (w.alloc (.cells #[.bool xn, .slice a1 n1 c1] 110)) 110 #[.bool yn, .slice a2 n2 c2]
    simpa using this
  have hW2' := Lib.hid hW2
  clear hW2
  go_enter Tryz.func68, Tryz.ntmps68
  go_upto_region 1 with fail
  rw [hW2'.out]
  have hsl : w.heap.size ≤ W2.heap.size := by omega
  go_cut [9] (fun v wx => v = .bool (S1 != S2) ∧ Below W2.heap.size W2 wx)
  case first =>
    have d1 := h1.cell 0
    have d2 := h1.cell 1
    have d3 := h2.cell 0
    have d4 := h2.cell 1
    simp at d1 d2 d3 d4
    go_region_with (first
      | (go_at_call_of 99 (Value.agg #[.bool xn, .slice a1 n1 c1]); refine (s1.out _ (by repeat (first | exact hB2 | apply Below.drew | (refine Below.alloc ?_ (by first | (simp; done) | (simp; omega) | omega) _)))).mono ?_; rintro e w' ⟨rfl, o1, o2, rfl⟩)
      | (go_at_call_of 99 (Value.agg #[.bool yn, .slice a2 n2 c2]); refine (s2.out _ (by repeat (first | exact hB2 | apply Below.drew | (refine Below.alloc ?_ (by first | (simp; done) | (simp; omega) | omega) _)))).mono ?_; rintro e w' ⟨rfl, o1, o2, rfl⟩))
    all_goals
      go_wp2_with fail
      go_meet
      exact ⟨rfl, (by repeat (first | exact Below.refl _ _ | apply Below.drew | (refine Below.alloc ?_ (by first | (simp; done) | (simp; omega) | omega) _)))⟩
  case rest =>
    obtain ⟨rfl, hbw⟩ := hcut
    have hBc := hB2.trans (hbw.mono hsl)
    have hsc := hBc.size
    have g1 := h1.later hbw
    have g2 := h2.later hbw
    have hsc1 : w.heap.size < wc.heap.size := g1.lt
    have hsc2 : w.heap.size + 1 < wc.heap.size := g2.lt
    have d1 := g1.cell 0
    have d2 := g1.cell 1
    have d3 := g2.cell 0
    have d4 := g2.cell 1
    simp at d1 d2 d3 d4
    clear h1 h2 hB2 hW2' hbw hsl hs2 g1 g2
    by_cases hS : S1 = S2
    · have hyx : yn = xn := by
        have e1 := hS1'.out
        have e2 := hS2'.out
        rw [hS, ← e2] at e1
        have p1 := hp1'.out
        have p2 := hp2'.out
        cases xn <;> cases yn <;> simp [sgn, sg] at * <;> omega
      have hb : (S1 != S2) = false := by simp [hS]
      have hS' := Lib.hid hS
      clear hS
      rw [hb]
      subst hyx
      cases yn
      · have hz := hZ'.out
        simp only [sg, Bool.false_eq_true, if_false] at hz
        rw [cmpZ_pos] at hz
        subst hz
        clear hb
        go_wp2_with fail
        refine (ord.out _ hBc).mono ?_
        rintro e w5 ⟨rfl, hb5⟩
        go_wp2
        go_ret
        exact ⟨rfl, hBc.trans (hb5.mono hBc.size)⟩
      · have hz := hZ'.out
        simp only [sg, if_true] at hz
        rw [cmpZ_neg] at hz
        subst hz
        clear hb
        go_wp2_with fail
        refine (ord'.out _ hBc).mono ?_
        rintro e w5 ⟨rfl, hb5⟩
        go_wp2
        go_ret
        exact ⟨rfl, hBc.trans (hb5.mono hBc.size)⟩
    · have hb : (S1 != S2) = true := by simp [hS]
      have hz := cmpZ_sgn (a := sg xn a) (b := sg yn b) (by rw [hS1'.out, hS2'.out]; exact hS)
      rw [hS1'.out, hS2'.out, hZ'.out] at hz
      rw [hb]
      clear hS hb
      by_cases hlt : S1 < S2
      · rw [if_pos hlt] at hz
        have hd : decide (S1 < S2) = true := by simp [hlt]
        subst hz
        clear hlt
        go_wp2
        go_region_with (first
          | (go_at_call_of 99 (Value.agg #[.bool xn, .slice a1 n1 c1]); refine (s1.out _ (Below.drew hBc)).mono ?_; rintro e w' ⟨rfl, o1, o2, rfl⟩)
          | (go_at_call_of 99 (Value.agg #[.bool xn, .slice a1 n1 c1]); refine (s1.out _ (below_call hBc _ _)).mono ?_; rintro e w' ⟨rfl, o1, o2, rfl⟩)
          | (go_at_call_of 99 (Value.agg #[.bool yn, .slice a2 n2 c2]); refine (s2.out _ (Below.drew hBc)).mono ?_; rintro e w' ⟨rfl, o1, o2, rfl⟩)
          | (go_at_call_of 99 (Value.agg #[.bool yn, .slice a2 n2 c2]); refine (s2.out _ (below_call hBc _ _)).mono ?_; rintro e w' ⟨rfl, o1, o2, rfl⟩))
        all_goals
          go_wp2
          go_ret
          exact ⟨rfl, (by repeat (first | exact hBc | apply Below.drew | (refine Below.alloc ?_ (by first | (simp; done) | (simp; omega) | omega) _)))⟩
      · rw [if_neg hlt] at hz
        have hd : decide (S1 < S2) = false := by simp [hlt]
        subst hz
        clear hlt
        go_wp2
        go_region_with (first
          | (go_at_call_of 99 (Value.agg #[.bool xn, .slice a1 n1 c1]); refine (s1.out _ (Below.drew hBc)).mono ?_; rintro e w' ⟨rfl, o1, o2, rfl⟩)
          | (go_at_call_of 99 (Value.agg #[.bool xn, .slice a1 n1 c1]); refine (s1.out _ (below_call hBc _ _)).mono ?_; rintro e w' ⟨rfl, o1, o2, rfl⟩)
          | (go_at_call_of 99 (Value.agg #[.bool yn, .slice a2 n2 c2]); refine (s2.out _ (Below.drew hBc)).mono ?_; rintro e w' ⟨rfl, o1, o2, rfl⟩)
          | (go_at_call_of 99 (Value.agg #[.bool yn, .slice a2 n2 c2]); refine (s2.out _ (below_call hBc _ _)).mono ?_; rintro e w' ⟨rfl, o1, o2, rfl⟩))
        all_goals
          go_wp2
          go_ret
          exact ⟨rfl, (by repeat (first | exact hBc | apply Below.drew | (refine Below.alloc ?_ (by first | (simp; done) | (simp; omega) | omega) _)))⟩
end Go.Proofs.YtafbheamnjmfoaaGreat.Ref

namespace Go.Proofs.YtafbheamnjmfoaaGreat.Sc
open Go.RowKit Go.WideShapes Go.Proofs.YtafbheamnjmfoaaGreat.Own Go.Proofs.YtafbheamnjmfoaaGreat.Num Go.Proofs.YtafbheamnjmfoaaGreat.Ref Go.Proofs.YtafbheamnjmfoaaGreat.Nat_ Go.Proofs.YtafbheamnjmfoaaGreat.Big Go.Proofs.YtafbheamnjmfoaaGreat.VRow
set_option linter.unusedVariables false

set_option maxRecDepth 100000 in
theorem samelist_nil (w : World) : Calls Tryz.prog 35 #[.slice none 0 0, .slice none 0 0] w fun e w' => e = .returned (.bool true) ∧ w = w' := by
  go_enter Tryz.func35, Tryz.ntmps35
  go_wp2
  go_loop [5] (fun i => i = .int .i64 0) (fun _ => 0)
  case atStart => rfl
  case round =>
    subst hrel
    go_wp2
    go_ret
    exact ⟨rfl, rfl⟩

section
variable {w : World}
set_option maxHeartbeats 2000000 in
set_option maxRecDepth 100000 in
theorem same_none : Calls Tryz.prog 37 #[.agg #[.int .i64 0, .bool false, .slice none 0 0, .int .u64 0, .string ⟨#[]⟩, .slice none 0 0], .agg #[.int .i64 0, .bool false, .slice none 0 0, .int .u64 0, .string ⟨#[]⟩, .slice none 0 0]] w fun e w' => e = .returned (.bool true) ∧ Below w.heap.size w w' := by
  have hs := Lib.hid fun W => samelist_nil W
  go_enter Tryz.func37, Tryz.ntmps37
  go_wp2_with fail
  refine (hs.out _).mono ?_
  rintro e w' ⟨rfl, rfl⟩
  go_wp2
  go_ret
  exact ⟨rfl, (below_one' _ (Nat.le_refl _)).alloc (by simp) _⟩
set_option maxHeartbeats 2000000 in
set_option maxRecDepth 100000 in
theorem same_text (k : Int) (hk : k = 4 ∨ k = 5) (t : ByteArray) : Calls Tryz.prog 37 #[.agg #[.int .i64 k, .bool false, .slice none 0 0, .int .u64 0, .string t, .slice none 0 0], .agg #[.int .i64 k, .bool false, .slice none 0 0, .int .u64 0, .string t, .slice none 0 0]] w fun e w' => e = .returned (.bool true) ∧ Below w.heap.size w w' := by
  have hs := Lib.hid fun W => samelist_nil W
  rcases hk with rfl | rfl
  all_goals
    go_enter Tryz.func37, Tryz.ntmps37
    go_wp2_with fail
    refine (hs.out _).mono ?_
    rintro e w' ⟨rfl, rfl⟩
    go_wp2
    go_ret
    exact ⟨rfl, (below_one' _ (Nat.le_refl _)).alloc (by simp) _⟩
set_option maxHeartbeats 2000000 in
set_option maxRecDepth 100000 in
theorem same_bits (k : Int) (hk : k = 1 ∨ k = 3) (b : Int) : Calls Tryz.prog 37 #[.agg #[.int .i64 k, .bool false, .slice none 0 0, .int .u64 b, .string ⟨#[]⟩, .slice none 0 0], .agg #[.int .i64 k, .bool false, .slice none 0 0, .int .u64 b, .string ⟨#[]⟩, .slice none 0 0]] w fun e w' => e = .returned (.bool true) ∧ Below w.heap.size w w' := by
  rcases hk with rfl | rfl
  all_goals
    go_enter Tryz.func37, Tryz.ntmps37
    go_wp2
    go_ret
    exact ⟨rfl, (below_one' _ (Nat.le_refl _)).alloc (by simp) _⟩
end
def Cells12 (wr : World) (b : Nat) (x0 x1 x2 x3 x4 x5 y0 y1 y2 y3 y4 y5 : Value) : Prop :=
  wr.cell? ⟨b, 0, none⟩ = some x0 ∧ wr.cell? ⟨b, 1, none⟩ = some x1 ∧ wr.cell? ⟨b, 2, none⟩ = some x2 ∧ wr.cell? ⟨b, 3, none⟩ = some x3 ∧ wr.cell? ⟨b, 4, none⟩ = some x4 ∧ wr.cell? ⟨b, 5, none⟩ = some x5 ∧ wr.cell? ⟨b + 1, 0, none⟩ = some y0 ∧ wr.cell? ⟨b + 1, 1, none⟩ = some y1 ∧ wr.cell? ⟨b + 1, 2, none⟩ = some y2 ∧ wr.cell? ⟨b + 1, 3, none⟩ = some y3 ∧ wr.cell? ⟨b + 1, 4, none⟩ = some y4 ∧ wr.cell? ⟨b + 1, 5, none⟩ = some y5
theorem cells12 {W : World} {b : Nat} {t1 t2 : TypeId} {x0 x1 x2 x3 x4 x5 y0 y1 y2 y3 y4 y5 : Value} (h1 : Box.Holds W b t1 #[x0, x1, x2, x3, x4, x5]) (h2 : Box.Holds W (b + 1) t2 #[y0, y1, y2, y3, y4, y5]) : Cells12 W b x0 x1 x2 x3 x4 x5 y0 y1 y2 y3 y4 y5 :=
  ⟨h1.cell 0, h1.cell 1, h1.cell 2, h1.cell 3, h1.cell 4, h1.cell 5, h2.cell 0, h2.cell 1, h2.cell 2, h2.cell 3, h2.cell 4, h2.cell 5⟩
theorem cmpZ_self (z : Int) : cmpZ z z = 0 := by simp [cmpZ]
set_option maxHeartbeats 2000000 in
set_option maxRecDepth 100000 in
theorem same_int (G : Bool) (V : Nat) (hG : G = true → 0 < V) (hV : V < 256 ^ 40) (u1 u2 : Value) (w : World) (h1 : Mg w u1 (mag V)) (h2 : Mg w u2 (mag V)) : Calls Tryz.prog 37 #[.agg #[.int .i64 2, .bool G, u1, .int .u64 0, .string ⟨#[]⟩, .slice none 0 0], .agg #[.int .i64 2, .bool G, u2, .int .u64 0, .string ⟨#[]⟩, .slice none 0 0]] w fun e w' => e = .returned (.bool true) ∧ Below w.heap.size w w' := by
  obtain ⟨a1, c1, rfl, r1, l1, n1, -⟩ := h1
  obtain ⟨a2, c2, rfl, r2, l2, n2, -⟩ := h2
  have hml : (mag V).length ≤ 2147483647 := Nat.le_trans (mag_len_le hV) (by decide)
  have hGV : (G && decide (0 < be (mag V))) = G := by rw [be_mag]; cases G; rfl; simp [hG rfl]
  have hnum1 := Lib.hid fun W (hW : Below w.heap.size w W) => num_any 2 G a1 (mag V) c1 0 ⟨#[]⟩ none 0 0 W (r1.later hW) hml l1 n1
  have hnum2 := Lib.hid fun W (hW : Below w.heap.size w W) => num_any 2 G a2 (mag V) c2 0 ⟨#[]⟩ none 0 0 W (r2.later hW) hml l2 n2
  rw [hGV, be_mag] at hnum1 hnum2
  have hcmp := Lib.hid fun x y B W hx hy => cmp_any x y G G V V B W hx hy hml hml
  rw [cmpZ_self] at hcmp
  obtain ⟨n, hn⟩ : ∃ n, (mag V).length = n := ⟨_, rfl⟩
  rw [hn] at hnum1 hnum2 ⊢
  obtain ⟨W1, hW1⟩ : ∃ W1, (w.alloc (.cells #[.int .i64 2, .bool G, .slice a1 n c1, .int .u64 0, .string ⟨#[]⟩, .slice none 0 0] 28)).alloc (.cells #[.int .i64 2, .bool G, .slice a2 n c2, .int .u64 0, .string ⟨#[]⟩, .slice none 0 0] 28) = W1 := ⟨_, rfl⟩
  have hb1 : Below w.heap.size w W1 := by rw [← hW1]; exact (below_one' _ (Nat.le_refl _)).alloc (by simp) _
  have hk1 : Box.Holds W1 w.heap.size 28 #[.int .i64 2, .bool G, .slice a1 n c1, .int .u64 0, .string ⟨#[]⟩, .slice none 0 0] := by
    rw [← hW1]; exact (Box.Holds.made w _ _).alloc _
  have hk2 : Box.Holds W1 (w.heap.size + 1) 28 #[.int .i64 2, .bool G, .slice a2 n c2, .int .u64 0, .string ⟨#[]⟩, .slice none 0 0] := by
    rw [← hW1]
    have := Box.Holds.made (w.alloc (.cells #[.int .i64 2, .bool G, .slice a1 n c1, .int .u64 0, .string ⟨#[]⟩, .slice none 0 0] 28)) 28 #[.int .i64 2, .bool G, .slice a2 n c2, .int .u64 0, .string ⟨#[]⟩, .slice none 0 0]
    rwa [World.size_alloc] at this
  have hkeep := Lib.hid fun W (hW : Below W1.heap.size W1 W) => cells12 (hk1.later hW) (hk2.later hW)
  have hup := Lib.hid fun W (hW : Below W1.heap.size W1 W) => hb1.trans (hW.mono hb1.size)
  have hd0 := Lib.hid (show Below W1.heap.size W1 W1.drew from Box.below_drawn (Below.refl W1.heap.size W1) 1)
  have hW1' := Lib.hid hW1
  have hn9 : n ≤ 2147483647 := by omega
  clear r1 r2 l1 l2 n1 n2 hGV hn hW1 hb1 hk1 hk2 hV hG hml
  go_enter Tryz.func37, Tryz.ntmps37
  go_wp2_with fail
  rw [hW1'.out]
  have j1 := hkeep.out W1.drew hd0.out
  unfold Cells12 at j1
  go_region_held3 (fun W => W.cell? ⟨w.heap.size, 0, none⟩ = some (.int .i64 2) ∧ W.cell? ⟨w.heap.size, 1, none⟩ = some (.bool G) ∧ W.cell? ⟨w.heap.size, 2, none⟩ = some (.slice a1 n c1) ∧ W.cell? ⟨w.heap.size, 3, none⟩ = some (.int .u64 0) ∧ W.cell? ⟨w.heap.size, 4, none⟩ = some (.string ⟨#[]⟩) ∧ W.cell? ⟨w.heap.size, 5, none⟩ = some (.slice none 0 0) ∧ W.cell? ⟨w.heap.size + 1, 0, none⟩ = some (.int .i64 2) ∧ W.cell? ⟨w.heap.size + 1, 1, none⟩ = some (.bool G) ∧ W.cell? ⟨w.heap.size + 1, 2, none⟩ = some (.slice a2 n c2) ∧ W.cell? ⟨w.heap.size + 1, 3, none⟩ = some (.int .u64 0) ∧ W.cell? ⟨w.heap.size + 1, 4, none⟩ = some (.string ⟨#[]⟩) ∧ W.cell? ⟨w.heap.size + 1, 5, none⟩ = some (.slice none 0 0))
    (first | go_keep | exact j1 | exact j2 | exact j3 | exact j4)
    (first
      | (go_at_call 67; (with_reducible refine (hnum1.out W1.drew (hup.out _ hd0.out)).mono ?_); rintro e w3 ⟨⟨v3, rfl, hv3⟩, hb3⟩; have hb3' := hd0.out.trans (hb3.mono hd0.out.size); have j2 := hkeep.out w3 hb3'; unfold Cells12 at j2)
      | (go_at_call 67; (with_reducible refine (hnum2.out w3 (hup.out _ hb3')).mono ?_); rintro e w4 ⟨⟨v4, rfl, hv4⟩, hb4⟩; have hb4' := hb3'.trans (hb4.mono hb3'.size); have j3 := hkeep.out w4 hb4'; unfold Cells12 at j3)
      | (go_at_call 68; (with_reducible refine (hcmp.out v3 v4 0 w4 ((hv3.later hb4).mono (Nat.zero_le _)) (hv4.mono (Nat.zero_le _))).mono ?_); rintro e w5 ⟨rfl, hb5⟩; have hb5' := hb4'.trans (hb5.mono hb4'.size); have j4 := hkeep.out w5 hb5'; unfold Cells12 at j4))
  have hfin := Lib.hid (hup.out _ hb5')
  clear j1 j2 j3 j4 hb3 hb4 hb5 hb3' hb4' hb5' hv3 hv4
  go_wp2
  go_ret
  exact ⟨rfl, hfin.out⟩
theorem same_any (x y : V6) (s : Sc) (w : World) (hs : s.ok) (hx : IsSc w x s) (hy : IsSc w y s) : Calls Tryz.prog 37 #[.agg x.arr, .agg y.arr] w fun e w' => e = .returned (.bool true) ∧ Below w.heap.size w w' := by
  cases s with
  | none =>
    obtain rfl : x = _ := hx
    obtain rfl : y = _ := hy
    exact same_none
  | bool b =>
    obtain rfl : x = _ := hx
    obtain rfl : y = _ := hy
    exact same_bits 1 (.inl rfl) _
  | float b =>
    obtain rfl : x = _ := hx
    obtain rfl : y = _ := hy
    exact same_bits 3 (.inr rfl) _
  | text k t =>
    obtain rfl : x = _ := hx
    obtain rfl : y = _ := hy
    cases k
    · exact same_text 4 (.inl rfl) _
    · exact same_text 5 (.inr rfl) _
  | int G V =>
    obtain ⟨u1, rfl, h1⟩ := hx
    obtain ⟨u2, rfl, h2⟩ := hy
    exact same_int G V hs.1 hs.2 u1 u2 w h1 h2
end Go.Proofs.YtafbheamnjmfoaaGreat.Sc
