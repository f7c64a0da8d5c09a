/-
  A natural divided by one word.
-/
import Derived.Test.YtpjkfdgkkpkljaaGreatDoorSec
import Derived.Test.YtpjkfdgkkpkljaaGreatDoorRatInt
import Derived.Test.YtpjkfdgkkpkljaaGreatDoorBigQuo
namespace Go.Proofs.YtpjkfdgkkpkljaaGreatDoor.Nat_
open Go.RowKit Go.WideShapes Go.Proofs.YtpjkfdgkkpkljaaGreatDoor Go.Proofs.YtpjkfdgkkpkljaaGreatDoor.Own Go.Proofs.YtpjkfdgkkpkljaaGreatDoor.Num Go.Proofs.YtpjkfdgkkpkljaaGreatDoor.Ref Go.Proofs.YtpjkfdgkkpkljaaGreatDoor.Knuth
set_option linter.unusedVariables false

/-- an owned row's block -/
theorem OwnW.wd {w : World} {B : Nat} {v : Value} {l : List Nat} (h : OwnW w B v l) (hl : 0 < l.length) : ∃ g cap L, v = .slice (some ⟨g, 0, none⟩) l.length cap ∧ Wd w g L ∧ L.length = cap ∧ B ≤ g ∧ l.length ≤ cap ∧ cap ≤ maxLen := by
  rcases (show w.ownsRow B 111 1 v l.length (ws l) from h).2 with ⟨rfl, h0⟩ | ⟨g, cap, cur, rfl, hB, hg, hc, hm, hs, ht⟩
  · omega
  · refine ⟨g, cap, cur.toList, rfl, ?_, by rw [Array.length_toList, hs, Nat.mul_one], hB, hc, hm⟩
    show w.heap[g]? = _
    rw [hg]
/-- a block's first words, owned -/
theorem Wd.own {w : World} {g B n cap V : Nat} {L : List Value} (h : Wd w g L) (hc : L.length = cap) (hn : n ≤ cap) (hm : cap ≤ maxLen) (hB : B ≤ g) (hL : ∀ j, j < n → L[j]? = some (.int .u64 ((V / W ^ j % W : Nat) : Int))) : OwnW w B (.slice (some ⟨g, 0, none⟩) n cap) (dig W V n) := by
  unfold OwnW
  rw [dig_length]
  refine ⟨by rw [ws_length, dig_length, Nat.mul_one], .inr ⟨g, cap, L.toArray, rfl, hB, h, hn, hm, by simp [hc], ?_⟩⟩
  rw [Nat.mul_one]
  apply List.ext_getElem?
  intro j
  rw [List.getElem?_take]
  by_cases hj : j < n
  · rw [if_pos hj, wsdig_get _ _ _ hj]
    exact hL j hj
  · rw [if_neg hj, List.getElem?_eq_none (by rw [wsdig_length]; omega)]
theorem IsNat.src0 {w : World} {B g c n : Nat} {X : Nat} (h : IsNat w B (.slice (some ⟨g, 0, none⟩) n c) X) (hn : len W X = n) : Src w g 0 n 0 X := by
  have := h.src 0 hn
  simpa using this
/-- one word of a short division -/
theorem short_step (X y j : Nat) (hy : 0 < y) : (X / W ^ (j + 1) % y * W + X / W ^ j % W) / y = X / y / W ^ j % W ∧ (X / W ^ (j + 1) % y * W + X / W ^ j % W) % y = X / W ^ j % y := by
  have e0 : X / W ^ (j + 1) = X / W ^ j / W := by rw [Nat.pow_succ, Nat.div_div_eq_div_mul]
  have e1 : X / y / W ^ j = X / W ^ j / y := by rw [Nat.div_div_eq_div_mul, Nat.div_div_eq_div_mul, Nat.mul_comm]
  rw [e0, e1]
  generalize X / W ^ j = A
  have hA : A = y * (A / W / y * W) + (A / W % y * W + A % W) := by
    have h1 := Nat.div_add_mod A W
    have h2 := Nat.div_add_mod (A / W) y
    have h3 : y * (A / W / y * W) = y * (A / W / y) * W := by rw [Nat.mul_assoc]
    rw [h3, ← Nat.add_assoc, ← Nat.add_mul, h2, Nat.mul_comm]
    exact h1.symm
  have hlt : (A / W % y * W + A % W) / y < W := digit_lt (Nat.mod_lt _ hy) (Nat.mod_lt _ W_pos)
  constructor
  · conv => rhs; rw [hA, Nat.mul_add_div hy, Nat.add_comm, Nat.add_mul_mod_self_right, Nat.mod_eq_of_lt hlt]
  · conv => rhs; rw [hA, Nat.mul_add_mod]

set_option maxHeartbeats 2000000 in
set_option maxRecDepth 100000 in
theorem divwvw_one (X y gz cz gx dx cx : Nat) (L : List Value) (w : World) (hz : Wd w gz L) (hx : Src w gx dx 1 0 X) (hX : X < W) (hn2 : 1 ≤ L.length) (hy0 : 0 < y) (hy : y < W) (hcz : 1 ≤ cz) (hcx : 1 ≤ cx) (hdx : dx ≤ 10000) :
    Calls Tryz.prog 98 #[.slice (some ⟨gz, 0, none⟩) 1 cz, .int .u64 0, .slice (some ⟨gx, dx, none⟩) 1 cx, .int .u64 y] w fun e w' => e = .returned (.int .u64 ((X % y : Nat) : Int)) ∧ Wd w' gz (mix L 0 (X / y) 0 1) ∧ Only gz w w' := by
  have hx0 := hx 0 (by omega) (by omega)
  rw [Nat.add_zero, Nat.pow_zero, Nat.div_one, Nat.mod_eq_of_lt hX] at hx0
  obtain ⟨⟨cv, hcv⟩, hf0⟩ := hz.some_ (p := 0) (by omega)
  have hc := Lib.hid fun w => bdiv_zero X y hX hy hy0 w
  obtain ⟨D, hD⟩ : ∃ D, X / y = D := ⟨_, rfl⟩
  obtain ⟨R, hR⟩ : ∃ R, X % y = R := ⟨_, rfl⟩
  have hDW : D < W := by rw [← hD]; exact Nat.lt_of_le_of_lt (Nat.div_le_self _ _) hX
  rw [hD, hR] at hc ⊢
  have hfin := Lib.hid (show ∀ q, Wd ((w.drewN q).setCell ⟨gz, 0, none⟩ (.int .u64 (D : Int))) gz (mix L 0 D 0 1) ∧ Only gz w ((w.drewN q).setCell ⟨gz, 0, none⟩ (.int .u64 (D : Int))) from fun q => by
    refine ⟨?_, ((Only.refl gz w).drawn q).setCell _ _⟩
    have hq := mix_up (L := L) (o := 0) (R := D) (a := 0) (k := 0) (by omega) (by omega)
    rw [Nat.add_zero, Nat.pow_zero, Nat.div_one, Nat.mod_eq_of_lt hDW, mix_nil (Nat.le_refl _)] at hq
    rw [← hq]
    exact (hz.drawn q).put _ _)
  clear hz hx hD hR hDW hX
  go_enter Tryz.func98, Tryz.ntmps98
  go_wp2_with fail
  refine (hc.out _).mono ?_
  rintro e w1 ⟨rfl, q, rfl⟩
  go_wp2
  go_ret
  exact ⟨rfl, hfin.out q⟩
set_option maxHeartbeats 2000000 in
set_option maxRecDepth 100000 in
theorem divwvw_many (X y m gz cz gx dx cx : Nat) (L : List Value) (w : World) (hz : Wd w gz L) (hx : Src w gx dx m 0 X) (hX : X < W ^ m) (hm1 : 1 < m) (hm2 : m ≤ 10000) (hn2 : m ≤ L.length) (hne : gx ≠ gz) (hy0 : 0 < y) (hy : y < W) (hcz : m ≤ cz) (hcx : m ≤ cx) (hdx : dx ≤ 10000) :
    Calls Tryz.prog 98 #[.slice (some ⟨gz, 0, none⟩) m cz, .int .u64 0, .slice (some ⟨gx, dx, none⟩) m cx, .int .u64 y] w fun e w' => e = .returned (.int .u64 ((X % y : Nat) : Int)) ∧ Wd w' gz (mix L 0 (X / y) 0 m) ∧ Only gz w w' := by
  have hst := Lib.hid (show ∀ q, Wd (w.drewN q) gz (mix L 0 (X / y) m m) ∧ Only gz w (w.drewN q) ∧ Src (w.drewN q) gx dx m 0 X from fun q => ⟨by rw [mix_nil (Nat.le_refl _)]; exact hz.drawn q, (Only.refl _ _).drawn q, hx⟩)
  have hr := Lib.hid fun w => rcp_any y hy0 hy w
  have hd := Lib.hid fun r x w hr hx => divww_any r x y hy hr hx w
  obtain ⟨M, hM⟩ : ∃ M, rcp (y * 2 ^ nz y) = M := ⟨_, rfl⟩
  rw [hM] at hr hd
  have hne' := Lib.hid hne
  have hX' := Lib.hid (show X / W ^ m = 0 from Nat.div_eq_of_lt hX)
  have hb1 : ((m : Int) == 1) = false := by simp; omega
  clear hz hx hne hX hM
  go_enter Tryz.func98, Tryz.ntmps98
  go_wp2_with fail
  refine (hr.out _).mono ?_
  rintro e w1 ⟨rfl, q, rfl⟩
  have hst2 := Lib.hid (hst.out q)
  clear hst hr
  go_wp2_with fail
  go_loopw [8, 12] (fun r i wr => ∃ k : Nat, k ≤ m ∧ i = .int .i64 ((k : Int) - 1) ∧ r = .int .u64 ((X / W ^ k % y : Nat) : Int) ∧ Hid (Wd wr gz (mix L 0 (X / y) k m) ∧ Only gz w wr ∧ Src wr gx dx m 0 X)) (fun _ i _ => (intOf i + 1).toNat)
  case atStart => exact ⟨m, by omega, by go_num, by rw [hX'.out, Nat.zero_mod]; rfl, hst2⟩
  case round =>
    clear hst2
    obtain ⟨k, hk, rfl, rfl, hI⟩ := hrel
    obtain ⟨hz, ho, hx⟩ := hI.out
    cases k with
    | zero =>
      have hfin := Lib.hid (And.intro hz ho)
      have e0 : X / W ^ 0 % y = X % y := by rw [Nat.pow_zero, Nat.div_one]
      rw [e0]
      clear hI hz ho hx
      go_wp2_with fail
      go_ret
      exact ⟨rfl, hfin.out⟩
    | succ j =>
      have ej : ((j + 1 : Nat) : Int) - 1 = (j : Int) := by omega
      have hx0 := hx j (by omega) (by omega)
      obtain ⟨⟨cv, hcv⟩, hf0⟩ := hz.some_ (p := j) (by rw [mix_length]; omega)
      obtain ⟨s1, s2⟩ := short_step X y j hy0
      obtain ⟨r, hre⟩ : ∃ r, X / W ^ (j + 1) % y = r := ⟨_, rfl⟩
      obtain ⟨x, hxe⟩ : ∃ x, X / W ^ j % W = x := ⟨_, rfl⟩
      have hrl : r < y := by rw [← hre]; exact Nat.mod_lt _ hy0
      have hxl : x < W := by rw [← hxe]; exact Nat.mod_lt _ W_pos
      rw [hre, hxe] at s1 s2
      rw [hxe] at hx0
      rw [hre]
      have hcall := Lib.hid fun w => hd.out r x w hrl hxl
      rw [s1, s2] at hcall
      obtain ⟨D, hD⟩ : ∃ D, X / y / W ^ j % W = D := ⟨_, rfl⟩
      obtain ⟨r', hr'⟩ : ∃ r', X / W ^ j % y = r' := ⟨_, rfl⟩
      rw [hD, hr'] at hcall
      have hr'' := Lib.hid hr'
      have hfin := Lib.hid (show Wd (wr.setCell ⟨gz, j, none⟩ (.int .u64 (D : Int))) gz (mix L 0 (X / y) j m) ∧ Only gz w (wr.setCell ⟨gz, j, none⟩ (.int .u64 (D : Int))) ∧ Src (wr.setCell ⟨gz, j, none⟩ (.int .u64 (D : Int))) gx dx m 0 X from by
        refine ⟨?_, ho.setCell _ _, Src.putDown hx j _ hne'.out⟩
        have hq := mix_down (L := L) (o := 0) (R := X / y) (b := m) (k := j) (by omega) (by omega)
        rw [Nat.zero_add, hD] at hq
        rw [← hq]
        exact hz.put _ _)
      clear s1 s2 hre hxe hD hr' hz ho hx hI hrl hxl
      go_wp2_with fail
      refine (hcall.out _).mono ?_
      rintro e w1 ⟨rfl, rfl⟩
      go_wp2
      go_roundw
      case rel => exact ⟨j, by omega, by go_num, by rw [hr''.out], hfin⟩
      case measure => simp [intOf]
theorem divwvw_any (X y m gz cz gx dx cx : Nat) (L : List Value) (w : World) (hz : Wd w gz L) (hx : Src w gx dx m 0 X) (hX : X < W ^ m) (hm1 : 0 < m) (hm2 : m ≤ 10000) (hn2 : m ≤ L.length) (hne : gx ≠ gz) (hy0 : 0 < y) (hy : y < W) (hcz : m ≤ cz) (hcx : m ≤ cx) (hdx : dx ≤ 10000) :
    Calls Tryz.prog 98 #[.slice (some ⟨gz, 0, none⟩) m cz, .int .u64 0, .slice (some ⟨gx, dx, none⟩) m cx, .int .u64 y] w fun e w' => e = .returned (.int .u64 ((X % y : Nat) : Int)) ∧ Wd w' gz (mix L 0 (X / y) 0 m) ∧ Only gz w w' := by
  by_cases h : m = 1
  · subst h
    exact divwvw_one X y gz cz gx dx cx L w hz hx (by simpa using hX) hn2 hy0 hy hcz hcx hdx
  · exact divwvw_many X y m gz cz gx dx cx L w hz hx hX (by omega) hm2 hn2 hne hy0 hy hcz hcx hdx
/-- quotient and rest of a division by a word -/
def QuoW (w : World) (X y : Nat) (e : Ending) (w' : World) : Prop := (∃ u, e = .returned (.tuple #[u, .int .u64 ((X % y : Nat) : Int)]) ∧ IsNat w' w.heap.size u (X / y)) ∧ Below w.heap.size w w'
set_option maxHeartbeats 2000000 in
set_option maxRecDepth 100000 in
theorem ndivw_any (v : Value) (X y B : Nat) (w : World) (h : IsNat w B v X) (hm : len W X ≤ 10000) (hy0 : 0 < y) (hy : y < W) : Calls Tryz.prog 83 #[.slice none 0 0, v, .int .u64 y] w (QuoW w X y) := by
  by_cases h1 : y = 1
  · subst h1
    refine (Big.divw_one v X B w h hm).mono ?_
    rintro e w' ⟨⟨u, rfl, hu⟩, hb⟩
    refine ⟨⟨u, by rw [Nat.mod_one]; rfl, by rw [Nat.div_one]; exact hu⟩, hb⟩
  · have hx := h
    rcases hx.shape with ⟨rfl, rfl⟩ | ⟨g, cap, rfl, hg, hB, hc, hcell⟩
    · have d0 : ((y : Int) == 0) = false := by simp; omega
      have d1 : ((y : Int) == 1) = false := by simp; omega
      have hyy : y < 18446744073709551616 := hy
      have hfin := Lib.hid (show QuoW w 0 y (.returned (.tuple #[.slice none 0 0, .int .u64 0])) w from ⟨⟨_, by rw [Nat.zero_mod]; rfl, by rw [Nat.zero_div]; exact World.ownsRow_nil _ _ _ _⟩, Below.refl _ _⟩)
      clear h hx hy
      go_enter Tryz.func83, Tryz.ntmps83
      go_wp2
      go_ret2
      exact hfin.out
    · have d0 : ((y : Int) == 0) = false := by simp; omega
      have d1 : ((y : Int) == 1) = false := by simp; omega
      obtain ⟨m, hmE⟩ : ∃ m, len W X = m := ⟨_, rfl⟩
      rw [hmE] at hm hc hx h ⊢
      have hXm : X < W ^ m := by rw [← hmE]; exact len_lt W_two X
      by_cases hm0 : m = 0
      · subst hm0
        obtain rfl : X = 0 := by simpa using hXm
        have hyy : y < 18446744073709551616 := hy
        have hfin := Lib.hid (show QuoW w 0 y (.returned (.tuple #[.slice none 0 0, .int .u64 0])) w from ⟨⟨_, by rw [Nat.zero_mod]; rfl, by rw [Nat.zero_div]; exact World.ownsRow_nil _ _ _ _⟩, Below.refl _ _⟩)
        clear h hx hy hcell hmE hXm
        go_enter Tryz.func83, Tryz.ntmps83
        go_wp2
        go_ret2
        exact hfin.out
      · have dm : ((m : Int) == 0) = false := by simp; omega
        have hmk := Lib.hid (make_any m (by omega) w)
        have hsrc := Lib.hid (IsNat.src0 h hmE)
        have hXm' := Lib.hid hXm
        have hyy := Lib.hid hy
        have hy64 : y < 18446744073709551616 := hy
        clear h hx hcell hmE hXm hy
        go_enter Tryz.func83, Tryz.ntmps83
        go_wp2_with fail
        refine hmk.out.mono ?_
        rintro e w1 ⟨⟨z, rfl, hz⟩, hb1⟩
        obtain ⟨gz, cz, L, rfl, hzw, hzl, hzB, hzc, hzm⟩ := OwnW.wd hz (by rw [dig_length]; omega)
        rw [dig_length] at hzc ⊢
        have hcall := Lib.hid (divwvw_any X y m gz cz g 0 cap L w1 hzw (Src.later hsrc.out hb1 hg) hXm'.out (by omega) (by omega) (by omega) (by omega) hy0 hyy.out hzc hc (by omega))
        have hb1' := Lib.hid hb1
        have hzm' := Lib.hid hzm
        clear hz hzw hb1 hmk hsrc hzm
        go_wp2_with fail
        refine hcall.out.mono ?_
        rintro e w2 ⟨rfl, hz2, ho2⟩
        have hb2 : Below w.heap.size w w2 := ho2.below hb1'.out hzB
        have hnorm := Lib.hid (norm_any (.slice (some ⟨gz, 0, none⟩) m cz) (X / y) m w.heap.size w2 (Wd.own hz2 (by rw [mix_length]; exact hzl) hzc hzm'.out hzB fun j hj => by
          have := mix_in (L := L) (o := 0) (R := X / y) (a := 0) (b := m) j (by omega) hj (by omega)
          rw [Nat.zero_add] at this
          exact this) (Nat.lt_of_le_of_lt (Nat.div_le_self _ _) hXm'.out) (by omega))
        have hb2' := Lib.hid hb2
        obtain ⟨R, hR⟩ : ∃ R, X % y = R := ⟨_, rfl⟩
        rw [hR]
        have hR' := Lib.hid hR
        have hRl : R < 18446744073709551616 := by rw [← hR]; exact Nat.lt_trans (Nat.mod_lt _ hy0) hy64
        clear hz2 ho2 hb2 hR hcall hb1' hzm' hzl
        go_wp2_with fail
        refine hnorm.out.mono ?_
        rintro e w3 ⟨⟨u, rfl, hu⟩, rfl⟩
        have hfin := Lib.hid (show QuoW w X y (.returned (.tuple #[u, .int .u64 R])) w2 from ⟨⟨u, by rw [hR'.out], hu⟩, hb2'.out⟩)
        clear hu hnorm
        go_wp2
        go_ret2
        exact hfin.out
theorem len_word {Y : Nat} (h0 : 0 < Y) (h : Y < W) : len W Y = 1 := len_eq W_two (by simpa using h) (fun _ => by simp; omega)
set_option maxHeartbeats 2000000 in
set_option maxRecDepth 100000 in
theorem ndiv_word (v d : Value) (X Y B B2 : Nat) (w : World) (h : IsNat w B v X) (hd : IsNat w B2 d Y) (hm : len W X ≤ 10000) (hY0 : 0 < Y) (hY : Y < W) :
    Calls Tryz.prog 68 #[.slice none 0 0, .pointer none, .slice none 0 0, v, d] w (Big.Parts w (X / Y) (X % Y)) := by
  have hs := Lib.hid (ndivw_any v X Y B w h hm hY0 hY)
  have l1 := len_word hY0 hY
  obtain ⟨a, c, rfl, hc, hr⟩ := h.slice
  obtain ⟨n, hn⟩ : ∃ n, len W X = n := ⟨_, rfl⟩
  rw [hn] at hs hc hm ⊢
  obtain ⟨a2, c2, rfl, hc2, hr2⟩ := hd.slice
  rw [l1] at hc2 ⊢
  obtain ⟨g2, rfl, hcell⟩ := hr2.at_ (j := 0) (by omega)
  rw [Nat.pow_zero, Nat.div_one, Nat.mod_eq_of_lt hY] at hcell
  obtain ⟨R, hR⟩ : ∃ R, X % Y = R := ⟨_, rfl⟩
  obtain ⟨Q, hQ⟩ : ∃ Q, X / Y = Q := ⟨_, rfl⟩
  unfold QuoW at hs
  rw [hR, hQ] at hs ⊢
  have hRW : R < W := by rw [← hR]; exact Nat.lt_trans (Nat.mod_lt _ hY0) hY
  have hz := Lib.hid fun W => Big.setword_zero W
  have h1 := Lib.hid fun (h0 : 0 < R) W => Big.setword_1 R h0 hRW W
  have lR := Lib.hid fun (h0 : 0 < R) => len_word h0 hRW
  clear h hr hd hr2 hR hQ hn hRW
  go_enter Tryz.func68, Tryz.ntmps68
  go_wp2_with fail
  refine hs.out.mono ?_
  rintro e w1 ⟨⟨u, rfl, hu⟩, hb⟩
  obtain ⟨aq, cq, rfl, -, -⟩ := hu.slice
  have hu' := Lib.hid hu
  have hb' := Lib.hid hb
  clear hu hb hs
  rcases Nat.eq_zero_or_pos R with h0 | h0
  · subst h0
    have hfin := Lib.hid (show Big.Parts w Q 0 (.returned (.tuple #[.slice aq (len W Q) cq, .slice none 0 0])) w1 from ⟨⟨aq, cq, none, 0, rfl, hu'.out, World.ownsRow_nil _ _ _ _⟩, hb'.out⟩)
    go_wp2_with fail
    refine (hz.out _).mono ?_
    rintro e w2 ⟨rfl, rfl⟩
    go_wp2
    go_ret2
    exact hfin.out
  · have hlen := lR.out h0
    go_wp2_with fail
    refine (h1.out h0 _).mono ?_
    rintro e w2 ⟨⟨g, rfl, hg⟩, hb2⟩
    have hfin := Lib.hid (show Big.Parts w Q R (.returned (.tuple #[.slice aq (len W Q) cq, .slice (some ⟨g, 0, none⟩) 1 1])) w2 from by
      refine ⟨⟨aq, cq, some ⟨g, 0, none⟩, 1, by rw [hlen], hu'.out.later hb2, ?_⟩, hb'.out.trans (hb2.mono hb'.out.size)⟩
      rw [hlen]
      exact World.ownsRow.mono hg hb'.out.size)
    clear hg hb2 hlen
    go_wp2
    go_ret2
    exact hfin.out
set_option maxHeartbeats 2000000 in
set_option maxRecDepth 100000 in
theorem ndiv_less (v d : Value) (X Y B B2 : Nat) (w : World) (h : IsNat w B v X) (hd : IsNat w B2 d Y) (hm : len W X ≤ 10000) (hm2 : len W Y ≤ 10000) (hl : 2 ≤ len W Y) (hXY : X < Y) :
    Calls Tryz.prog 68 #[.slice none 0 0, .pointer none, .slice none 0 0, v, d] w (Big.Parts w (X / Y) (X % Y)) := by
  have hcmp := Lib.hid (ncmp_any v d X Y B B2 w h hd hm hm2)
  have hset := Lib.hid fun w' (hb : Below w.heap.size w w') => nset_any v X B w' (h.later hb) hm
  have e1 : cmpN X Y = -1 := by unfold cmpN; rw [if_pos hXY]
  rw [e1] at hcmp
  rw [Nat.div_eq_of_lt hXY, Nat.mod_eq_of_lt hXY]
  obtain ⟨a, c, rfl, hc, hr⟩ := h.slice
  obtain ⟨n, hn⟩ : ∃ n, len W X = n := ⟨_, rfl⟩
  rw [hn] at hcmp hset ⊢
  obtain ⟨a2, c2, rfl, hc2, hr2⟩ := hd.slice
  obtain ⟨k, hk⟩ : ∃ k, len W Y = k := ⟨_, rfl⟩
  rw [hk] at hl hcmp ⊢
  have l0 : ((k : Int) == 0) = false := by simp; omega
  have l1 : ((k : Int) == 1) = false := by simp; omega
  have hn' := Lib.hid hn
  clear h hr hd hr2 hc hc2 hn hk hm hm2 hXY e1
  go_enter Tryz.func68, Tryz.ntmps68
  go_wp2_with fail
  refine hcmp.out.mono ?_
  rintro e w1 ⟨rfl, hb⟩
  have hs := Lib.hid (hset.out w1 hb)
  have hb' := Lib.hid hb
  clear hb hset hcmp
  go_wp2_with fail
  refine hs.out.mono ?_
  rintro e w2 ⟨⟨u, rfl, hu⟩, hb2⟩
  obtain ⟨aq, cq, rfl, -, -⟩ := hu.slice
  have hfin := Lib.hid (show Big.Parts w 0 X (.returned (.tuple #[.slice none 0 0, .slice aq (len W X) cq])) w2 from
    ⟨⟨none, 0, aq, cq, rfl, World.ownsRow_nil _ _ _ _, World.ownsRow.mono hu hb'.out.size⟩, hb'.out.trans (hb2.mono hb'.out.size)⟩)
  clear hu hb2 hs
  go_wp2
  go_ret2
  exact hfin.out
end Go.Proofs.YtpjkfdgkkpkljaaGreatDoor.Nat_
