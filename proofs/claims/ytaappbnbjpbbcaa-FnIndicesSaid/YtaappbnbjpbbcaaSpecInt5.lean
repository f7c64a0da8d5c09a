/-
  The reference's integers: Int64.
-/
import Derived.Test.YtaappbnbjpbbcaaSpecInt3
import Derived.Test.YtaappbnbjpbbcaaSpecInt4
namespace Go.Proofs.Ytaappbnbjpbbcaa.Ref
open Go.RowKit Go.WideShapes Go.Proofs.Ytaappbnbjpbbcaa.Own Go.Proofs.Ytaappbnbjpbbcaa.Num
set_option linter.unusedVariables false

theorem ret_two {k : IntKind} {a b : Int} {c d : Bool} (h : a = b) (h2 : c = d) : Ending.returned (.tuple #[.int k a, .bool c]) = .returned (.tuple #[.int k b, .bool d]) := by rw [h, h2]

set_option maxHeartbeats 1000000 in
set_option maxRecDepth 100000 in
theorem rint64_any (x : Value) (neg : Bool) (m B : Nat) (w : World) (h : IsInt w B x neg m) (hm : (mag m).length ≤ 2147483647) :
    Calls Try.prog 12 #[x] w fun e w' => e = .returned (.tuple #[.int .i64 (get64 (sg neg m)), .bool (fits64 (sg neg m))]) ∧ Below w.heap.size w w' := by
  obtain ⟨Z, hZ⟩ : ∃ Z, sg neg m = Z := ⟨_, rfl⟩
  have sm1 := Lib.hid fun W => small_any (-9223372036854775808) (by omega) (by omega) W
  have sm2 := Lib.hid fun W => small_any 9223372036854775807 (by omega) (by omega) W
  have l1 : (mag (-9223372036854775808 : Int).natAbs).length ≤ 2147483647 := by rw [mag_length]; exact Nat.le_trans (len_le (n := 8) (by omega) (by decide)) (by omega)
  have l2 : (mag (9223372036854775807 : Int).natAbs).length ≤ 2147483647 := by rw [mag_length]; exact Nat.le_trans (len_le (n := 8) (by omega) (by decide)) (by omega)
  have c1 : Hid (∀ W v B', Below w.heap.size w W → IsInt W B' v (decide ((-9223372036854775808 : Int) < 0)) (-9223372036854775808 : Int).natAbs → Calls Try.prog 29 #[x, v] W fun e w' => e = .returned (.int .i64 (cmpZ Z (-9223372036854775808))) ∧ Below W.heap.size W w') :=
    Lib.hid fun W v B' hb hv => by
      have := cmp_any x v neg _ m _ 0 W ((h.later hb).mono (Nat.zero_le _)) (hv.mono (Nat.zero_le _)) hm l1
      rw [hZ] at this
      exact this
  have c2 : Hid (∀ W v B', Below w.heap.size w W → IsInt W B' v (decide ((9223372036854775807 : Int) < 0)) (9223372036854775807 : Int).natAbs → Calls Try.prog 29 #[x, v] W fun e w' => e = .returned (.int .i64 (cmpZ Z 9223372036854775807)) ∧ Below W.heap.size W w') :=
    Lib.hid fun W v B' hb hv => by
      have := cmp_any x v neg _ m _ 0 W ((h.later hb).mono (Nat.zero_le _)) (hv.mono (Nat.zero_le _)) hm l2
      rw [hZ] at this
      exact this
  have lo := Lib.hid fun W (hb : Below w.heap.size w W) => low_any x neg m B W (h.later hb) hm
  obtain ⟨u, rfl, ho, hpos⟩ := h
  obtain ⟨a, cap, rfl, hr, hc⟩ := Rd.of_own ho
  obtain ⟨n, hn⟩ : ∃ n, (mag m).length = n := ⟨_, rfl⟩
  rw [hn] at lo c1 c2 ⊢
  rw [hZ]
  obtain ⟨F, hF⟩ : ∃ F, fits64 Z = F := ⟨_, rfl⟩
  obtain ⟨G, hG⟩ : ∃ G, get64 Z = G := ⟨_, rfl⟩
  rw [hF, hG]
  have hF' := Lib.hid hF
  have hG' := Lib.hid hG
  have hZ' := Lib.hid hZ
  clear hF hG
  clear hr ho hn hm hc hZ l1 l2
  obtain ⟨W2, hW2⟩ : ∃ W2, w.alloc (.cells #[.bool neg, .slice a n cap] 35) = W2 := ⟨_, rfl⟩
  have hB2 : Below w.heap.size w W2 := by rw [← hW2]; exact (Below.refl _ _).alloc (Nat.le_refl _) _
  have hs2 : W2.heap.size = w.heap.size + 1 := by rw [← hW2]; simp
  have h1 : Box.Holds W2 w.heap.size 35 #[.bool neg, .slice a n cap] := by rw [← hW2]; exact Box.Holds.made w _ _
  have hW2' := Lib.hid hW2
  clear hW2
  go_enter Try.func12, Try.ntmps12
  go_upto_region 1 with fail
  rw [hW2'.out]
  have hbox : Hid (∀ W, Below W2.heap.size W2 W → W.cell? ⟨w.heap.size, 0, none⟩ = some (.bool neg) ∧ W.cell? ⟨w.heap.size, 1, none⟩ = some (.slice a n cap) ∧ w.heap.size < W.heap.size ∧ Below w.heap.size w W) := Lib.hid fun W hb => by
    have g := h1.later hb
    have e0 := g.cell 0
    have e1 := g.cell 1
    simp at e0 e1
    exact ⟨e0, e1, g.lt, hB2.trans (hb.mono (by omega))⟩
  have hbox0 := hbox.out _ (Below.refl _ _)
  obtain ⟨d0, d1, d2, -⟩ := hbox0
  obtain ⟨b, hb⟩ : ∃ b, (!fits64 Z) = b := ⟨_, rfl⟩
  have hb' := Lib.hid hb
  clear hb
  go_cut [14] (fun v wx => v = .bool b ∧ Below W2.heap.size W2 wx)
  case first =>
    rcases Int.lt_or_le Z (-9223372036854775808) with hl | hl
    · have e1 : cmpZ Z (-9223372036854775808) = -1 := by unfold cmpZ; rw [if_pos hl]
      obtain rfl : b = true := by rw [← hb'.out, fits64_no (.inl hl)]; rfl
      rw [e1] at c1
      clear e1 hl
      go_region_with (first
        | (go_at_call 22; refine (sm1.out _).mono ?_; rintro e w1 ⟨⟨v1, rfl, hv1⟩, hb1⟩; have hB1 : Below W2.heap.size W2 w1 := Below.trans (by repeat (first | exact Below.refl _ _ | apply Below.drew)) hb1; obtain ⟨d0, d1, d2, hB1'⟩ := hbox.out _ hB1)
        | (go_at_call 29; refine (c1.out _ _ _ (Below.drew hB1') hv1).mono ?_; rintro e w2 ⟨rfl, hb2⟩)
        | (go_at_call 29; refine (c1.out _ _ _ hB1' hv1).mono ?_; rintro e w2 ⟨rfl, hb2⟩))
      all_goals
        go_wp2_with fail
        go_meet
        exact ⟨rfl, hB1.trans (hb2.mono hB1.size)⟩
    · have e1 : decide (cmpZ Z (-9223372036854775808) < 0) = false := by unfold cmpZ; rw [if_neg (by omega)]; split <;> rfl
      have e2 : decide (0 < cmpZ Z 9223372036854775807) = b := by
        rw [← hb'.out]
        unfold cmpZ fits64
        rw [show decide (-9223372036854775808 ≤ Z) = true by simp; omega]
        by_cases h2 : 9223372036854775807 < Z
        · rw [if_neg (by omega), if_pos h2, show decide (Z ≤ 9223372036854775807) = false by simp; omega]; rfl
        · rw [if_neg h2, show decide (Z ≤ 9223372036854775807) = true by simp; omega]; split <;> rfl
      generalize cmpZ Z (-9223372036854775808) = K1 at c1 e1
      generalize cmpZ Z 9223372036854775807 = K2 at c2 e2
      clear hl
      go_region_with (first
        | (go_at_call 22; (with_reducible refine (sm1.out _).mono ?_); rintro e w1 ⟨⟨v1, rfl, hv1⟩, hb1⟩; have hB1 : Below W2.heap.size W2 w1 := Below.trans (by repeat (first | exact Below.refl _ _ | apply Below.drew)) hb1; obtain ⟨d0, d1, d2, hB1'⟩ := hbox.out _ hB1)
        | (go_at_call 22; refine (sm2.out _).mono ?_; rintro e w3 ⟨⟨v3, rfl, hv3⟩, hb3⟩; have hB3 : Below W2.heap.size W2 w3 := (by first | exact hB2c.trans (hb3.mono hB2c.size) | exact (Below.drew hB2c).trans (hb3.mono hB2c.size)); obtain ⟨d0, d1, d2, hB3'⟩ := hbox.out _ hB3)
        | (go_at_call 29; (with_reducible refine (c1.out _ v1 _ (Below.drew hB1') hv1).mono ?_); rintro e w2 ⟨rfl, hb2⟩; have hB2c : Below W2.heap.size W2 w2 := hB1.trans (hb2.mono hB1.size); obtain ⟨d0, d1, d2, hB2c'⟩ := hbox.out _ hB2c)
        | (go_at_call 29; (with_reducible refine (c1.out _ v1 _ hB1' hv1).mono ?_); rintro e w2 ⟨rfl, hb2⟩; have hB2c : Below W2.heap.size W2 w2 := hB1.trans (hb2.mono hB1.size); obtain ⟨d0, d1, d2, hB2c'⟩ := hbox.out _ hB2c)
        | (go_at_call 29; (with_reducible refine (c2.out _ v3 _ (Below.drew hB3') hv3).mono ?_); rintro e w4 ⟨rfl, hb4⟩)
        | (go_at_call 29; refine (c2.out _ v3 _ hB3' hv3).mono ?_; rintro e w4 ⟨rfl, hb4⟩))
      all_goals
        go_wp2_with fail
        go_meet
        exact ⟨rfl, hB3.trans (hb4.mono hB3.size)⟩
  case rest =>
    obtain ⟨rfl, hbw⟩ := hcut
    obtain ⟨d0, d1, d2, hBc⟩ := hbox.out _ hbw
    have lo' := Lib.hid (lo.out _ hBc)
    have f0 : fits64 Z = !b := by rw [← hb'.out]; simp
    obtain rfl : F = !b := by rw [← hF'.out]; exact f0
    cases b
    · have hz2 : -9223372036854775808 ≤ Z ∧ Z ≤ 9223372036854775807 := by unfold fits64 at f0; simpa using f0
      have hz3 := hZ'.out
      obtain rfl : G = Z := by rw [← hG'.out]; unfold get64; rw [f0]; rfl
      obtain ⟨U, hU⟩ : ∃ U, m % 18446744073709551616 = U := ⟨_, rfl⟩
      rw [hU] at lo'
      have hU2 : U < 18446744073709551616 := by omega
      have hbox' := Lib.hid fun W (hb : Below wc.heap.size wc W) => hbox.out W (hbw.trans (hb.mono hbw.size))
      cases neg
      · have e1 : wrap64 (U : Int) = G := by unfold sg at hz3; simp at hz3; unfold wrap64; omega
        have e1' := Lib.hid e1
        clear e1 hz2 hz3 hU hU2 f0 hbox hbw sm1 sm2 c1 c2
        go_wp2_with fail
        refine lo'.out.mono ?_
        rintro e w5 ⟨rfl, hb5⟩
        obtain ⟨d0, d1, d2, hBd⟩ := hbox'.out _ hb5
        have e1 := e1'.out
        go_wp2
        go_ret2
        exact ⟨ret_two e1 rfl, hBd⟩
      · have e1 : wrap64 (IntKind.u64.wrap (-(U : Int))) = G := by unfold sg at hz3; simp at hz3; rw [IntKind.wrap_u64]; unfold wrap64; omega
        have e1' := Lib.hid e1
        clear e1 hz2 hz3 hU hU2 f0 hbox hbw sm1 sm2 c1 c2
        go_wp2_with fail
        refine lo'.out.mono ?_
        rintro e w5 ⟨rfl, hb5⟩
        obtain ⟨d0, d1, d2, hBd⟩ := hbox'.out _ hb5
        have e1 := e1'.out
        go_wp2
        go_ret2
        exact ⟨ret_two e1 rfl, hBd⟩
    · obtain rfl : G = 0 := by rw [← hG'.out]; unfold get64; rw [f0]; rfl
      clear f0 hbox hbw sm1 sm2 c1 c2
      go_wp2
      go_ret2
      exact ⟨rfl, hBc⟩
end Go.Proofs.Ytaappbnbjpbbcaa.Ref
