/-
  The package's exclusive or of integers, one below 0. The package's exclusive or of integers, the first below 0.
-/
import Derived.Test.YtaappbnbjpbbcaaBigXor
namespace Go.Proofs.Ytaappbnbjpbbcaa.Big
open Go.RowKit Go.WideShapes Go.Proofs.Ytaappbnbjpbbcaa.Own Go.Proofs.Ytaappbnbjpbbcaa.Num Go.Proofs.Ytaappbnbjpbbcaa.Ref Go.Proofs.Ytaappbnbjpbbcaa.Nat_
set_option linter.unusedVariables false

theorem len_xor (a b n : Nat) (ha : len W a ≤ n) (hb : len W b ≤ n) : len W (a ^^^ b) ≤ n :=
  len_le W_two (xor_lt a b n (Nat.lt_of_lt_of_le (len_lt W_two a) (Nat.pow_le_pow_right W_pos ha)) (Nat.lt_of_lt_of_le (len_lt W_two b) (Nat.pow_le_pow_right W_pos hb)))

set_option maxHeartbeats 4000000 in
set_option maxRecDepth 100000 in
theorem bxor_ft (g gx gy X Y : Nat) (w : World) (hg : Box.Holds w g 95 #[.bool false, .slice none 0 0]) (hx : BigAt w gx false X) (hy : BigAt w gy true Y) (hm : len W X ≤ 5000) (hm2 : len W Y ≤ 5000) (hpos : 2 ≤ X ∨ 2 ≤ Y) :
    Calls Try.prog 57 #[.pointer (some ⟨g, 0, none⟩), .pointer (some ⟨gx, 0, none⟩), .pointer (some ⟨gy, 0, none⟩)] w fun e w' => (e = .returned (.pointer (some ⟨g, 0, none⟩)) ∧ Big w' g true ((X ^^^ (Y - 1)) + 1)) ∧ Below g w w' := by
  obtain ⟨v, Bx, hkx, hnx, -⟩ := hx
  obtain ⟨u, By, hky, hny, hY0⟩ := hy
  have hone := Lib.hid fun b wr (hW : Below b.heap.size b wr) => one_at b wr hW
  have hlenY : len W (Y - 1) ≤ 5000 := Nat.le_trans (len_mono W_two (Nat.sub_le Y 1)) hm2
  have hlenM : len W (X ^^^ (Y - 1)) ≤ 5000 := len_xor _ _ _ hm hlenY
  have hs1 := Lib.hid fun wr h (hW : Below w.heap.size w wr) hY => sub_one_at u Y By w wr h hny (hY0 rfl) hm2 hW hY
  have hl := Lib.hid fun b wr u B2 (hwb : Below w.heap.size w b) (h2 : IsNat wr B2 u (Y - 1)) (hW : Below b.heap.size b wr) => xor_at v u X (Y - 1) Bx B2 b wr (hnx.later (hwb.trans (hW.mono hwb.size))) h2 hm hlenY (by omega) hW
  obtain ⟨M0, hM0⟩ : ∃ M, X ^^^ (Y - 1) = M := ⟨_, rfl⟩
  rw [hM0] at hl hlenM ⊢
  have hadd := Lib.hid fun b wr v B h (h1 : IsNat wr B v M0) (hW : Below b.heap.size b wr) hY => add_one_at v M0 B b wr h h1 hlenM hW hY
  have hd := Lib.hid fun q => Box.below_drawn (Below.refl w.heap.size w) q
  obtain ⟨a1, c1, rfl, -, -⟩ := hnx.slice
  obtain ⟨a2, c2, rfl, -, -⟩ := hny.slice
  obtain ⟨n1, hn1⟩ : ∃ n, len W X = n := ⟨_, rfl⟩
  obtain ⟨n2, hn2⟩ : ∃ n, len W Y = n := ⟨_, rfl⟩
  rw [hn1] at hl hkx
  rw [hn2] at hs1 hky
  have k0 := hg.cell 0
  have k1 := hg.cell 1
  have x0 := hkx.cell 0
  have x1 := hkx.cell 1
  have y0 := hky.cell 0
  have y1 := hky.cell 1
  simp at k0 k1 x0 x1 y0 y1
  have hlt := hg.lt
  have hltx := hkx.lt
  have hlty := hky.lt
  obtain ⟨M, hM⟩ : ∃ M, M0 + 1 = M := ⟨_, rfl⟩
  rw [hM] at hadd ⊢
  have hM0p : 0 < M := by omega
  have hend := Lib.hid fun w1 r (hu : IsNat w1 w.heap.size r M) (hb : Below w.heap.size w w1) => bigStore hg hu hb true (fun _ => hM0p)
  have hcell := Lib.hid fun W (hW : Below w.heap.size w W) => (show W.cell? ⟨g, 1, none⟩ = some (.slice none 0 0) ∧ W.cell? ⟨gx, 1, none⟩ = some (.slice a1 n1 c1) ∧ W.cell? ⟨gy, 1, none⟩ = some (.slice a2 n2 c2) from ⟨(hW.cell (p := ⟨g, 1, none⟩) hlt).trans k1, (hW.cell (p := ⟨gx, 1, none⟩) hltx).trans x1, (hW.cell (p := ⟨gy, 1, none⟩) hlty).trans y1⟩)
  clear hg hkx hky hnx hny hn1 hn2 hM hm hm2 hpos hY0 hM0 hlenM hM0p hlenY
  go_enter Try.func57, Try.ntmps57
  go_wp2_with fail
  go_quiet (fail)
  go_wp2_with fail
  go_region_held3 (fun W => W.cell? ⟨g, 1, none⟩ = some (.slice none 0 0) ∧ W.cell? ⟨gx, 1, none⟩ = some (.slice a1 n1 c1) ∧ W.cell? ⟨gy, 1, none⟩ = some (.slice a2 n2 c2))
    (first | go_keep | exact j1 | exact j2)
    (first
      | (go_at_call 79; refine (hone.out w _ (hd.out _)).mono ?_; rintro e w1 ⟨⟨h1, rfl, ho1⟩, hb1⟩; have j1 := hcell.out w1 hb1)
      | (go_at_call 78; refine (hs1.out _ _ hb1 ho1).mono ?_; rintro e w2 ⟨⟨t1, rfl, ht1⟩, hb2⟩; have j2 := hcell.out w2 hb2))
  clear ho1 hb1 j1
  have hd2 := Lib.hid (show Below w2.heap.size w2 w2.drew from Box.below_drawn (Below.refl _ _) 1)
  have hcell2 := Lib.hid fun W (hW : Below w2.heap.size w2 W) => hcell.out W (hb2.trans (hW.mono hb2.size))
  have e1 := j2.1
  have e2 := j2.2.1
  have e3 := j2.2.2
  have hxr := Lib.hid (hl.out w2 w2.drew t1 _ hb2 (show IsNat w2.drew w.heap.size t1 (Y - 1) from ht1) hd2.out)
  have hb2' := Lib.hid hb2
  have hlt2 := hb2.size
  clear hl hs1 hcell ht1 hb2 j2 k0 k1 x0 x1 y0 y1
  go_wp2_with fail
  go_region_with ((first
    | (go_at_call 80; refine hxr.out.mono ?_; rintro e w3 ⟨⟨r3, rfl, ho3⟩, hb3⟩; obtain ⟨A1, A2, A3⟩ := hcell2.out w3 hb3)
    | (go_at_call 79; refine (hone.out w3 w3 (Below.refl _ _)).mono ?_; rintro e w4 ⟨⟨h4, rfl, ho4⟩, hb4⟩; have hb4' := hb3.trans (hb4.mono hb3.size); obtain ⟨B1, B2, B3⟩ := hcell2.out w4 hb4')
    | (go_at_call 81; refine (hadd.out w2 w4 r3 _ h4 (ho3.later hb4) hb4' ho4).mono ?_; rintro e w5 ⟨⟨r5, rfl, ho5⟩, hb5⟩; obtain ⟨a, c, rfl, k0, k1, hlt1, f0, f1, hfin⟩ := hend.out w5 _ (ho5.mono hlt2) (hb2'.out.trans (hb5.mono hlt2)); have hfin' := Lib.hid hfin; clear hfin)))
  all_goals
    go_wp2
    go_ret
    exact ⟨⟨rfl, hfin'.out.1⟩, hfin'.out.2⟩

end Go.Proofs.Ytaappbnbjpbbcaa.Big
namespace Go.Proofs.Ytaappbnbjpbbcaa.Big
open Go.RowKit Go.WideShapes Go.Proofs.Ytaappbnbjpbbcaa.Own Go.Proofs.Ytaappbnbjpbbcaa.Num Go.Proofs.Ytaappbnbjpbbcaa.Ref Go.Proofs.Ytaappbnbjpbbcaa.Nat_
set_option linter.unusedVariables false

set_option maxHeartbeats 4000000 in
set_option maxRecDepth 100000 in
theorem bxor_tf (g gx gy X Y : Nat) (w : World) (hg : Box.Holds w g 95 #[.bool false, .slice none 0 0]) (hx : BigAt w gx false X) (hy : BigAt w gy true Y) (hm : len W X ≤ 5000) (hm2 : len W Y ≤ 5000) (hpos : 2 ≤ X ∨ 2 ≤ Y) :
    Calls Try.prog 57 #[.pointer (some ⟨g, 0, none⟩), .pointer (some ⟨gy, 0, none⟩), .pointer (some ⟨gx, 0, none⟩)] w fun e w' => (e = .returned (.pointer (some ⟨g, 0, none⟩)) ∧ Big w' g true ((X ^^^ (Y - 1)) + 1)) ∧ Below g w w' := by
  obtain ⟨v, Bx, hkx, hnx, -⟩ := hx
  obtain ⟨u, By, hky, hny, hY0⟩ := hy
  have hone := Lib.hid fun b wr (hW : Below b.heap.size b wr) => one_at b wr hW
  have hlenY : len W (Y - 1) ≤ 5000 := Nat.le_trans (len_mono W_two (Nat.sub_le Y 1)) hm2
  have hlenM : len W (X ^^^ (Y - 1)) ≤ 5000 := len_xor _ _ _ hm hlenY
  have hs1 := Lib.hid fun wr h (hW : Below w.heap.size w wr) hY => sub_one_at u Y By w wr h hny (hY0 rfl) hm2 hW hY
  have hl := Lib.hid fun b wr u B2 (hwb : Below w.heap.size w b) (h2 : IsNat wr B2 u (Y - 1)) (hW : Below b.heap.size b wr) => xor_at v u X (Y - 1) Bx B2 b wr (hnx.later (hwb.trans (hW.mono hwb.size))) h2 hm hlenY (by omega) hW
  obtain ⟨M0, hM0⟩ : ∃ M, X ^^^ (Y - 1) = M := ⟨_, rfl⟩
  rw [hM0] at hl hlenM ⊢
  have hadd := Lib.hid fun b wr v B h (h1 : IsNat wr B v M0) (hW : Below b.heap.size b wr) hY => add_one_at v M0 B b wr h h1 hlenM hW hY
  have hd := Lib.hid fun q => Box.below_drawn (Below.refl w.heap.size w) q
  obtain ⟨a1, c1, rfl, -, -⟩ := hnx.slice
  obtain ⟨a2, c2, rfl, -, -⟩ := hny.slice
  obtain ⟨n1, hn1⟩ : ∃ n, len W X = n := ⟨_, rfl⟩
  obtain ⟨n2, hn2⟩ : ∃ n, len W Y = n := ⟨_, rfl⟩
  rw [hn1] at hl hkx
  rw [hn2] at hs1 hky
  have k0 := hg.cell 0
  have k1 := hg.cell 1
  have x0 := hkx.cell 0
  have x1 := hkx.cell 1
  have y0 := hky.cell 0
  have y1 := hky.cell 1
  simp at k0 k1 x0 x1 y0 y1
  have hlt := hg.lt
  have hltx := hkx.lt
  have hlty := hky.lt
  obtain ⟨M, hM⟩ : ∃ M, M0 + 1 = M := ⟨_, rfl⟩
  rw [hM] at hadd ⊢
  have hM0p : 0 < M := by omega
  have hend := Lib.hid fun w1 r (hu : IsNat w1 w.heap.size r M) (hb : Below w.heap.size w w1) => bigStore hg hu hb true (fun _ => hM0p)
  have hcell := Lib.hid fun W (hW : Below w.heap.size w W) => (show W.cell? ⟨g, 1, none⟩ = some (.slice none 0 0) ∧ W.cell? ⟨gx, 1, none⟩ = some (.slice a1 n1 c1) ∧ W.cell? ⟨gy, 1, none⟩ = some (.slice a2 n2 c2) from ⟨(hW.cell (p := ⟨g, 1, none⟩) hlt).trans k1, (hW.cell (p := ⟨gx, 1, none⟩) hltx).trans x1, (hW.cell (p := ⟨gy, 1, none⟩) hlty).trans y1⟩)
  clear hg hkx hky hnx hny hn1 hn2 hM hm hm2 hpos hY0 hM0 hlenM hM0p hlenY
  go_enter Try.func57, Try.ntmps57
  go_wp2_with fail
  go_quiet (fail)
  go_wp2_with fail
  go_region_held3 (fun W => W.cell? ⟨g, 1, none⟩ = some (.slice none 0 0) ∧ W.cell? ⟨gx, 1, none⟩ = some (.slice a1 n1 c1) ∧ W.cell? ⟨gy, 1, none⟩ = some (.slice a2 n2 c2))
    (first | go_keep | exact j1 | exact j2)
    (first
      | (go_at_call 79; refine (hone.out w _ (hd.out _)).mono ?_; rintro e w1 ⟨⟨h1, rfl, ho1⟩, hb1⟩; have j1 := hcell.out w1 hb1)
      | (go_at_call 78; refine (hs1.out _ _ hb1 ho1).mono ?_; rintro e w2 ⟨⟨t1, rfl, ht1⟩, hb2⟩; have j2 := hcell.out w2 hb2))
  clear ho1 hb1 j1
  have hd2 := Lib.hid (show Below w2.heap.size w2 w2.drew from Box.below_drawn (Below.refl _ _) 1)
  have hcell2 := Lib.hid fun W (hW : Below w2.heap.size w2 W) => hcell.out W (hb2.trans (hW.mono hb2.size))
  have e1 := j2.1
  have e2 := j2.2.1
  have e3 := j2.2.2
  have hxr := Lib.hid (hl.out w2 w2.drew t1 _ hb2 (show IsNat w2.drew w.heap.size t1 (Y - 1) from ht1) hd2.out)
  have hb2' := Lib.hid hb2
  have hlt2 := hb2.size
  clear hl hs1 hcell ht1 hb2 j2 k0 k1 x0 x1 y0 y1
  go_wp2_with fail
  go_region_with ((first
    | (go_at_call 80; refine hxr.out.mono ?_; rintro e w3 ⟨⟨r3, rfl, ho3⟩, hb3⟩; obtain ⟨A1, A2, A3⟩ := hcell2.out w3 hb3)
    | (go_at_call 79; refine (hone.out w3 w3 (Below.refl _ _)).mono ?_; rintro e w4 ⟨⟨h4, rfl, ho4⟩, hb4⟩; have hb4' := hb3.trans (hb4.mono hb3.size); obtain ⟨B1, B2, B3⟩ := hcell2.out w4 hb4')
    | (go_at_call 81; refine (hadd.out w2 w4 r3 _ h4 (ho3.later hb4) hb4' ho4).mono ?_; rintro e w5 ⟨⟨r5, rfl, ho5⟩, hb5⟩; obtain ⟨a, c, rfl, k0, k1, hlt1, f0, f1, hfin⟩ := hend.out w5 _ (ho5.mono hlt2) (hb2'.out.trans (hb5.mono hlt2)); have hfin' := Lib.hid hfin; clear hfin)))
  all_goals
    go_wp2
    go_ret
    exact ⟨⟨rfl, hfin'.out.1⟩, hfin'.out.2⟩

end Go.Proofs.Ytaappbnbjpbbcaa.Big
