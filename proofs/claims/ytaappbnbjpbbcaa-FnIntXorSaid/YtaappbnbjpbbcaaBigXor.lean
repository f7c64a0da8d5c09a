/-
  The exclusive or of two naturals, into a new one. The package's exclusive or of integers. The package's exclusive or of integers, both below 0.
-/
import Derived.Test.YtaappbnbjpbbcaaNatAdd
import Derived.Test.YtaappbnbjpbbcaaNewInt
import Derived.Test.YtaappbnbjpbbcaaTwoLaw
import Derived.Deep.RegionHeld3
namespace Go.Proofs.Ytaappbnbjpbbcaa.Nat_
open Go.RowKit Go.WideShapes Go.Proofs.Ytaappbnbjpbbcaa.Own Go.Proofs.Ytaappbnbjpbbcaa.Num Go.Proofs.Ytaappbnbjpbbcaa.Ref
set_option linter.unusedVariables false

theorem ofInt_64 (a : Nat) : BitVec.ofInt 64 (a : Int) = BitVec.ofNat 64 a := by
  rw [BitVec.ofInt_natCast]
theorem word_xor (a b : Nat) (ha : a < W) (hb : b < W) : bits BinOp.xor IntKind.u64 (a : Int) (b : Int) = ((a ^^^ b : Nat) : Int) := by
  have hl : a ^^^ b < 2 ^ 64 := Nat.xor_lt_two_pow (by rw [W_eq] at ha; simpa using ha) (by rw [W_eq] at hb; simpa using hb)
  show IntKind.u64.wrap ((BitVec.ofInt 64 _ ^^^ BitVec.ofInt 64 _).toNat : Int) = _
  rw [ofInt_64, ofInt_64, BitVec.toNat_xor, BitVec.toNat_ofNat, BitVec.toNat_ofNat, Nat.mod_eq_of_lt (by rw [W_eq] at ha; simpa using ha), Nat.mod_eq_of_lt (by rw [W_eq] at hb; simpa using hb)]
  rw [IntKind.wrap_u64]
  have : (a ^^^ b : Nat) < 18446744073709551616 := by simpa using hl
  omega

set_option maxHeartbeats 2000000 in
set_option maxRecDepth 100000 in
/-- the longer one first -/
theorem nxor_main (X Y m n gx cx cy Bx : Nat) (ay : Option Addr) (By : Nat) (w : World) (hX : IsNat w Bx (.slice (some ⟨gx, 0, none⟩) m cx) X) (hY : IsNat w By (.slice ay n cy) Y) (hm : len W X = m) (hn : len W Y = n) (hnm : n ≤ m) (hm0 : 0 < m) (hm2 : m ≤ 9000) :
    Calls Try.prog 80 #[.slice none 0 0, .slice (some ⟨gx, 0, none⟩) m cx, .slice ay n cy] w fun e w' => (∃ u, e = .returned u ∧ IsNat w' w.heap.size u (X ^^^ Y)) ∧ Below w.heap.size w w' := by
  have hXm : X < W ^ m := by rw [← hm]; exact len_lt W_two X
  have hYn : Y < W ^ n := by rw [← hn]; exact len_lt W_two Y
  have hR : X ^^^ Y < W ^ m := xor_lt X Y m hXm (Nat.lt_of_lt_of_le hYn (Nat.pow_le_pow_right (by decide) hnm))
  have hmk := Lib.hid (make_any m (by omega) w)
  obtain ⟨_, cx', ex, hcx, hrx⟩ := hX.slice
  simp only [Value.slice.injEq] at ex
  obtain ⟨rfl, -, rfl⟩ := ex
  obtain ⟨_, cy', ey, hcy, hry⟩ := hY.slice
  simp only [Value.slice.injEq] at ey
  obtain ⟨rfl, -, rfl⟩ := ey
  rw [hm] at hcx
  rw [hn] at hcy
  have hlx := hrx.lt
  have hsx := Lib.hid (hrx.src0 (n := m) (by rw [hm]; exact Nat.le_refl _) 0)
  have hsy : Hid (n = 0 ∨ ∃ gy, ay = some ⟨gy, 0, none⟩ ∧ gy < w.heap.size ∧ Src w gy 0 n 0 Y) := by
    rcases hry with ⟨rfl, h0⟩ | ⟨gy, rfl, hg, hB, hc⟩
    · exact Lib.hid (.inl (by rw [← hn, h0]; rfl))
    · exact Lib.hid (.inr ⟨gy, rfl, hg, fun j _ hj => by rw [Nat.zero_add]; exact hc j (by omega)⟩)
  have hnorm := Lib.hid fun (v : Value) W' (h : OwnW W' w.heap.size v (dig W (X ^^^ Y) m)) => norm_any v (X ^^^ Y) m w.heap.size W' h hR (by omega)
  have hhi := Lib.hid fun k (hk : n ≤ k) => show (X ^^^ Y) / W ^ k % W = X / W ^ k % W from by
    rw [xor_word, high_zero hYn k hk, Nat.xor_zero]
  have hnn0 : decide (m < n) = false := by simp; omega
  have hnn1 : decide ((m : Int) < n) = false := by simp; omega
  clear hX hY hm hn hXm hYn hR hrx hry
  go_enter Try.func80, Try.ntmps80
  go_wp2_with fail
  refine hmk.out.mono ?_
  rintro e w1 ⟨⟨z, rfl, hz⟩, hb1⟩
  rcases hz.shape with ⟨_, h0⟩ | ⟨gz, cz, rfl, hgz, hBz, hcz, hcell⟩
  · have := congrArg List.length h0
    rw [dig_length] at this
    simp at this
    omega
  rw [dig_length] at hcz hz ⊢
  have hst := Lib.hid (And.intro (hz.vec hb1 hBz (X ^^^ Y)) (show Below w.heap.size w w1 from hb1))
  clear hz hcell hb1
  go_wp2
  go_loopw [10] (fun i wr => ∃ k : Nat, k ≤ n ∧ i = .int .i64 k ∧ Hid (VecAt w.heap.size w wr gz m cz (X ^^^ Y) k (ws (dig W 0 m)))) (fun i _ => n - (intOf i).toNat)
  case atStart => exact ⟨0, by omega, rfl, Lib.hid hst.out.1⟩
  case round =>
    clear hst
    obtain ⟨k, hk, rfl, hI⟩ := hrel
    by_cases hlt : k < n
    · rcases hsy.out with h0 | ⟨gy, rfl, hly, hy⟩
      · omega
      · have hz := hI.out
        obtain ⟨⟨cv, hcv⟩, hf0⟩ := hz.cell (by omega)
        have hx0 := (hsx.out.later hz.2.1 hlx) k (by omega) (by omega)
        have hy0 := (hy.later hz.2.1 hly) k (by omega) hlt
        rw [Nat.zero_add] at hx0 hy0
        obtain ⟨x, hxe⟩ : ∃ x, X / W ^ k % W = x := ⟨_, rfl⟩
        obtain ⟨y, hye⟩ : ∃ y, Y / W ^ k % W = y := ⟨_, rfl⟩
        rw [hxe] at hx0
        rw [hye] at hy0
        have hxW : x < W := by rw [← hxe]; exact Nat.mod_lt _ W_pos
        have hyW : y < W := by rw [← hye]; exact Nat.mod_lt _ W_pos
        have hbx := word_xor x y hxW hyW
        obtain ⟨D, hD⟩ : ∃ D, x ^^^ y = D := ⟨_, rfl⟩
        rw [hD] at hbx
        have hfin := Lib.hid (hz.store (by omega) D (by rw [xor_word, hxe, hye, hD])).drew
        clear hxe hye hxW hyW hD hz hI hy
        go_wp2_with fail
        go_region
        go_wp2
        go_roundw
        case rel => exact ⟨k + 1, by omega, by go_num, hfin⟩
        case measure => simp [intOf]; omega
    · obtain rfl : k = n := by omega
      have hz := hI.out
      by_cases hkm : k = m
      · subst hkm
        have hcp := fun dp sp dc sc ty => run_copy_none (P := Try.prog) wr.drew 93 93 ty 140 dp sp 0 dc 0 sc Try.underlying93 size_word (by simp)
        have hnm2 := Lib.hid (hnorm.out _ _ (hz.drew.own (Nat.le_refl _)))
        have hbel := Lib.hid hz.drew.2.1
        have i1 : (k : Int) ≤ cz := by omega
        have i2 : (k : Int) ≤ cx := by omega
        clear hz hI
        by_cases hz1 : cz = k <;> by_cases hz2 : cx = k
        all_goals
          go_wp2_with fail
          go_region_law ((with_reducible refine step_copy_run rfl _ _ _ _ rfl _ _ rfl rfl _ _ (hcp _ _ _ _) ?_))
          all_goals
            go_wp2_with fail
            have hnm3 := hnm2.out
            try rw [hz1] at hnm3
            with_reducible refine hnm3.mono ?_
            rintro e w3 ⟨⟨u, rfl, hu⟩, rfl⟩
            go_wp2
            go_ret
            exact ⟨⟨_, rfl, hu⟩, hbel.out⟩
      · have hx2 : Src wr.drew gx 0 m 0 X := hsx.out.later hz.drew.2.1 hlx
        obtain ⟨w2, hcp, hz2⟩ := hz.drew.copy (hx2.mono (Nat.zero_le k)) 93 93 Try.underlying93 (m - k) (by omega) (by omega) (fun j hj => hhi.out (k + j) (by omega)) (some ⟨gz, k, none⟩) (some ⟨gx, 0 + k, none⟩) (cz - k) (cx - k) (m - k) (m - k) (by simp) (fun _ => ⟨rfl, rfl⟩)
        rw [Nat.zero_add] at hcp
        rw [show k + (m - k) = m by omega] at hz2
        have hnm2 := Lib.hid (hnorm.out _ _ (hz2.own (Nat.le_refl _)))
        have hbel := Lib.hid hz2.2.1
        have i1 : (m : Int) ≤ cz := by omega
        have i2 : (m : Int) ≤ cx := by omega
        have i3 : (k : Int) ≤ m := by omega
        have i4 : ¬ (cz = k) := by omega
        have i5 : ¬ (cx = k) := by omega
        clear hz hI hx2 hz2
        go_wp2_with fail
        go_region_law ((with_reducible refine step_copy_run rfl _ _ _ _ rfl _ _ rfl rfl _ _ hcp ?_))
        all_goals
          go_wp2_with fail
          refine hnm2.out.mono ?_
          rintro e w3 ⟨⟨u, rfl, hu⟩, rfl⟩
          go_wp2
          go_ret
          exact ⟨⟨_, rfl, hu⟩, hbel.out⟩
set_option maxHeartbeats 2000000 in
set_option maxRecDepth 100000 in
/-- the longer one last -/
theorem nxor_swap (X Y m n gx cx cy Bx : Nat) (ay : Option Addr) (By : Nat) (w : World) (hX : IsNat w Bx (.slice (some ⟨gx, 0, none⟩) m cx) X) (hY : IsNat w By (.slice ay n cy) Y) (hm : len W X = m) (hn : len W Y = n) (hnm : n < m) (hm0 : 0 < m) (hm2 : m ≤ 9000) :
    Calls Try.prog 80 #[.slice none 0 0, .slice ay n cy, .slice (some ⟨gx, 0, none⟩) m cx] w fun e w' => (∃ u, e = .returned u ∧ IsNat w' w.heap.size u (Y ^^^ X)) ∧ Below w.heap.size w w' := by
  have hXm : X < W ^ m := by rw [← hm]; exact len_lt W_two X
  have hYn : Y < W ^ n := by rw [← hn]; exact len_lt W_two Y
  have hR : Y ^^^ X < W ^ m := xor_lt Y X m (Nat.lt_of_lt_of_le hYn (Nat.pow_le_pow_right (by decide) (by omega))) hXm
  have hmk := Lib.hid (make_any m (by omega) w)
  obtain ⟨_, cx', ex, hcx, hrx⟩ := hX.slice
  simp only [Value.slice.injEq] at ex
  obtain ⟨rfl, -, rfl⟩ := ex
  obtain ⟨_, cy', ey, hcy, hry⟩ := hY.slice
  simp only [Value.slice.injEq] at ey
  obtain ⟨rfl, -, rfl⟩ := ey
  rw [hm] at hcx
  rw [hn] at hcy
  have hlx := hrx.lt
  have hsx := Lib.hid (hrx.src0 (n := m) (by rw [hm]; exact Nat.le_refl _) 0)
  have hsy : Hid (n = 0 ∨ ∃ gy, ay = some ⟨gy, 0, none⟩ ∧ gy < w.heap.size ∧ Src w gy 0 n 0 Y) := by
    rcases hry with ⟨rfl, h0⟩ | ⟨gy, rfl, hg, hB, hc⟩
    · exact Lib.hid (.inl (by rw [← hn, h0]; rfl))
    · exact Lib.hid (.inr ⟨gy, rfl, hg, fun j _ hj => by rw [Nat.zero_add]; exact hc j (by omega)⟩)
  have hnorm := Lib.hid fun (v : Value) W' (h : OwnW W' w.heap.size v (dig W (Y ^^^ X) m)) => norm_any v (Y ^^^ X) m w.heap.size W' h hR (by omega)
  have hhi := Lib.hid fun k (hk : n ≤ k) => show (Y ^^^ X) / W ^ k % W = X / W ^ k % W from by
    rw [xor_word, high_zero hYn k hk, Nat.zero_xor]
  have hnn0 : decide (n < m) = true := by simp; omega
  have hnn1 : decide ((n : Int) < m) = true := by simp; omega
  clear hX hY hm hn hXm hYn hR hrx hry
  go_enter Try.func80, Try.ntmps80
  go_wp2_with fail
  refine hmk.out.mono ?_
  rintro e w1 ⟨⟨z, rfl, hz⟩, hb1⟩
  rcases hz.shape with ⟨_, h0⟩ | ⟨gz, cz, rfl, hgz, hBz, hcz, hcell⟩
  · have := congrArg List.length h0
    rw [dig_length] at this
    simp at this
    omega
  rw [dig_length] at hcz hz ⊢
  have hst := Lib.hid (And.intro (hz.vec hb1 hBz (Y ^^^ X)) (show Below w.heap.size w w1 from hb1))
  clear hz hcell hb1
  go_wp2
  go_loopw [10] (fun i wr => ∃ k : Nat, k ≤ n ∧ i = .int .i64 k ∧ Hid (VecAt w.heap.size w wr gz m cz (Y ^^^ X) k (ws (dig W 0 m)))) (fun i _ => n - (intOf i).toNat)
  case atStart => exact ⟨0, by omega, rfl, Lib.hid hst.out.1⟩
  case round =>
    clear hst
    obtain ⟨k, hk, rfl, hI⟩ := hrel
    by_cases hlt : k < n
    · rcases hsy.out with h0 | ⟨gy, rfl, hly, hy⟩
      · omega
      · have hz := hI.out
        obtain ⟨⟨cv, hcv⟩, hf0⟩ := hz.cell (by omega)
        have hx0 := (hsx.out.later hz.2.1 hlx) k (by omega) (by omega)
        have hy0 := (hy.later hz.2.1 hly) k (by omega) hlt
        rw [Nat.zero_add] at hx0 hy0
        obtain ⟨x, hxe⟩ : ∃ x, X / W ^ k % W = x := ⟨_, rfl⟩
        obtain ⟨y, hye⟩ : ∃ y, Y / W ^ k % W = y := ⟨_, rfl⟩
        rw [hxe] at hx0
        rw [hye] at hy0
        have hxW : x < W := by rw [← hxe]; exact Nat.mod_lt _ W_pos
        have hyW : y < W := by rw [← hye]; exact Nat.mod_lt _ W_pos
        have hbx := word_xor y x hyW hxW
        obtain ⟨D, hD⟩ : ∃ D, y ^^^ x = D := ⟨_, rfl⟩
        rw [hD] at hbx
        have hfin := Lib.hid (hz.store (by omega) D (by rw [xor_word, hye, hxe, hD])).drew
        clear hxe hye hxW hyW hD hz hI hy
        go_wp2_with fail
        go_region
        go_wp2
        go_roundw
        case rel => exact ⟨k + 1, by omega, by go_num, hfin⟩
        case measure => simp [intOf]; omega
    · obtain rfl : k = n := by omega
      have hz := hI.out
      by_cases hkm : k = m
      · omega
      · have hx2 : Src wr.drew gx 0 m 0 X := hsx.out.later hz.drew.2.1 hlx
        obtain ⟨w2, hcp, hz2⟩ := hz.drew.copy (hx2.mono (Nat.zero_le k)) 93 93 Try.underlying93 (m - k) (by omega) (by omega) (fun j hj => hhi.out (k + j) (by omega)) (some ⟨gz, k, none⟩) (some ⟨gx, 0 + k, none⟩) (cz - k) (cx - k) (m - k) (m - k) (by simp) (fun _ => ⟨rfl, rfl⟩)
        rw [Nat.zero_add] at hcp
        rw [show k + (m - k) = m by omega] at hz2
        have hnm2 := Lib.hid (hnorm.out _ _ (hz2.own (Nat.le_refl _)))
        have hbel := Lib.hid hz2.2.1
        have i1 : (m : Int) ≤ cz := by omega
        have i2 : (m : Int) ≤ cx := by omega
        have i3 : (k : Int) ≤ m := by omega
        have i4 : ¬ (cz = k) := by omega
        have i5 : ¬ (cx = k) := by omega
        clear hz hI hx2 hz2
        go_wp2_with fail
        go_region_law ((with_reducible refine step_copy_run rfl _ _ _ _ rfl _ _ rfl rfl _ _ hcp ?_))
        all_goals
          go_wp2_with fail
          refine hnm2.out.mono ?_
          rintro e w3 ⟨⟨u, rfl, hu⟩, rfl⟩
          go_wp2
          go_ret
          exact ⟨⟨_, rfl, hu⟩, hbel.out⟩
/-- the exclusive or -/
theorem nxor_any (v u : Value) (X Y B1 B2 : Nat) (w : World) (hX : IsNat w B1 v X) (hY : IsNat w B2 u Y) (hm2 : len W X ≤ 5000) (hn2 : len W Y ≤ 5000) (hpos : 0 < X ∨ 0 < Y) :
    Calls Try.prog 80 #[.slice none 0 0, v, u] w fun e w' => (∃ r, e = .returned r ∧ IsNat w' w.heap.size r (X ^^^ Y)) ∧ Below w.heap.size w w' := by
  obtain ⟨a, c, rfl, hc, -⟩ := hX.slice
  obtain ⟨a2, c2, rfl, hc2, -⟩ := hY.slice
  have p1 := len_pos W_two (v := X)
  have p2 := len_pos W_two (v := Y)
  by_cases h : len W Y ≤ len W X
  · have hm0 : 0 < len W X := by omega
    obtain ⟨g, rfl, -, -⟩ := hX.some_of rfl hm0
    exact nxor_main X Y _ _ g c c2 B1 a2 B2 w hX hY rfl rfl h hm0 (by omega)
  · obtain ⟨g, rfl, -, -⟩ := hY.some_of rfl (by omega)
    exact nxor_swap Y X _ _ g c2 c B2 a B1 w hY hX rfl rfl (by omega) (by omega) (by omega)
end Go.Proofs.Ytaappbnbjpbbcaa.Nat_
namespace Go.Proofs.Ytaappbnbjpbbcaa.Big
open Go.RowKit Go.WideShapes Go.Proofs.Ytaappbnbjpbbcaa.Own Go.Proofs.Ytaappbnbjpbbcaa.Num Go.Proofs.Ytaappbnbjpbbcaa.Ref Go.Proofs.Ytaappbnbjpbbcaa.Nat_
set_option linter.unusedVariables false

/-- the words and the sign stored into z -/
theorem bigStore {w w1 : World} {g : Nat} {u : Value} {M : Nat} {b0 : Bool} {a0 : Value} (hg : Box.Holds w g 95 #[.bool b0, a0]) (hu : IsNat w1 w.heap.size u M) (hb : Below w.heap.size w w1) (b : Bool) (hp : b = true → 0 < M) :
    ∃ a c, u = .slice a (len W M) c ∧ w1.cell? ⟨g, 0, none⟩ = some (.bool b0) ∧ w1.cell? ⟨g, 1, none⟩ = some a0 ∧ g < w1.heap.size ∧ w1.frozen? ⟨g, 0, none⟩ = false ∧ w1.frozen? ⟨g, 1, none⟩ = false ∧
      Big ((w1.setCell ⟨g, 1, none⟩ (.slice a (len W M) c)).setCell ⟨g, 0, none⟩ (.bool b)) g b M ∧ Below g w ((w1.setCell ⟨g, 1, none⟩ (.slice a (len W M) c)).setCell ⟨g, 0, none⟩ (.bool b)) := by
  obtain ⟨a1, c1, rfl, -, -⟩ := hu.slice
  have hlt := hg.lt
  have hk := hg.later hb
  have k0 := hk.cell 0
  have k1 := hk.cell 1
  simp at k0 k1
  refine ⟨a1, c1, rfl, k0, k1, hk.lt, hk.free 0, hk.free 1, ⟨.slice a1 (len W M) c1, ?_, ?_, hp⟩, ((hb.mono (by omega)).setCell (p := ⟨g, 1, none⟩) (Nat.le_refl g) _).setCell (p := ⟨g, 0, none⟩) (Nat.le_refl g) _⟩
  · have := (hk.put 1 (.slice a1 (len W M) c1)).put 0 (.bool b)
    simpa using this
  · exact World.ownsRow.mono (Box.own_above hu (((Box.Above.refl _ _).setCell (by show g < w.heap.size; exact hlt) _).setCell (by show g < w.heap.size; exact hlt) _)) (by omega)

set_option maxHeartbeats 4000000 in
set_option maxRecDepth 100000 in
theorem bxor_ff (g gx gy X Y : Nat) (w : World) (hg : Box.Holds w g 95 #[.bool false, .slice none 0 0]) (hx : BigAt w gx false X) (hy : BigAt w gy false Y) (hm : len W X ≤ 5000) (hm2 : len W Y ≤ 5000) (hpos : 2 ≤ X ∨ 2 ≤ Y) :
    Calls Try.prog 57 #[.pointer (some ⟨g, 0, none⟩), .pointer (some ⟨gx, 0, none⟩), .pointer (some ⟨gy, 0, none⟩)] w fun e w' => (e = .returned (.pointer (some ⟨g, 0, none⟩)) ∧ Big w' g false (X ^^^ Y)) ∧ Below g w w' := by
  obtain ⟨v, Bx, hkx, hnx, -⟩ := hx
  obtain ⟨u, By, hky, hny, -⟩ := hy
  have hl := Lib.hid fun W (hW : Below w.heap.size w W) => (nxor_any v u X Y Bx By W (hnx.later hW) (hny.later hW) hm hm2 (by omega)).mono (fun e w' (h : (∃ r, e = .returned r ∧ IsNat w' W.heap.size r (X ^^^ Y)) ∧ Below W.heap.size W w') => And.intro (show ∃ r, e = .returned r ∧ IsNat w' w.heap.size r (X ^^^ Y) from by obtain ⟨⟨r, h1, h2⟩, _⟩ := h; exact ⟨r, h1, h2.mono hW.size⟩) (hW.trans (h.2.mono hW.size)))
  have hd := Lib.hid fun q => Box.below_drawn (Below.refl w.heap.size w) q
  obtain ⟨a1, c1, rfl, -, -⟩ := hnx.slice
  obtain ⟨a2, c2, rfl, -, -⟩ := hny.slice
  obtain ⟨n1, hn1⟩ : ∃ n, len W X = n := ⟨_, rfl⟩
  obtain ⟨n2, hn2⟩ : ∃ n, len W Y = n := ⟨_, rfl⟩
  rw [hn1] at hl hkx
  rw [hn2] at hl hky
  have k0 := hg.cell 0
  have k1 := hg.cell 1
  have x0 := hkx.cell 0
  have x1 := hkx.cell 1
  have y0 := hky.cell 0
  have y1 := hky.cell 1
  simp at k0 k1 x0 x1 y0 y1
  have hlt := hg.lt
  have hltx := hkx.lt
  have hlty := hky.lt
  obtain ⟨M, hM⟩ : ∃ M, X ^^^ Y = M := ⟨_, rfl⟩
  rw [hM] at hl ⊢
  have hend := Lib.hid fun w1 r (hu : IsNat w1 w.heap.size r M) (hb : Below w.heap.size w w1) => bigStore hg hu hb false (fun h => by cases h)
  clear hg hkx hky hnx hny hn1 hn2 hM hm hm2 hpos
  go_enter Try.func57, Try.ntmps57
  go_wp2_with fail
  go_quiet (fail)
  go_wp2_with fail
  go_region_with (go_at_call 80; refine (hl.out _ (hd.out _)).mono ?_; rintro e w1 ⟨⟨r, rfl, ho⟩, hb⟩; obtain ⟨a, c, rfl, k0, k1, hlt1, f0, f1, hfin⟩ := hend.out w1 _ ho hb; have hfin' := Lib.hid hfin; clear hfin)
  all_goals
    go_wp2
    go_ret
    exact ⟨⟨rfl, hfin'.out.1⟩, hfin'.out.2⟩
end Go.Proofs.Ytaappbnbjpbbcaa.Big
namespace Go.Proofs.Ytaappbnbjpbbcaa.Big
open Go.RowKit Go.WideShapes Go.Proofs.Ytaappbnbjpbbcaa.Own Go.Proofs.Ytaappbnbjpbbcaa.Num Go.Proofs.Ytaappbnbjpbbcaa.Ref Go.Proofs.Ytaappbnbjpbbcaa.Nat_
set_option linter.unusedVariables false

theorem one_at (w wr : World) (hW : Below w.heap.size w wr) : Calls Try.prog 79 #[] wr fun e w' => (∃ h, e = .returned (.slice (some ⟨h, 0, none⟩) 1 1) ∧ IsNat w' h (.slice (some ⟨h, 0, none⟩) 1 1) 1) ∧ Below w.heap.size w w' := by
  refine (one_any wr).mono ?_
  rintro e w' ⟨⟨h, h1, h2, h3⟩, hb⟩
  exact ⟨⟨h, h1, h3⟩, hW.trans (hb.mono hW.size)⟩
theorem sub_one_at (v : Value) (X B : Nat) (w wr : World) (h : Nat) (hX : IsNat w B v X) (hX0 : 0 < X) (hm : len W X ≤ 5000) (hW : Below w.heap.size w wr) (hY : IsNat wr h (.slice (some ⟨h, 0, none⟩) 1 1) 1) :
    Calls Try.prog 78 #[.slice none 0 0, v, .slice (some ⟨h, 0, none⟩) 1 1] wr fun e w' => (∃ u, e = .returned u ∧ IsNat w' w.heap.size u (X - 1)) ∧ Below w.heap.size w w' := by
  refine (nsub_one v X B h h wr (hX.later hW) hX0 hm hY).mono ?_
  rintro e w' ⟨⟨u, h1, h2⟩, hb⟩
  exact ⟨⟨u, h1, h2.mono hW.size⟩, hW.trans (hb.mono hW.size)⟩
theorem xor_at (v u : Value) (X Y B1 B2 : Nat) (w wr : World) (hX : IsNat wr B1 v X) (hY : IsNat wr B2 u Y) (hm : len W X ≤ 5000) (hn : len W Y ≤ 5000) (hpos : 0 < X ∨ 0 < Y) (hW : Below w.heap.size w wr) :
    Calls Try.prog 80 #[.slice none 0 0, v, u] wr fun e w' => (∃ r, e = .returned r ∧ IsNat w' w.heap.size r (X ^^^ Y)) ∧ Below w.heap.size w w' := by
  refine (nxor_any v u X Y B1 B2 wr hX hY hm hn hpos).mono ?_
  rintro e w' ⟨⟨r, h1, h2⟩, hb⟩
  exact ⟨⟨r, h1, h2.mono hW.size⟩, hW.trans (hb.mono hW.size)⟩
theorem add_one_at (v : Value) (X B : Nat) (w wr : World) (h : Nat) (hX : IsNat wr B v X) (hm : len W X ≤ 5000) (hW : Below w.heap.size w wr) (hY : IsNat wr h (.slice (some ⟨h, 0, none⟩) 1 1) 1) :
    Calls Try.prog 81 #[.slice none 0 0, v, .slice (some ⟨h, 0, none⟩) 1 1] wr fun e w' => (∃ u, e = .returned u ∧ IsNat w' w.heap.size u (X + 1)) ∧ Below w.heap.size w w' := by
  refine (nadd_one_nil v X B h h wr hX hm hY).mono ?_
  rintro e w' ⟨⟨u, h1, h2⟩, hb⟩
  exact ⟨⟨u, h1, h2.mono hW.size⟩, hW.trans (hb.mono hW.size)⟩

set_option maxHeartbeats 4000000 in
set_option maxRecDepth 100000 in
theorem bxor_tt (g gx gy X Y : Nat) (w : World) (hg : Box.Holds w g 95 #[.bool false, .slice none 0 0]) (hx : BigAt w gx true X) (hy : BigAt w gy true Y) (hm : len W X ≤ 5000) (hm2 : len W Y ≤ 5000) (hpos : 2 ≤ X ∨ 2 ≤ Y) :
    Calls Try.prog 57 #[.pointer (some ⟨g, 0, none⟩), .pointer (some ⟨gx, 0, none⟩), .pointer (some ⟨gy, 0, none⟩)] w fun e w' => (e = .returned (.pointer (some ⟨g, 0, none⟩)) ∧ Big w' g false ((X - 1) ^^^ (Y - 1))) ∧ Below g w w' := by
  obtain ⟨v, Bx, hkx, hnx, hX0⟩ := hx
  obtain ⟨u, By, hky, hny, hY0⟩ := hy
  have hone := Lib.hid fun b wr (hW : Below b.heap.size b wr) => one_at b wr hW
  have hs1 := Lib.hid fun wr h (hW : Below w.heap.size w wr) hY => sub_one_at v X Bx w wr h hnx (hX0 rfl) hm hW hY
  have hs2 := Lib.hid fun b wr h (hwb : Below w.heap.size w b) (hW : Below b.heap.size b wr) hY => sub_one_at u Y By b wr h (hny.later hwb) (hY0 rfl) hm2 hW hY
  have hl := Lib.hid fun wr v u B1 B2 (h1 : IsNat wr B1 v (X - 1)) (h2 : IsNat wr B2 u (Y - 1)) (hW : Below w.heap.size w wr) => xor_at v u (X - 1) (Y - 1) _ _ w wr h1 h2 (Nat.le_trans (len_mono W_two (Nat.sub_le X 1)) hm) (Nat.le_trans (len_mono W_two (Nat.sub_le Y 1)) hm2) (by omega) hW
  have hd := Lib.hid fun q => Box.below_drawn (Below.refl w.heap.size w) q
  obtain ⟨a1, c1, rfl, -, -⟩ := hnx.slice
  obtain ⟨a2, c2, rfl, -, -⟩ := hny.slice
  obtain ⟨n1, hn1⟩ : ∃ n, len W X = n := ⟨_, rfl⟩
  obtain ⟨n2, hn2⟩ : ∃ n, len W Y = n := ⟨_, rfl⟩
  rw [hn1] at hs1 hkx
  rw [hn2] at hs2 hky
  have k0 := hg.cell 0
  have k1 := hg.cell 1
  have x0 := hkx.cell 0
  have x1 := hkx.cell 1
  have y0 := hky.cell 0
  have y1 := hky.cell 1
  simp at k0 k1 x0 x1 y0 y1
  have hlt := hg.lt
  have hltx := hkx.lt
  have hlty := hky.lt
  obtain ⟨M, hM⟩ : ∃ M, (X - 1) ^^^ (Y - 1) = M := ⟨_, rfl⟩
  rw [hM] at hl ⊢
  have hend := Lib.hid fun w1 r (hu : IsNat w1 w.heap.size r M) (hb : Below w.heap.size w w1) => bigStore hg hu hb false (fun h => by cases h)
  have hcell := Lib.hid fun W (hW : Below w.heap.size w W) => (show W.cell? ⟨g, 1, none⟩ = some (.slice none 0 0) ∧ W.cell? ⟨gx, 1, none⟩ = some (.slice a1 n1 c1) ∧ W.cell? ⟨gy, 1, none⟩ = some (.slice a2 n2 c2) from ⟨(hW.cell (p := ⟨g, 1, none⟩) hlt).trans k1, (hW.cell (p := ⟨gx, 1, none⟩) hltx).trans x1, (hW.cell (p := ⟨gy, 1, none⟩) hlty).trans y1⟩)
  clear hg hkx hky hnx hny hn1 hn2 hM hm hm2 hpos hX0 hY0
  go_enter Try.func57, Try.ntmps57
  go_wp2_with fail
  go_quiet (fail)
  go_wp2_with fail
  go_region_held3 (fun W => W.cell? ⟨g, 1, none⟩ = some (.slice none 0 0) ∧ W.cell? ⟨gx, 1, none⟩ = some (.slice a1 n1 c1) ∧ W.cell? ⟨gy, 1, none⟩ = some (.slice a2 n2 c2))
    (first | go_keep | exact j1 | exact j2)
    (first
      | (go_at_call 79; refine (hone.out w _ (hd.out _)).mono ?_; rintro e w1 ⟨⟨h1, rfl, ho1⟩, hb1⟩; have j1 := hcell.out w1 hb1)
      | (go_at_call 78; refine (hs1.out _ _ hb1 ho1).mono ?_; rintro e w2 ⟨⟨t1, rfl, ht1⟩, hb2⟩; have j2 := hcell.out w2 hb2))
  clear ho1 hb1 j1
  have hd2 := Lib.hid (show Below w2.heap.size w2 w2.drew from Box.below_drawn (Below.refl _ _) 1)
  have hcell2 := Lib.hid fun W (hW : Below w2.heap.size w2 W) => hcell.out W (hb2.trans (hW.mono hb2.size))
  have e1 := j2.1
  have e2 := j2.2.1
  have e3 := j2.2.2
  go_wp2_with fail
  go_region_held3 (fun W => W.cell? ⟨g, 1, none⟩ = some (.slice none 0 0) ∧ W.cell? ⟨gx, 1, none⟩ = some (.slice a1 n1 c1) ∧ W.cell? ⟨gy, 1, none⟩ = some (.slice a2 n2 c2))
    (first | go_keep | exact j2 | exact j3 | exact j4)
    (first
      | (go_at_call 79; refine (hone.out w2 w2.drew hd2.out).mono ?_; rintro e w3 ⟨⟨h3, rfl, ho3⟩, hb3⟩; have j3 := hcell2.out w3 hb3)
      | (go_at_call 78; refine (hs2.out w2 _ _ hb2 hb3 ho3).mono ?_; rintro e w4 ⟨⟨t2, rfl, ht2⟩, hb4⟩; have j4 := hcell2.out w4 hb4))
  have hb24 := hb2.trans (hb4.mono hb2.size)
  have hx9 := Lib.hid (hl.out w4 t1 t2 _ _ (ht1.later hb4) ht2 hb24)
  have e1 := j4.1
  have f1 := j4.2.1
  have f2 := j4.2.2
  clear hl hone hs1 hs2 hcell hcell2 ho3 hb3 j2 j3 hb2 hb4 ht1 ht2 hd2 e2 e3
  go_wp2_with fail
  refine hx9.out.mono ?_
  rintro e w5 ⟨⟨r, rfl, ho⟩, hb⟩
  obtain ⟨a, c, rfl, k0, k1, hlt1, f0, f1, hfin⟩ := hend.out w5 _ ho hb
  have hfin' := Lib.hid hfin
  clear hfin ho hb hb24
  go_wp2
  go_ret
  exact ⟨⟨rfl, hfin'.out.1⟩, hfin'.out.2⟩
end Go.Proofs.Ytaappbnbjpbbcaa.Big
