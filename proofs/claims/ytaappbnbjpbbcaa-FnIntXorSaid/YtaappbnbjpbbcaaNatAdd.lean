/-
  The sum of two naturals: into a new one, or in place. 1 added to a natural: into a new one, or in place. 1 added to a natural: into a new one, or in place; 1 taken from it.
-/
import Derived.Test.YtaappbnbjpbbcaaNatSub
import Derived.Test.YtaappbnbjpbbcaaAddVW
namespace Go.Proofs.Ytaappbnbjpbbcaa.Nat_
open Go.RowKit Go.WideShapes Go.Proofs.Ytaappbnbjpbbcaa.Own Go.Proofs.Ytaappbnbjpbbcaa.Num Go.Proofs.Ytaappbnbjpbbcaa.Ref
set_option linter.unusedVariables false

theorem VecAt.inner {B : Nat} {w0 w : World} {g N c R k : Nat} {L : List Value} (h : VecAt B w0 w g N c R k L) : VecAt g w w g N c R k L := by
  obtain ⟨h1, h2, h3, h4⟩ := h
  refine ⟨⟨h1.1, ?_⟩, Below.refl _ _, Nat.le_refl _, h4⟩
  rcases h1.2 with h0 | ⟨g', c', cur, e, hB, rest⟩
  · exact .inl h0
  · cases e; exact .inr ⟨g, c, cur, rfl, Nat.le_refl _, rest⟩
theorem VecAt.outer {B : Nat} {w0 w w' : World} {g N c R k k' R' : Nat} {L L' : List Value} (h : VecAt B w0 w g N c R k L) (h' : VecAt g w w' g N c R' k' L') : VecAt B w0 w' g N c R' k' L' :=
  ⟨World.ownsRow.mono h'.1 h.2.2.1, h.2.1.trans (h'.2.1.mono h.2.2.1), h.2.2.1, h'.2.2.2⟩

/-- what make hands out to a sum -/
def MadeAdd (B : Nat) (w0 : World) (gx gy m n X Y : Nat) (e : Ending) (w' : World) : Prop :=
  ∃ gz c L, e = .returned (.slice (some ⟨gz, 0, none⟩) (m + 1) c) ∧ VecAt B w0 w' gz (m + 1) c (X + Y) 0 L ∧ Src w' gx 0 m 0 X ∧ Src w' gy 0 n 0 Y ∧ m + 1 ≤ c ∧
    ((gx < gz ∧ WBlk w' gx) ∨ (gx = gz ∧ Stands X 0 m L))

set_option maxHeartbeats 2000000 in
set_option maxRecDepth 100000 in
theorem nadd_main (za : Option Addr) (zl zc : Nat) (X Y m n gx cx gy cy B : Nat) (w0 w : World) (hX : X < W ^ m) (hY : Y < W ^ n) (hmk : Calls Try.prog 88 #[.slice za zl zc, .int .i64 ((m + 1 : Nat) : Int)] w (MadeAdd B w0 gx gy m n X Y))
    (hnm : n ≤ m) (hn0 : 0 < n) (hm2 : m ≤ 9000) (hcx : m ≤ cx) (hcy : n ≤ cy) :
    Calls Try.prog 81 #[.slice za zl zc, .slice (some ⟨gx, 0, none⟩) m cx, .slice (some ⟨gy, 0, none⟩) n cy] w fun e w' => (∃ u, e = .returned u ∧ IsNat w' B u (X + Y)) ∧ Below B w0 w' := by
  have hYm : Y < W ^ m := Nat.lt_of_lt_of_le hY (Nat.pow_le_pow_right (by decide) hnm)
  have hXY : X + Y < W ^ (m + 1) := by
    rw [Nat.pow_succ]
    have : W ^ m * 2 ≤ W ^ m * W := Nat.mul_le_mul_left _ W_two
    omega
  have htop : (X + Y) / W ^ m % W = carry X Y m := by
    have h1 : carry X Y m = (X + Y) / W ^ m := by unfold carry; rw [Nat.mod_eq_of_lt hX, Nat.mod_eq_of_lt hYm]
    have h2 := carry_le X Y m
    rw [← h1]
    exact Nat.mod_eq_of_lt (by rw [W_eq]; omega)
  have hmn0 : ((m : Int) == 0) = false := by simp; omega
  have hnn0 : ((n : Int) == 0) = false := by simp; omega
  obtain ⟨m1, hm1⟩ : ∃ m1, m + 1 = m1 := ⟨_, rfl⟩
  have hm1' : (m : Int) + 1 = m1 := by omega
  have hnorm := Lib.hid fun (v : Value) W' (h : OwnW W' B v (dig W (X + Y) m1)) => norm_any v (X + Y) m1 B W' h (by rw [← hm1]; exact hXY) (by omega)
  have hmk' := Lib.hid hmk
  unfold MadeAdd at hmk'
  rw [hm1] at hmk'
  have hX' := Lib.hid hX
  have hY' := Lib.hid hY
  have htop' := Lib.hid htop
  have hcl := carry_le X Y m
  clear hmk hX hY hYm hXY htop
  go_enter Try.func81, Try.ntmps81
  go_wp2_with fail
  refine hmk'.out.mono ?_
  rintro e w1 ⟨gz, c, L, rfl, hz, hx, hy, hmc, hcase⟩
  have hzi := hz.inner
  have hv := Lib.hid (addv_any X Y n m1 gz c c gx 0 cx gy 0 cy gz L w1 w1.drew hzi.drew (fun j h1 h2 => hx j h1 (by omega)) hy.drew (by omega) (by omega) (by omega) (by omega) (by omega) (by omega) (by omega))
  have hz' := Lib.hid hz
  have hx' := Lib.hid hx
  have hcase' := Lib.hid hcase
  clear hz hx hy hzi hcase
  have i1 : (n : Int) ≤ c := by omega
  have i2 : (n : Int) ≤ cx := by omega
  have i3 : (n : Int) ≤ cy := by omega
  go_wp2_with fail
  go_region_with (go_at_call 99; refine hv.out.mono ?_; rintro e w2 ⟨rfl, hz2⟩)
  by_cases hmn : m = n
  · subst hmn
    obtain ⟨b, hb⟩ : ∃ b, carry X Y m = b := ⟨_, rfl⟩
    obtain ⟨⟨cv, hcv⟩, hf0⟩ := hz2.cell (by omega)
    have hz3 := Lib.hid (hz'.out.outer (hz2.store (by omega) b (by rw [htop'.out, hb])))
    rw [hm1] at hz3
    have hnm2 := Lib.hid (hnorm.out _ _ (hz3.out.own (Nat.le_refl _)))
    rw [hb]
    clear hz2 hv hcl
    go_wp2_with fail
    refine hnm2.out.mono ?_
    rintro e w3 ⟨⟨u, rfl, hu⟩, rfl⟩
    go_wp2
    go_ret
    exact ⟨⟨_, rfl, hu⟩, hz3.out.2.1⟩
  · have hlt : n < m := by omega
    have hlt' : (n : Int) < m := by omega
    have hd1 : decide (n < m) = true := by simp; omega
    have hd2 : decide ((n : Int) < m) = true := by simp; omega
    have i4 : ¬ (c = n) := by omega
    have i5 : ¬ (cx = n) := by omega
    have i6 : (n : Int) ≤ m := by omega
    have i7 : (m : Int) ≤ c := by omega
    have hvw : Hid (Calls Try.prog 100 #[.slice (some ⟨gz, n, none⟩) (m - n) (c - n), .slice (some ⟨gx, n, none⟩) (m - n) (cx - n), .int .u64 ((carry X Y n : Nat) : Int)] w2.drew fun e w' => e = .returned (.int .u64 ((carry X Y m : Nat) : Int)) ∧ VecAt gz w1 w' gz m1 c (X + Y) m L) := by
      rcases hcase'.out with ⟨hg, hb⟩ | ⟨rfl, hL⟩
      · have hx3 : Src w2 gx 0 m n X := (hx'.out.mono (Nat.zero_le n)).later hz2.2.1 hg
        exact Lib.hid (addvw_apart X Y n (m - n) m m1 gz c (c - n) gx (cx - n) gz L w1 w2.drew hz2.drew hx3.drew (hb.later (Box.below_drawn hz2.2.1 1) hg) (by omega) hY'.out (by omega) (by omega) (by omega) (by omega) (by omega) (by omega))
      · exact Lib.hid (addvw_self X Y n (m - n) m m1 gx c (c - n) (cx - n) gx L w1 w2.drew hz2.drew (fun j h1 h2 => hL j (by omega) h2) hY'.out (by omega) (by omega) (by omega) (by omega) (by omega) (by omega))
    obtain ⟨b, hb⟩ : ∃ b, carry X Y m = b := ⟨_, rfl⟩
    obtain ⟨b0, hb0⟩ : ∃ b, carry X Y n = b := ⟨_, rfl⟩
    rw [hb, hb0] at hvw
    rw [hb0]
    have htop9 := Lib.hid (htop'.out.trans hb)
    clear hz2 hv hb0 hb hcl hcase' hx'
    go_wp2_with fail
    go_region_with (go_at_call 100; refine hvw.out.mono ?_; rintro e w3 ⟨rfl, hz2⟩)
    obtain ⟨⟨cv, hcv⟩, hf0⟩ := hz2.cell (by omega)
    have hz3 := Lib.hid (hz'.out.outer (hz2.store (by omega) b htop9.out))
    rw [hm1] at hz3
    have hnm2 := Lib.hid (hnorm.out _ _ (hz3.out.own (Nat.le_refl _)))
    clear hz2 hvw
    go_wp2_with fail
    refine hnm2.out.mono ?_
    rintro e w4 ⟨⟨u, rfl, hu⟩, rfl⟩
    go_wp2
    go_ret
    exact ⟨⟨_, rfl, hu⟩, hz3.out.2.1⟩

set_option maxRecDepth 100000 in
/-- 1 -/
theorem one_any (w : World) : Calls Try.prog 79 #[] w fun e w' => (∃ h, e = .returned (.slice (some ⟨h, 0, none⟩) 1 1) ∧ h = w.heap.size ∧ IsNat w' h (.slice (some ⟨h, 0, none⟩) 1 1) 1) ∧ Below w.heap.size w w' := by
  have hfin := Lib.hid (show IsNat (w.alloc (.cells #[.int .u64 1] 140)) w.heap.size (.slice (some ⟨w.heap.size, 0, none⟩) 1 1) 1 from by
    unfold IsNat
    have : words 1 = [1] := by
      unfold words
      have h : len W 1 = 1 := len_eq W_two (by rw [W_eq]; decide) (fun _ => by decide)
      rw [h]
      rfl
    rw [this]
    exact World.ownsRow_lit (base := w.heap.size) (e := 140) (size := 1) w #[.int .u64 ((1 : Nat) : Int)] 1 (Nat.le_refl _) (by decide) (by simp))
  go_enter Try.func79, Try.ntmps79
  go_wp2
  go_ret
  exact ⟨⟨_, rfl, rfl, hfin.out⟩, (Below.refl _ _).alloc (Nat.le_refl _) _⟩
end Go.Proofs.Ytaappbnbjpbbcaa.Nat_
namespace Go.Proofs.Ytaappbnbjpbbcaa.Nat_
open Go.RowKit Go.WideShapes Go.Proofs.Ytaappbnbjpbbcaa.Own Go.Proofs.Ytaappbnbjpbbcaa.Num Go.Proofs.Ytaappbnbjpbbcaa.Ref
set_option linter.unusedVariables false

set_option maxRecDepth 100000 in
/-- a new row, where the old one has no room -/
theorem make_more (a : Option Addr) (l c n : Nat) (hn : n ≤ 10000) (hc : c < n) (w : World) :
    Calls Try.prog 88 #[.slice a l c, .int .i64 n] w fun e w' => (∃ v, e = .returned v ∧ OwnW w' w.heap.size v (dig W 0 n)) ∧ Below w.heap.size w w' := by
  by_cases h : n = 1
  · subst h
    have hr := fun W => run_new 1 1 (by omega) (by omega) W 1 rfl 1 rfl
    obtain rfl : c = 0 := by omega
    go_enter Try.func88, Try.ntmps88
    go_wp2
    go_ret
    exact ⟨⟨_, rfl, own_new 1 1 _ (by omega) (by omega) w (Nat.le_refl _)⟩, (Below.refl _ _).alloc (Nat.le_refl _) _⟩
  · have hr := fun W => run_new n (n + 4) (by omega) (by omega) W n rfl (n + 4) (by omega)
    have hb : ((n : Int) == 1) = false := by simp; omega
    have hcn : (c : Int) < n := by omega
    go_enter Try.func88, Try.ntmps88
    go_wp2
    go_ret
    exact ⟨⟨_, rfl, own_new n (n + 4) _ (by omega) (by omega) w (Nat.le_refl _)⟩, (Below.refl _ _).alloc (Nat.le_refl _) _⟩

set_option maxHeartbeats 1000000 in
set_option maxRecDepth 100000 in
theorem nset_main (za : Option Addr) (zl zc : Nat) (X m gx cx B : Nat) (w0 w : World) (hm : len W X = m) (hmk : Calls Try.prog 88 #[.slice za zl zc, .int .i64 m] w (MadeAt B w0 gx 0 m X X)) (hm0 : 0 < m) (hm2 : m ≤ 9000) (hcx : m ≤ cx) :
    Calls Try.prog 91 #[.slice za zl zc, .slice (some ⟨gx, 0, none⟩) m cx] w fun e w' => (∃ u, e = .returned u ∧ IsNat w' B u X) ∧ Below B w0 w' := by
  have hmk' := Lib.hid hmk
  have hm' := Lib.hid hm
  clear hmk hm
  go_enter Try.func91, Try.ntmps91
  go_wp2_with fail
  refine hmk'.out.mono ?_
  rintro e w1 ⟨gz, c, N, L, rfl, hz, hx, hnN, hnc, hN⟩
  obtain ⟨w2, hcp, hz2⟩ := hz.copy hx 93 93 Try.underlying93 m (by omega) (by omega) (fun j hj => rfl) (some ⟨gz, 0, none⟩) (some ⟨gx, 0, none⟩) c cx m m (by simp) (fun _ => ⟨rfl, rfl⟩)
  rw [Nat.zero_add] at hz2
  have hfin := Lib.hid (show IsNat w2 B (.slice (some ⟨gz, 0, none⟩) m c) X from by
    have := hz2.own hnN
    unfold IsNat words
    rw [hm'.out]
    exact this)
  have hbel := Lib.hid hz2.2.1
  clear hz hx hz2
  go_wp2
  go_ret
  exact ⟨⟨_, rfl, hfin.out⟩, hbel.out⟩

/-- what z hands to make: room of its own, or none -/
theorem made_set {z : Option Addr} {zl zc X m gx cx B Bx : Nat} {w0 w : World} (hX : IsNat w Bx (.slice (some ⟨gx, 0, none⟩) m cx) X) (hm : len W X = m) (hm0 : 0 < m) (hm2 : m ≤ 9000) (hb : Below B w0 w) (hB : B ≤ w.heap.size)
    (hz : zc < m ∨ ∃ gz V l, z = some ⟨gz, 0, none⟩ ∧ IsNat w B (.slice z l zc) V ∧ len W V = l ∧ l ≤ m ∧ m ≤ zc ∧ B ≤ gz) : Calls Try.prog 88 #[.slice z zl zc, .int .i64 m] w (MadeAt B w0 gx 0 m X X) := by
  obtain ⟨_, cx', ex, hcx, hrx⟩ := hX.slice
  simp only [Value.slice.injEq] at ex
  obtain ⟨rfl, -, rfl⟩ := ex
  rw [hm] at hcx
  have hlx := hrx.lt
  have hsx := hrx.src0 (n := m) (by rw [hm]; exact Nat.le_refl _) 0
  rcases hz with h | ⟨gz, V, l, rfl, hV, hl, hlm, hmc, hBg⟩
  · refine (make_more z zl zc m (by omega) h w).mono ?_
    rintro e w1 ⟨⟨v, rfl, hv⟩, hb1⟩
    rcases hv.shape with ⟨_, h0⟩ | ⟨gz, cz, rfl, hgz, hBz, hcz, hcell⟩
    · have := congrArg List.length h0
      rw [dig_length] at this
      simp at this
      omega
    · rw [dig_length] at hcz hv ⊢
      have h1 := hv.vec (w0 := w) hb1 hBz X
      exact ⟨gz, cz, m, _, rfl, ⟨World.ownsRow.mono h1.1 hB, hb.trans (hb1.mono hB), by omega, h1.2.2.2⟩, hsx.later hb1 hlx, Nat.le_refl _, hcz, by omega⟩
  · obtain ⟨L, h1, -⟩ := hV.room hl hb hBg X m hlm hmc
    refine (make_room (some ⟨gz, 0, none⟩) zl m zc w (by omega) (fun h => by cases h)).mono ?_
    rintro e w1 ⟨rfl, rfl⟩
    exact ⟨gz, zc, m, L, rfl, h1, hsx, Nat.le_refl _, hmc, by omega⟩

set_option maxHeartbeats 1000000 in
set_option maxRecDepth 100000 in
/-- 0 and 1 -/
theorem nadd_zero (za xa : Option Addr) (zl zc xc h B By : Nat) (w0 w : World) (hY : IsNat w By (.slice (some ⟨h, 0, none⟩) 1 1) 1) (hset : Calls Try.prog 91 #[.slice za zl zc, .slice (some ⟨h, 0, none⟩) 1 1] w fun e w' => (∃ u, e = .returned u ∧ IsNat w' B u 1) ∧ Below B w0 w') :
    Calls Try.prog 81 #[.slice za zl zc, .slice xa 0 xc, .slice (some ⟨h, 0, none⟩) 1 1] w fun e w' => (∃ u, e = .returned u ∧ IsNat w' B u 1) ∧ Below B w0 w' := by
  have hin : Hid (Calls Try.prog 81 #[.slice za zl zc, .slice (some ⟨h, 0, none⟩) 1 1, .slice xa 0 xc] w fun e w' => (∃ u, e = .returned u ∧ IsNat w' B u 1) ∧ Below B w0 w') := by
    have hs := Lib.hid hset
    clear hset hY
    refine Lib.hid ?_
    go_enter Try.func81, Try.ntmps81
    go_wp2_with fail
    refine hs.out.mono ?_
    rintro e w1 ⟨⟨u, rfl, hu⟩, hb⟩
    go_wp2
    go_ret
    exact ⟨⟨_, rfl, hu⟩, hb⟩
  clear hset hY
  go_enter Try.func81, Try.ntmps81
  go_wp2_with fail
  refine hin.out.mono ?_
  rintro e w1 ⟨⟨u, rfl, hu⟩, hb⟩
  go_wp2
  go_ret
  exact ⟨⟨_, rfl, hu⟩, hb⟩
end Go.Proofs.Ytaappbnbjpbbcaa.Nat_
namespace Go.Proofs.Ytaappbnbjpbbcaa.Nat_
open Go.RowKit Go.WideShapes Go.Proofs.Ytaappbnbjpbbcaa.Own Go.Proofs.Ytaappbnbjpbbcaa.Num Go.Proofs.Ytaappbnbjpbbcaa.Ref
set_option linter.unusedVariables false

theorem len_of_one : len W 1 = 1 := len_eq W_two (by rw [W_eq]; decide) (fun _ => by decide)

theorem made_add_new {z : Option Addr} {zl zc X Y m n gx cx gy cy B Bx By : Nat} {w0 w : World} (hX : IsNat w Bx (.slice (some ⟨gx, 0, none⟩) m cx) X) (hm : len W X = m) (hY : IsNat w By (.slice (some ⟨gy, 0, none⟩) n cy) Y) (hn : len W Y = n)
    (hm2 : m ≤ 9000) (hb : Below B w0 w) (hB : B ≤ w.heap.size) (hz : zc < m + 1) : Calls Try.prog 88 #[.slice z zl zc, .int .i64 ((m + 1 : Nat) : Int)] w (MadeAdd B w0 gx gy m n X Y) := by
  have hbx := hX.blk
  obtain ⟨_, cx', ex, hcx, hrx⟩ := hX.slice
  simp only [Value.slice.injEq] at ex
  obtain ⟨rfl, -, rfl⟩ := ex
  obtain ⟨_, cy', ey, hcy, hry⟩ := hY.slice
  simp only [Value.slice.injEq] at ey
  obtain ⟨rfl, -, rfl⟩ := ey
  have hlx := hrx.lt
  have hly := hry.lt
  have hsx := hrx.src0 (n := m) (by rw [hm]; exact Nat.le_refl _) 0
  have hsy := hry.src0 (n := n) (by rw [hn]; exact Nat.le_refl _) 0
  refine (make_more z zl zc (m + 1) (by omega) hz w).mono ?_
  rintro e w1 ⟨⟨v, rfl, hv⟩, hb1⟩
  rcases hv.shape with ⟨_, h0⟩ | ⟨gz, cz, rfl, hgz, hBz, hcz, hcell⟩
  · have := congrArg List.length h0
    rw [dig_length] at this
    simp at this
  · rw [dig_length] at hcz hv ⊢
    have h1 := hv.vec (w0 := w) hb1 hBz (X + Y)
    exact ⟨gz, cz, _, rfl, ⟨World.ownsRow.mono h1.1 hB, hb.trans (hb1.mono hB), by omega, h1.2.2.2⟩, hsx.later hb1 hlx, hsy.later hb1 hly, hcz, .inl ⟨by omega, hbx.later hb1 hlx⟩⟩
theorem made_add_self {X Y m n gx cx gy cy B By : Nat} {w0 w : World} (hX : IsNat w B (.slice (some ⟨gx, 0, none⟩) m cx) X) (hm : len W X = m) (hY : IsNat w By (.slice (some ⟨gy, 0, none⟩) n cy) Y) (hn : len W Y = n)
    (hm2 : m ≤ 9000) (hb : Below B w0 w) (hBg : B ≤ gx) (hz : m + 1 ≤ cx) : Calls Try.prog 88 #[.slice (some ⟨gx, 0, none⟩) m cx, .int .i64 ((m + 1 : Nat) : Int)] w (MadeAdd B w0 gx gy m n X Y) := by
  obtain ⟨_, cx', ex, hcx, hrx⟩ := hX.slice
  simp only [Value.slice.injEq] at ex
  obtain ⟨rfl, -, rfl⟩ := ex
  obtain ⟨_, cy', ey, hcy, hry⟩ := hY.slice
  simp only [Value.slice.injEq] at ey
  obtain ⟨rfl, -, rfl⟩ := ey
  have hsx := hrx.src0 (n := m) (by rw [hm]; exact Nat.le_refl _) 0
  have hsy := hry.src0 (n := n) (by rw [hn]; exact Nat.le_refl _) 0
  obtain ⟨L, h1, h2⟩ := hX.room hm hb hBg (X + Y) (m + 1) (by omega) hz
  refine (make_room (some ⟨gx, 0, none⟩) m (m + 1) cx w hz (fun h => by cases h)).mono ?_
  rintro e w1 ⟨rfl, rfl⟩
  exact ⟨gx, cx, L, rfl, h1, hsx, hsy, hz, .inr ⟨rfl, fun j _ hj => h2 j hj⟩⟩

theorem IsNat.some_of {w : World} {B m c X : Nat} {a : Option Addr} (h : IsNat w B (.slice a m c) X) (hm : len W X = m) (hm0 : 0 < m) : ∃ g, a = some ⟨g, 0, none⟩ ∧ B ≤ g ∧ m ≤ c := by
  rcases h.2 with ⟨e, _⟩ | ⟨g, c', cur, e, hB, hg, hc, _⟩
  · simp only [Value.slice.injEq] at e; omega
  · simp only [Value.slice.injEq] at e
    obtain ⟨rfl, -, rfl⟩ := e
    have hl : (words X).length = m := by unfold words; rw [dig_length, hm]
    exact ⟨g, rfl, hB, by omega⟩

/-- into a new one -/
theorem nadd_one_nil (v : Value) (X Bx h By : Nat) (w : World) (hX : IsNat w Bx v X) (hm2 : len W X ≤ 5000) (hY : IsNat w By (.slice (some ⟨h, 0, none⟩) 1 1) 1) :
    Calls Try.prog 81 #[.slice none 0 0, v, .slice (some ⟨h, 0, none⟩) 1 1] w fun e w' => (∃ u, e = .returned u ∧ IsNat w' w.heap.size u (X + 1)) ∧ Below w.heap.size w w' := by
  obtain ⟨a, c, rfl, hc, -⟩ := hX.slice
  obtain ⟨m, hm⟩ : ∃ m, len W X = m := ⟨_, rfl⟩
  rw [hm] at hX hc hm2 ⊢
  by_cases h0 : m = 0
  · subst h0
    have hX0 : X = 0 := by
      have := len_pos W_two (v := X)
      omega
    subst hX0
    exact nadd_zero none a 0 0 c h w.heap.size By w w hY (nset_any _ 1 By w hY (by rw [len_of_one]; omega))
  · obtain ⟨g, rfl, -, -⟩ := hX.some_of hm (by omega)
    refine nadd_main none 0 0 X 1 m 1 g c h 1 w.heap.size w w (by rw [← hm]; exact len_lt W_two X) (by rw [W_eq]; decide) ?_ (by omega) (by omega) (by omega) hc (Nat.le_refl _)
    exact made_add_new hX hm hY len_of_one (by omega) (Below.refl _ _) (Nat.le_refl _) (by omega)

/-- in place -/
theorem nadd_one_self (v : Value) (X B h By : Nat) (w0 w : World) (hX : IsNat w B v X) (hm2 : len W X ≤ 5000) (hb : Below B w0 w) (hB : B ≤ w.heap.size) (hY : IsNat w By (.slice (some ⟨h, 0, none⟩) 1 1) 1) :
    Calls Try.prog 81 #[v, v, .slice (some ⟨h, 0, none⟩) 1 1] w fun e w' => (∃ u, e = .returned u ∧ IsNat w' B u (X + 1)) ∧ Below B w0 w' := by
  obtain ⟨a, c, rfl, hc, -⟩ := hX.slice
  obtain ⟨m, hm⟩ : ∃ m, len W X = m := ⟨_, rfl⟩
  rw [hm] at hX hc hm2 ⊢
  by_cases h0 : m = 0
  · subst h0
    have hX0 : X = 0 := by
      have := len_pos W_two (v := X)
      omega
    subst hX0
    refine nadd_zero a a 0 c c h B By w0 w hY (nset_main a 0 c 1 1 h 1 B w0 w len_of_one ?_ (by omega) (by omega) (Nat.le_refl _))
    refine made_set hY len_of_one (by omega) (by omega) hb hB ?_
    rcases hX.2 with ⟨e, _⟩ | ⟨g, c', cur, e, hBg, -⟩
    · simp only [Value.slice.injEq] at e
      obtain ⟨rfl, -, rfl⟩ := e
      exact .inl (by omega)
    · simp only [Value.slice.injEq] at e
      obtain ⟨rfl, -, rfl⟩ := e
      by_cases hc1 : c < 1
      · exact .inl hc1
      · exact .inr ⟨g, 0, 0, rfl, hX, rfl, by omega, by omega, hBg⟩
  · obtain ⟨g, rfl, hBg, -⟩ := hX.some_of hm (by omega)
    refine nadd_main _ m c X 1 m 1 g c h 1 B w0 w (by rw [← hm]; exact len_lt W_two X) (by rw [W_eq]; decide) ?_ (by omega) (by omega) (by omega) hc (Nat.le_refl _)
    by_cases hcm : c < m + 1
    · exact made_add_new hX hm hY len_of_one (by omega) hb hB hcm
    · exact made_add_self hX hm hY len_of_one (by omega) hb hBg (by omega)

/-- 1 taken away, into a new one -/
theorem nsub_one (v : Value) (X Bx h By : Nat) (w : World) (hX : IsNat w Bx v X) (hX0 : 0 < X) (hm2 : len W X ≤ 5000) (hY : IsNat w By (.slice (some ⟨h, 0, none⟩) 1 1) 1) :
    Calls Try.prog 78 #[.slice none 0 0, v, .slice (some ⟨h, 0, none⟩) 1 1] w fun e w' => (∃ u, e = .returned u ∧ IsNat w' w.heap.size u (X - 1)) ∧ Below w.heap.size w w' := by
  obtain ⟨a, c, rfl, hc, -⟩ := hX.slice
  obtain ⟨m, hm⟩ : ∃ m, len W X = m := ⟨_, rfl⟩
  rw [hm] at hX hc hm2 ⊢
  have hm0 : 0 < m := by have := (len_pos W_two (v := X)).2 hX0; omega
  obtain ⟨g, rfl, -, -⟩ := hX.some_of hm hm0
  exact nsub_main X 1 m 1 g c h 1 Bx By w hX hY hm len_of_one hX0 (by omega) (by omega)
end Go.Proofs.Ytaappbnbjpbbcaa.Nat_
