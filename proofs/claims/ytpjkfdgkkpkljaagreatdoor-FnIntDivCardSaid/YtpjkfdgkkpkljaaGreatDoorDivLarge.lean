/-
  Long division of one natural by another of two words at least: the package's divLarge, div.
-/
import Derived.Test.YtpjkfdgkkpkljaaGreatDoorDivBasic
import Derived.Test.YtpjkfdgkkpkljaaGreatDoorDivW
import Derived.Test.YtpjkfdgkkpkljaaGreatDoorSecShift
import Derived.Laws.CopyRow
namespace Go.Proofs.YtpjkfdgkkpkljaaGreatDoor.Nat_
open Go.RowKit Go.WideShapes Go.Proofs.YtpjkfdgkkpkljaaGreatDoor Go.Proofs.YtpjkfdgkkpkljaaGreatDoor.Own Go.Proofs.YtpjkfdgkkpkljaaGreatDoor.Num Go.Proofs.YtpjkfdgkkpkljaaGreatDoor.Ref Go.Proofs.YtpjkfdgkkpkljaaGreatDoor.Knuth
set_option linter.unusedVariables false

/-- words copied to a row's beginning -/
theorem wd_copy {w : World} {g : Nat} {L : List Value} (dT sT : TypeId) (hdT : Tryz.prog.underlying dT = some (.slice 111)) (hz : Wd w g L) (n gx dx X : Nat) (hx : Src w gx dx n 0 X) (hn : n ≤ L.length) (dc sc dLen sLen : Nat) (hmin : n = Nat.min sLen dLen) :
    ∃ w', (∀ ty, (Builtin.copy_ #[dT, sT] ty #[.slice (some ⟨g, 0, none⟩) dLen dc, .slice (some ⟨gx, dx, none⟩) sLen sc]).run Tryz.prog w = .ok (goInt n) w') ∧ Wd w' g (mix L 0 X 0 n) ∧ Only g w w' := by
  have hlen : (ws (dig W X n)).length = n := by rw [ws_length, dig_length]
  have hr := fun ty => run_copy_row (P := Tryz.prog) w dT sT ty 111 g 0 dLen dc ⟨gx, dx, none⟩ sLen sc L.toArray 111 (ws (dig W X n)) hdT size_word hz (by rw [hlen]; exact hmin) (fun j v hj => by
    by_cases h : j < n
    · rw [cell_add', hx j (by omega) h]
      rw [wsdig_get _ _ _ h] at hj
      exact hj
    · rw [List.getElem?_eq_none (by rw [hlen]; omega)] at hj
      cases hj) (by rw [hlen]; simp; omega) (ws_one _)
  rw [hlen] at hr
  refine ⟨_, hr, ?_, rfl, rfl, rfl, by simp [World.setRow], fun k hk => setRow_other w g k _ hk⟩
  have h := setRow_heap w g L.toArray (L.take 0 ++ ws (dig W X n) ++ L.drop (0 + n)).toArray 111 (0, 0) hz
  have e : L.take 0 ++ ws (dig W X n) ++ L.drop (0 + n) = mix L 0 X 0 n := by
    apply List.ext_getElem?
    intro i
    rw [List.take_zero, List.nil_append, Nat.zero_add]
    by_cases hi : i < n
    · rw [List.getElem?_append_left (by rw [hlen]; exact hi), wsdig_get _ _ _ hi, mix_at i hi hn]
    · rw [List.getElem?_append_right (by rw [hlen]; omega), hlen, List.getElem?_drop, mix_out i (by omega), show n + (i - n) = i by omega]
  rw [← e]
  exact h
/-- a number scaled so that it begins with a 1 -/
theorem scaled {Y p : Nat} (hl : len W Y = p + 2) : 0 < Y / W ^ (p + 1) ∧ Y / W ^ (p + 1) < W ∧ Y * 2 ^ nz (Y / W ^ (p + 1)) < W ^ (p + 2) ∧ 9223372036854775808 * W ^ (p + 1) ≤ Y * 2 ^ nz (Y / W ^ (p + 1)) := by
  have hY0 : 0 < Y := by have := len_pos W_two (v := Y); omega
  have h1 := (len_ge W_two hY0).2
  rw [hl] at h1
  have h2 := len_lt W_two Y
  rw [hl] at h2
  have h1' : W ^ (p + 1) ≤ Y := h1
  have h3 : 0 < Y / W ^ (p + 1) := Nat.div_pos h1' (pw _)
  have h4 : Y / W ^ (p + 1) < W := Nat.div_lt_of_lt_mul (by rw [← Nat.pow_succ]; exact h2)
  obtain ⟨n1, n2, n3, -⟩ := nz_spec h3 h4
  obtain ⟨y, hy⟩ : ∃ y, Y / W ^ (p + 1) = y := ⟨_, rfl⟩
  rw [hy] at h3 h4 n1 n2 n3 ⊢
  obtain ⟨s, hs⟩ : ∃ s, nz y = s := ⟨_, rfl⟩
  rw [hs] at n1 n2 n3 ⊢
  have h5 : y * W ^ (p + 1) ≤ Y := by rw [← hy]; exact Nat.div_mul_le_self _ _
  have h6 : Y < (y + 1) * W ^ (p + 1) := by
    rw [← hy, Nat.add_mul, Nat.one_mul]
    exact Nat.lt_div_mul_add (pw _)
  have hp : 0 < 2 ^ s := Nat.pow_pos (by omega)
  have h7 : (y + 1) * 2 ^ s ≤ W := by
    have hW : W = 2 ^ (64 - s) * 2 ^ s := by rw [W_eq, ← Nat.pow_add, show 64 - s + s = 64 by omega]
    rw [hW] at n3 ⊢
    exact Nat.mul_le_mul_right _ (Nat.lt_of_mul_lt_mul_right n3)
  refine ⟨h3, h4, ?_, ?_⟩
  · have h8 : Y * 2 ^ s < (y + 1) * W ^ (p + 1) * 2 ^ s := Nat.mul_lt_mul_of_pos_right h6 hp
    have h9 : (y + 1) * W ^ (p + 1) * 2 ^ s = (y + 1) * 2 ^ s * W ^ (p + 1) := by rw [Nat.mul_assoc, Nat.mul_comm (W ^ (p + 1)), ← Nat.mul_assoc]
    rw [h9] at h8
    refine Nat.lt_of_lt_of_le h8 ?_
    rw [Nat.pow_succ W (p + 1), Nat.mul_comm (W ^ (p + 1))]
    exact Nat.mul_le_mul_right _ h7
  · have h8 : y * W ^ (p + 1) * 2 ^ s ≤ Y * 2 ^ s := Nat.mul_le_mul_right _ h5
    have h9 : y * W ^ (p + 1) * 2 ^ s = y * 2 ^ s * W ^ (p + 1) := by rw [Nat.mul_assoc, Nat.mul_comm (W ^ (p + 1)), ← Nat.mul_assoc]
    rw [h9] at h8
    exact Nat.le_trans (Nat.mul_le_mul_right _ n2) h8
theorem scaled_u {X N s : Nat} (hX : X < W ^ N) (hs : s < 64) : X * 2 ^ s < 9223372036854775808 * W ^ N := by
  have h1 : 2 ^ s ≤ 9223372036854775808 := by
    rw [show (9223372036854775808 : Nat) = 2 ^ 63 from rfl]
    exact Nat.pow_le_pow_right (by omega) (by omega)
  have h2 : X * 2 ^ s < W ^ N * 2 ^ s := Nat.mul_lt_mul_of_pos_right hX (Nat.pow_pos (by omega))
  have h3 : W ^ N * 2 ^ s ≤ W ^ N * 9223372036854775808 := Nat.mul_le_mul_left _ h1
  rw [Nat.mul_comm 9223372036854775808]
  omega
/-- an owned row stands where each block of words stands -/
theorem OwnW.keep {w w' : World} {B : Nat} {v : Value} {l : List Nat} (h : OwnW w B v l) (hk : ∀ p L, Wd w p L → Wd w' p L) : OwnW w' B v l := by
  refine ⟨h.1, ?_⟩
  rcases h.2 with hn | ⟨g, cap, cur, rfl, hB, hg, rest⟩
  · exact .inl hn
  · refine .inr ⟨g, cap, cur, rfl, hB, ?_, rest⟩
    have := hk g cur.toList hg
    exact this
theorem Stk.later {w w' : World} {g l : Nat} {b : Option Nat} (h : Stk w g b l) (hb : Below w.heap.size w w') : Stk w' g b l := by
  cases b with
  | none => exact ⟨h.1.later hb, h.2⟩
  | some b =>
    obtain ⟨gi, c, L, z1, z2, z3, z⟩ := h
    exact ⟨gi, c, L, z1.later hb, z2.later hb, (hb.block b z3.lt).trans z3, z⟩
/-- but words of two blocks nothing has turned: the stack stands -/
theorem Stk.keep {w w' : World} {g l gv gu : Nat} {b : Option Nat} {Lv Lu Lv' : List Value} (h : Stk w g b l) (hb : But gv gu w w') (hv : Wd w gv Lv) (hv' : Wd w' gv Lv') (hl : Lv'.length = Lv.length) (hu : Wd w gu Lu) (hbv : b = none ∨ b = some gv) : Stk w' g b l := by
  rcases hbv with rfl | rfl
  · obtain ⟨z1, z2⟩ := h
    exact ⟨(hb.block g z1.lt (Ne.symm (hv.ne_stack z1)) (Ne.symm (hu.ne_stack z1))).trans z1, z2⟩
  · obtain ⟨gi, c, L, z1, z2, z3, z4, z5⟩ := h
    have e : L = Lv := by
      have e1 : w.heap[gv]? = some (.cells L.toArray 111 (0, 0)) := z3
      have e2 : w.heap[gv]? = some (.cells Lv.toArray 111 (0, 0)) := hv
      rw [e1] at e2
      simpa using e2
    exact ⟨gi, c, Lv', (hb.block g z1.lt (Ne.symm (hv.ne_stack z1)) (Ne.symm (hu.ne_stack z1))).trans z1, (hb.block gi z2.lt (Ne.symm (hv.ne_inner z2)) (Ne.symm (hu.ne_inner z2))).trans z2, hv', by rw [hl, ← e, z4], z5⟩
/-- both scaled, in their rows -/
def Mid (gv gu n N U V : Nat) (Lv Lu : List Value) (w wx : World) : Prop := Wd wx gv (mix Lv 0 V 0 n) ∧ Wd wx gu (mix Lu 0 U 0 N) ∧ But gv gu w wx ∧ wx.heap.size = w.heap.size
theorem Only.but1 {g1 g2 : Nat} {w w' : World} (h : Only g1 w w') : But g1 g2 w w' := ⟨h.os, h.tape, h.output, Nat.le_of_eq h.size.symm, fun k _ h1 _ => h.block k h1⟩
theorem Only.but2 {g1 g2 : Nat} {w w' : World} (h : Only g2 w w') : But g1 g2 w w' := ⟨h.os, h.tape, h.output, Nat.le_of_eq h.size.symm, fun k _ _ h1 => h.block k h1⟩
/-- what long division hands back, its stack not yet given back -/
def Two_ (g X Y : Nat) (w : World) (e : Ending) (w' : World) : Prop := (∃ a1 c1 a2 c2, e = .returned (.tuple #[.slice a1 (len W (X / Y)) c1, .slice a2 (len W (X % Y)) c2]) ∧ IsNat w' g (.slice a1 (len W (X / Y)) c1) (X / Y) ∧ IsNat w' g (.slice a2 (len W (X % Y)) c2) (X % Y)) ∧ Below g w w' ∧ ∃ b l, Stk w' g b l

set_option maxHeartbeats 4000000 in
set_option maxRecDepth 100000 in
theorem large_any (p p1 n Nx N m X Y gx cx gy cy g : Nat) (w : World) (hX : len W X = Nx) (hY : len W Y = n) (hnp : p + 2 = n) (hp1 : p + 1 = p1) (hN : Nx + 1 = N) (hm : m + n = N) (hm0 : 0 < m) (hN9 : Nx ≤ 900) (hn9 : n < 40)
    (hx : Src w gx 0 Nx 0 X) (hy : Src w gy 0 n 0 Y) (hgx : gx < g) (hgy : gy < g) (hcx : Nx ≤ cx) (hcy : n ≤ cy) (hst : Stk w g none 0) (h40 : w.cell? ⟨1, 0, none⟩ = some (.int .i64 40)) (hg1 : 1 < g) :
    Calls Tryz.prog 87 #[.slice none 0 0, .pointer (some ⟨g, 0, none⟩), .slice none 0 0, .slice (some ⟨gx, 0, none⟩) Nx cx, .slice (some ⟨gy, 0, none⟩) n cy] w (Two_ g X Y w) := by
  obtain ⟨k1, k2, k3, k4⟩ := scaled (Y := Y) (p := p) (by omega)
  obtain ⟨y1, hy1⟩ : ∃ y1, Y / W ^ (p + 1) = y1 := ⟨_, rfl⟩
  rw [hy1] at k1 k2 k3 k4
  have hnl := Lib.hid fun w => nlz_any y1 k1 k2 w
  obtain ⟨n1, -, -, -⟩ := nz_spec k1 k2
  obtain ⟨s, hs⟩ : ∃ s, nz y1 = s := ⟨_, rfl⟩
  rw [hs] at k3 k4 hnl n1
  have hXlt : X < W ^ Nx := by rw [← hX]; exact len_lt W_two X
  have kU := scaled_u hXlt n1
  obtain ⟨hQ, hR⟩ := dw_scale X Y (2 ^ s) (Nat.pow_pos (by omega))
  have hsv := Lib.hid (save_any g none 0 w hst)
  have hgot := Lib.hid (snat_any g none 0 n w hst (by omega) (by omega) (by omega))
  have cy1 := hy p1 (by omega) (by omega)
  rw [Nat.zero_add, ← hp1, hy1, Nat.mod_eq_of_lt k2, hp1] at cy1
  have hgst : g < w.heap.size := hst.1.lt
  have i1 : (n : Int) - 1 = (p1 : Int) := by omega
  obtain ⟨mm, hmm⟩ : ∃ mm, Nx - n = mm := ⟨_, rfl⟩
  have i2 : (Nx : Int) - (n : Int) = (mm : Int) := by omega
  have i3 : (Nx : Int) + 1 = (N : Int) := by omega
  have i4 : (mm : Int) + 1 = (m : Int) := by omega
  have hx' := Lib.hid hx
  have hy' := Lib.hid hy
  have hst' := Lib.hid hst
  have h40' := Lib.hid h40
  have hk := Lib.hid (And.intro k3 (And.intro k4 (And.intro kU (And.intro hQ (And.intro hR hXlt)))))
  have hXY := Lib.hid (And.intro hX hY)
  clear hx hy hst h40 k3 k4 kU hQ hR hXlt hs hX hY hmm
  go_enter_defers Tryz.func87, Tryz.ntmps87
  go_wp2_with fail
  refine hsv.out.mono ?_
  rintro e w0 ⟨rfl, rfl⟩
  go_wp2_with fail
  refine (hnl.out _).mono ?_
  rintro e w0' ⟨rfl, rfl⟩
  go_wp2_with fail
  refine hgot.out.mono ?_
  rintro e w1 ⟨gv, ox, cv, Lv, b, l, rfl, g1, g2, g3, g4, g5, g6, g7, g8, g9, g10, g11, g12, g13, g14⟩
  obtain rfl : ox = 0 := by omega
  rw [Nat.zero_add] at g3
  have hmk := Lib.hid (make_any N (by omega) w1)
  have hx1 := Lib.hid (hx'.out.later g10 hgx)
  have hy1' := Lib.hid (hy'.out.later g10 hgy)
  have h41 := Lib.hid ((g10.cell (p := ⟨1, 0, none⟩) hg1).trans h40'.out)
  have hgv := g2.lt
  have G := Lib.hid (And.intro g2 (And.intro g5 (And.intro g8 (And.intro g9 g10))))
  clear g2 g5 g8 g9 g10 g12 g13 hgot hsv hnl cy1 hx' hy' hst' h40'
  go_wp2_with fail
  refine hmk.out.mono ?_
  rintro e w2 ⟨⟨z, rfl, hz⟩, hb2⟩
  obtain ⟨gu, cu, Lu, rfl, hu2, hul, huB, huc, hum⟩ := OwnW.wd hz (by rw [dig_length]; omega)
  rw [dig_length] at huc ⊢
  have hgvu : gv ≠ gu := by omega
  have hv2 : Wd w2 gv Lv := (hb2.block gv hgv).trans G.out.1
  have hx2 := hx1.out.later hb2 (by have := G.out.2.2.2.2.size; omega)
  have hy2 := hy1'.out.later hb2 (by have := G.out.2.2.2.2.size; omega)
  have hbw2 : Below g w0' w2 := G.out.2.2.2.2.trans (hb2.mono (by omega))
  have hst2 : Stk w2 g b l := G.out.2.1.later hb2
  have h42 : w2.cell? ⟨1, 0, none⟩ = some (.int .i64 40) := (hb2.cell (p := ⟨1, 0, none⟩) (by show 1 < w1.heap.size; omega)).trans h41.out
  have H2 := Lib.hid (And.intro hv2 (And.intro hu2 (And.intro hx2 (And.intro hy2 (And.intro hbw2 (And.intro hst2 (And.intro h42 (And.intro hul hum))))))))
  clear hz hu2 hb2 hmk hx1 hy1' h41 hv2 hx2 hy2 hbw2 hst2 h42 hum
  go_upto_if 40 with fail
  go_cut [14, 30, 39, 40] from 41 (fun v _ _ _ wx => v = .int .u64 (s : Int) ∧ Mid gv gu n N (X * 2 ^ s) (Y * 2 ^ s) Lv Lu w2 wx)
  case first =>
    obtain ⟨hv2, hu2, hx2, hy2, -⟩ := H2.out
    rcases Nat.eq_zero_or_pos s with h0 | h0
    · subst h0
      obtain ⟨w3, hr3, hv3, ho3⟩ := wd_copy 83 83 Tryz.underlying83 hv2 n gy 0 (Y * 2 ^ 0) (by rw [Nat.pow_zero, Nat.mul_one]; exact hy2) g3 cv cy n n (by simp)
      obtain ⟨w4, hr4, hu4, ho4⟩ := wd_copy 83 83 Tryz.underlying83 (ho3.wd hu2 (Ne.symm hgvu)) Nx gx 0 (X * 2 ^ 0) (by rw [Nat.pow_zero, Nat.mul_one]; exact ho3.src hx2 (by omega)) (by omega) cu cx Nx Nx (by simp)
      obtain ⟨⟨cv4, hcv4⟩, hf4⟩ := hu4.some_ (p := Nx) (by rw [mix_length]; omega)
      have hmu4 := hu4.lt
      have hfin := Lib.hid (show Mid gv gu n N (X * 2 ^ 0) (Y * 2 ^ 0) Lv Lu w2 (w4.setCell ⟨gu, Nx, none⟩ (.int .u64 0)) from by
        have ho5 : Only gu w3 (w4.setCell ⟨gu, Nx, none⟩ (.int .u64 0)) := ho4.setCell _ _
        refine ⟨ho5.wd hv3 hgvu, ?_, ho3.but1.trans ho5.but2, ho5.size.trans ho3.size⟩
        have hp := hu4.put Nx (.int .u64 0)
        have e1 := mix_up (L := Lu) (o := 0) (R := X * 2 ^ 0) (a := 0) (k := Nx) (by omega) (by omega)
        have e0 : X * 2 ^ 0 / W ^ Nx % W = 0 := by rw [Nat.pow_zero, Nat.mul_one, Nat.div_eq_of_lt hk.out.2.2.2.2.2, Nat.zero_mod]
        rw [Nat.zero_add, e0, hN] at e1
        rw [← e1]
        exact hp)
      clear hv2 hu2 hx2 hy2 hv3 hu4 ho3 ho4
      go_wp2_with fail
      go_meet
      exact ⟨rfl, hfin.out⟩
    · have hs0 : ((s : Int) == 0) = false := by simp; omega
      have hYlt : Y < W ^ n := by rw [← hXY.out.2]; exact len_lt W_two Y
      have hl1 := Lib.hid (lshv_sec Y s n gv cv gy 0 cy Lv w2 hv2 hy2 hYlt g3 (by omega) (by omega) (by omega) (by omega) g1 hcy h0 n1)
      have hl2 := Lib.hid fun w3 (h : Only gv w2 w3) => lshv_sec X s Nx gu cu gx 0 cx Lu w3 (h.wd hu2 (Ne.symm hgvu)) (h.src hx2 (by omega)) hk.out.2.2.2.2.2 (by omega) (by omega) (by omega) (by omega) (by omega) (by omega) hcx h0 n1
      clear hv2 hu2 hx2 hy2 hYlt
      go_wp2_with fail
      refine hl1.out.mono ?_
      rintro e w3 ⟨rfl, hv3, ho3⟩
      have hv3' := Lib.hid hv3
      have ho3' := Lib.hid ho3
      clear hv3 ho3
      go_wp2_with fail
      refine (hl2.out w3 ho3'.out).mono ?_
      rintro e w4 ⟨rfl, hu4, ho4⟩
      obtain ⟨⟨cv4, hcv4⟩, hf4⟩ := hu4.some_ (p := Nx) (by rw [mix_length]; omega)
      have hmu4 := hu4.lt
      obtain ⟨T, hT⟩ : ∃ T, X * 2 ^ s / W ^ Nx % W = T := ⟨_, rfl⟩
      rw [hT]
      have hfin := Lib.hid (show Mid gv gu n N (X * 2 ^ s) (Y * 2 ^ s) Lv Lu w2 (w4.setCell ⟨gu, Nx, none⟩ (.int .u64 (T : Int))) from by
        have ho5 : Only gu w3 (w4.setCell ⟨gu, Nx, none⟩ (.int .u64 (T : Int))) := ho4.setCell _ _
        refine ⟨ho5.wd hv3'.out hgvu, ?_, ho3'.out.but1.trans ho5.but2, ho5.size.trans ho3'.out.size⟩
        have hp := hu4.put Nx (.int .u64 (T : Int))
        have e1 := mix_up (L := Lu) (o := 0) (R := X * 2 ^ s) (a := 0) (k := Nx) (by omega) (by omega)
        rw [Nat.zero_add, hT, hN] at e1
        rw [← e1]
        exact hp)
      clear hu4 ho4 hT hl1 hl2 hv3' ho3'
      go_wp2_with fail
      go_meet
      exact ⟨rfl, hfin.out⟩
  case rest =>
    obtain ⟨rfl, hmid⟩ := hcut
    have hal := Lib.hid fun w => alias_nil (some ⟨gu, 0, none⟩) N cu w
    have hmk3 := Lib.hid fun w => make_any m (by omega) w
    have hmid' := Lib.hid hmid
    have hwsz : wc.heap.size = w2.heap.size := hmid.2.2.2
    clear hmid
    go_wp2_with fail
    refine (hal.out _).mono ?_
    rintro e w3 ⟨rfl, q, rfl⟩
    go_wp2_with fail
    refine (hmk3.out _).mono ?_
    rintro e w4 ⟨⟨z, rfl, hz⟩, hb4⟩
    obtain ⟨gq, cq, Lq, rfl, hq4, hql, hqB, hqc, hqm⟩ := OwnW.wd hz (by rw [dig_length]; omega)
    rw [dig_length] at hqc ⊢
    obtain ⟨hv2, hu2, hx2, hy2, hbw2, hst2, h42, hul', hum⟩ := H2.out
    obtain ⟨hv3, hu3, hbt3, hsz3⟩ := hmid'.out
    have hgu2 := hu2.lt
    have hgv2 := hv2.lt
    have hq0 : w2.heap.size ≤ gq := by have : wc.heap.size ≤ gq := hqB; omega
    have hv4 : Wd w4 gv (mix Lv 0 (Y * 2 ^ s) 0 n) := (hb4.block gv (by show gv < wc.heap.size; omega)).trans hv3
    have hu4 : Wd w4 gu (mix Lu 0 (X * 2 ^ s) 0 N) := (hb4.block gu (by show gu < wc.heap.size; omega)).trans hu3
    have hst3 : Stk wc g b l := hst2.keep hbt3 hv2 hv3 (by rw [mix_length]) hu2 G.out.2.2.2.1
    have hst4 : Stk w4 g b l := Stk.later (w := wc.drewN q) hst3 hb4
    have hgg : g < gu := by have := G.out.2.2.2.2.size; omega
    have hbw4 : Below g w0' w4 := (hbw2.trans (hbt3.below (by omega) (by omega) (by omega))).trans (Below.mono (Below.trans (Box.below_drawn (Below.refl _ wc) q) hb4) (by show g ≤ wc.heap.size; omega))
    have h44 : w4.cell? ⟨1, 0, none⟩ = some (.int .i64 40) := by
      have e1 : wc.cell? ⟨1, 0, none⟩ = w2.cell? ⟨1, 0, none⟩ := World.cell?_of_block (w := w2) (a := ⟨1, 0, none⟩) (hbt3.block 1 (by omega) (by omega) (by omega))
      exact ((hb4.cell (p := ⟨1, 0, none⟩) (by show 1 < wc.heap.size; omega)).trans e1).trans h42
    have hgv1 : g < gv := g11
    have hbv : b = some gv → n ≤ l := fun h => by have := G.out.2.2.1 h; omega
    have hb9 := G.out.2.2.2.1
    have hbas := Lib.hid (basic_any p n N m (Y * 2 ^ s) (X * 2 ^ s) gq cq g l gu cu gv cv b Lq (mix Lu 0 (X * 2 ^ s) 0 N) (mix Lv 0 (Y * 2 ^ s) 0 n) w4 hnp hm hm0 (by omega) (by omega) hq4 (by omega) hu4 (by rw [mix_length]; omega)
      (by have := hu4.wrote (by omega); exact this) (by rw [show m + (p + 1) = Nx by omega]; exact hk.out.2.2.1) hv4 (by have := hv4.wrote (by omega); exact this) hk.out.1 hk.out.2.1 hst4 (by omega) hbv
      (by intro h; rcases hb9 with h9 | h9 <;> rw [h9] at h <;> simp at h; omega) (by intro h; rcases hb9 with h9 | h9 <;> rw [h9] at h <;> simp at h; omega) (by omega) hgg (by omega) (by omega) hgvu hqc huc g1 hum hqm g14)
    have d40 : decide ((n : Int) < 40) = true := decide_eq_true (by omega)
    have hY0 : 0 < Y := by
      rcases Nat.eq_zero_or_pos Y with h | h
      · rw [h, Nat.zero_div] at hy1; omega
      · exact h
    have hQlt : X / Y < W ^ m := by
      refine Nat.div_lt_of_lt_mul (Nat.lt_of_lt_of_le hk.out.2.2.2.2.2 ?_)
      have h9 : W ^ (p + 1) ≤ Y := by
        have := (len_ge W_two hY0).2
        rw [hXY.out.2] at this
        rw [show p + 1 = n - 1 by omega]
        exact this
      rw [show Nx = (p + 1) + m by omega, Nat.pow_add]
      exact Nat.mul_le_mul_right _ h9
    have hRlt : X % Y < W ^ N := by
      refine Nat.lt_of_le_of_lt (Nat.mod_le _ _) (Nat.lt_of_lt_of_le hk.out.2.2.2.2.2 ?_)
      exact Nat.pow_le_pow_right W_pos (by omega)
    have hgq : gu < gq := by omega
    have hend : Hid (∀ w6 a1 c1 a2 c2 b5 w', IsNat w6 gq (.slice a1 (len W (X / Y)) c1) (X / Y) → IsNat w6 g (.slice a2 (len W (X % Y)) c2) (X % Y) → Below g w0' w6 → Back w6 g b5 0 w' → Two_ g X Y w0' (.returned (.tuple #[.slice a1 (len W (X / Y)) c1, .slice a2 (len W (X % Y)) c2])) w') := Lib.hid fun w6 a1 c1 a2 c2 b5 w' z1 z2 z3 z4 => by
      obtain ⟨y1, y2, y3, y4⟩ := z4
      exact ⟨⟨a1, c1, a2, c2, rfl, World.ownsRow.mono (OwnW.keep z1 y3) (by omega), OwnW.keep z2 y3⟩, z3.trans y2, b5, 0, y1⟩
    have H4 := Lib.hid (And.intro hbw4 (And.intro hQlt (And.intro hRlt (And.intro hqm hum))))
    have hmg4 : 1 < w4.heap.size := World.block_lt_of_cell? w4 _ h44
    clear hz hq4 hb4 hv2 hu2 hx2 hy2 hbw2 hst2 h42 hv3 hu3 hbt3 hv4 hu4 hst3 hst4 hbw4 hQlt hRlt hqm hum hal hmk3 hmid' hbv hb9
    go_wp2_with fail
    refine hbas.out.mono ?_
    rintro e w5 ⟨rfl, ⟨hq5, hu5, hbb⟩, b5, l5, hst5, hl5⟩
    rw [hk.out.2.2.2.1] at hq5
    rw [hk.out.2.2.2.2.1] at hu5
    have hnq := Lib.hid (norm_any (.slice (some ⟨gq, 0, none⟩) m cq) (X / Y) m gq w5 (Wd.own hq5 (by rw [mix_length]; exact hql) hqc H4.out.2.2.2.1 (Nat.le_refl _) fun j hj => mix_at j hj (by omega)) H4.out.2.1 (by omega))
    have hbw5 : Below g w0' w5 := H4.out.1.trans hbb
    have hsrcu : Src w5 gu 0 N 0 (X % Y * 2 ^ s) := hu5.wrote (by rw [mix_length]; omega)
    have hmu5 := hu5.lt
    have H5 := Lib.hid (And.intro hu5 (And.intro hbw5 (And.intro hst5 hsrcu)))
    clear hq5 hu5 hbb hst5 hbw5 hsrcu hbas h44
    go_wp2_with fail
    refine hnq.out.mono ?_
    rintro e w5' ⟨⟨u, rfl, hu⟩, rfl⟩
    obtain ⟨a1, c1, rfl, -, -⟩ := hu.slice
    obtain ⟨nq, hnqe⟩ : ∃ nq, len W (X / Y) = nq := ⟨_, rfl⟩
    rw [hnqe] at hu hend ⊢
    have hu' := Lib.hid hu
    clear hu hnq
    obtain ⟨hu5, hbw5, hst5, hsrcu⟩ := H5.out
    rcases Nat.eq_zero_or_pos s with h0 | h0
    · subst h0
      simp only [Nat.pow_zero, Nat.mul_one] at hu5
      have hnr := Lib.hid (norm_any (.slice (some ⟨gu, 0, none⟩) N cu) (X % Y) N g w5 (Wd.own hu5 (by rw [mix_length, mix_length]; exact hul) huc H4.out.2.2.2.2 (by omega) fun j hj => mix_at j hj (by rw [mix_length]; omega)) H4.out.2.2.1 (by omega))
      have hbw' := Lib.hid hbw5
      have hdef := Lib.hid (restore_deferred g b5 l5 0 .returning w5 hst5 (by omega))
      clear hu5 hbw5 hst5 hsrcu H5
      go_wp2_with fail
      refine hnr.out.mono ?_
      rintro e w7 ⟨⟨u, rfl, hu⟩, rfl⟩
      obtain ⟨a2, c2, rfl, -, -⟩ := hu.slice
      have hfin := Lib.hid fun w' => hend.out w5 a1 c1 a2 c2 b5 w' hu'.out hu hbw'.out
      clear hu hnr hend
      go_wp2_with fail
      refine leaves_cons (f := 100) (args := #[.pointer (some ⟨g, 0, none⟩), .int .i64 0]) (by simp) (by simp [go_sem]) ?_
      refine hdef.out.mono ?_
      rintro e u' w'' ⟨rfl, rfl, hb⟩
      refine ⟨_, results_tmp2 rfl _ _ _, ?_⟩
      exact hfin.out _ hb
    · have hs0 : ((s : Int) == 0) = false := by simp; omega
      have hs0' : ((s : Int) != 0) = true := by simp; omega
      have hUV : X % Y * 2 ^ s < W ^ N := by
        have e1 : X % Y * 2 ^ s = X * 2 ^ s % (Y * 2 ^ s) := hk.out.2.2.2.2.1.symm
        rw [e1]
        refine Nat.lt_of_le_of_lt (Nat.mod_le _ _) (Nat.lt_trans hk.out.2.2.1 ?_)
        rw [← hN, Nat.pow_succ, Nat.mul_comm]
        exact Nat.mul_lt_mul_of_pos_left (by rw [W_eq]; omega) (pw _)
      have hsh := Lib.hid (rshv_sec (X % Y * 2 ^ s) s N gu cu cu _ w5 hu5 hsrcu (by omega) (by rw [mix_length, mix_length]; omega) (by omega) hUV h0 n1 huc huc)
      have hdiv : X % Y * 2 ^ s / 2 ^ s = X % Y := Nat.mul_div_cancel _ (Nat.pow_pos (by omega))
      rw [hdiv] at hsh
      have hbw' := Lib.hid hbw5
      have hu5' := Lib.hid hu5
      have hst5' := Lib.hid hst5
      clear hu5 hbw5 hst5 hsrcu H5 hUV hdiv
      go_wp2_with fail
      refine hsh.out.mono ?_
      rintro e w6 ⟨⟨uu, rfl⟩, hu6, ho6⟩
      have hst6 : Stk w6 g b5 l5 := by
        cases b5 with
        | none => exact ⟨ho6.holds hst5'.out.1 (by omega), hst5'.out.2⟩
        | some bb =>
          obtain ⟨gi, c, L, z1, z2, z3, z4, z5, z6, z7, z8⟩ := hst5'.out
          by_cases hbu : bb = gu
          · subst hbu
            have e : L = mix (mix Lu 0 (X * 2 ^ s) 0 N) 0 (X % Y * 2 ^ s) 0 N := by
              have e1 : w5.heap[bb]? = some (.cells L.toArray 111 (0, 0)) := z3
              have e2 := hu5'.out
              unfold Wd Box.Holds at e2
              rw [e1] at e2
              simpa using e2
            exact ⟨gi, c, _, ho6.holds z1 (by omega), ho6.holds z2 (Ne.symm (hu5'.out.ne_inner z2)), hu6, by rw [mix_length, ← e, z4], z5, z6, z7, z8⟩
          · exact ⟨gi, c, L, ho6.holds z1 (by omega), ho6.holds z2 (Ne.symm (hu5'.out.ne_inner z2)), ho6.wd z3 hbu, z4, z5, z6, z7, z8⟩
      have hnr := Lib.hid (norm_any (.slice (some ⟨gu, 0, none⟩) N cu) (X % Y) N g w6 (Wd.own hu6 (by rw [mix_length, mix_length, mix_length]; exact hul) huc H4.out.2.2.2.2 (by omega) fun j hj => mix_at j hj (by rw [mix_length, mix_length]; omega)) H4.out.2.2.1 (by omega))
      have hdef := Lib.hid (restore_deferred g b5 l5 0 .returning w6 hst6 (by omega))
      have hq6 : IsNat w6 gq (.slice a1 nq c1) (X / Y) := Box.own_above hu'.out fun k hk1 hk2 => ho6.block k (by omega)
      have hq6' := Lib.hid hq6
      have hb6 := Lib.hid (ho6.below hbw'.out (by omega))
      clear hu6 ho6 hst6 hq6 hsh
      go_wp2_with fail
      refine hnr.out.mono ?_
      rintro e w7 ⟨⟨u, rfl, hu⟩, rfl⟩
      obtain ⟨a2, c2, rfl, -, -⟩ := hu.slice
      have hfin := Lib.hid fun w' => hend.out w6 a1 c1 a2 c2 b5 w' hq6'.out hu hb6.out
      clear hu hnr hend
      go_wp2_with fail
      refine leaves_cons (f := 100) (args := #[.pointer (some ⟨g, 0, none⟩), .int .i64 0]) (by simp) (by simp [go_sem]) ?_
      refine hdef.out.mono ?_
      rintro e u' w'' ⟨rfl, rfl, hb⟩
      refine ⟨_, results_tmp2 rfl _ _ _, ?_⟩
      exact hfin.out _ hb

set_option maxHeartbeats 2000000 in
set_option maxRecDepth 100000 in
theorem ndiv_large (v d : Value) (X Y B B2 : Nat) (w : World) (h : IsNat w B v X) (hd : IsNat w B2 d Y) (hm : len W X ≤ 900) (hm2 : len W Y < 40) (hl : 2 ≤ len W Y) (hXY : Y ≤ X) (h40 : w.cell? ⟨1, 0, none⟩ = some (.int .i64 40)) :
    Calls Tryz.prog 68 #[.slice none 0 0, .pointer none, .slice none 0 0, v, d] w (Big.Parts w (X / Y) (X % Y)) := by
  have hcmp := Lib.hid (ncmp_any v d X Y B B2 w h hd (by omega) (by omega))
  have hll := len_mono W_two hXY
  have e1 : cmpN X Y = 0 ∨ cmpN X Y = 1 := by
    unfold cmpN
    rw [if_neg (by omega)]
    split
    · exact .inr rfl
    · exact .inl rfl
  obtain ⟨cc, hcc⟩ : ∃ cc, cmpN X Y = cc := ⟨_, rfl⟩
  rw [hcc] at hcmp e1
  have dcc : decide (cc < 0) = false := decide_eq_false (by omega)
  have hx9 := h
  have hy9 := hd
  obtain ⟨n, hn⟩ : ∃ n, len W X = n := ⟨_, rfl⟩
  obtain ⟨k, hk⟩ : ∃ k, len W Y = k := ⟨_, rfl⟩
  rw [hk] at hl hm2 hll
  rw [hn] at hm hll
  rcases h.shape with ⟨h0, -⟩ | ⟨gx, cx, rfl, hgx, -, hcx, -⟩
  · exfalso
    rw [h0, len_zero] at hn
    omega
  rcases hd.shape with ⟨h0, -⟩ | ⟨gy, cy, rfl, hgy, -, hcy, -⟩
  · exfalso
    rw [h0, len_zero] at hk
    omega
  rw [hn] at hcx hcmp hx9 ⊢
  rw [hk] at hcy hcmp hy9 ⊢
  have sx := IsNat.src0 hx9 hn
  have sy := IsNat.src0 hy9 hk
  have l0 : ((k : Int) == 0) = false := by simp; omega
  have l1 : ((k : Int) == 1) = false := by simp; omega
  have hg1 : 1 < w.heap.size := World.block_lt_of_cell? w _ h40
  have hst : Hid (∀ w1, Below w.heap.size w w1 → Calls Tryz.prog 87 #[.slice none 0 0, .pointer (some ⟨w1.heap.size, 0, none⟩), .slice none 0 0, .slice (some ⟨gx, 0, none⟩) n cx, .slice (some ⟨gy, 0, none⟩) k cy] (w1.alloc (.cells #[.pointer none] 134)) (Two_ w1.heap.size X Y (w1.alloc (.cells #[.pointer none] 134)))) := Lib.hid fun w1 hb => by
    have hs1 := hb.size
    have hb2 : Below w.heap.size w (w1.alloc (.cells #[.pointer none] 134)) := hb.alloc hs1 _
    have hS : Stk (w1.alloc (.cells #[.pointer none] 134)) w1.heap.size none 0 := ⟨Box.Holds.made w1 134 #[.pointer none], rfl⟩
    exact large_any (k - 2) (k - 2 + 1) k n (n + 1) (n + 1 - k) X Y gx cx gy cy w1.heap.size _ hn hk (by omega) rfl rfl (by omega) (by omega) hm hm2 (sx.later hb2 hgx) (sy.later hb2 hgy) (by omega) (by omega) hcx hcy hS ((hb2.cell (p := ⟨1, 0, none⟩) hg1).trans h40) (by omega)
  have hgs := Lib.hid fun w => getstk_any w
  have hh := Lib.hid (And.intro hn hk)
  clear h hd hx9 hy9 sx sy h40 hn hk hcc e1 hXY
  go_enter_defers Tryz.func68, Tryz.ntmps68
  go_wp2_with fail
  refine hcmp.out.mono ?_
  rintro e w1 ⟨rfl, hb⟩
  have hb' := Lib.hid hb
  have hlg := Lib.hid (hst.out w1 hb)
  have hs1 := hb.size
  clear hb hst hcmp
  go_wp2_with fail
  refine (hgs.out _).mono ?_
  rintro e w2 ⟨rfl, rfl⟩
  go_wp2_with fail
  refine hlg.out.mono ?_
  rintro e w3 ⟨⟨a1, c1, a2, c2, rfl, z1, z2⟩, z3, b, l, z4⟩
  have hdef := Lib.hid (free_deferred w1.heap.size b l .returning w3 z4)
  have hfin := Lib.hid (show ∀ w', Back w3 w1.heap.size b 0 w' → Big.Parts w (X / Y) (X % Y) (.returned (.tuple #[.slice a1 (len W (X / Y)) c1, .slice a2 (len W (X % Y)) c2])) w' from fun w' hk => by
    obtain ⟨y1, y2, y3, y4⟩ := hk
    refine ⟨⟨a1, c1, a2, c2, rfl, World.ownsRow.mono (OwnW.keep z1 y3) hs1, World.ownsRow.mono (OwnW.keep z2 y3) hs1⟩, ?_⟩
    exact hb'.out.trans ((((Below.refl w.heap.size w1).alloc hs1 _).trans (z3.mono hs1)).trans (y2.mono hs1)))
  clear z1 z2 z3 z4 hlg hgs
  obtain ⟨nq, hnq⟩ : ∃ nq, len W (X / Y) = nq := ⟨_, rfl⟩
  obtain ⟨nr, hnr⟩ : ∃ nr, len W (X % Y) = nr := ⟨_, rfl⟩
  rw [hnq, hnr] at hfin ⊢
  clear hnq hnr
  go_wp2_with fail
  refine leaves_cons (f := 86) (args := #[.pointer (some ⟨w1.heap.size, 0, none⟩)]) (by simp) (by simp [go_sem]) ?_
  refine hdef.out.mono ?_
  rintro e u' w'' ⟨rfl, rfl, hb⟩
  refine ⟨_, results_tmp2 rfl _ _ _, ?_⟩
  exact hfin.out _ hb
/-- a natural divided by another -/
theorem ndiv_any (v d : Value) (X Y B B2 : Nat) (w : World) (h : IsNat w B v X) (hd : IsNat w B2 d Y) (hm : len W X ≤ 900) (hm2 : len W Y < 40) (hY : 0 < Y) (h40 : w.cell? ⟨1, 0, none⟩ = some (.int .i64 40)) :
    Calls Tryz.prog 68 #[.slice none 0 0, .pointer none, .slice none 0 0, v, d] w (Big.Parts w (X / Y) (X % Y)) := by
  rcases Nat.lt_or_ge Y W with h1 | h1
  · exact ndiv_word v d X Y B B2 w h hd (by omega) hY h1
  · have hl : 2 ≤ len W Y := le_len W_two (by simpa using h1)
    rcases Nat.lt_or_ge X Y with h2 | h2
    · exact ndiv_less v d X Y B B2 w h hd (by omega) (by omega) hl h2
    · exact ndiv_large v d X Y B B2 w h hd hm hm2 hl h2 h40
end Go.Proofs.YtpjkfdgkkpkljaaGreatDoor.Nat_
