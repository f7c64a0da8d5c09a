/-
  The reference's steps of some kinds alone.
-/
import Derived.Test.YtafbheamnjmfoaaGreatLsOnlyKit
import Derived.Deep.MidRow
import Derived.Deep.CutBlock
namespace Go.Proofs.YtafbheamnjmfoaaGreat.Ls
open Go.RowKit Go.WideShapes Go.Proofs.YtafbheamnjmfoaaGreat.Sc Go.Proofs.YtafbheamnjmfoaaGreat.VRow
set_option linter.unusedVariables false

/-- a raw step being made, whatever the order -/
structure I5o (wr : World) (u1 u8 : Value) (P : Addr) (ri rj rm : Int) (y z : V6) (f : Nat → Bool) (V : Nat → Value) (W : World) : Prop where
  m : Mo wr ri rj rm (f 20) (f 26) (f 27) (f 28) (f 29) (V 20) (V 26) (V 27) (V 28) W
  p0 : f 0 = true → V 0 = u1
  p1 : f 1 = true → V 1 = u8
  p2 : f 2 = true → V 2 = .pointer (some P)
  p3 : f 3 = true → V 3 = .pointer (some ⟨P.block, P.off + 1, none⟩)
  p4 : f 4 = true → V 4 = .int .i64 ri
  p5 : f 5 = true → V 5 = u1
  p6 : f 6 = true → V 6 = u8
  p7 : f 7 = true → V 7 = .pointer (some P)
  p8 : f 8 = true → V 8 = .pointer (some ⟨P.block, P.off + 2, none⟩)
  p9 : f 9 = true → V 9 = .int .i64 rj
  p10 : f 10 = true → V 10 = u1
  p11 : f 11 = true → V 11 = u8
  p12 : f 12 = true → V 12 = .pointer (some P)
  p13 : f 13 = true → V 13 = .pointer (some ⟨P.block, P.off + 3, none⟩)
  p14 : f 14 = true → V 14 = .int .i64 rm
  p15 : f 15 = true → V 15 = u1
  p16 : f 16 = true → V 16 = u8
  p17 : f 17 = true → V 17 = .pointer (some P)
  p18 : f 18 = true → V 18 = .pointer (some ⟨P.block, P.off + 4, none⟩)
  p19 : f 19 = true → V 19 = .agg (V6.arr y)
  p21 : f 21 = true → V 21 = u1
  p22 : f 22 = true → V 22 = u8
  p23 : f 23 = true → V 23 = .pointer (some P)
  p24 : f 24 = true → V 24 = .pointer (some ⟨P.block, P.off + 10, none⟩)
  p25 : f 25 = true → V 25 = .agg (V6.arr z)
def kindCs : Array Value := #[.int .i64 0, .int .i64 1, .int .i64 2, .int .i64 27, .int .i64 3, .int .i64 11, .int .i64 5, .int .i64 6, .int .i64 7, .int .i64 8]
theorem kinds_at {n : Nat} (hn : n < 10) : ∃ c : Int, kindCs[n]? = some (.int .i64 c) ∧ Kd c := by
  have h : n = 0 ∨ n = 1 ∨ n = 2 ∨ n = 3 ∨ n = 4 ∨ n = 5 ∨ n = 6 ∨ n = 7 ∨ n = 8 ∨ n = 9 := by omega
  rcases h with rfl | rfl | rfl | rfl | rfl | rfl | rfl | rfl | rfl | rfl
  all_goals exact ⟨_, rfl, by unfold Kd; omega⟩
set_option maxHeartbeats 2000000 in
set_option maxRecDepth 100000 in
theorem only_any (A : Option Addr) (L : List R17) (cp kb : Nat) (w : World) (h : ArgSteps w A L) (hl : L.length ≤ 2147483647) (hk : Box.Holds w kb 3 kindCs) :
    Calls Tryz.prog 13 #[.slice A L.length cp, .slice (some ⟨kb, 0, none⟩) 10 10, .bool false] w fun e w' => (∃ u R, e = .returned u ∧ Raws w' w.heap.size u R ∧ ∀ r ∈ R, r.Good) ∧ Below w.heap.size w w' := by
  have hkl := hk.lt
  have hk' := Lib.hid hk
  clear hk
  go_enter Tryz.func13, Tryz.ntmps13
  go_wp2
  go_loopw [7, 8] (fun u i wr => ∃ (j : Nat) (R : List Rw), i = .int .i64 j ∧ j ≤ L.length ∧ j ≤ 60 ∧ R.length = j ∧ Hid (Raws wr w.heap.size u R) ∧ Hid (∀ r ∈ R, r.Good) ∧ Hid (Below w.heap.size w wr)) (fun _ i _ => L.length - (intOf i).toNat)
  case atStart => exact ⟨0, [], rfl, Nat.zero_le _, Nat.zero_le _, rfl, Lib.hid ⟨[], OwnR.nil _ _ _ _, All.nil _⟩, Lib.hid (fun r h => by cases h), Lib.hid (Below.refl _ _)⟩
  case round =>
    obtain ⟨j, R, rfl, hj, hj60, hRl, hR, hG, hbw⟩ := hrel
    by_cases hlt : j < L.length ∧ j < 60
    · obtain ⟨hlt, hlt60⟩ := hlt
      obtain ⟨x, rfl⟩ := Option.isSome_iff_exists.1 (h.some_ (by rintro rfl; simp at hlt))
      have hcells := fun W hb => h.cells (W := W) hb rfl hlt
      have hel := h.el j hlt
      obtain ⟨P, hP⟩ : ∃ P, x.add (j * 17) = P := ⟨_, rfl⟩
      rw [hP] at hcells
      obtain ⟨r, hr⟩ : ∃ r, L[j] = r := ⟨_, rfl⟩
      rw [hr] at hcells hel
      obtain ⟨rk, ri, rj, rm, ry, rz, rs⟩ := r
      obtain ⟨hEy, hEz, hm1, hm2⟩ := hel
      have hEy1 := hEy
      have hEz1 := hEz
      obtain ⟨yk, yn, ya, yL, yc, yb, yt, yA, yN, yC, rfl, -⟩ := hEy1
      obtain ⟨zk, zn, za, zL, zc, zb, zt, zA, zN, zC, rfl, -⟩ := hEz1
      have hcells := Lib.hid hcells
      have hEy := Lib.hid hEy
      have hEz := Lib.hid hEz
      clear hr
      go_upto_region 5 with fail
      refine Reg.via_rel (fun V W => I5o wr (.slice (some x) L.length cp) (.int .i64 j) P ri rj rm ⟨.int .i64 yk, .bool yn, .slice ya yL.length yc, .int .u64 yb, .string yt, .slice yA yN yC⟩ ⟨.int .i64 zk, .bool zn, .slice za zL.length zc, .int .u64 zb, .string zt, .slice zA zN zC⟩ (fun j => decide (j < 30)) V W) (fun V a0 => Reg.fill (Reg.dstOf (some 21 :: some 22 :: some 23 :: some 24 :: some 25 :: some 26 :: some 27 :: some 28 :: some 29 :: some 30 :: some 31 :: some 32 :: some 33 :: some 34 :: some 35 :: some 36 :: some 37 :: some 38 :: some 39 :: some 40 :: some 41 :: some 42 :: some 43 :: some 44 :: some 45 :: some 46 :: some 47 :: some 48 :: some 9 :: none :: [])) V 30 a0) (fun a0 => a0.tmps.size = 84 ∧ a0.eval (.tmp 0) = .slice (some x) L.length cp ∧ a0.eval (.tmp 8) = .int .i64 j) ⟨rfl, rfl, rfl⟩ ?h1 ?h2
      case h1 =>
        go_light
        rintro af Q' ⟨zsz, e0, e8⟩ hQ
        have b0 : ∀ a' v f, Reg.Held af (Reg.dstOf (some 21 :: some 22 :: some 23 :: some 24 :: some 25 :: some 26 :: some 27 :: some 28 :: some 29 :: some 30 :: some 31 :: some 32 :: some 33 :: some 34 :: some 35 :: some 36 :: some 37 :: some 38 :: some 39 :: some 40 :: some 41 :: some 42 :: some 43 :: some 44 :: some 45 :: some 46 :: some 47 :: some 48 :: some 9 :: none :: [])) v f a' → a'.eval (.tmp 0) = .slice (some x) L.length cp := fun a' v f hH => (hH.rest 0 fun k d _ hd => Reg.dstOf_ne _ 0 (by decide +kernel) hd).trans e0
        have b8 : ∀ a' v f, Reg.Held af (Reg.dstOf (some 21 :: some 22 :: some 23 :: some 24 :: some 25 :: some 26 :: some 27 :: some 28 :: some 29 :: some 30 :: some 31 :: some 32 :: some 33 :: some 34 :: some 35 :: some 36 :: some 37 :: some 38 :: some 39 :: some 40 :: some 41 :: some 42 :: some 43 :: some 44 :: some 45 :: some 46 :: some 47 :: some 48 :: some 9 :: none :: [])) v f a' → a'.eval (.tmp 8) = .int .i64 j := fun a' v f hH => (hH.rest 8 fun k d _ hd => Reg.dstOf_ne _ 8 (by decide +kernel) hd).trans e8
        refine Reg.wp_region_rel (by kernel_rfl) (by decide +kernel) 30 rfl (Reg.dstOf (some 21 :: some 22 :: some 23 :: some 24 :: some 25 :: some 26 :: some 27 :: some 28 :: some 29 :: some 30 :: some 31 :: some 32 :: some 33 :: some 34 :: some 35 :: some 36 :: some 37 :: some 38 :: some 39 :: some 40 :: some 41 :: some 42 :: some 43 :: some 44 :: some 45 :: some 46 :: some 47 :: some 48 :: some 9 :: none :: [])) (fun f V W => I5o wr (.slice (some x) L.length cp) (.int .i64 j) P ri rj rm ⟨.int .i64 yk, .bool yn, .slice ya yL.length yc, .int .u64 yb, .string yt, .slice yA yN yC⟩ ⟨.int .i64 zk, .bool zn, .slice za zL.length zc, .int .u64 zb, .string zt, .slice zA zN zC⟩ f V W) ?h0 ?hops (Reg.dstOf_inj _ (by decide +kernel)) (fun k d hd => by rw [zsz]; exact Reg.dstOf_lt _ 84 (by decide +kernel) hd) ?hstep hQ
        case h0 =>
          exact ⟨⟨Box.below_drawn (Below.refl _ _) 1, (fun h => by cases h), (fun h => by cases h), (fun h => by cases h), (fun h => by cases h)⟩, (fun h => by cases h), (fun h => by cases h), (fun h => by cases h), (fun h => by cases h), (fun h => by cases h), (fun h => by cases h), (fun h => by cases h), (fun h => by cases h), (fun h => by cases h), (fun h => by cases h), (fun h => by cases h), (fun h => by cases h), (fun h => by cases h), (fun h => by cases h), (fun h => by cases h), (fun h => by cases h), (fun h => by cases h), (fun h => by cases h), (fun h => by cases h), (fun h => by cases h), (fun h => by cases h), (fun h => by cases h), (fun h => by cases h), (fun h => by cases h), (fun h => by cases h)⟩
        case hops =>
          intro oi o ho
          have hi : oi < 30 := (Array.getElem?_eq_some_iff.1 ho).1
          have hcs : oi = 0 ∨ oi = 1 ∨ oi = 2 ∨ oi = 3 ∨ oi = 4 ∨ oi = 5 ∨ oi = 6 ∨ oi = 7 ∨ oi = 8 ∨ oi = 9 ∨ oi = 10 ∨ oi = 11 ∨ oi = 12 ∨ oi = 13 ∨ oi = 14 ∨ oi = 15 ∨ oi = 16 ∨ oi = 17 ∨ oi = 18 ∨ oi = 19 ∨ oi = 20 ∨ oi = 21 ∨ oi = 22 ∨ oi = 23 ∨ oi = 24 ∨ oi = 25 ∨ oi = 26 ∨ oi = 27 ∨ oi = 28 ∨ oi = 29 := by omega
          rcases hcs with rfl | rfl | rfl | rfl | rfl | rfl | rfl | rfl | rfl | rfl | rfl | rfl | rfl | rfl | rfl | rfl | rfl | rfl | rfl | rfl | rfl | rfl | rfl | rfl | rfl | rfl | rfl | rfl | rfl | rfl
          all_goals
            obtain rfl := Option.some.inj ho
            exact ⟨rfl, rfl⟩
        case hstep =>
          intro f V a' Wx oi o hi ho hun hcl hdep hH hI K hK
          clear hQ
          have hcs : oi = 0 ∨ oi = 1 ∨ oi = 2 ∨ oi = 3 ∨ oi = 4 ∨ oi = 5 ∨ oi = 6 ∨ oi = 7 ∨ oi = 8 ∨ oi = 9 ∨ oi = 10 ∨ oi = 11 ∨ oi = 12 ∨ oi = 13 ∨ oi = 14 ∨ oi = 15 ∨ oi = 16 ∨ oi = 17 ∨ oi = 18 ∨ oi = 19 ∨ oi = 20 ∨ oi = 21 ∨ oi = 22 ∨ oi = 23 ∨ oi = 24 ∨ oi = 25 ∨ oi = 26 ∨ oi = 27 ∨ oi = 28 ∨ oi = 29 := by omega
          rcases hcs with rfl | rfl | rfl | rfl | rfl | rfl | rfl | rfl | rfl | rfl | rfl | rfl | rfl | rfl | rfl | rfl | rfl | rfl | rfl | rfl | rfl | rfl | rfl | rfl | rfl | rfl | rfl | rfl | rfl | rfl
          · obtain rfl := Option.some.inj ho
            have g0 := Reg.tmp_at (b0 a' _ f hH)
            refine Reg.wp_value (.slice (some x) L.length cp) (w' := Wx) ?_ (hK _ _ ⟨hI.m, fun _ => rfl, hI.p1, hI.p2, hI.p3, hI.p4, hI.p5, hI.p6, hI.p7, hI.p8, hI.p9, hI.p10, hI.p11, hI.p12, hI.p13, hI.p14, hI.p15, hI.p16, hI.p17, hI.p18, hI.p19, hI.p21, hI.p22, hI.p23, hI.p24, hI.p25⟩)
            clear hK hI
            go_simp
          · obtain rfl := Option.some.inj ho
            have g0 := Reg.tmp_at (b8 a' _ f hH)
            refine Reg.wp_value (.int .i64 j) (w' := Wx) ?_ (hK _ _ ⟨hI.m, hI.p0, fun _ => rfl, hI.p2, hI.p3, hI.p4, hI.p5, hI.p6, hI.p7, hI.p8, hI.p9, hI.p10, hI.p11, hI.p12, hI.p13, hI.p14, hI.p15, hI.p16, hI.p17, hI.p18, hI.p19, hI.p21, hI.p22, hI.p23, hI.p24, hI.p25⟩)
            clear hK hI
            go_simp
          · obtain rfl := Option.some.inj ho
            have g0 : a'.tmps[21]?.getD undef = .slice (some x) L.length cp := Reg.tmp_at ((hH.got 0 21 (hdep { on := 0, ground := .data } (by simp) rfl) rfl).trans (hI.p0 (hdep { on := 0, ground := .data } (by simp) rfl)))
            have g1 : a'.tmps[22]?.getD undef = .int .i64 j := Reg.tmp_at ((hH.got 1 22 (hdep { on := 1, ground := .data } (by simp) rfl) rfl).trans (hI.p1 (hdep { on := 1, ground := .data } (by simp) rfl)))
            refine Reg.wp_value (.pointer (some P)) (w' := Wx) ?_ (hK _ _ ⟨hI.m, hI.p0, hI.p1, fun _ => rfl, hI.p3, hI.p4, hI.p5, hI.p6, hI.p7, hI.p8, hI.p9, hI.p10, hI.p11, hI.p12, hI.p13, hI.p14, hI.p15, hI.p16, hI.p17, hI.p18, hI.p19, hI.p21, hI.p22, hI.p23, hI.p24, hI.p25⟩)
            clear hK hI
            go_simp
          · obtain rfl := Option.some.inj ho
            have g0 : a'.tmps[23]?.getD undef = .pointer (some P) := Reg.tmp_at ((hH.got 2 23 (hdep { on := 2, ground := .data } (by simp) rfl) rfl).trans (hI.p2 (hdep { on := 2, ground := .data } (by simp) rfl)))
            refine Reg.wp_value (.pointer (some ⟨P.block, P.off + 1, none⟩)) (w' := Wx) ?_ (hK _ _ ⟨hI.m, hI.p0, hI.p1, hI.p2, fun _ => rfl, hI.p4, hI.p5, hI.p6, hI.p7, hI.p8, hI.p9, hI.p10, hI.p11, hI.p12, hI.p13, hI.p14, hI.p15, hI.p16, hI.p17, hI.p18, hI.p19, hI.p21, hI.p22, hI.p23, hI.p24, hI.p25⟩)
            clear hK hI
            go_simp
          · obtain rfl := Option.some.inj ho
            obtain ⟨hgx, -, cq⟩ := hcells.out Wx (hbw.out.trans (hI.m.below.mono hbw.out.size))
            have c0 : Wx.cell? ⟨P.block, P.off + 1, none⟩ = some (.int .i64 ri) := cq 0 _ rfl
            clear cq
            have g0 : a'.tmps[24]?.getD undef = .pointer (some ⟨P.block, P.off + 1, none⟩) := Reg.tmp_at ((hH.got 3 24 (hdep { on := 3, ground := .data } (by simp) rfl) rfl).trans (hI.p3 (hdep { on := 3, ground := .data } (by simp) rfl)))
            refine Reg.wp_value (.int .i64 ri) (w' := Wx) ?_ (hK _ _ ⟨hI.m, hI.p0, hI.p1, hI.p2, hI.p3, fun _ => rfl, hI.p5, hI.p6, hI.p7, hI.p8, hI.p9, hI.p10, hI.p11, hI.p12, hI.p13, hI.p14, hI.p15, hI.p16, hI.p17, hI.p18, hI.p19, hI.p21, hI.p22, hI.p23, hI.p24, hI.p25⟩)
            clear hK hI
            go_simp
          · obtain rfl := Option.some.inj ho
            have g0 := Reg.tmp_at (b0 a' _ f hH)
            refine Reg.wp_value (.slice (some x) L.length cp) (w' := Wx) ?_ (hK _ _ ⟨hI.m, hI.p0, hI.p1, hI.p2, hI.p3, hI.p4, fun _ => rfl, hI.p6, hI.p7, hI.p8, hI.p9, hI.p10, hI.p11, hI.p12, hI.p13, hI.p14, hI.p15, hI.p16, hI.p17, hI.p18, hI.p19, hI.p21, hI.p22, hI.p23, hI.p24, hI.p25⟩)
            clear hK hI
            go_simp
          · obtain rfl := Option.some.inj ho
            have g0 := Reg.tmp_at (b8 a' _ f hH)
            refine Reg.wp_value (.int .i64 j) (w' := Wx) ?_ (hK _ _ ⟨hI.m, hI.p0, hI.p1, hI.p2, hI.p3, hI.p4, hI.p5, fun _ => rfl, hI.p7, hI.p8, hI.p9, hI.p10, hI.p11, hI.p12, hI.p13, hI.p14, hI.p15, hI.p16, hI.p17, hI.p18, hI.p19, hI.p21, hI.p22, hI.p23, hI.p24, hI.p25⟩)
            clear hK hI
            go_simp
          · obtain rfl := Option.some.inj ho
            have g0 : a'.tmps[26]?.getD undef = .slice (some x) L.length cp := Reg.tmp_at ((hH.got 5 26 (hdep { on := 5, ground := .data } (by simp) rfl) rfl).trans (hI.p5 (hdep { on := 5, ground := .data } (by simp) rfl)))
            have g1 : a'.tmps[27]?.getD undef = .int .i64 j := Reg.tmp_at ((hH.got 6 27 (hdep { on := 6, ground := .data } (by simp) rfl) rfl).trans (hI.p6 (hdep { on := 6, ground := .data } (by simp) rfl)))
            refine Reg.wp_value (.pointer (some P)) (w' := Wx) ?_ (hK _ _ ⟨hI.m, hI.p0, hI.p1, hI.p2, hI.p3, hI.p4, hI.p5, hI.p6, fun _ => rfl, hI.p8, hI.p9, hI.p10, hI.p11, hI.p12, hI.p13, hI.p14, hI.p15, hI.p16, hI.p17, hI.p18, hI.p19, hI.p21, hI.p22, hI.p23, hI.p24, hI.p25⟩)
            clear hK hI
            go_simp
          · obtain rfl := Option.some.inj ho
            have g0 : a'.tmps[28]?.getD undef = .pointer (some P) := Reg.tmp_at ((hH.got 7 28 (hdep { on := 7, ground := .data } (by simp) rfl) rfl).trans (hI.p7 (hdep { on := 7, ground := .data } (by simp) rfl)))
            refine Reg.wp_value (.pointer (some ⟨P.block, P.off + 2, none⟩)) (w' := Wx) ?_ (hK _ _ ⟨hI.m, hI.p0, hI.p1, hI.p2, hI.p3, hI.p4, hI.p5, hI.p6, hI.p7, fun _ => rfl, hI.p9, hI.p10, hI.p11, hI.p12, hI.p13, hI.p14, hI.p15, hI.p16, hI.p17, hI.p18, hI.p19, hI.p21, hI.p22, hI.p23, hI.p24, hI.p25⟩)
            clear hK hI
            go_simp
          · obtain rfl := Option.some.inj ho
            obtain ⟨hgx, -, cq⟩ := hcells.out Wx (hbw.out.trans (hI.m.below.mono hbw.out.size))
            have c0 : Wx.cell? ⟨P.block, P.off + 2, none⟩ = some (.int .i64 rj) := cq 1 _ rfl
            clear cq
            have g0 : a'.tmps[29]?.getD undef = .pointer (some ⟨P.block, P.off + 2, none⟩) := Reg.tmp_at ((hH.got 8 29 (hdep { on := 8, ground := .data } (by simp) rfl) rfl).trans (hI.p8 (hdep { on := 8, ground := .data } (by simp) rfl)))
            refine Reg.wp_value (.int .i64 rj) (w' := Wx) ?_ (hK _ _ ⟨hI.m, hI.p0, hI.p1, hI.p2, hI.p3, hI.p4, hI.p5, hI.p6, hI.p7, hI.p8, fun _ => rfl, hI.p10, hI.p11, hI.p12, hI.p13, hI.p14, hI.p15, hI.p16, hI.p17, hI.p18, hI.p19, hI.p21, hI.p22, hI.p23, hI.p24, hI.p25⟩)
            clear hK hI
            go_simp
          · obtain rfl := Option.some.inj ho
            have g0 := Reg.tmp_at (b0 a' _ f hH)
            refine Reg.wp_value (.slice (some x) L.length cp) (w' := Wx) ?_ (hK _ _ ⟨hI.m, hI.p0, hI.p1, hI.p2, hI.p3, hI.p4, hI.p5, hI.p6, hI.p7, hI.p8, hI.p9, fun _ => rfl, hI.p11, hI.p12, hI.p13, hI.p14, hI.p15, hI.p16, hI.p17, hI.p18, hI.p19, hI.p21, hI.p22, hI.p23, hI.p24, hI.p25⟩)
            clear hK hI
            go_simp
          · obtain rfl := Option.some.inj ho
            have g0 := Reg.tmp_at (b8 a' _ f hH)
            refine Reg.wp_value (.int .i64 j) (w' := Wx) ?_ (hK _ _ ⟨hI.m, hI.p0, hI.p1, hI.p2, hI.p3, hI.p4, hI.p5, hI.p6, hI.p7, hI.p8, hI.p9, hI.p10, fun _ => rfl, hI.p12, hI.p13, hI.p14, hI.p15, hI.p16, hI.p17, hI.p18, hI.p19, hI.p21, hI.p22, hI.p23, hI.p24, hI.p25⟩)
            clear hK hI
            go_simp
          · obtain rfl := Option.some.inj ho
            have g0 : a'.tmps[31]?.getD undef = .slice (some x) L.length cp := Reg.tmp_at ((hH.got 10 31 (hdep { on := 10, ground := .data } (by simp) rfl) rfl).trans (hI.p10 (hdep { on := 10, ground := .data } (by simp) rfl)))
            have g1 : a'.tmps[32]?.getD undef = .int .i64 j := Reg.tmp_at ((hH.got 11 32 (hdep { on := 11, ground := .data } (by simp) rfl) rfl).trans (hI.p11 (hdep { on := 11, ground := .data } (by simp) rfl)))
            refine Reg.wp_value (.pointer (some P)) (w' := Wx) ?_ (hK _ _ ⟨hI.m, hI.p0, hI.p1, hI.p2, hI.p3, hI.p4, hI.p5, hI.p6, hI.p7, hI.p8, hI.p9, hI.p10, hI.p11, fun _ => rfl, hI.p13, hI.p14, hI.p15, hI.p16, hI.p17, hI.p18, hI.p19, hI.p21, hI.p22, hI.p23, hI.p24, hI.p25⟩)
            clear hK hI
            go_simp
          · obtain rfl := Option.some.inj ho
            have g0 : a'.tmps[33]?.getD undef = .pointer (some P) := Reg.tmp_at ((hH.got 12 33 (hdep { on := 12, ground := .data } (by simp) rfl) rfl).trans (hI.p12 (hdep { on := 12, ground := .data } (by simp) rfl)))
            refine Reg.wp_value (.pointer (some ⟨P.block, P.off + 3, none⟩)) (w' := Wx) ?_ (hK _ _ ⟨hI.m, hI.p0, hI.p1, hI.p2, hI.p3, hI.p4, hI.p5, hI.p6, hI.p7, hI.p8, hI.p9, hI.p10, hI.p11, hI.p12, fun _ => rfl, hI.p14, hI.p15, hI.p16, hI.p17, hI.p18, hI.p19, hI.p21, hI.p22, hI.p23, hI.p24, hI.p25⟩)
            clear hK hI
            go_simp
          · obtain rfl := Option.some.inj ho
            obtain ⟨hgx, -, cq⟩ := hcells.out Wx (hbw.out.trans (hI.m.below.mono hbw.out.size))
            have c0 : Wx.cell? ⟨P.block, P.off + 3, none⟩ = some (.int .i64 rm) := cq 2 _ rfl
            clear cq
            have g0 : a'.tmps[34]?.getD undef = .pointer (some ⟨P.block, P.off + 3, none⟩) := Reg.tmp_at ((hH.got 13 34 (hdep { on := 13, ground := .data } (by simp) rfl) rfl).trans (hI.p13 (hdep { on := 13, ground := .data } (by simp) rfl)))
            refine Reg.wp_value (.int .i64 rm) (w' := Wx) ?_ (hK _ _ ⟨hI.m, hI.p0, hI.p1, hI.p2, hI.p3, hI.p4, hI.p5, hI.p6, hI.p7, hI.p8, hI.p9, hI.p10, hI.p11, hI.p12, hI.p13, fun _ => rfl, hI.p15, hI.p16, hI.p17, hI.p18, hI.p19, hI.p21, hI.p22, hI.p23, hI.p24, hI.p25⟩)
            clear hK hI
            go_simp
          · obtain rfl := Option.some.inj ho
            have g0 := Reg.tmp_at (b0 a' _ f hH)
            refine Reg.wp_value (.slice (some x) L.length cp) (w' := Wx) ?_ (hK _ _ ⟨hI.m, hI.p0, hI.p1, hI.p2, hI.p3, hI.p4, hI.p5, hI.p6, hI.p7, hI.p8, hI.p9, hI.p10, hI.p11, hI.p12, hI.p13, hI.p14, fun _ => rfl, hI.p16, hI.p17, hI.p18, hI.p19, hI.p21, hI.p22, hI.p23, hI.p24, hI.p25⟩)
            clear hK hI
            go_simp
          · obtain rfl := Option.some.inj ho
            have g0 := Reg.tmp_at (b8 a' _ f hH)
            refine Reg.wp_value (.int .i64 j) (w' := Wx) ?_ (hK _ _ ⟨hI.m, hI.p0, hI.p1, hI.p2, hI.p3, hI.p4, hI.p5, hI.p6, hI.p7, hI.p8, hI.p9, hI.p10, hI.p11, hI.p12, hI.p13, hI.p14, hI.p15, fun _ => rfl, hI.p17, hI.p18, hI.p19, hI.p21, hI.p22, hI.p23, hI.p24, hI.p25⟩)
            clear hK hI
            go_simp
          · obtain rfl := Option.some.inj ho
            have g0 : a'.tmps[36]?.getD undef = .slice (some x) L.length cp := Reg.tmp_at ((hH.got 15 36 (hdep { on := 15, ground := .data } (by simp) rfl) rfl).trans (hI.p15 (hdep { on := 15, ground := .data } (by simp) rfl)))
            have g1 : a'.tmps[37]?.getD undef = .int .i64 j := Reg.tmp_at ((hH.got 16 37 (hdep { on := 16, ground := .data } (by simp) rfl) rfl).trans (hI.p16 (hdep { on := 16, ground := .data } (by simp) rfl)))
            refine Reg.wp_value (.pointer (some P)) (w' := Wx) ?_ (hK _ _ ⟨hI.m, hI.p0, hI.p1, hI.p2, hI.p3, hI.p4, hI.p5, hI.p6, hI.p7, hI.p8, hI.p9, hI.p10, hI.p11, hI.p12, hI.p13, hI.p14, hI.p15, hI.p16, fun _ => rfl, hI.p18, hI.p19, hI.p21, hI.p22, hI.p23, hI.p24, hI.p25⟩)
            clear hK hI
            go_simp
          · obtain rfl := Option.some.inj ho
            have g0 : a'.tmps[38]?.getD undef = .pointer (some P) := Reg.tmp_at ((hH.got 17 38 (hdep { on := 17, ground := .data } (by simp) rfl) rfl).trans (hI.p17 (hdep { on := 17, ground := .data } (by simp) rfl)))
            refine Reg.wp_value (.pointer (some ⟨P.block, P.off + 4, none⟩)) (w' := Wx) ?_ (hK _ _ ⟨hI.m, hI.p0, hI.p1, hI.p2, hI.p3, hI.p4, hI.p5, hI.p6, hI.p7, hI.p8, hI.p9, hI.p10, hI.p11, hI.p12, hI.p13, hI.p14, hI.p15, hI.p16, hI.p17, fun _ => rfl, hI.p19, hI.p21, hI.p22, hI.p23, hI.p24, hI.p25⟩)
            clear hK hI
            go_simp
          · obtain rfl := Option.some.inj ho
            obtain ⟨hgx, -, cq⟩ := hcells.out Wx (hbw.out.trans (hI.m.below.mono hbw.out.size))
            have c0 : Wx.cell? ⟨P.block, P.off + 4, none⟩ = some (.int .i64 yk) := cq 3 _ rfl
            have c1 : Wx.cell? ⟨P.block, P.off + 4 + 1, none⟩ = some (.bool yn) := cq 4 _ rfl
            have c2 : Wx.cell? ⟨P.block, P.off + 4 + 2, none⟩ = some (.slice ya yL.length yc) := cq 5 _ rfl
            have c3 : Wx.cell? ⟨P.block, P.off + 4 + 3, none⟩ = some (.int .u64 yb) := cq 6 _ rfl
            have c4 : Wx.cell? ⟨P.block, P.off + 4 + 4, none⟩ = some (.string yt) := cq 7 _ rfl
            have c5 : Wx.cell? ⟨P.block, P.off + 4 + 5, none⟩ = some (.slice yA yN yC) := cq 8 _ rfl
            clear cq
            have g0 : a'.tmps[39]?.getD undef = .pointer (some ⟨P.block, P.off + 4, none⟩) := Reg.tmp_at ((hH.got 18 39 (hdep { on := 18, ground := .data } (by simp) rfl) rfl).trans (hI.p18 (hdep { on := 18, ground := .data } (by simp) rfl)))
            refine Reg.wp_value (.agg #[.int .i64 yk, .bool yn, .slice ya yL.length yc, .int .u64 yb, .string yt, .slice yA yN yC]) (w' := Wx) ?_ (hK _ _ ⟨hI.m, hI.p0, hI.p1, hI.p2, hI.p3, hI.p4, hI.p5, hI.p6, hI.p7, hI.p8, hI.p9, hI.p10, hI.p11, hI.p12, hI.p13, hI.p14, hI.p15, hI.p16, hI.p17, hI.p18, fun _ => rfl, hI.p21, hI.p22, hI.p23, hI.p24, hI.p25⟩)
            clear hK hI
            go_simp
          · obtain rfl := Option.some.inj ho
            have g0 : a'.tmps[40]?.getD undef = .agg #[.int .i64 yk, .bool yn, .slice ya yL.length yc, .int .u64 yb, .string yt, .slice yA yN yC] := Reg.tmp_at ((hH.got 19 40 (hdep { on := 19, ground := .data } (by simp) rfl) rfl).trans (hI.p19 (hdep { on := 19, ground := .data } (by simp) rfl)))
            have n27 : f 27 = false := (by cases h : f 27 with | false => rfl | true => (have h2 := (hcl 27 _ rfl h { on := 20, ground := .data } (by simp) rfl); rw [hun] at h2; cases h2))
            refine Reg.wp_enter (fn := 34) (args := #[.agg #[.int .i64 yk, .bool yn, .slice ya yL.length yc, .int .u64 yb, .string yt, .slice yA yN yC]]) (w' := Wx) ?_ ?_
            · clear hK hI
              go_simp
            · refine (scal_any ⟨.int .i64 yk, .bool yn, .slice ya yL.length yc, .int .u64 yb, .string yt, .slice yA yN yC⟩ Wx (hEy.out.later (hbw.out.trans (hI.m.below.mono hbw.out.size)))).mono ?_
              rintro e w2 ⟨⟨y5, s5, rfl, hy5, ho5⟩, hb5⟩
              exact ⟨_, rfl, hK _ _ ⟨hI.m.seta n27 hb5 y5 s5 hy5 ho5, hI.p0, hI.p1, hI.p2, hI.p3, hI.p4, hI.p5, hI.p6, hI.p7, hI.p8, hI.p9, hI.p10, hI.p11, hI.p12, hI.p13, hI.p14, hI.p15, hI.p16, hI.p17, hI.p18, hI.p19, hI.p21, hI.p22, hI.p23, hI.p24, hI.p25⟩⟩
          · obtain rfl := Option.some.inj ho
            have g0 := Reg.tmp_at (b0 a' _ f hH)
            refine Reg.wp_value (.slice (some x) L.length cp) (w' := Wx) ?_ (hK _ _ ⟨hI.m, hI.p0, hI.p1, hI.p2, hI.p3, hI.p4, hI.p5, hI.p6, hI.p7, hI.p8, hI.p9, hI.p10, hI.p11, hI.p12, hI.p13, hI.p14, hI.p15, hI.p16, hI.p17, hI.p18, hI.p19, fun _ => rfl, hI.p22, hI.p23, hI.p24, hI.p25⟩)
            clear hK hI
            go_simp
          · obtain rfl := Option.some.inj ho
            have g0 := Reg.tmp_at (b8 a' _ f hH)
            refine Reg.wp_value (.int .i64 j) (w' := Wx) ?_ (hK _ _ ⟨hI.m, hI.p0, hI.p1, hI.p2, hI.p3, hI.p4, hI.p5, hI.p6, hI.p7, hI.p8, hI.p9, hI.p10, hI.p11, hI.p12, hI.p13, hI.p14, hI.p15, hI.p16, hI.p17, hI.p18, hI.p19, hI.p21, fun _ => rfl, hI.p23, hI.p24, hI.p25⟩)
            clear hK hI
            go_simp
          · obtain rfl := Option.some.inj ho
            have g0 : a'.tmps[42]?.getD undef = .slice (some x) L.length cp := Reg.tmp_at ((hH.got 21 42 (hdep { on := 21, ground := .data } (by simp) rfl) rfl).trans (hI.p21 (hdep { on := 21, ground := .data } (by simp) rfl)))
            have g1 : a'.tmps[43]?.getD undef = .int .i64 j := Reg.tmp_at ((hH.got 22 43 (hdep { on := 22, ground := .data } (by simp) rfl) rfl).trans (hI.p22 (hdep { on := 22, ground := .data } (by simp) rfl)))
            refine Reg.wp_value (.pointer (some P)) (w' := Wx) ?_ (hK _ _ ⟨hI.m, hI.p0, hI.p1, hI.p2, hI.p3, hI.p4, hI.p5, hI.p6, hI.p7, hI.p8, hI.p9, hI.p10, hI.p11, hI.p12, hI.p13, hI.p14, hI.p15, hI.p16, hI.p17, hI.p18, hI.p19, hI.p21, hI.p22, fun _ => rfl, hI.p24, hI.p25⟩)
            clear hK hI
            go_simp
          · obtain rfl := Option.some.inj ho
            have g0 : a'.tmps[44]?.getD undef = .pointer (some P) := Reg.tmp_at ((hH.got 23 44 (hdep { on := 23, ground := .data } (by simp) rfl) rfl).trans (hI.p23 (hdep { on := 23, ground := .data } (by simp) rfl)))
            refine Reg.wp_value (.pointer (some ⟨P.block, P.off + 10, none⟩)) (w' := Wx) ?_ (hK _ _ ⟨hI.m, hI.p0, hI.p1, hI.p2, hI.p3, hI.p4, hI.p5, hI.p6, hI.p7, hI.p8, hI.p9, hI.p10, hI.p11, hI.p12, hI.p13, hI.p14, hI.p15, hI.p16, hI.p17, hI.p18, hI.p19, hI.p21, hI.p22, hI.p23, fun _ => rfl, hI.p25⟩)
            clear hK hI
            go_simp
          · obtain rfl := Option.some.inj ho
            obtain ⟨hgx, -, cq⟩ := hcells.out Wx (hbw.out.trans (hI.m.below.mono hbw.out.size))
            have c0 : Wx.cell? ⟨P.block, P.off + 10, none⟩ = some (.int .i64 zk) := cq 9 _ rfl
            have c1 : Wx.cell? ⟨P.block, P.off + 10 + 1, none⟩ = some (.bool zn) := cq 10 _ rfl
            have c2 : Wx.cell? ⟨P.block, P.off + 10 + 2, none⟩ = some (.slice za zL.length zc) := cq 11 _ rfl
            have c3 : Wx.cell? ⟨P.block, P.off + 10 + 3, none⟩ = some (.int .u64 zb) := cq 12 _ rfl
            have c4 : Wx.cell? ⟨P.block, P.off + 10 + 4, none⟩ = some (.string zt) := cq 13 _ rfl
            have c5 : Wx.cell? ⟨P.block, P.off + 10 + 5, none⟩ = some (.slice zA zN zC) := cq 14 _ rfl
            clear cq
            have g0 : a'.tmps[45]?.getD undef = .pointer (some ⟨P.block, P.off + 10, none⟩) := Reg.tmp_at ((hH.got 24 45 (hdep { on := 24, ground := .data } (by simp) rfl) rfl).trans (hI.p24 (hdep { on := 24, ground := .data } (by simp) rfl)))
            refine Reg.wp_value (.agg #[.int .i64 zk, .bool zn, .slice za zL.length zc, .int .u64 zb, .string zt, .slice zA zN zC]) (w' := Wx) ?_ (hK _ _ ⟨hI.m, hI.p0, hI.p1, hI.p2, hI.p3, hI.p4, hI.p5, hI.p6, hI.p7, hI.p8, hI.p9, hI.p10, hI.p11, hI.p12, hI.p13, hI.p14, hI.p15, hI.p16, hI.p17, hI.p18, hI.p19, hI.p21, hI.p22, hI.p23, hI.p24, fun _ => rfl⟩)
            clear hK hI
            go_simp
          · obtain rfl := Option.some.inj ho
            have g0 : a'.tmps[46]?.getD undef = .agg #[.int .i64 zk, .bool zn, .slice za zL.length zc, .int .u64 zb, .string zt, .slice zA zN zC] := Reg.tmp_at ((hH.got 25 46 (hdep { on := 25, ground := .data } (by simp) rfl) rfl).trans (hI.p25 (hdep { on := 25, ground := .data } (by simp) rfl)))
            have n27 : f 27 = false := (by cases h : f 27 with | false => rfl | true => (have h2 := (hcl 27 _ rfl h { on := 26, ground := .data } (by simp) rfl); rw [hun] at h2; cases h2))
            refine Reg.wp_enter (fn := 34) (args := #[.agg #[.int .i64 zk, .bool zn, .slice za zL.length zc, .int .u64 zb, .string zt, .slice zA zN zC]]) (w' := Wx) ?_ ?_
            · clear hK hI
              go_simp
            · refine (scal_any ⟨.int .i64 zk, .bool zn, .slice za zL.length zc, .int .u64 zb, .string zt, .slice zA zN zC⟩ Wx (hEz.out.later (hbw.out.trans (hI.m.below.mono hbw.out.size)))).mono ?_
              rintro e w2 ⟨⟨y5, s5, rfl, hy5, ho5⟩, hb5⟩
              exact ⟨_, rfl, hK _ _ ⟨hI.m.setb n27 hb5 y5 s5 hy5 ho5, hI.p0, hI.p1, hI.p2, hI.p3, hI.p4, hI.p5, hI.p6, hI.p7, hI.p8, hI.p9, hI.p10, hI.p11, hI.p12, hI.p13, hI.p14, hI.p15, hI.p16, hI.p17, hI.p18, hI.p19, hI.p21, hI.p22, hI.p23, hI.p24, hI.p25⟩⟩
          · obtain rfl := Option.some.inj ho
            have n29 : f 29 = false := (by cases h : f 29 with | false => rfl | true => (have h2 := (hcl 29 _ rfl h { on := 27, ground := .data } (by simp) rfl); rw [hun] at h2; cases h2))
            obtain ⟨y5, a5, q20, hy5, -⟩ := hI.m.ca (hdep { on := 20, ground := .data } (by simp) rfl)
            obtain ⟨z5, b5, q26, hz5, -⟩ := hI.m.cb (hdep { on := 26, ground := .data } (by simp) rfl)
            have k20 := q20
            have k26 := q26
            obtain ⟨un, ua, ul, uc, ub, ut, rfl⟩ := hy5.form
            obtain ⟨wn, wa, wl, wc, wb, wt, rfl⟩ := hz5.form
            unfold V6.arr at q20 q26
            dsimp only at q20 q26
            have g0 : a'.tmps[25]?.getD undef = .int .i64 ri := Reg.tmp_at ((hH.got 4 25 (hdep { on := 4, ground := .data } (by simp) rfl) rfl).trans (hI.p4 (hdep { on := 4, ground := .data } (by simp) rfl)))
            have g1 : a'.tmps[30]?.getD undef = .int .i64 rj := Reg.tmp_at ((hH.got 9 30 (hdep { on := 9, ground := .data } (by simp) rfl) rfl).trans (hI.p9 (hdep { on := 9, ground := .data } (by simp) rfl)))
            have g2 : a'.tmps[35]?.getD undef = .int .i64 rm := Reg.tmp_at ((hH.got 14 35 (hdep { on := 14, ground := .data } (by simp) rfl) rfl).trans (hI.p14 (hdep { on := 14, ground := .data } (by simp) rfl)))
            have g3 := Reg.tmp_at ((hH.got 20 41 (hdep { on := 20, ground := .data } (by simp) rfl) rfl).trans q20)
            have g4 := Reg.tmp_at ((hH.got 26 47 (hdep { on := 26, ground := .data } (by simp) rfl) rfl).trans q26)
            refine Reg.wp_value (.agg (rawCs 4 ri rj rm _ _)) (w' := Wx) ?_ (hK _ _ ⟨hI.m.build n29 k20 k26, hI.p0, hI.p1, hI.p2, hI.p3, hI.p4, hI.p5, hI.p6, hI.p7, hI.p8, hI.p9, hI.p10, hI.p11, hI.p12, hI.p13, hI.p14, hI.p15, hI.p16, hI.p17, hI.p18, hI.p19, hI.p21, hI.p22, hI.p23, hI.p24, hI.p25⟩)
            clear hK hI
            unfold rawCs
            go_simp
          · obtain rfl := Option.some.inj ho
            have n29 : f 29 = false := (by cases h : f 29 with | false => rfl | true => (have h2 := (hcl 29 _ rfl h { on := 28, ground := .data } (by simp) rfl); rw [hun] at h2; cases h2))
            refine Reg.wp_value (.pointer (some ⟨Wx.heap.size, 0, none⟩)) (w' := Wx.alloc (.cells (rawCs 0 0 0 0 nil6 nil6) 62)) ?_ (hK _ _ ⟨hI.m.made n29, hI.p0, hI.p1, hI.p2, hI.p3, hI.p4, hI.p5, hI.p6, hI.p7, hI.p8, hI.p9, hI.p10, hI.p11, hI.p12, hI.p13, hI.p14, hI.p15, hI.p16, hI.p17, hI.p18, hI.p19, hI.p21, hI.p22, hI.p23, hI.p24, hI.p25⟩)
            clear hK hI
            unfold rawCs nil6
            go_simp
          · obtain rfl := Option.some.inj ho
            obtain ⟨bs, c, q28, hB, hh, -, hc0⟩ := hI.m.al (hdep { on := 28, ground := .data } (by simp) rfl)
            have hc1 := hc0 hun
            subst hc1
            obtain ⟨y5, z5, k20, k26, q27⟩ := hI.m.bd (hdep { on := 27, ground := .data } (by simp) rfl)
            obtain ⟨y6, a6, k6, hy6, -⟩ := hI.m.ca (hdep { on := 20, ground := .phase } (by simp) rfl)
            obtain ⟨z6, b6, k7, hz6, -⟩ := hI.m.cb (hdep { on := 26, ground := .chain } (by simp) rfl)
            obtain rfl := arr_inj (k20.symm.trans k6)
            obtain rfl := arr_inj (k26.symm.trans k7)
            have g0 := Reg.tmp_at ((hH.got 28 9 (hdep { on := 28, ground := .data } (by simp) rfl) rfl).trans q28)
            have g1 := Reg.tmp_at ((hH.got 27 48 (hdep { on := 27, ground := .data } (by simp) rfl) rfl).trans q27)
            refine wp_store_row 62 _ _ rfl bs (rawCs 4 ri rj rm y5 z5) ?_ ?_ 62 _ hh rfl rfl ?_ (hK _ _ ⟨hI.m.store q28 hB hh q27, hI.p0, hI.p1, hI.p2, hI.p3, hI.p4, hI.p5, hI.p6, hI.p7, hI.p8, hI.p9, hI.p10, hI.p11, hI.p12, hI.p13, hI.p14, hI.p15, hI.p16, hI.p17, hI.p18, hI.p19, hI.p21, hI.p22, hI.p23, hI.p24, hI.p25⟩)
            · clear hK hI
              go_simp
            · clear hK hI
              go_simp
            · rw [Array.all_eq_true_iff_forall_mem]
              intro u hu
              exact rawCs_one hy6.one hz6.one u (by simpa using hu)
      case h2 =>
        intro V W hI
        obtain ⟨bs, y, z, a, b, q28, hB, hh, hy, hz, oa, ob⟩ := hI.m.end_
        have hbel := hI.m.below
        clear hI
        simp only [Reg.fill, Reg.dstOf, List.getD_cons_zero, List.getD_cons_succ, Act.put]
        simp [List.setIfInBounds_toArray, List.set_cons_succ, List.set_cons_zero]
        rw [q28]
        have hbel2 := hbw.out.trans (hbel.mono hbw.out.size)
        obtain ⟨un, ua, ul, uc, ub, ut, rfl⟩ := hy.form
        obtain ⟨vn, va, vl, vc, vb, vt, rfl⟩ := hz.form
        obtain ⟨Au, cu, hue⟩ := hR.out.shape
        rw [hRl] at hue
        subst hue
        have hon : On1 w (.slice Au j cu) R bs 4 ri rj rm ⟨.int .i64 a.kind, .bool un, .slice ua ul uc, .int .u64 ub, .string ut, .slice none 0 0⟩ ⟨.int .i64 b.kind, .bool vn, .slice va vl vc, .int .u64 vb, .string vt, .slice none 0 0⟩ a b W := by
          have hlt9 : ∀ g, (Value.slice Au j cu).ownBlock = some g → g < wr.heap.size := fun g hg => by
            obtain ⟨L0, h1, _⟩ := hR.out
            exact (h1.lt g hg).2
          exact ⟨hR.out.later hbel, hh, hy, hz, hbel2, fun g hg => by have := hlt9 g hg; omega, Nat.le_trans hbw.out.size hB⟩
        have hon1 := Lib.hid hon
        have hbw0 := hbw.out.size
        clear q28 hh hy hz hbel hbel2 hon hR hbw hEy hEz
        go_wp2_with fail
        go_loopw [10] (fun kk wx => ∃ (n : Nat) (K : Int), kk = .int .i64 n ∧ n ≤ 10 ∧ Kd K ∧ Hid (On1 w (.slice Au j cu) R bs K ri rj rm ⟨.int .i64 a.kind, .bool un, .slice ua ul uc, .int .u64 ub, .string ut, .slice none 0 0⟩ ⟨.int .i64 b.kind, .bool vn, .slice va vl vc, .int .u64 vb, .string vt, .slice none 0 0⟩ a b wx)) (fun kk _ => 10 - (intOf kk).toNat)
        case atStart => exact ⟨0, 4, rfl, Nat.zero_le _, .inr (.inl rfl), hon1⟩
        case round =>
          clear hon1
          obtain ⟨n, K, rfl, hn, hK0, hon⟩ := hrel
          by_cases hn10 : n < 10
          · obtain ⟨c, hc, hKc⟩ := kinds_at hn10
            have hkx := (hk'.out.later (hon.out.below.mono (Nat.le_refl _))).cell n
            rw [hc] at hkx
            obtain ⟨hgx, ck, -⟩ := hcells.out wr hon.out.below
            have hkl2 := Nat.lt_of_lt_of_le hkl hon.out.below.size
            have hbx := hon.out.hold
            have b0 := hold0 hbx
            have bl := hbx.lt
            have bf := hbx.free 0
            have hon2 := Lib.hid (hon.out.kind rk)
            have hKr : c = rk → Kd rk := fun e => e ▸ hKc
            clear hc hcells hk' hbx
            by_cases hcr : c = rk
            · have hcr' : (c == rk) = true := by simpa using hcr
              go_wp2_with fail
              go_region
              go_wp2
              go_roundw
              case rel => exact ⟨n + 1, rk, by go_num, by omega, hKr hcr, by first | exact hon2 | exact Lib.hid (hon2.out.later (Box.below_drawn (Below.refl _ _) 1)) | exact Lib.hid ((hon.out.later (Box.below_drawn (Below.refl _ _) 1)).kind rk)⟩
              case measure => simp [intOf]; omega
            · have hcr' : (c == rk) = false := by simpa using hcr
              go_wp2_with fail
              go_region
              go_wp2
              go_roundw
              case rel => exact ⟨n + 1, K, by go_num, by omega, hK0, Lib.hid (hon.out.later (Box.below_drawn (Below.refl _ _) 1))⟩
              case measure => simp [intOf]; omega
          · obtain rfl : n = 10 := by omega
            have hRn : R.length ≤ 1000000 := by omega
            have hons := hon.out.hold
            unfold rawCs at hons
            dsimp only at hons
            have hons' := Lib.hid hons
            have hBx := hon.out.below.size
            have hgd : Rw.Good ⟨K, ri, rj, rm, a, b⟩ := ⟨oa, ob, hK0, hm1, hm2⟩
            have hgd' := Lib.hid hgd
            clear hons hgd hcells hk'
            go_wp2_with (first | refine wpList_load_row rfl 62 _ rfl bs rfl 62 _ (0, 0) _ hons'.out Tryz.underlying62 rfl (by kernel_rfl) ?_ | (at_builtin; refine wpList_raw (B := w.heap.size) (r := ⟨K, ri, rj, rm, a, b⟩) (y := ⟨.int .i64 a.kind, .bool un, .slice ua ul uc, .int .u64 ub, .string ut, .slice none 0 0⟩) (z := ⟨.int .i64 b.kind, .bool vn, .slice va vl vc, .int .u64 vb, .string vt, .slice none 0 0⟩) rfl _ _ rfl _ R rfl hon.out.raws hBx hon.out.y hon.out.z rfl hRn ?_; intro v6 w6 hv6 hg6 ho6; have hb6 := Lib.hid (hon.out.below.grown hg6 hBx fun g hg => by obtain ⟨L0, h1, _⟩ := hon.out.raws; exact (h1.lt g hg).1); have hv6' := Lib.hid hv6; clear hv6 hg6 ho6))
            go_roundw
            case rel => exact ⟨j + 1, R ++ [⟨K, ri, rj, rm, a, b⟩], by go_num, by omega, by omega, by simp [hRl], hv6', Lib.hid (fun r hr => by rw [List.mem_append, List.mem_singleton] at hr; rcases hr with hr | rfl; exact hG.out r hr; exact hgd'.out), hb6⟩
            case measure => simp [intOf]; omega
    · have hfin := Lib.hid (show (∃ u0 R, Ending.returned u7 = .returned u0 ∧ Raws wr w.heap.size u0 R ∧ ∀ r ∈ R, r.Good) ∧ Below w.heap.size w wr from ⟨⟨_, R, rfl, hR.out, hG.out⟩, hbw.out⟩)
      clear hR hG hbw
      by_cases h1 : j < L.length
      · have h2 : ¬ j < 60 := fun h => hlt ⟨h1, h⟩
        have h2' : decide ((j : Int) < 60) = false := by simp; omega
        go_wp2
        go_ret
        exact hfin.out
      · go_wp2
        go_ret
        exact hfin.out
end Go.Proofs.YtafbheamnjmfoaaGreat.Ls
