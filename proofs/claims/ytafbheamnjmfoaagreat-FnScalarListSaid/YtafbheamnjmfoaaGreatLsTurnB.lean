/-
  The reference's step over a list: a slice.
-/
import Derived.Test.YtafbheamnjmfoaaGreatLsTurnA
import Derived.Test.YtafbheamnjmfoaaGreatRegAll
import Derived.Deep.RegionHeld3
namespace Go.Proofs.YtafbheamnjmfoaaGreat.Ls
open Go.RowKit Go.WideShapes Go.Proofs.YtafbheamnjmfoaaGreat.Sc Go.Proofs.YtafbheamnjmfoaaGreat.VRow
set_option linter.unusedVariables false

theorem vals_form {w : World} {B : Nat} {v : Value} {S : List Sc} (h : Vals w B v S) : ∃ a n c, v = .slice a n c := by
  obtain ⟨A, c, rfl⟩ := h.shape
  exact ⟨_, _, _, rfl⟩
theorem vals_put {w : World} {B : Nat} {u : Value} {S : List Sc} {p : Addr} {t : TypeId} {c : Array Value} (h : Vals w B u S) (hg : Box.Holds w p.block t c) (ht : t ≠ 28) (hn : numT t = false) (x : Value) : Vals (w.setCell p x) B u S := by
  obtain ⟨L, a, b⟩ := h
  exact ⟨L, ownsRow_setCell_other a (fun e => own_ne a hg ht e) x, b.mono fun _ _ hxy => hxy.kept (Kept.setCell hg hn x)⟩
set_option maxHeartbeats 2000000 in
set_option maxRecDepth 100000 in
theorem turn_slice (B bl bs : Nat) (i : Int) (fx : Bool) (j m : Int) (y z : V6) (a b : Sc) (k0 i0 j0 m0 : Int) (v : Value) (S : List Sc) (w : World) (h : Rl w B bl v S) (hs : Box.Holds w bs 62 (stepCs 27 i j m nil6)) (hy : IsSc w y a) (hz : IsSc w z b) (ha : a.ok) (hBs : B ≤ bs) (hl : S.length ≤ 400) (hm1 : -9223372036854775808 ≤ m) (hm2 : m ≤ 9223372036854775807) :
    Calls Tryz.prog 31 #[.pointer (some ⟨bs, 0, none⟩), .agg (rawCs k0 i0 j0 m0 y z), .pointer (some ⟨bl, 0, none⟩), .bool fx] w (fun e w' => ∃ (p : Sp) (an : An), (∀ (fz : Bool) (at_ : List (Option Nat)), Step ⟨S, fz, at_⟩ p ⟨S, fz, at_⟩ an) ∧ Stepped w B bl bs v.ownBlock S S p an e w') := by
  obtain ⟨yn, ya, yl, yc, yb, yt, rfl⟩ := hy.form
  obtain ⟨zn, za, zl, zc, zb, zt, rfl⟩ := hz.form
  have h3 := three w (rawCs k0 i0 j0 m0 ⟨.int .i64 a.kind, .bool yn, .slice ya yl yc, .int .u64 yb, .string yt, .slice none 0 0⟩ ⟨.int .i64 b.kind, .bool zn, .slice za zl zc, .int .u64 zb, .string zt, .slice none 0 0⟩)
  obtain ⟨W, hW⟩ : ∃ W, ((w.alloc (.cells (rawCs k0 i0 j0 m0 ⟨.int .i64 a.kind, .bool yn, .slice ya yl yc, .int .u64 yb, .string yt, .slice none 0 0⟩ ⟨.int .i64 b.kind, .bool zn, .slice za zl zc, .int .u64 zb, .string zt, .slice none 0 0⟩) 62)).alloc (.cells #[.bool false, .bool false, .int .i64 0, .int .i64 0, .bool false, .slice none 0 0, .int .u64 0, .string ⟨#[]⟩, .slice none 0 0, .slice none 0 0] 64)).alloc (.cells #[.bool true, .bool false, .int .i64 0, .int .i64 0, .bool false, .slice none 0 0, .int .u64 0, .string ⟨#[]⟩, .slice none 0 0, .slice none 0 0] 64) = W := ⟨_, rfl⟩
  rw [hW] at h3
  have hB : B ≤ w.heap.size := Nat.le_trans h.ge (Nat.le_of_lt h.hold.lt)
  have hl1 := h.later h3.below
  have hs1 := hs.later h3.below
  have hy1 := hy.kept (Kept.of_below h3.below)
  have hbw := h.hold.lt
  have hsw := hs.lt
  have hvw : ∀ b, v.ownBlock = some b → b < w.heap.size := fun b hb => by obtain ⟨L, hL, _⟩ := h.row; exact (World.ownsRow.lt hL b hb).2
  have hls : bl ≠ bs := holds_ne h.hold hs (by decide)
  obtain ⟨A0, c0, rfl⟩ := h.row.shape
  have s0 := hold0 hs1
  have s1 := hold1 hs1
  have s2 := holdB hs1
  have s3 := holdC hs1
  have sl := hs1.lt
  have sf0 := hs1.free 0
  have sf1 := hs1.free 1
  have sf2 := hs1.free 2
  have sf3 := hs1.free 3
  have l0 := hold0 hl1.hold
  have ll := hl1.hold.lt
  have lf := hl1.hold.free 0
  have hfW : Fr B (SS bs (Value.slice A0 S.length c0).ownBlock) w W := Fr.of_below h3.below hB
  obtain ⟨o0, o1, o2, o3, o4, o5, o6, o7, o8, o9, ol, of0, of1, of2, of3, of4, of5, of6, of7, of8, of9⟩ := ans_facts h3.out
  have hno1 : bs ≠ w.heap.size + 2 := by omega
  have hno2 : bl ≠ w.heap.size + 2 := by omega
  have hno3 : bs ≠ w.heap.size + 1 := by omega
  have hno4 : bl ≠ w.heap.size + 1 := by omega
  have hbd : Bd w W B bl bs (Value.slice A0 S.length c0).ownBlock (.slice A0 S.length c0) S _ _ _ := ⟨hl1, hs1, h3.res, h3.raw, h3.out, hfW, fun b hb => .inl hb, hsw, hB, hBs⟩
  have hbd' := Lib.hid hbd
  have hy1' := Lib.hid hy1
  clear h h3 hs hl1 hs1 hy hz hfW hvw hbd hy1
  have ht := Lib.hid fun W => ends_any S.length i j m W (by omega) (by omega) hm1 hm2
  have hct := Lib.hid fun st e sp W h1 h2 h3 h4 => cut_any B (.slice A0 S.length c0) S st e sp W h1 hl h2 h3 h4
  have hW' := Lib.hid hW
  clear hW
  unfold rawCs at hW'
  dsimp only at hW'
  unfold rawCs
  dsimp only
  go_enter Tryz.func31, Tryz.ntmps31
  go_upto_region 2 with fail
  rw [hW'.out]
  clear hW'
  go_upto_region 30 with fail
  go_wp2_with fail
  refine Reg.via_call (Θ := Int × Int × Int) (fun θ => Fits S.length θ.1 θ.2.1 θ.2.2 ∧ -5 ≤ θ.2.2 ∧ θ.2.2 ≤ 5) (fun θ => Reg.fill (Reg.dstOf (some 192 :: some 193 :: some 194 :: some 195 :: some 196 :: some 197 :: some 198 :: some 199 :: some 200 :: some 201 :: some 202 :: some 203 :: some 204 :: some 205 :: some 206 :: some 207 :: some 208 :: some 191 :: some 209 :: some 210 :: some 211 :: some 212 :: some 213 :: none :: some 214 :: some 215 :: none :: some 216 :: some 217 :: none :: [])) (Reg.valOf (.pointer (some ⟨bs, 0, none⟩) :: .pointer (some ⟨bs, 0, none⟩) :: .pointer (some ⟨bs, 0, none⟩) :: .int .i64 S.length :: .pointer (some ⟨bs, 0, none⟩) :: .pointer (some ⟨bs, 0, none⟩) :: .pointer (some ⟨bs, 1, none⟩) :: .int .i64 i :: .pointer (some ⟨bs, 0, none⟩) :: .pointer (some ⟨bs, 0, none⟩) :: .pointer (some ⟨bs, 2, none⟩) :: .int .i64 j :: .pointer (some ⟨bs, 0, none⟩) :: .pointer (some ⟨bs, 0, none⟩) :: .pointer (some ⟨bs, 3, none⟩) :: .int .i64 m :: .tuple #[.int .i64 θ.1, .int .i64 θ.2.1, .int .i64 θ.2.2] :: .tuple #[.int .i64 θ.1, .int .i64 θ.2.1, .int .i64 θ.2.2] :: .int .i64 θ.1 :: .int .i64 θ.2.1 :: .int .i64 θ.2.2 :: .pointer (some ⟨bs, 0, none⟩) :: .pointer (some ⟨bs, 1, none⟩) :: undef :: .pointer (some ⟨bs, 0, none⟩) :: .pointer (some ⟨bs, 2, none⟩) :: undef :: .pointer (some ⟨bs, 0, none⟩) :: .pointer (some ⟨bs, 3, none⟩) :: undef :: [])) 30) (fun θ => ((W.drew.setCell ⟨bs, 1, none⟩ (.int .i64 θ.1)).setCell ⟨bs, 2, none⟩ (.int .i64 θ.2.1)).setCell ⟨bs, 3, none⟩ (.int .i64 θ.2.2)) (fun a0 => a0.tmps.size = 237 ∧ a0.eval (.tmp 0) = .pointer (some ⟨bs, 0, none⟩) ∧ a0.eval (.tmp 10) = .int .i64 S.length) ⟨rfl, rfl, rfl⟩ ?h1 ?h2
  case h1 =>
    go_light
    clear hct hbd' hy1'
    rintro af Q' ⟨z, e0, e10⟩ hQ
    have b0 : ∀ a' v f, Reg.Held af (Reg.dstOf (some 192 :: some 193 :: some 194 :: some 195 :: some 196 :: some 197 :: some 198 :: some 199 :: some 200 :: some 201 :: some 202 :: some 203 :: some 204 :: some 205 :: some 206 :: some 207 :: some 208 :: some 191 :: some 209 :: some 210 :: some 211 :: some 212 :: some 213 :: none :: some 214 :: some 215 :: none :: some 216 :: some 217 :: none :: [])) v f a' → a'.eval (.tmp 0) = .pointer (some ⟨bs, 0, none⟩) := fun a' v f hH => (hH.rest 0 fun k d _ hd => Reg.dstOf_ne _ 0 (by decide +kernel) hd).trans e0
    have b10 : ∀ a' v f, Reg.Held af (Reg.dstOf (some 192 :: some 193 :: some 194 :: some 195 :: some 196 :: some 197 :: some 198 :: some 199 :: some 200 :: some 201 :: some 202 :: some 203 :: some 204 :: some 205 :: some 206 :: some 207 :: some 208 :: some 191 :: some 209 :: some 210 :: some 211 :: some 212 :: some 213 :: none :: some 214 :: some 215 :: none :: some 216 :: some 217 :: none :: [])) v f a' → a'.eval (.tmp 10) = .int .i64 S.length := fun a' v f hH => (hH.rest 10 fun k d _ hd => Reg.dstOf_ne _ 10 (by decide +kernel) hd).trans e10
    refine Reg.wp_region_call (Θ := Int × Int × Int) (by kernel_rfl) (by decide +kernel) 30 rfl (fun θ => Fits S.length θ.1 θ.2.1 θ.2.2 ∧ -5 ≤ θ.2.2 ∧ θ.2.2 ≤ 5) (Reg.dstOf (some 192 :: some 193 :: some 194 :: some 195 :: some 196 :: some 197 :: some 198 :: some 199 :: some 200 :: some 201 :: some 202 :: some 203 :: some 204 :: some 205 :: some 206 :: some 207 :: some 208 :: some 191 :: some 209 :: some 210 :: some 211 :: some 212 :: some 213 :: none :: some 214 :: some 215 :: none :: some 216 :: some 217 :: none :: [])) 16 (Reg.valOf (.pointer (some ⟨bs, 0, none⟩) :: .pointer (some ⟨bs, 0, none⟩) :: .pointer (some ⟨bs, 0, none⟩) :: .int .i64 S.length :: .pointer (some ⟨bs, 0, none⟩) :: .pointer (some ⟨bs, 0, none⟩) :: .pointer (some ⟨bs, 1, none⟩) :: .int .i64 i :: .pointer (some ⟨bs, 0, none⟩) :: .pointer (some ⟨bs, 0, none⟩) :: .pointer (some ⟨bs, 2, none⟩) :: .int .i64 j :: .pointer (some ⟨bs, 0, none⟩) :: .pointer (some ⟨bs, 0, none⟩) :: .pointer (some ⟨bs, 3, none⟩) :: .int .i64 m :: undef :: undef :: undef :: undef :: undef :: .pointer (some ⟨bs, 0, none⟩) :: .pointer (some ⟨bs, 1, none⟩) :: undef :: .pointer (some ⟨bs, 0, none⟩) :: .pointer (some ⟨bs, 2, none⟩) :: undef :: .pointer (some ⟨bs, 0, none⟩) :: .pointer (some ⟨bs, 3, none⟩) :: undef :: [])) (fun θ => Reg.valOf (.pointer (some ⟨bs, 0, none⟩) :: .pointer (some ⟨bs, 0, none⟩) :: .pointer (some ⟨bs, 0, none⟩) :: .int .i64 S.length :: .pointer (some ⟨bs, 0, none⟩) :: .pointer (some ⟨bs, 0, none⟩) :: .pointer (some ⟨bs, 1, none⟩) :: .int .i64 i :: .pointer (some ⟨bs, 0, none⟩) :: .pointer (some ⟨bs, 0, none⟩) :: .pointer (some ⟨bs, 2, none⟩) :: .int .i64 j :: .pointer (some ⟨bs, 0, none⟩) :: .pointer (some ⟨bs, 0, none⟩) :: .pointer (some ⟨bs, 3, none⟩) :: .int .i64 m :: .tuple #[.int .i64 θ.1, .int .i64 θ.2.1, .int .i64 θ.2.2] :: .tuple #[.int .i64 θ.1, .int .i64 θ.2.1, .int .i64 θ.2.2] :: .int .i64 θ.1 :: .int .i64 θ.2.1 :: .int .i64 θ.2.2 :: .pointer (some ⟨bs, 0, none⟩) :: .pointer (some ⟨bs, 1, none⟩) :: undef :: .pointer (some ⟨bs, 0, none⟩) :: .pointer (some ⟨bs, 2, none⟩) :: undef :: .pointer (some ⟨bs, 0, none⟩) :: .pointer (some ⟨bs, 3, none⟩) :: undef :: [])) (fun θ => Reg.wstL [(23, W.drew.setCell ⟨bs, 1, none⟩ (.int .i64 θ.1)), (26, (W.drew.setCell ⟨bs, 1, none⟩ (.int .i64 θ.1)).setCell ⟨bs, 2, none⟩ (.int .i64 θ.2.1)), (29, ((W.drew.setCell ⟨bs, 1, none⟩ (.int .i64 θ.1)).setCell ⟨bs, 2, none⟩ (.int .i64 θ.2.1)).setCell ⟨bs, 3, none⟩ (.int .i64 θ.2.2))] (W.drew)) ?hops (Reg.dstOf_inj _ (by decide +kernel)) (fun k d hd => by rw [z]; exact Reg.dstOf_lt _ 237 (by decide +kernel) hd) ?hpre ?hcall ?hpost (by decide) hQ
    case hops =>
      intro oi o ho
      have hi : oi < 30 := (Array.getElem?_eq_some_iff.1 ho).1
      have hcs : oi = 0 ∨ oi = 1 ∨ oi = 2 ∨ oi = 3 ∨ oi = 4 ∨ oi = 5 ∨ oi = 6 ∨ oi = 7 ∨ oi = 8 ∨ oi = 9 ∨ oi = 10 ∨ oi = 11 ∨ oi = 12 ∨ oi = 13 ∨ oi = 14 ∨ oi = 15 ∨ oi = 16 ∨ oi = 17 ∨ oi = 18 ∨ oi = 19 ∨ oi = 20 ∨ oi = 21 ∨ oi = 22 ∨ oi = 23 ∨ oi = 24 ∨ oi = 25 ∨ oi = 26 ∨ oi = 27 ∨ oi = 28 ∨ oi = 29 := by omega
      rcases hcs with rfl | rfl | rfl | rfl | rfl | rfl | rfl | rfl | rfl | rfl | rfl | rfl | rfl | rfl | rfl | rfl | rfl | rfl | rfl | rfl | rfl | rfl | rfl | rfl | rfl | rfl | rfl | rfl | rfl | rfl
      all_goals
        obtain rfl := Option.some.inj ho
        exact ⟨rfl, rfl⟩
    case hpre =>
      intro f a' oi o hi hne ho hun hfc hcl hdep hH
      clear hQ
      have hcs : oi = 0 ∨ oi = 1 ∨ oi = 2 ∨ oi = 3 ∨ oi = 4 ∨ oi = 5 ∨ oi = 6 ∨ oi = 7 ∨ oi = 8 ∨ oi = 9 ∨ oi = 10 ∨ oi = 11 ∨ oi = 12 ∨ oi = 13 ∨ oi = 14 ∨ oi = 15 ∨ oi = 16 ∨ oi = 17 ∨ oi = 18 ∨ oi = 19 ∨ oi = 20 ∨ oi = 21 ∨ oi = 22 ∨ oi = 23 ∨ oi = 24 ∨ oi = 25 ∨ oi = 26 ∨ oi = 27 ∨ oi = 28 ∨ oi = 29 := by omega
      rcases hcs with rfl | rfl | rfl | rfl | rfl | rfl | rfl | rfl | rfl | rfl | rfl | rfl | rfl | rfl | rfl | rfl | rfl | rfl | rfl | rfl | rfl | rfl | rfl | rfl | rfl | rfl | rfl | rfl | rfl | rfl
      · obtain rfl := Option.some.inj ho
        have g0 := Reg.tmp_at (b0 a' _ f hH)
        show (execOp a'.eval _).run _ _ = .ok (.value (.pointer (some ⟨bs, 0, none⟩))) _
        go_simp
      · obtain rfl := Option.some.inj ho
        have g0 := Reg.tmp_at (b0 a' _ f hH)
        show (execOp a'.eval _).run _ _ = .ok (.value (.pointer (some ⟨bs, 0, none⟩))) _
        go_simp
      · obtain rfl := Option.some.inj ho
        have g0 := Reg.tmp_at (b0 a' _ f hH)
        show (execOp a'.eval _).run _ _ = .ok (.value (.pointer (some ⟨bs, 0, none⟩))) _
        go_simp
      · obtain rfl := Option.some.inj ho
        have g0 := Reg.tmp_at (b10 a' _ f hH)
        show (execOp a'.eval _).run _ _ = .ok (.value (.int .i64 S.length)) _
        go_simp
      · obtain rfl := Option.some.inj ho
        have g0 := Reg.tmp_at (b0 a' _ f hH)
        show (execOp a'.eval _).run _ _ = .ok (.value (.pointer (some ⟨bs, 0, none⟩))) _
        go_simp
      · obtain rfl := Option.some.inj ho
        have g0 : a'.tmps[196]?.getD undef = .pointer (some ⟨bs, 0, none⟩) := Reg.tmp_at (hH.got 4 196 (hdep { on := 4, ground := .data } (by simp) rfl) rfl)
        show (execOp a'.eval _).run _ _ = .ok (.value (.pointer (some ⟨bs, 0, none⟩))) _
        go_simp
      · obtain rfl := Option.some.inj ho
        have g0 : a'.tmps[197]?.getD undef = .pointer (some ⟨bs, 0, none⟩) := Reg.tmp_at (hH.got 5 197 (hdep { on := 5, ground := .data } (by simp) rfl) rfl)
        show (execOp a'.eval _).run _ _ = .ok (.value (.pointer (some ⟨bs, 1, none⟩))) _
        go_simp
      · obtain rfl := Option.some.inj ho
        have g0 : a'.tmps[198]?.getD undef = .pointer (some ⟨bs, 1, none⟩) := Reg.tmp_at (hH.got 6 198 (hdep { on := 6, ground := .data } (by simp) rfl) rfl)
        show (execOp a'.eval _).run _ _ = .ok (.value (.int .i64 i)) _
        go_simp
      · obtain rfl := Option.some.inj ho
        have g0 := Reg.tmp_at (b0 a' _ f hH)
        show (execOp a'.eval _).run _ _ = .ok (.value (.pointer (some ⟨bs, 0, none⟩))) _
        go_simp
      · obtain rfl := Option.some.inj ho
        have g0 : a'.tmps[200]?.getD undef = .pointer (some ⟨bs, 0, none⟩) := Reg.tmp_at (hH.got 8 200 (hdep { on := 8, ground := .data } (by simp) rfl) rfl)
        show (execOp a'.eval _).run _ _ = .ok (.value (.pointer (some ⟨bs, 0, none⟩))) _
        go_simp
      · obtain rfl := Option.some.inj ho
        have g0 : a'.tmps[201]?.getD undef = .pointer (some ⟨bs, 0, none⟩) := Reg.tmp_at (hH.got 9 201 (hdep { on := 9, ground := .data } (by simp) rfl) rfl)
        show (execOp a'.eval _).run _ _ = .ok (.value (.pointer (some ⟨bs, 2, none⟩))) _
        go_simp
      · obtain rfl := Option.some.inj ho
        have g0 : a'.tmps[202]?.getD undef = .pointer (some ⟨bs, 2, none⟩) := Reg.tmp_at (hH.got 10 202 (hdep { on := 10, ground := .data } (by simp) rfl) rfl)
        show (execOp a'.eval _).run _ _ = .ok (.value (.int .i64 j)) _
        go_simp
      · obtain rfl := Option.some.inj ho
        have g0 := Reg.tmp_at (b0 a' _ f hH)
        show (execOp a'.eval _).run _ _ = .ok (.value (.pointer (some ⟨bs, 0, none⟩))) _
        go_simp
      · obtain rfl := Option.some.inj ho
        have g0 : a'.tmps[204]?.getD undef = .pointer (some ⟨bs, 0, none⟩) := Reg.tmp_at (hH.got 12 204 (hdep { on := 12, ground := .data } (by simp) rfl) rfl)
        show (execOp a'.eval _).run _ _ = .ok (.value (.pointer (some ⟨bs, 0, none⟩))) _
        go_simp
      · obtain rfl := Option.some.inj ho
        have g0 : a'.tmps[205]?.getD undef = .pointer (some ⟨bs, 0, none⟩) := Reg.tmp_at (hH.got 13 205 (hdep { on := 13, ground := .data } (by simp) rfl) rfl)
        show (execOp a'.eval _).run _ _ = .ok (.value (.pointer (some ⟨bs, 3, none⟩))) _
        go_simp
      · obtain rfl := Option.some.inj ho
        have g0 : a'.tmps[206]?.getD undef = .pointer (some ⟨bs, 3, none⟩) := Reg.tmp_at (hH.got 14 206 (hdep { on := 14, ground := .data } (by simp) rfl) rfl)
        show (execOp a'.eval _).run _ _ = .ok (.value (.int .i64 m)) _
        go_simp
      · obtain rfl := Option.some.inj ho
        exact absurd rfl hne
      · obtain rfl := Option.some.inj ho
        have h := (hdep { on := 16, ground := .data } (by simp) rfl)
        rw [hfc] at h; cases h
      · obtain rfl := Option.some.inj ho
        have h := (hcl 17 _ rfl (hdep { on := 17, ground := .data } (by simp) rfl) { on := 16, ground := .data } (by simp) rfl)
        rw [hfc] at h; cases h
      · obtain rfl := Option.some.inj ho
        have h := (hcl 17 _ rfl (hdep { on := 17, ground := .data } (by simp) rfl) { on := 16, ground := .data } (by simp) rfl)
        rw [hfc] at h; cases h
      · obtain rfl := Option.some.inj ho
        have h := (hcl 17 _ rfl (hdep { on := 17, ground := .data } (by simp) rfl) { on := 16, ground := .data } (by simp) rfl)
        rw [hfc] at h; cases h
      · obtain rfl := Option.some.inj ho
        have g0 : a'.tmps[192]?.getD undef = .pointer (some ⟨bs, 0, none⟩) := Reg.tmp_at (hH.got 0 192 (hdep { on := 0, ground := .data } (by simp) rfl) rfl)
        show (execOp a'.eval _).run _ _ = .ok (.value (.pointer (some ⟨bs, 0, none⟩))) _
        go_simp
      · obtain rfl := Option.some.inj ho
        have g0 : a'.tmps[212]?.getD undef = .pointer (some ⟨bs, 0, none⟩) := Reg.tmp_at (hH.got 21 212 (hdep { on := 21, ground := .data } (by simp) rfl) rfl)
        show (execOp a'.eval _).run _ _ = .ok (.value (.pointer (some ⟨bs, 1, none⟩))) _
        go_simp
      · obtain rfl := Option.some.inj ho
        have h := (hdep { on := 16, ground := .chain } (by simp) rfl)
        rw [hfc] at h; cases h
      · obtain rfl := Option.some.inj ho
        have g0 : a'.tmps[193]?.getD undef = .pointer (some ⟨bs, 0, none⟩) := Reg.tmp_at (hH.got 1 193 (hdep { on := 1, ground := .data } (by simp) rfl) rfl)
        show (execOp a'.eval _).run _ _ = .ok (.value (.pointer (some ⟨bs, 0, none⟩))) _
        go_simp
      · obtain rfl := Option.some.inj ho
        have g0 : a'.tmps[214]?.getD undef = .pointer (some ⟨bs, 0, none⟩) := Reg.tmp_at (hH.got 24 214 (hdep { on := 24, ground := .data } (by simp) rfl) rfl)
        show (execOp a'.eval _).run _ _ = .ok (.value (.pointer (some ⟨bs, 2, none⟩))) _
        go_simp
      · obtain rfl := Option.some.inj ho
        have h := (hdep { on := 16, ground := .phase } (by simp) rfl)
        rw [hfc] at h; cases h
      · obtain rfl := Option.some.inj ho
        have g0 : a'.tmps[194]?.getD undef = .pointer (some ⟨bs, 0, none⟩) := Reg.tmp_at (hH.got 2 194 (hdep { on := 2, ground := .data } (by simp) rfl) rfl)
        show (execOp a'.eval _).run _ _ = .ok (.value (.pointer (some ⟨bs, 0, none⟩))) _
        go_simp
      · obtain rfl := Option.some.inj ho
        have g0 : a'.tmps[216]?.getD undef = .pointer (some ⟨bs, 0, none⟩) := Reg.tmp_at (hH.got 27 216 (hdep { on := 27, ground := .data } (by simp) rfl) rfl)
        show (execOp a'.eval _).run _ _ = .ok (.value (.pointer (some ⟨bs, 3, none⟩))) _
        go_simp
      · obtain rfl := Option.some.inj ho
        have h := (hdep { on := 16, ground := .phase } (by simp) rfl)
        rw [hfc] at h; cases h
    case hcall =>
      intro f a' o ho hfc hcl hdep hH
      obtain rfl := Option.some.inj ho
      have g0 : a'.tmps[195]?.getD undef = .int .i64 S.length := Reg.tmp_at (hH.got 3 195 (hdep { on := 3, ground := .data } (by simp) rfl) rfl)
      have g1 : a'.tmps[199]?.getD undef = .int .i64 i := Reg.tmp_at (hH.got 7 199 (hdep { on := 7, ground := .data } (by simp) rfl) rfl)
      have g2 : a'.tmps[203]?.getD undef = .int .i64 j := Reg.tmp_at (hH.got 11 203 (hdep { on := 11, ground := .data } (by simp) rfl) rfl)
      have g3 : a'.tmps[207]?.getD undef = .int .i64 m := Reg.tmp_at (hH.got 15 207 (hdep { on := 15, ground := .data } (by simp) rfl) rfl)
      have n23 : f 23 = false := by
        cases h : f 23 with
        | false => rfl
        | true =>
          have h2 := (hcl 23 _ rfl h { on := 16, ground := .chain } (by simp) rfl)
          rw [hfc] at h2; cases h2
      have n26 : f 26 = false := by
        cases h : f 26 with
        | false => rfl
        | true =>
          have h2 := (hcl 26 _ rfl h { on := 16, ground := .phase } (by simp) rfl)
          rw [hfc] at h2; cases h2
      have n29 : f 29 = false := by
        cases h : f 29 with
        | false => rfl
        | true =>
          have h2 := (hcl 29 _ rfl h { on := 16, ground := .phase } (by simp) rfl)
          rw [hfc] at h2; cases h2
      refine ⟨59, #[.int .i64 S.length, .int .i64 i, .int .i64 j, .int .i64 m], ?_, ?_⟩
      · go_simp
      · have hsame : ∀ θ : Int × Int × Int, ∀ oj, f oj = true → Reg.valOf (.pointer (some ⟨bs, 0, none⟩) :: .pointer (some ⟨bs, 0, none⟩) :: .pointer (some ⟨bs, 0, none⟩) :: .int .i64 S.length :: .pointer (some ⟨bs, 0, none⟩) :: .pointer (some ⟨bs, 0, none⟩) :: .pointer (some ⟨bs, 1, none⟩) :: .int .i64 i :: .pointer (some ⟨bs, 0, none⟩) :: .pointer (some ⟨bs, 0, none⟩) :: .pointer (some ⟨bs, 2, none⟩) :: .int .i64 j :: .pointer (some ⟨bs, 0, none⟩) :: .pointer (some ⟨bs, 0, none⟩) :: .pointer (some ⟨bs, 3, none⟩) :: .int .i64 m :: undef :: undef :: undef :: undef :: undef :: .pointer (some ⟨bs, 0, none⟩) :: .pointer (some ⟨bs, 1, none⟩) :: undef :: .pointer (some ⟨bs, 0, none⟩) :: .pointer (some ⟨bs, 2, none⟩) :: undef :: .pointer (some ⟨bs, 0, none⟩) :: .pointer (some ⟨bs, 3, none⟩) :: undef :: []) oj = Reg.valOf (.pointer (some ⟨bs, 0, none⟩) :: .pointer (some ⟨bs, 0, none⟩) :: .pointer (some ⟨bs, 0, none⟩) :: .int .i64 S.length :: .pointer (some ⟨bs, 0, none⟩) :: .pointer (some ⟨bs, 0, none⟩) :: .pointer (some ⟨bs, 1, none⟩) :: .int .i64 i :: .pointer (some ⟨bs, 0, none⟩) :: .pointer (some ⟨bs, 0, none⟩) :: .pointer (some ⟨bs, 2, none⟩) :: .int .i64 j :: .pointer (some ⟨bs, 0, none⟩) :: .pointer (some ⟨bs, 0, none⟩) :: .pointer (some ⟨bs, 3, none⟩) :: .int .i64 m :: .tuple #[.int .i64 θ.1, .int .i64 θ.2.1, .int .i64 θ.2.2] :: .tuple #[.int .i64 θ.1, .int .i64 θ.2.1, .int .i64 θ.2.2] :: .int .i64 θ.1 :: .int .i64 θ.2.1 :: .int .i64 θ.2.2 :: .pointer (some ⟨bs, 0, none⟩) :: .pointer (some ⟨bs, 1, none⟩) :: undef :: .pointer (some ⟨bs, 0, none⟩) :: .pointer (some ⟨bs, 2, none⟩) :: undef :: .pointer (some ⟨bs, 0, none⟩) :: .pointer (some ⟨bs, 3, none⟩) :: undef :: []) oj := by
          intro θ oj hj
          by_cases hjn : oj < 30
          · have hcs : oj = 0 ∨ oj = 1 ∨ oj = 2 ∨ oj = 3 ∨ oj = 4 ∨ oj = 5 ∨ oj = 6 ∨ oj = 7 ∨ oj = 8 ∨ oj = 9 ∨ oj = 10 ∨ oj = 11 ∨ oj = 12 ∨ oj = 13 ∨ oj = 14 ∨ oj = 15 ∨ oj = 16 ∨ oj = 17 ∨ oj = 18 ∨ oj = 19 ∨ oj = 20 ∨ oj = 21 ∨ oj = 22 ∨ oj = 23 ∨ oj = 24 ∨ oj = 25 ∨ oj = 26 ∨ oj = 27 ∨ oj = 28 ∨ oj = 29 := by omega
            rcases hcs with rfl | rfl | rfl | rfl | rfl | rfl | rfl | rfl | rfl | rfl | rfl | rfl | rfl | rfl | rfl | rfl | rfl | rfl | rfl | rfl | rfl | rfl | rfl | rfl | rfl | rfl | rfl | rfl | rfl | rfl
            · rfl
            · rfl
            · rfl
            · rfl
            · rfl
            · rfl
            · rfl
            · rfl
            · rfl
            · rfl
            · rfl
            · rfl
            · rfl
            · rfl
            · rfl
            · rfl
            · rw [hfc] at hj; cases hj
            · have h2 := (hcl 17 _ rfl hj { on := 16, ground := .data } (by simp) rfl)
              rw [hfc] at h2; cases h2
            · have h2 := (hcl 17 _ rfl (hcl 18 _ rfl hj { on := 17, ground := .data } (by simp) rfl) { on := 16, ground := .data } (by simp) rfl)
              rw [hfc] at h2; cases h2
            · have h2 := (hcl 17 _ rfl (hcl 19 _ rfl hj { on := 17, ground := .data } (by simp) rfl) { on := 16, ground := .data } (by simp) rfl)
              rw [hfc] at h2; cases h2
            · have h2 := (hcl 17 _ rfl (hcl 20 _ rfl hj { on := 17, ground := .data } (by simp) rfl) { on := 16, ground := .data } (by simp) rfl)
              rw [hfc] at h2; cases h2
            · rfl
            · rfl
            · have h2 := (hcl 23 _ rfl hj { on := 16, ground := .chain } (by simp) rfl)
              rw [hfc] at h2; cases h2
            · rfl
            · rfl
            · have h2 := (hcl 26 _ rfl hj { on := 16, ground := .phase } (by simp) rfl)
              rw [hfc] at h2; cases h2
            · rfl
            · rfl
            · have h2 := (hcl 29 _ rfl hj { on := 16, ground := .phase } (by simp) rfl)
              rw [hfc] at h2; cases h2
          · unfold Reg.valOf
            rw [List.getD_eq_getElem?_getD, List.getD_eq_getElem?_getD, List.getElem?_eq_none (by show 30 ≤ oj; omega), List.getElem?_eq_none (by show 30 ≤ oj; omega)]
        clear hQ
        refine (ht.out _).mono ?_
        rintro e w' ⟨⟨x1, x2, x3, rfl, hfit, hx3, hx4⟩, rfl⟩
        refine ⟨⟨x1, x2, x3⟩, ⟨hfit, hx3, hx4⟩, rfl, hsame ⟨x1, x2, x3⟩, ?_⟩
        simp [Reg.wstL, n23]
    case hpost =>
      clear hQ
      rintro ⟨x1, x2, x3⟩ -
      intro f a' oi o hi hne ho hun hfc hcl hdep hH
      have hcs : oi = 0 ∨ oi = 1 ∨ oi = 2 ∨ oi = 3 ∨ oi = 4 ∨ oi = 5 ∨ oi = 6 ∨ oi = 7 ∨ oi = 8 ∨ oi = 9 ∨ oi = 10 ∨ oi = 11 ∨ oi = 12 ∨ oi = 13 ∨ oi = 14 ∨ oi = 15 ∨ oi = 16 ∨ oi = 17 ∨ oi = 18 ∨ oi = 19 ∨ oi = 20 ∨ oi = 21 ∨ oi = 22 ∨ oi = 23 ∨ oi = 24 ∨ oi = 25 ∨ oi = 26 ∨ oi = 27 ∨ oi = 28 ∨ oi = 29 := by omega
      rcases hcs with rfl | rfl | rfl | rfl | rfl | rfl | rfl | rfl | rfl | rfl | rfl | rfl | rfl | rfl | rfl | rfl | rfl | rfl | rfl | rfl | rfl | rfl | rfl | rfl | rfl | rfl | rfl | rfl | rfl | rfl
      · obtain rfl := Option.some.inj ho
        have g0 := Reg.tmp_at (b0 a' _ f hH)
        refine ⟨.value (.pointer (some ⟨bs, 0, none⟩)), ?_, .inl rfl⟩
        rw [Reg.wstL_no f 0 (by simp)]
        generalize Reg.wstL _ _ f = Wx
        go_simp
      · obtain rfl := Option.some.inj ho
        have g0 := Reg.tmp_at (b0 a' _ f hH)
        refine ⟨.value (.pointer (some ⟨bs, 0, none⟩)), ?_, .inl rfl⟩
        rw [Reg.wstL_no f 1 (by simp)]
        generalize Reg.wstL _ _ f = Wx
        go_simp
      · obtain rfl := Option.some.inj ho
        have g0 := Reg.tmp_at (b0 a' _ f hH)
        refine ⟨.value (.pointer (some ⟨bs, 0, none⟩)), ?_, .inl rfl⟩
        rw [Reg.wstL_no f 2 (by simp)]
        generalize Reg.wstL _ _ f = Wx
        go_simp
      · obtain rfl := Option.some.inj ho
        have h := (hcl 16 _ rfl hfc { on := 3, ground := .data } (by simp) rfl)
        rw [hun] at h; cases h
      · obtain rfl := Option.some.inj ho
        have h := (hcl 5 _ rfl (hcl 6 _ rfl (hcl 7 _ rfl (hcl 16 _ rfl hfc { on := 7, ground := .data } (by simp) rfl) { on := 6, ground := .data } (by simp) rfl) { on := 5, ground := .data } (by simp) rfl) { on := 4, ground := .data } (by simp) rfl)
        rw [hun] at h; cases h
      · obtain rfl := Option.some.inj ho
        have h := (hcl 6 _ rfl (hcl 7 _ rfl (hcl 16 _ rfl hfc { on := 7, ground := .data } (by simp) rfl) { on := 6, ground := .data } (by simp) rfl) { on := 5, ground := .data } (by simp) rfl)
        rw [hun] at h; cases h
      · obtain rfl := Option.some.inj ho
        have h := (hcl 7 _ rfl (hcl 16 _ rfl hfc { on := 7, ground := .data } (by simp) rfl) { on := 6, ground := .data } (by simp) rfl)
        rw [hun] at h; cases h
      · obtain rfl := Option.some.inj ho
        have h := (hcl 16 _ rfl hfc { on := 7, ground := .data } (by simp) rfl)
        rw [hun] at h; cases h
      · obtain rfl := Option.some.inj ho
        have h := (hcl 9 _ rfl (hcl 10 _ rfl (hcl 11 _ rfl (hcl 16 _ rfl hfc { on := 11, ground := .data } (by simp) rfl) { on := 10, ground := .data } (by simp) rfl) { on := 9, ground := .data } (by simp) rfl) { on := 8, ground := .data } (by simp) rfl)
        rw [hun] at h; cases h
      · obtain rfl := Option.some.inj ho
        have h := (hcl 10 _ rfl (hcl 11 _ rfl (hcl 16 _ rfl hfc { on := 11, ground := .data } (by simp) rfl) { on := 10, ground := .data } (by simp) rfl) { on := 9, ground := .data } (by simp) rfl)
        rw [hun] at h; cases h
      · obtain rfl := Option.some.inj ho
        have h := (hcl 11 _ rfl (hcl 16 _ rfl hfc { on := 11, ground := .data } (by simp) rfl) { on := 10, ground := .data } (by simp) rfl)
        rw [hun] at h; cases h
      · obtain rfl := Option.some.inj ho
        have h := (hcl 16 _ rfl hfc { on := 11, ground := .data } (by simp) rfl)
        rw [hun] at h; cases h
      · obtain rfl := Option.some.inj ho
        have h := (hcl 13 _ rfl (hcl 14 _ rfl (hcl 15 _ rfl (hcl 16 _ rfl hfc { on := 15, ground := .data } (by simp) rfl) { on := 14, ground := .data } (by simp) rfl) { on := 13, ground := .data } (by simp) rfl) { on := 12, ground := .data } (by simp) rfl)
        rw [hun] at h; cases h
      · obtain rfl := Option.some.inj ho
        have h := (hcl 14 _ rfl (hcl 15 _ rfl (hcl 16 _ rfl hfc { on := 15, ground := .data } (by simp) rfl) { on := 14, ground := .data } (by simp) rfl) { on := 13, ground := .data } (by simp) rfl)
        rw [hun] at h; cases h
      · obtain rfl := Option.some.inj ho
        have h := (hcl 15 _ rfl (hcl 16 _ rfl hfc { on := 15, ground := .data } (by simp) rfl) { on := 14, ground := .data } (by simp) rfl)
        rw [hun] at h; cases h
      · obtain rfl := Option.some.inj ho
        have h := (hcl 16 _ rfl hfc { on := 15, ground := .data } (by simp) rfl)
        rw [hun] at h; cases h
      · obtain rfl := Option.some.inj ho
        exact absurd rfl hne
      · obtain rfl := Option.some.inj ho
        have g0 : a'.tmps[208]?.getD undef = .tuple #[.int .i64 x1, .int .i64 x2, .int .i64 x3] := Reg.tmp_at (hH.got 16 208 (hdep { on := 16, ground := .data } (by simp) rfl) rfl)
        refine ⟨.value (.tuple #[.int .i64 x1, .int .i64 x2, .int .i64 x3]), ?_, .inl rfl⟩
        rw [Reg.wstL_no f 17 (by simp)]
        generalize Reg.wstL _ _ f = Wx
        go_simp
      · obtain rfl := Option.some.inj ho
        have g0 : a'.tmps[191]?.getD undef = .tuple #[.int .i64 x1, .int .i64 x2, .int .i64 x3] := Reg.tmp_at (hH.got 17 191 (hdep { on := 17, ground := .data } (by simp) rfl) rfl)
        refine ⟨.value (.int .i64 x1), ?_, .inl rfl⟩
        rw [Reg.wstL_no f 18 (by simp)]
        generalize Reg.wstL _ _ f = Wx
        go_simp
      · obtain rfl := Option.some.inj ho
        have g0 : a'.tmps[191]?.getD undef = .tuple #[.int .i64 x1, .int .i64 x2, .int .i64 x3] := Reg.tmp_at (hH.got 17 191 (hdep { on := 17, ground := .data } (by simp) rfl) rfl)
        refine ⟨.value (.int .i64 x2), ?_, .inl rfl⟩
        rw [Reg.wstL_no f 19 (by simp)]
        generalize Reg.wstL _ _ f = Wx
        go_simp
      · obtain rfl := Option.some.inj ho
        have g0 : a'.tmps[191]?.getD undef = .tuple #[.int .i64 x1, .int .i64 x2, .int .i64 x3] := Reg.tmp_at (hH.got 17 191 (hdep { on := 17, ground := .data } (by simp) rfl) rfl)
        refine ⟨.value (.int .i64 x3), ?_, .inl rfl⟩
        rw [Reg.wstL_no f 20 (by simp)]
        generalize Reg.wstL _ _ f = Wx
        go_simp
      · obtain rfl := Option.some.inj ho
        have g0 : a'.tmps[192]?.getD undef = .pointer (some ⟨bs, 0, none⟩) := Reg.tmp_at (hH.got 0 192 (hdep { on := 0, ground := .data } (by simp) rfl) rfl)
        refine ⟨.value (.pointer (some ⟨bs, 0, none⟩)), ?_, .inl rfl⟩
        rw [Reg.wstL_no f 21 (by simp)]
        generalize Reg.wstL _ _ f = Wx
        go_simp
      · obtain rfl := Option.some.inj ho
        have g0 : a'.tmps[212]?.getD undef = .pointer (some ⟨bs, 0, none⟩) := Reg.tmp_at (hH.got 21 212 (hdep { on := 21, ground := .data } (by simp) rfl) rfl)
        refine ⟨.value (.pointer (some ⟨bs, 1, none⟩)), ?_, .inl rfl⟩
        rw [Reg.wstL_no f 22 (by simp)]
        generalize Reg.wstL _ _ f = Wx
        go_simp
      · obtain rfl := Option.some.inj ho
        have g0 : a'.tmps[213]?.getD undef = .pointer (some ⟨bs, 1, none⟩) := Reg.tmp_at (hH.got 22 213 (hdep { on := 22, ground := .data } (by simp) rfl) rfl)
        have g1 : a'.tmps[209]?.getD undef = .int .i64 x1 := Reg.tmp_at (hH.got 18 209 (hdep { on := 18, ground := .data } (by simp) rfl) rfl)
        have n26 : f 26 = false := by
          cases h : f 26 with
          | false => rfl
          | true =>
            have h2 := (hcl 26 _ rfl h { on := 23, ground := .chain } (by simp) rfl)
            rw [hun] at h2; cases h2
        refine ⟨.skip, ?_, .inr ⟨rfl, rfl⟩⟩
        rw [show Reg.wstL [(23, W.drew.setCell ⟨bs, 1, none⟩ (.int .i64 x1)), (26, (W.drew.setCell ⟨bs, 1, none⟩ (.int .i64 x1)).setCell ⟨bs, 2, none⟩ (.int .i64 x2)), (29, ((W.drew.setCell ⟨bs, 1, none⟩ (.int .i64 x1)).setCell ⟨bs, 2, none⟩ (.int .i64 x2)).setCell ⟨bs, 3, none⟩ (.int .i64 x3))] (W.drew) (fun k => decide (k = 23) || f k) = W.drew.setCell ⟨bs, 1, none⟩ (.int .i64 x1) from by simp [Reg.wstL, n26], show Reg.wstL [(23, W.drew.setCell ⟨bs, 1, none⟩ (.int .i64 x1)), (26, (W.drew.setCell ⟨bs, 1, none⟩ (.int .i64 x1)).setCell ⟨bs, 2, none⟩ (.int .i64 x2)), (29, ((W.drew.setCell ⟨bs, 1, none⟩ (.int .i64 x1)).setCell ⟨bs, 2, none⟩ (.int .i64 x2)).setCell ⟨bs, 3, none⟩ (.int .i64 x3))] (W.drew) f = W.drew from by simp [Reg.wstL, hun]]
        go_simp
      · obtain rfl := Option.some.inj ho
        have g0 : a'.tmps[193]?.getD undef = .pointer (some ⟨bs, 0, none⟩) := Reg.tmp_at (hH.got 1 193 (hdep { on := 1, ground := .data } (by simp) rfl) rfl)
        refine ⟨.value (.pointer (some ⟨bs, 0, none⟩)), ?_, .inl rfl⟩
        rw [Reg.wstL_no f 24 (by simp)]
        generalize Reg.wstL _ _ f = Wx
        go_simp
      · obtain rfl := Option.some.inj ho
        have g0 : a'.tmps[214]?.getD undef = .pointer (some ⟨bs, 0, none⟩) := Reg.tmp_at (hH.got 24 214 (hdep { on := 24, ground := .data } (by simp) rfl) rfl)
        refine ⟨.value (.pointer (some ⟨bs, 2, none⟩)), ?_, .inl rfl⟩
        rw [Reg.wstL_no f 25 (by simp)]
        generalize Reg.wstL _ _ f = Wx
        go_simp
      · obtain rfl := Option.some.inj ho
        have g0 : a'.tmps[215]?.getD undef = .pointer (some ⟨bs, 2, none⟩) := Reg.tmp_at (hH.got 25 215 (hdep { on := 25, ground := .data } (by simp) rfl) rfl)
        have g1 : a'.tmps[210]?.getD undef = .int .i64 x2 := Reg.tmp_at (hH.got 19 210 (hdep { on := 19, ground := .data } (by simp) rfl) rfl)
        have d23 : f 23 = true := (hdep { on := 23, ground := .chain } (by simp) rfl)
        have n29 : f 29 = false := by
          cases h : f 29 with
          | false => rfl
          | true =>
            have h2 := (hcl 29 _ rfl h { on := 26, ground := .chain } (by simp) rfl)
            rw [hun] at h2; cases h2
        refine ⟨.skip, ?_, .inr ⟨rfl, rfl⟩⟩
        rw [show Reg.wstL [(23, W.drew.setCell ⟨bs, 1, none⟩ (.int .i64 x1)), (26, (W.drew.setCell ⟨bs, 1, none⟩ (.int .i64 x1)).setCell ⟨bs, 2, none⟩ (.int .i64 x2)), (29, ((W.drew.setCell ⟨bs, 1, none⟩ (.int .i64 x1)).setCell ⟨bs, 2, none⟩ (.int .i64 x2)).setCell ⟨bs, 3, none⟩ (.int .i64 x3))] (W.drew) (fun k => decide (k = 26) || f k) = (W.drew.setCell ⟨bs, 1, none⟩ (.int .i64 x1)).setCell ⟨bs, 2, none⟩ (.int .i64 x2) from by simp [Reg.wstL, d23, n29], show Reg.wstL [(23, W.drew.setCell ⟨bs, 1, none⟩ (.int .i64 x1)), (26, (W.drew.setCell ⟨bs, 1, none⟩ (.int .i64 x1)).setCell ⟨bs, 2, none⟩ (.int .i64 x2)), (29, ((W.drew.setCell ⟨bs, 1, none⟩ (.int .i64 x1)).setCell ⟨bs, 2, none⟩ (.int .i64 x2)).setCell ⟨bs, 3, none⟩ (.int .i64 x3))] (W.drew) f = W.drew.setCell ⟨bs, 1, none⟩ (.int .i64 x1) from by simp [Reg.wstL, hun, d23]]
        go_simp
      · obtain rfl := Option.some.inj ho
        have g0 : a'.tmps[194]?.getD undef = .pointer (some ⟨bs, 0, none⟩) := Reg.tmp_at (hH.got 2 194 (hdep { on := 2, ground := .data } (by simp) rfl) rfl)
        refine ⟨.value (.pointer (some ⟨bs, 0, none⟩)), ?_, .inl rfl⟩
        rw [Reg.wstL_no f 27 (by simp)]
        generalize Reg.wstL _ _ f = Wx
        go_simp
      · obtain rfl := Option.some.inj ho
        have g0 : a'.tmps[216]?.getD undef = .pointer (some ⟨bs, 0, none⟩) := Reg.tmp_at (hH.got 27 216 (hdep { on := 27, ground := .data } (by simp) rfl) rfl)
        refine ⟨.value (.pointer (some ⟨bs, 3, none⟩)), ?_, .inl rfl⟩
        rw [Reg.wstL_no f 28 (by simp)]
        generalize Reg.wstL _ _ f = Wx
        go_simp
      · obtain rfl := Option.some.inj ho
        have g0 : a'.tmps[217]?.getD undef = .pointer (some ⟨bs, 3, none⟩) := Reg.tmp_at (hH.got 28 217 (hdep { on := 28, ground := .data } (by simp) rfl) rfl)
        have g1 : a'.tmps[211]?.getD undef = .int .i64 x3 := Reg.tmp_at (hH.got 20 211 (hdep { on := 20, ground := .data } (by simp) rfl) rfl)
        have d23 : f 23 = true := (hdep { on := 23, ground := .phase } (by simp) rfl)
        have d26 : f 26 = true := (hdep { on := 26, ground := .chain } (by simp) rfl)
        refine ⟨.skip, ?_, .inr ⟨rfl, rfl⟩⟩
        rw [show Reg.wstL [(23, W.drew.setCell ⟨bs, 1, none⟩ (.int .i64 x1)), (26, (W.drew.setCell ⟨bs, 1, none⟩ (.int .i64 x1)).setCell ⟨bs, 2, none⟩ (.int .i64 x2)), (29, ((W.drew.setCell ⟨bs, 1, none⟩ (.int .i64 x1)).setCell ⟨bs, 2, none⟩ (.int .i64 x2)).setCell ⟨bs, 3, none⟩ (.int .i64 x3))] (W.drew) (fun k => decide (k = 29) || f k) = ((W.drew.setCell ⟨bs, 1, none⟩ (.int .i64 x1)).setCell ⟨bs, 2, none⟩ (.int .i64 x2)).setCell ⟨bs, 3, none⟩ (.int .i64 x3) from by simp [Reg.wstL, d23, d26], show Reg.wstL [(23, W.drew.setCell ⟨bs, 1, none⟩ (.int .i64 x1)), (26, (W.drew.setCell ⟨bs, 1, none⟩ (.int .i64 x1)).setCell ⟨bs, 2, none⟩ (.int .i64 x2)), (29, ((W.drew.setCell ⟨bs, 1, none⟩ (.int .i64 x1)).setCell ⟨bs, 2, none⟩ (.int .i64 x2)).setCell ⟨bs, 3, none⟩ (.int .i64 x3))] (W.drew) f = (W.drew.setCell ⟨bs, 1, none⟩ (.int .i64 x1)).setCell ⟨bs, 2, none⟩ (.int .i64 x2) from by simp [Reg.wstL, hun, d23, d26]]
        go_simp
  case h2 =>
    rintro ⟨x1, x2, x3⟩ ⟨hfit, hx3, hx4⟩
    simp only at hfit hx3 hx4
    simp only [Reg.fill, Reg.dstOf, Reg.valOf, List.getD_cons_zero, List.getD_cons_succ, Act.put]
    simp [List.setIfInBounds_toArray, List.set_cons_succ, List.set_cons_zero]
    obtain ⟨W1, hW1⟩ : ∃ W1, ((W.drew.setCell ⟨bs, 1, none⟩ (.int .i64 x1)).setCell ⟨bs, 2, none⟩ (.int .i64 x2)).setCell ⟨bs, 3, none⟩ (.int .i64 x3) = W1 := ⟨_, rfl⟩
    rw [hW1]
    have hb0 : Bd w W.drew B bl bs _ _ S _ _ _ := hbd'.out.drew
    have hb1a : Bd w _ B bl bs _ _ S #[.int .i64 27, .int .i64 x1, .int .i64 j, .int .i64 m, .int .i64 0, .bool false, .slice none 0 0, .int .u64 0, .string ⟨#[]⟩, .slice none 0 0, .int .i64 0, .bool false, .slice none 0 0, .int .u64 0, .string ⟨#[]⟩, .slice none 0 0, .slice none 0 0] _ _ := hb0.step_put 1 (.int .i64 x1)
    have hb1b : Bd w _ B bl bs _ _ S #[.int .i64 27, .int .i64 x1, .int .i64 x2, .int .i64 m, .int .i64 0, .bool false, .slice none 0 0, .int .u64 0, .string ⟨#[]⟩, .slice none 0 0, .int .i64 0, .bool false, .slice none 0 0, .int .u64 0, .string ⟨#[]⟩, .slice none 0 0, .slice none 0 0] _ _ := hb1a.step_put 2 (.int .i64 x2)
    have hb1 : Bd w _ B bl bs _ _ S (stepCs 27 x1 x2 x3 nil6) _ _ := hb1b.step_put 3 (.int .i64 x3)
    rw [hW1] at hb1
    clear s1 s2 s3 sl sf1 sf2 sf3 hb0 hb1a hb1b hW1
    have s0 := hold0 (hb1).s
    have s1 := hold1 (hb1).s
    have s2 := holdB (hb1).s
    have s3 := holdC (hb1).s
    have sl := (hb1).s.lt
    have l0 := hold0 (hb1).l.hold
    have ll := (hb1).l.hold.lt
    have lf := (hb1).l.hold.free 0
    obtain ⟨o0, o1, o2, o3, o4, o5, o6, o7, o8, o9, ol, of0, of1, of2, of3, of4, of5, of6, of7, of8, of9⟩ := ans_facts (hb1).out
    have hcall := Lib.hid (hct.out x1 x2 x3 W1.drew hb1.drew.l.row hfit hx3 hx4)
    have hb1' := Lib.hid hb1
    clear hct hbd' hb1
    go_wp2_with fail
    refine Reg.via_call (Θ := World × Option Addr × Nat × Nat × Nat) (fun θ => (∃ xe, Inv S.length x1 x2 x3 θ.2.2.2.2 xe ∧ ¬ Goes x2 x3 xe) ∧ Vals θ.1 W1.drew.heap.size (.slice θ.2.1 θ.2.2.1 θ.2.2.2.1) (row S x1 x3 θ.2.2.2.2) ∧ Below W1.drew.heap.size W1.drew θ.1) (fun θ => Reg.fill (Reg.dstOf [some 218, some 219, some 220, some 221, some 222, some 223, some 224, some 225, some 226, some 227, some 228, some 229, some 230, some 231, some 232, some 233, some 234, some 235, none]) (Reg.valOf [.pointer (some ⟨bl, 0, none⟩), .pointer (some ⟨bl, 0, none⟩), .slice A0 S.length c0, .pointer (some ⟨bs, 0, none⟩), .pointer (some ⟨bs, 0, none⟩), .pointer (some ⟨bs, 1, none⟩), .int .i64 x1, .pointer (some ⟨bs, 0, none⟩), .pointer (some ⟨bs, 0, none⟩), .pointer (some ⟨bs, 2, none⟩), .int .i64 x2, .pointer (some ⟨bs, 0, none⟩), .pointer (some ⟨bs, 0, none⟩), .pointer (some ⟨bs, 3, none⟩), .int .i64 x3, .slice θ.2.1 θ.2.2.1 θ.2.2.2.1, .agg #[.int .i64 6, .bool false, .slice none 0 0, .int .u64 0, .string ⟨#[]⟩, .slice θ.2.1 θ.2.2.1 θ.2.2.2.1], .pointer (some ⟨w.heap.size + 2, 3, none⟩), undef]) 19) (fun θ => ((((((θ.1.setCell ⟨w.heap.size + 2, 3, none⟩ (.int .i64 6)).setCell ⟨w.heap.size + 2, 4, none⟩ (.bool false)).setCell ⟨w.heap.size + 2, 5, none⟩ (.slice none 0 0)).setCell ⟨w.heap.size + 2, 6, none⟩ (.int .u64 0)).setCell ⟨w.heap.size + 2, 7, none⟩ (.string ⟨#[]⟩)).setCell ⟨w.heap.size + 2, 8, none⟩ (.slice θ.2.1 θ.2.2.1 θ.2.2.2.1))) (fun a0 => a0.tmps.size = 237 ∧ a0.eval (.tmp 0) = .pointer (some ⟨bs, 0, none⟩) ∧ a0.eval (.tmp 2) = .pointer (some ⟨bl, 0, none⟩) ∧ a0.eval (.tmp 9) = .pointer (some ⟨w.heap.size + 2, 0, none⟩)) ⟨rfl, rfl, rfl, rfl⟩ ?h1 ?h2
    case h1 =>
      go_light
      rintro af Q' ⟨z, e0, e2, e9⟩ hQ
      have b0 : ∀ a' v f, Reg.Held af (Reg.dstOf [some 218, some 219, some 220, some 221, some 222, some 223, some 224, some 225, some 226, some 227, some 228, some 229, some 230, some 231, some 232, some 233, some 234, some 235, none]) v f a' → a'.eval (.tmp 0) = .pointer (some ⟨bs, 0, none⟩) := fun a' v f hH => (hH.rest 0 fun k d _ hd => Reg.dstOf_ne _ 0 (by decide +kernel) hd).trans e0
      have b2 : ∀ a' v f, Reg.Held af (Reg.dstOf [some 218, some 219, some 220, some 221, some 222, some 223, some 224, some 225, some 226, some 227, some 228, some 229, some 230, some 231, some 232, some 233, some 234, some 235, none]) v f a' → a'.eval (.tmp 2) = .pointer (some ⟨bl, 0, none⟩) := fun a' v f hH => (hH.rest 2 fun k d _ hd => Reg.dstOf_ne _ 2 (by decide +kernel) hd).trans e2
      have b9 : ∀ a' v f, Reg.Held af (Reg.dstOf [some 218, some 219, some 220, some 221, some 222, some 223, some 224, some 225, some 226, some 227, some 228, some 229, some 230, some 231, some 232, some 233, some 234, some 235, none]) v f a' → a'.eval (.tmp 9) = .pointer (some ⟨w.heap.size + 2, 0, none⟩) := fun a' v f hH => (hH.rest 9 fun k d _ hd => Reg.dstOf_ne _ 9 (by decide +kernel) hd).trans e9
      refine Reg.wp_region_call (Θ := World × Option Addr × Nat × Nat × Nat) (by kernel_rfl) (by decide +kernel) 19 rfl (fun θ => (∃ xe, Inv S.length x1 x2 x3 θ.2.2.2.2 xe ∧ ¬ Goes x2 x3 xe) ∧ Vals θ.1 W1.drew.heap.size (.slice θ.2.1 θ.2.2.1 θ.2.2.2.1) (row S x1 x3 θ.2.2.2.2) ∧ Below W1.drew.heap.size W1.drew θ.1) (Reg.dstOf [some 218, some 219, some 220, some 221, some 222, some 223, some 224, some 225, some 226, some 227, some 228, some 229, some 230, some 231, some 232, some 233, some 234, some 235, none]) 15 (Reg.valOf [.pointer (some ⟨bl, 0, none⟩), .pointer (some ⟨bl, 0, none⟩), .slice A0 S.length c0, .pointer (some ⟨bs, 0, none⟩), .pointer (some ⟨bs, 0, none⟩), .pointer (some ⟨bs, 1, none⟩), .int .i64 x1, .pointer (some ⟨bs, 0, none⟩), .pointer (some ⟨bs, 0, none⟩), .pointer (some ⟨bs, 2, none⟩), .int .i64 x2, .pointer (some ⟨bs, 0, none⟩), .pointer (some ⟨bs, 0, none⟩), .pointer (some ⟨bs, 3, none⟩), .int .i64 x3, undef, undef, .pointer (some ⟨w.heap.size + 2, 3, none⟩), undef]) (fun θ => Reg.valOf [.pointer (some ⟨bl, 0, none⟩), .pointer (some ⟨bl, 0, none⟩), .slice A0 S.length c0, .pointer (some ⟨bs, 0, none⟩), .pointer (some ⟨bs, 0, none⟩), .pointer (some ⟨bs, 1, none⟩), .int .i64 x1, .pointer (some ⟨bs, 0, none⟩), .pointer (some ⟨bs, 0, none⟩), .pointer (some ⟨bs, 2, none⟩), .int .i64 x2, .pointer (some ⟨bs, 0, none⟩), .pointer (some ⟨bs, 0, none⟩), .pointer (some ⟨bs, 3, none⟩), .int .i64 x3, .slice θ.2.1 θ.2.2.1 θ.2.2.2.1, .agg #[.int .i64 6, .bool false, .slice none 0 0, .int .u64 0, .string ⟨#[]⟩, .slice θ.2.1 θ.2.2.1 θ.2.2.2.1], .pointer (some ⟨w.heap.size + 2, 3, none⟩), undef]) (fun θ => Reg.wstL [(18, ((((((θ.1.setCell ⟨w.heap.size + 2, 3, none⟩ (.int .i64 6)).setCell ⟨w.heap.size + 2, 4, none⟩ (.bool false)).setCell ⟨w.heap.size + 2, 5, none⟩ (.slice none 0 0)).setCell ⟨w.heap.size + 2, 6, none⟩ (.int .u64 0)).setCell ⟨w.heap.size + 2, 7, none⟩ (.string ⟨#[]⟩)).setCell ⟨w.heap.size + 2, 8, none⟩ (.slice θ.2.1 θ.2.2.1 θ.2.2.2.1)))] (θ.1)) ?hops (Reg.dstOf_inj _ (by decide +kernel)) (fun k d hd => by rw [z]; exact Reg.dstOf_lt _ 237 (by decide +kernel) hd) ?hpre ?hcall ?hpost (by decide) hQ
      case hops =>
        intro oi o ho
        have hi : oi < 19 := (Array.getElem?_eq_some_iff.1 ho).1
        have hcs : oi = 0 ∨ oi = 1 ∨ oi = 2 ∨ oi = 3 ∨ oi = 4 ∨ oi = 5 ∨ oi = 6 ∨ oi = 7 ∨ oi = 8 ∨ oi = 9 ∨ oi = 10 ∨ oi = 11 ∨ oi = 12 ∨ oi = 13 ∨ oi = 14 ∨ oi = 15 ∨ oi = 16 ∨ oi = 17 ∨ oi = 18 := by omega
        rcases hcs with rfl | rfl | rfl | rfl | rfl | rfl | rfl | rfl | rfl | rfl | rfl | rfl | rfl | rfl | rfl | rfl | rfl | rfl | rfl
        all_goals
          obtain rfl := Option.some.inj ho
          exact ⟨rfl, rfl⟩
      case hpre =>
        intro f a' oi o hi hne ho hun hfc hcl hdep hH
        clear hQ
        have hcs : oi = 0 ∨ oi = 1 ∨ oi = 2 ∨ oi = 3 ∨ oi = 4 ∨ oi = 5 ∨ oi = 6 ∨ oi = 7 ∨ oi = 8 ∨ oi = 9 ∨ oi = 10 ∨ oi = 11 ∨ oi = 12 ∨ oi = 13 ∨ oi = 14 ∨ oi = 15 ∨ oi = 16 ∨ oi = 17 ∨ oi = 18 := by omega
        rcases hcs with rfl | rfl | rfl | rfl | rfl | rfl | rfl | rfl | rfl | rfl | rfl | rfl | rfl | rfl | rfl | rfl | rfl | rfl | rfl
        · obtain rfl := Option.some.inj ho
          have g0 := Reg.tmp_at (b2 a' _ f hH)
          show (execOp a'.eval _).run _ _ = .ok (.value (.pointer (some ⟨bl, 0, none⟩))) _
          go_simp
        · obtain rfl := Option.some.inj ho
          have g0 : a'.tmps[218]?.getD undef = .pointer (some ⟨bl, 0, none⟩) := Reg.tmp_at (hH.got 0 218 (hdep { on := 0, ground := .data } (by simp) rfl) rfl)
          show (execOp a'.eval _).run _ _ = .ok (.value (.pointer (some ⟨bl, 0, none⟩))) _
          go_simp
        · obtain rfl := Option.some.inj ho
          have g0 : a'.tmps[219]?.getD undef = .pointer (some ⟨bl, 0, none⟩) := Reg.tmp_at (hH.got 1 219 (hdep { on := 1, ground := .data } (by simp) rfl) rfl)
          show (execOp a'.eval _).run _ _ = .ok (.value (.slice A0 S.length c0)) _
          go_simp
        · obtain rfl := Option.some.inj ho
          have g0 := Reg.tmp_at (b0 a' _ f hH)
          show (execOp a'.eval _).run _ _ = .ok (.value (.pointer (some ⟨bs, 0, none⟩))) _
          go_simp
        · obtain rfl := Option.some.inj ho
          have g0 : a'.tmps[221]?.getD undef = .pointer (some ⟨bs, 0, none⟩) := Reg.tmp_at (hH.got 3 221 (hdep { on := 3, ground := .data } (by simp) rfl) rfl)
          show (execOp a'.eval _).run _ _ = .ok (.value (.pointer (some ⟨bs, 0, none⟩))) _
          go_simp
        · obtain rfl := Option.some.inj ho
          have g0 : a'.tmps[222]?.getD undef = .pointer (some ⟨bs, 0, none⟩) := Reg.tmp_at (hH.got 4 222 (hdep { on := 4, ground := .data } (by simp) rfl) rfl)
          show (execOp a'.eval _).run _ _ = .ok (.value (.pointer (some ⟨bs, 1, none⟩))) _
          go_simp
        · obtain rfl := Option.some.inj ho
          have g0 : a'.tmps[223]?.getD undef = .pointer (some ⟨bs, 1, none⟩) := Reg.tmp_at (hH.got 5 223 (hdep { on := 5, ground := .data } (by simp) rfl) rfl)
          show (execOp a'.eval _).run _ _ = .ok (.value (.int .i64 x1)) _
          go_simp
        · obtain rfl := Option.some.inj ho
          have g0 := Reg.tmp_at (b0 a' _ f hH)
          show (execOp a'.eval _).run _ _ = .ok (.value (.pointer (some ⟨bs, 0, none⟩))) _
          go_simp
        · obtain rfl := Option.some.inj ho
          have g0 : a'.tmps[225]?.getD undef = .pointer (some ⟨bs, 0, none⟩) := Reg.tmp_at (hH.got 7 225 (hdep { on := 7, ground := .data } (by simp) rfl) rfl)
          show (execOp a'.eval _).run _ _ = .ok (.value (.pointer (some ⟨bs, 0, none⟩))) _
          go_simp
        · obtain rfl := Option.some.inj ho
          have g0 : a'.tmps[226]?.getD undef = .pointer (some ⟨bs, 0, none⟩) := Reg.tmp_at (hH.got 8 226 (hdep { on := 8, ground := .data } (by simp) rfl) rfl)
          show (execOp a'.eval _).run _ _ = .ok (.value (.pointer (some ⟨bs, 2, none⟩))) _
          go_simp
        · obtain rfl := Option.some.inj ho
          have g0 : a'.tmps[227]?.getD undef = .pointer (some ⟨bs, 2, none⟩) := Reg.tmp_at (hH.got 9 227 (hdep { on := 9, ground := .data } (by simp) rfl) rfl)
          show (execOp a'.eval _).run _ _ = .ok (.value (.int .i64 x2)) _
          go_simp
        · obtain rfl := Option.some.inj ho
          have g0 := Reg.tmp_at (b0 a' _ f hH)
          show (execOp a'.eval _).run _ _ = .ok (.value (.pointer (some ⟨bs, 0, none⟩))) _
          go_simp
        · obtain rfl := Option.some.inj ho
          have g0 : a'.tmps[229]?.getD undef = .pointer (some ⟨bs, 0, none⟩) := Reg.tmp_at (hH.got 11 229 (hdep { on := 11, ground := .data } (by simp) rfl) rfl)
          show (execOp a'.eval _).run _ _ = .ok (.value (.pointer (some ⟨bs, 0, none⟩))) _
          go_simp
        · obtain rfl := Option.some.inj ho
          have g0 : a'.tmps[230]?.getD undef = .pointer (some ⟨bs, 0, none⟩) := Reg.tmp_at (hH.got 12 230 (hdep { on := 12, ground := .data } (by simp) rfl) rfl)
          show (execOp a'.eval _).run _ _ = .ok (.value (.pointer (some ⟨bs, 3, none⟩))) _
          go_simp
        · obtain rfl := Option.some.inj ho
          have g0 : a'.tmps[231]?.getD undef = .pointer (some ⟨bs, 3, none⟩) := Reg.tmp_at (hH.got 13 231 (hdep { on := 13, ground := .data } (by simp) rfl) rfl)
          show (execOp a'.eval _).run _ _ = .ok (.value (.int .i64 x3)) _
          go_simp
        · obtain rfl := Option.some.inj ho
          exact absurd rfl hne
        · obtain rfl := Option.some.inj ho
          have h := (hdep { on := 15, ground := .data } (by simp) rfl)
          rw [hfc] at h; cases h
        · obtain rfl := Option.some.inj ho
          have g0 := Reg.tmp_at (b9 a' _ f hH)
          show (execOp a'.eval _).run _ _ = .ok (.value (.pointer (some ⟨w.heap.size + 2, 3, none⟩))) _
          go_simp
        · obtain rfl := Option.some.inj ho
          have h := (hdep { on := 15, ground := .chain } (by simp) rfl)
          rw [hfc] at h; cases h
      case hcall =>
        intro f a' o ho hfc hcl hdep hH
        obtain rfl := Option.some.inj ho
        have g0 : a'.tmps[220]?.getD undef = .slice A0 S.length c0 := Reg.tmp_at (hH.got 2 220 (hdep { on := 2, ground := .data } (by simp) rfl) rfl)
        have g1 : a'.tmps[224]?.getD undef = .int .i64 x1 := Reg.tmp_at (hH.got 6 224 (hdep { on := 6, ground := .data } (by simp) rfl) rfl)
        have g2 : a'.tmps[228]?.getD undef = .int .i64 x2 := Reg.tmp_at (hH.got 10 228 (hdep { on := 10, ground := .data } (by simp) rfl) rfl)
        have g3 : a'.tmps[232]?.getD undef = .int .i64 x3 := Reg.tmp_at (hH.got 14 232 (hdep { on := 14, ground := .data } (by simp) rfl) rfl)
        have n18 : f 18 = false := by
          cases h : f 18 with
          | false => rfl
          | true =>
            have h2 := (hcl 18 _ rfl h { on := 15, ground := .chain } (by simp) rfl)
            rw [hfc] at h2; cases h2
        refine ⟨60, #[.slice A0 S.length c0, .int .i64 x1, .int .i64 x2, .int .i64 x3], ?_, ?_⟩
        · go_simp
        · have hsame : ∀ θ : World × Option Addr × Nat × Nat × Nat, ∀ oj, f oj = true → Reg.valOf [.pointer (some ⟨bl, 0, none⟩), .pointer (some ⟨bl, 0, none⟩), .slice A0 S.length c0, .pointer (some ⟨bs, 0, none⟩), .pointer (some ⟨bs, 0, none⟩), .pointer (some ⟨bs, 1, none⟩), .int .i64 x1, .pointer (some ⟨bs, 0, none⟩), .pointer (some ⟨bs, 0, none⟩), .pointer (some ⟨bs, 2, none⟩), .int .i64 x2, .pointer (some ⟨bs, 0, none⟩), .pointer (some ⟨bs, 0, none⟩), .pointer (some ⟨bs, 3, none⟩), .int .i64 x3, undef, undef, .pointer (some ⟨w.heap.size + 2, 3, none⟩), undef] oj = Reg.valOf [.pointer (some ⟨bl, 0, none⟩), .pointer (some ⟨bl, 0, none⟩), .slice A0 S.length c0, .pointer (some ⟨bs, 0, none⟩), .pointer (some ⟨bs, 0, none⟩), .pointer (some ⟨bs, 1, none⟩), .int .i64 x1, .pointer (some ⟨bs, 0, none⟩), .pointer (some ⟨bs, 0, none⟩), .pointer (some ⟨bs, 2, none⟩), .int .i64 x2, .pointer (some ⟨bs, 0, none⟩), .pointer (some ⟨bs, 0, none⟩), .pointer (some ⟨bs, 3, none⟩), .int .i64 x3, .slice θ.2.1 θ.2.2.1 θ.2.2.2.1, .agg #[.int .i64 6, .bool false, .slice none 0 0, .int .u64 0, .string ⟨#[]⟩, .slice θ.2.1 θ.2.2.1 θ.2.2.2.1], .pointer (some ⟨w.heap.size + 2, 3, none⟩), undef] oj := by
            intro θ oj hj
            by_cases hjn : oj < 19
            · have hcs : oj = 0 ∨ oj = 1 ∨ oj = 2 ∨ oj = 3 ∨ oj = 4 ∨ oj = 5 ∨ oj = 6 ∨ oj = 7 ∨ oj = 8 ∨ oj = 9 ∨ oj = 10 ∨ oj = 11 ∨ oj = 12 ∨ oj = 13 ∨ oj = 14 ∨ oj = 15 ∨ oj = 16 ∨ oj = 17 ∨ oj = 18 := by omega
              rcases hcs with rfl | rfl | rfl | rfl | rfl | rfl | rfl | rfl | rfl | rfl | rfl | rfl | rfl | rfl | rfl | rfl | rfl | rfl | rfl
              · rfl
              · rfl
              · rfl
              · rfl
              · rfl
              · rfl
              · rfl
              · rfl
              · rfl
              · rfl
              · rfl
              · rfl
              · rfl
              · rfl
              · rfl
              · rw [hfc] at hj; cases hj
              · have h2 := (hcl 16 _ rfl hj { on := 15, ground := .data } (by simp) rfl)
                rw [hfc] at h2; cases h2
              · rfl
              · have h2 := (hcl 18 _ rfl hj { on := 15, ground := .chain } (by simp) rfl)
                rw [hfc] at h2; cases h2
            · unfold Reg.valOf
              rw [List.getD_eq_getElem?_getD, List.getD_eq_getElem?_getD, List.getElem?_eq_none (by show 19 ≤ oj; omega), List.getElem?_eq_none (by show 19 ≤ oj; omega)]
          clear hQ
          refine hcall.out.mono ?_
          rintro e w'' ⟨cc, xe, hv, hg, ⟨u, rfl, hz⟩, hb⟩
          obtain ⟨uA, uN, uC, rfl⟩ := vals_form hz
          refine ⟨⟨w'', uA, uN, uC, cc⟩, ⟨⟨xe, hv, hg⟩, hz, hb⟩, rfl, hsame ⟨w'', uA, uN, uC, cc⟩, ?_⟩
          simp [Reg.wstL, n18]
      case hpost =>
        clear hQ
        rintro ⟨w2, uA, uN, uC, cc⟩ ⟨-, -, hb⟩
        have hb2 := hb1'.out.drew.later hb
        obtain ⟨p0, p1, p2, p3, p4, p5, p6, p7, p8, p9, pl, pf0, pf1, pf2, pf3, pf4, pf5, pf6, pf7, pf8, pf9⟩ := ans_facts hb2.out
        clear hb2 hb
        intro f a' oi o hi hne ho hun hfc hcl hdep hH
        have hcs : oi = 0 ∨ oi = 1 ∨ oi = 2 ∨ oi = 3 ∨ oi = 4 ∨ oi = 5 ∨ oi = 6 ∨ oi = 7 ∨ oi = 8 ∨ oi = 9 ∨ oi = 10 ∨ oi = 11 ∨ oi = 12 ∨ oi = 13 ∨ oi = 14 ∨ oi = 15 ∨ oi = 16 ∨ oi = 17 ∨ oi = 18 := by omega
        rcases hcs with rfl | rfl | rfl | rfl | rfl | rfl | rfl | rfl | rfl | rfl | rfl | rfl | rfl | rfl | rfl | rfl | rfl | rfl | rfl
        · obtain rfl := Option.some.inj ho
          have h := (hcl 1 _ rfl (hcl 2 _ rfl (hcl 15 _ rfl hfc { on := 2, ground := .data } (by simp) rfl) { on := 1, ground := .data } (by simp) rfl) { on := 0, ground := .data } (by simp) rfl)
          rw [hun] at h; cases h
        · obtain rfl := Option.some.inj ho
          have h := (hcl 2 _ rfl (hcl 15 _ rfl hfc { on := 2, ground := .data } (by simp) rfl) { on := 1, ground := .data } (by simp) rfl)
          rw [hun] at h; cases h
        · obtain rfl := Option.some.inj ho
          have h := (hcl 15 _ rfl hfc { on := 2, ground := .data } (by simp) rfl)
          rw [hun] at h; cases h
        · obtain rfl := Option.some.inj ho
          have h := (hcl 4 _ rfl (hcl 5 _ rfl (hcl 6 _ rfl (hcl 15 _ rfl hfc { on := 6, ground := .data } (by simp) rfl) { on := 5, ground := .data } (by simp) rfl) { on := 4, ground := .data } (by simp) rfl) { on := 3, ground := .data } (by simp) rfl)
          rw [hun] at h; cases h
        · obtain rfl := Option.some.inj ho
          have h := (hcl 5 _ rfl (hcl 6 _ rfl (hcl 15 _ rfl hfc { on := 6, ground := .data } (by simp) rfl) { on := 5, ground := .data } (by simp) rfl) { on := 4, ground := .data } (by simp) rfl)
          rw [hun] at h; cases h
        · obtain rfl := Option.some.inj ho
          have h := (hcl 6 _ rfl (hcl 15 _ rfl hfc { on := 6, ground := .data } (by simp) rfl) { on := 5, ground := .data } (by simp) rfl)
          rw [hun] at h; cases h
        · obtain rfl := Option.some.inj ho
          have h := (hcl 15 _ rfl hfc { on := 6, ground := .data } (by simp) rfl)
          rw [hun] at h; cases h
        · obtain rfl := Option.some.inj ho
          have h := (hcl 8 _ rfl (hcl 9 _ rfl (hcl 10 _ rfl (hcl 15 _ rfl hfc { on := 10, ground := .data } (by simp) rfl) { on := 9, ground := .data } (by simp) rfl) { on := 8, ground := .data } (by simp) rfl) { on := 7, ground := .data } (by simp) rfl)
          rw [hun] at h; cases h
        · obtain rfl := Option.some.inj ho
          have h := (hcl 9 _ rfl (hcl 10 _ rfl (hcl 15 _ rfl hfc { on := 10, ground := .data } (by simp) rfl) { on := 9, ground := .data } (by simp) rfl) { on := 8, ground := .data } (by simp) rfl)
          rw [hun] at h; cases h
        · obtain rfl := Option.some.inj ho
          have h := (hcl 10 _ rfl (hcl 15 _ rfl hfc { on := 10, ground := .data } (by simp) rfl) { on := 9, ground := .data } (by simp) rfl)
          rw [hun] at h; cases h
        · obtain rfl := Option.some.inj ho
          have h := (hcl 15 _ rfl hfc { on := 10, ground := .data } (by simp) rfl)
          rw [hun] at h; cases h
        · obtain rfl := Option.some.inj ho
          have h := (hcl 12 _ rfl (hcl 13 _ rfl (hcl 14 _ rfl (hcl 15 _ rfl hfc { on := 14, ground := .data } (by simp) rfl) { on := 13, ground := .data } (by simp) rfl) { on := 12, ground := .data } (by simp) rfl) { on := 11, ground := .data } (by simp) rfl)
          rw [hun] at h; cases h
        · obtain rfl := Option.some.inj ho
          have h := (hcl 13 _ rfl (hcl 14 _ rfl (hcl 15 _ rfl hfc { on := 14, ground := .data } (by simp) rfl) { on := 13, ground := .data } (by simp) rfl) { on := 12, ground := .data } (by simp) rfl)
          rw [hun] at h; cases h
        · obtain rfl := Option.some.inj ho
          have h := (hcl 14 _ rfl (hcl 15 _ rfl hfc { on := 14, ground := .data } (by simp) rfl) { on := 13, ground := .data } (by simp) rfl)
          rw [hun] at h; cases h
        · obtain rfl := Option.some.inj ho
          have h := (hcl 15 _ rfl hfc { on := 14, ground := .data } (by simp) rfl)
          rw [hun] at h; cases h
        · obtain rfl := Option.some.inj ho
          exact absurd rfl hne
        · obtain rfl := Option.some.inj ho
          have g0 : a'.tmps[233]?.getD undef = .slice uA uN uC := Reg.tmp_at (hH.got 15 233 (hdep { on := 15, ground := .data } (by simp) rfl) rfl)
          refine ⟨.value (.agg #[.int .i64 6, .bool false, .slice none 0 0, .int .u64 0, .string ⟨#[]⟩, .slice uA uN uC]), ?_, .inl rfl⟩
          rw [Reg.wstL_no f 16 (by simp)]
          generalize Reg.wstL _ _ f = Wx
          go_simp
        · obtain rfl := Option.some.inj ho
          have g0 := Reg.tmp_at (b9 a' _ f hH)
          refine ⟨.value (.pointer (some ⟨w.heap.size + 2, 3, none⟩)), ?_, .inl rfl⟩
          rw [Reg.wstL_no f 17 (by simp)]
          generalize Reg.wstL _ _ f = Wx
          go_simp
        · obtain rfl := Option.some.inj ho
          have g0 : a'.tmps[235]?.getD undef = .pointer (some ⟨w.heap.size + 2, 3, none⟩) := Reg.tmp_at (hH.got 17 235 (hdep { on := 17, ground := .data } (by simp) rfl) rfl)
          have g1 : a'.tmps[234]?.getD undef = .agg #[.int .i64 6, .bool false, .slice none 0 0, .int .u64 0, .string ⟨#[]⟩, .slice uA uN uC] := Reg.tmp_at (hH.got 16 234 (hdep { on := 16, ground := .data } (by simp) rfl) rfl)
          refine ⟨.skip, ?_, .inr ⟨rfl, rfl⟩⟩
          rw [show Reg.wstL [(18, ((((((w2.setCell ⟨w.heap.size + 2, 3, none⟩ (.int .i64 6)).setCell ⟨w.heap.size + 2, 4, none⟩ (.bool false)).setCell ⟨w.heap.size + 2, 5, none⟩ (.slice none 0 0)).setCell ⟨w.heap.size + 2, 6, none⟩ (.int .u64 0)).setCell ⟨w.heap.size + 2, 7, none⟩ (.string ⟨#[]⟩)).setCell ⟨w.heap.size + 2, 8, none⟩ (.slice uA uN uC)))] (w2) (fun k => decide (k = 18) || f k) = ((((((w2.setCell ⟨w.heap.size + 2, 3, none⟩ (.int .i64 6)).setCell ⟨w.heap.size + 2, 4, none⟩ (.bool false)).setCell ⟨w.heap.size + 2, 5, none⟩ (.slice none 0 0)).setCell ⟨w.heap.size + 2, 6, none⟩ (.int .u64 0)).setCell ⟨w.heap.size + 2, 7, none⟩ (.string ⟨#[]⟩)).setCell ⟨w.heap.size + 2, 8, none⟩ (.slice uA uN uC)) from by simp [Reg.wstL], show Reg.wstL [(18, ((((((w2.setCell ⟨w.heap.size + 2, 3, none⟩ (.int .i64 6)).setCell ⟨w.heap.size + 2, 4, none⟩ (.bool false)).setCell ⟨w.heap.size + 2, 5, none⟩ (.slice none 0 0)).setCell ⟨w.heap.size + 2, 6, none⟩ (.int .u64 0)).setCell ⟨w.heap.size + 2, 7, none⟩ (.string ⟨#[]⟩)).setCell ⟨w.heap.size + 2, 8, none⟩ (.slice uA uN uC)))] (w2) f = w2 from by simp [Reg.wstL, hun]]
          go_simp
    case h2 =>
      rintro ⟨w2, uA, uN, uC, cc⟩ ⟨⟨xe, hv, hg⟩, hz, hb⟩
      simp only at hv hz hb
      have hb2 := hb1'.out.drew.later hb
      have hc0 : Bd w (w2.setCell ⟨w.heap.size + 2, 3, none⟩ (.int .i64 6)) B bl bs _ _ S _ _ #[.bool true, .bool false, .int .i64 0, .int .i64 6, .bool false, .slice none 0 0, .int .u64 0, .string ⟨#[]⟩, .slice none 0 0, .slice none 0 0] := hb2.out_put 3 _
      have hz0 : Vals (w2.setCell ⟨w.heap.size + 2, 3, none⟩ (.int .i64 6)) _ _ _ := vals_put hz hb2.out (by decide) rfl (p := ⟨w.heap.size + 2, 3, none⟩) (.int .i64 6)
      have hc1 : Bd w ((w2.setCell ⟨w.heap.size + 2, 3, none⟩ (.int .i64 6)).setCell ⟨w.heap.size + 2, 4, none⟩ (.bool false)) B bl bs _ _ S _ _ #[.bool true, .bool false, .int .i64 0, .int .i64 6, .bool false, .slice none 0 0, .int .u64 0, .string ⟨#[]⟩, .slice none 0 0, .slice none 0 0] := hc0.out_put 4 _
      have hz1 : Vals ((w2.setCell ⟨w.heap.size + 2, 3, none⟩ (.int .i64 6)).setCell ⟨w.heap.size + 2, 4, none⟩ (.bool false)) _ _ _ := vals_put hz0 hc0.out (by decide) rfl (p := ⟨w.heap.size + 2, 4, none⟩) (.bool false)
      have hc2 : Bd w (((w2.setCell ⟨w.heap.size + 2, 3, none⟩ (.int .i64 6)).setCell ⟨w.heap.size + 2, 4, none⟩ (.bool false)).setCell ⟨w.heap.size + 2, 5, none⟩ (.slice none 0 0)) B bl bs _ _ S _ _ #[.bool true, .bool false, .int .i64 0, .int .i64 6, .bool false, .slice none 0 0, .int .u64 0, .string ⟨#[]⟩, .slice none 0 0, .slice none 0 0] := hc1.out_put 5 _
      have hz2 : Vals (((w2.setCell ⟨w.heap.size + 2, 3, none⟩ (.int .i64 6)).setCell ⟨w.heap.size + 2, 4, none⟩ (.bool false)).setCell ⟨w.heap.size + 2, 5, none⟩ (.slice none 0 0)) _ _ _ := vals_put hz1 hc1.out (by decide) rfl (p := ⟨w.heap.size + 2, 5, none⟩) (.slice none 0 0)
      have hc3 : Bd w ((((w2.setCell ⟨w.heap.size + 2, 3, none⟩ (.int .i64 6)).setCell ⟨w.heap.size + 2, 4, none⟩ (.bool false)).setCell ⟨w.heap.size + 2, 5, none⟩ (.slice none 0 0)).setCell ⟨w.heap.size + 2, 6, none⟩ (.int .u64 0)) B bl bs _ _ S _ _ #[.bool true, .bool false, .int .i64 0, .int .i64 6, .bool false, .slice none 0 0, .int .u64 0, .string ⟨#[]⟩, .slice none 0 0, .slice none 0 0] := hc2.out_put 6 _
      have hz3 : Vals ((((w2.setCell ⟨w.heap.size + 2, 3, none⟩ (.int .i64 6)).setCell ⟨w.heap.size + 2, 4, none⟩ (.bool false)).setCell ⟨w.heap.size + 2, 5, none⟩ (.slice none 0 0)).setCell ⟨w.heap.size + 2, 6, none⟩ (.int .u64 0)) _ _ _ := vals_put hz2 hc2.out (by decide) rfl (p := ⟨w.heap.size + 2, 6, none⟩) (.int .u64 0)
      have hc4 : Bd w (((((w2.setCell ⟨w.heap.size + 2, 3, none⟩ (.int .i64 6)).setCell ⟨w.heap.size + 2, 4, none⟩ (.bool false)).setCell ⟨w.heap.size + 2, 5, none⟩ (.slice none 0 0)).setCell ⟨w.heap.size + 2, 6, none⟩ (.int .u64 0)).setCell ⟨w.heap.size + 2, 7, none⟩ (.string ⟨#[]⟩)) B bl bs _ _ S _ _ #[.bool true, .bool false, .int .i64 0, .int .i64 6, .bool false, .slice none 0 0, .int .u64 0, .string ⟨#[]⟩, .slice none 0 0, .slice none 0 0] := hc3.out_put 7 _
      have hz4 : Vals (((((w2.setCell ⟨w.heap.size + 2, 3, none⟩ (.int .i64 6)).setCell ⟨w.heap.size + 2, 4, none⟩ (.bool false)).setCell ⟨w.heap.size + 2, 5, none⟩ (.slice none 0 0)).setCell ⟨w.heap.size + 2, 6, none⟩ (.int .u64 0)).setCell ⟨w.heap.size + 2, 7, none⟩ (.string ⟨#[]⟩)) _ _ _ := vals_put hz3 hc3.out (by decide) rfl (p := ⟨w.heap.size + 2, 7, none⟩) (.string ⟨#[]⟩)
      have hc5 : Bd w ((((((w2.setCell ⟨w.heap.size + 2, 3, none⟩ (.int .i64 6)).setCell ⟨w.heap.size + 2, 4, none⟩ (.bool false)).setCell ⟨w.heap.size + 2, 5, none⟩ (.slice none 0 0)).setCell ⟨w.heap.size + 2, 6, none⟩ (.int .u64 0)).setCell ⟨w.heap.size + 2, 7, none⟩ (.string ⟨#[]⟩)).setCell ⟨w.heap.size + 2, 8, none⟩ (.slice uA uN uC)) B bl bs _ _ S _ _ #[.bool true, .bool false, .int .i64 0, .int .i64 6, .bool false, .slice none 0 0, .int .u64 0, .string ⟨#[]⟩, .slice uA uN uC, .slice none 0 0] := hc4.out_put 8 _
      have hz5 : Vals ((((((w2.setCell ⟨w.heap.size + 2, 3, none⟩ (.int .i64 6)).setCell ⟨w.heap.size + 2, 4, none⟩ (.bool false)).setCell ⟨w.heap.size + 2, 5, none⟩ (.slice none 0 0)).setCell ⟨w.heap.size + 2, 6, none⟩ (.int .u64 0)).setCell ⟨w.heap.size + 2, 7, none⟩ (.string ⟨#[]⟩)).setCell ⟨w.heap.size + 2, 8, none⟩ (.slice uA uN uC)) _ _ _ := vals_put hz4 hc4.out (by decide) rfl (p := ⟨w.heap.size + 2, 8, none⟩) (.slice uA uN uC)
      have hne : ∀ b, (Value.slice A0 S.length c0).ownBlock = some b → (Value.slice uA uN uC).ownBlock ≠ some b := fun b h1 h2 => by
        obtain ⟨L1, q1, _⟩ := hb1'.out.l.row
        obtain ⟨L2, q2, _⟩ := hz
        have e1 := (World.ownsRow.lt q1 b h1).2
        have e2 := (World.ownsRow.lt q2 b h2).1
        have e3 : W1.drew.heap.size = W1.heap.size := rfl
        omega
      obtain ⟨W3, hW3⟩ : ∃ W3, ((((((w2.setCell ⟨w.heap.size + 2, 3, none⟩ (.int .i64 6)).setCell ⟨w.heap.size + 2, 4, none⟩ (.bool false)).setCell ⟨w.heap.size + 2, 5, none⟩ (.slice none 0 0)).setCell ⟨w.heap.size + 2, 6, none⟩ (.int .u64 0)).setCell ⟨w.heap.size + 2, 7, none⟩ (.string ⟨#[]⟩)).setCell ⟨w.heap.size + 2, 8, none⟩ (.slice uA uN uC)) = W3 := ⟨_, rfl⟩
      have hc6 := hc5
      have hz6 := hz5
      rw [hW3] at hc6 hz6
      obtain ⟨hres, hout, hae, hfi⟩ := hc6.end_ (S0 := S) (p := .slice x1 x2 x3) (a := .none) (ys := nil6) (y := ⟨.int .i64 6, .bool false, .slice none 0 0, .int .u64 0, .string ⟨#[]⟩, .slice uA uN uC⟩) (ok := true) (is_ := false) (n := 0) (av := .list (row S x1 x3 cc)) ⟨rfl, rfl, rfl, rfl, rfl⟩ (nil6_sc _) ⟨.slice uA uN uC, rfl, hz6.lower (Nat.zero_le _), fun b h2 h1 => hne b h1 h2⟩
      obtain ⟨r0, r1, r2, r3, r4, r5, r6, r7, r8, r9, rl, q0, q1, q2, q3, q4, q5, q6, q7, q8, q9⟩ := ans_facts hres
      clear hc0 hc1 hc2 hc3 hc4 hc5 hc6 hz0 hz1 hz2 hz3 hz4 hz5 hz6 hb2 hz hb hres hb1' hcall ht hy1' s0 s1 s2 s3 sl l0 ll lf o0 o1 o2 o3 o4 o5 o6 o7 o8 o9 ol of0 of1 of2 of3 of4 of5 of6 of7 of8 of9
      unfold ansCs at hout
      dsimp only at hout
      simp only [Reg.fill, Reg.dstOf, Reg.valOf, List.getD_cons_zero, List.getD_cons_succ, Act.put]
      simp [List.setIfInBounds_toArray, List.set_cons_succ, List.set_cons_zero]
      rw [hW3]
      go_upto_region 32 with fail
      go_wp2_with (refine wpList_load_row rfl 64 _ rfl (w.heap.size + 2) rfl 64 _ (0, 0) _ hout.out Tryz.underlying64 rfl (by kernel_rfl) ?_)
      exact bodyPost_ret (v := .agg (ansCs true false 0 _)) (results_cell_row rfl _ _ (w.heap.size + 1) 64 _ (0, 0) _ rfl hae.out rfl rfl rfl) rfl ⟨.slice x1 x2 x3, _, fun _ _ => Step.slice hfit hx3 hx4 hv hg, hfi.out⟩
end Go.Proofs.YtafbheamnjmfoaaGreat.Ls
