/-
  The reference's step over a list: an element replaced.
-/
import Derived.Test.YtafbheamnjmfoaaGreatLsTurnD
namespace Go.Proofs.YtafbheamnjmfoaaGreat.Ls
open Go.RowKit Go.WideShapes Go.Proofs.YtafbheamnjmfoaaGreat.Sc Go.Proofs.YtafbheamnjmfoaaGreat.VRow
set_option linter.unusedVariables false

theorem turn_val (x m : Int) (hm : 1 ≤ m) (hm2 : m ≤ 1000) : ∃ y : Int, 0 ≤ y ∧ y < m ∧ ∀ w : World, Calls Tryz.prog 57 #[.int .i64 x, .int .i64 m] w fun r w' => r = .returned (.int .i64 y) ∧ w' = w := by
  have t1 : x.tmod m < m := Int.tmod_lt_of_pos x (by omega)
  have t2 : -m < x.tmod m := by
    have h : -x.tmod m < m := by rw [← Int.neg_tmod]; exact Int.tmod_lt_of_pos (-x) (by omega)
    omega
  have hm0 : (m == 0) = false := by simp; omega
  have t3 := Int.emod_lt_of_pos (x.tmod m + m) (show 0 < m by omega)
  have t4 := Int.emod_nonneg (x.tmod m + m) (show m ≠ 0 by omega)
  refine ⟨(x.tmod m + m) % m, t4, t3, fun w => ?_⟩
  go_enter Tryz.func57, Tryz.ntmps57
  go_wp2
  go_ret
  exact ⟨rfl, rfl⟩
set_option maxHeartbeats 2000000 in
set_option maxRecDepth 100000 in
theorem turn_set_no (B bl bs : Nat) (i : Int) (j m : Int) (y z : V6) (a b : Sc) (k0 i0 j0 m0 : Int) (v : Value) (S : List Sc) (w : World) (h : Rl w B bl v S) (hs : Box.Holds w bs 62 (stepCs 1 i j m nil6)) (hy : IsSc w y a) (hz : IsSc w z b) (ha : a.ok) (hBs : B ≤ bs) (hl : S.length ≤ 400) (hS : 0 < S.length) :
    Calls Tryz.prog 31 #[.pointer (some ⟨bs, 0, none⟩), .agg (rawCs k0 i0 j0 m0 y z), .pointer (some ⟨bl, 0, none⟩), .bool true] w (fun e w' => ∃ (q : Nat), q < S.length ∧ Stepped w B bl bs v.ownBlock S S (.set q a) .no e w') := by
  obtain ⟨yn, ya, yl, yc, yb, yt, rfl⟩ := hy.form
  obtain ⟨zn, za, zl, zc, zb, zt, rfl⟩ := hz.form
  have h3 := three w (rawCs k0 i0 j0 m0 ⟨.int .i64 a.kind, .bool yn, .slice ya yl yc, .int .u64 yb, .string yt, .slice none 0 0⟩ ⟨.int .i64 b.kind, .bool zn, .slice za zl zc, .int .u64 zb, .string zt, .slice none 0 0⟩)
  obtain ⟨W, hW⟩ : ∃ W, ((w.alloc (.cells (rawCs k0 i0 j0 m0 ⟨.int .i64 a.kind, .bool yn, .slice ya yl yc, .int .u64 yb, .string yt, .slice none 0 0⟩ ⟨.int .i64 b.kind, .bool zn, .slice za zl zc, .int .u64 zb, .string zt, .slice none 0 0⟩) 62)).alloc (.cells #[.bool false, .bool false, .int .i64 0, .int .i64 0, .bool false, .slice none 0 0, .int .u64 0, .string ⟨#[]⟩, .slice none 0 0, .slice none 0 0] 64)).alloc (.cells #[.bool true, .bool false, .int .i64 0, .int .i64 0, .bool false, .slice none 0 0, .int .u64 0, .string ⟨#[]⟩, .slice none 0 0, .slice none 0 0] 64) = W := ⟨_, rfl⟩
  rw [hW] at h3
  have hB : B ≤ w.heap.size := Nat.le_trans h.ge (Nat.le_of_lt h.hold.lt)
  have hl1 := h.later h3.below
  have hs1 := hs.later h3.below
  have hy1 := hy.kept (Kept.of_below h3.below)
  have hbw := h.hold.lt
  have hsw := hs.lt
  have hvw : ∀ b, v.ownBlock = some b → b < w.heap.size := fun b hb => by obtain ⟨L, hL, _⟩ := h.row; exact (World.ownsRow.lt hL b hb).2
  have hls : bl ≠ bs := holds_ne h.hold hs (by decide)
  obtain ⟨A0, c0, rfl⟩ := h.row.shape
  have s0 := hold0 hs1
  have s1 := hold1 hs1
  have s2 := holdB hs1
  have s3 := holdC hs1
  have sl := hs1.lt
  have sf0 := hs1.free 0
  have sf1 := hs1.free 1
  have sf2 := hs1.free 2
  have sf3 := hs1.free 3
  have l0 := hold0 hl1.hold
  have ll := hl1.hold.lt
  have lf := hl1.hold.free 0
  have hfW : Fr B (SS bs (Value.slice A0 S.length c0).ownBlock) w W := Fr.of_below h3.below hB
  obtain ⟨o0, o1, o2, o3, o4, o5, o6, o7, o8, o9, ol, of0, of1, of2, of3, of4, of5, of6, of7, of8, of9⟩ := ans_facts h3.out
  have hno1 : bs ≠ w.heap.size + 2 := by omega
  have hno2 : bl ≠ w.heap.size + 2 := by omega
  have hno3 : bs ≠ w.heap.size + 1 := by omega
  have hno4 : bl ≠ w.heap.size + 1 := by omega
  have hbd : Bd w W B bl bs (Value.slice A0 S.length c0).ownBlock (.slice A0 S.length c0) S _ _ _ := ⟨hl1, hs1, h3.res, h3.raw, h3.out, hfW, fun b hb => .inl hb, hsw, hB, hBs⟩
  have hbd' := Lib.hid hbd
  have hy1' := Lib.hid hy1
  clear h h3 hs hl1 hs1 hy hz hfW hvw hbd hy1
  have hcl := Lib.hid fun W h => clean2_any ⟨.int .i64 a.kind, .bool yn, .slice ya yl yc, .int .u64 yb, .string yt, .slice none 0 0⟩ a W ha h
  obtain ⟨q0, hq0, hq1, ht⟩ := turn_val i S.length (by omega) (by omega)
  obtain ⟨q, rfl⟩ : ∃ q : Nat, q0 = q := ⟨q0.toNat, by omega⟩
  have hq : q < S.length := by omega
  have ht' := Lib.hid ht
  clear ht hq0 hq1
  have hW' := Lib.hid hW
  clear hW
  unfold rawCs at hW'
  dsimp only at hW'
  unfold rawCs
  dsimp only
  go_enter Tryz.func31, Tryz.ntmps31
  go_upto_region 2 with fail
  rw [hW'.out]
  clear hW'
  have hraw := hbd'.out.raw
  unfold rawCs at hraw
  dsimp only at hraw
  have w4 : W.cell? ⟨w.heap.size, 4, none⟩ = _ := hraw.cell 4
  have w5 : W.cell? ⟨w.heap.size, 5, none⟩ = _ := hraw.cell 5
  have w6 : W.cell? ⟨w.heap.size, 6, none⟩ = _ := hraw.cell 6
  have w7 : W.cell? ⟨w.heap.size, 7, none⟩ = _ := hraw.cell 7
  have w8 : W.cell? ⟨w.heap.size, 8, none⟩ = _ := hraw.cell 8
  have w9 : W.cell? ⟨w.heap.size, 9, none⟩ = _ := hraw.cell 9
  simp at w4 w5 w6 w7 w8 w9
  have wl := hraw.lt
  have hcl2 := Lib.hid (hcl.out W.drew (hy1'.out.kept (kept_drew fun _ _ _ _ _ h => h)))
  unfold V6.arr at hcl2
  clear hraw hcl hy1'
  go_upto_region 11 with fail
  go_wp2_with fail
  refine Reg.via_call (Θ := World × Bool × Option Addr × Nat × Nat × Int × ByteArray) (fun θ => IsSc θ.1 ⟨.int .i64 a.kind, .bool θ.2.1, .slice θ.2.2.1 θ.2.2.2.1 θ.2.2.2.2.1, .int .u64 θ.2.2.2.2.2.1, .string θ.2.2.2.2.2.2, .slice none 0 0⟩ a ∧ Below W.drew.heap.size W.drew θ.1) (fun θ => Reg.fill (Reg.dstOf [some 60, some 61, some 62, some 63, some 64, some 65, some 66, some 67, some 68, some 69, some 70, some 71, some 72, none, some 73, some 74, none]) (Reg.valOf [.pointer (some ⟨bs, 0, none⟩), .pointer (some ⟨bs, 0, none⟩), .pointer (some ⟨w.heap.size, 4, none⟩), .agg #[.int .i64 a.kind, .bool yn, .slice ya yl yc, .int .u64 yb, .string yt, .slice none 0 0], .agg #[.int .i64 a.kind, .bool θ.2.1, .slice θ.2.2.1 θ.2.2.2.1 θ.2.2.2.2.1, .int .u64 θ.2.2.2.2.2.1, .string θ.2.2.2.2.2.2, .slice none 0 0], .pointer (some ⟨bs, 0, none⟩), .pointer (some ⟨bs, 0, none⟩), .pointer (some ⟨bs, 1, none⟩), .int .i64 i, .int .i64 S.length, .int .i64 (q : Int), .pointer (some ⟨bs, 0, none⟩), .pointer (some ⟨bs, 4, none⟩), undef, .pointer (some ⟨bs, 0, none⟩), .pointer (some ⟨bs, 1, none⟩), undef]) 17) (fun θ => (((((((θ.1.setCell ⟨bs, 4, none⟩ (.int .i64 a.kind)).setCell ⟨bs, 5, none⟩ (.bool θ.2.1)).setCell ⟨bs, 6, none⟩ (.slice θ.2.2.1 θ.2.2.2.1 θ.2.2.2.2.1)).setCell ⟨bs, 7, none⟩ (.int .u64 θ.2.2.2.2.2.1)).setCell ⟨bs, 8, none⟩ (.string θ.2.2.2.2.2.2)).setCell ⟨bs, 9, none⟩ (.slice none 0 0)).setCell ⟨bs, 1, none⟩ (.int .i64 (q : Int)))) (fun a0 => a0.tmps.size = 237 ∧ a0.eval (.tmp 0) = .pointer (some ⟨bs, 0, none⟩) ∧ a0.eval (.tmp 5) = .pointer (some ⟨w.heap.size, 0, none⟩) ∧ a0.eval (.tmp 10) = .int .i64 S.length) ⟨rfl, rfl, rfl, rfl⟩ ?h1 ?h2
  case h1 =>
    go_light
    rintro af Q' ⟨z, e0, e5, e10⟩ hQ
    have b0 : ∀ a' v f, Reg.Held af (Reg.dstOf [some 60, some 61, some 62, some 63, some 64, some 65, some 66, some 67, some 68, some 69, some 70, some 71, some 72, none, some 73, some 74, none]) v f a' → a'.eval (.tmp 0) = .pointer (some ⟨bs, 0, none⟩) := fun a' v f hH => (hH.rest 0 fun k d _ hd => Reg.dstOf_ne _ 0 (by decide +kernel) hd).trans e0
    have b5 : ∀ a' v f, Reg.Held af (Reg.dstOf [some 60, some 61, some 62, some 63, some 64, some 65, some 66, some 67, some 68, some 69, some 70, some 71, some 72, none, some 73, some 74, none]) v f a' → a'.eval (.tmp 5) = .pointer (some ⟨w.heap.size, 0, none⟩) := fun a' v f hH => (hH.rest 5 fun k d _ hd => Reg.dstOf_ne _ 5 (by decide +kernel) hd).trans e5
    have b10 : ∀ a' v f, Reg.Held af (Reg.dstOf [some 60, some 61, some 62, some 63, some 64, some 65, some 66, some 67, some 68, some 69, some 70, some 71, some 72, none, some 73, some 74, none]) v f a' → a'.eval (.tmp 10) = .int .i64 S.length := fun a' v f hH => (hH.rest 10 fun k d _ hd => Reg.dstOf_ne _ 10 (by decide +kernel) hd).trans e10
    refine Reg.wp_region_callq (Θ := World × Bool × Option Addr × Nat × Nat × Int × ByteArray) (by kernel_rfl) (by decide +kernel) 17 rfl (fun θ => IsSc θ.1 ⟨.int .i64 a.kind, .bool θ.2.1, .slice θ.2.2.1 θ.2.2.2.1 θ.2.2.2.2.1, .int .u64 θ.2.2.2.2.2.1, .string θ.2.2.2.2.2.2, .slice none 0 0⟩ a ∧ Below W.drew.heap.size W.drew θ.1) (Reg.dstOf [some 60, some 61, some 62, some 63, some 64, some 65, some 66, some 67, some 68, some 69, some 70, some 71, some 72, none, some 73, some 74, none]) 4 (Reg.valOf [.pointer (some ⟨bs, 0, none⟩), .pointer (some ⟨bs, 0, none⟩), .pointer (some ⟨w.heap.size, 4, none⟩), .agg #[.int .i64 a.kind, .bool yn, .slice ya yl yc, .int .u64 yb, .string yt, .slice none 0 0], undef, .pointer (some ⟨bs, 0, none⟩), .pointer (some ⟨bs, 0, none⟩), .pointer (some ⟨bs, 1, none⟩), .int .i64 i, .int .i64 S.length, undef, undef, undef, undef, undef, undef, undef]) (fun θ => Reg.valOf [.pointer (some ⟨bs, 0, none⟩), .pointer (some ⟨bs, 0, none⟩), .pointer (some ⟨w.heap.size, 4, none⟩), .agg #[.int .i64 a.kind, .bool yn, .slice ya yl yc, .int .u64 yb, .string yt, .slice none 0 0], .agg #[.int .i64 a.kind, .bool θ.2.1, .slice θ.2.2.1 θ.2.2.2.1 θ.2.2.2.2.1, .int .u64 θ.2.2.2.2.2.1, .string θ.2.2.2.2.2.2, .slice none 0 0], .pointer (some ⟨bs, 0, none⟩), .pointer (some ⟨bs, 0, none⟩), .pointer (some ⟨bs, 1, none⟩), .int .i64 i, .int .i64 S.length, .int .i64 (q : Int), .pointer (some ⟨bs, 0, none⟩), .pointer (some ⟨bs, 4, none⟩), undef, .pointer (some ⟨bs, 0, none⟩), .pointer (some ⟨bs, 1, none⟩), undef]) (fun θ => Reg.wstL [(13, ((((((θ.1.setCell ⟨bs, 4, none⟩ (.int .i64 a.kind)).setCell ⟨bs, 5, none⟩ (.bool θ.2.1)).setCell ⟨bs, 6, none⟩ (.slice θ.2.2.1 θ.2.2.2.1 θ.2.2.2.2.1)).setCell ⟨bs, 7, none⟩ (.int .u64 θ.2.2.2.2.2.1)).setCell ⟨bs, 8, none⟩ (.string θ.2.2.2.2.2.2)).setCell ⟨bs, 9, none⟩ (.slice none 0 0))), (16, (((((((θ.1.setCell ⟨bs, 4, none⟩ (.int .i64 a.kind)).setCell ⟨bs, 5, none⟩ (.bool θ.2.1)).setCell ⟨bs, 6, none⟩ (.slice θ.2.2.1 θ.2.2.2.1 θ.2.2.2.2.1)).setCell ⟨bs, 7, none⟩ (.int .u64 θ.2.2.2.2.2.1)).setCell ⟨bs, 8, none⟩ (.string θ.2.2.2.2.2.2)).setCell ⟨bs, 9, none⟩ (.slice none 0 0)).setCell ⟨bs, 1, none⟩ (.int .i64 (q : Int))))] (θ.1)) ?hops (Reg.dstOf_inj _ (by decide +kernel)) (fun k d hd => by rw [z]; exact Reg.dstOf_lt _ 237 (by decide +kernel) hd) ?hpre ?hcall ?hpost (by decide) hQ
    case hops =>
      intro oi o ho
      have hi : oi < 17 := (Array.getElem?_eq_some_iff.1 ho).1
      have hcs : oi = 0 ∨ oi = 1 ∨ oi = 2 ∨ oi = 3 ∨ oi = 4 ∨ oi = 5 ∨ oi = 6 ∨ oi = 7 ∨ oi = 8 ∨ oi = 9 ∨ oi = 10 ∨ oi = 11 ∨ oi = 12 ∨ oi = 13 ∨ oi = 14 ∨ oi = 15 ∨ oi = 16 := by omega
      rcases hcs with rfl | rfl | rfl | rfl | rfl | rfl | rfl | rfl | rfl | rfl | rfl | rfl | rfl | rfl | rfl | rfl | rfl
      all_goals
        obtain rfl := Option.some.inj ho
        exact ⟨rfl, rfl⟩
    case hpre =>
      intro f a' oi o hi hne ho hun hfc hcl hdep hH
      clear hQ
      have hcs : oi = 0 ∨ oi = 1 ∨ oi = 2 ∨ oi = 3 ∨ oi = 4 ∨ oi = 5 ∨ oi = 6 ∨ oi = 7 ∨ oi = 8 ∨ oi = 9 ∨ oi = 10 ∨ oi = 11 ∨ oi = 12 ∨ oi = 13 ∨ oi = 14 ∨ oi = 15 ∨ oi = 16 := by omega
      rcases hcs with rfl | rfl | rfl | rfl | rfl | rfl | rfl | rfl | rfl | rfl | rfl | rfl | rfl | rfl | rfl | rfl | rfl
      · obtain rfl := Option.some.inj ho
        have g0 := Reg.tmp_at (b0 a' _ f hH)
        refine .inl ?_
        show (execOp a'.eval _).run _ _ = .ok (.value (.pointer (some ⟨bs, 0, none⟩))) _
        go_simp
      · obtain rfl := Option.some.inj ho
        have g0 := Reg.tmp_at (b0 a' _ f hH)
        refine .inl ?_
        show (execOp a'.eval _).run _ _ = .ok (.value (.pointer (some ⟨bs, 0, none⟩))) _
        go_simp
      · obtain rfl := Option.some.inj ho
        have g0 := Reg.tmp_at (b5 a' _ f hH)
        refine .inl ?_
        show (execOp a'.eval _).run _ _ = .ok (.value (.pointer (some ⟨w.heap.size, 4, none⟩))) _
        go_simp
      · obtain rfl := Option.some.inj ho
        have g0 : a'.tmps[62]?.getD undef = .pointer (some ⟨w.heap.size, 4, none⟩) := Reg.tmp_at (hH.got 2 62 (hdep { on := 2, ground := .data } (by simp) rfl) rfl)
        refine .inl ?_
        show (execOp a'.eval _).run _ _ = .ok (.value (.agg #[.int .i64 a.kind, .bool yn, .slice ya yl yc, .int .u64 yb, .string yt, .slice none 0 0])) _
        go_simp
      · obtain rfl := Option.some.inj ho
        exact absurd rfl hne
      · obtain rfl := Option.some.inj ho
        have g0 := Reg.tmp_at (b0 a' _ f hH)
        refine .inl ?_
        show (execOp a'.eval _).run _ _ = .ok (.value (.pointer (some ⟨bs, 0, none⟩))) _
        go_simp
      · obtain rfl := Option.some.inj ho
        have g0 : a'.tmps[65]?.getD undef = .pointer (some ⟨bs, 0, none⟩) := Reg.tmp_at (hH.got 5 65 (hdep { on := 5, ground := .data } (by simp) rfl) rfl)
        refine .inl ?_
        show (execOp a'.eval _).run _ _ = .ok (.value (.pointer (some ⟨bs, 0, none⟩))) _
        go_simp
      · obtain rfl := Option.some.inj ho
        have g0 : a'.tmps[66]?.getD undef = .pointer (some ⟨bs, 0, none⟩) := Reg.tmp_at (hH.got 6 66 (hdep { on := 6, ground := .data } (by simp) rfl) rfl)
        refine .inl ?_
        show (execOp a'.eval _).run _ _ = .ok (.value (.pointer (some ⟨bs, 1, none⟩))) _
        go_simp
      · obtain rfl := Option.some.inj ho
        have g0 : a'.tmps[67]?.getD undef = .pointer (some ⟨bs, 1, none⟩) := Reg.tmp_at (hH.got 7 67 (hdep { on := 7, ground := .data } (by simp) rfl) rfl)
        refine .inl ?_
        show (execOp a'.eval _).run _ _ = .ok (.value (.int .i64 i)) _
        go_simp
      · obtain rfl := Option.some.inj ho
        have g0 := Reg.tmp_at (b10 a' _ f hH)
        refine .inl ?_
        show (execOp a'.eval _).run _ _ = .ok (.value (.int .i64 S.length)) _
        go_simp
      · obtain rfl := Option.some.inj ho
        have h := (hdep { on := 4, ground := .chain } (by simp) rfl)
        rw [hfc] at h; cases h
      · obtain rfl := Option.some.inj ho
        have h := (hdep { on := 4, ground := .phase } (by simp) rfl)
        rw [hfc] at h; cases h
      · obtain rfl := Option.some.inj ho
        have h := (hdep { on := 4, ground := .phase } (by simp) rfl)
        rw [hfc] at h; cases h
      · obtain rfl := Option.some.inj ho
        have h := (hdep { on := 4, ground := .data } (by simp) rfl)
        rw [hfc] at h; cases h
      · obtain rfl := Option.some.inj ho
        have h := (hdep { on := 4, ground := .phase } (by simp) rfl)
        rw [hfc] at h; cases h
      · obtain rfl := Option.some.inj ho
        have h := (hdep { on := 4, ground := .phase } (by simp) rfl)
        rw [hfc] at h; cases h
      · obtain rfl := Option.some.inj ho
        have h := (hdep { on := 4, ground := .phase } (by simp) rfl)
        rw [hfc] at h; cases h
    case hcall =>
      intro f a' o ho hfc hcl hdep hH
      obtain rfl := Option.some.inj ho
      have g0 : a'.tmps[63]?.getD undef = .agg #[.int .i64 a.kind, .bool yn, .slice ya yl yc, .int .u64 yb, .string yt, .slice none 0 0] := Reg.tmp_at (hH.got 3 63 (hdep { on := 3, ground := .data } (by simp) rfl) rfl)
      have n13 : f 13 = false := by
        cases h : f 13 with
        | false => rfl
        | true =>
          have h2 := (hcl 13 _ rfl h { on := 4, ground := .data } (by simp) rfl)
          rw [hfc] at h2; cases h2
      have n16 : f 16 = false := by
        cases h : f 16 with
        | false => rfl
        | true =>
          have h2 := (hcl 16 _ rfl h { on := 4, ground := .phase } (by simp) rfl)
          rw [hfc] at h2; cases h2
      refine ⟨29, #[.agg #[.int .i64 a.kind, .bool yn, .slice ya yl yc, .int .u64 yb, .string yt, .slice none 0 0], .int .i64 2], ?_, ?_⟩
      · go_simp
      · have hsame : ∀ θ : World × Bool × Option Addr × Nat × Nat × Int × ByteArray, ∀ oj, f oj = true → Reg.valOf [.pointer (some ⟨bs, 0, none⟩), .pointer (some ⟨bs, 0, none⟩), .pointer (some ⟨w.heap.size, 4, none⟩), .agg #[.int .i64 a.kind, .bool yn, .slice ya yl yc, .int .u64 yb, .string yt, .slice none 0 0], undef, .pointer (some ⟨bs, 0, none⟩), .pointer (some ⟨bs, 0, none⟩), .pointer (some ⟨bs, 1, none⟩), .int .i64 i, .int .i64 S.length, undef, undef, undef, undef, undef, undef, undef] oj = Reg.valOf [.pointer (some ⟨bs, 0, none⟩), .pointer (some ⟨bs, 0, none⟩), .pointer (some ⟨w.heap.size, 4, none⟩), .agg #[.int .i64 a.kind, .bool yn, .slice ya yl yc, .int .u64 yb, .string yt, .slice none 0 0], .agg #[.int .i64 a.kind, .bool θ.2.1, .slice θ.2.2.1 θ.2.2.2.1 θ.2.2.2.2.1, .int .u64 θ.2.2.2.2.2.1, .string θ.2.2.2.2.2.2, .slice none 0 0], .pointer (some ⟨bs, 0, none⟩), .pointer (some ⟨bs, 0, none⟩), .pointer (some ⟨bs, 1, none⟩), .int .i64 i, .int .i64 S.length, .int .i64 (q : Int), .pointer (some ⟨bs, 0, none⟩), .pointer (some ⟨bs, 4, none⟩), undef, .pointer (some ⟨bs, 0, none⟩), .pointer (some ⟨bs, 1, none⟩), undef] oj := by
          intro θ oj hj
          by_cases hjn : oj < 17
          · have hcs : oj = 0 ∨ oj = 1 ∨ oj = 2 ∨ oj = 3 ∨ oj = 4 ∨ oj = 5 ∨ oj = 6 ∨ oj = 7 ∨ oj = 8 ∨ oj = 9 ∨ oj = 10 ∨ oj = 11 ∨ oj = 12 ∨ oj = 13 ∨ oj = 14 ∨ oj = 15 ∨ oj = 16 := by omega
            rcases hcs with rfl | rfl | rfl | rfl | rfl | rfl | rfl | rfl | rfl | rfl | rfl | rfl | rfl | rfl | rfl | rfl | rfl
            · rfl
            · rfl
            · rfl
            · rfl
            · rw [hfc] at hj; cases hj
            · rfl
            · rfl
            · rfl
            · rfl
            · rfl
            · have h2 := (hcl 10 _ rfl hj { on := 4, ground := .chain } (by simp) rfl)
              rw [hfc] at h2; cases h2
            · have h2 := (hcl 11 _ rfl hj { on := 4, ground := .phase } (by simp) rfl)
              rw [hfc] at h2; cases h2
            · have h2 := (hcl 12 _ rfl hj { on := 4, ground := .phase } (by simp) rfl)
              rw [hfc] at h2; cases h2
            · have h2 := (hcl 13 _ rfl hj { on := 4, ground := .data } (by simp) rfl)
              rw [hfc] at h2; cases h2
            · have h2 := (hcl 14 _ rfl hj { on := 4, ground := .phase } (by simp) rfl)
              rw [hfc] at h2; cases h2
            · have h2 := (hcl 15 _ rfl hj { on := 4, ground := .phase } (by simp) rfl)
              rw [hfc] at h2; cases h2
            · have h2 := (hcl 16 _ rfl hj { on := 4, ground := .phase } (by simp) rfl)
              rw [hfc] at h2; cases h2
          · unfold Reg.valOf
            rw [List.getD_eq_getElem?_getD, List.getD_eq_getElem?_getD, List.getElem?_eq_none (by show 17 ≤ oj; omega), List.getElem?_eq_none (by show 17 ≤ oj; omega)]
        clear hQ
        refine hcl2.out.mono ?_
        rintro e w'' ⟨⟨y2, rfl, hy2⟩, hb⟩
        obtain ⟨un, ua, ul, uc, ub, ut, rfl⟩ := hy2.form
        refine ⟨⟨w'', un, ua, ul, uc, ub, ut⟩, ⟨hy2, hb⟩, rfl, hsame ⟨w'', un, ua, ul, uc, ub, ut⟩, ?_⟩
        simp [Reg.wstL, n13]
    case hpost =>
      clear hQ
      rintro ⟨w2, un, ua, ul, uc, ub, ut⟩ ⟨hy2, hb⟩
      have hb2 := hbd'.out.drew.later hb
      have r1 := hold1 hb2.s
      have rl := hb2.s.lt
      have rf1 := hb2.s.free 1
      have rf4 := hb2.s.free 4
      have rf5 := hb2.s.free 5
      have rf6 := hb2.s.free 6
      have rf7 := hb2.s.free 7
      have rf8 := hb2.s.free 8
      have rf9 := hb2.s.free 9
      have r4 : w2.cell? ⟨bs, 4, none⟩ = _ := hb2.s.cell 4
      have r5 : w2.cell? ⟨bs, 5, none⟩ = _ := hb2.s.cell 5
      have r6 : w2.cell? ⟨bs, 6, none⟩ = _ := hb2.s.cell 6
      have r7 : w2.cell? ⟨bs, 7, none⟩ = _ := hb2.s.cell 7
      have r8 : w2.cell? ⟨bs, 8, none⟩ = _ := hb2.s.cell 8
      have r9 : w2.cell? ⟨bs, 9, none⟩ = _ := hb2.s.cell 9
      simp [stepCs, nil6] at r4 r5 r6 r7 r8 r9
      clear hb2 hy2 hb
      intro f a' oi o hi hne ho hun hfc hcl hdep hH
      have hcs : oi = 0 ∨ oi = 1 ∨ oi = 2 ∨ oi = 3 ∨ oi = 4 ∨ oi = 5 ∨ oi = 6 ∨ oi = 7 ∨ oi = 8 ∨ oi = 9 ∨ oi = 10 ∨ oi = 11 ∨ oi = 12 ∨ oi = 13 ∨ oi = 14 ∨ oi = 15 ∨ oi = 16 := by omega
      rcases hcs with rfl | rfl | rfl | rfl | rfl | rfl | rfl | rfl | rfl | rfl | rfl | rfl | rfl | rfl | rfl | rfl | rfl
      · obtain rfl := Option.some.inj ho
        have g0 := Reg.tmp_at (b0 a' _ f hH)
        refine .inl ⟨.value (.pointer (some ⟨bs, 0, none⟩)), ?_, .inl rfl⟩
        rw [Reg.wstL_no f 0 (by simp)]
        generalize Reg.wstL _ _ f = Wx
        go_simp
      · obtain rfl := Option.some.inj ho
        have g0 := Reg.tmp_at (b0 a' _ f hH)
        refine .inl ⟨.value (.pointer (some ⟨bs, 0, none⟩)), ?_, .inl rfl⟩
        rw [Reg.wstL_no f 1 (by simp)]
        generalize Reg.wstL _ _ f = Wx
        go_simp
      · obtain rfl := Option.some.inj ho
        have h := (hcl 3 _ rfl (hcl 4 _ rfl hfc { on := 3, ground := .data } (by simp) rfl) { on := 2, ground := .data } (by simp) rfl)
        rw [hun] at h; cases h
      · obtain rfl := Option.some.inj ho
        have h := (hcl 4 _ rfl hfc { on := 3, ground := .data } (by simp) rfl)
        rw [hun] at h; cases h
      · obtain rfl := Option.some.inj ho
        exact absurd rfl hne
      · obtain rfl := Option.some.inj ho
        have g0 := Reg.tmp_at (b0 a' _ f hH)
        refine .inl ⟨.value (.pointer (some ⟨bs, 0, none⟩)), ?_, .inl rfl⟩
        rw [Reg.wstL_no f 5 (by simp)]
        generalize Reg.wstL _ _ f = Wx
        go_simp
      · obtain rfl := Option.some.inj ho
        have g0 : a'.tmps[65]?.getD undef = .pointer (some ⟨bs, 0, none⟩) := Reg.tmp_at (hH.got 5 65 (hdep { on := 5, ground := .data } (by simp) rfl) rfl)
        refine .inl ⟨.value (.pointer (some ⟨bs, 0, none⟩)), ?_, .inl rfl⟩
        rw [Reg.wstL_no f 6 (by simp)]
        generalize Reg.wstL _ _ f = Wx
        go_simp
      · obtain rfl := Option.some.inj ho
        have g0 : a'.tmps[66]?.getD undef = .pointer (some ⟨bs, 0, none⟩) := Reg.tmp_at (hH.got 6 66 (hdep { on := 6, ground := .data } (by simp) rfl) rfl)
        refine .inl ⟨.value (.pointer (some ⟨bs, 1, none⟩)), ?_, .inl rfl⟩
        rw [Reg.wstL_no f 7 (by simp)]
        generalize Reg.wstL _ _ f = Wx
        go_simp
      · obtain rfl := Option.some.inj ho
        have g0 : a'.tmps[67]?.getD undef = .pointer (some ⟨bs, 1, none⟩) := Reg.tmp_at (hH.got 7 67 (hdep { on := 7, ground := .data } (by simp) rfl) rfl)
        have n13 : f 13 = false := by
          cases h : f 13 with
          | false => rfl
          | true =>
            have h2 := (hcl 13 _ rfl h { on := 8, ground := .phase } (by simp) rfl)
            rw [hun] at h2; cases h2
        refine .inl ⟨.value (.int .i64 i), ?_, .inl rfl⟩
        rw [Reg.wstL_no f 8 (by simp)]
        rw [show Reg.wstL [(13, ((((((w2.setCell ⟨bs, 4, none⟩ (.int .i64 a.kind)).setCell ⟨bs, 5, none⟩ (.bool un)).setCell ⟨bs, 6, none⟩ (.slice ua ul uc)).setCell ⟨bs, 7, none⟩ (.int .u64 ub)).setCell ⟨bs, 8, none⟩ (.string ut)).setCell ⟨bs, 9, none⟩ (.slice none 0 0))), (16, (((((((w2.setCell ⟨bs, 4, none⟩ (.int .i64 a.kind)).setCell ⟨bs, 5, none⟩ (.bool un)).setCell ⟨bs, 6, none⟩ (.slice ua ul uc)).setCell ⟨bs, 7, none⟩ (.int .u64 ub)).setCell ⟨bs, 8, none⟩ (.string ut)).setCell ⟨bs, 9, none⟩ (.slice none 0 0)).setCell ⟨bs, 1, none⟩ (.int .i64 (q : Int))))] (w2) f = w2 from by simp [Reg.wstL, n13]]
        go_simp
      · obtain rfl := Option.some.inj ho
        have g0 := Reg.tmp_at (b10 a' _ f hH)
        refine .inl ⟨.value (.int .i64 S.length), ?_, .inl rfl⟩
        rw [Reg.wstL_no f 9 (by simp)]
        generalize Reg.wstL _ _ f = Wx
        go_simp
      · obtain rfl := Option.some.inj ho
        have g0 : a'.tmps[68]?.getD undef = .int .i64 i := Reg.tmp_at (hH.got 8 68 (hdep { on := 8, ground := .data } (by simp) rfl) rfl)
        have g1 : a'.tmps[69]?.getD undef = .int .i64 S.length := Reg.tmp_at (hH.got 9 69 (hdep { on := 9, ground := .data } (by simp) rfl) rfl)
        refine .inr ⟨.inr ⟨57, #[.int .i64 i, .int .i64 S.length], ?_, ?_⟩, Reg.wstL_no f 10 (by simp)⟩
        · generalize Reg.wstL _ _ f = Wx
          go_simp
        · exact ht'.out _
      · obtain rfl := Option.some.inj ho
        have g0 : a'.tmps[60]?.getD undef = .pointer (some ⟨bs, 0, none⟩) := Reg.tmp_at (hH.got 0 60 (hdep { on := 0, ground := .data } (by simp) rfl) rfl)
        refine .inl ⟨.value (.pointer (some ⟨bs, 0, none⟩)), ?_, .inl rfl⟩
        rw [Reg.wstL_no f 11 (by simp)]
        generalize Reg.wstL _ _ f = Wx
        go_simp
      · obtain rfl := Option.some.inj ho
        have g0 : a'.tmps[71]?.getD undef = .pointer (some ⟨bs, 0, none⟩) := Reg.tmp_at (hH.got 11 71 (hdep { on := 11, ground := .data } (by simp) rfl) rfl)
        refine .inl ⟨.value (.pointer (some ⟨bs, 4, none⟩)), ?_, .inl rfl⟩
        rw [Reg.wstL_no f 12 (by simp)]
        generalize Reg.wstL _ _ f = Wx
        go_simp
      · obtain rfl := Option.some.inj ho
        have g0 : a'.tmps[72]?.getD undef = .pointer (some ⟨bs, 4, none⟩) := Reg.tmp_at (hH.got 12 72 (hdep { on := 12, ground := .data } (by simp) rfl) rfl)
        have g1 : a'.tmps[64]?.getD undef = .agg #[.int .i64 a.kind, .bool un, .slice ua ul uc, .int .u64 ub, .string ut, .slice none 0 0] := Reg.tmp_at (hH.got 4 64 (hdep { on := 4, ground := .data } (by simp) rfl) rfl)
        have n16 : f 16 = false := by
          cases h : f 16 with
          | false => rfl
          | true =>
            have h2 := (hcl 16 _ rfl h { on := 13, ground := .chain } (by simp) rfl)
            rw [hun] at h2; cases h2
        refine .inl ⟨.skip, ?_, .inr ⟨rfl, rfl⟩⟩
        rw [show Reg.wstL [(13, ((((((w2.setCell ⟨bs, 4, none⟩ (.int .i64 a.kind)).setCell ⟨bs, 5, none⟩ (.bool un)).setCell ⟨bs, 6, none⟩ (.slice ua ul uc)).setCell ⟨bs, 7, none⟩ (.int .u64 ub)).setCell ⟨bs, 8, none⟩ (.string ut)).setCell ⟨bs, 9, none⟩ (.slice none 0 0))), (16, (((((((w2.setCell ⟨bs, 4, none⟩ (.int .i64 a.kind)).setCell ⟨bs, 5, none⟩ (.bool un)).setCell ⟨bs, 6, none⟩ (.slice ua ul uc)).setCell ⟨bs, 7, none⟩ (.int .u64 ub)).setCell ⟨bs, 8, none⟩ (.string ut)).setCell ⟨bs, 9, none⟩ (.slice none 0 0)).setCell ⟨bs, 1, none⟩ (.int .i64 (q : Int))))] (w2) (fun k => decide (k = 13) || f k) = ((((((w2.setCell ⟨bs, 4, none⟩ (.int .i64 a.kind)).setCell ⟨bs, 5, none⟩ (.bool un)).setCell ⟨bs, 6, none⟩ (.slice ua ul uc)).setCell ⟨bs, 7, none⟩ (.int .u64 ub)).setCell ⟨bs, 8, none⟩ (.string ut)).setCell ⟨bs, 9, none⟩ (.slice none 0 0)) from by simp [Reg.wstL, n16], show Reg.wstL [(13, ((((((w2.setCell ⟨bs, 4, none⟩ (.int .i64 a.kind)).setCell ⟨bs, 5, none⟩ (.bool un)).setCell ⟨bs, 6, none⟩ (.slice ua ul uc)).setCell ⟨bs, 7, none⟩ (.int .u64 ub)).setCell ⟨bs, 8, none⟩ (.string ut)).setCell ⟨bs, 9, none⟩ (.slice none 0 0))), (16, (((((((w2.setCell ⟨bs, 4, none⟩ (.int .i64 a.kind)).setCell ⟨bs, 5, none⟩ (.bool un)).setCell ⟨bs, 6, none⟩ (.slice ua ul uc)).setCell ⟨bs, 7, none⟩ (.int .u64 ub)).setCell ⟨bs, 8, none⟩ (.string ut)).setCell ⟨bs, 9, none⟩ (.slice none 0 0)).setCell ⟨bs, 1, none⟩ (.int .i64 (q : Int))))] (w2) f = w2 from by simp [Reg.wstL, hun]]
        go_simp
      · obtain rfl := Option.some.inj ho
        have g0 : a'.tmps[61]?.getD undef = .pointer (some ⟨bs, 0, none⟩) := Reg.tmp_at (hH.got 1 61 (hdep { on := 1, ground := .data } (by simp) rfl) rfl)
        refine .inl ⟨.value (.pointer (some ⟨bs, 0, none⟩)), ?_, .inl rfl⟩
        rw [Reg.wstL_no f 14 (by simp)]
        generalize Reg.wstL _ _ f = Wx
        go_simp
      · obtain rfl := Option.some.inj ho
        have g0 : a'.tmps[73]?.getD undef = .pointer (some ⟨bs, 0, none⟩) := Reg.tmp_at (hH.got 14 73 (hdep { on := 14, ground := .data } (by simp) rfl) rfl)
        refine .inl ⟨.value (.pointer (some ⟨bs, 1, none⟩)), ?_, .inl rfl⟩
        rw [Reg.wstL_no f 15 (by simp)]
        generalize Reg.wstL _ _ f = Wx
        go_simp
      · obtain rfl := Option.some.inj ho
        have g0 : a'.tmps[74]?.getD undef = .pointer (some ⟨bs, 1, none⟩) := Reg.tmp_at (hH.got 15 74 (hdep { on := 15, ground := .data } (by simp) rfl) rfl)
        have g1 : a'.tmps[70]?.getD undef = .int .i64 (q : Int) := Reg.tmp_at (hH.got 10 70 (hdep { on := 10, ground := .data } (by simp) rfl) rfl)
        have d13 : f 13 = true := (hdep { on := 13, ground := .chain } (by simp) rfl)
        refine .inl ⟨.skip, ?_, .inr ⟨rfl, rfl⟩⟩
        rw [show Reg.wstL [(13, ((((((w2.setCell ⟨bs, 4, none⟩ (.int .i64 a.kind)).setCell ⟨bs, 5, none⟩ (.bool un)).setCell ⟨bs, 6, none⟩ (.slice ua ul uc)).setCell ⟨bs, 7, none⟩ (.int .u64 ub)).setCell ⟨bs, 8, none⟩ (.string ut)).setCell ⟨bs, 9, none⟩ (.slice none 0 0))), (16, (((((((w2.setCell ⟨bs, 4, none⟩ (.int .i64 a.kind)).setCell ⟨bs, 5, none⟩ (.bool un)).setCell ⟨bs, 6, none⟩ (.slice ua ul uc)).setCell ⟨bs, 7, none⟩ (.int .u64 ub)).setCell ⟨bs, 8, none⟩ (.string ut)).setCell ⟨bs, 9, none⟩ (.slice none 0 0)).setCell ⟨bs, 1, none⟩ (.int .i64 (q : Int))))] (w2) (fun k => decide (k = 16) || f k) = (((((((w2.setCell ⟨bs, 4, none⟩ (.int .i64 a.kind)).setCell ⟨bs, 5, none⟩ (.bool un)).setCell ⟨bs, 6, none⟩ (.slice ua ul uc)).setCell ⟨bs, 7, none⟩ (.int .u64 ub)).setCell ⟨bs, 8, none⟩ (.string ut)).setCell ⟨bs, 9, none⟩ (.slice none 0 0)).setCell ⟨bs, 1, none⟩ (.int .i64 (q : Int))) from by simp [Reg.wstL, d13], show Reg.wstL [(13, ((((((w2.setCell ⟨bs, 4, none⟩ (.int .i64 a.kind)).setCell ⟨bs, 5, none⟩ (.bool un)).setCell ⟨bs, 6, none⟩ (.slice ua ul uc)).setCell ⟨bs, 7, none⟩ (.int .u64 ub)).setCell ⟨bs, 8, none⟩ (.string ut)).setCell ⟨bs, 9, none⟩ (.slice none 0 0))), (16, (((((((w2.setCell ⟨bs, 4, none⟩ (.int .i64 a.kind)).setCell ⟨bs, 5, none⟩ (.bool un)).setCell ⟨bs, 6, none⟩ (.slice ua ul uc)).setCell ⟨bs, 7, none⟩ (.int .u64 ub)).setCell ⟨bs, 8, none⟩ (.string ut)).setCell ⟨bs, 9, none⟩ (.slice none 0 0)).setCell ⟨bs, 1, none⟩ (.int .i64 (q : Int))))] (w2) f = ((((((w2.setCell ⟨bs, 4, none⟩ (.int .i64 a.kind)).setCell ⟨bs, 5, none⟩ (.bool un)).setCell ⟨bs, 6, none⟩ (.slice ua ul uc)).setCell ⟨bs, 7, none⟩ (.int .u64 ub)).setCell ⟨bs, 8, none⟩ (.string ut)).setCell ⟨bs, 9, none⟩ (.slice none 0 0)) from by simp [Reg.wstL, hun, d13]]
        go_simp
  case h2 =>
    rintro ⟨w2, un, ua, ul, uc, ub, ut⟩ ⟨hy2, hb⟩
    simp only at hy2 hb
    simp only [Reg.fill, Reg.dstOf, Reg.valOf, List.getD_cons_zero, List.getD_cons_succ, Act.put]
    simp [List.setIfInBounds_toArray, List.set_cons_succ, List.set_cons_zero]
    have hb2 : Bd w w2 B bl bs _ _ S _ _ _ := hbd'.out.drew.later hb
    clear hb s1 s2 s3 sl sf0 sf1 sf2 sf3 w4 w5 w6 w7 w8 w9 wl hcl2
    have hs0 : Bd w (w2.setCell ⟨bs, 4, none⟩ (.int .i64 a.kind)) B bl bs _ _ S #[.int .i64 1, .int .i64 i, .int .i64 j, .int .i64 m, .int .i64 a.kind, .bool false, .slice none 0 0, .int .u64 0, .string ⟨#[]⟩, .slice none 0 0, .int .i64 0, .bool false, .slice none 0 0, .int .u64 0, .string ⟨#[]⟩, .slice none 0 0, .slice none 0 0] _ _ := hb2.step_put 4 _
    have ht0 : Kept w2 (w2.setCell ⟨bs, 4, none⟩ (.int .i64 a.kind)) := hb2.step_kept 4 _
    have hs1 : Bd w ((w2.setCell ⟨bs, 4, none⟩ (.int .i64 a.kind)).setCell ⟨bs, 5, none⟩ (.bool un)) B bl bs _ _ S #[.int .i64 1, .int .i64 i, .int .i64 j, .int .i64 m, .int .i64 a.kind, .bool un, .slice none 0 0, .int .u64 0, .string ⟨#[]⟩, .slice none 0 0, .int .i64 0, .bool false, .slice none 0 0, .int .u64 0, .string ⟨#[]⟩, .slice none 0 0, .slice none 0 0] _ _ := hs0.step_put 5 _
    have ht1 : Kept (w2.setCell ⟨bs, 4, none⟩ (.int .i64 a.kind)) ((w2.setCell ⟨bs, 4, none⟩ (.int .i64 a.kind)).setCell ⟨bs, 5, none⟩ (.bool un)) := hs0.step_kept 5 _
    have hs2 : Bd w (((w2.setCell ⟨bs, 4, none⟩ (.int .i64 a.kind)).setCell ⟨bs, 5, none⟩ (.bool un)).setCell ⟨bs, 6, none⟩ (.slice ua ul uc)) B bl bs _ _ S #[.int .i64 1, .int .i64 i, .int .i64 j, .int .i64 m, .int .i64 a.kind, .bool un, .slice ua ul uc, .int .u64 0, .string ⟨#[]⟩, .slice none 0 0, .int .i64 0, .bool false, .slice none 0 0, .int .u64 0, .string ⟨#[]⟩, .slice none 0 0, .slice none 0 0] _ _ := hs1.step_put 6 _
    have ht2 : Kept ((w2.setCell ⟨bs, 4, none⟩ (.int .i64 a.kind)).setCell ⟨bs, 5, none⟩ (.bool un)) (((w2.setCell ⟨bs, 4, none⟩ (.int .i64 a.kind)).setCell ⟨bs, 5, none⟩ (.bool un)).setCell ⟨bs, 6, none⟩ (.slice ua ul uc)) := hs1.step_kept 6 _
    have hs3 : Bd w ((((w2.setCell ⟨bs, 4, none⟩ (.int .i64 a.kind)).setCell ⟨bs, 5, none⟩ (.bool un)).setCell ⟨bs, 6, none⟩ (.slice ua ul uc)).setCell ⟨bs, 7, none⟩ (.int .u64 ub)) B bl bs _ _ S #[.int .i64 1, .int .i64 i, .int .i64 j, .int .i64 m, .int .i64 a.kind, .bool un, .slice ua ul uc, .int .u64 ub, .string ⟨#[]⟩, .slice none 0 0, .int .i64 0, .bool false, .slice none 0 0, .int .u64 0, .string ⟨#[]⟩, .slice none 0 0, .slice none 0 0] _ _ := hs2.step_put 7 _
    have ht3 : Kept (((w2.setCell ⟨bs, 4, none⟩ (.int .i64 a.kind)).setCell ⟨bs, 5, none⟩ (.bool un)).setCell ⟨bs, 6, none⟩ (.slice ua ul uc)) ((((w2.setCell ⟨bs, 4, none⟩ (.int .i64 a.kind)).setCell ⟨bs, 5, none⟩ (.bool un)).setCell ⟨bs, 6, none⟩ (.slice ua ul uc)).setCell ⟨bs, 7, none⟩ (.int .u64 ub)) := hs2.step_kept 7 _
    have hs4 : Bd w (((((w2.setCell ⟨bs, 4, none⟩ (.int .i64 a.kind)).setCell ⟨bs, 5, none⟩ (.bool un)).setCell ⟨bs, 6, none⟩ (.slice ua ul uc)).setCell ⟨bs, 7, none⟩ (.int .u64 ub)).setCell ⟨bs, 8, none⟩ (.string ut)) B bl bs _ _ S #[.int .i64 1, .int .i64 i, .int .i64 j, .int .i64 m, .int .i64 a.kind, .bool un, .slice ua ul uc, .int .u64 ub, .string ut, .slice none 0 0, .int .i64 0, .bool false, .slice none 0 0, .int .u64 0, .string ⟨#[]⟩, .slice none 0 0, .slice none 0 0] _ _ := hs3.step_put 8 _
    have ht4 : Kept ((((w2.setCell ⟨bs, 4, none⟩ (.int .i64 a.kind)).setCell ⟨bs, 5, none⟩ (.bool un)).setCell ⟨bs, 6, none⟩ (.slice ua ul uc)).setCell ⟨bs, 7, none⟩ (.int .u64 ub)) (((((w2.setCell ⟨bs, 4, none⟩ (.int .i64 a.kind)).setCell ⟨bs, 5, none⟩ (.bool un)).setCell ⟨bs, 6, none⟩ (.slice ua ul uc)).setCell ⟨bs, 7, none⟩ (.int .u64 ub)).setCell ⟨bs, 8, none⟩ (.string ut)) := hs3.step_kept 8 _
    have hs5 : Bd w ((((((w2.setCell ⟨bs, 4, none⟩ (.int .i64 a.kind)).setCell ⟨bs, 5, none⟩ (.bool un)).setCell ⟨bs, 6, none⟩ (.slice ua ul uc)).setCell ⟨bs, 7, none⟩ (.int .u64 ub)).setCell ⟨bs, 8, none⟩ (.string ut)).setCell ⟨bs, 9, none⟩ (.slice none 0 0)) B bl bs _ _ S #[.int .i64 1, .int .i64 i, .int .i64 j, .int .i64 m, .int .i64 a.kind, .bool un, .slice ua ul uc, .int .u64 ub, .string ut, .slice none 0 0, .int .i64 0, .bool false, .slice none 0 0, .int .u64 0, .string ⟨#[]⟩, .slice none 0 0, .slice none 0 0] _ _ := hs4.step_put 9 _
    have ht5 : Kept (((((w2.setCell ⟨bs, 4, none⟩ (.int .i64 a.kind)).setCell ⟨bs, 5, none⟩ (.bool un)).setCell ⟨bs, 6, none⟩ (.slice ua ul uc)).setCell ⟨bs, 7, none⟩ (.int .u64 ub)).setCell ⟨bs, 8, none⟩ (.string ut)) ((((((w2.setCell ⟨bs, 4, none⟩ (.int .i64 a.kind)).setCell ⟨bs, 5, none⟩ (.bool un)).setCell ⟨bs, 6, none⟩ (.slice ua ul uc)).setCell ⟨bs, 7, none⟩ (.int .u64 ub)).setCell ⟨bs, 8, none⟩ (.string ut)).setCell ⟨bs, 9, none⟩ (.slice none 0 0)) := hs4.step_kept 9 _
    have htk : Kept w2 ((((((w2.setCell ⟨bs, 4, none⟩ (.int .i64 a.kind)).setCell ⟨bs, 5, none⟩ (.bool un)).setCell ⟨bs, 6, none⟩ (.slice ua ul uc)).setCell ⟨bs, 7, none⟩ (.int .u64 ub)).setCell ⟨bs, 8, none⟩ (.string ut)).setCell ⟨bs, 9, none⟩ (.slice none 0 0)) := ((((ht0.trans ht1).trans ht2).trans ht3).trans ht4).trans ht5
    have hb3 : Bd w _ B bl bs _ _ S (stepCs 1 q j m ⟨.int .i64 a.kind, .bool un, .slice ua ul uc, .int .u64 ub, .string ut, .slice none 0 0⟩) _ _ := hs5.step_put 1 (.int .i64 (q : Int))
    have hy3 := (hy2.kept htk).kept (hs5.step_kept 1 (.int .i64 (q : Int)))
    obtain ⟨W3, hW3⟩ : ∃ W3, ((((((w2.setCell ⟨bs, 4, none⟩ (.int .i64 a.kind)).setCell ⟨bs, 5, none⟩ (.bool un)).setCell ⟨bs, 6, none⟩ (.slice ua ul uc)).setCell ⟨bs, 7, none⟩ (.int .u64 ub)).setCell ⟨bs, 8, none⟩ (.string ut)).setCell ⟨bs, 9, none⟩ (.slice none 0 0)).setCell ⟨bs, 1, none⟩ (.int .i64 (q : Int)) = W3 := ⟨_, rfl⟩
    rw [hW3] at hb3 hy3 ⊢
    clear hs0 hs1 hs2 hs3 hs4 hs5 ht0 ht1 ht2 ht3 ht4 ht5 htk hb2 hy2 hbd' hW3
    have hb4 : Bd w _ B bl bs _ _ S _ _ #[.bool false, .bool false, .int .i64 0, .int .i64 0, .bool false, .slice none 0 0, .int .u64 0, .string ⟨#[]⟩, .slice none 0 0, .slice none 0 0] := hb3.out_put 0 (.bool false)
    have hy4 := hy3.kept (hb3.out_kept 0 (.bool false))
    obtain ⟨hres, hout, hae, hfi⟩ := hb4.end_ (S0 := S) (p := .set q a) (a := a) (ys := ⟨.int .i64 a.kind, .bool un, .slice ua ul uc, .int .u64 ub, .string ut, .slice none 0 0⟩) (y := nil6) (ok := false) (is_ := false) (n := 0) (k := 1) (i := q) (j := j) (m := m) ⟨rfl, rfl, rfl⟩ hy4 (nil6_av _ _)
    obtain ⟨r0, r1, r2, r3, r4, r5, r6, r7, r8, r9, rl, q0, q1, q2, q3, q4, q5, q6, q7, q8, q9⟩ := ans_facts hres
    obtain ⟨o03, o13, o23, o33, o43, o53, o63, o73, o83, o93, ol3, of03, of13, of23, of33, of43, of53, of63, of73, of83, of93⟩ := ans_facts (hb3).out
    clear hb3 hy3 hb4 hy4 hres ht'
    unfold ansCs nil6 at hout
    dsimp only at hout
    go_upto_region 32 with fail
    go_wp2_with (refine wpList_load_row rfl 64 _ rfl (w.heap.size + 2) rfl 64 _ (0, 0) _ hout.out Tryz.underlying64 rfl (by kernel_rfl) ?_)
    exact bodyPost_ret (v := .agg (ansCs false false 0 nil6)) (results_cell_row rfl _ _ (w.heap.size + 1) 64 _ (0, 0) _ rfl hae.out rfl rfl rfl) rfl ⟨q, hq, hfi.out⟩
end Go.Proofs.YtafbheamnjmfoaaGreat.Ls
