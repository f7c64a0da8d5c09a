/-
  The reference's step over a list: append.
-/
import Derived.Test.YtafbheamnjmfoaaGreatLsTurnA
import Derived.Test.YtafbheamnjmfoaaGreatScClean2
namespace Go.Proofs.YtafbheamnjmfoaaGreat.Ls
open Go.RowKit Go.WideShapes Go.Proofs.YtafbheamnjmfoaaGreat.Sc Go.Proofs.YtafbheamnjmfoaaGreat.VRow
set_option linter.unusedVariables false

set_option maxHeartbeats 2000000 in
set_option maxRecDepth 100000 in
theorem turn_append_no (B bl bs : Nat) (i : Int) (j m : Int) (y z : V6) (a b : Sc) (k0 i0 j0 m0 : Int) (v : Value) (S : List Sc) (w : World) (h : Rl w B bl v S) (hs : Box.Holds w bs 62 (stepCs 0 i j m nil6)) (hy : IsSc w y a) (hz : IsSc w z b) (ha : a.ok) (hBs : B ≤ bs) (hl : S.length ≤ 400) :
    Calls Tryz.prog 31 #[.pointer (some ⟨bs, 0, none⟩), .agg (rawCs k0 i0 j0 m0 y z), .pointer (some ⟨bl, 0, none⟩), .bool true] w (Stepped w B bl bs v.ownBlock S S (.append a) .no) := by
  obtain ⟨yn, ya, yl, yc, yb, yt, rfl⟩ := hy.form
  obtain ⟨zn, za, zl, zc, zb, zt, rfl⟩ := hz.form
  have h3 := three w (rawCs k0 i0 j0 m0 ⟨.int .i64 a.kind, .bool yn, .slice ya yl yc, .int .u64 yb, .string yt, .slice none 0 0⟩ ⟨.int .i64 b.kind, .bool zn, .slice za zl zc, .int .u64 zb, .string zt, .slice none 0 0⟩)
  obtain ⟨W, hW⟩ : ∃ W, ((w.alloc (.cells (rawCs k0 i0 j0 m0 ⟨.int .i64 a.kind, .bool yn, .slice ya yl yc, .int .u64 yb, .string yt, .slice none 0 0⟩ ⟨.int .i64 b.kind, .bool zn, .slice za zl zc, .int .u64 zb, .string zt, .slice none 0 0⟩) 62)).alloc (.cells #[.bool false, .bool false, .int .i64 0, .int .i64 0, .bool false, .slice none 0 0, .int .u64 0, .string ⟨#[]⟩, .slice none 0 0, .slice none 0 0] 64)).alloc (.cells #[.bool true, .bool false, .int .i64 0, .int .i64 0, .bool false, .slice none 0 0, .int .u64 0, .string ⟨#[]⟩, .slice none 0 0, .slice none 0 0] 64) = W := ⟨_, rfl⟩
  rw [hW] at h3
  have hB : B ≤ w.heap.size := Nat.le_trans h.ge (Nat.le_of_lt h.hold.lt)
  have hl1 := h.later h3.below
  have hs1 := hs.later h3.below
  have hy1 := hy.kept (Kept.of_below h3.below)
  have hbw := h.hold.lt
  have hsw := hs.lt
  have hvw : ∀ b, v.ownBlock = some b → b < w.heap.size := fun b hb => by obtain ⟨L, hL, _⟩ := h.row; exact (World.ownsRow.lt hL b hb).2
  have hls : bl ≠ bs := holds_ne h.hold hs (by decide)
  obtain ⟨A0, c0, rfl⟩ := h.row.shape
  have s0 := hold0 hs1
  have s1 := hold1 hs1
  have s2 := holdB hs1
  have s3 := holdC hs1
  have sl := hs1.lt
  have sf0 := hs1.free 0
  have sf1 := hs1.free 1
  have sf2 := hs1.free 2
  have sf3 := hs1.free 3
  have l0 := hold0 hl1.hold
  have ll := hl1.hold.lt
  have lf := hl1.hold.free 0
  have hfW : Fr B (SS bs (Value.slice A0 S.length c0).ownBlock) w W := Fr.of_below h3.below hB
  obtain ⟨o0, o1, o2, o3, o4, o5, o6, o7, o8, o9, ol, of0, of1, of2, of3, of4, of5, of6, of7, of8, of9⟩ := ans_facts h3.out
  have hno1 : bs ≠ w.heap.size + 2 := by omega
  have hno2 : bl ≠ w.heap.size + 2 := by omega
  have hno3 : bs ≠ w.heap.size + 1 := by omega
  have hno4 : bl ≠ w.heap.size + 1 := by omega
  have hbd : Bd w W B bl bs (Value.slice A0 S.length c0).ownBlock (.slice A0 S.length c0) S _ _ _ := ⟨hl1, hs1, h3.res, h3.raw, h3.out, hfW, fun b hb => .inl hb, hsw, hB, hBs⟩
  have hbd' := Lib.hid hbd
  have hy1' := Lib.hid hy1
  clear h h3 hs hl1 hs1 hy hz hfW hvw hbd hy1
  have hcl := Lib.hid fun W h => clean2_any ⟨.int .i64 a.kind, .bool yn, .slice ya yl yc, .int .u64 yb, .string yt, .slice none 0 0⟩ a W ha h
  have hW' := Lib.hid hW
  clear hW
  unfold rawCs at hW'
  dsimp only at hW'
  unfold rawCs
  dsimp only
  go_enter Tryz.func31, Tryz.ntmps31
  go_upto_region 2 with fail
  rw [hW'.out]
  clear hW'
  have hraw := hbd'.out.raw
  unfold rawCs at hraw
  dsimp only at hraw
  have w4 : W.cell? ⟨w.heap.size, 4, none⟩ = _ := hraw.cell 4
  have w5 : W.cell? ⟨w.heap.size, 5, none⟩ = _ := hraw.cell 5
  have w6 : W.cell? ⟨w.heap.size, 6, none⟩ = _ := hraw.cell 6
  have w7 : W.cell? ⟨w.heap.size, 7, none⟩ = _ := hraw.cell 7
  have w8 : W.cell? ⟨w.heap.size, 8, none⟩ = _ := hraw.cell 8
  have w9 : W.cell? ⟨w.heap.size, 9, none⟩ = _ := hraw.cell 9
  simp at w4 w5 w6 w7 w8 w9
  have wl := hraw.lt
  have hcl2 := Lib.hid (hcl.out W hy1'.out)
  unfold V6.arr at hcl2
  clear hraw hcl hy1'
  go_wp2_with fail
  refine hcl2.out.mono ?_
  rintro e w2 ⟨⟨y2, rfl, hy2⟩, hb⟩
  obtain ⟨un, ua, ul, uc, ub, ut, rfl⟩ := hy2.form
  have hb2 : Bd w w2 B bl bs _ _ S _ _ _ := hbd'.out.later hb
  clear w4 w5 w6 w7 w8 w9 wl hcl2 hbd' hb
  clear s0 s1 s2 s3 sl sf0 sf1 sf2 sf3 l0 ll lf o0 o1 o2 o3 o4 o5 o6 o7 o8 o9 ol of0 of1 of2 of3 of4 of5 of6 of7 of8 of9
  have hs0 : Bd w (w2.setCell ⟨bs, 4, none⟩ (.int .i64 a.kind)) B bl bs _ _ S #[.int .i64 0, .int .i64 i, .int .i64 j, .int .i64 m, .int .i64 a.kind, .bool false, .slice none 0 0, .int .u64 0, .string ⟨#[]⟩, .slice none 0 0, .int .i64 0, .bool false, .slice none 0 0, .int .u64 0, .string ⟨#[]⟩, .slice none 0 0, .slice none 0 0] _ _ := hb2.step_put 4 _
  have ht0 : Kept w2 (w2.setCell ⟨bs, 4, none⟩ (.int .i64 a.kind)) := hb2.step_kept 4 _
  have hs1 : Bd w ((w2.setCell ⟨bs, 4, none⟩ (.int .i64 a.kind)).setCell ⟨bs, 5, none⟩ (.bool un)) B bl bs _ _ S #[.int .i64 0, .int .i64 i, .int .i64 j, .int .i64 m, .int .i64 a.kind, .bool un, .slice none 0 0, .int .u64 0, .string ⟨#[]⟩, .slice none 0 0, .int .i64 0, .bool false, .slice none 0 0, .int .u64 0, .string ⟨#[]⟩, .slice none 0 0, .slice none 0 0] _ _ := hs0.step_put 5 _
  have ht1 : Kept (w2.setCell ⟨bs, 4, none⟩ (.int .i64 a.kind)) ((w2.setCell ⟨bs, 4, none⟩ (.int .i64 a.kind)).setCell ⟨bs, 5, none⟩ (.bool un)) := hs0.step_kept 5 _
  have hs2 : Bd w (((w2.setCell ⟨bs, 4, none⟩ (.int .i64 a.kind)).setCell ⟨bs, 5, none⟩ (.bool un)).setCell ⟨bs, 6, none⟩ (.slice ua ul uc)) B bl bs _ _ S #[.int .i64 0, .int .i64 i, .int .i64 j, .int .i64 m, .int .i64 a.kind, .bool un, .slice ua ul uc, .int .u64 0, .string ⟨#[]⟩, .slice none 0 0, .int .i64 0, .bool false, .slice none 0 0, .int .u64 0, .string ⟨#[]⟩, .slice none 0 0, .slice none 0 0] _ _ := hs1.step_put 6 _
  have ht2 : Kept ((w2.setCell ⟨bs, 4, none⟩ (.int .i64 a.kind)).setCell ⟨bs, 5, none⟩ (.bool un)) (((w2.setCell ⟨bs, 4, none⟩ (.int .i64 a.kind)).setCell ⟨bs, 5, none⟩ (.bool un)).setCell ⟨bs, 6, none⟩ (.slice ua ul uc)) := hs1.step_kept 6 _
  have hs3 : Bd w ((((w2.setCell ⟨bs, 4, none⟩ (.int .i64 a.kind)).setCell ⟨bs, 5, none⟩ (.bool un)).setCell ⟨bs, 6, none⟩ (.slice ua ul uc)).setCell ⟨bs, 7, none⟩ (.int .u64 ub)) B bl bs _ _ S #[.int .i64 0, .int .i64 i, .int .i64 j, .int .i64 m, .int .i64 a.kind, .bool un, .slice ua ul uc, .int .u64 ub, .string ⟨#[]⟩, .slice none 0 0, .int .i64 0, .bool false, .slice none 0 0, .int .u64 0, .string ⟨#[]⟩, .slice none 0 0, .slice none 0 0] _ _ := hs2.step_put 7 _
  have ht3 : Kept (((w2.setCell ⟨bs, 4, none⟩ (.int .i64 a.kind)).setCell ⟨bs, 5, none⟩ (.bool un)).setCell ⟨bs, 6, none⟩ (.slice ua ul uc)) ((((w2.setCell ⟨bs, 4, none⟩ (.int .i64 a.kind)).setCell ⟨bs, 5, none⟩ (.bool un)).setCell ⟨bs, 6, none⟩ (.slice ua ul uc)).setCell ⟨bs, 7, none⟩ (.int .u64 ub)) := hs2.step_kept 7 _
  have hs4 : Bd w (((((w2.setCell ⟨bs, 4, none⟩ (.int .i64 a.kind)).setCell ⟨bs, 5, none⟩ (.bool un)).setCell ⟨bs, 6, none⟩ (.slice ua ul uc)).setCell ⟨bs, 7, none⟩ (.int .u64 ub)).setCell ⟨bs, 8, none⟩ (.string ut)) B bl bs _ _ S #[.int .i64 0, .int .i64 i, .int .i64 j, .int .i64 m, .int .i64 a.kind, .bool un, .slice ua ul uc, .int .u64 ub, .string ut, .slice none 0 0, .int .i64 0, .bool false, .slice none 0 0, .int .u64 0, .string ⟨#[]⟩, .slice none 0 0, .slice none 0 0] _ _ := hs3.step_put 8 _
  have ht4 : Kept ((((w2.setCell ⟨bs, 4, none⟩ (.int .i64 a.kind)).setCell ⟨bs, 5, none⟩ (.bool un)).setCell ⟨bs, 6, none⟩ (.slice ua ul uc)).setCell ⟨bs, 7, none⟩ (.int .u64 ub)) (((((w2.setCell ⟨bs, 4, none⟩ (.int .i64 a.kind)).setCell ⟨bs, 5, none⟩ (.bool un)).setCell ⟨bs, 6, none⟩ (.slice ua ul uc)).setCell ⟨bs, 7, none⟩ (.int .u64 ub)).setCell ⟨bs, 8, none⟩ (.string ut)) := hs3.step_kept 8 _
  have hs5 : Bd w ((((((w2.setCell ⟨bs, 4, none⟩ (.int .i64 a.kind)).setCell ⟨bs, 5, none⟩ (.bool un)).setCell ⟨bs, 6, none⟩ (.slice ua ul uc)).setCell ⟨bs, 7, none⟩ (.int .u64 ub)).setCell ⟨bs, 8, none⟩ (.string ut)).setCell ⟨bs, 9, none⟩ (.slice none 0 0)) B bl bs _ _ S #[.int .i64 0, .int .i64 i, .int .i64 j, .int .i64 m, .int .i64 a.kind, .bool un, .slice ua ul uc, .int .u64 ub, .string ut, .slice none 0 0, .int .i64 0, .bool false, .slice none 0 0, .int .u64 0, .string ⟨#[]⟩, .slice none 0 0, .slice none 0 0] _ _ := hs4.step_put 9 _
  have ht5 : Kept (((((w2.setCell ⟨bs, 4, none⟩ (.int .i64 a.kind)).setCell ⟨bs, 5, none⟩ (.bool un)).setCell ⟨bs, 6, none⟩ (.slice ua ul uc)).setCell ⟨bs, 7, none⟩ (.int .u64 ub)).setCell ⟨bs, 8, none⟩ (.string ut)) ((((((w2.setCell ⟨bs, 4, none⟩ (.int .i64 a.kind)).setCell ⟨bs, 5, none⟩ (.bool un)).setCell ⟨bs, 6, none⟩ (.slice ua ul uc)).setCell ⟨bs, 7, none⟩ (.int .u64 ub)).setCell ⟨bs, 8, none⟩ (.string ut)).setCell ⟨bs, 9, none⟩ (.slice none 0 0)) := hs4.step_kept 9 _
  have htk : Kept w2 ((((((w2.setCell ⟨bs, 4, none⟩ (.int .i64 a.kind)).setCell ⟨bs, 5, none⟩ (.bool un)).setCell ⟨bs, 6, none⟩ (.slice ua ul uc)).setCell ⟨bs, 7, none⟩ (.int .u64 ub)).setCell ⟨bs, 8, none⟩ (.string ut)).setCell ⟨bs, 9, none⟩ (.slice none 0 0)) := ((((ht0.trans ht1).trans ht2).trans ht3).trans ht4).trans ht5
  have hb3 : Bd w _ B bl bs _ _ S _ _ #[.bool false, .bool false, .int .i64 0, .int .i64 0, .bool false, .slice none 0 0, .int .u64 0, .string ⟨#[]⟩, .slice none 0 0, .slice none 0 0] := hs5.out_put 0 (.bool false)
  have hy3 := (hy2.kept htk).kept (hs5.out_kept 0 (.bool false))
  obtain ⟨W3, hW3⟩ : ∃ W3, ((((((w2.setCell ⟨bs, 4, none⟩ (.int .i64 a.kind)).setCell ⟨bs, 5, none⟩ (.bool un)).setCell ⟨bs, 6, none⟩ (.slice ua ul uc)).setCell ⟨bs, 7, none⟩ (.int .u64 ub)).setCell ⟨bs, 8, none⟩ (.string ut)).setCell ⟨bs, 9, none⟩ (.slice none 0 0)).setCell ⟨w.heap.size + 2, 0, none⟩ (.bool false) = W3 := ⟨_, rfl⟩
  rw [hW3] at hb3 hy3
  obtain ⟨hres, hout, hae, hfi⟩ := hb3.end_ (S0 := S) (p := .append a) (a := a) (ys := ⟨.int .i64 a.kind, .bool un, .slice ua ul uc, .int .u64 ub, .string ut, .slice none 0 0⟩) (y := nil6) (ok := false) (is_ := false) (n := 0) (k := 0) (i := i) (j := j) (m := m) ⟨rfl, rfl⟩ hy3 (nil6_av _ _)
  obtain ⟨r0, r1, r2, r3, r4, r5, r6, r7, r8, r9, rl, q0, q1, q2, q3, q4, q5, q6, q7, q8, q9⟩ := ans_facts hres
  have s0 := hold0 (hb2).s
  have s1 := hold1 (hb2).s
  have s2 := holdB (hb2).s
  have s3 := holdC (hb2).s
  have sl := (hb2).s.lt
  have l0 := hold0 (hb2).l.hold
  have ll := (hb2).l.hold.lt
  have lf := (hb2).l.hold.free 0
  obtain ⟨o0, o1, o2, o3, o4, o5, o6, o7, o8, o9, ol, of0, of1, of2, of3, of4, of5, of6, of7, of8, of9⟩ := ans_facts (hb2).out
  have sf4 := hb2.s.free 4
  have sf5 := hb2.s.free 5
  have sf6 := hb2.s.free 6
  have sf7 := hb2.s.free 7
  have sf8 := hb2.s.free 8
  have sf9 := hb2.s.free 9
  have se4 : w2.cell? ⟨bs, 4, none⟩ = _ := hb2.s.cell 4
  have se5 : w2.cell? ⟨bs, 5, none⟩ = _ := hb2.s.cell 5
  have se6 : w2.cell? ⟨bs, 6, none⟩ = _ := hb2.s.cell 6
  have se7 : w2.cell? ⟨bs, 7, none⟩ = _ := hb2.s.cell 7
  have se8 : w2.cell? ⟨bs, 8, none⟩ = _ := hb2.s.cell 8
  have se9 : w2.cell? ⟨bs, 9, none⟩ = _ := hb2.s.cell 9
  simp [stepCs, nil6] at se4 se5 se6 se7 se8 se9
  have hW3' := Lib.hid hW3
  clear hW3 hb3 hy3 hs0 hs1 hs2 hs3 hs4 hs5 ht0 ht1 ht2 ht3 ht4 ht5 htk hb2 hy2 hres
  unfold ansCs nil6 at hout
  dsimp only at hout
  unfold V6.arr
  go_upto_region 32 with fail
  rw [hW3'.out]
  go_wp2_with (refine wpList_load_row rfl 64 _ rfl (w.heap.size + 2) rfl 64 _ (0, 0) _ hout.out Tryz.underlying64 rfl (by kernel_rfl) ?_)
  exact bodyPost_ret (v := .agg (ansCs false false 0 nil6)) (results_cell_row rfl _ _ (w.heap.size + 1) 64 _ (0, 0) _ rfl hae.out rfl rfl rfl) rfl hfi.out
end Go.Proofs.YtafbheamnjmfoaaGreat.Ls
