/-
  The reference's step over a list: an element more.
-/
import Derived.Test.YtafbheamnjmfoaaGreatLsStore
import Derived.Test.YtafbheamnjmfoaaGreatLsTurnC
namespace Go.Proofs.YtafbheamnjmfoaaGreat.Ls
open Go.RowKit Go.WideShapes Go.Proofs.YtafbheamnjmfoaaGreat.Sc Go.Proofs.YtafbheamnjmfoaaGreat.VRow
set_option linter.unusedVariables false

theorem setCell_comm {w : World} {p q : Addr} {u v : Value} (h : p.block ≠ q.block) : (w.setCell p u).setCell q v = (w.setCell q v).setCell p u := by
  unfold World.setCell
  simp only
  congr 1
  apply Array.ext_getElem?
  intro i
  simp only [Array.getElem?_modify]
  by_cases h1 : q.block = i
  · by_cases h2 : p.block = i
    · exact absurd (h2.trans h1.symm) h
    · simp [h1, h2]
  · by_cases h2 : p.block = i
    · simp [h1, h2]
    · simp [h1, h2]
theorem six_comm {w : World} {g bl o0 o1 o2 o3 o4 o5 : Nat} {u0 u1 u2 u3 u4 u5 v : Value} (h : g ≠ bl) : (((((((w.setCell ⟨bl, 0, none⟩ v).setCell ⟨g, o0, none⟩ u0).setCell ⟨g, o1, none⟩ u1).setCell ⟨g, o2, none⟩ u2).setCell ⟨g, o3, none⟩ u3).setCell ⟨g, o4, none⟩ u4).setCell ⟨g, o5, none⟩ u5) = ((((((w.setCell ⟨g, o0, none⟩ u0).setCell ⟨g, o1, none⟩ u1).setCell ⟨g, o2, none⟩ u2).setCell ⟨g, o3, none⟩ u3).setCell ⟨g, o4, none⟩ u4).setCell ⟨g, o5, none⟩ u5).setCell ⟨bl, 0, none⟩ v := by
  have e : ∀ (X : World) (o : Nat) (u : Value), (X.setCell ⟨bl, 0, none⟩ v).setCell ⟨g, o, none⟩ u = (X.setCell ⟨g, o, none⟩ u).setCell ⟨bl, 0, none⟩ v := fun X o u => setCell_comm (p := ⟨bl, 0, none⟩) (q := ⟨g, o, none⟩) fun e => h e.symm
  rw [e, e, e, e, e, e]
theorem append_facts {w WA w4 : World} {B bl bs g cap : Nat} {x : Option Nat} {v : Value} {S : List Sc} {k i j m : Int} {ys : V6} {craw o : Array Value} {t : Sc} (h : Bd w WA B bl bs x v S (stepCs k i j m ys) craw o) (hg : WA.grownBy w4 v.ownBlock) (hv' : Vals w4 B (.slice (some ⟨g, 0, none⟩) (S.length + 1) cap) (S ++ [.none])) (hlie : v.ownBlock = some g ∨ g = WA.heap.size) (hy : IsSc WA ys t) :
    IsSc w4 ys t ∧ At w4 g S.length nil6 ∧ (∃ cg, Box.Holds w4 g 28 cg) ∧ g ≠ bl ∧ g ≠ bs ∧ Box.Holds w4 bl 26 #[v] ∧ Box.Holds w4 bs 62 (stepCs k i j m ys) := by
  obtain ⟨L, hL, _⟩ := h.l.row
  have hkn : Kept WA w4 := Kept.grown hL rfl hg
  have hbl := own_grown hg h.l.hold fun e => own_ne hL h.l.hold (by decide) e
  have hbs := own_grown hg h.s fun e => own_ne hL h.s (by decide) e
  obtain ⟨g', cap', u, e, hgl, hB, hc, hat, hu⟩ := hv'.at_ (j := S.length) (by simp)
  simp only [Value.slice.injEq, Option.some.injEq, Addr.mk.injEq, and_true] at e
  obtain ⟨rfl, -⟩ := e
  have hu' : IsSc w4 u .none := by simpa using hu
  obtain rfl : u = nil6 := hu'
  obtain ⟨cg, hcg⟩ : ∃ cg, Box.Holds w4 g 28 cg := by
    obtain ⟨L', hL', _⟩ := hv'
    rcases (show w4.ownsRow B 28 6 _ L'.length (rows L') from hL').2 with ⟨e, _⟩ | ⟨g'', cap'', cur, e, _, hh, _⟩
    · cases e
    · simp only [Value.slice.injEq, Option.some.injEq, Addr.mk.injEq] at e
      obtain ⟨⟨rfl, -⟩, -⟩ := e
      exact ⟨cur, hh⟩
  exact ⟨hy.kept hkn, hat, ⟨cg, hcg⟩, holds_ne hcg hbl (by decide), holds_ne hcg hbs (by decide), hbl, hbs⟩
set_option maxHeartbeats 2000000 in
set_option maxRecDepth 100000 in
theorem turn_append (B bl bs : Nat) (i : Int) (j m : Int) (y z : V6) (a b : Sc) (k0 i0 j0 m0 : Int) (v : Value) (S : List Sc) (w : World) (h : Rl w B bl v S) (hs : Box.Holds w bs 62 (stepCs 0 i j m nil6)) (hy : IsSc w y a) (hz : IsSc w z b) (ha : a.ok) (hBs : B ≤ bs) (hl : S.length ≤ 400) :
    Calls Tryz.prog 31 #[.pointer (some ⟨bs, 0, none⟩), .agg (rawCs k0 i0 j0 m0 y z), .pointer (some ⟨bl, 0, none⟩), .bool false] w (Stepped w B bl bs v.ownBlock S (S ++ [a]) (.append a) .yes) := by
  obtain ⟨yn, ya, yl, yc, yb, yt, rfl⟩ := hy.form
  obtain ⟨zn, za, zl, zc, zb, zt, rfl⟩ := hz.form
  have h3 := three w (rawCs k0 i0 j0 m0 ⟨.int .i64 a.kind, .bool yn, .slice ya yl yc, .int .u64 yb, .string yt, .slice none 0 0⟩ ⟨.int .i64 b.kind, .bool zn, .slice za zl zc, .int .u64 zb, .string zt, .slice none 0 0⟩)
  obtain ⟨W, hW⟩ : ∃ W, ((w.alloc (.cells (rawCs k0 i0 j0 m0 ⟨.int .i64 a.kind, .bool yn, .slice ya yl yc, .int .u64 yb, .string yt, .slice none 0 0⟩ ⟨.int .i64 b.kind, .bool zn, .slice za zl zc, .int .u64 zb, .string zt, .slice none 0 0⟩) 62)).alloc (.cells #[.bool false, .bool false, .int .i64 0, .int .i64 0, .bool false, .slice none 0 0, .int .u64 0, .string ⟨#[]⟩, .slice none 0 0, .slice none 0 0] 64)).alloc (.cells #[.bool true, .bool false, .int .i64 0, .int .i64 0, .bool false, .slice none 0 0, .int .u64 0, .string ⟨#[]⟩, .slice none 0 0, .slice none 0 0] 64) = W := ⟨_, rfl⟩
  rw [hW] at h3
  have hB : B ≤ w.heap.size := Nat.le_trans h.ge (Nat.le_of_lt h.hold.lt)
  have hl1 := h.later h3.below
  have hs1 := hs.later h3.below
  have hy1 := hy.kept (Kept.of_below h3.below)
  have hbw := h.hold.lt
  have hsw := hs.lt
  have hvw : ∀ b, v.ownBlock = some b → b < w.heap.size := fun b hb => by obtain ⟨L, hL, _⟩ := h.row; exact (World.ownsRow.lt hL b hb).2
  have hls : bl ≠ bs := holds_ne h.hold hs (by decide)
  obtain ⟨A0, c0, rfl⟩ := h.row.shape
  have s0 := hold0 hs1
  have s1 := hold1 hs1
  have s2 := holdB hs1
  have s3 := holdC hs1
  have sl := hs1.lt
  have sf0 := hs1.free 0
  have sf1 := hs1.free 1
  have sf2 := hs1.free 2
  have sf3 := hs1.free 3
  have l0 := hold0 hl1.hold
  have ll := hl1.hold.lt
  have lf := hl1.hold.free 0
  have hfW : Fr B (SS bs (Value.slice A0 S.length c0).ownBlock) w W := Fr.of_below h3.below hB
  obtain ⟨o0, o1, o2, o3, o4, o5, o6, o7, o8, o9, ol, of0, of1, of2, of3, of4, of5, of6, of7, of8, of9⟩ := ans_facts h3.out
  have hno1 : bs ≠ w.heap.size + 2 := by omega
  have hno2 : bl ≠ w.heap.size + 2 := by omega
  have hno3 : bs ≠ w.heap.size + 1 := by omega
  have hno4 : bl ≠ w.heap.size + 1 := by omega
  have hbd : Bd w W B bl bs (Value.slice A0 S.length c0).ownBlock (.slice A0 S.length c0) S _ _ _ := ⟨hl1, hs1, h3.res, h3.raw, h3.out, hfW, fun b hb => .inl hb, hsw, hB, hBs⟩
  have hbd' := Lib.hid hbd
  have hy1' := Lib.hid hy1
  clear h h3 hs hl1 hs1 hy hz hfW hvw hbd hy1
  have hcl := Lib.hid fun W h => clean2_any ⟨.int .i64 a.kind, .bool yn, .slice ya yl yc, .int .u64 yb, .string yt, .slice none 0 0⟩ a W ha h
  have hW' := Lib.hid hW
  clear hW
  unfold rawCs at hW'
  dsimp only at hW'
  unfold rawCs
  dsimp only
  go_enter Tryz.func31, Tryz.ntmps31
  go_upto_region 2 with fail
  rw [hW'.out]
  clear hW'
  have hraw := hbd'.out.raw
  unfold rawCs at hraw
  dsimp only at hraw
  have w4 : W.cell? ⟨w.heap.size, 4, none⟩ = _ := hraw.cell 4
  have w5 : W.cell? ⟨w.heap.size, 5, none⟩ = _ := hraw.cell 5
  have w6 : W.cell? ⟨w.heap.size, 6, none⟩ = _ := hraw.cell 6
  have w7 : W.cell? ⟨w.heap.size, 7, none⟩ = _ := hraw.cell 7
  have w8 : W.cell? ⟨w.heap.size, 8, none⟩ = _ := hraw.cell 8
  have w9 : W.cell? ⟨w.heap.size, 9, none⟩ = _ := hraw.cell 9
  simp at w4 w5 w6 w7 w8 w9
  have wl := hraw.lt
  have hcl2 := Lib.hid (hcl.out W hy1'.out)
  unfold V6.arr at hcl2
  clear hraw hcl hy1'
  go_wp2_with fail
  refine hcl2.out.mono ?_
  rintro e w2 ⟨⟨y2, rfl, hy2⟩, hb⟩
  obtain ⟨un, ua, ul, uc, ub, ut, rfl⟩ := hy2.form
  have hb2 : Bd w w2 B bl bs _ _ S _ _ _ := hbd'.out.later hb
  clear w4 w5 w6 w7 w8 w9 wl hcl2 hbd' hb
  clear s0 s1 s2 s3 sl sf0 sf1 sf2 sf3 l0 ll lf o0 o1 o2 o3 o4 o5 o6 o7 o8 o9 ol of0 of1 of2 of3 of4 of5 of6 of7 of8 of9
  have hs0 : Bd w (w2.setCell ⟨bs, 4, none⟩ (.int .i64 a.kind)) B bl bs _ _ S #[.int .i64 0, .int .i64 i, .int .i64 j, .int .i64 m, .int .i64 a.kind, .bool false, .slice none 0 0, .int .u64 0, .string ⟨#[]⟩, .slice none 0 0, .int .i64 0, .bool false, .slice none 0 0, .int .u64 0, .string ⟨#[]⟩, .slice none 0 0, .slice none 0 0] _ _ := hb2.step_put 4 _
  have ht0 : Kept w2 (w2.setCell ⟨bs, 4, none⟩ (.int .i64 a.kind)) := hb2.step_kept 4 _
  have hs1 : Bd w ((w2.setCell ⟨bs, 4, none⟩ (.int .i64 a.kind)).setCell ⟨bs, 5, none⟩ (.bool un)) B bl bs _ _ S #[.int .i64 0, .int .i64 i, .int .i64 j, .int .i64 m, .int .i64 a.kind, .bool un, .slice none 0 0, .int .u64 0, .string ⟨#[]⟩, .slice none 0 0, .int .i64 0, .bool false, .slice none 0 0, .int .u64 0, .string ⟨#[]⟩, .slice none 0 0, .slice none 0 0] _ _ := hs0.step_put 5 _
  have ht1 : Kept (w2.setCell ⟨bs, 4, none⟩ (.int .i64 a.kind)) ((w2.setCell ⟨bs, 4, none⟩ (.int .i64 a.kind)).setCell ⟨bs, 5, none⟩ (.bool un)) := hs0.step_kept 5 _
  have hs2 : Bd w (((w2.setCell ⟨bs, 4, none⟩ (.int .i64 a.kind)).setCell ⟨bs, 5, none⟩ (.bool un)).setCell ⟨bs, 6, none⟩ (.slice ua ul uc)) B bl bs _ _ S #[.int .i64 0, .int .i64 i, .int .i64 j, .int .i64 m, .int .i64 a.kind, .bool un, .slice ua ul uc, .int .u64 0, .string ⟨#[]⟩, .slice none 0 0, .int .i64 0, .bool false, .slice none 0 0, .int .u64 0, .string ⟨#[]⟩, .slice none 0 0, .slice none 0 0] _ _ := hs1.step_put 6 _
  have ht2 : Kept ((w2.setCell ⟨bs, 4, none⟩ (.int .i64 a.kind)).setCell ⟨bs, 5, none⟩ (.bool un)) (((w2.setCell ⟨bs, 4, none⟩ (.int .i64 a.kind)).setCell ⟨bs, 5, none⟩ (.bool un)).setCell ⟨bs, 6, none⟩ (.slice ua ul uc)) := hs1.step_kept 6 _
  have hs3 : Bd w ((((w2.setCell ⟨bs, 4, none⟩ (.int .i64 a.kind)).setCell ⟨bs, 5, none⟩ (.bool un)).setCell ⟨bs, 6, none⟩ (.slice ua ul uc)).setCell ⟨bs, 7, none⟩ (.int .u64 ub)) B bl bs _ _ S #[.int .i64 0, .int .i64 i, .int .i64 j, .int .i64 m, .int .i64 a.kind, .bool un, .slice ua ul uc, .int .u64 ub, .string ⟨#[]⟩, .slice none 0 0, .int .i64 0, .bool false, .slice none 0 0, .int .u64 0, .string ⟨#[]⟩, .slice none 0 0, .slice none 0 0] _ _ := hs2.step_put 7 _
  have ht3 : Kept (((w2.setCell ⟨bs, 4, none⟩ (.int .i64 a.kind)).setCell ⟨bs, 5, none⟩ (.bool un)).setCell ⟨bs, 6, none⟩ (.slice ua ul uc)) ((((w2.setCell ⟨bs, 4, none⟩ (.int .i64 a.kind)).setCell ⟨bs, 5, none⟩ (.bool un)).setCell ⟨bs, 6, none⟩ (.slice ua ul uc)).setCell ⟨bs, 7, none⟩ (.int .u64 ub)) := hs2.step_kept 7 _
  have hs4 : Bd w (((((w2.setCell ⟨bs, 4, none⟩ (.int .i64 a.kind)).setCell ⟨bs, 5, none⟩ (.bool un)).setCell ⟨bs, 6, none⟩ (.slice ua ul uc)).setCell ⟨bs, 7, none⟩ (.int .u64 ub)).setCell ⟨bs, 8, none⟩ (.string ut)) B bl bs _ _ S #[.int .i64 0, .int .i64 i, .int .i64 j, .int .i64 m, .int .i64 a.kind, .bool un, .slice ua ul uc, .int .u64 ub, .string ut, .slice none 0 0, .int .i64 0, .bool false, .slice none 0 0, .int .u64 0, .string ⟨#[]⟩, .slice none 0 0, .slice none 0 0] _ _ := hs3.step_put 8 _
  have ht4 : Kept ((((w2.setCell ⟨bs, 4, none⟩ (.int .i64 a.kind)).setCell ⟨bs, 5, none⟩ (.bool un)).setCell ⟨bs, 6, none⟩ (.slice ua ul uc)).setCell ⟨bs, 7, none⟩ (.int .u64 ub)) (((((w2.setCell ⟨bs, 4, none⟩ (.int .i64 a.kind)).setCell ⟨bs, 5, none⟩ (.bool un)).setCell ⟨bs, 6, none⟩ (.slice ua ul uc)).setCell ⟨bs, 7, none⟩ (.int .u64 ub)).setCell ⟨bs, 8, none⟩ (.string ut)) := hs3.step_kept 8 _
  have hs5 : Bd w ((((((w2.setCell ⟨bs, 4, none⟩ (.int .i64 a.kind)).setCell ⟨bs, 5, none⟩ (.bool un)).setCell ⟨bs, 6, none⟩ (.slice ua ul uc)).setCell ⟨bs, 7, none⟩ (.int .u64 ub)).setCell ⟨bs, 8, none⟩ (.string ut)).setCell ⟨bs, 9, none⟩ (.slice none 0 0)) B bl bs _ _ S #[.int .i64 0, .int .i64 i, .int .i64 j, .int .i64 m, .int .i64 a.kind, .bool un, .slice ua ul uc, .int .u64 ub, .string ut, .slice none 0 0, .int .i64 0, .bool false, .slice none 0 0, .int .u64 0, .string ⟨#[]⟩, .slice none 0 0, .slice none 0 0] _ _ := hs4.step_put 9 _
  have ht5 : Kept (((((w2.setCell ⟨bs, 4, none⟩ (.int .i64 a.kind)).setCell ⟨bs, 5, none⟩ (.bool un)).setCell ⟨bs, 6, none⟩ (.slice ua ul uc)).setCell ⟨bs, 7, none⟩ (.int .u64 ub)).setCell ⟨bs, 8, none⟩ (.string ut)) ((((((w2.setCell ⟨bs, 4, none⟩ (.int .i64 a.kind)).setCell ⟨bs, 5, none⟩ (.bool un)).setCell ⟨bs, 6, none⟩ (.slice ua ul uc)).setCell ⟨bs, 7, none⟩ (.int .u64 ub)).setCell ⟨bs, 8, none⟩ (.string ut)).setCell ⟨bs, 9, none⟩ (.slice none 0 0)) := hs4.step_kept 9 _
  have htk : Kept w2 ((((((w2.setCell ⟨bs, 4, none⟩ (.int .i64 a.kind)).setCell ⟨bs, 5, none⟩ (.bool un)).setCell ⟨bs, 6, none⟩ (.slice ua ul uc)).setCell ⟨bs, 7, none⟩ (.int .u64 ub)).setCell ⟨bs, 8, none⟩ (.string ut)).setCell ⟨bs, 9, none⟩ (.slice none 0 0)) := ((((ht0.trans ht1).trans ht2).trans ht3).trans ht4).trans ht5
  have hb3 : Bd w _ B bl bs _ _ S (stepCs 0 i j m ⟨.int .i64 a.kind, .bool un, .slice ua ul uc, .int .u64 ub, .string ut, .slice none 0 0⟩) _ #[.bool true, .bool false, .int .i64 0, .int .i64 0, .bool false, .slice none 0 0, .int .u64 0, .string ⟨#[]⟩, .slice none 0 0, .slice none 0 0] := hs5.out_put 0 (.bool true)
  have hy3 := (hy2.kept htk).kept (hs5.out_kept 0 (.bool true))
  obtain ⟨W3, hW3⟩ : ∃ W3, ((((((w2.setCell ⟨bs, 4, none⟩ (.int .i64 a.kind)).setCell ⟨bs, 5, none⟩ (.bool un)).setCell ⟨bs, 6, none⟩ (.slice ua ul uc)).setCell ⟨bs, 7, none⟩ (.int .u64 ub)).setCell ⟨bs, 8, none⟩ (.string ut)).setCell ⟨bs, 9, none⟩ (.slice none 0 0)).setCell ⟨w.heap.size + 2, 0, none⟩ (.bool true) = W3 := ⟨_, rfl⟩
  rw [hW3] at hb3 hy3
  have s0 := hold0 (hb2).s
  have s1 := hold1 (hb2).s
  have s2 := holdB (hb2).s
  have s3 := holdC (hb2).s
  have sl := (hb2).s.lt
  have l0 := hold0 (hb2).l.hold
  have ll := (hb2).l.hold.lt
  have lf := (hb2).l.hold.free 0
  obtain ⟨o0, o1, o2, o3, o4, o5, o6, o7, o8, o9, ol, of0, of1, of2, of3, of4, of5, of6, of7, of8, of9⟩ := ans_facts (hb2).out
  have sf4 := hb2.s.free 4
  have sf5 := hb2.s.free 5
  have sf6 := hb2.s.free 6
  have sf7 := hb2.s.free 7
  have sf8 := hb2.s.free 8
  have sf9 := hb2.s.free 9
  have se4 : w2.cell? ⟨bs, 4, none⟩ = _ := hb2.s.cell 4
  have se5 : w2.cell? ⟨bs, 5, none⟩ = _ := hb2.s.cell 5
  have se6 : w2.cell? ⟨bs, 6, none⟩ = _ := hb2.s.cell 6
  have se7 : w2.cell? ⟨bs, 7, none⟩ = _ := hb2.s.cell 7
  have se8 : w2.cell? ⟨bs, 8, none⟩ = _ := hb2.s.cell 8
  have se9 : w2.cell? ⟨bs, 9, none⟩ = _ := hb2.s.cell 9
  simp [stepCs, nil6] at se4 se5 se6 se7 se8 se9
  have hW3' := Lib.hid hW3
  have hb3' := Lib.hid hb3
  have hy3' := Lib.hid hy3
  clear hW3 hb3 hy3 hs0 hs1 hs2 hs3 hs4 hs5 ht0 ht1 ht2 ht3 ht4 ht5 htk hb2 hy2
  unfold V6.arr
  go_upto_region 9 with fail
  rw [hW3'.out]
  clear hW3' s0 s1 s2 s3 sl l0 ll lf o0 o1 o2 o3 o4 o5 o6 o7 o8 o9 ol of0 of1 of2 of3 of4 of5 of6 of7 of8 of9 sf4 sf5 sf6 sf7 sf8 sf9 se4 se5 se6 se7 se8 se9
  have l0 := hold0 hb3'.out.l.hold
  have ll := hb3'.out.l.hold.lt
  have lf := hb3'.out.l.hold.free 0
  have sl := hb3'.out.s.lt
  have se4 : W3.cell? ⟨bs, 4, none⟩ = _ := hb3'.out.s.cell 4
  have se5 : W3.cell? ⟨bs, 5, none⟩ = _ := hb3'.out.s.cell 5
  have se6 : W3.cell? ⟨bs, 6, none⟩ = _ := hb3'.out.s.cell 6
  have se7 : W3.cell? ⟨bs, 7, none⟩ = _ := hb3'.out.s.cell 7
  have se8 : W3.cell? ⟨bs, 8, none⟩ = _ := hb3'.out.s.cell 8
  have se9 : W3.cell? ⟨bs, 9, none⟩ = _ := hb3'.out.s.cell 9
  simp [stepCs] at se4 se5 se6 se7 se8 se9
  have hal : Below W3.heap.size W3 (W3.drew.alloc (.cells nil6.arr 28)) := (Box.below_drawn (Below.refl _ _) 1).alloc (Nat.le_refl _) _
  have hbA := Lib.hid (hb3'.out.later hal)
  have hyA := Lib.hid (hy3'.out.kept (Kept.of_below hal))
  have hBA : B ≤ (W3.drew.alloc (.cells nil6.arr 28)).heap.size := Nat.le_trans hB hbA.out.fr.below.size
  have hsrc := Lib.hid (Rem.Holds.made W3.drew 28 nil6.arr)
  have hln : S.length ≤ 1000000 := by omega
  clear hal hb3' hy3'
  unfold nil6 V6.arr at hbA hyA hsrc hBA
  dsimp only at hbA hyA hsrc hBA
  go_wp2_with fail
  go_region_law (first | (refine step_zero (B := B) (gb := W3.heap.size) rfl _ _ rfl (.slice A0 S.length c0) S rfl hbA.out.l.row hBA hsrc.out rfl hln ?_; intro g4 cap4 w4 hv4 hg4 hl4; obtain ⟨hy4, ⟨a0, a1, a2, a3, a4, a5⟩, ⟨cg, hcg⟩, hn1, hn2, hbl4, hbs4⟩ := append_facts hbA.out hg4 hv4 hl4 hyA.out; have hbE := Lib.hid (append_bd hbA.out hg4 hv4 hl4 hy4).2; have hlt9 : (S.length : Int) < (S.length : Int) + 1 := (by omega); have gl := hcg.lt; have gf0 := hcg.free (S.length * 6); have gf1 := hcg.free (S.length * 6 + 1); have gf2 := hcg.free (S.length * 6 + 2); have gf3 := hcg.free (S.length * 6 + 3); have gf4 := hcg.free (S.length * 6 + 4); have gf5 := hcg.free (S.length * 6 + 5); have v0 := hold0 hbl4; have vl := hbl4.lt; have vf := hbl4.free 0; have t4 : w4.cell? ⟨bs, 4, none⟩ = _ := hbs4.cell 4; have t5 : w4.cell? ⟨bs, 5, none⟩ = _ := hbs4.cell 5; have t6 : w4.cell? ⟨bs, 6, none⟩ = _ := hbs4.cell 6; have t7 : w4.cell? ⟨bs, 7, none⟩ = _ := hbs4.cell 7; have t8 : w4.cell? ⟨bs, 8, none⟩ = _ := hbs4.cell 8; have t9 : w4.cell? ⟨bs, 9, none⟩ = _ := hbs4.cell 9; simp [stepCs] at t4 t5 t6 t7 t8 t9; have tl := hbs4.lt; simp only [nil6] at a0 a1 a2 a3 a4 a5; have hn1' := hn1.symm; have hn2' := hn2.symm; clear hy4 hcg hbl4 hbs4 hv4 hg4 hl4))
  all_goals
    obtain ⟨hbF0, hyF0⟩ := hbE.out
    have hbF := hbF0
    have hyF := hyF0
    obtain ⟨W7, hW7⟩ : ∃ W7, ((((((((w4.setCell ⟨g4, S.length * 6, none⟩ (.int .i64 a.kind)).setCell ⟨g4, S.length * 6 + 1, none⟩ (.bool un)).setCell ⟨g4, S.length * 6 + 2, none⟩ (.slice ua ul uc)).setCell ⟨g4, S.length * 6 + 3, none⟩ (.int .u64 ub)).setCell ⟨g4, S.length * 6 + 4, none⟩ (.string ut)).setCell ⟨g4, S.length * 6 + 5, none⟩ (.slice none 0 0)).setCell ⟨bl, 0, none⟩ (.slice (some ⟨g4, 0, none⟩) (S.length + 1) cap4))) = W7 := ⟨_, rfl⟩
    rw [hW7] at hbF hyF
    obtain ⟨hres, hout, hae, hfi⟩ := hbF.end_ (S0 := S) (p := .append a) (a := a) (ys := ⟨.int .i64 a.kind, .bool un, .slice ua ul uc, .int .u64 ub, .string ut, .slice none 0 0⟩) (y := nil6) (ok := true) (is_ := false) (n := 0) (k := 0) (i := i) (j := j) (m := m) ⟨rfl, rfl⟩ hyF (nil6_av _ _)
    obtain ⟨r0, r1, r2, r3, r4, r5, r6, r7, r8, r9, rl, q0, q1, q2, q3, q4, q5, q6, q7, q8, q9⟩ := ans_facts hres
    clear hbF hyF hbF0 hyF0 hbE hres hbA hyA hsrc a0 a1 a2 a3 a4 a5 gf0 gf1 gf2 gf3 gf4 gf5 t4 t5 t6 t7 t8 t9 se4 se5 se6 se7 se8 se9 v0 vf vl tl gl l0 ll lf
    unfold ansCs nil6 at hout
    dsimp only at hout
    first | rw [hW7] | rw [six_comm hn1, hW7]
    clear hW7
    go_wp2_with (refine wpList_load_row rfl 64 _ rfl (w.heap.size + 2) rfl 64 _ (0, 0) _ hout.out Tryz.underlying64 rfl (by kernel_rfl) ?_)
    exact bodyPost_ret (v := .agg (ansCs true false 0 nil6)) (results_cell_row rfl _ _ (w.heap.size + 1) 64 _ (0, 0) _ rfl hae.out rfl rfl rfl) rfl hfi.out
end Go.Proofs.YtafbheamnjmfoaaGreat.Ls
