/-
  The reference's step over a list: index.
-/
import Derived.Test.YtafbheamnjmfoaaGreatLsTurn
namespace Go.Proofs.YtafbheamnjmfoaaGreat.Ls
open Go.RowKit Go.WideShapes Go.Proofs.YtafbheamnjmfoaaGreat.Sc Go.Proofs.YtafbheamnjmfoaaGreat.VRow
set_option linter.unusedVariables false

theorem kept_drew {a b : World} (h : Kept a b) : Kept a b.drew := fun k c t fz hn hh => h k c t fz hn hh
theorem Bd.drew {w W : World} {B bl bs : Nat} {x : Option Nat} {v : Value} {S : List Sc} {cs craw o : Array Value} (h : Bd w W B bl bs x v S cs craw o) : Bd w W.drew B bl bs x v S cs craw o := h.drawn 1
set_option maxHeartbeats 2000000 in
set_option maxRecDepth 100000 in
theorem turn_index (B bl bs : Nat) (i : Int) (fx : Bool) (j m : Int) (y z : V6) (a b : Sc) (k0 i0 j0 m0 : Int) (v : Value) (S : List Sc) (w : World) (h : Rl w B bl v S) (hs : Box.Holds w bs 62 (stepCs 2 i j m nil6)) (hy : IsSc w y a) (hz : IsSc w z b) (ha : a.ok) (hBs : B ≤ bs) (hl : S.length ≤ 400) (hS : 0 < S.length) :
    Calls Tryz.prog 31 #[.pointer (some ⟨bs, 0, none⟩), .agg (rawCs k0 i0 j0 m0 y z), .pointer (some ⟨bl, 0, none⟩), .bool fx] w (fun e w' => ∃ (q : Nat) (hq : q < S.length), Stepped w B bl bs v.ownBlock S S (.index q) ⟨true, false, 0, .sc S[q]⟩ e w') := by
  obtain ⟨yn, ya, yl, yc, yb, yt, rfl⟩ := hy.form
  obtain ⟨zn, za, zl, zc, zb, zt, rfl⟩ := hz.form
  have h3 := three w (rawCs k0 i0 j0 m0 ⟨.int .i64 a.kind, .bool yn, .slice ya yl yc, .int .u64 yb, .string yt, .slice none 0 0⟩ ⟨.int .i64 b.kind, .bool zn, .slice za zl zc, .int .u64 zb, .string zt, .slice none 0 0⟩)
  obtain ⟨W, hW⟩ : ∃ W, ((w.alloc (.cells (rawCs k0 i0 j0 m0 ⟨.int .i64 a.kind, .bool yn, .slice ya yl yc, .int .u64 yb, .string yt, .slice none 0 0⟩ ⟨.int .i64 b.kind, .bool zn, .slice za zl zc, .int .u64 zb, .string zt, .slice none 0 0⟩) 62)).alloc (.cells #[.bool false, .bool false, .int .i64 0, .int .i64 0, .bool false, .slice none 0 0, .int .u64 0, .string ⟨#[]⟩, .slice none 0 0, .slice none 0 0] 64)).alloc (.cells #[.bool true, .bool false, .int .i64 0, .int .i64 0, .bool false, .slice none 0 0, .int .u64 0, .string ⟨#[]⟩, .slice none 0 0, .slice none 0 0] 64) = W := ⟨_, rfl⟩
  rw [hW] at h3
  have hB : B ≤ w.heap.size := Nat.le_trans h.ge (Nat.le_of_lt h.hold.lt)
  have hl1 := h.later h3.below
  have hs1 := hs.later h3.below
  have hy1 := hy.kept (Kept.of_below h3.below)
  have hbw := h.hold.lt
  have hsw := hs.lt
  have hvw : ∀ b, v.ownBlock = some b → b < w.heap.size := fun b hb => by obtain ⟨L, hL, _⟩ := h.row; exact (World.ownsRow.lt hL b hb).2
  have hls : bl ≠ bs := holds_ne h.hold hs (by decide)
  obtain ⟨A0, c0, rfl⟩ := h.row.shape
  have s0 := hold0 hs1
  have s1 := hold1 hs1
  have s2 := holdB hs1
  have s3 := holdC hs1
  have sl := hs1.lt
  have sf0 := hs1.free 0
  have sf1 := hs1.free 1
  have sf2 := hs1.free 2
  have sf3 := hs1.free 3
  have l0 := hold0 hl1.hold
  have ll := hl1.hold.lt
  have lf := hl1.hold.free 0
  have hfW : Fr B (SS bs (Value.slice A0 S.length c0).ownBlock) w W := Fr.of_below h3.below hB
  obtain ⟨o0, o1, o2, o3, o4, o5, o6, o7, o8, o9, ol, of0, of1, of2, of3, of4, of5, of6, of7, of8, of9⟩ := ans_facts h3.out
  have hno1 : bs ≠ w.heap.size + 2 := by omega
  have hno2 : bl ≠ w.heap.size + 2 := by omega
  have hno3 : bs ≠ w.heap.size + 1 := by omega
  have hno4 : bl ≠ w.heap.size + 1 := by omega
  have hbd : Bd w W B bl bs (Value.slice A0 S.length c0).ownBlock (.slice A0 S.length c0) S _ _ _ := ⟨hl1, hs1, h3.res, h3.raw, h3.out, hfW, fun b hb => .inl hb, hsw, hB, hBs⟩
  have hbd' := Lib.hid hbd
  have hy1' := Lib.hid hy1
  clear h h3 hs hl1 hs1 hy hz hfW hvw hbd hy1
  have ht := Lib.hid fun W => turn_any i S.length W (by omega) (by omega)
  have hW' := Lib.hid hW
  clear hW
  unfold rawCs at hW'
  dsimp only at hW'
  unfold rawCs
  dsimp only
  go_enter Tryz.func31, Tryz.ntmps31
  go_upto_region 2 with fail
  rw [hW'.out]
  clear hW'
  go_wp2_with fail
  refine (ht.out _).mono ?_
  rintro e w' ⟨⟨y, rfl, hy0, hy1⟩, rfl⟩
  obtain ⟨q, rfl⟩ : ∃ q : Nat, y = q := ⟨y.toNat, by omega⟩
  have hq : q < S.length := by omega
  clear hy0 hy1
  go_upto_region 18 with fail
  obtain ⟨W1, hW1⟩ : ∃ W1, W.setCell ⟨bs, 1, none⟩ (.int .i64 q) = W1 := ⟨_, rfl⟩
  rw [hW1]
  have hb1 := hbd'.out.step_put 1 (.int .i64 q)
  rw [hW1] at hb1
  clear s0 s1 s2 s3 sl sf0 sf1 sf2 sf3 l0 ll lf o0 o1 o2 o3 o4 o5 o6 o7 o8 o9 ol of0 of1 of2 of3 of4 of5 of6 of7 of8 of9
  obtain ⟨g, cap, u, he, hgl, hBg, hcap, hat, hu⟩ := hb1.l.row.at_ hq
  simp only [Value.slice.injEq, true_and] at he
  obtain ⟨rfl, rfl⟩ := he
  have hgo : g ≠ w.heap.size + 2 := Bd.own hb1.l.row hb1.out (by decide) _ rfl
  have hgo' := hgo.symm
  obtain ⟨a0, a1, a2, a3, a4, a5⟩ := hat
  obtain ⟨un, ua, ul, uc, ub, ut, rfl⟩ := hu.form
  simp only at a0 a1 a2 a3 a4 a5
  have s0 := hold0 (hb1).s
  have s1 := hold1 (hb1).s
  have s2 := holdB (hb1).s
  have s3 := holdC (hb1).s
  have sl := (hb1).s.lt
  have l0 := hold0 (hb1).l.hold
  have ll := (hb1).l.hold.lt
  have lf := (hb1).l.hold.free 0
  obtain ⟨o0, o1, o2, o3, o4, o5, o6, o7, o8, o9, ol, of0, of1, of2, of3, of4, of5, of6, of7, of8, of9⟩ := ans_facts (hb1).out
  have hc0 : Bd w (W1.setCell ⟨w.heap.size + 2, 3, none⟩ (.int .i64 S[q].kind)) B bl bs _ _ S _ _ #[.bool true, .bool false, .int .i64 0, .int .i64 S[q].kind, .bool false, .slice none 0 0, .int .u64 0, .string ⟨#[]⟩, .slice none 0 0, .slice none 0 0] := hb1.out_put 3 _
  have hd0 : Kept W1 (W1.setCell ⟨w.heap.size + 2, 3, none⟩ (.int .i64 S[q].kind)) := hb1.out_kept 3 _
  have hc1 : Bd w ((W1.setCell ⟨w.heap.size + 2, 3, none⟩ (.int .i64 S[q].kind)).setCell ⟨w.heap.size + 2, 4, none⟩ (.bool un)) B bl bs _ _ S _ _ #[.bool true, .bool false, .int .i64 0, .int .i64 S[q].kind, .bool un, .slice none 0 0, .int .u64 0, .string ⟨#[]⟩, .slice none 0 0, .slice none 0 0] := hc0.out_put 4 _
  have hd1 : Kept (W1.setCell ⟨w.heap.size + 2, 3, none⟩ (.int .i64 S[q].kind)) ((W1.setCell ⟨w.heap.size + 2, 3, none⟩ (.int .i64 S[q].kind)).setCell ⟨w.heap.size + 2, 4, none⟩ (.bool un)) := hc0.out_kept 4 _
  have hc2 : Bd w (((W1.setCell ⟨w.heap.size + 2, 3, none⟩ (.int .i64 S[q].kind)).setCell ⟨w.heap.size + 2, 4, none⟩ (.bool un)).setCell ⟨w.heap.size + 2, 5, none⟩ (.slice ua ul uc)) B bl bs _ _ S _ _ #[.bool true, .bool false, .int .i64 0, .int .i64 S[q].kind, .bool un, .slice ua ul uc, .int .u64 0, .string ⟨#[]⟩, .slice none 0 0, .slice none 0 0] := hc1.out_put 5 _
  have hd2 : Kept ((W1.setCell ⟨w.heap.size + 2, 3, none⟩ (.int .i64 S[q].kind)).setCell ⟨w.heap.size + 2, 4, none⟩ (.bool un)) (((W1.setCell ⟨w.heap.size + 2, 3, none⟩ (.int .i64 S[q].kind)).setCell ⟨w.heap.size + 2, 4, none⟩ (.bool un)).setCell ⟨w.heap.size + 2, 5, none⟩ (.slice ua ul uc)) := hc1.out_kept 5 _
  have hc3 : Bd w ((((W1.setCell ⟨w.heap.size + 2, 3, none⟩ (.int .i64 S[q].kind)).setCell ⟨w.heap.size + 2, 4, none⟩ (.bool un)).setCell ⟨w.heap.size + 2, 5, none⟩ (.slice ua ul uc)).setCell ⟨w.heap.size + 2, 6, none⟩ (.int .u64 ub)) B bl bs _ _ S _ _ #[.bool true, .bool false, .int .i64 0, .int .i64 S[q].kind, .bool un, .slice ua ul uc, .int .u64 ub, .string ⟨#[]⟩, .slice none 0 0, .slice none 0 0] := hc2.out_put 6 _
  have hd3 : Kept (((W1.setCell ⟨w.heap.size + 2, 3, none⟩ (.int .i64 S[q].kind)).setCell ⟨w.heap.size + 2, 4, none⟩ (.bool un)).setCell ⟨w.heap.size + 2, 5, none⟩ (.slice ua ul uc)) ((((W1.setCell ⟨w.heap.size + 2, 3, none⟩ (.int .i64 S[q].kind)).setCell ⟨w.heap.size + 2, 4, none⟩ (.bool un)).setCell ⟨w.heap.size + 2, 5, none⟩ (.slice ua ul uc)).setCell ⟨w.heap.size + 2, 6, none⟩ (.int .u64 ub)) := hc2.out_kept 6 _
  have hc4 : Bd w (((((W1.setCell ⟨w.heap.size + 2, 3, none⟩ (.int .i64 S[q].kind)).setCell ⟨w.heap.size + 2, 4, none⟩ (.bool un)).setCell ⟨w.heap.size + 2, 5, none⟩ (.slice ua ul uc)).setCell ⟨w.heap.size + 2, 6, none⟩ (.int .u64 ub)).setCell ⟨w.heap.size + 2, 7, none⟩ (.string ut)) B bl bs _ _ S _ _ #[.bool true, .bool false, .int .i64 0, .int .i64 S[q].kind, .bool un, .slice ua ul uc, .int .u64 ub, .string ut, .slice none 0 0, .slice none 0 0] := hc3.out_put 7 _
  have hd4 : Kept ((((W1.setCell ⟨w.heap.size + 2, 3, none⟩ (.int .i64 S[q].kind)).setCell ⟨w.heap.size + 2, 4, none⟩ (.bool un)).setCell ⟨w.heap.size + 2, 5, none⟩ (.slice ua ul uc)).setCell ⟨w.heap.size + 2, 6, none⟩ (.int .u64 ub)) (((((W1.setCell ⟨w.heap.size + 2, 3, none⟩ (.int .i64 S[q].kind)).setCell ⟨w.heap.size + 2, 4, none⟩ (.bool un)).setCell ⟨w.heap.size + 2, 5, none⟩ (.slice ua ul uc)).setCell ⟨w.heap.size + 2, 6, none⟩ (.int .u64 ub)).setCell ⟨w.heap.size + 2, 7, none⟩ (.string ut)) := hc3.out_kept 7 _
  have hc5 : Bd w ((((((W1.setCell ⟨w.heap.size + 2, 3, none⟩ (.int .i64 S[q].kind)).setCell ⟨w.heap.size + 2, 4, none⟩ (.bool un)).setCell ⟨w.heap.size + 2, 5, none⟩ (.slice ua ul uc)).setCell ⟨w.heap.size + 2, 6, none⟩ (.int .u64 ub)).setCell ⟨w.heap.size + 2, 7, none⟩ (.string ut)).setCell ⟨w.heap.size + 2, 8, none⟩ (.slice none 0 0)) B bl bs _ _ S _ _ #[.bool true, .bool false, .int .i64 0, .int .i64 S[q].kind, .bool un, .slice ua ul uc, .int .u64 ub, .string ut, .slice none 0 0, .slice none 0 0] := hc4.out_put 8 _
  have hd5 : Kept (((((W1.setCell ⟨w.heap.size + 2, 3, none⟩ (.int .i64 S[q].kind)).setCell ⟨w.heap.size + 2, 4, none⟩ (.bool un)).setCell ⟨w.heap.size + 2, 5, none⟩ (.slice ua ul uc)).setCell ⟨w.heap.size + 2, 6, none⟩ (.int .u64 ub)).setCell ⟨w.heap.size + 2, 7, none⟩ (.string ut)) ((((((W1.setCell ⟨w.heap.size + 2, 3, none⟩ (.int .i64 S[q].kind)).setCell ⟨w.heap.size + 2, 4, none⟩ (.bool un)).setCell ⟨w.heap.size + 2, 5, none⟩ (.slice ua ul uc)).setCell ⟨w.heap.size + 2, 6, none⟩ (.int .u64 ub)).setCell ⟨w.heap.size + 2, 7, none⟩ (.string ut)).setCell ⟨w.heap.size + 2, 8, none⟩ (.slice none 0 0)) := hc4.out_kept 8 _
  have hb2 := hc5.drew
  have hk2 : Kept W1 (((((((W1.setCell ⟨w.heap.size + 2, 3, none⟩ (.int .i64 S[q].kind)).setCell ⟨w.heap.size + 2, 4, none⟩ (.bool un)).setCell ⟨w.heap.size + 2, 5, none⟩ (.slice ua ul uc)).setCell ⟨w.heap.size + 2, 6, none⟩ (.int .u64 ub)).setCell ⟨w.heap.size + 2, 7, none⟩ (.string ut)).setCell ⟨w.heap.size + 2, 8, none⟩ (.slice none 0 0)).drew) := kept_drew (((((hd0.trans hd1).trans hd2).trans hd3).trans hd4).trans hd5)
  have hu2 := hu.kept hk2
  obtain ⟨W2, hW2⟩ : ∃ W2, ((((((W1.setCell ⟨w.heap.size + 2, 3, none⟩ (.int .i64 S[q].kind)).setCell ⟨w.heap.size + 2, 4, none⟩ (.bool un)).setCell ⟨w.heap.size + 2, 5, none⟩ (.slice ua ul uc)).setCell ⟨w.heap.size + 2, 6, none⟩ (.int .u64 ub)).setCell ⟨w.heap.size + 2, 7, none⟩ (.string ut)).setCell ⟨w.heap.size + 2, 8, none⟩ (.slice none 0 0)).drew = W2 := ⟨_, rfl⟩
  rw [hW2] at hb2 hu2
  obtain ⟨hres, hout, hae, hfi⟩ := hb2.end_ (S0 := S) (p := .index q) (a := .none) (ys := nil6) (y := ⟨.int .i64 S[q].kind, .bool un, .slice ua ul uc, .int .u64 ub, .string ut, .slice none 0 0⟩) (ok := true) (is_ := false) (n := 0) (i := q) (j := j) (m := m) (k := 2) (av := .sc S[q]) ⟨rfl, rfl, rfl⟩ (nil6_sc _) hu2
  obtain ⟨r0, r1, r2, r3, r4, r5, r6, r7, r8, r9, rl, q0, q1, q2, q3, q4, q5, q6, q7, q8, q9⟩ := ans_facts hres
  have hW2' := Lib.hid hW2
  clear hW2 hb2 hk2 hu2 hres hb1 hu hbd' hW1 ht hy1' hc0 hc1 hc2 hc3 hc4 hc5 hd0 hd1 hd2 hd3 hd4 hd5
  unfold ansCs at hout
  dsimp only at hout
  go_region
  all_goals
    rw [hW2'.out]
    go_wp2_with (refine wpList_load_row rfl 64 _ rfl (w.heap.size + 2) rfl 64 _ (0, 0) _ hout.out Tryz.underlying64 rfl (by kernel_rfl) ?_)
    exact bodyPost_ret (v := .agg (ansCs true false 0 _)) (results_cell_row rfl _ _ (w.heap.size + 1) 64 _ (0, 0) _ rfl hae.out rfl rfl rfl) rfl ⟨q, hq, hfi.out⟩
end Go.Proofs.YtafbheamnjmfoaaGreat.Ls
