/-
  The reference's script of a list: RunList.
-/
import Derived.Test.YtafbheamnjmfoaaGreatLsGath
import Derived.Test.YtafbheamnjmfoaaGreatLsState
import Derived.Deep.MidRow
import Derived.Deep.RegionLaw
import Derived.Deep.CutBlock
namespace Go.Proofs.YtafbheamnjmfoaaGreat.Ls
open Go.RowKit Go.WideShapes Go.Proofs.YtafbheamnjmfoaaGreat.Sc Go.Proofs.YtafbheamnjmfoaaGreat.VRow
set_option linter.unusedVariables false

/-- a raw step in its row -/
theorem raws_at {w : World} {B : Nat} {u : Value} {R : List Rw} (h : Raws w B u R) {j : Nat} (hj : j < R.length) : ∃ b cap y z, u = .slice (some ⟨b, 0, none⟩) R.length cap ∧ b < w.heap.size ∧ R.length ≤ cap ∧ IsSc w y R[j].a ∧ IsSc w z R[j].b ∧
    w.rangeAt b (j * 17) (rawCs R[j].k R[j].i R[j].j R[j].m y z).toList := by
  obtain ⟨L, h1, h2⟩ := h
  obtain ⟨hj', y, z, hc, hy, hz⟩ := h2.get hj
  rcases h1.forms with ⟨_, rfl⟩ | ⟨b, cap, rfl, hb, hB, hcap, _, hcs⟩
  · simp at hj'
  · refine ⟨b, cap, y, z, by rw [h2.1], hb, by rw [← h2.1]; exact hcap, hy, hz, fun q v hq => ?_⟩
    rw [hcs j hj' q (by have := (List.getElem?_eq_some_iff.1 hq).1; simpa [rawCs] using this), hc]
    exact hq
theorem start_rs {w wc w5 : World} {l1 : List Sc} {v9 vl : Value} (hrl : Rl wc w.heap.size w.heap.size vl l1) (hbr : Below w.heap.size w wc) (hv : Vals w5 wc.heap.size v9 l1) (hb : Below wc.heap.size wc w5) :
    Rs w l1 v9 w.heap.size w5.heap.size vl (.slice none 0 0) (.slice none 0 0) (.slice none 0 0) ⟨l1, false, []⟩ [] [] (w5.alloc (.cells #[.bool false, .slice none 0 0, .int .i64 0] 60)) := by
  have hal : Below w5.heap.size w5 (w5.alloc (.cells #[.bool false, .slice none 0 0, .int .i64 0] 60)) := Ref.below_one' _ (Nat.le_refl _)
  have h1 := hbr.size
  have h2 := hb.size
  refine ⟨(hrl.later hb).later hal, ⟨Box.Holds.made _ _ _, World.ownsRow_nil _ _ _ _, Nat.le_trans h1 h2⟩, Steps.nil _ _, Anss.nil _ _ _, (hv.lower h1).later hal, fun b hb1 hb2 => ?_, (hbr.trans (hb.mono h1)).trans (hal.mono (Nat.le_trans h1 h2))⟩
  obtain ⟨L, q1, _⟩ := hrl.row
  obtain ⟨L2, q2, _⟩ := hv
  have e1 := (World.ownsRow.lt q1 b hb2).2
  have e2 := (World.ownsRow.lt q2 b hb1).1
  omega
/-- a script: the first list, its steps, what each answers -/
def Ran (w : World) (l1 : List Sc) (e : Ending) (w' : World) : Prop := (∃ v u o S A T, e = .returned (.tuple #[v, u, o]) ∧ Vals w' w.heap.size v l1 ∧ Steps w' w.heap.size u S ∧ Anss none w' w.heap.size o A ∧ Run T S A ∧ T 0 = ⟨l1, false, []⟩ ∧ S.length ≤ 60) ∧ Below w.heap.size w w'
set_option maxHeartbeats 2000000 in
set_option maxRecDepth 100000 in
theorem run_any (B0 B1 : Nat) (v0 u0 : Value) (l0 : List Sc) (R : List Rw) (w : World) (h0 : Vals w B0 v0 l0) (hR : Raws w B1 u0 R) (hok : ∀ s ∈ l0, s.ok) (hRg : ∀ r ∈ R, r.Good) (hl : l0.length ≤ 1000) :
    Calls Tryz.prog 11 #[v0, u0] w (Ran w (l0.take 8)) := by
  obtain ⟨A0, c0, rfl⟩ := h0.shape
  obtain ⟨A1, c1, rfl⟩ := hR.shape
  have h0' := Lib.hid h0
  have hR' := Lib.hid hR
  have hok' := Lib.hid hok
  have hRg' := Lib.hid hRg
  clear h0 hR hok hRg
  obtain ⟨l1, hl1⟩ : ∃ l1, l0.take 8 = l1 := ⟨_, rfl⟩
  rw [hl1]
  go_enter Tryz.func11, Tryz.ntmps11
  go_upto_block 0 with fail
  go_cut [8] (fun _ wx => ∃ v, Hid (Rl wx w.heap.size w.heap.size v l1) ∧ Hid (Below w.heap.size w wx))
  case first =>
   go_wp2_with fail
   go_loopw [8] (fun i wr => ∃ (j : Nat) (v : Value), i = .int .i64 j ∧ j ≤ l0.length ∧ j ≤ 8 ∧ Hid (Rl wr w.heap.size w.heap.size v (l0.take j)) ∧ Hid (Below w.heap.size w wr))
    (fun i _ => 8 - (intOf i).toNat)
   case atStart =>
    exact ⟨0, _, rfl, Nat.zero_le _, Nat.zero_le _, Lib.hid ⟨Box.Holds.made _ _ _, Vals.nil _ _, Nat.le_refl _⟩, Lib.hid (Ref.below_one' _ (Nat.le_refl _))⟩
   case round =>
    obtain ⟨j, v, rfl, hj, hj8, hrl, hbr⟩ := hrel
    by_cases hlt : j < l0.length ∧ j < 8
    · obtain ⟨hlt, hlt8⟩ := hlt
      obtain ⟨l, hlq⟩ : ∃ l, l0.take j = l := ⟨_, rfl⟩
      have hlen : l.length = j := by rw [← hlq]; simp; omega
      have hnx := Lib.hid (show l ++ [l0[j]] = l0.take (j + 1) by rw [← hlq, List.take_add_one, List.getElem?_eq_getElem hlt]; rfl)
      rw [hlq] at hrl
      subst hlen
      obtain ⟨Av, cv, rfl⟩ := hrl.out.row.shape
      obtain ⟨sg, cap0, u, he, hgl, hBg, hcap, hat, hu⟩ := h0'.out.at_ hlt
      simp only [Value.slice.injEq, true_and] at he
      obtain ⟨rfl, rfl⟩ := he
      obtain ⟨s, hs⟩ : ∃ s, l0[l.length] = s := ⟨_, rfl⟩
      have hok1 := Lib.hid (hok'.out _ (List.getElem_mem hlt))
      rw [hs] at hu hok1 hnx
      have hok := hok1
      obtain ⟨un, ua, ul, uc, ub, ut, rfl⟩ := hu.form
      obtain ⟨sk, hsk⟩ : ∃ sk, s.kind = sk := ⟨_, rfl⟩
      rw [hsk] at hu hat
      have hy := Lib.hid hu
      have hat := Lib.hid hat
      have hln := Lib.hid (show l.length ≤ 1000000 by omega)
      clear hs hsk hu hlq hok1
      go_upto_region 5 with fail
      refine Reg.via_rel (fun V W => I5 w w.heap.size (.slice Av l.length cv) l s (.slice (some ⟨sg, 0, none⟩) l0.length c0) sg l.length ⟨.int .i64 sk, .bool un, .slice ua ul uc, .int .u64 ub, .string ut, .slice none 0 0⟩ (fun j => decide (j < 12)) V W) (fun V a0 => Reg.fill (Reg.dstOf [some 27, some 28, some 29, some 30, some 31, some 32, some 33, some 34, some 35, some 36, none, none]) V 12 a0) (fun a0 => a0.tmps.size = 99 ∧ a0.eval (.tmp 7) = .pointer (some ⟨w.heap.size, 0, none⟩) ∧ a0.eval (.tmp 0) = .slice (some ⟨sg, 0, none⟩) l0.length c0 ∧ a0.eval (.tmp 8) = .int .i64 l.length) ⟨rfl, rfl, rfl, rfl⟩ ?h1 ?h2
      case h1 =>
        go_light
        rintro af Q' ⟨zsz, e7, e0, e8⟩ hQ
        have b7 : ∀ a' v f, Reg.Held af (Reg.dstOf [some 27, some 28, some 29, some 30, some 31, some 32, some 33, some 34, some 35, some 36, none, none]) v f a' → a'.eval (.tmp 7) = .pointer (some ⟨w.heap.size, 0, none⟩) := fun a' v f hH => (hH.rest 7 fun k d _ hd => Reg.dstOf_ne _ 7 (by decide +kernel) hd).trans e7
        have b0 : ∀ a' v f, Reg.Held af (Reg.dstOf [some 27, some 28, some 29, some 30, some 31, some 32, some 33, some 34, some 35, some 36, none, none]) v f a' → a'.eval (.tmp 0) = .slice (some ⟨sg, 0, none⟩) l0.length c0 := fun a' v f hH => (hH.rest 0 fun k d _ hd => Reg.dstOf_ne _ 0 (by decide +kernel) hd).trans e0
        have b8 : ∀ a' v f, Reg.Held af (Reg.dstOf [some 27, some 28, some 29, some 30, some 31, some 32, some 33, some 34, some 35, some 36, none, none]) v f a' → a'.eval (.tmp 8) = .int .i64 l.length := fun a' v f hH => (hH.rest 8 fun k d _ hd => Reg.dstOf_ne _ 8 (by decide +kernel) hd).trans e8
        refine Reg.wp_region_rel (by kernel_rfl) (by decide +kernel) 12 rfl (Reg.dstOf [some 27, some 28, some 29, some 30, some 31, some 32, some 33, some 34, some 35, some 36, none, none]) (fun f V W => I5 w w.heap.size (.slice Av l.length cv) l s (.slice (some ⟨sg, 0, none⟩) l0.length c0) sg l.length ⟨.int .i64 sk, .bool un, .slice ua ul uc, .int .u64 ub, .string ut, .slice none 0 0⟩ f V W) ?h0 ?hops (Reg.dstOf_inj _ (by decide +kernel)) (fun k d hd => by rw [zsz]; exact Reg.dstOf_lt _ 99 (by decide +kernel) hd) ?hstep hQ
        case h0 =>
          exact ⟨⟨Box.below_drawn hbr.out 1, Nat.le_refl _, hrl.out.hold, (fun _ => hrl.out.row), (fun h => by cases h), (fun h => by cases h), (fun h => by cases h)⟩, (fun h => by cases h), (fun h => by cases h), (fun h => by cases h), (fun h => by cases h), (fun h => by cases h), (fun h => by cases h), (fun h => by cases h)⟩
        case hops =>
          intro oi o ho
          have hi : oi < 12 := (Array.getElem?_eq_some_iff.1 ho).1
          have hcs : oi = 0 ∨ oi = 1 ∨ oi = 2 ∨ oi = 3 ∨ oi = 4 ∨ oi = 5 ∨ oi = 6 ∨ oi = 7 ∨ oi = 8 ∨ oi = 9 ∨ oi = 10 ∨ oi = 11 := by omega
          rcases hcs with rfl | rfl | rfl | rfl | rfl | rfl | rfl | rfl | rfl | rfl | rfl | rfl
          all_goals
            obtain rfl := Option.some.inj ho
            exact ⟨rfl, rfl⟩
        case hstep =>
          intro f V a' Wx oi o hi ho hun hcl hdep hH hI K hK
          clear hQ
          have hcs : oi = 0 ∨ oi = 1 ∨ oi = 2 ∨ oi = 3 ∨ oi = 4 ∨ oi = 5 ∨ oi = 6 ∨ oi = 7 ∨ oi = 8 ∨ oi = 9 ∨ oi = 10 ∨ oi = 11 := by omega
          rcases hcs with rfl | rfl | rfl | rfl | rfl | rfl | rfl | rfl | rfl | rfl | rfl | rfl
          · obtain rfl := Option.some.inj ho
            have n11 : f 11 = false := (by cases h : f 11 with | false => rfl | true => (have h2 := (hcl 11 _ rfl h { on := 0, ground := .phase } (by simp) rfl); rw [hun] at h2; cases h2))
            have hh : Box.Holds Wx w.heap.size 26 #[.slice Av l.length cv] := (by have := hI.m.hold; rw [n11] at this; exact this)
            have l0c := hold0 hh
            have ll := hh.lt
            have g0 := Reg.tmp_at (b7 a' _ f hH)
            refine Reg.wp_value (.slice Av l.length cv) (w' := Wx) ?_ (hK _ _ ⟨hI.m, fun _ => rfl, hI.p1, hI.p2, hI.p3, hI.p4, hI.p6, hI.p9⟩)
            clear hK hI
            go_simp
          · obtain rfl := Option.some.inj ho
            have g0 := Reg.tmp_at (b0 a' _ f hH)
            refine Reg.wp_value (.slice (some ⟨sg, 0, none⟩) l0.length c0) (w' := Wx) ?_ (hK _ _ ⟨hI.m, hI.p0, fun _ => rfl, hI.p2, hI.p3, hI.p4, hI.p6, hI.p9⟩)
            clear hK hI
            go_simp
          · obtain rfl := Option.some.inj ho
            have g0 := Reg.tmp_at (b8 a' _ f hH)
            refine Reg.wp_value (.int .i64 l.length) (w' := Wx) ?_ (hK _ _ ⟨hI.m, hI.p0, hI.p1, fun _ => rfl, hI.p3, hI.p4, hI.p6, hI.p9⟩)
            clear hK hI
            go_simp
          · obtain rfl := Option.some.inj ho
            have g0 : a'.tmps[28]?.getD undef = .slice (some ⟨sg, 0, none⟩) l0.length c0 := Reg.tmp_at ((hH.got 1 28 (hdep { on := 1, ground := .data } (by simp) rfl) rfl).trans (hI.p1 (hdep { on := 1, ground := .data } (by simp) rfl)))
            have g1 : a'.tmps[29]?.getD undef = .int .i64 l.length := Reg.tmp_at ((hH.got 2 29 (hdep { on := 2, ground := .data } (by simp) rfl) rfl).trans (hI.p2 (hdep { on := 2, ground := .data } (by simp) rfl)))
            refine Reg.wp_value (.pointer (some ⟨sg, l.length * 6, none⟩)) (w' := Wx) ?_ (hK _ _ ⟨hI.m, hI.p0, hI.p1, hI.p2, fun _ => rfl, hI.p4, hI.p6, hI.p9⟩)
            clear hK hI
            go_simp
          · obtain rfl := Option.some.inj ho
            obtain ⟨a0, a1, a2, a3, a4, a5⟩ := hat.out.later hI.m.below hgl
            simp only at a0 a1 a2 a3 a4 a5
            have hgx := Nat.lt_of_lt_of_le hgl hI.m.below.size
            have g0 : a'.tmps[30]?.getD undef = .pointer (some ⟨sg, l.length * 6, none⟩) := Reg.tmp_at ((hH.got 3 30 (hdep { on := 3, ground := .data } (by simp) rfl) rfl).trans (hI.p3 (hdep { on := 3, ground := .data } (by simp) rfl)))
            refine Reg.wp_value (.agg #[.int .i64 sk, .bool un, .slice ua ul uc, .int .u64 ub, .string ut, .slice none 0 0]) (w' := Wx) ?_ (hK _ _ ⟨hI.m, hI.p0, hI.p1, hI.p2, hI.p3, fun _ => rfl, hI.p6, hI.p9⟩)
            clear hK hI
            go_simp
          · obtain rfl := Option.some.inj ho
            have g0 : a'.tmps[31]?.getD undef = .agg #[.int .i64 sk, .bool un, .slice ua ul uc, .int .u64 ub, .string ut, .slice none 0 0] := Reg.tmp_at ((hH.got 4 31 (hdep { on := 4, ground := .data } (by simp) rfl) rfl).trans (hI.p4 (hdep { on := 4, ground := .data } (by simp) rfl)))
            refine Reg.wp_enter (fn := 29) (args := #[.agg #[.int .i64 sk, .bool un, .slice ua ul uc, .int .u64 ub, .string ut, .slice none 0 0], .int .i64 2]) (w' := Wx) ?_ ?_
            · clear hK hI
              go_simp
            · refine (clean2_any ⟨.int .i64 sk, .bool un, .slice ua ul uc, .int .u64 ub, .string ut, .slice none 0 0⟩ s Wx hok.out (hy.out.kept (Kept.of_below hI.m.below))).mono ?_
              rintro e w2 ⟨⟨x, rfl, hx⟩, hb⟩
              exact ⟨_, rfl, hK _ _ ⟨hI.m.clean hb x hx, hI.p0, hI.p1, hI.p2, hI.p3, hI.p4, hI.p6, hI.p9⟩⟩
          · obtain rfl := Option.some.inj ho
            have g0 : a'.tmps[27]?.getD undef = .slice Av l.length cv := Reg.tmp_at ((hH.got 0 27 (hdep { on := 0, ground := .data } (by simp) rfl) rfl).trans (hI.p0 (hdep { on := 0, ground := .data } (by simp) rfl)))
            refine Reg.wp_value (.int .i64 l.length) (w' := Wx) ?_ (hK _ _ ⟨hI.m, hI.p0, hI.p1, hI.p2, hI.p3, hI.p4, fun _ => rfl, hI.p9⟩)
            clear hK hI
            go_simp
          · obtain rfl := Option.some.inj ho
            have n8 : f 8 = false := (by cases h : f 8 with | false => rfl | true => (have h2 := (hcl 8 _ rfl h { on := 7, ground := .data } (by simp) rfl); rw [hun] at h2; cases h2))
            refine Reg.wp_value (.slice (some ⟨Wx.heap.size, 0, none⟩) 1 1) (w' := Wx.alloc (.cells nil6.arr 28)) ?_ (hK _ _ ⟨hI.m.zero n8, hI.p0, hI.p1, hI.p2, hI.p3, hI.p4, hI.p6, hI.p9⟩)
            clear hK hI
            unfold nil6 V6.arr
            go_simp
          · obtain rfl := Option.some.inj ho
            have n9 : f 9 = false := (by cases h : f 9 with | false => rfl | true => (have h2 := (hcl 9 _ rfl h { on := 8, ground := .data } (by simp) rfl); rw [hun] at h2; cases h2))
            have n10 : f 10 = false := (by cases h : f 10 with | false => rfl | true => (have h2 := (hcl 10 _ rfl h { on := 8, ground := .chain } (by simp) rfl); rw [hun] at h2; cases h2))
            have n11 : f 11 = false := (by cases h : f 11 with | false => rfl | true => (have h2 := (hcl 11 _ rfl h { on := 8, ground := .data } (by simp) rfl); rw [hun] at h2; cases h2))
            obtain ⟨gb, q7, hsrc⟩ := hI.m.src (hdep { on := 7, ground := .data } (by simp) rfl) hun
            have g0 : a'.tmps[27]?.getD undef = .slice Av l.length cv := Reg.tmp_at ((hH.got 0 27 (hdep { on := 0, ground := .data } (by simp) rfl) rfl).trans (hI.p0 (hdep { on := 0, ground := .data } (by simp) rfl)))
            have g1 := Reg.tmp_at ((hH.got 7 34 (hdep { on := 7, ground := .data } (by simp) rfl) rfl).trans q7)
            refine wp_zero (B := w.heap.size) (gb := gb) rfl _ _ rfl (.slice Av l.length cv) l ?_ (hI.m.row hun) hI.m.below.size hsrc ?_ hln.out ?_
            · clear hK hI
              go_simp
            · clear hK hI
              go_simp
            · intro g4 cap4 w4 hv4 hg4 hl4
              exact hK _ _ ⟨hI.m.append hun n10 n11 hv4 hg4, hI.p0, hI.p1, hI.p2, hI.p3, hI.p4, hI.p6, (fun h => by have h2 : f 9 = true := h; rw [n9] at h2; cases h2)⟩
          · obtain rfl := Option.some.inj ho
            obtain ⟨g, cap, q8, hv8⟩ := hI.m.app (hdep { on := 8, ground := .data } (by simp) rfl)
            have g0 := Reg.tmp_at ((hH.got 8 35 (hdep { on := 8, ground := .data } (by simp) rfl) rfl).trans q8)
            have g1 : a'.tmps[33]?.getD undef = .int .i64 l.length := Reg.tmp_at ((hH.got 6 33 (hdep { on := 6, ground := .data } (by simp) rfl) rfl).trans (hI.p6 (hdep { on := 6, ground := .data } (by simp) rfl)))
            refine Reg.wp_value (.pointer (some ⟨g, l.length * 6, none⟩)) (w' := Wx) ?_ (hK _ _ ⟨hI.m, hI.p0, hI.p1, hI.p2, hI.p3, hI.p4, hI.p6, fun _ => ⟨g, cap, q8, rfl⟩⟩)
            have hlt9 : (l.length : Int) < (l.length : Int) + 1 := (by omega)
            clear hK hI
            go_simp
          · obtain rfl := Option.some.inj ho
            obtain ⟨g, cap, q8, q9⟩ := hI.p9 (hdep { on := 9, ground := .data } (by simp) rfl)
            obtain ⟨x5, q5, hx5⟩ := hI.m.cln (hdep { on := 5, ground := .data } (by simp) rfl)
            obtain ⟨zn, za, zl, zc, zb, zt, rfl⟩ := hx5.form
            unfold V6.arr at q5
            have g0 := Reg.tmp_at ((hH.got 9 36 (hdep { on := 9, ground := .data } (by simp) rfl) rfl).trans q9)
            have g1 := Reg.tmp_at ((hH.got 5 32 (hdep { on := 5, ground := .data } (by simp) rfl) rfl).trans q5)
            obtain ⟨⟨a0, a1, a2, a3, a4, a5⟩, ⟨cg, hcg⟩, hm⟩ := hI.m.put10 (hdep { on := 5, ground := .data } (by simp) rfl) (hdep { on := 8, ground := .chain } (by simp) rfl) hun q5 hx5 q8
            refine Reg.wp_skip rfl ?_ (hK _ _ ⟨hm, hI.p0, hI.p1, hI.p2, hI.p3, hI.p4, hI.p6, hI.p9⟩)
            simp only [nil6] at a0 a1 a2 a3 a4 a5
            have gl := hcg.lt
            have gf0 := hcg.free (l.length * 6)
            have gf1 := hcg.free (l.length * 6 + 1)
            have gf2 := hcg.free (l.length * 6 + 2)
            have gf3 := hcg.free (l.length * 6 + 3)
            have gf4 := hcg.free (l.length * 6 + 4)
            have gf5 := hcg.free (l.length * 6 + 5)
            clear hK hI hm
            unfold six
            go_simp
          · obtain rfl := Option.some.inj ho
            have hh : Box.Holds Wx w.heap.size 26 #[.slice Av l.length cv] := (by have := hI.m.hold; rw [hun] at this; exact this)
            obtain ⟨g, cap, q8, hv8⟩ := hI.m.app (hdep { on := 8, ground := .data } (by simp) rfl)
            have l0c := hold0 hh
            have ll := hh.lt
            have lf := hh.free 0
            have g0 := Reg.tmp_at (b7 a' _ f hH)
            have g1 := Reg.tmp_at ((hH.got 8 35 (hdep { on := 8, ground := .data } (by simp) rfl) rfl).trans q8)
            have hm := hI.m.put11 (hdep { on := 8, ground := .data } (by simp) rfl) hun
            rw [q8] at hm
            refine Reg.wp_skip rfl ?_ (hK _ _ ⟨?_, hI.p0, hI.p1, hI.p2, hI.p3, hI.p4, hI.p6, hI.p9⟩) (w' := Wx.setCell ⟨w.heap.size, 0, none⟩ (.slice (some ⟨g, 0, none⟩) (l.length + 1) cap))
            · clear hK hI hm
              go_simp
            · show Mem5 _ _ _ _ _ (f 5) (f 7) (f 8) (f 10) true (V 5) (V 7) (V 8) _
              rw [q8]
              exact hm
      case h2 =>
        intro V W hI
        have hm := hI.m
        obtain ⟨g, cap, q8, hv8⟩ := hm.app rfl
        have hh : Box.Holds W w.heap.size 26 #[V 8] := hm.hold
        rw [q8] at hh hv8
        have hrl2 : Hid (Rl W w.heap.size w.heap.size (.slice (some ⟨g, 0, none⟩) (l.length + 1) cap) (l ++ [s])) := Lib.hid ⟨hh, hv8, Nat.le_refl _⟩
        have hbe := Lib.hid hm.below
        clear hm hI hh hv8 q8
        simp only [Reg.fill, Reg.dstOf, List.getD_cons_zero, List.getD_cons_succ, Act.put]
        simp [List.setIfInBounds_toArray, List.set_cons_succ, List.set_cons_zero]
        have hrl3 := Lib.hid (hnx.out ▸ hrl2.out)
        clear hrl2 hnx
        go_wp2
        go_roundw
        case rel => exact ⟨l.length + 1, _, by go_num, by omega, by omega, hrl3, hbe⟩
        case measure => simp [intOf]; omega
    · have hlj : l0.take j = l1 := by
        rw [← hl1]
        by_cases h8 : j < l0.length
        · obtain rfl : j = 8 := by omega
          rfl
        · rw [List.take_of_length_le (by omega), List.take_of_length_le (by omega)]
      rw [hlj] at hrl
      by_cases h1 : j < l0.length
      · have h2 : ¬ j < 8 := fun h => hlt ⟨h1, h⟩
        have h2' : decide ((j : Int) < 8) = false := by simp; omega
        go_wp2
        go_meet
        case rel => exact ⟨_, hrl, hbr⟩
      · go_wp2
        go_meet
        case rel => exact ⟨_, hrl, hbr⟩
  case rest =>
   obtain ⟨v, hrl, hbr⟩ := hcut
   have hl1l : l1.length ≤ 8 := by rw [← hl1]; simp; omega
   have hok1 := Lib.hid (show ∀ s ∈ l1, s.ok from fun s hs => hok'.out s (List.mem_of_mem_take (hl1 ▸ hs)))
   obtain ⟨Av, cv, rfl⟩ := hrl.out.row.shape
   have l0c := hold0 hrl.out.hold
   have ll := hrl.out.hold.lt
   have lf := hrl.out.hold.free 0
   have hBw := hbr.out.size
   have hln : l1.length ≤ 1000000 := by omega
   have hrow := Lib.hid hrl.out.row
   have hst := Lib.hid fun v5 w5 h1 h2 => start_rs (v9 := v5) (w5 := w5) hrl.out hbr.out h1 h2
   clear hrl hok' hl1
   go_wp2_with (at_builtin; refine wpList_vcopy rfl _ _ rfl rfl (.slice Av l1.length cv) l1 hrow.out rfl hln ?_; intro v5 w5 hv5 hb5; have hst5 := Lib.hid (hst.out v5 w5 hv5 hb5); have hl5 := hb5.size; clear hst hv5 hb5)
   go_loopw [11, 12, 13] (fun u o i wr => ∃ (j : Nat) (vl va : Value) (st : St) (S : List Sp) (A : List An) (T : Nat → St), i = .int .i64 j ∧ j ≤ R.length ∧ j ≤ 60 ∧ S.length = j ∧ T 0 = ⟨l1, false, []⟩ ∧ T j = st ∧ Hid (Run T S A) ∧ Hid (Rs w l1 v5 w.heap.size w5.heap.size vl va u o st S A wr))
     (fun _ _ i _ => 60 - (intOf i).toNat)
   case atStart => exact ⟨0, _, _, _, [], [], fun _ => ⟨l1, false, []⟩, rfl, Nat.zero_le _, Nat.zero_le _, rfl, rfl, rfl, Lib.hid (Run.nil _), hst5⟩
   case round =>
    clear hst5 l0c ll lf hrow hbr
    obtain ⟨j, vl, va, st, S, A, T, rfl, hj, hj60, hSl, hT0, hTj, hRun, hrs⟩ := hrel
    have hin := Lib.hid (hRun.out.in_ (n := 8) (by rw [hT0]; exact ⟨hok1.out, hl1l, Nat.zero_le _, fun i p h => by simp at h⟩) j (by omega))
    rw [hTj] at hin
    by_cases hlt : j < R.length ∧ j < 60
    · obtain ⟨hlt, hlt60⟩ := hlt
      obtain ⟨sb, cap, y, z, he, hbl, hcap, hy, hz, hcs⟩ := raws_at hR'.out hlt
      simp only [Value.slice.injEq, true_and] at he
      obtain ⟨rfl, rfl⟩ := he
      have hgd := Lib.hid (hRg'.out _ (List.getElem_mem hlt))
      obtain ⟨r, hr⟩ : ∃ r, R[j] = r := ⟨_, rfl⟩
      rw [hr] at hy hz hcs hgd
      have hcs := Lib.hid hcs
      have hbr := hrs.out.below
      have hy := Lib.hid hy
      have hz := Lib.hid hz
      obtain ⟨Au, cu, hue⟩ := hrs.out.s.shape
      obtain ⟨Ao, co, hoe⟩ := hrs.out.a.shape
      rw [hSl] at hue
      rw [show A.length = j from hRun.out.len.trans hSl] at hoe
      subst hue hoe
      obtain ⟨Av2, cv2, rfl⟩ := hrs.out.l.row.shape
      clear hRg'
      go_upto_region 13 with fail
      refine Reg.via_rel (fun V W => I13 w wr sb j (.slice (some ⟨sb, 0, none⟩) R.length c1) r (fun j => decide (j < 23)) V W) (fun V a0 => Reg.fill (Reg.dstOf [some 52, some 53, some 54, some 55, some 56, some 57, some 58, some 59, some 60, some 61, some 62, some 63, some 64, some 65, some 66, some 67, some 68, some 69, some 70, some 71, some 72, some 14, none]) V 23 a0) (fun a0 => a0.tmps.size = 99 ∧ a0.eval (.tmp 1) = .slice (some ⟨sb, 0, none⟩) R.length c1 ∧ a0.eval (.tmp 13) = .int .i64 j) ⟨rfl, rfl, rfl⟩ ?h1 ?h2
      case h1 =>
        go_light
        rintro af Q' ⟨zsz, e1, e13⟩ hQ
        have b1 : ∀ a' v f, Reg.Held af (Reg.dstOf [some 52, some 53, some 54, some 55, some 56, some 57, some 58, some 59, some 60, some 61, some 62, some 63, some 64, some 65, some 66, some 67, some 68, some 69, some 70, some 71, some 72, some 14, none]) v f a' → a'.eval (.tmp 1) = .slice (some ⟨sb, 0, none⟩) R.length c1 := fun a' v f hH => (hH.rest 1 fun k d _ hd => Reg.dstOf_ne _ 1 (by decide +kernel) hd).trans e1
        have b13 : ∀ a' v f, Reg.Held af (Reg.dstOf [some 52, some 53, some 54, some 55, some 56, some 57, some 58, some 59, some 60, some 61, some 62, some 63, some 64, some 65, some 66, some 67, some 68, some 69, some 70, some 71, some 72, some 14, none]) v f a' → a'.eval (.tmp 13) = .int .i64 j := fun a' v f hH => (hH.rest 13 fun k d _ hd => Reg.dstOf_ne _ 13 (by decide +kernel) hd).trans e13
        refine Reg.wp_region_rel (by kernel_rfl) (by decide +kernel) 23 rfl (Reg.dstOf [some 52, some 53, some 54, some 55, some 56, some 57, some 58, some 59, some 60, some 61, some 62, some 63, some 64, some 65, some 66, some 67, some 68, some 69, some 70, some 71, some 72, some 14, none]) (fun f V W => I13 w wr sb j (.slice (some ⟨sb, 0, none⟩) R.length c1) r f V W) ?h0 ?hops (Reg.dstOf_inj _ (by decide +kernel)) (fun k d hd => by rw [zsz]; exact Reg.dstOf_lt _ 99 (by decide +kernel) hd) ?hstep hQ
        case h0 =>
          exact ⟨by simp, hbr.drew, (fun h => by cases h), (fun h => by cases h), (fun h => by cases h), (fun h => by cases h), (fun h => by cases h), (fun h => by cases h), (fun h => by cases h), (fun h => by cases h), (fun h => by cases h), (fun h => by cases h), (fun h => by cases h), (fun h => by cases h), (fun h => by cases h), (fun h => by cases h), (fun h => by cases h), (fun h => by cases h), (fun h => by cases h), (fun h => by cases h), (fun h => by cases h), (fun h => by cases h), (fun h => by cases h), (fun h => by cases h)⟩
        case hops =>
          intro oi o ho
          have hi : oi < 23 := (Array.getElem?_eq_some_iff.1 ho).1
          have hcs : oi = 0 ∨ oi = 1 ∨ oi = 2 ∨ oi = 3 ∨ oi = 4 ∨ oi = 5 ∨ oi = 6 ∨ oi = 7 ∨ oi = 8 ∨ oi = 9 ∨ oi = 10 ∨ oi = 11 ∨ oi = 12 ∨ oi = 13 ∨ oi = 14 ∨ oi = 15 ∨ oi = 16 ∨ oi = 17 ∨ oi = 18 ∨ oi = 19 ∨ oi = 20 ∨ oi = 21 ∨ oi = 22 := by omega
          rcases hcs with rfl | rfl | rfl | rfl | rfl | rfl | rfl | rfl | rfl | rfl | rfl | rfl | rfl | rfl | rfl | rfl | rfl | rfl | rfl | rfl | rfl | rfl | rfl
          all_goals
            obtain rfl := Option.some.inj ho
            exact ⟨rfl, rfl⟩
        case hstep =>
          intro f V a' Wx oi o hi ho hun hcl hdep hH hI K hK
          clear hQ
          have hcs : oi = 0 ∨ oi = 1 ∨ oi = 2 ∨ oi = 3 ∨ oi = 4 ∨ oi = 5 ∨ oi = 6 ∨ oi = 7 ∨ oi = 8 ∨ oi = 9 ∨ oi = 10 ∨ oi = 11 ∨ oi = 12 ∨ oi = 13 ∨ oi = 14 ∨ oi = 15 ∨ oi = 16 ∨ oi = 17 ∨ oi = 18 ∨ oi = 19 ∨ oi = 20 ∨ oi = 21 ∨ oi = 22 := by omega
          rcases hcs with rfl | rfl | rfl | rfl | rfl | rfl | rfl | rfl | rfl | rfl | rfl | rfl | rfl | rfl | rfl | rfl | rfl | rfl | rfl | rfl | rfl | rfl | rfl
          · obtain rfl := Option.some.inj ho
            have g0 := Reg.tmp_at (b1 a' _ f hH)
            refine Reg.wp_value (.slice (some ⟨sb, 0, none⟩) R.length c1) (w' := Wx) ?_ (hK _ _ ⟨hI.m, hI.b, fun _ => rfl, hI.p1, hI.p2, hI.p3, hI.p4, hI.p5, hI.p6, hI.p7, hI.p8, hI.p9, hI.p10, hI.p11, hI.p12, hI.p13, hI.p14, hI.p15, hI.p16, hI.p17, hI.p18, hI.p19, hI.p20, hI.p21⟩)
            clear hK hI
            go_simp
          · obtain rfl := Option.some.inj ho
            have g0 := Reg.tmp_at (b13 a' _ f hH)
            refine Reg.wp_value (.int .i64 j) (w' := Wx) ?_ (hK _ _ ⟨hI.m, hI.b, hI.p0, fun _ => rfl, hI.p2, hI.p3, hI.p4, hI.p5, hI.p6, hI.p7, hI.p8, hI.p9, hI.p10, hI.p11, hI.p12, hI.p13, hI.p14, hI.p15, hI.p16, hI.p17, hI.p18, hI.p19, hI.p20, hI.p21⟩)
            clear hK hI
            go_simp
          · obtain rfl := Option.some.inj ho
            have g0 : a'.tmps[52]?.getD undef = .slice (some ⟨sb, 0, none⟩) R.length c1 := Reg.tmp_at ((hH.got 0 52 (hdep { on := 0, ground := .data } (by simp) rfl) rfl).trans (hI.p0 (hdep { on := 0, ground := .data } (by simp) rfl)))
            have g1 : a'.tmps[53]?.getD undef = .int .i64 j := Reg.tmp_at ((hH.got 1 53 (hdep { on := 1, ground := .data } (by simp) rfl) rfl).trans (hI.p1 (hdep { on := 1, ground := .data } (by simp) rfl)))
            refine Reg.wp_value (.pointer (some ⟨sb, j * 17, none⟩)) (w' := Wx) ?_ (hK _ _ ⟨hI.m, hI.b, hI.p0, hI.p1, fun _ => rfl, hI.p3, hI.p4, hI.p5, hI.p6, hI.p7, hI.p8, hI.p9, hI.p10, hI.p11, hI.p12, hI.p13, hI.p14, hI.p15, hI.p16, hI.p17, hI.p18, hI.p19, hI.p20, hI.p21⟩)
            clear hK hI
            go_simp
          · obtain rfl := Option.some.inj ho
            have g0 : a'.tmps[54]?.getD undef = .pointer (some ⟨sb, j * 17, none⟩) := Reg.tmp_at ((hH.got 2 54 (hdep { on := 2, ground := .data } (by simp) rfl) rfl).trans (hI.p2 (hdep { on := 2, ground := .data } (by simp) rfl)))
            refine Reg.wp_value (.pointer (some ⟨sb, j * 17, none⟩)) (w' := Wx) ?_ (hK _ _ ⟨hI.m, hI.b, hI.p0, hI.p1, hI.p2, fun _ => rfl, hI.p4, hI.p5, hI.p6, hI.p7, hI.p8, hI.p9, hI.p10, hI.p11, hI.p12, hI.p13, hI.p14, hI.p15, hI.p16, hI.p17, hI.p18, hI.p19, hI.p20, hI.p21⟩)
            clear hK hI
            go_simp
          · obtain rfl := Option.some.inj ho
            have c0 : Wx.cell? ⟨sb, j * 17, none⟩ = some (.int .i64 r.k) := (hI.b.cell (p := ⟨sb, j * 17, none⟩) hbl).trans (hcs.out 0 _ rfl)
            have hgx := Nat.lt_of_lt_of_le hbl hI.b.size
            have g0 : a'.tmps[55]?.getD undef = .pointer (some ⟨sb, j * 17, none⟩) := Reg.tmp_at ((hH.got 3 55 (hdep { on := 3, ground := .data } (by simp) rfl) rfl).trans (hI.p3 (hdep { on := 3, ground := .data } (by simp) rfl)))
            refine Reg.wp_value (.int .i64 r.k) (w' := Wx) ?_ (hK _ _ ⟨hI.m, hI.b, hI.p0, hI.p1, hI.p2, hI.p3, fun _ => rfl, hI.p5, hI.p6, hI.p7, hI.p8, hI.p9, hI.p10, hI.p11, hI.p12, hI.p13, hI.p14, hI.p15, hI.p16, hI.p17, hI.p18, hI.p19, hI.p20, hI.p21⟩)
            clear hK hI
            go_simp
          · obtain rfl := Option.some.inj ho
            have g0 := Reg.tmp_at (b1 a' _ f hH)
            refine Reg.wp_value (.slice (some ⟨sb, 0, none⟩) R.length c1) (w' := Wx) ?_ (hK _ _ ⟨hI.m, hI.b, hI.p0, hI.p1, hI.p2, hI.p3, hI.p4, fun _ => rfl, hI.p6, hI.p7, hI.p8, hI.p9, hI.p10, hI.p11, hI.p12, hI.p13, hI.p14, hI.p15, hI.p16, hI.p17, hI.p18, hI.p19, hI.p20, hI.p21⟩)
            clear hK hI
            go_simp
          · obtain rfl := Option.some.inj ho
            have g0 := Reg.tmp_at (b13 a' _ f hH)
            refine Reg.wp_value (.int .i64 j) (w' := Wx) ?_ (hK _ _ ⟨hI.m, hI.b, hI.p0, hI.p1, hI.p2, hI.p3, hI.p4, hI.p5, fun _ => rfl, hI.p7, hI.p8, hI.p9, hI.p10, hI.p11, hI.p12, hI.p13, hI.p14, hI.p15, hI.p16, hI.p17, hI.p18, hI.p19, hI.p20, hI.p21⟩)
            clear hK hI
            go_simp
          · obtain rfl := Option.some.inj ho
            have g0 : a'.tmps[57]?.getD undef = .slice (some ⟨sb, 0, none⟩) R.length c1 := Reg.tmp_at ((hH.got 5 57 (hdep { on := 5, ground := .data } (by simp) rfl) rfl).trans (hI.p5 (hdep { on := 5, ground := .data } (by simp) rfl)))
            have g1 : a'.tmps[58]?.getD undef = .int .i64 j := Reg.tmp_at ((hH.got 6 58 (hdep { on := 6, ground := .data } (by simp) rfl) rfl).trans (hI.p6 (hdep { on := 6, ground := .data } (by simp) rfl)))
            refine Reg.wp_value (.pointer (some ⟨sb, j * 17, none⟩)) (w' := Wx) ?_ (hK _ _ ⟨hI.m, hI.b, hI.p0, hI.p1, hI.p2, hI.p3, hI.p4, hI.p5, hI.p6, fun _ => rfl, hI.p8, hI.p9, hI.p10, hI.p11, hI.p12, hI.p13, hI.p14, hI.p15, hI.p16, hI.p17, hI.p18, hI.p19, hI.p20, hI.p21⟩)
            clear hK hI
            go_simp
          · obtain rfl := Option.some.inj ho
            have g0 : a'.tmps[59]?.getD undef = .pointer (some ⟨sb, j * 17, none⟩) := Reg.tmp_at ((hH.got 7 59 (hdep { on := 7, ground := .data } (by simp) rfl) rfl).trans (hI.p7 (hdep { on := 7, ground := .data } (by simp) rfl)))
            refine Reg.wp_value (.pointer (some ⟨sb, j * 17 + 1, none⟩)) (w' := Wx) ?_ (hK _ _ ⟨hI.m, hI.b, hI.p0, hI.p1, hI.p2, hI.p3, hI.p4, hI.p5, hI.p6, hI.p7, fun _ => rfl, hI.p9, hI.p10, hI.p11, hI.p12, hI.p13, hI.p14, hI.p15, hI.p16, hI.p17, hI.p18, hI.p19, hI.p20, hI.p21⟩)
            clear hK hI
            go_simp
          · obtain rfl := Option.some.inj ho
            have c0 : Wx.cell? ⟨sb, j * 17 + 1, none⟩ = some (.int .i64 r.i) := (hI.b.cell (p := ⟨sb, j * 17 + 1, none⟩) hbl).trans (hcs.out 1 _ rfl)
            have hgx := Nat.lt_of_lt_of_le hbl hI.b.size
            have g0 : a'.tmps[60]?.getD undef = .pointer (some ⟨sb, j * 17 + 1, none⟩) := Reg.tmp_at ((hH.got 8 60 (hdep { on := 8, ground := .data } (by simp) rfl) rfl).trans (hI.p8 (hdep { on := 8, ground := .data } (by simp) rfl)))
            refine Reg.wp_value (.int .i64 r.i) (w' := Wx) ?_ (hK _ _ ⟨hI.m, hI.b, hI.p0, hI.p1, hI.p2, hI.p3, hI.p4, hI.p5, hI.p6, hI.p7, hI.p8, fun _ => rfl, hI.p10, hI.p11, hI.p12, hI.p13, hI.p14, hI.p15, hI.p16, hI.p17, hI.p18, hI.p19, hI.p20, hI.p21⟩)
            clear hK hI
            go_simp
          · obtain rfl := Option.some.inj ho
            have g0 := Reg.tmp_at (b1 a' _ f hH)
            refine Reg.wp_value (.slice (some ⟨sb, 0, none⟩) R.length c1) (w' := Wx) ?_ (hK _ _ ⟨hI.m, hI.b, hI.p0, hI.p1, hI.p2, hI.p3, hI.p4, hI.p5, hI.p6, hI.p7, hI.p8, hI.p9, fun _ => rfl, hI.p11, hI.p12, hI.p13, hI.p14, hI.p15, hI.p16, hI.p17, hI.p18, hI.p19, hI.p20, hI.p21⟩)
            clear hK hI
            go_simp
          · obtain rfl := Option.some.inj ho
            have g0 := Reg.tmp_at (b13 a' _ f hH)
            refine Reg.wp_value (.int .i64 j) (w' := Wx) ?_ (hK _ _ ⟨hI.m, hI.b, hI.p0, hI.p1, hI.p2, hI.p3, hI.p4, hI.p5, hI.p6, hI.p7, hI.p8, hI.p9, hI.p10, fun _ => rfl, hI.p12, hI.p13, hI.p14, hI.p15, hI.p16, hI.p17, hI.p18, hI.p19, hI.p20, hI.p21⟩)
            clear hK hI
            go_simp
          · obtain rfl := Option.some.inj ho
            have g0 : a'.tmps[62]?.getD undef = .slice (some ⟨sb, 0, none⟩) R.length c1 := Reg.tmp_at ((hH.got 10 62 (hdep { on := 10, ground := .data } (by simp) rfl) rfl).trans (hI.p10 (hdep { on := 10, ground := .data } (by simp) rfl)))
            have g1 : a'.tmps[63]?.getD undef = .int .i64 j := Reg.tmp_at ((hH.got 11 63 (hdep { on := 11, ground := .data } (by simp) rfl) rfl).trans (hI.p11 (hdep { on := 11, ground := .data } (by simp) rfl)))
            refine Reg.wp_value (.pointer (some ⟨sb, j * 17, none⟩)) (w' := Wx) ?_ (hK _ _ ⟨hI.m, hI.b, hI.p0, hI.p1, hI.p2, hI.p3, hI.p4, hI.p5, hI.p6, hI.p7, hI.p8, hI.p9, hI.p10, hI.p11, fun _ => rfl, hI.p13, hI.p14, hI.p15, hI.p16, hI.p17, hI.p18, hI.p19, hI.p20, hI.p21⟩)
            clear hK hI
            go_simp
          · obtain rfl := Option.some.inj ho
            have g0 : a'.tmps[64]?.getD undef = .pointer (some ⟨sb, j * 17, none⟩) := Reg.tmp_at ((hH.got 12 64 (hdep { on := 12, ground := .data } (by simp) rfl) rfl).trans (hI.p12 (hdep { on := 12, ground := .data } (by simp) rfl)))
            refine Reg.wp_value (.pointer (some ⟨sb, j * 17 + 2, none⟩)) (w' := Wx) ?_ (hK _ _ ⟨hI.m, hI.b, hI.p0, hI.p1, hI.p2, hI.p3, hI.p4, hI.p5, hI.p6, hI.p7, hI.p8, hI.p9, hI.p10, hI.p11, hI.p12, fun _ => rfl, hI.p14, hI.p15, hI.p16, hI.p17, hI.p18, hI.p19, hI.p20, hI.p21⟩)
            clear hK hI
            go_simp
          · obtain rfl := Option.some.inj ho
            have c0 : Wx.cell? ⟨sb, j * 17 + 2, none⟩ = some (.int .i64 r.j) := (hI.b.cell (p := ⟨sb, j * 17 + 2, none⟩) hbl).trans (hcs.out 2 _ rfl)
            have hgx := Nat.lt_of_lt_of_le hbl hI.b.size
            have g0 : a'.tmps[65]?.getD undef = .pointer (some ⟨sb, j * 17 + 2, none⟩) := Reg.tmp_at ((hH.got 13 65 (hdep { on := 13, ground := .data } (by simp) rfl) rfl).trans (hI.p13 (hdep { on := 13, ground := .data } (by simp) rfl)))
            refine Reg.wp_value (.int .i64 r.j) (w' := Wx) ?_ (hK _ _ ⟨hI.m, hI.b, hI.p0, hI.p1, hI.p2, hI.p3, hI.p4, hI.p5, hI.p6, hI.p7, hI.p8, hI.p9, hI.p10, hI.p11, hI.p12, hI.p13, fun _ => rfl, hI.p15, hI.p16, hI.p17, hI.p18, hI.p19, hI.p20, hI.p21⟩)
            clear hK hI
            go_simp
          · obtain rfl := Option.some.inj ho
            have g0 := Reg.tmp_at (b1 a' _ f hH)
            refine Reg.wp_value (.slice (some ⟨sb, 0, none⟩) R.length c1) (w' := Wx) ?_ (hK _ _ ⟨hI.m, hI.b, hI.p0, hI.p1, hI.p2, hI.p3, hI.p4, hI.p5, hI.p6, hI.p7, hI.p8, hI.p9, hI.p10, hI.p11, hI.p12, hI.p13, hI.p14, fun _ => rfl, hI.p16, hI.p17, hI.p18, hI.p19, hI.p20, hI.p21⟩)
            clear hK hI
            go_simp
          · obtain rfl := Option.some.inj ho
            have g0 := Reg.tmp_at (b13 a' _ f hH)
            refine Reg.wp_value (.int .i64 j) (w' := Wx) ?_ (hK _ _ ⟨hI.m, hI.b, hI.p0, hI.p1, hI.p2, hI.p3, hI.p4, hI.p5, hI.p6, hI.p7, hI.p8, hI.p9, hI.p10, hI.p11, hI.p12, hI.p13, hI.p14, hI.p15, fun _ => rfl, hI.p17, hI.p18, hI.p19, hI.p20, hI.p21⟩)
            clear hK hI
            go_simp
          · obtain rfl := Option.some.inj ho
            have g0 : a'.tmps[67]?.getD undef = .slice (some ⟨sb, 0, none⟩) R.length c1 := Reg.tmp_at ((hH.got 15 67 (hdep { on := 15, ground := .data } (by simp) rfl) rfl).trans (hI.p15 (hdep { on := 15, ground := .data } (by simp) rfl)))
            have g1 : a'.tmps[68]?.getD undef = .int .i64 j := Reg.tmp_at ((hH.got 16 68 (hdep { on := 16, ground := .data } (by simp) rfl) rfl).trans (hI.p16 (hdep { on := 16, ground := .data } (by simp) rfl)))
            refine Reg.wp_value (.pointer (some ⟨sb, j * 17, none⟩)) (w' := Wx) ?_ (hK _ _ ⟨hI.m, hI.b, hI.p0, hI.p1, hI.p2, hI.p3, hI.p4, hI.p5, hI.p6, hI.p7, hI.p8, hI.p9, hI.p10, hI.p11, hI.p12, hI.p13, hI.p14, hI.p15, hI.p16, fun _ => rfl, hI.p18, hI.p19, hI.p20, hI.p21⟩)
            clear hK hI
            go_simp
          · obtain rfl := Option.some.inj ho
            have g0 : a'.tmps[69]?.getD undef = .pointer (some ⟨sb, j * 17, none⟩) := Reg.tmp_at ((hH.got 17 69 (hdep { on := 17, ground := .data } (by simp) rfl) rfl).trans (hI.p17 (hdep { on := 17, ground := .data } (by simp) rfl)))
            refine Reg.wp_value (.pointer (some ⟨sb, j * 17 + 3, none⟩)) (w' := Wx) ?_ (hK _ _ ⟨hI.m, hI.b, hI.p0, hI.p1, hI.p2, hI.p3, hI.p4, hI.p5, hI.p6, hI.p7, hI.p8, hI.p9, hI.p10, hI.p11, hI.p12, hI.p13, hI.p14, hI.p15, hI.p16, hI.p17, fun _ => rfl, hI.p19, hI.p20, hI.p21⟩)
            clear hK hI
            go_simp
          · obtain rfl := Option.some.inj ho
            have c0 : Wx.cell? ⟨sb, j * 17 + 3, none⟩ = some (.int .i64 r.m) := (hI.b.cell (p := ⟨sb, j * 17 + 3, none⟩) hbl).trans (hcs.out 3 _ rfl)
            have hgx := Nat.lt_of_lt_of_le hbl hI.b.size
            have g0 : a'.tmps[70]?.getD undef = .pointer (some ⟨sb, j * 17 + 3, none⟩) := Reg.tmp_at ((hH.got 18 70 (hdep { on := 18, ground := .data } (by simp) rfl) rfl).trans (hI.p18 (hdep { on := 18, ground := .data } (by simp) rfl)))
            refine Reg.wp_value (.int .i64 r.m) (w' := Wx) ?_ (hK _ _ ⟨hI.m, hI.b, hI.p0, hI.p1, hI.p2, hI.p3, hI.p4, hI.p5, hI.p6, hI.p7, hI.p8, hI.p9, hI.p10, hI.p11, hI.p12, hI.p13, hI.p14, hI.p15, hI.p16, hI.p17, hI.p18, fun _ => rfl, hI.p20, hI.p21⟩)
            clear hK hI
            go_simp
          · obtain rfl := Option.some.inj ho
            have g0 : a'.tmps[56]?.getD undef = .int .i64 r.k := Reg.tmp_at ((hH.got 4 56 (hdep { on := 4, ground := .data } (by simp) rfl) rfl).trans (hI.p4 (hdep { on := 4, ground := .data } (by simp) rfl)))
            have g1 : a'.tmps[61]?.getD undef = .int .i64 r.i := Reg.tmp_at ((hH.got 9 61 (hdep { on := 9, ground := .data } (by simp) rfl) rfl).trans (hI.p9 (hdep { on := 9, ground := .data } (by simp) rfl)))
            have g2 : a'.tmps[66]?.getD undef = .int .i64 r.j := Reg.tmp_at ((hH.got 14 66 (hdep { on := 14, ground := .data } (by simp) rfl) rfl).trans (hI.p14 (hdep { on := 14, ground := .data } (by simp) rfl)))
            have g3 : a'.tmps[71]?.getD undef = .int .i64 r.m := Reg.tmp_at ((hH.got 19 71 (hdep { on := 19, ground := .data } (by simp) rfl) rfl).trans (hI.p19 (hdep { on := 19, ground := .data } (by simp) rfl)))
            refine Reg.wp_value (.agg (stepCs r.k r.i r.j r.m nil6)) (w' := Wx) ?_ (hK _ _ ⟨hI.m, hI.b, hI.p0, hI.p1, hI.p2, hI.p3, hI.p4, hI.p5, hI.p6, hI.p7, hI.p8, hI.p9, hI.p10, hI.p11, hI.p12, hI.p13, hI.p14, hI.p15, hI.p16, hI.p17, hI.p18, hI.p19, fun _ => rfl, hI.p21⟩)
            clear hK hI
            unfold stepCs nil6
            go_simp
          · obtain rfl := Option.some.inj ho
            have n22 : f 22 = false := (by cases h : f 22 with | false => rfl | true => (have h2 := (hcl 22 _ rfl h { on := 21, ground := .data } (by simp) rfl); rw [hun] at h2; cases h2))
            have hm := hI.m
            rw [if_neg (by rw [n22]; decide), if_neg (by rw [hun]; decide)] at hm
            subst hm
            refine Reg.wp_value (.pointer (some ⟨wr.heap.size, 0, none⟩)) (w' := wr.drew.alloc (.cells (stepCs 0 0 0 0 nil6) 62)) ?_ (hK _ _ ⟨?_, ?_, hI.p0, hI.p1, hI.p2, hI.p3, hI.p4, hI.p5, hI.p6, hI.p7, hI.p8, hI.p9, hI.p10, hI.p11, hI.p12, hI.p13, hI.p14, hI.p15, hI.p16, hI.p17, hI.p18, hI.p19, hI.p20, fun _ => rfl⟩)
            · clear hK hI
              unfold stepCs nil6
              go_simp
            · show _ = if f 22 = true then _ else if true = true then _ else _
              rw [if_neg (by rw [n22]; decide), if_pos rfl]
            · exact hI.b.trans ((Ref.below_one' _ (Nat.le_refl _)).mono hI.b.size)
          · obtain rfl := Option.some.inj ho
            have g0 : a'.tmps[14]?.getD undef = .pointer (some ⟨wr.heap.size, 0, none⟩) := Reg.tmp_at ((hH.got 21 14 (hdep { on := 21, ground := .data } (by simp) rfl) rfl).trans (hI.p21 (hdep { on := 21, ground := .data } (by simp) rfl)))
            have g1 : a'.tmps[72]?.getD undef = .agg (stepCs r.k r.i r.j r.m nil6) := Reg.tmp_at ((hH.got 20 72 (hdep { on := 20, ground := .data } (by simp) rfl) rfl).trans (hI.p20 (hdep { on := 20, ground := .data } (by simp) rfl)))
            have d21 : f 21 = true := (hdep { on := 21, ground := .data } (by simp) rfl)
            have hm := hI.m
            rw [if_neg (by rw [hun]; decide), if_pos d21] at hm
            refine Reg.wp_skip rfl (w' := wr.drew.alloc (.cells (stepCs r.k r.i r.j r.m nil6) 62)) ?_ (hK _ _ ⟨?_, ?_, hI.p0, hI.p1, hI.p2, hI.p3, hI.p4, hI.p5, hI.p6, hI.p7, hI.p8, hI.p9, hI.p10, hI.p11, hI.p12, hI.p13, hI.p14, hI.p15, hI.p16, hI.p17, hI.p18, hI.p19, hI.p20, hI.p21⟩)
            · subst hm
              clear hK hI
              unfold stepCs nil6
              unfold stepCs nil6 at g1
              go_simp
            · show _ = if true = true then _ else _
              rw [if_pos rfl]
            · exact hbr.drew.trans ((Ref.below_one' _ (Nat.le_refl _)).mono hbr.size)
      case h2 =>
        intro V W hI
        have hm := hI.m
        rw [if_pos (by decide)] at hm
        have q21 := hI.p21 (by decide)
        subst hm
        clear hI
        simp only [Reg.fill, Reg.dstOf, List.getD_cons_zero, List.getD_cons_succ, Act.put]
        simp [List.setIfInBounds_toArray, List.set_cons_succ, List.set_cons_zero]
        rw [q21]
        have hal : Below wr.heap.size wr (wr.drew.alloc (.cells (stepCs r.k r.i r.j r.m nil6) 62)) := (Box.below_drawn (Below.refl _ _) 1).alloc (Nat.le_refl _) _
        have hrs1 := Lib.hid (hrs.out.later hal)
        have hs1 := Lib.hid (show Box.Holds (wr.drew.alloc (.cells (stepCs r.k r.i r.j r.m nil6) 62)) wr.heap.size 62 (stepCs r.k r.i r.j r.m nil6) from Box.Holds.made wr.drew _ _)
        have hub : ∀ b, (Value.slice Au j cu).ownBlock = some b → b ≠ wr.heap.size := fun b hb => by have := (hrs.out.s.lt b hb).2; omega
        have hub2 : ∀ b, (Value.slice Ao j co).ownBlock = some b → b < wr.heap.size := fun b hb => (hrs.out.a.lt b hb).2
        have hBr : w.heap.size ≤ wr.heap.size := hbr.size
        have hits : st.at_.length ≤ 900 := by have := hin.out.its; omega
        have hll : st.l.length ≤ 400 := by have := hin.out.len; omega
        have hpl : ∀ (i p : Nat), st.at_[i]? = some (some p) → p ≤ 900 := fun i p h => by have := hin.out.pl i p h; omega
        obtain ⟨W1, hW1⟩ : ∃ W1, wr.drew.alloc (.cells (stepCs r.k r.i r.j r.m nil6) 62) = W1 := ⟨_, rfl⟩
        rw [hW1] at hrs1 hs1 hal ⊢
        have hal' := hal.size
        have hl1 := hold0 hrs1.out.l.hold
        have hl1l := hrs1.out.l.hold.lt
        clear hW1 q21 hrs hcap
        rcases hgd.out.k with hk | hk
        · have hcall := Lib.hid (walk_other w5.heap.size wr.heap.size st.l.length Av2 cv2 r.k r.i r.j r.m W1 hs1.out hk)
          go_wp2_with fail
          refine hcall.out.mono ?_
          rintro e w2 ⟨rfl, hb2⟩
          have hrs2 := Lib.hid (hrs1.out.later hb2)
          have hs2 := Lib.hid (hs1.out.later hb2)
          have hb2' := hb2.size
          clear hcall hl1 hl1l hrs1 hs1 hb2
          have hal2 : Below w2.heap.size w2 (w2.alloc (.cells (ansCs false false 0 nil6) 64)) := Ref.below_one' _ (Nat.le_refl _)
          have hrs3 := Lib.hid (hrs2.out.later hal2)
          have hs3 := Lib.hid (hs2.out.later hal2)
          have hga3 := Lib.hid (show Box.Holds (w2.alloc (.cells (ansCs false false 0 nil6) 64)) w2.heap.size 64 (ansCs false false 0 nil6) from Box.Holds.made _ _ _)
          have hhh : ∃ W, w2.alloc (.cells (ansCs false false 0 nil6) 64) = W := ⟨_, rfl⟩
          obtain ⟨w3, hW⟩ := hhh
          rw [hW] at hrs3 hs3 hga3
          have hy3 := Lib.hid (hy.out.kept (Kept.of_below hrs3.out.below))
          have hz3 := Lib.hid (hz.out.kept (Kept.of_below hrs3.out.below))
          have hcs3 := Lib.hid (show w3.drew.rangeAt sb (j * 17) (rawCs r.k r.i r.j r.m y z).toList from fun q v hq => (hrs3.out.below.cell (p := ⟨sb, j * 17 + q, none⟩) hbl).trans (hcs.out q v hq))
          have hBg2 : w.heap.size ≤ w2.heap.size := by omega
          have hno2 : ∀ b, (Value.slice Ao j co).ownBlock = some b → b ≠ w2.heap.size := fun b hb => by have := hub2 b hb; omega
          have hrs3d := Lib.hid (show Rs w l1 v5 w.heap.size w5.heap.size (.slice Av2 st.l.length cv2) va (.slice Au j cu) (.slice Ao j co) st S A w3.drew from hrs3.out.later (Box.below_drawn (Below.refl _ _) 1))
          have hs3d := Lib.hid (show Box.Holds w3.drew wr.heap.size 62 (stepCs r.k r.i r.j r.m nil6) from hs3.out)
          have hW' := Lib.hid hW
          unfold ansCs nil6 at hW'
          dsimp only at hW'
          clear hal2 hW hrs2 hs2
          go_upto_region 16 with fail
          rw [hW'.out]
          clear hW'
          refine Reg.via_rel (fun V W => I16 w w3 l1 v5 w.heap.size w5.heap.size wr.heap.size w2.heap.size sb j (.slice Au j cu) (.slice Ao j co) (.slice (some ⟨sb, 0, none⟩) R.length c1) st S A r y z (fun j => decide (j < 8)) V W) (fun V a0 => Reg.fill (Reg.dstOf [some 81, some 82, some 83, some 84, some 85, some 86, some 87, none]) V 8 a0) (fun a0 => a0.tmps.size = 99 ∧ a0.eval (.tmp 1) = .slice (some ⟨sb, 0, none⟩) R.length c1 ∧ a0.eval (.tmp 13) = .int .i64 j ∧ a0.eval (.tmp 10) = .pointer (some ⟨w5.heap.size, 0, none⟩) ∧ a0.eval (.tmp 14) = .pointer (some ⟨wr.heap.size, 0, none⟩) ∧ a0.eval (.tmp 7) = .pointer (some ⟨w.heap.size, 0, none⟩) ∧ a0.eval (.tmp 15) = .pointer (some ⟨w2.heap.size, 0, none⟩)) ⟨rfl, rfl, rfl, rfl, rfl, rfl, rfl⟩ ?h1 ?h2
          case h1 =>
            go_light
            rintro af Q' ⟨zsz, e1, e13, e10, e14, e7, e15⟩ hQ
            have b1 : ∀ a' v f, Reg.Held af (Reg.dstOf [some 81, some 82, some 83, some 84, some 85, some 86, some 87, none]) v f a' → a'.eval (.tmp 1) = .slice (some ⟨sb, 0, none⟩) R.length c1 := fun a' v f hH => (hH.rest 1 fun k d _ hd => Reg.dstOf_ne _ 1 (by decide +kernel) hd).trans e1
            have b13 : ∀ a' v f, Reg.Held af (Reg.dstOf [some 81, some 82, some 83, some 84, some 85, some 86, some 87, none]) v f a' → a'.eval (.tmp 13) = .int .i64 j := fun a' v f hH => (hH.rest 13 fun k d _ hd => Reg.dstOf_ne _ 13 (by decide +kernel) hd).trans e13
            have b10 : ∀ a' v f, Reg.Held af (Reg.dstOf [some 81, some 82, some 83, some 84, some 85, some 86, some 87, none]) v f a' → a'.eval (.tmp 10) = .pointer (some ⟨w5.heap.size, 0, none⟩) := fun a' v f hH => (hH.rest 10 fun k d _ hd => Reg.dstOf_ne _ 10 (by decide +kernel) hd).trans e10
            have b14 : ∀ a' v f, Reg.Held af (Reg.dstOf [some 81, some 82, some 83, some 84, some 85, some 86, some 87, none]) v f a' → a'.eval (.tmp 14) = .pointer (some ⟨wr.heap.size, 0, none⟩) := fun a' v f hH => (hH.rest 14 fun k d _ hd => Reg.dstOf_ne _ 14 (by decide +kernel) hd).trans e14
            have b7 : ∀ a' v f, Reg.Held af (Reg.dstOf [some 81, some 82, some 83, some 84, some 85, some 86, some 87, none]) v f a' → a'.eval (.tmp 7) = .pointer (some ⟨w.heap.size, 0, none⟩) := fun a' v f hH => (hH.rest 7 fun k d _ hd => Reg.dstOf_ne _ 7 (by decide +kernel) hd).trans e7
            have b15 : ∀ a' v f, Reg.Held af (Reg.dstOf [some 81, some 82, some 83, some 84, some 85, some 86, some 87, none]) v f a' → a'.eval (.tmp 15) = .pointer (some ⟨w2.heap.size, 0, none⟩) := fun a' v f hH => (hH.rest 15 fun k d _ hd => Reg.dstOf_ne _ 15 (by decide +kernel) hd).trans e15
            refine Reg.wp_region_rel (by kernel_rfl) (by decide +kernel) 8 rfl (Reg.dstOf [some 81, some 82, some 83, some 84, some 85, some 86, some 87, none]) (fun f V W => I16 w w3 l1 v5 w.heap.size w5.heap.size wr.heap.size w2.heap.size sb j (.slice Au j cu) (.slice Ao j co) (.slice (some ⟨sb, 0, none⟩) R.length c1) st S A r y z f V W) ?h0 ?hops (Reg.dstOf_inj _ (by decide +kernel)) (fun k d hd => by rw [zsz]; exact Reg.dstOf_lt _ 99 (by decide +kernel) hd) ?hstep hQ
            case h0 =>
              exact ⟨(fun _ => rfl), (fun h => by cases h), (fun h => by cases h), (fun h => by cases h), (fun h => by cases h), (fun h => by cases h), (fun h => by cases h), (fun h => by cases h)⟩
            case hops =>
              intro oi o ho
              have hi : oi < 8 := (Array.getElem?_eq_some_iff.1 ho).1
              have hcs : oi = 0 ∨ oi = 1 ∨ oi = 2 ∨ oi = 3 ∨ oi = 4 ∨ oi = 5 ∨ oi = 6 ∨ oi = 7 := by omega
              rcases hcs with rfl | rfl | rfl | rfl | rfl | rfl | rfl | rfl
              all_goals
                obtain rfl := Option.some.inj ho
                exact ⟨rfl, rfl⟩
            case hstep =>
              intro f V a' Wx oi o hi ho hun hcl hdep hH hI K hK
              clear hQ
              have hcs : oi = 0 ∨ oi = 1 ∨ oi = 2 ∨ oi = 3 ∨ oi = 4 ∨ oi = 5 ∨ oi = 6 ∨ oi = 7 := by omega
              rcases hcs with rfl | rfl | rfl | rfl | rfl | rfl | rfl | rfl
              · obtain rfl := Option.some.inj ho
                have g0 := Reg.tmp_at (b1 a' _ f hH)
                refine Reg.wp_value (.slice (some ⟨sb, 0, none⟩) R.length c1) (w' := Wx) ?_ (hK _ _ ⟨hI.m0, hI.m6, fun _ => rfl, hI.p1, hI.p2, hI.p3, hI.p4, hI.p5⟩)
                clear hK hI
                go_simp
              · obtain rfl := Option.some.inj ho
                have g0 := Reg.tmp_at (b13 a' _ f hH)
                refine Reg.wp_value (.int .i64 j) (w' := Wx) ?_ (hK _ _ ⟨hI.m0, hI.m6, hI.p0, fun _ => rfl, hI.p2, hI.p3, hI.p4, hI.p5⟩)
                clear hK hI
                go_simp
              · obtain rfl := Option.some.inj ho
                have g0 : a'.tmps[81]?.getD undef = .slice (some ⟨sb, 0, none⟩) R.length c1 := Reg.tmp_at ((hH.got 0 81 (hdep { on := 0, ground := .data } (by simp) rfl) rfl).trans (hI.p0 (hdep { on := 0, ground := .data } (by simp) rfl)))
                have g1 : a'.tmps[82]?.getD undef = .int .i64 j := Reg.tmp_at ((hH.got 1 82 (hdep { on := 1, ground := .data } (by simp) rfl) rfl).trans (hI.p1 (hdep { on := 1, ground := .data } (by simp) rfl)))
                refine Reg.wp_value (.pointer (some ⟨sb, j * 17, none⟩)) (w' := Wx) ?_ (hK _ _ ⟨hI.m0, hI.m6, hI.p0, hI.p1, fun _ => rfl, hI.p3, hI.p4, hI.p5⟩)
                clear hK hI
                go_simp
              · obtain rfl := Option.some.inj ho
                have n6 : f 6 = false := (by cases h : f 6 with | false => rfl | true => (have h2 := (hcl 6 _ rfl h { on := 3, ground := .data } (by simp) rfl); rw [hun] at h2; cases h2))
                obtain rfl := hI.m0 n6
                have g0 : a'.tmps[83]?.getD undef = .pointer (some ⟨sb, j * 17, none⟩) := Reg.tmp_at ((hH.got 2 83 (hdep { on := 2, ground := .data } (by simp) rfl) rfl).trans (hI.p2 (hdep { on := 2, ground := .data } (by simp) rfl)))
                refine wp_load_mid 62 _ rfl sb (j * 17) ?_ (rawCs r.k r.i r.j r.m y z).toList _ ?_ Tryz.underlying62 rfl (by kernel_rfl) (hK _ _ ⟨hI.m0, hI.m6, hI.p0, hI.p1, hI.p2, fun _ => rfl, hI.p4, hI.p5⟩)
                · clear hK hI
                  go_simp
                · exact hcs3.out
              · obtain rfl := Option.some.inj ho
                have g0 := Reg.tmp_at (b10 a' _ f hH)
                refine Reg.wp_value (.pointer (some ⟨w5.heap.size, 0, none⟩)) (w' := Wx) ?_ (hK _ _ ⟨hI.m0, hI.m6, hI.p0, hI.p1, hI.p2, hI.p3, fun _ => rfl, hI.p5⟩)
                clear hK hI
                go_simp
              · obtain rfl := Option.some.inj ho
                have n6 : f 6 = false := (by cases h : f 6 with | false => rfl | true => (have h2 := (hcl 6 _ rfl h { on := 5, ground := .data } (by simp) rfl); rw [hun] at h2; cases h2))
                obtain rfl := hI.m0 n6
                have g0 : a'.tmps[85]?.getD undef = .pointer (some ⟨w5.heap.size, 0, none⟩) := Reg.tmp_at ((hH.got 4 85 (hdep { on := 4, ground := .data } (by simp) rfl) rfl).trans (hI.p4 (hdep { on := 4, ground := .data } (by simp) rfl)))
                refine Reg.wp_enter (fn := 32) (args := #[.pointer (some ⟨w5.heap.size, 0, none⟩)]) (w' := w3.drew) ?_ ?_
                · clear hK hI
                  go_simp
                · refine (fixed_any hrs3d.out.g).mono ?_
                  rintro e w4 ⟨rfl, rfl⟩
                  exact ⟨_, rfl, hK _ _ ⟨hI.m0, hI.m6, hI.p0, hI.p1, hI.p2, hI.p3, hI.p4, fun _ => rfl⟩⟩
              · obtain rfl := Option.some.inj ho
                have n7 : f 7 = false := (by cases h : f 7 with | false => rfl | true => (have h2 := (hcl 7 _ rfl h { on := 6, ground := .data } (by simp) rfl); rw [hun] at h2; cases h2))
                obtain rfl := hI.m0 hun
                have g0 := Reg.tmp_at (b14 a' _ f hH)
                have g1 : a'.tmps[84]?.getD undef = .agg (rawCs r.k r.i r.j r.m y z) := Reg.tmp_at ((hH.got 3 84 (hdep { on := 3, ground := .data } (by simp) rfl) rfl).trans (hI.p3 (hdep { on := 3, ground := .data } (by simp) rfl)))
                have g2 := Reg.tmp_at (b7 a' _ f hH)
                have g3 : a'.tmps[86]?.getD undef = .bool st.fixed := Reg.tmp_at ((hH.got 5 86 (hdep { on := 5, ground := .data } (by simp) rfl) rfl).trans (hI.p5 (hdep { on := 5, ground := .data } (by simp) rfl)))
                refine Reg.wp_enter (fn := 31) (args := #[.pointer (some ⟨wr.heap.size, 0, none⟩), .agg (rawCs r.k r.i r.j r.m y z), .pointer (some ⟨w.heap.size, 0, none⟩), .bool st.fixed]) (w' := w3.drew) ?_ ?_
                · clear hK hI
                  go_simp
                · refine (turn_step w.heap.size w.heap.size wr.heap.size r.k r.i r.j r.m hk y z r.a r.b r.k r.i r.j r.m (.slice Av2 st.l.length cv2) st w3.drew hrs3d.out.l hs3d.out hy3.out hz3.out hgd.out.a hBr hll hgd.out.m1 hgd.out.m2).mono ?_
                  rintro e w4 ⟨p, st', an, hstep, hfz, hat, hw⟩
                  obtain ⟨yy, rfl, hD, hkk⟩ := hrs3d.out.stepped hw hfz hat hub
                  exact ⟨_, rfl, hK _ _ ⟨(fun h => by cases h), (fun _ => ⟨yy, p, an, st', rfl, hstep, hD, (fun h => by have h2 : f 7 = true := h; rw [n7] at h2; cases h2), fun _ => hkk.holds hga3.out ⟨by decide, fun e => absurd e (by decide), fun e => absurd e (by decide)⟩⟩), hI.p0, hI.p1, hI.p2, hI.p3, hI.p4, hI.p5⟩⟩
              · obtain rfl := Option.some.inj ho
                obtain ⟨yy, p, an, st', q6, hstep, hD, -, hz0⟩ := hI.m6 (hdep { on := 6, ground := .data } (by simp) rfl)
                have hga := hz0 hun
                obtain ⟨xk, xn, xa, xl, xc, xb, xt, xka, xkn, xkc, rfl⟩ := hD.av
                have q6c := q6
                unfold ansCs at q6
                dsimp only at q6
                have g0 := Reg.tmp_at (b15 a' _ f hH)
                have g1 := Reg.tmp_at ((hH.got 6 87 (hdep { on := 6, ground := .data } (by simp) rfl) rfl).trans q6)
                have c6 : f 6 = true := (hdep { on := 6, ground := .data } (by simp) rfl)
                obtain ⟨hD2, hga2⟩ := hD.put hga hBg2 hno2
                obtain ⟨o0, o1, o2, o3, o4, o5, o6, o7, o8, o9, ol, of0, of1, of2, of3, of4, of5, of6, of7, of8, of9⟩ := ans_facts hga
                refine Reg.wp_skip rfl (w' := putAns Wx w2.heap.size an.ok an.is_ an.n _) ?_ (hK _ _ ⟨(fun h => by have h2 : f 6 = false := h; rw [c6] at h2; cases h2), (fun _ => ⟨_, p, an, st', q6c, hstep, hD2, (fun _ => hga2), (fun h => by cases h)⟩), hI.p0, hI.p1, hI.p2, hI.p3, hI.p4, hI.p5⟩)
                clear hK hI hD hD2 hga2 hga hz0
                unfold putAns
                go_simp
          case h2 =>
            intro V W hI
            obtain ⟨yy, p, an, st', q6, hstep, hD, hg7, -⟩ := hI.m6 (by decide)
            have hga := hg7 (by decide)
            clear hI q6 hg7
            simp only [Reg.fill, Reg.dstOf, List.getD_cons_zero, List.getD_cons_succ, Act.put]
            simp [List.setIfInBounds_toArray, List.set_cons_succ, List.set_cons_zero]
            obtain ⟨xk, xn, xa, xl, xc, xb, xt, xka, xkn, xkc, rfl⟩ := hD.av
            obtain ⟨ys, vl2, va2, tk, ti, tj, tm, ta, hp, hys, hsT, hyy, hrsT⟩ := hD.some_
            obtain ⟨sn, sa, sl, sc, sB, sT, rfl⟩ := hys.form
            have hBW : w.heap.size ≤ W.heap.size := hrsT.below.size
            have hSn : S.length ≤ 1000000 := by omega
            have hsT' := Lib.hid hsT
            have hys' := Lib.hid hys
            have hyy' := Lib.hid hyy
            have hrsT' := Lib.hid hrsT
            have hp' := Lib.hid hp
            have hga' := Lib.hid hga
            have hAl : A.length = j := by rw [hRun.out.len]; exact hSl
            have hAn : A.length ≤ 1000000 := by omega
            clear hD hp hys hsT hyy hrsT hga
            unfold stepCs at hsT'
            unfold ansCs at hga'
            dsimp only at hsT' hga'
            have hga1 := hga'.out
            have hsT1 := hsT'.out
            go_upto_region 18 with (first | refine wpList_load_row rfl 62 _ rfl wr.heap.size rfl 62 _ (0, 0) _ hsT'.out Tryz.underlying62 rfl (by kernel_rfl) ?_ | (at_builtin; refine wpList_step (B := w.heap.size) (y := ⟨.int .i64 ta.kind, .bool sn, .slice sa sl sc, .int .u64 sB, .string sT, .slice none 0 0⟩) (t := ta) (p := p) (k := tk) (i := ti) (j := tj) (m := tm) rfl _ _ rfl _ S rfl hrsT'.out.s hBW hys'.out hp'.out rfl hSn ?_; intro u6 w6 hu6 hg6 ho6; obtain ⟨hrs6, hk6⟩ := hrsT'.out.grown_step hg6 hu6; have hga6 := Lib.hid (hk6.holds hga1 (by decide)); have hyy6 := Lib.hid (hyy'.out.kept (hk6.mono (fun g t _ hn => by rcases hn with hn | ⟨rfl, -⟩; exact num_ne hn _ rfl; decide)) (fun g h => .inl h)); have hrs6' := Lib.hid hrs6; clear hu6 hg6 ho6 hrs6 hk6))
            have hB6 : w.heap.size ≤ w6.heap.size := hrs6'.out.below.size
            go_wp2_with (first | refine wpList_load_row rfl 64 _ rfl w2.heap.size rfl 64 _ (0, 0) _ hga6.out Tryz.underlying64 rfl (by kernel_rfl) ?_ | (at_builtin; refine wpList_ans (B := w.heap.size) (ex := vl2.ownBlock) (y := ⟨.int .i64 xk, .bool xn, .slice xa xl xc, .int .u64 xb, .string xt, .slice xka xkn xkc⟩) (p := an) rfl _ _ rfl _ A rfl hrs6'.out.a hB6 hyy6.out rfl hAn ?_; intro o7 w7 ho7 hg7 hl7; have hrs7 := Lib.hid (hrs6'.out.grown_ans hg7 ho7); clear ho7 hg7 hl7))
            obtain ⟨T', t0, t1, t2⟩ := hRun.out.snoc (s := p) (a := an) (t := st') (by rw [hSl, hTj]; exact hstep)
            go_roundw
            case rel => exact ⟨j + 1, _, _, st', S ++ [p], A ++ [an], T', by go_num, by omega, by omega, by simp; omega, t0.trans hT0, by rw [← hSl]; exact t1, Lib.hid t2, hrs7⟩
            case measure => simp [intOf]; omega
        · have hcall := Lib.hid (walk_any w.heap.size w5.heap.size wr.heap.size st.l.length Av2 cv2 r.k r.i r.j r.m hk va st W1 hrs1.out.g hs1.out hBr hits hll rfl w.heap.size hrs1.out.l.row hpl)
          go_wp2_with fail
          refine hcall.out.mono ?_
          rintro e w2 ⟨p, st', an, hstep, hl', hsc, hw⟩
          obtain ⟨yy, rfl, hyy, hD⟩ := hrs1.out.walked hw hl' hsc hub
          obtain ⟨xk, xn, xa, xl, xc, xb, xt, xka, xkn, xkc, rfl⟩ := hyy.form
          have hal2 : Below w2.heap.size w2 (w2.alloc (.cells (ansCs an.ok an.is_ an.n ⟨.int .i64 xk, .bool xn, .slice xa xl xc, .int .u64 xb, .string xt, .slice xka xkn xkc⟩) 64)) := Ref.below_one' _ (Nat.le_refl _)
          have hD := Lib.hid (hD.later hal2)
          have hga := Lib.hid (show Box.Holds (w2.alloc (.cells (ansCs an.ok an.is_ an.n ⟨.int .i64 xk, .bool xn, .slice xa xl xc, .int .u64 xb, .string xt, .slice xka xkn xkc⟩) 64)) w2.heap.size 64 (ansCs an.ok an.is_ an.n ⟨.int .i64 xk, .bool xn, .slice xa xl xc, .int .u64 xb, .string xt, .slice xka xkn xkc⟩) from Box.Holds.made _ _ _)
          have hhh : ∃ W, w2.alloc (.cells (ansCs an.ok an.is_ an.n ⟨.int .i64 xk, .bool xn, .slice xa xl xc, .int .u64 xb, .string xt, .slice xka xkn xkc⟩) 64) = W := ⟨_, rfl⟩
          obtain ⟨W, hW⟩ := hhh
          rw [hW] at hD hga
          have hW' := Lib.hid hW
          unfold ansCs at hW'
          dsimp only at hW'
          clear hcall hl1 hl1l hrs1 hs1 hw hyy hal2 hW
          unfold ansCs
          go_upto_region 17 with fail
          rw [hW'.out]
          clear hW'
          obtain ⟨ys, vl2, va2, tk, ti, tj, tm, ta, hp, hys, hsT, hyy, hrsT⟩ := hD.some_
          obtain ⟨sn, sa, sl, sc, sB, sT, rfl⟩ := hys.form
          have hBW : w.heap.size ≤ W.heap.size := hrsT.below.size
          have hSn : S.length ≤ 1000000 := by omega
          have hsT' := Lib.hid hsT
          have hys' := Lib.hid hys
          have hyy' := Lib.hid hyy
          have hrsT' := Lib.hid hrsT
          have hp' := Lib.hid hp
          have hga' := Lib.hid hga
          have hAl : A.length = j := by rw [hRun.out.len]; exact hSl
          have hAn : A.length ≤ 1000000 := by omega
          clear hD hp hys hsT hyy hrsT hga
          unfold stepCs at hsT'
          unfold ansCs at hga'
          dsimp only at hsT' hga'
          have hga1 := hga'.out
          have hsT1 := hsT'.out
          go_upto_region 18 with (first | refine wpList_load_row rfl 62 _ rfl wr.heap.size rfl 62 _ (0, 0) _ hsT'.out Tryz.underlying62 rfl (by kernel_rfl) ?_ | (at_builtin; refine wpList_step (B := w.heap.size) (y := ⟨.int .i64 ta.kind, .bool sn, .slice sa sl sc, .int .u64 sB, .string sT, .slice none 0 0⟩) (t := ta) (p := p) (k := tk) (i := ti) (j := tj) (m := tm) rfl _ _ rfl _ S rfl hrsT'.out.s hBW hys'.out hp'.out rfl hSn ?_; intro u6 w6 hu6 hg6 ho6; obtain ⟨hrs6, hk6⟩ := hrsT'.out.grown_step hg6 hu6; have hga6 := Lib.hid (hk6.holds hga1 (by decide)); have hyy6 := Lib.hid (hyy'.out.kept (hk6.mono (fun g t _ hn => by rcases hn with hn | ⟨rfl, -⟩; exact num_ne hn _ rfl; decide)) (fun g h => .inl h)); have hrs6' := Lib.hid hrs6; clear hu6 hg6 ho6 hrs6 hk6))
          have hB6 : w.heap.size ≤ w6.heap.size := hrs6'.out.below.size
          go_wp2_with (first | refine wpList_load_row rfl 64 _ rfl w2.heap.size rfl 64 _ (0, 0) _ hga6.out Tryz.underlying64 rfl (by kernel_rfl) ?_ | (at_builtin; refine wpList_ans (B := w.heap.size) (ex := vl2.ownBlock) (y := ⟨.int .i64 xk, .bool xn, .slice xa xl xc, .int .u64 xb, .string xt, .slice xka xkn xkc⟩) (p := an) rfl _ _ rfl _ A rfl hrs6'.out.a hB6 hyy6.out rfl hAn ?_; intro o7 w7 ho7 hg7 hl7; have hrs7 := Lib.hid (hrs6'.out.grown_ans hg7 ho7); clear ho7 hg7 hl7))
          obtain ⟨T', t0, t1, t2⟩ := hRun.out.snoc (s := p) (a := an) (t := st') (by rw [hSl, hTj]; exact hstep)
          go_roundw
          case rel => exact ⟨j + 1, _, _, st', S ++ [p], A ++ [an], T', by go_num, by omega, by omega, by simp; omega, t0.trans hT0, by rw [← hSl]; exact t1, Lib.hid t2, hrs7⟩
          case measure => simp [intOf]; omega
    · obtain ⟨Av2, cv2, hve⟩ : ∃ a c, vl = .slice a st.l.length c := hrs.out.l.row.shape
      have hfin := Lib.hid (show Ran w l1 (.returned (.tuple #[v5, u11, u12])) wr from ⟨⟨v5, u11, u12, S, A, T, rfl, hrs.out.f, hrs.out.s, hrs.out.a.kept (KeptT.refl (fun _ _ => True) wr) (KeptT.refl _ _) (fun _ _ => trivial) (fun g h => by cases h), hRun.out, hT0, by omega⟩, hrs.out.below⟩)
      clear hrs hin hR' hRg' h0'
      by_cases h1 : j < R.length
      · have h2 : ¬ j < 60 := fun h => hlt ⟨h1, h⟩
        have h2' : decide ((j : Int) < 60) = false := by simp; omega
        go_wp2
        go_ret3
        exact hfin.out
      · go_wp2
        go_ret3
        exact hfin.out
end Go.Proofs.YtafbheamnjmfoaaGreat.Ls
