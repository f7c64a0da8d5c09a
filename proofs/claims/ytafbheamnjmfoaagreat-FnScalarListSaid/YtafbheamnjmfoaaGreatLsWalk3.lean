/-
  The reference's walk: an iterator goes on.
-/
import Derived.Test.YtafbheamnjmfoaaGreatLsWalk2
namespace Go.Proofs.YtafbheamnjmfoaaGreat.Ls
open Go.RowKit Go.WideShapes Go.Proofs.YtafbheamnjmfoaaGreat.Sc Go.Proofs.YtafbheamnjmfoaaGreat.VRow
set_option linter.unusedVariables false

/-- the next element is gathered -/
theorem KeptT.kept_num {a b : World} {g : Nat} {t : TypeId} {cs : Array Value} {S : Nat → TypeId → Prop} (h : KeptT S a b) (hg : Box.Holds a g t cs) (ht : numT t = false) (hS : ∀ k u, numT u = true → k ≠ g → S k u) : Kept a b := fun k c u fz hn hh => h k c u fz (hS k u hn fun e => by
  rw [e] at hh
  have h1 : a.heap[g]? = _ := hg
  rw [h1] at hh
  cases hh
  rw [ht] at hn
  cases hn) hh
theorem walk_next_end {w W : World} {B bg bs r cap q p : Nat} {i j m : Int} {st : St} {y : V6} (hg : Gd W B bg (.slice (some ⟨r, 0, none⟩) st.at_.length cap) st) (hs : Box.Holds W bs 62 (stepCs 6 i j m nil6)) (h2 : Two2 w W) (hf : Fr B (SW bs) w W) (hB : B ≤ w.heap.size) (hBs : B ≤ bs) (hq : st.at_[q]? = some (some p)) (hp : p < st.l.length) (hy : IsSc W y st.l[p]) :
    ∃ W3, (((((((((W.setCell ⟨bs, 1, none⟩ (.int .i64 q)).setCell ⟨w.heap.size + 1, 1, none⟩ (.bool true)).setCell ⟨w.heap.size + 1, 3, none⟩ y.k).setCell ⟨w.heap.size + 1, 4, none⟩ y.n).setCell ⟨w.heap.size + 1, 5, none⟩ y.m).setCell ⟨w.heap.size + 1, 6, none⟩ y.b).setCell ⟨w.heap.size + 1, 7, none⟩ y.t).setCell ⟨w.heap.size + 1, 8, none⟩ y.s).setCell ⟨r, q, none⟩ (.int .i64 ((p : Int) + 1))) = W3 ∧ Box.Holds W3 w.heap.size 64 #[.bool false, .bool false, .int .i64 0, .int .i64 0, .bool false, .slice none 0 0, .int .u64 0, .string ⟨#[]⟩, .slice none 0 0, .slice none 0 0] ∧ Hid (Box.Holds W3 (w.heap.size + 1) 64 (ansCs true true 0 y)) ∧
    Hid (Box.Holds (putAns W3 w.heap.size true true 0 y) w.heap.size 64 (ansCs true true 0 y)) ∧ Hid (Walked w B bg bs j m st { st with at_ := st.at_.set q (some (p + 1)) } (.next q) ⟨true, true, 0, .sc st.l[p]⟩ (.returned (.tuple #[.agg (ansCs true true 0 y), .bool true])) (putAns W3 w.heap.size true true 0 y)) := by
  obtain ⟨g1, s1, r1, o1, f1⟩ := walk_pick (q := q) hg hs h2 hf hBs
  have hBo : B ≤ w.heap.size + 1 := by omega
  have hno : w.heap.size + 1 < w.heap.size → ¬ SW bs (w.heap.size + 1) 64 := fun h => by omega
  have a1 := f1.setCell (p := ⟨w.heap.size + 1, 1, none⟩) o1 hBo hno (.bool true)
  have b1 : Box.Holds _ (w.heap.size + 1) 64 #[.bool true, .bool true, .int .i64 0, .int .i64 0, .bool false, .slice none 0 0, .int .u64 0, .string ⟨#[]⟩, .slice none 0 0, .slice none 0 0] := o1.put 1 (.bool true)
  have a3 := a1.setCell (p := ⟨w.heap.size + 1, 3, none⟩) b1 hBo hno y.k
  have b3 : Box.Holds _ (w.heap.size + 1) 64 #[.bool true, .bool true, .int .i64 0, y.k, .bool false, .slice none 0 0, .int .u64 0, .string ⟨#[]⟩, .slice none 0 0, .slice none 0 0] := b1.put 3 y.k
  have a4 := a3.setCell (p := ⟨w.heap.size + 1, 4, none⟩) b3 hBo hno y.n
  have b4 : Box.Holds _ (w.heap.size + 1) 64 #[.bool true, .bool true, .int .i64 0, y.k, y.n, .slice none 0 0, .int .u64 0, .string ⟨#[]⟩, .slice none 0 0, .slice none 0 0] := b3.put 4 y.n
  have a5 := a4.setCell (p := ⟨w.heap.size + 1, 5, none⟩) b4 hBo hno y.m
  have b5 : Box.Holds _ (w.heap.size + 1) 64 #[.bool true, .bool true, .int .i64 0, y.k, y.n, y.m, .int .u64 0, .string ⟨#[]⟩, .slice none 0 0, .slice none 0 0] := b4.put 5 y.m
  have a6 := a5.setCell (p := ⟨w.heap.size + 1, 6, none⟩) b5 hBo hno y.b
  have b6 : Box.Holds _ (w.heap.size + 1) 64 #[.bool true, .bool true, .int .i64 0, y.k, y.n, y.m, y.b, .string ⟨#[]⟩, .slice none 0 0, .slice none 0 0] := b5.put 6 y.b
  have a7 := a6.setCell (p := ⟨w.heap.size + 1, 7, none⟩) b6 hBo hno y.t
  have b7 : Box.Holds _ (w.heap.size + 1) 64 #[.bool true, .bool true, .int .i64 0, y.k, y.n, y.m, y.b, y.t, .slice none 0 0, .slice none 0 0] := b6.put 7 y.t
  have a8 := a7.setCell (p := ⟨w.heap.size + 1, 8, none⟩) b7 hBo hno y.s
  have b8 : Box.Holds _ (w.heap.size + 1) 64 (ansCs true true 0 y) := b7.put 8 y.s
  have hk : KeptT (fun g _ => g ≠ w.heap.size + 1) (W.setCell ⟨bs, 1, none⟩ (.int .i64 q)) ((((((((W.setCell ⟨bs, 1, none⟩ (.int .i64 q)).setCell ⟨w.heap.size + 1, 1, none⟩ (.bool true)).setCell ⟨w.heap.size + 1, 3, none⟩ y.k).setCell ⟨w.heap.size + 1, 4, none⟩ y.n).setCell ⟨w.heap.size + 1, 5, none⟩ y.m).setCell ⟨w.heap.size + 1, 6, none⟩ y.b).setCell ⟨w.heap.size + 1, 7, none⟩ y.t).setCell ⟨w.heap.size + 1, 8, none⟩ y.s) := fun g cs t fz hn hh => by
    have e : ∀ (X : World) (o : Nat) (u : Value), (X.setCell ⟨w.heap.size + 1, o, none⟩ u).heap[g]? = X.heap[g]? := fun X o u => Below.heap_setCell X ⟨w.heap.size + 1, o, none⟩ u g hn
    rw [e, e, e, e, e, e, e]
    exact hh
  have hne : ∀ {g : Nat} {t : TypeId} {c : Array Value}, Box.Holds (W.setCell ⟨bs, 1, none⟩ (.int .i64 q)) g t c → t ≠ 64 → g ≠ w.heap.size + 1 := fun {g t c} hh ht e => by
    rw [e] at hh
    have h1 : (W.setCell ⟨bs, 1, none⟩ (.int .i64 q)).heap[w.heap.size + 1]? = _ := o1
    have h3 : (W.setCell ⟨bs, 1, none⟩ (.int .i64 q)).heap[w.heap.size + 1]? = _ := hh
    rw [h1] at h3
    simp at h3
    exact ht h3.2.symm
  have g2 : Gd _ B bg _ st := ⟨hk.holds g1.hold (hne g1.hold (by decide)), hk.own g1.row (fun b hb e => own_ne g1.row o1 (by decide) (by rw [hb, e])), hg.ge⟩
  have s2 := hk.holds s1 (hne s1 (by decide))
  have r2 := hk.holds r1 (by omega)
  obtain ⟨g3, f3⟩ := gd_next (p' := p + 1) g2 hq
  rw [show ((p + 1 : Nat) : Int) = (p : Int) + 1 by omega] at g3 f3
  have r3 := f3.kept.holds r2 ⟨by decide, by decide⟩
  have f4 := a8.trans f3.sg fun _ _ _ h => h
  have hkn : Kept W _ := (Kept.setCell (p := ⟨bs, 1, none⟩) hs rfl (.int .i64 q)).trans (((hk.mono (S' := fun g t => numT t = true ∧ g ≠ w.heap.size + 1) fun _ _ _ h => h.2).trans f3.kept (S' := SG) fun _ _ _ h => ⟨num_ne h.1 _ rfl, num_ne h.1 _ rfl⟩).kept_num o1 rfl fun _ _ h1 h2 => ⟨h1, h2⟩)
  obtain ⟨e1, e2⟩ := walked_end (st := st) (p := .next q) (an := ⟨true, true, 0, .sc st.l[p]⟩) (y := y) (j := j) (m := m) ⟨rfl, rfl, rfl⟩ (f3.kept.holds s2 ⟨by decide, by decide⟩) g3 (show IsAv none _ y (.sc st.l[p]) from hy.kept hkn) f4 hB r3
  exact ⟨_, rfl, r3, Lib.hid (f3.kept.holds b8 ⟨by decide, by decide⟩), Lib.hid e1, Lib.hid e2⟩
theorem walk_over_end {w W : World} {B bg bs r cap q p : Nat} {i j m : Int} {st : St} (hg : Gd W B bg (.slice (some ⟨r, 0, none⟩) st.at_.length cap) st) (hs : Box.Holds W bs 62 (stepCs 6 i j m nil6)) (h2 : Two2 w W) (hf : Fr B (SW bs) w W) (hB : B ≤ w.heap.size) (hBs : B ≤ bs) :
    ∃ W3, W.setCell ⟨bs, 1, none⟩ (.int .i64 q) = W3 ∧ Box.Holds W3 w.heap.size 64 #[.bool false, .bool false, .int .i64 0, .int .i64 0, .bool false, .slice none 0 0, .int .u64 0, .string ⟨#[]⟩, .slice none 0 0, .slice none 0 0] ∧ Hid (Box.Holds W3 (w.heap.size + 1) 64 #[.bool true, .bool false, .int .i64 0, .int .i64 0, .bool false, .slice none 0 0, .int .u64 0, .string ⟨#[]⟩, .slice none 0 0, .slice none 0 0]) ∧
    Hid (Box.Holds (putAns W3 w.heap.size true false 0 nil6) w.heap.size 64 (ansCs true false 0 nil6)) ∧ Hid (Walked w B bg bs j m st st (.next q) .yes (.returned (.tuple #[.agg (ansCs true false 0 nil6), .bool true])) (putAns W3 w.heap.size true false 0 nil6)) := by
  obtain ⟨g1, s1, r1, o1, f1⟩ := walk_pick (q := q) hg hs h2 hf hBs
  obtain ⟨e1, e2⟩ := walked_end (st := st) (p := .next q) (an := .yes) (y := nil6) (j := j) (m := m) ⟨rfl, rfl, rfl⟩ s1 g1 (nil6_av none _) f1 hB r1
  exact ⟨_, rfl, r1, Lib.hid o1, Lib.hid e1, Lib.hid e2⟩
set_option maxHeartbeats 2000000 in
set_option maxRecDepth 100000 in
theorem walk_next (B bg bs nn : Nat) (A0 : Option Addr) (c0 : Nat) (i j m : Int) (va : Value) (st : St) (w : World) (h : Gd w B bg va st) (hs : Box.Holds w bs 62 (stepCs 6 i j m nil6)) (hBs : B ≤ bs) (hits : st.at_.length ≤ 900) (hnn : nn ≤ 400) (hl : nn = st.l.length) (B2 : Nat) (hv : Vals w B2 (.slice A0 nn c0) st.l) (hne : ∀ b, (Value.slice A0 nn c0).ownBlock = some b → b ≠ bs) (hpl0 : ∀ (i p : Nat), st.at_[i]? = some (some p) → p ≤ 900) :
    Calls Tryz.prog 30 #[.pointer (some ⟨bg, 0, none⟩), .pointer (some ⟨bs, 0, none⟩), .slice A0 nn c0] w (fun e w' => ∃ p st' an, Step st p st' an ∧ st'.l = st.l ∧ (∃ s, an.v = .sc s) ∧ Walked w B bg bs j m st st' p an e w') := by
  obtain ⟨W, hW⟩ : ∃ W, (w.alloc (.cells #[.bool false, .bool false, .int .i64 0, .int .i64 0, .bool false, .slice none 0 0, .int .u64 0, .string ⟨#[]⟩, .slice none 0 0, .slice none 0 0] 64)).alloc (.cells #[.bool true, .bool false, .int .i64 0, .int .i64 0, .bool false, .slice none 0 0, .int .u64 0, .string ⟨#[]⟩, .slice none 0 0, .slice none 0 0] 64) = W := ⟨_, rfl⟩
  have h2 := two2 w
  rw [hW] at h2
  have hB : B ≤ w.heap.size := Nat.le_trans h.ge (Nat.le_of_lt h.hold.lt)
  have hg1 := h.later h2.below
  have hs1 := hs.later h2.below
  obtain ⟨Aa, ca, rfl⟩ := hg1.shape
  have s0 := hold0 hs1
  have s1 := hold1 hs1
  have sl := hs1.lt
  have sf0 := hs1.free 0
  have sf1 := hs1.free 1
  have k0 := hg1.hold.cell 0
  have k1 := hg1.hold.cell 1
  have k2 := hg1.hold.cell 2
  simp at k0 k1 k2
  have kl := hg1.hold.lt
  have kf0 := hg1.hold.free 0
  have kf1 := hg1.hold.free 1
  have kf2 := hg1.hold.free 2
  have hfrW : Fr B (SW bs) w W := Fr.of_below h2.below hB
  subst hl
  have hit := Lib.hid hv
  have hitb := Lib.hid hne
  have hpl := Lib.hid hpl0
  clear hv hne hpl0
  have hpick := Lib.hid (pick_any i hg1 hits)
  have hWs := Lib.hid h2.size
  have hbne : bs ≠ w.heap.size + 1 := by have := hs.lt; omega
  have hbn0 : bs ≠ w.heap.size := by have := hs.lt; omega
  have hgne : bg ≠ w.heap.size + 1 := by have := h.hold.lt; omega
  have hgn0 : bg ≠ w.heap.size := by have := h.hold.lt; omega
  have hgs : bg ≠ bs := hg1.step_ne hs1
  have hg1' := Lib.hid hg1
  have hs1' := Lib.hid hs1
  have h2' := Lib.hid h2
  have hfr' := Lib.hid hfrW
  clear h h2 hs hg1 hs1 hfrW
  have hW' := Lib.hid hW
  clear hW
  go_enter Tryz.func30, Tryz.ntmps30
  go_upto_region 2 with fail
  rw [hW'.out]
  clear hW'
  go_wp2_with fail
  refine hpick.out.mono ?_
  rintro e w' ⟨hpk, rfl⟩
  rcases hpk with ⟨h0, rfl⟩ | ⟨q, pl, hq, rfl⟩
  · obtain ⟨W3, hW3, hres, hout, hae, hfi⟩ := walk_len_end (nn := st.l.length) (i := i) (j := j) (m := m) (k := 6) hg1'.out hs1'.out h2'.out hfr'.out hB hBs
    have p2 := h2'.out.out.cell 2
    simp at p2
    have f2 := h2'.out.out.free 2
    have pl := h2'.out.out.lt
    obtain ⟨r0, r1, r2, r3, r4, r5, r6, r7, r8, r9, rl, q0, q1, q2, q3, q4, q5, q6, q7, q8, q9⟩ := ans_facts hres
    have hbne' := hbne.symm
    clear hres hpick hg1' hs1' h2' hfr'
    go_wp2_with (refine wpList_load_row rfl 64 _ rfl (w.heap.size + 1) rfl 64 _ (0, 0) _ hout.out Tryz.underlying64 rfl (by kernel_rfl) ?_)
    exact bodyPost_ret (results_pair (p := 6) (u := 7) (cs := ansCs true false st.l.length nil6) rfl _ _ w.heap.size 64 (0, 0) _ rfl hae.out rfl rfl rfl) rfl ⟨_, _, _, Step.len, rfl, ⟨_, rfl⟩, hfi.out⟩
  · have hlt := (List.getElem?_eq_some_iff.1 hq).1
    obtain ⟨r, cap, he, hBr, hrl, hcap, hcell, hfr, cs, hrc⟩ := hg1'.out.cell hlt
    simp only [Value.slice.injEq, true_and] at he
    obtain ⟨rfl, rfl⟩ := he
    rw [(List.getElem?_eq_some_iff.1 hq).2] at hcell
    simp only [plV] at hcell
    have hrs : r ≠ bs := fun e => own_ne hg1'.out.row hs1'.out (by decide) (by rw [e]; rfl)
    have hrg : r ≠ bg := fun e => own_ne hg1'.out.row hg1'.out.hold (by decide) (by rw [e]; rfl)
    have hro : r ≠ w.heap.size + 1 := fun e => own_ne hg1'.out.row h2'.out.out (by decide) (by rw [e]; rfl)
    have hqi : (q : Int) < st.at_.length := by omega
    have hgs' := hgs.symm
    have hrs' := hrs.symm
    have hrg' := hrg.symm
    have hro' := hro.symm
    have hbne' := hbne.symm
    have hgne' := hgne.symm
    by_cases hp : pl < st.l.length
    · obtain ⟨b, cap2, y, he, hbl, hBb, hcap2, hat, hy⟩ := (hit.out.later h2'.out.below).at_ hp
      simp only [Value.slice.injEq, true_and] at he
      obtain ⟨rfl, rfl⟩ := he
      obtain ⟨a0, a1, a2, a3, a4, a5⟩ := hat
      have hbs' : b ≠ bs := hitb.out b rfl
      have hbs2 := hbs'.symm
      have hbw : b < w.heap.size := by obtain ⟨L, hL, _⟩ := hit.out; exact (World.ownsRow.lt hL b rfl).2
      have hbo : b ≠ w.heap.size + 1 := by omega
      have hbo' := hbo.symm
      obtain ⟨W3, hW3, hres, hout, hae, hfi⟩ := walk_next_end (j := j) (m := m) hg1'.out hs1'.out h2'.out hfr'.out hB hBs hq hp hy
      obtain ⟨r0, r1, r2, r3, r4, r5, r6, r7, r8, r9, rl, q0, q1, q2, q3, q4, q5, q6, q7, q8, q9⟩ := ans_facts hres
      obtain ⟨o0, o1, o2, o3, o4, o5, o6, o7, o8, o9, ol, v0, v1, v2, v3, v4, v5, v6, v7, v8, v9⟩ := ans_facts h2'.out.out
      obtain ⟨yn, ya, yl, yc, yb, yt, rfl⟩ := hy.form
      simp only at a0 a1 a2 a3 a4 a5 hW3
      have hpb := hpl.out _ _ hq
      have hd : decide (pl < st.l.length) = true := by simpa using hp
      unfold ansCs at hout
      clear hres hpick hg1' hs1' h2' hfr' hrc hy hit hitb hpl
      go_upto_region 32 with fail
      go_wp2_with (refine wpList_load_row rfl 64 _ rfl (w.heap.size + 1) rfl 64 _ (0, 0) _ hout.out Tryz.underlying64 rfl (by kernel_rfl) ?_)
      exact bodyPost_ret (results_pair (p := 6) (u := 7) (cs := ansCs true true 0 _) rfl _ _ w.heap.size 64 (0, 0) _ rfl hae.out rfl rfl rfl) rfl ⟨_, _, _, Step.next hq hp, rfl, ⟨_, rfl⟩, hfi.out⟩
    · obtain ⟨W3, hW3, hres, hout, hae, hfi⟩ := walk_over_end (q := q) (p := pl) (j := j) (m := m) hg1'.out hs1'.out h2'.out hfr'.out hB hBs
      obtain ⟨r0, r1, r2, r3, r4, r5, r6, r7, r8, r9, rl, q0, q1, q2, q3, q4, q5, q6, q7, q8, q9⟩ := ans_facts hres
      have hd : decide (pl < st.l.length) = false := by simpa using hp
      clear hres hpick hg1' hs1' h2' hfr' hrc hit hitb hpl
      have hW3' := Lib.hid hW3
      clear hW3
      go_upto_region 32 with fail
      rw [hW3'.out]
      go_wp2_with (refine wpList_load_row rfl 64 _ rfl (w.heap.size + 1) rfl 64 _ (0, 0) _ hout.out Tryz.underlying64 rfl (by kernel_rfl) ?_)
      exact bodyPost_ret (results_pair (p := 6) (u := 7) (cs := ansCs true false 0 nil6) rfl _ _ w.heap.size 64 (0, 0) _ rfl hae.out rfl rfl rfl) rfl ⟨_, _, _, Step.next_no hq (by omega), rfl, ⟨_, rfl⟩, hfi.out⟩
end Go.Proofs.YtafbheamnjmfoaaGreat.Ls
