/-
  The reference's walk: iterators.
-/
import Derived.Test.YtafbheamnjmfoaaGreatLsWalk
namespace Go.Proofs.YtafbheamnjmfoaaGreat.Ls
open Go.RowKit Go.WideShapes Go.Proofs.YtafbheamnjmfoaaGreat.Sc Go.Proofs.YtafbheamnjmfoaaGreat.VRow
set_option linter.unusedVariables false

/-- all but the guard and its places -/
def SG (g : Nat) (t : TypeId) : Prop := t ≠ 60 ∧ t ≠ 3
theorem Fr.sg {B bs : Nat} {a b : World} (h : Fr B SG a b) : Fr B (SW bs) a b := h.mono (Nat.le_refl _) fun _ _ _ h => ⟨h.1, h.2.1⟩
/-- one place more -/
theorem gd_open {W w4 : World} {B bg g4 c4 : Nat} {va : Value} {st : St} (h : Gd W B bg va st) (hv4 : w4.ownsRow B 3 1 (.slice (some ⟨g4, 0, none⟩) (st.at_.length + 1) c4) (st.at_ ++ [some 0]).length ((st.at_ ++ [some 0]).map plV)) (hg : W.grownBy w4 va.ownBlock) :
    Box.Holds w4 bg 60 #[.bool st.fz, va, .int .i64 (openN st.at_)] ∧ Gd ((w4.setCell ⟨bg, 1, none⟩ (.slice (some ⟨g4, 0, none⟩) (st.at_.length + 1) c4)).setCell ⟨bg, 2, none⟩ (.int .i64 ((openN st.at_ : Int) + 1))) B bg (.slice (some ⟨g4, 0, none⟩) (st.at_.length + 1) c4) { st with at_ := st.at_ ++ [some 0] } ∧
    Fr B SG W ((w4.setCell ⟨bg, 1, none⟩ (.slice (some ⟨g4, 0, none⟩) (st.at_.length + 1) c4)).setCell ⟨bg, 2, none⟩ (.int .i64 ((openN st.at_ : Int) + 1))) := by
  have hB : B ≤ W.heap.size := Nat.le_trans h.ge (Nat.le_of_lt h.hold.lt)
  have hh := own_grown hg h.hold fun e => own_ne h.row h.hold (by decide) e
  have f1 : Fr B SG W w4 := (Fr.refl B SG W).grown h.row (fun _ _ _ hs => hs.2 rfl) hg hB
  have h5 := hh.put 1 (.slice (some ⟨g4, 0, none⟩) (st.at_.length + 1) c4)
  have f2 := f1.setCell (p := ⟨bg, 1, none⟩) hh h.ge (fun _ hs => hs.1 rfl) (.slice (some ⟨g4, 0, none⟩) (st.at_.length + 1) c4)
  have f3 := f2.setCell (p := ⟨bg, 2, none⟩) h5 h.ge (fun _ hs => hs.1 rfl) (.int .i64 ((openN st.at_ : Int) + 1))
  have r5 := ownsRow_setCell_other hv4 (fun e => own_ne hv4 hh (by decide) e) (a := ⟨bg, 1, none⟩) (.slice (some ⟨g4, 0, none⟩) (st.at_.length + 1) c4)
  have r6 := ownsRow_setCell_other r5 (fun e => own_ne r5 h5 (by decide) e) (a := ⟨bg, 2, none⟩) (.int .i64 ((openN st.at_ : Int) + 1))
  refine ⟨hh, ⟨?_, r6, h.ge⟩, f3⟩
  have h6 := h5.put 2 (.int .i64 ((openN st.at_ : Int) + 1))
  rw [show openN (st.at_ ++ [some 0]) = openN st.at_ + 1 by simp [openN]]
  exact h6
/-- a place is turned -/
theorem gd_row {W : World} {B bg r cap q : Nat} {st : St} (h : Gd W B bg (.slice (some ⟨r, 0, none⟩) st.at_.length cap) st) (o : Option Nat) : (W.setCell ⟨r, q, none⟩ (plV o)).ownsRow B 3 1 (.slice (some ⟨r, 0, none⟩) st.at_.length cap) (st.at_.set q o).length ((st.at_.set q o).map plV) ∧ Fr B SG W (W.setCell ⟨r, q, none⟩ (plV o)) ∧ Box.Holds (W.setCell ⟨r, q, none⟩ (plV o)) bg 60 #[.bool st.fz, .slice (some ⟨r, 0, none⟩) st.at_.length cap, .int .i64 (openN st.at_)] := by
  obtain ⟨cur, hr, hBr⟩ : ∃ cur, Box.Holds W r 3 cur ∧ B ≤ r := by
    rcases id h.row.2 with ⟨e, _⟩ | ⟨r', cap', cur, e, hB, hr, hc, _⟩
    · cases e
    · simp only [Value.slice.injEq, Option.some.injEq, Addr.mk.injEq] at e
      obtain ⟨⟨rfl, -⟩, -⟩ := e
      exact ⟨cur, hr, hB⟩
  refine ⟨?_, (Fr.refl B SG W).setCell (p := ⟨r, q, none⟩) hr hBr (fun _ hs => hs.2 rfl) _, h.hold.apart (p := ⟨r, q, none⟩) (fun e => ?_) _⟩
  · rw [List.length_set, List.map_set]
    exact (World.ownsRow.stored h.row q (plV o)).1
  · have := own_ne h.row h.hold (by decide)
    exact this (by rw [e]; rfl)
theorem gd_next {W : World} {B bg r cap q p p' : Nat} {st : St} (h : Gd W B bg (.slice (some ⟨r, 0, none⟩) st.at_.length cap) st) (hq : st.at_[q]? = some (some p)) : Gd (W.setCell ⟨r, q, none⟩ (.int .i64 p')) B bg (.slice (some ⟨r, 0, none⟩) st.at_.length cap) { st with at_ := st.at_.set q (some p') } ∧ Fr B SG W (W.setCell ⟨r, q, none⟩ (.int .i64 p')) := by
  obtain ⟨h1, h2, h3⟩ := gd_row (q := q) h (some p')
  refine ⟨⟨?_, h1, h.ge⟩, h2⟩
  rw [openN_next hq]
  exact h3
theorem gd_done {W : World} {B bg r cap q p : Nat} {st : St} (h : Gd W B bg (.slice (some ⟨r, 0, none⟩) st.at_.length cap) st) (hq : st.at_[q]? = some (some p)) : Gd ((W.setCell ⟨r, q, none⟩ (.int .i64 (-1))).setCell ⟨bg, 2, none⟩ (.int .i64 ((openN st.at_ : Int) - 1))) B bg (.slice (some ⟨r, 0, none⟩) st.at_.length cap) { st with at_ := st.at_.set q none } ∧ Fr B SG W ((W.setCell ⟨r, q, none⟩ (.int .i64 (-1))).setCell ⟨bg, 2, none⟩ (.int .i64 ((openN st.at_ : Int) - 1))) := by
  obtain ⟨h1, h2, h3⟩ := gd_row (q := q) h none
  refine ⟨⟨?_, ownsRow_setCell_other h1 (fun e => own_ne h1 h3 (by decide) e) _, h.ge⟩, h2.setCell (p := ⟨bg, 2, none⟩) h3 h.ge (fun _ hs => hs.1 rfl) _⟩
  have := openN_set hq
  rw [show ((openN (st.at_.set q none) : Nat) : Int) = (openN st.at_ : Int) - 1 by omega]
  exact h3.put 2 _
theorem walk_open_end {w W w4 : World} {B bg bs g4 c4 : Nat} {va : Value} {i j m : Int} {st : St} (hg : Gd W B bg va st) (hs : Box.Holds W bs 62 (stepCs 5 i j m nil6)) (hr : Box.Holds W w.heap.size 64 #[.bool false, .bool false, .int .i64 0, .int .i64 0, .bool false, .slice none 0 0, .int .u64 0, .string ⟨#[]⟩, .slice none 0 0, .slice none 0 0]) (ho : Box.Holds W (w.heap.size + 1) 64 #[.bool true, .bool false, .int .i64 st.at_.length, .int .i64 0, .bool false, .slice none 0 0, .int .u64 0, .string ⟨#[]⟩, .slice none 0 0, .slice none 0 0]) (hf : Fr B (SW bs) w W) (hB : B ≤ w.heap.size)
    (hv4 : w4.ownsRow B 3 1 (.slice (some ⟨g4, 0, none⟩) (st.at_.length + 1) c4) (st.at_ ++ [some 0]).length ((st.at_ ++ [some 0]).map plV)) (hg4 : W.grownBy w4 va.ownBlock) :
    Box.Holds w4 bg 60 #[.bool st.fz, va, .int .i64 (openN st.at_)] ∧ ∃ W6, (w4.setCell ⟨bg, 1, none⟩ (.slice (some ⟨g4, 0, none⟩) (st.at_.length + 1) c4)).setCell ⟨bg, 2, none⟩ (.int .i64 ((openN st.at_ : Int) + 1)) = W6 ∧ Hid (Box.Holds W6 (w.heap.size + 1) 64 #[.bool true, .bool false, .int .i64 st.at_.length, .int .i64 0, .bool false, .slice none 0 0, .int .u64 0, .string ⟨#[]⟩, .slice none 0 0, .slice none 0 0]) ∧ Box.Holds W6 w.heap.size 64 #[.bool false, .bool false, .int .i64 0, .int .i64 0, .bool false, .slice none 0 0, .int .u64 0, .string ⟨#[]⟩, .slice none 0 0, .slice none 0 0] ∧
    Hid (Box.Holds (putAns W6 w.heap.size true false st.at_.length nil6) w.heap.size 64 (ansCs true false st.at_.length nil6)) ∧ Hid (Walked w B bg bs j m st { st with at_ := st.at_ ++ [some 0] } .open_ ⟨true, false, st.at_.length, .sc .none⟩ (.returned (.tuple #[.agg (ansCs true false st.at_.length nil6), .bool true])) (putAns W6 w.heap.size true false st.at_.length nil6)) := by
  obtain ⟨h1, h2, h3⟩ := gd_open hg hv4 hg4
  have hs6 := h3.kept.holds hs ⟨by decide, by decide⟩
  have hr6 := h3.kept.holds hr ⟨by decide, by decide⟩
  have ho6 := h3.kept.holds ho ⟨by decide, by decide⟩
  obtain ⟨e1, e2⟩ := walked_end (st := st) (p := .open_) (an := ⟨true, false, st.at_.length, .sc .none⟩) (y := nil6) (j := j) (m := m) ⟨rfl, rfl⟩ hs6 h2 (nil6_av none _) (hf.trans h3.sg fun _ _ _ h => h) hB hr6
  exact ⟨h1, _, rfl, Lib.hid ho6, hr6, Lib.hid e1, Lib.hid e2⟩
set_option maxHeartbeats 2000000 in
set_option maxRecDepth 100000 in
theorem walk_open (B bg bs nn : Nat) (A0 : Option Addr) (c0 : Nat) (i j m : Int) (va : Value) (st : St) (w : World) (h : Gd w B bg va st) (hs : Box.Holds w bs 62 (stepCs 5 i j m nil6)) (hBs : B ≤ bs) (hits : st.at_.length ≤ 900) (hnn : nn ≤ 400) :
    Calls Tryz.prog 30 #[.pointer (some ⟨bg, 0, none⟩), .pointer (some ⟨bs, 0, none⟩), .slice A0 nn c0] w (Walked w B bg bs j m st { st with at_ := st.at_ ++ [some 0] } .open_ ⟨true, false, st.at_.length, .sc .none⟩) := by
  obtain ⟨W, hW⟩ : ∃ W, (w.alloc (.cells #[.bool false, .bool false, .int .i64 0, .int .i64 0, .bool false, .slice none 0 0, .int .u64 0, .string ⟨#[]⟩, .slice none 0 0, .slice none 0 0] 64)).alloc (.cells #[.bool true, .bool false, .int .i64 0, .int .i64 0, .bool false, .slice none 0 0, .int .u64 0, .string ⟨#[]⟩, .slice none 0 0, .slice none 0 0] 64) = W := ⟨_, rfl⟩
  have h2 := two2 w
  rw [hW] at h2
  have hB : B ≤ w.heap.size := Nat.le_trans h.ge (Nat.le_of_lt h.hold.lt)
  have hg1 := h.later h2.below
  have hs1 := hs.later h2.below
  obtain ⟨Aa, ca, rfl⟩ := hg1.shape
  have s0 := hold0 hs1
  have s1 := hold1 hs1
  have sl := hs1.lt
  have sf0 := hs1.free 0
  have sf1 := hs1.free 1
  have k0 := hg1.hold.cell 0
  have k1 := hg1.hold.cell 1
  have k2 := hg1.hold.cell 2
  simp at k0 k1 k2
  have kl := hg1.hold.lt
  have kf0 := hg1.hold.free 0
  have kf1 := hg1.hold.free 1
  have kf2 := hg1.hold.free 2
  have hfrW : Fr B (SW bs) w W := Fr.of_below h2.below hB
  have p2 := h2.out.cell 2
  simp at p2
  have f2 := h2.out.free 2
  have pl := h2.out.lt
  obtain ⟨W1, hW1⟩ : ∃ W1, W.setCell ⟨w.heap.size + 1, 2, none⟩ (.int .i64 st.at_.length) = W1 := ⟨_, rfl⟩
  have hk1 : KeptT (fun g _ => g ≠ w.heap.size + 1) W W1 := by rw [← hW1]; exact KeptT.setCell (p := ⟨w.heap.size + 1, 2, none⟩) h2.out (fun h => h rfl) _
  have hf1 : Fr B (SW bs) w W1 := by rw [← hW1]; exact hfrW.setCell (p := ⟨w.heap.size + 1, 2, none⟩) h2.out (by show B ≤ w.heap.size + 1; omega) (fun h => absurd h (by show ¬ w.heap.size + 1 < w.heap.size; omega)) _
  have hbne : bs ≠ w.heap.size + 1 := by have := hs.lt; omega
  have hgne : bg ≠ w.heap.size + 1 := by have := h.hold.lt; omega
  have hs2 : Box.Holds W1 bs 62 _ := hk1.holds hs1 hbne
  have hres : Box.Holds W1 w.heap.size 64 _ := hk1.holds h2.res (by omega)
  have hg2 : Gd W1 B bg _ st := ⟨hk1.holds hg1.hold hgne, hk1.own hg1.row (fun b hb => fun e => own_ne hg1.row h2.out (by decide) (by rw [hb, e])), h.ge⟩
  have hout0 : Box.Holds W1 (w.heap.size + 1) 64 #[.bool true, .bool false, .int .i64 st.at_.length, .int .i64 0, .bool false, .slice none 0 0, .int .u64 0, .string ⟨#[]⟩, .slice none 0 0, .slice none 0 0] := by rw [← hW1]; exact h2.out.put 2 (.int .i64 st.at_.length)
  have hle := h.open_le
  have hg2' := Lib.hid hg2
  have hs2' := Lib.hid hs2
  have hres' := Lib.hid hres
  have hout0' := Lib.hid hout0
  have hf1' := Lib.hid hf1
  have hrow := Lib.hid hg2.row
  have hBW : B ≤ W1.heap.size := Nat.le_trans hB hf1.below.size
  have g0 := hg2.hold.cell 0
  have g1 := hg2.hold.cell 1
  have g2 := hg2.hold.cell 2
  simp at g0 g1 g2
  have gl := hg2.hold.lt
  have gf1 := hg2.hold.free 1
  have gf2 := hg2.hold.free 2
  have hln : st.at_.length ≤ 1000000 := by omega
  have hfin := Lib.hid fun g4 c4 w4 hv4 hg4 => walk_open_end (w := w) (W := W1) (w4 := w4) (g4 := g4) (c4 := c4) (i := i) (j := j) (m := m) hg2 hs2 hres hout0 hf1 hB hv4 hg4
  clear h h2 hs hg1 hs1 hfrW hg2 hs2 hres hout0 hf1 hk1
  have hW' := Lib.hid hW
  clear hW
  go_enter Tryz.func30, Tryz.ntmps30
  go_upto_region 2 with fail
  rw [hW'.out]
  clear hW'
  go_wp2_with (first | (at_builtin; refine wpList_at (B := B) rfl _ _ rfl (.slice Aa st.at_.length ca) st.at_ rfl hrow.out hBW rfl hln ?_; intro g4 c4 w4 hv4 hg4; obtain ⟨hh4, W6, hW6, hout, hres6, hae, hfi⟩ := hfin.out g4 c4 w4 hv4 hg4; have t0 := hh4.cell 0; have t1 := hh4.cell 1; have t2 := hh4.cell 2; simp at t0 t1 t2; have tl := hh4.lt; have tf1 := hh4.free 1; have tf2 := hh4.free 2; obtain ⟨r0, r1, r2, r3, r4, r5, r6, r7, r8, r9, rl, q0, q1, q2, q3, q4, q5, q6, q7, q8, q9⟩ := ans_facts hres6; clear hh4 hres6 hv4 hg4 hfin) | refine wpList_load_row rfl 64 _ rfl (w.heap.size + 1) rfl 64 _ (0, 0) _ hout.out Tryz.underlying64 rfl (by kernel_rfl) ?_)
  exact bodyPost_ret (results_pair (p := 6) (u := 7) (cs := ansCs true false st.at_.length nil6) rfl _ _ w.heap.size 64 (0, 0) _ rfl hae.out rfl rfl rfl) rfl hfi.out
/-- no iterator is open: the step is a look at the length -/
theorem walk_len_end {w W : World} {B bg bs nn : Nat} {va : Value} {k i j m : Int} {st : St} (hg : Gd W B bg va st) (hs : Box.Holds W bs 62 (stepCs k i j m nil6)) (h2 : Two2 w W) (hf : Fr B (SW bs) w W) (hB : B ≤ w.heap.size) (hBs : B ≤ bs) :
    ∃ W3, (W.setCell ⟨bs, 0, none⟩ (.int .i64 4)).setCell ⟨w.heap.size + 1, 2, none⟩ (.int .i64 nn) = W3 ∧ Box.Holds W3 w.heap.size 64 #[.bool false, .bool false, .int .i64 0, .int .i64 0, .bool false, .slice none 0 0, .int .u64 0, .string ⟨#[]⟩, .slice none 0 0, .slice none 0 0] ∧ Hid (Box.Holds W3 (w.heap.size + 1) 64 #[.bool true, .bool false, .int .i64 nn, .int .i64 0, .bool false, .slice none 0 0, .int .u64 0, .string ⟨#[]⟩, .slice none 0 0, .slice none 0 0]) ∧
    Hid (Box.Holds (putAns W3 w.heap.size true false nn nil6) w.heap.size 64 (ansCs true false nn nil6)) ∧ Hid (Walked w B bg bs j m st st .len ⟨true, false, nn, .sc .none⟩ (.returned (.tuple #[.agg (ansCs true false nn nil6), .bool true])) (putAns W3 w.heap.size true false nn nil6)) := by
  have k1 : KeptT (fun g _ => g ≠ bs) W (W.setCell ⟨bs, 0, none⟩ (.int .i64 4)) := KeptT.setCell (p := ⟨bs, 0, none⟩) hs (fun h => h rfl) _
  have hne : ∀ {g : Nat} {t : TypeId} {c : Array Value}, Box.Holds W g t c → t ≠ 62 → g ≠ bs := fun {g t c} hh ht e => by
    rw [e] at hh
    have h1 : W.heap[bs]? = _ := hs
    have h3 : W.heap[bs]? = _ := hh
    rw [h1] at h3
    simp at h3
    exact ht h3.2.symm
  have o1 := k1.holds h2.out (hne h2.out (by decide))
  have r1 := k1.holds h2.res (hne h2.res (by decide))
  have s1 : Box.Holds (W.setCell ⟨bs, 0, none⟩ (.int .i64 4)) bs 62 (stepCs 4 i j m nil6) := hs.put 0 _
  have g1 : Gd (W.setCell ⟨bs, 0, none⟩ (.int .i64 4)) B bg va st := ⟨k1.holds hg.hold (hne hg.hold (by decide)), k1.own hg.row (fun b hb e => own_ne hg.row hs (by decide) (by rw [hb, e])), hg.ge⟩
  have f1 := hf.setCell (p := ⟨bs, 0, none⟩) hs hBs (fun _ hn => hn.2.2 rfl rfl) (.int .i64 4)
  have k2 : KeptT (fun g t => t ≠ 64 ∨ g ≠ w.heap.size + 1) (W.setCell ⟨bs, 0, none⟩ (.int .i64 4)) ((W.setCell ⟨bs, 0, none⟩ (.int .i64 4)).setCell ⟨w.heap.size + 1, 2, none⟩ (.int .i64 nn)) := KeptT.setCell (p := ⟨w.heap.size + 1, 2, none⟩) o1 (fun h => by rcases h with h | h; exact h rfl; exact h rfl) _
  have f2 := f1.setCell (p := ⟨w.heap.size + 1, 2, none⟩) o1 (by show B ≤ w.heap.size + 1; omega) (fun h => absurd h (by show ¬ w.heap.size + 1 < w.heap.size; omega)) (.int .i64 nn)
  have r2 := k2.holds r1 (.inr (by omega))
  obtain ⟨e1, e2⟩ := walked_end (st := st) (st' := st) (p := .len) (an := ⟨true, false, nn, .sc .none⟩) (y := nil6) (j := j) (m := m) ⟨rfl, rfl⟩ (k2.holds s1 (.inl (by decide))) (g1.kept k2 (fun _ => .inl (by decide)) (fun _ => .inl (by decide))) (nil6_av none _) f2 hB r2
  exact ⟨_, rfl, r2, Lib.hid (o1.put 2 _), Lib.hid e1, Lib.hid e2⟩
theorem step_apart {w W : World} {bs : Nat} {c : Array Value} (h2 : Two2 w W) (hs : Box.Holds W bs 62 c) {g : Nat} {t : TypeId} {cs : Array Value} (hh : Box.Holds W g t cs) (ht : t ≠ 62) : g ≠ bs := fun e => by
  rw [e] at hh
  have h1 : W.heap[bs]? = _ := hs
  have h3 : W.heap[bs]? = _ := hh
  rw [h1] at h3
  simp at h3
  exact ht h3.2.symm
/-- the step's number is the iterator's -/
theorem walk_pick {w W : World} {B bg bs q : Nat} {va : Value} {k i j m : Int} {st : St} (hg : Gd W B bg va st) (hs : Box.Holds W bs 62 (stepCs k i j m nil6)) (h2 : Two2 w W) (hf : Fr B (SW bs) w W) (hBs : B ≤ bs) :
    Gd (W.setCell ⟨bs, 1, none⟩ (.int .i64 q)) B bg va st ∧ Box.Holds (W.setCell ⟨bs, 1, none⟩ (.int .i64 q)) bs 62 (stepCs k q j m nil6) ∧ Box.Holds (W.setCell ⟨bs, 1, none⟩ (.int .i64 q)) w.heap.size 64 #[.bool false, .bool false, .int .i64 0, .int .i64 0, .bool false, .slice none 0 0, .int .u64 0, .string ⟨#[]⟩, .slice none 0 0, .slice none 0 0] ∧ Box.Holds (W.setCell ⟨bs, 1, none⟩ (.int .i64 q)) (w.heap.size + 1) 64 #[.bool true, .bool false, .int .i64 0, .int .i64 0, .bool false, .slice none 0 0, .int .u64 0, .string ⟨#[]⟩, .slice none 0 0, .slice none 0 0] ∧ Fr B (SW bs) w (W.setCell ⟨bs, 1, none⟩ (.int .i64 q)) := by
  have k1 : KeptT (fun g _ => g ≠ bs) W (W.setCell ⟨bs, 1, none⟩ (.int .i64 q)) := KeptT.setCell (p := ⟨bs, 1, none⟩) hs (fun h => h rfl) _
  exact ⟨⟨k1.holds hg.hold (step_apart h2 hs hg.hold (by decide)), k1.own hg.row (fun b hb e => own_ne hg.row hs (by decide) (by rw [hb, e])), hg.ge⟩, hs.put 1 _, k1.holds h2.res (step_apart h2 hs h2.res (by decide)), k1.holds h2.out (step_apart h2 hs h2.out (by decide)), hf.setCell (p := ⟨bs, 1, none⟩) hs hBs (fun _ hn => hn.2.2 rfl rfl) _⟩
theorem walk_done_end {w W : World} {B bg bs r cap q p : Nat} {i j m : Int} {st : St} (hg : Gd W B bg (.slice (some ⟨r, 0, none⟩) st.at_.length cap) st) (hs : Box.Holds W bs 62 (stepCs 7 i j m nil6)) (h2 : Two2 w W) (hf : Fr B (SW bs) w W) (hB : B ≤ w.heap.size) (hBs : B ≤ bs) (hq : st.at_[q]? = some (some p)) :
    ∃ W3, ((W.setCell ⟨bs, 1, none⟩ (.int .i64 q)).setCell ⟨r, q, none⟩ (.int .i64 (-1))).setCell ⟨bg, 2, none⟩ (.int .i64 ((openN st.at_ : Int) - 1)) = W3 ∧ Box.Holds W3 w.heap.size 64 #[.bool false, .bool false, .int .i64 0, .int .i64 0, .bool false, .slice none 0 0, .int .u64 0, .string ⟨#[]⟩, .slice none 0 0, .slice none 0 0] ∧ Hid (Box.Holds W3 (w.heap.size + 1) 64 #[.bool true, .bool false, .int .i64 0, .int .i64 0, .bool false, .slice none 0 0, .int .u64 0, .string ⟨#[]⟩, .slice none 0 0, .slice none 0 0]) ∧
    Hid (Box.Holds (putAns W3 w.heap.size true false 0 nil6) w.heap.size 64 (ansCs true false 0 nil6)) ∧ Hid (Walked w B bg bs j m st { st with at_ := st.at_.set q none } (.done q) .yes (.returned (.tuple #[.agg (ansCs true false 0 nil6), .bool true])) (putAns W3 w.heap.size true false 0 nil6)) := by
  obtain ⟨g1, s1, r1, o1, f1⟩ := walk_pick (q := q) hg hs h2 hf hBs
  obtain ⟨g2, f2⟩ := gd_done g1 hq
  have r2 := f2.kept.holds r1 ⟨by decide, by decide⟩
  obtain ⟨e1, e2⟩ := walked_end (st := st) (p := .done q) (an := .yes) (y := nil6) (j := j) (m := m) ⟨rfl, rfl, rfl⟩ (f2.kept.holds s1 ⟨by decide, by decide⟩) g2 (nil6_av none _) (f1.trans f2.sg fun _ _ _ h => h) hB r2
  exact ⟨_, rfl, r2, Lib.hid (f2.kept.holds o1 ⟨by decide, by decide⟩), Lib.hid e1, Lib.hid e2⟩
set_option maxHeartbeats 2000000 in
set_option maxRecDepth 100000 in
theorem walk_done (B bg bs nn : Nat) (A0 : Option Addr) (c0 : Nat) (i j m : Int) (va : Value) (st : St) (w : World) (h : Gd w B bg va st) (hs : Box.Holds w bs 62 (stepCs 7 i j m nil6)) (hBs : B ≤ bs) (hits : st.at_.length ≤ 900) (hnn : nn ≤ 400) (hl : nn = st.l.length) :
    Calls Tryz.prog 30 #[.pointer (some ⟨bg, 0, none⟩), .pointer (some ⟨bs, 0, none⟩), .slice A0 nn c0] w (fun e w' => ∃ p st' an, Step st p st' an ∧ st'.l = st.l ∧ (∃ s, an.v = .sc s) ∧ Walked w B bg bs j m st st' p an e w') := by
  obtain ⟨W, hW⟩ : ∃ W, (w.alloc (.cells #[.bool false, .bool false, .int .i64 0, .int .i64 0, .bool false, .slice none 0 0, .int .u64 0, .string ⟨#[]⟩, .slice none 0 0, .slice none 0 0] 64)).alloc (.cells #[.bool true, .bool false, .int .i64 0, .int .i64 0, .bool false, .slice none 0 0, .int .u64 0, .string ⟨#[]⟩, .slice none 0 0, .slice none 0 0] 64) = W := ⟨_, rfl⟩
  have h2 := two2 w
  rw [hW] at h2
  have hB : B ≤ w.heap.size := Nat.le_trans h.ge (Nat.le_of_lt h.hold.lt)
  have hg1 := h.later h2.below
  have hs1 := hs.later h2.below
  obtain ⟨Aa, ca, rfl⟩ := hg1.shape
  have s0 := hold0 hs1
  have s1 := hold1 hs1
  have sl := hs1.lt
  have sf0 := hs1.free 0
  have sf1 := hs1.free 1
  have k0 := hg1.hold.cell 0
  have k1 := hg1.hold.cell 1
  have k2 := hg1.hold.cell 2
  simp at k0 k1 k2
  have kl := hg1.hold.lt
  have kf0 := hg1.hold.free 0
  have kf1 := hg1.hold.free 1
  have kf2 := hg1.hold.free 2
  have hfrW : Fr B (SW bs) w W := Fr.of_below h2.below hB
  subst hl
  have hpick := Lib.hid (pick_any i hg1 hits)
  have hWs := Lib.hid h2.size
  have hbne : bs ≠ w.heap.size + 1 := by have := hs.lt; omega
  have hbn0 : bs ≠ w.heap.size := by have := hs.lt; omega
  have hgne : bg ≠ w.heap.size + 1 := by have := h.hold.lt; omega
  have hgn0 : bg ≠ w.heap.size := by have := h.hold.lt; omega
  have hgs : bg ≠ bs := hg1.step_ne hs1
  have hg1' := Lib.hid hg1
  have hs1' := Lib.hid hs1
  have h2' := Lib.hid h2
  have hfr' := Lib.hid hfrW
  clear h h2 hs hg1 hs1 hfrW
  have hW' := Lib.hid hW
  clear hW
  go_enter Tryz.func30, Tryz.ntmps30
  go_upto_region 2 with fail
  rw [hW'.out]
  clear hW'
  go_wp2_with fail
  refine hpick.out.mono ?_
  rintro e w' ⟨hpk, rfl⟩
  rcases hpk with ⟨h0, rfl⟩ | ⟨q, pl, hq, rfl⟩
  · obtain ⟨W3, hW3, hres, hout, hae, hfi⟩ := walk_len_end (nn := st.l.length) (i := i) (j := j) (m := m) (k := 7) hg1'.out hs1'.out h2'.out hfr'.out hB hBs
    have p2 := h2'.out.out.cell 2
    simp at p2
    have f2 := h2'.out.out.free 2
    have pl := h2'.out.out.lt
    obtain ⟨r0, r1, r2, r3, r4, r5, r6, r7, r8, r9, rl, q0, q1, q2, q3, q4, q5, q6, q7, q8, q9⟩ := ans_facts hres
    have hbne' := hbne.symm
    clear hres hpick hg1' hs1' h2' hfr'
    go_wp2_with (refine wpList_load_row rfl 64 _ rfl (w.heap.size + 1) rfl 64 _ (0, 0) _ hout.out Tryz.underlying64 rfl (by kernel_rfl) ?_)
    exact bodyPost_ret (results_pair (p := 6) (u := 7) (cs := ansCs true false st.l.length nil6) rfl _ _ w.heap.size 64 (0, 0) _ rfl hae.out rfl rfl rfl) rfl ⟨_, _, _, Step.len, rfl, ⟨_, rfl⟩, hfi.out⟩
  · have hlt := (List.getElem?_eq_some_iff.1 hq).1
    obtain ⟨r, cap, he, hBr, hrl, hcap, hcell, hfr, cs, hrc⟩ := hg1'.out.cell hlt
    simp only [Value.slice.injEq, true_and] at he
    obtain ⟨rfl, rfl⟩ := he
    rw [(List.getElem?_eq_some_iff.1 hq).2] at hcell
    simp only [plV] at hcell
    obtain ⟨W3, hW3, hres, hout, hae, hfi⟩ := walk_done_end (j := j) (m := m) hg1'.out hs1'.out h2'.out hfr'.out hB hBs hq
    obtain ⟨r0, r1, r2, r3, r4, r5, r6, r7, r8, r9, rl, q0, q1, q2, q3, q4, q5, q6, q7, q8, q9⟩ := ans_facts hres
    have hrs : r ≠ bs := fun e => own_ne hg1'.out.row hs1'.out (by decide) (by rw [e]; rfl)
    have hrg : r ≠ bg := fun e => own_ne hg1'.out.row hg1'.out.hold (by decide) (by rw [e]; rfl)
    have hqi : (q : Int) < st.at_.length := by omega
    have hle := hg1'.out.open_le
    have hop := openN_set hq
    have hon : 1 ≤ openN st.at_ := by omega
    have hgs' := hgs.symm
    have hrs' := hrs.symm
    have hrg' := hrg.symm
    clear hres hpick hg1' hs1' h2' hfr' hrc hop
    go_wp2_with (refine wpList_load_row rfl 64 _ rfl (w.heap.size + 1) rfl 64 _ (0, 0) _ hout.out Tryz.underlying64 rfl (by kernel_rfl) ?_)
    exact bodyPost_ret (results_pair (p := 6) (u := 7) (cs := ansCs true false 0 nil6) rfl _ _ w.heap.size 64 (0, 0) _ rfl hae.out rfl rfl rfl) rfl ⟨_, _, _, Step.done hq, rfl, ⟨_, rfl⟩, hfi.out⟩
end Go.Proofs.YtafbheamnjmfoaaGreat.Ls
