/-
  The reference's walk: the steps that all objects have.
-/
import Derived.Test.YtafbheamnjmfoaaGreatLsFirst
import Derived.Test.YtafbheamnjmfoaaGreatLsState0
import Derived.Laws.ResultCell
import Derived.Deep.DeepCutAuto
namespace Go.Proofs.YtafbheamnjmfoaaGreat.Ls
open Go.RowKit Go.WideShapes Go.Proofs.YtafbheamnjmfoaaGreat.Sc Go.Proofs.YtafbheamnjmfoaaGreat.VRow
set_option linter.unusedVariables false

/-- the two blocks of a walk: its answer, what it gathers -/
structure Two2 (w W : World) : Prop where
  below : Below w.heap.size w W
  size : W.heap.size = w.heap.size + 1 + 1
  res : Box.Holds W w.heap.size 64 #[.bool false, .bool false, .int .i64 0, .int .i64 0, .bool false, .slice none 0 0, .int .u64 0, .string ⟨#[]⟩, .slice none 0 0, .slice none 0 0]
  out : Box.Holds W (w.heap.size + 1) 64 #[.bool true, .bool false, .int .i64 0, .int .i64 0, .bool false, .slice none 0 0, .int .u64 0, .string ⟨#[]⟩, .slice none 0 0, .slice none 0 0]
theorem two2 (w : World) : Two2 w ((w.alloc (.cells #[.bool false, .bool false, .int .i64 0, .int .i64 0, .bool false, .slice none 0 0, .int .u64 0, .string ⟨#[]⟩, .slice none 0 0, .slice none 0 0] 64)).alloc (.cells #[.bool true, .bool false, .int .i64 0, .int .i64 0, .bool false, .slice none 0 0, .int .u64 0, .string ⟨#[]⟩, .slice none 0 0, .slice none 0 0] 64)) := by
  refine ⟨(Ref.below_one' _ (Nat.le_refl _)).alloc (by simp) _, by simp, (Box.Holds.made w _ _).alloc _, ?_⟩
  have := Box.Holds.made (w.alloc (.cells #[.bool false, .bool false, .int .i64 0, .int .i64 0, .bool false, .slice none 0 0, .int .u64 0, .string ⟨#[]⟩, .slice none 0 0, .slice none 0 0] 64)) 64 #[.bool true, .bool false, .int .i64 0, .int .i64 0, .bool false, .slice none 0 0, .int .u64 0, .string ⟨#[]⟩, .slice none 0 0, .slice none 0 0]
  rwa [World.size_alloc] at this
theorem results_pair {P : Program} {fn : Func} {p u : Tmp} {ty : TypeId} (h : fn.results = #[.cell p ty, .tmp u]) {cs : Array Value} (tmps : Array Value) (w : World) (g : Nat) (t : TypeId) (fr : Nat × Nat) (d : TypeDesc)
    (hp : tmps.getD p undef = .pointer (some ⟨g, 0, none⟩)) (hg : w.heap[g]? = some (.cells cs t fr))
    (hu : P.underlying ty = some d) (hd : (match d with | .struct _ | .array _ _ => true | _ => false) = true) (hi : (P.info? ty).map (·.size) = some cs.size) :
    (results fn tmps).run P w = .ok (.tuple #[.agg cs, tmps.getD u undef]) w := by
  rw [results_cell_tmp h, hp]
  simp [asAddr, run_loadVar_row w g t ty cs fr d hg hu hd hi, Result.andThen]
/-- all but the guard, its places, one step -/
def SW (bs g : Nat) (t : TypeId) : Prop := t ≠ 60 ∧ t ≠ 3 ∧ (t = 62 → g ≠ bs)
/-- a step that all objects have -/
def Walked (w : World) (B bg bs : Nat) (j m : Int) (st st' : St) (p : Sp) (an : An) (e : Ending) (w' : World) : Prop :=
  ∃ y va k i, e = .returned (.tuple #[.agg (ansCs an.ok an.is_ an.n y), .bool true]) ∧ p.fits k i j m .none ∧ Box.Holds w' bs 62 (stepCs k i j m nil6) ∧ Gd w' B bg va st' ∧ IsAv none w' y an.v ∧ Fr B (SW bs) w w'

/-- the end of a walk: what it gathered becomes its answer -/
theorem walked_end {w w1 : World} {B bg bs : Nat} {va : Value} {j m k i : Int} {st st' : St} {p : Sp} {an : An} {y : V6} (hp : p.fits k i j m .none) (hs : Box.Holds w1 bs 62 (stepCs k i j m nil6)) (hg : Gd w1 B bg va st') (hy : IsAv none w1 y an.v) (hf : Fr B (SW bs) w w1) (hB : B ≤ w.heap.size)
    (hr : Box.Holds w1 w.heap.size 64 #[.bool false, .bool false, .int .i64 0, .int .i64 0, .bool false, .slice none 0 0, .int .u64 0, .string ⟨#[]⟩, .slice none 0 0, .slice none 0 0]) :
    Box.Holds (putAns w1 w.heap.size an.ok an.is_ an.n y) w.heap.size 64 (ansCs an.ok an.is_ an.n y) ∧ Walked w B bg bs j m st st' p an (.returned (.tuple #[.agg (ansCs an.ok an.is_ an.n y), .bool true])) (putAns w1 w.heap.size an.ok an.is_ an.n y) := by
  obtain ⟨f, h⟩ := putAns_fr hf hr hB (fun h => absurd h (Nat.lt_irrefl _)) an.ok an.is_ an.n y
  have hk := (putAns_fr (Fr.refl B (fun _ t => t ≠ 64) w1) hr hB (fun _ h => h rfl) an.ok an.is_ an.n y).1.kept
  exact ⟨h, y, va, k, i, rfl, hp, hk.holds hs (by decide), hg.kept hk (fun _ => by decide) (fun _ => by decide), hy.kept (put_kept hr _ _ _ _) (fun g h => by cases h), f⟩
theorem info_int : (Tryz.prog.info? 3).map (fun i => (i.zero, i.size, i.bytes)) = some (some (.int .i64 0), 1, 8) := by kernel_rfl
/-- 'append(g.at, 0)' -/
theorem wpList_at {ops : Array Oper} {rest : List Oper} {o : Oper} {a : Act} {Q : Exit → Act → World → Prop} {wr : World} {B : Nat} (hgd : o.guard = Option.none) (s x : Operand)
    (ho : o.op = .call { callee := .builtin .append, args := #[s, x], argTypes := #[35, 35] })
    (v : Value) (L : List (Option Nat)) (hs : a.eval s = v) (hown : wr.ownsRow B 3 1 v L.length (L.map plV)) (hB : B ≤ wr.heap.size)
    (hx : a.eval x = .slice (some ⟨wr.heap.size, 0, Option.none⟩) 1 1) (hn : L.length ≤ 1000000)
    (h : ∀ g cap w', w'.ownsRow B 3 1 (.slice (some ⟨g, 0, none⟩) (L.length + 1) cap) (L ++ [some 0]).length ((L ++ [some 0]).map plV) → wr.grownBy w' v.ownBlock → wpList Tryz.prog ops Q rest (a.put o.dst (.slice (some ⟨g, 0, none⟩) (L.length + 1) cap)) w') :
    wpList Tryz.prog ops Q (o :: rest) a (wr.alloc (.cells #[.int .i64 0] 3)) := by
  obtain ⟨i0, hi, hz0, hz1, hz2⟩ := info_parts info_int
  refine wpList_plain hgd fun _ hK => wp_append_lies _ s x 35 ho B 3 i0 (.int .i64 0) 1 8 Tryz.underlying35 hi hz0 hz1 hz2 rfl (by decide) v L.length (L.map plV) hs (World.ownsRow.alloc hown _) ⟨wr.heap.size, 0, Option.none⟩ 1 1 [.int .i64 0] hx rfl
    (cell_one_new _ _ _) ?_ (by omega) (by unfold maxLen; omega) (by omega) (by simp; omega) (wr.heap.size + 1) (by simp) ?_
  · intro u hu
    simp at hu
    subst hu
    rfl
  · intro g cap w' hown' hg hlies hlt
    refine hK _ _ (h g cap w' (by rw [List.length_append, List.map_append]; exact hown') ⟨hg.os, hg.tape, hg.output, ?_, fun b hb hbn => ?_⟩)
    · have := hg.size; simp at this; omega
    · exact (hg.block b (by simp; omega) hbn).trans (heap_alloc_old wr _ hb)
theorem Gd.step_ne {w : World} {B bg bs : Nat} {va : Value} {st : St} {c : Array Value} (h : Gd w B bg va st) (hs : Box.Holds w bs 62 c) : bg ≠ bs := fun e => by
  have h1 := h.hold
  rw [e] at h1
  have h2 : w.heap[bs]? = _ := h1
  have h3 : w.heap[bs]? = _ := hs
  rw [h2] at h3
  simp at h3
set_option maxHeartbeats 2000000 in
set_option maxRecDepth 100000 in
theorem walk_len (B bg bs nn : Nat) (A0 : Option Addr) (c0 : Nat) (i j m : Int) (va : Value) (st : St) (w : World) (h : Gd w B bg va st) (hs : Box.Holds w bs 62 (stepCs 4 i j m nil6)) (hBs : B ≤ bs) (hits : st.at_.length ≤ 900) (hnn : nn ≤ 400) :
    Calls Tryz.prog 30 #[.pointer (some ⟨bg, 0, none⟩), .pointer (some ⟨bs, 0, none⟩), .slice A0 nn c0] w (Walked w B bg bs j m st st .len ⟨true, false, nn, .sc .none⟩) := by
  obtain ⟨W, hW⟩ : ∃ W, (w.alloc (.cells #[.bool false, .bool false, .int .i64 0, .int .i64 0, .bool false, .slice none 0 0, .int .u64 0, .string ⟨#[]⟩, .slice none 0 0, .slice none 0 0] 64)).alloc (.cells #[.bool true, .bool false, .int .i64 0, .int .i64 0, .bool false, .slice none 0 0, .int .u64 0, .string ⟨#[]⟩, .slice none 0 0, .slice none 0 0] 64) = W := ⟨_, rfl⟩
  have h2 := two2 w
  rw [hW] at h2
  have hB : B ≤ w.heap.size := Nat.le_trans h.ge (Nat.le_of_lt h.hold.lt)
  have hg1 := h.later h2.below
  have hs1 := hs.later h2.below
  obtain ⟨Aa, ca, rfl⟩ := hg1.shape
  have s0 := hold0 hs1
  have s1 := hold1 hs1
  have sl := hs1.lt
  have sf0 := hs1.free 0
  have sf1 := hs1.free 1
  have k0 := hg1.hold.cell 0
  have k1 := hg1.hold.cell 1
  have k2 := hg1.hold.cell 2
  simp at k0 k1 k2
  have kl := hg1.hold.lt
  have kf0 := hg1.hold.free 0
  have kf1 := hg1.hold.free 1
  have kf2 := hg1.hold.free 2
  have hfrW : Fr B (SW bs) w W := Fr.of_below h2.below hB
  have p2 := h2.out.cell 2
  simp at p2
  have f2 := h2.out.free 2
  have pl := h2.out.lt
  obtain ⟨W1, hW1⟩ : ∃ W1, W.setCell ⟨w.heap.size + 1, 2, none⟩ (.int .i64 nn) = W1 := ⟨_, rfl⟩
  have hk1 : KeptT (fun g _ => g ≠ w.heap.size + 1) W W1 := by rw [← hW1]; exact KeptT.setCell (p := ⟨w.heap.size + 1, 2, none⟩) h2.out (fun h => h rfl) _
  have hf1 : Fr B (SW bs) w W1 := by rw [← hW1]; exact hfrW.setCell (p := ⟨w.heap.size + 1, 2, none⟩) h2.out (by show B ≤ w.heap.size + 1; omega) (fun h => absurd h (by show ¬ w.heap.size + 1 < w.heap.size; omega)) _
  have hbne : bs ≠ w.heap.size + 1 := by have := hs.lt; omega
  have hgne : bg ≠ w.heap.size + 1 := by have := h.hold.lt; omega
  have hs2 : Box.Holds W1 bs 62 _ := hk1.holds hs1 hbne
  have hres : Box.Holds W1 w.heap.size 64 _ := hk1.holds h2.res (by omega)
  have hg2 : Gd W1 B bg _ st := ⟨hk1.holds hg1.hold hgne, hk1.own hg1.row (fun b hb => fun e => own_ne hg1.row h2.out (by decide) (by rw [hb, e])), h.ge⟩
  have hout0 : Box.Holds W1 (w.heap.size + 1) 64 #[.bool true, .bool false, .int .i64 nn, .int .i64 0, .bool false, .slice none 0 0, .int .u64 0, .string ⟨#[]⟩, .slice none 0 0, .slice none 0 0] := by rw [← hW1]; exact h2.out.put 2 (.int .i64 nn)
  obtain ⟨hae0, hfi0⟩ := walked_end (st := st) (p := .len) (an := ⟨true, false, nn, .sc .none⟩) (y := nil6) (j := j) (m := m) ⟨rfl, rfl⟩ hs2 hg2 (nil6_av none _) hf1 hB hres
  have hout := Lib.hid hout0
  obtain ⟨r0, r1, r2, r3, r4, r5, r6, r7, r8, r9, rl, q0, q1, q2, q3, q4, q5, q6, q7, q8, q9⟩ := ans_facts hres
  have hae := Lib.hid hae0
  have hfi := Lib.hid hfi0
  clear hae0 hfi0 hout0 hres h h2 hs hg1 hs1 hfrW hs2 hg2 hf1
  have hW' := Lib.hid hW
  clear hW
  go_enter Tryz.func30, Tryz.ntmps30
  go_upto_region 2 with fail
  rw [hW'.out]
  clear hW'
  go_wp2_with (refine wpList_load_row rfl 64 _ rfl (w.heap.size + 1) rfl 64 _ (0, 0) _ hout.out Tryz.underlying64 rfl (by kernel_rfl) ?_)
  exact bodyPost_ret (results_pair (p := 6) (u := 7) (cs := ansCs true false nn nil6) rfl _ _ w.heap.size 64 (0, 0) _ rfl hae.out rfl rfl rfl) rfl hfi.out
set_option maxHeartbeats 2000000 in
set_option maxRecDepth 100000 in
theorem walk_truth (B bg bs nn : Nat) (A0 : Option Addr) (c0 : Nat) (i j m : Int) (z : Bool) (va : Value) (st : St) (w : World) (h : Gd w B bg va st) (hs : Box.Holds w bs 62 (stepCs 11 i j m nil6)) (hBs : B ≤ bs) (hits : st.at_.length ≤ 900) (hnn : nn ≤ 400) (hz : decide (0 < nn) = z) :
    Calls Tryz.prog 30 #[.pointer (some ⟨bg, 0, none⟩), .pointer (some ⟨bs, 0, none⟩), .slice A0 nn c0] w (Walked w B bg bs j m st st .truth ⟨true, z, 0, .sc .none⟩) := by
  obtain ⟨W, hW⟩ : ∃ W, (w.alloc (.cells #[.bool false, .bool false, .int .i64 0, .int .i64 0, .bool false, .slice none 0 0, .int .u64 0, .string ⟨#[]⟩, .slice none 0 0, .slice none 0 0] 64)).alloc (.cells #[.bool true, .bool false, .int .i64 0, .int .i64 0, .bool false, .slice none 0 0, .int .u64 0, .string ⟨#[]⟩, .slice none 0 0, .slice none 0 0] 64) = W := ⟨_, rfl⟩
  have h2 := two2 w
  rw [hW] at h2
  have hB : B ≤ w.heap.size := Nat.le_trans h.ge (Nat.le_of_lt h.hold.lt)
  have hg1 := h.later h2.below
  have hs1 := hs.later h2.below
  obtain ⟨Aa, ca, rfl⟩ := hg1.shape
  have s0 := hold0 hs1
  have s1 := hold1 hs1
  have sl := hs1.lt
  have sf0 := hs1.free 0
  have sf1 := hs1.free 1
  have k0 := hg1.hold.cell 0
  have k1 := hg1.hold.cell 1
  have k2 := hg1.hold.cell 2
  simp at k0 k1 k2
  have kl := hg1.hold.lt
  have kf0 := hg1.hold.free 0
  have kf1 := hg1.hold.free 1
  have kf2 := hg1.hold.free 2
  have hfrW : Fr B (SW bs) w W := Fr.of_below h2.below hB
  have p2 := h2.out.cell 1
  simp at p2
  have f2 := h2.out.free 1
  have pl := h2.out.lt
  obtain ⟨W1, hW1⟩ : ∃ W1, W.setCell ⟨w.heap.size + 1, 1, none⟩ (.bool z) = W1 := ⟨_, rfl⟩
  have hk1 : KeptT (fun g _ => g ≠ w.heap.size + 1) W W1 := by rw [← hW1]; exact KeptT.setCell (p := ⟨w.heap.size + 1, 1, none⟩) h2.out (fun h => h rfl) _
  have hf1 : Fr B (SW bs) w W1 := by rw [← hW1]; exact hfrW.setCell (p := ⟨w.heap.size + 1, 1, none⟩) h2.out (by show B ≤ w.heap.size + 1; omega) (fun h => absurd h (by show ¬ w.heap.size + 1 < w.heap.size; omega)) _
  have hbne : bs ≠ w.heap.size + 1 := by have := hs.lt; omega
  have hgne : bg ≠ w.heap.size + 1 := by have := h.hold.lt; omega
  have hs2 : Box.Holds W1 bs 62 _ := hk1.holds hs1 hbne
  have hres : Box.Holds W1 w.heap.size 64 _ := hk1.holds h2.res (by omega)
  have hg2 : Gd W1 B bg _ st := ⟨hk1.holds hg1.hold hgne, hk1.own hg1.row (fun b hb => fun e => own_ne hg1.row h2.out (by decide) (by rw [hb, e])), h.ge⟩
  have hout0 : Box.Holds W1 (w.heap.size + 1) 64 #[.bool true, .bool z, .int .i64 0, .int .i64 0, .bool false, .slice none 0 0, .int .u64 0, .string ⟨#[]⟩, .slice none 0 0, .slice none 0 0] := by rw [← hW1]; exact h2.out.put 1 (.bool z)
  obtain ⟨hae0, hfi0⟩ := walked_end (st := st) (p := .truth) (an := ⟨true, z, 0, .sc .none⟩) (y := nil6) (j := j) (m := m) ⟨rfl, rfl⟩ hs2 hg2 (nil6_av none _) hf1 hB hres
  have hout := Lib.hid hout0
  obtain ⟨r0, r1, r2, r3, r4, r5, r6, r7, r8, r9, rl, q0, q1, q2, q3, q4, q5, q6, q7, q8, q9⟩ := ans_facts hres
  have hae := Lib.hid hae0
  have hfi := Lib.hid hfi0
  clear hae0 hfi0 hout0 hres h h2 hs hg1 hs1 hfrW hs2 hg2 hf1
  have hW' := Lib.hid hW
  clear hW
  go_enter Tryz.func30, Tryz.ntmps30
  go_upto_region 2 with fail
  rw [hW'.out]
  clear hW'
  go_wp2_with (refine wpList_load_row rfl 64 _ rfl (w.heap.size + 1) rfl 64 _ (0, 0) _ hout.out Tryz.underlying64 rfl (by kernel_rfl) ?_)
  exact bodyPost_ret (results_pair (p := 6) (u := 7) (cs := ansCs true z 0 nil6) rfl _ _ w.heap.size 64 (0, 0) _ rfl hae.out rfl rfl rfl) rfl hfi.out
set_option maxHeartbeats 2000000 in
set_option maxRecDepth 100000 in
theorem walk_freeze (B bg bs nn : Nat) (A0 : Option Addr) (c0 : Nat) (i j m : Int) (va : Value) (st : St) (w : World) (h : Gd w B bg va st) (hs : Box.Holds w bs 62 (stepCs 8 i j m nil6)) (hBs : B ≤ bs) (hits : st.at_.length ≤ 900) (hnn : nn ≤ 400) :
    Calls Tryz.prog 30 #[.pointer (some ⟨bg, 0, none⟩), .pointer (some ⟨bs, 0, none⟩), .slice A0 nn c0] w (Walked w B bg bs j m st { st with fz := true } .freeze .yes) := by
  obtain ⟨W, hW⟩ : ∃ W, (w.alloc (.cells #[.bool false, .bool false, .int .i64 0, .int .i64 0, .bool false, .slice none 0 0, .int .u64 0, .string ⟨#[]⟩, .slice none 0 0, .slice none 0 0] 64)).alloc (.cells #[.bool true, .bool false, .int .i64 0, .int .i64 0, .bool false, .slice none 0 0, .int .u64 0, .string ⟨#[]⟩, .slice none 0 0, .slice none 0 0] 64) = W := ⟨_, rfl⟩
  have h2 := two2 w
  rw [hW] at h2
  have hB : B ≤ w.heap.size := Nat.le_trans h.ge (Nat.le_of_lt h.hold.lt)
  have hg1 := h.later h2.below
  have hs1 := hs.later h2.below
  obtain ⟨Aa, ca, rfl⟩ := hg1.shape
  have s0 := hold0 hs1
  have s1 := hold1 hs1
  have sl := hs1.lt
  have sf0 := hs1.free 0
  have sf1 := hs1.free 1
  have k0 := hg1.hold.cell 0
  have k1 := hg1.hold.cell 1
  have k2 := hg1.hold.cell 2
  simp at k0 k1 k2
  have kl := hg1.hold.lt
  have kf0 := hg1.hold.free 0
  have kf1 := hg1.hold.free 1
  have kf2 := hg1.hold.free 2
  have hfrW : Fr B (SW bs) w W := Fr.of_below h2.below hB
  obtain ⟨W1, hW1⟩ : ∃ W1, W.setCell ⟨bg, 0, none⟩ (.bool true) = W1 := ⟨_, rfl⟩
  have hk1 : KeptT (fun g _ => g ≠ bg) W W1 := by rw [← hW1]; exact KeptT.setCell (p := ⟨bg, 0, none⟩) hg1.hold (fun h => h rfl) _
  have hf1 : Fr B (SW bs) w W1 := by rw [← hW1]; exact hfrW.setCell (p := ⟨bg, 0, none⟩) hg1.hold h.ge (fun _ hn => hn.1 rfl) _
  have hgne : bg ≠ w.heap.size + 1 := by have := h.hold.lt; omega
  have hgn0 : bg ≠ w.heap.size := by have := h.hold.lt; omega
  have hs2 : Box.Holds W1 bs 62 _ := hk1.holds hs1 (fun e => (hg1.step_ne hs1) e.symm)
  have hres : Box.Holds W1 w.heap.size 64 _ := hk1.holds h2.res (fun e => hgn0 e.symm)
  have hout0 : Box.Holds W1 (w.heap.size + 1) 64 _ := hk1.holds h2.out (fun e => hgne e.symm)
  have hg2 : Gd W1 B bg _ { st with fz := true } := ⟨by rw [← hW1]; exact hg1.hold.put 0 _, hk1.own hg1.row (fun b hb => fun e => own_ne hg1.row hg1.hold (by decide) (by rw [hb, e])), h.ge⟩
  obtain ⟨hae0, hfi0⟩ := walked_end (st := st) (p := .freeze) (an := .yes) (y := nil6) (j := j) (m := m) ⟨rfl, rfl⟩ hs2 hg2 (nil6_av none _) hf1 hB hres
  have hout := Lib.hid hout0
  obtain ⟨r0, r1, r2, r3, r4, r5, r6, r7, r8, r9, rl, q0, q1, q2, q3, q4, q5, q6, q7, q8, q9⟩ := ans_facts hres
  have hae := Lib.hid hae0
  have hfi := Lib.hid hfi0
  clear hae0 hfi0 hout0 hres h h2 hs hg1 hs1 hfrW hs2 hg2 hf1
  have hW' := Lib.hid hW
  clear hW
  go_enter Tryz.func30, Tryz.ntmps30
  go_upto_region 2 with fail
  rw [hW'.out]
  clear hW'
  go_wp2_with (refine wpList_load_row rfl 64 _ rfl (w.heap.size + 1) rfl 64 _ (0, 0) _ hout.out Tryz.underlying64 rfl (by kernel_rfl) ?_)
  exact bodyPost_ret (results_pair (p := 6) (u := 7) (cs := ansCs true false 0 nil6) rfl _ _ w.heap.size 64 (0, 0) _ rfl hae.out rfl rfl rfl) rfl hfi.out
def Others (w : World) (e : Ending) (w' : World) : Prop := e = .returned (.tuple #[.agg #[.bool false, .bool false, .int .i64 0, .int .i64 0, .bool false, .slice none 0 0, .int .u64 0, .string ⟨#[]⟩, .slice none 0 0, .slice none 0 0], .bool false]) ∧ Below w.heap.size w w'
set_option maxHeartbeats 2000000 in
set_option maxRecDepth 100000 in
theorem walk_other (bg bs nn : Nat) (A0 : Option Addr) (c0 : Nat) (k i j m : Int) (w : World) (hs : Box.Holds w bs 62 (stepCs k i j m nil6)) (hk : k = 0 ∨ k = 1 ∨ k = 2 ∨ k = 3 ∨ k = 27) :
    Calls Tryz.prog 30 #[.pointer (some ⟨bg, 0, none⟩), .pointer (some ⟨bs, 0, none⟩), .slice A0 nn c0] w (Others w) := by
  obtain ⟨W, hW⟩ : ∃ W, (w.alloc (.cells #[.bool false, .bool false, .int .i64 0, .int .i64 0, .bool false, .slice none 0 0, .int .u64 0, .string ⟨#[]⟩, .slice none 0 0, .slice none 0 0] 64)).alloc (.cells #[.bool true, .bool false, .int .i64 0, .int .i64 0, .bool false, .slice none 0 0, .int .u64 0, .string ⟨#[]⟩, .slice none 0 0, .slice none 0 0] 64) = W := ⟨_, rfl⟩
  have h2 := two2 w
  rw [hW] at h2
  have hs1 := hs.later h2.below
  have s0 := hold0 hs1
  have sl := hs1.lt
  have hB : (0 : Nat) ≤ w.heap.size := Nat.zero_le _
  obtain ⟨p0, p1, p2, p3, p4, p5, p6, p7, p8, p9, pl, f0, f1, f2, f3, f4, f5, f6, f7, f8, f9⟩ := ans_facts h2.res
  obtain ⟨hf, hres⟩ := putAns_fr (Fr.of_below (B := w.heap.size) (S := fun _ _ => True) h2.below (Nat.le_refl _)) h2.res (Nat.le_refl _) (fun h => absurd h (Nat.lt_irrefl _)) false false 0 nil6
  have hae := Lib.hid hres
  have hfi := Lib.hid (show Others w (.returned (.tuple #[.agg #[.bool false, .bool false, .int .i64 0, .int .i64 0, .bool false, .slice none 0 0, .int .u64 0, .string ⟨#[]⟩, .slice none 0 0, .slice none 0 0], .bool false])) _ from ⟨rfl, hf.below⟩)
  clear h2 hs hs1 hf hres
  have hW' := Lib.hid hW
  clear hW
  rcases hk with rfl | rfl | rfl | rfl | rfl
  all_goals
    go_enter Tryz.func30, Tryz.ntmps30
    go_upto_region 2 with fail
    rw [hW'.out]
    clear hW'
    go_wp2
    exact bodyPost_ret (results_pair (p := 6) (u := 7) (cs := #[.bool false, .bool false, .int .i64 0, .int .i64 0, .bool false, .slice none 0 0, .int .u64 0, .string ⟨#[]⟩, .slice none 0 0, .slice none 0 0]) rfl _ _ w.heap.size 64 (0, 0) _ rfl hae.out rfl rfl rfl) rfl hfi.out
end Go.Proofs.YtafbheamnjmfoaaGreat.Ls
