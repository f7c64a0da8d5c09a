/-
  A list gone through: its iterator. A list that is changed: append, set, clear; a list that is frozen; its truth. A list that is cleared, frozen, cut. A slice of a list, by the program and by the reference.
-/
import Derived.Test.YtafbheamnjmfoaaGreatScAll
import Derived.Deep.QuietTactic
import Derived.BigQuiet
import Derived.RegionTactic
import Derived.Test.YtafbheamnjmfoaaGreatLsFirst
import Derived.Laws.AppendOwnNone
namespace Go.Proofs.YtafbheamnjmfoaaGreat.Ls
open Go.RowKit Go.WideShapes Go.Proofs.YtafbheamnjmfoaaGreat.Sc
set_option linter.unusedVariables false

set_option maxRecDepth 100000 in
theorem iterate_any (g : Nat) (v : Value) (it : Nat) (hit : it < 4294967295) (w : World) (h : Box.Holds w g 128 #[v, .bool false, .int .u32 it]) : Calls Tryz.prog 80 #[.pointer (some ⟨g, 0, none⟩)] w fun e w' => e = .returned (.iface 169 (.pointer (some ⟨w.heap.size, 0, none⟩))) ∧ w' = (w.setCell ⟨g, 2, none⟩ (.int .u32 ((it : Int) + 1))).alloc (.cells #[.pointer (some ⟨g, 0, none⟩), .int .i64 0] 171) := by
  have k1 := h.cell 1
  have k2 := h.cell 2
  simp at k1 k2
  have hl := h.lt
  have f2 := h.free 2
  go_enter Tryz.func80, Tryz.ntmps80
  go_wp2
  go_ret
  exact ⟨rfl, rfl⟩
set_option maxRecDepth 100000 in
theorem iterate_frozen (g : Nat) (v u : Value) (w : World) (h : Box.Holds w g 128 #[v, .bool true, u]) : Calls Tryz.prog 80 #[.pointer (some ⟨g, 0, none⟩)] w fun e w' => e = .returned (.iface 169 (.pointer (some ⟨w.heap.size, 0, none⟩))) ∧ w' = w.alloc (.cells #[.pointer (some ⟨g, 0, none⟩), .int .i64 0] 171) := by
  have k1 := h.cell 1
  simp at k1
  have hl := h.lt
  go_enter Tryz.func80, Tryz.ntmps80
  go_wp2
  go_ret
  exact ⟨rfl, rfl⟩
set_option maxRecDepth 100000 in
theorem done_any (b g : Nat) (v i : Value) (it : Nat) (h0 : 0 < it) (hit : it < 4294967296) (w : World) (hb : Box.Holds w b 171 #[.pointer (some ⟨g, 0, none⟩), i]) (h : Box.Holds w g 128 #[v, .bool false, .int .u32 it]) : Calls Tryz.prog 241 #[.pointer (some ⟨b, 0, none⟩)] w fun e w' => e = .returned (.tuple #[]) ∧ w' = w.setCell ⟨g, 2, none⟩ (.int .u32 ((it : Int) - 1)) := by
  have j0 := hb.cell 0
  have k1 := h.cell 1
  have k2 := h.cell 2
  simp at j0 k1 k2
  have hl := h.lt
  have hl' := hb.lt
  have f2 := h.free 2
  go_enter Tryz.func241, Tryz.ntmps241
  go_wp2
  exact bodyPost_end (results_none (by rfl) _ _ _) rfl ⟨rfl, rfl⟩
set_option maxRecDepth 100000 in
theorem done_frozen (b g : Nat) (v i u : Value) (w : World) (hb : Box.Holds w b 171 #[.pointer (some ⟨g, 0, none⟩), i]) (h : Box.Holds w g 128 #[v, .bool true, u]) : Calls Tryz.prog 241 #[.pointer (some ⟨b, 0, none⟩)] w fun e w' => e = .returned (.tuple #[]) ∧ w' = w := by
  have j0 := hb.cell 0
  have k1 := h.cell 1
  simp at j0 k1
  have hl := h.lt
  have hl' := hb.lt
  go_enter Tryz.func241, Tryz.ntmps241
  go_wp2
  exact bodyPost_end (results_none (by rfl) _ _ _) rfl ⟨rfl, rfl⟩

set_option maxRecDepth 100000 in
theorem next_none (b g x : Nat) (a : Option Addr) (n c k : Nat) (y z : Value) (w : World) (hk : n ≤ k) (hn : n ≤ 1000000) (hk2 : k ≤ 1000000) (hb : Box.Holds w b 171 #[.pointer (some ⟨g, 0, none⟩), .int .i64 k]) (h : Box.Holds w g 128 #[.slice a n c, y, z]) :
    Calls Tryz.prog 242 #[.pointer (some ⟨b, 0, none⟩), .pointer (some ⟨x, 0, none⟩)] w fun e w' => e = .returned (.bool false) ∧ ∃ q, w' = w.drewN q := by
  have hq := Lib.hid fun q => (llen_any g a n c y z (w.drewN q) (h.drawn q)).mono (R' := fun e w' => e = .returned (.int .i64 n) ∧ w' = w.drewN q) fun e w' hh => ⟨hh.1, hh.2.symm⟩
  have j0 := hb.cell 0
  have j1 := hb.cell 1
  simp at j0 j1
  have hl' := hb.lt
  have hd : decide (k < n) = false := by simp; omega
  go_enter Tryz.func242, Tryz.ntmps242
  go_wp2_with fail
  go_quiet ((go_at_call 70; with_reducible exact Calls.quiet_of_same (hq.out _)))
  go_wp2
  go_ret
  exact ⟨rfl, _, rfl⟩
set_option maxRecDepth 100000 in
set_option maxHeartbeats 1000000 in
theorem next_some (b g x r : Nat) (n c k : Nat) (y z u p : Value) (w : World) (hk : k < n) (hn : n ≤ 1000000) (hb : Box.Holds w b 171 #[.pointer (some ⟨g, 0, none⟩), .int .i64 k]) (h : Box.Holds w g 128 #[.slice (some ⟨r, 0, none⟩) n c, y, z])
    (hx : Box.Holds w x 47 #[u]) (hr : w.cell? ⟨r, k, none⟩ = some p) (hp1 : ∃ t q, p = .iface t q) (hbx : b ≠ x) :
    Calls Tryz.prog 242 #[.pointer (some ⟨b, 0, none⟩), .pointer (some ⟨x, 0, none⟩)] w fun e w' => e = .returned (.bool true) ∧ ∃ q, w' = ((w.setCell ⟨x, 0, none⟩ p).setCell ⟨b, 1, none⟩ (.int .i64 ((k : Int) + 1))).drewN q := by
  obtain ⟨pt, pq, rfl⟩ := hp1
  have hq := Lib.hid fun q => (llen_any g (some ⟨r, 0, none⟩) n c y z (w.drewN q) (h.drawn q)).mono (R' := fun e w' => e = .returned (.int .i64 n) ∧ w' = w.drewN q) fun e w' hh => ⟨hh.1, hh.2.symm⟩
  have j0 := hb.cell 0
  have j1 := hb.cell 1
  have k0 := h.cell 0
  simp at j0 j1 k0
  have hl := h.lt
  have hl' := hb.lt
  have hxl := hx.lt
  have hrl := World.block_lt_of_cell? _ _ hr
  simp only at hrl
  have fx := hx.free 0
  have fb := hb.free 1
  have x0 := hx.cell 0
  simp at x0
  have j1' : (w.setCell ⟨x, 0, none⟩ (.iface pt pq)).cell? ⟨b, 1, none⟩ = some (.int .i64 k) := by
    have := (hb.apart (p := ⟨x, 0, none⟩) hbx (.iface pt pq)).cell 1
    simpa using this
  have fb' : (w.setCell ⟨x, 0, none⟩ (.iface pt pq)).frozen? ⟨b, 1, none⟩ = false := (hb.apart (p := ⟨x, 0, none⟩) hbx (.iface pt pq)).free 1
  have hd : decide (k < n) = true := by simp; omega
  go_enter Tryz.func242, Tryz.ntmps242
  go_wp2_with fail
  go_quiet ((go_at_call 70; with_reducible exact Calls.quiet_of_same (hq.out _)))
  go_wp2_with fail
  go_region
  all_goals
    go_wp2
    go_ret
    exact ⟨rfl, _, rfl⟩
end Go.Proofs.YtafbheamnjmfoaaGreat.Ls

namespace Go.Proofs.YtafbheamnjmfoaaGreat.Ls
open Go.RowKit Go.WideShapes Go.Proofs.YtafbheamnjmfoaaGreat.Sc
set_option linter.unusedVariables false

/-- the list's cells, and its row -/
structure Lst (w : World) (B g : Nat) (v : Value) (fz : Bool) (n : Nat) (S : List Sc) : Prop where
  hold : Box.Holds w g 128 #[v, .bool fz, .int .u32 n]
  row : Pvals w B v S
  ge : B ≤ g
/-- all but lists and rows of values -/
def SL (g : Nat) (t : TypeId) : Prop := t ≠ 128 ∧ t ≠ 47
theorem Lst.later {w w' : World} {B g : Nat} {v : Value} {fz : Bool} {n : Nat} {S : List Sc} (h : Lst w B g v fz n S) (hb : Below w.heap.size w w') : Lst w' B g v fz n S := ⟨h.hold.later hb, h.row.later hb, h.ge⟩
theorem Lst.kept {P : Nat → TypeId → Prop} {w w' : World} {B g : Nat} {v : Value} {fz : Bool} {n : Nat} {S : List Sc} (h : Lst w B g v fz n S) (hk : KeptT P w w') (h1 : ∀ g t, numT t = true → P g t) (h2 : ∀ g, P g 128) (h3 : ∀ g, P g 47) : Lst w' B g v fz n S := by
  refine ⟨hk.holds h.hold (h2 g), ?_, h.ge⟩
  obtain ⟨L, a, b⟩ := h.row
  exact ⟨L, hk.own a fun b _ => h3 b, b.mono fun x y hxy => hxy.kept (hk.kept h1)⟩

set_option maxRecDepth 100000 in
theorem errnew_any (t : ByteArray) (w : World) : Calls Tryz.prog 114 #[.string t] w fun e w' => (∃ ty u, e = .returned (.iface ty u)) ∧ Below w.heap.size w w' := by
  go_enter Tryz.func114, Tryz.ntmps114
  go_wp2
  go_ret
  exact ⟨⟨_, _, rfl⟩, Ref.below_one' _ (Nat.le_refl _)⟩
set_option maxRecDepth 100000 in
theorem mut_yes (g : Nat) (v : Value) (t : ByteArray) (w : World) (h : Box.Holds w g 128 #[v, .bool false, .int .u32 (0 : Nat)]) : Calls Tryz.prog 101 #[.pointer (some ⟨g, 0, none⟩), .string t] w fun e w' => e = .returned .nilIface ∧ w = w' := by
  have k1 := h.cell 1
  have k2 := h.cell 2
  simp at k1 k2
  have hl := h.lt
  go_enter Tryz.func101, Tryz.ntmps101
  go_wp2
  go_ret
  exact ⟨rfl, rfl⟩
set_option maxRecDepth 100000 in
theorem mut_no (g : Nat) (v : Value) (fz : Bool) (n : Nat) (t : ByteArray) (w : World) (h : Box.Holds w g 128 #[v, .bool fz, .int .u32 n]) (hf : (fz || decide (0 < n)) = true) : Calls Tryz.prog 101 #[.pointer (some ⟨g, 0, none⟩), .string t] w fun e w' => (∃ ty u, e = .returned (.iface ty u)) ∧ Below w.heap.size w w' := by
  have he := Lib.hid fun t W => errnew_any t W
  have k1 := h.cell 1
  have k2 := h.cell 2
  simp at k1 k2
  have hl := h.lt
  cases fz
  · have hd : 0 < n := by simpa using hf
    go_enter Tryz.func101, Tryz.ntmps101
    go_wp2_with fail
    refine (he.out _ _).mono ?_
    rintro e w' ⟨⟨ty, u, rfl⟩, hb⟩
    go_wp2
    go_ret
    exact ⟨⟨_, _, rfl⟩, hb⟩
  · go_enter Tryz.func101, Tryz.ntmps101
    go_wp2_with fail
    refine (he.out _ _).mono ?_
    rintro e w' ⟨⟨ty, u, rfl⟩, hb⟩
    go_wp2
    go_ret
    exact ⟨⟨_, _, rfl⟩, hb⟩

def Refused (w : World) (e : Ending) (w' : World) : Prop := (∃ ty u, e = .returned (.iface ty u)) ∧ Below w.heap.size w w'
set_option maxRecDepth 100000 in
theorem lappend_no (g : Nat) (v y : Value) (fz : Bool) (n : Nat) (w : World) (h : Box.Holds w g 128 #[v, .bool fz, .int .u32 n]) (hf : (fz || decide (0 < n)) = true) : Calls Tryz.prog 71 #[.pointer (some ⟨g, 0, none⟩), y] w (Refused w) := by
  have hm := Lib.hid fun t => mut_no g v fz n t w h hf
  clear h hf
  go_enter Tryz.func71, Tryz.ntmps71
  go_wp2_with fail
  refine (hm.out _).mono ?_
  rintro e w' ⟨⟨ty, u, rfl⟩, hb⟩
  go_wp2
  go_ret
  exact ⟨⟨_, _, rfl⟩, hb⟩
set_option maxRecDepth 100000 in
theorem lset_no (g : Nat) (v y : Value) (i : Int) (fz : Bool) (n : Nat) (w : World) (h : Box.Holds w g 128 #[v, .bool fz, .int .u32 n]) (hf : (fz || decide (0 < n)) = true) : Calls Tryz.prog 72 #[.pointer (some ⟨g, 0, none⟩), .int .i64 i, y] w (Refused w) := by
  have hm := Lib.hid fun t => mut_no g v fz n t w h hf
  clear h hf
  go_enter Tryz.func72, Tryz.ntmps72
  go_wp2_with fail
  refine (hm.out _).mono ?_
  rintro e w' ⟨⟨ty, u, rfl⟩, hb⟩
  go_wp2
  go_ret
  exact ⟨⟨_, _, rfl⟩, hb⟩
set_option maxRecDepth 100000 in
theorem lclear_no (g : Nat) (v : Value) (fz : Bool) (n : Nat) (w : World) (h : Box.Holds w g 128 #[v, .bool fz, .int .u32 n]) (hf : (fz || decide (0 < n)) = true) : Calls Tryz.prog 77 #[.pointer (some ⟨g, 0, none⟩)] w (Refused w) := by
  have hm := Lib.hid fun t => mut_no g v fz n t w h hf
  clear h hf
  go_enter Tryz.func77, Tryz.ntmps77
  go_wp2_with fail
  refine (hm.out _).mono ?_
  rintro e w' ⟨⟨ty, u, rfl⟩, hb⟩
  go_wp2
  go_ret
  exact ⟨⟨_, _, rfl⟩, hb⟩

/-- the list has other elements now -/
def Turned (B g : Nat) (fz : Bool) (n : Nat) (w : World) (S : List Sc) (e : Ending) (w' : World) : Prop := e = .returned .nilIface ∧ (∃ v, Lst w' B g v fz n S) ∧ Fr B SL w w'
theorem slice_form {w : World} {B : Nat} {v : Value} {S : List Sc} (h : Pvals w B v S) : ∃ a n c, v = .slice a n c := by
  obtain ⟨A, c, rfl⟩ := h.shape
  exact ⟨_, _, _, rfl⟩
theorem hold0 {w : World} {g : Nat} {t : TypeId} {x : Value} {r : List Value} (h : Box.Holds w g t ⟨x :: r⟩) : w.cell? ⟨g, 0, none⟩ = some x := by
  have := h.cell 0
  simpa using this
theorem turned_append {B g n : Nat} {v v4 : Value} {fz : Bool} {S S' : List Sc} {w w4 : World} (hrow : Pvals w B v S) (hg4 : Box.Holds w4 g 128 #[v, .bool fz, .int .u32 n]) (hv4 : Pvals w4 B v4 S') (hb4 : Below B w w4)
    (hk4 : ∀ k, some k ≠ v.ownBlock → k < w.heap.size → w4.heap[k]? = w.heap[k]?) (hge : B ≤ g) : Turned B g fz n w S' (.returned .nilIface) (w4.setCell ⟨g, 0, none⟩ v4) := by
  have hne4 := hv4.ne hg4 (by decide)
  refine ⟨rfl, ⟨v4, hg4.put 0 v4, hv4.setCell (p := ⟨g, 0, none⟩) hg4 rfl hne4 _, hge⟩, ?_⟩
  have fr : Fr B SL w w4 := ⟨hb4, fun k cs t fz hn hh => by
    refine (hk4 k (fun e => ?_) (Array.getElem?_eq_some_iff.1 hh).1).trans hh
    obtain ⟨L, o, _⟩ := hrow
    rcases o.2 with ⟨e', _⟩ | ⟨b, cap, cur, e', _, hb', _⟩
    · rw [e'] at e; cases e
    · rw [e'] at e
      simp only [Value.ownBlock, Option.some.injEq] at e
      subst e
      rw [hb'] at hh
      cases hh
      exact hn.2 rfl⟩
  exact fr.setCell (p := ⟨g, 0, none⟩) hg4 hge (fun _ hs => hs.1 rfl) _
set_option maxRecDepth 100000 in
theorem lappend_any (B g : Nat) (v y : Value) (S : List Sc) (s : Sc) (w : World) (h : Lst w B g v false 0 S) (hy : IsPv w y s) (hl : S.length ≤ 1000) : Calls Tryz.prog 71 #[.pointer (some ⟨g, 0, none⟩), y] w (Turned B g false 0 w (S ++ [s])) := by
  have hm := Lib.hid fun t => mut_yes g v t w h.hold
  obtain ⟨yt, yu, rfl⟩ := hy.form
  obtain ⟨A0, c0, rfl⟩ := h.row.shape
  have k0 := h.hold.cell 0
  simp at k0
  have hgl := h.hold.lt
  have hBw : B ≤ w.heap.size := Nat.le_trans h.ge (Nat.le_of_lt hgl)
  have hrow := Lib.hid h.row
  have hg := Lib.hid h.hold
  have hne := Lib.hid (h.row.ne h.hold (by decide))
  have hge := h.ge
  have hy' := Lib.hid hy
  have hln : S.length ≤ 1000000 := by omega
  clear h hy
  go_enter Tryz.func71, Tryz.ntmps71
  go_wp2_with fail
  refine (hm.out _).mono ?_
  rintro e w' ⟨rfl, rfl⟩
  go_wp2_with (at_builtin; refine wpList_pv2 (B := B) (y := .iface yt yu) (t := s) rfl _ _ rfl (.slice A0 S.length c0) S rfl hrow.out hBw hy'.out rfl hln ?_; intro v4 w4 hv4 hb4 ho4 hk4; obtain ⟨A4, n4, c4, rfl⟩ := slice_form hv4; have hg4 : Box.Holds w4 g 128 #[.slice A0 S.length c0, .bool false, .int .u32 (0 : Nat)] := (hk4 g (fun e => hne.out e.symm) hgl).trans hg.out; have hgl4 := hg4.lt; have k4 := hold0 hg4; have f4 := hg4.free 0; have hfin := Lib.hid (turned_append hrow.out hg4 hv4 hb4 hk4 hge); clear hv4 hb4 ho4 hk4 hg4)
  go_ret
  exact hfin.out
set_option maxRecDepth 100000 in
theorem lset_any (B g i : Nat) (v y : Value) (S : List Sc) (s : Sc) (w : World) (h : Lst w B g v false 0 S) (hy : IsPv w y s) (hl : S.length ≤ 1000) (hi : i < S.length) : Calls Tryz.prog 72 #[.pointer (some ⟨g, 0, none⟩), .int .i64 i, y] w (Turned B g false 0 w (S.set i s)) := by
  have hm := Lib.hid fun t => mut_yes g v t w h.hold
  obtain ⟨b, c0, x, rfl, hbl, hB, hc, hcell, hfr, hx⟩ := h.row.at_ hi
  have k0 := h.hold.cell 0
  simp at k0
  have hgl := h.hold.lt
  have hne := h.row.ne h.hold (by decide)
  have hne' : g ≠ b := fun e => hne (by rw [e]; rfl)
  have hin : (i : Int) < S.length := by omega
  have hfin := Lib.hid (show Turned B g false 0 w (S.set i s) (.returned .nilIface) (w.setCell ⟨b, i, none⟩ y) from ⟨rfl, ⟨_, h.hold.apart (p := ⟨b, i, none⟩) hne' _, h.row.put hy, h.ge⟩, by
    obtain ⟨L, o, _⟩ := h.row
    rcases o.2 with ⟨e', _⟩ | ⟨b', cap, cur, e', _, hb', _⟩
    · cases e'
    · simp only [Value.slice.injEq, Option.some.injEq, Addr.mk.injEq] at e'
      obtain ⟨⟨rfl, -⟩, -⟩ := e'
      exact (Fr.refl B SL w).setCell (p := ⟨b, i, none⟩) hb' hB (fun _ hs => hs.2 rfl) _⟩)
  obtain ⟨yt, yu, rfl⟩ := hy.form
  obtain ⟨xt, xu, rfl⟩ := hx.form
  clear h hy hx
  go_enter Tryz.func72, Tryz.ntmps72
  go_wp2_with fail
  refine (hm.out _).mono ?_
  rintro e w' ⟨rfl, rfl⟩
  go_wp2
  go_ret
  exact hfin.out

set_option maxRecDepth 100000 in
theorem ltruth_any (g : Nat) (a : Option Addr) (n c : Nat) (x y : Value) (w : World) (h : Box.Holds w g 128 #[.slice a n c, x, y]) : Calls Tryz.prog 78 #[.pointer (some ⟨g, 0, none⟩)] w fun e w' => e = .returned (.bool (decide (0 < n))) ∧ w = w' := by
  have hl := Lib.hid (llen_any g a n c x y w h)
  clear h
  obtain ⟨z, hz⟩ : ∃ z, decide (0 < n) = z := ⟨_, rfl⟩
  have hz' : decide (0 < n) = z := hz
  rw [hz]
  go_enter Tryz.func78, Tryz.ntmps78
  go_wp2_with fail
  refine hl.out.mono ?_
  rintro e w' ⟨rfl, rfl⟩
  go_wp2
  go_ret
  exact ⟨rfl, rfl⟩
end Go.Proofs.YtafbheamnjmfoaaGreat.Ls

namespace Go.Proofs.YtafbheamnjmfoaaGreat.Ls
open Go.RowKit Go.WideShapes Go.Proofs.YtafbheamnjmfoaaGreat.Sc
set_option linter.unusedVariables false

set_option maxRecDepth 100000 in
theorem lclear_any (B g : Nat) (v : Value) (S : List Sc) (w : World) (h : Lst w B g v false 0 S) (hl : S.length ≤ 1000) : Calls Tryz.prog 77 #[.pointer (some ⟨g, 0, none⟩)] w (Turned B g false 0 w []) := by
  have hm := Lib.hid fun t => mut_yes g v t w h.hold
  have hge := h.ge
  have hgl := h.hold.lt
  have hlen : ∃ L : List Value, w.ownsRow B 47 1 v L.length L ∧ L.length = S.length := by
    obtain ⟨L, a, b⟩ := h.row
    exact ⟨L, a, b.1⟩
  obtain ⟨L, o, hLS⟩ := hlen
  rcases id o.2 with ⟨rfl, h0⟩ | ⟨b, cap, cur, rfl, hB, hb, hc, hm63, hcs, -⟩
  · have k0 := h.hold.cell 0
    simp at k0
    have f0 := h.hold.free 0
    have hfin := Lib.hid (show Turned B g false 0 w [] (.returned .nilIface) (w.setCell ⟨g, 0, none⟩ (.slice none 0 0)) from ⟨rfl, ⟨_, h.hold.put 0 _, Pvals.nil _ _, hge⟩, (Fr.refl B SL w).setCell (p := ⟨g, 0, none⟩) h.hold hge (fun _ hs => hs.1 rfl) _⟩)
    clear h
    go_enter Tryz.func77, Tryz.ntmps77
    go_wp2_with fail
    refine (hm.out _).mono ?_
    rintro e w' ⟨rfl, rfl⟩
    go_wp2_with fail
    go_loopw [15] (fun i wr => i = .int .i64 0 ∧ wr = w) (fun _ _ => 0)
    case atStart => exact ⟨rfl, rfl⟩
    case round =>
      obtain ⟨rfl, rfl⟩ := hrel
      go_wp2
      go_ret
      exact hfin.out
  · have hg0 := Lib.hid h.hold
    have hne : g ≠ b := by
      have := h.row.ne h.hold (by decide)
      intro e
      exact this (by rw [e]; rfl)
    obtain ⟨n, hn⟩ : ∃ n, L.length = n := ⟨_, rfl⟩
    rw [hn] at hc hg0
    have hn9 : n ≤ 1000 := by omega
    clear h
    have k0 := hg0.out.cell 0
    simp at k0
    go_enter Tryz.func77, Tryz.ntmps77
    go_wp2_with fail
    refine (hm.out _).mono ?_
    rintro e w' ⟨rfl, rfl⟩
    go_wp2_with fail
    go_loopw [4, 15] (fun _ i wr => ∃ j : Nat, i = .int .i64 j ∧ j ≤ n ∧ Hid (∃ c : Array Value, Box.Holds wr b 47 c ∧ c.size = cap * 1) ∧ Hid (Box.Holds wr g 128 #[.slice (some ⟨b, 0, none⟩) n cap, .bool false, .int .u32 (0 : Nat)]) ∧ Hid (Fr B SL w wr)) (fun _ i _ => n - (intOf i).toNat)
    case atStart => exact ⟨0, rfl, Nat.zero_le _, Lib.hid ⟨cur, hb, hcs⟩, hg0, Lib.hid (Fr.refl _ _ _)⟩
    case round =>
      obtain ⟨j, rfl, hj, hc1, hg1, hf1⟩ := hrel
      obtain ⟨c, hbc, hsz⟩ := hc1.out
      have hgc := hg1.out
      have k1 := hgc.cell 0
      simp at k1
      have hbl := hbc.lt
      have hgl1 := hgc.lt
      by_cases hlt : j < n
      · obtain ⟨x, hx⟩ : ∃ x, c[j]? = some x := ⟨_, Array.getElem?_eq_getElem (by omega)⟩
        have kx := (hbc.cell j).trans hx
        have fx := hbc.free j
        have hfin := Lib.hid (show (∃ c : Array Value, Box.Holds (wr.setCell ⟨b, j, none⟩ .nilIface) b 47 c ∧ c.size = cap * 1) ∧ Box.Holds (wr.setCell ⟨b, j, none⟩ .nilIface) g 128 #[.slice (some ⟨b, 0, none⟩) n cap, .bool false, .int .u32 (0 : Nat)] ∧ Fr B SL w (wr.setCell ⟨b, j, none⟩ .nilIface) from
          ⟨⟨_, hbc.put j _, by rw [Array.size_setIfInBounds]; exact hsz⟩, hgc.apart (p := ⟨b, j, none⟩) hne _, hf1.out.setCell (p := ⟨b, j, none⟩) hbc hB (fun _ hs => hs.2 rfl) _⟩)
        clear hc1 hg1 hf1 hbc hgc hx
        go_wp2
        go_roundw
        case rel => exact ⟨j + 1, by go_num, by omega, Lib.hid hfin.out.1, Lib.hid hfin.out.2.1, Lib.hid hfin.out.2.2⟩
        case measure => simp [intOf]; omega
      · have f0 := hgc.free 0
        have hfin := Lib.hid (show Turned B g false 0 w [] (.returned .nilIface) (wr.setCell ⟨g, 0, none⟩ (.slice (some ⟨b, 0, none⟩) 0 cap)) from ⟨rfl, ⟨_, hgc.put 0 _, ⟨[], ⟨rfl, .inr ⟨b, cap, c, rfl, hB, (hbc.apart (p := ⟨g, 0, none⟩) (fun e => hne e.symm) _), Nat.zero_le _, hm63, hsz, by simp⟩⟩, All.nil _⟩, hge⟩, hf1.out.setCell (p := ⟨g, 0, none⟩) hgc hge (fun _ hs => hs.1 rfl) _⟩)
        clear hc1 hg1 hf1 hbc hgc
        go_wp2
        go_ret
        exact hfin.out

theorem mz_none (v : Value) (w : World) : (method 436 84 v "Freeze").run Tryz.prog w = .ok (173, v) w := by kernel_rfl
theorem mz_bool (v : Value) (w : World) : (method 436 85 v "Freeze").run Tryz.prog w = .ok (178, v) w := by kernel_rfl
theorem mz_int (v : Value) (w : World) : (method 436 90 v "Freeze").run Tryz.prog w = .ok (184, v) w := by kernel_rfl
theorem mz_float (v : Value) (w : World) : (method 436 92 v "Freeze").run Tryz.prog w = .ok (189, v) w := by kernel_rfl
theorem mz_str (v : Value) (w : World) : (method 436 94 v "Freeze").run Tryz.prog w = .ok (194, v) w := by kernel_rfl
theorem mz_bytes (v : Value) (w : World) : (method 436 95 v "Freeze").run Tryz.prog w = .ok (199, v) w := by kernel_rfl
def Nothing (w : World) (e : Ending) (w' : World) : Prop := e = .returned (.tuple #[]) ∧ w = w'
theorem z_none (v : Value) (w : World) : Calls Tryz.prog 173 #[v] w (Nothing w) := by
  go_enter Tryz.func173, Tryz.ntmps173
  go_wp2
  exact bodyPost_end (results_none (by rfl) _ _ _) rfl ⟨rfl, rfl⟩
theorem z_bool (v : Value) (w : World) : Calls Tryz.prog 178 #[v] w (Nothing w) := by
  go_enter Tryz.func178, Tryz.ntmps178
  go_wp2
  exact bodyPost_end (results_none (by rfl) _ _ _) rfl ⟨rfl, rfl⟩
def Little (w : World) (e : Ending) (w' : World) : Prop := e = .returned (.tuple #[]) ∧ Below w.heap.size w w'
theorem z_int (y : Int) (q : Option Addr) (w : World) : Calls Tryz.prog 184 #[.agg #[.int .i64 y, .pointer q]] w (Little w) := by
  go_enter Tryz.func184, Tryz.ntmps184
  go_wp2
  exact bodyPost_end (results_none (by rfl) _ _ _) rfl ⟨rfl, Ref.below_one' _ (Nat.le_refl _)⟩
theorem z_float (v : Value) (w : World) : Calls Tryz.prog 189 #[v] w (Nothing w) := by
  go_enter Tryz.func189, Tryz.ntmps189
  go_wp2
  exact bodyPost_end (results_none (by rfl) _ _ _) rfl ⟨rfl, rfl⟩
theorem z_str (v : Value) (w : World) : Calls Tryz.prog 194 #[v] w (Nothing w) := by
  go_enter Tryz.func194, Tryz.ntmps194
  go_wp2
  exact bodyPost_end (results_none (by rfl) _ _ _) rfl ⟨rfl, rfl⟩
theorem z_bytes (v : Value) (w : World) : Calls Tryz.prog 199 #[v] w (Nothing w) := by
  go_enter Tryz.func199, Tryz.ntmps199
  go_wp2
  exact bodyPost_end (results_none (by rfl) _ _ _) rfl ⟨rfl, rfl⟩
theorem pv_types {w : World} {x : Value} {s : Sc} (h : IsPv w x s) : (∃ t u, x = .iface t u ∧ (t = 84 ∨ t = 85 ∨ t = 92 ∨ t = 94 ∨ t = 95)) ∨ ∃ y q, x = .iface 90 (.agg #[.int .i64 y, .pointer q]) := by
  cases s with
  | int neg m => obtain ⟨u, B, rfl, h⟩ := h; obtain ⟨y, q, rfl⟩ := Big.SInt.shape h; exact .inr ⟨_, _, rfl⟩
  | none => obtain rfl : x = _ := h; exact .inl ⟨_, _, rfl, by simp⟩
  | bool b => obtain rfl : x = _ := h; exact .inl ⟨_, _, rfl, by simp⟩
  | float b => obtain rfl : x = _ := h; exact .inl ⟨_, _, rfl, by simp⟩
  | text k t => obtain rfl : x = _ := h; cases k <;> exact .inl ⟨_, _, rfl, by simp⟩

set_option maxRecDepth 100000 in
theorem lfreeze_old (g : Nat) (v u : Value) (w : World) (h : Box.Holds w g 128 #[v, .bool true, u]) : Calls Tryz.prog 82 #[.pointer (some ⟨g, 0, none⟩)] w (Nothing w) := by
  have k1 := h.cell 1
  simp at k1
  have hl := h.lt
  go_enter Tryz.func82, Tryz.ntmps82
  go_wp2
  exact bodyPost_end (results_none (by rfl) _ _ _) rfl ⟨rfl, rfl⟩
/-- the list is frozen now -/
def Frozen (B g : Nat) (v : Value) (n : Nat) (w : World) (S : List Sc) (e : Ending) (w' : World) : Prop := e = .returned (.tuple #[]) ∧ Lst w' B g v true n S ∧ Fr B SL w w'
set_option maxHeartbeats 1000000 in
set_option maxRecDepth 100000 in
theorem lfreeze_new (B g n : Nat) (v : Value) (S : List Sc) (w : World) (h : Lst w B g v false n S) (hl : S.length ≤ 1000) : Calls Tryz.prog 82 #[.pointer (some ⟨g, 0, none⟩)] w (Frozen B g v n w S) := by
  obtain ⟨A0, c0, rfl⟩ := h.row.shape
  have k1 := h.hold.cell 1
  simp at k1
  have f1 := h.hold.free 1
  have hgl := h.hold.lt
  obtain ⟨W, hW⟩ : ∃ W, w.setCell ⟨g, 1, none⟩ (.bool true) = W := ⟨_, rfl⟩
  have hL : Lst W B g (.slice A0 S.length c0) true n S := by
    rw [← hW]
    exact ⟨h.hold.put 1 _, h.row.setCell (p := ⟨g, 1, none⟩) h.hold rfl (h.row.ne h.hold (by decide)) _, h.ge⟩
  have hF : Fr B SL w W := by
    rw [← hW]
    exact (Fr.refl B SL w).setCell (p := ⟨g, 1, none⟩) h.hold h.ge (fun _ hs => hs.1 rfl) _
  have hfin := Lib.hid (show Frozen B g (.slice A0 S.length c0) n w S (.returned (.tuple #[])) W from ⟨rfl, hL, hF⟩)
  have k0 := hL.hold.cell 0
  simp at k0
  have hgl2 := hL.hold.lt
  have hrow := Lib.hid hL.row
  have hge := h.ge
  clear h hL hF
  have m0 := mz_none
  have m1 := mz_bool
  have m2 := mz_int
  have m3 := mz_float
  have m4 := mz_str
  have m5 := mz_bytes
  go_enter Tryz.func82, Tryz.ntmps82
  go_wp2_with fail
  clear hW
  go_loopw [3, 17] (fun _ i wr => ∃ j : Nat, i = .int .i64 j ∧ j ≤ S.length ∧ Hid (Below W.heap.size W wr)) (fun _ i _ => S.length - (intOf i).toNat)
  case atStart => exact ⟨0, rfl, Nat.zero_le _, Lib.hid (Below.refl _ _)⟩
  case round =>
    obtain ⟨j, rfl, hj, hb⟩ := hrel
    by_cases hlt : j < S.length
    · obtain ⟨b, cap, x, h, hbl, hB, hc, hcell, hfr, hx⟩ := (hrow.out.later hb.out).at_ hlt
      simp only [Value.slice.injEq, true_and] at h
      obtain ⟨rfl, rfl⟩ := h
      rcases pv_types hx with ⟨t, u, rfl, ht⟩ | ⟨y, q, rfl⟩
      · clear hx
        rcases ht with rfl | rfl | rfl | rfl | rfl
        all_goals
          go_wp2_with (first | (go_at_call 173; refine (z_none _ _).mono ?_; rintro e w' ⟨rfl, rfl⟩) | (go_at_call 178; refine (z_bool _ _).mono ?_; rintro e w' ⟨rfl, rfl⟩) | (go_at_call 189; refine (z_float _ _).mono ?_; rintro e w' ⟨rfl, rfl⟩) | (go_at_call 194; refine (z_str _ _).mono ?_; rintro e w' ⟨rfl, rfl⟩) | (go_at_call 199; refine (z_bytes _ _).mono ?_; rintro e w' ⟨rfl, rfl⟩))
          go_roundw
          case rel => exact ⟨j + 1, by go_num, by omega, hb⟩
          case measure => simp [intOf]; omega
      · clear hx
        go_wp2_with fail
        refine (z_int y q _).mono ?_
        rintro e w' ⟨rfl, hb2⟩
        have hb3 := Lib.hid (hb.out.trans (hb2.mono hb.out.size))
        clear hb2 hcell hfr hbl
        go_wp2
        go_roundw
        case rel => exact ⟨j + 1, by go_num, by omega, hb3⟩
        case measure => simp [intOf]; omega
    · have hfin2 := Lib.hid (show Frozen B g (.slice A0 S.length c0) n w S (.returned (.tuple #[])) wr from ⟨rfl, hfin.out.2.1.later hb.out, hfin.out.2.2.later hb.out (Nat.le_trans hge (Nat.le_of_lt hgl))⟩)
      clear m0 m1 m2 m3 m4 m5 hfin hrow
      go_wp2
      exact bodyPost_end (results_none (by rfl) _ _ _) rfl hfin2.out
end Go.Proofs.YtafbheamnjmfoaaGreat.Ls

namespace Go.Proofs.YtafbheamnjmfoaaGreat.Ls
open Go.RowKit Go.WideShapes Go.Proofs.YtafbheamnjmfoaaGreat.Sc Go.Proofs.YtafbheamnjmfoaaGreat.VRow
set_option linter.unusedVariables false

theorem add_flat (b i j : Nat) : ((⟨b, i, none⟩ : Addr).add j) = ⟨b, i + j, none⟩ := by
  unfold Addr.add
  split <;> simp_all
/-- 'append([]starlark.Value{}, x...)' -/
theorem wpList_pvs {ops : Array Oper} {rest : List Oper} {o : Oper} {a : Act} {Q : Exit → Act → World → Prop} {wr : World} (hgd : o.guard = Option.none) (s x : Operand)
    (ho : o.op = .call { callee := .builtin .append, args := #[s, x], argTypes := #[74, 74] })
    (hs : a.eval s = .slice (some ⟨wr.heap.size, 0, none⟩) 0 0) (L : List Value) (S : List Sc) (hL : All (IsPv wr) L S) (b i m c : Nat) (hm : S.length = m) (hx : a.eval x = .slice (some ⟨b, i, none⟩) m c) (hn : m ≤ 1000000)
    (hc : ∀ j u, L[j]? = some u → wr.cell? ⟨b, i + j, none⟩ = some u)
    (h : ∀ v' w', Pvals w' wr.heap.size v' S → Below wr.heap.size wr w' → wpList Tryz.prog ops Q rest (a.put o.dst v') w') :
    wpList Tryz.prog ops Q (o :: rest) a (wr.alloc (.cells #[] 47)) := by
  subst hm
  obtain ⟨i0, hi, hz0, hz1, hz2⟩ := info_parts info_pv
  have hal : Below wr.heap.size wr (wr.alloc (.cells #[] 47)) := Ref.below_one' _ (Nat.le_refl _)
  refine wpList_append_own (wr.alloc (.cells #[] 47)) hgd s x 74 ho wr.heap.size 47 i0 .nilIface 1 16 Tryz.underlying74 hi hz0 hz1 hz2 rfl (by decide) _ 0 [] hs (World.ownsRow_made wr #[] 0 (Nat.le_refl _) (by decide) rfl) ⟨b, i, none⟩ S.length c L hx (by rw [hL.1]; omega)
    ?_ ?_ (by unfold maxLen; omega) (by omega) (by simp) ?_
  · intro j u hu
    rw [add_flat]
    have hb := World.block_lt_of_cell? _ _ (hc j u hu)
    exact (hal.cell (p := ⟨b, i + j, none⟩) hb).trans (hc j u hu)
  · intro u hu
    obtain ⟨j, hj, rfl⟩ := List.getElem_of_mem hu
    have hj' : j < S.length := by rw [← hL.1]; exact hj
    exact (hL.2 j _ _ (List.getElem?_eq_getElem hj) (List.getElem?_eq_getElem hj')).one
  · intro v' w' hown' hg _
    have hb' : Below wr.heap.size wr w' := hal.grown hg (by simp) fun k hk => by simp [Value.ownBlock] at hk; omega
    rw [Nat.zero_add, List.nil_append, ← hL.1] at hown'
    exact h v' w' ⟨L, hown', hL.mono fun _ _ hab => hab.kept (Kept.of_below hb')⟩ hb'
theorem pvals_take {w : World} {B : Nat} {v : Value} {S : List Sc} (h : Pvals w B v S) (i n : Nat) (hi : i + n ≤ S.length) : ∃ L, All (IsPv w) L ((S.drop i).take n) ∧ (v.ownBlock = none → n = 0) ∧ ∀ b, v.ownBlock = some b → ∀ j u, L[j]? = some u → w.cell? ⟨b, i + j, none⟩ = some u := by
  obtain ⟨L, h1, h2⟩ := h
  refine ⟨(L.drop i).take n, ?_, fun hv => ?_, fun b hb j u hu => ?_⟩
  · refine ⟨by simp [h2.1], fun j x y hx hy => ?_⟩
    rw [List.getElem?_take] at hx hy
    split at hx
    · rename_i hj
      rw [if_pos hj] at hy
      rw [List.getElem?_drop] at hx hy
      exact h2.2 _ _ _ hx hy
    · cases hx
  · rcases h1.2 with ⟨rfl, h0⟩ | ⟨g, cap, cur, rfl, _⟩
    · have := h2.1
      omega
    · cases hv
  · rcases id h1.2 with ⟨rfl, h0⟩ | ⟨g, cap, cur, rfl, hB, hg, hc, _⟩
    · cases hb
    · simp only [Value.ownBlock, Option.some.injEq] at hb
      subst hb
      rw [List.getElem?_take] at hu
      split at hu
      · rename_i hj
        rw [List.getElem?_drop] at hu
        have := h2.1
        rw [World.ownsRow.cellAt h1 (i + j) (by omega)]
        exact hu
      · cases hu

theorem pvals_forms {w : World} {B : Nat} {A0 : Option Addr} {n c : Nat} {S : List Sc} (h : Pvals w B (.slice A0 n c) S) : (A0 = none ∧ S = [] ∧ c = 0) ∨ ∃ b, A0 = some ⟨b, 0, none⟩ ∧ n ≤ c := by
  obtain ⟨L, h1, h2⟩ := h
  rcases h1.2 with ⟨e, h0⟩ | ⟨g, cap, cur, e, hB, hg, hc, _⟩
  · simp only [Value.slice.injEq] at e
    exact .inl ⟨e.1, List.eq_nil_of_length_eq_zero (by rw [← h2.1]; exact h0), e.2.2⟩
  · simp only [Value.slice.injEq] at e
    exact .inr ⟨g, e.1, by omega⟩

/-- another list -/
def NewList (w : World) (S : List Sc) (e : Ending) (w' : World) : Prop := (∃ g v, e = .returned (.iface 77 (.pointer (some ⟨g, 0, none⟩))) ∧ Box.Holds w' g 128 #[v, .bool false, .int .u32 0] ∧ Pvals w' w.heap.size v S) ∧ Below w.heap.size w w'
theorem newlist_fin {w w1 : World} {a : Option Addr} {n c : Nat} {S : List Sc} (h : Pvals w1 w.heap.size (.slice a n c) S) (hb : Below w.heap.size w w1) : NewList w S (.returned (.iface 77 (.pointer (some ⟨w1.heap.size, 0, none⟩)))) (w1.alloc (.cells #[.slice a n c, .bool false, .int .u32 0] 128)) :=
  ⟨⟨_, _, rfl, Box.Holds.made _ _ _, h.later (Ref.below_one' _ (Nat.le_refl _))⟩, hb.alloc hb.size _⟩
set_option maxHeartbeats 1000000 in
set_option maxRecDepth 100000 in
theorem lslice_one (g B0 : Nat) (v x y : Value) (S : List Sc) (st e : Nat) (w : World) (hg : Box.Holds w g 128 #[v, x, y]) (hv : Pvals w B0 v S) (hl : S.length ≤ 1000) (h1 : st ≤ e) (h2 : e ≤ S.length) :
    Calls Tryz.prog 75 #[.pointer (some ⟨g, 0, none⟩), .int .i64 st, .int .i64 e, .int .i64 1] w (NewList w ((S.drop st).take (e - st))) := by
  have hnl := Lib.hid fun a n c W => newlist_any a n c W
  obtain ⟨L, hL, hL0, hLc⟩ := pvals_take hv st (e - st) (by omega)
  have hlen : ((S.drop st).take (e - st)).length = e - st := by simp; omega
  obtain ⟨T, hT⟩ : ∃ T, (S.drop st).take (e - st) = T := ⟨_, rfl⟩
  rw [hT] at hL hlen ⊢
  have hgl := hg.lt
  obtain ⟨A0, c0, rfl⟩ := hv.shape
  have k0 := hg.cell 0
  simp at k0
  have k0' : (w.alloc (.cells #[] 47)).cell? ⟨g, 0, none⟩ = some (.slice A0 S.length c0) := by
    rw [World.cell?_alloc_lt _ _ _ hgl]; exact k0
  obtain ⟨M, hM⟩ : ∃ M, e - st = M := ⟨_, rfl⟩
  rw [hM] at hlen
  have hTl : M ≤ 1000000 := by omega
  have hfin := Lib.hid fun W a n c h1 h2 => newlist_fin (w := w) (w1 := W) (a := a) (n := n) (c := c) (S := T) h1 h2
  rcases pvals_forms hv with ⟨rfl, rfl, rfl⟩ | ⟨b, rfl, hcap⟩
  · have hS0 : st = 0 ∧ e = 0 := by simp at h2; omega
    obtain ⟨rfl, rfl⟩ := hS0
    obtain rfl : T = [] := List.eq_nil_of_length_eq_zero (by rw [hlen, ← hM])
    have hown : Pvals (w.alloc (.cells #[] 47)) w.heap.size (.slice (some ⟨w.heap.size, 0, none⟩) 0 0) [] := ⟨[], World.ownsRow_made w #[] 0 (Nat.le_refl _) (by decide) rfl, All.nil _⟩
    have hf0 := hfin.out _ _ _ _ hown (Ref.below_one' _ (Nat.le_refl _))
    rw [World.size_alloc] at hf0
    have hf := Lib.hid hf0
    clear hLc hL0 hg hv hT hL hM hown hfin hf0
    go_enter Tryz.func75, Tryz.ntmps75
    go_wp2_with (at_builtin; refine wpList_append_own_none (P := Tryz.prog) rfl _ _ 74 rfl w.heap.size 47 _ 1 Tryz.underlying74 (info_parts info_pv).choose_spec.1 _ 0 [] rfl (World.ownsRow_made w #[] 0 (Nat.le_refl _) (by decide) rfl) rfl ?_)
    refine (hnl.out _ _ _ _).mono ?_
    rintro e w' ⟨rfl, rfl⟩
    go_wp2
    go_ret
    exact hf.out
  · have hcell := hLc b rfl
    have hL' := Lib.hid hL
    by_cases hcs : c0 = st
    · have hM0 : M = 0 := by omega
      subst hM0
      obtain rfl : T = [] := List.eq_nil_of_length_eq_zero hlen
      clear hLc hL0 hg hv hT hL hcell hL' hlen hTl
      go_enter Tryz.func75, Tryz.ntmps75
      go_wp2_with (at_builtin; refine wpList_pvs rfl _ _ rfl rfl [] [] (All.nil _) _ _ 0 _ rfl rfl (Nat.zero_le _) (fun j u h => by cases h) ?_; intro v4 w4 hv4 hb4; obtain ⟨A4, n4, c4, rfl⟩ := slice_form hv4; have hf := Lib.hid (hfin.out _ _ _ _ hv4 hb4); clear hv4 hb4)
      refine (hnl.out _ _ _ _).mono ?_
      rintro e w' ⟨rfl, rfl⟩
      go_wp2
      go_ret
      exact hf.out
    · have hcell' := Lib.hid hcell
      clear hLc hL0 hg hv hT hL hcell
      go_enter Tryz.func75, Tryz.ntmps75
      go_wp2_with (at_builtin; refine wpList_pvs rfl _ _ rfl rfl L T hL'.out _ _ M _ hlen rfl hTl hcell'.out ?_; intro v4 w4 hv4 hb4; obtain ⟨A4, n4, c4, rfl⟩ := slice_form hv4; have hf := Lib.hid (hfin.out _ _ _ _ hv4 hb4); clear hv4 hb4)
      refine (hnl.out _ _ _ _).mono ?_
      rintro e w' ⟨rfl, rfl⟩
      go_wp2
      go_ret
      exact hf.out
set_option maxHeartbeats 1000000 in
set_option maxRecDepth 100000 in
theorem lslice_more (g B0 : Nat) (v x y : Value) (S : List Sc) (st e sp : Int) (w : World) (hg : Box.Holds w g 128 #[v, x, y]) (hv : Pvals w B0 v S) (hl : S.length ≤ 400) (hf : Fits S.length st e sp) (h1 : -5 ≤ sp) (h2 : sp ≤ 5) (hone : sp ≠ 1) :
    Calls Tryz.prog 75 #[.pointer (some ⟨g, 0, none⟩), .int .i64 st, .int .i64 e, .int .i64 sp] w fun r w' => ∃ k i, Inv S.length st e sp k i ∧ ¬ Goes e sp i ∧ NewList w (row S st sp k) r w' := by
  have hnl := Lib.hid fun a n c W => newlist_any a n c W
  have hf' := hf
  unfold Fits at hf'
  have hone' : (sp == 1) = false := by simpa using hone
  have hfin := Lib.hid fun W a n c S h1 h2 => newlist_fin (w := w) (w1 := W) (a := a) (n := n) (c := c) (S := S) h1 h2
  obtain ⟨A0, c0, rfl⟩ := hv.shape
  have hgl := hg.lt
  have hg' := Lib.hid hg
  have hv' := Lib.hid hv
  clear hg hv
  go_enter Tryz.func75, Tryz.ntmps75
  go_wp2_with (go_at_call 102; refine (signum_any _ _ (by omega) (by omega)).mono ?_; rintro e w' ⟨rfl, rfl⟩)
  go_loopw [11, 12] (fun u i wr => ∃ (k : Nat) (n : Int), i = .int .i64 n ∧ Inv S.length st e sp k n ∧ -500 ≤ n ∧ n ≤ 500 ∧ k ≤ 400 ∧ Hid (Pvals wr w.heap.size u (row S st sp k)) ∧ Hid (Below w.heap.size w wr))
    (fun _ i _ => if 0 < sp then (e - intOf i).toNat else (intOf i - e).toNat)
  case atStart => exact ⟨0, st, rfl, inv_zero _ _ _ _, by omega, by omega, by omega, Lib.hid (Pvals.nil _ _), Lib.hid (Below.refl _ _)⟩
  case round =>
    obtain ⟨k, n, rfl, hinv, hn1, hn2, hk, hown, hb⟩ := hrel
    by_cases hgo : Goes e sp n
    · have hbd := inv_bounds hinv hf hgo
      have hst := inv_step hinv hf hgo
      obtain ⟨m, rfl⟩ : ∃ m : Nat, n = m := ⟨n.toNat, by omega⟩
      have hmS : m < S.length := by omega
      have hrow := Lib.hid (row_next hinv (by simpa using hmS))
      simp only [Int.toNat_natCast] at hrow
      have hsg := sgn_goes hgo
      obtain ⟨b, cap, p, h, hbl, hB, hc, hcell, hfr, hp⟩ := hv'.out.at_ hmS
      simp only [Value.slice.injEq, true_and] at h
      obtain ⟨rfl, rfl⟩ := h
      obtain ⟨s, hs⟩ : ∃ s, S[m] = s := ⟨_, rfl⟩
      rw [hs] at hp hrow
      have hp' := Lib.hid (hp.kept (Kept.of_below hb.out))
      have k1 := hold0 (hg'.out.later hb.out)
      have kc := (hb.out.cell (p := ⟨b, m, none⟩) hbl).trans hcell
      have hgl1 := Nat.lt_of_lt_of_le hgl hb.out.size
      have hbl1 := Nat.lt_of_lt_of_le hbl hb.out.size
      have hws := hb.out.size
      obtain ⟨pt, pu, rfl⟩ := hp.form
      have hrl : (row S st sp k).length ≤ 1000000 := by rw [row_length]; omega
      unfold Goes at hgo
      obtain ⟨ua, un, uc, rfl⟩ := slice_form hown.out
      clear hp hcell hfr hs
      go_wp2_with (first | (go_at_call 102; refine (signum_any _ _ (by omega) (by omega)).mono ?_; rintro e w' ⟨rfl, rfl⟩) | (at_builtin; refine wpList_pv2 (B := w.heap.size) (y := .iface pt pu) (t := s) rfl _ _ rfl _ (row S st sp k) rfl hown.out hws hp'.out rfl hrl ?_; intro v4 w4 hv4 hb4 ho4 hk4; have hv5 := Lib.hid (hrow.out ▸ hv4); have hb5 := Lib.hid (hb.out.trans hb4); clear hv4 hb4 ho4 hk4))
      go_roundw
      case rel => exact ⟨k + 1, m + sp, rfl, hst, by omega, by omega, by omega, hv5, hb5⟩
      case measure => simp only [intOf]; split <;> omega
    · have hsg := sgn_stops (by omega) hgo
      obtain ⟨ua, un, uc, rfl⟩ := slice_form hown.out
      have hfi := Lib.hid (hfin.out _ _ _ _ _ hown.out hb.out)
      clear hown hb
      go_wp2_with (first | (go_at_call 102; refine (signum_any _ _ (by omega) (by omega)).mono ?_; rintro e w' ⟨rfl, rfl⟩) | (go_at_call 39; refine (hnl.out _ _ _ _).mono ?_; rintro e w' ⟨rfl, rfl⟩))
      go_ret
      exact ⟨k, n, hinv, hgo, hfi.out⟩
theorem lslice_any (g B0 : Nat) (v x y : Value) (S : List Sc) (st e sp : Int) (w : World) (hg : Box.Holds w g 128 #[v, x, y]) (hv : Pvals w B0 v S) (hl : S.length ≤ 400) (hf : Fits S.length st e sp) (h1 : -5 ≤ sp) (h2 : sp ≤ 5) :
    Calls Tryz.prog 75 #[.pointer (some ⟨g, 0, none⟩), .int .i64 st, .int .i64 e, .int .i64 sp] w fun r w' => ∃ k i, Inv S.length st e sp k i ∧ ¬ Goes e sp i ∧ NewList w (row S st sp k) r w' := by
  by_cases h : sp = 1
  · subst h
    unfold Fits at hf
    obtain ⟨a, rfl⟩ : ∃ a : Nat, st = a := ⟨st.toNat, by omega⟩
    obtain ⟨b, rfl⟩ : ∃ b : Nat, e = b := ⟨e.toNat, by omega⟩
    obtain ⟨i1, i2⟩ := inv_one S.length a b (by omega) (by omega) (by omega)
    have hr := row_one S a b (by omega) (by omega) (by omega)
    refine (lslice_one g B0 v x y S a b w hg hv (by omega) (by omega) (by omega)).mono fun r w' hh => ⟨_, _, i1, i2, ?_⟩
    rw [← hr, show ((b : Int) - a).toNat = b - a by omega]
    exact hh
  · exact lslice_more g B0 v x y S st e sp w hg hv hl hf h1 h2 h

/-- the reference's slice -/
def NewVals (w : World) (S : List Sc) (e : Ending) (w' : World) : Prop := (∃ u, e = .returned u ∧ Vals w' w.heap.size u S) ∧ Below w.heap.size w w'
set_option maxHeartbeats 1000000 in
set_option maxRecDepth 100000 in
theorem cut_any (B0 : Nat) (v : Value) (S : List Sc) (st e sp : Int) (w : World) (hv : Vals w B0 v S) (hl : S.length ≤ 400) (hf : Fits S.length st e sp) (h1 : -5 ≤ sp) (h2 : sp ≤ 5) :
    Calls Tryz.prog 60 #[v, .int .i64 st, .int .i64 e, .int .i64 sp] w fun r w' => ∃ k i, Inv S.length st e sp k i ∧ ¬ Goes e sp i ∧ NewVals w (row S st sp k) r w' := by
  have hf' := hf
  unfold Fits at hf'
  obtain ⟨A0, c0, rfl⟩ := hv.shape
  have hv' := Lib.hid hv
  clear hv
  go_enter Tryz.func60, Tryz.ntmps60
  go_wp2
  go_loopw [9, 10] (fun u i wr => ∃ (k : Nat) (n : Int), i = .int .i64 n ∧ Inv S.length st e sp k n ∧ -500 ≤ n ∧ n ≤ 500 ∧ k ≤ 400 ∧ Hid (Vals wr w.heap.size u (row S st sp k)) ∧ Hid (Below w.heap.size w wr))
    (fun _ i _ => if 0 < sp then (e - intOf i).toNat else (intOf i - e).toNat)
  case atStart => exact ⟨0, st, rfl, inv_zero _ _ _ _, by omega, by omega, by omega, Lib.hid (Vals.nil _ _), Lib.hid (Below.refl _ _)⟩
  case round =>
    obtain ⟨k, n, rfl, hinv, hn1, hn2, hk, hown, hb⟩ := hrel
    by_cases hgo : Goes e sp n
    · have hbd := inv_bounds hinv hf hgo
      have hst := inv_step hinv hf hgo
      obtain ⟨m, rfl⟩ : ∃ m : Nat, n = m := ⟨n.toNat, by omega⟩
      have hmS : m < S.length := by omega
      have hrow := Lib.hid (row_next hinv (by simpa using hmS))
      simp only [Int.toNat_natCast] at hrow
      obtain ⟨b, cap, p, h, hbl, hB, hc, hat, hp⟩ := hv'.out.at_ hmS
      simp only [Value.slice.injEq, true_and] at h
      obtain ⟨rfl, rfl⟩ := h
      obtain ⟨s, hs⟩ : ∃ s, S[m] = s := ⟨_, rfl⟩
      rw [hs] at hp hrow
      have hp' := Lib.hid (hp.kept (Kept.of_below hb.out))
      obtain ⟨a0, a1, a2, a3, a4, a5⟩ := hat.later hb.out hbl
      obtain ⟨xn, xa, xl, xc, xb, xt, rfl⟩ := hp.form
      simp only at a0 a1 a2 a3 a4 a5
      have hbl1 := Nat.lt_of_lt_of_le hbl hb.out.size
      have hrl : (row S st sp k).length ≤ 1000000 := by rw [row_length]; omega
      unfold Goes at hgo
      obtain ⟨ua, uc, rfl⟩ := hown.out.shape
      clear hp hat hs
      rcases hgo with ⟨hg1, hg2⟩ | ⟨hg1, hg2⟩
      all_goals
        go_wp2_with (at_builtin; refine wpList_sc (w0 := w) (B := w.heap.size) (y := ⟨.int .i64 s.kind, .bool xn, .slice xa xl xc, .int .u64 xb, .string xt, .slice none 0 0⟩) (t := s) rfl _ _ rfl _ (row S st sp k) rfl hown.out hb.out (Nat.le_refl _) hp'.out rfl hrl ?_; intro v4 w4 hv4 hb4; have hv5 := Lib.hid (hrow.out ▸ hv4); have hb5 := Lib.hid hb4; clear hv4 hb4)
        go_roundw
        case rel => exact ⟨k + 1, m + sp, rfl, hst, by omega, by omega, by omega, hv5, hb5⟩
        case measure => simp only [intOf]; split <;> omega
    · have hgo' := hgo
      unfold Goes at hgo'
      obtain ⟨ua, uc, rfl⟩ := hown.out.shape
      go_wp2
      all_goals
        go_ret
        exact ⟨k, n, hinv, hgo, ⟨_, rfl, hown.out⟩, hb.out⟩
end Go.Proofs.YtafbheamnjmfoaaGreat.Ls
