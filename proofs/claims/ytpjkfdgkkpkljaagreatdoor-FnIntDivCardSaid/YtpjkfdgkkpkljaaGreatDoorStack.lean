/-
  The package's scratch memory for long division: a stack of words, made when more than four are asked for.
-/
import Derived.Test.YtpjkfdgkkpkljaaGreatDoorGrow
import Derived.Defers
namespace Go.Proofs.YtpjkfdgkkpkljaaGreatDoor.Nat_
open Go.RowKit Go.WideShapes Go.Proofs.YtpjkfdgkkpkljaaGreatDoor Go.Proofs.YtpjkfdgkkpkljaaGreatDoor.Own Go.Proofs.YtpjkfdgkkpkljaaGreatDoor.Num Go.Proofs.YtpjkfdgkkpkljaaGreatDoor.Ref
set_option linter.unusedVariables false

/-- but two blocks nothing of what was there has turned -/
structure But (g1 g2 : Nat) (w w' : World) : Prop where
  os : w'.os = w.os
  tape : w'.tape = w.tape
  output : w'.output = w.output
  size : w.heap.size ≤ w'.heap.size
  block : ∀ k, k < w.heap.size → k ≠ g1 → k ≠ g2 → w'.heap[k]? = w.heap[k]?
theorem But.refl (g1 g2 : Nat) (w : World) : But g1 g2 w w := ⟨rfl, rfl, rfl, Nat.le_refl _, fun _ _ _ _ => rfl⟩
theorem But.trans {g1 g2 : Nat} {a b c : World} (h : But g1 g2 a b) (k : But g1 g2 b c) : But g1 g2 a c :=
  ⟨k.os.trans h.os, k.tape.trans h.tape, k.output.trans h.output, Nat.le_trans h.size k.size, fun i hi h1 h2 => (k.block i (Nat.lt_of_lt_of_le hi h.size) h1 h2).trans (h.block i hi h1 h2)⟩
theorem But.set1 {g1 g2 : Nat} {a w : World} (h : But g1 g2 a w) (p : Nat) (u : Value) : But g1 g2 a (w.setCell ⟨g1, p, none⟩ u) :=
  h.trans ⟨rfl, rfl, rfl, by simp [World.setCell], fun k _ hk _ => Below.heap_setCell _ ⟨g1, p, none⟩ _ _ hk⟩
theorem But.set2 {g1 g2 : Nat} {a w : World} (h : But g1 g2 a w) (p : Nat) (u : Value) : But g1 g2 a (w.setCell ⟨g2, p, none⟩ u) :=
  h.trans ⟨rfl, rfl, rfl, by simp [World.setCell], fun k _ _ hk => Below.heap_setCell _ ⟨g2, p, none⟩ _ _ hk⟩
theorem But.alloc {g1 g2 : Nat} {a w : World} (h : But g1 g2 a w) (o : Obj) : But g1 g2 a (w.alloc o) :=
  h.trans ⟨rfl, rfl, rfl, by simp, fun k hk _ _ => Below.heap_alloc _ _ _ hk⟩
theorem But.drew {g1 g2 : Nat} {a w : World} (h : But g1 g2 a w) : But g1 g2 a w.drew := ⟨h.os, h.tape, h.output, h.size, h.block⟩
theorem But.setNew {g1 g2 : Nat} {a w : World} (h : But g1 g2 a w) {g : Nat} (hg : a.heap.size ≤ g) (p : Nat) (u : Value) : But g1 g2 a (w.setCell ⟨g, p, none⟩ u) :=
  ⟨h.os, h.tape, h.output, by simpa [World.setCell] using h.size, fun k hk h1 h2 => (Below.heap_setCell _ ⟨g, p, none⟩ _ _ (by show k ≠ g; omega)).trans (h.block k hk h1 h2)⟩
theorem But.below {g1 g2 B : Nat} {w w' : World} (h : But g1 g2 w w') (h1 : B ≤ g1) (h2 : B ≤ g2) (hB : B ≤ w.heap.size) : Below B w w' := ⟨h.os, h.tape, h.output, h.size, fun k hk => h.block k (by omega) (by omega) (by omega)⟩

/-- the stack of block g: nothing yet, or a row b with l words in use -/
def Stk (w : World) (g : Nat) (b : Option Nat) (l : Nat) : Prop :=
  match b with
  | none => Box.Holds w g 134 #[.pointer none] ∧ l = 0
  | some b => ∃ gi c L, Box.Holds w g 134 #[.pointer (some ⟨gi, 0, none⟩)] ∧ Box.Holds w gi 150 #[.slice (some ⟨b, 0, none⟩) l c] ∧ Wd w b L ∧ L.length = c ∧ l ≤ c ∧ c ≤ maxLen ∧ g < gi ∧ g < b
theorem Wd.ne_inner {w : World} {g p : Nat} {L : List Value} {cs : Array Value} (h : Wd w p L) (k : Box.Holds w g 150 cs) : p ≠ g := by
  intro e
  subst e
  have h1 : w.heap[p]? = some (.cells L.toArray 111 (0, 0)) := h
  have h2 : w.heap[p]? = some (.cells cs 150 (0, 0)) := k
  rw [h1] at h2
  simp at h2
theorem Wd.ne_stack {w : World} {g p : Nat} {L : List Value} {cs : Array Value} (h : Wd w p L) (k : Box.Holds w g 134 cs) : p ≠ g := by
  intro e
  subst e
  have h1 : w.heap[p]? = some (.cells L.toArray 111 (0, 0)) := h
  have h2 : w.heap[p]? = some (.cells cs 134 (0, 0)) := k
  rw [h1] at h2
  simp at h2

theorem getstk_any (w : World) : Calls Tryz.prog 85 #[] w fun e w' => e = .returned (.pointer (some ⟨w.heap.size, 0, none⟩)) ∧ w' = w.alloc (.cells #[.pointer none] 134) := by
  go_enter Tryz.func85, Tryz.ntmps85
  go_wp2
  go_ret
  exact ⟨rfl, rfl⟩
set_option maxRecDepth 100000 in
theorem isave_any (gi b l c : Nat) (w : World) (h : Box.Holds w gi 150 #[.slice (some ⟨b, 0, none⟩) l c]) (hl : l ≤ maxLen) : Calls Tryz.prog 122 #[.pointer (some ⟨gi, 0, none⟩)] w fun e w' => e = .returned (.int .i64 l) ∧ w' = w := by
  have h0 := h.cell 0
  simp at h0
  unfold maxLen at hl
  clear h
  go_enter Tryz.func122, Tryz.ntmps122
  go_wp2
  go_ret
  exact ⟨rfl, rfl⟩
set_option maxRecDepth 100000 in
theorem save_any (g : Nat) (b : Option Nat) (l : Nat) (w : World) (h : Stk w g b l) : Calls Tryz.prog 101 #[.pointer (some ⟨g, 0, none⟩)] w fun e w' => e = .returned (.int .i64 l) ∧ w' = w := by
  cases b with
  | none =>
    obtain ⟨h, rfl⟩ := h
    have h0 := h.cell 0
    simp at h0
    clear h
    go_enter Tryz.func101, Tryz.ntmps101
    go_wp2
    go_ret
    exact ⟨rfl, rfl⟩
  | some b =>
    obtain ⟨gi, c, L, hs, hi, hw, hL, hlc, hc, -, -⟩ := h
    have h0 := hs.cell 0
    simp at h0
    have hin := Lib.hid (isave_any gi b l c w hi (Nat.le_trans hlc hc))
    clear hs hi hw hL
    go_enter Tryz.func101, Tryz.ntmps101
    go_wp2_with fail
    refine hin.out.mono ?_
    rintro e w1 ⟨rfl, rfl⟩
    go_wp2
    go_ret
    exact ⟨rfl, rfl⟩
set_option maxRecDepth 100000 in
theorem irestore_any (gi b l c k : Nat) (w : World) (h : Box.Holds w gi 150 #[.slice (some ⟨b, 0, none⟩) l c]) (hk : k ≤ c) (hc : c ≤ maxLen) : Calls Tryz.prog 121 #[.pointer (some ⟨gi, 0, none⟩), .int .i64 k] w fun e w' => e = .returned (.tuple #[]) ∧ w' = w.setCell ⟨gi, 0, none⟩ (.slice (some ⟨b, 0, none⟩) k c) := by
  have h0 := h.cell 0
  have f0 := h.free 0
  simp at h0
  unfold maxLen at hc
  clear h
  go_enter Tryz.func121, Tryz.ntmps121
  go_wp2
  go_end0
  exact ⟨rfl, rfl⟩
set_option maxRecDepth 100000 in
theorem ifree_any (gi b l c : Nat) (w : World) (h : Box.Holds w gi 150 #[.slice (some ⟨b, 0, none⟩) l c]) (hc : c ≤ maxLen) : Calls Tryz.prog 99 #[.pointer (some ⟨gi, 0, none⟩)] w fun e w' => e = .returned (.tuple #[]) ∧ w' = w.setCell ⟨gi, 0, none⟩ (.slice (some ⟨b, 0, none⟩) 0 c) := by
  have h0 := h.cell 0
  have f0 := h.free 0
  simp at h0
  unfold maxLen at hc
  clear h
  go_enter Tryz.func99, Tryz.ntmps99
  go_wp2
  go_end0
  exact ⟨rfl, rfl⟩
/-- a stack given back: the words stand as they were -/
def Back (w : World) (g : Nat) (b : Option Nat) (k : Nat) (w' : World) : Prop := Stk w' g b k ∧ Below g w w' ∧ (∀ p L, Wd w p L → Wd w' p L) ∧ w'.heap.size = w.heap.size
theorem back_set {w : World} {g gi b l c k : Nat} {L : List Value} (hs : Box.Holds w g 134 #[.pointer (some ⟨gi, 0, none⟩)]) (hi : Box.Holds w gi 150 #[.slice (some ⟨b, 0, none⟩) l c]) (hw : Wd w b L) (hL : L.length = c) (hk : k ≤ c) (hc : c ≤ maxLen) (h1 : g < gi) (h2 : g < b) :
    Back w g (some b) k (w.setCell ⟨gi, 0, none⟩ (.slice (some ⟨b, 0, none⟩) k c)) := by
  refine ⟨⟨gi, c, L, hs.apart (p := ⟨gi, 0, none⟩) (by show g ≠ gi; omega) _, ?_, hw.apart (p := ⟨gi, 0, none⟩) (hw.ne_inner hi) _, hL, hk, hc, h1, h2⟩, (Below.refl _ _).setCell (p := ⟨gi, 0, none⟩) (by show g ≤ gi; omega) _, fun p L' hp => hp.apart (p := ⟨gi, 0, none⟩) (hp.ne_inner hi) _, by simp [World.setCell]⟩
  have := hi.put 0 (.slice (some ⟨b, 0, none⟩) k c)
  simpa using this
set_option maxRecDepth 100000 in
theorem restore_deferred (g : Nat) (b : Option Nat) (l k : Nat) (u : FrameMode) (w : World) (h : Stk w g b l) (hk : k ≤ l) : CallsD Tryz.prog 100 #[.pointer (some ⟨g, 0, none⟩), .int .i64 k] u w fun e u' w' => u' = u ∧ (e = .returned (.tuple #[]) ∧ Back w g b k w') := by
  cases b with
  | none =>
    obtain ⟨h, rfl⟩ := h
    obtain rfl : k = 0 := by omega
    have hfin := Lib.hid (show Back w g none 0 w from ⟨⟨h, rfl⟩, Below.refl _ _, fun _ _ h => h, rfl⟩)
    have h0 := h.cell 0
    simp at h0
    clear h
    go_enter_d Tryz.func100, Tryz.ntmps100
    go_wp2
    (try simp only [Exit.inBlock, Exit.then])
    refine bodyPost_ret (results_none rfl _ _ _) rfl ?_
    exact ⟨rfl, hfin.out⟩
  | some b =>
    obtain ⟨gi, c, L, hs, hi, hw, hL, hlc, hc, h1, h2⟩ := h
    have h0 := hs.cell 0
    simp at h0
    have hin := Lib.hid (irestore_any gi b l c k w hi (by omega) hc)
    have hfin := Lib.hid (back_set hs hi hw hL (show k ≤ c by omega) hc h1 h2)
    clear hs hi hw hL
    go_enter_d Tryz.func100, Tryz.ntmps100
    go_wp2_with fail
    refine hin.out.mono ?_
    rintro e w1 ⟨rfl, rfl⟩
    go_wp2
    go_end0
    exact ⟨rfl, hfin.out⟩
set_option maxRecDepth 100000 in
theorem free_deferred (g : Nat) (b : Option Nat) (l : Nat) (u : FrameMode) (w : World) (h : Stk w g b l) : CallsD Tryz.prog 86 #[.pointer (some ⟨g, 0, none⟩)] u w fun e u' w' => u' = u ∧ (e = .returned (.tuple #[]) ∧ Back w g b 0 w') := by
  cases b with
  | none =>
    obtain ⟨h, rfl⟩ := h
    have hfin := Lib.hid (show Back w g none 0 w from ⟨⟨h, rfl⟩, Below.refl _ _, fun _ _ h => h, rfl⟩)
    have h0 := h.cell 0
    simp at h0
    clear h
    go_enter_d Tryz.func86, Tryz.ntmps86
    go_wp2
    go_end0
    exact ⟨rfl, hfin.out⟩
  | some b =>
    obtain ⟨gi, c, L, hs, hi, hw, hL, hlc, hc, h1, h2⟩ := h
    have h0 := hs.cell 0
    simp at h0
    have hin := Lib.hid (ifree_any gi b l c w hi hc)
    have hfin := Lib.hid (back_set hs hi hw hL (show 0 ≤ c by omega) hc h1 h2)
    clear hs hi hw hL
    go_enter_d Tryz.func86, Tryz.ntmps86
    go_wp2_with fail
    refine hin.out.mono ?_
    rintro e w1 ⟨rfl, rfl⟩
    go_wp2
    go_end0
    exact ⟨rfl, hfin.out⟩

/-- brought up to a multiple of four -/
theorem up_four (n : Nat) (h : n ≤ 1000) : bits BinOp.andNot IntKind.i64 (((n + 3 : Nat) : Nat) : Int) 3 = (((n + 3) / 4 * 4 : Nat) : Int) := by
  have : ∀ k : Fin 1004, bits BinOp.andNot IntKind.i64 ((k.val : Nat) : Int) 3 = ((k.val / 4 * 4 : Nat) : Int) := by decide +kernel
  exact this ⟨n + 3, by omega⟩

/-- what the inner stack hands out -/
def Given (w : World) (gi : Nat) (base : Option Addr) (l n : Nat) (L : List Value) (e : Ending) (w' : World) : Prop :=
  ∃ b' c' L', e = .returned (.slice (some ⟨b', l, none⟩) n n) ∧ Box.Holds w' gi 150 #[.slice (some ⟨b', 0, none⟩) (l + (n + 3) / 4 * 4) c'] ∧ Wd w' b' L' ∧ L'.length = c' ∧ l + (n + 3) / 4 * 4 ≤ c' ∧ c' ≤ maxLen ∧
    (w.heap.size ≤ b' ∨ base = some ⟨b', 0, none⟩ ∧ ∀ j, j < l → L'[j]? = L[j]?) ∧ But gi b' w w'
set_option maxHeartbeats 2000000 in
set_option maxRecDepth 100000 in
theorem innat_any (gi : Nat) (base : Option Addr) (l c n : Nat) (L : List Value) (w : World) (hi : Box.Holds w gi 150 #[.slice base l c]) (hlc : l ≤ c) (hL : L.length = c) (hc : c ≤ maxLen) (hb : ∀ g, base = some g → ∃ g', g = ⟨g', 0, none⟩ ∧ Wd w g' L) (h0 : base = none → c = 0) (hn0 : 0 < n) (hn : n ≤ 1000) (hl : l ≤ 10000) :
    Calls Tryz.prog 125 #[.pointer (some ⟨gi, 0, none⟩), .int .i64 n] w (Given w gi base l n L) := by
  have hu := up_four n hn
  obtain ⟨r, hr⟩ : ∃ r, (n + 3) / 4 * 4 = r := ⟨_, rfl⟩
  have hrn : n ≤ r ∧ r ≤ n + 3 := by omega
  unfold Given
  rw [hr] at hu ⊢
  clear hr
  have hn3 : (n : Int) + 3 = ((n + 3 : Nat) : Int) := by omega
  obtain ⟨m, hm⟩ : ∃ m, n + 3 = m := ⟨_, rfl⟩
  rw [hm] at hu hn3
  have hg := Lib.hid fun W (hW : W = w) => groww_any base l c r L W hlc hL hc (by subst hW; exact hb) h0 (by omega)
  have i0 := hi.cell 0
  have f0 := hi.free 0
  simp at i0
  have hlt := hi.lt
  have hi' := Lib.hid hi
  have hL' := Lib.hid hL
  have hb' := Lib.hid hb
  have h0' := Lib.hid h0
  unfold maxLen at hc
  clear hi hL hb h0
  go_enter Tryz.func125, Tryz.ntmps125
  go_wp2_with fail
  refine (hg.out _ rfl).mono ?_
  rintro e w1 (⟨hroom, rfl, rfl⟩ | ⟨hroom, c', L', rfl, rfl, h6, h7, h8, h9⟩)
  · have hbs : base ≠ none := fun h => by have := h0'.out h; omega
    obtain ⟨a, rfl⟩ : ∃ a, base = some a := by
      cases base with
      | none => exact absurd rfl hbs
      | some a => exact ⟨a, rfl⟩
    obtain ⟨g', rfl, hw⟩ := hb'.out a rfl
    have hne : g' ≠ gi := hw.ne_inner hi'.out
    have hne' : ¬ gi = g' := fun h => hne h.symm
    obtain ⟨⟨cv, hcv⟩, hcf⟩ := hw.some_ (p := l) (by rw [hL'.out]; omega)
    have hwl := hw.lt
    have hfin := Lib.hid (show ∃ b' c' L', Ending.returned (.slice (some ⟨g', l, none⟩) (l + n - l) (l + n - l)) = .returned (.slice (some ⟨b', l, none⟩) n n) ∧ Box.Holds (((w1.setCell ⟨gi, 0, none⟩ (.slice (some ⟨g', 0, none⟩) l c)).setCell ⟨gi, 0, none⟩ (.slice (some ⟨g', 0, none⟩) (l + r) c)).setCell ⟨g', l, none⟩ (.int .u64 1043915)) gi 150 #[.slice (some ⟨b', 0, none⟩) (l + r) c'] ∧ Wd (((w1.setCell ⟨gi, 0, none⟩ (.slice (some ⟨g', 0, none⟩) l c)).setCell ⟨gi, 0, none⟩ (.slice (some ⟨g', 0, none⟩) (l + r) c)).setCell ⟨g', l, none⟩ (.int .u64 1043915)) b' L' ∧ L'.length = c' ∧ l + r ≤ c' ∧ c' ≤ maxLen ∧ (w1.heap.size ≤ b' ∨ (some ⟨g', 0, none⟩ : Option Addr) = some ⟨b', 0, none⟩ ∧ ∀ j, j < l → L'[j]? = L[j]?) ∧ But gi b' w1 (((w1.setCell ⟨gi, 0, none⟩ (.slice (some ⟨g', 0, none⟩) l c)).setCell ⟨gi, 0, none⟩ (.slice (some ⟨g', 0, none⟩) (l + r) c)).setCell ⟨g', l, none⟩ (.int .u64 1043915)) from by
      refine ⟨g', c, L.set l (.int .u64 1043915), by rw [Nat.add_sub_cancel_left], ?_, ((hw.apart (p := ⟨gi, 0, none⟩) hne _).apart (p := ⟨gi, 0, none⟩) hne _).put l _, by rw [List.length_set]; exact hL'.out, hroom, by unfold maxLen; omega, .inr ⟨rfl, fun j hj => ?_⟩, (((But.refl gi g' w1).set1 0 _).set1 0 _).set2 l _⟩
      · have := ((hi'.out.put 0 (.slice (some ⟨g', 0, none⟩) l c)).put 0 (.slice (some ⟨g', 0, none⟩) (l + r) c)).apart (p := ⟨g', l, none⟩) (Ne.symm hne) (.int .u64 1043915)
        simpa using this
      · rw [List.getElem?_set, if_neg (by omega)])
    clear hw hbs
    go_wp2
    go_ret
    exact hfin.out
  · have hne : w.heap.size ≠ gi := by omega
    have hne' : ¬ gi = w.heap.size := by omega
    have hw : Wd (w.drew.alloc (.cells (List.toArray L') 111)) w.heap.size L' := Box.Holds.made w.drew 111 (List.toArray L')
    have hi1 : Box.Holds (w.drew.alloc (.cells (List.toArray L') 111)) gi 150 #[.slice base l c] := Box.Holds.alloc (w := w.drew) hi'.out _
    obtain ⟨w1, hw1⟩ : ∃ w1, w.drew.alloc (.cells (List.toArray L') 111) = w1 := ⟨_, rfl⟩
    have hbut : But gi w.heap.size w w1 := by rw [← hw1]; exact (But.refl _ _ w).drew.alloc _
    rw [hw1] at hw hi1 ⊢
    obtain ⟨g', hg'⟩ : ∃ g', w.heap.size = g' := ⟨_, rfl⟩
    have hgs' : Hid (w.heap.size ≤ g') := Lib.hid (by omega)
    rw [hg'] at hne hne' hw hbut ⊢
    obtain ⟨⟨cv, hcv⟩, hcf⟩ := hw.some_ (p := l) (by omega)
    have hwl := hw.lt
    have j0 := hi1.cell 0
    have jf := hi1.free 0
    simp at j0
    have jl := hi1.lt
    have hfin := Lib.hid (show ∃ b' c2 Lq, Ending.returned (.slice (some ⟨g', l, none⟩) (l + n - l) (l + n - l)) = .returned (.slice (some ⟨b', l, none⟩) n n) ∧ Box.Holds (((w1.setCell ⟨gi, 0, none⟩ (.slice (some ⟨g', 0, none⟩) l c')).setCell ⟨gi, 0, none⟩ (.slice (some ⟨g', 0, none⟩) (l + r) c')).setCell ⟨g', l, none⟩ (.int .u64 1043915)) gi 150 #[.slice (some ⟨b', 0, none⟩) (l + r) c2] ∧ Wd (((w1.setCell ⟨gi, 0, none⟩ (.slice (some ⟨g', 0, none⟩) l c')).setCell ⟨gi, 0, none⟩ (.slice (some ⟨g', 0, none⟩) (l + r) c')).setCell ⟨g', l, none⟩ (.int .u64 1043915)) b' Lq ∧ Lq.length = c2 ∧ l + r ≤ c2 ∧ c2 ≤ maxLen ∧ (w.heap.size ≤ b' ∨ base = some ⟨b', 0, none⟩ ∧ ∀ j, j < l → Lq[j]? = L[j]?) ∧ But gi b' w (((w1.setCell ⟨gi, 0, none⟩ (.slice (some ⟨g', 0, none⟩) l c')).setCell ⟨gi, 0, none⟩ (.slice (some ⟨g', 0, none⟩) (l + r) c')).setCell ⟨g', l, none⟩ (.int .u64 1043915)) from by
      refine ⟨g', c', L'.set l (.int .u64 1043915), by rw [Nat.add_sub_cancel_left], ?_, ((hw.apart (p := ⟨gi, 0, none⟩) hne _).apart (p := ⟨gi, 0, none⟩) hne _).put l _, by rw [List.length_set]; exact h6, by omega, by omega, .inl hgs'.out, ((hbut.set1 0 _).set1 0 _).set2 l _⟩
      have := ((hi1.put 0 (.slice (some ⟨g', 0, none⟩) l c')).put 0 (.slice (some ⟨g', 0, none⟩) (l + r) c')).apart (p := ⟨g', l, none⟩) (Ne.symm hne) (.int .u64 1043915)
      simpa using this)
    have hc2m : c' ≤ 9223372036854775807 := by unfold maxLen at h8; omega
    clear hw hi1 hbut hw1 h8 h9 hg' i0 f0 hlt h6
    go_wp2
    go_ret
    exact hfin.out

/-- what the stack hands out: n words of a new row, or behind those in use -/
def Got (w : World) (g : Nat) (b : Option Nat) (l n : Nat) (e : Ending) (w' : World) : Prop :=
  ∃ bx ox cx L b' l', e = .returned (.slice (some ⟨bx, ox, none⟩) n cx) ∧ n ≤ cx ∧ Wd w' bx L ∧ ox + n ≤ L.length ∧ ox ≤ l ∧ Stk w' g b' l' ∧ l ≤ l' ∧ l' ≤ l + n + 3 ∧ (b' = some bx → ox + n ≤ l') ∧ (b' = none ∨ b' = some bx) ∧ Below g w w' ∧ g < bx ∧
    (∀ p Lp m Y, Wd w p Lp → (b = some p → m ≤ l) → Src w p 0 m 0 Y → Src w' p 0 m 0 Y ∧ (p ≠ bx ∨ m ≤ ox)) ∧ (∀ p Lp, b ≠ some p → Wd w p Lp → Wd w' p Lp ∧ p ≠ bx) ∧ cx ≤ maxLen
theorem Wd.ne_cells {w w' : World} {g p : Nat} {L : List Value} (h : Wd w p L) (hb : w'.heap[p]? = w.heap[p]?) : Wd w' p L := hb.trans h
theorem src_block {w w' : World} {p m Y : Nat} (h : Src w p 0 m 0 Y) (hb : w'.heap[p]? = w.heap[p]?) : Src w' p 0 m 0 Y := fun j h1 h2 => (World.cell?_of_block (w := w) (a := ⟨p, 0 + j, none⟩) hb).trans (h j h1 h2)
set_option maxHeartbeats 2000000 in
set_option maxRecDepth 100000 in
theorem snat_small (g n : Nat) (w : World) (h : Stk w g none 0) (hn0 : 0 < n) (hn : n ≤ 4) : Calls Tryz.prog 103 #[.pointer (some ⟨g, 0, none⟩), .int .i64 n] w (Got w g none 0 n) := by
  obtain ⟨h, -⟩ := h
  have c0 := h.cell 0
  simp at c0
  have hlt := h.lt
  have hg := Lib.hid (grown_any none 0 0 n [] w (Nat.le_refl _) rfl (by unfold maxLen; omega) (by intro g hg; cases hg) (fun _ => rfl) (by omega))
  have h' := Lib.hid h
  clear h
  have d4 : decide ((n : Int) ≤ 4) = true := decide_eq_true (by omega)
  go_enter Tryz.func103, Tryz.ntmps103
  go_wp2_with fail
  refine hg.out.mono ?_
  rintro e w1 (⟨hroom, rfl, rfl⟩ | ⟨hroom, c', L', rfl, rfl, h6, h7, h8, h9⟩)
  · omega
  · have hw : Wd (w.drew.alloc (.cells (List.toArray L') 111)) w.heap.size L' := Box.Holds.made w.drew 111 (List.toArray L')
    have hb : Below w.heap.size w (w.drew.alloc (.cells (List.toArray L') 111)) := (Below.refl _ w).drew.alloc (Nat.le_refl _) _
    have hsz : (w.drew.alloc (.cells (List.toArray L') 111)).heap.size = w.heap.size + 1 := by simp
    obtain ⟨w1, hw1⟩ : ∃ w1, w.drew.alloc (.cells (List.toArray L') 111) = w1 := ⟨_, rfl⟩
    rw [hw1] at hw hb hsz ⊢
    obtain ⟨g', hg'⟩ : ∃ g', w.heap.size = g' := ⟨_, rfl⟩
    rw [hg'] at hw hb hlt hsz ⊢
    obtain ⟨⟨cv, hcv⟩, hcf⟩ := hw.some_ (p := 0) (by omega)
    have hwl := hw.lt
    have hfin := Lib.hid (show Got w g none 0 n (.returned (.slice (some ⟨g', 0, none⟩) n c')) (w1.setCell ⟨g', 0, none⟩ (.int .u64 11259375)) from by
      have hb2 : Below g' w (w1.setCell ⟨g', 0, none⟩ (.int .u64 11259375)) := hb.setCell (Nat.le_refl _) _
      refine ⟨g', 0, c', L'.set 0 (.int .u64 11259375), none, 0, rfl, by omega, hw.put 0 _, by rw [List.length_set]; omega, by omega, ⟨?_, rfl⟩, by omega, by omega, (by intro h; cases h), .inl rfl, hb2.mono (by omega), hlt, fun p Lp m Y hp _ hs => ⟨?_, .inl ?_⟩, fun p Lp _ hp => ⟨?_, ?_⟩, h8⟩
      · exact (hb2.block g hlt).trans h'.out
      · exact src_block hs (hb2.block p (by have := hp.lt; omega))
      · have := hp.lt; omega
      · exact (hb2.block p (by have := hp.lt; omega)).trans hp
      · have := hp.lt; omega)
    have hc'm : c' ≤ 9223372036854775807 := by unfold maxLen at h8; omega
    clear hw hb hw1 h6 h8 h9 hg' hsz hlt
    go_wp2
    go_ret
    exact hfin.out
set_option maxHeartbeats 2000000 in
set_option maxRecDepth 100000 in
theorem snat_first (g n : Nat) (w : World) (h : Stk w g none 0) (hn0 : 4 < n) (hn : n ≤ 1000) : Calls Tryz.prog 103 #[.pointer (some ⟨g, 0, none⟩), .int .i64 n] w (Got w g none 0 n) := by
  obtain ⟨h, -⟩ := h
  have c0 := h.cell 0
  have f0 := h.free 0
  simp at c0
  have hlt := h.lt
  have d4 : decide ((n : Int) ≤ 4) = false := decide_eq_false (by omega)
  have hi : Box.Holds ((w.setCell ⟨g, 0, none⟩ (.pointer (some ⟨w.heap.size, 0, none⟩))).alloc (.cells #[.slice none 0 0] 150)) w.heap.size 150 #[.slice none 0 0] := by
    have := Box.Holds.made (w.setCell ⟨g, 0, none⟩ (.pointer (some ⟨w.heap.size, 0, none⟩))) 150 #[.slice none 0 0]
    simpa using this
  have hs : Box.Holds ((w.setCell ⟨g, 0, none⟩ (.pointer (some ⟨w.heap.size, 0, none⟩))).alloc (.cells #[.slice none 0 0] 150)) g 134 #[.pointer (some ⟨w.heap.size, 0, none⟩)] := by
    have := (h.put 0 (.pointer (some ⟨w.heap.size, 0, none⟩))).alloc (.cells #[.slice none 0 0] 150)
    simpa using this
  have hbut : But g g w ((w.setCell ⟨g, 0, none⟩ (.pointer (some ⟨w.heap.size, 0, none⟩))).alloc (.cells #[.slice none 0 0] 150)) := ((But.refl g g w).set1 0 _).alloc _
  have hsz : ((w.setCell ⟨g, 0, none⟩ (.pointer (some ⟨w.heap.size, 0, none⟩))).alloc (.cells #[.slice none 0 0] 150)).heap.size = w.heap.size + 1 := by simp
  have hin := innat_any w.heap.size none 0 0 n [] _ hi (Nat.le_refl _) rfl (by unfold maxLen; omega) (by intro g hg; cases hg) (fun _ => rfl) (by omega) hn (by omega)
  have hin2 := hin.mono (R' := Got w g none 0 n) (by
    rintro e w' ⟨b', c', L', rfl, k1, k2, k3, k4, k5, k6, k7⟩
    have hb' : w.heap.size + 1 ≤ b' := by
      rcases k6 with k6 | ⟨k6, -⟩
      · omega
      · cases k6
    have hgone : ∀ p, p < w.heap.size → p ≠ g → w'.heap[p]? = w.heap[p]? := fun p hp hpg => (k7.block p (by omega) (by omega) (by omega)).trans (hbut.block p hp hpg hpg)
    rw [Nat.zero_add] at k1 k4
    refine ⟨b', 0, n, L', some b', (n + 3) / 4 * 4, rfl, Nat.le_refl _, k2, by omega, by omega, ⟨w.heap.size, c', L', ?_, k1, k2, k3, k4, k5, by omega, by omega⟩, by omega, by omega, fun _ => by omega, .inr rfl, ?_, by omega, fun p Lp m Y hp _ hs => ⟨?_, .inl ?_⟩, fun p Lp _ hp => ⟨?_, ?_⟩, by unfold maxLen; omega⟩
    · exact (k7.block g (by omega) (by omega) (by omega)).trans hs
    · exact ⟨k7.os.trans hbut.os, k7.tape.trans hbut.tape, k7.output.trans hbut.output, Nat.le_trans hbut.size k7.size, fun p hp => hgone p (by omega) (by omega)⟩
    · exact src_block hs (hgone p hp.lt (hp.ne_stack h))
    · have := hp.lt; omega
    · exact (hgone p hp.lt (hp.ne_stack h)).trans hp
    · have := hp.lt; omega)
  have hin3 := Lib.hid hin2
  clear hin hin2 hi hs hbut hsz h
  go_enter Tryz.func103, Tryz.ntmps103
  go_wp2_with fail
  refine hin3.out.mono ?_
  rintro e w1 hgot
  have hfin := Lib.hid hgot
  obtain ⟨bx, ox, cx, L, b', l', rfl, -⟩ := hgot
  clear hin3
  go_wp2
  go_ret
  exact hfin.out
set_option maxHeartbeats 2000000 in
set_option maxRecDepth 100000 in
theorem snat_more (g b l n : Nat) (w : World) (h : Stk w g (some b) l) (hn0 : 0 < n) (hn : n ≤ 1000) (hl : l ≤ 10000) : Calls Tryz.prog 103 #[.pointer (some ⟨g, 0, none⟩), .int .i64 n] w (Got w g (some b) l n) := by
  obtain ⟨gi, c, L, hs, hi, hw, hL, hlc, hc, h1, h2⟩ := h
  have c0 := hs.cell 0
  simp at c0
  have hlt := hs.lt
  have hil := hi.lt
  have hbl := hw.lt
  have hin := innat_any gi (some ⟨b, 0, none⟩) l c n L w hi hlc hL hc (by intro g hg; cases hg; exact ⟨b, rfl, hw⟩) (by intro h; cases h) hn0 hn hl
  have hin2 := hin.mono (R' := Got w g (some b) l n) (by
    rintro e w' ⟨b', c', L', rfl, k1, k2, k3, k4, k5, k6, k7⟩
    have hb' : w.heap.size ≤ b' ∨ b' = b ∧ ∀ j, j < l → L'[j]? = L[j]? := by
      rcases k6 with k6 | ⟨k6, k8⟩
      · exact .inl k6
      · simp only [Option.some.injEq, Addr.mk.injEq, and_true] at k6
        exact .inr ⟨k6.symm, k8⟩
    have hgb : g < b' := by rcases hb' with hb' | ⟨hb', -⟩ <;> omega
    have hgib : gi ≠ b' := fun e => (k2.ne_inner k1) e.symm
    refine ⟨b', l, n, L', some b', l + (n + 3) / 4 * 4, rfl, Nat.le_refl _, k2, by omega, by omega, ⟨gi, c', L', ?_, k1, k2, k3, k4, k5, by omega, hgb⟩, by omega, by omega, fun _ => by omega, .inr rfl, ?_, hgb, fun p Lp m Y hp hm hs => ?_, fun p Lp hne hp => ?_, by unfold maxLen; omega⟩
    · exact (k7.block g (by omega) (by omega) (by omega)).trans hs
    · exact k7.below (by omega) (by omega) (by omega)
    · rcases Nat.lt_or_ge p b' with hpb | hpb
      · exact ⟨src_block hs (k7.block p hp.lt (hp.ne_inner hi) (by omega)), .inl (by omega)⟩
      · rcases Nat.lt_or_ge b' p with hpb2 | hpb2
        · exact ⟨src_block hs (k7.block p hp.lt (hp.ne_inner hi) (by omega)), .inl (by omega)⟩
        · obtain rfl : p = b' := by omega
          rcases hb' with hb' | ⟨rfl, hb'⟩
          · have := hp.lt; omega
          · have hml := hm rfl
            refine ⟨k2.src fun j _ hj => ?_, .inr hml⟩
            rw [hb' _ (by omega)]
            exact Src.get hs hw j (by omega) hj
    · have hpb : p ≠ b' := by
        rcases hb' with hb' | ⟨rfl, hb'⟩
        · have := hp.lt; omega
        · intro e
          exact hne (by rw [e])
      exact ⟨(k7.block p hp.lt (hp.ne_inner hi) hpb).trans hp, hpb⟩)
  have hin3 := Lib.hid hin2
  clear hin hin2 hi hs hw hL hlc hc
  go_enter Tryz.func103, Tryz.ntmps103
  go_wp2_with fail
  refine hin3.out.mono ?_
  rintro e w1 hgot
  have hfin := Lib.hid hgot
  obtain ⟨bx, ox, cx, L, b', l', rfl, -⟩ := hgot
  clear hin3
  go_wp2
  go_ret
  exact hfin.out
theorem snat_any (g : Nat) (b : Option Nat) (l n : Nat) (w : World) (h : Stk w g b l) (hn0 : 0 < n) (hn : n ≤ 1000) (hl : l ≤ 10000) : Calls Tryz.prog 103 #[.pointer (some ⟨g, 0, none⟩), .int .i64 n] w (Got w g b l n) := by
  cases b with
  | none =>
    obtain ⟨h, rfl⟩ := h
    rcases Nat.lt_or_ge 4 n with h4 | h4
    · exact snat_first g n w ⟨h, rfl⟩ h4 hn
    · exact snat_small g n w ⟨h, rfl⟩ hn0 h4
  | some b => exact snat_more g b l n w h hn0 hn hl
end Go.Proofs.YtpjkfdgkkpkljaaGreatDoor.Nat_
