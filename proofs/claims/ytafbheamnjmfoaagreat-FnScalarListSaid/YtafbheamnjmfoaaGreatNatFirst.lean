/-
  A block that a call has made and that is known to its last cell: what reads, stores and later worlds do to it. The package's naturals: rows of 64-bit words that a call owns; norm strikes the leading zeros. The package's naturals: a new row of zeros.
-/
import Derived.Test.YtafbheamnjmfoaaGreatRowsOwn
import Derived.Deep.Draws
import Derived.Laws.Rows
import Derived.Test.YtafbheamnjmfoaaGreatNumLaws
import Derived.LoopTactic
import Derived.Outline
import Derived.WalkSpells
import Derived.WalkLawsBesides
import Derived.Lib.Hide
import Derived.OpenShut
import Derived.Deep.QuietTactic
import Derived.BigQuiet
import Derived.Deep.LoopGhost
import Derived.Deep.Onto
import Derived.Deep.AppendLies
import Derived.Laws.MakeOwn
namespace Go.Proofs.YtafbheamnjmfoaaGreat.Box
open Go.RowKit
set_option linter.unusedVariables false

/-- block g holds just these cells -/
def Holds (w : World) (g : Nat) (t : TypeId) (cs : Array Value) : Prop := w.heap[g]? = some (.cells cs t (0, 0))
theorem Holds.lt {w : World} {g : Nat} {t : TypeId} {cs : Array Value} (h : Holds w g t cs) : g < w.heap.size := (Array.getElem?_eq_some_iff.1 h).1
theorem Holds.cell {w : World} {g : Nat} {t : TypeId} {cs : Array Value} (h : Holds w g t cs) (i : Nat) : w.cell? ⟨g, i, none⟩ = cs[i]? := cell_of_row w g i cs t (0, 0) h
theorem Holds.free {w : World} {g : Nat} {t : TypeId} {cs : Array Value} (h : Holds w g t cs) (i : Nat) : w.frozen? ⟨g, i, none⟩ = false := by
  have h' : w.heap[g]? = some (.cells cs t (0, 0)) := h
  simp [World.frozen?, h']
theorem Holds.made (w : World) (t : TypeId) (cs : Array Value) : Holds (w.alloc (.cells cs t)) w.heap.size t cs := heap_alloc_new w _
theorem Holds.put {w : World} {g : Nat} {t : TypeId} {cs : Array Value} (h : Holds w g t cs) (i : Nat) (u : Value) : Holds (w.setCell ⟨g, i, none⟩ u) g t (cs.setIfInBounds i u) := by
  have h' : w.heap[g]? = some (.cells cs t (0, 0)) := h
  unfold Holds World.setCell
  rw [Array.getElem?_modify, if_pos rfl, h']
  rfl
theorem Holds.apart {w : World} {g : Nat} {t : TypeId} {cs : Array Value} (h : Holds w g t cs) {p : Addr} (hp : g ≠ p.block) (u : Value) : Holds (w.setCell p u) g t cs := (Below.heap_setCell w p u g hp).trans h
theorem Holds.later {w w' : World} {g : Nat} {t : TypeId} {cs : Array Value} (h : Holds w g t cs) (hb : Below w.heap.size w w') : Holds w' g t cs := (hb.block g h.lt).trans h
theorem Holds.below {B : Nat} {w w' : World} {g : Nat} {t : TypeId} {cs : Array Value} (h : Holds w g t cs) (hb : Below B w w') (hg : g < B) : Holds w' g t cs := (hb.block g hg).trans h
theorem Holds.alloc {w : World} {g : Nat} {t : TypeId} {cs : Array Value} (h : Holds w g t cs) (o : Obj) : Holds (w.alloc o) g t cs := h.later ((Below.refl _ _).alloc (Nat.le_refl _) o)
theorem Holds.drawn {w : World} {g : Nat} {t : TypeId} {cs : Array Value} (h : Holds w g t cs) (n : Nat) : Holds (w.drewN n) g t cs := h
theorem below_drawn {B : Nat} {a w : World} (h : Below B a w) (n : Nat) : Below B a (w.drewN n) := ⟨h.os, h.tape, h.output, h.size, h.block⟩

/-- what is owned from block B on lies above whatever else below B turned -/
theorem own_above {w w' : World} {B e size n : Nat} {v : Value} {xs : List Value} (h : w.ownsRow B e size v n xs) (hk : ∀ g, B ≤ g → g < w.heap.size → w'.heap[g]? = w.heap[g]?) : w'.ownsRow B e size v n xs := by
  refine ⟨h.1, ?_⟩
  rcases h.2 with hn | ⟨g, cap, cur, rfl, hB, hg, rest⟩
  · exact .inl hn
  · exact .inr ⟨g, cap, cur, rfl, hB, (hk g hB (Array.getElem?_eq_some_iff.1 hg).1).trans hg, rest⟩
/-- from block B on nothing of w has turned -/
def Above (B : Nat) (w w' : World) : Prop := ∀ g, B ≤ g → g < w.heap.size → w'.heap[g]? = w.heap[g]?
theorem Above.refl (B : Nat) (w : World) : Above B w w := fun _ _ _ => rfl
theorem Above.of_below {B : Nat} {w w' : World} (hb : Below w.heap.size w w') : Above B w w' := fun g _ hg => hb.block g hg
theorem Above.trans {B : Nat} {a w w' : World} (h : Above B a w) (hs : a.heap.size ≤ w.heap.size) (h' : Above B w w') : Above B a w' := fun g hB hg => (h' g hB (by omega)).trans (h g hB hg)
theorem Above.setCell {B : Nat} {a w : World} (h : Above B a w) {p : Addr} (hp : p.block < B) (u : Value) : Above B a (w.setCell p u) := fun g hB hg => (Below.heap_setCell w p u g (by omega)).trans (h g hB hg)
theorem Above.drawn {B : Nat} {a w : World} (h : Above B a w) (n : Nat) : Above B a (w.drewN n) := h
end Go.Proofs.YtafbheamnjmfoaaGreat.Box

namespace Go.Proofs.YtafbheamnjmfoaaGreat.Nat_
open Go.RowKit Go.WideShapes Go.Proofs.YtafbheamnjmfoaaGreat.Own Go.Proofs.YtafbheamnjmfoaaGreat.Num
set_option linter.unusedVariables false

def ws (l : List Nat) : List Value := l.map fun (d : Nat) => Value.int .u64 (d : Int)
theorem ws_length (l : List Nat) : (ws l).length = l.length := by simp [ws]
/-- the value owns just these words -/
def OwnW (w : World) (B : Nat) (v : Value) (l : List Nat) : Prop := w.ownsRow B 189 1 v l.length (ws l)
theorem OwnW.later {w w' : World} {B : Nat} {v : Value} {l : List Nat} (h : OwnW w B v l) (hb : Below w.heap.size w w') : OwnW w' B v l := own_below h hb
theorem OwnW.shape {w : World} {B : Nat} {v : Value} {l : List Nat} (h : OwnW w B v l) : (v = .slice none 0 0 ∧ l = []) ∨ ∃ g cap, v = .slice (some ⟨g, 0, none⟩) l.length cap ∧ g < w.heap.size ∧ B ≤ g ∧ l.length ≤ cap ∧ (∀ j (hj : j < l.length), w.cell? ⟨g, j, none⟩ = some (.int .u64 (l[j] : Int))) := by
  rcases (show w.ownsRow B 189 1 v l.length (ws l) from h).2 with ⟨rfl, h0⟩ | ⟨g, cap, cur, rfl, hB, hg, hc, _⟩
  · exact .inl ⟨rfl, List.eq_nil_of_length_eq_zero h0⟩
  · refine .inr ⟨g, cap, rfl, (Array.getElem?_eq_some_iff.1 hg).1, hB, hc, fun j hj => ?_⟩
    have := World.ownsRow.cells h (g := g) rfl j (.int .u64 (l[j] : Int)) (by simp [ws, List.getElem?_eq_getElem hj])
    rw [show ((⟨g, 0, none⟩ : Addr).add j) = ⟨g, j, none⟩ by unfold Addr.add; split <;> simp_all] at this
    exact this
/-- the first k words of a row are a row -/
theorem OwnW.prefix_ {w : World} {B g cap : Nat} {l : List Nat} (h : OwnW w B (.slice (some ⟨g, 0, none⟩) l.length cap) l) (k : Nat) (hk : k ≤ l.length) : OwnW w B (.slice (some ⟨g, 0, none⟩) k cap) (l.take k) := by
  have hl : (l.take k).length = k := by simp; omega
  unfold OwnW
  rw [hl]
  refine ⟨by rw [ws_length, hl]; omega, .inr ?_⟩
  rcases (show w.ownsRow B 189 1 (.slice (some ⟨g, 0, none⟩) l.length cap) l.length (ws l) from h).2 with ⟨h0, _⟩ | ⟨g', cap', cur, e, hB, hg, hc, hm, hs, ht⟩
  · cases h0
  · simp only [Value.slice.injEq, Option.some.injEq, Addr.mk.injEq, and_true, true_and] at e
    obtain ⟨rfl, rfl⟩ := e
    refine ⟨g, cap, cur, rfl, hB, hg, by omega, hm, hs, ?_⟩
    have : cur.toList.take (k * 1) = (cur.toList.take (l.length * 1)).take k := by rw [List.take_take]; congr 1; omega
    rw [this, ht]
    simp [ws, List.map_take]

/-- the slice of the words of a number -/
def IsNat (w : World) (B : Nat) (v : Value) (V : Nat) : Prop := OwnW w B v (words V)

set_option maxRecDepth 100000 in
theorem norm_any (v : Value) (V m B : Nat) (w : World) (h : OwnW w B v (dig W V m)) (hV : V < W ^ m) (hm : m ≤ 100000) :
    Calls Tryz.prog 122 #[v] w fun e w' => (∃ u, e = .returned u ∧ IsNat w B u V) ∧ w = w' := by
  rcases h.shape with ⟨rfl, h0⟩ | ⟨g, cap, rfl, hg, hB, hc, hcell⟩
  · have hm0 : m = 0 := by have := congrArg List.length h0; rw [dig_length] at this; simpa using this
    have hV0 : V = 0 := by rw [hm0, Nat.pow_zero] at hV; omega
    have hw : words V = [] := by rw [hV0]; rfl
    have hfin := Lib.hid (show IsNat w B (.slice none 0 0) V by unfold IsNat; rw [hw]; exact World.ownsRow_nil _ _ _ _)
    clear h h0 hV hm0 hV0 hw
    go_enter Tryz.func122, Tryz.ntmps122
    go_wp2
    go_loop [3] (fun i => i = .int .i64 0) (fun _ => 0)
    case atStart => rfl
    case round =>
      subst hrel
      go_wp2
      go_ret
      exact ⟨⟨_, rfl, hfin.out⟩, rfl⟩
  · rw [dig_length] at h hc ⊢
    have h' := Lib.hid h
    have hcell' : Hid (∀ j, j < m → w.cell? ⟨g, j, none⟩ = some (.int .u64 ((V / W ^ j % W : Nat) : Int))) := Lib.hid fun j hj => by
      have := hcell j (by rw [dig_length]; exact hj)
      rw [this]
      congr 2
      have e := dig_get W V m j hj
      rw [List.getElem?_eq_getElem (by rw [dig_length]; exact hj)] at e
      rw [Option.some.inj e]
    have hV' := Lib.hid hV
    clear h hV hcell
    go_enter Tryz.func122, Tryz.ntmps122
    go_wp2
    go_loop [3] (fun i => ∃ k : Nat, i = .int .i64 k ∧ k ≤ m ∧ Hid (V < W ^ k)) (fun i => (intOf i).toNat)
    case atStart => exact ⟨m, rfl, Nat.le_refl _, hV'⟩
    case round =>
      obtain ⟨k, rfl, hk, hVk⟩ := hrel
      have hpre : V < W ^ k → (0 < k → W ^ (k - 1) ≤ V) → IsNat w B (.slice (some ⟨g, 0, none⟩) k cap) V := fun h1 h2 => by
        have hlen := len_eq W_two h1 h2
        unfold IsNat words
        rw [hlen]
        have := OwnW.prefix_ (w := w) (B := B) (g := g) (cap := cap) (l := dig W V m) (by rw [dig_length]; exact h'.out) k (by rw [dig_length]; exact hk)
        rw [dig_take _ _ _ _ hk] at this
        exact this
      have hpre' := Lib.hid hpre
      clear hpre
      cases k with
      | zero =>
        have hfin := Lib.hid (hpre'.out hVk.out (fun h => by omega))
        go_wp2
        go_ret
        exact ⟨⟨_, rfl, hfin.out⟩, rfl⟩
      | succ j =>
        have hcj := hcell'.out j (by omega)
        obtain ⟨D, hD⟩ : ∃ D, V / W ^ j % W = D := ⟨_, rfl⟩
        rw [hD] at hcj
        have hD' := Lib.hid hD
        clear hD
        by_cases h0 : D = 0
        · have hb : ((D : Int) == 0) = true := by simp; omega
          have hn := Lib.hid (top_zero W_pos hVk.out (hD'.out.trans h0))
          clear h0
          go_wp2
          go_round
          case rel => exact ⟨j, by go_num, by omega, hn⟩
          case measure => simp [intOf]
        · have hb : ((D : Int) == 0) = false := by simp; omega
          have hfin := Lib.hid (hpre'.out hVk.out (fun _ => by rw [Nat.add_sub_cancel]; exact top_some W_pos (by rw [hD'.out]; exact h0)))
          clear h0
          go_wp2
          go_ret
          exact ⟨⟨_, rfl, hfin.out⟩, rfl⟩
end Go.Proofs.YtafbheamnjmfoaaGreat.Nat_

namespace Go.Proofs.YtafbheamnjmfoaaGreat.Nat_
open Go.RowKit Go.WideShapes Go.Proofs.YtafbheamnjmfoaaGreat.Own Go.Proofs.YtafbheamnjmfoaaGreat.Num
set_option linter.unusedVariables false

theorem info_word : (Tryz.prog.info? 189).map (fun i => (i.zero, i.size, i.bytes)) = some (some (.int .u64 0), 1, 8) := by kernel_rfl
theorem dig_nil (n : Nat) : dig W 0 n = List.replicate n 0 := by
  apply List.ext_getElem?
  intro j
  by_cases h : j < n
  · rw [dig_get _ _ _ _ h, List.getElem?_replicate, if_pos h]; simp
  · rw [List.getElem?_eq_none (by rw [dig_length]; omega), List.getElem?_eq_none (by simp; omega)]
theorem zeros_cells (c : Nat) : madeCells (Value.cells (.int .u64 0)) c = (ws (List.replicate c 0)).toArray := by
  apply Array.ext'
  simp [madeCells, ws, Value.cells, Array.toList_range]
  apply List.ext_getElem?
  intro j
  by_cases h : j < c
  · simp [h, Nat.mod_one]
  · rw [List.getElem?_eq_none (by simp; omega), List.getElem?_eq_none (by simp; omega)]
theorem run_new (n c : Nat) (hnc : n ≤ c) (hc : c ≤ 1000000) (w : World) (l : Int) (hl : l = n) (cc : Int) (hcc : cc = c) :
    (Instr.makeSlice 145 (.int .i64 l) (.int .i64 cc)).run Tryz.prog w = .ok (.slice (some ⟨w.heap.size, 0, none⟩) n c) (w.alloc (.cells (ws (List.replicate c 0)).toArray 189)) := by
  obtain ⟨i0, hi, hz0, hz1, hz2⟩ := info_parts info_word
  subst hl hcc
  have := run_make (P := Tryz.prog) (w := w) 145 189 i0 (.int .u64 0) Tryz.underlying145 hi hz0 .i64 .i64 (n : Int) (c : Int) (by omega) (by omega) (by rw [hz2]; omega) (by omega)
  rw [hz1, Nat.mul_one] at this
  simp only [Int.toNat_natCast] at this
  rw [zeros_cells] at this
  exact this
theorem own_new (n c B : Nat) (hnc : n ≤ c) (hc : c ≤ 1000000) (w : World) (hB : B ≤ w.heap.size) : OwnW (w.alloc (.cells (ws (List.replicate c 0)).toArray 189)) B (.slice (some ⟨w.heap.size, 0, none⟩) n c) (dig W 0 n) := by
  unfold OwnW
  rw [dig_length, dig_nil]
  refine ⟨by simp [ws], .inr ⟨w.heap.size, c, _, rfl, hB, heap_alloc_new w _, hnc, by unfold maxLen; omega, by simp [ws], ?_⟩⟩
  simp [ws, List.take_replicate]
  omega

set_option maxRecDepth 100000 in
/-- a new row of n zeros, n from 2 on -/
theorem make_any (n : Nat) (hn : n ≤ 10000) (w : World) :
    Calls Tryz.prog 120 #[.slice none 0 0, .int .i64 n] w fun e w' => (∃ v, e = .returned v ∧ OwnW w' w.heap.size v (dig W 0 n)) ∧ Below w.heap.size w w' := by
  rcases Nat.lt_trichotomy n 1 with h | h | h
  · obtain rfl : n = 0 := by omega
    go_enter Tryz.func120, Tryz.ntmps120
    go_wp2
    go_ret
    exact ⟨⟨_, rfl, World.ownsRow_nil _ _ _ _⟩, Below.refl _ _⟩
  · subst h
    have hr := fun W => run_new 1 1 (by omega) (by omega) W 1 rfl 1 rfl
    go_enter Tryz.func120, Tryz.ntmps120
    go_wp2
    go_ret
    exact ⟨⟨_, rfl, own_new 1 1 _ (by omega) (by omega) w (Nat.le_refl _)⟩, (Below.refl _ _).alloc (Nat.le_refl _) _⟩
  · have hr := fun W => run_new n (n + 4) (by omega) (by omega) W n rfl (n + 4) (by omega)
    have hb : ((n : Int) == 1) = false := by simp; omega
    go_enter Tryz.func120, Tryz.ntmps120
    go_wp2
    go_ret
    exact ⟨⟨_, rfl, own_new n (n + 4) _ (by omega) (by omega) w (Nat.le_refl _)⟩, (Below.refl _ _).alloc (Nat.le_refl _) _⟩
end Go.Proofs.YtafbheamnjmfoaaGreat.Nat_
