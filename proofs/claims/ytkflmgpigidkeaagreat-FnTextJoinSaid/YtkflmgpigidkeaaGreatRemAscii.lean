/-
  A text whose bytes are below 128: what comes of it is a text of at most 60 bytes.
-/
import Derived.Test.YtkflmgpigidkeaaGreatRemSpec
import Derived.Laws.IdiomStrings
import Derived.Lib.ConvBytes
namespace Go.Proofs.YtkflmgpigidkeaaGreat.Rem
open Go.RowKit Go.WideShapes
set_option linter.unusedVariables false

/-- block g begins with these bytes, none of them frozen -/
def Rw (w : World) (g : Nat) (l : List UInt8) : Prop := g < w.heap.size ∧ (∀ j (hj : j < l.length), w.cell? ⟨g, j, none⟩ = some (.int .u8 (l[j].toNat : Int))) ∧ ∀ j, j < l.length → w.frozen? ⟨g, j, none⟩ = false
theorem Rw.put {w : World} {g : Nat} {l : List UInt8} (h : Rw w g l) (i : Nat) (hi : i < l.length) (d : UInt8) : Rw (w.setCell ⟨g, i, none⟩ (.int .u8 (d.toNat : Int))) g (l.set i d) := by
  obtain ⟨h1, h2, h3⟩ := h
  refine ⟨by simpa using h1, fun j hj => ?_, fun j hj => ?_⟩
  · rw [List.length_set] at hj
    by_cases e : i = j
    · subst e
      rw [World.cell?_setCell_same _ _ _ (h2 i hi)]
      simp
    · rw [World.cell?_setCell_other _ _ _ _ (fun hh => e (congrArg Addr.off hh)), h2 j hj]
      simp [e]
  · rw [List.length_set] at hj
    simpa using h3 j hj
theorem u8_and (c : UInt8) : ∃ d : UInt8, bits BinOp.and IntKind.u8 (c.toNat : Int) 127 = (d.toNat : Int) := by
  refine ⟨UInt8.ofNat (bits BinOp.and IntKind.u8 (c.toNat : Int) 127).toNat, ?_⟩
  have h : bits BinOp.and IntKind.u8 (c.toNat : Int) 127 = IntKind.u8.wrap _ := rfl
  have h1 : 0 ≤ bits BinOp.and IntKind.u8 (c.toNat : Int) 127 ∧ bits BinOp.and IntKind.u8 (c.toNat : Int) 127 < 256 := by
    rw [h, IntKind.wrap_u8]; omega
  simp
  omega

/-- some text of at most 60 bytes -/
def SomeText (w : World) (e : Ending) (w' : World) : Prop := ∃ t : ByteArray, e = .returned (.string t) ∧ t.size ≤ 60 ∧ Below w.heap.size w w'

theorem rw_made (w : World) (t : ByteArray) : Rw (w.drew.alloc (.cells (bytesRow t (grownCap w t.size 0 5)) 5 ((bytesRow t (grownCap w t.size 0 5)).size, (bytesRow t (grownCap w t.size 0 5)).size + 1))) w.heap.size t.data.toList := by
  have hsz : ∀ j, j < t.data.toList.length → j < (bytesRow t (grownCap w t.size 0 5)).size := fun j hj => by
    have h0 := bytesRow_at t (grownCap w t.size 0 5) j (by simpa using hj)
    exact (Array.getElem?_eq_some_iff.1 h0).1
  generalize hC : bytesRow t (grownCap w t.size 0 5) = C at hsz ⊢
  have h0 : (w.drew.alloc (.cells C 5 (C.size, C.size + 1))).heap[w.heap.size]? = some (.cells C 5 (C.size, C.size + 1)) := heap_alloc_new w.drew _
  refine ⟨by simp, fun j hj => ?_, fun j hj => ?_⟩
  · rw [cell_of_row _ _ j C _ _ h0, ← hC, bytesRow_at t _ j (by simpa using hj)]
    simp
  · have := hsz j hj
    simp only [World.frozen?, h0]
    simp
    omega

theorem conv_back {w : World} {g cap : Nat} {l : List UInt8} (h : Rw w g l) : (convert 23 9 (.slice (some ⟨g, 0, none⟩) l.length cap)).run Tryz.prog w = .ok (.string ⟨l.toArray⟩) w :=
  run_convert_bytes_back w 23 9 5 _ cap l Tryz.underlying23 Tryz.underlying5 Tryz.underlying9 fun j hj => by
    rw [show ((⟨g, 0, none⟩ : Addr).add j) = ⟨g, j, none⟩ by unfold Addr.add; split <;> simp_all]
    exact h.2.1 j hj

set_option maxHeartbeats 1000000 in
set_option maxRecDepth 100000 in
theorem ascii_any (s : ByteArray) (w : World) (hs : s.size ≤ 2147483647) : Calls Tryz.prog 8 #[.string s] w (SomeText w) := by
  have hcv : ∀ t : ByteArray, (convert 9 23 (.string t)).run Tryz.prog w = _ := fun t => run_bytes_of_string w 9 23 5 t Tryz.underlying9 Tryz.underlying23 Tryz.underlying5
  by_cases h60 : s.size ≤ 60
  · skip
    obtain ⟨n, hn⟩ : ∃ n, s.size = n := ⟨_, rfl⟩
    rw [hn] at h60
    have hT : (s.extract 0 n).size = n := by simp; omega
    have hconv := hcv (s.extract 0 n)
    have hrw := rw_made w (s.extract 0 n)
    have hB : Below w.heap.size w (w.drew.alloc (.cells (bytesRow (s.extract 0 n) (grownCap w (s.extract 0 n).size 0 5)) 5 ((bytesRow (s.extract 0 n) (grownCap w (s.extract 0 n).size 0 5)).size, (bytesRow (s.extract 0 n) (grownCap w (s.extract 0 n).size 0 5)).size + 1))) := (Below.drew (Below.refl _ _)).alloc (Nat.le_refl _) _
    generalize (w.drew.alloc (.cells (bytesRow (s.extract 0 n) (grownCap w (s.extract 0 n).size 0 5)) 5 ((bytesRow (s.extract 0 n) (grownCap w (s.extract 0 n).size 0 5)).size, (bytesRow (s.extract 0 n) (grownCap w (s.extract 0 n).size 0 5)).size + 1))) = W2 at hconv hrw hB
    generalize grownCap w (s.extract 0 n).size 0 5 = cap at hconv
    obtain ⟨l, hl⟩ : ∃ l, (s.extract 0 n).data.toList = l := ⟨_, rfl⟩
    have hll : l.length = (s.extract 0 n).size := by rw [← hl]; simp
    rw [hl] at hrw
    rw [hT] at hll hconv
    have hrw' := Lib.hid hrw
    have hB' := Lib.hid hB
    have hll' := Lib.hid hll
    clear hrw hB hll hl hT hcv
    go_enter Tryz.func8, Tryz.ntmps8
    go_wp2
    go_loopw [13] (fun i wr => ∃ (k : Nat) (l : List UInt8), i = .int .i64 k ∧ k ≤ n ∧ Hid (l.length = n ∧ Rw wr w.heap.size l ∧ Below w.heap.size w wr)) (fun i _ => n - (intOf i).toNat)
    case atStart => exact ⟨0, l, rfl, Nat.zero_le _, Lib.hid ⟨hll'.out, hrw'.out, hB'.out⟩⟩
    case round =>
      clear hrw' hB' hll'
      obtain ⟨k, l, rfl, hk, hR⟩ := hrel
      by_cases hlt : k < n
      · obtain ⟨hll, hRw, hBw⟩ := hR.out
        have c0 := hRw.2.1 k (by omega)
        have f0 := hRw.2.2 k (by omega)
        have g0 := hRw.1
        obtain ⟨c, hc⟩ : ∃ c, l[k]'(by omega) = c := ⟨_, rfl⟩
        rw [hc] at c0
        obtain ⟨d, hd⟩ := u8_and c
        have hfin := Lib.hid (show (l.set k d).length = n ∧ Rw (wr.setCell ⟨w.heap.size, k, none⟩ (.int .u8 (d.toNat : Int))) w.heap.size (l.set k d) ∧ Below w.heap.size w (wr.setCell ⟨w.heap.size, k, none⟩ (.int .u8 (d.toNat : Int))) from
          ⟨by rw [List.length_set]; exact hll, hRw.put k (by omega) d, hBw.setCell (p := ⟨w.heap.size, k, none⟩) (Nat.le_refl _) _⟩)
        clear hR hRw hBw hc hll hconv
        go_wp2
        go_roundw
        case rel => exact ⟨k + 1, _, by go_num, by omega, hfin⟩
        case measure => simp [intOf]; omega
      · obtain ⟨hll, hRw, hBw⟩ := hR.out
        have hback : (convert 23 9 (.slice (some ⟨w.heap.size, 0, none⟩) n cap)).run Tryz.prog wr = .ok (.string ⟨l.toArray⟩) wr := hll ▸ conv_back hRw
        have hfin := Lib.hid (show (⟨l.toArray⟩ : ByteArray).size ≤ 60 ∧ Below w.heap.size w wr from ⟨by show l.toArray.size ≤ 60; simp; omega, hBw⟩)
        clear hR hRw hBw hll hconv
        go_wp2
        go_ret
        exact ⟨_, rfl, hfin.out.1, hfin.out.2⟩
  · skip
    have hT : (s.extract 0 60).size = 60 := by simp; omega
    have hconv := hcv (s.extract 0 60)
    have hrw := rw_made w (s.extract 0 60)
    have hB : Below w.heap.size w (w.drew.alloc (.cells (bytesRow (s.extract 0 60) (grownCap w (s.extract 0 60).size 0 5)) 5 ((bytesRow (s.extract 0 60) (grownCap w (s.extract 0 60).size 0 5)).size, (bytesRow (s.extract 0 60) (grownCap w (s.extract 0 60).size 0 5)).size + 1))) := (Below.drew (Below.refl _ _)).alloc (Nat.le_refl _) _
    generalize (w.drew.alloc (.cells (bytesRow (s.extract 0 60) (grownCap w (s.extract 0 60).size 0 5)) 5 ((bytesRow (s.extract 0 60) (grownCap w (s.extract 0 60).size 0 5)).size, (bytesRow (s.extract 0 60) (grownCap w (s.extract 0 60).size 0 5)).size + 1))) = W2 at hconv hrw hB
    generalize grownCap w (s.extract 0 60).size 0 5 = cap at hconv
    obtain ⟨l, hl⟩ : ∃ l, (s.extract 0 60).data.toList = l := ⟨_, rfl⟩
    have hll : l.length = (s.extract 0 60).size := by rw [← hl]; simp
    rw [hl] at hrw
    rw [hT] at hll hconv
    have hrw' := Lib.hid hrw
    have hB' := Lib.hid hB
    have hll' := Lib.hid hll
    clear hrw hB hll hl hT hcv
    go_enter Tryz.func8, Tryz.ntmps8
    go_wp2
    go_loopw [13] (fun i wr => ∃ (k : Nat) (l : List UInt8), i = .int .i64 k ∧ k ≤ 60 ∧ Hid (l.length = 60 ∧ Rw wr w.heap.size l ∧ Below w.heap.size w wr)) (fun i _ => 60 - (intOf i).toNat)
    case atStart => exact ⟨0, l, rfl, Nat.zero_le _, Lib.hid ⟨hll'.out, hrw'.out, hB'.out⟩⟩
    case round =>
      clear hrw' hB' hll'
      obtain ⟨k, l, rfl, hk, hR⟩ := hrel
      by_cases hlt : k < 60
      · obtain ⟨hll, hRw, hBw⟩ := hR.out
        have c0 := hRw.2.1 k (by omega)
        have f0 := hRw.2.2 k (by omega)
        have g0 := hRw.1
        obtain ⟨c, hc⟩ : ∃ c, l[k]'(by omega) = c := ⟨_, rfl⟩
        rw [hc] at c0
        obtain ⟨d, hd⟩ := u8_and c
        have hfin := Lib.hid (show (l.set k d).length = 60 ∧ Rw (wr.setCell ⟨w.heap.size, k, none⟩ (.int .u8 (d.toNat : Int))) w.heap.size (l.set k d) ∧ Below w.heap.size w (wr.setCell ⟨w.heap.size, k, none⟩ (.int .u8 (d.toNat : Int))) from
          ⟨by rw [List.length_set]; exact hll, hRw.put k (by omega) d, hBw.setCell (p := ⟨w.heap.size, k, none⟩) (Nat.le_refl _) _⟩)
        clear hR hRw hBw hc hll hconv
        go_wp2
        go_roundw
        case rel => exact ⟨k + 1, _, by go_num, by omega, hfin⟩
        case measure => simp [intOf]; omega
      · obtain ⟨hll, hRw, hBw⟩ := hR.out
        have hback : (convert 23 9 (.slice (some ⟨w.heap.size, 0, none⟩) 60 cap)).run Tryz.prog wr = .ok (.string ⟨l.toArray⟩) wr := hll ▸ conv_back hRw
        have hfin := Lib.hid (show (⟨l.toArray⟩ : ByteArray).size ≤ 60 ∧ Below w.heap.size w wr from ⟨by show l.toArray.size ≤ 60; simp; omega, hBw⟩)
        clear hR hRw hBw hll hconv
        go_wp2
        go_ret
        exact ⟨_, rfl, hfin.out.1, hfin.out.2⟩
end Go.Proofs.YtkflmgpigidkeaaGreat.Rem
