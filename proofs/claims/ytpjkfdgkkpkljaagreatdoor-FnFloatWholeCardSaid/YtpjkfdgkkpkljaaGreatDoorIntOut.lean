/-
  The bytes of the package's integer.
-/
import Derived.Test.YtpjkfdgkkpkljaaGreatDoorNatOut
import Derived.Test.YtpjkfdgkkpkljaaGreatDoorNewInt
import Derived.Test.YtpjkfdgkkpkljaaGreatDoorNatMake
namespace Go.Proofs.YtpjkfdgkkpkljaaGreatDoor.Big
open Go.RowKit Go.WideShapes Go.Proofs.YtpjkfdgkkpkljaaGreatDoor.Own Go.Proofs.YtpjkfdgkkpkljaaGreatDoor.Num Go.Proofs.YtpjkfdgkkpkljaaGreatDoor.Ref Go.Proofs.YtpjkfdgkkpkljaaGreatDoor.Nat_
set_option linter.unusedVariables false

theorem info_u8 : (Tryz.prog.info? 5).map (fun i => (i.zero, i.size, i.bytes)) = some (some (.int .u8 0), 1, 1) := by kernel_rfl
theorem zeros_u8 (c : Nat) : madeCells (Value.cells (.int .u8 0)) c = (bs (rev8 0 c)).toArray := by
  rw [rev8_zero]
  apply Array.ext'
  simp [madeCells, bs, Value.cells, Array.toList_range]
  apply List.ext_getElem?
  intro j
  by_cases h : j < c
  · simp [h, Nat.mod_one]
  · rw [List.getElem?_eq_none (by simp; omega), List.getElem?_eq_none (by simp; omega)]
theorem run_new8 (n : Nat) (hc : n ≤ 1000000) (w : World) (l : Int) (hl : l = n) :
    (Instr.makeSlice 22 (.int .i64 l) (.int .i64 l)).run Tryz.prog w = .ok (.slice (some ⟨w.heap.size, 0, none⟩) n n) (w.alloc (.cells (bs (rev8 0 n)).toArray 5)) := by
  obtain ⟨i0, hi, hz0, hz1, hz2⟩ := info_parts info_u8
  subst hl
  have := run_make (P := Tryz.prog) (w := w) 22 5 i0 (.int .u8 0) Tryz.underlying22 hi hz0 .i64 .i64 (n : Int) (n : Int) (by omega) (by omega) (by rw [hz2]; omega) (by omega)
  rw [hz1, Nat.mul_one] at this
  simp only [Int.toNat_natCast] at this
  rw [zeros_u8] at this
  exact this
theorem own_new8 (n B : Nat) (hc : n ≤ 1000000) (w : World) (hB : B ≤ w.heap.size) : (w.alloc (.cells (bs (rev8 0 n)).toArray 5)).ownsRow B 5 1 (.slice (some ⟨w.heap.size, 0, none⟩) n n) n (bs (rev8 0 n)) := by
  refine ⟨by simp [bs, rev8_length], .inr ⟨w.heap.size, n, _, rfl, hB, heap_alloc_new w _, Nat.le_refl _, by unfold maxLen; omega, by simp [bs, rev8_length], ?_⟩⟩
  rw [List.take_of_length_le (by simp [bs, rev8_length])]

/-- a slice that reads as these bytes -/
def RdS (w : World) (B : Nat) (v : Value) (l : List UInt8) : Prop := ∃ a cap, v = .slice a l.length cap ∧ Rd w a l ∧ l.length ≤ cap ∧ (a = none → cap = 0) ∧ ∀ x, a = some x → B ≤ x.block ∧ ∃ cs fz, w.heap[x.block]? = some (.cells cs 5 fz)
theorem RdS.later {w w' : World} {B : Nat} {v : Value} {l : List UInt8} (h : RdS w B v l) (hb : Below w.heap.size w w') : RdS w' B v l := by
  obtain ⟨a, c, h1, h2, h3, h4, h5⟩ := h
  refine ⟨a, c, h1, h2.later hb, h3, h4, fun x hx => ⟨(h5 x hx).1, ?_⟩⟩
  obtain ⟨cs, fz, hc⟩ := (h5 x hx).2
  exact ⟨cs, fz, (hb.block _ (Array.getElem?_eq_some_iff.1 hc).1).trans hc⟩

theorem rd_drop {w : World} {B g N c : Nat} {l : List UInt8} (h : w.ownsRow B 5 1 (.slice (some ⟨g, 0, none⟩) N c) N (bs l)) (hl : l.length = N) (hg : g < w.heap.size) (i : Nat) (hi : i ≤ N) : Rd w (some ⟨g, i, none⟩) (l.drop i) := by
  refine .inr ⟨_, rfl, fun _ => hg, fun j hj => ?_⟩
  rw [List.length_drop] at hj
  have hc := World.ownsRow.cellAt h (i + j) (by omega)
  have hb : (bs l)[i + j]? = some (.int .u8 (l[i + j].toNat : Int)) := by unfold bs; rw [List.getElem?_map, List.getElem?_eq_getElem (by omega)]; rfl
  rw [hb] at hc
  rw [List.getElem_drop, ← hc]
  congr 1
  unfold Addr.add
  by_cases h0 : j = 0 <;> simp [h0]

set_option maxHeartbeats 1000000 in
set_option maxRecDepth 100000 in
theorem ibytes_any (g : Nat) (neg : Bool) (V : Nat) (w : World) (h : BigAt w g neg V) (hm : len W V ≤ 10000) :
    Calls Tryz.prog 48 #[.pointer (some ⟨g, 0, none⟩)] w fun e w' => (∃ v, e = .returned v ∧ RdS w' w.heap.size v (mag V)) ∧ Below w.heap.size w w' := by
  obtain ⟨v, B, hk, hn, hp⟩ := h
  obtain ⟨N, hN⟩ : ∃ N, 8 * len W V = N := ⟨_, rfl⟩
  have hVN : V < 256 ^ N := by
    have := len_lt W_two V
    rw [W_pow] at this
    rwa [← hN]
  have hrun := Lib.hid (run_new8 N (by omega) w ((len W V : Int) * 8) (by omega))
  have hal : (w.alloc (.cells (bs (rev8 0 N)).toArray 5)).ownsRow w.heap.size 5 1 (.slice (some ⟨w.heap.size, 0, none⟩) N N) N (bs (rev8 0 N)) := own_new8 N _ (by omega) w (Nat.le_refl _)
  have hbn := nbytes_any v V B w.heap.size N w (w.alloc (.cells (bs (rev8 0 N)).toArray 5)) hn hm (below_one _ (Nat.le_refl _)) (Nat.le_refl _)
  rw [hN] at hbn
  have hbn' := Lib.hid (hbn hal)
  obtain ⟨a, c, rfl, hc, hr⟩ := hn.slice
  have k1 := (hk.later (below_one (.cells (bs (rev8 0 N)).toArray 5) (Nat.le_refl _))).cell 1
  have k1' := hk.cell 1
  simp at k1 k1'
  have hN' : ((len W V : Nat) : Int) * 8 = N := by omega
  obtain ⟨m, hmm⟩ : ∃ m, len W V = m := ⟨_, rfl⟩
  rw [hmm] at hc hm hN' hrun hbn' k1 k1'
  rw [hN'] at hrun
  have hrun' := hrun.out
  have hle : N - len 256 V ≤ N := Nat.sub_le _ _
  obtain ⟨I, hI⟩ : ∃ I, N - len 256 V = I := ⟨_, rfl⟩
  rw [hI] at hle hbn'
  have hfin := Lib.hid (show ∀ w2 : World, w2.ownsRow w.heap.size 5 1 (.slice (some ⟨w.heap.size, 0, none⟩) N N) N (bs (rev8 V N)) → w.heap.size < w2.heap.size → Rd w2 (some ⟨w.heap.size, I, none⟩) (mag V) ∧ (mag V).length = N - I ∧ ∃ cs fz, w2.heap[w.heap.size]? = some (.cells cs 5 fz) from fun w2 h2 hs => by
    have h3 := rd_drop h2 (rev8_length _ _) hs I hle
    rw [← hI, rev8_drop V N hVN, hI] at h3
    refine ⟨h3, ?_, ?_⟩
    · rw [← rev8_drop V N hVN, List.length_drop, rev8_length, hI]
    · rcases h2.2 with ⟨h, _⟩ | ⟨g', c', cells, h, _, hh, _⟩
      · cases h
      · cases h; exact ⟨_, _, hh⟩)
  clear hrun hbn hal hn hr hVN hN hI
  go_enter Tryz.func48, Tryz.ntmps48
  go_wp2_with fail
  refine hbn'.out.mono ?_
  rintro e w2 ⟨⟨rfl, ho⟩, hb2⟩
  have hsz := hb2.size
  have hlt : w.heap.size < w2.heap.size := by
    rcases ho.2 with ⟨h, _⟩ | ⟨g', c', cells, h, _, hh, _⟩
    · cases h
    · cases h; exact (Array.getElem?_eq_some_iff.mp hh).1
  have hf2 := Lib.hid (hfin.out w2 ho hlt)
  have hb2' := Lib.hid hb2
  clear ho hb2
  go_wp2
  · go_ret
    subst h
    have h0 : mag V = [] := List.eq_nil_of_length_eq_zero (by rw [hf2.out.2.1, Nat.sub_self])
    exact ⟨⟨_, rfl, _, _, by rw [h0]; rfl, .inr ⟨_, rfl, by rw [h0]; simp, by rw [h0]; simp⟩, by rw [h0]; simp, (fun h => by cases h), fun x hx => by cases hx; exact ⟨Nat.le_refl _, hf2.out.2.2⟩⟩, hb2'.out⟩
  · go_ret
    exact ⟨⟨_, rfl, some ⟨w.heap.size, I, none⟩, N - I, by rw [hf2.out.2.1]; rfl, hf2.out.1, Nat.le_of_eq hf2.out.2.1, (fun h => by cases h), fun x hx => by cases hx; exact ⟨Nat.le_refl _, hf2.out.2.2⟩⟩, hb2'.out⟩
end Go.Proofs.YtpjkfdgkkpkljaaGreatDoor.Big
