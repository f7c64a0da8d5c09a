/-
  strings.Builder at this translation: copyCheck, WriteString, String; and that a builder is kept by a store elsewhere.
-/
import Derived.Test.YtkflmgpigidkeaaGreatRemSpec
import Derived.Shelf.Strings.BuilderK
namespace Go.Proofs.YtkflmgpigidkeaaGreat.Rem
open Go.RowKit Go.WideShapes Go.Shelf
set_option linter.unusedVariables false

theorem bu_size : (Tryz.prog.info? 207).map (·.size) = some 2 := by kernel_rfl
theorem bu_info : (Tryz.prog.info? 5).map (fun i => (i.zero, i.size, i.bytes)) = some (some (.int .u8 0), 1, 1) := by kernel_rfl
set_option maxHeartbeats 1000000 in
set_option maxRecDepth 100000 in
theorem check_fresh (b : Nat) (w : World) (h0 : w.cell? ⟨b, 0, none⟩ = some (.pointer none)) (hsh : w.shape? b = some (207, 2)) (hfz : w.frozen? ⟨b, 0, none⟩ = false) :
    Calls Tryz.prog 166 #[.pointer (some ⟨b, 0, none⟩)] w fun e w' => e = .returned (.tuple #[]) ∧ w' = w.setCell ⟨b, 0, none⟩ (.pointer (some ⟨b, 0, none⟩)) := by
  obtain ⟨j, hj, hjs⟩ := Option.map_eq_some_iff.1 bu_size
  go_enter Tryz.func166, Tryz.ntmps166
  go_wp2
  rw [Lib.run_to_unsafe w ⟨b, 0, none⟩ Tryz.underlying205 Tryz.underlying281 hj (by rw [hjs]; decide) hsh (Nat.zero_lt_succ 1)]
  simp only [Result.andThen]
  rw [Oper.upon_value]
  go_wp2
  rw [run_callFunc_extern Tryz.func185 (by kernel_rfl) (by kernel_rfl) (by kernel_rfl) (e := Extern.AbiNoEscape.same) (by kernel_rfl)]
  rw [Lib.run_noEscape]
  simp only [Result.andThen]
  rw [Oper.upon_value]
  go_wp2
  rw [Lib.run_from_unsafe w ⟨b, 0, none⟩ Tryz.underlying281 Tryz.underlying205 hj hsh (by kernel_rfl)]
  simp only [Result.andThen]
  rw [Oper.upon_value]
  go_wp2
  go_end0
  exact ⟨rfl, rfl⟩
set_option maxHeartbeats 1000000 in
set_option maxRecDepth 100000 in
theorem check_used (b : Nat) (w : World) (h0 : w.cell? ⟨b, 0, none⟩ = some (.pointer (some ⟨b, 0, none⟩))) :
    Calls Tryz.prog 166 #[.pointer (some ⟨b, 0, none⟩)] w fun e w' => e = .returned (.tuple #[]) ∧ w' = w := by
  obtain ⟨j, hj, _⟩ := Option.map_eq_some_iff.1 bu_size
  go_enter Tryz.func166, Tryz.ntmps166
  go_wp2
  rw [Lib.run_neq_ptr_same w _ Tryz.underlying205 hj]
  go_wp2
  go_end0
  exact ⟨rfl, rfl⟩
/-- a builder that holds these bytes, in blocks from B on -/
abbrev IsBu (B b : Nat) (l : List UInt8) (w : World) : Prop := Lib.IsBuilderF 207 5 B b (Lib.byteCells l) w
theorem check_any (B b : Nat) (bs : List Value) (w : World) (h : Lib.IsBuilderF 207 5 B b bs w) :
    Calls Tryz.prog 166 #[.pointer (some ⟨b, 0, none⟩)] w fun e w' => e = .returned (.tuple #[]) ∧ (Lib.BuilderAtF 207 5 B b (.pointer (some ⟨b, 0, none⟩)) bs w' ∧ Below B w w' ∧ Lib.OthersKept 5 (some b) w w') := by
  rcases h with h | h
  · refine (check_fresh b w h.cell0 h.shape h.frozen0).mono ?_
    rintro e w' ⟨rfl, rfl⟩
    exact ⟨rfl, h.used _, (Below.refl B w).setCell (p := ⟨b, 0, none⟩) h.1 _, (Lib.OthersKept.refl _ _ w).setCell ⟨b, 0, none⟩ rfl _⟩
  · refine (check_used b w h.cell0).mono ?_
    rintro e w' ⟨rfl, rfl⟩
    exact ⟨rfl, h, Below.refl B _, Lib.OthersKept.refl _ _ _⟩
set_option maxHeartbeats 2000000 in
set_option maxRecDepth 100000 in
theorem wstr_any (B b : Nat) (l : List UInt8) (s : ByteArray) (w : World) (h : IsBu B b l w) (hlen : l.length + s.size ≤ 1000000) (hBw : B ≤ w.heap.size) :
    Calls Tryz.prog 139 #[.pointer (some ⟨b, 0, none⟩), .string s] w fun e w' => e = .returned (.tuple #[.int .i64 s.size, .nilIface]) ∧ IsBu B b (l ++ s.data.toList) w' ∧ Below B w w' ∧ Lib.OthersKept 5 (some b) w w' := by
  obtain ⟨i0, hi, hz0, hz1, hz2⟩ := info_parts bu_info
  have hbl : (Lib.byteCells l).length = l.length := by simp [Lib.byteCells]
  have hck := Lib.hid fun w h => check_any B b (Lib.byteCells l) w h
  have h' := Lib.hid h
  have hbl' := Lib.hid hbl
  clear h hbl
  go_enter Tryz.func139, Tryz.ntmps139
  go_wp2_with fail
  refine (hck.out _ h'.out).mono ?_
  rintro e w1 ⟨rfl, h1, hb1, hk1⟩
  obtain ⟨hB, v, hbk, hown, hne⟩ := h1
  have c0 : w1.cell? ⟨b, 0, none⟩ = some (.pointer (some ⟨b, 0, none⟩)) := by rw [Lib.cell_of_heap hbk]; rfl
  have c1 : w1.cell? ⟨b, 1, none⟩ = some v := by rw [Lib.cell_of_heap hbk]; rfl
  go_wp2_with (at_builtin; refine Lib.wpList_append_own_stringF _ rfl _ _ 23 9 rfl B 5 i0 Tryz.underlying23 Tryz.underlying9 hi hz0 hz1 hz2 _ _ _ rfl hown s rfl ?c3 ?c4 ?c5 ?_)
  case c3 => have := hbl'.out; unfold maxLen; omega
  case c4 => have := hbl'.out; omega
  case c5 => have := hb1.size; omega
  intro v' w2 hown' hgrow _
  have hlt : b < w1.heap.size := by
    rcases Nat.lt_or_ge b w1.heap.size with h' | h'
    · exact h'
    · simp [Array.getElem?_eq_none h'] at hbk
  have hb2 : w2.heap[b]? = some (.cells #[.pointer (some ⟨b, 0, none⟩), v] 207 (0, 0)) := by
    rw [hgrow.block b hlt (fun e => hne e.symm)]
    exact hbk
  have d0 : w2.cell? ⟨b, 0, none⟩ = some (.pointer (some ⟨b, 0, none⟩)) := by rw [Lib.cell_of_heap hb2]; rfl
  have d1 : w2.cell? ⟨b, 1, none⟩ = some v := by rw [Lib.cell_of_heap hb2]; rfl
  have f1 : w2.frozen? ⟨b, 1, none⟩ = false := Lib.frozen_of_heap hb2 1
  obtain ⟨ao, n', cap, rfl⟩ : ∃ ao n' cap, v' = .slice ao n' cap := by
    rcases hown'.2 with ⟨hv, _⟩ | ⟨g, cap, cur, fz, hv, _⟩
    · exact ⟨_, _, _, hv⟩
    · exact ⟨_, _, _, hv⟩
  have hes : Lib.byteCells (l ++ s.data.toList) = Lib.byteCells l ++ Lib.strCells s := by simp [Lib.byteCells, Lib.strCells]
  have hes' := Lib.hid hes
  clear hes
  go_wp2
  go_ret2
  refine ⟨rfl, ?_, ?_, (hk1.grown hgrow (Lib.ownsRowF_kind hown)).setCell ⟨b, 1, none⟩ rfl _⟩
  · unfold IsBu
    rw [hes'.out]
    exact .inr (Lib.BuilderAtF.put (T := 207) (e := 5) hB hb2 (bs' := Lib.byteCells l ++ Lib.strCells s) (by simpa [Lib.strCells_length] using hown') (by decide))
  · exact (hb1.grown hgrow (by have := hb1.size; omega) (fun k hk => (hown.lt k hk).1)).setCell (p := ⟨b, 1, none⟩) hB _
theorem bu_made (w : World) : IsBu w.heap.size w.heap.size [] (w.alloc (.cells #[.pointer none, .slice none 0 0] 207)) :=
  .inl ⟨Nat.le_refl _, _, heap_alloc_new w _, World.ownsRowF_nil _ _ _ _, by simp [Value.ownBlock]⟩
/-- a store into a block of another type keeps the builder -/
theorem bu_apart {B b x i : Nat} {l : List UInt8} {t : TypeId} {cs : Array Value} {w : World} (h : IsBu B b l w) (hx : Holds w x t cs) (ht : t ≠ 5) (hb : t ≠ 207) (u : Value) : IsBu B b l (w.setCell ⟨x, i, none⟩ u) := by
  have hx' : w.heap[x]? = some (.cells cs t (0, 0)) := hx
  have key : ∀ p, Lib.BuilderAtF 207 5 B b p (Lib.byteCells l) w → Lib.BuilderAtF 207 5 B b p (Lib.byteCells l) (w.setCell ⟨x, i, none⟩ u) := by
    rintro p ⟨hB, v, hbk, hown, hne⟩
    have h1 : b ≠ x := by
      intro e
      rw [e, hx'] at hbk
      simp at hbk
      exact hb hbk.2
    refine ⟨hB, v, (Below.heap_setCell w ⟨x, i, none⟩ u b (by simpa using h1)).trans hbk, ⟨hown.1, ?_⟩, hne⟩
    rcases hown.2 with hn | ⟨g, cap, cur, fz, hv, hbg, hg, rest⟩
    · exact .inl hn
    · have h2 : g ≠ x := by
        intro e
        rw [e, hx'] at hg
        simp at hg
        exact ht hg.2.1
      exact .inr ⟨g, cap, cur, fz, hv, hbg, (Below.heap_setCell w ⟨x, i, none⟩ u g (by simpa using h2)).trans hg, rest⟩
  exact h.elim (fun x => .inl (key _ x)) (fun x => .inr (key _ x))
theorem bu_alloc {B b : Nat} {l : List UInt8} {w : World} (h : IsBu B b l w) (o : Obj) : IsBu B b l (w.alloc o) := Lib.IsBuilderF.alloc h o
/-- a block that is no row of bytes and no builder is kept -/
theorem kept_holds {b x : Nat} {t : TypeId} {cs : Array Value} {w w' : World} (h : Lib.OthersKept 5 (some b) w w') (hx : Holds w x t cs) (ht : t ≠ 5) (hb : x ≠ b) : Holds w' x t cs :=
  h x _ hx (fun e => hb (Option.some.inj e)) fun c fz e => ht (by injection e)
end Go.Proofs.YtkflmgpigidkeaaGreat.Rem
