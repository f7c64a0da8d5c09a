/-
  Some texts with another one between: the reference's side.
-/
import Derived.Test.YtkflmgpigidkeaaGreatVRow
import Derived.Test.YtkflmgpigidkeaaGreatJoinLaw
namespace Go.Proofs.YtkflmgpigidkeaaGreat.Rem
open Go.RowKit Go.WideShapes Go.Proofs.YtkflmgpigidkeaaGreat.VRow Go.Proofs.YtkflmgpigidkeaaGreat.Join
set_option linter.unusedVariables false

set_option maxRecDepth 100000 in
theorem items_any (v : Value) (L : List V6) (B0 : Nat) (w : World) (hL : L.length ≤ 100) (h1 : ∀ x ∈ L, x.One) (hv : OwnV w B0 v L) :
    Calls Tryz.prog 125 #[.agg #[.int .i64 7, .bool false, .slice none 0 0, .int .u64 0, .string ⟨#[]⟩, v]] w fun e w' => (∃ u, e = .returned (.tuple #[u, .bool true]) ∧ OwnV w' w.heap.size u L) ∧ Below w.heap.size w w' := by
  obtain ⟨A0, cp0, rfl⟩ := hv.shape
  have hbx := Holds.made w 27 #[.int .i64 7, .bool false, .slice none 0 0, .int .u64 0, .string ⟨#[]⟩, .slice A0 L.length cp0]
  have hb0 := below_one (B := w.heap.size) (.cells #[.int .i64 7, .bool false, .slice none 0 0, .int .u64 0, .string ⟨#[]⟩, .slice A0 L.length cp0] 27) (Nat.le_refl w.heap.size)
  have hsz : (w.alloc (.cells #[.int .i64 7, .bool false, .slice none 0 0, .int .u64 0, .string ⟨#[]⟩, .slice A0 L.length cp0] 27)).heap.size = w.heap.size + 1 := by simp
  go_enter Tryz.func125, Tryz.ntmps125
  go_wp2_with fail
  generalize w.alloc (.cells #[.int .i64 7, .bool false, .slice none 0 0, .int .u64 0, .string ⟨#[]⟩, .slice A0 L.length cp0] 27) = w1 at hbx hb0 hsz ⊢
  have hbx' := Lib.hid hbx
  have hsz' := Lib.hid hsz
  clear hbx hsz
  go_loopw [5, 6] (fun u i wr => ∃ j : Nat, i = .int .i64 j ∧ j ≤ L.length ∧ OwnV wr (w.heap.size + 1) u (L.take j) ∧ Below (w.heap.size + 1) w1 wr) (fun _ i _ => L.length - (intOf i).toNat)
  case atStart => exact ⟨0, rfl, Nat.zero_le _, OwnV.nil _ _, Below.refl _ _⟩
  case round =>
    obtain ⟨j, rfl, hj, ho, hb⟩ := hrel
    have hw1 := hb.size
    have hk := hbx'.out.below hb (by omega)
    have q5 := hk.cell 5
    simp at q5
    by_cases hlt : j < L.length
    · obtain ⟨g, cap, h, hg, hB, hc, hcs⟩ := hv.forms.resolve_left (by rintro ⟨_, rfl⟩; simp at hlt)
      simp only [Value.slice.injEq, true_and] at h
      obtain ⟨rfl, rfl⟩ := h
      obtain ⟨x, hx⟩ : ∃ x, L[j] = x := ⟨_, rfl⟩
      obtain ⟨c0, c1, c2, c3, c4, c5⟩ := ((hcs j hlt).later hb0 hg).later hb (show g < w.heap.size + 1 by omega)
      rw [hx] at c0 c1 c2 c3 c4 c5
      have hone := h1 x (hx ▸ List.getElem_mem _)
      have htk := Lib.hid (show L.take j ++ [x] = L.take (j + 1) by rw [List.take_succ_eq_append_getElem hlt, hx])
      have hlj : (L.take j).length ≤ 100 := by simp; omega
      clear hcs hx
      have hB1 : w.heap.size + 1 ≤ w1.heap.size := by rw [hsz'.out]; omega
      go_wp2_with (at_builtin; refine wpList_v6 (t := x) (w0 := w1) rfl _ _ rfl _ (L.take j) rfl ho hb hB1 hone rfl (by omega) ?_; intro v4 w4 hown4 hb4)
      go_roundw
      case rel => exact ⟨j + 1, by go_num, by omega, hown4.eq htk.out, hb4⟩
      case measure => simp [intOf]; omega
    · go_wp2
      go_ret2
      obtain rfl : j = L.length := by omega
      rw [List.take_length] at ho
      exact ⟨⟨_, rfl, ho.lower (by omega)⟩, hb0.trans (hb.mono (by omega))⟩

/-- a text, as a value's cells -/
def tx (t : ByteArray) : V6 := ⟨.int .i64 4, .bool false, .slice none 0 0, .int .u64 0, .string t, .slice none 0 0⟩
theorem tx_one (t : ByteArray) : (tx t).One := by
  intro u hu
  simp [V6.cs, tx] at hu
  rcases hu with rfl | rfl | rfl | rfl | rfl | rfl <;> rfl
theorem take_step {s t : ByteArray} {l : List ByteArray} {k : Nat} (hk : k < l.length) (ht : l[k] = t) : (k = 0 → joinB s (l.take k) ++ t = joinB s (l.take (k + 1))) ∧ (0 < k → joinB s (l.take k) ++ s ++ t = joinB s (l.take (k + 1))) := by
  have e : l.take (k + 1) = l.take k ++ [t] := by rw [List.take_succ_eq_append_getElem hk, ht]
  rw [e]
  refine ⟨fun h => ?_, fun h => ?_⟩
  · subst h
    exact joinB_one s t
  · refine joinB_snoc s t _ fun h0 => ?_
    have := congrArg List.length h0
    rw [List.length_take, List.length_nil] at this
    omega
set_option maxRecDepth 100000 in
theorem joined_any (s : ByteArray) (v : Value) (l : List ByteArray) (B0 ga c : Nat) (w : World) (hs : s.size ≤ 60) (hl : l.length ≤ 20) (h60 : ∀ t ∈ l, t.size ≤ 60) (hv : OwnV w B0 v (l.map tx)) (hg : Holds w ga 27 #[.int .i64 7, .bool false, .slice none 0 0, .int .u64 0, .string ⟨#[]⟩, v]) :
    Calls Tryz.prog 69 #[.string s, .slice (some ⟨ga, 0, none⟩) 1 c] w fun e w' => e = .returned (.tuple #[tv (joinB s l), .bool true]) ∧ Below w.heap.size w w' := by
  have hsz0 : ∀ k, (joinB s (l.take k)).size ≤ 2400 := fun k => by
    rw [joinB_size]
    have h := joinL_len s hs (l.take k) fun t ht => h60 t (List.mem_of_mem_take ht)
    have : (l.take k).length ≤ 20 := by simp; omega
    omega
  have hit := Lib.hid fun W hv => items_any v (l.map tx) B0 W (by simp; omega) (by intro x hx; simp at hx; obtain ⟨t, _, rfl⟩ := hx; exact tx_one t) hv
  have htv := Lib.hid fun t W => textval_any t W
  obtain ⟨R, hR⟩ : ∃ R, joinB s l = R := ⟨_, rfl⟩
  rw [hR]
  have hR' := Lib.hid hR
  clear hR
  unfold tv at *
  obtain ⟨q0, q1, q2, q3, q4, q5, ql, -⟩ := val_facts (hg.alloc (.cells #[.int .i64 0, .bool false, .slice none 0 0, .int .u64 0, .string ⟨#[]⟩, .slice none 0 0] 27))
  have hres := Holds.made w 27 #[.int .i64 0, .bool false, .slice none 0 0, .int .u64 0, .string ⟨#[]⟩, .slice none 0 0]
  have hv1 := Lib.hid (hv.later (below_one (.cells #[.int .i64 0, .bool false, .slice none 0 0, .int .u64 0, .string ⟨#[]⟩, .slice none 0 0] 27) (Nat.le_refl _)))
  have hb0 := below_one (B := w.heap.size) (.cells #[.int .i64 0, .bool false, .slice none 0 0, .int .u64 0, .string ⟨#[]⟩, .slice none 0 0] 27) (Nat.le_refl w.heap.size)
  have hsz : (w.alloc (.cells #[.int .i64 0, .bool false, .slice none 0 0, .int .u64 0, .string ⟨#[]⟩, .slice none 0 0] 27)).heap.size = w.heap.size + 1 := by simp
  clear hv hg
  go_enter Tryz.func69, Tryz.ntmps69
  go_wp2_with fail
  generalize w.alloc (.cells #[.int .i64 0, .bool false, .slice none 0 0, .int .u64 0, .string ⟨#[]⟩, .slice none 0 0] 27) = w1 at *
  have hres' := Lib.hid hres
  have hsz' := Lib.hid hsz
  have hb0' := Lib.hid hb0
  have hsz0' := Lib.hid hsz0
  clear hsz hres hb0 hsz0
  refine (hit.out w1 hv1.out).mono ?_
  rintro e w2 ⟨⟨u, rfl, hu⟩, hb2⟩
  have hb2' := Lib.hid hb2
  clear hb2 hit hv1 q0 q1 q2 q3 q4 q5 ql
  obtain ⟨A1, cp1, rfl⟩ := hu.shape
  rw [List.length_map] at hu
  go_wp2_with fail
  go_loop [8, 9] (fun out i => ∃ j : Nat, i = .int .i64 j ∧ j ≤ l.length ∧ out = .string (joinB s (l.take j))) (fun _ i => l.length - (intOf i).toNat)
  case atStart => exact ⟨0, rfl, Nat.zero_le _, rfl⟩
  case round =>
    obtain ⟨j, rfl, hj, rfl⟩ := hrel
    by_cases hlt : j < l.length
    · obtain ⟨g, cap, h, hg, hB, hc, hcs⟩ := hu.forms.resolve_left (by rintro ⟨_, h0⟩; have := congrArg List.length h0; simp at this; subst this; simp at hlt)
      simp only [Value.slice.injEq, true_and, List.length_map] at h
      obtain ⟨rfl, rfl⟩ := h
      obtain ⟨t, ht⟩ : ∃ t, l[j] = t := ⟨_, rfl⟩
      have hc0 := hcs j (by simpa using hlt)
      simp only [List.getElem_map, ht] at hc0
      obtain ⟨c0, -, -, -, c4, -⟩ := hc0
      simp only [tx] at c0 c4
      obtain ⟨hs0, hs1⟩ := take_step (s := s) hlt ht
      have z0 := hsz0'.out j
      have zt := h60 t (ht ▸ List.getElem_mem _)
      have hs0' := Lib.hid hs0
      have hs1' := Lib.hid hs1
      clear hcs ht hs0 hs1
      obtain ⟨Z, hZ⟩ : ∃ Z, joinB s (l.take j) = Z := ⟨_, rfl⟩
      rw [hZ] at z0 hs0' hs1' ⊢
      clear hZ hsz0'
      by_cases h0 : 0 < j
      · have hp : (0 : Int) < (j : Int) := by omega
        go_wp2
        go_round
        case rel => exact ⟨j + 1, by go_num, by omega, by rw [hs1'.out h0]⟩
        case measure => simp [intOf]; omega
      · obtain rfl : j = 0 := by omega
        go_wp2
        go_round
        case rel => exact ⟨1, rfl, by omega, by rw [hs0'.out rfl]⟩
        case measure => simp [intOf]; omega
    · obtain rfl : j = l.length := by omega
      have htk' := Lib.hid (htv.out R w2)
      rw [show l.take l.length = l from List.take_length, hR'.out]
      clear hsz0'
      have hk := hres'.out.later hb2'.out
      have hsz2 := hb2'.out.size
      go_wp2_with fail
      refine htk'.out.mono ?_
      rintro e w3 ⟨rfl, hb3⟩
      obtain ⟨p0, p1, p2, p3, p4, p5, pl, f0, f1, f2, f3, f4, f5⟩ := val_facts (hk.later hb3)
      have hfin := Lib.hid (six_below (s := w.heap.size) (.int .i64 4) (.bool false) (.slice none 0 0) (.int .u64 0) (.string R) (.slice none 0 0) (hb0'.out.trans ((hb2'.out.mono (by rw [hsz'.out]; omega)).trans (hb3.mono (Nat.le_trans (by rw [hsz'.out]; omega) hsz2)))) (Nat.le_refl _))
      clear hk hb3
      go_wp2
      exact bodyPost_ret (v := .tuple #[.agg #[.int .i64 4, .bool false, .slice none 0 0, .int .u64 0, .string R, .slice none 0 0], .bool true]) (by simp [results, Tryz.results69, go_sem, p0, p1, p2, p3, p4, p5]) rfl ⟨rfl, hfin.out⟩
end Go.Proofs.YtkflmgpigidkeaaGreat.Rem
