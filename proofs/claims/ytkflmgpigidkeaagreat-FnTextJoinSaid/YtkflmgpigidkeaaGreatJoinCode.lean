/-
  Some texts with another one between: the package's method.
-/
import Derived.Test.YtkflmgpigidkeaaGreatBuilder
import Derived.Test.YtkflmgpigidkeaaGreatJoinArg
import Derived.Test.YtkflmgpigidkeaaGreatJoinLaw
import Derived.Test.YtkflmgpigidkeaaGreatRemImpl
import Derived.Test.YtkflmgpigidkeaaGreatShelf
import Derived.Test.YtkflmgpigidkeaaGreatVals
import Derived.Defers
namespace Go.Proofs.YtkflmgpigidkeaaGreat.Rem
open Go.RowKit Go.WideShapes Go.Proofs.YtkflmgpigidkeaaGreat.Args Go.Proofs.YtkflmgpigidkeaaGreat.Join Go.Proofs.YtkflmgpigidkeaaGreat.Vals
set_option linter.unusedVariables false

set_option maxRecDepth 100000 in
theorem done_d (p : Value) (u : FrameMode) (w : World) : CallsD Tryz.prog 321 #[p] u w fun e u' w' => u' = u ∧ (e = .returned (.tuple #[]) ∧ w' = w) := by
  go_enter_d Tryz.func321, Tryz.ntmps321
  go_wp2
  go_end0
  exact ⟨rfl, rfl⟩

theorem m_iterate (v : Value) (w : World) : (method 495 87 v "Iterate").run Tryz.prog w = .ok (242, v) w := by kernel_rfl
theorem m_next (v : Value) (w : World) : (method 495 330 v "Next").run Tryz.prog w = .ok (322, v) w := by kernel_rfl
theorem m_done (v : Value) (w : World) : (method 495 330 v "Done").run Tryz.prog w = .ok (321, v) w := by kernel_rfl
/-- what stands ahead of round k: the iterator, the variable, the builder -/
def JR (s : ByteArray) (l : List ByteArray) (w1 : World) (k : Nat) (wr : World) : Prop :=
  (∃ A cp, Holds wr w1.heap.size 332 #[.slice A (l.length - k) cp] ∧ l.length - k ≤ cp ∧ (k < l.length → ∃ e, A = some ⟨e, k, none⟩ ∧ e < w1.heap.size ∧ ∀ j (hj : j < l.length), w1.cell? ⟨e, j, none⟩ = some (.iface 71 (.string l[j])))) ∧
  (∃ u, Holds wr (w1.heap.size + 1 + 1) 66 #[u]) ∧ IsBu (w1.heap.size + 1) (w1.heap.size + 1) (joinL s (l.take k)) wr ∧ Below w1.heap.size w1 wr
theorem JR.start (s : ByteArray) (l : List ByteArray) (A0 : Option Addr) (cp0 B0 : Nat) (w1 : World) (hv : OwnT w1 B0 (.slice A0 l.length cp0) l) :
    JR s l w1 0 (((w1.alloc (.cells #[.slice A0 l.length cp0] 332)).alloc (.cells #[.pointer none, .slice none 0 0] 207)).alloc (.cells #[.nilIface] 66)) := by
  refine ⟨⟨A0, cp0, ((Holds.made w1 _ _).alloc _).alloc _, ?_, fun h0 => ?_⟩, ⟨.nilIface, ?_⟩, ?_, ((below_one _ (Nat.le_refl _)).alloc (by simp) _).alloc (by simp; omega) _⟩
  · rcases hv.forms with ⟨h, rfl⟩ | ⟨g, cap, h, _, _, hc, _⟩
    · simp
    · simp only [Value.slice.injEq, true_and] at h; omega
  · rcases hv.forms with ⟨h, rfl⟩ | ⟨g, cap, h, hg, _, hc, hcs⟩
    · simp at h0
    · simp only [Value.slice.injEq, true_and] at h
      exact ⟨g, h.1, hg, hcs⟩
  · have := Holds.made ((w1.alloc (.cells #[.slice A0 l.length cp0] 332)).alloc (.cells #[.pointer none, .slice none 0 0] 207)) 66 #[.nilIface]
    simpa using this
  · have := bu_alloc (bu_made (w1.alloc (.cells #[.slice A0 l.length cp0] 332))) (.cells #[.nilIface] 66)
    simpa [joinL] using this
/-- behind the iterator's step -/
def JM (s : ByteArray) (l : List ByteArray) (w1 : World) (k : Nat) (bs : List UInt8) (wr : World) : Prop :=
  (∃ A cp, Holds wr w1.heap.size 332 #[.slice A (l.length - (k + 1)) cp] ∧ l.length - (k + 1) ≤ cp ∧ (k + 1 < l.length → ∃ e, A = some ⟨e, k + 1, none⟩ ∧ e < w1.heap.size ∧ ∀ j (hj : j < l.length), w1.cell? ⟨e, j, none⟩ = some (.iface 71 (.string l[j])))) ∧
  Holds wr (w1.heap.size + 1 + 1) 66 #[.iface 71 (.string (l.getD k ⟨#[]⟩))] ∧ IsBu (w1.heap.size + 1) (w1.heap.size + 1) bs wr ∧ Below w1.heap.size w1 wr
theorem JM.kept {s : ByteArray} {l : List ByteArray} {w1 : World} {k : Nat} {bs bs' : List UInt8} {wr w' : World} (h : JM s l w1 k bs wr) (hb : IsBu (w1.heap.size + 1) (w1.heap.size + 1) bs' w') (hB : Below (w1.heap.size + 1) wr w') (hk : Lib.OthersKept 5 (some (w1.heap.size + 1)) wr w') : JM s l w1 k bs' w' := by
  obtain ⟨⟨A, cp, h1, h2, h3⟩, h4, h5, h6⟩ := h
  exact ⟨⟨A, cp, kept_holds hk h1 (by decide) (by omega), h2, h3⟩, kept_holds hk h4 (by decide) (by omega), hb, h6.trans (hB.mono (by omega))⟩
/-- the next one -/
theorem JR.next {s : ByteArray} {l : List ByteArray} {w1 wr : World} {k : Nat} (h : JR s l w1 k wr) (hk : k < l.length) (hl : l.length ≤ 20) :
    Calls Tryz.prog 322 #[.pointer (some ⟨w1.heap.size, 0, none⟩), .pointer (some ⟨w1.heap.size + 1 + 1, 0, none⟩)] wr fun e w' => e = .returned (.bool true) ∧ JM s l w1 k (joinL s (l.take k)) w' := by
  obtain ⟨⟨A, cp, h1, h2, h3⟩, ⟨u, h4⟩, h5, h6⟩ := h
  obtain ⟨e, rfl, he, hc⟩ := h3 hk
  clear h3
  obtain ⟨m, hm⟩ : ∃ m, l.length - k = m + 1 := ⟨l.length - k - 1, by omega⟩
  have hm' : l.length - (k + 1) = m := by omega
  rw [hm] at h1 h2
  have hv : wr.cell? ⟨e, k, none⟩ = some (.iface 71 (.string l[k])) := (h6.cell (p := ⟨e, k, none⟩) he).trans (hc k hk)
  refine (next_some w1.heap.size (w1.heap.size + 1 + 1) e k m cp l[k] u wr h1 h4 (by omega) hv (Nat.lt_of_lt_of_le he h6.size) h2 (by omega)).mono ?_
  rintro e' w' ⟨rfl, o', ho, rfl⟩
  have hx : Holds (wr.setCell ⟨w1.heap.size + 1 + 1, 0, none⟩ (.iface 71 (.string l[k]))) (w1.heap.size + 1 + 1) 66 #[.iface 71 (.string l[k])] := h4.put 0 _
  have hg : Holds (wr.setCell ⟨w1.heap.size + 1 + 1, 0, none⟩ (.iface 71 (.string l[k]))) w1.heap.size 332 #[.slice (some ⟨e, k, none⟩) (m + 1) cp] := h1.apart (by show w1.heap.size ≠ w1.heap.size + 1 + 1; omega) _
  refine ⟨rfl, ⟨some ⟨e, o', none⟩, cp - 1, by rw [hm']; exact hg.put 0 _, by omega, fun hlt => ?_⟩, ?_, ?_, ?_⟩
  · rcases ho with h0 | rfl
    · omega
    · exact ⟨e, rfl, he, hc⟩
  · rw [show l.getD k ⟨#[]⟩ = l[k] by simp [List.getD, List.getElem?_eq_getElem hk]]
    exact hx.apart (by show w1.heap.size + 1 + 1 ≠ w1.heap.size; omega) _
  · exact bu_apart (bu_apart h5 h4 (by decide) (by decide) _) hg (by decide) (by decide) _
  · exact (h6.setCell (p := ⟨w1.heap.size + 1 + 1, 0, none⟩) (by show w1.heap.size ≤ w1.heap.size + 1 + 1; omega) _).setCell (p := ⟨w1.heap.size, 0, none⟩) (Nat.le_refl _) _
theorem JM.done {s : ByteArray} {l : List ByteArray} {w1 wr : World} {k : Nat} {bs : List UInt8} (h : JM s l w1 k bs wr) (e : bs = joinL s (l.take (k + 1))) : JR s l w1 (k + 1) wr := by
  obtain ⟨h1, h4, h5, h6⟩ := h
  exact ⟨h1, ⟨_, h4⟩, e ▸ h5, h6⟩
theorem len_two {L : List UInt8} {s t : ByteArray} (h : L.length ≤ 2400) (hs : s.size ≤ 60) (ht : t.size ≤ 60) : (L ++ s.data.toList).length + t.size ≤ 1000000 := by
  have e1 : s.data.toList.length = s.size := by simp
  rw [List.length_append, e1]
  omega
theorem take_ne {l : List ByteArray} {k : Nat} (h : k < l.length) : l.take (k + 1) ≠ [] := by
  cases l with
  | nil => simp at h
  | cons x r => simp
theorem take_next {l : List ByteArray} {k : Nat} {t : ByteArray} (hk : k < l.length) (ht : l.getD k ⟨#[]⟩ = t) : l.take (k + 1) = l.take k ++ [t] := by
  rw [List.take_succ_eq_append_getElem hk, ← ht]
  simp [List.getD, List.getElem?_eq_getElem hk]
theorem JR.stop {s : ByteArray} {l : List ByteArray} {w1 wr : World} {k : Nat} (h : JR s l w1 k wr) (hk : l.length ≤ k) :
    Calls Tryz.prog 322 #[.pointer (some ⟨w1.heap.size, 0, none⟩), .pointer (some ⟨w1.heap.size + 1 + 1, 0, none⟩)] wr fun e w' => e = .returned (.bool false) ∧ w' = wr := by
  obtain ⟨⟨A, cp, h1, h2, h3⟩, ⟨u, h4⟩, h5, h6⟩ := h
  clear h3
  rw [show l.length - k = 0 by omega] at h1
  exact next_none _ _ _ _ _ h1

set_option maxHeartbeats 2000000 in
set_option maxRecDepth 100000 in
theorem sjoin_any (nm : ByteArray) (F v : Value) (s : ByteArray) (l : List ByteArray) (gb ga c B0 : Nat) (w : World) (hs : s.size ≤ 60) (hl : l.length ≤ 20) (h60 : ∀ t ∈ l, t.size ≤ 60) (hb : Holds w gb 193 #[.string nm, F, .iface 71 (.string s)]) (ha : w.cell? ⟨ga, 0, none⟩ = some (.iface 87 v)) (hga : ga < w.heap.size) (hv : OwnT w B0 v l) :
    Calls Tryz.prog 85 #[.pointer none, .pointer (some ⟨gb, 0, none⟩), .slice (some ⟨ga, 0, none⟩) 1 c, .slice none 0 0] w fun e w' => e = .returned (.tuple #[.iface 71 (.string (joinB s l)), .nilIface]) ∧ Below w.heap.size w w' := by
  have h1 := is_sstr'
  have m1 := m_iterate
  have m2 := m_next
  have m3 := m_done
  have ht := Lib.hid fun nm => take_iter nm v ga c w ha hga
  have q0 := hb.cell 0
  have q1 := hb.cell 1
  have q2 := hb.cell 2
  simp at q0 q1 q2
  have ql := hb.lt
  obtain ⟨A0, cp0, rfl⟩ := hv.shape
  have hb' := Lib.hid hb
  clear ha hb
  go_enter_defers Tryz.func85, Tryz.ntmps85
  go_wp2_with (first | (go_at_call 130; refine (ht.out _).mono ?_; rintro e w1 ⟨rfl, k0, hl1, hbe⟩; have g := hb'.out.later hbe; have q0 := g.cell 0; simp at q0) | (go_at_call 242; refine (iterate_any _ _ _ _).mono ?_; rintro e w2 ⟨rfl, rfl⟩) | go_in)
  have hst := Lib.hid (JR.start s l A0 cp0 B0 w1 (hv.later hbe))
  have hbe' := Lib.hid hbe
  clear hbe q0 q1 q2 g k0
  go_loopw [16] (fun i wr => ∃ k : Nat, i = .int .i64 k ∧ k ≤ l.length ∧ Hid (JR s l w1 k wr)) (fun i _ => l.length - (intOf i).toNat)
  case atStart => exact ⟨0, rfl, Nat.zero_le _, hst⟩
  case round =>
    obtain ⟨k, rfl, hk, hR⟩ := hrel
    by_cases hlt : k < l.length
    · have hn := Lib.hid (hR.out.next hlt (by omega))
      obtain ⟨t, ht⟩ : ∃ t, l.getD k ⟨#[]⟩ = t := ⟨_, rfl⟩
      have ha := Lib.hid fun W => asstr_any t W
      have ht := Lib.hid ht
      have htk : t.size ≤ 60 := by
        have : l.getD k ⟨#[]⟩ = l[k] := by simp [List.getD, List.getElem?_eq_getElem hlt]
        rw [← ht.out, this]
        exact h60 _ (List.getElem_mem _)
      have hlen := joinL_len s hs (l.take k) fun t ht => h60 t (List.mem_of_mem_take ht)
      have hlen2 : (joinL s (l.take k)).length ≤ 2400 := by
        have : (l.take k).length ≤ k := List.length_take_le _ _
        omega
      clear hlen hst hR
      cases k with
      | zero =>
        go_wp2_with fail
        refine hn.out.mono ?_
        rintro e w2 ⟨rfl, hM⟩
        clear hn
        obtain ⟨hA, hX, hI, hB⟩ := hM
        rw [ht.out] at hX
        have x0 := hX.cell 0
        simp at x0
        have hxl := hX.lt
        have hw := Lib.hid (wstr_any (w1.heap.size + 1) (w1.heap.size + 1) _ t w2 hI (by omega) (by omega))
        have hM := Lib.hid (show JM s l w1 0 _ w2 from ⟨hA, by rw [ht.out]; exact hX, hI, hB⟩)
        clear hA hI hB hX
        go_wp2_with (first | (go_at_call 140; refine (ha.out _).mono ?_; rintro e w3 ⟨rfl, rfl⟩) | (go_at_call 139; refine hw.out.mono ?_; rintro e w4 ⟨rfl, hI4, hB4, hk4⟩))
        have hfin := Lib.hid ((hM.out.kept hI4 hB4 hk4).done (by rw [take_next hlt ht.out]; simp [joinL, tailL]))
        clear hM hI4 hB4 hk4 hw
        go_roundw
        case rel => exact ⟨1, rfl, by omega, hfin⟩
        case measure => simp [intOf]; omega
      | succ k =>
        have hpos : (0 : Int) < ((k + 1 : Nat) : Int) := by omega
        go_wp2_with fail
        refine hn.out.mono ?_
        rintro e w2 ⟨rfl, hM⟩
        clear hn
        have hxl := hM.2.1.lt
        have hw := Lib.hid (wstr_any (w1.heap.size + 1) (w1.heap.size + 1) _ s w2 hM.2.2.1 (by omega) (by omega))
        have hM' := Lib.hid hM
        clear hM
        go_wp2_with fail
        refine hw.out.mono ?_
        rintro e w3 ⟨rfl, hI3, hB3, hk3⟩
        clear hw
        have hM := hM'.out.kept hI3 hB3 hk3
        clear hI3 hB3 hk3 hM'
        obtain ⟨hA, hX, hI, hB⟩ := hM
        rw [ht.out] at hX
        have x0 := hX.cell 0
        simp at x0
        have hxl3 := hX.lt
        have hw := Lib.hid (wstr_any (w1.heap.size + 1) (w1.heap.size + 1) _ t w3 hI (len_two hlen2 hs htk) (by omega))
        have hM := Lib.hid (show JM s l w1 (k + 1) _ w3 from ⟨hA, by rw [ht.out]; exact hX, hI, hB⟩)
        clear hA hI hB hX
        go_wp2_with (first | (go_at_call 140; refine (ha.out _).mono ?_; rintro e w3 ⟨rfl, rfl⟩) | (go_at_call 139; refine hw.out.mono ?_; rintro e w4 ⟨rfl, hI4, hB4, hk4⟩))
        have hfin := Lib.hid ((hM.out.kept hI4 hB4 hk4).done (by rw [take_next hlt ht.out, joinL_snoc _ _ _ (take_ne (by omega))]; simp))
        clear hM hI4 hB4 hk4 hw
        go_roundw
        case rel => exact ⟨k + 1 + 1, by go_num, by omega, hfin⟩
        case measure => simp [intOf]; omega
    · have hn := Lib.hid (hR.out.stop (by omega))
      obtain ⟨_, ⟨_, hX⟩, hI, hB⟩ := hR.out
      have hxl := hX.lt
      have hI' := Lib.hid hI
      have hB' := Lib.hid hB
      obtain rfl : k = l.length := by omega
      clear hI hB hR hX
      go_wp2_with fail
      refine hn.out.mono ?_
      rintro e w2 ⟨rfl, rfl⟩
      clear hn
      go_wp2_with fail
      refine (Tryz.Builder_String_any_k (w1.heap.size + 1) (w1.heap.size + 1) _ _ hI'.out (by omega)).mono ?_
      rintro e w3 ⟨rfl, h3, hb3, hk3⟩
      have hfin := Lib.hid (hbe'.out.trans ((hB'.out.trans (hb3.mono (by omega))).mono (by omega)))
      have hj : (⟨(joinL s (l.take l.length)).toArray⟩ : ByteArray) = joinB s l := by rw [List.take_length]; rfl
      rw [hj]
      clear h3 hb3 hk3 hB' hI' hj
      go_wp2
      refine leaves_cons (f := 321) (args := #[.pointer (some ⟨w1.heap.size, 0, none⟩)]) (by simp) (by simp [go_sem, m3]) ?_
      refine (done_d _ .returning _).mono ?_
      rintro e u' w'' ⟨rfl, rfl, rfl⟩
      exact ⟨_, results_tmp2 rfl _ _ _, rfl, hfin.out⟩
end Go.Proofs.YtkflmgpigidkeaaGreat.Rem
