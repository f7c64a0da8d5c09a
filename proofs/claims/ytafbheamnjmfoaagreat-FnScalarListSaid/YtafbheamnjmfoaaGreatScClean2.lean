/-
  The reference's Clean leaves a value without parts as it is.
-/
import Derived.Test.YtafbheamnjmfoaaGreatScAll
import Derived.Deep.RegionLaw
import Derived.Deep.RegionWith
import Derived.StillTailTactics
import Derived.Deep.QuietTactic
import Derived.BigQuiet
namespace Go.Proofs.YtafbheamnjmfoaaGreat.Sc
open Go.RowKit Go.WideShapes Go.Proofs.YtafbheamnjmfoaaGreat.Own Go.Proofs.YtafbheamnjmfoaaGreat.Num Go.Proofs.YtafbheamnjmfoaaGreat.Ref Go.Proofs.YtafbheamnjmfoaaGreat.Nat_ Go.Proofs.YtafbheamnjmfoaaGreat.Big Go.Proofs.YtafbheamnjmfoaaGreat.VRow
set_option linter.unusedVariables false

def SomeScOf (w : World) (s : Sc) (e : Ending) (w' : World) : Prop := (∃ y, e = .returned (.agg (V6.arr y)) ∧ IsSc w' y s) ∧ Below w.heap.size w w'
section
variable {k : Int} {neg : Bool} {a : Option Addr} {l : List UInt8} {c : Nat} {b : Nat} {t : ByteArray} {ka : Option Addr} {kn kc : Nat} {w : World}
set_option maxHeartbeats 2000000 in
set_option maxRecDepth 100000 in
theorem clean2_none (h : (wrap64 (k.tmod 10 + 10)).tmod 10 = 0) : Calls Tryz.prog 29 #[.agg #[.int .i64 k, .bool neg, .slice a l.length c, .int .u64 b, .string t, .slice ka kn kc], .int .i64 2] w (SomeScOf w .none) := by
  all_goals
    go_enter Tryz.func29, Tryz.ntmps29
    go_wp2
    exact bodyPost_ret (v := .agg #[.int .i64 0, .bool false, .slice none 0 0, .int .u64 0, .string ⟨#[]⟩, .slice none 0 0]) (by simp [results, Tryz.results29, go_sem]) rfl ⟨⟨_, rfl, rfl⟩, ((below_one' _ (Nat.le_refl _)).alloc (by simp) _)⟩
set_option maxHeartbeats 2000000 in
set_option maxRecDepth 100000 in
theorem clean2_float (h : (wrap64 (k.tmod 10 + 10)).tmod 10 = 3) : Calls Tryz.prog 29 #[.agg #[.int .i64 k, .bool neg, .slice a l.length c, .int .u64 b, .string t, .slice ka kn kc], .int .i64 2] w (SomeScOf w (.float b)) := by
  all_goals
    go_enter Tryz.func29, Tryz.ntmps29
    go_wp2
    exact bodyPost_ret (v := .agg #[.int .i64 3, .bool false, .slice none 0 0, .int .u64 b, .string ⟨#[]⟩, .slice none 0 0]) (by simp [results, Tryz.results29, go_sem]) rfl ⟨⟨_, rfl, rfl⟩, ((below_one' _ (Nat.le_refl _)).alloc (by simp) _)⟩
set_option maxHeartbeats 2000000 in
set_option maxRecDepth 100000 in
theorem clean2_text (by_ : Bool) (ht : t.size ≤ 9223372036854775807) (h : (wrap64 (k.tmod 10 + 10)).tmod 10 = if by_ then 5 else 4) : Calls Tryz.prog 29 #[.agg #[.int .i64 k, .bool neg, .slice a l.length c, .int .u64 b, .string t, .slice ka kn kc], .int .i64 2] w (SomeScOf w (.text by_ (t.extract 0 (min t.size 60)))) := by
  obtain ⟨M, hM0⟩ : ∃ M : Nat, min t.size 60 = M := ⟨_, rfl⟩
  rw [hM0]
  obtain ⟨hM, hM1, hM2⟩ : min (t.size : Int) 60 = M ∧ M ≤ 60 ∧ M ≤ t.size := ⟨by omega, by omega, by omega⟩
  clear hM0
  cases by_
  · simp only [Bool.false_eq_true, if_false] at h
    go_enter Tryz.func29, Tryz.ntmps29
    go_wp2
    exact bodyPost_ret (v := .agg #[.int .i64 4, .bool false, .slice none 0 0, .int .u64 0, .string (t.extract 0 M), .slice none 0 0]) (by simp [results, Tryz.results29, go_sem]) rfl ⟨⟨_, rfl, rfl⟩, ((below_one' _ (Nat.le_refl _)).alloc (by simp) _)⟩
  · simp only [if_true] at h
    go_enter Tryz.func29, Tryz.ntmps29
    go_wp2
    exact bodyPost_ret (v := .agg #[.int .i64 5, .bool false, .slice none 0 0, .int .u64 0, .string (t.extract 0 M), .slice none 0 0]) (by simp [results, Tryz.results29, go_sem]) rfl ⟨⟨_, rfl, rfl⟩, ((below_one' _ (Nat.le_refl _)).alloc (by simp) _)⟩
set_option maxHeartbeats 2000000 in
set_option maxRecDepth 100000 in
theorem clean2_bool (h : (wrap64 (k.tmod 10 + 10)).tmod 10 = 1) : Calls Tryz.prog 29 #[.agg #[.int .i64 k, .bool neg, .slice a l.length c, .int .u64 b, .string t, .slice ka kn kc], .int .i64 2] w (SomeScOf w (.bool (bits BinOp.and IntKind.u64 (b : Int) 1 == 1))) := by
  obtain ⟨X, hX⟩ : ∃ X, (bits BinOp.and IntKind.u64 (b : Int) 1 == 1) = X := ⟨_, rfl⟩
  rw [hX]
  obtain ⟨N, hN⟩ : ∃ N : Int, (if X then 1 else 0) = N := ⟨_, rfl⟩
  have hbv := Lib.hid fun W => boolval_any X W
  rw [hN] at hbv
  unfold six0 V6.arr at hbv
  have hsc := Lib.hid (show ∀ w', IsSc w' (six0 1 false (.slice none 0 0) N ⟨#[]⟩) (.bool X) from fun w' => by rw [← hN]; rfl)
  clear hN
  obtain ⟨W, hW⟩ : ∃ W, (w.alloc (.cells #[.int .i64 k, .bool neg, .slice a l.length c, .int .u64 b, .string t, .slice ka kn kc] 28)).alloc (.cells #[.int .i64 0, .bool false, .slice none 0 0, .int .u64 0, .string ⟨#[]⟩, .slice none 0 0] 28) = W := ⟨_, rfl⟩
  have hb1 : Below w.heap.size w W := by rw [← hW]; exact (below_one' _ (Nat.le_refl _)).alloc (by simp) _
  have hk1 : Box.Holds W (w.heap.size + 1) 28 #[.int .i64 0, .bool false, .slice none 0 0, .int .u64 0, .string ⟨#[]⟩, .slice none 0 0] := by
    rw [← hW]
    have := Box.Holds.made (w.alloc (.cells #[.int .i64 k, .bool neg, .slice a l.length c, .int .u64 b, .string t, .slice ka kn kc] 28)) 28 #[.int .i64 0, .bool false, .slice none 0 0, .int .u64 0, .string ⟨#[]⟩, .slice none 0 0]
    rwa [World.size_alloc] at this
  have hb1' := Lib.hid hb1
  have hk1' := Lib.hid hk1
  have hW' := Lib.hid hW
  clear hb1 hk1 hW
  all_goals
    go_enter Tryz.func29, Tryz.ntmps29
    go_wp2_with fail
    rw [hW'.out]
    refine (hbv.out _).mono ?_
    rintro e w2 ⟨rfl, hb2⟩
    obtain ⟨p0, p1, p2, p3, p4, p5, pl, f0, f1, f2, f3, f4, f5⟩ := Rem.val_facts (hk1'.out.later hb2)
    have hfin := Lib.hid (Rem.six_below (.int .i64 1) (.bool false) (.slice none 0 0) (.int .u64 N) (.string ⟨#[]⟩) (.slice none 0 0) (hb1'.out.trans (hb2.mono hb1'.out.size)) (Nat.le_succ w.heap.size))
    clear hb2 hb1' hk1' hW'
    go_wp2
    exact bodyPost_ret (v := .agg #[.int .i64 1, .bool false, .slice none 0 0, .int .u64 N, .string ⟨#[]⟩, .slice none 0 0]) (by simp [results, Tryz.results29, go_sem, p0, p1, p2, p3, p4, p5]) rfl ⟨⟨six0 1 false (.slice none 0 0) N ⟨#[]⟩, rfl, hsc.out _⟩, hfin.out⟩
set_option maxHeartbeats 2000000 in
set_option maxRecDepth 100000 in
theorem clean2_int (hr : Rd w a l) (hc : l.length ≤ c) (ha : a = none → c = 0) (hl : l.length ≤ 9223372036854775807) (h : (wrap64 (k.tmod 10 + 10)).tmod 10 = 2) : Calls Tryz.prog 29 #[.agg #[.int .i64 k, .bool neg, .slice a l.length c, .int .u64 b, .string t, .slice ka kn kc], .int .i64 2] w (SomeScOf w (.int (neg && decide (0 < be (l.take (min l.length 40)))) (be (l.take (min l.length 40))))) := by
  obtain ⟨M, hM0⟩ : ∃ M : Nat, min l.length 40 = M := ⟨_, rfl⟩
  rw [hM0]
  obtain ⟨hM, hM1, hM2⟩ : min (l.length : Int) 40 = M ∧ M ≤ 40 ∧ M ≤ l.length := ⟨by omega, by omega, by omega⟩
  clear hM0
  obtain ⟨W, hW⟩ : ∃ W, (w.alloc (.cells #[.int .i64 k, .bool neg, .slice a l.length c, .int .u64 b, .string t, .slice ka kn kc] 28)).alloc (.cells #[.int .i64 0, .bool false, .slice none 0 0, .int .u64 0, .string ⟨#[]⟩, .slice none 0 0] 28) = W := ⟨_, rfl⟩
  have hb1 : Below w.heap.size w W := by rw [← hW]; exact (below_one' _ (Nat.le_refl _)).alloc (by simp) _
  have hsz : w.heap.size + 1 < W.heap.size := by rw [← hW]; simp
  have hk1 : Box.Holds W (w.heap.size + 1) 28 #[.int .i64 0, .bool false, .slice none 0 0, .int .u64 0, .string ⟨#[]⟩, .slice none 0 0] := by
    rw [← hW]
    have := Box.Holds.made (w.alloc (.cells #[.int .i64 k, .bool neg, .slice a l.length c, .int .u64 b, .string t, .slice ka kn kc] 28)) 28 #[.int .i64 0, .bool false, .slice none 0 0, .int .u64 0, .string ⟨#[]⟩, .slice none 0 0]
    rwa [World.size_alloc] at this
  have hk0 : Box.Holds W w.heap.size 28 #[.int .i64 k, .bool neg, .slice a l.length c, .int .u64 b, .string t, .slice ka kn kc] := by
    rw [← hW]
    exact (Box.Holds.made w _ _).alloc _
  have j1 := hk0.cell 1
  have j2 := hk0.cell 2
  simp at j1 j2
  have htl : (l.take M).length = M := by simp; omega
  have hbl := be_lt (l.take M)
  have hVM : be (l.take M) < 256 ^ 40 := Nat.lt_of_lt_of_le hbl (Nat.pow_le_pow_right (by decide) (by omega))
  have hof := Lib.hid (of_any neg a c (l.take M) W.drew ((show Rd W.drew a l from (hr.later (Below.drew hb1))).take M) (by omega) (by omega) ha)
  rw [htl] at hof
  obtain ⟨V, hV⟩ : ∃ V, be (l.take M) = V := ⟨_, rfl⟩
  rw [hV] at hof hVM ⊢
  obtain ⟨G, hG⟩ : ∃ G, (neg && decide (0 < V)) = G := ⟨_, rfl⟩
  have hG' := Lib.hid (show G = true → 0 < V from fun h => by rw [← hG] at h; simp at h; exact h.2)
  rw [hG] at hof ⊢
  have hml : (mag V).length ≤ 2147483647 := Nat.le_trans (mag_len_le hVM) (by decide)
  have hiv := Lib.hid fun x B W h => intval_any x G V B W h hml
  have hMc : M ≤ c := by omega
  have hb1' := Lib.hid hb1
  have hk1' := Lib.hid hk1
  have hW' := Lib.hid hW
  have hVM' := Lib.hid hVM
  clear hb1 hk1 hW hbl htl hV hG hVM hr hk0 ha hml
  all_goals
    go_enter Tryz.func29, Tryz.ntmps29
    go_wp2_with fail
    rw [hW'.out]
    clear hW'
    go_still_tail 9, (by kernel_rfl)
    change wpList _ _ _ _ _ W.drew
    go_wp2_with fail
    refine hof.out.mono ?_
    rintro e w2 ⟨⟨x, rfl, hx⟩, hb2⟩
    have hb2' := Lib.hid (show Below w.heap.size w w2 from (Below.drew hb1'.out).trans (hb2.mono hb1'.out.size))
    have hk2 := Lib.hid (Box.Holds.below (w := W.drew) hk1'.out hb2 hsz)
    have hx' := Lib.hid hx
    clear hx hb2
    go_wp2_with fail
    refine (hiv.out _ _ w2 hx'.out).mono ?_
    rintro e w3 ⟨⟨u, rfl, hu⟩, hb3⟩
    obtain ⟨p0, p1, p2, p3, p4, p5, pl, f0, f1, f2, f3, f4, f5⟩ := Rem.val_facts (hk2.out.later hb3)
    obtain ⟨ua, uc, hue, -⟩ := Mg.of_owns hu
    obtain ⟨n, hn⟩ : ∃ n, (mag V).length = n := ⟨_, rfl⟩
    rw [hn] at hue
    subst hue
    have hfin := Lib.hid (show IsSc ((((((w3.setCell ⟨w.heap.size + 1, 0, none⟩ (.int .i64 2)).setCell ⟨w.heap.size + 1, 1, none⟩ (.bool G)).setCell ⟨w.heap.size + 1, 2, none⟩ (.slice ua n uc)).setCell ⟨w.heap.size + 1, 3, none⟩ (.int .u64 0)).setCell ⟨w.heap.size + 1, 4, none⟩ (.string ⟨#[]⟩)).setCell ⟨w.heap.size + 1, 5, none⟩ (.slice none 0 0)) (six0 2 G (.slice ua n uc) 0 ⟨#[]⟩) (.int G V) ∧
        Below w.heap.size w ((((((w3.setCell ⟨w.heap.size + 1, 0, none⟩ (.int .i64 2)).setCell ⟨w.heap.size + 1, 1, none⟩ (.bool G)).setCell ⟨w.heap.size + 1, 2, none⟩ (.slice ua n uc)).setCell ⟨w.heap.size + 1, 3, none⟩ (.int .u64 0)).setCell ⟨w.heap.size + 1, 4, none⟩ (.string ⟨#[]⟩)).setCell ⟨w.heap.size + 1, 5, none⟩ (.slice none 0 0)) from
      ⟨⟨_, rfl, (Mg.of_owns hu).kept (six_kept _ _ _ _ _ _ (hk2.out.later hb3))⟩, Rem.six_below _ _ _ _ _ _ (hb2'.out.trans (hb3.mono hb2'.out.size)) (Nat.le_succ _)⟩)
    clear hb3 hu hk2 hb2' hx' hn
    go_wp2
    exact bodyPost_ret (v := .agg #[.int .i64 2, .bool G, .slice ua n uc, .int .u64 0, .string ⟨#[]⟩, .slice none 0 0]) (by simp [results, Tryz.results29, go_sem, p0, p1, p2, p3, p4, p5]) rfl ⟨⟨_, rfl, hfin.out.1⟩, hfin.out.2⟩
end
theorem clean2_any (x : V6) (s : Sc) (w : World) (hs : s.ok) (h : IsSc w x s) : Calls Tryz.prog 29 #[.agg x.arr, .int .i64 2] w (SomeScOf w s) := by
  cases s with
  | none =>
    obtain rfl : x = _ := h
    exact clean2_none (l := []) (b := 0) (by decide +kernel)
  | bool b =>
    obtain rfl : x = _ := h
    have := clean2_bool (k := 1) (neg := false) (a := none) (l := []) (c := 0) (b := if b then 1 else 0) (t := ⟨#[]⟩) (ka := none) (kn := 0) (kc := 0) (w := w) (by decide +kernel)
    cases b
    · exact this
    · exact this
  | float b =>
    obtain rfl : x = _ := h
    exact clean2_float (l := []) (by decide +kernel)
  | text k t =>
    obtain rfl : x = _ := h
    have ht : t.size ≤ 60 := hs
    have := clean2_text (k := if k then 5 else 4) (neg := false) (a := none) (l := []) (c := 0) (b := 0) (t := t) (ka := none) (kn := 0) (kc := 0) (w := w) k (by omega) (by cases k <;> decide +kernel)
    rw [show t.extract 0 (min t.size 60) = t by rw [Nat.min_eq_left ht]; simp] at this
    exact this
  | int G V =>
    obtain ⟨u, rfl, a, c, rfl, hr, hl, hn, -⟩ := h
    have hml : (mag V).length ≤ 40 := mag_len_le hs.2
    have := clean2_int (k := 2) (neg := G) (a := a) (l := mag V) (c := c) (b := 0) (t := ⟨#[]⟩) (ka := none) (kn := 0) (kc := 0) (w := w) hr hl hn (by omega) (by decide +kernel)
    rw [Nat.min_eq_left hml, List.take_length, be_mag, show (G && decide (0 < V)) = G by cases G; rfl; simp [hs.1 rfl]] at this
    exact this
end Go.Proofs.YtafbheamnjmfoaaGreat.Sc
