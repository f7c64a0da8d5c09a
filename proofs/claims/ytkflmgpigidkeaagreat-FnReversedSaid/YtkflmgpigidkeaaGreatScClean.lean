/-
  The reference's way to a value without parts, out of any value.
-/
import Derived.Test.YtkflmgpigidkeaaGreatSc
import Derived.Deep.RegionLaw
import Derived.Deep.RegionWith
import Derived.StillTailTactics
import Derived.Deep.QuietTactic
import Derived.BigQuiet
namespace Go.Proofs.YtkflmgpigidkeaaGreat.Sc
open Go.RowKit Go.WideShapes Go.Proofs.YtkflmgpigidkeaaGreat.Own Go.Proofs.YtkflmgpigidkeaaGreat.Num Go.Proofs.YtkflmgpigidkeaaGreat.Ref Go.Proofs.YtkflmgpigidkeaaGreat.Nat_ Go.Proofs.YtkflmgpigidkeaaGreat.Big Go.Proofs.YtkflmgpigidkeaaGreat.VRow
set_option linter.unusedVariables false

/-- the six cells of a value that came in -/
def ElIn (w : World) (x : V6) : Prop := ∃ (k : Int) (neg : Bool) (a : Option Addr) (l : List UInt8) (c : Nat) (b : Nat) (t : ByteArray) (ka : Option Addr) (kn kc : Nat), x = ⟨.int .i64 k, .bool neg, .slice a l.length c, .int .u64 b, .string t, .slice ka kn kc⟩ ∧
  Rd w a l ∧ l.length ≤ c ∧ (a = Option.none → c = 0) ∧ l.length ≤ 9223372036854775807 ∧ t.size ≤ 9223372036854775807 ∧ kn ≤ 9223372036854775807 ∧ b < 18446744073709551616

set_option maxRecDepth 100000 in
theorem boolval_any (b : Bool) (w : World) : Calls Tryz.prog 74 #[.bool b] w fun e w' => e = .returned (.agg (six0 1 false (.slice Option.none 0 0) (if b then 1 else 0) ⟨#[]⟩).arr) ∧ Below w.heap.size w w' := by
  cases b
  · go_enter Tryz.func74, Tryz.ntmps74
    go_wp2
    exact bodyPost_ret (v := .agg #[.int .i64 1, .bool false, .slice none 0 0, .int .u64 0, .string ⟨#[]⟩, .slice none 0 0]) (by simp [results, Tryz.results74, go_sem]) rfl ⟨rfl, below_one' _ (Nat.le_refl _)⟩
  · go_enter Tryz.func74, Tryz.ntmps74
    go_wp2
    exact bodyPost_ret (v := .agg #[.int .i64 1, .bool false, .slice none 0 0, .int .u64 1, .string ⟨#[]⟩, .slice none 0 0]) (by simp [results, Tryz.results74, go_sem]) rfl ⟨rfl, below_one' _ (Nat.le_refl _)⟩

def SomeSc (w : World) (e : Ending) (w' : World) : Prop := (∃ y s, e = .returned (.agg (V6.arr y)) ∧ IsSc w' y s ∧ s.ok) ∧ Below w.heap.size w w'

theorem six_kept {w1 : World} {s : Nat} {cs : Array Value} (u0 u1 u2 u3 u4 u5 : Value) (hk : Box.Holds w1 s 27 cs) :
    Kept w1 ((((((w1.setCell ⟨s, 0, none⟩ u0).setCell ⟨s, 1, none⟩ u1).setCell ⟨s, 2, none⟩ u2).setCell ⟨s, 3, none⟩ u3).setCell ⟨s, 4, none⟩ u4).setCell ⟨s, 5, none⟩ u5) := by
  have k0 := hk.put 0 u0
  have k1 := k0.put 1 u1
  have k2 := k1.put 2 u2
  have k3 := k2.put 3 u3
  have k4 := k3.put 4 u4
  exact (Kept.setCell (p := ⟨s, 0, none⟩) hk rfl u0).trans ((Kept.setCell (p := ⟨s, 1, none⟩) k0 rfl u1).trans ((Kept.setCell (p := ⟨s, 2, none⟩) k1 rfl u2).trans ((Kept.setCell (p := ⟨s, 3, none⟩) k2 rfl u3).trans ((Kept.setCell (p := ⟨s, 4, none⟩) k3 rfl u4).trans (Kept.setCell (p := ⟨s, 5, none⟩) k4 rfl u5)))))
theorem kinds (k : Int) : ∃ K : Int, (wrap64 (k.tmod 10 + 10)).tmod 10 = K ∧ (K = 0 ∨ K = 1 ∨ K = 2 ∨ K = 3 ∨ K = 4 ∨ K = 5 ∨ K = 6 ∨ K = 7 ∨ K = 8 ∨ K = 9) := by
  refine ⟨_, rfl, ?_⟩
  have h1 : -10 < k.tmod 10 ∧ k.tmod 10 < 10 := by
    have e := Int.tmod_add_mul_tdiv k 10
    rcases Int.le_total 0 k with h | h
    · exact ⟨by have := Int.tmod_nonneg (a := k) 10 h; omega, Int.tmod_lt_of_pos k (by decide)⟩
    · have h1 := Int.tmod_lt_of_pos (-k) (b := 10) (by decide)
      have h2 := Int.tmod_nonneg (a := -k) 10 (by omega)
      rw [Int.neg_tmod] at h1 h2
      omega
  generalize k.tmod 10 = r at h1
  have h2 : wrap64 (r + 10) = r + 10 := by unfold wrap64; omega
  rw [h2]
  have h3 : 0 ≤ (r + 10).tmod 10 := Int.tmod_nonneg _ (by omega)
  have h4 : (r + 10).tmod 10 < 10 := Int.tmod_lt_of_pos _ (by decide)
  generalize (r + 10).tmod 10 = q at h3 h4
  omega

section
variable {k : Int} {neg : Bool} {a : Option Addr} {l : List UInt8} {c : Nat} {b : Nat} {t : ByteArray} {ka : Option Addr} {kn kc : Nat} {w : World}
set_option maxHeartbeats 2000000 in
set_option maxRecDepth 100000 in
theorem clean_none (h : (wrap64 (k.tmod 10 + 10)).tmod 10 = 0 ∨ (wrap64 (k.tmod 10 + 10)).tmod 10 = 6) : Calls Tryz.prog 33 #[.agg #[.int .i64 k, .bool neg, .slice a l.length c, .int .u64 b, .string t, .slice ka kn kc], .int .i64 0] w (SomeSc w) := by
  rcases h with h | h
  all_goals
    go_enter Tryz.func33, Tryz.ntmps33
    go_wp2
    exact bodyPost_ret (v := .agg #[.int .i64 0, .bool false, .slice none 0 0, .int .u64 0, .string ⟨#[]⟩, .slice none 0 0]) (by simp [results, Tryz.results33, go_sem]) rfl ⟨⟨_, .none, rfl, rfl, trivial⟩, ((below_one' _ (Nat.le_refl _)).alloc (by simp) _)⟩
set_option maxHeartbeats 2000000 in
set_option maxRecDepth 100000 in
theorem clean_float (h : (wrap64 (k.tmod 10 + 10)).tmod 10 = 3 ∨ (wrap64 (k.tmod 10 + 10)).tmod 10 = 9) : Calls Tryz.prog 33 #[.agg #[.int .i64 k, .bool neg, .slice a l.length c, .int .u64 b, .string t, .slice ka kn kc], .int .i64 0] w (SomeSc w) := by
  rcases h with h | h
  all_goals
    go_enter Tryz.func33, Tryz.ntmps33
    go_wp2
    exact bodyPost_ret (v := .agg #[.int .i64 3, .bool false, .slice none 0 0, .int .u64 b, .string ⟨#[]⟩, .slice none 0 0]) (by simp [results, Tryz.results33, go_sem]) rfl ⟨⟨_, .float b, rfl, rfl, trivial⟩, ((below_one' _ (Nat.le_refl _)).alloc (by simp) _)⟩
set_option maxHeartbeats 2000000 in
set_option maxRecDepth 100000 in
theorem clean_text (by_ : Bool) (ht : t.size ≤ 9223372036854775807) (h : (wrap64 (k.tmod 10 + 10)).tmod 10 = if by_ then 5 else 4) : Calls Tryz.prog 33 #[.agg #[.int .i64 k, .bool neg, .slice a l.length c, .int .u64 b, .string t, .slice ka kn kc], .int .i64 0] w (SomeSc w) := by
  obtain ⟨M, hM, hM1, hM2⟩ : ∃ M : Nat, min (t.size : Int) 60 = M ∧ M ≤ 60 ∧ M ≤ t.size := ⟨min t.size 60, by omega, by omega, by omega⟩
  cases by_
  · simp only [Bool.false_eq_true, if_false] at h
    go_enter Tryz.func33, Tryz.ntmps33
    go_wp2
    exact bodyPost_ret (v := .agg #[.int .i64 4, .bool false, .slice none 0 0, .int .u64 0, .string (t.extract 0 M), .slice none 0 0]) (by simp [results, Tryz.results33, go_sem]) rfl ⟨⟨_, .text false (t.extract 0 M), rfl, rfl, by simp [Sc.ok]; omega⟩, ((below_one' _ (Nat.le_refl _)).alloc (by simp) _)⟩
  · simp only [if_true] at h
    go_enter Tryz.func33, Tryz.ntmps33
    go_wp2
    exact bodyPost_ret (v := .agg #[.int .i64 5, .bool false, .slice none 0 0, .int .u64 0, .string (t.extract 0 M), .slice none 0 0]) (by simp [results, Tryz.results33, go_sem]) rfl ⟨⟨_, .text true (t.extract 0 M), rfl, rfl, by simp [Sc.ok]; omega⟩, ((below_one' _ (Nat.le_refl _)).alloc (by simp) _)⟩
set_option maxHeartbeats 2000000 in
set_option maxRecDepth 100000 in
theorem clean_bool (h : (wrap64 (k.tmod 10 + 10)).tmod 10 = 1 ∨ (wrap64 (k.tmod 10 + 10)).tmod 10 = 7) : Calls Tryz.prog 33 #[.agg #[.int .i64 k, .bool neg, .slice a l.length c, .int .u64 b, .string t, .slice ka kn kc], .int .i64 0] w (SomeSc w) := by
  obtain ⟨X, hX⟩ : ∃ X, (bits BinOp.and IntKind.u64 (b : Int) 1 == 1) = X := ⟨_, rfl⟩
  obtain ⟨N, hN⟩ : ∃ N : Int, (if X then 1 else 0) = N := ⟨_, rfl⟩
  have hbv := Lib.hid fun W => boolval_any X W
  rw [hN] at hbv
  unfold six0 V6.arr at hbv
  have hsc := Lib.hid (show ∀ w', IsSc w' (six0 1 false (.slice none 0 0) N ⟨#[]⟩) (.bool X) from fun w' => by rw [← hN]; rfl)
  clear hN
  obtain ⟨W, hW⟩ : ∃ W, (w.alloc (.cells #[.int .i64 k, .bool neg, .slice a l.length c, .int .u64 b, .string t, .slice ka kn kc] 27)).alloc (.cells #[.int .i64 0, .bool false, .slice none 0 0, .int .u64 0, .string ⟨#[]⟩, .slice none 0 0] 27) = W := ⟨_, rfl⟩
  have hb1 : Below w.heap.size w W := by rw [← hW]; exact (below_one' _ (Nat.le_refl _)).alloc (by simp) _
  have hk1 : Box.Holds W (w.heap.size + 1) 27 #[.int .i64 0, .bool false, .slice none 0 0, .int .u64 0, .string ⟨#[]⟩, .slice none 0 0] := by
    rw [← hW]
    have := Box.Holds.made (w.alloc (.cells #[.int .i64 k, .bool neg, .slice a l.length c, .int .u64 b, .string t, .slice ka kn kc] 27)) 27 #[.int .i64 0, .bool false, .slice none 0 0, .int .u64 0, .string ⟨#[]⟩, .slice none 0 0]
    rwa [World.size_alloc] at this
  have hb1' := Lib.hid hb1
  have hk1' := Lib.hid hk1
  have hW' := Lib.hid hW
  clear hb1 hk1 hW
  rcases h with h | h
  all_goals
    go_enter Tryz.func33, Tryz.ntmps33
    go_wp2_with fail
    rw [hW'.out]
    refine (hbv.out _).mono ?_
    rintro e w2 ⟨rfl, hb2⟩
    obtain ⟨p0, p1, p2, p3, p4, p5, pl, f0, f1, f2, f3, f4, f5⟩ := Rem.val_facts (hk1'.out.later hb2)
    have hfin := Lib.hid (Rem.six_below (.int .i64 1) (.bool false) (.slice none 0 0) (.int .u64 N) (.string ⟨#[]⟩) (.slice none 0 0) (hb1'.out.trans (hb2.mono hb1'.out.size)) (Nat.le_succ w.heap.size))
    clear hb2 hb1' hk1' hW'
    go_wp2
    exact bodyPost_ret (v := .agg #[.int .i64 1, .bool false, .slice none 0 0, .int .u64 N, .string ⟨#[]⟩, .slice none 0 0]) (by simp [results, Tryz.results33, go_sem, p0, p1, p2, p3, p4, p5]) rfl ⟨⟨six0 1 false (.slice none 0 0) N ⟨#[]⟩, .bool X, rfl, hsc.out _, trivial⟩, hfin.out⟩
set_option maxHeartbeats 2000000 in
set_option maxRecDepth 100000 in
theorem clean_int (hr : Rd w a l) (hc : l.length ≤ c) (ha : a = none → c = 0) (hl : l.length ≤ 9223372036854775807) (h : (wrap64 (k.tmod 10 + 10)).tmod 10 = 2 ∨ (wrap64 (k.tmod 10 + 10)).tmod 10 = 8) : Calls Tryz.prog 33 #[.agg #[.int .i64 k, .bool neg, .slice a l.length c, .int .u64 b, .string t, .slice ka kn kc], .int .i64 0] w (SomeSc w) := by
  obtain ⟨M, hM, hM1, hM2⟩ : ∃ M : Nat, min (l.length : Int) 40 = M ∧ M ≤ 40 ∧ M ≤ l.length := ⟨min l.length 40, by omega, by omega, by omega⟩
  obtain ⟨W, hW⟩ : ∃ W, (w.alloc (.cells #[.int .i64 k, .bool neg, .slice a l.length c, .int .u64 b, .string t, .slice ka kn kc] 27)).alloc (.cells #[.int .i64 0, .bool false, .slice none 0 0, .int .u64 0, .string ⟨#[]⟩, .slice none 0 0] 27) = W := ⟨_, rfl⟩
  have hb1 : Below w.heap.size w W := by rw [← hW]; exact (below_one' _ (Nat.le_refl _)).alloc (by simp) _
  have hsz : w.heap.size + 1 < W.heap.size := by rw [← hW]; simp
  have hk1 : Box.Holds W (w.heap.size + 1) 27 #[.int .i64 0, .bool false, .slice none 0 0, .int .u64 0, .string ⟨#[]⟩, .slice none 0 0] := by
    rw [← hW]
    have := Box.Holds.made (w.alloc (.cells #[.int .i64 k, .bool neg, .slice a l.length c, .int .u64 b, .string t, .slice ka kn kc] 27)) 27 #[.int .i64 0, .bool false, .slice none 0 0, .int .u64 0, .string ⟨#[]⟩, .slice none 0 0]
    rwa [World.size_alloc] at this
  have hk0 : Box.Holds W w.heap.size 27 #[.int .i64 k, .bool neg, .slice a l.length c, .int .u64 b, .string t, .slice ka kn kc] := by
    rw [← hW]
    exact (Box.Holds.made w _ _).alloc _
  have j1 := hk0.cell 1
  have j2 := hk0.cell 2
  simp at j1 j2
  have htl : (l.take M).length = M := by simp; omega
  have hbl := be_lt (l.take M)
  have hVM : be (l.take M) < 256 ^ 40 := Nat.lt_of_lt_of_le hbl (Nat.pow_le_pow_right (by decide) (by omega))
  have hof := Lib.hid (of_any neg a c (l.take M) W.drew ((show Rd W.drew a l from (hr.later (Below.drew hb1))).take M) (by omega) (by omega) ha)
  rw [htl] at hof
  obtain ⟨V, hV⟩ : ∃ V, be (l.take M) = V := ⟨_, rfl⟩
  rw [hV] at hof hVM
  obtain ⟨G, hG⟩ : ∃ G, (neg && decide (0 < V)) = G := ⟨_, rfl⟩
  have hG' := Lib.hid (show G = true → 0 < V from fun h => by rw [← hG] at h; simp at h; exact h.2)
  rw [hG] at hof
  have hml : (mag V).length ≤ 2147483647 := Nat.le_trans (mag_len_le hVM) (by decide)
  have hiv := Lib.hid fun x B W h => intval_any x G V B W h hml
  have hMc : M ≤ c := by omega
  have hb1' := Lib.hid hb1
  have hk1' := Lib.hid hk1
  have hW' := Lib.hid hW
  have hVM' := Lib.hid hVM
  clear hb1 hk1 hW hbl htl hV hG hVM hr hk0 ha hml
  rcases h with h | h
  all_goals
    go_enter Tryz.func33, Tryz.ntmps33
    go_wp2_with fail
    rw [hW'.out]
    clear hW'
    go_still_tail 9, (by kernel_rfl)
    change wpList _ _ _ _ _ W.drew
    go_wp2_with fail
    refine hof.out.mono ?_
    rintro e w2 ⟨⟨x, rfl, hx⟩, hb2⟩
    have hb2' := Lib.hid (show Below w.heap.size w w2 from (Below.drew hb1'.out).trans (hb2.mono hb1'.out.size))
    have hk2 := Lib.hid (Box.Holds.below (w := W.drew) hk1'.out hb2 hsz)
    have hx' := Lib.hid hx
    clear hx hb2
    go_wp2_with fail
    refine (hiv.out _ _ w2 hx'.out).mono ?_
    rintro e w3 ⟨⟨u, rfl, hu⟩, hb3⟩
    obtain ⟨p0, p1, p2, p3, p4, p5, pl, f0, f1, f2, f3, f4, f5⟩ := Rem.val_facts (hk2.out.later hb3)
    obtain ⟨ua, uc, hue, -⟩ := Mg.of_owns hu
    obtain ⟨n, hn⟩ : ∃ n, (mag V).length = n := ⟨_, rfl⟩
    rw [hn] at hue
    subst hue
    have hfin := Lib.hid (show IsSc ((((((w3.setCell ⟨w.heap.size + 1, 0, none⟩ (.int .i64 2)).setCell ⟨w.heap.size + 1, 1, none⟩ (.bool G)).setCell ⟨w.heap.size + 1, 2, none⟩ (.slice ua n uc)).setCell ⟨w.heap.size + 1, 3, none⟩ (.int .u64 0)).setCell ⟨w.heap.size + 1, 4, none⟩ (.string ⟨#[]⟩)).setCell ⟨w.heap.size + 1, 5, none⟩ (.slice none 0 0)) (six0 2 G (.slice ua n uc) 0 ⟨#[]⟩) (.int G V) ∧ Sc.ok (.int G V) ∧
        Below w.heap.size w ((((((w3.setCell ⟨w.heap.size + 1, 0, none⟩ (.int .i64 2)).setCell ⟨w.heap.size + 1, 1, none⟩ (.bool G)).setCell ⟨w.heap.size + 1, 2, none⟩ (.slice ua n uc)).setCell ⟨w.heap.size + 1, 3, none⟩ (.int .u64 0)).setCell ⟨w.heap.size + 1, 4, none⟩ (.string ⟨#[]⟩)).setCell ⟨w.heap.size + 1, 5, none⟩ (.slice none 0 0)) from
      ⟨⟨_, rfl, (Mg.of_owns hu).kept (six_kept _ _ _ _ _ _ (hk2.out.later hb3))⟩, ⟨hG'.out, hVM'.out⟩, Rem.six_below _ _ _ _ _ _ (hb2'.out.trans (hb3.mono hb2'.out.size)) (Nat.le_succ _)⟩)
    clear hb3 hu hk2 hb2' hx' hn
    go_wp2
    exact bodyPost_ret (v := .agg #[.int .i64 2, .bool G, .slice ua n uc, .int .u64 0, .string ⟨#[]⟩, .slice none 0 0]) (by simp [results, Tryz.results33, go_sem, p0, p1, p2, p3, p4, p5]) rfl ⟨⟨_, _, rfl, hfin.out.1, hfin.out.2.1⟩, hfin.out.2.2⟩
end
theorem clean_any (x : V6) (w : World) (h : ElIn w x) : Calls Tryz.prog 33 #[.agg x.arr, .int .i64 0] w (SomeSc w) := by
  obtain ⟨k, neg, a, l, c, b, t, ka, kn, kc, rfl, hr, hc, ha, hl, ht, hkn, hb⟩ := h
  obtain ⟨K, hK, h | h | h | h | h | h | h | h | h | h⟩ := kinds k
  all_goals rw [h] at hK
  · exact clean_none (.inl hK)
  · exact clean_bool (.inl hK)
  · exact clean_int hr hc ha hl (.inl hK)
  · exact clean_float (.inl hK)
  · exact clean_text false ht hK
  · exact clean_text true ht hK
  · exact clean_none (.inr hK)
  · exact clean_bool (.inr hK)
  · exact clean_int hr hc ha hl (.inr hK)
  · exact clean_float (.inr hK)
end Go.Proofs.YtkflmgpigidkeaaGreat.Sc
