/-
  Values without parts, as the reference holds them and as the program does; what keeps them. The reference's way to a value without parts, out of any value. The program's value of a value without parts, and back. A value without parts, told by the program: its six cells. Rows of values without parts, of the reference and of the program, and what append and make do to them. Lists of values without parts: made, told. Append to a row of the program's values, and where the row lies behind it; stores into it.
-/
import Derived.Test.YtafbheamnjmfoaaGreatRowsOwn
import Derived.Test.YtafbheamnjmfoaaGreatNumOut
import Derived.OneCell
import Derived.Deep.RegionLaw
import Derived.Deep.RegionWith
import Derived.StillTailTactics
import Derived.Deep.QuietTactic
import Derived.BigQuiet
import Derived.Laws.EntriesVeiled
import Derived.Laws.MakeOwn
import Derived.LoopTactic
import Derived.Deep.AppendLies
namespace Go.Proofs.YtafbheamnjmfoaaGreat.Sc
open Go.RowKit Go.WideShapes Go.Proofs.YtafbheamnjmfoaaGreat.Own Go.Proofs.YtafbheamnjmfoaaGreat.Num Go.Proofs.YtafbheamnjmfoaaGreat.Ref Go.Proofs.YtafbheamnjmfoaaGreat.Nat_ Go.Proofs.YtafbheamnjmfoaaGreat.Big Go.Proofs.YtafbheamnjmfoaaGreat.VRow
set_option linter.unusedVariables false

/-- the blocks that bear numbers: bytes, words, integers -/
def numT (t : TypeId) : Bool := t == 5 || t == 189 || t == 147
/-- each block that bears numbers is as it was -/
def Kept (w w' : World) : Prop := ∀ (g : Nat) (cs : Array Value) (t : TypeId) (fz : Nat × Nat), numT t = true → w.heap[g]? = some (.cells cs t fz) → w'.heap[g]? = some (.cells cs t fz)
theorem Kept.refl (w : World) : Kept w w := fun _ _ _ _ _ h => h
theorem Kept.trans {a b c : World} (h : Kept a b) (h' : Kept b c) : Kept a c := fun g cs t fz hn hh => h' g cs t fz hn (h g cs t fz hn hh)
theorem Kept.of_below {w w' : World} (h : Below w.heap.size w w') : Kept w w' := fun g cs t fz _ hh => (h.block g (Array.getElem?_eq_some_iff.1 hh).1).trans hh
theorem Kept.of_block {w w' : World} {k : Nat} {cs : Array Value} {t : TypeId} {fz : Nat × Nat} (hk : w.heap[k]? = some (.cells cs t fz)) (ht : numT t = false) (h : ∀ g, g < w.heap.size → g ≠ k → w'.heap[g]? = w.heap[g]?) : Kept w w' := fun g cs' t' fz' hn hh => by
  have hg := (Array.getElem?_eq_some_iff.1 hh).1
  by_cases e : g = k
  · subst e
    rw [hk] at hh
    cases hh
    rw [ht] at hn
    cases hn
  · exact (h g hg e).trans hh
theorem Kept.setCell {w : World} {p : Addr} {cs : Array Value} {t : TypeId} {fz : Nat × Nat} (hk : w.heap[p.block]? = some (.cells cs t fz)) (ht : numT t = false) (u : Value) : Kept w (w.setCell p u) :=
  Kept.of_block hk ht fun g _ hne => Below.heap_setCell w p u g (fun e => hne e)
theorem Kept.grown {w w' : World} {B e size n : Nat} {v : Value} {xs : List Value} (hown : w.ownsRow B e size v n xs) (he : numT e = false) (hg : w.grownBy w' v.ownBlock) : Kept w w' := by
  rcases hown.2 with ⟨rfl, _⟩ | ⟨g, cap, cur, rfl, _, hh, _⟩
  · exact fun g cs t fz _ hh => (hg.block g (Array.getElem?_eq_some_iff.1 hh).1 (by simp [Value.ownBlock])).trans hh
  · exact Kept.of_block hh he fun k hk hne => hg.block k hk (by simp [Value.ownBlock]; omega)
theorem Kept.cell {w w' : World} (h : Kept w w') {a : Addr} {cs : Array Value} {t : TypeId} {fz : Nat × Nat} (ht : numT t = true) (hk : w.heap[a.block]? = some (.cells cs t fz)) : w'.cell? a = w.cell? a :=
  World.cell?_of_block ((h _ _ _ _ ht hk).trans hk.symm)

/-- a slice that reads as these bytes, in a block of bytes -/
def Mg (w : World) (v : Value) (l : List UInt8) : Prop := ∃ a cap, v = .slice a l.length cap ∧ Rd w a l ∧ l.length ≤ cap ∧ (a = none → cap = 0) ∧ ∀ x, a = some x → ∃ cs fz, w.heap[x.block]? = some (.cells cs 5 fz)
theorem Mg.kept {w w' : World} {v : Value} {l : List UInt8} (h : Mg w v l) (hk : Kept w w') : Mg w' v l := by
  obtain ⟨a, c, h1, h2, h3, h4, h5⟩ := h
  refine ⟨a, c, h1, ?_, h3, h4, fun x hx => ?_⟩
  · rcases h2 with h | ⟨x, rfl, hx, hc⟩
    · exact .inl h
    · obtain ⟨cs, fz, hh⟩ := h5 x rfl
      refine .inr ⟨x, rfl, fun _ => (Array.getElem?_eq_some_iff.1 (hk _ _ _ _ rfl hh)).1, fun j hj => ?_⟩
      rw [hk.cell (a := x.add j) rfl (by rw [block_add]; exact hh)]
      exact hc j hj
  · obtain ⟨cs, fz, hh⟩ := h5 x hx
    exact ⟨cs, fz, hk _ _ _ _ rfl hh⟩
theorem Mg.of_rds {w : World} {B : Nat} {v : Value} {l : List UInt8} (h : RdS w B v l) : Mg w v l := by
  obtain ⟨a, c, h1, h2, h3, h4, h5⟩ := h
  exact ⟨a, c, h1, h2, h3, h4, fun x hx => (h5 x hx).2⟩
theorem Mg.of_owns {w : World} {B : Nat} {v : Value} {l : List UInt8} (h : Owns w B v l) : Mg w v l := by
  obtain ⟨a, c, rfl, hr, hc⟩ := Rd.of_own h
  refine ⟨a, c, rfl, hr, hc, fun h0 => ?_, fun x hx => ?_⟩
  · rcases h.2 with ⟨e, _⟩ | ⟨g, c', cur, e, _⟩
    · simp only [Value.slice.injEq] at e; exact e.2.2
    · subst h0; cases e
  · rcases h.2 with ⟨e, _⟩ | ⟨g, c', cur, e, hB, hh, _⟩
    · subst hx; cases e
    · subst hx; cases e; exact ⟨_, _, hh⟩
theorem SInt.kept {w w' : World} {B : Nat} {v : Value} {z : Int} (h : SInt w B v z) (hk : Kept w w') : SInt w' B v z := by
  rcases h with h | ⟨g, neg, V, h1, h2, ⟨x, k1, k2, k3⟩, h4⟩
  · exact .inl h
  · refine .inr ⟨g, neg, V, h1, h2, ⟨x, hk _ _ _ _ rfl k1, ?_, k3⟩, h4⟩
    refine ⟨k2.1, ?_⟩
    rcases k2.2 with hn | ⟨g', cap, cur, rfl, hB, hg, rest⟩
    · exact .inl hn
    · exact .inr ⟨g', cap, cur, rfl, hB, hk _ _ _ _ rfl hg, rest⟩

/-- a value without parts -/
inductive Sc where
  | none
  | bool (b : Bool)
  | int (neg : Bool) (m : Nat)
  | float (b : Nat)
  | text (bytes : Bool) (t : ByteArray)
def Sc.ok : Sc → Prop
  | .int neg m => (neg = true → 0 < m) ∧ m < 256 ^ 40
  | .text _ t => t.size ≤ 60
  | _ => True
def six0 (k : Int) (neg : Bool) (mag : Value) (b : Int) (t : ByteArray) : V6 := ⟨.int .i64 k, .bool neg, mag, .int .u64 b, .string t, .slice Option.none 0 0⟩
/-- the reference's six cells of it -/
def IsSc (w : World) (x : V6) : Sc → Prop
  | .none => x = six0 0 false (.slice Option.none 0 0) 0 ⟨#[]⟩
  | .bool b => x = six0 1 false (.slice Option.none 0 0) (if b then 1 else 0) ⟨#[]⟩
  | .int neg m => ∃ u, x = six0 2 neg u 0 ⟨#[]⟩ ∧ Mg w u (mag m)
  | .float b => x = six0 3 false (.slice Option.none 0 0) b ⟨#[]⟩
  | .text by_ t => x = six0 (if by_ then 5 else 4) false (.slice Option.none 0 0) 0 t
theorem IsSc.kept {w w' : World} {x : V6} {s : Sc} (h : IsSc w x s) (hk : Kept w w') : IsSc w' x s := by
  cases s with
  | int neg m =>
    obtain ⟨u, h1, h2⟩ := h
    exact ⟨u, h1, h2.kept hk⟩
  | none => exact h
  | bool b => exact h
  | float b => exact h
  | text k t => exact h
theorem six0_one {k : Int} {neg : Bool} {m : Value} {b : Int} {t : ByteArray} (hm : m.oneCell' = true) : (six0 k neg m b t).One := by
  intro u hu
  simp [V6.cs, six0] at hu
  rcases hu with rfl | rfl | rfl | rfl | rfl | rfl <;> first | rfl | exact hm
theorem IsSc.one {w : World} {x : V6} {s : Sc} (h : IsSc w x s) : x.One := by
  cases s with
  | int neg m =>
    obtain ⟨u, rfl, a, c, rfl, _⟩ := h
    exact six0_one rfl
  | none => exact (show x = _ from h) ▸ six0_one rfl
  | bool b => exact (show x = _ from h) ▸ six0_one rfl
  | float b => exact (show x = _ from h) ▸ six0_one rfl
  | text k t => exact (show x = _ from h) ▸ six0_one rfl
/-- the program's value of it -/
def IsPv (w : World) (v : Value) : Sc → Prop
  | .none => v = .iface 84 (.int .u8 0)
  | .bool b => v = .iface 85 (.bool b)
  | .int neg m => ∃ u B, v = .iface 90 u ∧ SInt w B u (sg neg m)
  | .float b => v = .iface 92 (.float .f64 b)
  | .text by_ t => v = .iface (if by_ then 95 else 94) (.string t)
theorem IsPv.kept {w w' : World} {x : Value} {s : Sc} (h : IsPv w x s) (hk : Kept w w') : IsPv w' x s := by
  cases s with
  | int neg m =>
    obtain ⟨u, B, h1, h2⟩ := h
    exact ⟨u, B, h1, SInt.kept h2 hk⟩
  | none => exact h
  | bool b => exact h
  | float b => exact h
  | text k t => exact h
end Go.Proofs.YtafbheamnjmfoaaGreat.Sc

namespace Go.Proofs.YtafbheamnjmfoaaGreat.Sc
open Go.RowKit Go.WideShapes Go.Proofs.YtafbheamnjmfoaaGreat.Own Go.Proofs.YtafbheamnjmfoaaGreat.Num Go.Proofs.YtafbheamnjmfoaaGreat.Ref Go.Proofs.YtafbheamnjmfoaaGreat.Nat_ Go.Proofs.YtafbheamnjmfoaaGreat.Big Go.Proofs.YtafbheamnjmfoaaGreat.VRow
set_option linter.unusedVariables false

/-- the six cells of a value that came in -/
def ElIn (w : World) (x : V6) : Prop := ∃ (k : Int) (neg : Bool) (a : Option Addr) (l : List UInt8) (c : Nat) (b : Nat) (t : ByteArray) (ka : Option Addr) (kn kc : Nat), x = ⟨.int .i64 k, .bool neg, .slice a l.length c, .int .u64 b, .string t, .slice ka kn kc⟩ ∧
  Rd w a l ∧ l.length ≤ c ∧ (a = Option.none → c = 0) ∧ l.length ≤ 9223372036854775807 ∧ t.size ≤ 9223372036854775807 ∧ kn ≤ 9223372036854775807 ∧ b < 18446744073709551616

set_option maxRecDepth 100000 in
theorem boolval_any (b : Bool) (w : World) : Calls Tryz.prog 51 #[.bool b] w fun e w' => e = .returned (.agg (six0 1 false (.slice Option.none 0 0) (if b then 1 else 0) ⟨#[]⟩).arr) ∧ Below w.heap.size w w' := by
  cases b
  · go_enter Tryz.func51, Tryz.ntmps51
    go_wp2
    exact bodyPost_ret (v := .agg #[.int .i64 1, .bool false, .slice none 0 0, .int .u64 0, .string ⟨#[]⟩, .slice none 0 0]) (by simp [results, Tryz.results51, go_sem]) rfl ⟨rfl, below_one' _ (Nat.le_refl _)⟩
  · go_enter Tryz.func51, Tryz.ntmps51
    go_wp2
    exact bodyPost_ret (v := .agg #[.int .i64 1, .bool false, .slice none 0 0, .int .u64 1, .string ⟨#[]⟩, .slice none 0 0]) (by simp [results, Tryz.results51, go_sem]) rfl ⟨rfl, below_one' _ (Nat.le_refl _)⟩

def SomeSc (w : World) (e : Ending) (w' : World) : Prop := (∃ y s, e = .returned (.agg (V6.arr y)) ∧ IsSc w' y s ∧ s.ok) ∧ Below w.heap.size w w'

theorem six_kept {w1 : World} {s : Nat} {cs : Array Value} (u0 u1 u2 u3 u4 u5 : Value) (hk : Box.Holds w1 s 28 cs) :
    Kept w1 ((((((w1.setCell ⟨s, 0, none⟩ u0).setCell ⟨s, 1, none⟩ u1).setCell ⟨s, 2, none⟩ u2).setCell ⟨s, 3, none⟩ u3).setCell ⟨s, 4, none⟩ u4).setCell ⟨s, 5, none⟩ u5) := by
  have k0 := hk.put 0 u0
  have k1 := k0.put 1 u1
  have k2 := k1.put 2 u2
  have k3 := k2.put 3 u3
  have k4 := k3.put 4 u4
  exact (Kept.setCell (p := ⟨s, 0, none⟩) hk rfl u0).trans ((Kept.setCell (p := ⟨s, 1, none⟩) k0 rfl u1).trans ((Kept.setCell (p := ⟨s, 2, none⟩) k1 rfl u2).trans ((Kept.setCell (p := ⟨s, 3, none⟩) k2 rfl u3).trans ((Kept.setCell (p := ⟨s, 4, none⟩) k3 rfl u4).trans (Kept.setCell (p := ⟨s, 5, none⟩) k4 rfl u5)))))
theorem kinds (k : Int) : ∃ K : Int, (wrap64 (k.tmod 10 + 10)).tmod 10 = K ∧ (K = 0 ∨ K = 1 ∨ K = 2 ∨ K = 3 ∨ K = 4 ∨ K = 5 ∨ K = 6 ∨ K = 7 ∨ K = 8 ∨ K = 9) := by
  refine ⟨_, rfl, ?_⟩
  have h1 : -10 < k.tmod 10 ∧ k.tmod 10 < 10 := by
    have e := Int.tmod_add_mul_tdiv k 10
    rcases Int.le_total 0 k with h | h
    · exact ⟨by have := Int.tmod_nonneg (a := k) 10 h; omega, Int.tmod_lt_of_pos k (by decide)⟩
    · have h1 := Int.tmod_lt_of_pos (-k) (b := 10) (by decide)
      have h2 := Int.tmod_nonneg (a := -k) 10 (by omega)
      rw [Int.neg_tmod] at h1 h2
      omega
  generalize k.tmod 10 = r at h1
  have h2 : wrap64 (r + 10) = r + 10 := by unfold wrap64; omega
  rw [h2]
  have h3 : 0 ≤ (r + 10).tmod 10 := Int.tmod_nonneg _ (by omega)
  have h4 : (r + 10).tmod 10 < 10 := Int.tmod_lt_of_pos _ (by decide)
  generalize (r + 10).tmod 10 = q at h3 h4
  omega

section
variable {k : Int} {neg : Bool} {a : Option Addr} {l : List UInt8} {c : Nat} {b : Nat} {t : ByteArray} {ka : Option Addr} {kn kc : Nat} {w : World}
set_option maxHeartbeats 2000000 in
set_option maxRecDepth 100000 in
theorem clean_none (h : (wrap64 (k.tmod 10 + 10)).tmod 10 = 0 ∨ (wrap64 (k.tmod 10 + 10)).tmod 10 = 6) : Calls Tryz.prog 29 #[.agg #[.int .i64 k, .bool neg, .slice a l.length c, .int .u64 b, .string t, .slice ka kn kc], .int .i64 0] w (SomeSc w) := by
  rcases h with h | h
  all_goals
    go_enter Tryz.func29, Tryz.ntmps29
    go_wp2
    exact bodyPost_ret (v := .agg #[.int .i64 0, .bool false, .slice none 0 0, .int .u64 0, .string ⟨#[]⟩, .slice none 0 0]) (by simp [results, Tryz.results29, go_sem]) rfl ⟨⟨_, .none, rfl, rfl, trivial⟩, ((below_one' _ (Nat.le_refl _)).alloc (by simp) _)⟩
set_option maxHeartbeats 2000000 in
set_option maxRecDepth 100000 in
theorem clean_float (h : (wrap64 (k.tmod 10 + 10)).tmod 10 = 3 ∨ (wrap64 (k.tmod 10 + 10)).tmod 10 = 9) : Calls Tryz.prog 29 #[.agg #[.int .i64 k, .bool neg, .slice a l.length c, .int .u64 b, .string t, .slice ka kn kc], .int .i64 0] w (SomeSc w) := by
  rcases h with h | h
  all_goals
    go_enter Tryz.func29, Tryz.ntmps29
    go_wp2
    exact bodyPost_ret (v := .agg #[.int .i64 3, .bool false, .slice none 0 0, .int .u64 b, .string ⟨#[]⟩, .slice none 0 0]) (by simp [results, Tryz.results29, go_sem]) rfl ⟨⟨_, .float b, rfl, rfl, trivial⟩, ((below_one' _ (Nat.le_refl _)).alloc (by simp) _)⟩
set_option maxHeartbeats 2000000 in
set_option maxRecDepth 100000 in
theorem clean_text (by_ : Bool) (ht : t.size ≤ 9223372036854775807) (h : (wrap64 (k.tmod 10 + 10)).tmod 10 = if by_ then 5 else 4) : Calls Tryz.prog 29 #[.agg #[.int .i64 k, .bool neg, .slice a l.length c, .int .u64 b, .string t, .slice ka kn kc], .int .i64 0] w (SomeSc w) := by
  obtain ⟨M, hM, hM1, hM2⟩ : ∃ M : Nat, min (t.size : Int) 60 = M ∧ M ≤ 60 ∧ M ≤ t.size := ⟨min t.size 60, by omega, by omega, by omega⟩
  cases by_
  · simp only [Bool.false_eq_true, if_false] at h
    go_enter Tryz.func29, Tryz.ntmps29
    go_wp2
    exact bodyPost_ret (v := .agg #[.int .i64 4, .bool false, .slice none 0 0, .int .u64 0, .string (t.extract 0 M), .slice none 0 0]) (by simp [results, Tryz.results29, go_sem]) rfl ⟨⟨_, .text false (t.extract 0 M), rfl, rfl, by simp [Sc.ok]; omega⟩, ((below_one' _ (Nat.le_refl _)).alloc (by simp) _)⟩
  · simp only [if_true] at h
    go_enter Tryz.func29, Tryz.ntmps29
    go_wp2
    exact bodyPost_ret (v := .agg #[.int .i64 5, .bool false, .slice none 0 0, .int .u64 0, .string (t.extract 0 M), .slice none 0 0]) (by simp [results, Tryz.results29, go_sem]) rfl ⟨⟨_, .text true (t.extract 0 M), rfl, rfl, by simp [Sc.ok]; omega⟩, ((below_one' _ (Nat.le_refl _)).alloc (by simp) _)⟩
set_option maxHeartbeats 2000000 in
set_option maxRecDepth 100000 in
theorem clean_bool (h : (wrap64 (k.tmod 10 + 10)).tmod 10 = 1 ∨ (wrap64 (k.tmod 10 + 10)).tmod 10 = 7) : Calls Tryz.prog 29 #[.agg #[.int .i64 k, .bool neg, .slice a l.length c, .int .u64 b, .string t, .slice ka kn kc], .int .i64 0] w (SomeSc w) := by
  obtain ⟨X, hX⟩ : ∃ X, (bits BinOp.and IntKind.u64 (b : Int) 1 == 1) = X := ⟨_, rfl⟩
  obtain ⟨N, hN⟩ : ∃ N : Int, (if X then 1 else 0) = N := ⟨_, rfl⟩
  have hbv := Lib.hid fun W => boolval_any X W
  rw [hN] at hbv
  unfold six0 V6.arr at hbv
  have hsc := Lib.hid (show ∀ w', IsSc w' (six0 1 false (.slice none 0 0) N ⟨#[]⟩) (.bool X) from fun w' => by rw [← hN]; rfl)
  clear hN
  obtain ⟨W, hW⟩ : ∃ W, (w.alloc (.cells #[.int .i64 k, .bool neg, .slice a l.length c, .int .u64 b, .string t, .slice ka kn kc] 28)).alloc (.cells #[.int .i64 0, .bool false, .slice none 0 0, .int .u64 0, .string ⟨#[]⟩, .slice none 0 0] 28) = W := ⟨_, rfl⟩
  have hb1 : Below w.heap.size w W := by rw [← hW]; exact (below_one' _ (Nat.le_refl _)).alloc (by simp) _
  have hk1 : Box.Holds W (w.heap.size + 1) 28 #[.int .i64 0, .bool false, .slice none 0 0, .int .u64 0, .string ⟨#[]⟩, .slice none 0 0] := by
    rw [← hW]
    have := Box.Holds.made (w.alloc (.cells #[.int .i64 k, .bool neg, .slice a l.length c, .int .u64 b, .string t, .slice ka kn kc] 28)) 28 #[.int .i64 0, .bool false, .slice none 0 0, .int .u64 0, .string ⟨#[]⟩, .slice none 0 0]
    rwa [World.size_alloc] at this
  have hb1' := Lib.hid hb1
  have hk1' := Lib.hid hk1
  have hW' := Lib.hid hW
  clear hb1 hk1 hW
  rcases h with h | h
  all_goals
    go_enter Tryz.func29, Tryz.ntmps29
    go_wp2_with fail
    rw [hW'.out]
    refine (hbv.out _).mono ?_
    rintro e w2 ⟨rfl, hb2⟩
    obtain ⟨p0, p1, p2, p3, p4, p5, pl, f0, f1, f2, f3, f4, f5⟩ := Rem.val_facts (hk1'.out.later hb2)
    have hfin := Lib.hid (Rem.six_below (.int .i64 1) (.bool false) (.slice none 0 0) (.int .u64 N) (.string ⟨#[]⟩) (.slice none 0 0) (hb1'.out.trans (hb2.mono hb1'.out.size)) (Nat.le_succ w.heap.size))
    clear hb2 hb1' hk1' hW'
    go_wp2
    exact bodyPost_ret (v := .agg #[.int .i64 1, .bool false, .slice none 0 0, .int .u64 N, .string ⟨#[]⟩, .slice none 0 0]) (by simp [results, Tryz.results29, go_sem, p0, p1, p2, p3, p4, p5]) rfl ⟨⟨six0 1 false (.slice none 0 0) N ⟨#[]⟩, .bool X, rfl, hsc.out _, trivial⟩, hfin.out⟩
set_option maxHeartbeats 2000000 in
set_option maxRecDepth 100000 in
theorem clean_int (hr : Rd w a l) (hc : l.length ≤ c) (ha : a = none → c = 0) (hl : l.length ≤ 9223372036854775807) (h : (wrap64 (k.tmod 10 + 10)).tmod 10 = 2 ∨ (wrap64 (k.tmod 10 + 10)).tmod 10 = 8) : Calls Tryz.prog 29 #[.agg #[.int .i64 k, .bool neg, .slice a l.length c, .int .u64 b, .string t, .slice ka kn kc], .int .i64 0] w (SomeSc w) := by
  obtain ⟨M, hM, hM1, hM2⟩ : ∃ M : Nat, min (l.length : Int) 40 = M ∧ M ≤ 40 ∧ M ≤ l.length := ⟨min l.length 40, by omega, by omega, by omega⟩
  obtain ⟨W, hW⟩ : ∃ W, (w.alloc (.cells #[.int .i64 k, .bool neg, .slice a l.length c, .int .u64 b, .string t, .slice ka kn kc] 28)).alloc (.cells #[.int .i64 0, .bool false, .slice none 0 0, .int .u64 0, .string ⟨#[]⟩, .slice none 0 0] 28) = W := ⟨_, rfl⟩
  have hb1 : Below w.heap.size w W := by rw [← hW]; exact (below_one' _ (Nat.le_refl _)).alloc (by simp) _
  have hsz : w.heap.size + 1 < W.heap.size := by rw [← hW]; simp
  have hk1 : Box.Holds W (w.heap.size + 1) 28 #[.int .i64 0, .bool false, .slice none 0 0, .int .u64 0, .string ⟨#[]⟩, .slice none 0 0] := by
    rw [← hW]
    have := Box.Holds.made (w.alloc (.cells #[.int .i64 k, .bool neg, .slice a l.length c, .int .u64 b, .string t, .slice ka kn kc] 28)) 28 #[.int .i64 0, .bool false, .slice none 0 0, .int .u64 0, .string ⟨#[]⟩, .slice none 0 0]
    rwa [World.size_alloc] at this
  have hk0 : Box.Holds W w.heap.size 28 #[.int .i64 k, .bool neg, .slice a l.length c, .int .u64 b, .string t, .slice ka kn kc] := by
    rw [← hW]
    exact (Box.Holds.made w _ _).alloc _
  have j1 := hk0.cell 1
  have j2 := hk0.cell 2
  simp at j1 j2
  have htl : (l.take M).length = M := by simp; omega
  have hbl := be_lt (l.take M)
  have hVM : be (l.take M) < 256 ^ 40 := Nat.lt_of_lt_of_le hbl (Nat.pow_le_pow_right (by decide) (by omega))
  have hof := Lib.hid (of_any neg a c (l.take M) W.drew ((show Rd W.drew a l from (hr.later (Below.drew hb1))).take M) (by omega) (by omega) ha)
  rw [htl] at hof
  obtain ⟨V, hV⟩ : ∃ V, be (l.take M) = V := ⟨_, rfl⟩
  rw [hV] at hof hVM
  obtain ⟨G, hG⟩ : ∃ G, (neg && decide (0 < V)) = G := ⟨_, rfl⟩
  have hG' := Lib.hid (show G = true → 0 < V from fun h => by rw [← hG] at h; simp at h; exact h.2)
  rw [hG] at hof
  have hml : (mag V).length ≤ 2147483647 := Nat.le_trans (mag_len_le hVM) (by decide)
  have hiv := Lib.hid fun x B W h => intval_any x G V B W h hml
  have hMc : M ≤ c := by omega
  have hb1' := Lib.hid hb1
  have hk1' := Lib.hid hk1
  have hW' := Lib.hid hW
  have hVM' := Lib.hid hVM
  clear hb1 hk1 hW hbl htl hV hG hVM hr hk0 ha hml
  rcases h with h | h
  all_goals
    go_enter Tryz.func29, Tryz.ntmps29
    go_wp2_with fail
    rw [hW'.out]
    clear hW'
    go_still_tail 9, (by kernel_rfl)
    change wpList _ _ _ _ _ W.drew
    go_wp2_with fail
    refine hof.out.mono ?_
    rintro e w2 ⟨⟨x, rfl, hx⟩, hb2⟩
    have hb2' := Lib.hid (show Below w.heap.size w w2 from (Below.drew hb1'.out).trans (hb2.mono hb1'.out.size))
    have hk2 := Lib.hid (Box.Holds.below (w := W.drew) hk1'.out hb2 hsz)
    have hx' := Lib.hid hx
    clear hx hb2
    go_wp2_with fail
    refine (hiv.out _ _ w2 hx'.out).mono ?_
    rintro e w3 ⟨⟨u, rfl, hu⟩, hb3⟩
    obtain ⟨p0, p1, p2, p3, p4, p5, pl, f0, f1, f2, f3, f4, f5⟩ := Rem.val_facts (hk2.out.later hb3)
    obtain ⟨ua, uc, hue, -⟩ := Mg.of_owns hu
    obtain ⟨n, hn⟩ : ∃ n, (mag V).length = n := ⟨_, rfl⟩
    rw [hn] at hue
    subst hue
    have hfin := Lib.hid (show IsSc ((((((w3.setCell ⟨w.heap.size + 1, 0, none⟩ (.int .i64 2)).setCell ⟨w.heap.size + 1, 1, none⟩ (.bool G)).setCell ⟨w.heap.size + 1, 2, none⟩ (.slice ua n uc)).setCell ⟨w.heap.size + 1, 3, none⟩ (.int .u64 0)).setCell ⟨w.heap.size + 1, 4, none⟩ (.string ⟨#[]⟩)).setCell ⟨w.heap.size + 1, 5, none⟩ (.slice none 0 0)) (six0 2 G (.slice ua n uc) 0 ⟨#[]⟩) (.int G V) ∧ Sc.ok (.int G V) ∧
        Below w.heap.size w ((((((w3.setCell ⟨w.heap.size + 1, 0, none⟩ (.int .i64 2)).setCell ⟨w.heap.size + 1, 1, none⟩ (.bool G)).setCell ⟨w.heap.size + 1, 2, none⟩ (.slice ua n uc)).setCell ⟨w.heap.size + 1, 3, none⟩ (.int .u64 0)).setCell ⟨w.heap.size + 1, 4, none⟩ (.string ⟨#[]⟩)).setCell ⟨w.heap.size + 1, 5, none⟩ (.slice none 0 0)) from
      ⟨⟨_, rfl, (Mg.of_owns hu).kept (six_kept _ _ _ _ _ _ (hk2.out.later hb3))⟩, ⟨hG'.out, hVM'.out⟩, Rem.six_below _ _ _ _ _ _ (hb2'.out.trans (hb3.mono hb2'.out.size)) (Nat.le_succ _)⟩)
    clear hb3 hu hk2 hb2' hx' hn
    go_wp2
    exact bodyPost_ret (v := .agg #[.int .i64 2, .bool G, .slice ua n uc, .int .u64 0, .string ⟨#[]⟩, .slice none 0 0]) (by simp [results, Tryz.results29, go_sem, p0, p1, p2, p3, p4, p5]) rfl ⟨⟨_, _, rfl, hfin.out.1, hfin.out.2.1⟩, hfin.out.2.2⟩
end
theorem clean_any (x : V6) (w : World) (h : ElIn w x) : Calls Tryz.prog 29 #[.agg x.arr, .int .i64 0] w (SomeSc w) := by
  obtain ⟨k, neg, a, l, c, b, t, ka, kn, kc, rfl, hr, hc, ha, hl, ht, hkn, hb⟩ := h
  obtain ⟨K, hK, h | h | h | h | h | h | h | h | h | h⟩ := kinds k
  all_goals rw [h] at hK
  · exact clean_none (.inl hK)
  · exact clean_bool (.inl hK)
  · exact clean_int hr hc ha hl (.inl hK)
  · exact clean_float (.inl hK)
  · exact clean_text false ht hK
  · exact clean_text true ht hK
  · exact clean_none (.inr hK)
  · exact clean_bool (.inr hK)
  · exact clean_int hr hc ha hl (.inr hK)
  · exact clean_float (.inr hK)
end Go.Proofs.YtafbheamnjmfoaaGreat.Sc

namespace Go.Proofs.YtafbheamnjmfoaaGreat.Sc
open Go.RowKit Go.WideShapes Go.Proofs.YtafbheamnjmfoaaGreat.Own Go.Proofs.YtafbheamnjmfoaaGreat.Num Go.Proofs.YtafbheamnjmfoaaGreat.Ref Go.Proofs.YtafbheamnjmfoaaGreat.Nat_ Go.Proofs.YtafbheamnjmfoaaGreat.Big Go.Proofs.YtafbheamnjmfoaaGreat.VRow
set_option linter.unusedVariables false

theorem frombits (x : Int) (w : World) : (callFunc 5 #[.int .u64 x]).run Tryz.prog w = .ok (.value (.float .f64 x.toNat)) w := by kernel_rfl
theorem tobits (b : Nat) (w : World) : (callFunc 24 #[.float .f64 b]).run Tryz.prog w = .ok (.value (.int .u64 (b : Int))) w := by kernel_rfl
theorem floatof_any (b : Nat) (w : World) : Calls Tryz.prog 42 #[.int .u64 b] w fun e w' => e = .returned (.float .f64 b) ∧ w = w' := by
  have h := fun w => frombits (b : Int) w
  simp only [Int.toNat_natCast] at h
  go_enter Tryz.func42, Tryz.ntmps42
  go_wp2
  go_ret
  exact ⟨rfl, rfl⟩
theorem bitsof_any (b : Nat) (w : World) : Calls Tryz.prog 87 #[.float .f64 b] w fun e w' => e = .returned (.int .u64 b) ∧ w = w' := by
  have h := fun w => tobits b w
  go_enter Tryz.func87, Tryz.ntmps87
  go_wp2
  go_ret
  exact ⟨rfl, rfl⟩

def SomePv (w : World) (s : Sc) (e : Ending) (w' : World) : Prop := (∃ v, e = .returned (.tuple #[v, .bool true]) ∧ IsPv w' v s) ∧ Below w.heap.size w w'
section
variable {w : World}
set_option maxHeartbeats 2000000 in
set_option maxRecDepth 100000 in
theorem scalar_none : Calls Tryz.prog 18 #[.int .i64 0, .agg #[.int .i64 0, .bool false, .slice none 0 0, .int .u64 0, .string ⟨#[]⟩, .slice none 0 0]] w (SomePv w .none) := by
  go_enter Tryz.func18, Tryz.ntmps18
  go_wp2
  go_ret2
  exact ⟨⟨_, rfl, rfl⟩, below_one' _ (Nat.le_refl _)⟩
set_option maxHeartbeats 2000000 in
set_option maxRecDepth 100000 in
theorem scalar_bool (b : Bool) : Calls Tryz.prog 18 #[.int .i64 1, .agg #[.int .i64 1, .bool false, .slice none 0 0, .int .u64 (if b then 1 else 0), .string ⟨#[]⟩, .slice none 0 0]] w (SomePv w (.bool b)) := by
  cases b
  all_goals
    simp only [if_true, Bool.false_eq_true, if_false]
    go_enter Tryz.func18, Tryz.ntmps18
    go_wp2_with fail
    go_quiet (fail)
    go_wp2
    go_ret2
    exact ⟨⟨_, rfl, rfl⟩, Box.below_drawn (below_one' _ (Nat.le_refl _)) _⟩
set_option maxHeartbeats 2000000 in
set_option maxRecDepth 100000 in
theorem scalar_text (t : ByteArray) (k : Bool) : Calls Tryz.prog 18 #[.int .i64 (if k then 5 else 4), .agg #[.int .i64 (if k then 5 else 4), .bool false, .slice none 0 0, .int .u64 0, .string t, .slice none 0 0]] w (SomePv w (.text k t)) := by
  cases k
  all_goals
    simp only [if_true, Bool.false_eq_true, if_false]
    go_enter Tryz.func18, Tryz.ntmps18
    go_wp2
    go_ret2
    exact ⟨⟨_, rfl, rfl⟩, below_one' _ (Nat.le_refl _)⟩
set_option maxHeartbeats 2000000 in
set_option maxRecDepth 100000 in
theorem scalar_float (b : Nat) : Calls Tryz.prog 18 #[.int .i64 3, .agg #[.int .i64 3, .bool false, .slice none 0 0, .int .u64 b, .string ⟨#[]⟩, .slice none 0 0]] w (SomePv w (.float b)) := by
  have hf := Lib.hid fun W => floatof_any b W
  go_enter Tryz.func18, Tryz.ntmps18
  go_wp2_with fail
  refine (hf.out _).mono ?_
  rintro e w' ⟨rfl, rfl⟩
  go_wp2
  go_ret2
  exact ⟨⟨_, rfl, rfl⟩, below_one' _ (Nat.le_refl _)⟩
set_option maxHeartbeats 2000000 in
set_option maxRecDepth 100000 in
theorem scalar_int (G : Bool) (V : Nat) (hV : V < 256 ^ 40) (u : Value) (h : Mg w u (mag V)) : Calls Tryz.prog 18 #[.int .i64 2, .agg #[.int .i64 2, .bool G, u, .int .u64 0, .string ⟨#[]⟩, .slice none 0 0]] w (SomePv w (.int G V)) := by
  obtain ⟨a, c, rfl, hr, hl, hn, -⟩ := h
  have hml : (mag V).length ≤ 1000 := Nat.le_trans (mag_len_le hV) (by decide)
  have hwh := Lib.hid (whole_any 2 G a (mag V) c 0 ⟨#[]⟩ none 0 0 _ (hr.later (below_one' (.cells #[.int .i64 2, .bool G, .slice a (mag V).length c, .int .u64 0, .string ⟨#[]⟩, .slice none 0 0] 28) (Nat.le_refl _))) hml hl)
  rw [be_mag] at hwh
  obtain ⟨n, hn⟩ : ∃ n, (mag V).length = n := ⟨_, rfl⟩
  rw [hn] at hwh ⊢
  clear hr hl hml hn
  have hb0 := Lib.hid (below_one' (B := w.heap.size) (w := w) (.cells #[.int .i64 2, .bool G, .slice a n c, .int .u64 0, .string ⟨#[]⟩, .slice none 0 0] 28) (Nat.le_refl _))
  go_enter Tryz.func18, Tryz.ntmps18
  go_wp2_with fail
  refine hwh.out.mono ?_
  rintro e w2 ⟨⟨v, rfl, hv⟩, hb⟩
  have hfin := Lib.hid (hb0.out.trans (hb.mono hb0.out.size))
  have hv' := Lib.hid hv
  clear hb hv hwh hb0
  go_wp2
  go_ret2
  exact ⟨⟨_, rfl, _, _, rfl, hv'.out⟩, hfin.out⟩
end
def Sc.kind : Sc → Int
  | .none => 0
  | .bool _ => 1
  | .int _ _ => 2
  | .float _ => 3
  | .text k _ => if k then 5 else 4
theorem IsSc.kind {w : World} {x : V6} {s : Sc} (h : IsSc w x s) : x.k = .int .i64 s.kind := by
  cases s with
  | int neg m => obtain ⟨u, rfl, _⟩ := h; rfl
  | none => obtain rfl : x = _ := h; rfl
  | bool b => obtain rfl : x = _ := h; rfl
  | float b => obtain rfl : x = _ := h; rfl
  | text k t => obtain rfl : x = _ := h; rfl
theorem scalar_any (x : V6) (s : Sc) (w : World) (hs : s.ok) (hx : IsSc w x s) : Calls Tryz.prog 18 #[.int .i64 s.kind, .agg x.arr] w (SomePv w s) := by
  cases s with
  | none =>
    obtain rfl : x = _ := hx
    exact scalar_none
  | bool b =>
    obtain rfl : x = _ := hx
    exact scalar_bool b
  | float b =>
    obtain rfl : x = _ := hx
    exact scalar_float b
  | text k t =>
    obtain rfl : x = _ := hx
    exact scalar_text t k
  | int G V =>
    obtain ⟨u1, rfl, h1⟩ := hx
    exact scalar_int G V hs.2 u1 h1
end Go.Proofs.YtafbheamnjmfoaaGreat.Sc

namespace Go.Proofs.YtafbheamnjmfoaaGreat.Sc
open Go.RowKit Go.WideShapes Go.Proofs.YtafbheamnjmfoaaGreat.Own Go.Proofs.YtafbheamnjmfoaaGreat.Num Go.Proofs.YtafbheamnjmfoaaGreat.Ref Go.Proofs.YtafbheamnjmfoaaGreat.Nat_ Go.Proofs.YtafbheamnjmfoaaGreat.Big Go.Proofs.YtafbheamnjmfoaaGreat.VRow
set_option linter.unusedVariables false

theorem as_none_none (w : World) : (Instr.typeAssert (.iface 84 (.int .u8 0)) 47 84 true).run Tryz.prog w = .ok (.tuple #[.int .u8 0, .bool true]) w := by kernel_rfl
theorem as_bool_none (b : Bool) (w : World) : (Instr.typeAssert (.iface 85 (.bool b)) 47 84 true).run Tryz.prog w = .ok (.tuple #[.int .u8 0, .bool false]) w := by kernel_rfl
theorem as_bool_bool (b : Bool) (w : World) : (Instr.typeAssert (.iface 85 (.bool b)) 47 85 true).run Tryz.prog w = .ok (.tuple #[.bool b, .bool true]) w := by kernel_rfl
theorem as_int_none (u : Value) (w : World) : (Instr.typeAssert (.iface 90 (u)) 47 84 true).run Tryz.prog w = .ok (.tuple #[.int .u8 0, .bool false]) w := by kernel_rfl
theorem as_int_bool (u : Value) (w : World) : (Instr.typeAssert (.iface 90 (u)) 47 85 true).run Tryz.prog w = .ok (.tuple #[.bool false, .bool false]) w := by kernel_rfl
theorem as_int_int (u : Value) (w : World) : (Instr.typeAssert (.iface 90 (u)) 47 90 true).run Tryz.prog w = .ok (.tuple #[u, .bool true]) w := by kernel_rfl
theorem as_float_none (b : Nat) (w : World) : (Instr.typeAssert (.iface 92 (.float .f64 b)) 47 84 true).run Tryz.prog w = .ok (.tuple #[.int .u8 0, .bool false]) w := by kernel_rfl
theorem as_float_bool (b : Nat) (w : World) : (Instr.typeAssert (.iface 92 (.float .f64 b)) 47 85 true).run Tryz.prog w = .ok (.tuple #[.bool false, .bool false]) w := by kernel_rfl
theorem as_float_int (b : Nat) (w : World) : (Instr.typeAssert (.iface 92 (.float .f64 b)) 47 90 true).run Tryz.prog w = .ok (.tuple #[.agg #[.int .i64 0, .pointer none], .bool false]) w := by kernel_rfl
theorem as_float_float (b : Nat) (w : World) : (Instr.typeAssert (.iface 92 (.float .f64 b)) 47 92 true).run Tryz.prog w = .ok (.tuple #[.float .f64 b, .bool true]) w := by kernel_rfl
theorem as_str_none (t : ByteArray) (w : World) : (Instr.typeAssert (.iface 94 (.string t)) 47 84 true).run Tryz.prog w = .ok (.tuple #[.int .u8 0, .bool false]) w := by kernel_rfl
theorem as_str_bool (t : ByteArray) (w : World) : (Instr.typeAssert (.iface 94 (.string t)) 47 85 true).run Tryz.prog w = .ok (.tuple #[.bool false, .bool false]) w := by kernel_rfl
theorem as_str_int (t : ByteArray) (w : World) : (Instr.typeAssert (.iface 94 (.string t)) 47 90 true).run Tryz.prog w = .ok (.tuple #[.agg #[.int .i64 0, .pointer none], .bool false]) w := by kernel_rfl
theorem as_str_float (t : ByteArray) (w : World) : (Instr.typeAssert (.iface 94 (.string t)) 47 92 true).run Tryz.prog w = .ok (.tuple #[.float .f64 0, .bool false]) w := by kernel_rfl
theorem as_str_str (t : ByteArray) (w : World) : (Instr.typeAssert (.iface 94 (.string t)) 47 94 true).run Tryz.prog w = .ok (.tuple #[.string t, .bool true]) w := by kernel_rfl
theorem as_bytes_none (t : ByteArray) (w : World) : (Instr.typeAssert (.iface 95 (.string t)) 47 84 true).run Tryz.prog w = .ok (.tuple #[.int .u8 0, .bool false]) w := by kernel_rfl
theorem as_bytes_bool (t : ByteArray) (w : World) : (Instr.typeAssert (.iface 95 (.string t)) 47 85 true).run Tryz.prog w = .ok (.tuple #[.bool false, .bool false]) w := by kernel_rfl
theorem as_bytes_int (t : ByteArray) (w : World) : (Instr.typeAssert (.iface 95 (.string t)) 47 90 true).run Tryz.prog w = .ok (.tuple #[.agg #[.int .i64 0, .pointer none], .bool false]) w := by kernel_rfl
theorem as_bytes_float (t : ByteArray) (w : World) : (Instr.typeAssert (.iface 95 (.string t)) 47 92 true).run Tryz.prog w = .ok (.tuple #[.float .f64 0, .bool false]) w := by kernel_rfl
theorem as_bytes_str (t : ByteArray) (w : World) : (Instr.typeAssert (.iface 95 (.string t)) 47 94 true).run Tryz.prog w = .ok (.tuple #[.string ⟨#[]⟩, .bool false]) w := by kernel_rfl
theorem as_bytes_bytes (t : ByteArray) (w : World) : (Instr.typeAssert (.iface 95 (.string t)) 47 95 true).run Tryz.prog w = .ok (.tuple #[.string t, .bool true]) w := by kernel_rfl
def SomeTold (w : World) (s : Sc) (e : Ending) (w' : World) : Prop := (∃ y, e = .returned (.agg (V6.arr y)) ∧ IsSc w' y s) ∧ Below w.heap.size w w'
section
variable {w : World}
set_option maxHeartbeats 2000000 in
set_option maxRecDepth 100000 in
theorem tell_none : Calls Tryz.prog 43 #[.iface 84 (.int .u8 0)] w (SomeTold w .none) := by
  have e0 := fun w => as_none_none w
  go_enter Tryz.func43, Tryz.ntmps43
  go_wp2
  exact bodyPost_ret (v := .agg #[.int .i64 0, .bool false, .slice none 0 0, .int .u64 0, .string ⟨#[]⟩, .slice none 0 0]) (by simp [results, Tryz.results43, go_sem]) rfl ⟨⟨_, rfl, rfl⟩, below_one' _ (Nat.le_refl _)⟩
set_option maxHeartbeats 2000000 in
set_option maxRecDepth 100000 in
theorem tell_bool (b : Bool) : Calls Tryz.prog 43 #[.iface 85 (.bool b)] w (SomeTold w (.bool b)) := by
  have e0 := fun w => as_bool_none b w
  have e1 := fun w => as_bool_bool b w
  cases b
  · go_enter Tryz.func43, Tryz.ntmps43
    go_wp2
    exact bodyPost_ret (v := .agg #[.int .i64 1, .bool false, .slice none 0 0, .int .u64 0, .string ⟨#[]⟩, .slice none 0 0]) (by simp [results, Tryz.results43, go_sem]) rfl ⟨⟨_, rfl, rfl⟩, below_one' _ (Nat.le_refl _)⟩
  · go_enter Tryz.func43, Tryz.ntmps43
    go_wp2
    exact bodyPost_ret (v := .agg #[.int .i64 1, .bool false, .slice none 0 0, .int .u64 1, .string ⟨#[]⟩, .slice none 0 0]) (by simp [results, Tryz.results43, go_sem]) rfl ⟨⟨_, rfl, rfl⟩, below_one' _ (Nat.le_refl _)⟩
set_option maxHeartbeats 2000000 in
set_option maxRecDepth 100000 in
theorem tell_str (t : ByteArray) : Calls Tryz.prog 43 #[.iface 94 (.string t)] w (SomeTold w (.text false t)) := by
  have e0 := fun w => as_str_none t w
  have e1 := fun w => as_str_bool t w
  have e2 := fun w => as_str_int t w
  have e3 := fun w => as_str_float t w
  have e4 := fun w => as_str_str t w
  go_enter Tryz.func43, Tryz.ntmps43
  go_wp2
  exact bodyPost_ret (v := .agg #[.int .i64 4, .bool false, .slice none 0 0, .int .u64 0, .string t, .slice none 0 0]) (by simp [results, Tryz.results43, go_sem]) rfl ⟨⟨_, rfl, rfl⟩, below_one' _ (Nat.le_refl _)⟩
set_option maxHeartbeats 2000000 in
set_option maxRecDepth 100000 in
theorem tell_bytes (t : ByteArray) : Calls Tryz.prog 43 #[.iface 95 (.string t)] w (SomeTold w (.text true t)) := by
  have e0 := fun w => as_bytes_none t w
  have e1 := fun w => as_bytes_bool t w
  have e2 := fun w => as_bytes_int t w
  have e3 := fun w => as_bytes_float t w
  have e4 := fun w => as_bytes_str t w
  have e5 := fun w => as_bytes_bytes t w
  go_enter Tryz.func43, Tryz.ntmps43
  go_wp2
  exact bodyPost_ret (v := .agg #[.int .i64 5, .bool false, .slice none 0 0, .int .u64 0, .string t, .slice none 0 0]) (by simp [results, Tryz.results43, go_sem]) rfl ⟨⟨_, rfl, rfl⟩, below_one' _ (Nat.le_refl _)⟩
set_option maxHeartbeats 2000000 in
set_option maxRecDepth 100000 in
theorem tell_float (b : Nat) : Calls Tryz.prog 43 #[.iface 92 (.float .f64 b)] w (SomeTold w (.float b)) := by
  have e0 := fun w => as_float_none b w
  have e1 := fun w => as_float_bool b w
  have e2 := fun w => as_float_int b w
  have e3 := fun w => as_float_float b w
  have hf := Lib.hid fun W => bitsof_any b W
  go_enter Tryz.func43, Tryz.ntmps43
  go_wp2_with fail
  refine (hf.out _).mono ?_
  rintro e w' ⟨rfl, rfl⟩
  go_wp2
  exact bodyPost_ret (v := .agg #[.int .i64 3, .bool false, .slice none 0 0, .int .u64 b, .string ⟨#[]⟩, .slice none 0 0]) (by simp [results, Tryz.results43, go_sem]) rfl ⟨⟨_, rfl, rfl⟩, below_one' _ (Nat.le_refl _)⟩
theorem sg_neg (G : Bool) (V : Nat) (h : G = true → 0 < V) : decide (sg G V < 0) = G ∧ (sg G V).natAbs = V := by
  cases G
  · simp [sg]
  · have := h rfl
    simp [sg]; omega
set_option maxHeartbeats 2000000 in
set_option maxRecDepth 100000 in
theorem tell_int (G : Bool) (V : Nat) (hG : G = true → 0 < V) (u : Value) (B : Nat) (h : SInt w B u (sg G V)) : Calls Tryz.prog 43 #[.iface 90 u] w (SomeTold w (.int G V)) := by
  obtain ⟨y, q, rfl⟩ := h.shape
  have e0 := fun w => as_int_none (.agg #[.int .i64 y, .pointer q]) w
  have e1 := fun w => as_int_bool (.agg #[.int .i64 y, .pointer q]) w
  have e2 := fun w => as_int_int (.agg #[.int .i64 y, .pointer q]) w
  obtain ⟨W, hW⟩ : ∃ W, (w.alloc (.cells #[.int .i64 0, .bool false, .slice none 0 0, .int .u64 0, .string ⟨#[]⟩, .slice none 0 0] 28)).alloc (.cells #[.int .i64 y, .pointer q] 90) = W := ⟨_, rfl⟩
  have hb1 : Below w.heap.size w W := by rw [← hW]; exact (below_one' _ (Nat.le_refl _)).alloc (by simp) _
  have hk1 : Box.Holds W w.heap.size 28 #[.int .i64 0, .bool false, .slice none 0 0, .int .u64 0, .string ⟨#[]⟩, .slice none 0 0] := by
    rw [← hW]; exact (Box.Holds.made w _ _).alloc _
  have hnum := Lib.hid (number_any _ _ B W (h.later hb1))
  obtain ⟨g1, g2⟩ := sg_neg G V hG
  rw [g1, g2] at hnum
  have hb1' := Lib.hid hb1
  have hk1' := Lib.hid hk1
  have hW' := Lib.hid hW
  clear hb1 hk1 hW g1 g2 h
  go_enter Tryz.func43, Tryz.ntmps43
  go_wp2_with fail
  rw [hW'.out]
  clear hW'
  refine hnum.out.mono ?_
  rintro e w3 ⟨⟨x, rfl, ua, rfl, hu, hpos⟩, hb3⟩
  obtain ⟨p0, p1, p2, p3, p4, p5, pl, f0, f1, f2, f3, f4, f5⟩ := Rem.val_facts (hk1'.out.later hb3)
  have hmg := Mg.of_rds hu
  obtain ⟨a, c, hue, -⟩ := Mg.of_rds hu
  obtain ⟨n, hn⟩ : ∃ n, (mag V).length = n := ⟨_, rfl⟩
  rw [hn] at hue
  subst hue
  have hfin := Lib.hid (show IsSc ((((((w3.setCell ⟨w.heap.size, 0, none⟩ (.int .i64 2)).setCell ⟨w.heap.size, 1, none⟩ (.bool G)).setCell ⟨w.heap.size, 2, none⟩ (.slice a n c)).setCell ⟨w.heap.size, 3, none⟩ (.int .u64 0)).setCell ⟨w.heap.size, 4, none⟩ (.string ⟨#[]⟩)).setCell ⟨w.heap.size, 5, none⟩ (.slice none 0 0)) (six0 2 G (.slice a n c) 0 ⟨#[]⟩) (.int G V) ∧
      Below w.heap.size w ((((((w3.setCell ⟨w.heap.size, 0, none⟩ (.int .i64 2)).setCell ⟨w.heap.size, 1, none⟩ (.bool G)).setCell ⟨w.heap.size, 2, none⟩ (.slice a n c)).setCell ⟨w.heap.size, 3, none⟩ (.int .u64 0)).setCell ⟨w.heap.size, 4, none⟩ (.string ⟨#[]⟩)).setCell ⟨w.heap.size, 5, none⟩ (.slice none 0 0)) from
    ⟨⟨_, rfl, hmg.kept (six_kept _ _ _ _ _ _ (hk1'.out.later hb3))⟩, Rem.six_below _ _ _ _ _ _ (hb1'.out.trans (hb3.mono hb1'.out.size)) (Nat.le_refl _)⟩)
  clear hb3 hu hmg hk1' hb1' hn hpos
  go_wp2
  exact bodyPost_ret (v := .agg #[.int .i64 2, .bool G, .slice a n c, .int .u64 0, .string ⟨#[]⟩, .slice none 0 0]) (by simp [results, Tryz.results43, go_sem, p0, p1, p2, p3, p4, p5]) rfl ⟨⟨_, rfl, hfin.out.1⟩, hfin.out.2⟩
end
theorem tell_any (v : Value) (s : Sc) (w : World) (hs : s.ok) (hx : IsPv w v s) : Calls Tryz.prog 43 #[v] w (SomeTold w s) := by
  cases s with
  | none =>
    obtain rfl : v = _ := hx
    exact tell_none
  | bool b =>
    obtain rfl : v = _ := hx
    exact tell_bool b
  | float b =>
    obtain rfl : v = _ := hx
    exact tell_float b
  | text k t =>
    obtain rfl : v = _ := hx
    cases k
    · exact tell_str t
    · exact tell_bytes t
  | int G V =>
    obtain ⟨u, B, rfl, h⟩ := hx
    exact tell_int G V hs.1 u B h
end Go.Proofs.YtafbheamnjmfoaaGreat.Sc

namespace Go.Proofs.YtafbheamnjmfoaaGreat.Sc
open Go.RowKit Go.WideShapes Go.Proofs.YtafbheamnjmfoaaGreat.Own Go.Proofs.YtafbheamnjmfoaaGreat.Num Go.Proofs.YtafbheamnjmfoaaGreat.Ref Go.Proofs.YtafbheamnjmfoaaGreat.Nat_ Go.Proofs.YtafbheamnjmfoaaGreat.Big Go.Proofs.YtafbheamnjmfoaaGreat.VRow
set_option linter.unusedVariables false

/-- one relation at each place of two lists -/
def All {α β : Type} (P : α → β → Prop) (L : List α) (S : List β) : Prop := L.length = S.length ∧ ∀ (j : Nat) (a : α) (b : β), L[j]? = some a → S[j]? = some b → P a b
theorem All.nil {α β : Type} (P : α → β → Prop) : All P [] [] := ⟨rfl, fun j a b h => by simp at h⟩
theorem All.snoc {α β : Type} {P : α → β → Prop} {L : List α} {S : List β} (h : All P L S) {x : α} {y : β} (hp : P x y) : All P (L ++ [x]) (S ++ [y]) := by
  refine ⟨by simp [h.1], fun j a b ha hb => ?_⟩
  by_cases hj : j < L.length
  · rw [List.getElem?_append_left hj] at ha
    rw [List.getElem?_append_left (by rw [← h.1]; exact hj)] at hb
    exact h.2 j a b ha hb
  · rw [List.getElem?_append_right (by omega)] at ha
    rw [List.getElem?_append_right (by rw [← h.1]; omega)] at hb
    have e : j - L.length = 0 := by
      have := (List.getElem?_eq_some_iff.1 ha).1
      simp at this
      omega
    rw [e] at ha
    rw [← h.1, e] at hb
    simp at ha hb
    subst ha hb
    exact hp
theorem All.mono {α β : Type} {P Q : α → β → Prop} {L : List α} {S : List β} (h : All P L S) (hpq : ∀ a b, P a b → Q a b) : All Q L S := ⟨h.1, fun j a b ha hb => hpq a b (h.2 j a b ha hb)⟩
theorem All.get {α β : Type} {P : α → β → Prop} {L : List α} {S : List β} (h : All P L S) {j : Nat} (hj : j < S.length) : ∃ (hj' : j < L.length), P L[j] S[j] := by
  have hj' : j < L.length := by rw [h.1]; exact hj
  exact ⟨hj', h.2 j _ _ (List.getElem?_eq_getElem hj') (List.getElem?_eq_getElem hj)⟩
theorem All.take {α β : Type} {P : α → β → Prop} {L : List α} {S : List β} (h : All P L S) (k : Nat) : All P (L.take k) (S.take k) := by
  refine ⟨by simp [h.1], fun j a b ha hb => ?_⟩
  rw [List.getElem?_take] at ha hb
  split at ha
  · rename_i hk
    rw [if_pos hk] at hb
    exact h.2 j a b ha hb
  · cases ha

/-- the reference's row of these values, its own -/
def Vals (w : World) (B : Nat) (v : Value) (S : List Sc) : Prop := ∃ L, OwnV w B v L ∧ All (IsSc w) L S
/-- the program's -/
def Pvals (w : World) (B : Nat) (v : Value) (S : List Sc) : Prop := ∃ L : List Value, w.ownsRow B 47 1 v L.length L ∧ All (IsPv w) L S
theorem Vals.nil (w : World) (B : Nat) : Vals w B (.slice Option.none 0 0) [] := ⟨[], OwnV.nil _ _, All.nil _⟩
theorem Pvals.nil (w : World) (B : Nat) : Pvals w B (.slice Option.none 0 0) [] := ⟨[], World.ownsRow_nil _ _ _ _, All.nil _⟩
theorem Vals.later {w w' : World} {B : Nat} {v : Value} {S : List Sc} (h : Vals w B v S) (hb : Below w.heap.size w w') : Vals w' B v S := by
  obtain ⟨L, h1, h2⟩ := h
  exact ⟨L, h1.later hb, h2.mono fun a b hab => hab.kept (Kept.of_below hb)⟩
theorem Pvals.later {w w' : World} {B : Nat} {v : Value} {S : List Sc} (h : Pvals w B v S) (hb : Below w.heap.size w w') : Pvals w' B v S := by
  obtain ⟨L, h1, h2⟩ := h
  exact ⟨L, own_below h1 hb, h2.mono fun a b hab => hab.kept (Kept.of_below hb)⟩
theorem Vals.lower {w : World} {B B' : Nat} {v : Value} {S : List Sc} (h : Vals w B v S) (hb : B' ≤ B) : Vals w B' v S := by
  obtain ⟨L, h1, h2⟩ := h
  exact ⟨L, h1.lower hb, h2⟩
theorem Pvals.lower {w : World} {B B' : Nat} {v : Value} {S : List Sc} (h : Pvals w B v S) (hb : B' ≤ B) : Pvals w B' v S := by
  obtain ⟨L, h1, h2⟩ := h
  exact ⟨L, World.ownsRow.mono h1 hb, h2⟩
theorem Vals.eq {w : World} {B : Nat} {v : Value} {S S' : List Sc} (h : Vals w B v S) (e : S = S') : Vals w B v S' := e ▸ h
theorem Pvals.eq {w : World} {B : Nat} {v : Value} {S S' : List Sc} (h : Pvals w B v S) (e : S = S') : Pvals w B v S' := e ▸ h
theorem Vals.shape {w : World} {B : Nat} {v : Value} {S : List Sc} (h : Vals w B v S) : ∃ A cap, v = .slice A S.length cap := by
  obtain ⟨L, h1, h2⟩ := h
  rw [← h2.1]
  exact h1.shape
theorem Pvals.shape {w : World} {B : Nat} {v : Value} {S : List Sc} (h : Pvals w B v S) : ∃ A cap, v = .slice A S.length cap := by
  obtain ⟨L, h1, h2⟩ := h
  rw [← h2.1]
  rcases h1.2 with ⟨rfl, h0⟩ | ⟨g, cap, cur, rfl, _⟩
  · exact ⟨Option.none, 0, by rw [h0]⟩
  · exact ⟨_, _, rfl⟩
/-- the element at a place -/
theorem Vals.at_ {w : World} {B : Nat} {v : Value} {S : List Sc} (h : Vals w B v S) {j : Nat} (hj : j < S.length) : ∃ g cap x, v = .slice (some ⟨g, 0, Option.none⟩) S.length cap ∧ g < w.heap.size ∧ B ≤ g ∧ S.length ≤ cap ∧ At w g j x ∧ IsSc w x S[j] := by
  obtain ⟨L, h1, h2⟩ := h
  obtain ⟨hj', hp⟩ := h2.get hj
  rcases h1.forms with ⟨_, rfl⟩ | ⟨g, cap, rfl, hg, hB, hc, hcs⟩
  · simp at hj'
  · exact ⟨g, cap, L[j], by rw [h2.1], hg, hB, by rw [← h2.1]; exact hc, hcs j hj', hp⟩
theorem Pvals.at_ {w : World} {B : Nat} {v : Value} {S : List Sc} (h : Pvals w B v S) {j : Nat} (hj : j < S.length) : ∃ g cap x, v = .slice (some ⟨g, 0, Option.none⟩) S.length cap ∧ g < w.heap.size ∧ B ≤ g ∧ S.length ≤ cap ∧ w.cell? ⟨g, j, Option.none⟩ = some x ∧ w.frozen? ⟨g, j, Option.none⟩ = false ∧ IsPv w x S[j] := by
  obtain ⟨L, h1, h2⟩ := h
  obtain ⟨hj', hp⟩ := h2.get hj
  rcases id h1.2 with ⟨_, h0⟩ | ⟨g, cap, cur, rfl, hB, hg, hc, _⟩
  · omega
  · exact ⟨g, cap, L[j], by rw [h2.1], (Array.getElem?_eq_some_iff.1 hg).1, hB, by rw [← h2.1]; exact hc, by rw [World.ownsRow.cellAt h1 j (by omega), List.getElem?_eq_getElem hj'], World.ownsRow.frozenAt h1 j, hp⟩

/-- 'append(v, x)' of one value, v the call's own -/
theorem wpList_sc {ops : Array Oper} {rest : List Oper} {o : Oper} {a : Act} {Q : Exit → Act → World → Prop} {w0 wr : World} {B : Nat} (hgd : o.guard = Option.none) (s x : Operand)
    (ho : o.op = .call { callee := .builtin .append, args := #[s, x], argTypes := #[26, 26] })
    (v : Value) (S : List Sc) (hs : a.eval s = v) (hv : Vals wr B v S) (hb : Below B w0 wr) (hB : B ≤ w0.heap.size) (y : V6) (t : Sc) (hy : IsSc wr y t)
    (hx : a.eval x = .slice (some ⟨wr.heap.size, 0, Option.none⟩) 1 1) (hn : S.length ≤ 1000000)
    (h : ∀ v' w', Vals w' B v' (S ++ [t]) → Below B w0 w' → wpList Tryz.prog ops Q rest (a.put o.dst v') w') :
    wpList Tryz.prog ops Q (o :: rest) a (wr.alloc (.cells y.arr 28)) := by
  obtain ⟨L, h1, h2⟩ := hv
  have hal : Below wr.heap.size wr (wr.alloc (.cells y.arr 28)) := below_one' _ (Nat.le_refl _)
  refine wpList_plain hgd fun _ hK => wp_v6 (w0 := w0) s x ho v L hs (h1.later hal) (hb.alloc (Nat.le_trans hB hb.size) _) hB y hy.one (Rem.Holds.made wr _ _) hx (by rw [h2.1]; omega) fun v' w' h3 h4 h5 => hK _ _ (h v' w' ?_ h4)
  have hk : Kept wr w' := (Kept.of_below hal).trans (Kept.grown (h1.later hal) rfl h5)
  exact ⟨_, h3, (h2.mono fun a b hab => hab.kept hk).snoc (hy.kept hk)⟩

theorem info_pv : (Tryz.prog.info? 47).map (fun i => (i.zero, i.size, i.bytes)) = some (some .nilIface, 1, 16) := by kernel_rfl
theorem IsPv.one {w : World} {x : Value} {s : Sc} (h : IsPv w x s) : x.oneCell' = true := by
  cases s with
  | int neg m =>
    obtain ⟨u, B, rfl, _⟩ := h
    rfl
  | none => obtain rfl : x = _ := h; rfl
  | bool b => obtain rfl : x = _ := h; rfl
  | float b => obtain rfl : x = _ := h; rfl
  | text k t => obtain rfl : x = _ := h; rfl
theorem wpList_pv {ops : Array Oper} {rest : List Oper} {o : Oper} {a : Act} {Q : Exit → Act → World → Prop} {w0 wr : World} {B : Nat} (hgd : o.guard = Option.none) (s x : Operand)
    (ho : o.op = .call { callee := .builtin .append, args := #[s, x], argTypes := #[74, 74] })
    (v : Value) (S : List Sc) (hs : a.eval s = v) (hv : Pvals wr B v S) (hb : Below B w0 wr) (hB : B ≤ w0.heap.size) (y : Value) (t : Sc) (hy : IsPv wr y t)
    (hx : a.eval x = .slice (some ⟨wr.heap.size, 0, Option.none⟩) 1 1) (hn : S.length ≤ 1000000)
    (h : ∀ v' w', Pvals w' B v' (S ++ [t]) → Below B w0 w' → wpList Tryz.prog ops Q rest (a.put o.dst v') w') :
    wpList Tryz.prog ops Q (o :: rest) a (wr.alloc (.cells #[y] 47)) := by
  obtain ⟨L, h1, h2⟩ := hv
  obtain ⟨i0, hi, hz0, hz1, hz2⟩ := info_parts info_pv
  have hsz := hb.size
  have hlen := h2.1
  refine wpList_append_own _ hgd s x 74 ho B 47 i0 .nilIface 1 16 Tryz.underlying74 hi hz0 hz1 hz2 rfl (by decide) v L.length L hs (World.ownsRow.alloc h1 _) ⟨wr.heap.size, 0, Option.none⟩ 1 1 [y] hx rfl
    ?_ ?_ (by unfold maxLen; omega) (by omega) (by simp; omega) ?_
  · exact cell_one_new _ _ _
  · intro u hu
    simp at hu
    subst hu
    exact hy.one
  · intro v' w' hown' hg _
    have hal : Below wr.heap.size wr (wr.alloc (.cells #[y] 47)) := below_one' _ (Nat.le_refl _)
    have hk : Kept wr w' := (Kept.of_below hal).trans (Kept.grown (World.ownsRow.alloc h1 _) rfl hg)
    refine h v' w' ⟨L ++ [y], by rw [List.length_append]; exact hown', (h2.mono fun a b hab => hab.kept hk).snoc (hy.kept hk)⟩ ((hb.alloc (by omega) _).grown hg (by simp; omega) fun k hk => ?_)
    exact (World.ownsRow.lt h1 k hk).1

/-- what make lays -/
def madeV (n : Nat) : Obj := .cells (madeCells (Value.cells (.agg #[.int .i64 0, .bool false, .slice Option.none 0 0, .int .u64 0, .string ⟨#[]⟩, .slice Option.none 0 0])) (n * 6)) 28
def madeP (n : Nat) : Obj := .cells (madeCells (Value.cells .nilIface) n) 47
theorem run_mkvals (n : Nat) (hn : n ≤ 1000000) (w : World) : (Instr.makeSlice 26 (.int .i64 0) (.int .i64 (n : Int))).run Tryz.prog w = .ok (.slice (some ⟨w.heap.size, 0, Option.none⟩) 0 n) (w.alloc (madeV n)) := by
  obtain ⟨i0, hi, hz0, hz1, hz2⟩ := info_parts info_v6
  have := run_make (P := Tryz.prog) (w := w) 26 28 i0 _ Tryz.underlying26 hi hz0 .i64 .i64 0 (n : Int) (by omega) (by omega) (by rw [hz2]; omega) (by omega)
  rw [hz1] at this
  simp only [Int.toNat_natCast, Int.toNat_zero] at this
  exact this
theorem run_mkpvs (n : Nat) (hn : n ≤ 1000000) (w : World) : (Instr.makeSlice 74 (.int .i64 0) (.int .i64 (n : Int))).run Tryz.prog w = .ok (.slice (some ⟨w.heap.size, 0, Option.none⟩) 0 n) (w.alloc (madeP n)) := by
  obtain ⟨i0, hi, hz0, hz1, hz2⟩ := info_parts info_pv
  have := run_make (P := Tryz.prog) (w := w) 74 47 i0 _ Tryz.underlying74 hi hz0 .i64 .i64 0 (n : Int) (by omega) (by omega) (by rw [hz2]; omega) (by omega)
  rw [hz1, Nat.mul_one] at this
  simp only [Int.toNat_natCast, Int.toNat_zero] at this
  exact this
theorem made_vals (n : Nat) (hn : n ≤ 1000000) (w : World) (B : Nat) (hB : B ≤ w.heap.size) : Vals (w.alloc (madeV n)) B (.slice (some ⟨w.heap.size, 0, Option.none⟩) 0 n) [] :=
  ⟨[], World.ownsRow_made w _ n hB (by unfold maxLen; omega) (by rw [size_madeCells]), All.nil _⟩
theorem made_pvs (n : Nat) (hn : n ≤ 1000000) (w : World) (B : Nat) (hB : B ≤ w.heap.size) : Pvals (w.alloc (madeP n)) B (.slice (some ⟨w.heap.size, 0, Option.none⟩) 0 n) [] :=
  ⟨[], World.ownsRow_made w _ n hB (by unfold maxLen; omega) (by rw [size_madeCells, Nat.mul_one]), All.nil _⟩
end Go.Proofs.YtafbheamnjmfoaaGreat.Sc

namespace Go.Proofs.YtafbheamnjmfoaaGreat.Sc
open Go.RowKit Go.WideShapes Go.Proofs.YtafbheamnjmfoaaGreat.Own Go.Proofs.YtafbheamnjmfoaaGreat.Num Go.Proofs.YtafbheamnjmfoaaGreat.Ref Go.Proofs.YtafbheamnjmfoaaGreat.Nat_ Go.Proofs.YtafbheamnjmfoaaGreat.Big Go.Proofs.YtafbheamnjmfoaaGreat.VRow
set_option linter.unusedVariables false

/-- the six cells of a value at an address -/
def AtA (w : World) (p : Addr) (x : V6) : Prop :=
  w.cell? p = some x.k ∧ w.cell? ⟨p.block, p.off + 1, Option.none⟩ = some x.n ∧ w.cell? ⟨p.block, p.off + 2, Option.none⟩ = some x.m ∧ w.cell? ⟨p.block, p.off + 3, Option.none⟩ = some x.b ∧ w.cell? ⟨p.block, p.off + 4, Option.none⟩ = some x.t ∧ w.cell? ⟨p.block, p.off + 5, Option.none⟩ = some x.s
/-- a row of values that came in -/
structure ArgVals (w : World) (A : Option Addr) (L : List V6) : Prop where
  some_ : L ≠ [] → A.isSome
  lt : ∀ x, A = some x → L ≠ [] → x.block < w.heap.size
  at_ : ∀ x, A = some x → ∀ j (hj : j < L.length), AtA w (x.add (j * 6)) L[j]
  el : ∀ j (hj : j < L.length), ElIn w L[j]
theorem ElIn.later {w w' : World} {x : V6} (h : ElIn w x) (hb : Below w.heap.size w w') : ElIn w' x := by
  obtain ⟨k, neg, a, l, c, b, t, ka, kn, kc, h0, h1, h2⟩ := h
  exact ⟨k, neg, a, l, c, b, t, ka, kn, kc, h0, h1.later hb, h2⟩
theorem AtA.later {w w' : World} {p : Addr} {x : V6} (h : AtA w p x) (hb : Below w.heap.size w w') (hp : p.block < w.heap.size) : AtA w' p x := by
  obtain ⟨h0, h1, h2, h3, h4, h5⟩ := h
  have e : ∀ i, w'.cell? ⟨p.block, p.off + i, Option.none⟩ = w.cell? ⟨p.block, p.off + i, Option.none⟩ := fun i => hb.cell (p := ⟨p.block, p.off + i, Option.none⟩) hp
  exact ⟨(hb.cell hp).trans h0, (e _).trans h1, (e _).trans h2, (e _).trans h3, (e _).trans h4, (e _).trans h5⟩

theorem IsSc.form {w : World} {x : V6} {s : Sc} (h : IsSc w x s) : ∃ neg a n c b t, x = ⟨.int .i64 s.kind, .bool neg, .slice a n c, .int .u64 b, .string t, .slice Option.none 0 0⟩ := by
  cases s with
  | int neg m =>
    obtain ⟨u, rfl, a, c, rfl, _⟩ := h
    exact ⟨_, _, _, _, _, _, rfl⟩
  | none => obtain rfl : x = _ := h; exact ⟨_, _, _, _, _, _, rfl⟩
  | bool b => obtain rfl : x = _ := h; exact ⟨_, _, _, _, _, _, rfl⟩
  | float b => obtain rfl : x = _ := h; exact ⟨_, _, _, _, _, _, rfl⟩
  | text k t => obtain rfl : x = _ := h; exact ⟨_, _, _, _, _, _, rfl⟩
theorem IsPv.form {w : World} {x : Value} {s : Sc} (h : IsPv w x s) : ∃ t u, x = .iface t u := by
  cases s with
  | int neg m =>
    obtain ⟨u, B, rfl, _⟩ := h
    exact ⟨_, _, rfl⟩
  | none => obtain rfl : x = _ := h; exact ⟨_, _, rfl⟩
  | bool b => obtain rfl : x = _ := h; exact ⟨_, _, rfl⟩
  | float b => obtain rfl : x = _ := h; exact ⟨_, _, rfl⟩
  | text k t => obtain rfl : x = _ := h; exact ⟨_, _, rfl⟩
/-- the program's value of a row of values without parts -/
def SomePvs (w : World) (S : List Sc) (e : Ending) (w' : World) : Prop := (∃ u, e = .returned (.tuple #[u, .bool true]) ∧ Pvals w' w.heap.size u S) ∧ Below w.heap.size w w'
set_option maxHeartbeats 1000000 in
set_option maxRecDepth 100000 in
theorem scalars_any (v : Value) (S : List Sc) (B0 : Nat) (w : World) (hv : Vals w B0 v S) (hl : S.length ≤ 1000) (hok : ∀ s ∈ S, s.ok) :
    Calls Tryz.prog 38 #[v] w (SomePvs w S) := by
  obtain ⟨A0, cp0, rfl⟩ := hv.shape
  have hsc := Lib.hid fun x s W h1 h2 => scalar_any x s W h1 h2
  have hmk := fun W => run_mkpvs S.length (by omega) W
  have hmv := Lib.hid (made_pvs S.length (by omega) w w.heap.size (Nat.le_refl _))
  have hbm := Lib.hid (below_one' (B := w.heap.size) (w := w) (madeP S.length) (Nat.le_refl _))
  go_enter Tryz.func38, Tryz.ntmps38
  go_wp2_with fail
  clear hmk
  go_loopw [4, 14] (fun u i wr => ∃ j : Nat, i = .int .i64 j ∧ j ≤ S.length ∧ Pvals wr w.heap.size u (S.take j) ∧ Below w.heap.size w wr) (fun _ i _ => S.length - (intOf i).toNat)
  case atStart => exact ⟨0, rfl, Nat.zero_le _, hmv.out, hbm.out⟩
  case round =>
    obtain ⟨j, rfl, hj, ho, hb⟩ := hrel
    obtain ⟨Au, cu, hue⟩ := ho.shape
    rw [show (S.take j).length = j by simp; omega] at hue
    subst hue
    by_cases hlt : j < S.length
    · obtain ⟨g, cap, x, h, hg, hB, hc, hat, hx⟩ := hv.at_ hlt
      simp only [Value.slice.injEq, true_and] at h
      obtain ⟨rfl, rfl⟩ := h
      obtain ⟨c0, c1, c2, c3, c4, c5⟩ := hat.later hb hg
      obtain ⟨s, hs⟩ : ∃ s, S[j] = s := ⟨_, rfl⟩
      rw [hs] at hx
      have hsok := hok s (hs ▸ List.getElem_mem _)
      have htk := Lib.hid (show S.take j ++ [s] = S.take (j + 1) by rw [List.take_succ_eq_append_getElem hlt, hs])
      have hlj : (S.take j).length ≤ 1000000 := by simp; omega
      obtain ⟨xn, xa, xl, xc, xb, xt, hxe⟩ := hx.form
      have hal := below_one' (B := wr.heap.size) (w := wr) (.cells x.arr 28) (Nat.le_refl _)
      have hcall := Lib.hid (hsc.out x s (wr.alloc (.cells x.arr 28)) hsok (hx.kept ((Kept.of_below hb).trans (Kept.of_below hal))))
      have ho' := Lib.hid (ho.later hal)
      have hb' := Lib.hid (hb.alloc hb.size (.cells x.arr 28))
      clear hx hs hal hat ho hb
      subst hxe
      unfold V6.arr at hcall ho' hb'
      simp only at c0 c1 c2 c3 c4 c5
      go_wp2_with fail
      refine hcall.out.mono ?_
      rintro e w5 ⟨⟨y, rfl, hy⟩, hb5⟩
      have hb5' := Lib.hid (hb'.out.trans (hb5.mono hb'.out.size))
      have ho5 := Lib.hid (ho'.out.later hb5)
      have hy' := Lib.hid hy
      obtain ⟨yt, yu, hye⟩ := hy.form
      subst hye
      clear hb5 hy
      go_wp2_with (at_builtin; refine wpList_pv (w0 := w) (B := w.heap.size) (y := .iface yt yu) (t := s) rfl _ _ rfl _ (S.take j) rfl ho5.out hb5'.out (Nat.le_refl _) hy'.out rfl hlj ?_; intro v4 w4 hv4 hb4)
      go_roundw
      case rel => exact ⟨j + 1, by go_num, by omega, hv4.eq htk.out, hb4⟩
      case measure => simp [intOf]; omega
    · obtain rfl : j = S.length := by omega
      have ho' := Lib.hid ho
      have hb' := Lib.hid hb
      clear ho hb
      go_wp2
      go_ret2
      exact ⟨⟨_, rfl, ho'.out.eq List.take_length⟩, hb'.out⟩

theorem newlist_any (a : Option Addr) (n c : Nat) (w : World) : Calls Tryz.prog 39 #[.slice a n c] w fun e w' => e = .returned (.pointer (some ⟨w.heap.size, 0, none⟩)) ∧ w' = w.alloc (.cells #[.slice a n c, .bool false, .int .u32 0] 128) := by
  go_enter Tryz.func39, Tryz.ntmps39
  go_wp2
  go_ret
  exact ⟨rfl, rfl⟩
theorem llen_any (g : Nat) (a : Option Addr) (n c : Nat) (x y : Value) (w : World) (h : Box.Holds w g 128 #[.slice a n c, x, y]) : Calls Tryz.prog 70 #[.pointer (some ⟨g, 0, none⟩)] w fun e w' => e = .returned (.int .i64 n) ∧ w = w' := by
  have k0 := h.cell 0
  simp at k0
  have hl := h.lt
  go_enter Tryz.func70, Tryz.ntmps70
  go_wp2
  go_ret
  exact ⟨rfl, rfl⟩
theorem lindex_any (g b : Nat) (n c : Nat) (x y : Value) (j : Nat) (u : Value) (w : World) (h : Box.Holds w g 128 #[.slice (some ⟨b, 0, none⟩) n c, x, y]) (hj : j < n) (hn : n ≤ 1000000) (hu : w.cell? ⟨b, j, none⟩ = some u) : Calls Tryz.prog 73 #[.pointer (some ⟨g, 0, none⟩), .int .i64 j] w fun e w' => e = .returned u ∧ w = w' := by
  have k0 := h.cell 0
  simp at k0
  have hl := h.lt
  have hb := World.block_lt_of_cell? _ _ hu
  simp only at hb
  go_enter Tryz.func73, Tryz.ntmps73
  go_wp2
  go_ret
  exact ⟨rfl, rfl⟩
def SomeVals (w : World) (S : List Sc) (e : Ending) (w' : World) : Prop := (∃ u, e = .returned u ∧ Vals w' w.heap.size u S) ∧ Below w.heap.size w w'
set_option maxHeartbeats 1000000 in
set_option maxRecDepth 100000 in
theorem elements_any (g : Nat) (v x y : Value) (S : List Sc) (B0 : Nat) (w : World) (hg : Box.Holds w g 128 #[v, x, y]) (hv : Pvals w B0 v S) (hl : S.length ≤ 1000) (hok : ∀ s ∈ S, s.ok) :
    Calls Tryz.prog 76 #[.pointer (some ⟨g, 0, none⟩)] w (SomeVals w S) := by
  obtain ⟨A0, cp0, rfl⟩ := hv.shape
  have hlen := Lib.hid fun W h => llen_any g A0 S.length cp0 x y W h
  have htl := Lib.hid fun v s W h1 h2 => tell_any v s W h1 h2
  have hmk := fun W => run_mkvals S.length (by omega) W
  have hmv := Lib.hid (made_vals S.length (by omega) w w.heap.size (Nat.le_refl _))
  have hbm := Lib.hid (below_one' (B := w.heap.size) (w := w) (madeV S.length) (Nat.le_refl _))
  have hg' := Lib.hid hg
  have hv' := Lib.hid hv
  clear hg hv
  go_enter Tryz.func76, Tryz.ntmps76
  go_wp2_with fail
  refine (hlen.out _ hg'.out).mono ?_
  rintro e w' ⟨rfl, rfl⟩
  go_wp2_with fail
  refine (hlen.out _ (hg'.out.later hbm.out)).mono ?_
  rintro e w' ⟨rfl, rfl⟩
  go_wp2_with fail
  clear hmk hlen
  go_loopw [3, 10] (fun u i wr => ∃ j : Nat, i = .int .i64 j ∧ j ≤ S.length ∧ Vals wr w.heap.size u (S.take j) ∧ Below w.heap.size w wr) (fun _ i _ => S.length - (intOf i).toNat)
  case atStart => exact ⟨0, rfl, Nat.zero_le _, hmv.out, hbm.out⟩
  case round =>
    obtain ⟨j, rfl, hj, ho, hb⟩ := hrel
    obtain ⟨Au, cu, hue⟩ := ho.shape
    rw [show (S.take j).length = j by simp; omega] at hue
    subst hue
    by_cases hlt : j < S.length
    · obtain ⟨b, cap, p, h, hbl, hB, hc, hcell, hfr, hp⟩ := hv'.out.at_ hlt
      simp only [Value.slice.injEq, true_and] at h
      obtain ⟨rfl, rfl⟩ := h
      obtain ⟨s, hs⟩ : ∃ s, S[j] = s := ⟨_, rfl⟩
      rw [hs] at hp
      have hsok := hok s (hs ▸ List.getElem_mem _)
      have htk := Lib.hid (show S.take j ++ [s] = S.take (j + 1) by rw [List.take_succ_eq_append_getElem hlt, hs])
      have hlj : (S.take j).length ≤ 1000000 := by simp; omega
      have hix := Lib.hid (lindex_any g b S.length cp0 x y j p wr (hg'.out.later hb) hlt (by omega) ((hb.cell (p := ⟨b, j, none⟩) hbl).trans hcell))
      have hcall := Lib.hid (htl.out p s wr hsok (hp.kept (Kept.of_below hb)))
      have ho' := Lib.hid ho
      have hb' := Lib.hid hb
      clear ho hb hp hcell hfr hs
      go_wp2_with fail
      refine hix.out.mono ?_
      rintro e w' ⟨rfl, rfl⟩
      go_wp2_with fail
      refine hcall.out.mono ?_
      rintro e w5 ⟨⟨z, rfl, hz⟩, hb5⟩
      have hb5' := Lib.hid (hb'.out.trans (hb5.mono hb'.out.size))
      have ho5 := Lib.hid (ho'.out.later hb5)
      have hz' := Lib.hid hz
      clear hb5 hz
      unfold V6.arr
      go_wp2_with (at_builtin; refine wpList_sc (w0 := w) (B := w.heap.size) (y := z) (t := s) rfl _ _ rfl _ (S.take j) rfl ho5.out hb5'.out (Nat.le_refl _) hz'.out rfl hlj ?_; intro v4 w4 hv4 hb4)
      go_roundw
      case rel => exact ⟨j + 1, by go_num, by omega, hv4.eq htk.out, hb4⟩
      case measure => simp [intOf]; omega
    · obtain rfl : j = S.length := by omega
      have ho' := Lib.hid ho
      have hb' := Lib.hid hb
      clear ho hb
      go_wp2
      go_ret
      exact ⟨⟨_, rfl, ho'.out.eq List.take_length⟩, hb'.out⟩
end Go.Proofs.YtafbheamnjmfoaaGreat.Sc

namespace Go.Proofs.YtafbheamnjmfoaaGreat.Sc
open Go.RowKit Go.WideShapes Go.Proofs.YtafbheamnjmfoaaGreat.Own Go.Proofs.YtafbheamnjmfoaaGreat.Num Go.Proofs.YtafbheamnjmfoaaGreat.Ref Go.Proofs.YtafbheamnjmfoaaGreat.Nat_ Go.Proofs.YtafbheamnjmfoaaGreat.Big Go.Proofs.YtafbheamnjmfoaaGreat.VRow
set_option linter.unusedVariables false

/-- a row's own block is no block of another type -/
theorem own_ne {w : World} {B e size n g : Nat} {v : Value} {xs : List Value} {t : TypeId} {cs : Array Value} (h : w.ownsRow B e size v n xs) (hg : Box.Holds w g t cs) (ht : t ≠ e) : v.ownBlock ≠ some g := by
  rcases h.2 with ⟨rfl, _⟩ | ⟨b, cap, cur, rfl, _, hb, _⟩
  · simp [Value.ownBlock]
  · intro e
    simp only [Value.ownBlock, Option.some.injEq] at e
    subst e
    have hg' : w.heap[b]? = some (.cells cs t (0, 0)) := hg
    rw [hb] at hg'
    simp only [Option.some.injEq, Obj.cells.injEq] at hg'
    exact ht hg'.2.1.symm
theorem Pvals.ne {w : World} {B g : Nat} {v : Value} {S : List Sc} {t : TypeId} {cs : Array Value} (h : Pvals w B v S) (hg : Box.Holds w g t cs) (ht : t ≠ 47) : v.ownBlock ≠ some g := by
  obtain ⟨L, h1, h2⟩ := h
  exact own_ne h1 hg ht
/-- a store elsewhere -/
theorem Pvals.setCell {w : World} {B : Nat} {v : Value} {S : List Sc} (h : Pvals w B v S) {p : Addr} {cs : Array Value} {t : TypeId} (hk : Box.Holds w p.block t cs) (ht : numT t = false) (hne : v.ownBlock ≠ some p.block) (u : Value) : Pvals (w.setCell p u) B v S := by
  obtain ⟨L, h1, h2⟩ := h
  exact ⟨L, ownsRow_setCell_other h1 hne u, h2.mono fun a b hab => hab.kept (Kept.setCell hk ht u)⟩
theorem Pvals.same {w w' : World} {B : Nat} {v : Value} {S : List Sc} (h : Pvals w B v S) (e : w'.heap = w.heap) : Pvals w' B v S := by
  obtain ⟨L, h1, h2⟩ := h
  have hk : Kept w w' := fun g cs t fz _ hh => by rw [e]; exact hh
  refine ⟨L, ⟨h1.1, ?_⟩, h2.mono fun a b hab => hab.kept hk⟩
  rcases h1.2 with h | ⟨g, cap, cur, hv, hB, hg, r⟩
  · exact .inl h
  · exact .inr ⟨g, cap, cur, hv, hB, by rw [e]; exact hg, r⟩
theorem Vals.same {w w' : World} {B : Nat} {v : Value} {S : List Sc} (h : Vals w B v S) (e : w'.heap = w.heap) : Vals w' B v S := by
  obtain ⟨L, h1, h2⟩ := h
  have hk : Kept w w' := fun g cs t fz _ hh => by rw [e]; exact hh
  refine ⟨L, ⟨h1.1, ?_⟩, h2.mono fun a b hab => hab.kept hk⟩
  rcases h1.2 with h | ⟨g, cap, cur, hv, hB, hg, r⟩
  · exact .inl h
  · exact .inr ⟨g, cap, cur, hv, hB, by rw [e]; exact hg, r⟩

/-- 'append(v, x)', and where what comes of it lies -/
theorem wpList_pv2 {ops : Array Oper} {rest : List Oper} {o : Oper} {a : Act} {Q : Exit → Act → World → Prop} {wr : World} {B : Nat} (hgd : o.guard = Option.none) (s x : Operand)
    (ho : o.op = .call { callee := .builtin .append, args := #[s, x], argTypes := #[74, 74] })
    (v : Value) (S : List Sc) (hs : a.eval s = v) (hv : Pvals wr B v S) (hB : B ≤ wr.heap.size) (y : Value) (t : Sc) (hy : IsPv wr y t)
    (hx : a.eval x = .slice (some ⟨wr.heap.size, 0, Option.none⟩) 1 1) (hn : S.length ≤ 1000000)
    (h : ∀ v' w', Pvals w' B v' (S ++ [t]) → Below B wr w' → (∀ b, v'.ownBlock = some b → v.ownBlock = some b ∨ wr.heap.size < b) → (∀ g, some g ≠ v.ownBlock → g < wr.heap.size → w'.heap[g]? = wr.heap[g]?) → wpList Tryz.prog ops Q rest (a.put o.dst v') w') :
    wpList Tryz.prog ops Q (o :: rest) a (wr.alloc (.cells #[y] 47)) := by
  obtain ⟨L, h1, h2⟩ := hv
  obtain ⟨i0, hi, hz0, hz1, hz2⟩ := info_parts info_pv
  have hlen := h2.1
  have hal : Below wr.heap.size wr (wr.alloc (.cells #[y] 47)) := below_one' _ (Nat.le_refl _)
  refine wpList_plain hgd fun _ hK => wp_append_lies _ s x 74 ho B 47 i0 .nilIface 1 16 Tryz.underlying74 hi hz0 hz1 hz2 rfl (by decide) v L.length L hs (World.ownsRow.alloc h1 _) ⟨wr.heap.size, 0, Option.none⟩ 1 1 [y] hx rfl
    (cell_one_new _ _ _) ?_ (by omega) (by unfold maxLen; omega) (by omega) (by simp; omega) (wr.heap.size + 1) (by simp) ?_
  · intro u hu
    simp at hu
    subst hu
    exact hy.one
  · intro g cap w' hown' hg hlies hlt
    have hk : Kept wr w' := (Kept.of_below hal).trans (Kept.grown (World.ownsRow.alloc h1 _) rfl hg)
    refine hK _ _ (h _ w' ⟨L ++ [y], by rw [List.length_append]; exact hown', (h2.mono fun a b hab => hab.kept hk).snoc (hy.kept hk)⟩ (((Below.refl _ _).alloc hB _).grown hg (by simp; omega) fun k hk => (World.ownsRow.lt h1 k hk).1) ?_ ?_)
    · intro b hb
      simp only [Value.ownBlock, Option.some.injEq] at hb
      subst hb
      rcases hlies with e | e
      · exact .inl e
      · exact .inr (by omega)
    · intro k hk hlt
      exact (hg.block k (by simp; omega) hk).trans (heap_alloc_old wr _ hlt)
/-- two lists, one place of each -/
theorem All.set {α β : Type} {P : α → β → Prop} {L : List α} {S : List β} (h : All P L S) (i : Nat) {x : α} {y : β} (hp : P x y) : All P (L.set i x) (S.set i y) := by
  refine ⟨by simp [h.1], fun j a b ha hb => ?_⟩
  rw [List.getElem?_set] at ha hb
  split at ha
  · rename_i e
    rw [if_pos e] at hb
    split at ha
    · rename_i hl
      rw [if_pos (by rw [← h.1]; exact hl)] at hb
      cases ha
      cases hb
      exact hp
    · cases ha
  · rename_i e
    rw [if_neg e] at hb
    exact h.2 j a b ha hb
/-- a store into the row -/
theorem Pvals.put {w : World} {B g n cap j : Nat} {S : List Sc} (h : Pvals w B (.slice (some ⟨g, 0, Option.none⟩) n cap) S) {x : Value} {t : Sc} (hx : IsPv w x t) : Pvals (w.setCell ⟨g, j, Option.none⟩ x) B (.slice (some ⟨g, 0, Option.none⟩) n cap) (S.set j t) := by
  obtain ⟨L, h1, h2⟩ := h
  have hn : n = L.length := by
    rcases h1.2 with ⟨e, _⟩ | ⟨g', cap', cur, e, _⟩
    · cases e
    · simp only [Value.slice.injEq] at e; exact e.2.1
  subst hn
  obtain ⟨cur, hcur⟩ : ∃ cur, w.heap[g]? = some (.cells cur 47 (0, 0)) := by
    rcases h1.2 with ⟨e, _⟩ | ⟨g', cap', cur, e, _, hg, _⟩
    · cases e
    · simp only [Value.slice.injEq, Option.some.injEq, Addr.mk.injEq] at e
      obtain ⟨⟨rfl, -⟩, -⟩ := e
      exact ⟨cur, hg⟩
  have hk : Kept w (w.setCell ⟨g, j, Option.none⟩ x) := Kept.setCell (p := ⟨g, j, Option.none⟩) hcur rfl x
  refine ⟨L.set j x, ?_, (h2.mono fun a b hab => hab.kept hk).set j (hx.kept hk)⟩
  have := (World.ownsRow.stored h1 j x).1
  rw [List.length_set]
  exact this
end Go.Proofs.YtafbheamnjmfoaaGreat.Sc
