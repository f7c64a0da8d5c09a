/-
  Values without parts, as the reference holds them and as the program does; what keeps them.
-/
import Derived.Test.YtkflmgpigidkeaaGreatVRow
import Derived.Test.YtkflmgpigidkeaaGreatNumber
import Derived.Test.YtkflmgpigidkeaaGreatSpecVal
import Derived.OneCell
namespace Go.Proofs.YtkflmgpigidkeaaGreat.Sc
open Go.RowKit Go.WideShapes Go.Proofs.YtkflmgpigidkeaaGreat.Own Go.Proofs.YtkflmgpigidkeaaGreat.Num Go.Proofs.YtkflmgpigidkeaaGreat.Ref Go.Proofs.YtkflmgpigidkeaaGreat.Nat_ Go.Proofs.YtkflmgpigidkeaaGreat.Big Go.Proofs.YtkflmgpigidkeaaGreat.VRow
set_option linter.unusedVariables false

/-- the blocks that bear numbers: bytes, words, integers -/
def numT (t : TypeId) : Bool := t == 5 || t == 287 || t == 222
/-- each block that bears numbers is as it was -/
def Kept (w w' : World) : Prop := ∀ (g : Nat) (cs : Array Value) (t : TypeId) (fz : Nat × Nat), numT t = true → w.heap[g]? = some (.cells cs t fz) → w'.heap[g]? = some (.cells cs t fz)
theorem Kept.refl (w : World) : Kept w w := fun _ _ _ _ _ h => h
theorem Kept.trans {a b c : World} (h : Kept a b) (h' : Kept b c) : Kept a c := fun g cs t fz hn hh => h' g cs t fz hn (h g cs t fz hn hh)
theorem Kept.of_below {w w' : World} (h : Below w.heap.size w w') : Kept w w' := fun g cs t fz _ hh => (h.block g (Array.getElem?_eq_some_iff.1 hh).1).trans hh
theorem Kept.of_block {w w' : World} {k : Nat} {cs : Array Value} {t : TypeId} {fz : Nat × Nat} (hk : w.heap[k]? = some (.cells cs t fz)) (ht : numT t = false) (h : ∀ g, g < w.heap.size → g ≠ k → w'.heap[g]? = w.heap[g]?) : Kept w w' := fun g cs' t' fz' hn hh => by
  have hg := (Array.getElem?_eq_some_iff.1 hh).1
  by_cases e : g = k
  · subst e
    rw [hk] at hh
    cases hh
    rw [ht] at hn
    cases hn
  · exact (h g hg e).trans hh
theorem Kept.setCell {w : World} {p : Addr} {cs : Array Value} {t : TypeId} {fz : Nat × Nat} (hk : w.heap[p.block]? = some (.cells cs t fz)) (ht : numT t = false) (u : Value) : Kept w (w.setCell p u) :=
  Kept.of_block hk ht fun g _ hne => Below.heap_setCell w p u g (fun e => hne e)
theorem Kept.grown {w w' : World} {B e size n : Nat} {v : Value} {xs : List Value} (hown : w.ownsRow B e size v n xs) (he : numT e = false) (hg : w.grownBy w' v.ownBlock) : Kept w w' := by
  rcases hown.2 with ⟨rfl, _⟩ | ⟨g, cap, cur, rfl, _, hh, _⟩
  · exact fun g cs t fz _ hh => (hg.block g (Array.getElem?_eq_some_iff.1 hh).1 (by simp [Value.ownBlock])).trans hh
  · exact Kept.of_block hh he fun k hk hne => hg.block k hk (by simp [Value.ownBlock]; omega)
theorem Kept.cell {w w' : World} (h : Kept w w') {a : Addr} {cs : Array Value} {t : TypeId} {fz : Nat × Nat} (ht : numT t = true) (hk : w.heap[a.block]? = some (.cells cs t fz)) : w'.cell? a = w.cell? a :=
  World.cell?_of_block ((h _ _ _ _ ht hk).trans hk.symm)

/-- a slice that reads as these bytes, in a block of bytes -/
def Mg (w : World) (v : Value) (l : List UInt8) : Prop := ∃ a cap, v = .slice a l.length cap ∧ Rd w a l ∧ l.length ≤ cap ∧ (a = none → cap = 0) ∧ ∀ x, a = some x → ∃ cs fz, w.heap[x.block]? = some (.cells cs 5 fz)
theorem Mg.kept {w w' : World} {v : Value} {l : List UInt8} (h : Mg w v l) (hk : Kept w w') : Mg w' v l := by
  obtain ⟨a, c, h1, h2, h3, h4, h5⟩ := h
  refine ⟨a, c, h1, ?_, h3, h4, fun x hx => ?_⟩
  · rcases h2 with h | ⟨x, rfl, hx, hc⟩
    · exact .inl h
    · obtain ⟨cs, fz, hh⟩ := h5 x rfl
      refine .inr ⟨x, rfl, fun _ => (Array.getElem?_eq_some_iff.1 (hk _ _ _ _ rfl hh)).1, fun j hj => ?_⟩
      rw [hk.cell (a := x.add j) rfl (by rw [block_add]; exact hh)]
      exact hc j hj
  · obtain ⟨cs, fz, hh⟩ := h5 x hx
    exact ⟨cs, fz, hk _ _ _ _ rfl hh⟩
theorem Mg.of_rds {w : World} {B : Nat} {v : Value} {l : List UInt8} (h : RdS w B v l) : Mg w v l := by
  obtain ⟨a, c, h1, h2, h3, h4, h5⟩ := h
  exact ⟨a, c, h1, h2, h3, h4, fun x hx => (h5 x hx).2⟩
theorem Mg.of_owns {w : World} {B : Nat} {v : Value} {l : List UInt8} (h : Owns w B v l) : Mg w v l := by
  obtain ⟨a, c, rfl, hr, hc⟩ := Rd.of_own h
  refine ⟨a, c, rfl, hr, hc, fun h0 => ?_, fun x hx => ?_⟩
  · rcases h.2 with ⟨e, _⟩ | ⟨g, c', cur, e, _⟩
    · simp only [Value.slice.injEq] at e; exact e.2.2
    · subst h0; cases e
  · rcases h.2 with ⟨e, _⟩ | ⟨g, c', cur, e, hB, hh, _⟩
    · subst hx; cases e
    · subst hx; cases e; exact ⟨_, _, hh⟩
theorem SInt.kept {w w' : World} {B : Nat} {v : Value} {z : Int} (h : SInt w B v z) (hk : Kept w w') : SInt w' B v z := by
  rcases h with h | ⟨g, neg, V, h1, h2, ⟨x, k1, k2, k3⟩, h4⟩
  · exact .inl h
  · refine .inr ⟨g, neg, V, h1, h2, ⟨x, hk _ _ _ _ rfl k1, ?_, k3⟩, h4⟩
    refine ⟨k2.1, ?_⟩
    rcases k2.2 with hn | ⟨g', cap, cur, rfl, hB, hg, rest⟩
    · exact .inl hn
    · exact .inr ⟨g', cap, cur, rfl, hB, hk _ _ _ _ rfl hg, rest⟩

/-- a value without parts -/
inductive Sc where
  | none
  | bool (b : Bool)
  | int (neg : Bool) (m : Nat)
  | float (b : Nat)
  | text (bytes : Bool) (t : ByteArray)
def Sc.ok : Sc → Prop
  | .int neg m => (neg = true → 0 < m) ∧ m < 256 ^ 40
  | .text _ t => t.size ≤ 60
  | _ => True
def six0 (k : Int) (neg : Bool) (mag : Value) (b : Int) (t : ByteArray) : V6 := ⟨.int .i64 k, .bool neg, mag, .int .u64 b, .string t, .slice Option.none 0 0⟩
/-- the reference's six cells of it -/
def IsSc (w : World) (x : V6) : Sc → Prop
  | .none => x = six0 0 false (.slice Option.none 0 0) 0 ⟨#[]⟩
  | .bool b => x = six0 1 false (.slice Option.none 0 0) (if b then 1 else 0) ⟨#[]⟩
  | .int neg m => ∃ u, x = six0 2 neg u 0 ⟨#[]⟩ ∧ Mg w u (mag m)
  | .float b => x = six0 3 false (.slice Option.none 0 0) b ⟨#[]⟩
  | .text by_ t => x = six0 (if by_ then 5 else 4) false (.slice Option.none 0 0) 0 t
theorem IsSc.kept {w w' : World} {x : V6} {s : Sc} (h : IsSc w x s) (hk : Kept w w') : IsSc w' x s := by
  cases s with
  | int neg m =>
    obtain ⟨u, h1, h2⟩ := h
    exact ⟨u, h1, h2.kept hk⟩
  | none => exact h
  | bool b => exact h
  | float b => exact h
  | text k t => exact h
theorem six0_one {k : Int} {neg : Bool} {m : Value} {b : Int} {t : ByteArray} (hm : m.oneCell' = true) : (six0 k neg m b t).One := by
  intro u hu
  simp [V6.cs, six0] at hu
  rcases hu with rfl | rfl | rfl | rfl | rfl | rfl <;> first | rfl | exact hm
theorem IsSc.one {w : World} {x : V6} {s : Sc} (h : IsSc w x s) : x.One := by
  cases s with
  | int neg m =>
    obtain ⟨u, rfl, a, c, rfl, _⟩ := h
    exact six0_one rfl
  | none => exact (show x = _ from h) ▸ six0_one rfl
  | bool b => exact (show x = _ from h) ▸ six0_one rfl
  | float b => exact (show x = _ from h) ▸ six0_one rfl
  | text k t => exact (show x = _ from h) ▸ six0_one rfl
/-- the program's value of it -/
def IsPv (w : World) (v : Value) : Sc → Prop
  | .none => v = .iface 155 (.int .u8 0)
  | .bool b => v = .iface 148 (.bool b)
  | .int neg m => ∃ u B, v = .iface 160 u ∧ SInt w B u (sg neg m)
  | .float b => v = .iface 162 (.float .f64 b)
  | .text by_ t => v = .iface (if by_ then 164 else 71) (.string t)
theorem IsPv.kept {w w' : World} {x : Value} {s : Sc} (h : IsPv w x s) (hk : Kept w w') : IsPv w' x s := by
  cases s with
  | int neg m =>
    obtain ⟨u, B, h1, h2⟩ := h
    exact ⟨u, B, h1, SInt.kept h2 hk⟩
  | none => exact h
  | bool b => exact h
  | float b => exact h
  | text k t => exact h
end Go.Proofs.YtkflmgpigidkeaaGreat.Sc
