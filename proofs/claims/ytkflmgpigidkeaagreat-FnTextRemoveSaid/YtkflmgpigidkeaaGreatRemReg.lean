/-
  The region of the law that draws its order: what has come up, whatever the order.
-/
import Derived.Test.YtkflmgpigidkeaaGreatRemMap
import Derived.Test.YtkflmgpigidkeaaGreatRemAsk
namespace Go.Proofs.YtkflmgpigidkeaaGreat.Rem
open Go.RowKit Go.WideShapes Go.Proofs.YtkflmgpigidkeaaGreat.Reg
set_option linter.unusedVariables false

def upd (V : Nat → Value) (i : Nat) (v : Value) : Nat → Value := fun j => if j = i then v else V j
/-- the frame, by what the operations have left -/
def fr (sfx : Bool) (a1 a2 s x : ByteArray) (p V : Nat → Value) : Act :=
  ⟨#[.bool sfx, .string a1, .string a2, undef, undef, undef, .bool false, .string s, .string x, V 15, V 17, V 18, undef, undef, p 14, p 15, p 16, p 17, p 18, p 19, p 20, p 21, p 22, p 23, p 24, p 25, V 11, V 0, V 1, V 4, V 5, V 6, V 7, V 8, V 9, V 10, V 12, V 13, V 14, undef, undef, undef, undef, undef, undef, undef, undef, undef, undef, undef, undef, undef, undef], []⟩

def zeros : Array Value := #[.int .i64 0, .bool false, .slice none 0 0, .int .u64 0, .string ⟨#[]⟩, .slice none 0 0]
def texts (t : ByteArray) : Array Value := #[.int .i64 4, .bool false, .slice none 0 0, .int .u64 0, .string t, .slice none 0 0]
/-- what operation j has left, in the world as it stands -/
def Fact (s x R : ByteArray) (sfx : Bool) (B b g34 g9 : Nat) (l2 l3 l16 : Bool) (w : World) : Nat → Value → Prop
  | 0, v => v = .string s
  | 1, v => v = .map (some b) ∧ B ≤ b ∧ Mp w b l2 l3
  | 4, v => v = .map (some b)
  | 5, v => v = .bool sfx
  | 6, v => v = .string (nmOf sfx)
  | 7, v => v = .string x
  | 8, v => v = .agg (texts x)
  | 9, v => v = .slice (some ⟨g34, 0, none⟩) 1 1 ∧ (l16 = false → Holds w g34 27 (texts x))
  | 10, v => v = .tuple #[.agg (texts R), .slice none 0 0, .bool true]
  | 11, v => v = .tuple #[.agg (texts R), .slice none 0 0, .bool true]
  | 12, v => v = .agg (texts R)
  | 13, v => v = .slice none 0 0
  | 14, v => v = .bool true
  | 15, v => v = .pointer (some ⟨g9, 0, none⟩) ∧ B ≤ g9 ∧ Holds w g9 27 (if l16 then texts R else zeros)
  | 17, v => v = .slice none 0 0
  | 18, v => v = .bool true
  | _, _ => True

def J (s x R : ByteArray) (sfx : Bool) (a1 a2 : ByteArray) (p : Nat → Value) (w0 : World) (listed : Array Bool) (a : Act) (w : World) : Prop :=
  ∃ V b g34 g9, a = fr sfx a1 a2 s x p V ∧ Below w0.heap.size w0 w ∧ ∀ j, j < 19 → listed.getD j false = true →
    Fact s x R sfx w0.heap.size b g34 g9 (listed.getD 2 false) (listed.getD 3 false) (listed.getD 16 false) w j (V j)

theorem getL_same {l : Array Bool} {i : Nat} (h : i < l.size) : (l.setIfInBounds i true).getD i false = true := by
  simp [Array.getD, h]
theorem getL_ne {l : Array Bool} {i j : Nat} (h : i ≠ j) : (l.setIfInBounds i true).getD j false = l.getD j false := by
  simp [Array.getElem?_setIfInBounds_ne h]

/-- one step: what is new, and what stays -/
theorem J_step {s x R : ByteArray} {sfx : Bool} {a1 a2 : ByteArray} {p V : Nat → Value} {w0 w w' : World} {listed : Array Bool} {i b g34 g9 b' g34' g9' : Nat} {v : Value} (hs : listed.size = 19) (hi : i < 19)
    (hb : Below w0.heap.size w0 w')
    (hF : ∀ j, j < 19 → listed.getD j false = true → Fact s x R sfx w0.heap.size b g34 g9 (listed.getD 2 false) (listed.getD 3 false) (listed.getD 16 false) w j (V j))
    (hnew : Fact s x R sfx w0.heap.size b' g34' g9' (if 2 = i then true else listed.getD 2 false) (if 3 = i then true else listed.getD 3 false) (if 16 = i then true else listed.getD 16 false) w' i v)
    (hold : ∀ j u, j < 19 → j ≠ i → listed.getD j false = true → Fact s x R sfx w0.heap.size b g34 g9 (listed.getD 2 false) (listed.getD 3 false) (listed.getD 16 false) w j u →
      Fact s x R sfx w0.heap.size b' g34' g9' (if 2 = i then true else listed.getD 2 false) (if 3 = i then true else listed.getD 3 false) (if 16 = i then true else listed.getD 16 false) w' j u) :
    J s x R sfx a1 a2 p w0 (listed.setIfInBounds i true) (fr sfx a1 a2 s x p (upd V i v)) w' := by
  have hl : ∀ k, (listed.setIfInBounds i true).getD k false = if k = i then true else listed.getD k false := fun k => by
    by_cases e : k = i
    · subst e; rw [getL_same (by omega), if_pos rfl]
    · rw [getL_ne (fun h => e h.symm), if_neg e]
  refine ⟨upd V i v, b', g34', g9', rfl, hb, fun j hj hlj => ?_⟩
  rw [hl 2, hl 3, hl 16]
  by_cases e : j = i
  · subst e
    simpa [upd] using hnew
  · rw [hl j, if_neg e] at hlj
    have := hold j (V j) hj e hlj (hF j hj hlj)
    simpa [upd, e] using this

/-- the same facts in a later world in which nothing that was there has turned -/
theorem Fact.later {s x R : ByteArray} {sfx : Bool} {B b g34 g9 : Nat} {l2 l3 l16 : Bool} {w w' : World} (hb : Below w.heap.size w w') {j : Nat} {u : Value} (h : Fact s x R sfx B b g34 g9 l2 l3 l16 w j u) : Fact s x R sfx B b g34 g9 l2 l3 l16 w' j u := by
  unfold Fact at h ⊢
  split at h
  case h_2 => exact ⟨h.1, h.2.1, h.2.2.same (hb.block _ h.2.2.lt)⟩
  case h_8 => exact ⟨h.1, fun e => (h.2 e).later hb⟩
  case h_14 => exact ⟨h.1, h.2.1, h.2.2.later hb⟩
  all_goals exact h

theorem Fact.b {s x R : ByteArray} {sfx : Bool} {B b b' g34 g9 : Nat} {l2 l3 l16 m2 m3 : Bool} {w : World} {j : Nat} {u : Value} (h1 : j ≠ 1) (h4 : j ≠ 4) (h : Fact s x R sfx B b g34 g9 l2 l3 l16 w j u) : Fact s x R sfx B b' g34 g9 m2 m3 l16 w j u := by
  unfold Fact at h ⊢
  split at h <;> first | exact h | (exfalso; omega) | trivial
theorem Fact.g34 {s x R : ByteArray} {sfx : Bool} {B b g34 g34' g9 : Nat} {l2 l3 l16 : Bool} {w : World} {j : Nat} {u : Value} (h1 : j ≠ 9) (h : Fact s x R sfx B b g34 g9 l2 l3 l16 w j u) : Fact s x R sfx B b g34' g9 l2 l3 l16 w j u := by
  unfold Fact at h ⊢
  split at h <;> first | exact h | (exfalso; omega) | trivial
theorem Fact.g9 {s x R : ByteArray} {sfx : Bool} {B b g34 g9 g9' : Nat} {l2 l3 l16 : Bool} {w : World} {j : Nat} {u : Value} (h1 : j ≠ 15) (h : Fact s x R sfx B b g34 g9 l2 l3 l16 w j u) : Fact s x R sfx B b g34 g9' l2 l3 l16 w j u := by
  unfold Fact at h ⊢
  split at h <;> first | exact h | (exfalso; omega) | trivial
/-- an entry is laid into the map: all else is as it was -/
theorem Fact.laid {s x R : ByteArray} {sfx : Bool} {B b g34 g9 : Nat} {l2 l3 l16 m2 m3 : Bool} {w w' : World} {j : Nat} {u : Value} (hm : Mp w b l2 l3) (hm' : Mp w' b m2 m3) (hg : w.grownBy w' (some b)) (h : Fact s x R sfx B b g34 g9 l2 l3 l16 w j u) : Fact s x R sfx B b g34 g9 m2 m3 l16 w' j u := by
  have keep : ∀ {g t cs}, Holds w g t cs → Holds w' g t cs := fun {g t cs} hh => (hg.block g hh.lt (fun e => hm.ne hh (Option.some.inj e))).trans hh
  unfold Fact at h ⊢
  split at h
  case h_2 => exact ⟨h.1, h.2.1, hm'⟩
  case h_8 => exact ⟨h.1, fun e => keep (h.2 e)⟩
  case h_14 => exact ⟨h.1, h.2.1, keep h.2.2⟩
  all_goals exact h
/-- the answer is stored into its variable: all else is as it was -/
theorem Fact.stored {s x R : ByteArray} {sfx : Bool} {B b g34 g9 : Nat} {l2 l3 : Bool} {w : World} {j : Nat} {u : Value} (hg : Holds w g9 27 zeros)
    (h : Fact s x R sfx B b g34 g9 l2 l3 false w j u) : Fact s x R sfx B b g34 g9 l2 l3 true ((((((w.setCell ⟨g9, 0, none⟩ (.int .i64 4)).setCell ⟨g9, 1, none⟩ (.bool false)).setCell ⟨g9, 2, none⟩ (.slice none 0 0)).setCell ⟨g9, 3, none⟩ (.int .u64 0)).setCell ⟨g9, 4, none⟩ (.string R)).setCell ⟨g9, 5, none⟩ (.slice none 0 0)) j u := by
  unfold Fact at h ⊢
  split at h
  case h_2 =>
    have hne := h.2.2.ne hg
    refine ⟨h.1, h.2.1, h.2.2.same ?_⟩
    have e0 := Below.heap_setCell w ⟨g9, 0, none⟩ (.int .i64 4) b (fun e => hne e.symm)
    have e1 := Below.heap_setCell (w.setCell ⟨g9, 0, none⟩ (.int .i64 4)) ⟨g9, 1, none⟩ (.bool false) b (fun e => hne e.symm)
    have e2 := Below.heap_setCell ((w.setCell ⟨g9, 0, none⟩ (.int .i64 4)).setCell ⟨g9, 1, none⟩ (.bool false)) ⟨g9, 2, none⟩ (.slice none 0 0) b (fun e => hne e.symm)
    have e3 := Below.heap_setCell (((w.setCell ⟨g9, 0, none⟩ (.int .i64 4)).setCell ⟨g9, 1, none⟩ (.bool false)).setCell ⟨g9, 2, none⟩ (.slice none 0 0)) ⟨g9, 3, none⟩ (.int .u64 0) b (fun e => hne e.symm)
    have e4 := Below.heap_setCell ((((w.setCell ⟨g9, 0, none⟩ (.int .i64 4)).setCell ⟨g9, 1, none⟩ (.bool false)).setCell ⟨g9, 2, none⟩ (.slice none 0 0)).setCell ⟨g9, 3, none⟩ (.int .u64 0)) ⟨g9, 4, none⟩ (.string R) b (fun e => hne e.symm)
    have e5 := Below.heap_setCell (((((w.setCell ⟨g9, 0, none⟩ (.int .i64 4)).setCell ⟨g9, 1, none⟩ (.bool false)).setCell ⟨g9, 2, none⟩ (.slice none 0 0)).setCell ⟨g9, 3, none⟩ (.int .u64 0)).setCell ⟨g9, 4, none⟩ (.string R)) ⟨g9, 5, none⟩ (.slice none 0 0) b (fun e => hne e.symm)
    rw [e5, e4, e3, e2, e1, e0]
  case h_8 => exact ⟨h.1, fun e => by cases e⟩
  case h_14 => exact ⟨h.1, h.2.1, six_put hg _ _ _ _ _ _⟩
  all_goals exact h
end Go.Proofs.YtkflmgpigidkeaaGreat.Rem
