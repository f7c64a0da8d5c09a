/-
  The integer of a sign and of bytes, as the reference and as the program has it.
-/
import Derived.Test.YtpjkfdgkkpkljaaGreatDoorFresh
import Derived.Deep.RegionWith
import Derived.Deep.DrawnRows
import Derived.Deep.DeepCutAuto
namespace Go.Proofs.YtpjkfdgkkpkljaaGreatDoor.Ref
open Go.RowKit Go.WideShapes Go.Proofs.YtpjkfdgkkpkljaaGreatDoor.Own Go.Proofs.YtpjkfdgkkpkljaaGreatDoor.Num
set_option linter.unusedVariables false

theorem Rd.take {w : World} {a : Option Addr} {l : List UInt8} (h : Rd w a l) (k : Nat) : Rd w a (l.take k) := by
  rcases h with ⟨h1, h2⟩ | ⟨x, rfl, hx, hc⟩
  · exact .inl ⟨h1, by rw [h2]; simp⟩
  · refine .inr ⟨x, rfl, fun h0 => hx (by rw [List.length_take] at h0; omega), fun j hj => ?_⟩
    rw [hc j (by rw [List.length_take] at hj; omega)]
    simp
/-- a value of the program's that is an integer -/
def IsVal (w : World) (B : Nat) (v : Value) (neg : Bool) (m : Nat) : Prop := ∃ u, v = .agg #[.int .i64 2, .bool neg, u, .int .u64 0, .string ⟨#[]⟩, .slice none 0 0] ∧ Owns w B u (mag m) ∧ (neg = true → 0 < m)
theorem IsVal.later {w w' : World} {B : Nat} {v : Value} {neg : Bool} {m : Nat} (h : IsVal w B v neg m) (hb : Below w.heap.size w w') : IsVal w' B v neg m := by
  obtain ⟨u, h1, h2, h3⟩ := h
  exact ⟨u, h1, h2.later hb, h3⟩
theorem IsVal.mono {w : World} {B B' : Nat} {v : Value} {neg : Bool} {m : Nat} (h : IsVal w B v neg m) (hB : B' ≤ B) : IsVal w B' v neg m := by
  obtain ⟨u, h1, h2, h3⟩ := h
  exact ⟨u, h1, World.ownsRow.mono h2 hB, h3⟩
theorem IsInt.above {w w' : World} {B : Nat} {v : Value} {neg : Bool} {m : Nat} (h : IsInt w B v neg m) (hb : Box.Above B w w') : IsInt w' B v neg m := by
  obtain ⟨u, h1, h2, h3⟩ := h
  exact ⟨u, h1, Box.own_above h2 hb, h3⟩
theorem IsVal.above {w w' : World} {B : Nat} {v : Value} {neg : Bool} {m : Nat} (h : IsVal w B v neg m) (hb : Box.Above B w w') : IsVal w' B v neg m := by
  obtain ⟨u, h1, h2, h3⟩ := h
  exact ⟨u, h1, Box.own_above h2 hb, h3⟩
theorem below_one' {B : Nat} {w : World} (o : Obj) (h : B ≤ w.heap.size) : Below B w (w.alloc o) := (Below.refl _ _).alloc h _
theorem mag_len_le {V k : Nat} (h : V < 256 ^ k) : (mag V).length ≤ k := by rw [mag_length]; exact len_le (by omega) h

theorem eight {w w1 : World} (a0 a1 u0 u1 u2 u3 u4 u5 : Value) (hb : Below w.heap.size w w1) :
    Box.Above (w.heap.size + 2) w1 ((((((((w1.setCell ⟨w.heap.size, 0, none⟩ a0).setCell ⟨w.heap.size, 1, none⟩ a1).setCell ⟨w.heap.size + 1, 0, none⟩ u0).setCell ⟨w.heap.size + 1, 1, none⟩ u1).setCell ⟨w.heap.size + 1, 2, none⟩ u2).setCell ⟨w.heap.size + 1, 3, none⟩ u3).setCell ⟨w.heap.size + 1, 4, none⟩ u4).setCell ⟨w.heap.size + 1, 5, none⟩ u5)
    ∧ Below w.heap.size w ((((((((w1.setCell ⟨w.heap.size, 0, none⟩ a0).setCell ⟨w.heap.size, 1, none⟩ a1).setCell ⟨w.heap.size + 1, 0, none⟩ u0).setCell ⟨w.heap.size + 1, 1, none⟩ u1).setCell ⟨w.heap.size + 1, 2, none⟩ u2).setCell ⟨w.heap.size + 1, 3, none⟩ u3).setCell ⟨w.heap.size + 1, 4, none⟩ u4).setCell ⟨w.heap.size + 1, 5, none⟩ u5) := by
  have b0 : w.heap.size < w.heap.size + 2 := by omega
  have b1 : w.heap.size + 1 < w.heap.size + 2 := by omega
  have c0 : w.heap.size ≤ w.heap.size := Nat.le_refl _
  have c1 : w.heap.size ≤ w.heap.size + 1 := by omega
  constructor
  · have h0 := (Box.Above.refl (w.heap.size + 2) w1).setCell (p := ⟨w.heap.size, 0, none⟩) b0 a0
    have h1 := h0.setCell (p := ⟨w.heap.size, 1, none⟩) b0 a1
    have h2 := h1.setCell (p := ⟨w.heap.size + 1, 0, none⟩) b1 u0
    have h3 := h2.setCell (p := ⟨w.heap.size + 1, 1, none⟩) b1 u1
    have h4 := h3.setCell (p := ⟨w.heap.size + 1, 2, none⟩) b1 u2
    have h5 := h4.setCell (p := ⟨w.heap.size + 1, 3, none⟩) b1 u3
    have h6 := h5.setCell (p := ⟨w.heap.size + 1, 4, none⟩) b1 u4
    exact h6.setCell (p := ⟨w.heap.size + 1, 5, none⟩) b1 u5
  · have h0 := hb.setCell (p := ⟨w.heap.size, 0, none⟩) c0 a0
    have h1 := h0.setCell (p := ⟨w.heap.size, 1, none⟩) c0 a1
    have h2 := h1.setCell (p := ⟨w.heap.size + 1, 0, none⟩) c1 u0
    have h3 := h2.setCell (p := ⟨w.heap.size + 1, 1, none⟩) c1 u1
    have h4 := h3.setCell (p := ⟨w.heap.size + 1, 2, none⟩) c1 u2
    have h5 := h4.setCell (p := ⟨w.heap.size + 1, 3, none⟩) c1 u3
    have h6 := h5.setCell (p := ⟨w.heap.size + 1, 4, none⟩) c1 u4
    exact h6.setCell (p := ⟨w.heap.size + 1, 5, none⟩) c1 u5

end Go.Proofs.YtpjkfdgkkpkljaaGreatDoor.Ref
