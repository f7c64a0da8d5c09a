/-
  Small laws on UTF-8: what the decoder hands back at a place of a text; the two tables of package utf8 stay as they are.
-/
import Derived.Test.YtnenjlgpdejfaaaDoorShelf
import Derived.WalkKit
import Derived.Lib.QuoteLoop
import Derived.Lib.RuneCountTail
import Derived.Lib.TrimU
namespace Go.Proofs.YtnenjlgpdejfaaaDoor.Utf
open Go.RowKit Go.Lib

/-- the two tables of package utf8 -/
def Tabs (w : World) : Prop := Lib.Utf8Tabs 4 5 w
theorem Tabs.below {B : Nat} {w w' : World} (h : Tabs w) (hb : Below B w w') (h1 : 4 < B) (h2 : 5 < B) : Tabs w' :=
  ⟨fun c hc => (hb.cell (p := ⟨4, c, none⟩) h1).trans (h.1 c hc), fun i hi => ⟨(hb.cell (p := ⟨5, 2 * i, none⟩) h2).trans (h.2 i hi).1, (hb.cell (p := ⟨5, 2 * i + 1, none⟩) h2).trans (h.2 i hi).2⟩⟩
theorem Tabs.lt {w : World} (h : Tabs w) : 4 < w.heap.size ∧ 5 < w.heap.size :=
  ⟨World.block_lt_of_cell? w ⟨4, 0, none⟩ (h.1 0 (by decide)), World.block_lt_of_cell? w ⟨5, 2 * 0, none⟩ (h.2 0 (by decide)).1⟩
theorem Tabs.later {w w' : World} (h : Tabs w) (hb : Below w.heap.size w w') : Tabs w' := h.below hb h.lt.1 h.lt.2
theorem Tabs.iter {w : World} (h : Tabs w) (s : ByteArray) (pos : Nat) : Tabs (w.iter s pos) := h.later ((Below.refl _ _).alloc (Nat.le_refl _) _)

/-- the rune at a place, and its width -/
def rune (s : ByteArray) (i : Nat) : Nat := (Utf8.decode s i).1
def width (s : ByteArray) (i : Nat) : Nat := (Utf8.decode s i).2
theorem width_pos (s : ByteArray) (i : Nat) : 1 ≤ width s i := Lib.width_pos s i
theorem width_le (s : ByteArray) (i : Nat) (h : i < s.size) : i + width s i ≤ s.size := by
  have := Lib.width_le (s.extract i s.size) (by simp; omega)
  rw [Lib.tail_decode] at this
  simp at this
  unfold width
  omega
theorem width_four (s : ByteArray) (i : Nat) : width s i ≤ 4 := by
  unfold width
  rw [Lib.decode_at]
  unfold Lib.decodeN
  repeat' split
  all_goals simp
theorem rune_le (s : ByteArray) (i : Nat) : rune s i ≤ 1114111 := Lib.rune_le s i
theorem rune_ok (s : ByteArray) (i : Nat) : rune s i < 55296 ∨ 57343 < rune s i := by
  have := Lib.decodeN_valid (s.size - i) (s.get! i).toNat (s.get! (i + 1)).toNat (s.get! (i + 2)).toNat (s.get! (i + 3)).toNat (UInt8.toNat_lt _)
  unfold rune
  rw [Lib.decode_at]
  omega

/-- the decoder at the rest of a text -/
theorem decode_any (s : ByteArray) (i : Nat) (hi : i < s.size) (w : World) (hT : Tabs w) :
    Calls Tryd.prog 24 #[.string (s.extract i s.size)] w fun e w' => e = .returned (.tuple #[.int .i32 (rune s i), .int .i64 (width s i)]) ∧ Below w.heap.size w w' := by
  have h : Lib.decodeGo (s.extract i s.size) = Utf8.decode s i := by
    unfold Lib.decodeGo
    rw [if_neg (by simp; omega), Lib.tail_decode]
    rfl
  have := Tryd.utf8_DecodeRuneInString (s.extract i s.size) w hT
  rw [h] at this
  exact this
end Go.Proofs.YtnenjlgpdejfaaaDoor.Utf
