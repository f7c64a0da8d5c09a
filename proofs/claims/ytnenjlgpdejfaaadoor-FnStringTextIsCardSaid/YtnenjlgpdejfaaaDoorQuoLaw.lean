/-
  The literal of a text, said plainly: piece by piece, a rune at a time.
-/
import Derived.Test.YtnenjlgpdejfaaaDoorUtf
import Derived.Lib.MapLaws
namespace Go.Proofs.YtnenjlgpdejfaaaDoor.Quo
open Go.RowKit Go.Lib Go.Proofs.YtnenjlgpdejfaaaDoor.Utf

/-- the byte at a place -/
def at' (s : ByteArray) (i : Nat) : Nat := (s.get! i).toNat
theorem at_lt (s : ByteArray) (i : Nat) : at' s i < 256 := UInt8.toNat_lt _

def hexs : List UInt8 := [48, 49, 50, 51, 52, 53, 54, 55, 56, 57, 97, 98, 99, 100, 101, 102]
def hexd (k : Nat) : UInt8 := hexs.getD k 0
/-- the name of a byte that has one -/
def named (c : Nat) : UInt8 :=
  if c = 7 then 97 else if c = 8 then 98 else if c = 12 then 102 else if c = 10 then 110 else if c = 13 then 114 else if c = 9 then 116 else if c = 11 then 118 else if c = 34 then 34 else if c = 92 then 92 else 0
def digs (r n : Nat) : List UInt8 := (List.range n).map fun j => hexd (r / 16 ^ (n - 1 - j) % 16)
theorem digs_length (r n : Nat) : (digs r n).length = n := by simp [digs]
def coded (r : Nat) : List UInt8 := if 65535 < r then [92, 85] ++ digs r 8 else [92, 117] ++ digs r 4
def raw (s : ByteArray) (i : Nat) : List UInt8 := (s.data.toList.drop i).take (width s i)
def piece (p : Int → Bool) (s : ByteArray) (i : Nat) : List UInt8 :=
  if named (at' s i) ≠ 0 then [92, named (at' s i)]
  else if at' s i < 32 ∨ at' s i = 127 ∨ (rune s i = 65533 ∧ width s i < 2) then [92, 120, hexd (at' s i / 16), hexd (at' s i % 16)]
  else if p (rune s i) = false then coded (rune s i)
  else raw s i
theorem raw_length (s : ByteArray) (i : Nat) : (raw s i).length ≤ 4 := by
  have := width_four s i
  simp [raw]; omega
theorem piece_length (p : Int → Bool) (s : ByteArray) (i : Nat) : (piece p s i).length ≤ 10 := by
  have := raw_length s i
  unfold piece coded
  repeat' split
  all_goals simp [digs_length]
  omega
def pieces (p : Int → Bool) (s : ByteArray) : Nat → Nat → List UInt8
  | 0, _ => []
  | f + 1, i => if i < s.size then piece p s i ++ pieces p s f (i + width s i) else []
theorem pieces_end (p : Int → Bool) (s : ByteArray) (f i : Nat) (h : ¬ i < s.size) : pieces p s f i = [] := by
  cases f <;> simp [pieces, h]

/-- below 128 a byte is its own rune -/
theorem ascii_rune (s : ByteArray) (i : Nat) (h : at' s i < 128) : rune s i = at' s i ∧ width s i = 1 := by
  unfold rune width
  rw [decode_at]
  unfold at' at *
  simp [decodeN, h]
theorem high_rune (s : ByteArray) (i : Nat) (h : 128 ≤ at' s i) : 128 ≤ rune s i := by
  unfold rune
  rw [decode_at]
  unfold at' at h
  unfold decodeN
  repeat' split
  all_goals (simp; try omega)
theorem bad_N (n b0 b1 b2 b3 : Nat) (h : 128 ≤ b0) : (decodeN n b0 b1 b2 b3).2 < 2 → (decodeN n b0 b1 b2 b3).1 = 65533 := by
  unfold decodeN
  rw [if_neg (by omega)]
  repeat' split
  all_goals simp
theorem width_bad (s : ByteArray) (i : Nat) (h : 128 ≤ at' s i) (hw : width s i < 2) : rune s i = 65533 := by
  unfold rune width at *
  rw [decode_at] at *
  exact bad_N _ _ _ _ _ h hw
end Go.Proofs.YtnenjlgpdejfaaaDoor.Quo
