/-
  A string has a hash, the same each time: for every string; the two calls are one computation. No condition.
-/
import Derived.Test.YtignkldgjplmeaaRows
import Derived.WalkKit
import Derived.ProofKit
import Derived.OpenShut
import Derived.ShutString
import Derived.LoopTactic
import Derived.Lib.Hide
import Derived.Outline
namespace Go.Proofs.Ytignkldgjplmeaa.fnStringHash
open Go.ChangeShapes Go.WideShapes Go.ChangeAt Go.RowKit
open Go.ChangeMaps (open_string shut_string)

/-- one round of the hash -/
def hstep (h : Int) (c : UInt8) : Int := bits BinOp.xor .u32 h ((c.toNat : Int) % 4294967296) * 16777619 % 4294967296
def hash (l : List UInt8) : Int := l.foldl hstep 2166136261

theorem take_snoc (s : ByteArray) (k : Nat) (h : k < s.size) : s.data.toList.take (k + 1) = s.data.toList.take k ++ [s[k]] := by
  rw [List.take_succ_eq_append_getElem (by simpa using h)]; rfl
theorem hash_snoc (s : ByteArray) (k : Nat) (h : k < s.size) : hash (s.data.toList.take (k + 1)) = hstep (hash (s.data.toList.take k)) s[k] := by
  rw [take_snoc s k h]; simp [hash]
theorem int_eq {k : IntKind} {a b : Int} (h : a = b) : Value.int k a = .int k b := by rw [h]
theorem ret_int {k : IntKind} {a b : Int} (h : a = b) : Ending.returned (.int k a) = .returned (.int k b) := by rw [h]

theorem soft_any (s : ByteArray) (w : World) (hs : s.size ≤ maxLen) :
    Calls Try.prog 30 #[.string s] w fun e w' => e = .returned (.int .u32 (hash s.data.toList)) ∧ w = w' := by
  unfold maxLen at hs
  go_enter Try.func30, Try.ntmps30
  go_wp2
  go_loop [3, 4] (fun h i => ∃ k : Nat, k ≤ s.size ∧ i = .int .i64 k ∧ h = .int .u32 (hash (s.data.toList.take k))) (fun _ i => s.size - (intOf i).toNat)
  case atStart => exact ⟨0, Nat.zero_le _, rfl, rfl⟩
  case round =>
    obtain ⟨k, hk, rfl, rfl⟩ := hrel
    by_cases hlt : k < s.size
    · have hh := Lib.hid (hash_snoc s k hlt)
      go_wp2
      go_round
      case rel => exact ⟨k + 1, by omega, by go_num, int_eq hh.out.symm⟩
      case measure => simp [intOf]; omega
    · go_wp2
      go_ret
      exact ⟨ret_int (by rw [List.take_of_length_le (by simp; omega)]), rfl⟩

theorem ish_any (s : ByteArray) (w : World) (hs : s.size ≤ maxLen) :
    Calls Try.prog 9 #[.string s] w fun e w' => e = .returned (.tuple #[.int .u32 (hash s.data.toList), .bool true]) ∧ w = w' := by
  go_enter Try.func9, Try.ntmps9
  go_wp2_with (first | (go_at_call 30; refine (soft_any _ _ hs).mono ?_; rintro e w' ⟨rfl, rfl⟩) | go_in)
  go_ret2
  exact ⟨rfl, rfl⟩

theorem walk (a0 : ByteArray) (w0 : a0.size ≤ maxLen) (w : World) :
    Calls Try.prog 4 #[.string a0] w fun e w' => e = .returned (.bool true) ∧ Grown w w' := by
  by_cases h : a0.size ≤ 2147483647
  all_goals
    go_enter Try.func4, Try.ntmps4
    go_wp2_with (go_at_call 9; refine (ish_any _ _ w0).mono ?_; rintro e w' ⟨rfl, rfl⟩)
    go_ret
    exact ⟨rfl, by repeat (first | exact Grown.refl _ | apply Grown.drew | apply Grown.alloc)⟩
end Go.Proofs.Ytignkldgjplmeaa.fnStringHash
