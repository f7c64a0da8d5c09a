/-
  The two places that two parts stand for: the reference's side.
-/
import Derived.Test.YtaappbnbjpbbcaaIndTrip
namespace Go.Proofs.Ytaappbnbjpbbcaa.Big
open Go.RowKit Go.WideShapes Go.Proofs.Ytaappbnbjpbbcaa.Own Go.Proofs.Ytaappbnbjpbbcaa.Num Go.Proofs.Ytaappbnbjpbbcaa.Ref Go.Proofs.Ytaappbnbjpbbcaa.Nat_
set_option linter.unusedVariables false

/-- the number that stands for a part, and whether it lacks -/
def numOf : Part → Int
  | .num z => z
  | _ => 0
def lackOf : Part → Bool
  | .none => true
  | _ => false
def endOf (n : Int) (lacks : Bool) (i other : Int) : Int := if lacks then other else clampN n (if i < 0 then i + n else i)
theorem endOf_part (n d : Int) (P : Part) (hP : isText P = false) (hd : clampN n d = d) : endOf n (lackOf P) (numOf P) d = clampN n (raw n d P) := by
  cases P
  · simp [endOf, lackOf, raw, hd]
  · simp [endOf, lackOf, raw, numOf]; rfl
  · cases hP

theorem ret_i {a b : Int} (h : a = b) : Ending.returned (.int .i64 a) = .returned (.int .i64 b) := by rw [h]

set_option maxRecDepth 100000 in
theorem end_any (n : Int) (hn : 0 ≤ n) (hn2 : n ≤ 2147483647) (lacks : Bool) (i other : Int) (hi1 : -2147483648 ≤ i) (hi2 : i ≤ 2147483647) (w : World) :
    Calls Try.prog 41 #[.int .i64 n, .bool lacks, .int .i64 i, .int .i64 other, .int .i64 1] w fun e w' => e = .returned (.int .i64 (endOf n lacks i other)) ∧ w' = w := by
  cases lacks
  · by_cases h0 : i < 0
    · have he : Hid (∀ r, (r = if i + n < 0 then 0 else if n < i + n then n else i + n) → r = endOf n false i other) := Lib.hid fun r hr => by rw [hr]; simp [endOf, clampN, h0]
      by_cases h1 : n < i + n <;> by_cases h2 : i + n < 0 <;> by_cases h3 : n < 0
      all_goals
        first
          | (exfalso; omega)
          | skip
      all_goals
        go_enter Try.func41, Try.ntmps41
        go_wp2
      all_goals
        go_ret
        refine ⟨ret_i (he.out _ ?_), rfl⟩
        (repeat' split) <;> omega
    · have he : Hid (∀ r, (r = if n < i then n else i) → r = endOf n false i other) := Lib.hid fun r hr => by rw [hr]; simp [endOf, clampN, h0]
      by_cases h1 : n < i
      all_goals
        go_enter Try.func41, Try.ntmps41
        go_wp2
      all_goals
        go_ret
        refine ⟨ret_i (he.out _ ?_), rfl⟩
        (repeat' split) <;> omega
  · have he : Hid (other = endOf n true i other) := Lib.hid (by simp [endOf])
    go_enter Try.func41, Try.ntmps41
    go_wp2
    go_ret
    exact ⟨ret_i he.out, rfl⟩
end Go.Proofs.Ytaappbnbjpbbcaa.Big
