/-
  The package's naturals: a word out of eight bytes of a row.
-/
import Derived.Test.YtpjkfdgkkpkljaaGreatDoorNatBytes
import Derived.Test.YtpjkfdgkkpkljaaGreatDoorSetLaw
namespace Go.Proofs.YtpjkfdgkkpkljaaGreatDoor.Nat_
open Go.RowKit Go.WideShapes Go.Proofs.YtpjkfdgkkpkljaaGreatDoor.Own Go.Proofs.YtpjkfdgkkpkljaaGreatDoor.Num Go.Proofs.YtpjkfdgkkpkljaaGreatDoor.Ref
set_option linter.unusedVariables false

theorem eight (l : List UInt8) (s : Nat) (h : s + 8 ≤ l.length) : (l.drop s).take 8 = [l[s], l[s + 1], l[s + 2], l[s + 3], l[s + 4], l[s + 5], l[s + 6], l[s + 7]] := by
  apply List.ext_getElem?
  intro j
  rw [List.getElem?_take, List.getElem?_drop]
  by_cases hj : j < 8
  · rw [if_pos hj, List.getElem?_eq_getElem (by omega)]
    rcases j with _ | _ | _ | _ | _ | _ | _ | _ | j <;> first | rfl | omega
  · rw [if_neg hj, List.getElem?_eq_none (by simp; omega)]

/-- the word of the bytes from 8 k + 8 from the end on -/
theorem word_any (x : Addr) (l : List UInt8) (n k s c : Nat) (w : World) (hc : ∀ j (hj : j < l.length), w.cell? (x.add j) = some (.int .u8 (l[j].toNat : Int))) (hn : l.length = n) (hk : 8 * k + 8 ≤ n) (hs : s = n - 8 * k - 8) (hc8 : 8 ≤ c) :
    Calls Tryz.prog 78 #[.slice (some (x.add s)) 8 c] w fun e w' => e = .returned (.int .u64 ((be l / W ^ k % W : Nat) : Int)) ∧ ∃ q, w' = w.drewN q := by
  have h8 : s + 8 ≤ l.length := by omega
  have hw := word_of l k (by omega)
  rw [hn, ← hs, eight l s h8] at hw
  rw [← hw]
  refine bew_any _ _ _ _ _ (be64_any (x.add s) 8 c _ _ _ _ _ _ _ _ w (by omega) (by omega) hc8 (hc s (by omega)) ?_ ?_ ?_ ?_ ?_ ?_ ?_)
  all_goals
    rw [add_add]
    exact hc _ (by omega)

/-- a word put into a row that is being filled -/
theorem ws_set (V k n D : Nat) (hD : V / W ^ k % W = D) : (ws (dig W (V % W ^ k) n)).set k (.int .u64 (D : Int)) = ws (dig W (V % W ^ (k + 1)) n) := by
  unfold ws
  rw [← List.map_set, dig_set W_pos V k n D hD]
end Go.Proofs.YtpjkfdgkkpkljaaGreatDoor.Nat_
