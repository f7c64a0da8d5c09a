/-
  A slice of bytes that came in, as a list of bytes.
-/
import Derived.Test.YtkflmgpigidkeaaGreatIsVal
import Derived.OpenShut
namespace Go.Proofs.YtkflmgpigidkeaaGreat.Ref
open Go.RowKit Go.WideShapes Go.Proofs.YtkflmgpigidkeaaGreat.Own Go.Proofs.YtkflmgpigidkeaaGreat.Num
set_option linter.unusedVariables false

/-- the bytes of a row of numbers -/
def bytesOf (z : List Int) : List UInt8 := z.map fun n => UInt8.ofNat n.toNat
/-- what came in reads as bytes -/
theorem rd_of_row {w : World} {x : Addr} {len cap : Nat} {zs : List Int} (hlen : len ≤ cap) (hz : zs.length = cap) (hc : ∀ i, i < zs.length → w.cell? (x.add i) = some (.int .u8 (zs.getD i 0))) (hwf : ∀ n ∈ zs, (Lit.int .u8 n).wf = true) :
    ∃ l, l.length = len ∧ Rd w (some x) l := by
  refine ⟨(bytesOf zs).take len, by simp [bytesOf]; omega, .inr ⟨x, rfl, fun h0 => ?_, fun j hj => ?_⟩⟩
  · have h0' : 0 < zs.length := by simp [bytesOf] at h0; omega
    have := World.block_lt_of_cell? _ _ (hc 0 h0')
    rw [block_add] at this
    exact this
  · have hj' : j < zs.length := by simp [bytesOf] at hj; omega
    rw [hc j hj']
    have hg : zs.getD j 0 = zs[j] := by simp [List.getD, List.getElem?_eq_getElem hj']
    obtain ⟨b1, b2⟩ := bounds_u8 (hwf _ (List.getElem_mem hj'))
    rw [hg]
    congr 2
    simp [bytesOf]
    omega
end Go.Proofs.YtkflmgpigidkeaaGreat.Ref
