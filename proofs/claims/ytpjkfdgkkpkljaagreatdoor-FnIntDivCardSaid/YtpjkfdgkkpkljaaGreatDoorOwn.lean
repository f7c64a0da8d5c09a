/-
  Small laws on slices of bytes that a call owns: one more byte appended, and the text that they are.
-/
import Derived.Test.YtpjkfdgkkpkljaaGreatDoorProg
import Derived.WalkKit
import Derived.Laws.IdiomStrings
import Derived.Laws.BytesArg
import Derived.Maps.AppendAt
import Derived.Lib.AppendStr
namespace Go.Proofs.YtpjkfdgkkpkljaaGreatDoor.Own
open Go.RowKit

/-- bytes as cells -/
def bs (l : List UInt8) : List Value := l.map fun b => Value.int .u8 b.toNat
theorem bs_length (l : List UInt8) : (bs l).length = l.length := by simp [bs]
theorem bs_snoc (l : List UInt8) (b : UInt8) : bs (l ++ [b]) = bs l ++ [.int .u8 b.toNat] := by simp [bs]

theorem info_u8 : (Tryz.prog.info? 5).map (fun i => (i.zero, i.size, i.bytes)) = some (some (.int .u8 0), 1, 1) := by kernel_rfl

/-- what is owned stays so where nothing below the heap's end has turned -/
theorem own_below {w w' : World} {B e size n : Nat} {v : Value} {xs : List Value} (h : w.ownsRow B e size v n xs) (hb : Below w.heap.size w w') : w'.ownsRow B e size v n xs := by
  refine ⟨h.1, ?_⟩
  rcases h.2 with hn | ⟨g, cap, cur, rfl, hB, hg, rest⟩
  · exact .inl hn
  · exact .inr ⟨g, cap, cur, rfl, hB, (hb.block g (Array.getElem?_eq_some_iff.1 hg).1).trans hg, rest⟩

/-- the text of the bytes that a slice owns -/
theorem conv_own {w : World} {B : Nat} {v : Value} {l : List UInt8} {n : Nat} (hown : w.ownsRow B 5 1 v n (bs l)) :
    ∀ dst, Tryz.prog.underlying dst = some .string → (convert 22 dst v).run Tryz.prog w = .ok (.string ⟨l.toArray⟩) w := by
  intro dst hd
  have hlen := hown.1
  rw [bs_length] at hlen
  rcases hown.2 with ⟨rfl, rfl⟩ | ⟨g, cap, cur, rfl, _, _⟩
  · have : l = [] := List.eq_nil_of_length_eq_zero (by omega)
    subst this
    exact run_convert_bytes_nil w 22 5 Tryz.underlying22 Tryz.underlying5 0 0 dst hd
  · obtain rfl : n = l.length := by omega
    refine run_convert_bytes_back w 22 dst 5 _ cap l Tryz.underlying22 Tryz.underlying5 hd fun j hj => ?_
    exact hown.cells (g := g) rfl j _ (by simp [bs, List.getElem?_eq_getElem hj])

/-- 'append(v, b)' of one byte, v the call's own: the world is a variable behind it, old memory is as it was. -/
theorem wpList_append_byte {ops : Array Oper} {rest : List Oper} {o : Oper} {a : Act} {Q : Exit → Act → World → Prop} {w0 wr : World} {B : Nat} (hgd : o.guard = none) (s x : Operand)
    (ho : o.op = .call { callee := .builtin .append, args := #[s, x], argTypes := #[22, 22] })
    (v : Value) (n : Nat) (l : List UInt8) (hs : a.eval s = v) (hown : wr.ownsRow B 5 1 v n (bs l)) (hb : Below B w0 wr) (hB : B ≤ w0.heap.size) (b : UInt8)
    (hx : a.eval x = .slice (some ⟨wr.heap.size, 0, none⟩) 1 1) (hn : n ≤ 1000000000000)
    (h : ∀ v' w', w'.ownsRow B 5 1 v' (n + 1) (bs (l ++ [b])) → Below B w0 w' → wpList Tryz.prog ops Q rest (a.put o.dst v') w') :
    wpList Tryz.prog ops Q (o :: rest) a (wr.alloc (.cells #[.int .u8 b.toNat] 5)) := by
  obtain ⟨i0, hi, hz0, hz1, hz2⟩ := info_parts info_u8
  have hsz := hb.size
  refine wpList_append_own _ hgd s x 22 ho B 5 i0 (.int .u8 0) 1 1 Tryz.underlying22 hi hz0 hz1 hz2 rfl (by decide) v n (bs l) hs (hown.alloc _) ⟨wr.heap.size, 0, none⟩ 1 1 [.int .u8 b.toNat] hx rfl
    ?_ ?_ (by unfold maxLen; omega) (by omega) (by simp; omega) ?_
  · exact cell_one_new _ _ _
  · intro u hu
    simp at hu
    subst hu
    rfl
  · intro v' w' hown' hg _
    rw [bs_snoc] at h
    refine h v' w' hown' ((hb.alloc (by omega) _).grown hg (by simp; omega) fun k hk => ?_)
    exact (hown.lt k hk).1

/-- 'append(v, t...)' of a string's bytes, v the call's own. -/
theorem wpList_append_text {ops : Array Oper} {rest : List Oper} {o : Oper} {a : Act} {Q : Exit → Act → World → Prop} {w0 wr : World} {B : Nat} (hgd : o.guard = none) (s x : Operand)
    (ho : o.op = .call { callee := .builtin .append, args := #[s, x], argTypes := #[22, 9] })
    (v : Value) (n : Nat) (l : List UInt8) (hs : a.eval s = v) (hown : wr.ownsRow B 5 1 v n (bs l)) (hb : Below B w0 wr) (hB : B ≤ w0.heap.size) (t : ByteArray)
    (hx : a.eval x = .string t) (hn : n + t.size ≤ 1000000000000)
    (h : ∀ v' w', w'.ownsRow B 5 1 v' (n + t.size) (bs (l ++ t.data.toList)) → Below B w0 w' → wpList Tryz.prog ops Q rest (a.put o.dst v') w') :
    wpList Tryz.prog ops Q (o :: rest) a wr := by
  obtain ⟨i0, hi, hz0, hz1, hz2⟩ := info_parts info_u8
  have hsz := hb.size
  refine Lib.wpList_append_own_string wr hgd s x 22 9 ho B 5 i0 Tryz.underlying22 Tryz.underlying9 hi hz0 hz1 hz2 v n (bs l) hs hown t hx
    (by unfold maxLen; omega) (by omega) (by omega) ?_
  intro v' w' hown' hg _
  have e : bs (l ++ t.data.toList) = bs l ++ Lib.strCells t := by simp [bs, Lib.strCells]
  rw [e] at h
  exact h v' w' hown' (hb.grown hg (by omega) fun k hk => (hown.lt k hk).1)
end Go.Proofs.YtpjkfdgkkpkljaaGreatDoor.Own
