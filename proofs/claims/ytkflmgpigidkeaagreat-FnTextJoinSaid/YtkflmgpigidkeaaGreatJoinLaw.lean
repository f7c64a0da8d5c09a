/-
  Some texts with another one between: the text, as bytes, and as it grows.
-/
namespace Go.Proofs.YtkflmgpigidkeaaGreat.Join
def tailL (s : ByteArray) (l : List ByteArray) : List UInt8 := (l.map fun t => s.data.toList ++ t.data.toList).flatten
/-- the bytes of the texts l with s between -/
def joinL (s : ByteArray) : List ByteArray → List UInt8
  | [] => []
  | t :: r => t.data.toList ++ tailL s r
theorem joinL_one (s t : ByteArray) : joinL s [t] = t.data.toList := by simp [joinL, tailL]
theorem joinL_snoc (s t : ByteArray) (l : List ByteArray) (h : l ≠ []) : joinL s (l ++ [t]) = joinL s l ++ (s.data.toList ++ t.data.toList) := by
  cases l with
  | nil => exact absurd rfl h
  | cons x r => simp [joinL, tailL]
theorem tailL_len (s : ByteArray) (hs : s.size ≤ 60) : ∀ l : List ByteArray, (∀ t ∈ l, t.size ≤ 60) → (tailL s l).length ≤ 120 * l.length
  | [], _ => by simp [tailL]
  | t :: r, h => by
    have ih := tailL_len s hs r fun u hu => h u (List.mem_cons_of_mem _ hu)
    have ht := h t (List.mem_cons_self ..)
    unfold tailL at ih ⊢
    simp only [List.map_cons, List.flatten_cons, List.length_append, List.length_cons]
    have e1 : s.data.toList.length = s.size := by simp
    have e2 : t.data.toList.length = t.size := by simp
    omega
theorem joinL_len (s : ByteArray) (hs : s.size ≤ 60) (l : List ByteArray) (h : ∀ t ∈ l, t.size ≤ 60) : (joinL s l).length ≤ 120 * l.length := by
  cases l with
  | nil => simp [joinL]
  | cons t r =>
    have ih := tailL_len s hs r fun u hu => h u (List.mem_cons_of_mem _ hu)
    have ht := h t (List.mem_cons_self ..)
    have e2 : t.data.toList.length = t.size := by simp
    simp only [joinL, List.length_append, List.length_cons]
    omega
/-- the text -/
def joinB (s : ByteArray) (l : List ByteArray) : ByteArray := ⟨(joinL s l).toArray⟩
theorem bytes_ext {a b : ByteArray} (h : a.data.toList = b.data.toList) : a = b := by
  cases a with | mk a => cases b with | mk b => simp at h; simp [h]
theorem joinB_list (s : ByteArray) (l : List ByteArray) : (joinB s l).data.toList = joinL s l := rfl
theorem joinB_size (s : ByteArray) (l : List ByteArray) : (joinB s l).size = (joinL s l).length := by show (joinL s l).toArray.size = _; simp
theorem joinB_nil (s : ByteArray) : joinB s [] = ⟨#[]⟩ := rfl
theorem joinB_one (s t : ByteArray) : joinB s [] ++ t = joinB s [t] := by
  apply bytes_ext
  rw [joinB_list, joinL_one, joinB_nil]
  simp [ByteArray.data_append]
theorem joinB_snoc (s t : ByteArray) (l : List ByteArray) (h : l ≠ []) : joinB s l ++ s ++ t = joinB s (l ++ [t]) := by
  apply bytes_ext
  rw [joinB_list, joinL_snoc s t l h]
  simp [ByteArray.data_append, joinB_list]
end Go.Proofs.YtkflmgpigidkeaaGreat.Join
