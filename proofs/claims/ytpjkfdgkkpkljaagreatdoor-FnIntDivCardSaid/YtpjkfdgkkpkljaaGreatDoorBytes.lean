/-
  Slices of bytes that a call owns, said by their list alone: what append does to them, and the text that they are.
-/
import Derived.Test.YtpjkfdgkkpkljaaGreatDoorOwn
namespace Go.Proofs.YtpjkfdgkkpkljaaGreatDoor.Own
open Go.RowKit

/-- the value owns just these bytes, in blocks from B on -/
def Owns (w : World) (B : Nat) (v : Value) (l : List UInt8) : Prop := w.ownsRow B 5 1 v l.length (bs l)
theorem Owns.nil (w : World) (B : Nat) : Owns w B (.slice none 0 0) [] := World.ownsRow_nil _ _ _ _
theorem Owns.later {w w' : World} {B : Nat} {v : Value} {l : List UInt8} (h : Owns w B v l) (hb : Below w.heap.size w w') : Owns w' B v l := own_below h hb
theorem Owns.conv {w : World} {B : Nat} {v : Value} {l : List UInt8} (h : Owns w B v l) :
    ∀ dst, Tryz.prog.underlying dst = some .string → (convert 22 dst v).run Tryz.prog w = .ok (.string ⟨l.toArray⟩) w := conv_own h
theorem Owns.eq {w : World} {B : Nat} {v : Value} {l l' : List UInt8} (h : Owns w B v l) (e : l = l') : Owns w B v l' := e ▸ h

theorem Owns.slice {w : World} {B : Nat} {v : Value} {l : List UInt8} (h : Owns w B v l) (hne : l ≠ []) :
    ∃ g cap, v = .slice (some ⟨g, 0, none⟩) l.length cap ∧ ∀ j (hj : j < l.length), w.cell? ((⟨g, 0, none⟩ : Addr).add j) = some (.int .u8 (l[j].toNat : Int)) := by
  rcases (show w.ownsRow B 5 1 v l.length (bs l) from h).2 with ⟨_, h0⟩ | ⟨g, cap, cur, rfl, _, _⟩
  · exact absurd (List.eq_nil_of_length_eq_zero h0) hne
  · exact ⟨g, cap, rfl, fun j hj => World.ownsRow.cells h (g := g) rfl j _ (by simp [bs, List.getElem?_eq_getElem hj])⟩

theorem wpList_byte {ops : Array Oper} {rest : List Oper} {o : Oper} {a : Act} {Q : Exit → Act → World → Prop} {w0 wr : World} {B : Nat} (hgd : o.guard = none) (s x : Operand)
    (ho : o.op = .call { callee := .builtin .append, args := #[s, x], argTypes := #[22, 22] })
    (v : Value) (l : List UInt8) (hs : a.eval s = v) (hown : Owns wr B v l) (hb : Below B w0 wr) (hB : B ≤ w0.heap.size) (b : UInt8)
    (hx : a.eval x = .slice (some ⟨wr.heap.size, 0, none⟩) 1 1) (hn : l.length ≤ 1000000000000)
    (h : ∀ v' w', Owns w' B v' (l ++ [b]) → Below B w0 w' → wpList Tryz.prog ops Q rest (a.put o.dst v') w') :
    wpList Tryz.prog ops Q (o :: rest) a (wr.alloc (.cells #[.int .u8 b.toNat] 5)) :=
  wpList_append_byte hgd s x ho v l.length l hs hown hb hB b hx hn fun v' w' h1 h2 => h v' w' (by unfold Owns; rw [List.length_append]; exact h1) h2

theorem wpList_text {ops : Array Oper} {rest : List Oper} {o : Oper} {a : Act} {Q : Exit → Act → World → Prop} {w0 wr : World} {B : Nat} (hgd : o.guard = none) (s x : Operand)
    (ho : o.op = .call { callee := .builtin .append, args := #[s, x], argTypes := #[22, 9] })
    (v : Value) (l : List UInt8) (hs : a.eval s = v) (hown : Owns wr B v l) (hb : Below B w0 wr) (hB : B ≤ w0.heap.size) (t : ByteArray)
    (hx : a.eval x = .string t) (hn : l.length + t.size ≤ 1000000000000)
    (h : ∀ v' w', Owns w' B v' (l ++ t.data.toList) → Below B w0 w' → wpList Tryz.prog ops Q rest (a.put o.dst v') w') :
    wpList Tryz.prog ops Q (o :: rest) a wr :=
  wpList_append_text hgd s x ho v l.length l hs hown hb hB t hx hn fun v' w' h1 h2 => h v' w' (by unfold Owns; rw [List.length_append]; exact h1) h2

/-- 'append(v, row...)': a row of bytes whose cells are known (another slice, an array's part, a literal of several bytes) -/
theorem wpList_bytes {ops : Array Oper} {rest : List Oper} {o : Oper} {a : Act} {Q : Exit → Act → World → Prop} {w0 wr : World} {B : Nat} (hgd : o.guard = none) (s x : Operand)
    (ho : o.op = .call { callee := .builtin .append, args := #[s, x], argTypes := #[22, 22] })
    (v : Value) (l : List UInt8) (hs : a.eval s = v) (hown : Owns wr B v l) (hb : Below B w0 wr) (hB : B ≤ w0.heap.size) (t : List UInt8) (ad : Addr) (m c : Nat)
    (hx : a.eval x = .slice (some ad) m c) (hm : t.length = m) (hc : ∀ j (hj : j < t.length), wr.cell? (ad.add j) = some (.int .u8 (t[j].toNat : Int))) (hn : l.length + t.length ≤ 1000000000000)
    (h : ∀ v' w', Owns w' B v' (l ++ t) → Below B w0 w' → wpList Tryz.prog ops Q rest (a.put o.dst v') w') :
    wpList Tryz.prog ops Q (o :: rest) a wr := by
  obtain ⟨i0, hi, hz0, hz1, hz2⟩ := info_parts info_u8
  have hsz := hb.size
  subst hm
  refine wpList_append_own wr hgd s x 22 ho B 5 i0 (.int .u8 0) 1 1 Tryz.underlying22 hi hz0 hz1 hz2 rfl (by decide) v l.length (bs l) hs hown ad t.length c (bs t) hx (by rw [bs_length, Nat.mul_one])
    ?_ ?_ (by unfold maxLen; omega) (by omega) (by omega) ?_
  · intro j u hu
    simp only [bs, List.getElem?_map, Option.map_eq_some_iff] at hu
    obtain ⟨x, hx1, rfl⟩ := hu
    obtain ⟨hj, rfl⟩ := List.getElem?_eq_some_iff.1 hx1
    exact hc j hj
  · intro u hu
    simp only [bs, List.mem_map] at hu
    obtain ⟨x, _, rfl⟩ := hu
    rfl
  · intro v' w' hown' hg _
    refine h v' w' ?_ (hb.grown hg (by omega) fun k hk => (World.ownsRow.lt hown k hk).1)
    unfold Owns
    rw [List.length_append]
    simpa [bs] using hown'

/-- 'append(v, b0, b1, ..)': a literal of several bytes, laid just ahead of the append -/
theorem wpList_lits {ops : Array Oper} {rest : List Oper} {o : Oper} {a : Act} {Q : Exit → Act → World → Prop} {w0 wr : World} {B : Nat} (hgd : o.guard = none) (s x : Operand)
    (ho : o.op = .call { callee := .builtin .append, args := #[s, x], argTypes := #[22, 22] })
    (v : Value) (l : List UInt8) (hs : a.eval s = v) (hown : Owns wr B v l) (hb : Below B w0 wr) (hB : B ≤ w0.heap.size) (t : List UInt8) (m : Nat) (hm : t.length = m) (cs : Array Value) (hcs : (bs t).toArray = cs)
    (hx : a.eval x = .slice (some ⟨wr.heap.size, 0, none⟩) m m) (hn : l.length + t.length ≤ 1000000000000)
    (h : ∀ v' w', Owns w' B v' (l ++ t) → Below B w0 w' → wpList Tryz.prog ops Q rest (a.put o.dst v') w') :
    wpList Tryz.prog ops Q (o :: rest) a (wr.alloc (.cells cs 5)) := by
  have hsz := hb.size
  refine wpList_bytes hgd s x ho v l hs (hown.later ((Below.refl _ _).alloc (Nat.le_refl _) _)) (hb.alloc (by omega) _) hB t ⟨wr.heap.size, 0, none⟩ m m hx hm ?_ hn h
  intro j hj
  subst hcs
  rw [show ((⟨wr.heap.size, 0, none⟩ : Addr).add j) = ⟨wr.heap.size, j, none⟩ by unfold Addr.add; split <;> simp_all]
  rw [World.cell?_alloc_at _ _ _ _ rfl]
  simp [bs, List.getElem?_eq_getElem hj]

/-- the same as one step of a region that draws its order -/
theorem step_lits {ops : Array Oper} {o : Oper} {a : Act} {K : Act → World → Prop} {Q : Exit → Act → World → Prop} {E : Prop} {w0 wr : World} {B : Nat} (hgd : o.guard = none) (s x : Operand)
    (ho : o.op = .call { callee := .builtin .append, args := #[s, x], argTypes := #[22, 22] })
    (v : Value) (l : List UInt8) (hs : a.eval s = v) (hown : Owns wr B v l) (hb : Below B w0 wr) (hB : B ≤ w0.heap.size) (t : List UInt8) (m : Nat) (hm : t.length = m) (cs : Array Value) (hcs : (bs t).toArray = cs)
    (hx : a.eval x = .slice (some ⟨wr.heap.size, 0, none⟩) m m) (hn : l.length + t.length ≤ 1000000000000)
    (h : ∀ v' w', Owns w' B v' (l ++ t) → Below B w0 w' → K (a.put o.dst v') w') :
    if Region.wanted o (yielded ops a.tmps) = true then Oper.wp Tryz.prog o a (wr.alloc (.cells cs 5)).drew K Q else E := by
  have hw : Region.wanted o (yielded ops a.tmps) = true := by simp [Region.wanted, hgd]
  rw [if_pos hw]
  obtain ⟨i0, hi, hz0, hz1, hz2⟩ := info_parts info_u8
  have hsz := hb.size
  subst hm
  have hown' : (wr.alloc (.cells cs 5)).drew.ownsRow B 5 1 v l.length (bs l) := hown.alloc _
  refine wp_append_own _ s x 22 ho B 5 i0 (.int .u8 0) 1 1 Tryz.underlying22 hi hz0 hz1 hz2 rfl (by decide) v l.length (bs l) hs hown' ⟨wr.heap.size, 0, none⟩ t.length t.length (bs t) hx (by rw [bs_length, Nat.mul_one])
    ?_ ?_ (by unfold maxLen; omega) (by omega) (by simp; omega) ?_
  · intro j u hu
    subst hcs
    rw [show ((⟨wr.heap.size, 0, none⟩ : Addr).add j) = ⟨wr.heap.size, j, none⟩ by unfold Addr.add; split <;> simp_all]
    show (wr.alloc _).cell? _ = _
    rw [World.cell?_alloc_at _ _ _ _ rfl]
    simpa using hu
  · intro u hu
    simp only [bs, List.mem_map] at hu
    obtain ⟨x, _, rfl⟩ := hu
    rfl
  · intro v' w' hown2 hg _
    have hb' : Below B w0 (wr.alloc (.cells cs 5)).drew := (hb.alloc (by omega) _).drew
    refine h v' w' ?_ (hb'.grown hg (by simp; omega) fun k hk => (World.ownsRow.lt hown k hk).1)
    unfold Owns
    rw [List.length_append]
    simpa [bs] using hown2
end Go.Proofs.YtpjkfdgkkpkljaaGreatDoor.Own
