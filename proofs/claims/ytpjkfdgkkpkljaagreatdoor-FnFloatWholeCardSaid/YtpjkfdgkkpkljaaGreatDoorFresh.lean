/-
  The value of an integer of the reference.
-/
import Derived.Test.YtpjkfdgkkpkljaaGreatDoorSpecInt
import Derived.Deep.RegionLaw
import Derived.Laws.AppendOwnNone
namespace Go.Proofs.YtpjkfdgkkpkljaaGreatDoor.Ref
open Go.RowKit Go.WideShapes Go.Proofs.YtpjkfdgkkpkljaaGreatDoor.Own Go.Proofs.YtpjkfdgkkpkljaaGreatDoor.Num
set_option linter.unusedVariables false

/-- 'append([]byte{}, row...)' as one step of a region that draws its order -/
theorem step_fresh {ops : Array Oper} {o : Oper} {a : Act} {K : Act → World → Prop} {Q : Exit → Act → World → Prop} {E : Prop} {wq w0 : World} {B : Nat} (hgd : o.guard = none) (s x : Operand)
    (ho : o.op = .call { callee := .builtin .append, args := #[s, x], argTypes := #[22, 22] })
    (v : Value) (hs : a.eval s = v) (sa : Option Addr) (m c : Nat) (hx : a.eval x = .slice sa m c) (hown : Owns wq B v []) (hb : Below B w0 wq) (hB : B ≤ w0.heap.size) (t : List UInt8)
    (hm : t.length = m) (hr : Rd wq sa t) (hnone : sa = none → c = 0) (hn : t.length ≤ 1000000000000)
    (h : ∀ v' w', Owns w' B v' t → Below B w0 w' → K (a.put o.dst v') w') :
    if Region.wanted o (yielded ops a.tmps) = true then Oper.wp Tryz.prog o a wq K Q else E := by
  have hw : Region.wanted o (yielded ops a.tmps) = true := by simp [Region.wanted, hgd]
  rw [if_pos hw]
  obtain ⟨i0, hi, hz0, hz1, hz2⟩ := info_parts info_u8
  have hsz := hb.size
  have hown' : wq.ownsRow B 5 1 v 0 [] := hown
  rcases hr with ⟨rfl, rfl⟩ | ⟨ad, rfl, hlt, hcell⟩
  · have hc0 := hnone rfl
    subst hc0
    have hm0 : m = 0 := by simpa using hm.symm
    subst hm0
    have hrun := run_append_owned_none (P := Tryz.prog) (w := wq) B 22 o.type 5 i0 1 Tryz.underlying22 hi v 0 [] hown'
    unfold Oper.wp
    simp [execOp, ho, resolve, invoke, builtin, hs, hx, hrun, Result.andThen]
    exact h _ _ hown hb
  · subst hm
    refine wp_append_own _ s x 22 ho B 5 i0 (.int .u8 0) 1 1 Tryz.underlying22 hi hz0 hz1 hz2 rfl (by decide) v 0 [] hs hown' ad t.length c (bs t) hx (by rw [bs_length, Nat.mul_one])
      ?_ ?_ (by unfold maxLen; omega) (by omega) (by omega) ?_
    · intro j u hu
      simp only [bs, List.getElem?_map, Option.map_eq_some_iff] at hu
      obtain ⟨y, hx1, rfl⟩ := hu
      obtain ⟨hj, rfl⟩ := List.getElem?_eq_some_iff.1 hx1
      exact hcell j hj
    · intro u hu
      simp only [bs, List.mem_map] at hu
      obtain ⟨y, _, rfl⟩ := hu
      rfl
    · intro v' w' hown2 hg _
      refine h v' w' ?_ (hb.grown hg (by omega) fun k hk => (World.ownsRow.lt hown' k hk).1)
      unfold Owns
      simpa [bs] using hown2

theorem six {w w1 : World} {s B : Nat} {v : Value} {l : List UInt8} (u0 u1 u2 u3 u4 u5 : Value) (hown : Owns w1 B v l) (hsB : s < B) (hb : Below w.heap.size w w1) (hs : w.heap.size ≤ s) :
    Owns ((((((w1.setCell ⟨s, 0, none⟩ u0).setCell ⟨s, 1, none⟩ u1).setCell ⟨s, 2, none⟩ u2).setCell ⟨s, 3, none⟩ u3).setCell ⟨s, 4, none⟩ u4).setCell ⟨s, 5, none⟩ u5) w.heap.size v l
    ∧ Below w.heap.size w ((((((w1.setCell ⟨s, 0, none⟩ u0).setCell ⟨s, 1, none⟩ u1).setCell ⟨s, 2, none⟩ u2).setCell ⟨s, 3, none⟩ u3).setCell ⟨s, 4, none⟩ u4).setCell ⟨s, 5, none⟩ u5) := by
  refine ⟨World.ownsRow.mono (Box.own_above hown ?_) (by omega), ?_⟩
  · have h0 := (Box.Above.refl B w1).setCell (p := ⟨s, 0, none⟩) hsB u0
    have h1 := h0.setCell (p := ⟨s, 1, none⟩) hsB u1
    have h2 := h1.setCell (p := ⟨s, 2, none⟩) hsB u2
    have h3 := h2.setCell (p := ⟨s, 3, none⟩) hsB u3
    have h4 := h3.setCell (p := ⟨s, 4, none⟩) hsB u4
    exact h4.setCell (p := ⟨s, 5, none⟩) hsB u5
  · have h0 := hb.setCell (p := ⟨s, 0, none⟩) hs u0
    have h1 := h0.setCell (p := ⟨s, 1, none⟩) hs u1
    have h2 := h1.setCell (p := ⟨s, 2, none⟩) hs u2
    have h3 := h2.setCell (p := ⟨s, 3, none⟩) hs u3
    have h4 := h3.setCell (p := ⟨s, 4, none⟩) hs u4
    exact h4.setCell (p := ⟨s, 5, none⟩) hs u5

theorem Rd.cap {w : World} {B : Nat} {a : Option Addr} {n c : Nat} {l : List UInt8} (h : Owns w B (.slice a n c) l) : a = none → c = 0 := by
  intro e
  subst e
  rcases (show w.ownsRow B 5 1 (.slice none n c) l.length (bs l) from h).2 with ⟨h0, _⟩ | ⟨g, cap, cur, h0, _⟩
  · cases h0; rfl
  · cases h0

end Go.Proofs.YtpjkfdgkkpkljaaGreatDoor.Ref
