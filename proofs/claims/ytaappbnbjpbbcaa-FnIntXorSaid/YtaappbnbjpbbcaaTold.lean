/-
  The value of an integer of the reference.
-/
import Derived.Test.YtaappbnbjpbbcaaSpecInt
import Derived.Deep.RegionLaw
import Derived.Laws.AppendOwnNone
namespace Go.Proofs.Ytaappbnbjpbbcaa.Ref
open Go.RowKit Go.WideShapes Go.Proofs.Ytaappbnbjpbbcaa.Own Go.Proofs.Ytaappbnbjpbbcaa.Num
set_option linter.unusedVariables false

/-- 'append([]byte{}, row...)' as one step of a region that draws its order -/
theorem step_fresh {ops : Array Oper} {o : Oper} {a : Act} {K : Act → World → Prop} {Q : Exit → Act → World → Prop} {E : Prop} {wq w0 : World} {B : Nat} (hgd : o.guard = none) (s x : Operand)
    (ho : o.op = .call { callee := .builtin .append, args := #[s, x], argTypes := #[22, 22] })
    (v : Value) (hs : a.eval s = v) (sa : Option Addr) (m c : Nat) (hx : a.eval x = .slice sa m c) (hown : Owns wq B v []) (hb : Below B w0 wq) (hB : B ≤ w0.heap.size) (t : List UInt8)
    (hm : t.length = m) (hr : Rd wq sa t) (hnone : sa = none → c = 0) (hn : t.length ≤ 1000000000000)
    (h : ∀ v' w', Owns w' B v' t → Below B w0 w' → K (a.put o.dst v') w') :
    if Region.wanted o (yielded ops a.tmps) = true then Oper.wp Try.prog o a wq K Q else E := by
  have hw : Region.wanted o (yielded ops a.tmps) = true := by simp [Region.wanted, hgd]
  rw [if_pos hw]
  obtain ⟨i0, hi, hz0, hz1, hz2⟩ := info_parts info_u8
  have hsz := hb.size
  have hown' : wq.ownsRow B 5 1 v 0 [] := hown
  rcases hr with ⟨rfl, rfl⟩ | ⟨ad, rfl, hlt, hcell⟩
  · have hc0 := hnone rfl
    subst hc0
    have hm0 : m = 0 := by simpa using hm.symm
    subst hm0
    have hrun := run_append_owned_none (P := Try.prog) (w := wq) B 22 o.type 5 i0 1 Try.underlying22 hi v 0 [] hown'
    unfold Oper.wp
    simp [execOp, ho, resolve, invoke, builtin, hs, hx, hrun, Result.andThen]
    exact h _ _ hown hb
  · subst hm
    refine wp_append_own _ s x 22 ho B 5 i0 (.int .u8 0) 1 1 Try.underlying22 hi hz0 hz1 hz2 rfl (by decide) v 0 [] hs hown' ad t.length c (bs t) hx (by rw [bs_length, Nat.mul_one])
      ?_ ?_ (by unfold maxLen; omega) (by omega) (by omega) ?_
    · intro j u hu
      simp only [bs, List.getElem?_map, Option.map_eq_some_iff] at hu
      obtain ⟨y, hx1, rfl⟩ := hu
      obtain ⟨hj, rfl⟩ := List.getElem?_eq_some_iff.1 hx1
      exact hcell j hj
    · intro u hu
      simp only [bs, List.mem_map] at hu
      obtain ⟨y, _, rfl⟩ := hu
      rfl
    · intro v' w' hown2 hg _
      refine h v' w' ?_ (hb.grown hg (by omega) fun k hk => (World.ownsRow.lt hown' k hk).1)
      unfold Owns
      simpa [bs] using hown2

theorem six {w w1 : World} {s B : Nat} {v : Value} {l : List UInt8} (u0 u1 u2 u3 u4 u5 : Value) (hown : Owns w1 B v l) (hsB : s < B) (hb : Below w.heap.size w w1) (hs : w.heap.size ≤ s) :
    Owns ((((((w1.setCell ⟨s, 0, none⟩ u0).setCell ⟨s, 1, none⟩ u1).setCell ⟨s, 2, none⟩ u2).setCell ⟨s, 3, none⟩ u3).setCell ⟨s, 4, none⟩ u4).setCell ⟨s, 5, none⟩ u5) w.heap.size v l
    ∧ Below w.heap.size w ((((((w1.setCell ⟨s, 0, none⟩ u0).setCell ⟨s, 1, none⟩ u1).setCell ⟨s, 2, none⟩ u2).setCell ⟨s, 3, none⟩ u3).setCell ⟨s, 4, none⟩ u4).setCell ⟨s, 5, none⟩ u5) := by
  refine ⟨World.ownsRow.mono (Box.own_above hown ?_) (by omega), ?_⟩
  · have h0 := (Box.Above.refl B w1).setCell (p := ⟨s, 0, none⟩) hsB u0
    have h1 := h0.setCell (p := ⟨s, 1, none⟩) hsB u1
    have h2 := h1.setCell (p := ⟨s, 2, none⟩) hsB u2
    have h3 := h2.setCell (p := ⟨s, 3, none⟩) hsB u3
    have h4 := h3.setCell (p := ⟨s, 4, none⟩) hsB u4
    exact h4.setCell (p := ⟨s, 5, none⟩) hsB u5
  · have h0 := hb.setCell (p := ⟨s, 0, none⟩) hs u0
    have h1 := h0.setCell (p := ⟨s, 1, none⟩) hs u1
    have h2 := h1.setCell (p := ⟨s, 2, none⟩) hs u2
    have h3 := h2.setCell (p := ⟨s, 3, none⟩) hs u3
    have h4 := h3.setCell (p := ⟨s, 4, none⟩) hs u4
    exact h4.setCell (p := ⟨s, 5, none⟩) hs u5

theorem Rd.cap {w : World} {B : Nat} {a : Option Addr} {n c : Nat} {l : List UInt8} (h : Owns w B (.slice a n c) l) : a = none → c = 0 := by
  intro e
  subst e
  rcases (show w.ownsRow B 5 1 (.slice none n c) l.length (bs l) from h).2 with ⟨h0, _⟩ | ⟨g, cap, cur, h0, _⟩
  · cases h0; rfl
  · cases h0

set_option maxHeartbeats 1000000 in
set_option maxRecDepth 100000 in
theorem told_any (x : Value) (neg : Bool) (m B : Nat) (w : World) (h : IsInt w B x neg m) (hm : (mag m).length ≤ 2147483647) :
    Calls Try.prog 28 #[x] w fun e w' => (∃ u, e = .returned (.agg #[.int .i64 2, .bool neg, u, .int .u64 0, .string ⟨#[]⟩, .slice none 0 0]) ∧ Owns w' w.heap.size u (mag m)) ∧ Below w.heap.size w w' := by
  obtain ⟨u, rfl, ho, hpos⟩ := h
  obtain ⟨a, cap, rfl, hr, hc⟩ := Rd.of_own ho
  obtain ⟨n, hn⟩ : ∃ n, (mag m).length = n := ⟨_, rfl⟩
  rw [hn] at hm hc ho ⊢
  have k0 : ((w.alloc (.cells #[.bool neg, .slice a n cap] 35))).cell? ⟨w.heap.size, 0, none⟩ = some (.bool neg) := by rw [World.cell?_alloc_at _ _ _ _ rfl]; rfl
  have k1 : (w.alloc (.cells #[.bool neg, .slice a n cap] 35)).cell? ⟨w.heap.size, 1, none⟩ = some (.slice a n cap) := by rw [World.cell?_alloc_at _ _ _ _ rfl]; rfl
  obtain ⟨o1, ho1⟩ : ∃ o, o = Obj.cells #[.bool neg, .slice a n cap] 35 := ⟨_, rfl⟩
  obtain ⟨o2, ho2⟩ : ∃ o, o = Obj.cells #[.int .i64 0, .bool false, .slice none 0 0, .int .u64 0, .string ⟨#[]⟩, .slice none 0 0] 26 := ⟨_, rfl⟩
  have hsz2 : ((w.alloc o1).alloc o2).heap.size = w.heap.size + 1 + 1 := by simp
  have hB2 : Below w.heap.size w ((w.alloc o1).alloc o2) := ((Below.refl _ _).alloc (Nat.le_refl _) _).alloc (by simp) _
  have hB3 : Below (w.heap.size + 1 + 1) ((w.alloc o1).alloc o2) (((w.alloc o1).alloc o2).alloc (.cells #[] 5)) := (Below.refl _ _).alloc (Nat.le_of_eq hsz2.symm) _
  have hR3 : Rd (((w.alloc o1).alloc o2).alloc (.cells #[] 5)) a (mag m) := (hr.later hB2).later (hsz2 ▸ hB3)
  have hO3 : Owns (((w.alloc o1).alloc o2).alloc (.cells #[] 5)) (w.heap.size + 1 + 1) (.slice (some ⟨w.heap.size + 1 + 1, 0, none⟩) 0 0) [] := by
    have := owns_empty ((w.alloc o1).alloc o2)
    rw [hsz2] at this
    exact this
  have hV3 : Box.Holds ((w.alloc o1).alloc o2) (w.heap.size + 1) 26 #[.int .i64 0, .bool false, .slice none 0 0, .int .u64 0, .string ⟨#[]⟩, .slice none 0 0] := by
    have := Box.Holds.made (w.alloc o1) 26 #[.int .i64 0, .bool false, .slice none 0 0, .int .u64 0, .string ⟨#[]⟩, .slice none 0 0]
    rw [ho2]
    simpa using this
  have hcap := Lib.hid (Rd.cap ho)
  have hN3 : Box.Holds ((w.alloc o1).alloc o2) w.heap.size 35 #[.bool neg, .slice a n cap] := by
    have := (Box.Holds.made w 35 #[.bool neg, .slice a n cap]).alloc o2
    rw [ho1]
    exact this
  have hN3' := Lib.hid hN3
  rw [ho1, ho2] at hN3'
  rw [ho1, ho2] at hB3 hR3 hO3 hV3 hB2 hsz2
  have hB3' := Lib.hid hB3
  have hR3' := Lib.hid hR3
  have hO3' := Lib.hid hO3
  have hV3' := Lib.hid hV3
  have hB2' := Lib.hid hB2
  have hsz2' := Lib.hid hsz2
  have hn' := Lib.hid hn
  clear hN3 hB3 hR3 hO3 hV3 hB2 hsz2 ho1 ho2 hr ho hn
  go_enter Try.func28, Try.ntmps28
  go_wp2_with fail
  go_region_law (refine step_fresh rfl _ _ rfl _ rfl a n cap rfl (by exact hO3'.out) (by exact ⟨hB3'.out.os, hB3'.out.tape, hB3'.out.output, hB3'.out.size, hB3'.out.block⟩) (Nat.le_of_eq hsz2'.out.symm) (mag m) hn'.out (by exact hR3'.out) hcap.out (by rw [hn'.out]; omega) ?_; intro v' w1 hown1 hb1; obtain ⟨a5, c5, hv5, -, -⟩ := Rd.of_own hown1; subst hv5; have hv1 := hV3'.out.below hb1 (Nat.lt_succ_self _); have hl1 := hv1.lt; have q0 := hv1.cell 0; have q1 := hv1.cell 1; have q2 := hv1.cell 2; have q3 := hv1.cell 3; have q4 := hv1.cell 4; have q5 := hv1.cell 5; simp at q0 q1 q2 q3 q4 q5; have f0 := hv1.free 0; have f1 := hv1.free 1; have f2 := hv1.free 2; have f3 := hv1.free 3; have f4 := hv1.free 4; have f5 := hv1.free 5; have r0 := (hN3'.out.below hb1 (by omega)).cell 0; simp at r0)
  all_goals
    clear hN3' hR3' hO3' hcap k0 k1 r0
    have hfin := Lib.hid (six (.int .i64 2) (.bool neg) (.slice a5 (mag m).length c5) (.int .u64 0) (.string ⟨#[]⟩) (.slice none 0 0) hown1 (Nat.lt_succ_self (w.heap.size + 1)) (hB2'.out.trans (hb1.mono (Nat.le_trans (Nat.le_succ _) (Nat.le_succ _)))) (Nat.le_succ _))
    clear hown1 hB2' hB3' hsz2' hb1 hv1
    go_wp2
    exact bodyPost_ret (v := .agg #[.int .i64 2, .bool neg, .slice a5 (mag m).length c5, .int .u64 0, .string ⟨#[]⟩, .slice none 0 0]) (by simp [results, Try.results28, go_sem, q0, q1, q2, q3, q4, q5]) rfl ⟨⟨_, rfl, hfin.out.1⟩, hfin.out.2⟩
end Go.Proofs.Ytaappbnbjpbbcaa.Ref
