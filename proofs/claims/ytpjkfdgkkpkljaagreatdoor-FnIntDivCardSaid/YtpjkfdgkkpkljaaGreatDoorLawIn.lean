/-
  The value of an integer of the reference. The integer of a sign and of bytes, as the reference and as the program has it. A slice of bytes that came in, as a list of bytes. The value of an integer of the reference. The integer of a sign and of bytes, as the reference and as the program has it.
-/
import Derived.Test.YtpjkfdgkkpkljaaGreatDoorSpecInt
import Derived.Deep.RegionLaw
import Derived.Laws.AppendOwnNone
import Derived.Deep.RegionWith
import Derived.Deep.DrawnRows
import Derived.Deep.DeepCutAuto
import Derived.OpenShut
namespace Go.Proofs.YtpjkfdgkkpkljaaGreatDoor.Ref
open Go.RowKit Go.WideShapes Go.Proofs.YtpjkfdgkkpkljaaGreatDoor.Own Go.Proofs.YtpjkfdgkkpkljaaGreatDoor.Num
set_option linter.unusedVariables false

/-- 'append([]byte{}, row...)' as one step of a region that draws its order -/
theorem step_fresh {ops : Array Oper} {o : Oper} {a : Act} {K : Act → World → Prop} {Q : Exit → Act → World → Prop} {E : Prop} {wq w0 : World} {B : Nat} (hgd : o.guard = none) (s x : Operand)
    (ho : o.op = .call { callee := .builtin .append, args := #[s, x], argTypes := #[22, 22] })
    (v : Value) (hs : a.eval s = v) (sa : Option Addr) (m c : Nat) (hx : a.eval x = .slice sa m c) (hown : Owns wq B v []) (hb : Below B w0 wq) (hB : B ≤ w0.heap.size) (t : List UInt8)
    (hm : t.length = m) (hr : Rd wq sa t) (hnone : sa = none → c = 0) (hn : t.length ≤ 1000000000000)
    (h : ∀ v' w', Owns w' B v' t → Below B w0 w' → K (a.put o.dst v') w') :
    if Region.wanted o (yielded ops a.tmps) = true then Oper.wp Tryz.prog o a wq K Q else E := by
  have hw : Region.wanted o (yielded ops a.tmps) = true := by simp [Region.wanted, hgd]
  rw [if_pos hw]
  obtain ⟨i0, hi, hz0, hz1, hz2⟩ := info_parts info_u8
  have hsz := hb.size
  have hown' : wq.ownsRow B 5 1 v 0 [] := hown
  rcases hr with ⟨rfl, rfl⟩ | ⟨ad, rfl, hlt, hcell⟩
  · have hc0 := hnone rfl
    subst hc0
    have hm0 : m = 0 := by simpa using hm.symm
    subst hm0
    have hrun := run_append_owned_none (P := Tryz.prog) (w := wq) B 22 o.type 5 i0 1 Tryz.underlying22 hi v 0 [] hown'
    unfold Oper.wp
    simp [execOp, ho, resolve, invoke, builtin, hs, hx, hrun, Result.andThen]
    exact h _ _ hown hb
  · subst hm
    refine wp_append_own _ s x 22 ho B 5 i0 (.int .u8 0) 1 1 Tryz.underlying22 hi hz0 hz1 hz2 rfl (by decide) v 0 [] hs hown' ad t.length c (bs t) hx (by rw [bs_length, Nat.mul_one])
      ?_ ?_ (by unfold maxLen; omega) (by omega) (by omega) ?_
    · intro j u hu
      simp only [bs, List.getElem?_map, Option.map_eq_some_iff] at hu
      obtain ⟨y, hx1, rfl⟩ := hu
      obtain ⟨hj, rfl⟩ := List.getElem?_eq_some_iff.1 hx1
      exact hcell j hj
    · intro u hu
      simp only [bs, List.mem_map] at hu
      obtain ⟨y, _, rfl⟩ := hu
      rfl
    · intro v' w' hown2 hg _
      refine h v' w' ?_ (hb.grown hg (by omega) fun k hk => (World.ownsRow.lt hown' k hk).1)
      unfold Owns
      simpa [bs] using hown2

theorem six {w w1 : World} {s B : Nat} {v : Value} {l : List UInt8} (u0 u1 u2 u3 u4 u5 : Value) (hown : Owns w1 B v l) (hsB : s < B) (hb : Below w.heap.size w w1) (hs : w.heap.size ≤ s) :
    Owns ((((((w1.setCell ⟨s, 0, none⟩ u0).setCell ⟨s, 1, none⟩ u1).setCell ⟨s, 2, none⟩ u2).setCell ⟨s, 3, none⟩ u3).setCell ⟨s, 4, none⟩ u4).setCell ⟨s, 5, none⟩ u5) w.heap.size v l
    ∧ Below w.heap.size w ((((((w1.setCell ⟨s, 0, none⟩ u0).setCell ⟨s, 1, none⟩ u1).setCell ⟨s, 2, none⟩ u2).setCell ⟨s, 3, none⟩ u3).setCell ⟨s, 4, none⟩ u4).setCell ⟨s, 5, none⟩ u5) := by
  refine ⟨World.ownsRow.mono (Box.own_above hown ?_) (by omega), ?_⟩
  · have h0 := (Box.Above.refl B w1).setCell (p := ⟨s, 0, none⟩) hsB u0
    have h1 := h0.setCell (p := ⟨s, 1, none⟩) hsB u1
    have h2 := h1.setCell (p := ⟨s, 2, none⟩) hsB u2
    have h3 := h2.setCell (p := ⟨s, 3, none⟩) hsB u3
    have h4 := h3.setCell (p := ⟨s, 4, none⟩) hsB u4
    exact h4.setCell (p := ⟨s, 5, none⟩) hsB u5
  · have h0 := hb.setCell (p := ⟨s, 0, none⟩) hs u0
    have h1 := h0.setCell (p := ⟨s, 1, none⟩) hs u1
    have h2 := h1.setCell (p := ⟨s, 2, none⟩) hs u2
    have h3 := h2.setCell (p := ⟨s, 3, none⟩) hs u3
    have h4 := h3.setCell (p := ⟨s, 4, none⟩) hs u4
    exact h4.setCell (p := ⟨s, 5, none⟩) hs u5

theorem Rd.cap {w : World} {B : Nat} {a : Option Addr} {n c : Nat} {l : List UInt8} (h : Owns w B (.slice a n c) l) : a = none → c = 0 := by
  intro e
  subst e
  rcases (show w.ownsRow B 5 1 (.slice none n c) l.length (bs l) from h).2 with ⟨h0, _⟩ | ⟨g, cap, cur, h0, _⟩
  · cases h0; rfl
  · cases h0

end Go.Proofs.YtpjkfdgkkpkljaaGreatDoor.Ref

namespace Go.Proofs.YtpjkfdgkkpkljaaGreatDoor.Ref
open Go.RowKit Go.WideShapes Go.Proofs.YtpjkfdgkkpkljaaGreatDoor.Own Go.Proofs.YtpjkfdgkkpkljaaGreatDoor.Num
set_option linter.unusedVariables false

theorem Rd.take {w : World} {a : Option Addr} {l : List UInt8} (h : Rd w a l) (k : Nat) : Rd w a (l.take k) := by
  rcases h with ⟨h1, h2⟩ | ⟨x, rfl, hx, hc⟩
  · exact .inl ⟨h1, by rw [h2]; simp⟩
  · refine .inr ⟨x, rfl, fun h0 => hx (by rw [List.length_take] at h0; omega), fun j hj => ?_⟩
    rw [hc j (by rw [List.length_take] at hj; omega)]
    simp
/-- a value of the program's that is an integer -/
def IsVal (w : World) (B : Nat) (v : Value) (neg : Bool) (m : Nat) : Prop := ∃ u, v = .agg #[.int .i64 2, .bool neg, u, .int .u64 0, .string ⟨#[]⟩, .slice none 0 0] ∧ Owns w B u (mag m) ∧ (neg = true → 0 < m)
theorem IsVal.later {w w' : World} {B : Nat} {v : Value} {neg : Bool} {m : Nat} (h : IsVal w B v neg m) (hb : Below w.heap.size w w') : IsVal w' B v neg m := by
  obtain ⟨u, h1, h2, h3⟩ := h
  exact ⟨u, h1, h2.later hb, h3⟩
theorem IsVal.mono {w : World} {B B' : Nat} {v : Value} {neg : Bool} {m : Nat} (h : IsVal w B v neg m) (hB : B' ≤ B) : IsVal w B' v neg m := by
  obtain ⟨u, h1, h2, h3⟩ := h
  exact ⟨u, h1, World.ownsRow.mono h2 hB, h3⟩
theorem IsInt.above {w w' : World} {B : Nat} {v : Value} {neg : Bool} {m : Nat} (h : IsInt w B v neg m) (hb : Box.Above B w w') : IsInt w' B v neg m := by
  obtain ⟨u, h1, h2, h3⟩ := h
  exact ⟨u, h1, Box.own_above h2 hb, h3⟩
theorem IsVal.above {w w' : World} {B : Nat} {v : Value} {neg : Bool} {m : Nat} (h : IsVal w B v neg m) (hb : Box.Above B w w') : IsVal w' B v neg m := by
  obtain ⟨u, h1, h2, h3⟩ := h
  exact ⟨u, h1, Box.own_above h2 hb, h3⟩
theorem below_one' {B : Nat} {w : World} (o : Obj) (h : B ≤ w.heap.size) : Below B w (w.alloc o) := (Below.refl _ _).alloc h _
theorem mag_len_le {V k : Nat} (h : V < 256 ^ k) : (mag V).length ≤ k := by rw [mag_length]; exact len_le (by omega) h

theorem eight {w w1 : World} (a0 a1 u0 u1 u2 u3 u4 u5 : Value) (hb : Below w.heap.size w w1) :
    Box.Above (w.heap.size + 2) w1 ((((((((w1.setCell ⟨w.heap.size, 0, none⟩ a0).setCell ⟨w.heap.size, 1, none⟩ a1).setCell ⟨w.heap.size + 1, 0, none⟩ u0).setCell ⟨w.heap.size + 1, 1, none⟩ u1).setCell ⟨w.heap.size + 1, 2, none⟩ u2).setCell ⟨w.heap.size + 1, 3, none⟩ u3).setCell ⟨w.heap.size + 1, 4, none⟩ u4).setCell ⟨w.heap.size + 1, 5, none⟩ u5)
    ∧ Below w.heap.size w ((((((((w1.setCell ⟨w.heap.size, 0, none⟩ a0).setCell ⟨w.heap.size, 1, none⟩ a1).setCell ⟨w.heap.size + 1, 0, none⟩ u0).setCell ⟨w.heap.size + 1, 1, none⟩ u1).setCell ⟨w.heap.size + 1, 2, none⟩ u2).setCell ⟨w.heap.size + 1, 3, none⟩ u3).setCell ⟨w.heap.size + 1, 4, none⟩ u4).setCell ⟨w.heap.size + 1, 5, none⟩ u5) := by
  have b0 : w.heap.size < w.heap.size + 2 := by omega
  have b1 : w.heap.size + 1 < w.heap.size + 2 := by omega
  have c0 : w.heap.size ≤ w.heap.size := Nat.le_refl _
  have c1 : w.heap.size ≤ w.heap.size + 1 := by omega
  constructor
  · have h0 := (Box.Above.refl (w.heap.size + 2) w1).setCell (p := ⟨w.heap.size, 0, none⟩) b0 a0
    have h1 := h0.setCell (p := ⟨w.heap.size, 1, none⟩) b0 a1
    have h2 := h1.setCell (p := ⟨w.heap.size + 1, 0, none⟩) b1 u0
    have h3 := h2.setCell (p := ⟨w.heap.size + 1, 1, none⟩) b1 u1
    have h4 := h3.setCell (p := ⟨w.heap.size + 1, 2, none⟩) b1 u2
    have h5 := h4.setCell (p := ⟨w.heap.size + 1, 3, none⟩) b1 u3
    have h6 := h5.setCell (p := ⟨w.heap.size + 1, 4, none⟩) b1 u4
    exact h6.setCell (p := ⟨w.heap.size + 1, 5, none⟩) b1 u5
  · have h0 := hb.setCell (p := ⟨w.heap.size, 0, none⟩) c0 a0
    have h1 := h0.setCell (p := ⟨w.heap.size, 1, none⟩) c0 a1
    have h2 := h1.setCell (p := ⟨w.heap.size + 1, 0, none⟩) c1 u0
    have h3 := h2.setCell (p := ⟨w.heap.size + 1, 1, none⟩) c1 u1
    have h4 := h3.setCell (p := ⟨w.heap.size + 1, 2, none⟩) c1 u2
    have h5 := h4.setCell (p := ⟨w.heap.size + 1, 3, none⟩) c1 u3
    have h6 := h5.setCell (p := ⟨w.heap.size + 1, 4, none⟩) c1 u4
    exact h6.setCell (p := ⟨w.heap.size + 1, 5, none⟩) c1 u5

end Go.Proofs.YtpjkfdgkkpkljaaGreatDoor.Ref

namespace Go.Proofs.YtpjkfdgkkpkljaaGreatDoor.Ref
open Go.RowKit Go.WideShapes Go.Proofs.YtpjkfdgkkpkljaaGreatDoor.Own Go.Proofs.YtpjkfdgkkpkljaaGreatDoor.Num
set_option linter.unusedVariables false

/-- the bytes of a row of numbers -/
def bytesOf (z : List Int) : List UInt8 := z.map fun n => UInt8.ofNat n.toNat
/-- what came in reads as bytes -/
theorem rd_of_row {w : World} {x : Addr} {len cap : Nat} {zs : List Int} (hlen : len ≤ cap) (hz : zs.length = cap) (hc : ∀ i, i < zs.length → w.cell? (x.add i) = some (.int .u8 (zs.getD i 0))) (hwf : ∀ n ∈ zs, (Lit.int .u8 n).wf = true) :
    ∃ l, l.length = len ∧ Rd w (some x) l := by
  refine ⟨(bytesOf zs).take len, by simp [bytesOf]; omega, .inr ⟨x, rfl, fun h0 => ?_, fun j hj => ?_⟩⟩
  · have h0' : 0 < zs.length := by simp [bytesOf] at h0; omega
    have := World.block_lt_of_cell? _ _ (hc 0 h0')
    rw [block_add] at this
    exact this
  · have hj' : j < zs.length := by simp [bytesOf] at hj; omega
    rw [hc j hj']
    have hg : zs.getD j 0 = zs[j] := by simp [List.getD, List.getElem?_eq_getElem hj']
    obtain ⟨b1, b2⟩ := bounds_u8 (hwf _ (List.getElem_mem hj'))
    rw [hg]
    congr 2
    simp [bytesOf]
    omega
end Go.Proofs.YtpjkfdgkkpkljaaGreatDoor.Ref

namespace Go.Proofs.YtpjkfdgkkpkljaaGreatDoor.Ref
open Go.RowKit Go.WideShapes Go.Proofs.YtpjkfdgkkpkljaaGreatDoor.Own Go.Proofs.YtpjkfdgkkpkljaaGreatDoor.Num
set_option linter.unusedVariables false

set_option maxHeartbeats 1000000 in
set_option maxRecDepth 100000 in
theorem told_any (x : Value) (neg : Bool) (m B : Nat) (w : World) (h : IsInt w B x neg m) (hm : (mag m).length ≤ 2147483647) :
    Calls Tryz.prog 9 #[x] w fun e w' => (∃ u, e = .returned (.agg #[.int .i64 2, .bool neg, u, .int .u64 0, .string ⟨#[]⟩, .slice none 0 0]) ∧ Owns w' w.heap.size u (mag m)) ∧ Below w.heap.size w w' := by
  obtain ⟨u, rfl, ho, hpos⟩ := h
  obtain ⟨a, cap, rfl, hr, hc⟩ := Rd.of_own ho
  obtain ⟨n, hn⟩ : ∃ n, (mag m).length = n := ⟨_, rfl⟩
  rw [hn] at hm hc ho ⊢
  have k0 : ((w.alloc (.cells #[.bool neg, .slice a n cap] 24))).cell? ⟨w.heap.size, 0, none⟩ = some (.bool neg) := by rw [World.cell?_alloc_at _ _ _ _ rfl]; rfl
  have k1 : (w.alloc (.cells #[.bool neg, .slice a n cap] 24)).cell? ⟨w.heap.size, 1, none⟩ = some (.slice a n cap) := by rw [World.cell?_alloc_at _ _ _ _ rfl]; rfl
  obtain ⟨o1, ho1⟩ : ∃ o, o = Obj.cells #[.bool neg, .slice a n cap] 24 := ⟨_, rfl⟩
  obtain ⟨o2, ho2⟩ : ∃ o, o = Obj.cells #[.int .i64 0, .bool false, .slice none 0 0, .int .u64 0, .string ⟨#[]⟩, .slice none 0 0] 28 := ⟨_, rfl⟩
  have hsz2 : ((w.alloc o1).alloc o2).heap.size = w.heap.size + 1 + 1 := by simp
  have hB2 : Below w.heap.size w ((w.alloc o1).alloc o2) := ((Below.refl _ _).alloc (Nat.le_refl _) _).alloc (by simp) _
  have hB3 : Below (w.heap.size + 1 + 1) ((w.alloc o1).alloc o2) (((w.alloc o1).alloc o2).alloc (.cells #[] 5)) := (Below.refl _ _).alloc (Nat.le_of_eq hsz2.symm) _
  have hR3 : Rd (((w.alloc o1).alloc o2).alloc (.cells #[] 5)) a (mag m) := (hr.later hB2).later (hsz2 ▸ hB3)
  have hO3 : Owns (((w.alloc o1).alloc o2).alloc (.cells #[] 5)) (w.heap.size + 1 + 1) (.slice (some ⟨w.heap.size + 1 + 1, 0, none⟩) 0 0) [] := by
    have := owns_empty ((w.alloc o1).alloc o2)
    rw [hsz2] at this
    exact this
  have hV3 : Box.Holds ((w.alloc o1).alloc o2) (w.heap.size + 1) 28 #[.int .i64 0, .bool false, .slice none 0 0, .int .u64 0, .string ⟨#[]⟩, .slice none 0 0] := by
    have := Box.Holds.made (w.alloc o1) 28 #[.int .i64 0, .bool false, .slice none 0 0, .int .u64 0, .string ⟨#[]⟩, .slice none 0 0]
    rw [ho2]
    simpa using this
  have hcap := Lib.hid (Rd.cap ho)
  have hN3 : Box.Holds ((w.alloc o1).alloc o2) w.heap.size 24 #[.bool neg, .slice a n cap] := by
    have := (Box.Holds.made w 24 #[.bool neg, .slice a n cap]).alloc o2
    rw [ho1]
    exact this
  have hN3' := Lib.hid hN3
  rw [ho1, ho2] at hN3'
  rw [ho1, ho2] at hB3 hR3 hO3 hV3 hB2 hsz2
  have hB3' := Lib.hid hB3
  have hR3' := Lib.hid hR3
  have hO3' := Lib.hid hO3
  have hV3' := Lib.hid hV3
  have hB2' := Lib.hid hB2
  have hsz2' := Lib.hid hsz2
  have hn' := Lib.hid hn
  clear hN3 hB3 hR3 hO3 hV3 hB2 hsz2 ho1 ho2 hr ho hn
  go_enter Tryz.func9, Tryz.ntmps9
  go_wp2_with fail
  go_region_law (refine step_fresh rfl _ _ rfl _ rfl a n cap rfl (by exact hO3'.out) (by exact ⟨hB3'.out.os, hB3'.out.tape, hB3'.out.output, hB3'.out.size, hB3'.out.block⟩) (Nat.le_of_eq hsz2'.out.symm) (mag m) hn'.out (by exact hR3'.out) hcap.out (by rw [hn'.out]; omega) ?_; intro v' w1 hown1 hb1; obtain ⟨a5, c5, hv5, -, -⟩ := Rd.of_own hown1; subst hv5; have hv1 := hV3'.out.below hb1 (Nat.lt_succ_self _); have hl1 := hv1.lt; have q0 := hv1.cell 0; have q1 := hv1.cell 1; have q2 := hv1.cell 2; have q3 := hv1.cell 3; have q4 := hv1.cell 4; have q5 := hv1.cell 5; simp at q0 q1 q2 q3 q4 q5; have f0 := hv1.free 0; have f1 := hv1.free 1; have f2 := hv1.free 2; have f3 := hv1.free 3; have f4 := hv1.free 4; have f5 := hv1.free 5; have r0 := (hN3'.out.below hb1 (by omega)).cell 0; simp at r0)
  all_goals
    clear hN3' hR3' hO3' hcap k0 k1 r0
    have hfin := Lib.hid (six (.int .i64 2) (.bool neg) (.slice a5 (mag m).length c5) (.int .u64 0) (.string ⟨#[]⟩) (.slice none 0 0) hown1 (Nat.lt_succ_self (w.heap.size + 1)) (hB2'.out.trans (hb1.mono (Nat.le_trans (Nat.le_succ _) (Nat.le_succ _)))) (Nat.le_succ _))
    clear hown1 hB2' hB3' hsz2' hb1 hv1
    go_wp2
    exact bodyPost_ret (v := .agg #[.int .i64 2, .bool neg, .slice a5 (mag m).length c5, .int .u64 0, .string ⟨#[]⟩, .slice none 0 0]) (by simp [results, Tryz.results9, go_sem, q0, q1, q2, q3, q4, q5]) rfl ⟨⟨_, rfl, hfin.out.1⟩, hfin.out.2⟩
end Go.Proofs.YtpjkfdgkkpkljaaGreatDoor.Ref

namespace Go.Proofs.YtpjkfdgkkpkljaaGreatDoor.Ref
open Go.RowKit Go.WideShapes Go.Proofs.YtpjkfdgkkpkljaaGreatDoor.Own Go.Proofs.YtpjkfdgkkpkljaaGreatDoor.Num
set_option linter.unusedVariables false

set_option maxHeartbeats 1000000 in
set_option maxRecDepth 100000 in
theorem lwhole_any (neg : Bool) (a : Option Addr) (cap : Nat) (l : List UInt8) (most : Nat) (w : World) (h : Rd w a l) (hl : l.length ≤ 2147483647) (hc : l.length ≤ cap) (ha : a = none → cap = 0) (hm : most ≤ 1000) (V : Nat) (hV : be (l.take most) = V) :
    Calls Tryz.prog 6 #[.bool neg, .slice a l.length cap, .int .i64 most] w fun e w' => (∃ x p, e = .returned (.tuple #[x, p]) ∧ IsInt w' w.heap.size x (neg && decide (0 < V)) V ∧ IsVal w' w.heap.size p (neg && decide (0 < V)) V) ∧ Below w.heap.size w w' := by
  have hVl : (mag V).length ≤ 1000 := by
    have := be_lt (l.take most)
    rw [hV] at this
    have h2 : (l.take most).length ≤ 1000 := by rw [List.length_take]; omega
    exact Nat.le_trans (mag_len_le this) h2
  have hof := Lib.hid fun W (hb : Below w.heap.size w W) => of_any neg a cap (l.take most) W ((h.take most).later hb) (by rw [List.length_take]; omega) (by rw [List.length_take]; omega) ha
  rw [hV, List.length_take] at hof
  obtain ⟨n, hn⟩ : ∃ n, l.length = n := ⟨_, rfl⟩
  obtain ⟨K, hK⟩ : ∃ K, Nat.min most n = K := ⟨_, rfl⟩
  rw [hn] at hof hc hl ⊢
  rw [show min most n = K from hK] at hof
  have hK1 : K ≤ n := by rw [← hK]; exact Nat.min_le_right _ _
  have hKc : K ≤ cap := by omega
  have hKd : K = if most < n then most else n := by
    rw [← hK]
    show min most n = _
    split <;> omega
  clear hn hK h hV ha
  obtain ⟨N, hN⟩ : ∃ N, (neg && decide (0 < V)) = N := ⟨_, rfl⟩
  rw [hN] at hof ⊢
  clear hN
  by_cases hk : most < n
  all_goals
    first | rw [if_pos hk] at hKd | rw [if_neg hk] at hKd
    subst hKd
    go_enter Tryz.func6, Tryz.ntmps6
    go_wp2_with fail
    refine (hof.out _ ((below_one' _ (Nat.le_refl _)).alloc (by simp) _)).mono ?_
    rintro e w1 ⟨⟨x, rfl, hx⟩, hb1⟩
    have hb1' : Below (w.heap.size + 2) ((w.alloc (.cells #[.bool false, .slice none 0 0] 24)).alloc (.cells #[.int .i64 0, .bool false, .slice none 0 0, .int .u64 0, .string ⟨#[]⟩, .slice none 0 0] 28)) w1 := by simpa using hb1
    have hs1 : Box.Holds w1 w.heap.size 24 #[.bool false, .slice none 0 0] := ((Box.Holds.made w _ _).alloc _).below hb1' (by omega)
    have hs2 : Box.Holds w1 (w.heap.size + 1) 28 #[.int .i64 0, .bool false, .slice none 0 0, .int .u64 0, .string ⟨#[]⟩, .slice none 0 0] := by
      have := (Box.Holds.made (w.alloc (.cells #[.bool false, .slice none 0 0] 24)) 28 #[.int .i64 0, .bool false, .slice none 0 0, .int .u64 0, .string ⟨#[]⟩, .slice none 0 0])
      have e : (w.alloc (.cells #[.bool false, .slice none 0 0] 24)).heap.size = w.heap.size + 1 := by simp
      rw [e] at this
      exact this.below hb1' (by omega)
    have hxs : IsInt w1 (w.heap.size + 2) x N V := by simpa using hx
    have hbw : Below w.heap.size w w1 := ((below_one' _ (Nat.le_refl _)).alloc (by simp) _).trans (hb1'.mono (by omega))
    clear hx hb1 hb1' hof
    obtain ⟨u, rfl, hu, hp⟩ := hxs
    obtain ⟨a1, c1, rfl, -, -⟩ := Rd.of_own hu
    obtain ⟨L, hL⟩ : ∃ L, (mag V).length = L := ⟨_, rfl⟩
    rw [hL] at hu ⊢
    have hu' := Lib.hid hu
    have hL' := Lib.hid hL
    have hp' := Lib.hid hp
    have hlt1 := hs2.lt
    have hxi : IsInt w1 (w.heap.size + 2) (.agg #[.bool N, .slice a1 L c1]) N V := ⟨_, rfl, hu, hp⟩
    clear hu hp
    go_wp2_with fail
    obtain ⟨P, hP⟩ : ∃ P, w1.heap.size = P := ⟨_, rfl⟩
    obtain ⟨W2, hW2⟩ : ∃ W2, w1.alloc (.cells #[.bool N, .slice a1 L c1] 24) = W2 := ⟨_, rfl⟩
    have hB2 : Below w1.heap.size w1 W2 := by rw [← hW2]; exact below_one' _ (Nat.le_refl _)
    have hbox : Box.Holds W2 P 24 #[.bool N, .slice a1 L c1] := by rw [← hW2, ← hP]; exact Box.Holds.made w1 _ _
    rw [hW2, hP]
    have k1 := hs1.later hB2
    have k2 := hs2.later hB2
    have hx2 := hxi.later hB2
    have hbw2 : Below w.heap.size w W2 := hbw.trans (hB2.mono hbw.size)
    have htl := Lib.hid (fun W (h : IsInt W (w.heap.size + 2) (.agg #[.bool N, .slice a1 L c1]) N V) => told_any _ N V _ W h (by omega))
    have hx2d : Hid (IsInt W2.drew (w.heap.size + 2) (.agg #[.bool N, .slice a1 L c1]) N V) := Lib.hid hx2
    have d0 := hbox.cell 0
    have d1 := hbox.cell 1
    simp at d0 d1
    have d2 := hbox.lt
    have hall := Lib.hid (show ∀ w3, Below W2.heap.size W2 w3 → Box.Holds w3 P 24 #[.bool N, .slice a1 L c1] ∧ Box.Holds w3 w.heap.size 24 #[.bool false, .slice none 0 0] ∧ Box.Holds w3 (w.heap.size + 1) 28 #[.int .i64 0, .bool false, .slice none 0 0, .int .u64 0, .string ⟨#[]⟩, .slice none 0 0] ∧ IsInt w3 (w.heap.size + 2) (.agg #[.bool N, .slice a1 L c1]) N V ∧ Below w.heap.size w w3 from
      fun w3 hb => ⟨hbox.later hb, k1.later hb, k2.later hb, hx2.later hb, hbw2.trans (hb.mono hbw2.size)⟩)
    have hsz2 := Lib.hid (show w.heap.size + 2 ≤ W2.heap.size by have := hB2.size; omega)
    clear hs1 hs2 hbw hlt1 hP hW2 hB2 hbox k1 k2 hx2 hbw2 hxi hu'
    go_region_with (go_at_call 9; refine (htl.out W2.drew hx2d.out).mono ?_; rintro e w3 ⟨⟨u, rfl, hu⟩, hb3'⟩; have hb3 : Below W2.heap.size W2 w3 := (Below.drew (Below.refl _ _)).trans hb3'; obtain ⟨a5, c5, hv5, -, -⟩ := Rd.of_own hu; subst hv5; obtain ⟨g0, g1, g2, g3, g4⟩ := hall.out _ hb3; have d0 := g0.cell 0; have d1 := g0.cell 1; have q0 := g1.cell 0; have q1 := g1.cell 1; have r0 := g2.cell 0; have r1 := g2.cell 1; have r2 := g2.cell 2; have r3 := g2.cell 3; have r4 := g2.cell 4; have r5 := g2.cell 5; simp at d0 d1 q0 q1 r0 r1 r2 r3 r4 r5; have l0 := g0.lt; have l1 := g1.lt; have l2 := g2.lt; have f0 := g1.free 0; have f1 := g1.free 1; have h0 := g2.free 0; have h1 := g2.free 1; have h2 := g2.free 2; have h3 := g2.free 3; have h4 := g2.free 4; have h5 := g2.free 5)
    all_goals
      rw [hL'.out] at hu
      have hu2 := World.ownsRow.mono hu (show w.heap.size + 2 ≤ W2.drew.heap.size from hsz2.out)
      have he := eight (.bool N) (.slice a1 L c1) (.int .i64 2) (.bool N) (.slice a5 L c5) (.int .u64 0) (.string ⟨#[]⟩) (.slice none 0 0) g4
      have hfin := Lib.hid (show IsInt _ w.heap.size (.agg #[.bool N, .slice a1 L c1]) N V ∧ IsVal _ w.heap.size (.agg #[.int .i64 2, .bool N, .slice a5 L c5, .int .u64 0, .string ⟨#[]⟩, .slice none 0 0]) N V ∧ Below w.heap.size w _ from
        ⟨(g3.above he.1).mono (by omega), (IsVal.mono ⟨_, rfl, Box.own_above (hL'.out ▸ hu2) he.1, hp'.out⟩ (show w.heap.size ≤ w.heap.size + 2 by omega)), he.2⟩)
      clear hu hu2 he g0 g1 g2 g3 g4 hb3 hb3' hall htl hx2d
      go_wp2
      exact bodyPost_ret (v := .tuple #[.agg #[.bool N, .slice a1 L c1], .agg #[.int .i64 2, .bool N, .slice a5 L c5, .int .u64 0, .string ⟨#[]⟩, .slice none 0 0]]) (by simp [results, Tryz.results6, go_sem, q0, q1, r0, r1, r2, r3, r4, r5]) rfl ⟨⟨_, _, rfl, hfin.out.1, hfin.out.2.1⟩, hfin.out.2.2⟩
end Go.Proofs.YtpjkfdgkkpkljaaGreatDoor.Ref
