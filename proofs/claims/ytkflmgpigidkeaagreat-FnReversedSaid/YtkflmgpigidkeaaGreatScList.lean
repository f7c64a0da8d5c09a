/-
  Lists of values without parts: made, told.
-/
import Derived.Test.YtkflmgpigidkeaaGreatScRow
namespace Go.Proofs.YtkflmgpigidkeaaGreat.Sc
open Go.RowKit Go.WideShapes Go.Proofs.YtkflmgpigidkeaaGreat.Own Go.Proofs.YtkflmgpigidkeaaGreat.Num Go.Proofs.YtkflmgpigidkeaaGreat.Ref Go.Proofs.YtkflmgpigidkeaaGreat.Nat_ Go.Proofs.YtkflmgpigidkeaaGreat.Big Go.Proofs.YtkflmgpigidkeaaGreat.VRow
set_option linter.unusedVariables false

/-- the six cells of a value at an address -/
def AtA (w : World) (p : Addr) (x : V6) : Prop :=
  w.cell? p = some x.k ∧ w.cell? ⟨p.block, p.off + 1, Option.none⟩ = some x.n ∧ w.cell? ⟨p.block, p.off + 2, Option.none⟩ = some x.m ∧ w.cell? ⟨p.block, p.off + 3, Option.none⟩ = some x.b ∧ w.cell? ⟨p.block, p.off + 4, Option.none⟩ = some x.t ∧ w.cell? ⟨p.block, p.off + 5, Option.none⟩ = some x.s
/-- a row of values that came in -/
structure ArgVals (w : World) (A : Option Addr) (L : List V6) : Prop where
  some_ : L ≠ [] → A.isSome
  lt : ∀ x, A = some x → L ≠ [] → x.block < w.heap.size
  at_ : ∀ x, A = some x → ∀ j (hj : j < L.length), AtA w (x.add (j * 6)) L[j]
  el : ∀ j (hj : j < L.length), ElIn w L[j]
theorem ElIn.later {w w' : World} {x : V6} (h : ElIn w x) (hb : Below w.heap.size w w') : ElIn w' x := by
  obtain ⟨k, neg, a, l, c, b, t, ka, kn, kc, h0, h1, h2⟩ := h
  exact ⟨k, neg, a, l, c, b, t, ka, kn, kc, h0, h1.later hb, h2⟩
theorem AtA.later {w w' : World} {p : Addr} {x : V6} (h : AtA w p x) (hb : Below w.heap.size w w') (hp : p.block < w.heap.size) : AtA w' p x := by
  obtain ⟨h0, h1, h2, h3, h4, h5⟩ := h
  have e : ∀ i, w'.cell? ⟨p.block, p.off + i, Option.none⟩ = w.cell? ⟨p.block, p.off + i, Option.none⟩ := fun i => hb.cell (p := ⟨p.block, p.off + i, Option.none⟩) hp
  exact ⟨(hb.cell hp).trans h0, (e _).trans h1, (e _).trans h2, (e _).trans h3, (e _).trans h4, (e _).trans h5⟩

set_option maxRecDepth 100000 in
theorem lof_any (A : Option Addr) (L : List V6) (cp : Nat) (w : World) (h : ArgVals w A L) (hl : L.length ≤ 2147483647) :
    Calls Tryz.prog 12 #[.slice A L.length cp] w fun e w' => (∃ u S, e = .returned u ∧ Vals w' w.heap.size u S ∧ S.length ≤ 12 ∧ ∀ s ∈ S, s.ok) ∧ Below w.heap.size w w' := by
  have hcl := Lib.hid fun x W h => clean_any x W h
  go_enter Tryz.func12, Tryz.ntmps12
  go_wp2
  go_loopw [3, 4] (fun u i wr => ∃ (j : Nat) (S : List Sc), i = .int .i64 j ∧ j ≤ L.length ∧ j ≤ 12 ∧ S.length = j ∧ Vals wr w.heap.size u S ∧ (∀ s ∈ S, s.ok) ∧ Below w.heap.size w wr) (fun _ i _ => L.length - (intOf i).toNat)
  case atStart => exact ⟨0, [], rfl, Nat.zero_le _, Nat.zero_le _, rfl, Vals.nil _ _, (fun s h => by cases h), Below.refl _ _⟩
  case round =>
    obtain ⟨j, S, rfl, hj, hj12, hS, hv, hok, hb⟩ := hrel
    by_cases hlt : j < L.length ∧ j < 12
    · obtain ⟨hlt, hlt2⟩ := hlt
      obtain ⟨x, rfl⟩ := Option.isSome_iff_exists.1 (h.some_ (by rintro rfl; simp at hlt))
      have hxb := h.lt x rfl (by rintro rfl; simp at hlt)
      obtain ⟨y, hy⟩ : ∃ y, L[j] = y := ⟨_, rfl⟩
      obtain ⟨c0, c1, c2, c3, c4, c5⟩ := (h.at_ x rfl j hlt).later hb (by rw [block_add]; exact hxb)
      rw [hy] at c0 c1 c2 c3 c4 c5
      have hcy := Lib.hid (hcl.out y wr ((hy ▸ h.el j hlt : ElIn w y).later hb))
      unfold V6.arr at hcy
      have hv' := Lib.hid hv
      have hb' := Lib.hid hb
      have hS' := Lib.hid hS
      have hok' := Lib.hid hok
      have hBw := hb.size
      clear h hy hv hb hS hok
      go_wp2_with fail
      refine hcy.out.mono ?_
      rintro e w5 ⟨⟨z, s, rfl, hz, hs⟩, hb5⟩
      have hz' := Lib.hid hz
      have hb5' := Lib.hid (hb'.out.trans (hb5.mono hBw))
      have hv5' := Lib.hid (hv'.out.later hb5)
      have hSn : S.length ≤ 1000000 := by rw [hS'.out]; omega
      clear hz hb5 c0 c1 c2 c3 c4 c5
      unfold V6.arr
      go_wp2_with (at_builtin; refine wpList_sc (w0 := w) (B := w.heap.size) (y := z) (t := s) rfl _ _ rfl _ S rfl hv5'.out hb5'.out (Nat.le_refl _) hz'.out rfl hSn ?_; intro v4 w4 hv4 hb4)
      go_roundw
      case rel => exact ⟨j + 1, S ++ [s], by go_num, by omega, by omega, by simp [hS'.out], hv4, fun x hx => by rw [List.mem_append, List.mem_singleton] at hx; rcases hx with hx | rfl; exact hok'.out x hx; exact hs, hb4⟩
      case measure => simp [intOf]; omega
    · have hS12 : S.length ≤ 12 := by omega
      by_cases h1 : j < L.length
      · have h2 : ¬ j < 12 := fun h => hlt ⟨h1, h⟩
        have h2' : decide ((j : Int) < 12) = false := by simp; omega
        go_wp2
        go_ret
        exact ⟨⟨_, S, rfl, hv, hS12, hok⟩, hb⟩
      · go_wp2
        go_ret
        exact ⟨⟨_, S, rfl, hv, hS12, hok⟩, hb⟩

theorem IsSc.form {w : World} {x : V6} {s : Sc} (h : IsSc w x s) : ∃ neg a n c b t, x = ⟨.int .i64 s.kind, .bool neg, .slice a n c, .int .u64 b, .string t, .slice Option.none 0 0⟩ := by
  cases s with
  | int neg m =>
    obtain ⟨u, rfl, a, c, rfl, _⟩ := h
    exact ⟨_, _, _, _, _, _, rfl⟩
  | none => obtain rfl : x = _ := h; exact ⟨_, _, _, _, _, _, rfl⟩
  | bool b => obtain rfl : x = _ := h; exact ⟨_, _, _, _, _, _, rfl⟩
  | float b => obtain rfl : x = _ := h; exact ⟨_, _, _, _, _, _, rfl⟩
  | text k t => obtain rfl : x = _ := h; exact ⟨_, _, _, _, _, _, rfl⟩
theorem IsPv.form {w : World} {x : Value} {s : Sc} (h : IsPv w x s) : ∃ t u, x = .iface t u := by
  cases s with
  | int neg m =>
    obtain ⟨u, B, rfl, _⟩ := h
    exact ⟨_, _, rfl⟩
  | none => obtain rfl : x = _ := h; exact ⟨_, _, rfl⟩
  | bool b => obtain rfl : x = _ := h; exact ⟨_, _, rfl⟩
  | float b => obtain rfl : x = _ := h; exact ⟨_, _, rfl⟩
  | text k t => obtain rfl : x = _ := h; exact ⟨_, _, rfl⟩
/-- the program's value of a row of values without parts -/
def SomePvs (w : World) (S : List Sc) (e : Ending) (w' : World) : Prop := (∃ u, e = .returned (.tuple #[u, .bool true]) ∧ Pvals w' w.heap.size u S) ∧ Below w.heap.size w w'
set_option maxHeartbeats 1000000 in
set_option maxRecDepth 100000 in
theorem scalars_any (v : Value) (S : List Sc) (B0 : Nat) (w : World) (hv : Vals w B0 v S) (hl : S.length ≤ 1000) (hok : ∀ s ∈ S, s.ok) :
    Calls Tryz.prog 50 #[v] w (SomePvs w S) := by
  obtain ⟨A0, cp0, rfl⟩ := hv.shape
  have hsc := Lib.hid fun x s W h1 h2 => scalar_any x s W h1 h2
  have hmk := fun W => run_mkpvs S.length (by omega) W
  have hmv := Lib.hid (made_pvs S.length (by omega) w w.heap.size (Nat.le_refl _))
  have hbm := Lib.hid (below_one' (B := w.heap.size) (w := w) (madeP S.length) (Nat.le_refl _))
  go_enter Tryz.func50, Tryz.ntmps50
  go_wp2_with fail
  clear hmk
  go_loopw [4, 14] (fun u i wr => ∃ j : Nat, i = .int .i64 j ∧ j ≤ S.length ∧ Pvals wr w.heap.size u (S.take j) ∧ Below w.heap.size w wr) (fun _ i _ => S.length - (intOf i).toNat)
  case atStart => exact ⟨0, rfl, Nat.zero_le _, hmv.out, hbm.out⟩
  case round =>
    obtain ⟨j, rfl, hj, ho, hb⟩ := hrel
    obtain ⟨Au, cu, hue⟩ := ho.shape
    rw [show (S.take j).length = j by simp; omega] at hue
    subst hue
    by_cases hlt : j < S.length
    · obtain ⟨g, cap, x, h, hg, hB, hc, hat, hx⟩ := hv.at_ hlt
      simp only [Value.slice.injEq, true_and] at h
      obtain ⟨rfl, rfl⟩ := h
      obtain ⟨c0, c1, c2, c3, c4, c5⟩ := hat.later hb hg
      obtain ⟨s, hs⟩ : ∃ s, S[j] = s := ⟨_, rfl⟩
      rw [hs] at hx
      have hsok := hok s (hs ▸ List.getElem_mem _)
      have htk := Lib.hid (show S.take j ++ [s] = S.take (j + 1) by rw [List.take_succ_eq_append_getElem hlt, hs])
      have hlj : (S.take j).length ≤ 1000000 := by simp; omega
      obtain ⟨xn, xa, xl, xc, xb, xt, hxe⟩ := hx.form
      have hal := below_one' (B := wr.heap.size) (w := wr) (.cells x.arr 27) (Nat.le_refl _)
      have hcall := Lib.hid (hsc.out x s (wr.alloc (.cells x.arr 27)) hsok (hx.kept ((Kept.of_below hb).trans (Kept.of_below hal))))
      have ho' := Lib.hid (ho.later hal)
      have hb' := Lib.hid (hb.alloc hb.size (.cells x.arr 27))
      clear hx hs hal hat ho hb
      subst hxe
      unfold V6.arr at hcall ho' hb'
      simp only at c0 c1 c2 c3 c4 c5
      go_wp2_with fail
      refine hcall.out.mono ?_
      rintro e w5 ⟨⟨y, rfl, hy⟩, hb5⟩
      have hb5' := Lib.hid (hb'.out.trans (hb5.mono hb'.out.size))
      have ho5 := Lib.hid (ho'.out.later hb5)
      have hy' := Lib.hid hy
      obtain ⟨yt, yu, hye⟩ := hy.form
      subst hye
      clear hb5 hy
      go_wp2_with (at_builtin; refine wpList_pv (w0 := w) (B := w.heap.size) (y := .iface yt yu) (t := s) rfl _ _ rfl _ (S.take j) rfl ho5.out hb5'.out (Nat.le_refl _) hy'.out rfl hlj ?_; intro v4 w4 hv4 hb4)
      go_roundw
      case rel => exact ⟨j + 1, by go_num, by omega, hv4.eq htk.out, hb4⟩
      case measure => simp [intOf]; omega
    · obtain rfl : j = S.length := by omega
      have ho' := Lib.hid ho
      have hb' := Lib.hid hb
      clear ho hb
      go_wp2
      go_ret2
      exact ⟨⟨_, rfl, ho'.out.eq List.take_length⟩, hb'.out⟩

theorem newlist_any (a : Option Addr) (n c : Nat) (w : World) : Calls Tryz.prog 51 #[.slice a n c] w fun e w' => e = .returned (.pointer (some ⟨w.heap.size, 0, none⟩)) ∧ w' = w.alloc (.cells #[.slice a n c, .bool false, .int .u32 0] 142) := by
  go_enter Tryz.func51, Tryz.ntmps51
  go_wp2
  go_ret
  exact ⟨rfl, rfl⟩
theorem llen_any (g : Nat) (a : Option Addr) (n c : Nat) (x y : Value) (w : World) (h : Box.Holds w g 142 #[.slice a n c, x, y]) : Calls Tryz.prog 80 #[.pointer (some ⟨g, 0, none⟩)] w fun e w' => e = .returned (.int .i64 n) ∧ w = w' := by
  have k0 := h.cell 0
  simp at k0
  have hl := h.lt
  go_enter Tryz.func80, Tryz.ntmps80
  go_wp2
  go_ret
  exact ⟨rfl, rfl⟩
theorem lindex_any (g b : Nat) (n c : Nat) (x y : Value) (j : Nat) (u : Value) (w : World) (h : Box.Holds w g 142 #[.slice (some ⟨b, 0, none⟩) n c, x, y]) (hj : j < n) (hn : n ≤ 1000000) (hu : w.cell? ⟨b, j, none⟩ = some u) : Calls Tryz.prog 82 #[.pointer (some ⟨g, 0, none⟩), .int .i64 j] w fun e w' => e = .returned u ∧ w = w' := by
  have k0 := h.cell 0
  simp at k0
  have hl := h.lt
  have hb := World.block_lt_of_cell? _ _ hu
  simp only at hb
  go_enter Tryz.func82, Tryz.ntmps82
  go_wp2
  go_ret
  exact ⟨rfl, rfl⟩
/-- a list -/
def SomeList (w : World) (S : List Sc) (e : Ending) (w' : World) : Prop := (∃ g v, e = .returned (.tuple #[.pointer (some ⟨g, 0, none⟩), .bool true]) ∧ Box.Holds w' g 142 #[v, .bool false, .int .u32 0] ∧ Pvals w' w.heap.size v S ∧ w.heap.size ≤ g) ∧ Below w.heap.size w w'
set_option maxRecDepth 100000 in
theorem ilof_any (v : Value) (S : List Sc) (B0 : Nat) (w : World) (hv : Vals w B0 v S) (hl : S.length ≤ 1000) (hok : ∀ s ∈ S, s.ok) :
    Calls Tryz.prog 34 #[v] w (SomeList w S) := by
  have hs := Lib.hid (scalars_any v S B0 w hv hl hok)
  have hnl := Lib.hid fun a n c W => newlist_any a n c W
  obtain ⟨A0, cp0, rfl⟩ := hv.shape
  clear hv hok
  go_enter Tryz.func34, Tryz.ntmps34
  go_wp2_with fail
  refine hs.out.mono ?_
  rintro e w1 ⟨⟨u, rfl, hu⟩, hb1⟩
  obtain ⟨A1, c1, rfl⟩ := hu.shape
  have hu' := Lib.hid (hu.later (below_one' (.cells #[.slice A1 S.length c1, .bool false, .int .u32 0] 142) (Nat.le_refl _)))
  have hk' := Lib.hid (Box.Holds.made w1 142 #[.slice A1 S.length c1, .bool false, .int .u32 0])
  have hb1' := Lib.hid (hb1.alloc hb1.size (.cells #[.slice A1 S.length c1, .bool false, .int .u32 0] 142))
  have hsz := hb1.size
  clear hu hb1
  go_wp2_with fail
  refine (hnl.out _ _ _ _).mono ?_
  rintro e w2 ⟨rfl, rfl⟩
  go_wp2
  go_ret2
  exact ⟨⟨_, _, rfl, hk'.out, hu'.out, hsz⟩, hb1'.out⟩

def SomeVals (w : World) (S : List Sc) (e : Ending) (w' : World) : Prop := (∃ u, e = .returned u ∧ Vals w' w.heap.size u S) ∧ Below w.heap.size w w'
set_option maxHeartbeats 1000000 in
set_option maxRecDepth 100000 in
theorem elements_any (g : Nat) (v x y : Value) (S : List Sc) (B0 : Nat) (w : World) (hg : Box.Holds w g 142 #[v, x, y]) (hv : Pvals w B0 v S) (hl : S.length ≤ 1000) (hok : ∀ s ∈ S, s.ok) :
    Calls Tryz.prog 36 #[.pointer (some ⟨g, 0, none⟩)] w (SomeVals w S) := by
  obtain ⟨A0, cp0, rfl⟩ := hv.shape
  have hlen := Lib.hid fun W h => llen_any g A0 S.length cp0 x y W h
  have htl := Lib.hid fun v s W h1 h2 => tell_any v s W h1 h2
  have hmk := fun W => run_mkvals S.length (by omega) W
  have hmv := Lib.hid (made_vals S.length (by omega) w w.heap.size (Nat.le_refl _))
  have hbm := Lib.hid (below_one' (B := w.heap.size) (w := w) (madeV S.length) (Nat.le_refl _))
  have hg' := Lib.hid hg
  have hv' := Lib.hid hv
  clear hg hv
  go_enter Tryz.func36, Tryz.ntmps36
  go_wp2_with fail
  refine (hlen.out _ hg'.out).mono ?_
  rintro e w' ⟨rfl, rfl⟩
  go_wp2_with fail
  refine (hlen.out _ (hg'.out.later hbm.out)).mono ?_
  rintro e w' ⟨rfl, rfl⟩
  go_wp2_with fail
  clear hmk hlen
  go_loopw [3, 10] (fun u i wr => ∃ j : Nat, i = .int .i64 j ∧ j ≤ S.length ∧ Vals wr w.heap.size u (S.take j) ∧ Below w.heap.size w wr) (fun _ i _ => S.length - (intOf i).toNat)
  case atStart => exact ⟨0, rfl, Nat.zero_le _, hmv.out, hbm.out⟩
  case round =>
    obtain ⟨j, rfl, hj, ho, hb⟩ := hrel
    obtain ⟨Au, cu, hue⟩ := ho.shape
    rw [show (S.take j).length = j by simp; omega] at hue
    subst hue
    by_cases hlt : j < S.length
    · obtain ⟨b, cap, p, h, hbl, hB, hc, hcell, hfr, hp⟩ := hv'.out.at_ hlt
      simp only [Value.slice.injEq, true_and] at h
      obtain ⟨rfl, rfl⟩ := h
      obtain ⟨s, hs⟩ : ∃ s, S[j] = s := ⟨_, rfl⟩
      rw [hs] at hp
      have hsok := hok s (hs ▸ List.getElem_mem _)
      have htk := Lib.hid (show S.take j ++ [s] = S.take (j + 1) by rw [List.take_succ_eq_append_getElem hlt, hs])
      have hlj : (S.take j).length ≤ 1000000 := by simp; omega
      have hix := Lib.hid (lindex_any g b S.length cp0 x y j p wr (hg'.out.later hb) hlt (by omega) ((hb.cell (p := ⟨b, j, none⟩) hbl).trans hcell))
      have hcall := Lib.hid (htl.out p s wr hsok (hp.kept (Kept.of_below hb)))
      have ho' := Lib.hid ho
      have hb' := Lib.hid hb
      clear ho hb hp hcell hfr hs
      go_wp2_with fail
      refine hix.out.mono ?_
      rintro e w' ⟨rfl, rfl⟩
      go_wp2_with fail
      refine hcall.out.mono ?_
      rintro e w5 ⟨⟨z, rfl, hz⟩, hb5⟩
      have hb5' := Lib.hid (hb'.out.trans (hb5.mono hb'.out.size))
      have ho5 := Lib.hid (ho'.out.later hb5)
      have hz' := Lib.hid hz
      clear hb5 hz
      unfold V6.arr
      go_wp2_with (at_builtin; refine wpList_sc (w0 := w) (B := w.heap.size) (y := z) (t := s) rfl _ _ rfl _ (S.take j) rfl ho5.out hb5'.out (Nat.le_refl _) hz'.out rfl hlj ?_; intro v4 w4 hv4 hb4)
      go_roundw
      case rel => exact ⟨j + 1, by go_num, by omega, hv4.eq htk.out, hb4⟩
      case measure => simp [intOf]; omega
    · obtain rfl : j = S.length := by omega
      have ho' := Lib.hid ho
      have hb' := Lib.hid hb
      clear ho hb
      go_wp2
      go_ret
      exact ⟨⟨_, rfl, ho'.out.eq List.take_length⟩, hb'.out⟩
end Go.Proofs.YtkflmgpigidkeaaGreat.Sc
