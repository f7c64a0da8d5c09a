/-
  Some texts with another one between: the statement's walk.
-/
import Derived.Test.YtkflmgpigidkeaaGreatJoinAsk
import Derived.Test.YtkflmgpigidkeaaGreatJoinCall
import Derived.Test.YtkflmgpigidkeaaGreatRemAscii
import Derived.Test.YtkflmgpigidkeaaGreatRegInv
import Derived.Deep.RegionWith
import Derived.Deep.DrawnRows
import Derived.Deep.DeepCutAuto
namespace Go.Proofs.YtkflmgpigidkeaaGreat.fnTextJoin
open Go.RowKit Go.WideShapes Go.Proofs.YtkflmgpigidkeaaGreat.Rem Go.Proofs.YtkflmgpigidkeaaGreat.Reg Go.Proofs.YtkflmgpigidkeaaGreat.VRow Go.Proofs.YtkflmgpigidkeaaGreat.Join Go.Proofs.YtkflmgpigidkeaaGreat.Strs
set_option linter.unusedVariables false

set_option maxRecDepth 100000 in
theorem fits_big (A : Option Addr) (n cp : Nat) (w : World) (h0 : 2147483647 < n) : Calls Tryz.prog 15 #[.slice A n cp] w fun e w' => e = .returned (.bool false) ∧ w = w' := by
  have h : (2147483647 : Int) < (n : Int) := by omega
  go_enter Tryz.func15, Tryz.ntmps15
  go_wp2
  go_ret
  exact ⟨rfl, rfl⟩

/-- 'append([]string{}, v...)' -/
theorem wpList_cut {ops : Array Oper} {rest : List Oper} {o : Oper} {a : Act} {Q : Exit → Act → World → Prop} {wr : World} {B : Nat} (hgd : o.guard = none) (s x : Operand)
    (ho : o.op = .call { callee := .builtin .append, args := #[s, x], argTypes := #[28, 28] })
    (hB : B ≤ wr.heap.size) (A : Option Addr) (M c : Nat) (k : List ByteArray) (hk : k.length = M) (hx : a.eval x = .slice A M c) (hn : A = none → M = 0 ∧ c = 0)
    (hr : RdStr (wr.alloc (.cells #[] 9)) A k)
    (hs : a.eval s = .slice (some ⟨wr.heap.size, 0, none⟩) 0 0) (hM : M ≤ 1000000000000)
    (h : ∀ v' w', OwnS w' B v' k → Below B wr w' → wpList Tryz.prog ops Q rest (a.put o.dst v') w') :
    wpList Tryz.prog ops Q (o :: rest) a (wr.alloc (.cells #[] 9)) := by
  obtain ⟨i0, hi, hz0, hz1, hz2⟩ := info_parts info_str
  have hlit : (wr.alloc (.cells #[] 9)).ownsRow B 9 1 (.slice (some ⟨wr.heap.size, 0, none⟩) 0 0) 0 [] :=
    World.ownsRow_lit (base := B) (e := 9) (size := 1) wr #[] 0 hB (by decide) (by simp)
  have hbl : Below B wr (wr.alloc (.cells #[] 9)) := (Below.refl _ _).alloc hB _
  cases A with
  | none =>
    obtain ⟨rfl, rfl⟩ := hn rfl
    obtain rfl : k = [] := List.eq_nil_of_length_eq_zero hk
    refine wpList_append_own_none hgd s x 28 ho B 9 i0 1 Tryz.underlying28 hi _ 0 [] hs hlit hx ?_
    exact h _ _ hlit hbl
  | some y =>
    subst hk
    refine wpList_append_own _ hgd s x 28 ho B 9 i0 (.string ⟨#[]⟩) 1 16 Tryz.underlying28 hi hz0 hz1 hz2 rfl (by decide) _ 0 [] hs hlit y k.length c (ss k) hx (by rw [ss_length, Nat.mul_one])
      ?_ ?_ (by unfold maxLen; omega) (by omega) (by simp; omega) ?_
    · intro j u hu
      simp only [ss, List.getElem?_map, Option.map_eq_some_iff] at hu
      obtain ⟨x, hx1, rfl⟩ := hu
      obtain ⟨hj, rfl⟩ := List.getElem?_eq_some_iff.1 hx1
      exact hr.2 y rfl j hj
    · intro u hu
      simp only [ss, List.mem_map] at hu
      obtain ⟨x, _, rfl⟩ := hu
      rfl
    · intro v' w' hown' hgr _
      refine h v' w' ?_ (hbl.grown hgr (by simp; omega) fun k hk => ?_)
      · unfold OwnS
        simpa using hown'
      · exact (World.ownsRow.lt hlit k hk).1
/-- a store into a row of strings -/
theorem OwnS.put {w : World} {B g n cap j : Nat} {l : List ByteArray} (h : OwnS w B (.slice (some ⟨g, 0, none⟩) n cap) l) (hn : n = l.length) (t : ByteArray) : OwnS (w.setCell ⟨g, j, none⟩ (.string t)) B (.slice (some ⟨g, 0, none⟩) n cap) (l.set j t) := by
  subst hn
  have h0 : w.ownsRow B 9 1 (.slice (some ⟨g, 0, none⟩) l.length cap) l.length (ss l) := h
  have := (World.ownsRow.stored h0 j (.string t)).1
  unfold OwnS
  rw [List.length_set]
  have e : ss (l.set j t) = (ss l).set j (.string t) := by simp [ss, List.map_set]
  rw [e]
  exact this
/-- what holds while the texts are laid into a value: the value's cells, the strings, the kids -/
structure Lay (w : World) (g6 M j : Nat) (vs : Value) (l' : List ByteArray) (kv : Value) (wr : World) : Prop where
  len : l'.length = M
  big : ∀ t ∈ l', t.size ≤ 2147483647
  small : ∀ t ∈ l'.take j, t.size ≤ 60
  own : OwnS wr (g6 + 1) vs l'
  t : Holds wr g6 27 #[.int .i64 7, .bool false, .slice none 0 0, .int .u64 0, .string ⟨#[]⟩, kv]
  kids : OwnV wr (g6 + 1) kv ((l'.take j).map tx)
  below : Below w.heap.size w wr
  base : w.heap.size ≤ g6
/-- 'append(v, x)' of one value, as a step of a region that draws -/
theorem step_v6 {ops : Array Oper} {o : Oper} {a : Act} {K : Act → World → Prop} {Q : Exit → Act → World → Prop} {E : Prop} {w0 wr : World} {B gb : Nat} (hgd : o.guard = none) (s x : Operand)
    (ho : o.op = .call { callee := .builtin .append, args := #[s, x], argTypes := #[25, 25] })
    (v : Value) (L : List V6) (hs : a.eval s = v) (hown : OwnV wr B v L) (hb : Below B w0 wr) (hB : B ≤ w0.heap.size) (t : V6) (ht : t.One) (hsrc : Holds wr gb 27 t.arr)
    (hx : a.eval x = .slice (some ⟨gb, 0, none⟩) 1 1) (hn : L.length ≤ 1000000000)
    (h : ∀ v' w', OwnV w' B v' (L ++ [t]) → Below B w0 w' → wr.grownBy w' v.ownBlock → K (a.put o.dst v') w') :
    if Region.wanted o (yielded ops a.tmps) = true then Oper.wp Tryz.prog o a wr K Q else E := by
  have hw : Region.wanted o (yielded ops a.tmps) = true := by simp [Region.wanted, hgd]
  rw [if_pos hw]
  exact wp_v6 s x ho v L hs hown hb hB t ht hsrc hx hn h
theorem take_set_succ {l : List ByteArray} {j : Nat} {t : ByteArray} (h : j < l.length) : (l.set j t).take (j + 1) = l.take j ++ [t] := by
  rw [List.take_succ_eq_append_getElem (by simpa using h)]
  simp [List.take_set_of_le]
theorem rows_apart {w : World} {B1 B2 g c n : Nat} {l : List ByteArray} {kv : Value} {L : List V6} (h1 : OwnS w B1 (.slice (some ⟨g, 0, none⟩) n c) l) (h2 : OwnV w B2 kv L) : some g ≠ kv.ownBlock := by
  rcases (show w.ownsRow B2 27 6 kv L.length (rows L) from h2).2 with ⟨rfl, _⟩ | ⟨g2, cap2, cur2, rfl, _, hg2, _⟩
  · simp [Value.ownBlock]
  · rcases (show w.ownsRow B1 9 1 _ l.length (ss l) from h1).2 with ⟨h, _⟩ | ⟨g1, cap1, cur1, e, _, hg1, _⟩
    · cases h
    · simp only [Value.slice.injEq, Option.some.injEq, Addr.mk.injEq, and_true] at e
      obtain ⟨rfl, -⟩ := e
      intro e2
      simp only [Value.ownBlock, Option.some.injEq] at e2
      subst e2
      rw [hg1] at hg2
      simp at hg2
/-- the world in which a text has been laid into its place -/
theorem Lay.mid {w wr w5 : World} {g6 M j g c : Nat} {l' : List ByteArray} {kv : Value} (h : Lay w g6 M j (.slice (some ⟨g, 0, none⟩) M c) l' kv wr) (hj : j < M) (t : ByteArray) (hb5 : Below wr.heap.size wr w5) :
    OwnS (w5.setCell ⟨g, j, none⟩ (.string t)).drew (g6 + 1) (.slice (some ⟨g, 0, none⟩) M c) (l'.set j t) ∧ Holds (w5.setCell ⟨g, j, none⟩ (.string t)).drew g6 27 #[.int .i64 7, .bool false, .slice none 0 0, .int .u64 0, .string ⟨#[]⟩, kv] ∧
    OwnV (w5.setCell ⟨g, j, none⟩ (.string t)).drew (g6 + 1) kv ((l'.take j).map tx) ∧ Below w.heap.size w (w5.setCell ⟨g, j, none⟩ (.string t)).drew ∧ (w5.setCell ⟨g, j, none⟩ (.string t)).drew.cell? ⟨g, j, none⟩ = some (.string t) ∧ g6 < g := by
  have hS := h.own.later hb5
  have hK := h.kids.later hb5
  have hne := rows_apart hS hK
  have hlM : M = l'.length := h.len.symm
  obtain ⟨g1, cap1, e, hg, hB, hc, hcs⟩ := hS.forms.resolve_left (by rintro ⟨_, rfl⟩; simp at hlM; omega)
  simp only [Value.slice.injEq, Option.some.injEq, Addr.mk.injEq, and_true] at e
  obtain ⟨rfl, -, rfl⟩ := e
  refine ⟨OwnS.put hS hlM t, (h.t.later hb5).apart (by show g6 ≠ g; omega) _, ?_, ?_, ?_, hB⟩
  · have := ownsRow_setCell_other (w := w5) (a := ⟨g, j, none⟩) hK (fun e => hne e.symm) (.string t)
    exact this
  · have hw : w.heap.size ≤ g := by have := h.t.lt; have h3 := h.base; omega
    have := (h.below.trans (hb5.mono h.below.size)).setCell (p := ⟨g, j, none⟩) hw (.string t)
    exact Below.drew this
  · show (w5.setCell ⟨g, j, none⟩ (.string t)).cell? ⟨g, j, none⟩ = _
    exact World.cell?_setCell_same _ _ _ (hcs j (by omega))
theorem Lay.step {w wr w5 w6 w' : World} {g6 M j g c : Nat} {l' : List ByteArray} {kv v' : Value} (h : Lay w g6 M j (.slice (some ⟨g, 0, none⟩) M c) l' kv wr) (hj : j < M) {t : ByteArray} (ht : t.size ≤ 60) (hb5 : Below wr.heap.size wr w5)
    (hb6 : Below (w5.setCell ⟨g, j, none⟩ (.string t)).drew.heap.size (w5.setCell ⟨g, j, none⟩ (.string t)).drew w6) (o : Obj) (hg : (w6.alloc o).grownBy w' kv.ownBlock) (hv : OwnV w' (g6 + 1) v' ((l'.take j).map tx ++ [tx t])) :
    Lay w g6 M (j + 1) (.slice (some ⟨g, 0, none⟩) M c) (l'.set j t) v' (w'.setCell ⟨g6, 5, none⟩ v') := by
  obtain ⟨m1, m2, m3, m4, m5, m6⟩ := h.mid hj t hb5
  have n1 := (m1.later hb6).later (below_one o (Nat.le_refl _))
  have n2 := (m2.later hb6).alloc o
  have n3 := (m3.later hb6).later (below_one o (Nat.le_refl _))
  have hne := rows_apart n1 n3
  have hlM : l'.length = M := h.len
  have hk6 : ∀ k, kv.ownBlock = some k → g6 + 1 ≤ k := fun k hk => (n3.lt k hk).1
  have h6 : some g6 ≠ kv.ownBlock := fun e => by have := hk6 g6 e.symm; omega
  have p1 : OwnS w' (g6 + 1) (.slice (some ⟨g, 0, none⟩) M c) (l'.set j t) := World.ownsRow.kept n1 hg (.inr hne)
  have p2 : Holds w' g6 27 _ := (hg.block g6 n2.lt h6).trans n2
  have hB : Below w.heap.size w w' := by
    have q := (m4.trans (hb6.mono m4.size)).alloc (Nat.le_trans m4.size hb6.size) o
    exact q.grown hg (Nat.le_trans (Nat.le_trans m4.size hb6.size) (by simp)) (fun k hk => Nat.le_trans h.base (Nat.le_of_succ_le (hk6 k hk)))
  refine ⟨by simpa using hlM, fun u hu => ?_, fun u hu => ?_, ?_, ?_, ?_, ?_, h.base⟩
  · rcases List.mem_or_eq_of_mem_set hu with hu | rfl
    · exact h.big u hu
    · omega
  · rw [take_set_succ (by omega), List.mem_append, List.mem_singleton] at hu
    rcases hu with hu | rfl
    · exact h.small u hu
    · exact ht
  · exact ownsRow_setCell_below p1 (by show g6 < g6 + 1; omega) v'
  · exact p2.put 5 v'
  · rw [take_set_succ (by omega), List.map_append]
    exact ownsRow_setCell_below hv (by show g6 < g6 + 1; omega) v'
  · exact hB.setCell (p := ⟨g6, 5, none⟩) h.base v'
set_option maxHeartbeats 1000000 in
set_option maxRecDepth 100000 in
theorem walk_small (a0 : ByteArray) (A : Option Addr) (l : List ByteArray) (cp : Nat) (w : World) (h0 : a0.size ≤ 2147483647) (hl : l.length ≤ 2147483647) (hf : fitsL l = true) (hsz : ∀ t ∈ l, t.size ≤ maxLen) (hr : RdStr w A l) (hA : ∀ x, A = some x → l ≠ [] → x.block < w.heap.size) (hcp : l.length ≤ cp) (hn : A = none → cp = 0) :
    Calls Tryz.prog 5 #[.string a0, .slice A l.length cp] w fun e w' => e = .returned (.bool true) ∧ Below w.heap.size w w' := by
  have hfit := Lib.hid (fits_any A l cp w hl hsz hr)
  rw [hf] at hfit
  have has := Lib.hid fun s W h => ascii_any s W h
  have hr' := Lib.hid hr
  have hf' := Lib.hid hf
  have hn' := Lib.hid hn
  clear hr hf hn hsz
  obtain ⟨M, hM, hM1, hM2⟩ : ∃ M : Nat, min (l.length : Int) 20 = M ∧ M ≤ 20 ∧ M ≤ l.length := ⟨min l.length 20, by omega, by omega, by omega⟩
  go_enter Tryz.func5, Tryz.ntmps5
  go_wp2_with fail
  refine hfit.out.mono ?_
  rintro e w' ⟨rfl, rfl⟩
  go_wp2_with fail
  refine (has.out _ _ h0).mono ?_
  rintro e w1 ⟨s, rfl, hs, hb1⟩
  have hcut := Lib.hid fun (wr : World) (hb : Below w.heap.size w wr) => show RdStr wr A (l.take M) from ⟨fun h => hr'.out.1 (by rintro rfl; simp at h), fun x hx j hj => by
    have hj' : j < l.length := by simp at hj; omega
    have h1 := (hr'.out.2 x hx j hj')
    rw [List.getElem_take]
    refine (hb.cell (p := x.add j) ?_).trans h1
    rw [show (x.add j).block = x.block by unfold Addr.add; split <;> rfl]
    exact hA x hx (by rintro rfl; simp at hj')⟩
  have hk := Holds.made w1 27 #[.int .i64 7, .bool false, .slice none 0 0, .int .u64 0, .string ⟨#[]⟩, .slice none 0 0]
  have hb2 : Below w.heap.size w (w1.alloc (.cells #[.int .i64 7, .bool false, .slice none 0 0, .int .u64 0, .string ⟨#[]⟩, .slice none 0 0] 27)) := hb1.alloc hb1.size _
  have hbig : ∀ t ∈ l.take M, t.size ≤ 2147483647 := by
    have := hf'.out
    unfold fitsL at this
    rw [List.all_eq_true] at this
    intro t ht
    simpa using this t (List.mem_of_mem_take ht)
  have hz2 : w1.heap.size + 1 = (w1.alloc (.cells #[.int .i64 7, .bool false, .slice none 0 0, .int .u64 0, .string ⟨#[]⟩, .slice none 0 0] 27)).heap.size := by simp
  have hM0 : A = none → M = 0 ∧ cp = 0 := fun h => by have := hn'.out h; omega
  have hlM : (l.take M).length = M := by simp; omega
  have hk' := Lib.hid hk
  have hb2' := Lib.hid hb2
  have hz2' := Lib.hid hz2
  have hbig' := Lib.hid hbig
  have hM0' := Lib.hid hM0
  have hlM' := Lib.hid hlM
  have hlit := Lib.hid (show Value.slice (some ⟨w1.heap.size + 1, 0, none⟩) 0 0 = .slice (some ⟨(w1.alloc (.cells #[.int .i64 7, .bool false, .slice none 0 0, .int .u64 0, .string ⟨#[]⟩, .slice none 0 0] 27)).heap.size, 0, none⟩) 0 0 from congrArg (fun n => Value.slice (some ⟨n, 0, none⟩) 0 0) hz2)
  have hrd := Lib.hid (hcut.out _ (hb2.alloc hb2.size (.cells #[] 9)))
  obtain ⟨k, hkk⟩ : ∃ k, l.take M = k := ⟨_, rfl⟩
  rw [hkk] at hrd hlM' hbig'
  clear hk hb2 hz2 hbig hM0 hlM hA hn' hf' hr' hfit hcut hkk
  have hb1' := Lib.hid hb1
  clear hb1
  go_wp2_with (at_builtin; refine wpList_cut (B := w1.heap.size + 1) rfl _ _ rfl (Nat.le_of_eq hz2'.out) A M cp k hlM'.out rfl hM0'.out hrd.out hlit.out (by omega) ?_; intro vs w4 hvs hbs; obtain ⟨A2, c2, hv5⟩ := hvs.shape; rw [hlM'.out] at hv5; subst hv5; have hvs' := Lib.hid hvs; have hbs' := Lib.hid hbs; clear hvs hbs)
  have hlay : Lay w w1.heap.size M 0 (.slice A2 M c2) k (.slice none 0 0) w4 := ⟨hlM'.out, hbig'.out, fun t ht => by simp at ht, hvs'.out, hk'.out.below hbs'.out (Nat.lt_succ_self _), OwnV.nil _ _, hb2'.out.trans (hbs'.out.mono (Nat.le_succ_of_le hb1'.out.size)), hb1'.out.size⟩
  have hlay' := Lib.hid hlay
  have htv := Lib.hid fun t W => textval_any t W
  unfold tv at htv
  clear hlay hvs' hbs' hk' hb2' hz2' hrd hlit hM0' hbig' hM
  go_loopw [33] (fun i wr => ∃ (j : Nat) (l' : List ByteArray) (kv : Value), i = .int .i64 j ∧ j ≤ M ∧ Lay w w1.heap.size M j (.slice A2 M c2) l' kv wr) (fun i _ => M - (intOf i).toNat)
  case atStart => exact ⟨0, k, _, rfl, Nat.zero_le _, hlay'.out⟩
  case round =>
    obtain ⟨j, l', kv, rfl, hj, hL⟩ := hrel
    clear hlay'
    by_cases hlt : j < M
    · have hlen := hL.len
      obtain ⟨g, cap, e, hg, hB, hc, hcs⟩ := hL.own.forms.resolve_left (by rintro ⟨_, rfl⟩; simp at hlen; omega)
      simp only [Value.slice.injEq] at e
      obtain ⟨rfl, -, rfl⟩ := e
      have hc0 := hcs j (by omega)
      have hf0 : wr.frozen? ⟨g, j, none⟩ = false := World.ownsRow.frozenAt (base := w1.heap.size + 1) (e := 9) (size := 1) (n := M) (cap := c2) (xs := ss l') (by have h9 := hL.own; unfold OwnS at h9; rwa [hlen] at h9) j
      obtain ⟨t0, ht0⟩ : ∃ t, l'[j] = t := ⟨_, rfl⟩
      rw [ht0] at hc0
      have hz0 := hL.big t0 (ht0 ▸ List.getElem_mem _)
      have hL' := Lib.hid hL
      clear hL hcs ht0 hlen
      go_wp2_with fail
      refine (has.out _ _ hz0).mono ?_
      rintro e w5 ⟨t, rfl, ht, hb5⟩
      have hb5' := Lib.hid hb5
      have hc5 := (hb5.cell (p := ⟨g, j, none⟩) hg).trans hc0
      have hf5 := (hb5.frozen (p := ⟨g, j, none⟩) hg).trans hf0
      have hg5 := Nat.lt_of_lt_of_le hg hb5.size
      clear hb5 hc0 hf0 hg
      obtain ⟨m1, m2, m3, m4, m5, m6⟩ := hL'.out.mid hlt t hb5'.out
      have q5 := m2.cell 5
      have r5 := m2.free 5
      have s5 := m2.lt
      simp at q5
      have m1' := Lib.hid m1
      have m2' := Lib.hid m2
      have m3' := Lib.hid m3
      have m4' := Lib.hid m4
      clear m1 m2 m3 m4
      go_wp2_with fail
      obtain ⟨W, hW⟩ : ∃ W, w5.setCell ⟨g, j, none⟩ (.string t) = W := ⟨_, rfl⟩
      have hst := Lib.hid fun w6 w' v' o hb6 hg hv => Lay.step hL'.out hlt ht hb5'.out (w6 := w6) (w' := w') (v' := v') hb6 o hg hv
      rw [hW] at q5 r5 s5 m1' m2' m3' m4' m5 hst ⊢
      have q5' : W.cell? ⟨w1.heap.size, 5, none⟩ = some kv := q5
      have r5' : W.frozen? ⟨w1.heap.size, 5, none⟩ = false := r5
      have c5' : W.cell? ⟨g, j, none⟩ = some (.string t) := m5
      have s5' : w1.heap.size < W.heap.size := s5
      have hgW : g < W.heap.size := by rw [← hW]; simpa using hg5
      have hlj : ((l'.take j).map tx).length ≤ 1000000000 := by simp; omega
      have hpost := Lib.hid (show ∀ w6 w' v', Below W.drew.heap.size W.drew w6 → OwnV w' (w1.heap.size + 1) v' ((l'.take j).map tx ++ [tx t]) → Below (w1.heap.size + 1) (w6.alloc (.cells (tx t).arr 27)) w' → (w6.alloc (.cells (tx t).arr 27)).grownBy w' kv.ownBlock →
          (∃ a n c, v' = .slice a n c) ∧ w'.cell? ⟨w1.heap.size, 5, none⟩ = some kv ∧ w'.frozen? ⟨w1.heap.size, 5, none⟩ = false ∧ w1.heap.size < w'.heap.size ∧ Hid (Lay w w1.heap.size M (j + 1) (.slice (some ⟨g, 0, none⟩) M c2) (l'.set j t) v' (w'.setCell ⟨w1.heap.size, 5, none⟩ v')) from by
        intro w6 w' v' hb6 hv' hbv hgr
        have s6 : w1.heap.size < w6.heap.size := Nat.lt_of_lt_of_le s5' hb6.size
        have s9 : w1.heap.size < (w6.alloc (.cells (tx t).arr 27)).heap.size := by rw [World.size_alloc]; exact Nat.lt_succ_of_lt s6
        refine ⟨by obtain ⟨a, c, h⟩ := hv'.shape; exact ⟨_, _, _, h⟩, (hbv.cell (p := ⟨w1.heap.size, 5, none⟩) (Nat.lt_succ_self _)).trans ((World.cell?_alloc_lt w6 _ _ s6).trans ((hb6.cell (p := ⟨w1.heap.size, 5, none⟩) s5').trans q5')), (hbv.frozen (p := ⟨w1.heap.size, 5, none⟩) (Nat.lt_succ_self _)).trans ((World.frozen?_alloc_past _ _ _ s6).trans ((hb6.frozen (p := ⟨w1.heap.size, 5, none⟩) s5').trans r5')), Nat.lt_of_lt_of_le s9 hbv.size, Lib.hid (hst.out _ _ _ _ hb6 hgr hv')⟩)
      clear q5 r5 s5 m5 hW hc5 hf5 hg5 hb5' hL'
      go_region_law (first
        | (go_simp; go_at_call 10; refine (htv.out _ _).mono ?_; rintro e w6 ⟨rfl, hb6⟩; have q6 := (hb6.cell (p := ⟨w1.heap.size, 5, none⟩) s5').trans q5'; have r6 := (hb6.frozen (p := ⟨w1.heap.size, 5, none⟩) s5').trans r5'; have c6 := (hb6.cell (p := ⟨g, j, none⟩) hgW).trans c5'; have s6 := Nat.lt_of_lt_of_le s5' hb6.size; have hb6' := Lib.hid hb6; have s9 : w1.heap.size < (w6.alloc (.cells (tx t).arr 27)).heap.size := (by rw [World.size_alloc]; exact Nat.lt_succ_of_lt s6); clear hb6)
        | (refine step_v6 (w0 := w6.alloc (.cells (tx t).arr 27)) (B := w1.heap.size + 1) (gb := w6.heap.size) rfl _ _ rfl kv ((l'.take j).map tx) rfl ((m3'.out.later hb6'.out).later (below_one _ (Nat.le_refl _))) (Below.refl _ _) s9 (tx t) (tx_one t) (Holds.made _ _ _) rfl hlj ?_; intro v' w' hv' hbv hgr; obtain ⟨⟨A7, n7, c7, rfl⟩, q7, r7, s7, hfin⟩ := hpost.out w6 w' v' hb6'.out hv' hbv hgr; clear hv' hbv hgr))
      all_goals
        go_wp2
        go_roundw
        case rel => exact ⟨j + 1, _, _, by go_num, by omega, hfin.out⟩
        case measure => simp [intOf]; omega
    · obtain rfl : j = M := by omega
      have hlen := hL.len
      have hsm := hL.small
      have hkd := hL.kids
      rw [show l'.take j = l' from by rw [← hlen, List.take_length]] at hsm hkd
      have q6 := hL.t
      obtain ⟨p0, p1, p2, p3, p4, p5, pl, -⟩ := val_facts q6
      have hj20 : l'.length ≤ 20 := by omega
      have hask := Lib.hid fun W hv hg => asked_join s kv l' (w1.heap.size + 1) wr.heap.size 1 W hs hj20 hsm hv hg
      have htj := Lib.hid fun W h => tjoin_any s (.slice A2 j c2) l' (w1.heap.size + 1) W hs hj20 hsm h
      obtain ⟨R, hR⟩ : ∃ R, joinB s l' = R := ⟨_, rfl⟩
      rw [hR] at hask htj
      unfold tv at hask
      have hask' := Lib.hid (hask.out (wr.alloc (.cells #[.int .i64 7, .bool false, .slice none 0 0, .int .u64 0, .string ⟨#[]⟩, kv] 27)) (hkd.later (below_one _ (Nat.le_refl _))) (Holds.made _ _ _))
      obtain ⟨ka, kn, kc, rfl⟩ : ∃ a n c, kv = .slice a n c := by obtain ⟨a, c, h⟩ := hkd.shape; exact ⟨_, _, _, h⟩
      have hown := Lib.hid (hL.own.later (below_one (.cells #[.int .i64 7, .bool false, .slice none 0 0, .int .u64 0, .string ⟨#[]⟩, .slice ka kn kc] 27) (Nat.le_refl _)))
      have hbl := Lib.hid (hL.below.alloc hL.below.size (.cells #[.int .i64 7, .bool false, .slice none 0 0, .int .u64 0, .string ⟨#[]⟩, .slice ka kn kc] 27))
      clear hL hlen hsm hkd hR hask q6
      go_wp2_with fail
      refine hask'.out.mono ?_
      rintro e w7 ⟨rfl, hb7⟩
      have hb7' := Lib.hid (hbl.out.trans (hb7.mono hbl.out.size))
      have hown7 := Lib.hid ((hown.out.later hb7).later (below_one (.cells #[.int .i64 4, .bool false, .slice none 0 0, .int .u64 0, .string R, .slice none 0 0] 27) (Nat.le_refl _)))
      clear hb7 hask' hown hbl p0 p1 p2 p3 p4 p5
      go_wp2_with fail
      refine (htj.out _ hown7.out).mono ?_
      rintro e w9 ⟨rfl, hb9⟩
      have c4 : w9.cell? ⟨w7.heap.size, 4, none⟩ = some (.string R) := (hb9.cell (p := ⟨w7.heap.size, 4, none⟩) (by simp)).trans (by rw [World.cell?_alloc_at _ _ _ _ rfl]; rfl)
      have hfin := Lib.hid ((hb7'.out.alloc hb7'.out.size _).trans (hb9.mono (Nat.le_trans hb7'.out.size (by simp))))
      clear hb9 hb7' hown7 htj
      go_wp2
      go_ret
      exact ⟨rfl, hfin.out⟩
/-- a row of strings that came in -/
structure StrIn (w : World) (A : Option Addr) (l : List ByteArray) (cp : Nat) : Prop where
  rd : RdStr w A l
  lt : ∀ x, A = some x → l ≠ [] → x.block < w.heap.size
  cap : l.length ≤ cp
  nil : A = none → cp = 0
  sz : ∀ t ∈ l, t.size ≤ maxLen
set_option maxRecDepth 100000 in
theorem walk (a0 : ByteArray) (A : Option Addr) (l : List ByteArray) (cp : Nat) (w : World) (h : StrIn w A l cp) :
    Calls Tryz.prog 5 #[.string a0, .slice A l.length cp] w fun e w' => e = .returned (.bool true) ∧ Below w.heap.size w w' := by
  by_cases h0 : a0.size ≤ 2147483647
  · by_cases hl : l.length ≤ 2147483647
    · cases hf : fitsL l
      · have hfit := Lib.hid (fits_any A l cp w hl h.sz h.rd)
        rw [hf] at hfit
        clear hf h
        go_enter Tryz.func5, Tryz.ntmps5
        go_wp2_with fail
        refine hfit.out.mono ?_
        rintro e w' ⟨rfl, rfl⟩
        go_wp2
        go_ret
        exact ⟨rfl, Below.refl _ _⟩
      · exact walk_small a0 A l cp w h0 hl hf h.sz h.rd h.lt h.cap h.nil
    · have hfit := Lib.hid (fits_big A l.length cp w (by omega))
      clear h
      go_enter Tryz.func5, Tryz.ntmps5
      go_wp2_with fail
      refine hfit.out.mono ?_
      rintro e w' ⟨rfl, rfl⟩
      go_wp2
      go_ret
      exact ⟨rfl, Below.refl _ _⟩
  · have hb : (2147483647 : Int) < (a0.size : Int) := by omega
    clear h
    go_enter Tryz.func5, Tryz.ntmps5
    go_wp2
    go_ret
    exact ⟨rfl, Below.refl _ _⟩
end Go.Proofs.YtkflmgpigidkeaaGreat.fnTextJoin
