/-
  The last element first: the package's function, walked.
-/
import Derived.Test.YtkflmgpigidkeaaGreatRevCode
import Derived.Test.YtkflmgpigidkeaaGreatRegFix
namespace Go.Proofs.YtkflmgpigidkeaaGreat.Rev
open Go.RowKit Go.WideShapes Go.Proofs.YtkflmgpigidkeaaGreat Go.Proofs.YtkflmgpigidkeaaGreat.Sc
set_option linter.unusedVariables false

/-- the slots, the values and the worlds of the exchange -/
def swDst (i : Nat) : Option Tmp := if i ≤ 18 then some (52 + i) else if i = 20 then some 71 else none
def swVal (b co n j m : Nat) (x1 x2 : Value) (i : Nat) : Value :=
  (#[.slice (some ⟨b, 0, none⟩) n co, .int .i64 j, .slice (some ⟨b, 0, none⟩) n co, .int .i64 n, .int .i64 ((n : Int) - 1), .int .i64 j, .int .i64 m, .slice (some ⟨b, 0, none⟩) n co, .int .i64 n, .int .i64 ((n : Int) - 1), .int .i64 j, .int .i64 m, .pointer (some ⟨b, m, none⟩), x2,
    .slice (some ⟨b, 0, none⟩) n co, .int .i64 j, .pointer (some ⟨b, j, none⟩), x1, .pointer (some ⟨b, j, none⟩), undef, .pointer (some ⟨b, m, none⟩), undef] : Array Value).getD i undef
def swWld (a b c : World) (f : Nat → Bool) : World := if f 21 then c else if f 19 then b else a
theorem swDst_cases {j : Nat} {d : Tmp} (h : swDst j = some d) : (j ≤ 18 ∧ d = 52 + j) ∨ (j = 20 ∧ d = 71) := by
  unfold swDst at h
  by_cases h1 : j ≤ 18
  · rw [if_pos h1] at h
    exact .inl ⟨h1, (Option.some.inj h).symm⟩
  · rw [if_neg h1] at h
    by_cases h2 : j = 20
    · rw [if_pos h2] at h
      exact .inr ⟨h2, (Option.some.inj h).symm⟩
    · rw [if_neg h2] at h
      cases h
theorem swDst_inj : ∀ j k d, swDst j = some d → swDst k = some d → j = k := by
  intro j k d h1 h2
  rcases swDst_cases h1 with ⟨a1, a2⟩ | ⟨a1, a2⟩ <;> rcases swDst_cases h2 with ⟨b1, b2⟩ | ⟨b1, b2⟩ <;> rw [a2] at b2 <;> simp only [Tmp] at b2 <;> omega
theorem swDst_lt {j : Nat} {d : Tmp} (h : swDst j = some d) : d < 75 := by
  rcases swDst_cases h with ⟨a1, a2⟩ | ⟨a1, a2⟩ <;> rw [a2] <;> (try (show 52 + j < 75; omega)) <;> (show (71 : Nat) < 75; omega)
theorem swDst_ge {j : Nat} {d k : Tmp} (h : swDst j = some d) (hk : (show Nat from k) < 52) : d ≠ k := by
  rintro rfl
  rcases swDst_cases h with ⟨a1, a2⟩ | ⟨a1, a2⟩
  · rw [a2] at hk
    have : 52 + j < 52 := hk
    omega
  · rw [a2] at hk
    have : (71 : Nat) < 52 := hk
    omega
theorem at_tmp {a : Act} {k : Nat} {v : Value} (h : a.eval (.tmp k) = v) : a.tmps[k]?.getD undef = v := by
  simpa [Act.eval, Array.getD_eq_getD_getElem?] using h
theorem swNo (a b c : World) (f : Nat → Bool) (i : Nat) (h1 : i ≠ 21) (h2 : i ≠ 19) : swWld a b c (fun k => decide (k = i) || f k) = swWld a b c f := by
  unfold swWld
  have e1 : decide (21 = i) = false := by simp; omega
  have e2 : decide (19 = i) = false := by simp; omega
  simp [e1, e2]
set_option maxHeartbeats 2000000 in
set_option maxRecDepth 100000 in
theorem rev_any (g B0 ga c : Nat) (v : Value) (S : List Sc) (w : World) (hg : Box.Holds w g 142 #[v, .bool false, .int .u32 0]) (hv : Pvals w B0 v S) (hl : S.length ≤ 1000) (hx : w.cell? ⟨ga, 0, none⟩ = some (.iface 73 (.pointer (some ⟨g, 0, none⟩)))) (hga : ga < w.heap.size) (hne : g ≠ ga) :
    Calls Tryz.prog 79 #[.pointer none, .pointer none, .slice (some ⟨ga, 0, none⟩) 1 c, .slice none 0 0] w (RevList g w S.reverse) := by
  have m1 := m_iterate
  have m2 := m_next
  have m3 := m_done
  have ht := Lib.hid fun nm => take_iter nm (.pointer (some ⟨g, 0, none⟩)) ga c w hx hga
  obtain ⟨A0, cp0, rfl⟩ := hv.shape
  have hg' := Lib.hid hg
  have hv' := Lib.hid hv
  have hx' := Lib.hid hx
  clear hg hx hv
  go_enter_defers Tryz.func79, Tryz.ntmps79
  go_wp2_with fail
  refine (ht.out _).mono ?_
  rintro e w1 ⟨rfl, k0, hl1, hbe⟩
  have hg1 := hg'.out.later hbe
  have hv1 := hv'.out.later hbe
  have hx1 := (hbe.cell (p := ⟨ga, 0, none⟩) hga).trans hx'.out
  have hit := Lib.hid (iterate_any g _ 0 (by decide) w1 hg1)
  obtain ⟨W1, hW1⟩ : ∃ W, w1.setCell ⟨g, 2, none⟩ (.int .u32 1) = W := ⟨_, rfl⟩
  have hB : Base g B0 (.slice A0 S.length cp0) S W1 := by
    rw [← hW1]
    exact ⟨hg1.put 2 _, hv1.setCell (p := ⟨g, 2, none⟩) hg1 rfl (hv1.ne hg1 (by decide)) _, hl⟩
  have hsz1 : W1.heap.size = w1.heap.size := by rw [← hW1]; simp
  have hxW : W1.cell? ⟨ga, 0, none⟩ = some (.iface 73 (.pointer (some ⟨g, 0, none⟩))) := by
    rw [← hW1, World.cell?_setCell_other _ _ _ _ (fun e => hne (congrArg Addr.block e))]; exact hx1
  have hbW : Below g w W1 := by
    rw [← hW1]
    exact (hbe.mono (Nat.le_of_lt hg'.out.lt)).setCell (p := ⟨g, 2, none⟩) (Nat.le_refl _) _
  rw [show (((0 : Nat) : Int) + 1) = 1 from rfl, hW1] at hit
  have hszw := hbe.size
  go_wp2_with fail
  refine hit.out.mono ?_
  rintro e w2 ⟨rfl, rfl⟩
  have hlc := Lib.hid (len_any g A0 S.length cp0 _ _ _ (hB.hg.alloc (.cells #[.pointer (some ⟨g, 0, none⟩), .int .i64 0] 218)))
  have hst := Lib.hid (LR.start hB)
  have hxW2 : (W1.alloc (.cells #[.pointer (some ⟨g, 0, none⟩), .int .i64 0] 218)).cell? ⟨ga, 0, none⟩ = some (.iface 73 (.pointer (some ⟨g, 0, none⟩))) := by
    rw [World.cell?_alloc_lt _ _ _ (by show ga < _; omega)]; exact hxW
  have hmk := fun W => run_mkpvs S.length (by omega) W
  rw [← hsz1]
  clear hg1 hv1 hx1 hit hW1 hxW k0
  have hB' := Lib.hid hB
  have hbW' := Lib.hid hbW
  have hbe' := Lib.hid hbe
  have hszW : w.heap.size ≤ W1.heap.size := by omega
  clear hB hbW hbe hsz1
  go_wp2_with fail
  refine hlc.out.mono ?_
  rintro e w' ⟨rfl, rfl⟩
  go_wp2_with fail
  clear hmk hxW2 hlc
  go_loopw [13] (fun o wr => ∃ k : Nat, k ≤ S.length ∧ Hid (LR g S k o W1 wr)) (fun _ wr => match wr.cell? ⟨W1.heap.size, 1, none⟩ with | some (.int _ n) => S.length - n.toNat | _ => 0)
  case atStart => exact ⟨0, Nat.zero_le _, hst⟩
  case round =>
    clear hst
    obtain ⟨k, hk, hR⟩ := hrel
    obtain ⟨Ao, co, hoe⟩ := hR.out.got.shape
    rw [show (S.take k).length = k by simp; omega] at hoe
    subst hoe
    by_cases hlt : k < S.length
    · have hn := Lib.hid (hR.out.next hB'.out hlt)
      have hold := Lib.hid (hR.out.it.cell 1)
      clear hR
      go_wp2_with fail
      refine hn.out.mono ?_
      rintro e w2 ⟨rfl, p, hM⟩
      have hM' := Lib.hid hM
      obtain ⟨hk9, hp⟩ := hM.pv
      obtain ⟨pt, pq, rfl⟩ := hp.form
      have x0 : w2.cell? ⟨W1.heap.size + 1 + 1, 0, none⟩ = some (.iface pt pq) := hM.var.cell 0
      have hxl : W1.heap.size + 1 + 1 < w2.heap.size := hM.var.lt
      have hp' := Lib.hid (show IsPv w2 (.iface pt pq) (S.getD k .none) from by rw [show S.getD k .none = S[k] by simp [List.getD, List.getElem?_eq_getElem hlt]]; exact hp)
      have hgot := Lib.hid hM.got
      have hlj : (S.take k).length ≤ 1000000 := by simp; omega
      have hN1 : W1.heap.size + 1 ≤ w2.heap.size := by omega
      clear hM hp hn
      go_wp2_with (at_builtin; refine wpList_pv2 (B := W1.heap.size + 1) (y := .iface pt pq) (t := S.getD k .none) rfl _ _ rfl _ (S.take k) rfl hgot.out hN1 hp'.out rfl hlj ?_; intro v4 w4 hv4 hb4 ho4 hk4)
      have hfin := Lib.hid (hM'.out.done hv4 hb4 ho4 hk4)
      clear hv4 hb4 ho4 hk4 hM' hgot hp'
      go_roundw
      case rel => exact ⟨k + 1, by omega, hfin⟩
      case measure =>
        have h1 := hfin.out.it.cell 1
        have h0 := hold.out
        simp at h0 h1
        simp only [h0, h1]
        omega
    · obtain rfl : k = S.length := by omega
      have hn := Lib.hid (hR.out.stop hB'.out (Nat.le_refl _) hl)
      have hR' := Lib.hid hR.out
      clear hR
      go_wp2_with fail
      refine hn.out.mono ?_
      rintro e w2 ⟨rfl, q, rfl⟩
      have hst := Lib.hid (SW.start hR'.out q)
      clear hR' hn
      go_wp2_with fail
      go_loopw [17] (fun i wr => ∃ j : Nat, i = .int .i64 j ∧ 2 * j ≤ S.length ∧ Hid (SW g S j (.slice Ao S.length co) W1 wr)) (fun i _ => S.length - (intOf i).toNat)
      case atStart => exact ⟨0, rfl, by omega, hst⟩
      case round =>
        clear hst
        obtain ⟨j, rfl, hj, hR⟩ := hrel
        by_cases hlt : 2 * j + 1 < S.length
        · have hd : decide ((j : Int) < (S.length : Int) / 2) = true := by simp; omega
          obtain ⟨m, hm⟩ : ∃ m, S.length - 1 - j = m := ⟨_, rfl⟩
          have hmz : (S.length : Int) - 1 - (j : Int) = (m : Int) := by omega
          have hmj : m ≠ j := by omega
          obtain ⟨b, cap, x1, h1, hbl, hB1, hc, c1, f1, p1⟩ := hR.out.got.at_ (j := j) (by rw [swp_length]; omega)
          obtain ⟨b', cap', x2, h2, -, -, -, c2, f2, p2⟩ := hR.out.got.at_ (j := m) (by rw [swp_length]; omega)
          rw [swp_length] at h1 h2
          simp only [Value.slice.injEq, true_and] at h1 h2
          obtain ⟨rfl, rfl⟩ := h1
          obtain ⟨h2, -⟩ := h2
          simp only [Option.some.injEq, Addr.mk.injEq, and_true] at h2
          subst h2
          rw [swp_get S j j (by omega), if_neg (by omega)] at p1
          rw [swp_get S j m (by omega), if_neg (by omega)] at p2
          obtain ⟨t1, u1, rfl⟩ := p1.form
          obtain ⟨t2, u2, rfl⟩ := p2.form
          have hfin := Lib.hid (hR.out.step hm hlt hB1 p1 p2)
          have c2' : (wr.setCell ⟨b, j, none⟩ (.iface t2 u2)).cell? ⟨b, m, none⟩ = some (.iface t2 u2) := by
            rw [World.cell?_setCell_other _ _ _ _ (fun e => hmj (congrArg Addr.off e).symm)]; exact c2
          have f2' : (wr.setCell ⟨b, j, none⟩ (.iface t2 u2)).frozen? ⟨b, m, none⟩ = false := by simpa using f2
          have hj1 : (j : Int) < (S.length : Int) := by omega
          have hm1 : (m : Int) < (S.length : Int) := by omega
          have hmn : m < S.length := by omega
          have hjn : j < S.length := by omega
          clear p1 p2 hR m1 m2 m3 ht hg' hv' hx' hbW' hbe' hB' hmj hm
          go_wp2_with fail
          refine Reg.via (Reg.fill swDst (swVal b co S.length j m (.iface t1 u1) (.iface t2 u2)) 22) (fun a0 => a0.tmps.size = 75 ∧ a0.eval (.tmp 13) = .slice (some ⟨b, 0, none⟩) S.length co ∧ a0.eval (.tmp 16) = .int .i64 S.length ∧ a0.eval (.tmp 17) = .int .i64 j) ⟨rfl, rfl, rfl, rfl⟩ (W2 := ((wr.setCell ⟨b, j, none⟩ (.iface t2 u2)).setCell ⟨b, m, none⟩ (.iface t1 u1)).drew) ?h1 ?h2
          case h1 =>
            go_light
            clear hfin hl1 hszw hszW hga hne hd hj
            rintro a0 Q' ⟨z, e13, e16, e17⟩ hQ
            have hw1 : IntKind.i64.wrap ((S.length : Int) - 1) = (S.length : Int) - 1 := IntWalk.i64_in _ (by omega)
            have hw2 : IntKind.i64.wrap ((S.length : Int) - 1 - (j : Int)) = (m : Int) := by rw [hmz]; exact IntWalk.i64_in _ (by omega)
            clear hmz hlt
            have b13 : ∀ a' f, Reg.Held a0 swDst (swVal b co S.length j m (.iface t1 u1) (.iface t2 u2)) f a' → a'.eval (.tmp 13) = .slice (some ⟨b, 0, none⟩) S.length co := fun a' f hH => (hH.rest 13 fun k d _ hd => swDst_ge hd (by decide)).trans e13
            have b16 : ∀ a' f, Reg.Held a0 swDst (swVal b co S.length j m (.iface t1 u1) (.iface t2 u2)) f a' → a'.eval (.tmp 16) = .int .i64 S.length := fun a' f hH => (hH.rest 16 fun k d _ hd => swDst_ge hd (by decide)).trans e16
            have b17 : ∀ a' f, Reg.Held a0 swDst (swVal b co S.length j m (.iface t1 u1) (.iface t2 u2)) f a' → a'.eval (.tmp 17) = .int .i64 j := fun a' f hH => (hH.rest 17 fun k d _ hd => swDst_ge hd (by decide)).trans e17
            refine Reg.wp_region_fix (by kernel_rfl) (by decide +kernel) 22 rfl swDst (swVal b co S.length j m (.iface t1 u1) (.iface t2 u2)) (swWld wr.drew (wr.drew.setCell ⟨b, j, none⟩ (.iface t2 u2)) ((wr.drew.setCell ⟨b, j, none⟩ (.iface t2 u2)).setCell ⟨b, m, none⟩ (.iface t1 u1))) rfl ?hops swDst_inj (fun k d hd => by rw [z]; exact swDst_lt hd) ?hstep ?hwe hQ
            case hops =>
              intro i o ho
              have hi : i < 22 := (Array.getElem?_eq_some_iff.1 ho).1
              have hcs : i = 0 ∨ i = 1 ∨ i = 2 ∨ i = 3 ∨ i = 4 ∨ i = 5 ∨ i = 6 ∨ i = 7 ∨ i = 8 ∨ i = 9 ∨ i = 10 ∨ i = 11 ∨ i = 12 ∨ i = 13 ∨ i = 14 ∨ i = 15 ∨ i = 16 ∨ i = 17 ∨ i = 18 ∨ i = 19 ∨ i = 20 ∨ i = 21 := by omega
              rcases hcs with rfl | rfl | rfl | rfl | rfl | rfl | rfl | rfl | rfl | rfl | rfl | rfl | rfl | rfl | rfl | rfl | rfl | rfl | rfl | rfl | rfl | rfl
              all_goals
                obtain rfl := Option.some.inj ho
                exact ⟨rfl, rfl⟩
            case hwe => rfl
            case hstep =>
            intro f a' i o hi ho hun hcl hdep hH
            have hcs : i = 0 ∨ i = 1 ∨ i = 2 ∨ i = 3 ∨ i = 4 ∨ i = 5 ∨ i = 6 ∨ i = 7 ∨ i = 8 ∨ i = 9 ∨ i = 10 ∨ i = 11 ∨ i = 12 ∨ i = 13 ∨ i = 14 ∨ i = 15 ∨ i = 16 ∨ i = 17 ∨ i = 18 ∨ i = 19 ∨ i = 20 ∨ i = 21 := by omega
            clear hQ
            rcases hcs with rfl | rfl | rfl | rfl | rfl | rfl | rfl | rfl | rfl | rfl | rfl | rfl | rfl | rfl | rfl | rfl | rfl | rfl | rfl | rfl | rfl | rfl
            · obtain rfl := Option.some.inj ho
              have g := at_tmp (b13 a' f hH)
              refine ⟨.value (.slice (some ⟨b, 0, none⟩) S.length co), ?_, .inl rfl⟩
              rw [swNo _ _ _ f 0 (by decide) (by decide)]
              generalize swWld _ _ _ f = Wx
              go_simp
            · obtain rfl := Option.some.inj ho
              have g := at_tmp (b17 a' f hH)
              refine ⟨.value (.int .i64 j), ?_, .inl rfl⟩
              rw [swNo _ _ _ f 1 (by decide) (by decide)]
              generalize swWld _ _ _ f = Wx
              go_simp
            · obtain rfl := Option.some.inj ho
              have g := at_tmp (b13 a' f hH)
              refine ⟨.value (.slice (some ⟨b, 0, none⟩) S.length co), ?_, .inl rfl⟩
              rw [swNo _ _ _ f 2 (by decide) (by decide)]
              generalize swWld _ _ _ f = Wx
              go_simp
            · obtain rfl := Option.some.inj ho
              have g := at_tmp (b16 a' f hH)
              refine ⟨.value (.int .i64 S.length), ?_, .inl rfl⟩
              rw [swNo _ _ _ f 3 (by decide) (by decide)]
              generalize swWld _ _ _ f = Wx
              go_simp
            · obtain rfl := Option.some.inj ho
              have g3 : a'.tmps[55]?.getD undef = .int .i64 S.length := at_tmp (hH.got 3 55 (hdep { on := 3, ground := .data } (by simp) rfl) rfl)
              refine ⟨.value (.int .i64 ((S.length : Int) - 1)), ?_, .inl rfl⟩
              rw [swNo _ _ _ f 4 (by decide) (by decide)]
              generalize swWld _ _ _ f = Wx
              go_simp
            · obtain rfl := Option.some.inj ho
              have g := at_tmp (b17 a' f hH)
              refine ⟨.value (.int .i64 j), ?_, .inl rfl⟩
              rw [swNo _ _ _ f 5 (by decide) (by decide)]
              generalize swWld _ _ _ f = Wx
              go_simp
            · obtain rfl := Option.some.inj ho
              have g4 : a'.tmps[56]?.getD undef = .int .i64 ((S.length : Int) - 1) := at_tmp (hH.got 4 56 (hdep { on := 4, ground := .data } (by simp) rfl) rfl)
              have g5 : a'.tmps[57]?.getD undef = .int .i64 j := at_tmp (hH.got 5 57 (hdep { on := 5, ground := .data } (by simp) rfl) rfl)
              refine ⟨.value (.int .i64 m), ?_, .inl rfl⟩
              rw [swNo _ _ _ f 6 (by decide) (by decide)]
              generalize swWld _ _ _ f = Wx
              go_simp
            · obtain rfl := Option.some.inj ho
              have g := at_tmp (b13 a' f hH)
              refine ⟨.value (.slice (some ⟨b, 0, none⟩) S.length co), ?_, .inl rfl⟩
              rw [swNo _ _ _ f 7 (by decide) (by decide)]
              generalize swWld _ _ _ f = Wx
              go_simp
            · obtain rfl := Option.some.inj ho
              have g := at_tmp (b16 a' f hH)
              refine ⟨.value (.int .i64 S.length), ?_, .inl rfl⟩
              rw [swNo _ _ _ f 8 (by decide) (by decide)]
              generalize swWld _ _ _ f = Wx
              go_simp
            · obtain rfl := Option.some.inj ho
              have g8 : a'.tmps[60]?.getD undef = .int .i64 S.length := at_tmp (hH.got 8 60 (hdep { on := 8, ground := .data } (by simp) rfl) rfl)
              refine ⟨.value (.int .i64 ((S.length : Int) - 1)), ?_, .inl rfl⟩
              rw [swNo _ _ _ f 9 (by decide) (by decide)]
              generalize swWld _ _ _ f = Wx
              go_simp
            · obtain rfl := Option.some.inj ho
              have g := at_tmp (b17 a' f hH)
              refine ⟨.value (.int .i64 j), ?_, .inl rfl⟩
              rw [swNo _ _ _ f 10 (by decide) (by decide)]
              generalize swWld _ _ _ f = Wx
              go_simp
            · obtain rfl := Option.some.inj ho
              have g9 : a'.tmps[61]?.getD undef = .int .i64 ((S.length : Int) - 1) := at_tmp (hH.got 9 61 (hdep { on := 9, ground := .data } (by simp) rfl) rfl)
              have g10 : a'.tmps[62]?.getD undef = .int .i64 j := at_tmp (hH.got 10 62 (hdep { on := 10, ground := .data } (by simp) rfl) rfl)
              refine ⟨.value (.int .i64 m), ?_, .inl rfl⟩
              rw [swNo _ _ _ f 11 (by decide) (by decide)]
              generalize swWld _ _ _ f = Wx
              go_simp
            · obtain rfl := Option.some.inj ho
              have g7 : a'.tmps[59]?.getD undef = .slice (some ⟨b, 0, none⟩) S.length co := at_tmp (hH.got 7 59 (hdep { on := 7, ground := .data } (by simp) rfl) rfl)
              have g11 : a'.tmps[63]?.getD undef = .int .i64 m := at_tmp (hH.got 11 63 (hdep { on := 11, ground := .data } (by simp) rfl) rfl)
              refine ⟨.value (.pointer (some ⟨b, m, none⟩)), ?_, .inl rfl⟩
              rw [swNo _ _ _ f 12 (by decide) (by decide)]
              generalize swWld _ _ _ f = Wx
              go_simp
            · obtain rfl := Option.some.inj ho
              have g12 : a'.tmps[64]?.getD undef = .pointer (some ⟨b, m, none⟩) := at_tmp (hH.got 12 64 (hdep { on := 12, ground := .data } (by simp) rfl) rfl)
              have n19 : f 19 = false := by
                cases h : f 19 with
                | false => rfl
                | true => rw [hcl 19 _ rfl h { on := 13, ground := .data } (by simp) rfl] at hun; cases hun
              have n21 : f 21 = false := by
                cases h : f 21 with
                | false => rfl
                | true => rw [hcl 21 _ rfl h { on := 13, ground := .phase } (by simp) rfl] at hun; cases hun
              refine ⟨.value (.iface t2 u2), ?_, .inl rfl⟩
              rw [swNo _ _ _ f 13 (by decide) (by decide), show swWld wr.drew _ _ f = wr.drew by simp [swWld, n19, n21]]
              go_simp
            · obtain rfl := Option.some.inj ho
              have g := at_tmp (b13 a' f hH)
              refine ⟨.value (.slice (some ⟨b, 0, none⟩) S.length co), ?_, .inl rfl⟩
              rw [swNo _ _ _ f 14 (by decide) (by decide)]
              generalize swWld _ _ _ f = Wx
              go_simp
            · obtain rfl := Option.some.inj ho
              have g := at_tmp (b17 a' f hH)
              refine ⟨.value (.int .i64 j), ?_, .inl rfl⟩
              rw [swNo _ _ _ f 15 (by decide) (by decide)]
              generalize swWld _ _ _ f = Wx
              go_simp
            · obtain rfl := Option.some.inj ho
              have g14 : a'.tmps[66]?.getD undef = .slice (some ⟨b, 0, none⟩) S.length co := at_tmp (hH.got 14 66 (hdep { on := 14, ground := .data } (by simp) rfl) rfl)
              have g15 : a'.tmps[67]?.getD undef = .int .i64 j := at_tmp (hH.got 15 67 (hdep { on := 15, ground := .data } (by simp) rfl) rfl)
              refine ⟨.value (.pointer (some ⟨b, j, none⟩)), ?_, .inl rfl⟩
              rw [swNo _ _ _ f 16 (by decide) (by decide)]
              generalize swWld _ _ _ f = Wx
              go_simp
            · obtain rfl := Option.some.inj ho
              have g16 : a'.tmps[68]?.getD undef = .pointer (some ⟨b, j, none⟩) := at_tmp (hH.got 16 68 (hdep { on := 16, ground := .data } (by simp) rfl) rfl)
              have n19 : f 19 = false := by
                cases h : f 19 with
                | false => rfl
                | true => rw [hcl 19 _ rfl h { on := 17, ground := .phase } (by simp) rfl] at hun; cases hun
              have n21 : f 21 = false := by
                cases h : f 21 with
                | false => rfl
                | true => rw [hcl 21 _ rfl h { on := 17, ground := .phase } (by simp) rfl] at hun; cases hun
              refine ⟨.value (.iface t1 u1), ?_, .inl rfl⟩
              rw [swNo _ _ _ f 17 (by decide) (by decide), show swWld wr.drew _ _ f = wr.drew by simp [swWld, n19, n21]]
              go_simp
            · obtain rfl := Option.some.inj ho
              have g0 : a'.tmps[52]?.getD undef = .slice (some ⟨b, 0, none⟩) S.length co := at_tmp (hH.got 0 52 (hdep { on := 0, ground := .data } (by simp) rfl) rfl)
              have g1 : a'.tmps[53]?.getD undef = .int .i64 j := at_tmp (hH.got 1 53 (hdep { on := 1, ground := .data } (by simp) rfl) rfl)
              refine ⟨.value (.pointer (some ⟨b, j, none⟩)), ?_, .inl rfl⟩
              rw [swNo _ _ _ f 18 (by decide) (by decide)]
              generalize swWld _ _ _ f = Wx
              go_simp
            · obtain rfl := Option.some.inj ho
              have g18 : a'.tmps[70]?.getD undef = .pointer (some ⟨b, j, none⟩) := at_tmp (hH.got 18 70 (hdep { on := 18, ground := .data } (by simp) rfl) rfl)
              have g13 : a'.tmps[65]?.getD undef = .iface t2 u2 := at_tmp (hH.got 13 65 (hdep { on := 13, ground := .data } (by simp) rfl) rfl)
              have n21 : f 21 = false := by
                cases h : f 21 with
                | false => rfl
                | true => rw [hcl 21 _ rfl h { on := 19, ground := .chain } (by simp) rfl] at hun; cases hun
              refine ⟨.skip, ?_, .inr ⟨rfl, rfl⟩⟩
              rw [show swWld wr.drew _ _ (fun k => decide (k = 19) || f k) = wr.drew.setCell ⟨b, j, none⟩ (.iface t2 u2) by simp [swWld, n21], show swWld wr.drew _ _ f = wr.drew by simp [swWld, n21, hun]]
              go_simp
            · obtain rfl := Option.some.inj ho
              have g2 : a'.tmps[54]?.getD undef = .slice (some ⟨b, 0, none⟩) S.length co := at_tmp (hH.got 2 54 (hdep { on := 2, ground := .data } (by simp) rfl) rfl)
              have g6 : a'.tmps[58]?.getD undef = .int .i64 m := at_tmp (hH.got 6 58 (hdep { on := 6, ground := .data } (by simp) rfl) rfl)
              refine ⟨.value (.pointer (some ⟨b, m, none⟩)), ?_, .inl rfl⟩
              rw [swNo _ _ _ f 20 (by decide) (by decide)]
              generalize swWld _ _ _ f = Wx
              go_simp
            · obtain rfl := Option.some.inj ho
              have g20 : a'.tmps[71]?.getD undef = .pointer (some ⟨b, m, none⟩) := at_tmp (hH.got 20 71 (hdep { on := 20, ground := .data } (by simp) rfl) rfl)
              have g17 : a'.tmps[69]?.getD undef = .iface t1 u1 := at_tmp (hH.got 17 69 (hdep { on := 17, ground := .data } (by simp) rfl) rfl)
              have d19 : f 19 = true := hdep { on := 19, ground := .chain } (by simp) rfl
              refine ⟨.skip, ?_, .inr ⟨rfl, rfl⟩⟩
              rw [show swWld wr.drew _ _ (fun k => decide (k = 21) || f k) = (wr.drew.setCell ⟨b, j, none⟩ (.iface t2 u2)).setCell ⟨b, m, none⟩ (.iface t1 u1) by simp [swWld], show swWld wr.drew _ _ f = wr.drew.setCell ⟨b, j, none⟩ (.iface t2 u2) by simp [swWld, d19, hun]]
              go_simp
          case h2 =>
            clear c1 c2 f1 f2 c2' f2' hmz hm1 hj1 hd
            simp only [Reg.fill, swDst, swVal, Act.put]
            simp [List.setIfInBounds_toArray, List.set_cons_succ, List.set_cons_zero]
            go_wp2
            go_roundw
            case rel => exact ⟨j + 1, by go_num, by omega, hfin⟩
            case measure => simp [intOf]; omega
        · have hd : decide ((j : Int) < (S.length : Int) / 2) = false := by simp; omega
          obtain ⟨hI, hG, hBl⟩ := hR.out
          have hgl := hB'.out.hg.lt
          have hG' := Lib.hid (show Pvals wr (W1.heap.size + 1) (.slice Ao S.length co) S.reverse from hG.eq (swp_end S j (by omega) (by omega)))
          have hnl := Lib.hid fun W => newlist_any Ao S.length co W
          have hI' := Lib.hid hI
          have hBl' := Lib.hid hBl
          clear hI hG hBl hR
          go_wp2_with fail
          refine (hnl.out _).mono ?_
          rintro e w' ⟨rfl, rfl⟩
          go_wp2
          have hF : RevList g w S.reverse (.returned (.tuple #[.iface 73 (.pointer (some ⟨wr.heap.size, 0, none⟩)), .nilIface])) ((wr.alloc (.cells #[.slice Ao S.length co, .bool false, .int .u32 0] 142)).setCell ⟨g, 2, none⟩ (.int .u32 (((1 : Nat) : Int) - 1))) := by
            have hws := hBl'.out.size
            have hk : Box.Holds (wr.alloc (.cells #[.slice Ao S.length co, .bool false, .int .u32 0] 142)) g 142 _ := ((hB'.out.hg.below hBl'.out hgl)).alloc _
            have hp1 := hG'.out.later (Ref.below_one' (.cells #[.slice Ao S.length co, .bool false, .int .u32 0] 142) (Nat.le_refl _))
            refine ⟨⟨wr.heap.size, .slice Ao S.length co, rfl, ?_, ?_, by omega⟩, ?_⟩
            · exact (Box.Holds.made wr _ _).apart (p := ⟨g, 2, none⟩) (by show wr.heap.size ≠ g; omega) _
            · exact (hp1.setCell (p := ⟨g, 2, none⟩) hk rfl (fun e => by have := (own_ge hp1 _ e).1; simp only at this; omega) _).lower (by omega)
            · exact (((hbW'.out.trans (hBl'.out.mono (Nat.le_of_lt hgl))).alloc (by omega) _).setCell (p := ⟨g, 2, none⟩) (Nat.le_refl _) _)
          have hF' := Lib.hid hF
          have hlit : Box.Holds (wr.alloc (.cells #[.slice Ao S.length co, .bool false, .int .u32 0] 142)) W1.heap.size 218 _ := hI'.out.alloc _
          have hgl2 : Box.Holds (wr.alloc (.cells #[.slice Ao S.length co, .bool false, .int .u32 0] 142)) g 142 _ := ((hB'.out.hg.below hBl'.out hgl)).alloc _
          clear hF
          refine leaves_cons (f := 282) (args := #[.pointer (some ⟨W1.heap.size, 0, none⟩)]) (by simp) (by simp [go_sem, m3]) ?_
          refine (done_d W1.heap.size g _ _ 1 (by decide) (by decide) .returning _ hlit hgl2).mono ?_
          rintro e u' w'' ⟨rfl, rfl, rfl⟩
          refine ⟨_, results_tmp2 rfl _ _ _, ?_⟩
          exact hF'.out
end Go.Proofs.YtkflmgpigidkeaaGreat.Rev
