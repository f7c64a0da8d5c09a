/-
  The statement on a list of scalars: its walk.
-/
import Derived.Test.YtafbheamnjmfoaaGreatLsRun
import Derived.Test.YtafbheamnjmfoaaGreatLsOnly
import Derived.Test.YtafbheamnjmfoaaGreatLsAnswered
namespace Go.Proofs.YtafbheamnjmfoaaGreat.fnScalarList
open Go.RowKit Go.WideShapes Go.Proofs.YtafbheamnjmfoaaGreat.Sc Go.Proofs.YtafbheamnjmfoaaGreat.VRow Go.Proofs.YtafbheamnjmfoaaGreat.Ls
set_option linter.unusedVariables false

theorem run_one (l : List Sc) : Run (fun _ => ⟨l, false, []⟩) [.len] [⟨true, false, l.length, .sc .none⟩] := by
  refine ⟨rfl, fun j s a hs ha => ?_⟩
  have hj : j = 0 := by
    have := (List.getElem?_eq_some_iff.1 hs).1
    simp at this
    exact this
  subst hj
  simp at hs ha
  subst hs ha
  exact Step.len (st := ⟨l, false, []⟩)
theorem steps_later {w w' : World} {B : Nat} {u : Value} {S : List Sp} (h : Ls.Steps w B u S) (hb : Below w.heap.size w w') : Ls.Steps w' B u S := h.kept (KeptT.of_below (S := fun _ _ => True) hb) (Kept.of_below hb) (fun _ _ => trivial)
theorem anss_later {x : Option Nat} {w w' : World} {B : Nat} {u : Value} {A : List An} (h : Anss x w B u A) (hb : Below w.heap.size w w') : Anss x w' B u A := h.kept (KeptT.of_below (S := fun _ _ => True) hb) (KeptT.of_below hb) (fun _ _ => trivial) (fun g h => .inl h)
theorem run_ok {T : Nat → St} {S : List Sp} {A : List An} {l : List Sc} (h : Run T S A) (h0 : T 0 = ⟨l, false, []⟩) (hl : l.length ≤ 16) (hS : S.length ≤ 60) (hok : ∀ s ∈ l, s.ok) : ∀ (j : Nat) (a : An), A[j]? = some a → a.v.ok 1000 := by
  intro j a ha
  have hj : j < A.length := (List.getElem?_eq_some_iff.1 ha).1
  have hjS : j < S.length := by rw [← h.len]; exact hj
  have hin := h.in_ (n := 16) (by rw [h0]; exact ⟨hok, hl, Nat.zero_le _, fun i p h => by simp at h⟩) j (by omega)
  have hst := (h.at_ j _ a (List.getElem?_eq_getElem hjS) ha).av_ok hin
  revert hst
  cases a.v with
  | sc s => exact fun h => h
  | list l => exact fun h => ⟨h.1, by have := h.2; omega⟩
set_option maxHeartbeats 2000000 in
set_option maxRecDepth 100000 in
theorem walk (A : Option Addr) (L : List V6) (cp : Nat) (A' : Option Addr) (L' : List R17) (cp' : Nat) (w : World) (h : ArgVals w A L) (h' : ArgSteps w A' L') :
    Calls Tryz.prog 4 #[.slice A L.length cp, .slice A' L'.length cp'] w fun e w' => e = .returned (.bool true) ∧ Below w.heap.size w w' := by
  by_cases hl : L.length ≤ 2147483647
  · by_cases hl' : L'.length ≤ 2147483647
    · have hb1 := decide_eq_false (show ¬ (2147483647 : Int) < (L.length : Int) by omega)
      have hb2 := decide_eq_false (show ¬ (2147483647 : Int) < (L'.length : Int) by omega)
      obtain ⟨W0, hW0⟩ : ∃ W0, w.alloc (.cells kindCs 3) = W0 := ⟨_, rfl⟩
      have hal : Below w.heap.size w W0 := hW0 ▸ Ref.below_one' _ (Nat.le_refl _)
      have hkh : Box.Holds W0 w.heap.size 3 kindCs := hW0 ▸ Box.Holds.made _ _ _
      have hav : ArgVals W0 A L := ⟨h.some_, fun x hx hn => Nat.lt_of_lt_of_le (h.lt x hx hn) hal.size, fun x hx j hj => (h.at_ x hx j hj).later hal (by rw [Ref.block_add]; exact h.lt x hx (by rintro rfl; simp at hj)), fun j hj => (h.el j hj).later hal⟩
      have h1 := Lib.hid (scals_any A L cp _ hav hl)
      have hk' := Lib.hid hkh
      have hal' := Lib.hid hal
      have has' := Lib.hid (h'.later hal)
      have hW' := Lib.hid hW0
      unfold kindCs at hW'
      have ho := Lib.hid fun W a b c => only_any A' L' cp' w.heap.size W a b c
      have hr := Lib.hid fun B0 B1 v0 u0 l0 R W a b c d e => run_any B0 B1 v0 u0 l0 R W a b c d e
      have hs := Lib.hid fun v0 u l S A T B0 B1 W a b c d e f g => script_any v0 u l S A T B0 B1 W a b c d e f g
      have han := Lib.hid fun v1 v2 u A S x1 x2 B1 B2 B3 W a b c d e f => answered_any v1 v2 u A S x1 x2 B1 B2 B3 W a b c d e f
      have hle := Lib.hid fun u an n x B W a b c => length_any u an n x B W a b c
      have hask := Lib.hid fun W => asked_any W
      have hbz := hal.size
      clear h h' hal hkh hav hW0
      go_enter Tryz.func4, Tryz.ntmps4
      go_upto_region 4 with fail
      rw [hW'.out]
      clear hW'
      go_wp2_with fail
      refine h1.out.mono ?_
      rintro e w1 ⟨⟨u1, S1, rfl, hv1, hS1, hok1⟩, hb⟩
      obtain ⟨A1, c1, rfl⟩ := hv1.shape
      have hv1 := Lib.hid hv1
      have hw1 := Lib.hid (hal'.out.trans (hb.mono hbz))
      have hk1 := Lib.hid (hk'.out.later hb)
      have has1 := Lib.hid (has'.out.later hb)
      have ho1 := Lib.hid (ho.out w1 has1.out hl' hk1.out)
      clear hb h1 hk' has' hal' hk1 has1 ho
      go_wp2_with fail
      refine ho1.out.mono ?_
      rintro e w2 ⟨⟨u2, R, rfl, hR, hRg⟩, hb⟩
      obtain ⟨A2, c2, hue⟩ := hR.shape
      subst hue
      have hv2 := Lib.hid (hv1.out.later hb)
      have hw2 := Lib.hid (hw1.out.trans (hb.mono hw1.out.size))
      have hr2 := Lib.hid (hr.out _ _ _ _ S1 R w2 hv2.out hR hok1 hRg (by omega))
      clear hb hv1 hv2 hw1 ho1 hR hRg hr
      go_wp2_with fail
      refine hr2.out.mono ?_
      rintro e w3 ⟨⟨v, u, o, S, An, T, rfl, hv, hu, ha, hRun, hT0, hSl⟩, hb⟩
      obtain ⟨l, hlq⟩ : ∃ l, S1.take 8 = l := ⟨_, rfl⟩
      have hll : l.length ≤ 8 := by rw [← hlq]; simp; omega
      have hlok : ∀ s ∈ l, s.ok := fun s hs => hok1 s (List.mem_of_mem_take (hlq ▸ hs))
      rw [hlq] at hv hT0
      have hAl := Lib.hid hRun.len.symm
      have hAl9 : An.length ≤ 1000 := by have := hRun.len; omega
      obtain ⟨Av, cv, rfl⟩ := hv.shape
      obtain ⟨Au, cu, rfl⟩ := hu.shape
      obtain ⟨Ao, co, rfl⟩ := ha.shape
      have hw3 := Lib.hid (hw2.out.trans (hb.mono hw2.out.size))
      have hs3 := Lib.hid (hs.out _ _ l S An T _ _ w3 hv hu hRun hT0 (by omega) (by omega) hlok)
      have hao := Lib.hid (run_ok hRun hT0 (by omega) hSl hlok)
      have hv := Lib.hid hv
      have hu := Lib.hid hu
      have ha := Lib.hid ha
      clear hb hw2 hr2 hok1 hlq hRun hT0
      go_wp2_with fail
      refine hs3.out.mono ?_
      rintro e w4 ⟨⟨o4, rfl, ha4⟩, hb⟩
      obtain ⟨Ao4, co4, rfl⟩ := ha4.shape
      have hw4 := Lib.hid (hw3.out.trans (hb.mono hw3.out.size))
      have hc4 := Lib.hid (han.out _ _ _ An S none none _ _ _ w4 ha4 (anss_later ha.out hb) (steps_later hu.out hb) hAl.out hAl9 hao.out)
      have hv4 := Lib.hid (hv.out.later hb)
      clear hb hs3 ha hu hv ha4 hao hw3 han
      go_wp2_with fail
      refine hc4.out.mono ?_
      rintro e w5 ⟨rfl, hb⟩
      have hw5 := Lib.hid (hw4.out.trans (hb.mono hw4.out.size))
      have hv5 := Lib.hid (hv4.out.later hb)
      clear hb hc4 hw4 hv4
      go_wp2_with fail
      refine (hask.out w5).mono ?_
      rintro e w6 ⟨⟨u6, rfl, hu6⟩, hb⟩
      have hs6 := Lib.hid (hs.out _ _ l _ _ _ _ _ w6 (hv5.out.later hb) hu6 (run_one l) rfl (by omega) (by simp) hlok)
      obtain ⟨Au6, cu6, rfl⟩ := hu6.shape
      have hw6 := Lib.hid (hw5.out.trans (hb.mono hw5.out.size))
      clear hb hu6 hw5 hv5 hs hask
      go_wp2_with fail
      refine hs6.out.mono ?_
      rintro e w7 ⟨⟨o7, rfl, ha7⟩, hb⟩
      have hc7 := Lib.hid (hle.out _ _ l.length none _ w7 ha7 rfl rfl)
      obtain ⟨Ao7, co7, rfl⟩ := ha7.shape
      have hw7 := Lib.hid (hw6.out.trans (hb.mono hw6.out.size))
      clear hb ha7 hs6 hw6 hle
      go_wp2_with fail
      refine hc7.out.mono ?_
      rintro e w8 ⟨rfl, rfl⟩
      clear hc7
      go_wp2
      go_ret
      exact ⟨rfl, hw7.out⟩
    · have hb1 := decide_eq_false (show ¬ (2147483647 : Int) < (L.length : Int) by omega)
      have hb2 := decide_eq_true (show (2147483647 : Int) < (L'.length : Int) by omega)
      clear h h'
      go_enter Tryz.func4, Tryz.ntmps4
      go_wp2
      go_ret
      exact ⟨rfl, Below.refl _ _⟩
  · have hb1 := decide_eq_true (show (2147483647 : Int) < (L.length : Int) by omega)
    clear h h'
    go_enter Tryz.func4, Tryz.ntmps4
    go_wp2
    go_ret
    exact ⟨rfl, Below.refl _ _⟩
end Go.Proofs.YtafbheamnjmfoaaGreat.fnScalarList
