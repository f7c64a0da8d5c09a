/-
  The last element first: the program's call, and the statement's walk.
-/
import Derived.Test.YtkflmgpigidkeaaGreatRevWalk
import Derived.Test.YtkflmgpigidkeaaGreatScSame
import Derived.IntWalk
import Derived.StillTailTactics
namespace Go.Proofs.YtkflmgpigidkeaaGreat.fnReversed
open Go.RowKit Go.WideShapes Go.Proofs.YtkflmgpigidkeaaGreat.Sc Go.Proofs.YtkflmgpigidkeaaGreat.Rev Go.Proofs.YtkflmgpigidkeaaGreat.VRow
set_option linter.unusedVariables false

set_option maxRecDepth 100000 in
theorem zzrev_any (g B0 ga c : Nat) (v : Value) (S : List Sc) (w : World) (hg : Box.Holds w g 142 #[v, .bool false, .int .u32 0]) (hv : Pvals w B0 v S) (hl : S.length ≤ 1000) (hx : w.cell? ⟨ga, 0, none⟩ = some (.iface 73 (.pointer (some ⟨g, 0, none⟩)))) (hga : ga < w.heap.size) (hne : g ≠ ga) :
    Calls Tryz.prog 35 #[.slice (some ⟨ga, 0, none⟩) 1 c] w (RevList g w S.reverse) := by
  have hr := Lib.hid (rev_any g B0 ga c v S w hg hv hl hx hga hne)
  clear hg hv hx
  go_enter Tryz.func35, Tryz.ntmps35
  go_wp2_with fail
  refine hr.out.mono ?_
  rintro e w' ⟨⟨g2, v2, rfl, h2, h3, h4⟩, hb⟩
  have hfin := Lib.hid (show RevList g w S.reverse (.returned (.tuple #[.iface 73 (.pointer (some ⟨g2, 0, none⟩)), .nilIface])) w' from ⟨⟨g2, v2, rfl, h2, h3, h4⟩, hb⟩)
  clear h2 h3 hb hr
  go_wp2
  go_ret2
  exact hfin.out

theorem is_plist (v : Value) (w : World) : (Instr.typeAssert (.iface 73 v) 66 73 true).run Tryz.prog w = .ok (.tuple #[v, .bool true]) w := by kernel_rfl
def SomeRev (w : World) (S : List Sc) (e : Ending) (w' : World) : Prop := (∃ u, e = .returned (.tuple #[u, .bool true, .bool true]) ∧ Vals w' w.heap.size u S) ∧ Below w.heap.size w w'
set_option maxHeartbeats 1000000 in
set_option maxRecDepth 100000 in
theorem irev_any (v : Value) (S : List Sc) (B0 : Nat) (w : World) (hv : Vals w B0 v S) (hl : S.length ≤ 1000) (hok : ∀ s ∈ S, s.ok) :
    Calls Tryz.prog 13 #[v] w (SomeRev w S.reverse) := by
  have h1 := Lib.hid (ilof_any v S B0 w hv hl hok)
  have h2 := Lib.hid fun g B0 ga c v W a1 a2 a3 a4 a5 => zzrev_any g B0 ga c v S W a1 a2 hl a3 a4 a5
  have hlr : S.reverse.length ≤ 1000 := by simpa using hl
  have hokr : ∀ s ∈ S.reverse, s.ok := fun s hs => hok s (List.mem_reverse.1 hs)
  have h3 := Lib.hid fun g v x y B0 W a1 a2 => elements_any g v x y S.reverse B0 W a1 a2 hlr hokr
  have hpl := is_plist
  obtain ⟨A0, cp0, rfl⟩ := hv.shape
  clear hv hok hokr
  go_enter Tryz.func13, Tryz.ntmps13
  go_wp2_with fail
  refine h1.out.mono ?_
  rintro e w1 ⟨⟨g, v1, rfl, hg, hpv, hge⟩, hb1⟩
  have hsz := hb1.size
  have hgl := hg.lt
  have h2' := Lib.hid (h2.out g w.heap.size w1.heap.size 1 v1 (w1.alloc (.cells #[.iface 73 (.pointer (some ⟨g, 0, none⟩))] 66)) (hg.alloc _) (hpv.later (Ref.below_one' _ (Nat.le_refl _))) (by rw [World.cell?_alloc_at _ _ _ _ rfl]; rfl) (by simp) (by omega))
  have hb1' := Lib.hid (hb1.alloc hsz (.cells #[.iface 73 (.pointer (some ⟨g, 0, none⟩))] 66))
  clear hg hpv hb1 h1 h2
  go_wp2_with fail
  refine h2'.out.mono ?_
  rintro e w2 ⟨⟨g2, v2, rfl, hg2, hpv2, hge2⟩, hb2⟩
  have h3' := Lib.hid (h3.out g2 v2 _ _ _ w2 hg2 hpv2)
  have hb2' := Lib.hid (hb1'.out.trans (hb2.mono hge))
  have hsz2 := hb2'.out.size
  clear hg2 hpv2 hb2 h2'
  go_wp2_with fail
  refine h3'.out.mono ?_
  rintro e w3 ⟨⟨u, rfl, hu⟩, hb3⟩
  have hfin := Lib.hid (show SomeRev w S.reverse (.returned (.tuple #[u, .bool true, .bool true])) w3 from ⟨⟨u, rfl, hu.lower hsz2⟩, hb2'.out.trans (hb3.mono hsz2)⟩)
  obtain ⟨Au, cu, hue⟩ := hu.shape
  rw [List.length_reverse] at hue
  subst hue
  clear hu hb3
  go_wp2
  go_ret3
  exact hfin.out

set_option maxHeartbeats 2000000 in
set_option maxRecDepth 100000 in
theorem walk (A : Option Addr) (L : List V6) (cp : Nat) (w : World) (h : ArgVals w A L) :
    Calls Tryz.prog 4 #[.slice A L.length cp] w fun e w' => e = .returned (.bool true) ∧ Below w.heap.size w w' := by
  by_cases hl : L.length ≤ 2147483647
  · have h1 := Lib.hid (lof_any A L cp w h hl)
    have h2 := Lib.hid fun v S B0 W a1 a2 a3 => irev_any v S B0 W a1 a2 a3
    have h3 := Lib.hid fun x y s W a1 a2 a3 => same_any x y s W a1 a2 a3
    clear h
    go_enter Tryz.func4, Tryz.ntmps4
    go_wp2_with fail
    refine h1.out.mono ?_
    rintro e w1 ⟨⟨u, S, rfl, hu, hS, hok⟩, hb1⟩
    have h2' := Lib.hid (h2.out u S _ w1 hu (by omega) hok)
    obtain ⟨A1, c1, rfl⟩ := hu.shape
    have hu' := Lib.hid hu
    have hb1' := Lib.hid hb1
    clear hu hb1 h1 h2
    go_wp2_with fail
    refine h2'.out.mono ?_
    rintro e w2 ⟨⟨u2, rfl, hu2⟩, hb2⟩
    obtain ⟨A2, c2, hue⟩ := hu2.shape
    rw [List.length_reverse] at hue
    subst hue
    have hv1 := Lib.hid (hu'.out.later hb2)
    have hv2 := Lib.hid hu2
    have hb2' := Lib.hid (hb1'.out.trans (hb2.mono hb1'.out.size))
    have hn : ((S.length : Int) != S.length) = false := by simp
    clear hu2 hb2 hu' hb1' h2'
    go_wp2_with fail
    go_loopw [33] (fun i wr => ∃ j : Nat, i = .int .i64 j ∧ j ≤ S.length ∧ Hid (Below w2.heap.size w2 wr)) (fun i _ => S.length - (intOf i).toNat)
    case atStart => exact ⟨0, rfl, Nat.zero_le _, Lib.hid (Below.refl _ _)⟩
    case round =>
      obtain ⟨j, rfl, hj, hbr⟩ := hrel
      by_cases hlt : j < S.length
      · obtain ⟨m, hm⟩ : ∃ m, S.length - 1 - j = m := ⟨_, rfl⟩
        have hmz : (S.length : Int) - 1 - (j : Int) = (m : Int) := by omega
        have hml : m < S.length := by omega
        obtain ⟨g1, k1, x, e1, hg1, -, -, ha1, hx⟩ := hv2.out.at_ (j := j) (by simpa using hlt)
        obtain ⟨g2, k2, y, e2, hg2, -, -, ha2, hy⟩ := hv1.out.at_ (j := m) hml
        rw [List.length_reverse] at e1
        simp only [Value.slice.injEq, true_and] at e1 e2
        obtain ⟨rfl, rfl⟩ := e1
        obtain ⟨rfl, rfl⟩ := e2
        have hrev : S.reverse[j]'(by simpa using hlt) = S[m] := by rw [List.getElem_reverse]; congr 1
        rw [hrev] at hx
        obtain ⟨s, hs⟩ : ∃ s, S[m] = s := ⟨_, rfl⟩
        rw [hs] at hx hy
        have hsok : s.ok := hok s (hs ▸ List.getElem_mem _)
        have hkp := Kept.of_below hbr.out
        obtain ⟨a0, a1, a2, a3, a4, a5⟩ := ha1.later hbr.out hg1
        obtain ⟨b0, b1, b2, b3, b4, b5⟩ := ha2.later hbr.out hg2
        have hcall := Lib.hid (h3.out x y s wr.drew hsok ((hx.kept hkp).kept (fun _ _ _ _ _ hh => hh)) ((hy.kept hkp).kept (fun _ _ _ _ _ hh => hh)))
        have hg1' : g1 < wr.heap.size := Nat.lt_of_lt_of_le hg1 hbr.out.size
        have hg2' : g2 < wr.heap.size := Nat.lt_of_lt_of_le hg2 hbr.out.size
        have hjc : S.length ≤ 12 := hS
        unfold V6.arr at hcall
        have hw1 : IntKind.i64.wrap ((S.length : Int) - 1) = (S.length : Int) - 1 := IntWalk.i64_in _ (by omega)
        have hw2 : IntKind.i64.wrap ((S.length : Int) - 1 - (j : Int)) = (m : Int) := by rw [hmz]; exact IntWalk.i64_in _ (by omega)
        clear hx hy hs hrev ha1 ha2 hkp hmz hm
        go_wp2_with fail
        go_still_tail 12, (by kernel_rfl)
        change wpList _ _ _ _ _ wr.drew
        clear hw1 hw2
        go_wp2_with fail
        refine hcall.out.mono ?_
        rintro e w5 ⟨rfl, hb5⟩
        have hfin := Lib.hid ((Below.drew hbr.out).trans (hb5.mono hbr.out.size))
        clear hb5 hcall hbr a0 a1 a2 a3 a4 a5 b0 b1 b2 b3 b4 b5
        go_wp2
        go_roundw
        case rel => exact ⟨j + 1, by go_num, by omega, hfin⟩
        case measure => simp [intOf]; omega
      · go_wp2
        go_ret
        exact ⟨rfl, hb2'.out.trans (hbr.out.mono hb2'.out.size)⟩
  · have hb : decide ((2147483647 : Int) < (L.length : Int)) = true := by simp; omega
    clear h
    go_enter Tryz.func4, Tryz.ntmps4
    go_wp2
    go_ret
    exact ⟨rfl, Below.refl _ _⟩
end Go.Proofs.YtkflmgpigidkeaaGreat.fnReversed
