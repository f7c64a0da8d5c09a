/-
  The reference's question whether two answers are told alike, at two of one answer.
-/
import Derived.Test.YtafbheamnjmfoaaGreatSpecSame
import Derived.Test.YtafbheamnjmfoaaGreatLsFirst
import Derived.StillTailTactics
namespace Go.Proofs.YtafbheamnjmfoaaGreat.Ls
open Go.RowKit Go.WideShapes Go.Proofs.YtafbheamnjmfoaaGreat.Sc Go.Proofs.YtafbheamnjmfoaaGreat.VRow
set_option linter.unusedVariables false

set_option maxHeartbeats 2000000 in
set_option maxRecDepth 100000 in
theorem samelist_vals (v1 v2 : Value) (S : List Sc) (B1 B2 : Nat) (w : World) (h1 : Vals w B1 v1 S) (h2 : Vals w B2 v2 S) (hl : S.length ≤ 1000) (hok : ∀ s ∈ S, s.ok) :
    Calls Tryz.prog 35 #[v1, v2] w fun e w' => e = .returned (.bool true) ∧ Below w.heap.size w w' := by
  have h3 := Lib.hid fun x y s W a1 a2 a3 => same_any x y s W a1 a2 a3
  obtain ⟨A1, c1, rfl⟩ := h1.shape
  obtain ⟨A2, c2, rfl⟩ := h2.shape
  have hv1 := Lib.hid h1
  have hv2 := Lib.hid h2
  have hn : ((S.length : Int) != S.length) = false := by simp
  clear h1 h2
  go_enter Tryz.func35, Tryz.ntmps35
  go_wp2
  go_loopw [5] (fun i wr => ∃ j : Nat, i = .int .i64 j ∧ j ≤ S.length ∧ Hid (Below w.heap.size w wr)) (fun i _ => S.length - (intOf i).toNat)
  case atStart => exact ⟨0, rfl, Nat.zero_le _, Lib.hid (Below.refl _ _)⟩
  case round =>
    obtain ⟨j, rfl, hj, hbr⟩ := hrel
    by_cases hlt : j < S.length
    · obtain ⟨g1, k1, x, e1, hg1, -, -, ha1, hx⟩ := hv1.out.at_ (j := j) hlt
      obtain ⟨g2, k2, y, e2, hg2, -, -, ha2, hy⟩ := hv2.out.at_ (j := j) hlt
      simp only [Value.slice.injEq, true_and] at e1 e2
      obtain ⟨rfl, rfl⟩ := e1
      obtain ⟨rfl, rfl⟩ := e2
      obtain ⟨s, hs⟩ : ∃ s, S[j] = s := ⟨_, rfl⟩
      rw [hs] at hx hy
      have hsok : s.ok := hok s (hs ▸ List.getElem_mem _)
      have hkp := Kept.of_below hbr.out
      obtain ⟨a0, a1, a2, a3, a4, a5⟩ := ha1.later hbr.out hg1
      obtain ⟨b0, b1, b2, b3, b4, b5⟩ := ha2.later hbr.out hg2
      have hcall := Lib.hid (h3.out x y s wr.drew hsok ((hx.kept hkp).kept (fun _ _ _ _ _ hh => hh)) ((hy.kept hkp).kept (fun _ _ _ _ _ hh => hh)))
      have hg1' : g1 < wr.heap.size := Nat.lt_of_lt_of_le hg1 hbr.out.size
      have hg2' : g2 < wr.heap.size := Nat.lt_of_lt_of_le hg2 hbr.out.size
      have hjc : S.length ≤ 1000 := hl
      unfold V6.arr at hcall
      clear hx hy hs ha1 ha2 hkp
      go_wp2_with fail
      go_still_tail 8, (by kernel_rfl)
      change wpList _ _ _ _ _ wr.drew
      go_wp2_with fail
      refine hcall.out.mono ?_
      rintro e w5 ⟨rfl, hb5⟩
      have hfin := Lib.hid ((Below.drew hbr.out).trans (hb5.mono hbr.out.size))
      clear hb5 hcall hbr a0 a1 a2 a3 a4 a5 b0 b1 b2 b3 b4 b5
      go_wp2
      go_roundw
      case rel => exact ⟨j + 1, by go_num, by omega, hfin⟩
      case measure => simp [intOf]; omega
    · go_wp2
      go_ret
      exact ⟨rfl, hbr.out⟩
set_option maxHeartbeats 2000000 in
set_option maxRecDepth 100000 in
theorem same_list (v1 v2 : Value) (S : List Sc) (B1 B2 : Nat) (w : World) (h1 : Vals w B1 v1 S) (h2 : Vals w B2 v2 S) (hl : S.length ≤ 1000) (hok : ∀ s ∈ S, s.ok) :
    Calls Tryz.prog 37 #[.agg #[.int .i64 6, .bool false, .slice none 0 0, .int .u64 0, .string ⟨#[]⟩, v1], .agg #[.int .i64 6, .bool false, .slice none 0 0, .int .u64 0, .string ⟨#[]⟩, v2]] w fun e w' => e = .returned (.bool true) ∧ Below w.heap.size w w' := by
  obtain ⟨A1, c1, rfl⟩ := h1.shape
  obtain ⟨A2, c2, rfl⟩ := h2.shape
  obtain ⟨W, hW⟩ : ∃ W, (w.alloc (.cells #[.int .i64 6, .bool false, .slice none 0 0, .int .u64 0, .string ⟨#[]⟩, .slice A1 S.length c1] 28)).alloc (.cells #[.int .i64 6, .bool false, .slice none 0 0, .int .u64 0, .string ⟨#[]⟩, .slice A2 S.length c2] 28) = W := ⟨_, rfl⟩
  have hb : Below w.heap.size w W := by rw [← hW]; exact (Ref.below_one' _ (Nat.le_refl _)).alloc (by simp) _
  have hcall := Lib.hid (samelist_vals _ _ S B1 B2 W (h1.later hb) (h2.later hb) hl hok)
  have hn : ((S.length : Int) != S.length) = false := by simp
  have hW' := Lib.hid hW
  have hb' := Lib.hid hb
  clear h1 h2 hW hb
  go_enter Tryz.func37, Tryz.ntmps37
  go_wp2_with fail
  rw [hW'.out]
  refine hcall.out.mono ?_
  rintro e w2 ⟨rfl, hb2⟩
  have hfin := Lib.hid (hb'.out.trans (hb2.mono hb'.out.size))
  clear hb2 hb' hW'
  go_wp2
  go_ret
  exact ⟨rfl, hfin.out⟩
/-- an answer's value is one that may be told -/
def Av.ok (n : Nat) : Av → Prop
  | .sc s => s.ok
  | .list l => (∀ s ∈ l, s.ok) ∧ l.length ≤ n
theorem Step.av_ok {st st' : St} {p : Sp} {an : An} {n : Nat} (h : Step st p st' an) (hs : st.In n) : an.v.ok n := by
  cases h
  case index hi => exact hs.ok _ (List.getElem_mem hi)
  case next hi hp => exact hs.ok _ (List.getElem_mem hp)
  case slice hf h1 h2 hv hn =>
    refine ⟨row_ok hs.ok, ?_⟩
    rw [row_length]
    exact Nat.le_trans (inv_le hv hf) hs.len
  all_goals exact trivial
theorem same_av {x x' : Option Nat} (y z : V6) (v : Av) (w : World) (hok : v.ok 1000) (hy : IsAv x w y v) (hz : IsAv x' w z v) :
    Calls Tryz.prog 37 #[.agg y.arr, .agg z.arr] w fun e w' => e = .returned (.bool true) ∧ Below w.heap.size w w' := by
  cases v with
  | sc s => exact same_any y z s w hok hy hz
  | list l =>
    obtain ⟨u1, rfl, h1, -⟩ := hy
    obtain ⟨u2, rfl, h2, -⟩ := hz
    exact same_list u1 u2 l 0 0 w h1 h2 hok.2 hok.1
end Go.Proofs.YtafbheamnjmfoaaGreat.Ls
