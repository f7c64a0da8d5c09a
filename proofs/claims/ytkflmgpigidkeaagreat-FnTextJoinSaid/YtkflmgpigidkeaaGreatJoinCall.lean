/-
  Some texts with another one between: the program's call.
-/
import Derived.Test.YtkflmgpigidkeaaGreatJoinCode
import Derived.Test.YtkflmgpigidkeaaGreatRemCall
import Derived.Test.YtkflmgpigidkeaaGreatStrs
namespace Go.Proofs.YtkflmgpigidkeaaGreat.Rem
open Go.RowKit Go.WideShapes Go.Proofs.YtkflmgpigidkeaaGreat.Args Go.Proofs.YtkflmgpigidkeaaGreat.Join Go.Proofs.YtkflmgpigidkeaaGreat.Vals Go.Proofs.YtkflmgpigidkeaaGreat.Strs
set_option linter.unusedVariables false

set_option maxRecDepth 100000 in
theorem texts_any (v : Value) (l : List ByteArray) (B0 : Nat) (w : World) (hl : l.length ≤ 20) (hv : OwnS w B0 v l) :
    Calls Tryz.prog 43 #[v] w fun e w' => (∃ u, e = .returned u ∧ OwnT w' w.heap.size u l) ∧ Below w.heap.size w w' := by
  obtain ⟨A0, cp0, rfl⟩ := hv.shape
  go_enter Tryz.func43, Tryz.ntmps43
  go_wp2
  go_loopw [2, 7] (fun u i wr => ∃ j : Nat, i = .int .i64 j ∧ j ≤ l.length ∧ OwnT wr w.heap.size u (l.take j) ∧ Below w.heap.size w wr) (fun _ i _ => l.length - (intOf i).toNat)
  case atStart => exact ⟨0, rfl, Nat.zero_le _, OwnT.nil _ _, Below.refl _ _⟩
  case round =>
    obtain ⟨j, rfl, hj, ho, hb⟩ := hrel
    by_cases hlt : j < l.length
    · obtain ⟨g, cap, h, hg, hB, hc, hcs⟩ := hv.forms.resolve_left (by rintro ⟨_, rfl⟩; simp at hlt)
      simp only [Value.slice.injEq, true_and] at h
      obtain ⟨rfl, rfl⟩ := h
      have hc0 := (hb.cell (p := ⟨g, j, none⟩) hg).trans (hcs j hlt)
      obtain ⟨t, ht⟩ : ∃ t, l[j] = t := ⟨_, rfl⟩
      rw [ht] at hc0
      have htk := Lib.hid (show l.take j ++ [t] = l.take (j + 1) by rw [List.take_succ_eq_append_getElem hlt, ht])
      have hlj : (l.take j).length ≤ 20 := by simp; omega
      clear hcs ht
      go_wp2_with (at_builtin; refine wpList_val rfl _ _ rfl _ (l.take j) rfl ho hb (Nat.le_refl _) t rfl (by omega) ?_; intro v4 w4 hown4 hb4)
      go_roundw
      case rel => exact ⟨j + 1, by go_num, by omega, hown4.eq htk.out, hb4⟩
      case measure => simp [intOf]; omega
    · go_wp2
      go_ret
      obtain rfl : j = l.length := by omega
      rw [List.take_length] at ho
      exact ⟨⟨_, rfl, ho⟩, hb⟩

set_option maxHeartbeats 1000000 in
set_option maxRecDepth 100000 in
theorem zzcall_join (s : ByteArray) (v : Value) (l : List ByteArray) (ga c B0 : Nat) (w : World) (hs : s.size ≤ 60) (hl : l.length ≤ 20) (h60 : ∀ t ∈ l, t.size ≤ 60) (ha : w.cell? ⟨ga, 0, none⟩ = some (.iface 87 v)) (hga : ga < w.heap.size) (hv : OwnT w B0 v l) :
    Calls Tryz.prog 72 #[.string ⟨#[106, 111, 105, 110]⟩, .func (.func 85) #[] #[], .string s, .slice (some ⟨ga, 0, none⟩) 1 c] w fun e w' => e = .returned (.tuple #[.iface 71 (.string (joinB s l)), .nilIface]) ∧ Below w.heap.size w w' := by
  have h1 := Lib.hid fun W => newb_any ⟨#[106, 111, 105, 110]⟩ 85 W
  have h2 := Lib.hid fun g W h => bind_any ⟨#[106, 111, 105, 110]⟩ 85 s g W h
  have h3 := Lib.hid fun F gb W hb ha hga hv => sjoin_any ⟨#[106, 111, 105, 110]⟩ F v s l gb ga c B0 W hs hl h60 hb ha hga hv
  generalize joinB s l = R at h3 ⊢
  have ha' := Lib.hid ha
  have hv' := Lib.hid hv
  clear ha hv h60
  go_enter Tryz.func72, Tryz.ntmps72
  go_wp2_with fail
  refine (h1.out _).mono ?_
  rintro e w1 ⟨rfl, rfl⟩
  go_wp2_with fail
  refine (h2.out _ _ (Holds.made _ _ _)).mono ?_
  rintro e w2 ⟨g, rfl, hg, hb2⟩
  have hb3 : Below w.heap.size w w2 := (below_one _ (Nat.le_refl _)).trans (hb2.mono (by simp))
  have h4 := Lib.hid (h3.out _ g w2 hg ((hb3.cell (p := ⟨ga, 0, none⟩) hga).trans ha'.out) (Nat.lt_of_lt_of_le hga hb3.size) (hv'.out.later hb3))
  clear hb2 hg
  go_wp2_with fail
  refine h4.out.mono ?_
  rintro e w5 ⟨rfl, hb5⟩
  have hfin := Lib.hid (hb3.trans (hb5.mono hb3.size))
  clear hb5 hb3 h4
  go_wp2
  go_ret2
  exact ⟨rfl, hfin.out⟩

set_option maxHeartbeats 1000000 in
set_option maxRecDepth 100000 in
theorem tjoin_any (s : ByteArray) (v : Value) (l : List ByteArray) (B0 : Nat) (w : World) (hs : s.size ≤ 60) (hl : l.length ≤ 20) (h60 : ∀ t ∈ l, t.size ≤ 60) (hv : OwnS w B0 v l) :
    Calls Tryz.prog 16 #[.string s, v] w fun e w' => e = .returned (.tuple #[.string (joinB s l), .bool true]) ∧ Below w.heap.size w w' := by
  have h1 := Lib.hid (texts_any v l B0 w hl hv)
  have h2 := Lib.hid fun u ga W B ha hga hv => zzcall_join s u l ga 1 B W hs hl h60 ha hga hv
  generalize joinB s l = R at h2 ⊢
  have h3 := Lib.hid fun W => oftext_any R W
  clear hv h60
  go_enter Tryz.func16, Tryz.ntmps16
  go_wp2_with fail
  refine h1.out.mono ?_
  rintro e w1 ⟨⟨u, rfl, ho⟩, hb⟩
  have hsz := hb.size
  have h4 := Lib.hid (h2.out u w1.heap.size (w1.alloc (.cells #[.iface 87 u] 66)) w.heap.size (by rw [World.cell?_alloc_at _ _ _ _ rfl]; rfl) (by simp) (ho.later (below_one _ (Nat.le_refl _))))
  obtain ⟨A1, cp1, rfl⟩ := ho.shape
  have hb' := Lib.hid (hb.alloc hsz (.cells #[.iface 87 (.slice A1 l.length cp1)] 66))
  clear ho hb
  go_wp2_with (first | (go_at_call 72; refine h4.out.mono ?_; rintro e w2 ⟨rfl, hb2⟩) | (go_at_call 31; refine (h3.out _).mono ?_; rintro e w3 ⟨rfl, rfl⟩) | go_in)
  go_ret2
  exact ⟨rfl, hb'.out.trans (hb2.mono hb'.out.size)⟩
end Go.Proofs.YtkflmgpigidkeaaGreat.Rem
