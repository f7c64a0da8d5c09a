/-
  Some texts with another one between: the reference's method, and the look at the sizes.
-/
import Derived.Test.YtkflmgpigidkeaaGreatJoinSpec
import Derived.Test.YtkflmgpigidkeaaGreatRemAsk
namespace Go.Proofs.YtkflmgpigidkeaaGreat.Rem
open Go.RowKit Go.WideShapes Go.Proofs.YtkflmgpigidkeaaGreat.VRow Go.Proofs.YtkflmgpigidkeaaGreat.Join
set_option linter.unusedVariables false

set_option maxHeartbeats 2000000 in
set_option maxRecDepth 100000 in
theorem method_join (s : ByteArray) (v : Value) (l : List ByteArray) (B0 g c : Nat) (w : World) (hs : s.size ≤ 60) (hl : l.length ≤ 20) (h60 : ∀ t ∈ l, t.size ≤ 60) (hv : OwnV w B0 v (l.map tx)) (hg : Holds w g 27 #[.int .i64 7, .bool false, .slice none 0 0, .int .u64 0, .string ⟨#[]⟩, v]) :
    Calls Tryz.prog 30 #[.string s, .string ⟨#[106, 111, 105, 110]⟩, .slice (some ⟨g, 0, none⟩) 1 c] w fun e w' => e = .returned (.tuple #[tv (joinB s l), .bool true]) ∧ Below w.heap.size w w' := by
  have ha := Lib.hid (joined_any s v l B0 g c _ hs hl h60 (hv.later (below_one (.cells #[.int .i64 0, .bool false, .slice none 0 0, .int .u64 0, .string ⟨#[]⟩, .slice none 0 0] 27) (Nat.le_refl _))) (hg.alloc _))
  generalize joinB s l = R at ha ⊢
  clear hg hv h60
  unfold tv at *
  go_enter Tryz.func30, Tryz.ntmps30
  go_wp2_with fail
  refine ha.out.mono ?_
  rintro e w1 ⟨rfl, hb1⟩
  obtain ⟨hk, hfin⟩ := answer R hb1
  obtain ⟨p0, p1, p2, p3, p4, p5, pl, f0, f1, f2, f3, f4, f5⟩ := val_facts hk
  have hfin' := Lib.hid hfin
  clear hk hfin hb1
  go_wp2
  exact bodyPost_ret (v := .tuple #[.agg #[.int .i64 4, .bool false, .slice none 0 0, .int .u64 0, .string R, .slice none 0 0], .bool true]) (by simp [results, Tryz.results30, go_sem, p0, p1, p2, p3, p4, p5]) rfl ⟨rfl, hfin'.out⟩

set_option maxHeartbeats 2000000 in
set_option maxRecDepth 100000 in
theorem asked_join (s : ByteArray) (v : Value) (l : List ByteArray) (B0 g c : Nat) (w : World) (hs : s.size ≤ 60) (hl : l.length ≤ 20) (h60 : ∀ t ∈ l, t.size ≤ 60) (hv : OwnV w B0 v (l.map tx)) (hg : Holds w g 27 #[.int .i64 7, .bool false, .slice none 0 0, .int .u64 0, .string ⟨#[]⟩, v]) :
    Calls Tryz.prog 9 #[.string s, .string ⟨#[106, 111, 105, 110]⟩, .slice (some ⟨g, 0, none⟩) 1 c] w fun e w' => e = .returned (.tuple #[tv (joinB s l), .slice none 0 0, .bool true]) ∧ Below w.heap.size w w' := by
  have ha2 := Lib.hid (method_join s v l B0 g c _ hs hl h60 (hv.later (below_one (.cells #[.int .i64 0, .bool false, .slice none 0 0, .int .u64 0, .string ⟨#[]⟩, .slice none 0 0] 27) (Nat.le_refl _))) (hg.alloc (.cells #[.int .i64 0, .bool false, .slice none 0 0, .int .u64 0, .string ⟨#[]⟩, .slice none 0 0] 27)))
  clear hg hv h60
  generalize joinB s l = R at ha2 ⊢
  unfold tv at *
  go_enter Tryz.func9, Tryz.ntmps9
  go_wp2_with fail
  refine ha2.out.mono ?_
  rintro e w1 ⟨rfl, hb1⟩
  obtain ⟨hk, hfin⟩ := answer R hb1
  obtain ⟨p0, p1, p2, p3, p4, p5, pl, f0, f1, f2, f3, f4, f5⟩ := val_facts hk
  have hput := six_put hk (.int .i64 4) (.bool false) (.slice none 0 0) (.int .u64 0) (.string R) (.slice none 0 0)
  clear hk hb1
  go_wp2_with fail
  obtain ⟨W5, hW5⟩ : ∃ W5, ((((((w1.setCell ⟨w.heap.size, 0, none⟩ (.int .i64 4)).setCell ⟨w.heap.size, 1, none⟩ (.bool false)).setCell ⟨w.heap.size, 2, none⟩ (.slice none 0 0)).setCell ⟨w.heap.size, 3, none⟩ (.int .u64 0)).setCell ⟨w.heap.size, 4, none⟩ (.string R)).setCell ⟨w.heap.size, 5, none⟩ (.slice none 0 0)) = W5 := ⟨_, rfl⟩
  rw [hW5] at hput hfin ⊢
  obtain ⟨p0, p1, p2, p3, p4, p5, pl, f0, f1, f2, f3, f4, f5⟩ := val_facts hput
  have hfin' := Lib.hid (six_below (s := w.heap.size) (.int .i64 4) (.bool false) (.slice none 0 0) (.int .u64 0) (.string R) (.slice none 0 0) hfin (Nat.le_refl _))
  clear hW5 hput hfin
  go_wp2_with fail
  go_loopw [7, 21] (fun l i wr => l = .slice none 0 0 ∧ i = .int .i64 0 ∧ wr = W5) (fun _ _ _ => 0)
  case atStart => exact ⟨rfl, rfl, rfl⟩
  case round =>
    obtain ⟨rfl, rfl, rfl⟩ := hrel
    go_wp2
    exact bodyPost_ret (v := .tuple #[.agg #[.int .i64 4, .bool false, .slice none 0 0, .int .u64 0, .string R, .slice none 0 0], .slice none 0 0, .bool true]) (by simp [results, Tryz.results9, go_sem, p0, p1, p2, p3, p4, p5]) rfl ⟨rfl, hfin'.out⟩

/-- a row of strings, as it can be read -/
def RdStr (w : World) (A : Option Addr) (l : List ByteArray) : Prop := (l ≠ [] → A.isSome) ∧ ∀ x, A = some x → ∀ j (hj : j < l.length), w.cell? (x.add j) = some (.string l[j])
theorem RdStr.later {w w' : World} {A : Option Addr} {l : List ByteArray} {B : Nat} (h : RdStr w A l) (hb : Below B w w') (hB : ∀ x, A = some x → x.block < B) : RdStr w' A l :=
  ⟨h.1, fun x hx j hj => (hb.cell (p := x.add j) (by rw [show (x.add j).block = x.block by unfold Addr.add; split <;> rfl]; exact hB x hx)).trans (h.2 x hx j hj)⟩
def fitsL (l : List ByteArray) : Bool := l.all fun t => decide (t.size ≤ 2147483647)
set_option maxRecDepth 100000 in
theorem fits_any (A : Option Addr) (l : List ByteArray) (cp : Nat) (w : World) (h0 : l.length ≤ 2147483647) (hl : ∀ t ∈ l, t.size ≤ maxLen) (hr : RdStr w A l) : Calls Tryz.prog 15 #[.slice A l.length cp] w fun e w' => e = .returned (.bool (fitsL l)) ∧ w = w' := by
  unfold maxLen at hl
  go_enter Tryz.func15, Tryz.ntmps15
  go_wp2
  go_loop [10] (fun i => ∃ j : Nat, i = .int .i64 j ∧ j ≤ l.length ∧ Hid (fitsL (l.take j) = true)) (fun i => l.length - (intOf i).toNat)
  case atStart => exact ⟨0, rfl, Nat.zero_le _, Lib.hid rfl⟩
  case round =>
    obtain ⟨j, rfl, hj, hf⟩ := hrel
    by_cases hlt : j < l.length
    · obtain ⟨x, rfl⟩ := Option.isSome_iff_exists.1 (hr.1 (by rintro rfl; simp at hlt))
      have c0 := hr.2 x rfl j hlt
      obtain ⟨t, ht⟩ : ∃ t, l[j] = t := ⟨_, rfl⟩
      rw [ht] at c0
      have hz := hl t (ht ▸ List.getElem_mem _)
      have ht' := Lib.hid ht
      have hr' := Lib.hid hr
      clear ht hr
      by_cases hbig : t.size ≤ 2147483647
      · go_wp2
        go_round
        case rel =>
          refine ⟨j + 1, by go_num, by omega, Lib.hid ?_⟩
          rw [List.take_succ_eq_append_getElem hlt, ht'.out]
          have := hf.out
          unfold fitsL at this ⊢
          rw [List.all_append, this]
          simp [hbig]
        case measure => simp [intOf]; omega
      · have hfalse : fitsL l = false := by
          unfold fitsL
          rw [List.all_eq_false]
          exact ⟨t, ht'.out ▸ List.getElem_mem _, by simpa using hbig⟩
        have hb' : (2147483647 : Int) < (t.size : Int) := by omega
        go_wp2
        go_ret
        exact ⟨rfl, rfl⟩
    · obtain rfl : j = l.length := by omega
      have htrue := hf.out
      rw [List.take_length] at htrue
      go_wp2
      go_ret
      exact ⟨rfl, rfl⟩
end Go.Proofs.YtkflmgpigidkeaaGreat.Rem
