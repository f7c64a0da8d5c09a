/-
  The reference's question whether two values are told alike, at two of one value without parts.
-/
import Derived.Test.YtkflmgpigidkeaaGreatScClean
import Derived.Test.YtkflmgpigidkeaaGreatSpecInt3
import Derived.Deep.RegionHeld3
namespace Go.Proofs.YtkflmgpigidkeaaGreat.Sc
open Go.RowKit Go.WideShapes Go.Proofs.YtkflmgpigidkeaaGreat.Own Go.Proofs.YtkflmgpigidkeaaGreat.Num Go.Proofs.YtkflmgpigidkeaaGreat.Ref Go.Proofs.YtkflmgpigidkeaaGreat.Nat_ Go.Proofs.YtkflmgpigidkeaaGreat.Big Go.Proofs.YtkflmgpigidkeaaGreat.VRow
set_option linter.unusedVariables false

set_option maxRecDepth 100000 in
theorem samelist_nil (w : World) : Calls Tryz.prog 41 #[.slice none 0 0, .slice none 0 0] w fun e w' => e = .returned (.bool true) ∧ w = w' := by
  go_enter Tryz.func41, Tryz.ntmps41
  go_wp2
  go_loop [5] (fun i => i = .int .i64 0) (fun _ => 0)
  case atStart => rfl
  case round =>
    subst hrel
    go_wp2
    go_ret
    exact ⟨rfl, rfl⟩

section
variable {w : World}
set_option maxHeartbeats 2000000 in
set_option maxRecDepth 100000 in
theorem same_none : Calls Tryz.prog 14 #[.agg #[.int .i64 0, .bool false, .slice none 0 0, .int .u64 0, .string ⟨#[]⟩, .slice none 0 0], .agg #[.int .i64 0, .bool false, .slice none 0 0, .int .u64 0, .string ⟨#[]⟩, .slice none 0 0]] w fun e w' => e = .returned (.bool true) ∧ Below w.heap.size w w' := by
  have hs := Lib.hid fun W => samelist_nil W
  go_enter Tryz.func14, Tryz.ntmps14
  go_wp2_with fail
  refine (hs.out _).mono ?_
  rintro e w' ⟨rfl, rfl⟩
  go_wp2
  go_ret
  exact ⟨rfl, (below_one' _ (Nat.le_refl _)).alloc (by simp) _⟩
set_option maxHeartbeats 2000000 in
set_option maxRecDepth 100000 in
theorem same_text (k : Int) (hk : k = 4 ∨ k = 5) (t : ByteArray) : Calls Tryz.prog 14 #[.agg #[.int .i64 k, .bool false, .slice none 0 0, .int .u64 0, .string t, .slice none 0 0], .agg #[.int .i64 k, .bool false, .slice none 0 0, .int .u64 0, .string t, .slice none 0 0]] w fun e w' => e = .returned (.bool true) ∧ Below w.heap.size w w' := by
  have hs := Lib.hid fun W => samelist_nil W
  rcases hk with rfl | rfl
  all_goals
    go_enter Tryz.func14, Tryz.ntmps14
    go_wp2_with fail
    refine (hs.out _).mono ?_
    rintro e w' ⟨rfl, rfl⟩
    go_wp2
    go_ret
    exact ⟨rfl, (below_one' _ (Nat.le_refl _)).alloc (by simp) _⟩
set_option maxHeartbeats 2000000 in
set_option maxRecDepth 100000 in
theorem same_bits (k : Int) (hk : k = 1 ∨ k = 3) (b : Int) : Calls Tryz.prog 14 #[.agg #[.int .i64 k, .bool false, .slice none 0 0, .int .u64 b, .string ⟨#[]⟩, .slice none 0 0], .agg #[.int .i64 k, .bool false, .slice none 0 0, .int .u64 b, .string ⟨#[]⟩, .slice none 0 0]] w fun e w' => e = .returned (.bool true) ∧ Below w.heap.size w w' := by
  rcases hk with rfl | rfl
  all_goals
    go_enter Tryz.func14, Tryz.ntmps14
    go_wp2
    go_ret
    exact ⟨rfl, (below_one' _ (Nat.le_refl _)).alloc (by simp) _⟩
end
def Cells12 (wr : World) (b : Nat) (x0 x1 x2 x3 x4 x5 y0 y1 y2 y3 y4 y5 : Value) : Prop :=
  wr.cell? ⟨b, 0, none⟩ = some x0 ∧ wr.cell? ⟨b, 1, none⟩ = some x1 ∧ wr.cell? ⟨b, 2, none⟩ = some x2 ∧ wr.cell? ⟨b, 3, none⟩ = some x3 ∧ wr.cell? ⟨b, 4, none⟩ = some x4 ∧ wr.cell? ⟨b, 5, none⟩ = some x5 ∧ wr.cell? ⟨b + 1, 0, none⟩ = some y0 ∧ wr.cell? ⟨b + 1, 1, none⟩ = some y1 ∧ wr.cell? ⟨b + 1, 2, none⟩ = some y2 ∧ wr.cell? ⟨b + 1, 3, none⟩ = some y3 ∧ wr.cell? ⟨b + 1, 4, none⟩ = some y4 ∧ wr.cell? ⟨b + 1, 5, none⟩ = some y5
theorem cells12 {W : World} {b : Nat} {t1 t2 : TypeId} {x0 x1 x2 x3 x4 x5 y0 y1 y2 y3 y4 y5 : Value} (h1 : Box.Holds W b t1 #[x0, x1, x2, x3, x4, x5]) (h2 : Box.Holds W (b + 1) t2 #[y0, y1, y2, y3, y4, y5]) : Cells12 W b x0 x1 x2 x3 x4 x5 y0 y1 y2 y3 y4 y5 :=
  ⟨h1.cell 0, h1.cell 1, h1.cell 2, h1.cell 3, h1.cell 4, h1.cell 5, h2.cell 0, h2.cell 1, h2.cell 2, h2.cell 3, h2.cell 4, h2.cell 5⟩
theorem cmpZ_self (z : Int) : cmpZ z z = 0 := by simp [cmpZ]
set_option maxHeartbeats 2000000 in
set_option maxRecDepth 100000 in
theorem same_int (G : Bool) (V : Nat) (hG : G = true → 0 < V) (hV : V < 256 ^ 40) (u1 u2 : Value) (w : World) (h1 : Mg w u1 (mag V)) (h2 : Mg w u2 (mag V)) : Calls Tryz.prog 14 #[.agg #[.int .i64 2, .bool G, u1, .int .u64 0, .string ⟨#[]⟩, .slice none 0 0], .agg #[.int .i64 2, .bool G, u2, .int .u64 0, .string ⟨#[]⟩, .slice none 0 0]] w fun e w' => e = .returned (.bool true) ∧ Below w.heap.size w w' := by
  obtain ⟨a1, c1, rfl, r1, l1, n1, -⟩ := h1
  obtain ⟨a2, c2, rfl, r2, l2, n2, -⟩ := h2
  have hml : (mag V).length ≤ 2147483647 := Nat.le_trans (mag_len_le hV) (by decide)
  have hGV : (G && decide (0 < be (mag V))) = G := by rw [be_mag]; cases G; rfl; simp [hG rfl]
  have hnum1 := Lib.hid fun W (hW : Below w.heap.size w W) => num_any 2 G a1 (mag V) c1 0 ⟨#[]⟩ none 0 0 W (r1.later hW) hml l1 n1
  have hnum2 := Lib.hid fun W (hW : Below w.heap.size w W) => num_any 2 G a2 (mag V) c2 0 ⟨#[]⟩ none 0 0 W (r2.later hW) hml l2 n2
  rw [hGV, be_mag] at hnum1 hnum2
  have hcmp := Lib.hid fun x y B W hx hy => cmp_any x y G G V V B W hx hy hml hml
  rw [cmpZ_self] at hcmp
  obtain ⟨n, hn⟩ : ∃ n, (mag V).length = n := ⟨_, rfl⟩
  rw [hn] at hnum1 hnum2 ⊢
  obtain ⟨W1, hW1⟩ : ∃ W1, (w.alloc (.cells #[.int .i64 2, .bool G, .slice a1 n c1, .int .u64 0, .string ⟨#[]⟩, .slice none 0 0] 27)).alloc (.cells #[.int .i64 2, .bool G, .slice a2 n c2, .int .u64 0, .string ⟨#[]⟩, .slice none 0 0] 27) = W1 := ⟨_, rfl⟩
  have hb1 : Below w.heap.size w W1 := by rw [← hW1]; exact (below_one' _ (Nat.le_refl _)).alloc (by simp) _
  have hk1 : Box.Holds W1 w.heap.size 27 #[.int .i64 2, .bool G, .slice a1 n c1, .int .u64 0, .string ⟨#[]⟩, .slice none 0 0] := by
    rw [← hW1]; exact (Box.Holds.made w _ _).alloc _
  have hk2 : Box.Holds W1 (w.heap.size + 1) 27 #[.int .i64 2, .bool G, .slice a2 n c2, .int .u64 0, .string ⟨#[]⟩, .slice none 0 0] := by
    rw [← hW1]
    have := Box.Holds.made (w.alloc (.cells #[.int .i64 2, .bool G, .slice a1 n c1, .int .u64 0, .string ⟨#[]⟩, .slice none 0 0] 27)) 27 #[.int .i64 2, .bool G, .slice a2 n c2, .int .u64 0, .string ⟨#[]⟩, .slice none 0 0]
    rwa [World.size_alloc] at this
  have hkeep := Lib.hid fun W (hW : Below W1.heap.size W1 W) => cells12 (hk1.later hW) (hk2.later hW)
  have hup := Lib.hid fun W (hW : Below W1.heap.size W1 W) => hb1.trans (hW.mono hb1.size)
  have hd0 := Lib.hid (show Below W1.heap.size W1 W1.drew from Box.below_drawn (Below.refl W1.heap.size W1) 1)
  have hW1' := Lib.hid hW1
  have hn9 : n ≤ 2147483647 := by omega
  clear r1 r2 l1 l2 n1 n2 hGV hn hW1 hb1 hk1 hk2 hV hG hml
  go_enter Tryz.func14, Tryz.ntmps14
  go_wp2_with fail
  rw [hW1'.out]
  have j1 := hkeep.out W1.drew hd0.out
  unfold Cells12 at j1
  go_region_held3 (fun W => W.cell? ⟨w.heap.size, 0, none⟩ = some (.int .i64 2) ∧ W.cell? ⟨w.heap.size, 1, none⟩ = some (.bool G) ∧ W.cell? ⟨w.heap.size, 2, none⟩ = some (.slice a1 n c1) ∧ W.cell? ⟨w.heap.size, 3, none⟩ = some (.int .u64 0) ∧ W.cell? ⟨w.heap.size, 4, none⟩ = some (.string ⟨#[]⟩) ∧ W.cell? ⟨w.heap.size, 5, none⟩ = some (.slice none 0 0) ∧ W.cell? ⟨w.heap.size + 1, 0, none⟩ = some (.int .i64 2) ∧ W.cell? ⟨w.heap.size + 1, 1, none⟩ = some (.bool G) ∧ W.cell? ⟨w.heap.size + 1, 2, none⟩ = some (.slice a2 n c2) ∧ W.cell? ⟨w.heap.size + 1, 3, none⟩ = some (.int .u64 0) ∧ W.cell? ⟨w.heap.size + 1, 4, none⟩ = some (.string ⟨#[]⟩) ∧ W.cell? ⟨w.heap.size + 1, 5, none⟩ = some (.slice none 0 0))
    (first | go_keep | exact j1 | exact j2 | exact j3 | exact j4)
    (first
      | (go_at_call 37; (with_reducible refine (hnum1.out W1.drew (hup.out _ hd0.out)).mono ?_); rintro e w3 ⟨⟨v3, rfl, hv3⟩, hb3⟩; have hb3' := hd0.out.trans (hb3.mono hd0.out.size); have j2 := hkeep.out w3 hb3'; unfold Cells12 at j2)
      | (go_at_call 37; (with_reducible refine (hnum2.out w3 (hup.out _ hb3')).mono ?_); rintro e w4 ⟨⟨v4, rfl, hv4⟩, hb4⟩; have hb4' := hb3'.trans (hb4.mono hb3'.size); have j3 := hkeep.out w4 hb4'; unfold Cells12 at j3)
      | (go_at_call 38; (with_reducible refine (hcmp.out v3 v4 0 w4 ((hv3.later hb4).mono (Nat.zero_le _)) (hv4.mono (Nat.zero_le _))).mono ?_); rintro e w5 ⟨rfl, hb5⟩; have hb5' := hb4'.trans (hb5.mono hb4'.size); have j4 := hkeep.out w5 hb5'; unfold Cells12 at j4))
  have hfin := Lib.hid (hup.out _ hb5')
  clear j1 j2 j3 j4 hb3 hb4 hb5 hb3' hb4' hb5' hv3 hv4
  go_wp2
  go_ret
  exact ⟨rfl, hfin.out⟩
theorem same_any (x y : V6) (s : Sc) (w : World) (hs : s.ok) (hx : IsSc w x s) (hy : IsSc w y s) : Calls Tryz.prog 14 #[.agg x.arr, .agg y.arr] w fun e w' => e = .returned (.bool true) ∧ Below w.heap.size w w' := by
  cases s with
  | none =>
    obtain rfl : x = _ := hx
    obtain rfl : y = _ := hy
    exact same_none
  | bool b =>
    obtain rfl : x = _ := hx
    obtain rfl : y = _ := hy
    exact same_bits 1 (.inl rfl) _
  | float b =>
    obtain rfl : x = _ := hx
    obtain rfl : y = _ := hy
    exact same_bits 3 (.inr rfl) _
  | text k t =>
    obtain rfl : x = _ := hx
    obtain rfl : y = _ := hy
    cases k
    · exact same_text 4 (.inl rfl) _
    · exact same_text 5 (.inr rfl) _
  | int G V =>
    obtain ⟨u1, rfl, h1⟩ := hx
    obtain ⟨u2, rfl, h2⟩ := hy
    exact same_int G V hs.1 hs.2 u1 u2 w h1 h2
end Go.Proofs.YtkflmgpigidkeaaGreat.Sc
