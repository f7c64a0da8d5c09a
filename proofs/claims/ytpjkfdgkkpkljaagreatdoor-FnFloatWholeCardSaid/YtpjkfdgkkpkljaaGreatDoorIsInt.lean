/-
  The question whether the program's value is the reference's integer.
-/
import Derived.Test.YtpjkfdgkkpkljaaGreatDoorNumber
import Derived.Test.YtpjkfdgkkpkljaaGreatDoorSpecInt2
import Derived.BigQuiet
namespace Go.Proofs.YtpjkfdgkkpkljaaGreatDoor.Big
open Go.RowKit Go.WideShapes Go.Proofs.YtpjkfdgkkpkljaaGreatDoor.Own Go.Proofs.YtpjkfdgkkpkljaaGreatDoor.Num Go.Proofs.YtpjkfdgkkpkljaaGreatDoor.Ref Go.Proofs.YtpjkfdgkkpkljaaGreatDoor.Nat_
set_option linter.unusedVariables false

set_option maxHeartbeats 2000000 in
set_option maxRecDepth 100000 in
theorem is_any (v u : Value) (neg : Bool) (m B B' : Nat) (w : World) (h : IsValR w B v neg m) (hx : RdS w B' u (mag m)) (hm : (mag m).length ≤ 2147483647) :
    Calls Tryz.prog 11 #[v, .agg #[.bool neg, u]] w fun e w' => e = .returned (.bool true) ∧ Below w.heap.size w w' := by
  obtain ⟨v2, rfl, ⟨a, c, rfl, hr, hc, hn, _⟩, _⟩ := h
  obtain ⟨a2, c2, rfl, hr2, hc2, hn2, _⟩ := hx
  obtain ⟨l, hl⟩ : ∃ l, mag m = l := ⟨_, rfl⟩
  rw [hl] at hr hr2 hc hc2 hm ⊢
  obtain ⟨n, hln⟩ : ∃ n, l.length = n := ⟨_, rfl⟩
  rw [hln] at hc hc2 hm ⊢
  obtain ⟨w1, hw1⟩ : ∃ w1, ((w.alloc (.cells #[.int .i64 2, .bool neg, .slice a n c, .int .u64 0, .string ⟨#[]⟩, .slice none 0 0] 28)).alloc (.cells #[.bool neg, .slice a2 n c2] 24)) = w1 := ⟨_, rfl⟩
  have hb1 : Below w.heap.size w w1 := by rw [← hw1]; exact ((Below.refl _ _).alloc (Nat.le_refl _) _).alloc (by simp) _
  have hk1 : Box.Holds w1 w.heap.size 28 #[.int .i64 2, .bool neg, .slice a n c, .int .u64 0, .string ⟨#[]⟩, .slice none 0 0] := by
    rw [← hw1]; exact (Box.Holds.made w _ _).alloc _
  have hk2 : Box.Holds w1 (w.heap.size + 1) 24 #[.bool neg, .slice a2 n c2] := by
    have := Box.Holds.made (w.alloc (.cells #[.int .i64 2, .bool neg, .slice a n c, .int .u64 0, .string ⟨#[]⟩, .slice none 0 0] 28)) 24 #[.bool neg, .slice a2 n c2]
    rwa [World.size_alloc, hw1] at this
  have hr' := Lib.hid (hr.later hb1)
  have hr2' := Lib.hid (hr2.later hb1)
  have k0 := hk1.cell 0
  have k1 := hk1.cell 1
  have k2 := hk1.cell 2
  have k3 := hk1.cell 3
  have k4 := hk1.cell 4
  have k5 := hk1.cell 5
  have j0 := hk2.cell 0
  have j1 := hk2.cell 1
  simp at k0 k1 k2 k3 k4 k5 j0 j1
  have hb1' := Lib.hid hb1
  have hln' := Lib.hid hln
  clear hr hr2 hk1 hk2 hb1 hl hln
  subst hw1
  go_enter Tryz.func11, Tryz.ntmps11
  go_wp2
  obtain ⟨w1, hw1⟩ : ∃ w1, ((w.alloc (.cells #[.int .i64 2, .bool neg, .slice a n c, .int .u64 0, .string ⟨#[]⟩, .slice none 0 0] 28)).alloc (.cells #[.bool neg, .slice a2 n c2] 24)) = w1 := ⟨_, rfl⟩
  rw [hw1] at hr' hr2' k0 k1 k2 k3 k4 k5 j0 j1 hb1' ⊢
  clear hw1 k0 k1 k3 k4 k5 j0
  have hst := Lib.hid (show w1.cell? ⟨w.heap.size, 2, none⟩ = some (.slice a n c) ∧ w1.cell? ⟨w.heap.size + 1, 1, none⟩ = some (.slice a2 n c2) ∧ Rd w1 a l ∧ Rd w1 a2 l ∧ Below w.heap.size w w1 from ⟨k2, j1, hr'.out, hr2'.out, hb1'.out⟩)
  clear k2 j1 hr' hr2' hb1'
  go_loopw [5, 44] (fun _ i wr => ∃ k : Nat, k ≤ n ∧ i = .int .i64 k ∧ Hid (wr.cell? ⟨w.heap.size, 2, none⟩ = some (.slice a n c) ∧ wr.cell? ⟨w.heap.size + 1, 1, none⟩ = some (.slice a2 n c2) ∧ Rd wr a l ∧ Rd wr a2 l ∧ Below w.heap.size w wr)) (fun _ i _ => n - (intOf i).toNat)
  case atStart => exact ⟨0, Nat.zero_le _, rfl, hst⟩
  case round =>
    clear hst
    obtain ⟨k, hk, rfl, hI⟩ := hrel
    by_cases hlt : k < n
    · obtain ⟨k2, j1, hr, hr2, hb1⟩ := hI.out
      obtain ⟨x, rfl, hx⟩ := hr.at_ (k := k) (by rw [hln'.out]; exact hlt)
      obtain ⟨x2, rfl, hx2⟩ := hr2.at_ (k := k) (by rw [hln'.out]; exact hlt)
      obtain ⟨b, hb⟩ : ∃ b, l[k]'(by rw [hln'.out]; exact hlt) = b := ⟨_, rfl⟩
      rw [hb] at hx hx2
      have hdr := Lib.hid (fun q : Nat => (show Hid (((wr.drewN q).cell? ⟨w.heap.size, 2, none⟩ = some (.slice (some x) n c)) ∧ ((wr.drewN q).cell? ⟨w.heap.size + 1, 1, none⟩ = some (.slice (some x2) n c2)) ∧ Rd (wr.drewN q) (some x) l ∧ Rd (wr.drewN q) (some x2) l ∧ Below w.heap.size w (wr.drewN q)) from Lib.hid ⟨k2, j1, hr, hr2, Box.below_drawn hb1 q⟩))
      clear hb hr hr2 hn hn2 hln' hI hb1
      go_wp2_with fail
      go_quiet (fail)
      go_wp2
      go_roundw
      case rel => exact ⟨k + 1, by omega, by simp, hdr.out _⟩
      case measure => simp [intOf]; omega
    · have : k = n := by omega
      subst this
      go_wp2
      go_ret
      exact ⟨rfl, hI.out.2.2.2.2⟩
end Go.Proofs.YtpjkfdgkkpkljaaGreatDoor.Big
