/-
  The program's value of an integer of the language.
-/
import Derived.Test.YtpjkfdgkkpkljaaGreatDoorIntOut
import Derived.Test.YtpjkfdgkkpkljaaGreatDoorIsVal
namespace Go.Proofs.YtpjkfdgkkpkljaaGreatDoor.Big
open Go.RowKit Go.WideShapes Go.Proofs.YtpjkfdgkkpkljaaGreatDoor.Own Go.Proofs.YtpjkfdgkkpkljaaGreatDoor.Num Go.Proofs.YtpjkfdgkkpkljaaGreatDoor.Ref Go.Proofs.YtpjkfdgkkpkljaaGreatDoor.Nat_
set_option linter.unusedVariables false

set_option maxRecDepth 100000 in
theorem bsign_at (g : Nat) (neg : Bool) (V : Nat) (w : World) (h : BigAt w g neg V) (hm : len W V ≤ 10000) :
    Calls Tryz.prog 45 #[.pointer (some ⟨g, 0, none⟩)] w fun e w' => e = .returned (.int .i64 (sgn (sg neg V))) ∧ w' = w := by
  obtain ⟨v, B, hk, ho, hp⟩ := h
  obtain ⟨a, c, rfl, hc, hr⟩ := ho.slice
  have k0 := hk.cell 0
  have k1 := hk.cell 1
  simp at k0 k1
  have hlt := hk.lt
  have hpos := len_pos W_two (v := V)
  obtain ⟨n, hn⟩ : ∃ n, len W V = n := ⟨_, rfl⟩
  rw [hn] at hpos hc k1 hm
  clear hk ho hr hn
  by_cases h0 : V = 0
  · subst h0
    have hneg : neg = false := by cases neg; rfl; exact absurd (hp rfl) (by omega)
    subst hneg
    have hb : ((n : Int) == 0) = true := by simp; omega
    clear hpos hp
    go_enter Tryz.func45, Tryz.ntmps45
    go_wp2
    go_ret
    exact ⟨rfl, rfl⟩
  · have hb : ((n : Int) == 0) = false := by simp; omega
    cases neg
    · have hs : sgn (sg false V) = 1 := by unfold sgn sg; simp; omega
      rw [hs]
      clear hs h0 hpos hp
      go_enter Tryz.func45, Tryz.ntmps45
      go_wp2
      go_ret
      exact ⟨rfl, rfl⟩
    · have hs : sgn (sg true V) = -1 := by unfold sgn sg; simp; omega
      rw [hs]
      clear hs h0 hpos hp
      go_enter Tryz.func45, Tryz.ntmps45
      go_wp2
      go_ret
      exact ⟨rfl, rfl⟩

theorem RdS.above {w w' : World} {B : Nat} {v : Value} {l : List UInt8} (h : RdS w B v l) (hb : Box.Above B w w') (hs : w.heap.size ≤ w'.heap.size) : RdS w' B v l := by
  obtain ⟨a, c, h1, h2, h3, h4, h5⟩ := h
  refine ⟨a, c, h1, ?_, h3, h4, fun x hx => ⟨(h5 x hx).1, ?_⟩⟩
  rotate_left
  · obtain ⟨cs, fz, hcc⟩ := (h5 x hx).2
    exact ⟨cs, fz, (hb _ (h5 x hx).1 (Array.getElem?_eq_some_iff.1 hcc).1).trans hcc⟩
  rcases h2 with h | ⟨x, rfl, hx, hc⟩
  · exact .inl h
  · refine .inr ⟨x, rfl, fun h0 => Nat.lt_of_lt_of_le (hx h0) hs, fun j hj => ?_⟩
    rw [← hc j hj]
    have := hb x.block (h5 x rfl).1 (hx (by omega))
    unfold World.cell?
    rw [block_add, this]
theorem RdS.mono {w : World} {B B' : Nat} {v : Value} {l : List UInt8} (h : RdS w B v l) (hB : B' ≤ B) : RdS w B' v l := by
  obtain ⟨a, c, h1, h2, h3, h4, h5⟩ := h
  exact ⟨a, c, h1, h2, h3, h4, fun x hx => ⟨Nat.le_trans hB (h5 x hx).1, (h5 x hx).2⟩⟩

/-- a value of the program's that reads as an integer -/
def IsValR (w : World) (B : Nat) (v : Value) (neg : Bool) (m : Nat) : Prop := ∃ u, v = .agg #[.int .i64 2, .bool neg, u, .int .u64 0, .string ⟨#[]⟩, .slice none 0 0] ∧ RdS w B u (mag m) ∧ (neg = true → 0 < m)

set_option maxHeartbeats 1000000 in
set_option maxRecDepth 100000 in
theorem number_any (v : Value) (z : Int) (B : Nat) (w : World) (h : SInt w B v z) :
    Calls Tryz.prog 27 #[v] w fun e w' => (∃ x, e = .returned x ∧ IsValR w' w.heap.size x (decide (z < 0)) z.natAbs) ∧ Below w.heap.size w w' := by
  obtain ⟨a, p, rfl⟩ : ∃ a p, v = .agg #[.int .i64 a, .pointer p] := by
    rcases h with ⟨rfl, _⟩ | ⟨g, neg, V, rfl, _⟩
    · exact ⟨_, _, rfl⟩
    · exact ⟨_, _, rfl⟩
  have hb := Lib.hid fun W (hW : Below w.heap.size w W) => sBig_any _ z B W (h.later hW)
  have hsg := Lib.hid fun g neg V W hB hm => bsign_at g neg V W hB hm
  have hby := Lib.hid fun g neg V W hB hm => ibytes_any g neg V W hB hm
  clear h
  go_enter Tryz.func27, Tryz.ntmps27
  go_wp2_with fail
  obtain ⟨w1, hw1⟩ : ∃ w1, ((w.alloc (.cells #[.int .i64 a, .pointer p] 61)).alloc (.cells #[.int .i64 0, .bool false, .slice none 0 0, .int .u64 0, .string ⟨#[]⟩, .slice none 0 0] 28)) = w1 := ⟨_, rfl⟩
  have hs1 : w1.heap.size = w.heap.size + 2 := by rw [← hw1]; simp
  have hb1 : Below w.heap.size w w1 := by rw [← hw1]; exact ((Below.refl _ _).alloc (Nat.le_refl _) _).alloc (by simp) _
  have hk1 : Box.Holds w1 (w.heap.size + 1) 28 #[.int .i64 0, .bool false, .slice none 0 0, .int .u64 0, .string ⟨#[]⟩, .slice none 0 0] := by
    have := Box.Holds.made (w.alloc (.cells #[.int .i64 a, .pointer p] 61)) 28 #[.int .i64 0, .bool false, .slice none 0 0, .int .u64 0, .string ⟨#[]⟩, .slice none 0 0]
    rwa [World.size_alloc, hw1] at this
  rw [hw1]
  clear hw1
  refine (hb.out w1 hb1).mono ?_
  rintro e w2 ⟨g, neg, V, rfl, hbig, hz, hm, hb2⟩
  have hbig' := Lib.hid hbig
  have hsg' := Lib.hid (hsg.out g neg V w2 hbig hm)
  have hby' := Lib.hid (hby.out g neg V w2 hbig hm)
  have hb12 := Lib.hid (hb1.trans (hb2.mono (by omega)))
  have hk2 := Lib.hid (hk1.later hb2)
  clear hb hsg hby hbig hm hb1 hb2 hk1
  rw [hz] at hsg'
  go_wp2_with fail
  refine hsg'.out.mono ?_
  rintro e w2' ⟨rfl, rfl⟩
  go_wp2_with fail
  refine hby'.out.mono ?_
  rintro e w3 ⟨⟨u, rfl, hu⟩, hb3⟩
  have hs2 := hb12.out.size
  have hs3 := hb3.size
  have hk3 := hk2.out.later hb3
  have k0 := hk3.cell 0
  have k1 := hk3.cell 1
  have k2 := hk3.cell 2
  have k3 := hk3.cell 3
  have k4 := hk3.cell 4
  have k5 := hk3.cell 5
  simp at k0 k1 k2 k3 k4 k5
  have f0 := hk3.free 0
  have f1 := hk3.free 1
  have f2 := hk3.free 2
  have f3 := hk3.free 3
  have f4 := hk3.free 4
  have f5 := hk3.free 5
  have hlt2 := hk2.out.lt
  have hu' := Lib.hid hu
  have hb13 := Lib.hid (hb12.out.trans (hb3.mono hs2))
  have hlt3 := hk3.lt
  obtain ⟨ua, uc, rfl, hrest⟩ := hu
  obtain ⟨n, hn⟩ : ∃ n, (mag V).length = n := ⟨_, rfl⟩
  rw [hn] at hu' ⊢
  clear hrest hb12 hk2 hb3 hk3
  go_wp2
  have hV : V = z.natAbs := by rw [← hz]; unfold sg; cases neg <;> simp
  have hd : decide (sgn z < 0) = decide (z < 0) := by
    have : sgn z < 0 ↔ z < 0 := by unfold sgn; split <;> (try split) <;> omega
    simp [this]
  have hab : Box.Above w2'.heap.size w3 _ := ((((((Box.Above.refl w2'.heap.size w3).setCell (p := ⟨w.heap.size + 1, 0, none⟩) hlt2 (.int .i64 2)).setCell (p := ⟨w.heap.size + 1, 1, none⟩) hlt2 (.bool (decide (sgn z < 0)))).setCell (p := ⟨w.heap.size + 1, 2, none⟩) hlt2 (.slice ua n uc)).setCell (p := ⟨w.heap.size + 1, 3, none⟩) hlt2 (.int .u64 0)).setCell (p := ⟨w.heap.size + 1, 4, none⟩) hlt2 (.string ⟨#[]⟩)).setCell (p := ⟨w.heap.size + 1, 5, none⟩) hlt2 (.slice none 0 0)
  have hle1 : w.heap.size ≤ w.heap.size + 1 := by omega
  have hfin := (hu'.out.above hab (by simp)).mono hs2
  have hbel := (((((hb13.out.setCell (p := ⟨w.heap.size + 1, 0, none⟩) hle1 (.int .i64 2)).setCell (p := ⟨w.heap.size + 1, 1, none⟩) hle1 (.bool (decide (sgn z < 0)))).setCell (p := ⟨w.heap.size + 1, 2, none⟩) hle1 (.slice ua n uc)).setCell (p := ⟨w.heap.size + 1, 3, none⟩) hle1 (.int .u64 0)).setCell (p := ⟨w.heap.size + 1, 4, none⟩) hle1 (.string ⟨#[]⟩)).setCell (p := ⟨w.heap.size + 1, 5, none⟩) hle1 (.slice none 0 0)
  exact bodyPost_ret (v := .agg #[.int .i64 2, .bool (decide (sgn z < 0)), .slice ua n uc, .int .u64 0, .string ⟨#[]⟩, .slice none 0 0]) (by simp [results, Tryz.results27, go_sem, k0, k1, k2, k3, k4, k5]) rfl ⟨⟨_, rfl, _, by rw [hd], hV ▸ hfin, fun h => by simp at h; omega⟩, hbel⟩
end Go.Proofs.YtpjkfdgkkpkljaaGreatDoor.Big
