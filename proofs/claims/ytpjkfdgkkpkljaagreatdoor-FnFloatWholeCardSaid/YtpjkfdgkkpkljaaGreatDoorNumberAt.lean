/-
  The program's value of an integer of the language, its great number anywhere on the heap.
-/
import Derived.Test.YtpjkfdgkkpkljaaGreatDoorRatCut
import Derived.Test.YtpjkfdgkkpkljaaGreatDoorNumber
namespace Go.Proofs.YtpjkfdgkkpkljaaGreatDoor.Big
open Go.RowKit Go.WideShapes Go.Proofs.YtpjkfdgkkpkljaaGreatDoor.Own Go.Proofs.YtpjkfdgkkpkljaaGreatDoor.Num Go.Proofs.YtpjkfdgkkpkljaaGreatDoor.Ref Go.Proofs.YtpjkfdgkkpkljaaGreatDoor.Nat_
set_option linter.unusedVariables false

theorem SAt.later {w w' : World} {v : Value} {z : Int} (h : SAt w v z) (hb : Below w.heap.size w w') : SAt w' v z := by
  rcases h with h | ⟨g, neg, V, h1, h2, h3⟩
  · exact .inl h
  · exact .inr ⟨g, neg, V, h1, h2.later hb, h3⟩
theorem bset_big (g2 g : Nat) (neg : Bool) (V : Nat) (w : World) (hg2 : Box.Holds w g2 85 #[.bool false, .slice none 0 0]) (h : BigAt w g neg V) (hgg : g < g2) (hm : len W V ≤ 10000) :
    Calls Tryz.prog 61 #[.pointer (some ⟨g2, 0, none⟩), .pointer (some ⟨g, 0, none⟩)] w fun e w' => (e = .returned (.pointer (some ⟨g2, 0, none⟩)) ∧ BigAt w' g2 neg V) ∧ Below g2 w w' := by
  obtain ⟨v, B, hk, hn, hp⟩ := h
  refine (bset_new g2 g 0 V B neg v _ _ w hg2 (Box.Holds.two hk 0 _ _ rfl rfl) hn hm (by omega) hk).mono ?_
  rintro e w' ⟨rfl, ⟨u, h1, h2⟩, h3⟩
  exact ⟨⟨rfl, ⟨u, _, h1, h2, hp⟩⟩, h3⟩

set_option maxHeartbeats 1000000 in
set_option maxRecDepth 100000 in
theorem sBig_at (v : Value) (z : Int) (w : World) (h : SAt w v z) : Calls Tryz.prog 47 #[v] w (BigOf z w) := by
  rcases h with ⟨rfl, hs⟩ | ⟨g, neg, V, rfl, hbig, hz, hs, hm⟩
  · have hbd := isS_bounds hs
    have hget := Lib.hid fun w => get_any z none w
    have hnew := Lib.hid fun W => newint_any z (by omega) (by omega) W
    have hof := Lib.hid (show ∀ W e W', NewB z W e W' → BigOf z W e W' from fun W e W' h => h.of (by omega) (by omega))
    have k0 : (w.alloc (.cells #[.int .i64 z, .pointer none] 61)).cell? ⟨w.heap.size, 0, none⟩ = some (.int .i64 z) := by rw [World.cell?_alloc_at _ _ _ _ rfl]; rfl
    have k1 : (w.alloc (.cells #[.int .i64 z, .pointer none] 61)).cell? ⟨w.heap.size, 1, none⟩ = some (.pointer none) := by rw [World.cell?_alloc_at _ _ _ _ rfl]; rfl
    clear hs
    go_enter Tryz.func47, Tryz.ntmps47
    go_wp2_with fail
    refine (hget.out _).mono ?_
    rintro e w1 ⟨rfl, hb1⟩
    have hbw : Below w.heap.size w w1 := (below_one _ (Nat.le_refl _)).trans (hb1.mono (by simp))
    clear hb1
    go_wp2_with fail
    refine (hnew.out _).mono ?_
    rintro e w2 hnb
    obtain ⟨g, neg, V, rfl, hbig, hz, hm, hb2⟩ := hof.out _ _ _ hnb
    have hfin := Lib.hid (show BigAt w2 g neg V ∧ sg neg V = z ∧ len W V ≤ 10000 ∧ Below w.heap.size w w2 from ⟨hbig, hz, hm, hbw.trans (hb2.mono hbw.size)⟩)
    clear hbig hz hm hb2 hbw hnb
    go_wp2
    go_ret
    exact ⟨_, _, _, rfl, hfin.out.1, hfin.out.2.1, hfin.out.2.2.1, hfin.out.2.2.2⟩
  · have hget := Lib.hid fun w => get_any 0 (some ⟨g, 0, none⟩) w
    have hset := Lib.hid fun g2 W hk hb hlt => bset_big g2 g neg V W hk hb hlt hm
    have k0 : (w.alloc (.cells #[.int .i64 0, .pointer (some ⟨g, 0, none⟩)] 61)).cell? ⟨w.heap.size, 0, none⟩ = some (.int .i64 0) := by rw [World.cell?_alloc_at _ _ _ _ rfl]; rfl
    have k1 : (w.alloc (.cells #[.int .i64 0, .pointer (some ⟨g, 0, none⟩)] 61)).cell? ⟨w.heap.size, 1, none⟩ = some (.pointer (some ⟨g, 0, none⟩)) := by rw [World.cell?_alloc_at _ _ _ _ rfl]; rfl
    have hbig' := Lib.hid hbig
    have hz' := Lib.hid hz
    clear hz hs hbig
    go_enter Tryz.func47, Tryz.ntmps47
    go_wp2_with fail
    refine (hget.out _).mono ?_
    rintro e w1 ⟨rfl, hb1⟩
    have hbw : Below w.heap.size w w1 := (below_one _ (Nat.le_refl _)).trans (hb1.mono (by simp))
    have hs2 := Lib.hid (hset.out w1.heap.size (w1.alloc (.cells #[.bool false, .slice none 0 0] 85)) (Box.Holds.made _ _ _) ((hbig'.out.later hbw).later (below_one _ (Nat.le_refl _))) (hbig'.out.later hbw).lt)
    have hbw' := Lib.hid hbw
    clear hb1 hbw
    go_wp2_with fail
    refine hs2.out.mono ?_
    rintro e w2 ⟨⟨rfl, hbg⟩, hb2⟩
    have hfin := Lib.hid (show BigAt w2 w1.heap.size neg V ∧ sg neg V = z ∧ len W V ≤ 10000 ∧ Below w.heap.size w w2 from ⟨hbg, hz'.out.symm, hm, (hbw'.out.alloc hbw'.out.size _).trans (hb2.mono hbw'.out.size)⟩)
    clear hbg hb2 hbw' hs2 hbig' hz'
    go_wp2
    go_ret
    exact ⟨_, _, _, rfl, hfin.out.1, hfin.out.2.1, hfin.out.2.2.1, hfin.out.2.2.2⟩
set_option maxHeartbeats 1000000 in
set_option maxRecDepth 100000 in
theorem number_at (v : Value) (z : Int) (w : World) (h : SAt w v z) :
    Calls Tryz.prog 27 #[v] w fun e w' => (∃ x, e = .returned x ∧ IsValR w' w.heap.size x (decide (z < 0)) z.natAbs) ∧ Below w.heap.size w w' := by
  obtain ⟨a, p, rfl⟩ := h.shape
  have hb := Lib.hid fun W (hW : Below w.heap.size w W) => sBig_at _ z W (h.later hW)
  have hsg := Lib.hid fun g neg V W hB hm => bsign_at g neg V W hB hm
  have hby := Lib.hid fun g neg V W hB hm => ibytes_any g neg V W hB hm
  clear h
  go_enter Tryz.func27, Tryz.ntmps27
  go_wp2_with fail
  obtain ⟨w1, hw1⟩ : ∃ w1, ((w.alloc (.cells #[.int .i64 a, .pointer p] 61)).alloc (.cells #[.int .i64 0, .bool false, .slice none 0 0, .int .u64 0, .string ⟨#[]⟩, .slice none 0 0] 28)) = w1 := ⟨_, rfl⟩
  have hs1 : w1.heap.size = w.heap.size + 2 := by rw [← hw1]; simp
  have hb1 : Below w.heap.size w w1 := by rw [← hw1]; exact ((Below.refl _ _).alloc (Nat.le_refl _) _).alloc (by simp) _
  have hk1 : Box.Holds w1 (w.heap.size + 1) 28 #[.int .i64 0, .bool false, .slice none 0 0, .int .u64 0, .string ⟨#[]⟩, .slice none 0 0] := by
    have := Box.Holds.made (w.alloc (.cells #[.int .i64 a, .pointer p] 61)) 28 #[.int .i64 0, .bool false, .slice none 0 0, .int .u64 0, .string ⟨#[]⟩, .slice none 0 0]
    rwa [World.size_alloc, hw1] at this
  rw [hw1]
  clear hw1
  refine (hb.out w1 hb1).mono ?_
  rintro e w2 ⟨g, neg, V, rfl, hbig, hz, hm, hb2⟩
  have hbig' := Lib.hid hbig
  have hsg' := Lib.hid (hsg.out g neg V w2 hbig hm)
  have hby' := Lib.hid (hby.out g neg V w2 hbig hm)
  have hb12 := Lib.hid (hb1.trans (hb2.mono (by omega)))
  have hk2 := Lib.hid (hk1.later hb2)
  clear hb hsg hby hbig hm hb1 hb2 hk1
  rw [hz] at hsg'
  go_wp2_with fail
  refine hsg'.out.mono ?_
  rintro e w2' ⟨rfl, rfl⟩
  go_wp2_with fail
  refine hby'.out.mono ?_
  rintro e w3 ⟨⟨u, rfl, hu⟩, hb3⟩
  have hs2 := hb12.out.size
  have hs3 := hb3.size
  have hk3 := hk2.out.later hb3
  have k0 := hk3.cell 0
  have k1 := hk3.cell 1
  have k2 := hk3.cell 2
  have k3 := hk3.cell 3
  have k4 := hk3.cell 4
  have k5 := hk3.cell 5
  simp at k0 k1 k2 k3 k4 k5
  have f0 := hk3.free 0
  have f1 := hk3.free 1
  have f2 := hk3.free 2
  have f3 := hk3.free 3
  have f4 := hk3.free 4
  have f5 := hk3.free 5
  have hlt2 := hk2.out.lt
  have hu' := Lib.hid hu
  have hb13 := Lib.hid (hb12.out.trans (hb3.mono hs2))
  have hlt3 := hk3.lt
  obtain ⟨ua, uc, rfl, hrest⟩ := hu
  obtain ⟨n, hn⟩ : ∃ n, (mag V).length = n := ⟨_, rfl⟩
  rw [hn] at hu' ⊢
  clear hrest hb12 hk2 hb3 hk3
  go_wp2
  have hV : V = z.natAbs := by rw [← hz]; unfold sg; cases neg <;> simp
  have hd : decide (sgn z < 0) = decide (z < 0) := by
    have : sgn z < 0 ↔ z < 0 := by unfold sgn; split <;> (try split) <;> omega
    simp [this]
  have hab : Box.Above w2'.heap.size w3 _ := ((((((Box.Above.refl w2'.heap.size w3).setCell (p := ⟨w.heap.size + 1, 0, none⟩) hlt2 (.int .i64 2)).setCell (p := ⟨w.heap.size + 1, 1, none⟩) hlt2 (.bool (decide (sgn z < 0)))).setCell (p := ⟨w.heap.size + 1, 2, none⟩) hlt2 (.slice ua n uc)).setCell (p := ⟨w.heap.size + 1, 3, none⟩) hlt2 (.int .u64 0)).setCell (p := ⟨w.heap.size + 1, 4, none⟩) hlt2 (.string ⟨#[]⟩)).setCell (p := ⟨w.heap.size + 1, 5, none⟩) hlt2 (.slice none 0 0)
  have hle1 : w.heap.size ≤ w.heap.size + 1 := by omega
  have hfin := (hu'.out.above hab (by simp)).mono hs2
  have hbel := (((((hb13.out.setCell (p := ⟨w.heap.size + 1, 0, none⟩) hle1 (.int .i64 2)).setCell (p := ⟨w.heap.size + 1, 1, none⟩) hle1 (.bool (decide (sgn z < 0)))).setCell (p := ⟨w.heap.size + 1, 2, none⟩) hle1 (.slice ua n uc)).setCell (p := ⟨w.heap.size + 1, 3, none⟩) hle1 (.int .u64 0)).setCell (p := ⟨w.heap.size + 1, 4, none⟩) hle1 (.string ⟨#[]⟩)).setCell (p := ⟨w.heap.size + 1, 5, none⟩) hle1 (.slice none 0 0)
  exact bodyPost_ret (v := .agg #[.int .i64 2, .bool (decide (sgn z < 0)), .slice ua n uc, .int .u64 0, .string ⟨#[]⟩, .slice none 0 0]) (by simp [results, Tryz.results27, go_sem, k0, k1, k2, k3, k4, k5]) rfl ⟨⟨_, rfl, _, by rw [hd], hV ▸ hfin, fun h => by simp at h; omega⟩, hbel⟩
end Go.Proofs.YtpjkfdgkkpkljaaGreatDoor.Big
