/-
  The thin package's shifts.
-/
import Derived.Test.YtaappbnbjpbbcaaStarShift
import Derived.Test.YtaappbnbjpbbcaaNumber
namespace Go.Proofs.Ytaappbnbjpbbcaa.Big
open Go.RowKit Go.WideShapes Go.Proofs.Ytaappbnbjpbbcaa.Own Go.Proofs.Ytaappbnbjpbbcaa.Num Go.Proofs.Ytaappbnbjpbbcaa.Ref Go.Proofs.Ytaappbnbjpbbcaa.Nat_
set_option linter.unusedVariables false

theorem len_be (l : List UInt8) (hl : l.length ≤ 1000) (neg : Bool) : len W (sg neg (be l)).natAbs ≤ 4000 := by
  rw [sg_natAbs]
  exact Nat.le_trans (len_le W_two (be_lt_words l 126 (by omega))) (by omega)

theorem IsValR.shape {w : World} {B : Nat} {v : Value} {neg : Bool} {m : Nat} (h : IsValR w B v neg m) : ∃ a n c, v = .agg #[.int .i64 2, .bool neg, .slice a n c, .int .u64 0, .string ⟨#[]⟩, .slice none 0 0] := by
  obtain ⟨u, rfl, ⟨a, c, rfl, -⟩, -⟩ := h
  exact ⟨_, _, _, rfl⟩
theorem IsValR.above {w w' : World} {B : Nat} {v : Value} {neg : Bool} {m : Nat} (h : IsValR w B v neg m) (hb : Box.Above B w w') (hs : w.heap.size ≤ w'.heap.size) : IsValR w' B v neg m := by
  obtain ⟨u, h1, h2, h3⟩ := h
  exact ⟨u, h1, h2.above hb hs, h3⟩
theorem IsValR.mono {w : World} {B B' : Nat} {v : Value} {neg : Bool} {m : Nat} (h : IsValR w B v neg m) (hB : B' ≤ B) : IsValR w B' v neg m := by
  obtain ⟨u, h1, h2, h3⟩ := h
  exact ⟨u, h1, h2.mono hB, h3⟩
theorem IsValR.later {w w' : World} {B : Nat} {v : Value} {neg : Bool} {m : Nat} (h : IsValR w B v neg m) (hb : Below w.heap.size w w') : IsValR w' B v neg m := by
  obtain ⟨u, h1, h2, h3⟩ := h
  exact ⟨u, h1, h2.later hb, h3⟩

set_option maxHeartbeats 1000000 in
set_option maxRecDepth 100000 in
theorem ilsh_any (k : Int) (neg : Bool) (a : Option Addr) (l : List UInt8) (c : Nat) (b : Int) (t : ByteArray) (ka : Option Addr) (kn kc : Nat) (S : Nat) (w : World) (h : Rd w a l) (hl : l.length ≤ 1000) (hc : l.length ≤ c) (hS : S ≤ 4096) (Y : Int) (hY : sg neg (be l) * 2 ^ S = Y) :
    Calls Try.prog 19 #[.agg #[.int .i64 k, .bool neg, .slice a l.length c, .int .u64 b, .string t, .slice ka kn kc], .int .u64 S] w fun e w' => (∃ x, e = .returned x ∧ IsValR w' w.heap.size x (decide (Y < 0)) Y.natAbs) ∧ Below w.heap.size w w' := by
  have hlen := len_be l hl neg
  have hwh := Lib.hid fun W (hW : Below w.heap.size w W) => whole_any k neg a l c b t ka kn kc W (h.later hW) hl hc
  obtain ⟨n, hn⟩ : ∃ n, l.length = n := ⟨_, rfl⟩
  obtain ⟨Z, hZ⟩ : ∃ Z, sg neg (be l) = Z := ⟨_, rfl⟩
  rw [hn, hZ] at hwh
  rw [hn] at hc ⊢
  rw [hZ] at hlen hY
  have hlsh := Lib.hid fun v B W (hW : SInt W B v Z) => slsh_any v Z B S W hW hlen (by omega)
  rw [hY] at hlsh
  have hnum := Lib.hid fun v B W (hW : SInt W B v Y) => number_any v Y B W hW
  obtain ⟨w1, hw1⟩ : ∃ w1, (w.alloc (.cells #[.int .i64 k, .bool neg, .slice a n c, .int .u64 b, .string t, .slice ka kn kc] 26)).alloc (.cells #[.int .i64 0, .bool false, .slice none 0 0, .int .u64 0, .string ⟨#[]⟩, .slice none 0 0] 26) = w1 := ⟨_, rfl⟩
  have hs1 : w1.heap.size = w.heap.size + 2 := by rw [← hw1]; simp
  have hb1 : Below w.heap.size w w1 := by rw [← hw1]; exact ((Below.refl _ _).alloc (Nat.le_refl _) _).alloc (by simp) _
  have hr1 : Box.Holds w1 (w.heap.size + 1) 26 #[.int .i64 0, .bool false, .slice none 0 0, .int .u64 0, .string ⟨#[]⟩, .slice none 0 0] := by
    have := Box.Holds.made (w.alloc (.cells #[.int .i64 k, .bool neg, .slice a n c, .int .u64 b, .string t, .slice ka kn kc] 26)) 26 #[.int .i64 0, .bool false, .slice none 0 0, .int .u64 0, .string ⟨#[]⟩, .slice none 0 0]
    rw [show (w.alloc (.cells #[.int .i64 k, .bool neg, .slice a n c, .int .u64 b, .string t, .slice ka kn kc] 26)).heap.size = w.heap.size + 1 by simp, hw1] at this
    exact this
  have hwh1 := Lib.hid (hwh.out w1 hb1)
  have hr1' := Lib.hid hr1
  have hb1' := Lib.hid hb1
  have hw1' := Lib.hid hw1
  clear hn hZ h hlen hY hb1 hr1 hw1 hwh
  go_enter Try.func19, Try.ntmps19
  go_wp2_with fail
  rw [hw1'.out]
  refine hwh1.out.mono ?_
  rintro e w2 ⟨⟨v, rfl, hv⟩, hb2⟩
  have hl2 := Lib.hid (hlsh.out _ _ _ hv)
  obtain ⟨y0, q0, rfl⟩ := hv.shape
  have hr2 := Lib.hid (hr1'.out.later hb2)
  have hs2 := hb2.size
  have hb2' := Lib.hid (hb1'.out.trans (hb2.mono (by omega)))
  clear hv hb2 hwh1
  go_wp2_with fail
  refine hl2.out.mono ?_
  rintro e w3 ⟨⟨v, rfl, hv⟩, hb3⟩
  have hn3 := Lib.hid (hnum.out _ _ _ hv)
  obtain ⟨y1, q1, rfl⟩ := hv.shape
  have hr3 := Lib.hid (hr2.out.later hb3)
  have hs3 := hb3.size
  have hb3' := Lib.hid (hb2'.out.trans (hb3.mono (by omega)))
  clear hv hb3 hl2
  go_wp2_with fail
  refine hn3.out.mono ?_
  rintro e w4 ⟨⟨v, rfl, hv⟩, hb4⟩
  obtain ⟨a4, n4, c4, rfl⟩ := hv.shape
  have hk4 := hr3.out.later hb4
  have k0 := hk4.cell 0
  have k1 := hk4.cell 1
  have k2 := hk4.cell 2
  have k3 := hk4.cell 3
  have k4 := hk4.cell 4
  have k5 := hk4.cell 5
  simp at k0 k1 k2 k3 k4 k5
  have f0 := hk4.free 0
  have f1 := hk4.free 1
  have f2 := hk4.free 2
  have f3 := hk4.free 3
  have f4 := hk4.free 4
  have f5 := hk4.free 5
  have hlt4 := hk4.lt
  obtain ⟨N, hN⟩ : ∃ N, decide (Y < 0) = N := ⟨_, rfl⟩
  rw [hN] at hv ⊢
  have hlt3 : w.heap.size + 1 < w3.heap.size := by omega
  have hab : Box.Above w3.heap.size w4 _ := ((((((Box.Above.refl w3.heap.size w4).setCell (p := ⟨w.heap.size + 1, 0, none⟩) hlt3 (.int .i64 2)).setCell (p := ⟨w.heap.size + 1, 1, none⟩) hlt3 (.bool N)).setCell (p := ⟨w.heap.size + 1, 2, none⟩) hlt3 (.slice a4 n4 c4)).setCell (p := ⟨w.heap.size + 1, 3, none⟩) hlt3 (.int .u64 0)).setCell (p := ⟨w.heap.size + 1, 4, none⟩) hlt3 (.string ⟨#[]⟩)).setCell (p := ⟨w.heap.size + 1, 5, none⟩) hlt3 (.slice none 0 0)
  have hle1 : w.heap.size ≤ w.heap.size + 1 := by omega
  have hfin := Lib.hid ((hv.above hab (by simp)).mono (show w.heap.size ≤ w3.heap.size by omega))
  have hbel := Lib.hid (((((((hb3'.out.trans (hb4.mono (by omega))).setCell (p := ⟨w.heap.size + 1, 0, none⟩) hle1 (.int .i64 2)).setCell (p := ⟨w.heap.size + 1, 1, none⟩) hle1 (.bool N)).setCell (p := ⟨w.heap.size + 1, 2, none⟩) hle1 (.slice a4 n4 c4)).setCell (p := ⟨w.heap.size + 1, 3, none⟩) hle1 (.int .u64 0)).setCell (p := ⟨w.heap.size + 1, 4, none⟩) hle1 (.string ⟨#[]⟩)).setCell (p := ⟨w.heap.size + 1, 5, none⟩) hle1 (.slice none 0 0))
  clear hv hab hk4 hb4
  go_wp2
  exact bodyPost_ret (v := .agg #[.int .i64 2, .bool N, .slice a4 n4 c4, .int .u64 0, .string ⟨#[]⟩, .slice none 0 0]) (by simp [results, Try.results19, go_sem, k0, k1, k2, k3, k4, k5]) rfl ⟨⟨_, rfl, by rw [hN]; exact hfin.out⟩, hbel.out⟩

set_option maxHeartbeats 1000000 in
set_option maxRecDepth 100000 in
theorem irsh_any (k : Int) (neg : Bool) (a : Option Addr) (l : List UInt8) (c : Nat) (b : Int) (t : ByteArray) (ka : Option Addr) (kn kc : Nat) (S : Nat) (w : World) (h : Rd w a l) (hl : l.length ≤ 1000) (hc : l.length ≤ c) (hS : S ≤ 4096) (Y : Int) (hY : shrZ (sg neg (be l)) S = Y) :
    Calls Try.prog 18 #[.agg #[.int .i64 k, .bool neg, .slice a l.length c, .int .u64 b, .string t, .slice ka kn kc], .int .u64 S] w fun e w' => (∃ x, e = .returned x ∧ IsValR w' w.heap.size x (decide (Y < 0)) Y.natAbs) ∧ Below w.heap.size w w' := by
  have hlen := len_be l hl neg
  have hwh := Lib.hid fun W (hW : Below w.heap.size w W) => whole_any k neg a l c b t ka kn kc W (h.later hW) hl hc
  obtain ⟨n, hn⟩ : ∃ n, l.length = n := ⟨_, rfl⟩
  obtain ⟨Z, hZ⟩ : ∃ Z, sg neg (be l) = Z := ⟨_, rfl⟩
  rw [hn, hZ] at hwh
  rw [hn] at hc ⊢
  rw [hZ] at hlen hY
  have hlsh := Lib.hid fun v B W (hW : SInt W B v Z) => srsh_any v Z B S W hW hlen (by omega)
  rw [hY] at hlsh
  have hnum := Lib.hid fun v B W (hW : SInt W B v Y) => number_any v Y B W hW
  obtain ⟨w1, hw1⟩ : ∃ w1, (w.alloc (.cells #[.int .i64 k, .bool neg, .slice a n c, .int .u64 b, .string t, .slice ka kn kc] 26)).alloc (.cells #[.int .i64 0, .bool false, .slice none 0 0, .int .u64 0, .string ⟨#[]⟩, .slice none 0 0] 26) = w1 := ⟨_, rfl⟩
  have hs1 : w1.heap.size = w.heap.size + 2 := by rw [← hw1]; simp
  have hb1 : Below w.heap.size w w1 := by rw [← hw1]; exact ((Below.refl _ _).alloc (Nat.le_refl _) _).alloc (by simp) _
  have hr1 : Box.Holds w1 (w.heap.size + 1) 26 #[.int .i64 0, .bool false, .slice none 0 0, .int .u64 0, .string ⟨#[]⟩, .slice none 0 0] := by
    have := Box.Holds.made (w.alloc (.cells #[.int .i64 k, .bool neg, .slice a n c, .int .u64 b, .string t, .slice ka kn kc] 26)) 26 #[.int .i64 0, .bool false, .slice none 0 0, .int .u64 0, .string ⟨#[]⟩, .slice none 0 0]
    rw [show (w.alloc (.cells #[.int .i64 k, .bool neg, .slice a n c, .int .u64 b, .string t, .slice ka kn kc] 26)).heap.size = w.heap.size + 1 by simp, hw1] at this
    exact this
  have hwh1 := Lib.hid (hwh.out w1 hb1)
  have hr1' := Lib.hid hr1
  have hb1' := Lib.hid hb1
  have hw1' := Lib.hid hw1
  clear hn hZ h hlen hY hb1 hr1 hw1 hwh
  go_enter Try.func18, Try.ntmps18
  go_wp2_with fail
  rw [hw1'.out]
  refine hwh1.out.mono ?_
  rintro e w2 ⟨⟨v, rfl, hv⟩, hb2⟩
  have hl2 := Lib.hid (hlsh.out _ _ _ hv)
  obtain ⟨y0, q0, rfl⟩ := hv.shape
  have hr2 := Lib.hid (hr1'.out.later hb2)
  have hs2 := hb2.size
  have hb2' := Lib.hid (hb1'.out.trans (hb2.mono (by omega)))
  clear hv hb2 hwh1
  go_wp2_with fail
  refine hl2.out.mono ?_
  rintro e w3 ⟨⟨v, rfl, hv⟩, hb3⟩
  have hn3 := Lib.hid (hnum.out _ _ _ hv)
  obtain ⟨y1, q1, rfl⟩ := hv.shape
  have hr3 := Lib.hid (hr2.out.later hb3)
  have hs3 := hb3.size
  have hb3' := Lib.hid (hb2'.out.trans (hb3.mono (by omega)))
  clear hv hb3 hl2
  go_wp2_with fail
  refine hn3.out.mono ?_
  rintro e w4 ⟨⟨v, rfl, hv⟩, hb4⟩
  obtain ⟨a4, n4, c4, rfl⟩ := hv.shape
  have hk4 := hr3.out.later hb4
  have k0 := hk4.cell 0
  have k1 := hk4.cell 1
  have k2 := hk4.cell 2
  have k3 := hk4.cell 3
  have k4 := hk4.cell 4
  have k5 := hk4.cell 5
  simp at k0 k1 k2 k3 k4 k5
  have f0 := hk4.free 0
  have f1 := hk4.free 1
  have f2 := hk4.free 2
  have f3 := hk4.free 3
  have f4 := hk4.free 4
  have f5 := hk4.free 5
  have hlt4 := hk4.lt
  obtain ⟨N, hN⟩ : ∃ N, decide (Y < 0) = N := ⟨_, rfl⟩
  rw [hN] at hv ⊢
  have hlt3 : w.heap.size + 1 < w3.heap.size := by omega
  have hab : Box.Above w3.heap.size w4 _ := ((((((Box.Above.refl w3.heap.size w4).setCell (p := ⟨w.heap.size + 1, 0, none⟩) hlt3 (.int .i64 2)).setCell (p := ⟨w.heap.size + 1, 1, none⟩) hlt3 (.bool N)).setCell (p := ⟨w.heap.size + 1, 2, none⟩) hlt3 (.slice a4 n4 c4)).setCell (p := ⟨w.heap.size + 1, 3, none⟩) hlt3 (.int .u64 0)).setCell (p := ⟨w.heap.size + 1, 4, none⟩) hlt3 (.string ⟨#[]⟩)).setCell (p := ⟨w.heap.size + 1, 5, none⟩) hlt3 (.slice none 0 0)
  have hle1 : w.heap.size ≤ w.heap.size + 1 := by omega
  have hfin := Lib.hid ((hv.above hab (by simp)).mono (show w.heap.size ≤ w3.heap.size by omega))
  have hbel := Lib.hid (((((((hb3'.out.trans (hb4.mono (by omega))).setCell (p := ⟨w.heap.size + 1, 0, none⟩) hle1 (.int .i64 2)).setCell (p := ⟨w.heap.size + 1, 1, none⟩) hle1 (.bool N)).setCell (p := ⟨w.heap.size + 1, 2, none⟩) hle1 (.slice a4 n4 c4)).setCell (p := ⟨w.heap.size + 1, 3, none⟩) hle1 (.int .u64 0)).setCell (p := ⟨w.heap.size + 1, 4, none⟩) hle1 (.string ⟨#[]⟩)).setCell (p := ⟨w.heap.size + 1, 5, none⟩) hle1 (.slice none 0 0))
  clear hv hab hk4 hb4
  go_wp2
  exact bodyPost_ret (v := .agg #[.int .i64 2, .bool N, .slice a4 n4 c4, .int .u64 0, .string ⟨#[]⟩, .slice none 0 0]) (by simp [results, Try.results18, go_sem, k0, k1, k2, k3, k4, k5]) rfl ⟨⟨_, rfl, by rw [hN]; exact hfin.out⟩, hbel.out⟩
end Go.Proofs.Ytaappbnbjpbbcaa.Big
