/-
  The law on the division of integers.
-/
import Derived.Test.YtpjkfdgkkpkljaaGreatDoorLawIn
import Derived.Test.YtpjkfdgkkpkljaaGreatDoorImplDiv
import Derived.Test.YtpjkfdgkkpkljaaGreatDoorSpecDiv
import Derived.Deep.RegionHeld3
namespace Go.Proofs.YtpjkfdgkkpkljaaGreatDoor.fnIntDiv
open Go.RowKit Go.WideShapes Go.Proofs.YtpjkfdgkkpkljaaGreatDoor.Own Go.Proofs.YtpjkfdgkkpkljaaGreatDoor.Num Go.Proofs.YtpjkfdgkkpkljaaGreatDoor.Ref Go.Proofs.YtpjkfdgkkpkljaaGreatDoor.Big
set_option linter.unusedVariables false

/-- what the walk is told of a slice of integers that came in: it is nil; or it leads to a row of numbers, each fitting its kind -/
def IsRow (k : IntKind) (w : World) (a : Option Addr) (len cap : Nat) (zs : List Int) : Prop :=
  (a = none ∧ len = 0 ∧ cap = 0 ∧ zs = []) ∨
  ∃ x, a = some x ∧ len ≤ cap ∧ cap ≤ maxLen ∧ zs.length = cap ∧ (∀ i, i < zs.length → w.cell? (x.add i) = some (.int k (zs.getD i 0))) ∧ ∀ n ∈ zs, (Lit.int k n).wf = true

theorem IsRow.rd {w : World} {a : Option Addr} {len cap : Nat} {zs : List Int} (h : IsRow .u8 w a len cap zs) : ∃ l, l.length = len ∧ Rd w a l ∧ len ≤ cap ∧ (a = none → cap = 0) ∧ cap ≤ maxLen := by
  rcases h with ⟨rfl, rfl, rfl, rfl⟩ | ⟨x, rfl, h1, h2, h3, h4, h5⟩
  · exact ⟨[], rfl, .inl ⟨rfl, rfl⟩, Nat.le_refl _, fun _ => rfl, Nat.zero_le _⟩
  · obtain ⟨l, e, hr⟩ := rd_of_row h1 h3 h4 h5
    exact ⟨l, e, hr, h1, (fun h => by cases h), h2⟩

theorem RdS.of_own {w : World} {B : Nat} {v : Value} {l : List UInt8} (h : Owns w B v l) : RdS w B v l := by
  obtain ⟨a, c, rfl, hr, hc⟩ := Rd.of_own h
  refine ⟨a, c, rfl, hr, hc, fun h0 => ?_, fun x hx => ?_⟩
  · rcases h.2 with ⟨e, _⟩ | ⟨g, c', cur, e, _⟩
    · simp only [Value.slice.injEq] at e; exact e.2.2
    · subst h0; cases e
  · rcases h.2 with ⟨e, _⟩ | ⟨g, c', cur, e, hB, hh, _⟩
    · subst hx; cases e
    · subst hx; cases e; exact ⟨hB, _, _, hh⟩
theorem cells8 {W : World} {b : Nat} {ti tv : TypeId} {x0 x1 y0 y1 y2 y3 y4 y5 : Value} (h1 : Box.Holds W b ti #[x0, x1]) (h2 : Box.Holds W (b + 1) tv #[y0, y1, y2, y3, y4, y5]) :
    W.cell? ⟨b, 0, none⟩ = some x0 ∧ W.cell? ⟨b, 1, none⟩ = some x1 ∧ W.cell? ⟨b + 1, 0, none⟩ = some y0 ∧ W.cell? ⟨b + 1, 1, none⟩ = some y1 ∧ W.cell? ⟨b + 1, 2, none⟩ = some y2 ∧ W.cell? ⟨b + 1, 3, none⟩ = some y3 ∧ W.cell? ⟨b + 1, 4, none⟩ = some y4 ∧ W.cell? ⟨b + 1, 5, none⟩ = some y5 := by
  have k0 := h1.cell 0
  have k1 := h1.cell 1
  have j0 := h2.cell 0
  have j1 := h2.cell 1
  have j2 := h2.cell 2
  have j3 := h2.cell 3
  have j4 := h2.cell 4
  have j5 := h2.cell 5
  simp at k0 k1 j0 j1 j2 j3 j4 j5
  exact ⟨k0, k1, j0, j1, j2, j3, j4, j5⟩
theorem be_take_lt (l : List UInt8) (n : Nat) : be (l.take n) < 256 ^ n :=
  Nat.lt_of_lt_of_le (be_lt _) (Nat.pow_le_pow_right (by decide) (by rw [List.length_take]; omega))
theorem mag_of_len (V n : Nat) (h : len W V ≤ n) : (mag V).length ≤ 8 * n := by
  refine mag_len_le ?_
  rw [← W_pow]
  exact Nat.lt_of_lt_of_le (len_lt W_two V) (Nat.pow_le_pow_right W_pos h)
theorem len_of_mag (V n : Nat) (h : (mag V).length ≤ n) (hn : n ≤ 5000) : len W V ≤ 5000 := by
  rw [mag_length] at h
  refine Nat.le_trans (len_le W_two (n := len 256 V) ?_) (by omega)
  refine Nat.lt_of_lt_of_le (len_lt (b := 256) (by omega) V) (Nat.pow_le_pow_left ?_ _)
  rw [W_eq]; omega
def Cells16 (wr : World) (b c : Nat) (x0 x1 p0 p1 p2 p3 p4 p5 y0 y1 q0 q1 q2 q3 q4 q5 : Value) : Prop :=
  wr.cell? ⟨b, 0, none⟩ = some x0 ∧ wr.cell? ⟨b, 1, none⟩ = some x1 ∧ wr.cell? ⟨b + 1, 0, none⟩ = some p0 ∧ wr.cell? ⟨b + 1, 1, none⟩ = some p1 ∧ wr.cell? ⟨b + 1, 2, none⟩ = some p2 ∧ wr.cell? ⟨b + 1, 3, none⟩ = some p3 ∧ wr.cell? ⟨b + 1, 4, none⟩ = some p4 ∧ wr.cell? ⟨b + 1, 5, none⟩ = some p5 ∧ wr.cell? ⟨c, 0, none⟩ = some y0 ∧ wr.cell? ⟨c, 1, none⟩ = some y1 ∧ wr.cell? ⟨c + 1, 0, none⟩ = some q0 ∧ wr.cell? ⟨c + 1, 1, none⟩ = some q1 ∧ wr.cell? ⟨c + 1, 2, none⟩ = some q2 ∧ wr.cell? ⟨c + 1, 3, none⟩ = some q3 ∧ wr.cell? ⟨c + 1, 4, none⟩ = some q4 ∧ wr.cell? ⟨c + 1, 5, none⟩ = some q5
theorem cells16 {W : World} {b c : Nat} {t1 t2 t3 t4 : TypeId} {x0 x1 p0 p1 p2 p3 p4 p5 y0 y1 q0 q1 q2 q3 q4 q5 : Value} (h1 : Box.Holds W b t1 #[x0, x1]) (h2 : Box.Holds W (b + 1) t2 #[p0, p1, p2, p3, p4, p5]) (h3 : Box.Holds W c t3 #[y0, y1]) (h4 : Box.Holds W (c + 1) t4 #[q0, q1, q2, q3, q4, q5]) :
    Cells16 W b c x0 x1 p0 p1 p2 p3 p4 p5 y0 y1 q0 q1 q2 q3 q4 q5 := by
  obtain ⟨e0, e1, e2, e3, e4, e5, e6, e7⟩ := cells8 h1 h2
  obtain ⟨f0, f1, f2, f3, f4, f5, f6, f7⟩ := cells8 h3 h4
  exact ⟨e0, e1, e2, e3, e4, e5, e6, e7, f0, f1, f2, f3, f4, f5, f6, f7⟩

theorem IsInt.pos {w : World} {B : Nat} {v : Value} {neg : Bool} {m : Nat} (h : IsInt w B v neg m) : neg = true → 0 < m := by
  obtain ⟨_, _, _, h⟩ := h
  exact h
theorem sg_parts (N : Bool) (M : Nat) (h : N = true → 0 < M) : decide (sg N M < 0) = N ∧ (sg N M).natAbs = M := by
  unfold sg
  cases N
  · simp
  · have := h rfl
    simp
    omega
theorem sg_ne0 (N : Bool) (M : Nat) (h : 0 < M) : sg N M ≠ 0 := by unfold sg; cases N <;> simp <;> omega
theorem quoZ_le (n1 n2 : Bool) (X Y : Nat) : (quoZ n1 n2 X Y).natAbs ≤ X + 1 := by
  have := Nat.div_le_self X Y
  rw [sg_quoZ]
  obtain ⟨D, hD⟩ : ∃ D, X / Y = D := ⟨_, rfl⟩
  rw [hD] at this ⊢
  split
  · omega
  · split <;> omega
theorem Cells16.later {W wr : World} {b c : Nat} {x0 x1 p0 p1 p2 p3 p4 p5 y0 y1 q0 q1 q2 q3 q4 q5 : Value} (h : Cells16 W b c x0 x1 p0 p1 p2 p3 p4 p5 y0 y1 q0 q1 q2 q3 q4 q5) (hb : Below W.heap.size W wr) (h1 : b + 1 < W.heap.size) (h2 : c + 1 < W.heap.size) : Cells16 wr b c x0 x1 p0 p1 p2 p3 p4 p5 y0 y1 q0 q1 q2 q3 q4 q5 := by
  have key : ∀ d i, d < W.heap.size → wr.cell? ⟨d, i, none⟩ = W.cell? ⟨d, i, none⟩ := fun d i hd => hb.cell (p := ⟨d, i, none⟩) hd
  unfold Cells16 at h ⊢
  rw [key b 0 (by omega), key b 1 (by omega), key (b + 1) 0 h1, key (b + 1) 1 h1, key (b + 1) 2 h1, key (b + 1) 3 h1, key (b + 1) 4 h1, key (b + 1) 5 h1, key c 0 (by omega), key c 1 (by omega), key (c + 1) 0 h2, key (c + 1) 1 h2, key (c + 1) 2 h2, key (c + 1) 3 h2, key (c + 1) 4 h2, key (c + 1) 5 h2]
  exact h
def Cells14 (wr : World) (b c d : Nat) (p0 p1 p2 p3 p4 p5 q0 q1 q2 q3 q4 q5 z0 z1 : Value) : Prop :=
  wr.cell? ⟨b + 1, 0, none⟩ = some p0 ∧ wr.cell? ⟨b + 1, 1, none⟩ = some p1 ∧ wr.cell? ⟨b + 1, 2, none⟩ = some p2 ∧ wr.cell? ⟨b + 1, 3, none⟩ = some p3 ∧ wr.cell? ⟨b + 1, 4, none⟩ = some p4 ∧ wr.cell? ⟨b + 1, 5, none⟩ = some p5 ∧ wr.cell? ⟨c + 1, 0, none⟩ = some q0 ∧ wr.cell? ⟨c + 1, 1, none⟩ = some q1 ∧ wr.cell? ⟨c + 1, 2, none⟩ = some q2 ∧ wr.cell? ⟨c + 1, 3, none⟩ = some q3 ∧ wr.cell? ⟨c + 1, 4, none⟩ = some q4 ∧ wr.cell? ⟨c + 1, 5, none⟩ = some q5 ∧ wr.cell? ⟨d, 0, none⟩ = some z0 ∧ wr.cell? ⟨d, 1, none⟩ = some z1
theorem cells14 {W : World} {b c d : Nat} {t : TypeId} {x0 x1 p0 p1 p2 p3 p4 p5 y0 y1 q0 q1 q2 q3 q4 q5 z0 z1 : Value} (h : Cells16 W b c x0 x1 p0 p1 p2 p3 p4 p5 y0 y1 q0 q1 q2 q3 q4 q5) (hz : Box.Holds W d t #[z0, z1]) : Cells14 W b c d p0 p1 p2 p3 p4 p5 q0 q1 q2 q3 q4 q5 z0 z1 := by
  obtain ⟨-, -, h1, h2, h3, h4, h5, h6, -, -, k1, k2, k3, k4, k5, k6⟩ := h
  have e0 := hz.cell 0
  have e1 := hz.cell 1
  simp at e0 e1
  exact ⟨h1, h2, h3, h4, h5, h6, k1, k2, k3, k4, k5, k6, e0, e1⟩

/-- two values stored into their boxes: what the boxes hold then; what is owned stays owned -/
theorem store_both {w W : World} {b c : Nat} {x0 x1 p0 p1 p2 p3 p4 p5 y0 y1 q0 q1 q2 q3 q4 q5 v0 v1 r0 r1 r2 r3 r4 r5 : Value} (hbc : b + 1 < c) (h1 : Box.Holds w b 24 #[x0, x1]) (h2 : Box.Holds w (b + 1) 28 #[p0, p1, p2, p3, p4, p5]) (h3 : Box.Holds w c 24 #[y0, y1]) (h4 : Box.Holds w (c + 1) 28 #[q0, q1, q2, q3, q4, q5])
    (hW : ((((((((w.setCell ⟨c, 0, none⟩ v0).setCell ⟨c, 1, none⟩ v1).setCell ⟨c + 1, 0, none⟩ r0).setCell ⟨c + 1, 1, none⟩ r1).setCell ⟨c + 1, 2, none⟩ r2).setCell ⟨c + 1, 3, none⟩ r3).setCell ⟨c + 1, 4, none⟩ r4).setCell ⟨c + 1, 5, none⟩ r5) = W) :
    Cells16 W b c x0 x1 p0 p1 p2 p3 p4 p5 v0 v1 r0 r1 r2 r3 r4 r5 ∧ W.heap.size = w.heap.size ∧ (∀ B v l, Owns w B v l → Owns W B v l) ∧ (∀ B a, B ≤ c → Below B a w → Below B a W) := by
  subst hW
  have n1 : b ≠ c := by omega
  have n2 : b ≠ c + 1 := by omega
  have n3 : b + 1 ≠ c := by omega
  have n4 : b + 1 ≠ c + 1 := by omega
  have n5 : c ≠ c + 1 := by omega
  have n6 : c + 1 ≠ c := by omega
  have e3 := (h3.put 0 v0).put 1 v1
  have e4 := (h4.apart (p := ⟨c, 0, none⟩) n6 v0).apart (p := ⟨c, 1, none⟩) n6 v1
  refine ⟨cells16 (t1 := 24) (t2 := 28) (t3 := 24) (t4 := 28) ?_ ?_ ?_ ?_, by simp, fun B v l ho => ?_, fun B a hB hb => ?_⟩
  · exact (((((((h1.apart (p := ⟨c, 0, none⟩) n1 v0).apart (p := ⟨c, 1, none⟩) n1 v1).apart (p := ⟨c + 1, 0, none⟩) n2 r0).apart (p := ⟨c + 1, 1, none⟩) n2 r1).apart (p := ⟨c + 1, 2, none⟩) n2 r2).apart (p := ⟨c + 1, 3, none⟩) n2 r3).apart (p := ⟨c + 1, 4, none⟩) n2 r4).apart (p := ⟨c + 1, 5, none⟩) n2 r5
  · exact (((((((h2.apart (p := ⟨c, 0, none⟩) n3 v0).apart (p := ⟨c, 1, none⟩) n3 v1).apart (p := ⟨c + 1, 0, none⟩) n4 r0).apart (p := ⟨c + 1, 1, none⟩) n4 r1).apart (p := ⟨c + 1, 2, none⟩) n4 r2).apart (p := ⟨c + 1, 3, none⟩) n4 r3).apart (p := ⟨c + 1, 4, none⟩) n4 r4).apart (p := ⟨c + 1, 5, none⟩) n4 r5
  · have := (((((e3.apart (p := ⟨c + 1, 0, none⟩) n5 r0).apart (p := ⟨c + 1, 1, none⟩) n5 r1).apart (p := ⟨c + 1, 2, none⟩) n5 r2).apart (p := ⟨c + 1, 3, none⟩) n5 r3).apart (p := ⟨c + 1, 4, none⟩) n5 r4).apart (p := ⟨c + 1, 5, none⟩) n5 r5
    simpa using this
  · have := (((((e4.put 0 r0).put 1 r1).put 2 r2).put 3 r3).put 4 r4).put 5 r5
    simpa using this
  · have f0 := own_apart (own_apart ho h3 (by decide) 0 v0) (h3.put 0 v0) (by decide) 1 v1
    have g0 := e4.put 0 r0
    have g1 := g0.put 1 r1
    have g2 := g1.put 2 r2
    have g3 := g2.put 3 r3
    have g4 := g3.put 4 r4
    exact own_apart (own_apart (own_apart (own_apart (own_apart (own_apart f0 e4 (by decide) 0 r0) g0 (by decide) 1 r1) g1 (by decide) 2 r2) g2 (by decide) 3 r3) g3 (by decide) 4 r4) g4 (by decide) 5 r5
  · exact (((((((hb.setCell (p := ⟨c, 0, none⟩) hB v0).setCell (p := ⟨c, 1, none⟩) hB v1).setCell (p := ⟨c + 1, 0, none⟩) (Nat.le_succ_of_le hB) r0).setCell (p := ⟨c + 1, 1, none⟩) (Nat.le_succ_of_le hB) r1).setCell (p := ⟨c + 1, 2, none⟩) (Nat.le_succ_of_le hB) r2).setCell (p := ⟨c + 1, 3, none⟩) (Nat.le_succ_of_le hB) r3).setCell (p := ⟨c + 1, 4, none⟩) (Nat.le_succ_of_le hB) r4).setCell (p := ⟨c + 1, 5, none⟩) (Nat.le_succ_of_le hB) r5

set_option maxHeartbeats 2000000 in
set_option maxRecDepth 100000 in
theorem walk (a0 : Bool) (a1 : Option Addr) (len1 cap1 : Nat) (z1 : List Int) (a2 : Bool) (a3 : Option Addr) (len3 cap3 : Nat) (z3 : List Int) (w : World) (w1 : IsRow .u8 w a1 len1 cap1 z1) (w3 : IsRow .u8 w a3 len3 cap3 z3) (hT : w.cell? ⟨1, 0, none⟩ = some (.int .i64 40)) :
    Calls Tryz.prog 3 #[.bool a0, .slice a1 len1 cap1, .bool a2, .slice a3 len3 cap3] w fun e w' => e = .returned (.bool true) ∧ Below w.heap.size w w' := by
  obtain ⟨l1, rfl, hr1, hc1, ha1, hcap1⟩ := w1.rd
  obtain ⟨l3, rfl, hr3, hc3, ha3, hcap3⟩ := w3.rd
  unfold maxLen at hcap1 hcap3
  have hvlt : 1 < w.heap.size := World.block_lt_of_cell? w _ hT
  clear w1 w3
  by_cases hl1 : l1.length ≤ 2147483647
  · by_cases hl3 : l3.length ≤ 2147483647
    · obtain ⟨V1, hV1⟩ : ∃ V, be (l1.take 100) = V := ⟨_, rfl⟩
      obtain ⟨V3, hV3⟩ : ∃ V, be (l3.take 100) = V := ⟨_, rfl⟩
      have hVl1 := Lib.hid (show V1 < 256 ^ 100 from by rw [← hV1]; exact be_take_lt l1 100)
      have hVl3 := Lib.hid (show V3 < 256 ^ 100 from by rw [← hV3]; exact be_take_lt l3 100)
      have hwh1 := Lib.hid (lwhole_any a0 a1 cap1 l1 100 w hr1 hl1 hc1 ha1 (by omega) V1 hV1)
      have hwh3 := Lib.hid fun wr (hW : Below w.heap.size w wr) => lwhole_any a2 a3 cap3 l3 100 wr (hr3.later hW) hl3 hc3 ha3 (by omega) V3 hV3
      obtain ⟨N1, hN1⟩ : ∃ N, (a0 && decide (0 < V1)) = N := ⟨_, rfl⟩
      obtain ⟨N3, hN3⟩ : ∃ N, (a2 && decide (0 < V3)) = N := ⟨_, rfl⟩
      rw [hN1] at hwh1
      rw [hN3] at hwh3
      have hm1 : (mag V1).length ≤ 100 := mag_len_le hVl1.out
      have hm3 : (mag V3).length ≤ 100 := mag_len_le hVl3.out
      obtain ⟨n1, hn1⟩ : ∃ n, l1.length = n := ⟨_, rfl⟩
      obtain ⟨n3, hn3⟩ : ∃ n, l3.length = n := ⟨_, rfl⟩
      rw [hn1] at hwh1 hc1 hl1 ⊢
      rw [hn3] at hwh3 hc3 hl3 ⊢
      have hP1 : N1 = true → 0 < V1 := by rw [← hN1]; simp
      have hP3 : N3 = true → 0 < V3 := by rw [← hN3]; simp
      have hT' := Lib.hid hT
      clear hr1 hr3 hV1 hV3 hN1 hN3 hn1 hn3 hVl1 hVl3
      go_enter Tryz.func3, Tryz.ntmps3
      go_wp2_with fail
      refine hwh1.out.mono ?_
      rintro e w1 ⟨⟨x, p, rfl, hx, hp⟩, hb1⟩
      have hx9 := Lib.hid hx
      obtain ⟨u1, rfl, o1, q1⟩ := hx
      obtain ⟨u2, rfl, o2, q2⟩ := hp
      obtain ⟨a5, c5, rfl, -, -⟩ := Rd.of_own o1
      obtain ⟨a6, c6, rfl, r6, m6⟩ := Rd.of_own o2
      obtain ⟨L1, hL1⟩ : ∃ L, (mag V1).length = L := ⟨_, rfl⟩
      rw [hL1] at hx9 ⊢
      obtain ⟨w2, hw2⟩ : ∃ w2, ((w1.alloc (.cells #[.bool N1, .slice a5 L1 c5] 24)).alloc (.cells #[.int .i64 2, .bool N1, .slice a6 L1 c6, .int .u64 0, .string ⟨#[]⟩, .slice none 0 0] 28)) = w2 := ⟨_, rfl⟩
      have hB2 : Below w1.heap.size w1 w2 := by rw [← hw2]; exact (below_one _ (Nat.le_refl _)).alloc (by simp) _
      have hHx : Box.Holds w2 w1.heap.size 24 #[.bool N1, .slice a5 L1 c5] := by rw [← hw2]; exact (Box.Holds.made w1 24 #[.bool N1, .slice a5 L1 c5]).alloc _
      have hHp : Box.Holds w2 (w1.heap.size + 1) 28 #[.int .i64 2, .bool N1, .slice a6 L1 c6, .int .u64 0, .string ⟨#[]⟩, .slice none 0 0] := by
        rw [← hw2]
        have := Box.Holds.made (w1.alloc (.cells #[.bool N1, .slice a5 L1 c5] 24)) 28 #[.int .i64 2, .bool N1, .slice a6 L1 c6, .int .u64 0, .string ⟨#[]⟩, .slice none 0 0]
        rwa [show (w1.alloc (.cells #[.bool N1, .slice a5 L1 c5] 24)).heap.size = w1.heap.size + 1 by simp] at this
      have hS2 : w2.heap.size = w1.heap.size + 2 := by rw [← hw2]; simp
      have hw2' := Lib.hid hw2
      have hwh3' := Lib.hid (hwh3.out w2 (hb1.trans (hB2.mono hb1.size)))
      have hk2 := Lib.hid (And.intro hHx hHp)
      have hB2' := Lib.hid hB2
      have hb1' := Lib.hid hb1
      have hr6 := Lib.hid r6
      have ho2 := Lib.hid o2
      have hs1 := hb1.size
      clear o1 q1 o2 q2 r6 hHx hHp hw2 hB2 hwh3 hwh1 hb1
      go_wp2_with fail
      rw [hw2'.out]
      refine hwh3'.out.mono ?_
      rintro e w3 ⟨⟨y, q, rfl, hy, hq⟩, hb3⟩
      have hy9 := Lib.hid hy
      obtain ⟨u3, rfl, o3, q3⟩ := hy
      obtain ⟨u4, rfl, o4, q4⟩ := hq
      obtain ⟨a7, c7, rfl, -, -⟩ := Rd.of_own o3
      obtain ⟨a8, c8, rfl, r8, m8⟩ := Rd.of_own o4
      obtain ⟨L3, hL3⟩ : ∃ L, (mag V3).length = L := ⟨_, rfl⟩
      rw [hL3] at hy9 ⊢
      obtain ⟨w4, hw4⟩ : ∃ w4, ((w3.alloc (.cells #[.bool N3, .slice a7 L3 c7] 24)).alloc (.cells #[.int .i64 2, .bool N3, .slice a8 L3 c8, .int .u64 0, .string ⟨#[]⟩, .slice none 0 0] 28)) = w4 := ⟨_, rfl⟩
      have hB4 : Below w3.heap.size w3 w4 := by rw [← hw4]; exact (below_one _ (Nat.le_refl _)).alloc (by simp) _
      have hHy : Box.Holds w4 w3.heap.size 24 #[.bool N3, .slice a7 L3 c7] := by rw [← hw4]; exact (Box.Holds.made w3 24 #[.bool N3, .slice a7 L3 c7]).alloc _
      have hHq : Box.Holds w4 (w3.heap.size + 1) 28 #[.int .i64 2, .bool N3, .slice a8 L3 c8, .int .u64 0, .string ⟨#[]⟩, .slice none 0 0] := by
        rw [← hw4]
        have := Box.Holds.made (w3.alloc (.cells #[.bool N3, .slice a7 L3 c7] 24)) 28 #[.int .i64 2, .bool N3, .slice a8 L3 c8, .int .u64 0, .string ⟨#[]⟩, .slice none 0 0]
        rwa [show (w3.alloc (.cells #[.bool N3, .slice a7 L3 c7] 24)).heap.size = w3.heap.size + 1 by simp] at this
      have hs3 := hb3.size
      have hB24 := hb3.trans (hB4.mono hs3)
      have hHx4 := hk2.out.1.later hB24
      have hHp4 := hk2.out.2.later hB24
      have hB14 := hB2'.out.trans (hB24.mono hB2'.out.size)
      have hx4 : IsInt w4 w.heap.size _ N1 V1 := hx9.out.later hB14
      have hy4 := hy9.out.later hB4
      have ho1 := hx9.out.later hB14
      have hz := Lib.hid (zero_any _ N3 V3 _ w4 hy4 (by omega))
      have hC4 := Lib.hid (cells16 hHx4 hHp4 hHy hHq)
      have hHxs := Lib.hid (And.intro hHx4 (And.intro hHp4 (And.intro hHy hHq)))
      have hx4' := Lib.hid hx4
      have hy4' := Lib.hid hy4
      have hp4' := Lib.hid (hr6.out.later hB14)
      have hq4' := Lib.hid (r8.later hB4)
      have ho24 := Lib.hid (ho2.out.later hB14)
      have hup4 := Lib.hid (hb1'.out.trans (hB14.mono hs1))
      have hS4 : w4.heap.size = w3.heap.size + 2 := by rw [← hw4]; simp
      have hw4' := Lib.hid hw4
      clear o3 q3 o4 q4 r8 hHy hHq hw4 hB4 hwh3' hk2 hHx4 hHp4 hx4 hy4 hB24 hB14 hb3 ho1
      by_cases hV0 : V3 = 0
      · have hVd : decide (V3 = 0) = true := decide_eq_true hV0
        rw [hVd] at hz
        clear hV0 hVd
        obtain ⟨NY, hNY⟩ : ∃ N, false = N := ⟨_, rfl⟩
        obtain ⟨VY, hVYe⟩ : ∃ V, 1 = V := ⟨_, rfl⟩
        have hVY : 0 < VY := by omega
        have hPY : NY = true → 0 < VY := fun _ => hVY
        have hmY100 : (mag VY).length ≤ 100 := by rw [← hVYe]; decide
        have hsm : Hid (∀ W, Calls Tryz.prog 8 #[.int .i64 1] W fun e w' => (∃ v, e = .returned v ∧ IsInt w' W.heap.size v NY VY) ∧ Below W.heap.size W w') := Lib.hid fun W => by rw [← hNY, ← hVYe]; exact small_any 1 (by omega) (by omega) W
        have htl := Lib.hid fun x B W (h : IsInt W B x NY VY) => told_any x NY VY B W h (by omega)
        clear hNY hVYe
        go_wp2_with fail
        rw [hw4'.out]
        refine hz.out.mono ?_
        rintro e w5 ⟨rfl, o, hWe⟩
        obtain ⟨W, hW⟩ : ∃ W, w4.alloc o = W := ⟨_, rfl⟩
        rw [hW] at hWe
        subst hWe
        have hB45 := Lib.hid (show Below w4.heap.size w4 w5 from by rw [← hW]; exact below_one _ (Nat.le_refl _))
        clear hW hz
        go_wp2_with fail
        refine (hsm.out w5).mono ?_
        rintro e w6 ⟨⟨v6, rfl, hv6⟩, hb6⟩
        have hB46 := Lib.hid (hB45.out.trans (hb6.mono hB45.out.size))
        have hv6' := Lib.hid hv6
        clear hv6 hb6 hB45
        go_wp2_with fail
        refine (hsm.out w6).mono ?_
        rintro e w7 ⟨⟨v7, rfl, hv7⟩, hb7⟩
        have hB47 := Lib.hid (hB46.out.trans (hb7.mono hB46.out.size))
        have hv67 := Lib.hid (hv6'.out.later hb7)
        have htl7 := Lib.hid (htl.out v7 _ w7 hv7)
        clear hv7 hb7 hB46 hv6' htl hsm
        go_wp2_with fail
        refine htl7.out.mono ?_
        rintro e w8 ⟨⟨u8, rfl, hu8⟩, hb8⟩
        have hB48 := hB47.out.trans (hb8.mono hB47.out.size)
        have hv8 := hv67.out.later hb8
        obtain ⟨u6, rfl, o6, q6⟩ := hv8
        have o6' := o6
        obtain ⟨aY, cY, rfl, -, -⟩ := Rd.of_own o6'
        have hu8' := hu8
        obtain ⟨ay2, cy2, rfl, -, hmY⟩ := Rd.of_own hu8'
        obtain ⟨LY, hLY⟩ : ∃ L, (mag VY).length = L := ⟨_, rfl⟩
        have hX8 := hHxs.out.1.later hB48
        have hP8 := hHxs.out.2.1.later hB48
        have hY8 := hHxs.out.2.2.1.later hB48
        have hQ8 := hHxs.out.2.2.2.later hB48
        rw [hLY] at o6 hu8 ⊢
        obtain ⟨W, hW⟩ : ∃ W, ((((((((w8.setCell ⟨w3.heap.size, 0, none⟩ (.bool NY)).setCell ⟨w3.heap.size, 1, none⟩ (.slice aY LY cY)).setCell ⟨w3.heap.size + 1, 0, none⟩ (.int .i64 2)).setCell ⟨w3.heap.size + 1, 1, none⟩ (.bool NY)).setCell ⟨w3.heap.size + 1, 2, none⟩ (.slice ay2 LY cy2)).setCell ⟨w3.heap.size + 1, 3, none⟩ (.int .u64 0)).setCell ⟨w3.heap.size + 1, 4, none⟩ (.string ⟨#[]⟩)).setCell ⟨w3.heap.size + 1, 5, none⟩ (.slice none 0 0)) = W := ⟨_, rfl⟩
        obtain ⟨hC0, hSW, hown, hbel⟩ := store_both (by omega) hX8 hP8 hY8 hQ8 hW
        have hC := Lib.hid hC0
        obtain ⟨hk0, hk1⟩ := And.intro (hY8.cell 0) (hY8.cell 1)
        simp at hk0 hk1
        obtain ⟨kq0, kq1, kq2, kq3, kq4, kq5⟩ : w8.cell? ⟨w3.heap.size + 1, 0, none⟩ = _ ∧ w8.cell? ⟨w3.heap.size + 1, 1, none⟩ = _ ∧ w8.cell? ⟨w3.heap.size + 1, 2, none⟩ = _ ∧ w8.cell? ⟨w3.heap.size + 1, 3, none⟩ = _ ∧ w8.cell? ⟨w3.heap.size + 1, 4, none⟩ = _ ∧ w8.cell? ⟨w3.heap.size + 1, 5, none⟩ = _ := ⟨hQ8.cell 0, hQ8.cell 1, hQ8.cell 2, hQ8.cell 3, hQ8.cell 4, hQ8.cell 5⟩
        simp at kq0 kq1 kq2 kq3 kq4 kq5
        have fy0 := hY8.free 0
        have fy1 := hY8.free 1
        have fq0 := hQ8.free 0
        have fq1 := hQ8.free 1
        have fq2 := hQ8.free 2
        have fq3 := hQ8.free 3
        have fq4 := hQ8.free 4
        have fq5 := hQ8.free 5
        have ly := hY8.lt
        have lq := hQ8.lt
        have hlX : w1.heap.size + 1 < W.heap.size := by have := hP8.lt; omega
        have hlY : w3.heap.size + 1 < W.heap.size := by omega
        obtain ⟨ux, hux, ox, qx⟩ := hx4'.out.later hB48
        simp only [Value.agg.injEq, Array.mk.injEq, List.cons.injEq, and_true, true_and] at hux
        subst hux
        have hRx := Lib.hid (show IsInt W w.heap.size (.agg #[.bool N1, .slice a5 L1 c5]) N1 V1 from ⟨_, rfl, hown _ _ _ ox, qx⟩)
        have hRy := Lib.hid (show IsInt W w5.heap.size (.agg #[.bool NY, .slice aY LY cY]) NY VY from ⟨_, rfl, hown _ _ _ o6, q6⟩)
        have hRp : Hid (Rd W a6 (mag V1)) := Lib.hid (by
          obtain ⟨a', c', e', hr', -⟩ := Rd.of_own (hown _ _ _ (ho24.out.later hB48))
          obtain ⟨rfl, -, -⟩ := Value.slice.inj e'
          exact hr')
        have hRq : Hid (Rd W ay2 (mag VY)) := Lib.hid (by
          obtain ⟨a', c', e', hr', -⟩ := Rd.of_own (hown _ _ _ hu8)
          obtain ⟨rfl, -, -⟩ := Value.slice.inj e'
          exact hr')
        have hbW := Lib.hid (hbel _ _ (by omega) (hup4.out.trans (hB48.mono hup4.out.size)))
        have hT := hT'.out
        have hW' := Lib.hid hW
        clear hC0 hown hbel hX8 hP8 hY8 hQ8 o6 ox hu8 hu8' o6' hb8 hB48 hB47 hv67 htl7 ho24 hC4 hHxs hx4' hy4' hp4' hq4' hup4 hW
        have hfl := Lib.hid (floor_any _ _ N1 NY V1 VY _ _ W hRx.out hRy.out (by rw [← mag_length, hL1]; omega) (by rw [← mag_length, hLY]; omega) hVY)
        obtain ⟨hx0, hx1, -, -, -, -, -, -, hy0, hy1, -, -, -, -, -, -⟩ := hC.out
        rw [← hW'.out] at hx0 hx1 hy0 hy1
        go_wp2_with fail
        rw [hW'.out]
        refine hfl.out.mono ?_
        rintro e w7 ⟨⟨qv, rv, N, M, rfl, hqv, hsg, bz, az, nz, cz, rfl⟩, hb7⟩
        rw [← sg_quoZ] at hsg
        obtain ⟨hNe, hMe⟩ := sg_parts N M (IsInt.pos hqv)
        rw [hsg] at hNe hMe
        rw [← hNe, ← hMe] at hqv
        obtain ⟨uq, rfl, oq, -⟩ := hqv
        obtain ⟨aq, cq, rfl, -, -⟩ := Rd.of_own oq
        obtain ⟨Y, hY⟩ : ∃ Y, quoZ N1 NY V1 VY = Y := ⟨_, rfl⟩
        have hYle := quoZ_le N1 NY V1 VY
        rw [hY] at hYle oq ⊢
        obtain ⟨D, hD⟩ : ∃ D, decide (Y < 0) = D := ⟨_, rfl⟩
        obtain ⟨A, hA⟩ : ∃ A, Y.natAbs = A := ⟨_, rfl⟩
        rw [hA] at hYle oq ⊢
        rw [hD]
        have hAl : (mag A).length ≤ 2147483647 := by
          have h1 := len_lt (b := 256) (by omega) V1
          rw [← mag_length, hL1] at h1
          have h2 : A < 256 ^ (L1 + 1) := by
            have := Nat.pow_pos (a := 256) (n := L1) (by omega)
            rw [Nat.pow_succ]; omega
          exact Nat.le_trans (mag_len_le h2) (by omega)
        have oq' := oq
        unfold Owns at oq'
        obtain ⟨nq, hnq⟩ : ∃ n, (mag A).length = n := ⟨_, rfl⟩
        rw [hnq] at oq ⊢
        obtain ⟨w8, hw8⟩ : ∃ w8, (w7.alloc (.cells #[.bool D, .slice aq nq cq] 24)).alloc (.cells #[.bool bz, .slice az nz cz] 24) = w8 := ⟨_, rfl⟩
        have hb8 : Below w7.heap.size w7 w8 := by rw [← hw8]; exact (below_one _ (Nat.le_refl _)).alloc (by simp) _
        have hHq : Box.Holds w8 w7.heap.size 24 #[.bool D, .slice aq nq cq] := by rw [← hw8]; exact (Box.Holds.made w7 24 #[.bool D, .slice aq nq cq]).alloc _
        have hbW8 := hb7.trans (hb8.mono hb7.size)
        have hkeep := Lib.hid fun wr (hW : Below w8.heap.size w8 wr) => cells14 ((hC.out.later hbW8 hlX hlY).later hW (by have := hbW8.size; omega) (by have := hbW8.size; omega)) (hHq.later hW)
        have hix := Lib.hid fun wr (hW : Below w8.heap.size w8 wr) => (idiv_any N1 NY a6 ay2 (mag V1) (mag VY) c6 cy2 wr ((hRp.out.later hbW8).later hW) ((hRq.out.later hbW8).later hW) (by omega) (by omega) m6 hmY (by rw [be_mag]; exact sg_ne0 NY VY hVY) (by
          have hB := (hbW.out.trans (hbW8.mono hbW.out.size)).trans (hW.mono (Nat.le_trans hbW.out.size hbW8.size))
          rw [hB.cell (p := ⟨1, 0, none⟩) hvlt]; exact hT) Y (by rw [be_mag, be_mag, (sg_parts N1 V1 hP1).1, (sg_parts NY VY hPY).1, (sg_parts N1 V1 hP1).2, (sg_parts NY VY hPY).2]; exact hY))
        rw [hL1, hLY, hD, hA] at hix
        have his := Lib.hid fun v (B B' : Nat) wr (h : IsValR wr B v D A) (hx : RdS wr B' (.slice aq nq cq) (mag A)) => is_any v (.slice aq nq cq) D A B B' wr h hx hAl
        have hoq := Lib.hid fun wr (hW : Below w8.heap.size w8 wr) => RdS_of_own (Owns.later (Owns.later oq hb8) hW)
        have hd0 := Lib.hid (show Below w8.heap.size w8 w8.drew from Box.below_drawn (Below.refl w8.heap.size w8) 1)
        have hup := Lib.hid (hbW.out.trans (hbW8.mono hbW.out.size))
        have hw8' := Lib.hid hw8
        clear hw8 hb8 hHq hbW8 oq oq' hb7 hfl hY hD hA hsg hnq hYle hNe hMe
        go_wp2_with fail
        rw [hw8'.out]
        have e4 := hkeep.out w8.drew hd0.out
        unfold Cells14 at e4
        go_region_held3 (fun W => W.cell? ⟨w1.heap.size + 1, 0, none⟩ = some (.int .i64 2) ∧ W.cell? ⟨w1.heap.size + 1, 1, none⟩ = some (.bool N1) ∧ W.cell? ⟨w1.heap.size + 1, 2, none⟩ = some (.slice a6 L1 c6) ∧ W.cell? ⟨w1.heap.size + 1, 3, none⟩ = some (.int .u64 0) ∧ W.cell? ⟨w1.heap.size + 1, 4, none⟩ = some (.string ⟨#[]⟩) ∧ W.cell? ⟨w1.heap.size + 1, 5, none⟩ = some (.slice none 0 0) ∧ W.cell? ⟨w3.heap.size + 1, 0, none⟩ = some (.int .i64 2) ∧ W.cell? ⟨w3.heap.size + 1, 1, none⟩ = some (.bool NY) ∧ W.cell? ⟨w3.heap.size + 1, 2, none⟩ = some (.slice ay2 LY cy2) ∧ W.cell? ⟨w3.heap.size + 1, 3, none⟩ = some (.int .u64 0) ∧ W.cell? ⟨w3.heap.size + 1, 4, none⟩ = some (.string ⟨#[]⟩) ∧ W.cell? ⟨w3.heap.size + 1, 5, none⟩ = some (.slice none 0 0) ∧ W.cell? ⟨w7.heap.size, 0, none⟩ = some (.bool D) ∧ W.cell? ⟨w7.heap.size, 1, none⟩ = some (.slice aq nq cq))
          (first | with_reducible exact e4 | with_reducible exact e5 | with_reducible exact e6)
          (first
            | (go_at_call 12; (with_reducible refine (hix.out w8.drew hd0.out).mono ?_); rintro e w9 ⟨⟨v9, rfl, hv9⟩, hb9⟩; have hb89 := hd0.out.trans (hb9.mono hd0.out.size); have e5 := hkeep.out w9 hb89; unfold Cells14 at e5)
            | (go_at_call 11; refine (his.out _ _ _ w9 hv9 (hoq.out w9 hb89)).mono ?_; rintro e w10 ⟨rfl, hb10⟩; have hb810 := hb89.trans (hb10.mono hb89.size); have e6 := hkeep.out w10 hb810; unfold Cells14 at e6))
        go_wp2
        go_ret
        exact ⟨rfl, hup.out.trans (hb810.mono hup.out.size)⟩
      · have hVY : 0 < V3 := Nat.pos_of_ne_zero hV0
        have hVd : decide (V3 = 0) = false := decide_eq_false hV0
        rw [hVd] at hz
        clear hV0 hVd
        go_wp2_with fail
        rw [hw4'.out]
        refine hz.out.mono ?_
        rintro e w5 ⟨rfl, o, hWe⟩
        obtain ⟨W, hW⟩ : ∃ W, w4.alloc o = W := ⟨_, rfl⟩
        rw [hW] at hWe
        subst hWe
        have hB45 : Below w4.heap.size w4 w5 := by rw [← hW]; exact below_one _ (Nat.le_refl _)
        have hlX : w1.heap.size + 1 < w5.heap.size := by have := hB45.size; omega
        have hlY : w3.heap.size + 1 < w5.heap.size := by have := hB45.size; omega
        have hC := Lib.hid (hC4.out.later hB45 (by omega) (by omega))
        have hRx := Lib.hid (hx4'.out.later hB45)
        have hRy := Lib.hid (hy4'.out.later hB45)
        have hRp := Lib.hid (hp4'.out.later hB45)
        have hRq := Lib.hid (hq4'.out.later hB45)
        have hbW := Lib.hid (hup4.out.trans (hB45.mono hup4.out.size))
        have hT := hT'.out
        clear hC4 hHxs hx4' hy4' hp4' hq4' hup4 hW hB45 hz ho24
        have hfl := Lib.hid (floor_any _ _ N1 N3 V1 V3 _ _ w5 hRx.out hRy.out (by rw [← mag_length, hL1]; omega) (by rw [← mag_length, hL3]; omega) hVY)
        obtain ⟨hx0, hx1, -, -, -, -, -, -, hy0, hy1, -, -, -, -, -, -⟩ := hC.out
        go_wp2_with fail
        refine hfl.out.mono ?_
        rintro e w7 ⟨⟨qv, rv, N, M, rfl, hqv, hsg, bz, az, nz, cz, rfl⟩, hb7⟩
        rw [← sg_quoZ] at hsg
        obtain ⟨hNe, hMe⟩ := sg_parts N M (IsInt.pos hqv)
        rw [hsg] at hNe hMe
        rw [← hNe, ← hMe] at hqv
        obtain ⟨uq, rfl, oq, -⟩ := hqv
        obtain ⟨aq, cq, rfl, -, -⟩ := Rd.of_own oq
        obtain ⟨Y, hY⟩ : ∃ Y, quoZ N1 N3 V1 V3 = Y := ⟨_, rfl⟩
        have hYle := quoZ_le N1 N3 V1 V3
        rw [hY] at hYle oq ⊢
        obtain ⟨D, hD⟩ : ∃ D, decide (Y < 0) = D := ⟨_, rfl⟩
        obtain ⟨A, hA⟩ : ∃ A, Y.natAbs = A := ⟨_, rfl⟩
        rw [hA] at hYle oq ⊢
        rw [hD]
        have hAl : (mag A).length ≤ 2147483647 := by
          have h1 := len_lt (b := 256) (by omega) V1
          rw [← mag_length, hL1] at h1
          have h2 : A < 256 ^ (L1 + 1) := by
            have := Nat.pow_pos (a := 256) (n := L1) (by omega)
            rw [Nat.pow_succ]; omega
          exact Nat.le_trans (mag_len_le h2) (by omega)
        have oq' := oq
        unfold Owns at oq'
        obtain ⟨nq, hnq⟩ : ∃ n, (mag A).length = n := ⟨_, rfl⟩
        rw [hnq] at oq ⊢
        obtain ⟨w8, hw8⟩ : ∃ w8, (w7.alloc (.cells #[.bool D, .slice aq nq cq] 24)).alloc (.cells #[.bool bz, .slice az nz cz] 24) = w8 := ⟨_, rfl⟩
        have hb8 : Below w7.heap.size w7 w8 := by rw [← hw8]; exact (below_one _ (Nat.le_refl _)).alloc (by simp) _
        have hHq : Box.Holds w8 w7.heap.size 24 #[.bool D, .slice aq nq cq] := by rw [← hw8]; exact (Box.Holds.made w7 24 #[.bool D, .slice aq nq cq]).alloc _
        have hbW8 := hb7.trans (hb8.mono hb7.size)
        have hkeep := Lib.hid fun wr (hW : Below w8.heap.size w8 wr) => cells14 ((hC.out.later hbW8 hlX hlY).later hW (by have := hbW8.size; omega) (by have := hbW8.size; omega)) (hHq.later hW)
        have hix := Lib.hid fun wr (hW : Below w8.heap.size w8 wr) => (idiv_any N1 N3 a6 a8 (mag V1) (mag V3) c6 c8 wr ((hRp.out.later hbW8).later hW) ((hRq.out.later hbW8).later hW) (by omega) (by omega) m6 m8 (by rw [be_mag]; exact sg_ne0 N3 V3 hVY) (by
          have hB := (hbW.out.trans (hbW8.mono hbW.out.size)).trans (hW.mono (Nat.le_trans hbW.out.size hbW8.size))
          rw [hB.cell (p := ⟨1, 0, none⟩) hvlt]; exact hT) Y (by rw [be_mag, be_mag, (sg_parts N1 V1 hP1).1, (sg_parts N3 V3 hP3).1, (sg_parts N1 V1 hP1).2, (sg_parts N3 V3 hP3).2]; exact hY))
        rw [hL1, hL3, hD, hA] at hix
        have his := Lib.hid fun v (B B' : Nat) wr (h : IsValR wr B v D A) (hx : RdS wr B' (.slice aq nq cq) (mag A)) => is_any v (.slice aq nq cq) D A B B' wr h hx hAl
        have hoq := Lib.hid fun wr (hW : Below w8.heap.size w8 wr) => RdS_of_own (Owns.later (Owns.later oq hb8) hW)
        have hd0 := Lib.hid (show Below w8.heap.size w8 w8.drew from Box.below_drawn (Below.refl w8.heap.size w8) 1)
        have hup := Lib.hid (hbW.out.trans (hbW8.mono hbW.out.size))
        have hw8' := Lib.hid hw8
        clear hw8 hb8 hHq hbW8 oq oq' hb7 hfl hY hD hA hsg hnq hYle hNe hMe
        go_wp2_with fail
        rw [hw8'.out]
        have e4 := hkeep.out w8.drew hd0.out
        unfold Cells14 at e4
        go_region_held3 (fun w5 => w5.cell? ⟨w1.heap.size + 1, 0, none⟩ = some (.int .i64 2) ∧ w5.cell? ⟨w1.heap.size + 1, 1, none⟩ = some (.bool N1) ∧ w5.cell? ⟨w1.heap.size + 1, 2, none⟩ = some (.slice a6 L1 c6) ∧ w5.cell? ⟨w1.heap.size + 1, 3, none⟩ = some (.int .u64 0) ∧ w5.cell? ⟨w1.heap.size + 1, 4, none⟩ = some (.string ⟨#[]⟩) ∧ w5.cell? ⟨w1.heap.size + 1, 5, none⟩ = some (.slice none 0 0) ∧ w5.cell? ⟨w3.heap.size + 1, 0, none⟩ = some (.int .i64 2) ∧ w5.cell? ⟨w3.heap.size + 1, 1, none⟩ = some (.bool N3) ∧ w5.cell? ⟨w3.heap.size + 1, 2, none⟩ = some (.slice a8 L3 c8) ∧ w5.cell? ⟨w3.heap.size + 1, 3, none⟩ = some (.int .u64 0) ∧ w5.cell? ⟨w3.heap.size + 1, 4, none⟩ = some (.string ⟨#[]⟩) ∧ w5.cell? ⟨w3.heap.size + 1, 5, none⟩ = some (.slice none 0 0) ∧ w5.cell? ⟨w7.heap.size, 0, none⟩ = some (.bool D) ∧ w5.cell? ⟨w7.heap.size, 1, none⟩ = some (.slice aq nq cq))
          (first | with_reducible exact e4 | with_reducible exact e5 | with_reducible exact e6)
          (first
            | (go_at_call 12; (with_reducible refine (hix.out w8.drew hd0.out).mono ?_); rintro e w9 ⟨⟨v9, rfl, hv9⟩, hb9⟩; have hb89 := hd0.out.trans (hb9.mono hd0.out.size); have e5 := hkeep.out w9 hb89; unfold Cells14 at e5)
            | (go_at_call 11; refine (his.out _ _ _ w9 hv9 (hoq.out w9 hb89)).mono ?_; rintro e w10 ⟨rfl, hb10⟩; have hb810 := hb89.trans (hb10.mono hb89.size); have e6 := hkeep.out w10 hb810; unfold Cells14 at e6))
        go_wp2
        go_ret
        exact ⟨rfl, hup.out.trans (hb810.mono hup.out.size)⟩
    · go_enter Tryz.func3, Tryz.ntmps3
      go_wp2
      go_ret
      exact ⟨rfl, Below.refl _ _⟩
  · go_enter Tryz.func3, Tryz.ntmps3
    go_wp2
    go_ret
    exact ⟨rfl, Below.refl _ _⟩
end Go.Proofs.YtpjkfdgkkpkljaaGreatDoor.fnIntDiv
