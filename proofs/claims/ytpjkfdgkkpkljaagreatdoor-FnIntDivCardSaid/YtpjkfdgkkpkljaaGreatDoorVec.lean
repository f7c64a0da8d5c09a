/-
  A row of words that is written from its beginning on, while another one, or itself further on, is read. Words added and subtracted with their carry. Rows of words added and subtracted, word for word.
-/
import Derived.Test.YtpjkfdgkkpkljaaGreatDoorNatLsh
import Derived.Test.YtpjkfdgkkpkljaaGreatDoorShiftLaw
import Derived.Test.YtpjkfdgkkpkljaaGreatDoorNatCmp
namespace Go.Proofs.YtpjkfdgkkpkljaaGreatDoor.Nat_
open Go.RowKit Go.WideShapes Go.Proofs.YtpjkfdgkkpkljaaGreatDoor.Own Go.Proofs.YtpjkfdgkkpkljaaGreatDoor.Num Go.Proofs.YtpjkfdgkkpkljaaGreatDoor.Ref
set_option linter.unusedVariables false

/-- the first k words are those of R, the others as they were -/
def rowTo (R k : Nat) (L : List Value) : List Value := ws (dig W R k) ++ L.drop k
theorem wsdig_length (R k : Nat) : (ws (dig W R k)).length = k := by rw [ws_length, dig_length]
theorem wsdig_get (R k j : Nat) (h : j < k) : (ws (dig W R k))[j]? = some (.int .u64 ((R / W ^ j % W : Nat) : Int)) := by
  unfold ws
  rw [List.getElem?_map, dig_get _ _ _ _ h]
  rfl
theorem rowTo_zero (R : Nat) (L : List Value) : rowTo R 0 L = L := by simp [rowTo, dig, ws]
theorem rowTo_length (R k : Nat) (L : List Value) (h : k ≤ L.length) : (rowTo R k L).length = L.length := by simp [rowTo, wsdig_length]; omega
theorem dig_snoc (R k : Nat) : dig W R (k + 1) = dig W R k ++ [R / W ^ k % W] := by simp [dig, List.range_succ]
theorem rowTo_step (R k : Nat) (L : List Value) (h : k < L.length) : (rowTo R k L).set k (.int .u64 ((R / W ^ k % W : Nat) : Int)) = rowTo R (k + 1) L := by
  unfold rowTo
  rw [List.set_append, if_neg (by rw [wsdig_length]; omega), wsdig_length, Nat.sub_self, dig_snoc]
  unfold ws
  rw [List.map_append, List.append_assoc]
  congr 1
  rw [List.drop_eq_getElem_cons h, List.set_cons_zero]
  rfl
theorem rowTo_take (R k : Nat) (L : List Value) : (rowTo R k L).take k = ws (dig W R k) := by
  unfold rowTo
  rw [List.take_append, wsdig_length, Nat.sub_self, List.take_zero, List.append_nil, List.take_of_length_le (by rw [wsdig_length]; exact Nat.le_refl _)]
theorem rowTo_get (R k j : Nat) (L : List Value) (h : k ≤ j) (hk : k ≤ L.length) : (rowTo R k L)[j]? = L[j]? := by
  unfold rowTo
  rw [List.getElem?_append_right (by rw [wsdig_length]; exact h), wsdig_length, List.getElem?_drop]
  congr 1
  omega

/-- the row so far -/
def VecAt (B : Nat) (w0 w : World) (g N c R k : Nat) (L : List Value) : Prop :=
  w.ownsRow B 111 1 (.slice (some ⟨g, 0, none⟩) N c) N (rowTo R k L) ∧ Below B w0 w ∧ B ≤ g ∧ L.length = N
theorem VecAt.store {B : Nat} {w0 w : World} {g N c R k : Nat} {L : List Value} (h : VecAt B w0 w g N c R k L) (hk : k < N) (D : Nat) (hD : R / W ^ k % W = D) :
    VecAt B w0 (w.setCell ⟨g, k, none⟩ (.int .u64 (D : Int))) g N c R (k + 1) L := by
  obtain ⟨h1, h2, h3, h4⟩ := h
  refine ⟨?_, h2.setCell h3 _, h3, h4⟩
  have hs := (World.ownsRow.stored h1 k (.int .u64 (D : Int))).1
  have e : (rowTo R k L).set k (.int .u64 (D : Int)) = rowTo R (k + 1) L := by
    rw [← rowTo_step R k L (by omega), hD]
  rw [e] at hs
  exact hs
theorem VecAt.drew {B : Nat} {w0 w : World} {g N c R k : Nat} {L : List Value} (h : VecAt B w0 w g N c R k L) : VecAt B w0 w.drew g N c R k L := by
  obtain ⟨h1, h2, h3, h4⟩ := h
  exact ⟨h1, Box.below_drawn h2 1, h3, h4⟩
theorem VecAt.drewN {B : Nat} {w0 w : World} {g N c R k : Nat} {L : List Value} (h : VecAt B w0 w g N c R k L) (n : Nat) : VecAt B w0 (w.drewN n) g N c R k L := by
  obtain ⟨h1, h2, h3, h4⟩ := h
  exact ⟨h1, Box.below_drawn h2 n, h3, h4⟩
theorem VecAt.cell {B : Nat} {w0 w : World} {g N c R k : Nat} {L : List Value} (h : VecAt B w0 w g N c R k L) (hk : k < N) : (∃ v, w.cell? ⟨g, k, none⟩ = some v) ∧ w.frozen? ⟨g, k, none⟩ = false := by
  obtain ⟨h1, h2, h3, h4⟩ := h
  have hc := World.ownsRow.cellAt h1 k (by omega)
  refine ⟨⟨(rowTo R k L)[k]'(by have := h1.1; rw [Nat.mul_one] at this; omega), ?_⟩, World.ownsRow.frozenAt h1 k⟩
  rw [hc, List.getElem?_eq_getElem]

/-- the words from k on, of n words that lie at place d of block g -/
def Src (w : World) (g d n k Y : Nat) : Prop := ∀ j, k ≤ j → j < n → w.cell? ⟨g, d + j, none⟩ = some (.int .u64 ((Y / W ^ j % W : Nat) : Int))
theorem Src.store {w : World} {g d n k Y : Nat} (h : Src w g d n k Y) {gz i k' : Nat} (v : Value) (hk : k ≤ k') (hi : g ≠ gz ∨ i < d + k') : Src (w.setCell ⟨gz, i, none⟩ v) g d n k' Y := by
  intro j h1 h2
  have hne : (⟨gz, i, none⟩ : Addr) ≠ ⟨g, d + j, none⟩ := by
    intro e
    simp only [Addr.mk.injEq, and_true] at e
    rcases hi with hi | hi
    · exact hi e.1.symm
    · omega
  exact (World.cell?_setCell_other w _ _ v hne).trans (h j (by omega) h2)
theorem Src.drew {w : World} {g d n k Y : Nat} (h : Src w g d n k Y) : Src w.drew g d n k Y := h
theorem Src.mono {w : World} {g d n k k' Y : Nat} (h : Src w g d n k Y) (hk : k ≤ k') : Src w g d n k' Y := fun j h1 h2 => h j (by omega) h2
theorem Src.later {B : Nat} {w w' : World} {g d n k Y : Nat} (h : Src w g d n k Y) (hb : Below B w w') (hg : g < B) : Src w' g d n k Y := fun j h1 h2 => (hb.cell (p := ⟨g, d + j, none⟩) hg).trans (h j h1 h2)
/-- the higher words of a number -/
theorem IsNat.src {w : World} {B g c n : Nat} {X : Nat} (h : IsNat w B (.slice (some ⟨g, 0, none⟩) n c) X) (d : Nat) (hn : len W X = n) : Src w g d (n - d) 0 (X / W ^ d) := by
  intro j _ hj
  obtain ⟨a, c', e, _, hr⟩ := h.slice
  cases e
  obtain ⟨g', e', hc⟩ := hr.at_ (j := d + j) (by omega)
  cases e'
  rw [hc, Nat.div_div_eq_div_mul, ← Nat.pow_add]
theorem rowTo_splice (R k n : Nat) (L : List Value) (S : List Nat) (hk : k + n ≤ L.length) (hS : S.length = n) (h : ∀ j, j < n → S[j]? = some (R / W ^ (k + j) % W)) : (rowTo R k L).take k ++ ws S ++ (rowTo R k L).drop (k + n) = rowTo R (k + n) L := by
  rw [rowTo_take]
  have h1 : (rowTo R k L).drop (k + n) = L.drop (k + n) := by
    unfold rowTo
    rw [List.drop_append, wsdig_length, List.drop_eq_nil_of_le (by rw [wsdig_length]; omega), List.nil_append, List.drop_drop]
    congr 1
    omega
  rw [h1]
  unfold rowTo
  congr 1
  apply List.ext_getElem?
  intro j
  by_cases hj : j < k
  · rw [List.getElem?_append_left (by rw [wsdig_length]; exact hj), wsdig_get _ _ _ hj, wsdig_get _ _ _ (by omega)]
  · rw [List.getElem?_append_right (by rw [wsdig_length]; omega), wsdig_length]
    by_cases hj2 : j < k + n
    · unfold ws
      rw [List.getElem?_map, h _ (by omega)]
      rw [List.getElem?_map, dig_get _ _ _ _ hj2, show k + (j - k) = j by omega]
    · rw [List.getElem?_eq_none (by rw [ws_length]; omega), List.getElem?_eq_none (by rw [wsdig_length]; omega)]
/-- words that are copied into the row -/
theorem VecAt.copy {B : Nat} {w0 w : World} {g N c R k : Nat} {L : List Value} (h : VecAt B w0 w g N c R k L) {gx d n i Y : Nat} (hx : Src w gx d n i Y) (dT sT : TypeId) (hdT : Tryz.prog.underlying dT = some (.slice 111)) (cnt : Nat)
    (hn : i + cnt ≤ n) (hN : k + cnt ≤ N) (hw : ∀ j, j < cnt → R / W ^ (k + j) % W = Y / W ^ (i + j) % W) (dp sp : Option Addr) (dc sc dLen sLen : Nat) (hmin : cnt = Nat.min sLen dLen)
    (hpos : 0 < cnt → dp = some ⟨g, k, none⟩ ∧ sp = some ⟨gx, d + i, none⟩) :
    ∃ w', (∀ ty, (Builtin.copy_ #[dT, sT] ty #[.slice dp dLen dc, .slice sp sLen sc]).run Tryz.prog w = .ok (goInt cnt) w') ∧ VecAt B w0 w' g N c R (k + cnt) L := by
  obtain ⟨h1, h2, h3, h4⟩ := h
  by_cases h0 : cnt = 0
  · subst h0
    exact ⟨w, fun ty => run_copy_none (P := Tryz.prog) w dT sT ty 111 dp sp dLen dc sLen sc hdT size_word hmin.symm, h1, h2, h3, h4⟩
  · obtain ⟨rfl, rfl⟩ := hpos (by omega)
    have hS : ((List.range cnt).map fun j => Y / W ^ (i + j) % W).length = cnt := by simp
    obtain ⟨w', hr, ho, hb⟩ := copy_vals dT sT hdT g N c k dc cnt sc B (rowTo R k L) ((List.range cnt).map fun j => Y / W ^ (i + j) % W) ⟨gx, d + i, none⟩ w0 w h1 hS hN (fun j v hj => by
      unfold ws at hj
      rw [List.getElem?_map] at hj
      by_cases hlt : j < cnt
      · rw [cell_add', Nat.add_assoc, hx (i + j) (by omega) (by omega)]
        simpa [hlt] using hj
      · rw [List.getElem?_eq_none (by rw [hS]; omega)] at hj
        cases hj) dLen sLen hmin B h2 (Nat.le_refl _)
    refine ⟨w', hr, ?_, hb, h3, h4⟩
    rw [rowTo_splice R k cnt L _ (by omega) hS (fun j hj => by simp [hj, hw j hj])] at ho
    exact ho
/-- another number's row that is not begun -/
theorem VecAt.turn {B : Nat} {w0 w : World} {g N c R : Nat} {L : List Value} (h : VecAt B w0 w g N c R 0 L) (R' : Nat) : VecAt B w0 w g N c R' 0 L := by
  unfold VecAt at h ⊢
  rw [rowTo_zero] at h ⊢
  exact h
/-- the first words of an owned row -/
theorem own_take {w : World} {B g N c k : Nat} {L : List Value} (h : w.ownsRow B 111 1 (.slice (some ⟨g, 0, none⟩) N c) N L) (hk : k ≤ N) : w.ownsRow B 111 1 (.slice (some ⟨g, 0, none⟩) k c) k (L.take k) := by
  have h1 := h.1
  rcases h.2 with ⟨h0, _⟩ | ⟨g', c', cur, e, hB, hg, hc, hm, hs, ht⟩
  · cases h0
  · cases e
    refine ⟨by rw [List.length_take]; omega, .inr ⟨g, c, cur, rfl, hB, hg, by omega, hm, hs, ?_⟩⟩
    rw [← ht, List.take_take]
    congr 1
    omega
/-- what has been written is a row of its own -/
theorem VecAt.own {B : Nat} {w0 w : World} {g N c R k : Nat} {L : List Value} (h : VecAt B w0 w g N c R k L) (hk : k ≤ N) : OwnW w B (.slice (some ⟨g, 0, none⟩) k c) (dig W R k) := by
  obtain ⟨h1, h2, h3, h4⟩ := h
  have := own_take h1 hk
  rw [rowTo_take] at this
  unfold OwnW
  rw [dig_length]
  exact this
/-- a number's words, and what lies behind them up to the row's capacity -/
theorem IsNat.room {w : World} {B g m c X : Nat} {w0 : World} (h : IsNat w B (.slice (some ⟨g, 0, none⟩) m c) X) (hm : len W X = m) (hb : Below B w0 w) (hg : B ≤ g) (R N : Nat) (hN : m ≤ N) (hc : N ≤ c) :
    ∃ L, VecAt B w0 w g N c R 0 L ∧ ∀ j, j < m → L[j]? = some (.int .u64 ((X / W ^ j % W : Nat) : Int)) := by
  have hl : (words X).length = m := by unfold words; rw [dig_length, hm]
  have h9 := h
  unfold IsNat OwnW at h9
  rw [hl] at h9
  rcases h9.2 with ⟨h0, _⟩ | ⟨g', c', cur, e, hB, hgg, hcl, hmx, hs, ht⟩
  · cases h0
  · cases e
    have hs' : cur.toList.length = c := by rw [Array.length_toList]; omega
    refine ⟨cur.toList.take N, ⟨?_, hb, hg, by rw [List.length_take]; omega⟩, fun j hj => ?_⟩
    · rw [rowTo_zero]
      exact ⟨by rw [List.length_take]; omega, .inr ⟨g, c, cur, rfl, hB, hgg, hc, hmx, hs, by rw [Nat.mul_one]⟩⟩
    · rw [List.getElem?_take, if_pos (by omega)]
      have h1 : (cur.toList.take m)[j]? = cur.toList[j]? := by rw [List.getElem?_take, if_pos hj]
      rw [← h1]
      rw [Nat.mul_one] at ht
      rw [ht]
      unfold words
      rw [hm]
      exact wsdig_get _ _ _ hj
theorem IsNat.vec {w : World} {B g m c X : Nat} {w0 : World} (h : IsNat w B (.slice (some ⟨g, 0, none⟩) m c) X) (hm : len W X = m) (hb : Below B w0 w) (hg : B ≤ g) (R : Nat) : VecAt B w0 w g m c R 0 (ws (words X)) := by
  have hl : (words X).length = m := by unfold words; rw [dig_length, hm]
  refine ⟨?_, hb, hg, by rw [ws_length, hl]⟩
  rw [rowTo_zero]
  have := h
  unfold IsNat OwnW at this
  rwa [hl] at this
theorem OwnW.vec {w : World} {B g n c : Nat} {w0 : World} (h : OwnW w B (.slice (some ⟨g, 0, none⟩) n c) (dig W 0 n)) (hb : Below B w0 w) (hg : B ≤ g) (R : Nat) : VecAt B w0 w g n c R 0 (ws (dig W 0 n)) := by
  refine ⟨?_, hb, hg, by rw [ws_length, dig_length]⟩
  rw [rowTo_zero]
  have := h
  unfold OwnW at this
  rwa [dig_length] at this
end Go.Proofs.YtpjkfdgkkpkljaaGreatDoor.Nat_
namespace Go.Proofs.YtpjkfdgkkpkljaaGreatDoor.Nat_
open Go.RowKit Go.WideShapes Go.Proofs.YtpjkfdgkkpkljaaGreatDoor.Own Go.Proofs.YtpjkfdgkkpkljaaGreatDoor.Num Go.Proofs.YtpjkfdgkkpkljaaGreatDoor.Ref
set_option linter.unusedVariables false

theorem run_add64_0 (x y : Nat) (w : World) : (callFunc 133 #[.int .u64 (x : Int), .int .u64 (y : Int), .int .u64 ((0 : Nat) : Int)]).run Tryz.prog w = .ok (.value (.tuple #[.int .u64 (((x + y + 0) % W : Nat) : Int), .int .u64 (((x + y + 0) / W : Nat) : Int)])) w := by kernel_rfl
theorem run_add64_1 (x y : Nat) (w : World) : (callFunc 133 #[.int .u64 (x : Int), .int .u64 (y : Int), .int .u64 ((1 : Nat) : Int)]).run Tryz.prog w = .ok (.value (.tuple #[.int .u64 (((x + y + 1) % W : Nat) : Int), .int .u64 (((x + y + 1) / W : Nat) : Int)])) w := by kernel_rfl
theorem run_add64 (x y c : Nat) (hc : c ≤ 1) (w : World) : (callFunc 133 #[.int .u64 (x : Int), .int .u64 (y : Int), .int .u64 (c : Int)]).run Tryz.prog w = .ok (.value (.tuple #[.int .u64 (((x + y + c) % W : Nat) : Int), .int .u64 (((x + y + c) / W : Nat) : Int)])) w := by
  have : c = 0 ∨ c = 1 := by omega
  rcases this with rfl | rfl
  · exact run_add64_0 x y w
  · exact run_add64_1 x y w
theorem run_sub64_0 (x y : Nat) (w : World) : (callFunc 135 #[.int .u64 (x : Int), .int .u64 (y : Int), .int .u64 ((0 : Nat) : Int)]).run Tryz.prog w = .ok (.value (.tuple #[.int .u64 (((x + W - y - 0) % W : Nat) : Int), .int .u64 ((if x < y + 0 then 1 else 0 : Nat) : Int)])) w := by kernel_rfl
theorem run_sub64_1 (x y : Nat) (w : World) : (callFunc 135 #[.int .u64 (x : Int), .int .u64 (y : Int), .int .u64 ((1 : Nat) : Int)]).run Tryz.prog w = .ok (.value (.tuple #[.int .u64 (((x + W - y - 1) % W : Nat) : Int), .int .u64 ((if x < y + 1 then 1 else 0 : Nat) : Int)])) w := by kernel_rfl
theorem run_sub64 (x y c : Nat) (hc : c ≤ 1) (w : World) : (callFunc 135 #[.int .u64 (x : Int), .int .u64 (y : Int), .int .u64 (c : Int)]).run Tryz.prog w = .ok (.value (.tuple #[.int .u64 (((x + W - y - c) % W : Nat) : Int), .int .u64 ((if x < y + c then 1 else 0 : Nat) : Int)])) w := by
  have : c = 0 ∨ c = 1 := by omega
  rcases this with rfl | rfl
  · exact run_sub64_0 x y w
  · exact run_sub64_1 x y w
set_option maxHeartbeats 1000000 in
set_option maxRecDepth 100000 in
theorem badd_any (x y c : Nat) (hc : c ≤ 1) (w : World) :
    Calls Tryz.prog 110 #[.int .u64 x, .int .u64 y, .int .u64 c] w fun e w' => e = .returned (.tuple #[.int .u64 (((x + y + c) % W : Nat) : Int), .int .u64 (((x + y + c) / W : Nat) : Int)]) ∧ w = w' := by
  have hr := run_add64 x y c hc
  obtain ⟨s, hs⟩ : ∃ s, (x + y + c) % W = s := ⟨_, rfl⟩
  obtain ⟨C, hC⟩ : ∃ C, (x + y + c) / W = C := ⟨_, rfl⟩
  rw [hs, hC] at hr ⊢
  clear hs hC
  go_enter Tryz.func110, Tryz.ntmps110
  go_wp2
  go_ret2
  exact ⟨rfl, rfl⟩
set_option maxHeartbeats 1000000 in
set_option maxRecDepth 100000 in
theorem bsub_any (x y c : Nat) (hc : c ≤ 1) (w : World) :
    Calls Tryz.prog 112 #[.int .u64 x, .int .u64 y, .int .u64 c] w fun e w' => e = .returned (.tuple #[.int .u64 (((x + W - y - c) % W : Nat) : Int), .int .u64 (((if x < y + c then 1 else 0 : Nat)) : Int)]) ∧ w = w' := by
  have hr := run_sub64 x y c hc
  obtain ⟨s, hs⟩ : ∃ s, (x + W - y - c) % W = s := ⟨_, rfl⟩
  obtain ⟨C, hC⟩ : ∃ C : Nat, (if x < y + c then 1 else 0 : Nat) = C := ⟨_, rfl⟩
  rw [hs, hC] at hr ⊢
  clear hs hC
  go_enter Tryz.func112, Tryz.ntmps112
  go_wp2
  go_ret2
  exact ⟨rfl, rfl⟩
end Go.Proofs.YtpjkfdgkkpkljaaGreatDoor.Nat_
namespace Go.Proofs.YtpjkfdgkkpkljaaGreatDoor.Nat_
open Go.RowKit Go.WideShapes Go.Proofs.YtpjkfdgkkpkljaaGreatDoor.Own Go.Proofs.YtpjkfdgkkpkljaaGreatDoor.Num Go.Proofs.YtpjkfdgkkpkljaaGreatDoor.Ref
set_option linter.unusedVariables false

/-- what is borrowed from place k on -/
def borrow (X Y k : Nat) : Nat := if X % W ^ k < Y % W ^ k then 1 else 0
theorem borrow_le (X Y k : Nat) : borrow X Y k ≤ 1 := by unfold borrow; split <;> omega
theorem borrow_zero (X Y : Nat) : borrow X Y 0 = 0 := by unfold borrow; simp [Nat.mod_one]
theorem borrow_succ (X Y k x y : Nat) (hx : X / W ^ k % W = x) (hy : Y / W ^ k % W = y) : (if x < y + borrow X Y k then 1 else 0) = borrow X Y (k + 1) := by
  have h := borrow_next X Y k
  unfold borrow
  rw [hx, hy] at h
  by_cases h1 : X % W ^ (k + 1) < Y % W ^ (k + 1)
  · rw [if_pos h1, if_pos (h.mp h1)]
  · rw [if_neg h1, if_neg (fun h2 => h1 (h.mpr h2))]
theorem borrow_word (X Y k x y : Nat) (hXY : Y ≤ X) (hx : X / W ^ k % W = x) (hy : Y / W ^ k % W = y) : (X - Y) / W ^ k % W = (x + W - y - borrow X Y k) % W := by
  rw [sub_borrow X Y k hXY, hx, hy]
  rfl
/-- what is carried to place k -/
def carry (X Y k : Nat) : Nat := (X % W ^ k + Y % W ^ k) / W ^ k
theorem carry_le (X Y k : Nat) : carry X Y k ≤ 1 := by
  have hp : 0 < W ^ k := Nat.pow_pos W_pos
  have h1 := Nat.mod_lt X hp
  have h2 := Nat.mod_lt Y hp
  unfold carry
  have : (X % W ^ k + Y % W ^ k) / W ^ k < 2 := by
    refine (Nat.div_lt_iff_lt_mul hp).2 ?_
    omega
  omega
theorem carry_zero (X Y : Nat) : carry X Y 0 = 0 := by unfold carry; simp [Nat.mod_one]
theorem carry_word (X Y k x y : Nat) (hx : X / W ^ k % W = x) (hy : Y / W ^ k % W = y) : (X + Y) / W ^ k % W = (x + y + carry X Y k) % W ∧ carry X Y (k + 1) = (x + y + carry X Y k) / W := by
  subst hx hy
  exact add_carry X Y k _ _ rfl rfl

set_option maxHeartbeats 2000000 in
set_option maxRecDepth 100000 in
theorem subg_any (X Y n N gz cc cz gx dx cx gy dy cy B : Nat) (L : List Value) (w0 w : World) (hz : VecAt B w0 w gz N cc (X - Y) 0 L) (hx : Src w gx dx n 0 X) (hy : Src w gy dy n 0 Y) (hXY : Y ≤ X) (hn2 : n ≤ N) (hN : N ≤ 10000)
    (hcx : n ≤ cx) (hcy : n ≤ cy) (hcz : n ≤ cz) (hdx : dx ≤ 10000) (hdy : dy ≤ 10000) :
    Calls Tryz.prog 111 #[.slice (some ⟨gz, 0, none⟩) n cz, .slice (some ⟨gx, dx, none⟩) n cx, .slice (some ⟨gy, dy, none⟩) n cy] w fun e w' => e = .returned (.int .u64 ((borrow X Y n : Nat) : Int)) ∧ VecAt B w0 w' gz N cc (X - Y) n L := by
  have hst := Lib.hid (And.intro hz (And.intro hx hy))
  have hXY' := Lib.hid hXY
  have hb := Lib.hid fun x y c W (hc : c ≤ 1) => (bsub_any x y c hc W).mono (fun e w' (h : _ ∧ W = w') => And.intro h.1 h.2.symm)
  clear hz hx hy hXY
  go_enter Tryz.func111, Tryz.ntmps111
  go_wp2
  go_loopw [6, 25] (fun c i wr => ∃ k : Nat, k ≤ n ∧ i = .int .i64 (k : Int) ∧ c = .int .u64 ((borrow X Y k : Nat) : Int) ∧ Hid (VecAt B w0 wr gz N cc (X - Y) k L ∧ Src wr gx dx n k X ∧ Src wr gy dy n k Y)) (fun _ i _ => n - (intOf i).toNat)
  case atStart => exact ⟨0, by omega, rfl, by rw [borrow_zero]; rfl, hst⟩
  case round =>
    clear hst
    obtain ⟨k, hk, rfl, rfl, hI⟩ := hrel
    obtain ⟨b, hbk⟩ : ∃ b, borrow X Y k = b := ⟨_, rfl⟩
    have hb1 : b ≤ 1 := by rw [← hbk]; exact borrow_le X Y k
    have hbk' := Lib.hid hbk
    rw [hbk]
    clear hbk
    by_cases hlt : k < n
    · obtain ⟨hz, hx, hy⟩ := hI.out
      obtain ⟨⟨cv, hcv⟩, hf0⟩ := hz.cell (by omega)
      obtain ⟨x, hxe⟩ : ∃ x, X / W ^ k % W = x := ⟨_, rfl⟩
      obtain ⟨y, hye⟩ : ∃ y, Y / W ^ k % W = y := ⟨_, rfl⟩
      have hx0 := hx k (by omega) (by omega)
      rw [hxe] at hx0
      have hy0 := hy k (by omega) (by omega)
      rw [hye] at hy0
      have hbw := borrow_word X Y k x y hXY'.out hxe hye
      have hbs := borrow_succ X Y k x y hxe hye
      rw [hbk'.out] at hbw hbs
      obtain ⟨D, hD⟩ : ∃ D, (x + W - y - b) % W = D := ⟨_, rfl⟩
      obtain ⟨C, hC⟩ : ∃ C : Nat, (if x < y + b then 1 else 0 : Nat) = C := ⟨_, rfl⟩
      have hcall := Lib.hid fun W => hb.out x y b W hb1
      rw [hD, hC] at hcall
      rw [hD] at hbw
      rw [hC] at hbs
      have hfin := Lib.hid (show ∀ q, VecAt B w0 ((wr.drewN q).setCell ⟨gz, k, none⟩ (.int .u64 (D : Int))) gz N cc (X - Y) (k + 1) L ∧ Src ((wr.drewN q).setCell ⟨gz, k, none⟩ (.int .u64 (D : Int))) gx dx n (k + 1) X ∧ Src ((wr.drewN q).setCell ⟨gz, k, none⟩ (.int .u64 (D : Int))) gy dy n (k + 1) Y from fun q =>
        ⟨(hz.drewN q).store (by omega) D hbw, Src.store (w := wr.drewN q) hx (.int .u64 (D : Int)) (by omega) (.inr (by omega)), Src.store (w := wr.drewN q) hy (.int .u64 (D : Int)) (by omega) (.inr (by omega))⟩)
      have hbs' := Lib.hid hbs
      clear hxe hye hbw hbs hD hC hz hx hy hI
      go_wp2_with fail
      go_quiet ((go_at_call 112; with_reducible exact Calls.quiet_of_same (hcall.out _)))
      go_wp2
      go_roundw
      case rel => exact ⟨k + 1, by omega, by go_num, by rw [hbs'.out], Lib.hid (hfin.out _)⟩
      case measure => simp [intOf]; omega
    · obtain rfl : k = n := by omega
      have hfin := Lib.hid hI.out.1
      clear hI
      go_wp2
      go_ret
      exact ⟨by rw [hbk'.out]; rfl, hfin.out⟩
set_option maxHeartbeats 2000000 in
set_option maxRecDepth 100000 in
theorem addg_any (X Y n N gz cc cz gx dx cx gy dy cy B : Nat) (L : List Value) (w0 w : World) (hz : VecAt B w0 w gz N cc (X + Y) 0 L) (hx : Src w gx dx n 0 X) (hy : Src w gy dy n 0 Y) (hn2 : n ≤ N) (hN : N ≤ 10000)
    (hcx : n ≤ cx) (hcy : n ≤ cy) (hcz : n ≤ cz) (hdx : dx ≤ 10000) (hdy : dy ≤ 10000) :
    Calls Tryz.prog 109 #[.slice (some ⟨gz, 0, none⟩) n cz, .slice (some ⟨gx, dx, none⟩) n cx, .slice (some ⟨gy, dy, none⟩) n cy] w fun e w' => e = .returned (.int .u64 ((carry X Y n : Nat) : Int)) ∧ VecAt B w0 w' gz N cc (X + Y) n L := by
  have hst := Lib.hid (And.intro hz (And.intro hx hy))
  have hb := Lib.hid fun x y c W (hc : c ≤ 1) => (badd_any x y c hc W).mono (fun e w' (h : _ ∧ W = w') => And.intro h.1 h.2.symm)
  clear hz hx hy
  go_enter Tryz.func109, Tryz.ntmps109
  go_wp2
  go_loopw [6, 25] (fun c i wr => ∃ k : Nat, k ≤ n ∧ i = .int .i64 (k : Int) ∧ c = .int .u64 ((carry X Y k : Nat) : Int) ∧ Hid (VecAt B w0 wr gz N cc (X + Y) k L ∧ Src wr gx dx n k X ∧ Src wr gy dy n k Y)) (fun _ i _ => n - (intOf i).toNat)
  case atStart => exact ⟨0, by omega, rfl, by rw [carry_zero]; rfl, hst⟩
  case round =>
    clear hst
    obtain ⟨k, hk, rfl, rfl, hI⟩ := hrel
    obtain ⟨b, hbk⟩ : ∃ b, carry X Y k = b := ⟨_, rfl⟩
    have hb1 : b ≤ 1 := by rw [← hbk]; exact carry_le X Y k
    have hbk' := Lib.hid hbk
    rw [hbk]
    clear hbk
    by_cases hlt : k < n
    · obtain ⟨hz, hx, hy⟩ := hI.out
      obtain ⟨⟨cv, hcv⟩, hf0⟩ := hz.cell (by omega)
      obtain ⟨x, hxe⟩ : ∃ x, X / W ^ k % W = x := ⟨_, rfl⟩
      obtain ⟨y, hye⟩ : ∃ y, Y / W ^ k % W = y := ⟨_, rfl⟩
      have hx0 := hx k (by omega) (by omega)
      rw [hxe] at hx0
      have hy0 := hy k (by omega) (by omega)
      rw [hye] at hy0
      obtain ⟨hbw, hbs⟩ := carry_word X Y k x y hxe hye
      rw [hbk'.out] at hbw hbs
      obtain ⟨D, hD⟩ : ∃ D, (x + y + b) % W = D := ⟨_, rfl⟩
      obtain ⟨C, hC⟩ : ∃ C, (x + y + b) / W = C := ⟨_, rfl⟩
      have hcall := Lib.hid fun W => hb.out x y b W hb1
      rw [hD, hC] at hcall
      rw [hD] at hbw
      rw [hC] at hbs
      have hfin := Lib.hid (show ∀ q, VecAt B w0 ((wr.drewN q).setCell ⟨gz, k, none⟩ (.int .u64 (D : Int))) gz N cc (X + Y) (k + 1) L ∧ Src ((wr.drewN q).setCell ⟨gz, k, none⟩ (.int .u64 (D : Int))) gx dx n (k + 1) X ∧ Src ((wr.drewN q).setCell ⟨gz, k, none⟩ (.int .u64 (D : Int))) gy dy n (k + 1) Y from fun q =>
        ⟨(hz.drewN q).store (by omega) D hbw, Src.store (w := wr.drewN q) hx (.int .u64 (D : Int)) (by omega) (.inr (by omega)), Src.store (w := wr.drewN q) hy (.int .u64 (D : Int)) (by omega) (.inr (by omega))⟩)
      have hbs' := Lib.hid hbs
      clear hxe hye hbw hbs hD hC hz hx hy hI
      go_wp2_with fail
      go_quiet ((go_at_call 110; with_reducible exact Calls.quiet_of_same (hcall.out _)))
      go_wp2
      go_roundw
      case rel => exact ⟨k + 1, by omega, by go_num, by rw [hbs'.out], Lib.hid (hfin.out _)⟩
      case measure => simp [intOf]; omega
    · obtain rfl : k = n := by omega
      have hfin := Lib.hid hI.out.1
      clear hI
      go_wp2
      go_ret
      exact ⟨by rw [hbk'.out]; rfl, hfin.out⟩
set_option maxRecDepth 100000 in
theorem subv_any (X Y n N gz cc cz gx dx cx gy dy cy B : Nat) (L : List Value) (w0 w : World) (hz : VecAt B w0 w gz N cc (X - Y) 0 L) (hx : Src w gx dx n 0 X) (hy : Src w gy dy n 0 Y) (hXY : Y ≤ X) (hn2 : n ≤ N) (hN : N ≤ 10000)
    (hcx : n ≤ cx) (hcy : n ≤ cy) (hcz : n ≤ cz) (hdx : dx ≤ 10000) (hdy : dy ≤ 10000) :
    Calls Tryz.prog 90 #[.slice (some ⟨gz, 0, none⟩) n cz, .slice (some ⟨gx, dx, none⟩) n cx, .slice (some ⟨gy, dy, none⟩) n cy] w fun e w' => e = .returned (.int .u64 ((borrow X Y n : Nat) : Int)) ∧ VecAt B w0 w' gz N cc (X - Y) n L := by
  have hin := Lib.hid (subg_any X Y n N gz cc cz gx dx cx gy dy cy B L w0 w hz hx hy hXY hn2 hN hcx hcy hcz hdx hdy)
  clear hz hx hy
  go_enter Tryz.func90, Tryz.ntmps90
  go_wp2_with fail
  refine hin.out.mono ?_
  rintro e w1 ⟨rfl, ho⟩
  have hfin := Lib.hid ho
  clear ho hin
  go_wp2
  go_ret
  exact ⟨rfl, hfin.out⟩
set_option maxRecDepth 100000 in
theorem addv_any (X Y n N gz cc cz gx dx cx gy dy cy B : Nat) (L : List Value) (w0 w : World) (hz : VecAt B w0 w gz N cc (X + Y) 0 L) (hx : Src w gx dx n 0 X) (hy : Src w gy dy n 0 Y) (hn2 : n ≤ N) (hN : N ≤ 10000)
    (hcx : n ≤ cx) (hcy : n ≤ cy) (hcz : n ≤ cz) (hdx : dx ≤ 10000) (hdy : dy ≤ 10000) :
    Calls Tryz.prog 88 #[.slice (some ⟨gz, 0, none⟩) n cz, .slice (some ⟨gx, dx, none⟩) n cx, .slice (some ⟨gy, dy, none⟩) n cy] w fun e w' => e = .returned (.int .u64 ((carry X Y n : Nat) : Int)) ∧ VecAt B w0 w' gz N cc (X + Y) n L := by
  have hin := Lib.hid (addg_any X Y n N gz cc cz gx dx cx gy dy cy B L w0 w hz hx hy hn2 hN hcx hcy hcz hdx hdy)
  clear hz hx hy
  go_enter Tryz.func88, Tryz.ntmps88
  go_wp2_with fail
  refine hin.out.mono ?_
  rintro e w1 ⟨rfl, ho⟩
  have hfin := Lib.hid ho
  clear ho hin
  go_wp2
  go_ret
  exact ⟨rfl, hfin.out⟩
end Go.Proofs.YtpjkfdgkkpkljaaGreatDoor.Nat_
