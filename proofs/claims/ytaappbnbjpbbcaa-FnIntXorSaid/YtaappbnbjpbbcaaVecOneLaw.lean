/-
  A borrow, or a carry, that runs on through the words of one number alone.
-/
import Derived.Test.YtaappbnbjpbbcaaVec
import Derived.Test.YtaappbnbjpbbcaaNatRsh
namespace Go.Proofs.Ytaappbnbjpbbcaa.Nat_
open Go.RowKit Go.Proofs.Ytaappbnbjpbbcaa.Num
set_option linter.unusedVariables false

theorem high_zero {Y k : Nat} (hY : Y < W ^ k) (j : Nat) (hj : k ≤ j) : Y / W ^ j % W = 0 := by
  rw [Nat.div_eq_of_lt (Nat.lt_of_lt_of_le hY (Nat.pow_le_pow_right (by decide) hj))]
  rfl
theorem borrow_on (X Y k x : Nat) (hXY : Y ≤ X) (hY : Y < W ^ k) (j : Nat) (hj : k ≤ j) (hx : X / W ^ j % W = x) :
    (X - Y) / W ^ j % W = (x + W - borrow X Y j) % W ∧ borrow X Y (j + 1) = if x < borrow X Y j then 1 else 0 := by
  have h0 := high_zero hY j hj
  have h1 := borrow_word X Y j x 0 hXY hx h0
  have h2 := borrow_succ X Y j x 0 hx h0
  rw [Nat.sub_zero] at h1
  rw [Nat.zero_add] at h2
  exact ⟨h1, h2.symm⟩
/-- nothing is borrowed any more -/
theorem borrow_none (X Y k : Nat) (hXY : Y ≤ X) (hY : Y < W ^ k) (hb : borrow X Y k = 0) (j : Nat) : borrow X Y (k + j) = 0 ∧ (X - Y) / W ^ (k + j) % W = X / W ^ (k + j) % W := by
  have key : ∀ j, borrow X Y (k + j) = 0 := by
    intro j
    induction j with
    | zero => exact hb
    | succ j ih =>
      have h := (borrow_on X Y k _ hXY hY (k + j) (by omega) rfl).2
      rw [ih] at h
      rw [← Nat.add_assoc, h, if_neg (by omega)]
  refine ⟨key j, ?_⟩
  have h := (borrow_on X Y k _ hXY hY (k + j) (by omega) rfl).1
  rw [key j] at h
  rw [h, Nat.sub_zero, Nat.add_mod_right, Nat.mod_mod]
theorem carry_on (X Y k x : Nat) (hY : Y < W ^ k) (j : Nat) (hj : k ≤ j) (hx : X / W ^ j % W = x) :
    (X + Y) / W ^ j % W = (x + carry X Y j) % W ∧ carry X Y (j + 1) = (x + carry X Y j) / W := by
  have h0 := high_zero hY j hj
  have h1 := carry_word X Y j x 0 hx h0
  rw [Nat.add_zero] at h1
  exact h1
theorem carry_none (X Y k : Nat) (hY : Y < W ^ k) (hb : carry X Y k = 0) (j : Nat) : carry X Y (k + j) = 0 ∧ (X + Y) / W ^ (k + j) % W = X / W ^ (k + j) % W := by
  have key : ∀ j, carry X Y (k + j) = 0 := by
    intro j
    induction j with
    | zero => exact hb
    | succ j ih =>
      have h := (carry_on X Y k _ hY (k + j) (by omega) rfl).2
      rw [ih, Nat.add_zero (X / W ^ (k + j) % W), Nat.div_eq_of_lt (Nat.mod_lt _ W_pos)] at h
      rw [← Nat.add_assoc, h]
  refine ⟨key j, ?_⟩
  have h := (carry_on X Y k _ hY (k + j) (by omega) rfl).1
  rw [key j] at h
  rw [h, Nat.add_zero (X / W ^ (k + j) % W), Nat.mod_mod]

/-- the rest of the row stands already -/
theorem VecAt.rest {B : Nat} {w0 w : World} {g N c R k : Nat} {L : List Value} (h : VecAt B w0 w g N c R k L) (m : Nat) (hkm : k ≤ m) (hm : m ≤ N) (hL : ∀ j, k ≤ j → j < m → L[j]? = some (.int .u64 ((R / W ^ j % W : Nat) : Int))) : VecAt B w0 w g N c R m L := by
  obtain ⟨h1, h2, h3, h4⟩ := h
  have e : rowTo R k L = rowTo R m L := by
    apply List.ext_getElem?
    intro j
    unfold rowTo
    by_cases hj : j < k
    · rw [List.getElem?_append_left (by rw [wsdig_length]; exact hj), List.getElem?_append_left (by rw [wsdig_length]; omega), wsdig_get _ _ _ hj, wsdig_get _ _ _ (by omega)]
    · rw [List.getElem?_append_right (by rw [wsdig_length]; omega), wsdig_length, List.getElem?_drop, show k + (j - k) = j by omega]
      by_cases hj2 : j < m
      · rw [List.getElem?_append_left (by rw [wsdig_length]; omega), wsdig_get _ _ _ hj2, hL j (by omega) hj2]
      · rw [List.getElem?_append_right (by rw [wsdig_length]; omega), wsdig_length, List.getElem?_drop, show m + (j - m) = j by omega]
  unfold VecAt
  rw [← e]
  exact ⟨h1, h2, h3, h4⟩

/-- a block of words -/
def WBlk (w : World) (g : Nat) : Prop := ∃ cur, w.heap[g]? = some (.cells cur 140 (0, 0))
theorem WBlk.store {w : World} {g : Nat} (h : WBlk w g) (b i : Nat) (v : Value) : WBlk (w.setCell ⟨b, i, none⟩ v) g := by
  obtain ⟨cur, hg⟩ := h
  by_cases hb : b = g
  · subst hb
    exact ⟨_, heap_setCell_same w b i cur 140 v hg⟩
  · exact ⟨cur, (heap_setCell_other w ⟨b, i, none⟩ g v (fun e => hb e.symm)).trans hg⟩
theorem WBlk.later {B : Nat} {w w' : World} {g : Nat} (h : WBlk w g) (hb : Below B w w') (hg : g < B) : WBlk w' g := by
  obtain ⟨cur, hc⟩ := h
  exact ⟨cur, (hb.block g hg).trans hc⟩
theorem VecAt.blk {B : Nat} {w0 w : World} {g N c R k : Nat} {L : List Value} (h : VecAt B w0 w g N c R k L) : WBlk w g := by
  rcases h.1.2 with ⟨e, _⟩ | ⟨g', c', cur, e, _, hg, _⟩
  · cases e
  · cases e; exact ⟨cur, hg⟩
theorem IsNat.blk {w : World} {B g m c X : Nat} (h : IsNat w B (.slice (some ⟨g, 0, none⟩) m c) X) : WBlk w g := by
  rcases h.2 with ⟨e, _⟩ | ⟨g', c', cur, e, _, hg, _⟩
  · cases e
  · cases e; exact ⟨cur, hg⟩
theorem neq_blk {a b : Addr} (w : World) (hne : a ≠ b) (ha : WBlk w a.block) (hb : WBlk w b.block) : (binOp BinOp.neq 156 (.pointer (some a)) (.pointer (some b))).run Try.prog w = .ok (.bool true) w := by
  obtain ⟨j, hj, hs⟩ := info_wd
  obtain ⟨ca, ha⟩ := ha
  obtain ⟨cb, hb⟩ := hb
  have h : ∀ d : Nat, (Op.equalIn (d + 1) 156 (.pointer (some a)) (.pointer (some b))).run Try.prog w = .ok false w := fun d => by
    simp [Op.equalIn, run_underlying Try.underlying156, sizeOf, typeInfo, hj, hs, run_sameAddr_other w hne ha hb]
  simp only [binOp]
  simp [Op.equal, Op.maxDepth, h 9999]
theorem neq_self (a : Addr) (w : World) : (binOp BinOp.neq 156 (.pointer (some a)) (.pointer (some a))).run Try.prog w = .ok (.bool false) w := by
  obtain ⟨j, hj, hs⟩ := info_wd
  have h : ∀ d : Nat, (Op.equalIn (d + 1) 156 (.pointer (some a)) (.pointer (some a))).run Try.prog w = .ok true w := fun d => by
    simp [Op.equalIn, run_underlying Try.underlying156, sizeOf, typeInfo, hj, run_sameAddr_same]
  simp only [binOp]
  simp [Op.equal, Op.maxDepth, h 9999]
end Go.Proofs.Ytaappbnbjpbbcaa.Nat_
