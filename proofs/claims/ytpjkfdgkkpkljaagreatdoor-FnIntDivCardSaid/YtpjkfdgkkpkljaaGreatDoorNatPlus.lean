/-
  A row that has room is taken as it stands; a row beside itself: the package's same, alias. A borrow, or a carry, that runs on through the words of one number alone. A borrow taken from a row of words, into another row. A carry given to a row of words, into another row or in place. A carry given to a row of words in place. The difference of two naturals, into a new one. The sum of two naturals: into a new one, or in place. 1 added to a natural: into a new one, or in place. 1 added to a natural: into a new one, or in place; 1 taken from it.
-/
import Derived.Test.YtpjkfdgkkpkljaaGreatDoorVec
import Derived.Test.YtpjkfdgkkpkljaaGreatDoorLshVec
import Derived.Test.YtpjkfdgkkpkljaaGreatDoorNatLsh
import Derived.Deep.RegionLaw
namespace Go.Proofs.YtpjkfdgkkpkljaaGreatDoor.Nat_
open Go.RowKit Go.WideShapes Go.Proofs.YtpjkfdgkkpkljaaGreatDoor.Own Go.Proofs.YtpjkfdgkkpkljaaGreatDoor.Num Go.Proofs.YtpjkfdgkkpkljaaGreatDoor.Ref
set_option linter.unusedVariables false

set_option maxRecDepth 100000 in
theorem make_room (a : Option Addr) (l n c : Nat) (w : World) (hn : n ≤ c) (h : a = none → n = 0) : Calls Tryz.prog 77 #[.slice a l c, .int .i64 n] w fun e w' => e = .returned (.slice a n c) ∧ w = w' := by
  cases a with
  | none =>
    obtain rfl : n = 0 := h rfl
    clear h
    go_enter Tryz.func77, Tryz.ntmps77
    go_wp2
    go_ret
    exact ⟨rfl, rfl⟩
  | some a =>
    clear h
    go_enter Tryz.func77, Tryz.ntmps77
    go_wp2
    go_ret
    exact ⟨rfl, rfl⟩

/-- what make hands out: a row of at least n words, not begun; the words of x from d on stand as they were -/
def MadeAt (B : Nat) (w0 : World) (gx d n Y R : Nat) (e : Ending) (w' : World) : Prop :=
  ∃ gz c N L, e = .returned (.slice (some ⟨gz, 0, none⟩) n c) ∧ VecAt B w0 w' gz N c R 0 L ∧ Src w' gx d n 0 Y ∧ n ≤ N ∧ n ≤ c ∧ N ≤ 10000

theorem info_wd : ∃ j, Tryz.prog.info? 111 = some j ∧ j.size ≠ 0 := by
  have h : (Tryz.prog.info? 111).map (fun j => decide (j.size ≠ 0)) = some true := by kernel_rfl
  cases hj : Tryz.prog.info? 111 with
  | none => rw [hj] at h; cases h
  | some j => rw [hj] at h; exact ⟨j, rfl, by simpa using h⟩
theorem eql_word (a : Addr) (w : World) : (binOp BinOp.eql 142 (.pointer (some a)) (.pointer (some a))).run Tryz.prog w = .ok (.bool true) w := by
  obtain ⟨j, hj, hs⟩ := info_wd
  exact run_eql_ptr_same w a Tryz.underlying142 hj
set_option maxRecDepth 100000 in
theorem same_self (g m c : Nat) (w : World) (hm : 0 < m) (hm2 : m ≤ 10000) : Calls Tryz.prog 148 #[.slice (some ⟨g, 0, none⟩) m c, .slice (some ⟨g, 0, none⟩) m c] w fun e w' => e = .returned (.bool true) ∧ ∃ q, w' = w.drewN q := by
  have hq := eql_word ⟨g, 0, none⟩
  have hb : ((m : Int) == (m : Int)) = true := by simp
  have hb1 : decide ((0 : Int) < (m : Int)) = true := by simp; omega
  have hb2 : decide (0 < m) = true := by simp; omega
  go_enter Tryz.func148, Tryz.ntmps148
  go_wp2
  go_quiet (fail)
  go_wp2
  go_ret
  exact ⟨rfl, _, rfl⟩
set_option maxRecDepth 100000 in
theorem same_none (g c : Nat) (w : World) : Calls Tryz.prog 148 #[.slice (some ⟨g, 0, none⟩) 0 c, .slice (some ⟨g, 0, none⟩) 0 c] w fun e w' => e = .returned (.bool false) ∧ ∃ q, w' = w.drewN q := by
  go_enter Tryz.func148, Tryz.ntmps148
  go_wp2
  go_quiet (fail)
  go_wp2
  go_ret
  exact ⟨rfl, _, rfl⟩
set_option maxRecDepth 100000 in
theorem alias_self (g m c : Nat) (w : World) (hc : c ≤ 9223372036854775807) : Calls Tryz.prog 105 #[.slice (some ⟨g, 0, none⟩) m c, .slice (some ⟨g, 0, none⟩) m c] w fun e w' => e = .returned (.bool (decide (0 < c))) ∧ ∃ q, w' = w.drewN q := by
  by_cases h0 : c = 0
  · subst h0
    rw [show decide (0 < 0) = false from rfl]
    go_enter Tryz.func105, Tryz.ntmps105
    go_wp2
    go_quiet (fail)
    go_wp2
    go_ret
    exact ⟨rfl, _, rfl⟩
  · have hb2 : decide (0 < c) = true := by simp; omega
    have hb1 : decide ((0 : Int) < (c : Int)) = true := by simp; omega
    rw [hb2]
    obtain ⟨p, rfl⟩ : ∃ p, c = p + 1 := ⟨c - 1, by omega⟩
    have hq := eql_word ⟨g, p, none⟩
    have e1 : ((p + 1 : Nat) : Int) - 1 = p := by omega
    go_enter Tryz.func105, Tryz.ntmps105
    go_wp2
    go_quiet (fail)
    go_wp2
    go_ret
    exact ⟨rfl, _, rfl⟩
theorem IsNat.mono {w : World} {B B' : Nat} {v : Value} {V : Nat} (h : IsNat w B v V) (hB : B' ≤ B) : IsNat w B' v V := World.ownsRow.mono h hB
end Go.Proofs.YtpjkfdgkkpkljaaGreatDoor.Nat_

namespace Go.Proofs.YtpjkfdgkkpkljaaGreatDoor.Nat_
open Go.RowKit Go.Proofs.YtpjkfdgkkpkljaaGreatDoor.Num
set_option linter.unusedVariables false

theorem high_zero {Y k : Nat} (hY : Y < W ^ k) (j : Nat) (hj : k ≤ j) : Y / W ^ j % W = 0 := by
  rw [Nat.div_eq_of_lt (Nat.lt_of_lt_of_le hY (Nat.pow_le_pow_right (by decide) hj))]
  rfl
theorem borrow_on (X Y k x : Nat) (hXY : Y ≤ X) (hY : Y < W ^ k) (j : Nat) (hj : k ≤ j) (hx : X / W ^ j % W = x) :
    (X - Y) / W ^ j % W = (x + W - borrow X Y j) % W ∧ borrow X Y (j + 1) = if x < borrow X Y j then 1 else 0 := by
  have h0 := high_zero hY j hj
  have h1 := borrow_word X Y j x 0 hXY hx h0
  have h2 := borrow_succ X Y j x 0 hx h0
  rw [Nat.sub_zero] at h1
  rw [Nat.zero_add] at h2
  exact ⟨h1, h2.symm⟩
/-- nothing is borrowed any more -/
theorem borrow_none (X Y k : Nat) (hXY : Y ≤ X) (hY : Y < W ^ k) (hb : borrow X Y k = 0) (j : Nat) : borrow X Y (k + j) = 0 ∧ (X - Y) / W ^ (k + j) % W = X / W ^ (k + j) % W := by
  have key : ∀ j, borrow X Y (k + j) = 0 := by
    intro j
    induction j with
    | zero => exact hb
    | succ j ih =>
      have h := (borrow_on X Y k _ hXY hY (k + j) (by omega) rfl).2
      rw [ih] at h
      rw [← Nat.add_assoc, h, if_neg (by omega)]
  refine ⟨key j, ?_⟩
  have h := (borrow_on X Y k _ hXY hY (k + j) (by omega) rfl).1
  rw [key j] at h
  rw [h, Nat.sub_zero, Nat.add_mod_right, Nat.mod_mod]
theorem carry_on (X Y k x : Nat) (hY : Y < W ^ k) (j : Nat) (hj : k ≤ j) (hx : X / W ^ j % W = x) :
    (X + Y) / W ^ j % W = (x + carry X Y j) % W ∧ carry X Y (j + 1) = (x + carry X Y j) / W := by
  have h0 := high_zero hY j hj
  have h1 := carry_word X Y j x 0 hx h0
  rw [Nat.add_zero] at h1
  exact h1
theorem carry_none (X Y k : Nat) (hY : Y < W ^ k) (hb : carry X Y k = 0) (j : Nat) : carry X Y (k + j) = 0 ∧ (X + Y) / W ^ (k + j) % W = X / W ^ (k + j) % W := by
  have key : ∀ j, carry X Y (k + j) = 0 := by
    intro j
    induction j with
    | zero => exact hb
    | succ j ih =>
      have h := (carry_on X Y k _ hY (k + j) (by omega) rfl).2
      rw [ih, Nat.add_zero (X / W ^ (k + j) % W), Nat.div_eq_of_lt (Nat.mod_lt _ W_pos)] at h
      rw [← Nat.add_assoc, h]
  refine ⟨key j, ?_⟩
  have h := (carry_on X Y k _ hY (k + j) (by omega) rfl).1
  rw [key j] at h
  rw [h, Nat.add_zero (X / W ^ (k + j) % W), Nat.mod_mod]

/-- the rest of the row stands already -/
theorem VecAt.rest {B : Nat} {w0 w : World} {g N c R k : Nat} {L : List Value} (h : VecAt B w0 w g N c R k L) (m : Nat) (hkm : k ≤ m) (hm : m ≤ N) (hL : ∀ j, k ≤ j → j < m → L[j]? = some (.int .u64 ((R / W ^ j % W : Nat) : Int))) : VecAt B w0 w g N c R m L := by
  obtain ⟨h1, h2, h3, h4⟩ := h
  have e : rowTo R k L = rowTo R m L := by
    apply List.ext_getElem?
    intro j
    unfold rowTo
    by_cases hj : j < k
    · rw [List.getElem?_append_left (by rw [wsdig_length]; exact hj), List.getElem?_append_left (by rw [wsdig_length]; omega), wsdig_get _ _ _ hj, wsdig_get _ _ _ (by omega)]
    · rw [List.getElem?_append_right (by rw [wsdig_length]; omega), wsdig_length, List.getElem?_drop, show k + (j - k) = j by omega]
      by_cases hj2 : j < m
      · rw [List.getElem?_append_left (by rw [wsdig_length]; omega), wsdig_get _ _ _ hj2, hL j (by omega) hj2]
      · rw [List.getElem?_append_right (by rw [wsdig_length]; omega), wsdig_length, List.getElem?_drop, show m + (j - m) = j by omega]
  unfold VecAt
  rw [← e]
  exact ⟨h1, h2, h3, h4⟩

/-- a block of words -/
def WBlk (w : World) (g : Nat) : Prop := ∃ cur, w.heap[g]? = some (.cells cur 111 (0, 0))
theorem WBlk.store {w : World} {g : Nat} (h : WBlk w g) (b i : Nat) (v : Value) : WBlk (w.setCell ⟨b, i, none⟩ v) g := by
  obtain ⟨cur, hg⟩ := h
  by_cases hb : b = g
  · subst hb
    exact ⟨_, heap_setCell_same w b i cur 111 v hg⟩
  · exact ⟨cur, (heap_setCell_other w ⟨b, i, none⟩ g v (fun e => hb e.symm)).trans hg⟩
theorem WBlk.later {B : Nat} {w w' : World} {g : Nat} (h : WBlk w g) (hb : Below B w w') (hg : g < B) : WBlk w' g := by
  obtain ⟨cur, hc⟩ := h
  exact ⟨cur, (hb.block g hg).trans hc⟩
theorem VecAt.blk {B : Nat} {w0 w : World} {g N c R k : Nat} {L : List Value} (h : VecAt B w0 w g N c R k L) : WBlk w g := by
  rcases h.1.2 with ⟨e, _⟩ | ⟨g', c', cur, e, _, hg, _⟩
  · cases e
  · cases e; exact ⟨cur, hg⟩
theorem IsNat.blk {w : World} {B g m c X : Nat} (h : IsNat w B (.slice (some ⟨g, 0, none⟩) m c) X) : WBlk w g := by
  rcases h.2 with ⟨e, _⟩ | ⟨g', c', cur, e, _, hg, _⟩
  · cases e
  · cases e; exact ⟨cur, hg⟩
theorem neq_blk {a b : Addr} (w : World) (hne : a ≠ b) (ha : WBlk w a.block) (hb : WBlk w b.block) : (binOp BinOp.neq 142 (.pointer (some a)) (.pointer (some b))).run Tryz.prog w = .ok (.bool true) w := by
  obtain ⟨j, hj, hs⟩ := info_wd
  obtain ⟨ca, ha⟩ := ha
  obtain ⟨cb, hb⟩ := hb
  have h : ∀ d : Nat, (Op.equalIn (d + 1) 142 (.pointer (some a)) (.pointer (some b))).run Tryz.prog w = .ok false w := fun d => by
    simp [Op.equalIn, run_underlying Tryz.underlying142, sizeOf, typeInfo, hj, hs, run_sameAddr_other w hne ha hb]
  simp only [binOp]
  simp [Op.equal, Op.maxDepth, h 9999]
theorem neq_self (a : Addr) (w : World) : (binOp BinOp.neq 142 (.pointer (some a)) (.pointer (some a))).run Tryz.prog w = .ok (.bool false) w := by
  obtain ⟨j, hj, hs⟩ := info_wd
  have h : ∀ d : Nat, (Op.equalIn (d + 1) 142 (.pointer (some a)) (.pointer (some a))).run Tryz.prog w = .ok true w := fun d => by
    simp [Op.equalIn, run_underlying Tryz.underlying142, sizeOf, typeInfo, hj, run_sameAddr_same]
  simp only [binOp]
  simp [Op.equal, Op.maxDepth, h 9999]
end Go.Proofs.YtpjkfdgkkpkljaaGreatDoor.Nat_

namespace Go.Proofs.YtpjkfdgkkpkljaaGreatDoor.Nat_
open Go.RowKit Go.WideShapes Go.Proofs.YtpjkfdgkkpkljaaGreatDoor.Own Go.Proofs.YtpjkfdgkkpkljaaGreatDoor.Num Go.Proofs.YtpjkfdgkkpkljaaGreatDoor.Ref
set_option linter.unusedVariables false

/-- the built-in copy, its run known, as one step of a region that draws its order -/
theorem step_copy_run {P : Program} {ops : Array Oper} {o : Oper} {a : Act} {w : World} {K : Act → World → Prop} {Q : Exit → Act → World → Prop} {E : Prop}
    (hg : o.guard = none) (d s : Operand) (dT sT : TypeId) (ho : o.op = .call { callee := .builtin .copy, args := #[d, s], argTypes := #[dT, sT] })
    (vd vs : Value) (hd : a.eval d = vd) (hs : a.eval s = vs) (n : Int) (w' : World) (hrun : ∀ ty, (Builtin.copy_ #[dT, sT] ty #[vd, vs]).run P w = .ok (goInt n) w')
    (hK : K (a.put o.dst (goInt n)) w') :
    if Region.wanted o (yielded ops a.tmps) = true then Oper.wp P o a w K Q else E := by
  have hw : Region.wanted o (yielded ops a.tmps) = true := by simp [Region.wanted, hg]
  rw [if_pos hw]
  unfold Oper.wp
  simp [execOp, ho, resolve, invoke, builtin, hd, hs, hrun, Result.andThen]
  exact hK

set_option maxHeartbeats 2000000 in
set_option maxRecDepth 100000 in
theorem subvw_apart (X Y k0 n m N gz cc cz gx cx B : Nat) (L : List Value) (w0 w : World) (hz : VecAt B w0 w gz N cc (X - Y) k0 L) (hx : Src w gx 0 m k0 X) (hgx : WBlk w gx) (hne : gx ≠ gz) (hXY : Y ≤ X) (hY : Y < W ^ k0)
    (hm : k0 + n = m) (hn : 0 < n) (hmN : m ≤ N) (hN : N ≤ 10000) (hcx : n ≤ cx) (hcz : n ≤ cz) :
    Calls Tryz.prog 91 #[.slice (some ⟨gz, k0, none⟩) n cz, .slice (some ⟨gx, k0, none⟩) n cx, .int .u64 ((borrow X Y k0 : Nat) : Int)] w fun e w' => e = .returned (.int .u64 ((borrow X Y m : Nat) : Int)) ∧ VecAt B w0 w' gz N cc (X - Y) m L := by
  obtain ⟨x, hxe⟩ : ∃ x, X / W ^ k0 % W = x := ⟨_, rfl⟩
  obtain ⟨b, hbe⟩ : ∃ b, borrow X Y k0 = b := ⟨_, rfl⟩
  have hb1 : b ≤ 1 := by rw [← hbe]; exact borrow_le X Y k0
  obtain ⟨ho1, ho2⟩ := borrow_on X Y k0 x hXY hY k0 (Nat.le_refl _) hxe
  rw [hbe] at ho1 ho2
  have hx0 := hx k0 (Nat.le_refl _) (by omega)
  rw [hxe, Nat.zero_add] at hx0
  obtain ⟨⟨cv, hcv⟩, hf0⟩ := hz.cell (by omega)
  have hcall := Lib.hid fun W => (bsub_any x b 0 (by omega) W).mono (fun e w' (h : _ ∧ W = w') => And.intro h.1 h.2.symm)
  rw [Nat.add_zero, Nat.sub_zero] at hcall
  obtain ⟨D, hD⟩ : ∃ D, (x + W - b) % W = D := ⟨_, rfl⟩
  rw [hD] at ho1 hcall
  obtain ⟨C, hC⟩ : ∃ C : Nat, (if x < b then 1 else 0 : Nat) = C := ⟨_, rfl⟩
  rw [hC] at ho2 hcall
  rw [hbe]
  have hz1 := fun q => (hz.store (by omega) D ho1).drewN q
  have hx1 : ∀ q, Src ((w.setCell ⟨gz, k0, none⟩ (.int .u64 (D : Int))).drewN q) gx 0 m (k0 + 1) X := fun q => Src.store hx (gz := gz) (i := k0) (.int .u64 (D : Int)) (Nat.le_succ k0) (.inl hne)
  have hg1 : ∀ q, WBlk ((w.setCell ⟨gz, k0, none⟩ (.int .u64 (D : Int))).drewN q) gx := fun q => WBlk.store hgx gz k0 (.int .u64 (D : Int))
  have hst := Lib.hid (And.intro hz1 (And.intro hx1 hg1))
  have hne' : (⟨gz, k0, none⟩ : Addr) ≠ ⟨gx, k0, none⟩ := fun e => hne (by cases e; rfl)
  have hq := Lib.hid fun W h1 h2 => neq_blk W hne' h1 h2
  have hnn := Lib.hid fun k (hk : k0 ≤ k) hb j => borrow_none X Y k hXY (Nat.lt_of_lt_of_le hY (Nat.pow_le_pow_right (by decide) hk)) hb j
  have hon := Lib.hid fun x j hj hx => borrow_on X Y k0 x hXY hY j hj hx
  have hC1 : C = 0 ∨ C = 1 := by rw [← hC]; split <;> omega
  have hn0 : ((n : Int) == 0) = false := by simp; omega
  have ho2' := Lib.hid ho2
  clear hz hx hgx hxe hbe ho1 hD hC hz1 hx1 hg1 hXY hY ho2
  go_enter Tryz.func91, Tryz.ntmps91
  go_wp2_with fail
  refine (hcall.out _).mono ?_
  rintro e w1 ⟨rfl, rfl⟩
  rcases hC1 with rfl | rfl
  · have hq1 := fun q => hq.out ((w1.setCell ⟨gz, k0, none⟩ (.int .u64 (D : Int))).drewN q) (hst.out.1 0).blk (hst.out.2.2 0)
    go_wp2_with fail
    go_quiet (fail)
    by_cases hn1 : n = 1
    · subst hn1
      have hcp := fun dp sp dc sc ty => run_copy_none (P := Tryz.prog) ((w1.setCell ⟨gz, k0, none⟩ (.int .u64 (D : Int))).drewN (nq + 1)) 82 82 ty 111 dp sp 0 dc 0 sc Tryz.underlying82 size_word (by simp)
      have hz2 := hst.out.1 (nq + 1)
      have hb2 := ho2'.out
      rw [hm] at hz2 hb2
      have hz2' := Lib.hid hz2
      have hb2' := Lib.hid hb2
      clear hz2 hb2
      by_cases hcz1 : cz = 1 <;> by_cases hcx1 : cx = 1
      all_goals
        go_wp2_with fail
        go_region_law ((with_reducible refine step_copy_run rfl _ _ _ _ rfl _ _ rfl rfl _ _ (hcp _ _ _ _) ?_))
        all_goals
          go_wp2
          go_ret
          exact ⟨by rw [hb2'.out]; rfl, hz2'.out⟩
    · have hb0 := hnn.out (k0 + 1) (by omega) (by have := ho2'.out; exact this)
      have h1n : (1 : Int) ≤ n := by omega
      have hcz1 : ¬ (cz = 1) := by omega
      have hcx1 : ¬ (cx = 1) := by omega
      obtain ⟨w2, hcp, hz2⟩ := VecAt.copy (hst.out.1 (nq + 1)) (hst.out.2.1 (nq + 1)) 82 82 Tryz.underlying82 (n - 1) (by omega) (by omega) (fun j hj => (hb0 j).2) (some ⟨gz, k0 + 1, none⟩) (some ⟨gx, 0 + (k0 + 1), none⟩) (cz - 1) (cx - 1) (n - 1) (n - 1) (by simp) (fun _ => ⟨rfl, rfl⟩)
      rw [Nat.zero_add] at hcp
      have hb2 := (hb0 (n - 1)).1
      rw [show k0 + 1 + (n - 1) = m by omega] at hz2 hb2
      have hz2' := Lib.hid hz2
      have hb2' := Lib.hid hb2
      clear hz2 hb0 hb2
      go_wp2_with fail
      go_region_law ((with_reducible refine step_copy_run rfl _ _ _ _ rfl _ _ rfl rfl _ _ hcp ?_))
      all_goals
        go_wp2
        go_ret
        exact ⟨by rw [hb2'.out]; rfl, hz2'.out⟩
  · go_wp2_with fail
    clear hx0 hf0 hcv
    go_loopw [9] (fun c wr => ∃ i : Nat, 1 ≤ i ∧ i ≤ n ∧ c = .int .i64 (i : Int) ∧ Hid (borrow X Y (k0 + i) = 1 ∧ VecAt B w0 wr gz N cc (X - Y) (k0 + i) L ∧ Src wr gx 0 m (k0 + i) X ∧ WBlk wr gx)) (fun c _ => n - (intOf c).toNat)
    case atStart => exact ⟨1, by omega, by omega, rfl, Lib.hid ⟨ho2'.out, hst.out.1 0, hst.out.2.1 0, hst.out.2.2 0⟩⟩
    case round =>
      clear hst ho2' hcall
      obtain ⟨i, hi1, hi, rfl, hI⟩ := hrel
      by_cases hlt : i < n
      · obtain ⟨hbi, hz, hx, hgx⟩ := hI.out
        obtain ⟨x, hxe⟩ : ∃ x, X / W ^ (k0 + i) % W = x := ⟨_, rfl⟩
        obtain ⟨ho1, ho2⟩ := hon.out x (k0 + i) (by omega) hxe
        rw [hbi] at ho1 ho2
        have hx0 := hx (k0 + i) (Nat.le_refl _) (by omega)
        rw [hxe, Nat.zero_add] at hx0
        obtain ⟨⟨cv, hcv⟩, hf0⟩ := hz.cell (by omega)
        have hxW : x < W := by rw [← hxe]; exact Nat.mod_lt _ W_pos
        by_cases hx9 : x = 0
        · subst hx9
          rw [if_pos (by omega)] at ho2
          have hD : (X - Y) / W ^ (k0 + i) % W = 18446744073709551615 := ho1
          have hfin := Lib.hid (show borrow X Y (k0 + (i + 1)) = 1 ∧ VecAt B w0 (wr.setCell ⟨gz, k0 + i, none⟩ (.int .u64 18446744073709551615)) gz N cc (X - Y) (k0 + (i + 1)) L ∧ Src (wr.setCell ⟨gz, k0 + i, none⟩ (.int .u64 18446744073709551615)) gx 0 m (k0 + (i + 1)) X ∧ WBlk (wr.setCell ⟨gz, k0 + i, none⟩ (.int .u64 18446744073709551615)) gx from
            ⟨ho2, hz.store (by omega) 18446744073709551615 hD, Src.store hx (.int .u64 18446744073709551615) (by omega) (.inl hne), WBlk.store hgx gz (k0 + i) _⟩)
          clear hxe ho1 ho2 hz hx hgx hbi hI hD hxW
          go_wp2
          go_roundw
          case rel => exact ⟨i + 1, by omega, by omega, by go_num, hfin⟩
          case measure => simp [intOf]; omega
        · rw [if_neg (by omega)] at ho2
          obtain ⟨D, rfl⟩ : ∃ D, x = D + 1 := ⟨x - 1, by omega⟩
          have hD : (X - Y) / W ^ (k0 + i) % W = D := by
            rw [ho1, show D + 1 + W - 1 = D + W by omega, Nat.add_mod_right]
            exact Nat.mod_eq_of_lt (by omega)
          have hx9' : (((D + 1 : Nat) : Int) == 0) = false := by simp; omega
          have hx8' : (((D + 1 : Nat) : Int) != 0) = true := by simp; omega
          have hxD : ((D + 1 : Nat) : Int) - 1 = D := by omega
          have hxD' : IntKind.u64.wrap (((D + 1 : Nat) : Int) - 1) = D := by rw [hxD, IntKind.wrap_u64]; rw [W_eq] at hxW; omega
          have hz1 := fun q => (hz.store (by omega) D hD).drewN q
          have hx1 : ∀ q, Src ((wr.setCell ⟨gz, k0 + i, none⟩ (.int .u64 (D : Int))).drewN q) gx 0 m (k0 + i + 1) X := fun q => Src.store hx (gz := gz) (i := k0 + i) (.int .u64 (D : Int)) (Nat.le_succ _) (.inl hne)
          have hq1 := fun q => hq.out ((wr.setCell ⟨gz, k0 + i, none⟩ (.int .u64 (D : Int))).drewN q) (hz1 q).blk (WBlk.store hgx gz (k0 + i) (.int .u64 (D : Int)))
          have hb0 := hnn.out (k0 + i + 1) (by omega) ho2
          have hst := Lib.hid (And.intro hz1 (And.intro hx1 hb0))
          have hxW' : D < 18446744073709551615 := by rw [W_eq] at hxW; omega
          clear hxe ho1 ho2 hz hx hgx hbi hI hD hxW hz1 hx1 hb0 hx9
          go_wp2_with fail
          go_quiet (fail)
          go_wp2_with fail
          obtain ⟨i', hi'⟩ : ∃ i', i + 1 = i' := ⟨_, rfl⟩
          have hw1 : IntKind.i64.wrap ((i : Int) + 1) = i' := by rw [IntWalk.i64_in _ (by omega)]; omega
          have h1n : (i' : Int) ≤ n := by omega
          by_cases hlast : i' = n
          · subst hlast
            have hcp := fun dp sp dc sc ty => run_copy_none (P := Tryz.prog) ((wr.setCell ⟨gz, k0 + i, none⟩ (.int .u64 (D : Int))).drewN (nq + 1)) 82 82 ty 111 dp sp 0 dc 0 sc Tryz.underlying82 size_word (by simp)
            have hz2 := hst.out.1 (nq + 1)
            have hb2 := (hst.out.2.2 0).1
            rw [show k0 + i + 1 = m by omega] at hz2 hb2
            have hz2' := Lib.hid hz2
            have hb2' := Lib.hid hb2
            clear hz2 hb2
            by_cases hcz1 : cz = i' <;> by_cases hcx1 : cx = i'
            all_goals
              go_wp2_with fail
              go_region_law ((with_reducible refine step_copy_run rfl _ _ _ _ rfl _ _ rfl rfl _ _ (hcp _ _ _ _) ?_))
              all_goals
                go_wp2
                go_ret
                exact ⟨by rw [hb2'.out]; rfl, hz2'.out⟩
          · have hcz1 : ¬ (cz = i') := by omega
            have hcx1 : ¬ (cx = i') := by omega
            obtain ⟨w2, hcp, hz2⟩ := VecAt.copy (hst.out.1 (nq + 1)) (hst.out.2.1 (nq + 1)) 82 82 Tryz.underlying82 (n - i') (by omega) (by omega) (fun j hj => (hst.out.2.2 j).2) (some ⟨gz, k0 + i + 1, none⟩) (some ⟨gx, 0 + (k0 + i + 1), none⟩) (cz - i') (cx - i') (n - i') (n - i') (by simp) (fun _ => ⟨rfl, rfl⟩)
            rw [Nat.zero_add, Nat.add_assoc k0 i 1, hi'] at hcp
            have hb2 := (hst.out.2.2 (n - i')).1
            rw [show k0 + i + 1 + (n - i') = m by omega] at hz2 hb2
            have hz2' := Lib.hid hz2
            have hb2' := Lib.hid hb2
            clear hz2 hb2
            go_wp2_with fail
            go_region_law ((with_reducible refine step_copy_run rfl _ _ _ _ rfl _ _ rfl rfl _ _ hcp ?_))
            all_goals
              go_wp2
              go_ret
              exact ⟨by rw [hb2'.out]; rfl, hz2'.out⟩
      · obtain rfl : i = n := by omega
        have hfin := hI.out
        rw [hm] at hfin
        have hfin' := Lib.hid hfin
        clear hI hfin
        go_wp2
        go_ret
        exact ⟨by rw [hfin'.out.1]; rfl, hfin'.out.2.1⟩
end Go.Proofs.YtpjkfdgkkpkljaaGreatDoor.Nat_
namespace Go.Proofs.YtpjkfdgkkpkljaaGreatDoor.Nat_
open Go.RowKit Go.WideShapes Go.Proofs.YtpjkfdgkkpkljaaGreatDoor.Own Go.Proofs.YtpjkfdgkkpkljaaGreatDoor.Num Go.Proofs.YtpjkfdgkkpkljaaGreatDoor.Ref
set_option linter.unusedVariables false

set_option maxHeartbeats 2000000 in
set_option maxRecDepth 100000 in
theorem addvw_apart (X Y k0 n m N gz cc cz gx cx B : Nat) (L : List Value) (w0 w : World) (hz : VecAt B w0 w gz N cc (X + Y) k0 L) (hx : Src w gx 0 m k0 X) (hgx : WBlk w gx) (hne : gx ≠ gz) (hY : Y < W ^ k0)
    (hm : k0 + n = m) (hn : 0 < n) (hmN : m ≤ N) (hN : N ≤ 10000) (hcx : n ≤ cx) (hcz : n ≤ cz) :
    Calls Tryz.prog 89 #[.slice (some ⟨gz, k0, none⟩) n cz, .slice (some ⟨gx, k0, none⟩) n cx, .int .u64 ((carry X Y k0 : Nat) : Int)] w fun e w' => e = .returned (.int .u64 ((carry X Y m : Nat) : Int)) ∧ VecAt B w0 w' gz N cc (X + Y) m L := by
  obtain ⟨x, hxe⟩ : ∃ x, X / W ^ k0 % W = x := ⟨_, rfl⟩
  obtain ⟨b, hbe⟩ : ∃ b, carry X Y k0 = b := ⟨_, rfl⟩
  have hb1 : b ≤ 1 := by rw [← hbe]; exact carry_le X Y k0
  obtain ⟨ho1, ho2⟩ := carry_on X Y k0 x hY k0 (Nat.le_refl _) hxe
  rw [hbe] at ho1 ho2
  have hx0 := hx k0 (Nat.le_refl _) (by omega)
  rw [hxe, Nat.zero_add] at hx0
  obtain ⟨⟨cv, hcv⟩, hf0⟩ := hz.cell (by omega)
  have hcall := Lib.hid fun W => (badd_any x b 0 (by omega) W).mono (fun e w' (h : _ ∧ W = w') => And.intro h.1 h.2.symm)
  rw [Nat.add_zero] at hcall
  obtain ⟨D, hD⟩ : ∃ D, (x + b) % W = D := ⟨_, rfl⟩
  rw [hD] at ho1 hcall
  obtain ⟨C, hC⟩ : ∃ C, (x + b) / W = C := ⟨_, rfl⟩
  rw [hC] at ho2 hcall
  rw [hbe]
  have hz1 := fun q => (hz.store (by omega) D ho1).drewN q
  have hx1 : ∀ q, Src ((w.setCell ⟨gz, k0, none⟩ (.int .u64 (D : Int))).drewN q) gx 0 m (k0 + 1) X := fun q => Src.store hx (gz := gz) (i := k0) (.int .u64 (D : Int)) (Nat.le_succ k0) (.inl hne)
  have hg1 : ∀ q, WBlk ((w.setCell ⟨gz, k0, none⟩ (.int .u64 (D : Int))).drewN q) gx := fun q => WBlk.store hgx gz k0 (.int .u64 (D : Int))
  have hst := Lib.hid (And.intro hz1 (And.intro hx1 hg1))
  have hne' : (⟨gz, k0, none⟩ : Addr) ≠ ⟨gx, k0, none⟩ := fun e => hne (by cases e; rfl)
  have hq := Lib.hid fun W h1 h2 => neq_blk W hne' h1 h2
  have hnn := Lib.hid fun k (hk : k0 ≤ k) hb j => carry_none X Y k (Nat.lt_of_lt_of_le hY (Nat.pow_le_pow_right (by decide) hk)) hb j
  have hon := Lib.hid fun x j hj hx => carry_on X Y k0 x hY j hj hx
  have hC1 : C = 0 ∨ C = 1 := by
    have hxW : x < W := by rw [← hxe]; exact Nat.mod_lt _ W_pos
    rw [← hC]
    rw [W_eq] at hxW ⊢
    omega
  have hn0 : ((n : Int) == 0) = false := by simp; omega
  have ho2' := Lib.hid ho2
  clear hz hx hgx hxe hbe ho1 hD hC hz1 hx1 hg1 hY ho2
  go_enter Tryz.func89, Tryz.ntmps89
  go_wp2_with fail
  refine (hcall.out _).mono ?_
  rintro e w1 ⟨rfl, rfl⟩
  rcases hC1 with rfl | rfl
  · have hq1 := fun q => hq.out ((w1.setCell ⟨gz, k0, none⟩ (.int .u64 (D : Int))).drewN q) (hst.out.1 0).blk (hst.out.2.2 0)
    go_wp2_with fail
    go_quiet (fail)
    by_cases hn1 : n = 1
    · subst hn1
      have hcp := fun dp sp dc sc ty => run_copy_none (P := Tryz.prog) ((w1.setCell ⟨gz, k0, none⟩ (.int .u64 (D : Int))).drewN (nq + 1)) 82 82 ty 111 dp sp 0 dc 0 sc Tryz.underlying82 size_word (by simp)
      have hz2 := hst.out.1 (nq + 1)
      have hb2 := ho2'.out
      rw [hm] at hz2 hb2
      have hz2' := Lib.hid hz2
      have hb2' := Lib.hid hb2
      clear hz2 hb2
      by_cases hcz1 : cz = 1 <;> by_cases hcx1 : cx = 1
      all_goals
        go_wp2_with fail
        go_region_law ((with_reducible refine step_copy_run rfl _ _ _ _ rfl _ _ rfl rfl _ _ (hcp _ _ _ _) ?_))
        all_goals
          go_wp2
          go_ret
          exact ⟨by rw [hb2'.out]; rfl, hz2'.out⟩
    · have hb0 := hnn.out (k0 + 1) (by omega) (by have := ho2'.out; exact this)
      have h1n : (1 : Int) ≤ n := by omega
      have hcz1 : ¬ (cz = 1) := by omega
      have hcx1 : ¬ (cx = 1) := by omega
      obtain ⟨w2, hcp, hz2⟩ := VecAt.copy (hst.out.1 (nq + 1)) (hst.out.2.1 (nq + 1)) 82 82 Tryz.underlying82 (n - 1) (by omega) (by omega) (fun j hj => (hb0 j).2) (some ⟨gz, k0 + 1, none⟩) (some ⟨gx, 0 + (k0 + 1), none⟩) (cz - 1) (cx - 1) (n - 1) (n - 1) (by simp) (fun _ => ⟨rfl, rfl⟩)
      rw [Nat.zero_add] at hcp
      have hb2 := (hb0 (n - 1)).1
      rw [show k0 + 1 + (n - 1) = m by omega] at hz2 hb2
      have hz2' := Lib.hid hz2
      have hb2' := Lib.hid hb2
      clear hz2 hb0 hb2
      go_wp2_with fail
      go_region_law ((with_reducible refine step_copy_run rfl _ _ _ _ rfl _ _ rfl rfl _ _ hcp ?_))
      all_goals
        go_wp2
        go_ret
        exact ⟨by rw [hb2'.out]; rfl, hz2'.out⟩
  · go_wp2_with fail
    clear hx0 hf0 hcv
    go_loopw [9] (fun c wr => ∃ i : Nat, 1 ≤ i ∧ i ≤ n ∧ c = .int .i64 (i : Int) ∧ Hid (carry X Y (k0 + i) = 1 ∧ VecAt B w0 wr gz N cc (X + Y) (k0 + i) L ∧ Src wr gx 0 m (k0 + i) X ∧ WBlk wr gx)) (fun c _ => n - (intOf c).toNat)
    case atStart => exact ⟨1, by omega, by omega, rfl, Lib.hid ⟨ho2'.out, hst.out.1 0, hst.out.2.1 0, hst.out.2.2 0⟩⟩
    case round =>
      clear hst ho2' hcall
      obtain ⟨i, hi1, hi, rfl, hI⟩ := hrel
      by_cases hlt : i < n
      · obtain ⟨hbi, hz, hx, hgx⟩ := hI.out
        obtain ⟨x, hxe⟩ : ∃ x, X / W ^ (k0 + i) % W = x := ⟨_, rfl⟩
        obtain ⟨ho1, ho2⟩ := hon.out x (k0 + i) (by omega) hxe
        rw [hbi] at ho1 ho2
        have hx0 := hx (k0 + i) (Nat.le_refl _) (by omega)
        rw [hxe, Nat.zero_add] at hx0
        obtain ⟨⟨cv, hcv⟩, hf0⟩ := hz.cell (by omega)
        have hxW : x < W := by rw [← hxe]; exact Nat.mod_lt _ W_pos
        by_cases hx9 : x = 18446744073709551615
        · subst hx9
          have ho2 : carry X Y (k0 + i + 1) = 1 := ho2
          have hD : (X + Y) / W ^ (k0 + i) % W = 0 := ho1
          have hfin := Lib.hid (show carry X Y (k0 + (i + 1)) = 1 ∧ VecAt B w0 (wr.setCell ⟨gz, k0 + i, none⟩ (.int .u64 0)) gz N cc (X + Y) (k0 + (i + 1)) L ∧ Src (wr.setCell ⟨gz, k0 + i, none⟩ (.int .u64 0)) gx 0 m (k0 + (i + 1)) X ∧ WBlk (wr.setCell ⟨gz, k0 + i, none⟩ (.int .u64 0)) gx from
            ⟨ho2, hz.store (by omega) 0 hD, Src.store hx (.int .u64 0) (by omega) (.inl hne), WBlk.store hgx gz (k0 + i) _⟩)
          clear hxe ho1 ho2 hz hx hgx hbi hI hD hxW
          go_wp2
          go_roundw
          case rel => exact ⟨i + 1, by omega, by omega, by go_num, hfin⟩
          case measure => simp [intOf]; omega
        · have hxW9 : x < 18446744073709551615 := by rw [W_eq] at hxW; omega
          have ho2 : carry X Y (k0 + i + 1) = 0 := by rw [ho2]; exact Nat.div_eq_of_lt (by rw [W_eq]; omega)
          obtain ⟨D, hDe⟩ : ∃ D, x + 1 = D := ⟨_, rfl⟩
          have hD : (X + Y) / W ^ (k0 + i) % W = D := by
            rw [ho1, hDe]
            exact Nat.mod_eq_of_lt (by rw [W_eq]; omega)
          have hx9' : (((x : Nat) : Int) == 18446744073709551615) = false := by simp; omega
          have hx8' : (((x : Nat) : Int) != 18446744073709551615) = true := by simp; omega
          have hxD : ((x : Nat) : Int) + 1 = D := by omega
          have hxD' : IntKind.u64.wrap (((x : Nat) : Int) + 1) = D := by rw [hxD, IntKind.wrap_u64]; omega
          have hz1 := fun q => (hz.store (by omega) D hD).drewN q
          have hx1 : ∀ q, Src ((wr.setCell ⟨gz, k0 + i, none⟩ (.int .u64 (D : Int))).drewN q) gx 0 m (k0 + i + 1) X := fun q => Src.store hx (gz := gz) (i := k0 + i) (.int .u64 (D : Int)) (Nat.le_succ _) (.inl hne)
          have hq1 := fun q => hq.out ((wr.setCell ⟨gz, k0 + i, none⟩ (.int .u64 (D : Int))).drewN q) (hz1 q).blk (WBlk.store hgx gz (k0 + i) (.int .u64 (D : Int)))
          have hb0 := hnn.out (k0 + i + 1) (by omega) ho2
          have hst := Lib.hid (And.intro hz1 (And.intro hx1 hb0))
          clear hxe ho1 ho2 hz hx hgx hbi hI hD hxW hz1 hx1 hb0 hx9
          go_wp2_with fail
          go_quiet (fail)
          go_wp2_with fail
          obtain ⟨i', hi'⟩ : ∃ i', i + 1 = i' := ⟨_, rfl⟩
          have hw1 : IntKind.i64.wrap ((i : Int) + 1) = i' := by rw [IntWalk.i64_in _ (by omega)]; omega
          have h1n : (i' : Int) ≤ n := by omega
          by_cases hlast : i' = n
          · subst hlast
            have hcp := fun dp sp dc sc ty => run_copy_none (P := Tryz.prog) ((wr.setCell ⟨gz, k0 + i, none⟩ (.int .u64 (D : Int))).drewN (nq + 1)) 82 82 ty 111 dp sp 0 dc 0 sc Tryz.underlying82 size_word (by simp)
            have hz2 := hst.out.1 (nq + 1)
            have hb2 := (hst.out.2.2 0).1
            rw [show k0 + i + 1 = m by omega] at hz2 hb2
            have hz2' := Lib.hid hz2
            have hb2' := Lib.hid hb2
            clear hz2 hb2
            by_cases hcz1 : cz = i' <;> by_cases hcx1 : cx = i'
            all_goals
              go_wp2_with fail
              go_region_law ((with_reducible refine step_copy_run rfl _ _ _ _ rfl _ _ rfl rfl _ _ (hcp _ _ _ _) ?_))
              all_goals
                go_wp2
                go_ret
                exact ⟨by rw [hb2'.out]; rfl, hz2'.out⟩
          · have hcz1 : ¬ (cz = i') := by omega
            have hcx1 : ¬ (cx = i') := by omega
            obtain ⟨w2, hcp, hz2⟩ := VecAt.copy (hst.out.1 (nq + 1)) (hst.out.2.1 (nq + 1)) 82 82 Tryz.underlying82 (n - i') (by omega) (by omega) (fun j hj => (hst.out.2.2 j).2) (some ⟨gz, k0 + i + 1, none⟩) (some ⟨gx, 0 + (k0 + i + 1), none⟩) (cz - i') (cx - i') (n - i') (n - i') (by simp) (fun _ => ⟨rfl, rfl⟩)
            rw [Nat.zero_add, Nat.add_assoc k0 i 1, hi'] at hcp
            have hb2 := (hst.out.2.2 (n - i')).1
            rw [show k0 + i + 1 + (n - i') = m by omega] at hz2 hb2
            have hz2' := Lib.hid hz2
            have hb2' := Lib.hid hb2
            clear hz2 hb2
            go_wp2_with fail
            go_region_law ((with_reducible refine step_copy_run rfl _ _ _ _ rfl _ _ rfl rfl _ _ hcp ?_))
            all_goals
              go_wp2
              go_ret
              exact ⟨by rw [hb2'.out]; rfl, hz2'.out⟩
      · obtain rfl : i = n := by omega
        have hfin := hI.out
        rw [hm] at hfin
        have hfin' := Lib.hid hfin
        clear hI hfin
        go_wp2
        go_ret
        exact ⟨by rw [hfin'.out.1]; rfl, hfin'.out.2.1⟩
end Go.Proofs.YtpjkfdgkkpkljaaGreatDoor.Nat_
namespace Go.Proofs.YtpjkfdgkkpkljaaGreatDoor.Nat_
open Go.RowKit Go.WideShapes Go.Proofs.YtpjkfdgkkpkljaaGreatDoor.Own Go.Proofs.YtpjkfdgkkpkljaaGreatDoor.Num Go.Proofs.YtpjkfdgkkpkljaaGreatDoor.Ref
set_option linter.unusedVariables false

/-- the old words, in place -/
def Stands (X k m : Nat) (L : List Value) : Prop := ∀ j, k ≤ j → j < m → L[j]? = some (.int .u64 ((X / W ^ j % W : Nat) : Int))

set_option maxHeartbeats 2000000 in
set_option maxRecDepth 100000 in
theorem addvw_self (X Y k0 n m N gz cc cz cx B : Nat) (L : List Value) (w0 w : World) (hz : VecAt B w0 w gz N cc (X + Y) k0 L) (hL : Stands X k0 m L) (hY : Y < W ^ k0)
    (hm : k0 + n = m) (hn : 0 < n) (hmN : m ≤ N) (hN : N ≤ 10000) (hcx : n ≤ cx) (hcz : n ≤ cz) :
    Calls Tryz.prog 89 #[.slice (some ⟨gz, k0, none⟩) n cz, .slice (some ⟨gz, k0, none⟩) n cx, .int .u64 ((carry X Y k0 : Nat) : Int)] w fun e w' => e = .returned (.int .u64 ((carry X Y m : Nat) : Int)) ∧ VecAt B w0 w' gz N cc (X + Y) m L := by
  have hcell : ∀ (wr : World) k, VecAt B w0 wr gz N cc (X + Y) k L → k0 ≤ k → k < m → wr.cell? ⟨gz, k, none⟩ = some (.int .u64 ((X / W ^ k % W : Nat) : Int)) := fun wr k hv h1 h2 => by
    have hc := World.ownsRow.cellAt hv.1 k (by omega)
    rw [hc, rowTo_get _ _ _ _ (Nat.le_refl _) (by have := hv.2.2.2; omega), hL k h1 h2]
  obtain ⟨x, hxe⟩ : ∃ x, X / W ^ k0 % W = x := ⟨_, rfl⟩
  obtain ⟨b, hbe⟩ : ∃ b, carry X Y k0 = b := ⟨_, rfl⟩
  have hb1 : b ≤ 1 := by rw [← hbe]; exact carry_le X Y k0
  obtain ⟨ho1, ho2⟩ := carry_on X Y k0 x hY k0 (Nat.le_refl _) hxe
  rw [hbe] at ho1 ho2
  have hx0 := hcell w k0 hz (Nat.le_refl _) (by omega)
  rw [hxe] at hx0
  obtain ⟨⟨cv, hcv⟩, hf0⟩ := hz.cell (by omega)
  clear hcv
  have hcall := Lib.hid fun W => (badd_any x b 0 (by omega) W).mono (fun e w' (h : _ ∧ W = w') => And.intro h.1 h.2.symm)
  rw [Nat.add_zero] at hcall
  obtain ⟨D, hD⟩ : ∃ D, (x + b) % W = D := ⟨_, rfl⟩
  rw [hD] at ho1 hcall
  have hxW0 : x < W := by rw [← hxe]; exact Nat.mod_lt _ W_pos
  obtain ⟨C, hC⟩ : ∃ C, (x + b) / W = C := ⟨_, rfl⟩
  have hC1 : C = 0 ∨ C = 1 := by
    rw [← hC]
    rw [W_eq] at hxW0 ⊢
    omega
  rw [hC] at ho2 hcall
  rw [hbe]
  have hz1 := Lib.hid fun q => (hz.store (by omega) D ho1).drewN q
  have hq := Lib.hid fun W => neq_self ⟨gz, k0, none⟩ W
  have hnn := Lib.hid fun k (hk : k0 ≤ k) hb j => carry_none X Y k (Nat.lt_of_lt_of_le hY (Nat.pow_le_pow_right (by decide) hk)) hb j
  have hon := Lib.hid fun x j hj hx => carry_on X Y k0 x hY j hj hx
  have hend := Lib.hid (show ∀ (wr : World) k, VecAt B w0 wr gz N cc (X + Y) k L → k0 ≤ k → k ≤ m → carry X Y k = 0 → carry X Y m = 0 ∧ VecAt B w0 wr gz N cc (X + Y) m L from fun wr k hv h1 h2 h3 => by
    have hk := hnn.out k h1 h3
    refine ⟨by rw [show m = k + (m - k) by omega]; exact (hk _).1, hv.rest m h2 hmN fun j hj1 hj2 => ?_⟩
    rw [hL j (by omega) hj2, show j = k + (j - k) by omega, (hk _).2])
  have hn0 : ((n : Int) == 0) = false := by simp; omega
  have ho2' := Lib.hid ho2
  have hcell' := Lib.hid hcell
  clear hz hL hxe hbe ho1 hD hC hY ho2 hcell hxW0
  go_enter Tryz.func89, Tryz.ntmps89
  go_wp2_with fail
  refine (hcall.out _).mono ?_
  rintro e w1 ⟨rfl, rfl⟩
  rcases hC1 with rfl | rfl
  · have hq1 := fun q => hq.out ((w1.setCell ⟨gz, k0, none⟩ (.int .u64 (D : Int))).drewN q)
    have hfin := Lib.hid fun q => hend.out _ _ (hz1.out q) (by omega) (by omega) ho2'.out
    go_wp2_with fail
    go_quiet (fail)
    go_wp2
    go_ret
    exact ⟨by rw [(hfin.out 0).1]; rfl, (hfin.out _).2⟩
  · go_wp2_with fail
    clear hx0 hf0
    go_loopw [9] (fun c wr => ∃ i : Nat, 1 ≤ i ∧ i ≤ n ∧ c = .int .i64 (i : Int) ∧ Hid (carry X Y (k0 + i) = 1 ∧ VecAt B w0 wr gz N cc (X + Y) (k0 + i) L)) (fun c _ => n - (intOf c).toNat)
    case atStart => exact ⟨1, by omega, by omega, rfl, Lib.hid ⟨ho2'.out, hz1.out 0⟩⟩
    case round =>
      clear ho2' hcall hz1
      obtain ⟨i, hi1, hi, rfl, hI⟩ := hrel
      by_cases hlt : i < n
      · obtain ⟨hbi, hz⟩ := hI.out
        obtain ⟨x, hxe⟩ : ∃ x, X / W ^ (k0 + i) % W = x := ⟨_, rfl⟩
        obtain ⟨ho1, ho2⟩ := hon.out x (k0 + i) (by omega) hxe
        rw [hbi] at ho1 ho2
        have hx0 := hcell'.out wr (k0 + i) hz (by omega) (by omega)
        rw [hxe] at hx0
        obtain ⟨-, hf0⟩ := hz.cell (by omega)
        have hxW : x < W := by rw [← hxe]; exact Nat.mod_lt _ W_pos
        by_cases hx9 : x = 18446744073709551615
        · subst hx9
          have ho2 : carry X Y (k0 + i + 1) = 1 := ho2
          have hD : (X + Y) / W ^ (k0 + i) % W = 0 := ho1
          have hfin := Lib.hid (show carry X Y (k0 + (i + 1)) = 1 ∧ VecAt B w0 (wr.setCell ⟨gz, k0 + i, none⟩ (.int .u64 0)) gz N cc (X + Y) (k0 + (i + 1)) L from
            ⟨ho2, hz.store (by omega) 0 hD⟩)
          clear hxe ho1 ho2 hz hbi hI hD hxW
          go_wp2
          go_roundw
          case rel => exact ⟨i + 1, by omega, by omega, by go_num, hfin⟩
          case measure => simp [intOf]; omega
        · have hxW9 : x < 18446744073709551615 := by rw [W_eq] at hxW; omega
          have ho2 : carry X Y (k0 + i + 1) = 0 := by rw [ho2]; exact Nat.div_eq_of_lt (by rw [W_eq]; omega)
          obtain ⟨D, hDe⟩ : ∃ D, x + 1 = D := ⟨_, rfl⟩
          have hD : (X + Y) / W ^ (k0 + i) % W = D := by
            rw [ho1, hDe]
            exact Nat.mod_eq_of_lt (by rw [W_eq]; omega)
          have hx9' : (((x : Nat) : Int) == 18446744073709551615) = false := by simp; omega
          have hx8' : (((x : Nat) : Int) != 18446744073709551615) = true := by simp; omega
          have hxD : ((x : Nat) : Int) + 1 = D := by omega
          have hxD' : IntKind.u64.wrap (((x : Nat) : Int) + 1) = D := by rw [hxD, IntKind.wrap_u64]; omega
          have hfin := Lib.hid fun q => hend.out _ _ ((hz.store (by omega) D hD).drewN q) (by omega) (by omega) ho2
          have hq1 := fun q => hq.out ((wr.setCell ⟨gz, k0 + i, none⟩ (.int .u64 (D : Int))).drewN q)
          clear hxe ho1 ho2 hz hbi hI hD hxW hx9 hDe
          go_wp2_with fail
          go_quiet (fail)
          go_wp2
          go_ret
          exact ⟨by rw [(hfin.out 0).1]; rfl, (hfin.out _).2⟩
      · obtain rfl : i = n := by omega
        have hfin := hI.out
        rw [hm] at hfin
        have hfin' := Lib.hid hfin
        clear hI hfin
        go_wp2
        go_ret
        exact ⟨by rw [hfin'.out.1]; rfl, hfin'.out.2⟩
end Go.Proofs.YtpjkfdgkkpkljaaGreatDoor.Nat_

namespace Go.Proofs.YtpjkfdgkkpkljaaGreatDoor.Nat_
open Go.RowKit Go.WideShapes Go.Proofs.YtpjkfdgkkpkljaaGreatDoor.Own Go.Proofs.YtpjkfdgkkpkljaaGreatDoor.Num Go.Proofs.YtpjkfdgkkpkljaaGreatDoor.Ref
set_option linter.unusedVariables false

theorem RdW.lt {w : World} {B g : Nat} {V : Nat} (h : RdW w B (some ⟨g, 0, none⟩) V) : g < w.heap.size := by
  rcases h with ⟨h0, _⟩ | ⟨g', e, hg, _⟩
  · cases h0
  · cases e; exact hg
theorem RdW.src0 {w : World} {B g : Nat} {V n : Nat} (h : RdW w B (some ⟨g, 0, none⟩) V) (hn : n ≤ len W V) (k : Nat) : Src w g 0 n k V := by
  intro j _ hj
  obtain ⟨g', e, hc⟩ := h.at_ (j := j) (by omega)
  cases e
  rw [Nat.zero_add]
  exact hc

set_option maxHeartbeats 2000000 in
set_option maxRecDepth 100000 in
/-- two numbers that both have words -/
theorem nsub_main (X Y m n gx cx gy cy Bx By : Nat) (w : World) (hX : IsNat w Bx (.slice (some ⟨gx, 0, none⟩) m cx) X) (hY : IsNat w By (.slice (some ⟨gy, 0, none⟩) n cy) Y) (hm : len W X = m) (hn : len W Y = n) (hYX : Y ≤ X) (hn0 : 0 < n) (hm2 : m ≤ 9000) :
    Calls Tryz.prog 71 #[.slice none 0 0, .slice (some ⟨gx, 0, none⟩) m cx, .slice (some ⟨gy, 0, none⟩) n cy] w fun e w' => (∃ u, e = .returned u ∧ IsNat w' w.heap.size u (X - Y)) ∧ Below w.heap.size w w' := by
  have hnm : n ≤ m := by rw [← hm, ← hn]; exact len_mono W_two hYX
  have hXm : X < W ^ m := by rw [← hm]; exact len_lt W_two X
  have hYn : Y < W ^ n := by rw [← hn]; exact len_lt W_two Y
  have hYm : Y < W ^ m := Nat.lt_of_le_of_lt hYX hXm
  have hbm : borrow X Y m = 0 := by unfold borrow; rw [Nat.mod_eq_of_lt hXm, Nat.mod_eq_of_lt hYm, if_neg (by omega)]
  have hmk := Lib.hid (make_any m (by omega) w)
  obtain ⟨_, cx', ex, hcx, hrx⟩ := hX.slice
  simp only [Value.slice.injEq] at ex
  obtain ⟨rfl, -, rfl⟩ := ex
  obtain ⟨_, cy', ey, hcy, hry⟩ := hY.slice
  simp only [Value.slice.injEq] at ey
  obtain ⟨rfl, -, rfl⟩ := ey
  rw [hm] at hcx
  rw [hn] at hcy
  have hlx := hrx.lt
  have hly := hry.lt
  have hbx := Lib.hid hX.blk
  have hrx' := Lib.hid hrx
  have hry' := Lib.hid hry
  have hmn0 : ((m : Int) == 0) = false := by simp; omega
  have hnn0 : ((n : Int) == 0) = false := by simp; omega
  have hnorm := Lib.hid fun (v : Value) W' (h : OwnW W' w.heap.size v (dig W (X - Y) m)) => norm_any v (X - Y) m w.heap.size W' h (Nat.lt_of_le_of_lt (Nat.sub_le _ _) hXm) (by omega)
  have hm' := Lib.hid hm
  have hn' := Lib.hid hn
  have hYX' := Lib.hid hYX
  have hYn' := Lib.hid hYn
  have hbm' := Lib.hid hbm
  clear hX hY hm hn hYX hXm hYn hYm hbm hrx hry
  go_enter Tryz.func71, Tryz.ntmps71
  go_wp2_with fail
  refine hmk.out.mono ?_
  rintro e w1 ⟨⟨z, rfl, hz⟩, hb1⟩
  rcases hz.shape with ⟨_, h0⟩ | ⟨gz, cz, rfl, hgz, hBz, hcz, hcell⟩
  · have := congrArg List.length h0
    rw [dig_length] at this
    simp at this
    omega
  rw [dig_length] at hcz hz ⊢
  have hz1 := hz.vec hb1 hBz (X - Y)
  have hx1 : Src w1 gx 0 m 0 X := (hrx'.out.src0 (by rw [hm'.out]; exact Nat.le_refl _) 0).later hb1 hlx
  have hy1 : Src w1 gy 0 n 0 Y := (hry'.out.src0 (by rw [hn'.out]; exact Nat.le_refl _) 0).later hb1 hly
  have hv := Lib.hid (subv_any X Y n m gz cz cz gx 0 cx gy 0 cy w.heap.size _ w w1.drew hz1.drew (fun j h1 h2 => hx1 j h1 (by omega)) hy1.drew hYX'.out hnm (by omega) (by omega) (by omega) (by omega) (by omega) (by omega))
  have hx2 := Lib.hid hx1
  clear hz hcell hz1 hx1 hy1
  have i1 : (n : Int) ≤ cz := by omega
  have i2 : (n : Int) ≤ cx := by omega
  have i3 : (n : Int) ≤ cy := by omega
  go_wp2_with fail
  go_region_with (go_at_call 90; refine hv.out.mono ?_; rintro e w2 ⟨rfl, hz2⟩)
  have hb2 := hz2.2.1
  by_cases hmn : m = n
  · subst hmn
    rw [hbm'.out]
    have hnm2 := Lib.hid (hnorm.out _ _ (hz2.own (Nat.le_refl _)))
    have hb2' := Lib.hid hb2
    clear hz2 hb2 hv
    go_wp2_with fail
    refine hnm2.out.mono ?_
    rintro e w3 ⟨⟨u, rfl, hu⟩, rfl⟩
    go_wp2
    go_ret
    exact ⟨⟨_, rfl, hu⟩, hb2'.out⟩
  · have hlt : n < m := by omega
    have hlt' : (n : Int) < m := by omega
    have hd1 : decide (n < m) = true := by simp; omega
    have hd2 : decide ((n : Int) < m) = true := by simp; omega
    have hx3 : Src w2 gx 0 m n X := (hrx'.out.src0 (by rw [hm'.out]; exact Nat.le_refl _) n).later hb2 hlx
    have hvw := Lib.hid (subvw_apart X Y n (m - n) m m gz cz (cz - n) gx (cx - n) w.heap.size _ w w2.drew hz2.drew hx3.drew (hbx.out.later (Box.below_drawn hb2 1) hlx) (by omega) hYX'.out hYn'.out (by omega) (by omega) (Nat.le_refl _) (by omega) (by omega) (by omega))
    rw [hbm'.out] at hvw
    obtain ⟨b, hb⟩ : ∃ b, borrow X Y n = b := ⟨_, rfl⟩
    rw [hb] at hvw ⊢
    have i4 : ¬ (cz = n) := by omega
    have i5 : ¬ (cx = n) := by omega
    have i6 : (n : Int) ≤ m := by omega
    clear hz2 hb2 hv hx3 hb
    go_wp2_with fail
    go_region_with (go_at_call 91; refine hvw.out.mono ?_; rintro e w3 ⟨rfl, hz3⟩)
    have hnm2 := Lib.hid (hnorm.out _ _ (hz3.own (Nat.le_refl _)))
    have hb3' := Lib.hid hz3.2.1
    clear hz3 hvw
    go_wp2_with fail
    refine hnm2.out.mono ?_
    rintro e w4 ⟨⟨u, rfl, hu⟩, rfl⟩
    go_wp2
    go_ret
    exact ⟨⟨_, rfl, hu⟩, hb3'.out⟩
end Go.Proofs.YtpjkfdgkkpkljaaGreatDoor.Nat_

namespace Go.Proofs.YtpjkfdgkkpkljaaGreatDoor.Nat_
open Go.RowKit Go.WideShapes Go.Proofs.YtpjkfdgkkpkljaaGreatDoor.Own Go.Proofs.YtpjkfdgkkpkljaaGreatDoor.Num Go.Proofs.YtpjkfdgkkpkljaaGreatDoor.Ref
set_option linter.unusedVariables false

theorem VecAt.inner {B : Nat} {w0 w : World} {g N c R k : Nat} {L : List Value} (h : VecAt B w0 w g N c R k L) : VecAt g w w g N c R k L := by
  obtain ⟨h1, h2, h3, h4⟩ := h
  refine ⟨⟨h1.1, ?_⟩, Below.refl _ _, Nat.le_refl _, h4⟩
  rcases h1.2 with h0 | ⟨g', c', cur, e, hB, rest⟩
  · exact .inl h0
  · cases e; exact .inr ⟨g, c, cur, rfl, Nat.le_refl _, rest⟩
theorem VecAt.outer {B : Nat} {w0 w w' : World} {g N c R k k' R' : Nat} {L L' : List Value} (h : VecAt B w0 w g N c R k L) (h' : VecAt g w w' g N c R' k' L') : VecAt B w0 w' g N c R' k' L' :=
  ⟨World.ownsRow.mono h'.1 h.2.2.1, h.2.1.trans (h'.2.1.mono h.2.2.1), h.2.2.1, h'.2.2.2⟩

/-- what make hands out to a sum -/
def MadeAdd (B : Nat) (w0 : World) (gx gy m n X Y : Nat) (e : Ending) (w' : World) : Prop :=
  ∃ gz c L, e = .returned (.slice (some ⟨gz, 0, none⟩) (m + 1) c) ∧ VecAt B w0 w' gz (m + 1) c (X + Y) 0 L ∧ Src w' gx 0 m 0 X ∧ Src w' gy 0 n 0 Y ∧ m + 1 ≤ c ∧
    ((gx < gz ∧ WBlk w' gx) ∨ (gx = gz ∧ Stands X 0 m L))

set_option maxHeartbeats 2000000 in
set_option maxRecDepth 100000 in
theorem nadd_main (za : Option Addr) (zl zc : Nat) (X Y m n gx cx gy cy B : Nat) (w0 w : World) (hX : X < W ^ m) (hY : Y < W ^ n) (hmk : Calls Tryz.prog 77 #[.slice za zl zc, .int .i64 ((m + 1 : Nat) : Int)] w (MadeAdd B w0 gx gy m n X Y))
    (hnm : n ≤ m) (hn0 : 0 < n) (hm2 : m ≤ 9000) (hcx : m ≤ cx) (hcy : n ≤ cy) :
    Calls Tryz.prog 69 #[.slice za zl zc, .slice (some ⟨gx, 0, none⟩) m cx, .slice (some ⟨gy, 0, none⟩) n cy] w fun e w' => (∃ u, e = .returned u ∧ IsNat w' B u (X + Y)) ∧ Below B w0 w' := by
  have hYm : Y < W ^ m := Nat.lt_of_lt_of_le hY (Nat.pow_le_pow_right (by decide) hnm)
  have hXY : X + Y < W ^ (m + 1) := by
    rw [Nat.pow_succ]
    have : W ^ m * 2 ≤ W ^ m * W := Nat.mul_le_mul_left _ W_two
    omega
  have htop : (X + Y) / W ^ m % W = carry X Y m := by
    have h1 : carry X Y m = (X + Y) / W ^ m := by unfold carry; rw [Nat.mod_eq_of_lt hX, Nat.mod_eq_of_lt hYm]
    have h2 := carry_le X Y m
    rw [← h1]
    exact Nat.mod_eq_of_lt (by rw [W_eq]; omega)
  have hmn0 : ((m : Int) == 0) = false := by simp; omega
  have hnn0 : ((n : Int) == 0) = false := by simp; omega
  obtain ⟨m1, hm1⟩ : ∃ m1, m + 1 = m1 := ⟨_, rfl⟩
  have hm1' : (m : Int) + 1 = m1 := by omega
  have hnorm := Lib.hid fun (v : Value) W' (h : OwnW W' B v (dig W (X + Y) m1)) => norm_any v (X + Y) m1 B W' h (by rw [← hm1]; exact hXY) (by omega)
  have hmk' := Lib.hid hmk
  unfold MadeAdd at hmk'
  rw [hm1] at hmk'
  have hX' := Lib.hid hX
  have hY' := Lib.hid hY
  have htop' := Lib.hid htop
  have hcl := carry_le X Y m
  clear hmk hX hY hYm hXY htop
  go_enter Tryz.func69, Tryz.ntmps69
  go_wp2_with fail
  refine hmk'.out.mono ?_
  rintro e w1 ⟨gz, c, L, rfl, hz, hx, hy, hmc, hcase⟩
  have hzi := hz.inner
  have hv := Lib.hid (addv_any X Y n m1 gz c c gx 0 cx gy 0 cy gz L w1 w1.drew hzi.drew (fun j h1 h2 => hx j h1 (by omega)) hy.drew (by omega) (by omega) (by omega) (by omega) (by omega) (by omega) (by omega))
  have hz' := Lib.hid hz
  have hx' := Lib.hid hx
  have hcase' := Lib.hid hcase
  clear hz hx hy hzi hcase
  have i1 : (n : Int) ≤ c := by omega
  have i2 : (n : Int) ≤ cx := by omega
  have i3 : (n : Int) ≤ cy := by omega
  go_wp2_with fail
  go_region_with (go_at_call 88; refine hv.out.mono ?_; rintro e w2 ⟨rfl, hz2⟩)
  by_cases hmn : m = n
  · subst hmn
    obtain ⟨b, hb⟩ : ∃ b, carry X Y m = b := ⟨_, rfl⟩
    obtain ⟨⟨cv, hcv⟩, hf0⟩ := hz2.cell (by omega)
    have hz3 := Lib.hid (hz'.out.outer (hz2.store (by omega) b (by rw [htop'.out, hb])))
    rw [hm1] at hz3
    have hnm2 := Lib.hid (hnorm.out _ _ (hz3.out.own (Nat.le_refl _)))
    rw [hb]
    clear hz2 hv hcl
    go_wp2_with fail
    refine hnm2.out.mono ?_
    rintro e w3 ⟨⟨u, rfl, hu⟩, rfl⟩
    go_wp2
    go_ret
    exact ⟨⟨_, rfl, hu⟩, hz3.out.2.1⟩
  · have hlt : n < m := by omega
    have hlt' : (n : Int) < m := by omega
    have hd1 : decide (n < m) = true := by simp; omega
    have hd2 : decide ((n : Int) < m) = true := by simp; omega
    have i4 : ¬ (c = n) := by omega
    have i5 : ¬ (cx = n) := by omega
    have i6 : (n : Int) ≤ m := by omega
    have i7 : (m : Int) ≤ c := by omega
    have hvw : Hid (Calls Tryz.prog 89 #[.slice (some ⟨gz, n, none⟩) (m - n) (c - n), .slice (some ⟨gx, n, none⟩) (m - n) (cx - n), .int .u64 ((carry X Y n : Nat) : Int)] w2.drew fun e w' => e = .returned (.int .u64 ((carry X Y m : Nat) : Int)) ∧ VecAt gz w1 w' gz m1 c (X + Y) m L) := by
      rcases hcase'.out with ⟨hg, hb⟩ | ⟨rfl, hL⟩
      · have hx3 : Src w2 gx 0 m n X := (hx'.out.mono (Nat.zero_le n)).later hz2.2.1 hg
        exact Lib.hid (addvw_apart X Y n (m - n) m m1 gz c (c - n) gx (cx - n) gz L w1 w2.drew hz2.drew hx3.drew (hb.later (Box.below_drawn hz2.2.1 1) hg) (by omega) hY'.out (by omega) (by omega) (by omega) (by omega) (by omega) (by omega))
      · exact Lib.hid (addvw_self X Y n (m - n) m m1 gx c (c - n) (cx - n) gx L w1 w2.drew hz2.drew (fun j h1 h2 => hL j (by omega) h2) hY'.out (by omega) (by omega) (by omega) (by omega) (by omega) (by omega))
    obtain ⟨b, hb⟩ : ∃ b, carry X Y m = b := ⟨_, rfl⟩
    obtain ⟨b0, hb0⟩ : ∃ b, carry X Y n = b := ⟨_, rfl⟩
    rw [hb, hb0] at hvw
    rw [hb0]
    have htop9 := Lib.hid (htop'.out.trans hb)
    clear hz2 hv hb0 hb hcl hcase' hx'
    go_wp2_with fail
    go_region_with (go_at_call 89; refine hvw.out.mono ?_; rintro e w3 ⟨rfl, hz2⟩)
    obtain ⟨⟨cv, hcv⟩, hf0⟩ := hz2.cell (by omega)
    have hz3 := Lib.hid (hz'.out.outer (hz2.store (by omega) b htop9.out))
    rw [hm1] at hz3
    have hnm2 := Lib.hid (hnorm.out _ _ (hz3.out.own (Nat.le_refl _)))
    clear hz2 hvw
    go_wp2_with fail
    refine hnm2.out.mono ?_
    rintro e w4 ⟨⟨u, rfl, hu⟩, rfl⟩
    go_wp2
    go_ret
    exact ⟨⟨_, rfl, hu⟩, hz3.out.2.1⟩

set_option maxRecDepth 100000 in
/-- 1 -/
theorem one_any (w : World) : Calls Tryz.prog 116 #[] w fun e w' => (∃ h, e = .returned (.slice (some ⟨h, 0, none⟩) 1 1) ∧ h = w.heap.size ∧ IsNat w' h (.slice (some ⟨h, 0, none⟩) 1 1) 1) ∧ Below w.heap.size w w' := by
  have hfin := Lib.hid (show IsNat (w.alloc (.cells #[.int .u64 1] 111)) w.heap.size (.slice (some ⟨w.heap.size, 0, none⟩) 1 1) 1 from by
    unfold IsNat
    have : words 1 = [1] := by
      unfold words
      have h : len W 1 = 1 := len_eq W_two (by rw [W_eq]; decide) (fun _ => by decide)
      rw [h]
      rfl
    rw [this]
    exact World.ownsRow_lit (base := w.heap.size) (e := 111) (size := 1) w #[.int .u64 ((1 : Nat) : Int)] 1 (Nat.le_refl _) (by decide) (by simp))
  go_enter Tryz.func116, Tryz.ntmps116
  go_wp2
  go_ret
  exact ⟨⟨_, rfl, rfl, hfin.out⟩, (Below.refl _ _).alloc (Nat.le_refl _) _⟩
end Go.Proofs.YtpjkfdgkkpkljaaGreatDoor.Nat_
namespace Go.Proofs.YtpjkfdgkkpkljaaGreatDoor.Nat_
open Go.RowKit Go.WideShapes Go.Proofs.YtpjkfdgkkpkljaaGreatDoor.Own Go.Proofs.YtpjkfdgkkpkljaaGreatDoor.Num Go.Proofs.YtpjkfdgkkpkljaaGreatDoor.Ref
set_option linter.unusedVariables false

set_option maxRecDepth 100000 in
/-- a new row, where the old one has no room -/
theorem make_more (a : Option Addr) (l c n : Nat) (hn : n ≤ 10000) (hc : c < n) (w : World) :
    Calls Tryz.prog 77 #[.slice a l c, .int .i64 n] w fun e w' => (∃ v, e = .returned v ∧ OwnW w' w.heap.size v (dig W 0 n)) ∧ Below w.heap.size w w' := by
  by_cases h : n = 1
  · subst h
    have hr := fun W => run_new 1 1 (by omega) (by omega) W 1 rfl 1 rfl
    obtain rfl : c = 0 := by omega
    go_enter Tryz.func77, Tryz.ntmps77
    go_wp2
    go_ret
    exact ⟨⟨_, rfl, own_new 1 1 _ (by omega) (by omega) w (Nat.le_refl _)⟩, (Below.refl _ _).alloc (Nat.le_refl _) _⟩
  · have hr := fun W => run_new n (n + 4) (by omega) (by omega) W n rfl (n + 4) (by omega)
    have hb : ((n : Int) == 1) = false := by simp; omega
    have hcn : (c : Int) < n := by omega
    go_enter Tryz.func77, Tryz.ntmps77
    go_wp2
    go_ret
    exact ⟨⟨_, rfl, own_new n (n + 4) _ (by omega) (by omega) w (Nat.le_refl _)⟩, (Below.refl _ _).alloc (Nat.le_refl _) _⟩

set_option maxHeartbeats 1000000 in
set_option maxRecDepth 100000 in
theorem nset_main (za : Option Addr) (zl zc : Nat) (X m gx cx B : Nat) (w0 w : World) (hm : len W X = m) (hmk : Calls Tryz.prog 77 #[.slice za zl zc, .int .i64 m] w (MadeAt B w0 gx 0 m X X)) (hm0 : 0 < m) (hm2 : m ≤ 9000) (hcx : m ≤ cx) :
    Calls Tryz.prog 80 #[.slice za zl zc, .slice (some ⟨gx, 0, none⟩) m cx] w fun e w' => (∃ u, e = .returned u ∧ IsNat w' B u X) ∧ Below B w0 w' := by
  have hmk' := Lib.hid hmk
  have hm' := Lib.hid hm
  clear hmk hm
  go_enter Tryz.func80, Tryz.ntmps80
  go_wp2_with fail
  refine hmk'.out.mono ?_
  rintro e w1 ⟨gz, c, N, L, rfl, hz, hx, hnN, hnc, hN⟩
  obtain ⟨w2, hcp, hz2⟩ := hz.copy hx 83 83 Tryz.underlying83 m (by omega) (by omega) (fun j hj => rfl) (some ⟨gz, 0, none⟩) (some ⟨gx, 0, none⟩) c cx m m (by simp) (fun _ => ⟨rfl, rfl⟩)
  rw [Nat.zero_add] at hz2
  have hfin := Lib.hid (show IsNat w2 B (.slice (some ⟨gz, 0, none⟩) m c) X from by
    have := hz2.own hnN
    unfold IsNat words
    rw [hm'.out]
    exact this)
  have hbel := Lib.hid hz2.2.1
  clear hz hx hz2
  go_wp2
  go_ret
  exact ⟨⟨_, rfl, hfin.out⟩, hbel.out⟩

/-- what z hands to make: room of its own, or none -/
theorem made_set {z : Option Addr} {zl zc X m gx cx B Bx : Nat} {w0 w : World} (hX : IsNat w Bx (.slice (some ⟨gx, 0, none⟩) m cx) X) (hm : len W X = m) (hm0 : 0 < m) (hm2 : m ≤ 9000) (hb : Below B w0 w) (hB : B ≤ w.heap.size)
    (hz : zc < m ∨ ∃ gz V l, z = some ⟨gz, 0, none⟩ ∧ IsNat w B (.slice z l zc) V ∧ len W V = l ∧ l ≤ m ∧ m ≤ zc ∧ B ≤ gz) : Calls Tryz.prog 77 #[.slice z zl zc, .int .i64 m] w (MadeAt B w0 gx 0 m X X) := by
  obtain ⟨_, cx', ex, hcx, hrx⟩ := hX.slice
  simp only [Value.slice.injEq] at ex
  obtain ⟨rfl, -, rfl⟩ := ex
  rw [hm] at hcx
  have hlx := hrx.lt
  have hsx := hrx.src0 (n := m) (by rw [hm]; exact Nat.le_refl _) 0
  rcases hz with h | ⟨gz, V, l, rfl, hV, hl, hlm, hmc, hBg⟩
  · refine (make_more z zl zc m (by omega) h w).mono ?_
    rintro e w1 ⟨⟨v, rfl, hv⟩, hb1⟩
    rcases hv.shape with ⟨_, h0⟩ | ⟨gz, cz, rfl, hgz, hBz, hcz, hcell⟩
    · have := congrArg List.length h0
      rw [dig_length] at this
      simp at this
      omega
    · rw [dig_length] at hcz hv ⊢
      have h1 := hv.vec (w0 := w) hb1 hBz X
      exact ⟨gz, cz, m, _, rfl, ⟨World.ownsRow.mono h1.1 hB, hb.trans (hb1.mono hB), by omega, h1.2.2.2⟩, hsx.later hb1 hlx, Nat.le_refl _, hcz, by omega⟩
  · obtain ⟨L, h1, -⟩ := hV.room hl hb hBg X m hlm hmc
    refine (make_room (some ⟨gz, 0, none⟩) zl m zc w (by omega) (fun h => by cases h)).mono ?_
    rintro e w1 ⟨rfl, rfl⟩
    exact ⟨gz, zc, m, L, rfl, h1, hsx, Nat.le_refl _, hmc, by omega⟩

set_option maxHeartbeats 1000000 in
set_option maxRecDepth 100000 in
/-- 0 and 1 -/
theorem nadd_zero (za xa : Option Addr) (zl zc xc h B By : Nat) (w0 w : World) (hY : IsNat w By (.slice (some ⟨h, 0, none⟩) 1 1) 1) (hset : Calls Tryz.prog 80 #[.slice za zl zc, .slice (some ⟨h, 0, none⟩) 1 1] w fun e w' => (∃ u, e = .returned u ∧ IsNat w' B u 1) ∧ Below B w0 w') :
    Calls Tryz.prog 69 #[.slice za zl zc, .slice xa 0 xc, .slice (some ⟨h, 0, none⟩) 1 1] w fun e w' => (∃ u, e = .returned u ∧ IsNat w' B u 1) ∧ Below B w0 w' := by
  have hin : Hid (Calls Tryz.prog 69 #[.slice za zl zc, .slice (some ⟨h, 0, none⟩) 1 1, .slice xa 0 xc] w fun e w' => (∃ u, e = .returned u ∧ IsNat w' B u 1) ∧ Below B w0 w') := by
    have hs := Lib.hid hset
    clear hset hY
    refine Lib.hid ?_
    go_enter Tryz.func69, Tryz.ntmps69
    go_wp2_with fail
    refine hs.out.mono ?_
    rintro e w1 ⟨⟨u, rfl, hu⟩, hb⟩
    go_wp2
    go_ret
    exact ⟨⟨_, rfl, hu⟩, hb⟩
  clear hset hY
  go_enter Tryz.func69, Tryz.ntmps69
  go_wp2_with fail
  refine hin.out.mono ?_
  rintro e w1 ⟨⟨u, rfl, hu⟩, hb⟩
  go_wp2
  go_ret
  exact ⟨⟨_, rfl, hu⟩, hb⟩
end Go.Proofs.YtpjkfdgkkpkljaaGreatDoor.Nat_
namespace Go.Proofs.YtpjkfdgkkpkljaaGreatDoor.Nat_
open Go.RowKit Go.WideShapes Go.Proofs.YtpjkfdgkkpkljaaGreatDoor.Own Go.Proofs.YtpjkfdgkkpkljaaGreatDoor.Num Go.Proofs.YtpjkfdgkkpkljaaGreatDoor.Ref
set_option linter.unusedVariables false

theorem len_of_one : len W 1 = 1 := len_eq W_two (by rw [W_eq]; decide) (fun _ => by decide)

theorem made_add_new {z : Option Addr} {zl zc X Y m n gx cx gy cy B Bx By : Nat} {w0 w : World} (hX : IsNat w Bx (.slice (some ⟨gx, 0, none⟩) m cx) X) (hm : len W X = m) (hY : IsNat w By (.slice (some ⟨gy, 0, none⟩) n cy) Y) (hn : len W Y = n)
    (hm2 : m ≤ 9000) (hb : Below B w0 w) (hB : B ≤ w.heap.size) (hz : zc < m + 1) : Calls Tryz.prog 77 #[.slice z zl zc, .int .i64 ((m + 1 : Nat) : Int)] w (MadeAdd B w0 gx gy m n X Y) := by
  have hbx := hX.blk
  obtain ⟨_, cx', ex, hcx, hrx⟩ := hX.slice
  simp only [Value.slice.injEq] at ex
  obtain ⟨rfl, -, rfl⟩ := ex
  obtain ⟨_, cy', ey, hcy, hry⟩ := hY.slice
  simp only [Value.slice.injEq] at ey
  obtain ⟨rfl, -, rfl⟩ := ey
  have hlx := hrx.lt
  have hly := hry.lt
  have hsx := hrx.src0 (n := m) (by rw [hm]; exact Nat.le_refl _) 0
  have hsy := hry.src0 (n := n) (by rw [hn]; exact Nat.le_refl _) 0
  refine (make_more z zl zc (m + 1) (by omega) hz w).mono ?_
  rintro e w1 ⟨⟨v, rfl, hv⟩, hb1⟩
  rcases hv.shape with ⟨_, h0⟩ | ⟨gz, cz, rfl, hgz, hBz, hcz, hcell⟩
  · have := congrArg List.length h0
    rw [dig_length] at this
    simp at this
  · rw [dig_length] at hcz hv ⊢
    have h1 := hv.vec (w0 := w) hb1 hBz (X + Y)
    exact ⟨gz, cz, _, rfl, ⟨World.ownsRow.mono h1.1 hB, hb.trans (hb1.mono hB), by omega, h1.2.2.2⟩, hsx.later hb1 hlx, hsy.later hb1 hly, hcz, .inl ⟨by omega, hbx.later hb1 hlx⟩⟩
theorem made_add_self {X Y m n gx cx gy cy B By : Nat} {w0 w : World} (hX : IsNat w B (.slice (some ⟨gx, 0, none⟩) m cx) X) (hm : len W X = m) (hY : IsNat w By (.slice (some ⟨gy, 0, none⟩) n cy) Y) (hn : len W Y = n)
    (hm2 : m ≤ 9000) (hb : Below B w0 w) (hBg : B ≤ gx) (hz : m + 1 ≤ cx) : Calls Tryz.prog 77 #[.slice (some ⟨gx, 0, none⟩) m cx, .int .i64 ((m + 1 : Nat) : Int)] w (MadeAdd B w0 gx gy m n X Y) := by
  obtain ⟨_, cx', ex, hcx, hrx⟩ := hX.slice
  simp only [Value.slice.injEq] at ex
  obtain ⟨rfl, -, rfl⟩ := ex
  obtain ⟨_, cy', ey, hcy, hry⟩ := hY.slice
  simp only [Value.slice.injEq] at ey
  obtain ⟨rfl, -, rfl⟩ := ey
  have hsx := hrx.src0 (n := m) (by rw [hm]; exact Nat.le_refl _) 0
  have hsy := hry.src0 (n := n) (by rw [hn]; exact Nat.le_refl _) 0
  obtain ⟨L, h1, h2⟩ := hX.room hm hb hBg (X + Y) (m + 1) (by omega) hz
  refine (make_room (some ⟨gx, 0, none⟩) m (m + 1) cx w hz (fun h => by cases h)).mono ?_
  rintro e w1 ⟨rfl, rfl⟩
  exact ⟨gx, cx, L, rfl, h1, hsx, hsy, hz, .inr ⟨rfl, fun j _ hj => h2 j hj⟩⟩

theorem IsNat.some_of {w : World} {B m c X : Nat} {a : Option Addr} (h : IsNat w B (.slice a m c) X) (hm : len W X = m) (hm0 : 0 < m) : ∃ g, a = some ⟨g, 0, none⟩ ∧ B ≤ g ∧ m ≤ c := by
  rcases h.2 with ⟨e, _⟩ | ⟨g, c', cur, e, hB, hg, hc, _⟩
  · simp only [Value.slice.injEq] at e; omega
  · simp only [Value.slice.injEq] at e
    obtain ⟨rfl, -, rfl⟩ := e
    have hl : (words X).length = m := by unfold words; rw [dig_length, hm]
    exact ⟨g, rfl, hB, by omega⟩

/-- into a new one -/
theorem nadd_one_nil (v : Value) (X Bx h By : Nat) (w : World) (hX : IsNat w Bx v X) (hm2 : len W X ≤ 5000) (hY : IsNat w By (.slice (some ⟨h, 0, none⟩) 1 1) 1) :
    Calls Tryz.prog 69 #[.slice none 0 0, v, .slice (some ⟨h, 0, none⟩) 1 1] w fun e w' => (∃ u, e = .returned u ∧ IsNat w' w.heap.size u (X + 1)) ∧ Below w.heap.size w w' := by
  obtain ⟨a, c, rfl, hc, -⟩ := hX.slice
  obtain ⟨m, hm⟩ : ∃ m, len W X = m := ⟨_, rfl⟩
  rw [hm] at hX hc hm2 ⊢
  by_cases h0 : m = 0
  · subst h0
    have hX0 : X = 0 := by
      have := len_pos W_two (v := X)
      omega
    subst hX0
    exact nadd_zero none a 0 0 c h w.heap.size By w w hY (nset_any _ 1 By w hY (by rw [len_of_one]; omega))
  · obtain ⟨g, rfl, -, -⟩ := hX.some_of hm (by omega)
    refine nadd_main none 0 0 X 1 m 1 g c h 1 w.heap.size w w (by rw [← hm]; exact len_lt W_two X) (by rw [W_eq]; decide) ?_ (by omega) (by omega) (by omega) hc (Nat.le_refl _)
    exact made_add_new hX hm hY len_of_one (by omega) (Below.refl _ _) (Nat.le_refl _) (by omega)

/-- in place -/
theorem nadd_one_self (v : Value) (X B h By : Nat) (w0 w : World) (hX : IsNat w B v X) (hm2 : len W X ≤ 5000) (hb : Below B w0 w) (hB : B ≤ w.heap.size) (hY : IsNat w By (.slice (some ⟨h, 0, none⟩) 1 1) 1) :
    Calls Tryz.prog 69 #[v, v, .slice (some ⟨h, 0, none⟩) 1 1] w fun e w' => (∃ u, e = .returned u ∧ IsNat w' B u (X + 1)) ∧ Below B w0 w' := by
  obtain ⟨a, c, rfl, hc, -⟩ := hX.slice
  obtain ⟨m, hm⟩ : ∃ m, len W X = m := ⟨_, rfl⟩
  rw [hm] at hX hc hm2 ⊢
  by_cases h0 : m = 0
  · subst h0
    have hX0 : X = 0 := by
      have := len_pos W_two (v := X)
      omega
    subst hX0
    refine nadd_zero a a 0 c c h B By w0 w hY (nset_main a 0 c 1 1 h 1 B w0 w len_of_one ?_ (by omega) (by omega) (Nat.le_refl _))
    refine made_set hY len_of_one (by omega) (by omega) hb hB ?_
    rcases hX.2 with ⟨e, _⟩ | ⟨g, c', cur, e, hBg, -⟩
    · simp only [Value.slice.injEq] at e
      obtain ⟨rfl, -, rfl⟩ := e
      exact .inl (by omega)
    · simp only [Value.slice.injEq] at e
      obtain ⟨rfl, -, rfl⟩ := e
      by_cases hc1 : c < 1
      · exact .inl hc1
      · exact .inr ⟨g, 0, 0, rfl, hX, rfl, by omega, by omega, hBg⟩
  · obtain ⟨g, rfl, hBg, -⟩ := hX.some_of hm (by omega)
    refine nadd_main _ m c X 1 m 1 g c h 1 B w0 w (by rw [← hm]; exact len_lt W_two X) (by rw [W_eq]; decide) ?_ (by omega) (by omega) (by omega) hc (Nat.le_refl _)
    by_cases hcm : c < m + 1
    · exact made_add_new hX hm hY len_of_one (by omega) hb hB hcm
    · exact made_add_self hX hm hY len_of_one (by omega) hb hBg (by omega)

/-- 1 taken away, into a new one -/
theorem nsub_one (v : Value) (X Bx h By : Nat) (w : World) (hX : IsNat w Bx v X) (hX0 : 0 < X) (hm2 : len W X ≤ 5000) (hY : IsNat w By (.slice (some ⟨h, 0, none⟩) 1 1) 1) :
    Calls Tryz.prog 71 #[.slice none 0 0, v, .slice (some ⟨h, 0, none⟩) 1 1] w fun e w' => (∃ u, e = .returned u ∧ IsNat w' w.heap.size u (X - 1)) ∧ Below w.heap.size w w' := by
  obtain ⟨a, c, rfl, hc, -⟩ := hX.slice
  obtain ⟨m, hm⟩ : ∃ m, len W X = m := ⟨_, rfl⟩
  rw [hm] at hX hc hm2 ⊢
  have hm0 : 0 < m := by have := (len_pos W_two (v := X)).2 hX0; omega
  obtain ⟨g, rfl, -, -⟩ := hX.some_of hm hm0
  exact nsub_main X 1 m 1 g c h 1 Bx By w hX hY hm len_of_one hX0 (by omega) (by omega)
end Go.Proofs.YtpjkfdgkkpkljaaGreatDoor.Nat_
