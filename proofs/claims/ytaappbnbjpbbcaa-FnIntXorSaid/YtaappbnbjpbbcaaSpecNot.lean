/-
  The reference's sum and difference of magnitudes. The reference's Minus, Add, Sub, Not. The reference's Sub, Not.
-/
import Derived.Test.YtaappbnbjpbbcaaIntOut
import Derived.Test.YtaappbnbjpbbcaaSpecInt4
import Derived.Test.YtaappbnbjpbbcaaSpecInt2
import Derived.Test.YtaappbnbjpbbcaaShiftLaw
import Derived.Deep.RegionHeld3
namespace Go.Proofs.Ytaappbnbjpbbcaa.Ref
open Go.RowKit Go.WideShapes Go.Proofs.Ytaappbnbjpbbcaa.Own Go.Proofs.Ytaappbnbjpbbcaa.Num Go.Proofs.Ytaappbnbjpbbcaa.Nat_ Go.Proofs.Ytaappbnbjpbbcaa.Big
set_option linter.unusedVariables false

/-- the digits of a sum, a carry at a time -/
theorem add_carry8 (a b k c s : Nat) (hc : (a % 256 ^ k + b % 256 ^ k) / 256 ^ k = c) (hs : a / 256 ^ k % 256 + b / 256 ^ k % 256 + c = s) :
    (a + b) / 256 ^ k % 256 = s % 256 ∧ (a % 256 ^ (k + 1) + b % 256 ^ (k + 1)) / 256 ^ (k + 1) = s / 256 := by
  have hp : 0 < 256 ^ k := Nat.pow_pos (by omega)
  have ha : a % 256 ^ (k + 1) = a % 256 ^ k + 256 ^ k * (a / 256 ^ k % 256) := by rw [Nat.pow_succ, Nat.mod_mul]
  have hb : b % 256 ^ (k + 1) = b % 256 ^ k + 256 ^ k * (b / 256 ^ k % 256) := by rw [Nat.pow_succ, Nat.mod_mul]
  constructor
  · have h1 : (a + b) / 256 ^ k = a / 256 ^ k + b / 256 ^ k + c := by
      have ea := Nat.div_add_mod a (256 ^ k)
      have eb := Nat.div_add_mod b (256 ^ k)
      have : a + b = 256 ^ k * (a / 256 ^ k + b / 256 ^ k) + (a % 256 ^ k + b % 256 ^ k) := by rw [Nat.mul_add]; omega
      rw [this, Nat.mul_add_div hp, hc]
    rw [h1, ← hs]
    omega
  · rw [ha, hb, Nat.pow_succ, ← Nat.div_div_eq_div_mul]
    have : a % 256 ^ k + 256 ^ k * (a / 256 ^ k % 256) + (b % 256 ^ k + 256 ^ k * (b / 256 ^ k % 256)) = 256 ^ k * (a / 256 ^ k % 256 + b / 256 ^ k % 256) + (a % 256 ^ k + b % 256 ^ k) := by rw [Nat.mul_add]; omega
    rw [this, Nat.mul_add_div hp, hc, hs]
def car8 (u v k : Nat) : Nat := (u % 256 ^ k + v % 256 ^ k) / 256 ^ k
theorem car8_le (u v k : Nat) : car8 u v k ≤ 1 := by
  have hp : 0 < 256 ^ k := Nat.pow_pos (by omega)
  have h1 := Nat.mod_lt u hp
  have h2 := Nat.mod_lt v hp
  have : car8 u v k < 2 := (Nat.div_lt_iff_lt_mul hp).2 (by omega)
  omega
/-- the byte at a place of a row, one more digit written -/
theorem rev8_step (R N t D : Nat) (ht : t < N) (hD : R / 256 ^ t % 256 = D) : (bs (rev8 (R % 256 ^ t) N)).set (N - 1 - t) (.int .u8 (D : Int)) = bs (rev8 (R % 256 ^ (t + 1)) N) := by
  have hD2 : D < 256 := by rw [← hD]; exact Nat.mod_lt _ (by omega)
  rw [← rev8_set R N t D ht hD]
  unfold bs
  rw [List.map_set]
  congr 2
  simp; omega
theorem be_rev8 (R N : Nat) (h : R < 256 ^ N) : be (rev8 R N) = R := be_dig N R h

theorem mod_succ8 (a k : Nat) : a % 256 ^ (k + 1) = a % 256 ^ k + 256 ^ k * (a / 256 ^ k % 256) := by rw [Nat.pow_succ, Nat.mod_mul]
/-- the words of a difference, a borrow at a time -/
theorem sub_borrow8 (a b k : Nat) (hab : b ≤ a) :
    (a - b) / 256 ^ k % 256 = (a / 256 ^ k % 256 + 256 - b / 256 ^ k % 256 - (if a % 256 ^ k < b % 256 ^ k then 1 else 0)) % 256 := by
  have hp : 0 < 256 ^ k := Nat.pow_pos (by omega)
  obtain ⟨h1, h2, h3⟩ := sub_div a b (256 ^ k) _ _ _ _ hp rfl rfl rfl rfl hab
  rw [h3]
  obtain ⟨c, hc, hc1⟩ : ∃ c, (if a % 256 ^ k < b % 256 ^ k then 1 else 0) = c ∧ c ≤ 1 := by
    refine ⟨_, rfl, ?_⟩; split <;> omega
  rw [hc] at h1 ⊢
  obtain ⟨A, hA⟩ : ∃ A, a / 256 ^ k = A := ⟨_, rfl⟩
  obtain ⟨B, hB⟩ : ∃ B, b / 256 ^ k = B := ⟨_, rfl⟩
  rw [hA, hB] at h1 h2 ⊢
  clear hA hB h3 hc hp
  omega
/-- the next borrow -/
theorem borrow_next8 (a b k : Nat) : a % 256 ^ (k + 1) < b % 256 ^ (k + 1) ↔ (a / 256 ^ k % 256 < b / 256 ^ k % 256 + (if a % 256 ^ k < b % 256 ^ k then 1 else 0)) := by
  have hp : 0 < 256 ^ k := Nat.pow_pos (by omega)
  have ma := Nat.mod_lt a hp
  have mb := Nat.mod_lt b hp
  rw [mod_succ8, mod_succ8]
  obtain ⟨x, hx⟩ : ∃ x, a / 256 ^ k % 256 = x := ⟨_, rfl⟩
  obtain ⟨y, hy⟩ : ∃ y, b / 256 ^ k % 256 = y := ⟨_, rfl⟩
  rw [hx, hy]
  obtain ⟨ra, hra⟩ : ∃ r, a % 256 ^ k = r := ⟨_, rfl⟩
  obtain ⟨rb, hrb⟩ : ∃ r, b % 256 ^ k = r := ⟨_, rfl⟩
  rw [hra] at ma ⊢
  rw [hrb] at mb ⊢
  clear hx hy hra hrb
  rcases Nat.lt_trichotomy x y with h | h | h
  · have : 256 ^ k * x + 256 ^ k ≤ 256 ^ k * y := by rw [← Nat.mul_succ]; exact Nat.mul_le_mul_left _ h
    constructor
    · intro _; omega
    · intro _; omega
  · subst h
    split <;> omega
  · have : 256 ^ k * y + 256 ^ k ≤ 256 ^ k * x := by rw [← Nat.mul_succ]; exact Nat.mul_le_mul_left _ h
    constructor
    · intro _; omega
    · intro hh; split at hh <;> omega

def bor8 (u v k : Nat) : Nat := if u % 256 ^ k < v % 256 ^ k then 1 else 0
theorem bor8_le (u v k : Nat) : bor8 u v k ≤ 1 := by unfold bor8; split <;> omega
theorem bor8_step (u v k x y b : Nat) (h : v ≤ u) (hx : u / 256 ^ k % 256 = x) (hy : v / 256 ^ k % 256 = y) (hb : bor8 u v k = b) :
    (u - v) / 256 ^ k % 256 = (x + 256 - y - b) % 256 ∧ bor8 u v (k + 1) = if x < y + b then 1 else 0 := by
  subst hx hy hb
  refine ⟨sub_borrow8 u v k h, ?_⟩
  have hn := borrow_next8 u v k
  unfold bor8
  by_cases h1 : u % 256 ^ (k + 1) < v % 256 ^ (k + 1)
  · rw [if_pos h1, if_pos (hn.mp h1)]
  · rw [if_neg h1, if_neg (fun h2 => h1 (hn.mpr h2))]

set_option maxHeartbeats 2000000 in
set_option maxRecDepth 100000 in
theorem sum_any (a1 a2 : Option Addr) (c1 c2 : Nat) (l1 l2 : List UInt8) (w : World) (h1 : Rd w a1 l1) (h2 : Rd w a2 l2) (hl1 : l1.length ≤ 100000) (hl2 : l2.length ≤ 100000) (hc1 : l1.length ≤ c1) (hc2 : l2.length ≤ c2) :
    Calls Try.prog 114 #[.slice a1 l1.length c1, .slice a2 l2.length c2] w fun e w' => (∃ v, e = .returned v ∧ Owns w' w.heap.size v (mag (be l1 + be l2))) ∧ Below w.heap.size w w' := by
  have hd1 := Lib.hid fun (W : World) (h : Rd W a1 l1) i (hi : i ≤ 2147483647) => (digit_any a1 c1 l1 i W h (by omega) hi hc1).mono (fun e w' (h : _ ∧ W = w') => And.intro h.1 h.2.symm)
  have hd2 := Lib.hid fun (W : World) (h : Rd W a2 l2) i (hi : i ≤ 2147483647) => (digit_any a2 c2 l2 i W h (by omega) hi hc2).mono (fun e w' (h : _ ∧ W = w') => And.intro h.1 h.2.symm)
  obtain ⟨u, hu⟩ : ∃ u, be l1 = u := ⟨_, rfl⟩
  obtain ⟨v, hv⟩ : ∃ v, be l2 = v := ⟨_, rfl⟩
  have hum := be_lt l1
  have hvm := be_lt l2
  rw [hu] at hum ⊢
  rw [hv] at hvm ⊢
  unfold digitAt at hd1 hd2
  rw [hu] at hd1
  rw [hv] at hd2
  obtain ⟨m, hm⟩ : ∃ m, l1.length = m := ⟨_, rfl⟩
  obtain ⟨n, hn⟩ : ∃ n, l2.length = n := ⟨_, rfl⟩
  rw [hm] at hl1 hc1 hum hd1 ⊢
  rw [hn] at hl2 hc2 hvm hd2 ⊢
  obtain ⟨M, hM⟩ : ∃ M, max m n = M := ⟨_, rfl⟩
  obtain ⟨N, hN⟩ : ∃ N, M + 1 = N := ⟨_, rfl⟩
  have hmx : max (m : Int) (n : Int) + 1 = N := by omega
  have hrun := run_new8 N (by omega) w N rfl
  have hown := own_new8 N w.heap.size (by omega) w (Nat.le_refl _)
  have hb1 : Below w.heap.size w (w.alloc (.cells (bs (rev8 0 N)).toArray 5)) := below_one _ (Nat.le_refl _)
  have h1' := Lib.hid h1
  have h2' := Lib.hid h2
  have hR : u + v < 256 ^ N := by
    have e1 : 256 ^ m ≤ 256 ^ M := Nat.pow_le_pow_right (by decide) (by omega)
    have e2 : 256 ^ n ≤ 256 ^ M := Nat.pow_le_pow_right (by decide) (by omega)
    rw [← hN, Nat.pow_succ]
    omega
  have hst := Lib.hid (show (w.alloc (.cells (bs (rev8 0 N)).toArray 5)).ownsRow w.heap.size 5 1 (.slice (some ⟨w.heap.size, 0, none⟩) N N) N (bs (rev8 ((u + v) % 256 ^ 0) N)) ∧ Below w.heap.size w (w.alloc (.cells (bs (rev8 0 N)).toArray 5)) from
    ⟨by rw [Nat.pow_zero, Nat.mod_one]; exact hown, hb1⟩)
  have hR' := Lib.hid hR
  clear hown hb1 hum hvm hR hu hv hm hn hM h1 h2
  go_enter Try.func114, Try.ntmps114
  go_wp2
  have hcut := Lib.hid fun W (h : Rd W (some ⟨w.heap.size, 0, none⟩) (rev8 (u + v) N)) => cut_any (some ⟨w.heap.size, 0, none⟩) N (rev8 (u + v) N) W h (by rw [rev8_length]; omega) (by rw [rev8_length]; exact Nat.le_refl _) (fun h => by cases h)
  rw [rev8_length, be_rev8 _ _ hR'.out] at hcut
  go_loopw [7, 8] (fun c i wr => ∃ k : Nat, k ≤ N ∧ i = .int .i64 k ∧ c = .int .i64 ((car8 u v k : Nat) : Int) ∧ Hid (wr.ownsRow w.heap.size 5 1 (.slice (some ⟨w.heap.size, 0, none⟩) N N) N (bs (rev8 ((u + v) % 256 ^ k) N)) ∧ Below w.heap.size w wr)) (fun _ i _ => N - (intOf i).toNat)
  case atStart => exact ⟨0, by omega, rfl, by unfold car8; simp [Nat.mod_one], hst⟩
  case round =>
    clear hst
    obtain ⟨k, hk, rfl, rfl, hI⟩ := hrel
    have hc1' := car8_le u v k
    obtain ⟨c, hce⟩ : ∃ c, car8 u v k = c := ⟨_, rfl⟩
    rw [hce] at hc1' ⊢
    have hce' := Lib.hid hce
    clear hce
    by_cases hlt : k < N
    · obtain ⟨hown, hb⟩ := hI.out
      have e1 := Lib.hid (hd1.out wr (h1'.out.later hb) k (by omega))
      have e2 := Lib.hid (hd2.out wr (h2'.out.later hb) k (by omega))
      obtain ⟨x, hx⟩ : ∃ x, u / 256 ^ k % 256 = x := ⟨_, rfl⟩
      obtain ⟨y, hy⟩ : ∃ y, v / 256 ^ k % 256 = y := ⟨_, rfl⟩
      have hx9 : x < 256 := by rw [← hx]; exact Nat.mod_lt _ (by omega)
      have hy9 : y < 256 := by rw [← hy]; exact Nat.mod_lt _ (by omega)
      obtain ⟨s, hs⟩ : ∃ s, x + y + c = s := ⟨_, rfl⟩
      have hs' : (x : Int) + y + c = s := by omega
      obtain ⟨hdig, hcar⟩ := add_carry8 u v k c s hce'.out (by rw [hx, hy]; exact hs)
      rw [hx] at e1
      rw [hy] at e2
      obtain ⟨D, hD⟩ : ∃ D, s % 256 = D := ⟨_, rfl⟩
      obtain ⟨Q, hQ⟩ : ∃ Q, s / 256 = Q := ⟨_, rfl⟩
      have hD' : (s : Int) % 256 = D := by omega
      have hQ' : (s : Int) / 256 = Q := by omega
      have hD8 : IntKind.u8.wrap (D : Int) = D := by rw [IntKind.wrap_u8]; omega
      obtain ⟨I, hI'⟩ : ∃ I, N - 1 - k = I := ⟨_, rfl⟩
      have hIi : (N : Int) - 1 - k = I := by omega
      have hIN : I < N := by omega
      have hst := (World.ownsRow.stored hown I (.int .u8 (D : Int))).1
      rw [← hI', rev8_step (u + v) N k D hlt (by rw [hdig, hD]), hI'] at hst
      have hc0 := World.ownsRow.cellAt hown I (by omega)
      have hf0 := World.ownsRow.frozenAt hown I
      obtain ⟨cv, hcv⟩ : ∃ cv, (bs (rev8 ((u + v) % 256 ^ k) N))[I]? = some cv := ⟨_, List.getElem?_eq_getElem (by rw [bs_length, rev8_length]; omega)⟩
      rw [hcv] at hc0
      have hfin := Lib.hid (show _ ∧ _ from ⟨hst, (hb.setCell (Nat.le_refl _) _ : Below w.heap.size w (wr.setCell ⟨w.heap.size, I, none⟩ (.int .u8 (D : Int))))⟩)
      have hcar' : Hid (car8 u v (k + 1) = Q) := Lib.hid (hcar.trans hQ)
      clear hcv hx hy hs hD hQ hI' hst hown hb hI hdig hcar
      go_wp2_with fail
      refine e1.out.mono ?_
      rintro e w1 ⟨rfl, rfl⟩
      go_wp2_with fail
      refine e2.out.mono ?_
      rintro e w1 ⟨rfl, rfl⟩
      go_wp2
      go_roundw
      case rel => exact ⟨k + 1, by omega, by go_num, by rw [hcar'.out], hfin⟩
      case measure => simp [intOf]; omega
    · obtain rfl : k = N := by omega
      obtain ⟨hown, hb⟩ := hI.out
      rw [Nat.mod_eq_of_lt hR'.out] at hown
      have hrd := rd_drop hown (rev8_length _ _) (by
        rcases hown.2 with ⟨h, _⟩ | ⟨g', c', cells, h, _, hh, _⟩
        · cases h
        · cases h; exact (Array.getElem?_eq_some_iff.mp hh).1) 0 (Nat.zero_le _)
      have hct := Lib.hid (hcut.out wr hrd)
      have hb' := Lib.hid hb
      clear hI hown hb hrd hcut
      go_wp2_with fail
      refine hct.out.mono ?_
      rintro e w2 ⟨⟨v2, rfl, hv2⟩, hb2⟩
      go_wp2
      go_ret
      exact ⟨⟨_, rfl, World.ownsRow.mono hv2 hb'.out.size⟩, hb'.out.trans (hb2.mono hb'.out.size)⟩
set_option maxHeartbeats 2000000 in
set_option maxRecDepth 100000 in
theorem less_any (a1 a2 : Option Addr) (c1 c2 : Nat) (l1 l2 : List UInt8) (w : World) (h1 : Rd w a1 l1) (h2 : Rd w a2 l2) (hl1 : l1.length ≤ 100000) (hl2 : l2.length ≤ 100000) (hc1 : l1.length ≤ c1) (hc2 : l2.length ≤ c2) (hle : be l2 ≤ be l1) :
    Calls Try.prog 115 #[.slice a1 l1.length c1, .slice a2 l2.length c2] w fun e w' => (∃ v, e = .returned v ∧ Owns w' w.heap.size v (mag (be l1 - be l2))) ∧ Below w.heap.size w w' := by
  have hd1 := Lib.hid fun (W : World) (h : Rd W a1 l1) i (hi : i ≤ 2147483647) => (digit_any a1 c1 l1 i W h (by omega) hi hc1).mono (fun e w' (h : _ ∧ W = w') => And.intro h.1 h.2.symm)
  have hd2 := Lib.hid fun (W : World) (h : Rd W a2 l2) i (hi : i ≤ 2147483647) => (digit_any a2 c2 l2 i W h (by omega) hi hc2).mono (fun e w' (h : _ ∧ W = w') => And.intro h.1 h.2.symm)
  obtain ⟨u, hu⟩ : ∃ u, be l1 = u := ⟨_, rfl⟩
  obtain ⟨v, hv⟩ : ∃ v, be l2 = v := ⟨_, rfl⟩
  have hum := be_lt l1
  rw [hu] at hum hle ⊢
  rw [hv] at hle ⊢
  unfold digitAt at hd1 hd2
  rw [hu] at hd1
  rw [hv] at hd2
  obtain ⟨N, hm⟩ : ∃ N, l1.length = N := ⟨_, rfl⟩
  obtain ⟨n, hn⟩ : ∃ n, l2.length = n := ⟨_, rfl⟩
  rw [hm] at hl1 hc1 hum hd1 ⊢
  rw [hn] at hl2 hc2 hd2 ⊢
  have hrun := run_new8 N (by omega) w N rfl
  have hown := own_new8 N w.heap.size (by omega) w (Nat.le_refl _)
  have hb1 : Below w.heap.size w (w.alloc (.cells (bs (rev8 0 N)).toArray 5)) := below_one _ (Nat.le_refl _)
  have h1' := Lib.hid h1
  have h2' := Lib.hid h2
  have hR : u - v < 256 ^ N := Nat.lt_of_le_of_lt (Nat.sub_le _ _) hum
  have hst := Lib.hid (show (w.alloc (.cells (bs (rev8 0 N)).toArray 5)).ownsRow w.heap.size 5 1 (.slice (some ⟨w.heap.size, 0, none⟩) N N) N (bs (rev8 ((u - v) % 256 ^ 0) N)) ∧ Below w.heap.size w (w.alloc (.cells (bs (rev8 0 N)).toArray 5)) from
    ⟨by rw [Nat.pow_zero, Nat.mod_one]; exact hown, hb1⟩)
  have hR' := Lib.hid hR
  have hle' := Lib.hid hle
  clear hown hb1 hum hR hu hv hm hn h1 h2 hle
  go_enter Try.func115, Try.ntmps115
  go_wp2
  have hcut := Lib.hid fun W (h : Rd W (some ⟨w.heap.size, 0, none⟩) (rev8 (u - v) N)) => cut_any (some ⟨w.heap.size, 0, none⟩) N (rev8 (u - v) N) W h (by rw [rev8_length]; omega) (by rw [rev8_length]; exact Nat.le_refl _) (fun h => by cases h)
  rw [rev8_length, be_rev8 _ _ hR'.out] at hcut
  go_loopw [6, 7] (fun c i wr => ∃ k : Nat, k ≤ N ∧ i = .int .i64 k ∧ c = .int .i64 ((bor8 u v k : Nat) : Int) ∧ Hid (wr.ownsRow w.heap.size 5 1 (.slice (some ⟨w.heap.size, 0, none⟩) N N) N (bs (rev8 ((u - v) % 256 ^ k) N)) ∧ Below w.heap.size w wr)) (fun _ i _ => N - (intOf i).toNat)
  case atStart => exact ⟨0, by omega, rfl, by unfold bor8; simp [Nat.mod_one], hst⟩
  case round =>
    clear hst
    obtain ⟨k, hk, rfl, rfl, hI⟩ := hrel
    have hc1' := bor8_le u v k
    obtain ⟨c, hce⟩ : ∃ c, bor8 u v k = c := ⟨_, rfl⟩
    rw [hce] at hc1' ⊢
    have hce' := Lib.hid hce
    clear hce
    by_cases hlt : k < N
    · obtain ⟨hown, hb⟩ := hI.out
      have e1 := Lib.hid (hd1.out wr (h1'.out.later hb) k (by omega))
      have e2 := Lib.hid (hd2.out wr (h2'.out.later hb) k (by omega))
      obtain ⟨x, hx⟩ : ∃ x, u / 256 ^ k % 256 = x := ⟨_, rfl⟩
      obtain ⟨y, hy⟩ : ∃ y, v / 256 ^ k % 256 = y := ⟨_, rfl⟩
      have hx9 : x < 256 := by rw [← hx]; exact Nat.mod_lt _ (by omega)
      have hy9 : y < 256 := by rw [← hy]; exact Nat.mod_lt _ (by omega)
      obtain ⟨hdig, hcar⟩ := bor8_step u v k x y c hle'.out hx hy hce'.out
      rw [hx] at e1
      rw [hy] at e2
      obtain ⟨D, hD⟩ : ∃ D, (x + 256 - y - c) % 256 = D := ⟨_, rfl⟩
      obtain ⟨Q, hQ⟩ : ∃ Q : Nat, (if x < y + c then 1 else 0 : Nat) = Q := ⟨_, rfl⟩
      obtain ⟨I, hI'⟩ : ∃ I, N - 1 - k = I := ⟨_, rfl⟩
      have hIi : (N : Int) - 1 - k = I := by omega
      have hIN : I < N := by omega
      have hst := (World.ownsRow.stored hown I (.int .u8 (D : Int))).1
      rw [← hI', rev8_step (u - v) N k D hlt (by rw [hdig, hD]), hI'] at hst
      have hc0 := World.ownsRow.cellAt hown I (by omega)
      have hf0 := World.ownsRow.frozenAt hown I
      obtain ⟨cv, hcv⟩ : ∃ cv, (bs (rev8 ((u - v) % 256 ^ k) N))[I]? = some cv := ⟨_, List.getElem?_eq_getElem (by rw [bs_length, rev8_length]; omega)⟩
      rw [hcv] at hc0
      have hfin := Lib.hid (show _ ∧ _ from ⟨hst, (hb.setCell (Nat.le_refl _) _ : Below w.heap.size w (wr.setCell ⟨w.heap.size, I, none⟩ (.int .u8 (D : Int))))⟩)
      have hcar' : Hid (bor8 u v (k + 1) = Q) := Lib.hid (hcar.trans hQ)
      by_cases hneg : x < y + c
      · rw [if_pos hneg] at hQ
        subst hQ
        have hDe : (x : Int) - y - c + 256 = D := by omega
        have hD8 : IntKind.u8.wrap (D : Int) = D := by rw [IntKind.wrap_u8]; omega
        have hlt0 : (x : Int) - y - c < 0 := by omega
        clear hcv hx hy hD hI' hst hown hb hI hdig hcar
        go_wp2_with fail
        refine e1.out.mono ?_
        rintro e w1 ⟨rfl, rfl⟩
        go_wp2_with fail
        refine e2.out.mono ?_
        rintro e w1 ⟨rfl, rfl⟩
        go_wp2
        go_roundw
        case rel => exact ⟨k + 1, by omega, by go_num, by rw [hcar'.out]; rfl, hfin⟩
        case measure => simp [intOf]; omega
      · rw [if_neg hneg] at hQ
        subst hQ
        have hDe : (x : Int) - y - c = D := by omega
        have hD8 : IntKind.u8.wrap (D : Int) = D := by rw [IntKind.wrap_u8]; omega
        have hlt0 : ¬ ((D : Int) < 0) := by omega
        clear hcv hx hy hD hI' hst hown hb hI hdig hcar
        go_wp2_with fail
        refine e1.out.mono ?_
        rintro e w1 ⟨rfl, rfl⟩
        go_wp2_with fail
        refine e2.out.mono ?_
        rintro e w1 ⟨rfl, rfl⟩
        go_wp2
        go_roundw
        case rel => exact ⟨k + 1, by omega, by go_num, by rw [hcar'.out]; rfl, hfin⟩
        case measure => simp [intOf]; omega
    · obtain rfl : k = N := by omega
      obtain ⟨hown, hb⟩ := hI.out
      rw [Nat.mod_eq_of_lt hR'.out] at hown
      have hrd := rd_drop hown (rev8_length _ _) (by
        rcases hown.2 with ⟨h, _⟩ | ⟨g', c', cells, h, _, hh, _⟩
        · cases h
        · cases h; exact (Array.getElem?_eq_some_iff.mp hh).1) 0 (Nat.zero_le _)
      have hct := Lib.hid (hcut.out wr hrd)
      have hb' := Lib.hid hb
      clear hI hown hb hrd hcut
      go_wp2_with fail
      refine hct.out.mono ?_
      rintro e w2 ⟨⟨v2, rfl, hv2⟩, hb2⟩
      go_wp2
      go_ret
      exact ⟨⟨_, rfl, World.ownsRow.mono hv2 hb'.out.size⟩, hb'.out.trans (hb2.mono hb'.out.size)⟩
end Go.Proofs.Ytaappbnbjpbbcaa.Ref
namespace Go.Proofs.Ytaappbnbjpbbcaa.Ref
open Go.RowKit Go.WideShapes Go.Proofs.Ytaappbnbjpbbcaa.Own Go.Proofs.Ytaappbnbjpbbcaa.Num Go.Proofs.Ytaappbnbjpbbcaa.Nat_ Go.Proofs.Ytaappbnbjpbbcaa.Big
set_option linter.unusedVariables false

theorem sg_abs2 (neg : Bool) (V : Nat) : (sg neg V).natAbs = V := by unfold sg; cases neg <;> simp
/-- the reference's integer of a number -/
def IsZ (w : World) (B : Nat) (v : Value) (z : Int) : Prop := IsInt w B v (decide (z < 0)) z.natAbs
theorem IsInt.z {w : World} {B : Nat} {v : Value} {neg : Bool} {m : Nat} (h : IsInt w B v (neg && decide (0 < m)) m) : IsZ w B v (sg neg m) := by
  unfold IsZ
  rw [sg_abs2]
  have : decide (sg neg m < 0) = (neg && decide (0 < m)) := by unfold sg; cases neg <;> simp <;> omega
  rw [this]
  exact h
theorem IsZ.int {w : World} {B : Nat} {v : Value} {z : Int} (h : IsZ w B v z) : IsInt w B v (decide (z < 0)) z.natAbs := h
theorem IsInt.toZ {w : World} {B : Nat} {v : Value} {neg : Bool} {m : Nat} (h : IsInt w B v neg m) : IsZ w B v (sg neg m) := by
  refine IsInt.z ?_
  obtain ⟨u, h1, h2, h3⟩ := h
  have : (neg && decide (0 < m)) = neg := by cases neg; rfl; simp [h3 rfl]
  rw [this]
  exact ⟨u, h1, h2, h3⟩

theorem RdS_of_own {w : World} {B : Nat} {v : Value} {l : List UInt8} (h : Owns w B v l) : RdS w B v l := by
  obtain ⟨a, c, rfl, hr, hc⟩ := Rd.of_own h
  refine ⟨a, c, rfl, hr, hc, fun h0 => ?_, fun x hx => ?_⟩
  · rcases h.2 with ⟨e, _⟩ | ⟨g, c', cur, e, _⟩
    · simp only [Value.slice.injEq] at e; exact e.2.2
    · subst h0; cases e
  · rcases h.2 with ⟨e, _⟩ | ⟨g, c', cur, e, hB, _⟩
    · subst hx; cases e
    · subst hx; cases e; exact hB
theorem IsInt.shape {w : World} {B : Nat} {v : Value} {neg : Bool} {m : Nat} (h : IsInt w B v neg m) : ∃ a c, v = .agg #[.bool neg, .slice a (mag m).length c] ∧ Rd w a (mag m) ∧ (mag m).length ≤ c ∧ (a = none → c = 0) := by
  obtain ⟨u, rfl, ho, hp⟩ := h
  obtain ⟨a, c, rfl, hr, hc, hn, -⟩ := RdS_of_own ho
  exact ⟨a, c, rfl, hr, hc, hn⟩
theorem IsInt.put2 {w : World} {B : Nat} {neg : Bool} {m : Nat} {x y : Value} (h : IsInt w B (.agg #[x, y]) neg m) {b : Nat} (hb : b < B) (u1 u2 : Value) : IsInt ((w.setCell ⟨b, 0, none⟩ u1).setCell ⟨b, 1, none⟩ u2) B (.agg #[x, y]) neg m := by
  obtain ⟨u, h1, h2, h3⟩ := h
  exact ⟨u, h1, Box.own_above h2 (((Box.Above.refl _ _).setCell (by exact hb) _).setCell (by exact hb) _), h3⟩

set_option maxHeartbeats 1000000 in
set_option maxRecDepth 100000 in
theorem minus_any (x : Value) (z : Int) (B : Nat) (w : World) (h : IsZ w B x z) (hl : (mag z.natAbs).length ≤ 100000) :
    Calls Try.prog 82 #[x] w fun e w' => (∃ v, e = .returned v ∧ IsZ w' w.heap.size v (-z)) ∧ Below w.heap.size w w' := by
  obtain ⟨a, c, rfl, hr, hc, ha⟩ := h.shape
  obtain ⟨N, hN⟩ : ∃ N, decide (z < 0) = N := ⟨_, rfl⟩
  obtain ⟨m, hm⟩ : ∃ m, z.natAbs = m := ⟨_, rfl⟩
  have hz : z = sg N m := by rw [← hN, ← hm, sg_abs]
  have hz2 : -z = sg (!N) m := by rw [hz]; unfold sg; cases N <;> simp
  rw [hN, hm, hz2]
  rw [hm] at hr hc hl
  have hof := Lib.hid fun W (hW : Below w.heap.size w W) => of_any (!N) a c (mag m) W (hr.later hW) (by omega) hc ha
  rw [be_mag] at hof
  obtain ⟨n, hn⟩ : ∃ n, (mag m).length = n := ⟨_, rfl⟩
  rw [hn] at hof ⊢
  obtain ⟨w1, hw1⟩ : ∃ w1, (w.alloc (.cells #[.bool N, .slice a n c] 35)).alloc (.cells #[.bool false, .slice none 0 0] 35) = w1 := ⟨_, rfl⟩
  have hs1 : w1.heap.size = w.heap.size + 2 := by rw [← hw1]; simp
  have hb1 : Below w.heap.size w w1 := by rw [← hw1]; exact (below_one _ (Nat.le_refl _)).alloc (by simp) _
  have hr1 : Box.Holds w1 (w.heap.size + 1) 35 #[.bool false, .slice none 0 0] := by
    have := Box.Holds.made (w.alloc (.cells #[.bool N, .slice a n c] 35)) 35 #[.bool false, .slice none 0 0]
    rw [show (w.alloc (.cells #[.bool N, .slice a n c] 35)).heap.size = w.heap.size + 1 by simp, hw1] at this
    exact this
  have hof1 := Lib.hid (hof.out w1 hb1)
  have hr1' := Lib.hid hr1
  have hb1' := Lib.hid hb1
  have hw1' := Lib.hid hw1
  clear h hr hN hm hz hz2 hof hn hb1 hr1 hw1
  go_enter Try.func82, Try.ntmps82
  go_wp2_with fail
  rw [hw1'.out]
  refine hof1.out.mono ?_
  rintro e w2 ⟨⟨v, rfl, hv⟩, hb2⟩
  have hv2 := hv
  obtain ⟨a2, c2, rfl, -, -, -⟩ := hv2.shape
  obtain ⟨n2, hn2⟩ : ∃ n, (mag m).length = n := ⟨_, rfl⟩
  rw [hn2] at hv ⊢
  obtain ⟨N2, hN2⟩ : ∃ N2, (!N && decide (0 < m)) = N2 := ⟨_, rfl⟩
  have hN2' := Lib.hid hN2
  rw [hN2] at hv ⊢
  have hk2 := hr1'.out.later hb2
  have k0 := hk2.cell 0
  have k1 := hk2.cell 1
  simp at k0 k1
  have f0 := hk2.free 0
  have f1 := hk2.free 1
  have hlt2 := hk2.lt
  have hfin := Lib.hid ((hv.put2 (b := w.heap.size + 1) (by omega) (.bool N2) (.slice a2 n2 c2)).mono (show w.heap.size ≤ w1.heap.size by omega))
  have hbel := Lib.hid (((hb1'.out.trans (hb2.mono (by omega))).setCell (p := ⟨w.heap.size + 1, 0, none⟩) (Nat.le_succ _) (.bool N2)).setCell (p := ⟨w.heap.size + 1, 1, none⟩) (Nat.le_succ _) (.slice a2 n2 c2))
  clear hv hv2 hk2 hb2 hn2 hN2
  go_wp2
  exact bodyPost_ret (v := .agg #[.bool N2, .slice a2 n2 c2]) (by simp [results, Try.results82, go_sem, k0, k1]) rfl ⟨⟨_, rfl, IsInt.z (by rw [hN2'.out]; exact hfin.out)⟩, hbel.out⟩

theorem cells4 {W : World} {b : Nat} {t1 t2 : TypeId} {x0 x1 y0 y1 : Value} (h1 : Box.Holds W b t1 #[x0, x1]) (h2 : Box.Holds W (b + 1) t2 #[y0, y1]) :
    W.cell? ⟨b, 0, none⟩ = some x0 ∧ W.cell? ⟨b, 1, none⟩ = some x1 ∧ W.cell? ⟨b + 1, 0, none⟩ = some y0 ∧ W.cell? ⟨b + 1, 1, none⟩ = some y1 := by
  have k0 := h1.cell 0
  have k1 := h1.cell 1
  have j0 := h2.cell 0
  have j1 := h2.cell 1
  simp at k0 k1 j0 j1
  exact ⟨k0, k1, j0, j1⟩
theorem sg_diff (X Y : Bool) (m1 m2 : Nat) (h : X ≠ Y) (hm : m2 ≤ m1) : sg X (m1 - m2) = sg X m1 + sg Y m2 := by
  unfold sg
  cases X <;> cases Y <;> simp at h ⊢ <;> omega
theorem keep4 {W : World} {b g : Nat} {x0 x1 y0 y1 u1 u2 : Value} (h : W.cell? ⟨b, 0, none⟩ = some x0 ∧ W.cell? ⟨b, 1, none⟩ = some x1 ∧ W.cell? ⟨b + 1, 0, none⟩ = some y0 ∧ W.cell? ⟨b + 1, 1, none⟩ = some y1) (h1 : g ≠ b) (h2 : g ≠ b + 1) :
    ((W.setCell ⟨g, 0, none⟩ u1).setCell ⟨g, 1, none⟩ u2).cell? ⟨b, 0, none⟩ = some x0 ∧ ((W.setCell ⟨g, 0, none⟩ u1).setCell ⟨g, 1, none⟩ u2).cell? ⟨b, 1, none⟩ = some x1 ∧
      ((W.setCell ⟨g, 0, none⟩ u1).setCell ⟨g, 1, none⟩ u2).cell? ⟨b + 1, 0, none⟩ = some y0 ∧ ((W.setCell ⟨g, 0, none⟩ u1).setCell ⟨g, 1, none⟩ u2).cell? ⟨b + 1, 1, none⟩ = some y1 := by
  have key : ∀ (c i : Nat), g ≠ c → ((W.setCell ⟨g, 0, none⟩ u1).setCell ⟨g, 1, none⟩ u2).cell? ⟨c, i, none⟩ = W.cell? ⟨c, i, none⟩ := fun c i hc => by
    rw [World.cell?_setCell_far _ _ _ _ hc, World.cell?_setCell_far _ _ _ _ hc]
  rw [key b 0 h1, key b 1 h1, key (b + 1) 0 h2, key (b + 1) 1 h2]
  exact h
/-- an integer that is stored into the result's own cells -/
theorem addEnd (w W : World) (v : Value) (N : Bool) (M B g : Nat) (hb : Below w.heap.size w W) (hk : Box.Holds W g 35 #[.bool false, .slice none 0 0]) (hg : w.heap.size ≤ g) (hgB : g < B) (hv : IsInt W B v N M) :
    ∃ a n c, v = .agg #[.bool N, .slice a n c] ∧ W.cell? ⟨g, 0, none⟩ = some (.bool false) ∧ W.cell? ⟨g, 1, none⟩ = some (.slice none 0 0) ∧ W.frozen? ⟨g, 0, none⟩ = false ∧ W.frozen? ⟨g, 1, none⟩ = false ∧ g < W.heap.size ∧
      IsInt ((W.setCell ⟨g, 0, none⟩ (.bool N)).setCell ⟨g, 1, none⟩ (.slice a n c)) w.heap.size (.agg #[.bool N, .slice a n c]) N M ∧ Below w.heap.size w ((W.setCell ⟨g, 0, none⟩ (.bool N)).setCell ⟨g, 1, none⟩ (.slice a n c)) := by
  obtain ⟨a, c, rfl, -, -, -⟩ := hv.shape
  have k0 := hk.cell 0
  have k1 := hk.cell 1
  simp at k0 k1
  exact ⟨a, _, c, rfl, k0, k1, hk.free 0, hk.free 1, hk.lt, (hv.put2 hgB _ _).mono (by omega), (hb.setCell (p := ⟨g, 0, none⟩) hg _).setCell (p := ⟨g, 1, none⟩) hg _⟩
theorem mag_len_add (a b : Nat) (ha : (mag a).length ≤ 50000) (hb : (mag b).length ≤ 50000) : (mag (a + b)).length ≤ 100000 := by
  rw [mag_length] at *
  have h1 := len_lt (b := 256) (by omega) a
  have h2 := len_lt (b := 256) (by omega) b
  refine Nat.le_trans (len_le (b := 256) (by omega) (n := max (len 256 a) (len 256 b) + 1) ?_) (by omega)
  have e1 : 256 ^ len 256 a ≤ 256 ^ max (len 256 a) (len 256 b) := Nat.pow_le_pow_right (by decide) (by omega)
  have e2 : 256 ^ len 256 b ≤ 256 ^ max (len 256 a) (len 256 b) := Nat.pow_le_pow_right (by decide) (by omega)
  rw [Nat.pow_succ]
  omega
theorem mag_len_mono {a b : Nat} (h : a ≤ b) : (mag a).length ≤ (mag b).length := by
  rw [mag_length, mag_length]
  exact len_mono (by omega) h

set_option maxHeartbeats 2000000 in
set_option maxRecDepth 100000 in
theorem add_any (x y : Value) (z1 z2 : Int) (B1 B2 : Nat) (w : World) (hx : IsZ w B1 x z1) (hy : IsZ w B2 y z2) (hl1 : (mag z1.natAbs).length ≤ 50000) (hl2 : (mag z2.natAbs).length ≤ 50000) :
    Calls Try.prog 101 #[x, y] w fun e w' => (∃ v, e = .returned v ∧ IsZ w' w.heap.size v (z1 + z2)) ∧ Below w.heap.size w w' := by
  obtain ⟨a1, c1, rfl, hr1, hc1, ha1⟩ := hx.shape
  obtain ⟨a2, c2, rfl, hr2, hc2, ha2⟩ := hy.shape
  obtain ⟨X, hX⟩ : ∃ N, decide (z1 < 0) = N := ⟨_, rfl⟩
  obtain ⟨Y, hY⟩ : ∃ N, decide (z2 < 0) = N := ⟨_, rfl⟩
  obtain ⟨m1, hm1⟩ : ∃ m, z1.natAbs = m := ⟨_, rfl⟩
  obtain ⟨m2, hm2⟩ : ∃ m, z2.natAbs = m := ⟨_, rfl⟩
  have hz1 : z1 = sg X m1 := by rw [← hX, ← hm1, sg_abs]
  have hz2 : z2 = sg Y m2 := by rw [← hY, ← hm2, sg_abs]
  rw [hX, hY, hm1, hm2]
  rw [hm1] at hr1 hc1 hl1
  rw [hm2] at hr2 hc2 hl2
  obtain ⟨Z, hZ⟩ : ∃ Z, z1 + z2 = Z := ⟨_, rfl⟩
  rw [hZ]
  rw [hz1, hz2] at hZ
  have hsum := Lib.hid fun W (hW : Below w.heap.size w W) => sum_any a1 a2 c1 c2 (mag m1) (mag m2) W (hr1.later hW) (hr2.later hW) (by omega) (by omega) hc1 hc2
  have hless1 := Lib.hid fun W (hW : Below w.heap.size w W) (h : m2 ≤ m1) => less_any a1 a2 c1 c2 (mag m1) (mag m2) W (hr1.later hW) (hr2.later hW) (by omega) (by omega) hc1 hc2 (by rw [be_mag, be_mag]; exact h)
  have hless2 := Lib.hid fun W (hW : Below w.heap.size w W) (h : m1 ≤ m2) => less_any a2 a1 c2 c1 (mag m2) (mag m1) W (hr2.later hW) (hr1.later hW) (by omega) (by omega) hc2 hc1 (by rw [be_mag, be_mag]; exact h)
  have hord := Lib.hid fun W (hW : Below w.heap.size w W) => order_any a1 a2 c1 c2 m1 m2 W (hr1.later hW) (hr2.later hW) (by omega) (by omega) hc1 hc2
  simp only [be_mag] at hsum hless1 hless2
  have hof := Lib.hid fun b M a c W (hM : (mag M).length ≤ 100000) (hr : Rd W a (mag M)) (hc : (mag M).length ≤ c) (ha : a = none → c = 0) => of_any b a c (mag M) W hr (by omega) hc ha
  simp only [be_mag] at hof
  have hadd := Lib.hid (mag_len_add m1 m2 hl1 hl2)
  have hle1 := Lib.hid (Nat.le_trans (mag_len_mono (Nat.sub_le m1 m2)) (by omega : (mag m1).length ≤ 100000))
  have hle2 := Lib.hid (Nat.le_trans (mag_len_mono (Nat.sub_le m2 m1)) (by omega : (mag m2).length ≤ 100000))
  obtain ⟨n1, hn1⟩ : ∃ n, (mag m1).length = n := ⟨_, rfl⟩
  obtain ⟨n2, hn2⟩ : ∃ n, (mag m2).length = n := ⟨_, rfl⟩
  rw [hn1, hn2] at hsum hless1 hless2 hord
  rw [hn1, hn2]
  obtain ⟨w1, hw1⟩ : ∃ w1, ((w.alloc (.cells #[.bool X, .slice a1 n1 c1] 35)).alloc (.cells #[.bool Y, .slice a2 n2 c2] 35)).alloc (.cells #[.bool false, .slice none 0 0] 35) = w1 := ⟨_, rfl⟩
  have hs1 : w1.heap.size = w.heap.size + 3 := by rw [← hw1]; simp
  have hb1 : Below w.heap.size w w1 := by rw [← hw1]; exact ((below_one _ (Nat.le_refl _)).alloc (by simp) _).alloc (by simp; omega) _
  have hk1 : Box.Holds w1 w.heap.size 35 #[.bool X, .slice a1 n1 c1] := by
    rw [← hw1]; exact ((Box.Holds.made w 35 #[.bool X, .slice a1 n1 c1]).alloc _).alloc _
  have hk2 : Box.Holds w1 (w.heap.size + 1) 35 #[.bool Y, .slice a2 n2 c2] := by
    have := (Box.Holds.made (w.alloc (.cells #[.bool X, .slice a1 n1 c1] 35)) 35 #[.bool Y, .slice a2 n2 c2]).alloc (.cells #[.bool false, .slice none 0 0] 35)
    rw [show (w.alloc (.cells #[.bool X, .slice a1 n1 c1] 35)).heap.size = w.heap.size + 1 by simp, hw1] at this
    exact this
  have hk3 : Box.Holds w1 (w.heap.size + 2) 35 #[.bool false, .slice none 0 0] := by
    have := Box.Holds.made ((w.alloc (.cells #[.bool X, .slice a1 n1 c1] 35)).alloc (.cells #[.bool Y, .slice a2 n2 c2] 35)) 35 #[.bool false, .slice none 0 0]
    rw [show ((w.alloc (.cells #[.bool X, .slice a1 n1 c1] 35)).alloc (.cells #[.bool Y, .slice a2 n2 c2] 35)).heap.size = w.heap.size + 2 by simp, hw1] at this
    exact this
  have hkeep := Lib.hid fun W (hW : Below w1.heap.size w1 W) => cells4 (hk1.later hW) (hk2.later hW)
  have hres := Lib.hid fun W (hW : Below w1.heap.size w1 W) => hk3.later hW
  have hbw := Lib.hid fun W (hW : Below w1.heap.size w1 W) => hb1.trans (hW.mono hb1.size)
  have hdr := Lib.hid fun q => Box.below_drawn (Below.refl w1.heap.size w1) q
  have hend := Lib.hid fun W v N M (hW : Below w1.heap.size w1 W) (B : Nat) (hB : w1.heap.size ≤ B) (hv : IsInt W B v N M) => addEnd w W v N M B (w.heap.size + 1 + 1) (hb1.trans (hW.mono hb1.size)) (hk3.later hW) (by omega) (by omega) hv
  have hw1' := Lib.hid hw1
  have hZ' := Lib.hid hZ
  clear hx hy hr1 hr2 hX hY hm1 hm2 hz1 hz2 hZ hn1 hn2 hw1 hb1 hk1 hk2 hk3
  by_cases hXY : X = Y
  · subst hXY
    go_enter Try.func101, Try.ntmps101
    go_wp2_with fail
    rw [hw1'.out]
    have hd0 := Lib.hid (Box.below_drawn (Below.refl w1.heap.size w1) 1)
    have j2 := hkeep.out w1 (Below.refl _ _)
    go_region_held3 (fun W => W.cell? ⟨w.heap.size, 0, none⟩ = some (.bool X) ∧ W.cell? ⟨w.heap.size, 1, none⟩ = some (.slice a1 n1 c1) ∧ W.cell? ⟨w.heap.size + 1, 0, none⟩ = some (.bool X) ∧ W.cell? ⟨w.heap.size + 1, 1, none⟩ = some (.slice a2 n2 c2))
      (first | go_keep | exact j2 | exact j3 | exact j4 | exact j5 _ _)
      (first
        | (go_at_call 114; refine (hsum.out w1.drew (hbw.out _ hd0.out)).mono ?_; rintro e w3 ⟨⟨v3, rfl, hv3⟩, hb3⟩; have hb3' := hd0.out.trans (hb3.mono hd0.out.size); have j3 := hkeep.out w3 hb3'; obtain ⟨a3, c3, rfl, r3, m3, e3, -⟩ := RdS_of_own hv3)
        | (go_at_call 27; refine (hof.out X (m1 + m2) a3 c3 w3 hadd.out r3 m3 e3).mono ?_; rintro e w4 ⟨⟨v4, rfl, hv4⟩, hb4⟩; have hb4' := hb3'.trans (hb4.mono hb3'.size); have j4 := hkeep.out w4 hb4'; have j5 := fun u1 u2 => keep4 (g := w.heap.size + 1 + 1) (u1 := u1) (u2 := u2) j4 (by omega) (by omega); obtain ⟨a4, n4, c4, rfl, k0, k1, f0, f1, hlt4, hfin⟩ := hend.out w4 v4 _ _ hb4' _ hb3'.size hv4; have hfin' := Lib.hid hfin; clear hfin hv4 hv3))
    obtain ⟨N4, hN4⟩ : ∃ N, (X && decide (0 < m1 + m2)) = N := ⟨_, rfl⟩
    rw [hN4] at hfin' ⊢
    have hN4' := Lib.hid hN4
    clear r3 hN4 j2 j3 j4 j5 hb3 hb4 hb3' hb4'
    go_wp2
    exact bodyPost_ret (v := .agg #[.bool N4, .slice a4 n4 c4]) (by simp [results, Try.results101, go_sem, k0, k1]) rfl ⟨⟨_, rfl, by
      have h2 := IsInt.z (neg := X) (m := m1 + m2) (by rw [hN4'.out]; exact hfin'.out.1)
      rw [show sg X (m1 + m2) = Z from by rw [← hZ'.out]; unfold sg; cases X <;> simp <;> omega] at h2
      exact h2⟩, hfin'.out.2⟩
  · have hXY1 : (X == Y) = false := by simp [hXY]
    have hord1 := Lib.hid (hord.out w1 (hbw.out _ (Below.refl _ _)))
    obtain ⟨q, hq⟩ : ∃ q, cmpN m1 m2 = q := ⟨_, rfl⟩
    rw [hq] at hord1
    by_cases hmm : m2 ≤ m1
    · have hq0 : 0 ≤ q := by rw [← hq]; unfold cmpN; rw [if_neg (by omega)]; split <;> omega
      clear hq hord
      go_enter Try.func101, Try.ntmps101
      go_wp2_with fail
      rw [hw1'.out]
      refine hord1.out.mono ?_
      rintro e w2 ⟨rfl, hb2⟩
      have hd0 := Lib.hid (Box.below_drawn hb2 1)
      have j2 := hkeep.out w2 hb2
      have hlt2 := hb2.size
      clear hb2 hord1
      go_wp2_with fail
      go_region_held3 (fun W => W.cell? ⟨w.heap.size, 0, none⟩ = some (.bool X) ∧ W.cell? ⟨w.heap.size, 1, none⟩ = some (.slice a1 n1 c1) ∧ W.cell? ⟨w.heap.size + 1, 0, none⟩ = some (.bool Y) ∧ W.cell? ⟨w.heap.size + 1, 1, none⟩ = some (.slice a2 n2 c2))
        (first | go_keep | exact j2 | exact j3 | exact j4 | exact j5 _ _)
        (first
          | (go_at_call 115; refine (hless1.out w2.drew (hbw.out _ hd0.out) hmm).mono ?_; rintro e w3 ⟨⟨v3, rfl, hv3⟩, hb3⟩; have hb3' := hd0.out.trans (hb3.mono hd0.out.size); have j3 := hkeep.out w3 hb3'; obtain ⟨a3, c3, rfl, r3, m3, e3, -⟩ := RdS_of_own hv3)
          | (go_at_call 27; refine (hof.out X (m1 - m2) a3 c3 w3 hle1.out r3 m3 e3).mono ?_; rintro e w4 ⟨⟨v4, rfl, hv4⟩, hb4⟩; have hb4' := hb3'.trans (hb4.mono hb3'.size); have j4 := hkeep.out w4 hb4'; have j5 := fun u1 u2 => keep4 (g := w.heap.size + 1 + 1) (u1 := u1) (u2 := u2) j4 (by omega) (by omega); obtain ⟨a4, n4, c4, rfl, k0, k1, f0, f1, hlt4, hfin⟩ := hend.out w4 v4 _ _ hb4' _ hb3'.size hv4; have hfin' := Lib.hid hfin; clear hfin hv4 hv3))
      obtain ⟨N4, hN4⟩ : ∃ N, (X && decide (0 < m1 - m2)) = N := ⟨_, rfl⟩
      rw [hN4] at hfin' ⊢
      have hN4' := Lib.hid hN4
      clear r3 hN4 j2 j3 j4 j5 hb3 hb4 hb3' hb4'
      go_wp2
      exact bodyPost_ret (v := .agg #[.bool N4, .slice a4 n4 c4]) (by simp [results, Try.results101, go_sem, k0, k1]) rfl ⟨⟨_, rfl, by
        have h2 := IsInt.z (neg := X) (m := m1 - m2) (by rw [hN4'.out]; exact hfin'.out.1)
        rw [show sg X (m1 - m2) = Z from by rw [← hZ'.out]; exact sg_diff X Y m1 m2 hXY hmm] at h2
        exact h2⟩, hfin'.out.2⟩
    · have hq0 : ¬ (0 ≤ q) := by rw [← hq]; unfold cmpN; rw [if_pos (by omega)]; omega
      clear hq hord
      go_enter Try.func101, Try.ntmps101
      go_wp2_with fail
      rw [hw1'.out]
      refine hord1.out.mono ?_
      rintro e w2 ⟨rfl, hb2⟩
      have hd0 := Lib.hid (Box.below_drawn hb2 1)
      have j2 := hkeep.out w2 hb2
      have hlt2 := hb2.size
      clear hb2 hord1
      go_wp2_with fail
      go_region_held3 (fun W => W.cell? ⟨w.heap.size, 0, none⟩ = some (.bool X) ∧ W.cell? ⟨w.heap.size, 1, none⟩ = some (.slice a1 n1 c1) ∧ W.cell? ⟨w.heap.size + 1, 0, none⟩ = some (.bool Y) ∧ W.cell? ⟨w.heap.size + 1, 1, none⟩ = some (.slice a2 n2 c2))
        (first | go_keep | exact j2 | exact j3 | exact j4 | exact j5 _ _)
        (first
          | (go_at_call 115; refine (hless2.out w2.drew (hbw.out _ hd0.out) (by omega)).mono ?_; rintro e w3 ⟨⟨v3, rfl, hv3⟩, hb3⟩; have hb3' := hd0.out.trans (hb3.mono hd0.out.size); have j3 := hkeep.out w3 hb3'; obtain ⟨a3, c3, rfl, r3, m3, e3, -⟩ := RdS_of_own hv3)
          | (go_at_call 27; refine (hof.out Y (m2 - m1) a3 c3 w3 hle2.out r3 m3 e3).mono ?_; rintro e w4 ⟨⟨v4, rfl, hv4⟩, hb4⟩; have hb4' := hb3'.trans (hb4.mono hb3'.size); have j4 := hkeep.out w4 hb4'; have j5 := fun u1 u2 => keep4 (g := w.heap.size + 1 + 1) (u1 := u1) (u2 := u2) j4 (by omega) (by omega); obtain ⟨a4, n4, c4, rfl, k0, k1, f0, f1, hlt4, hfin⟩ := hend.out w4 v4 _ _ hb4' _ hb3'.size hv4; have hfin' := Lib.hid hfin; clear hfin hv4 hv3))
      obtain ⟨N4, hN4⟩ : ∃ N, (Y && decide (0 < m2 - m1)) = N := ⟨_, rfl⟩
      rw [hN4] at hfin' ⊢
      have hN4' := Lib.hid hN4
      clear r3 hN4 j2 j3 j4 j5 hb3 hb4 hb3' hb4'
      go_wp2
      exact bodyPost_ret (v := .agg #[.bool N4, .slice a4 n4 c4]) (by simp [results, Try.results101, go_sem, k0, k1]) rfl ⟨⟨_, rfl, by
        have h2 := IsInt.z (neg := Y) (m := m2 - m1) (by rw [hN4'.out]; exact hfin'.out.1)
        rw [show sg Y (m2 - m1) = Z from by rw [← hZ'.out, Int.add_comm]; exact sg_diff Y X m2 m1 (Ne.symm hXY) (by omega)] at h2
        exact h2⟩, hfin'.out.2⟩
end Go.Proofs.Ytaappbnbjpbbcaa.Ref
namespace Go.Proofs.Ytaappbnbjpbbcaa.Ref
open Go.RowKit Go.WideShapes Go.Proofs.Ytaappbnbjpbbcaa.Own Go.Proofs.Ytaappbnbjpbbcaa.Num Go.Proofs.Ytaappbnbjpbbcaa.Nat_ Go.Proofs.Ytaappbnbjpbbcaa.Big
set_option linter.unusedVariables false

theorem IsZ.later {w w' : World} {B : Nat} {v : Value} {z : Int} (h : IsZ w B v z) (hb : Below w.heap.size w w') : IsZ w' B v z := IsInt.later h hb
theorem IsZ.mono {w : World} {B B' : Nat} {v : Value} {z : Int} (h : IsZ w B v z) (hB : B' ≤ B) : IsZ w B' v z := IsInt.mono h hB
theorem IsZ.shape {w : World} {B : Nat} {v : Value} {z : Int} (h : IsZ w B v z) : ∃ b a n c, v = .agg #[.bool b, .slice a n c] := by
  obtain ⟨a, c, rfl, -⟩ := IsInt.shape h
  exact ⟨_, _, _, _, rfl⟩
/-- .. stored into the result's own cells -/
theorem subEnd (w W : World) (v : Value) (z : Int) (B g : Nat) (hb : Below w.heap.size w W) (hk : Box.Holds W g 35 #[.bool false, .slice none 0 0]) (hg : w.heap.size ≤ g) (hgB : g < B) (hv : IsZ W B v z) :
    ∃ b a n c, v = .agg #[.bool b, .slice a n c] ∧ W.cell? ⟨g, 0, none⟩ = some (.bool false) ∧ W.cell? ⟨g, 1, none⟩ = some (.slice none 0 0) ∧ W.frozen? ⟨g, 0, none⟩ = false ∧ W.frozen? ⟨g, 1, none⟩ = false ∧ g < W.heap.size ∧
      IsZ ((W.setCell ⟨g, 0, none⟩ (.bool b)).setCell ⟨g, 1, none⟩ (.slice a n c)) w.heap.size (.agg #[.bool b, .slice a n c]) z ∧ Below w.heap.size w ((W.setCell ⟨g, 0, none⟩ (.bool b)).setCell ⟨g, 1, none⟩ (.slice a n c)) := by
  obtain ⟨a, n, c, rfl, h⟩ := addEnd w W v _ _ B g hb hk hg hgB hv
  exact ⟨_, a, n, c, rfl, h⟩

set_option maxHeartbeats 2000000 in
set_option maxRecDepth 100000 in
theorem rsub_any (x y : Value) (z1 z2 : Int) (B1 B2 : Nat) (w : World) (hx : IsZ w B1 x z1) (hy : IsZ w B2 y z2) (hl1 : (mag z1.natAbs).length ≤ 50000) (hl2 : (mag z2.natAbs).length ≤ 50000) :
    Calls Try.prog 83 #[x, y] w fun e w' => (∃ v, e = .returned v ∧ IsZ w' w.heap.size v (z1 - z2)) ∧ Below w.heap.size w w' := by
  have hmin := Lib.hid fun W (hW : Below w.heap.size w W) => minus_any y z2 B2 W (hy.later hW) (by omega)
  have hadd := Lib.hid fun W v B (hW : Below w.heap.size w W) (hv : IsZ W B v (-z2)) => add_any x v z1 (-z2) B1 B W (hx.later hW) hv hl1 (by rw [Int.natAbs_neg]; exact hl2)
  obtain ⟨X, a1, n1, c1, rfl⟩ := hx.shape
  obtain ⟨Y, a2, n2, c2, rfl⟩ := hy.shape
  rw [← Int.sub_eq_add_neg] at hadd
  obtain ⟨Z, hZ⟩ : ∃ Z, z1 - z2 = Z := ⟨_, rfl⟩
  rw [hZ] at hadd ⊢
  obtain ⟨w1, hw1⟩ : ∃ w1, ((w.alloc (.cells #[.bool X, .slice a1 n1 c1] 35)).alloc (.cells #[.bool Y, .slice a2 n2 c2] 35)).alloc (.cells #[.bool false, .slice none 0 0] 35) = w1 := ⟨_, rfl⟩
  have hs1 : w1.heap.size = w.heap.size + 3 := by rw [← hw1]; simp
  have hb1 : Below w.heap.size w w1 := by rw [← hw1]; exact ((below_one _ (Nat.le_refl _)).alloc (by simp) _).alloc (by simp; omega) _
  have hk1 : Box.Holds w1 w.heap.size 35 #[.bool X, .slice a1 n1 c1] := by
    rw [← hw1]; exact ((Box.Holds.made w 35 #[.bool X, .slice a1 n1 c1]).alloc _).alloc _
  have hk2 : Box.Holds w1 (w.heap.size + 1) 35 #[.bool Y, .slice a2 n2 c2] := by
    have := (Box.Holds.made (w.alloc (.cells #[.bool X, .slice a1 n1 c1] 35)) 35 #[.bool Y, .slice a2 n2 c2]).alloc (.cells #[.bool false, .slice none 0 0] 35)
    rw [show (w.alloc (.cells #[.bool X, .slice a1 n1 c1] 35)).heap.size = w.heap.size + 1 by simp, hw1] at this
    exact this
  have hk3 : Box.Holds w1 (w.heap.size + 2) 35 #[.bool false, .slice none 0 0] := by
    have := Box.Holds.made ((w.alloc (.cells #[.bool X, .slice a1 n1 c1] 35)).alloc (.cells #[.bool Y, .slice a2 n2 c2] 35)) 35 #[.bool false, .slice none 0 0]
    rw [show ((w.alloc (.cells #[.bool X, .slice a1 n1 c1] 35)).alloc (.cells #[.bool Y, .slice a2 n2 c2] 35)).heap.size = w.heap.size + 2 by simp, hw1] at this
    exact this
  have hkeep := Lib.hid fun W (hW : Below w1.heap.size w1 W) => cells4 (hk1.later hW) (hk2.later hW)
  have hbw := Lib.hid fun W (hW : Below w1.heap.size w1 W) => hb1.trans (hW.mono hb1.size)
  have hend := Lib.hid fun W v z (hW : Below w1.heap.size w1 W) (B : Nat) (hB : w1.heap.size ≤ B) (hv : IsZ W B v z) => subEnd w W v z B (w.heap.size + 1 + 1) (hb1.trans (hW.mono hb1.size)) (hk3.later hW) (by omega) (by omega) hv
  have hw1' := Lib.hid hw1
  have hd0 := Lib.hid (Box.below_drawn (Below.refl w1.heap.size w1) 1)
  clear hx hy hZ hw1 hb1 hk1 hk2 hk3
  go_enter Try.func83, Try.ntmps83
  go_wp2_with fail
  rw [hw1'.out]
  have j2 := hkeep.out w1 (Below.refl _ _)
  go_region_held3 (fun W => W.cell? ⟨w.heap.size, 0, none⟩ = some (.bool X) ∧ W.cell? ⟨w.heap.size, 1, none⟩ = some (.slice a1 n1 c1) ∧ W.cell? ⟨w.heap.size + 1, 0, none⟩ = some (.bool Y) ∧ W.cell? ⟨w.heap.size + 1, 1, none⟩ = some (.slice a2 n2 c2))
    (first | go_keep | exact j2 | exact j3 | exact j4 | exact j5 _ _)
    (first
      | (go_at_call 82; refine (hmin.out w1.drew (hbw.out _ hd0.out)).mono ?_; rintro e w3 ⟨⟨v3, rfl, hv3⟩, hb3⟩; have hb3' := hd0.out.trans (hb3.mono hd0.out.size); have j3 := hkeep.out w3 hb3')
      | (go_at_call 101; refine (hadd.out w3 v3 _ (hbw.out _ hb3') hv3).mono ?_; rintro e w4 ⟨⟨v4, rfl, hv4⟩, hb4⟩; have hb4' := hb3'.trans (hb4.mono hb3'.size); have j4 := hkeep.out w4 hb4'; have j5 := fun u1 u2 => keep4 (g := w.heap.size + 1 + 1) (u1 := u1) (u2 := u2) j4 (by omega) (by omega); obtain ⟨b4, a4, n4, c4, rfl, k0, k1, f0, f1, hlt4, hfin⟩ := hend.out w4 v4 _ hb4' _ hb3'.size hv4; have hfin' := Lib.hid hfin; clear hfin hv4 hv3))
  clear j2 j3 j4 j5 hb3 hb4 hb3' hb4'
  go_wp2
  exact bodyPost_ret (v := .agg #[.bool b4, .slice a4 n4 c4]) (by simp [results, Try.results83, go_sem, k0, k1]) rfl ⟨⟨_, rfl, hfin'.out.1⟩, hfin'.out.2⟩

set_option maxHeartbeats 2000000 in
set_option maxRecDepth 100000 in
theorem not_any (x : Value) (z : Int) (B : Nat) (w : World) (hx : IsZ w B x z) (hl : (mag z.natAbs).length ≤ 50000) :
    Calls Try.prog 60 #[x] w fun e w' => (∃ v, e = .returned v ∧ IsZ w' w.heap.size v (-z - 1)) ∧ Below w.heap.size w w' := by
  have hmin := Lib.hid fun W (hW : Below w.heap.size w W) => minus_any x z B W (hx.later hW) (by omega)
  have hsm := Lib.hid fun W => small_any 1 (by omega) (by omega) W
  have hsub := Lib.hid fun W v1 v2 B1 B2 (h1 : IsZ W B1 v1 (-z)) (h2 : IsZ W B2 v2 1) => rsub_any v1 v2 (-z) 1 B1 B2 W h1 h2 (by rw [Int.natAbs_neg]; exact hl) (by decide)
  obtain ⟨X, a1, n1, c1, rfl⟩ := hx.shape
  obtain ⟨Z, hZ⟩ : ∃ Z, -z - 1 = Z := ⟨_, rfl⟩
  rw [hZ] at hsub ⊢
  obtain ⟨w1, hw1⟩ : ∃ w1, (w.alloc (.cells #[.bool X, .slice a1 n1 c1] 35)).alloc (.cells #[.bool false, .slice none 0 0] 35) = w1 := ⟨_, rfl⟩
  have hs1 : w1.heap.size = w.heap.size + 2 := by rw [← hw1]; simp
  have hb1 : Below w.heap.size w w1 := by rw [← hw1]; exact (below_one _ (Nat.le_refl _)).alloc (by simp) _
  have hk3 : Box.Holds w1 (w.heap.size + 1) 35 #[.bool false, .slice none 0 0] := by
    have := Box.Holds.made (w.alloc (.cells #[.bool X, .slice a1 n1 c1] 35)) 35 #[.bool false, .slice none 0 0]
    rw [show (w.alloc (.cells #[.bool X, .slice a1 n1 c1] 35)).heap.size = w.heap.size + 1 by simp, hw1] at this
    exact this
  have hend := Lib.hid fun W v z (hW : Below w1.heap.size w1 W) (B : Nat) (hB : w1.heap.size ≤ B) (hv : IsZ W B v z) => subEnd w W v z B (w.heap.size + 1) (hb1.trans (hW.mono hb1.size)) (hk3.later hW) (by omega) (by omega) hv
  have hmin1 := Lib.hid (hmin.out w1 hb1)
  have hw1' := Lib.hid hw1
  clear hx hZ hw1 hb1 hk3 hmin
  go_enter Try.func60, Try.ntmps60
  go_wp2_with fail
  rw [hw1'.out]
  refine hmin1.out.mono ?_
  rintro e w2 ⟨⟨v2, rfl, hv2⟩, hb2⟩
  go_wp2_with fail
  refine (hsm.out _).mono ?_
  rintro e w3 ⟨⟨v3, rfl, hv3⟩, hb3⟩
  have hv3' : IsZ w3 w2.heap.size v3 1 := hv3
  have hsub3 := Lib.hid (hsub.out w3 v2 v3 _ _ (hv2.later hb3) hv3')
  have hb3' := Lib.hid (hb2.trans (hb3.mono hb2.size))
  clear hv2 hv3 hb3 hv3' hsub hb2
  go_wp2_with fail
  refine hsub3.out.mono ?_
  rintro e w4 ⟨⟨v4, rfl, hv4⟩, hb4⟩
  obtain ⟨b4, a4, n4, c4, rfl, k0, k1, f0, f1, hlt4, hfin⟩ := hend.out w4 v4 _ (hb3'.out.trans (hb4.mono hb3'.out.size)) _ hb3'.out.size hv4
  have hfin' := Lib.hid hfin
  clear hfin hv4 hb4
  go_wp2
  exact bodyPost_ret (v := .agg #[.bool b4, .slice a4 n4 c4]) (by simp [results, Try.results60, go_sem, k0, k1]) rfl ⟨⟨_, rfl, hfin'.out.1⟩, hfin'.out.2⟩
end Go.Proofs.Ytaappbnbjpbbcaa.Ref
