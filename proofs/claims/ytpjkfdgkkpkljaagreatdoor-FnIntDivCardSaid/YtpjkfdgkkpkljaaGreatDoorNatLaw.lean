/-
  Natural numbers by their digits in a base: how many there are, which they are, how two compare; and the numbers that rows of bytes stand for. Plain.
-/
import Derived.WalkKit
namespace Go.Proofs.YtpjkfdgkkpkljaaGreatDoor.Num
set_option linter.unusedVariables false

def lenF (b : Nat) : Nat → Nat → Nat
  | 0, _ => 0
  | f + 1, v => if v = 0 then 0 else lenF b f (v / b) + 1
/-- how many digits a number has in a base -/
def len (b v : Nat) : Nat := lenF b v v
theorem lenF_bounds (b : Nat) (hb : 2 ≤ b) : ∀ f v, v ≤ f → v < b ^ lenF b f v ∧ (0 < v → 0 < lenF b f v ∧ b ^ (lenF b f v - 1) ≤ v) := by
  intro f
  induction f with
  | zero =>
    intro v h
    have h0 : v = 0 := by omega
    subst h0
    exact ⟨by simp [lenF], fun h => absurd h (by omega)⟩
  | succ f ih =>
    intro v h
    unfold lenF
    by_cases hv : v = 0
    · simp [hv]
    · rw [if_neg hv]
      have hlt : v / b < v := Nat.div_lt_self (by omega) hb
      obtain ⟨h1, h2⟩ := ih (v / b) (by omega)
      refine ⟨?_, fun _ => ⟨by omega, ?_⟩⟩
      · rw [Nat.pow_succ]
        exact (Nat.div_lt_iff_lt_mul (by omega)).1 h1
      · rw [Nat.add_sub_cancel]
        by_cases hz : v / b = 0
        · have : lenF b f (v / b) = 0 := by
            rw [hz]; cases f <;> simp [lenF]
          rw [this]; simp; omega
        · obtain ⟨h3, h4⟩ := h2 (Nat.pos_of_ne_zero hz)
          have : lenF b f (v / b) = (lenF b f (v / b) - 1) + 1 := by omega
          rw [this, Nat.pow_succ]
          exact (Nat.le_div_iff_mul_le (by omega)).1 h4
theorem len_lt {b : Nat} (hb : 2 ≤ b) (v : Nat) : v < b ^ len b v := (lenF_bounds b hb v v (Nat.le_refl _)).1
theorem len_ge {b : Nat} (hb : 2 ≤ b) {v : Nat} (hv : 0 < v) : 0 < len b v ∧ b ^ (len b v - 1) ≤ v := (lenF_bounds b hb v v (Nat.le_refl _)).2 hv
theorem len_zero (b : Nat) : len b 0 = 0 := rfl
theorem len_pos {b : Nat} (hb : 2 ≤ b) {v : Nat} : 0 < len b v ↔ 0 < v := by
  constructor
  · intro h
    rcases Nat.eq_zero_or_pos v with rfl | h'
    · rw [len_zero] at h; omega
    · exact h'
  · intro h; exact (len_ge hb h).1
theorem len_le {b : Nat} (hb : 2 ≤ b) {v n : Nat} (h : v < b ^ n) : len b v ≤ n := by
  rcases Nat.eq_zero_or_pos v with rfl | hv
  · rw [len_zero]; omega
  · have h2 := (len_ge hb hv).2
    have h3 := (len_ge hb hv).1
    rcases Nat.lt_or_ge n (len b v) with hlt | hge
    · have : b ^ n ≤ b ^ (len b v - 1) := Nat.pow_le_pow_right (by omega) (by omega)
      omega
    · exact hge
theorem le_len {b : Nat} (hb : 2 ≤ b) {v n : Nat} (h : b ^ n ≤ v) : n < len b v := by
  rcases Nat.lt_or_ge n (len b v) with hlt | hge
  · exact hlt
  · have h1 := len_lt hb v
    have : b ^ len b v ≤ b ^ n := Nat.pow_le_pow_right (by omega) hge
    omega
theorem len_eq {b : Nat} (hb : 2 ≤ b) {v n : Nat} (h1 : v < b ^ n) (h2 : 0 < n → b ^ (n - 1) ≤ v) : len b v = n := by
  have a := len_le hb h1
  rcases Nat.eq_zero_or_pos n with rfl | hn
  · omega
  · have := le_len hb (h2 hn)
    omega
theorem len_mono {b : Nat} (hb : 2 ≤ b) {u v : Nat} (h : u ≤ v) : len b u ≤ len b v := len_le hb (Nat.lt_of_le_of_lt h (len_lt hb v))
theorem lt_of_len {b : Nat} (hb : 2 ≤ b) {u v : Nat} (h : len b u < len b v) : u < v := by
  rcases Nat.lt_or_ge u v with hlt | hge
  · exact hlt
  · have := len_mono hb hge
    omega

/-- the digits of a number, the lowest one first -/
def dig (b v m : Nat) : List Nat := (List.range m).map fun j => v / b ^ j % b
theorem dig_length (b v m : Nat) : (dig b v m).length = m := by simp [dig]
theorem dig_get (b v m j : Nat) (h : j < m) : (dig b v m)[j]? = some (v / b ^ j % b) := by simp [dig, h]
theorem dig_take (b v m k : Nat) (h : k ≤ m) : (dig b v m).take k = dig b v k := by
  apply List.ext_getElem?
  intro j
  rw [List.getElem?_take]
  by_cases hj : j < k
  · rw [if_pos hj, dig_get _ _ _ _ (by omega), dig_get _ _ _ _ hj]
  · rw [if_neg hj, List.getElem?_eq_none (by rw [dig_length]; omega)]
theorem dig_lt {b : Nat} (hb : 0 < b) (v m : Nat) : ∀ d ∈ dig b v m, d < b := by
  intro d hd
  simp [dig] at hd
  obtain ⟨j, _, rfl⟩ := hd
  exact Nat.mod_lt _ hb
/-- one digit more of the quotient -/
theorem div_step (b v j : Nat) : v / b ^ j = b * (v / b ^ (j + 1)) + v / b ^ j % b := by
  rw [Nat.pow_succ, ← Nat.div_div_eq_div_mul]
  exact (Nat.div_add_mod _ _).symm
theorem top_zero {b v j : Nat} (hb : 0 < b) (h : v < b ^ (j + 1)) (hd : v / b ^ j % b = 0) : v < b ^ j := by
  have h1 := div_step b v j
  rw [Nat.div_eq_of_lt h, hd] at h1
  rcases Nat.lt_or_ge v (b ^ j) with h2 | h2
  · exact h2
  · have := (Nat.le_div_iff_mul_le (k := b ^ j) (Nat.pow_pos hb) (x := 1) (y := v)).2 (by omega)
    omega
theorem top_some {b v j : Nat} (hb : 0 < b) (hd : v / b ^ j % b ≠ 0) : b ^ j ≤ v := by
  rcases Nat.lt_or_ge v (b ^ j) with h2 | h2
  · rw [Nat.div_eq_of_lt h2] at hd; simp at hd
  · exact h2
theorem top_ne {b : Nat} (hb : 2 ≤ b) {v : Nat} (hv : 0 < v) : v / b ^ (len b v - 1) % b ≠ 0 := by
  intro h
  have h1 := len_lt hb v
  have h2 := len_ge hb hv
  have : v < b ^ (len b v - 1) := top_zero (by omega) (by rw [show len b v - 1 + 1 = len b v by omega]; exact h1) h
  omega
/-- where the higher digits agree, the digit decides -/
theorem lt_of_digit {b u v j : Nat} (hb : 0 < b) (h : u / b ^ (j + 1) = v / b ^ (j + 1)) (hd : u / b ^ j % b < v / b ^ j % b) : u < v := by
  have h1 := div_step b u j
  have h2 := div_step b v j
  rw [h] at h1
  rcases Nat.lt_or_ge u v with h3 | h3
  · exact h3
  · have := Nat.div_le_div_right (c := b ^ j) h3
    omega
theorem div_of_digit {b u v j : Nat} (h : u / b ^ (j + 1) = v / b ^ (j + 1)) (hd : u / b ^ j % b = v / b ^ j % b) : u / b ^ j = v / b ^ j := by
  rw [div_step b u j, div_step b v j, h, hd]
theorem div_top {b v n : Nat} (h : v < b ^ n) : v / b ^ n = 0 := Nat.div_eq_of_lt h

/-- the number of a row of bytes, the highest one first -/
def be (l : List UInt8) : Nat := l.foldl (fun a c => 256 * a + c.toNat) 0
theorem be_from (l : List UInt8) : ∀ a, l.foldl (fun a c => 256 * a + c.toNat) a = a * 256 ^ l.length + be l := by
  induction l with
  | nil => intro a; simp [be]
  | cons c l ih =>
    intro a
    have h1 := ih (256 * a + c.toNat)
    have h2 := ih (256 * 0 + c.toNat)
    simp only [be, List.foldl_cons, List.length_cons] at h1 h2 ⊢
    rw [h1, h2, Nat.pow_succ, Nat.add_mul, Nat.mul_zero, Nat.zero_add, Nat.mul_comm 256 a, Nat.mul_assoc a 256, Nat.mul_comm 256, Nat.add_assoc]
theorem be_nil : be [] = 0 := rfl
theorem be_append (l r : List UInt8) : be (l ++ r) = be l * 256 ^ r.length + be r := by
  unfold be
  rw [List.foldl_append]
  exact be_from r _
theorem be_cons (c : UInt8) (l : List UInt8) : be (c :: l) = c.toNat * 256 ^ l.length + be l := by
  have := be_append [c] l
  simpa [be] using this
theorem be_snoc (l : List UInt8) (c : UInt8) : be (l ++ [c]) = 256 * be l + c.toNat := by
  rw [be_append]; simp [be]; omega
theorem be_lt (l : List UInt8) : be l < 256 ^ l.length := by
  induction l with
  | nil => simp [be]
  | cons c l ih =>
    rw [be_cons, List.length_cons, Nat.pow_succ]
    have hc := UInt8.toNat_lt c
    calc c.toNat * 256 ^ l.length + be l < c.toNat * 256 ^ l.length + 256 ^ l.length := by omega
      _ = (c.toNat + 1) * 256 ^ l.length := by rw [Nat.add_mul, Nat.one_mul]
      _ ≤ 256 * 256 ^ l.length := Nat.mul_le_mul_right _ (by omega)
      _ = 256 ^ l.length * 256 := Nat.mul_comm _ _
theorem be_div (l r : List UInt8) : be (l ++ r) / 256 ^ r.length = be l := by
  rw [be_append, Nat.mul_comm, Nat.mul_add_div (Nat.pow_pos (by omega)), Nat.div_eq_of_lt (be_lt r), Nat.add_zero]
theorem be_mod (l r : List UInt8) : be (l ++ r) % 256 ^ r.length = be r := by
  rw [be_append, Nat.mul_comm, Nat.mul_add_mod, Nat.mod_eq_of_lt (be_lt r)]
/-- the number of a part of the row -/
theorem be_part (l : List UInt8) (k m : Nat) (h : k + m ≤ l.length) : be l / 256 ^ k % 256 ^ m = be ((l.drop (l.length - k - m)).take m) := by
  have e : l = (l.take (l.length - k - m) ++ (l.drop (l.length - k - m)).take m) ++ l.drop (l.length - k) := by
    rw [List.append_assoc]
    have : (l.drop (l.length - k - m)).take m ++ l.drop (l.length - k) = l.drop (l.length - k - m) := by
      have h2 : l.drop (l.length - k) = (l.drop (l.length - k - m)).drop m := by rw [List.drop_drop]; congr 1; omega
      rw [h2, List.take_append_drop]
    rw [this, List.take_append_drop]
  have hk : (l.drop (l.length - k)).length = k := by simp; omega
  have hm : ((l.drop (l.length - k - m)).take m).length = m := by simp; omega
  have h1 : be l / 256 ^ k = be (l.take (l.length - k - m) ++ (l.drop (l.length - k - m)).take m) := by
    have := be_div (l.take (l.length - k - m) ++ (l.drop (l.length - k - m)).take m) (l.drop (l.length - k))
    rw [hk, ← e] at this
    exact this
  rw [h1]
  have := be_mod (l.take (l.length - k - m)) ((l.drop (l.length - k - m)).take m)
  rw [hm] at this
  exact this
theorem be_front (l : List UInt8) (k : Nat) (h : k ≤ l.length) : be l / 256 ^ k = be (l.take (l.length - k)) := by
  have e := List.take_append_drop (l.length - k) l
  have hk : (l.drop (l.length - k)).length = k := by simp; omega
  have := be_div (l.take (l.length - k)) (l.drop (l.length - k))
  rw [hk, e] at this
  exact this
theorem be_digit (l : List UInt8) (j : Nat) (h : j < l.length) : be l / 256 ^ j % 256 = (l[l.length - 1 - j]'(by omega)).toNat := by
  have := be_part l j 1 (by omega)
  rw [Nat.pow_one] at this
  rw [this, show l.length - j - 1 = l.length - 1 - j by omega, List.drop_eq_getElem_cons (by omega), List.take_succ_cons, List.take_zero]
  simp [be]

/-- the bytes of a number, the highest one first, none of them a leading 0 -/
def mag (v : Nat) : List UInt8 := ((dig 256 v (len 256 v)).map UInt8.ofNat).reverse
theorem mag_length (v : Nat) : (mag v).length = len 256 v := by simp [mag, dig_length]
theorem mag_zero : mag 0 = [] := rfl
theorem mag_get (v j : Nat) (h : j < len 256 v) : (mag v)[j]? = some (UInt8.ofNat (v / 256 ^ (len 256 v - 1 - j) % 256)) := by
  unfold mag
  rw [List.getElem?_reverse (by simp [dig_length]; omega), List.getElem?_map, List.length_map, dig_length, dig_get _ _ _ _ (by omega)]
  rfl
/-- a row without a leading 0 is that of its number -/
theorem mag_of (l : List UInt8) (h : ∀ c, l[0]? = some c → c ≠ 0) : mag (be l) = l := by
  have hl : len 256 (be l) = l.length := by
    refine len_eq (by omega) (be_lt l) fun hn => ?_
    have hd := be_digit l (l.length - 1) (by omega)
    refine top_some (by omega) ?_
    rw [hd]
    have h0 := h (l[0]) (List.getElem?_eq_getElem hn)
    intro hz
    apply h0
    have e : l.length - 1 - (l.length - 1) = 0 := by omega
    simp only [e] at hz
    exact UInt8.toNat_inj.1 hz
  apply List.ext_getElem?
  intro j
  by_cases hj : j < l.length
  · rw [mag_get _ _ (by omega), hl, be_digit l _ (by omega), List.getElem?_eq_getElem hj]
    have e : l.length - 1 - (l.length - 1 - j) = j := by omega
    simp only [e, UInt8.ofNat_toNat]
  · rw [List.getElem?_eq_none (by rw [mag_length]; omega), List.getElem?_eq_none (by omega)]
theorem be_mag (v : Nat) : be (mag v) = v := by
  have key : ∀ m, v < 256 ^ m → be (((dig 256 v m).map UInt8.ofNat).reverse) = v := by
    intro m hm
    have : ∀ k, k ≤ m → be (((dig 256 v m).map UInt8.ofNat).reverse.take k) = v / 256 ^ (m - k) := by
      intro k
      induction k with
      | zero => intro _; simp [be, Nat.div_eq_of_lt hm]
      | succ k ih =>
        intro hk
        have hkl : k < ((dig 256 v m).map UInt8.ofNat).reverse.length := by simp [dig_length]; omega
        rw [List.take_succ_eq_append_getElem hkl, be_snoc, ih (by omega)]
        have hg : (((dig 256 v m).map UInt8.ofNat).reverse[k]'hkl).toNat = v / 256 ^ (m - 1 - k) % 256 := by
          have h2 : ((dig 256 v m).map UInt8.ofNat).reverse[k]? = some (UInt8.ofNat (v / 256 ^ (m - 1 - k) % 256)) := by
            rw [List.getElem?_reverse (by simp [dig_length]; omega), List.getElem?_map, List.length_map, dig_length, dig_get _ _ _ _ (by omega)]
            rfl
          rw [List.getElem?_eq_getElem hkl] at h2
          rw [Option.some.inj h2]
          simp
        rw [hg]
        have := div_step 256 v (m - 1 - k)
        rw [show m - 1 - k + 1 = m - k by omega] at this
        rw [show m - (k + 1) = m - 1 - k by omega]
        omega
    have h := this m (Nat.le_refl _)
    rw [List.take_of_length_le (by simp [dig_length]), Nat.sub_self, Nat.pow_zero, Nat.div_one] at h
    exact h
  exact key _ (len_lt (by omega) v)
theorem mag_inj {u v : Nat} (h : mag u = mag v) : u = v := by rw [← be_mag u, ← be_mag v, h]
/-- leading zeros do not count -/
theorem be_zeros (l : List UInt8) (k : Nat) (h : ∀ j c, j < k → l[j]? = some c → c = 0) : be (l.drop k) = be l := by
  induction k generalizing l with
  | zero => simp
  | succ k ih =>
    cases l with
    | nil => simp
    | cons c l =>
      have hc := h 0 c (by omega) rfl
      rw [List.drop_succ_cons, ih l (fun j d hj hd => h (j + 1) d (by omega) (by simpa using hd)), be_cons, hc]
      simp
end Go.Proofs.YtpjkfdgkkpkljaaGreatDoor.Num
