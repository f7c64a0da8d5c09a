/-
  Natural numbers by their digits in a base: how many there are, which they are, how two compare; and the numbers that rows of bytes stand for. Plain. Integers by their sign and their bytes: how two compare, and which of them have room in 64 bits. Plain. Naturals as rows of 64-bit words: the words of a row of bytes, how many bits there are, the lowest word; the two sums with carries. Plain. Naturals as rows of 64-bit words: a row that is being filled, a top word that is being read, how many bits a number has by its top word. Plain.
-/
import Derived.WalkKit
import Derived.Lib.BitFns
namespace Go.Proofs.YtafbheamnjmfoaaGreat.Num
set_option linter.unusedVariables false

def lenF (b : Nat) : Nat → Nat → Nat
  | 0, _ => 0
  | f + 1, v => if v = 0 then 0 else lenF b f (v / b) + 1
/-- how many digits a number has in a base -/
def len (b v : Nat) : Nat := lenF b v v
theorem lenF_bounds (b : Nat) (hb : 2 ≤ b) : ∀ f v, v ≤ f → v < b ^ lenF b f v ∧ (0 < v → 0 < lenF b f v ∧ b ^ (lenF b f v - 1) ≤ v) := by
  intro f
  induction f with
  | zero =>
    intro v h
    have h0 : v = 0 := by omega
    subst h0
    exact ⟨by simp [lenF], fun h => absurd h (by omega)⟩
  | succ f ih =>
    intro v h
    unfold lenF
    by_cases hv : v = 0
    · simp [hv]
    · rw [if_neg hv]
      have hlt : v / b < v := Nat.div_lt_self (by omega) hb
      obtain ⟨h1, h2⟩ := ih (v / b) (by omega)
      refine ⟨?_, fun _ => ⟨by omega, ?_⟩⟩
      · rw [Nat.pow_succ]
        exact (Nat.div_lt_iff_lt_mul (by omega)).1 h1
      · rw [Nat.add_sub_cancel]
        by_cases hz : v / b = 0
        · have : lenF b f (v / b) = 0 := by
            rw [hz]; cases f <;> simp [lenF]
          rw [this]; simp; omega
        · obtain ⟨h3, h4⟩ := h2 (Nat.pos_of_ne_zero hz)
          have : lenF b f (v / b) = (lenF b f (v / b) - 1) + 1 := by omega
          rw [this, Nat.pow_succ]
          exact (Nat.le_div_iff_mul_le (by omega)).1 h4
theorem len_lt {b : Nat} (hb : 2 ≤ b) (v : Nat) : v < b ^ len b v := (lenF_bounds b hb v v (Nat.le_refl _)).1
theorem len_ge {b : Nat} (hb : 2 ≤ b) {v : Nat} (hv : 0 < v) : 0 < len b v ∧ b ^ (len b v - 1) ≤ v := (lenF_bounds b hb v v (Nat.le_refl _)).2 hv
theorem len_zero (b : Nat) : len b 0 = 0 := rfl
theorem len_pos {b : Nat} (hb : 2 ≤ b) {v : Nat} : 0 < len b v ↔ 0 < v := by
  constructor
  · intro h
    rcases Nat.eq_zero_or_pos v with rfl | h'
    · rw [len_zero] at h; omega
    · exact h'
  · intro h; exact (len_ge hb h).1
theorem len_le {b : Nat} (hb : 2 ≤ b) {v n : Nat} (h : v < b ^ n) : len b v ≤ n := by
  rcases Nat.eq_zero_or_pos v with rfl | hv
  · rw [len_zero]; omega
  · have h2 := (len_ge hb hv).2
    have h3 := (len_ge hb hv).1
    rcases Nat.lt_or_ge n (len b v) with hlt | hge
    · have : b ^ n ≤ b ^ (len b v - 1) := Nat.pow_le_pow_right (by omega) (by omega)
      omega
    · exact hge
theorem le_len {b : Nat} (hb : 2 ≤ b) {v n : Nat} (h : b ^ n ≤ v) : n < len b v := by
  rcases Nat.lt_or_ge n (len b v) with hlt | hge
  · exact hlt
  · have h1 := len_lt hb v
    have : b ^ len b v ≤ b ^ n := Nat.pow_le_pow_right (by omega) hge
    omega
theorem len_eq {b : Nat} (hb : 2 ≤ b) {v n : Nat} (h1 : v < b ^ n) (h2 : 0 < n → b ^ (n - 1) ≤ v) : len b v = n := by
  have a := len_le hb h1
  rcases Nat.eq_zero_or_pos n with rfl | hn
  · omega
  · have := le_len hb (h2 hn)
    omega
theorem len_mono {b : Nat} (hb : 2 ≤ b) {u v : Nat} (h : u ≤ v) : len b u ≤ len b v := len_le hb (Nat.lt_of_le_of_lt h (len_lt hb v))
theorem lt_of_len {b : Nat} (hb : 2 ≤ b) {u v : Nat} (h : len b u < len b v) : u < v := by
  rcases Nat.lt_or_ge u v with hlt | hge
  · exact hlt
  · have := len_mono hb hge
    omega

/-- the digits of a number, the lowest one first -/
def dig (b v m : Nat) : List Nat := (List.range m).map fun j => v / b ^ j % b
theorem dig_length (b v m : Nat) : (dig b v m).length = m := by simp [dig]
theorem dig_get (b v m j : Nat) (h : j < m) : (dig b v m)[j]? = some (v / b ^ j % b) := by simp [dig, h]
theorem dig_take (b v m k : Nat) (h : k ≤ m) : (dig b v m).take k = dig b v k := by
  apply List.ext_getElem?
  intro j
  rw [List.getElem?_take]
  by_cases hj : j < k
  · rw [if_pos hj, dig_get _ _ _ _ (by omega), dig_get _ _ _ _ hj]
  · rw [if_neg hj, List.getElem?_eq_none (by rw [dig_length]; omega)]
theorem dig_lt {b : Nat} (hb : 0 < b) (v m : Nat) : ∀ d ∈ dig b v m, d < b := by
  intro d hd
  simp [dig] at hd
  obtain ⟨j, _, rfl⟩ := hd
  exact Nat.mod_lt _ hb
/-- one digit more of the quotient -/
theorem div_step (b v j : Nat) : v / b ^ j = b * (v / b ^ (j + 1)) + v / b ^ j % b := by
  rw [Nat.pow_succ, ← Nat.div_div_eq_div_mul]
  exact (Nat.div_add_mod _ _).symm
theorem top_zero {b v j : Nat} (hb : 0 < b) (h : v < b ^ (j + 1)) (hd : v / b ^ j % b = 0) : v < b ^ j := by
  have h1 := div_step b v j
  rw [Nat.div_eq_of_lt h, hd] at h1
  rcases Nat.lt_or_ge v (b ^ j) with h2 | h2
  · exact h2
  · have := (Nat.le_div_iff_mul_le (k := b ^ j) (Nat.pow_pos hb) (x := 1) (y := v)).2 (by omega)
    omega
theorem top_some {b v j : Nat} (hb : 0 < b) (hd : v / b ^ j % b ≠ 0) : b ^ j ≤ v := by
  rcases Nat.lt_or_ge v (b ^ j) with h2 | h2
  · rw [Nat.div_eq_of_lt h2] at hd; simp at hd
  · exact h2
theorem top_ne {b : Nat} (hb : 2 ≤ b) {v : Nat} (hv : 0 < v) : v / b ^ (len b v - 1) % b ≠ 0 := by
  intro h
  have h1 := len_lt hb v
  have h2 := len_ge hb hv
  have : v < b ^ (len b v - 1) := top_zero (by omega) (by rw [show len b v - 1 + 1 = len b v by omega]; exact h1) h
  omega
/-- where the higher digits agree, the digit decides -/
theorem lt_of_digit {b u v j : Nat} (hb : 0 < b) (h : u / b ^ (j + 1) = v / b ^ (j + 1)) (hd : u / b ^ j % b < v / b ^ j % b) : u < v := by
  have h1 := div_step b u j
  have h2 := div_step b v j
  rw [h] at h1
  rcases Nat.lt_or_ge u v with h3 | h3
  · exact h3
  · have := Nat.div_le_div_right (c := b ^ j) h3
    omega
theorem div_of_digit {b u v j : Nat} (h : u / b ^ (j + 1) = v / b ^ (j + 1)) (hd : u / b ^ j % b = v / b ^ j % b) : u / b ^ j = v / b ^ j := by
  rw [div_step b u j, div_step b v j, h, hd]
theorem div_top {b v n : Nat} (h : v < b ^ n) : v / b ^ n = 0 := Nat.div_eq_of_lt h

/-- the number of a row of bytes, the highest one first -/
def be (l : List UInt8) : Nat := l.foldl (fun a c => 256 * a + c.toNat) 0
theorem be_from (l : List UInt8) : ∀ a, l.foldl (fun a c => 256 * a + c.toNat) a = a * 256 ^ l.length + be l := by
  induction l with
  | nil => intro a; simp [be]
  | cons c l ih =>
    intro a
    have h1 := ih (256 * a + c.toNat)
    have h2 := ih (256 * 0 + c.toNat)
    simp only [be, List.foldl_cons, List.length_cons] at h1 h2 ⊢
    rw [h1, h2, Nat.pow_succ, Nat.add_mul, Nat.mul_zero, Nat.zero_add, Nat.mul_comm 256 a, Nat.mul_assoc a 256, Nat.mul_comm 256, Nat.add_assoc]
theorem be_nil : be [] = 0 := rfl
theorem be_append (l r : List UInt8) : be (l ++ r) = be l * 256 ^ r.length + be r := by
  unfold be
  rw [List.foldl_append]
  exact be_from r _
theorem be_cons (c : UInt8) (l : List UInt8) : be (c :: l) = c.toNat * 256 ^ l.length + be l := by
  have := be_append [c] l
  simpa [be] using this
theorem be_snoc (l : List UInt8) (c : UInt8) : be (l ++ [c]) = 256 * be l + c.toNat := by
  rw [be_append]; simp [be]; omega
theorem be_lt (l : List UInt8) : be l < 256 ^ l.length := by
  induction l with
  | nil => simp [be]
  | cons c l ih =>
    rw [be_cons, List.length_cons, Nat.pow_succ]
    have hc := UInt8.toNat_lt c
    calc c.toNat * 256 ^ l.length + be l < c.toNat * 256 ^ l.length + 256 ^ l.length := by omega
      _ = (c.toNat + 1) * 256 ^ l.length := by rw [Nat.add_mul, Nat.one_mul]
      _ ≤ 256 * 256 ^ l.length := Nat.mul_le_mul_right _ (by omega)
      _ = 256 ^ l.length * 256 := Nat.mul_comm _ _
theorem be_div (l r : List UInt8) : be (l ++ r) / 256 ^ r.length = be l := by
  rw [be_append, Nat.mul_comm, Nat.mul_add_div (Nat.pow_pos (by omega)), Nat.div_eq_of_lt (be_lt r), Nat.add_zero]
theorem be_mod (l r : List UInt8) : be (l ++ r) % 256 ^ r.length = be r := by
  rw [be_append, Nat.mul_comm, Nat.mul_add_mod, Nat.mod_eq_of_lt (be_lt r)]
/-- the number of a part of the row -/
theorem be_part (l : List UInt8) (k m : Nat) (h : k + m ≤ l.length) : be l / 256 ^ k % 256 ^ m = be ((l.drop (l.length - k - m)).take m) := by
  have e : l = (l.take (l.length - k - m) ++ (l.drop (l.length - k - m)).take m) ++ l.drop (l.length - k) := by
    rw [List.append_assoc]
    have : (l.drop (l.length - k - m)).take m ++ l.drop (l.length - k) = l.drop (l.length - k - m) := by
      have h2 : l.drop (l.length - k) = (l.drop (l.length - k - m)).drop m := by rw [List.drop_drop]; congr 1; omega
      rw [h2, List.take_append_drop]
    rw [this, List.take_append_drop]
  have hk : (l.drop (l.length - k)).length = k := by simp; omega
  have hm : ((l.drop (l.length - k - m)).take m).length = m := by simp; omega
  have h1 : be l / 256 ^ k = be (l.take (l.length - k - m) ++ (l.drop (l.length - k - m)).take m) := by
    have := be_div (l.take (l.length - k - m) ++ (l.drop (l.length - k - m)).take m) (l.drop (l.length - k))
    rw [hk, ← e] at this
    exact this
  rw [h1]
  have := be_mod (l.take (l.length - k - m)) ((l.drop (l.length - k - m)).take m)
  rw [hm] at this
  exact this
theorem be_front (l : List UInt8) (k : Nat) (h : k ≤ l.length) : be l / 256 ^ k = be (l.take (l.length - k)) := by
  have e := List.take_append_drop (l.length - k) l
  have hk : (l.drop (l.length - k)).length = k := by simp; omega
  have := be_div (l.take (l.length - k)) (l.drop (l.length - k))
  rw [hk, e] at this
  exact this
theorem be_digit (l : List UInt8) (j : Nat) (h : j < l.length) : be l / 256 ^ j % 256 = (l[l.length - 1 - j]'(by omega)).toNat := by
  have := be_part l j 1 (by omega)
  rw [Nat.pow_one] at this
  rw [this, show l.length - j - 1 = l.length - 1 - j by omega, List.drop_eq_getElem_cons (by omega), List.take_succ_cons, List.take_zero]
  simp [be]

/-- the bytes of a number, the highest one first, none of them a leading 0 -/
def mag (v : Nat) : List UInt8 := ((dig 256 v (len 256 v)).map UInt8.ofNat).reverse
theorem mag_length (v : Nat) : (mag v).length = len 256 v := by simp [mag, dig_length]
theorem mag_zero : mag 0 = [] := rfl
theorem mag_get (v j : Nat) (h : j < len 256 v) : (mag v)[j]? = some (UInt8.ofNat (v / 256 ^ (len 256 v - 1 - j) % 256)) := by
  unfold mag
  rw [List.getElem?_reverse (by simp [dig_length]; omega), List.getElem?_map, List.length_map, dig_length, dig_get _ _ _ _ (by omega)]
  rfl
/-- a row without a leading 0 is that of its number -/
theorem mag_of (l : List UInt8) (h : ∀ c, l[0]? = some c → c ≠ 0) : mag (be l) = l := by
  have hl : len 256 (be l) = l.length := by
    refine len_eq (by omega) (be_lt l) fun hn => ?_
    have hd := be_digit l (l.length - 1) (by omega)
    refine top_some (by omega) ?_
    rw [hd]
    have h0 := h (l[0]) (List.getElem?_eq_getElem hn)
    intro hz
    apply h0
    have e : l.length - 1 - (l.length - 1) = 0 := by omega
    simp only [e] at hz
    exact UInt8.toNat_inj.1 hz
  apply List.ext_getElem?
  intro j
  by_cases hj : j < l.length
  · rw [mag_get _ _ (by omega), hl, be_digit l _ (by omega), List.getElem?_eq_getElem hj]
    have e : l.length - 1 - (l.length - 1 - j) = j := by omega
    simp only [e, UInt8.ofNat_toNat]
  · rw [List.getElem?_eq_none (by rw [mag_length]; omega), List.getElem?_eq_none (by omega)]
theorem be_mag (v : Nat) : be (mag v) = v := by
  have key : ∀ m, v < 256 ^ m → be (((dig 256 v m).map UInt8.ofNat).reverse) = v := by
    intro m hm
    have : ∀ k, k ≤ m → be (((dig 256 v m).map UInt8.ofNat).reverse.take k) = v / 256 ^ (m - k) := by
      intro k
      induction k with
      | zero => intro _; simp [be, Nat.div_eq_of_lt hm]
      | succ k ih =>
        intro hk
        have hkl : k < ((dig 256 v m).map UInt8.ofNat).reverse.length := by simp [dig_length]; omega
        rw [List.take_succ_eq_append_getElem hkl, be_snoc, ih (by omega)]
        have hg : (((dig 256 v m).map UInt8.ofNat).reverse[k]'hkl).toNat = v / 256 ^ (m - 1 - k) % 256 := by
          have h2 : ((dig 256 v m).map UInt8.ofNat).reverse[k]? = some (UInt8.ofNat (v / 256 ^ (m - 1 - k) % 256)) := by
            rw [List.getElem?_reverse (by simp [dig_length]; omega), List.getElem?_map, List.length_map, dig_length, dig_get _ _ _ _ (by omega)]
            rfl
          rw [List.getElem?_eq_getElem hkl] at h2
          rw [Option.some.inj h2]
          simp
        rw [hg]
        have := div_step 256 v (m - 1 - k)
        rw [show m - 1 - k + 1 = m - k by omega] at this
        rw [show m - (k + 1) = m - 1 - k by omega]
        omega
    have h := this m (Nat.le_refl _)
    rw [List.take_of_length_le (by simp [dig_length]), Nat.sub_self, Nat.pow_zero, Nat.div_one] at h
    exact h
  exact key _ (len_lt (by omega) v)
theorem mag_inj {u v : Nat} (h : mag u = mag v) : u = v := by rw [← be_mag u, ← be_mag v, h]
/-- leading zeros do not count -/
theorem be_zeros (l : List UInt8) (k : Nat) (h : ∀ j c, j < k → l[j]? = some c → c = 0) : be (l.drop k) = be l := by
  induction k generalizing l with
  | zero => simp
  | succ k ih =>
    cases l with
    | nil => simp
    | cons c l =>
      have hc := h 0 c (by omega) rfl
      rw [List.drop_succ_cons, ih l (fun j d hj hd => h (j + 1) d (by omega) (by simpa using hd)), be_cons, hc]
      simp
end Go.Proofs.YtafbheamnjmfoaaGreat.Num

namespace Go.Proofs.YtafbheamnjmfoaaGreat.Num
set_option linter.unusedVariables false

/-- how two numbers compare -/
def cmpN (u v : Nat) : Int := if u < v then -1 else if v < u then 1 else 0
def cmpZ (u v : Int) : Int := if u < v then -1 else if v < u then 1 else 0
/-- the integer of a sign and a magnitude -/
def sg (neg : Bool) (v : Nat) : Int := if neg then -(v : Int) else v
def sgn (z : Int) : Int := if z < 0 then -1 else if z = 0 then 0 else 1

theorem cmpN_len {b u v : Nat} (hb : 2 ≤ b) (h : len b u < len b v) : cmpN u v = -1 := by
  unfold cmpN; rw [if_pos (lt_of_len hb h)]
theorem cmpN_len' {b u v : Nat} (hb : 2 ≤ b) (h : len b v < len b u) : cmpN u v = 1 := by
  have := lt_of_len hb h
  unfold cmpN; rw [if_neg (by omega), if_pos this]
theorem cmpN_lt {b u v j : Nat} (hb : 0 < b) (h : u / b ^ (j + 1) = v / b ^ (j + 1)) (hd : u / b ^ j % b < v / b ^ j % b) : cmpN u v = -1 := by
  unfold cmpN; rw [if_pos (lt_of_digit hb h hd)]
theorem cmpN_gt {b u v j : Nat} (hb : 0 < b) (h : u / b ^ (j + 1) = v / b ^ (j + 1)) (hd : v / b ^ j % b < u / b ^ j % b) : cmpN u v = 1 := by
  have := lt_of_digit hb h.symm hd
  unfold cmpN; rw [if_neg (by omega), if_pos this]
theorem cmpN_eq {u v : Nat} (h : u = v) : cmpN u v = 0 := by
  unfold cmpN; rw [if_neg (by omega), if_neg (by omega)]
theorem cmpN_bounds (u v : Nat) : -1 ≤ cmpN u v ∧ cmpN u v ≤ 1 := by
  unfold cmpN; split
  · omega
  · split <;> omega
theorem sgn_bounds (z : Int) : -1 ≤ sgn z ∧ sgn z ≤ 1 := by
  unfold sgn; split
  · omega
  · split <;> omega

/-- the signs part: they decide -/
theorem cmpZ_sgn {a b : Int} (h : sgn a ≠ sgn b) : cmpZ a b = if sgn a < sgn b then -1 else 1 := by
  unfold cmpZ sgn at *
  repeat' split
  all_goals simp_all
  all_goals omega
theorem cmpZ_pos {a b : Nat} : cmpZ (a : Int) (b : Int) = cmpN a b := by
  unfold cmpZ cmpN
  by_cases h1 : a < b
  · rw [if_pos h1, if_pos (by omega)]
  · rw [if_neg h1, if_neg (by omega)]
    by_cases h2 : b < a
    · rw [if_pos h2, if_pos (by omega)]
    · rw [if_neg h2, if_neg (by omega)]
theorem cmpZ_neg {a b : Nat} : cmpZ (-(a : Int)) (-(b : Int)) = cmpN b a := by
  rw [← cmpZ_pos]
  unfold cmpZ
  by_cases h1 : b < a
  · rw [if_pos (by omega), if_pos (by omega)]
  · rw [if_neg (by omega), if_neg (show ¬ (b : Int) < a by omega)]
    by_cases h2 : a < b
    · rw [if_pos (by omega), if_pos (by omega)]
    · rw [if_neg (by omega), if_neg (by omega)]

/-- eight bytes of a number, the highest one first -/
def bytes8 (u : Nat) : List UInt8 := ((dig 256 u 8).map UInt8.ofNat).reverse
theorem bytes8_length (u : Nat) : (bytes8 u).length = 8 := by simp [bytes8, dig_length]
theorem bytes8_get (u j : Nat) (h : j < 8) : (bytes8 u)[j]? = some (UInt8.ofNat (u / 256 ^ (7 - j) % 256)) := by
  unfold bytes8
  rw [List.getElem?_reverse (by simp [dig_length]; omega), List.getElem?_map, List.length_map, dig_length, dig_get _ _ _ _ (by omega)]
  rfl
theorem be_dig (m v : Nat) (hm : v < 256 ^ m) : be (((dig 256 v m).map UInt8.ofNat).reverse) = v := by
  have : ∀ k, k ≤ m → be (((dig 256 v m).map UInt8.ofNat).reverse.take k) = v / 256 ^ (m - k) := by
    intro k
    induction k with
    | zero => intro _; simp [be, Nat.div_eq_of_lt hm]
    | succ k ih =>
      intro hk
      have hkl : k < ((dig 256 v m).map UInt8.ofNat).reverse.length := by simp [dig_length]; omega
      rw [List.take_succ_eq_append_getElem hkl, be_snoc, ih (by omega)]
      have hg : (((dig 256 v m).map UInt8.ofNat).reverse[k]'hkl).toNat = v / 256 ^ (m - 1 - k) % 256 := by
        have h2 : ((dig 256 v m).map UInt8.ofNat).reverse[k]? = some (UInt8.ofNat (v / 256 ^ (m - 1 - k) % 256)) := by
          rw [List.getElem?_reverse (by simp [dig_length]; omega), List.getElem?_map, List.length_map, dig_length, dig_get _ _ _ _ (by omega)]
          rfl
        rw [List.getElem?_eq_getElem hkl] at h2
        rw [Option.some.inj h2]
        simp
      rw [hg]
      have := div_step 256 v (m - 1 - k)
      rw [show m - 1 - k + 1 = m - k by omega] at this
      rw [show m - (k + 1) = m - 1 - k by omega]
      omega
  have h := this m (Nat.le_refl _)
  rw [List.take_of_length_le (by simp [dig_length]), Nat.sub_self, Nat.pow_zero, Nat.div_one] at h
  exact h
theorem be_bytes8 (u : Nat) (h : u < 18446744073709551616) : be (bytes8 u) = u := be_dig 8 u (by simpa using h)

/-- the digit of a row, counted from the lowest one on -/
def digitAt (l : List UInt8) (i : Nat) : Nat := be l / 256 ^ i % 256
theorem digitAt_in (l : List UInt8) (i : Nat) (h : i < l.length) : (l[l.length - 1 - i]'(by omega)).toNat = digitAt l i := (be_digit l i h).symm
theorem digitAt_out (l : List UInt8) (i : Nat) (h : l.length ≤ i) : digitAt l i = 0 := by
  unfold digitAt
  have h1 := be_lt l
  have h2 : (256 : Nat) ^ l.length ≤ 256 ^ i := Nat.pow_le_pow_right (by omega) h
  rw [Nat.div_eq_of_lt (by omega)]
/-- the lowest 64 bits, from the digit i on -/
def lowFrom (v i : Nat) : Nat := v % 18446744073709551616 / 256 ^ i
theorem low_step (v i : Nat) (h : i < 8) : lowFrom v (i + 1) * 256 % 18446744073709551616 + v / 256 ^ i % 256 = lowFrom v i := by
  unfold lowFrom
  have h1 := div_step 256 (v % 18446744073709551616) i
  have h2 : v % 18446744073709551616 / 256 ^ i % 256 = v / 256 ^ i % 256 := by
    obtain rfl | rfl | rfl | rfl | rfl | rfl | rfl | rfl : i = 0 ∨ i = 1 ∨ i = 2 ∨ i = 3 ∨ i = 4 ∨ i = 5 ∨ i = 6 ∨ i = 7 := by omega
    all_goals first | omega | (simp; omega) | simp
  have h3 : v % 18446744073709551616 / 256 ^ (i + 1) ≤ 72057594037927935 := by
    have : 256 ^ 1 ≤ 256 ^ (i + 1) := Nat.pow_le_pow_right (by omega) (by omega)
    have h4 := Nat.div_le_div_left (a := v % 18446744073709551616) this (by omega)
    have h5 : v % 18446744073709551616 / 256 ^ 1 ≤ 72057594037927935 := by simp; omega
    omega
  omega
theorem low_top (v : Nat) : lowFrom v 8 = 0 := by
  unfold lowFrom; first | omega | (simp; omega) | simp
theorem low_end (v : Nat) : lowFrom v 0 = v % 18446744073709551616 := by
  unfold lowFrom; simp

/-- whether a number has room in 64 bits with a sign; what is told of it -/
def fits64 (z : Int) : Bool := decide (-9223372036854775808 ≤ z) && decide (z ≤ 9223372036854775807)
def get64 (z : Int) : Int := if fits64 z then z else 0
theorem fits64_yes {z : Int} (h : -9223372036854775808 ≤ z) (h2 : z ≤ 9223372036854775807) : fits64 z = true := by simp [fits64, h, h2]
theorem fits64_no {z : Int} (h : z < -9223372036854775808 ∨ 9223372036854775807 < z) : fits64 z = false := by
  unfold fits64
  rcases h with h | h
  · rw [show decide (-9223372036854775808 ≤ z) = false by simp; omega, Bool.false_and]
  · rw [show decide (z ≤ 9223372036854775807) = false by simp; omega, Bool.and_false]
end Go.Proofs.YtafbheamnjmfoaaGreat.Num

namespace Go.Proofs.YtafbheamnjmfoaaGreat.Num
set_option linter.unusedVariables false

/-- the base of words -/
def W : Nat := 18446744073709551616
theorem W_eq : W = 18446744073709551616 := rfl
theorem W_two : 2 ≤ W := by rw [W_eq]; omega
theorem W_pos : 0 < W := by rw [W_eq]; omega
theorem W_pow (k : Nat) : W ^ k = 256 ^ (8 * k) := by
  rw [Nat.pow_mul, show (256 : Nat) ^ 8 = W by rw [W_eq]]
theorem W_pow2 (k : Nat) : W ^ k = 2 ^ (64 * k) := by
  rw [Nat.pow_mul, show (2 : Nat) ^ 64 = W by rw [W_eq]]

/-- the words of a number, without leading zeros -/
def words (v : Nat) : List Nat := dig W v (len W v)
theorem words_length (v : Nat) : (words v).length = len W v := dig_length _ _ _

/-- a whole word of a row of bytes -/
theorem word_of (l : List UInt8) (k : Nat) (h : 8 * k + 8 ≤ l.length) : be ((l.drop (l.length - 8 * k - 8)).take 8) = be l / W ^ k % W := by
  rw [W_pow, show W = 256 ^ 8 by rw [W_eq]]
  exact (be_part l (8 * k) 8 (by omega)).symm
/-- the highest word, of fewer than eight bytes -/
theorem word_top (l : List UInt8) (k : Nat) (h : 8 * k ≤ l.length) (h2 : l.length < 8 * k + 8) : be (l.take (l.length - 8 * k)) = be l / W ^ k % W := by
  rw [W_pow, be_front l (8 * k) h, Nat.mod_eq_of_lt]
  have := be_lt (l.take (l.length - 8 * k))
  have h3 : (256 : Nat) ^ (l.take (l.length - 8 * k)).length ≤ 256 ^ 7 := Nat.pow_le_pow_right (by omega) (by simp; omega)
  have h4 : (256 : Nat) ^ 7 < W := by rw [W_eq]; omega
  omega
theorem be_lt_words (l : List UInt8) (m : Nat) (h : l.length ≤ 8 * m) : be l < W ^ m := by
  rw [W_pow]
  exact Nat.lt_of_lt_of_le (be_lt l) (Nat.pow_le_pow_right (by omega) h)

/-- bits: 64 for each word behind the highest, and those of the highest -/
theorem len_bits {v : Nat} (hv : 0 < v) : len 2 v = 64 * (len W v - 1) + len 2 (v / W ^ (len W v - 1)) := by
  obtain ⟨h0, h1⟩ := len_ge W_two hv
  have h2 := len_lt W_two v
  obtain ⟨n, hn⟩ : ∃ n, len W v - 1 = n := ⟨_, rfl⟩
  rw [hn] at h1 ⊢
  obtain ⟨t, ht⟩ : ∃ t, v / W ^ n = t := ⟨_, rfl⟩
  rw [ht]
  have hp : 0 < W ^ n := Nat.pow_pos W_pos
  have ht1 : t * W ^ n ≤ v := by rw [← ht]; exact Nat.div_mul_le_self _ _
  have ht2 : v < (t + 1) * W ^ n := by
    rw [← ht]
    have := Nat.lt_div_mul_add hp (a := v)
    rw [Nat.add_mul, Nat.one_mul]; exact this
  have ht0 : 0 < t := by rw [← ht]; exact Nat.div_pos h1 hp
  have a1 := len_lt (b := 2) (by omega) t
  obtain ⟨a2, a3⟩ := len_ge (b := 2) (by omega) ht0
  refine len_eq (by omega) ?_ fun _ => ?_
  · rw [Nat.pow_add, ← W_pow2, Nat.mul_comm]
    exact Nat.lt_of_lt_of_le ht2 (Nat.mul_le_mul_right _ a1)
  · rw [show 64 * n + len 2 t - 1 = 64 * n + (len 2 t - 1) by omega, Nat.pow_add, ← W_pow2, Nat.mul_comm]
    exact Nat.le_trans (Nat.mul_le_mul_right _ a3) ht1
/-- a number and what lies beside its bits -/
theorem len_or (x k : Nat) : len 2 (x ||| x / 2 ^ k) = len 2 x := by
  have h1 := len_lt (b := 2) (by omega) x
  have h2 : x / 2 ^ k < 2 ^ len 2 x := Nat.lt_of_le_of_lt (Nat.div_le_self _ _) h1
  have h3 : x ||| x / 2 ^ k < 2 ^ len 2 x := Nat.or_lt_two_pow h1 h2
  have h4 : len 2 (x ||| x / 2 ^ k) ≤ len 2 x := len_le (by omega) h3
  have h5 : len 2 x ≤ len 2 (x ||| x / 2 ^ k) := len_mono (by omega) Nat.left_le_or
  omega
theorem or_lt (x k : Nat) (h : x < W) : x ||| x / 2 ^ k < W := by
  have e : W = 2 ^ 64 := by rw [W_eq]
  rw [e] at h ⊢
  exact Nat.or_lt_two_pow h (Nat.lt_of_le_of_lt (Nat.div_le_self _ _) h)
/-- small in the package's sense -/
theorem bits_small (v : Nat) : len 2 v < 32 ↔ v < 2147483648 := by
  constructor
  · intro h
    have := len_lt (b := 2) (by omega) v
    have h2 : (2 : Nat) ^ len 2 v ≤ 2 ^ 31 := Nat.pow_le_pow_right (by omega) (by omega)
    simp at h2; omega
  · intro h
    have : len 2 v ≤ 31 := len_le (by omega) (by simpa using h)
    omega
theorem bits_32 (v : Nat) : len 2 v = 32 ↔ 2147483648 ≤ v ∧ v < 4294967296 := by
  constructor
  · intro h
    have h1 := len_lt (b := 2) (by omega) v
    have h2 := (bits_small v).2
    rw [h] at h1; simp at h1
    refine ⟨?_, by omega⟩
    by_cases hx : v < 2147483648
    · have := h2 hx; omega
    · omega
  · intro ⟨h1, h2⟩
    exact len_eq (by omega) (by simpa using h2) (fun _ => by simpa using h1)
/-- one word or none -/
theorem len_one {v : Nat} (h : v < W) : len W v ≤ 1 := len_le W_two (by simpa using h)
theorem low_word (v : Nat) : v / W ^ 0 % W = v % W := by simp

/-- the words of a sum, a carry at a time -/
theorem add_carry (a b k c s : Nat) (hc : (a % W ^ k + b % W ^ k) / W ^ k = c) (hs : a / W ^ k % W + b / W ^ k % W + c = s) :
    (a + b) / W ^ k % W = s % W ∧ (a % W ^ (k + 1) + b % W ^ (k + 1)) / W ^ (k + 1) = s / W := by
  have hp : 0 < W ^ k := Nat.pow_pos W_pos
  have ha : a % W ^ (k + 1) = a % W ^ k + W ^ k * (a / W ^ k % W) := by rw [Nat.pow_succ, Nat.mod_mul]
  have hb : b % W ^ (k + 1) = b % W ^ k + W ^ k * (b / W ^ k % W) := by rw [Nat.pow_succ, Nat.mod_mul]
  constructor
  · have h1 : (a + b) / W ^ k = a / W ^ k + b / W ^ k + c := by
      have ea := Nat.div_add_mod a (W ^ k)
      have eb := Nat.div_add_mod b (W ^ k)
      have : a + b = W ^ k * (a / W ^ k + b / W ^ k) + (a % W ^ k + b % W ^ k) := by rw [Nat.mul_add]; omega
      rw [this, Nat.mul_add_div hp, hc]
    rw [h1, ← hs, Nat.add_mod, Nat.add_mod (a / W ^ k), Nat.add_mod (a / W ^ k % W + b / W ^ k % W)]
  · rw [ha, hb, Nat.pow_succ, ← Nat.div_div_eq_div_mul]
    have : a % W ^ k + W ^ k * (a / W ^ k % W) + (b % W ^ k + W ^ k * (b / W ^ k % W)) = W ^ k * (a / W ^ k % W + b / W ^ k % W) + (a % W ^ k + b % W ^ k) := by rw [Nat.mul_add]; omega
    rw [this, Nat.mul_add_div hp, hc, hs]
end Go.Proofs.YtafbheamnjmfoaaGreat.Num

namespace Go.Proofs.YtafbheamnjmfoaaGreat.Num
set_option linter.unusedVariables false

theorem mod_digit {b : Nat} (hb : 0 < b) (V k j : Nat) : V % b ^ k / b ^ j % b = if j < k then V / b ^ j % b else 0 := by
  by_cases h : j < k
  · rw [if_pos h]
    have e : b ^ k = b ^ j * (b * b ^ (k - j - 1)) := by rw [← Nat.pow_succ', ← Nat.pow_add]; congr 1; omega
    rw [e, Nat.mod_mul_right_div_self, Nat.mod_mul_right_mod]
  · rw [if_neg h]
    have : V % b ^ k < b ^ j := Nat.lt_of_lt_of_le (Nat.mod_lt _ (Nat.pow_pos hb)) (Nat.pow_le_pow_right hb (by omega))
    rw [Nat.div_eq_of_lt this]; exact Nat.zero_mod _
/-- one more word of a row that is being filled -/
theorem dig_set {b : Nat} (hb : 0 < b) (V k n D : Nat) (hD : V / b ^ k % b = D) : (dig b (V % b ^ k) n).set k D = dig b (V % b ^ (k + 1)) n := by
  apply List.ext_getElem?
  intro j
  rw [List.getElem?_set]
  by_cases hj : j < n
  · rw [dig_get _ _ _ _ hj, dig_get _ _ _ _ hj, mod_digit hb, mod_digit hb, dig_length]
    by_cases h1 : k = j
    · subst h1; rw [if_pos rfl, if_pos hj, if_pos (by omega), hD]
    · rw [if_neg h1]
      by_cases h2 : j < k
      · rw [if_pos h2, if_pos (by omega)]
      · rw [if_neg h2, if_neg (by omega)]
  · rw [List.getElem?_eq_none (l := dig b _ n) (by rw [dig_length]; omega), List.getElem?_eq_none (l := dig b _ n) (by rw [dig_length]; omega)]
    split
    · rw [if_neg (by rw [dig_length]; omega)]
    · rfl
theorem dig_full (V k n : Nat) (hV : V < W ^ k) : dig W (V % W ^ k) n = dig W V n := by rw [Nat.mod_eq_of_lt hV]

/-- a number in so many bytes, the highest one first -/
def rev8 (V N : Nat) : List UInt8 := ((dig 256 V N).map UInt8.ofNat).reverse
theorem rev8_length (V N : Nat) : (rev8 V N).length = N := by simp [rev8, dig_length]
theorem rev8_get (V N i : Nat) (h : i < N) : (rev8 V N)[i]? = some (UInt8.ofNat (V / 256 ^ (N - 1 - i) % 256)) := by
  unfold rev8
  rw [List.getElem?_reverse (by simp [dig_length]; exact h), List.length_map, dig_length, List.getElem?_map, dig_get _ _ _ _ (by omega)]; rfl
theorem rev8_set (V N t D : Nat) (ht : t < N) (hD : V / 256 ^ t % 256 = D) : (rev8 (V % 256 ^ t) N).set (N - 1 - t) (UInt8.ofNat D) = rev8 (V % 256 ^ (t + 1)) N := by
  apply List.ext_getElem?
  intro j
  rw [List.getElem?_set, rev8_length]
  by_cases hj : j < N
  · rw [rev8_get _ _ _ hj, rev8_get _ _ _ hj, mod_digit (by omega), mod_digit (by omega)]
    by_cases h1 : N - 1 - t = j
    · rw [if_pos h1, if_pos (by omega), if_pos (by omega), show N - 1 - j = t by omega, hD]
    · rw [if_neg h1]
      by_cases h2 : N - 1 - j < t
      · rw [if_pos h2, if_pos (by omega)]
      · rw [if_neg h2, if_neg (by omega)]
  · rw [List.getElem?_eq_none (l := rev8 _ N) (by rw [rev8_length]; omega), List.getElem?_eq_none (l := rev8 _ N) (by rw [rev8_length]; omega)]
    split
    · rw [if_neg (by omega)]
    · rfl
theorem rev8_zero (N : Nat) : rev8 0 N = List.replicate N 0 := by
  apply List.ext_getElem?
  intro j
  by_cases hj : j < N
  · rw [rev8_get _ _ _ hj, List.getElem?_replicate, if_pos hj]; simp
  · rw [List.getElem?_eq_none (by rw [rev8_length]; omega), List.getElem?_eq_none (by simp; omega)]
theorem rev8_drop (V N : Nat) (h : V < 256 ^ N) : (rev8 V N).drop (N - len 256 V) = mag V := by
  have hl : len 256 V ≤ N := len_le (by omega) h
  apply List.ext_getElem?
  intro j
  rw [List.getElem?_drop]
  by_cases hj : j < len 256 V
  · rw [rev8_get _ _ _ (by omega), mag_get _ _ hj, show N - 1 - (N - len 256 V + j) = len 256 V - 1 - j by omega]
  · rw [List.getElem?_eq_none (by rw [rev8_length]; omega), List.getElem?_eq_none (by rw [mag_length]; omega)]
/-- what leads is 0 just where no digit is -/
theorem rev8_lead (V N i : Nat) (h : V < 256 ^ (N - i)) (hi : i < N) : ((rev8 V N)[i]? = some 0 ↔ V < 256 ^ (N - (i + 1))) := by
  rw [rev8_get _ _ _ hi]
  have e : N - (i + 1) = N - 1 - i := by omega
  have e2 : N - i = (N - 1 - i) + 1 := by omega
  rw [e]
  rw [e2] at h
  constructor
  · intro h0
    have h1 := congrArg UInt8.toNat (Option.some.inj h0)
    simp at h1
    exact top_zero (by omega) h h1
  · intro h0
    rw [Nat.div_eq_of_lt h0]; rfl

/-- the last t of the first r bytes -/
def topPart (l : List UInt8) (r t : Nat) : Nat := be ((l.take r).drop (r - t))
theorem topPart_zero (l : List UInt8) (r : Nat) : topPart l r 0 = 0 := by
  unfold topPart
  rw [List.drop_eq_nil_of_le (by simp; omega)]; rfl
theorem topPart_step (l : List UInt8) (r t : Nat) (h : r ≤ l.length) (ht : t < r) : topPart l r (t + 1) = l[r - t - 1].toNat * 256 ^ t + topPart l r t := by
  unfold topPart
  have hl : r - (t + 1) < (l.take r).length := by simp; omega
  have e2 : r - (t + 1) + 1 = r - t := by omega
  have e3 : (l.take r)[r - (t + 1)] = l[r - t - 1] := by rw [List.getElem_take]; congr 1
  rw [List.drop_eq_getElem_cons hl, be_cons, List.length_drop, List.length_take, e2, e3]
  congr 3
  omega
theorem topPart_lt (l : List UInt8) (r t : Nat) (h : r ≤ l.length) (ht : t ≤ r) : topPart l r t < 256 ^ t := by
  have := be_lt ((l.take r).drop (r - t))
  rw [List.length_drop, List.length_take] at this
  rw [show min r l.length - (r - t) = t by omega] at this
  exact this
theorem topPart_end (l : List UInt8) (r : Nat) : topPart l r r = be (l.take r) := by unfold topPart; simp

/-- the kit's count of bits -/
theorem bitLen_aux (f v : Nat) (h : v < 2 ^ f) : Lib.bitLenAux f v = len 2 v := by
  by_cases h0 : v = 0
  · subst h0; cases f <;> rfl
  · have key : ∀ f v, v < 2 ^ f → v ≠ 0 → 0 < Lib.bitLenAux f v ∧ 2 ^ (Lib.bitLenAux f v - 1) ≤ v ∧ v < 2 ^ Lib.bitLenAux f v := by
      intro f
      induction f with
      | zero => intro v hv h0; simp at hv; omega
      | succ f ih =>
        intro v hv h0
        simp only [Lib.bitLenAux, if_neg h0]
        by_cases h1 : v / 2 = 0
        · have : v = 1 := by omega
          subst this
          cases f <;> simp [Lib.bitLenAux]
        · obtain ⟨a1, a2, a3⟩ := ih (v / 2) (by rw [Nat.pow_succ] at hv; omega) h1
          obtain ⟨n, hn⟩ : ∃ n, Lib.bitLenAux f (v / 2) = n + 1 := ⟨Lib.bitLenAux f (v / 2) - 1, by omega⟩
          rw [hn] at a2 a3 ⊢
          rw [Nat.add_sub_cancel] at a2
          refine ⟨by omega, ?_, ?_⟩
          · rw [show 1 + (n + 1) - 1 = n + 1 by omega, Nat.pow_succ]; omega
          · rw [show 1 + (n + 1) = (n + 1) + 1 by omega, Nat.pow_succ 2 (n + 1)]; omega
    obtain ⟨a1, a2, a3⟩ := key f v h h0
    exact (len_eq (by omega) a3 (fun _ => a2)).symm
theorem bitLen_eq (v : Nat) (h : v < W) : Lib.bitLen v = len 2 v := bitLen_aux 64 v (by simpa [W_eq] using h)

/-- all bits behind the first one set -/
def smear (x : Nat) (k : Nat) : Nat := x ||| x / 2 ^ k
theorem smear_lt (x k : Nat) (h : x < W) : smear x k < W := or_lt x k h
theorem smear_len (x k : Nat) : len 2 (smear x k) = len 2 x := len_or x k
end Go.Proofs.YtafbheamnjmfoaaGreat.Num
