/-
  The plain law: going through a text rune by rune, a line's end beginning the next line, comes to what counting the lines' ends and the runes behind the last of them gives.
-/
import Derived.Test.YtnenjlgpdejfaaaDoorUtf
import Derived.Lib.LastIndexByte
namespace Go.Proofs.YtnenjlgpdejfaaaDoor.fnPlaceBehind
open Go.RowKit Go.Lib Go.Proofs.YtnenjlgpdejfaaaDoor.Utf

/-- the byte at a place -/
def at' (s : ByteArray) (i : Nat) : Nat := (s.get! i).toNat
theorem decodeN_facts (n b0 b1 b2 b3 : Nat) (h0 : b0 < 256) :
    ((decodeN n b0 b1 b2 b3).1 = 10 ↔ b0 = 10) ∧ (b0 = 10 → (decodeN n b0 b1 b2 b3).2 = 1) ∧ (1 < (decodeN n b0 b1 b2 b3).2 → 128 ≤ b1) ∧ (2 < (decodeN n b0 b1 b2 b3).2 → 128 ≤ b2) ∧ (3 < (decodeN n b0 b1 b2 b3).2 → 128 ≤ b3) ∧ (decodeN n b0 b1 b2 b3).2 ≤ 4 := by
  unfold decodeN
  repeat' split
  all_goals (simp_all; try omega)
theorem rune_nl (s : ByteArray) (i : Nat) : rune s i = 10 ↔ at' s i = 10 := by
  unfold rune at'; rw [decode_at]; exact (decodeN_facts _ _ _ _ _ (UInt8.toNat_lt _)).1
theorem width_nl (s : ByteArray) (i : Nat) (h : at' s i = 10) : width s i = 1 := by
  unfold width; rw [decode_at]; exact (decodeN_facts _ _ _ _ _ (UInt8.toNat_lt _)).2.1 h
theorem inside (s : ByteArray) (i j : Nat) (h0 : 0 < j) (h : j < width s i) : at' s (i + j) ≠ 10 := by
  unfold width at h; rw [decode_at] at h
  obtain ⟨_, _, h1, h2, h3, h4⟩ := decodeN_facts (s.size - i) (s.get! i).toNat (s.get! (i + 1)).toNat (s.get! (i + 2)).toNat (s.get! (i + 3)).toNat (UInt8.toNat_lt _)
  unfold at'
  obtain rfl | rfl | rfl : j = 1 ∨ j = 2 ∨ j = 3 := by omega
  · have := h1 (by omega); omega
  · have := h2 (by omega); omega
  · have := h3 (by omega); omega

/-- how many lines' ends stand among f bytes from i on -/
def nls (s : ByteArray) : Nat → Nat → Nat
  | 0, _ => 0
  | f + 1, i => (if at' s i = 10 then 1 else 0) + nls s f (i + 1)
theorem nls_add (s : ByteArray) : ∀ a b i, nls s (a + b) i = nls s a i + nls s b (i + a)
  | 0, b, i => by simp [nls]
  | a + 1, b, i => by
    rw [show a + 1 + b = (a + b) + 1 by omega, nls, nls, nls_add s a b (i + 1), show i + 1 + a = i + (a + 1) by omega]; omega
theorem nls_zero (s : ByteArray) : ∀ f i, (∀ j, i ≤ j → j < i + f → at' s j ≠ 10) → nls s f i = 0
  | 0, _, _ => rfl
  | f + 1, i, h => by
    rw [nls, if_neg (h i (Nat.le_refl _) (by omega)), nls_zero s f (i + 1) fun j h1 h2 => h j (by omega) (by omega)]
theorem nls_none (s : ByteArray) : ∀ f i, nls s f i = 0 → ∀ j, i ≤ j → j < i + f → at' s j ≠ 10
  | 0, _, _, j, h1, h2 => by omega
  | f + 1, i, h, j, h1, h2 => by
    rw [nls] at h
    by_cases hj : j = i
    · subst hj; intro e; rw [if_pos e] at h; omega
    · exact nls_none s f (i + 1) (by omega) j (by omega) (by omega)
theorem nls_le (s : ByteArray) : ∀ f i, nls s f i ≤ f
  | 0, _ => by simp [nls]
  | f + 1, i => by have := nls_le s f (i + 1); rw [nls]; split <;> omega

/-- the reference's loop -/
def behind (s : ByteArray) : Nat → Nat → Int → Int → Int × Int
  | 0, _, line, col => (line, col)
  | f + 1, i, line, col => if i < s.size then (if rune s i = 10 then behind s f (i + width s i) (line + 1) 1 else behind s f (i + width s i) line (col + 1)) else (line, col)
theorem behind_end (s : ByteArray) (f i : Nat) (line col : Int) (h : ¬ i < s.size) : behind s f i line col = (line, col) := by
  cases f <;> simp [behind, h]

/-- the place behind the last line's end -/
def lastNl (s : ByteArray) : Nat := (lastIndexByte s 10 + 1).toNat
theorem get_data (s : ByteArray) (j : Nat) : (((s.data[j]!).toNat : Int) = 10) ↔ at' s j = 10 := by
  show (((s.get! j).toNat : Int) = 10) ↔ _
  unfold at'; omega
theorem lastNl_eq (s : ByteArray) (i : Nat) (hi : i < s.size) (h : at' s i = 10) (hn : ∀ j, i < j → j < s.size → at' s j ≠ 10) : lastIndexByte s 10 = i := by
  rcases lastIdx_spec s 10 s.size with ⟨_, h2⟩ | ⟨i0, h1, h2, h3, h4⟩
  · exact absurd ((get_data s i).2 h) (h2 i hi)
  · rw [get_data] at h3
    rcases Nat.lt_trichotomy i i0 with hl | hl | hl
    · exact absurd h3 (hn i0 hl h1)
    · subst hl; exact h2
    · exact absurd ((get_data s i).2 h) (h4 i hl hi)

theorem behind_eq (s : ByteArray) : ∀ f i line col, i ≤ s.size → s.size ≤ i + f →
    behind s f i line col = if nls s (s.size - i) i = 0 then (line, col + runeCountFrom s f i) else (line + nls s (s.size - i) i, 1 + runeCountFrom s s.size (lastNl s))
  | 0, i, line, col, h1, h2 => by
    rw [show s.size - i = 0 by omega]; simp [behind, nls, runeCountFrom]
  | f + 1, i, line, col, h1, h2 => by
    by_cases hi : i < s.size
    · by_cases hb : at' s i = 10
      · have hw := width_nl s i hb
        rw [behind, if_pos hi, if_pos ((rune_nl s i).2 hb), hw, behind_eq s f (i + 1) (line + 1) 1 (by omega) (by omega)]
        have e : nls s (s.size - i) i = 1 + nls s (s.size - (i + 1)) (i + 1) := by
          rw [show s.size - i = (s.size - (i + 1)) + 1 by omega, nls, if_pos hb]
        rw [e, if_neg (show ¬ (1 + nls s (s.size - (i + 1)) (i + 1) = 0) by omega)]
        by_cases hr : nls s (s.size - (i + 1)) (i + 1) = 0
        · rw [if_pos hr, hr]
          have hl := lastNl_eq s i hi hb fun j hj hj' => nls_none s _ _ hr j (by omega) (by omega)
          have hl' : lastNl s = i + 1 := by unfold lastNl; rw [hl]; omega
          rw [hl', fuel_enough s f s.size (i + 1) (by omega) (by omega)]
          rfl
        · rw [if_neg hr]; congr 1; omega
      · have hw := Utf.width_pos s i
        have hw2 := Utf.width_le s i hi
        rw [behind, if_pos hi, if_neg (fun h => hb ((rune_nl s i).1 h)), behind_eq s f (i + width s i) line (col + 1) (by omega) (by omega)]
        have e : nls s (s.size - i) i = nls s (s.size - (i + width s i)) (i + width s i) := by
          rw [show s.size - i = width s i + (s.size - (i + width s i)) by omega, nls_add, nls_zero s (width s i) i]
          · omega
          · intro j h1 h2
            rcases Nat.eq_or_lt_of_le h1 with rfl | h3
            · exact hb
            · have := inside s i (j - i) (by omega) (by omega)
              rwa [show i + (j - i) = j by omega] at this
        have e2 : runeCountFrom s (f + 1) i = 1 + runeCountFrom s f (i + width s i) := by
          rw [runeCountFrom, if_pos hi]; rfl
        rw [e, e2]
        split
        · congr 1; omega
        · rfl
    · have : i = s.size := by omega
      subst this
      rw [behind_end _ _ _ _ _ (by omega), runeCountFrom_end _ _ _ (by omega)]
      simp [nls]
end Go.Proofs.YtnenjlgpdejfaaaDoor.fnPlaceBehind
