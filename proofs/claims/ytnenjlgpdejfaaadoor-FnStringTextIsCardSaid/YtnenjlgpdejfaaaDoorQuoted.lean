/-
  The literal of a text: the walk of the reference's function.
-/
import Derived.Test.YtnenjlgpdejfaaaDoorQuoParts
import Derived.StillTailTactics
import Derived.Deep.DeepMust
import Derived.Deep.RegionLaw
namespace Go.Proofs.YtnenjlgpdejfaaaDoor.Quo
open Go.RowKit Go.WideShapes Go.Proofs.YtnenjlgpdejfaaaDoor.Utf Go.Proofs.YtnenjlgpdejfaaaDoor.Own
set_option linter.unusedVariables false

/-- the four tables by which a rune is printable -/
def Prints (T : Lib.PrintTabs) (w : World) : Prop := Lib.PrintTabsAt 0 1 2 3 T w
theorem tab_later {g : Nat} {k : IntKind} {t : List Nat} {w w' : World} (h : Lib.TabSlice g k t w) (ht : 0 < t.length) (hb : Below w.heap.size w w') : Lib.TabSlice g k t w' := by
  obtain ⟨R, o, c, h1, h2⟩ := h
  refine ⟨R, o, c, (hb.cell (World.block_lt_of_cell? w _ h1)).trans h1, fun j hj => ?_⟩
  exact (hb.cell (p := ⟨R, o + j, none⟩) (World.block_lt_of_cell? w ⟨R, o + j, none⟩ (h2 j hj))).trans (h2 j hj)
theorem Prints.later {T : Lib.PrintTabs} {w w' : World} (h : Prints T w) (hb : Below w.heap.size w w') : Prints T w' := by
  obtain ⟨a, b, c, d, l, rest⟩ := h
  exact ⟨tab_later a l.1 hb, tab_later b l.2.1 hb, tab_later c l.2.2.1 hb, tab_later d l.2.2.2 hb, l, rest⟩
theorem isp_any (T : Lib.PrintTabs) (r : Nat) (hr : r ≤ 1114111) (w : World) (hP : Prints T w) :
    Calls Tryd.prog 34 #[.int .i32 r] w fun e w' => e = .returned (.bool (Lib.isPrintR T r)) ∧ Below w.heap.size w w' := by
  refine (Tryd.strconv_IsPrint T r w (by omega) (by omega) hP).mono ?_
  rintro e w' ⟨rfl, q, rfl⟩
  exact ⟨rfl, (Below.refl _ _).trans ⟨rfl, rfl, rfl, Nat.le_refl _, fun _ _ => rfl⟩⟩

/-- both kinds of tables, in a world and in the later ones -/
structure Laid (T : Lib.PrintTabs) (w : World) : Prop where
  tabs : Tabs w
  prints : Prints T w
theorem Laid.later {T : Lib.PrintTabs} {w w' : World} (h : Laid T w) (hb : Below w.heap.size w w') : Laid T w' := ⟨h.tabs.later hb, h.prints.later hb⟩

theorem latin (T : Lib.PrintTabs) (r : Nat) (h : r ≤ 255) : Lib.isPrintR T r = Lib.isPrintLatin r := by
  unfold Lib.isPrintR
  rw [if_pos (by omega)]
theorem latin_no (T : Lib.PrintTabs) (r : Nat) (h : r < 32 ∨ r = 127) : Lib.isPrintR T r = false := by
  rw [latin T r (by omega)]
  unfold Lib.isPrintLatin
  simp; omega
theorem latin_yes (T : Lib.PrintTabs) (r : Nat) (h : 32 ≤ r ∧ r ≤ 126) : Lib.isPrintR T r = true := by
  rw [latin T r (by omega)]
  unfold Lib.isPrintLatin
  simp; omega

theorem conv_one (b : UInt8) (w : World) : (convert 36 9 (.slice (some ⟨w.heap.size, 0, none⟩) 1 1)).run Tryd.prog (w.alloc (.cells #[.int .u8 b.toNat] 5)) = .ok (.string ⟨#[b]⟩) (w.alloc (.cells #[.int .u8 b.toNat] 5)) := by
  have := (Owns.lit w 0 [b] (Nat.zero_le _) (by unfold maxLen; simp)).conv 9 Tryd.underlying9
  simpa [bs] using this

def letters : ByteArray := ⟨#[97, 98, 102, 110, 114, 116, 118, 34, 92]⟩
theorem pos_named (c : Nat) (h : named c ≠ 0) : 0 ≤ pos c ∧ pos c < 9 ∧ letters.get! (pos c).toNat = named c := by
  unfold named at h
  by_cases c0 : c = 7; · subst c0; decide
  by_cases c1 : c = 8; · subst c1; decide
  by_cases c2 : c = 12; · subst c2; decide
  by_cases c3 : c = 10; · subst c3; decide
  by_cases c4 : c = 13; · subst c4; decide
  by_cases c5 : c = 9; · subst c5; decide
  by_cases c6 : c = 11; · subst c6; decide
  by_cases c7 : c = 34; · subst c7; decide
  by_cases c8 : c = 92; · subst c8; decide
  simp [c0, c1, c2, c3, c4, c5, c6, c7, c8] at h
theorem pos_unnamed (c : Nat) (h : named c = 0) : pos c = -1 := by
  unfold named at h
  unfold pos
  repeat' split at h
  all_goals simp_all

def head (b : Bool) : List UInt8 := if b then [98, 34] else [34]

theorem at_get (s : ByteArray) (k : Nat) (h : k < s.size) : at' s k = (s[k]).toNat := by
  unfold at'
  have : s.get! k = s[k] := by
    cases s with
    | mk d => show d[k]! = d[k]; exact getElem!_pos d k h
  rw [this]
/-- a step of the sum of pieces -/
theorem piece_step {p : Int → Bool} {s : ByteArray} {f k : Nat} {l R : List UInt8} (hlt : k < s.size) (h : l ++ pieces p s (f + 1) k = R) : (l ++ piece p s k) ++ pieces p s f (k + width s k) = R := by
  rw [pieces, if_pos hlt] at h
  rw [List.append_assoc]; exact h

/-- the relation at the round's end -/
def Rel (T : Lib.PrintTabs) (s : ByteArray) (w : World) (R : List UInt8) (v : Value) (k : Nat) (wr : World) : Prop :=
  ∃ (f : Nat) (l : List UInt8), k ≤ s.size ∧ s.size ≤ k + f ∧ l.length ≤ 10 * k + 2 ∧ Owns wr w.heap.size v l ∧ Below w.heap.size w wr ∧ l ++ pieces (Lib.isPrintR T) s f k = R
theorem rel_next {T : Lib.PrintTabs} {s : ByteArray} {w : World} {R l : List UInt8} {v : Value} {k f : Nat} {wr : World} (hlt : k < s.size) (hkf : s.size ≤ k + f) (hl : l.length ≤ 10 * k + 2)
    (hf : l ++ pieces (Lib.isPrintR T) s f k = R) (x : List UInt8) (hx : x = piece (Lib.isPrintR T) s k) (hown : Owns wr w.heap.size v (l ++ x)) (hb : Below w.heap.size w wr) : Rel T s w R v (k + width s k) wr := by
  have w1 := width_pos s k
  have w2 := width_le s k hlt
  have hp := piece_length (Lib.isPrintR T) s k
  subst hx
  cases f with
  | zero => omega
  | succ f => exact ⟨f, l ++ piece (Lib.isPrintR T) s k, w2, by omega, by rw [List.length_append]; omega, hown, hb, piece_step hlt hf⟩

theorem Owns.lit' (w : World) (B : Nat) (l : List UInt8) (hB : B ≤ w.heap.size) (hm : l.length ≤ maxLen) (n : Nat) (hn : w.heap.size = n) :
    Owns (w.alloc (.cells (bs l).toArray 5)) B (.slice (some ⟨n, 0, none⟩) l.length l.length) l := hn ▸ Owns.lit w B l hB hm
theorem place_below (b : UInt8) (w : World) :
    Calls Tryd.prog 33 #[.string names, .string ⟨#[b]⟩] w fun e w' => e = .returned (.int .i64 (pos b.toNat)) ∧ Below w.heap.size w w' :=
  (place_any b w).mono fun e w' ⟨h1, h2⟩ => ⟨h1, h2 ▸ Below.refl _ _⟩

theorem piece_raw {T : Lib.PrintTabs} {s : ByteArray} {k : Nat} {c : UInt8} (hat : Hid (at' s k = c.toNat)) (hn : named c.toNat = 0)
    (hbad : ¬ (c.toNat < 32 ∨ c.toNat = 127 ∨ rune s k = 65533 ∧ width s k < 2)) (hp : Lib.isPrintR T (rune s k) = true) : (s.extract k (k + width s k)).data.toList = piece (Lib.isPrintR T) s k := by
  unfold piece raw
  rw [hat.out, if_neg (by simp [hn]), if_neg hbad, if_neg (by simp [hp]), Lib.extract_data]
  congr 1; omega
theorem piece_coded {T : Lib.PrintTabs} {s : ByteArray} {k : Nat} {c : UInt8} (hat : Hid (at' s k = c.toNat)) (hn : named c.toNat = 0)
    (hbad : ¬ (c.toNat < 32 ∨ c.toNat = 127 ∨ rune s k = 65533 ∧ width s k < 2)) (hp : Lib.isPrintR T (rune s k) = false) : coded (rune s k) = piece (Lib.isPrintR T) s k := by
  unfold piece
  rw [hat.out, if_neg (by simp [hn]), if_neg hbad, if_pos hp]
theorem coded_length (r : Nat) : (coded r).length ≤ 10 := by
  unfold coded; split <;> simp [digs_length]
theorem coded_ne (r : Nat) : coded r ≠ [] := by
  unfold coded; split <;> simp
theorem piece_bad {T : Lib.PrintTabs} {s : ByteArray} {k D1 D2 : Nat} {c : UInt8} (_w : 1 ≤ width s k) (hat : Hid (at' s k = c.toNat)) (hn : named c.toNat = 0)
    (hbad : Hid (c.toNat < 32 ∨ c.toNat = 127 ∨ rune s k = 65533 ∧ width s k < 2)) (q1 : D1 < 16) (q2 : D2 < 16) (h1 : Hid (c.toNat / 16 = D1)) (h2 : Hid (c.toNat % 16 = D2)) :
    [92, 120, (⟨#[48, 49, 50, 51, 52, 53, 54, 55, 56, 57, 97, 98, 99, 100, 101, 102]⟩ : ByteArray)[D1]'(by exact q1), (⟨#[48, 49, 50, 51, 52, 53, 54, 55, 56, 57, 97, 98, 99, 100, 101, 102]⟩ : ByteArray)[D2]'(by exact q2)] = piece (Lib.isPrintR T) s k := by
  unfold piece
  rw [hat.out, if_neg (by simp [hn]), if_pos hbad.out, hex_get D1 q1, hex_get D2 q2, h1.out, h2.out]

set_option maxHeartbeats 2000000 in
set_option maxRecDepth 100000 in
theorem quoted_any (T : Lib.PrintTabs) (s : ByteArray) (b : Bool) (w : World) (hs : s.size ≤ 2147483647) (hL : Laid T w) :
    Calls Tryd.prog 22 #[.string s, .bool b] w fun e w' => e = .returned (.string ⟨(head b ++ pieces (Lib.isPrintR T) s s.size 0 ++ [34]).toArray⟩) ∧ Below w.heap.size w w' := by
  obtain ⟨R, hR⟩ : ∃ R, head b ++ pieces (Lib.isPrintR T) s s.size 0 = R := ⟨_, rfl⟩
  rw [hR]
  have hR' := Lib.hid hR
  clear hR
  cases b
  all_goals
    go_enter Tryd.func22, Tryd.ntmps22
    go_wp2
    go_loopw [5, 6] (fun v i wr => ∃ (k : Nat), i = .int .i64 k ∧ Rel T s w R v k wr) (fun _ i _ => s.size - (intOf i).toNat)
    case atStart =>
      first
      | exact ⟨0, rfl, s.size, head false, Nat.zero_le _, by omega, by simp [head], Owns.lit w _ (head false) (Nat.le_refl _) (by simp [head, maxLen]), (Below.refl _ _).alloc (Nat.le_refl _) _, hR'.out⟩
      | exact ⟨0, rfl, s.size, head true, Nat.zero_le _, by omega, by simp [head], Owns.lit' (w.alloc _) w.heap.size (head true) (by simp) (by simp [head, maxLen]) _ (by simp), ((Below.refl _ _).alloc (Nat.le_refl _) _).alloc (by simp) _, hR'.out⟩
    case round =>
      obtain ⟨k, rfl, f, l, hk, hkf, hl, hown, hb, hf⟩ := hrel
      have hf' := Lib.hid hf
      clear hf
      by_cases hlt : k < s.size
      · have hLr := Lib.hid (hL.later hb)
        have w1 := width_pos s k
        have w2 := width_le s k hlt
        have r1 := rune_le s k
        have hsz := hb.size
        obtain ⟨c, hc⟩ : ∃ c, s[k] = c := ⟨_, rfl⟩
        have hat := Lib.hid ((at_get s k hlt).trans (congrArg UInt8.toNat hc))
        have hco := conv_one c
        go_wp2_with fail
        refine (decode_any s k hlt _ hLr.out.tabs).mono ?_
        rintro e w2' ⟨rfl, hb2⟩
        have hb2' := hb.trans (hb2.mono hsz)
        have hown2 := hown.later hb2
        go_wp2_with fail
        refine (place_below c _).mono ?_
        rintro e w3 ⟨rfl, hb3⟩
        have hba := hb2'.alloc hb2'.size (.cells #[.int .u8 c.toNat] 5)
        have hb3' := hba.trans (hb3.mono hba.size)
        have hown3 := (hown2.later ((Below.refl _ _).alloc (Nat.le_refl _) (.cells #[.int .u8 c.toNat] 5))).later hb3
        have hL3 := Lib.hid (hL.later hb3')
        clear hb3 hba hown2 hown hb2' hb2 hb
        by_cases hn : named c.toNat = 0
        · have hp := pos_unnamed _ hn
          rw [hp]
          clear hp
          have hcl := UInt8.toNat_lt c
          by_cases hbad : c.toNat < 32 ∨ c.toNat = 127 ∨ (rune s k = 65533 ∧ width s k < 2)
          · have hbad' := Lib.hid hbad
            have hbad2 : c.toNat < 32 ∨ (32 ≤ c.toNat ∧ c.toNat = 127) ∨ (32 ≤ c.toNat ∧ c.toNat ≠ 127 ∧ rune s k = 65533 ∧ width s k < 2) := by omega
            clear hbad
            obtain ⟨D1, hD1⟩ : ∃ D, c.toNat / 16 = D := ⟨_, rfl⟩
            obtain ⟨D2, hD2⟩ : ∃ D, c.toNat % 16 = D := ⟨_, rfl⟩
            have q1 : D1 < 16 := by omega
            have q2 : D2 < 16 := by omega
            have q3 : (D1 : Int) < 16 := by omega
            have q4 : (D2 : Int) < 16 := by omega
            have e1 : IntKind.u8.wrap ((c.toNat : Int) / 16) = D1 := by rw [IntKind.wrap_u8]; omega
            have e2 : (c.toNat : Int).tmod 16 = D2 := by rw [Int.tmod_eq_emod_of_nonneg (by omega)]; omega
            have e3 : (c.toNat : Int) % 16 = D2 := by omega
            have hD1' := Lib.hid hD1
            have hD2' := Lib.hid hD2
            clear hD1 hD2
            have hE : c.toNat < 32 ∨ (((c.toNat : Int) == 127) = true ∧ 32 ≤ c.toNat) ∨ (32 ≤ c.toNat ∧ ((c.toNat : Int) == 127) = false ∧ rune s k = 65533 ∧ width s k < 2) := by
              rcases hbad2 with h | ⟨h0, h⟩ | ⟨h0, h1, h, h'⟩
              · exact .inl h
              · exact .inr (.inl ⟨by simp; omega, h0⟩)
              · exact .inr (.inr ⟨h0, by simp; omega, h, h'⟩)
            clear hbad2
            rcases hE with h | ⟨h0, h⟩ | ⟨h0, h1, h, h'⟩
            all_goals
              go_wp2
              all_goals try (exfalso; omega)
              all_goals go_region_law (refine step_lits rfl _ _ rfl _ _ rfl hown3 hb3' (Nat.le_refl _) [92, 120, _, _] 4 rfl _ rfl rfl (by simp only [List.length_cons, List.length_nil]; omega) ?_; intro v' w1 hown1 hb1)
              all_goals go_wp2
              all_goals
                go_roundw
                case rel =>
                  refine ⟨k + width s k, by go_num, rel_next hlt hkf hl hf'.out _ (piece_bad (by assumption) hat hn hbad' q1 q2 hD1' hD2') (by assumption) (by assumption)⟩
                case measure => simp [intOf]; omega
          · have g1 : 32 ≤ c.toNat := by omega
            have g2 : ((c.toNat : Int) == 127) = false := by simp; omega
            have g3 : rune s k ≠ 65533 ∨ 2 ≤ width s k := by omega
            have g4 : ((rune s k : Int) == 65533) = false ∨ (((rune s k : Int) == 65533) = true ∧ 2 ≤ width s k) := by
              by_cases hq : rune s k = 65533
              · exact .inr ⟨by simp [hq], by omega⟩
              · exact .inl (by simp; omega)
            have hbad' := Lib.hid hbad
            clear hbad g3
            by_cases hpr : Lib.isPrintR T (rune s k) = true
            · have hpr' := Lib.hid hpr
              rcases g4 with g4 | ⟨g4, g5⟩
              all_goals
                go_wp2_with (first | (go_at_call 34; refine (isp_any T (rune s k) r1 _ hL3.out.prints).mono ?_; rintro e w4 ⟨rfl, hb4⟩; have hown4 := hown3.later hb4; have hb4' := hb3'.trans (hb4.mono hb3'.size)) | (at_builtin; refine wpList_text rfl _ _ rfl _ _ rfl (by assumption) (by assumption) (Nat.le_refl _) _ rfl (by simp; omega) ?_; intro v' w1 hown1 hb1))
                all_goals try (exfalso; omega)
                all_goals
                  go_roundw
                  case rel => exact ⟨k + width s k, by go_num, rel_next hlt hkf hl hf'.out _ (piece_raw hat hn hbad'.out hpr'.out) (by assumption) (by assumption)⟩
                  case measure => simp [intOf]; omega
            · have hpr' := Lib.hid hpr
              have hpf : Lib.isPrintR T (rune s k) = false := by simpa using hpr
              clear hpr
              rcases g4 with g4 | ⟨g4, g5⟩
              all_goals
                go_wp2_with (first | (go_at_call 34; refine (isp_any T (rune s k) r1 _ hL3.out.prints).mono ?_; rintro e w4 ⟨rfl, hb4⟩; have hown4 := hown3.later hb4; have hb4' := hb3'.trans (hb4.mono hb3'.size)) | (go_at_call 35; refine (coded_any (rune s k) r1 _).mono ?_; rintro e w5 ⟨⟨v5, rfl, hown5⟩, hb5⟩; obtain ⟨g, cap, rfl, hcell⟩ := hown5.slice (coded_ne _); have hown6 := hown4.later hb5; have hb6 := hb4'.trans (hb5.mono hb4'.size); clear hown4 hb4' hown5) | (at_builtin; refine wpList_bytes rfl _ _ rfl _ _ rfl (by assumption) (by assumption) (Nat.le_refl _) (coded (rune s k)) _ _ _ rfl rfl (by assumption) (by have := coded_length (rune s k); omega) ?_; intro v' w1 hown1 hb1))
                all_goals try (exfalso; omega)
                all_goals
                  go_roundw
                  case rel => exact ⟨k + width s k, by go_num, rel_next hlt hkf hl hf'.out _ (piece_coded hat hn hbad'.out hpf) (by assumption) (by assumption)⟩
                  case measure => simp [intOf]; omega
        · obtain ⟨p1, p2, p3⟩ := pos_named _ hn
          have p3' := Lib.hid p3
          clear p3
          go_wp2_with (at_builtin; (refine wpList_lits rfl _ _ rfl _ _ rfl hown3 hb3' (Nat.le_refl _) [92, _] 2 rfl _ rfl rfl (by simp only [List.length_cons, List.length_nil]; omega) ?_); intro v' w1 hown1 hb1)
          go_roundw
          case rel =>
            have hpc : [92, named c.toNat] = piece (Lib.isPrintR T) s k := by
              unfold piece; rw [hat.out, if_pos hn]
            refine ⟨k + width s k, by go_num, rel_next hlt hkf hl hf'.out _ hpc (hown1.eq ?_) hb1⟩
            rw [← p3'.out]
            have : ∀ (j : Nat) (hj : j < 9), (⟨#[97, 98, 102, 110, 114, 116, 118, 34, 92]⟩ : ByteArray)[j]'hj = letters.get! j := fun j hj => by
              show (#[97, 98, 102, 110, 114, 116, 118, 34, 92] : Array UInt8)[j]'hj = (#[97, 98, 102, 110, 114, 116, 118, 34, 92] : Array UInt8)[j]!
              exact (getElem!_pos (#[97, 98, 102, 110, 114, 116, 118, 34, 92] : Array UInt8) j hj).symm
            rw [this]
          case measure => simp [intOf]; omega
      · go_wp2_with (at_builtin; refine wpList_byte rfl _ _ rfl _ _ rfl hown hb (Nat.le_refl _) 34 rfl (by omega) ?_; intro v' w1 hown1 hb1; have hcv := hown1.conv)
        go_ret
        have hf := hf'.out
        rw [pieces_end _ _ _ _ hlt, List.append_nil] at hf
        subst hf
        exact ⟨rfl, hb1⟩
end Go.Proofs.YtnenjlgpdejfaaaDoor.Quo
