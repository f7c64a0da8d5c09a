/-
  The literal of a text: the walk of the program's function.
-/
import Derived.Test.YtnenjlgpdejfaaaDoorQuoted
import Derived.Lib.LazyBuf
import Derived.Lib.Hide
import Derived.Deep.DeepCutAuto
import Derived.Deep.CutBlock
namespace Go.Proofs.YtnenjlgpdejfaaaDoor.Quo
open Go.RowKit Go.WideShapes Go.Proofs.YtnenjlgpdejfaaaDoor.Utf Go.Proofs.YtnenjlgpdejfaaaDoor.Own
set_option linter.unusedVariables false

/-- the world of a round: the call's four bytes stand at its first block -/
structure Tmp (w wr : World) : Prop where
  below : Below w.heap.size w wr
  here : w.heap.size + 1 ≤ wr.heap.size
  row : ∃ f, wr.rowIs w.heap.size 71 4 f
theorem Tmp.later {w wr w' : World} (h : Tmp w wr) (hb : Below (w.heap.size + 1) wr w') : Tmp w w' := by
  obtain ⟨f, c, h1, h2⟩ := h.row
  exact ⟨h.below.trans (hb.mono (Nat.le_succ _)), Nat.le_trans h.here hb.size, f, c, (hb.block _ (Nat.lt_succ_self _)).trans h1, h2⟩

theorem enc_any (r : Nat) (hr : r ≤ 1114111) (w wr : World) (hT : Tmp w wr) (v : Value) (l : List UInt8) (hO : Owns wr (w.heap.size + 1) v l) :
    Calls Tryd.prog 45 #[.slice (some ⟨w.heap.size, 0, none⟩) 4 4, .int .i32 r] wr fun e w' => e = .returned (.int .i64 (Lib.encodeRune r).length) ∧ Tmp w w' ∧ Owns w' (w.heap.size + 1) v l ∧
      ∀ j (hj : j < (Lib.encodeRune r).length), w'.cell? ((⟨w.heap.size, 0, none⟩ : Addr).add j) = some (.int .u8 ((Lib.encodeRune r)[j].toNat : Int)) := by
  obtain ⟨f, hrow⟩ := hT.row
  have hle := Lib.runeCells_le r
  have hc : ∀ j, j < (Lib.runeCells r).length → (wr.cell? ⟨w.heap.size, 0 + j, none⟩).isSome = true := fun j hj => by
    rw [Nat.zero_add, hrow.cell (i := j) (by omega)]; rfl
  refine (Any7.utf8_EncodeRune Tryd.laysS30 w.heap.size 0 4 4 r (by omega) (by omega) wr hle.2 hc ?_).mono ?_
  · intro j hj
    obtain ⟨c, h1, _⟩ := hrow
    exact frozen_of_row wr w.heap.size _ c 71 h1
  · rintro e w' ⟨rfl, rfl⟩
    refine ⟨by rw [Lib.runeCells_length], ⟨below_setCells (Nat.le_refl _) _ _ _ hT.below, Nat.le_trans hT.here (World.keptBut_setCells _ (may := fun _ => True) _ _ wr fun _ _ => trivial).size, _, rowIs_setCells _ _ _ _ hrow⟩, ?_, ?_⟩
    · refine ⟨hO.1, ?_⟩
      rcases hO.2 with hn | ⟨g, cap, cur, rfl, hB, hg, rest⟩
      · exact .inl hn
      · exact .inr ⟨g, cap, cur, rfl, hB, ((World.keptBut_setCells w.heap.size (may := fun p => p.block = w.heap.size) _ _ wr (fun _ _ => rfl)).block (Array.getElem?_eq_some_iff.1 hg).1 (fun _ hp e => by omega)).trans hg, rest⟩
    · intro j hj
      rw [show ((⟨w.heap.size, 0, none⟩ : Addr).add j) = ⟨w.heap.size, 0 + j, none⟩ by unfold Addr.add; split <;> simp_all]
      rw [World.cell?_setCells_in _ _ _ _ hc j (by rw [Lib.runeCells_length]; exact hj)]
      have := Lib.byteCells_encodeRune r
      simp only [← this]
      simp [Lib.byteCells]

theorem slice_tmp (b n : Nat) (h : n ≤ 4) (w : World) : (Instr.sliceAt 71 (.pointer (some ⟨b, 0, none⟩)) none (some (.int .i64 (n : Int))) none).run Tryd.prog w = .ok (.slice (some ⟨b, 0, none⟩) n 4) w := by
  have h4 : Tryd.prog.arrayLen 71 = 4 := by kernel_rfl
  have h5 : Tryd.prog.elem 71 = 5 := by kernel_rfl
  rw [run_sliceAt_array_h w 71 _ (by rw [h4, h5]; exact Tryd.underlying71) .i64 n (by omega) (by rw [h4]; omega), h4, h5]
  have hz : ((sizeOf 5).run Tryd.prog w) = .ok 1 w := by kernel_rfl
  rw [hz]
  simp [Result.andThen, slicedAt]
  simp [Addr.add]

theorem tail_list (s : ByteArray) (k : Nat) : (⟨(s.data.toList.drop k).toArray⟩ : ByteArray) = s.extract k s.size := by
  have : ∀ a b : ByteArray, a.data.toList = b.data.toList → a = b := fun a b h => by
    cases a with | mk a => cases b with | mk b => simp at h; simp [h]
  apply this
  rw [Lib.extract_data]
  simp [List.take_of_length_le]
theorem encode_raw (s : ByteArray) (k : Nat) (hlt : k < s.size) (h : ¬ (rune s k = 65533 ∧ width s k < 2)) : Lib.encodeRune (rune s k) = raw s k := by
  have hw := width_pos s k
  have e : Lib.decodeL (s.data.toList.drop k) = (rune s k, width s k) := by
    unfold Lib.decodeL rune width
    rw [tail_list, Lib.tail_decode, Nat.add_zero]
  have hl : 0 < s.data.toList.length - k := by
    have : s.data.toList.length = s.size := by simp
    omega
  have := Lib.encode_decode (s.data.toList.drop k) (by intro h0; have := congrArg List.length h0; simp at this; simp at hl; omega) (by rw [e]; intro h1; exact h ⟨h1.1, by have := h1.2; simp at this; omega⟩)
  rw [e] at this
  exact this

theorem piece_named {T : Lib.PrintTabs} {s : ByteArray} {k : Nat} {c : UInt8} (hat : Hid (at' s k = c.toNat)) (hn : named c.toNat ≠ 0) : piece (Lib.isPrintR T) s k = [92, named c.toNat] := by
  unfold piece
  rw [hat.out, if_pos hn]
theorem piece_printed {T : Lib.PrintTabs} {s : ByteArray} {k : Nat} {c : UInt8} (hlt : k < s.size) (hat : Hid (at' s k = c.toNat)) (hn : named c.toNat = 0)
    (hbad : ¬ (c.toNat < 32 ∨ c.toNat = 127 ∨ rune s k = 65533 ∧ width s k < 2)) (hp : Lib.isPrintR T (rune s k) = true) : Lib.encodeRune (rune s k) = piece (Lib.isPrintR T) s k := by
  rw [encode_raw s k hlt (fun h => hbad (.inr (.inr h)))]
  unfold piece
  rw [hat.out, if_neg (by simp [hn]), if_neg hbad, if_neg (by simp [hp])]
theorem unnamed {c : Nat} (h : named c = 0) : c ≠ 7 ∧ c ≠ 8 ∧ c ≠ 9 ∧ c ≠ 10 ∧ c ≠ 11 ∧ c ≠ 12 ∧ c ≠ 13 ∧ c ≠ 34 ∧ c ≠ 92 := by
  refine ⟨?_, ?_, ?_, ?_, ?_, ?_, ?_, ?_, ?_⟩
  all_goals
    rintro rfl
    exact absurd h (by decide)
theorem named_cases {c : UInt8} (h : ¬ named c.toNat = 0) : c = 7 ∨ c = 8 ∨ c = 9 ∨ c = 10 ∨ c = 11 ∨ c = 12 ∨ c = 13 ∨ c = 34 ∨ c = 92 := by
  have e : ∀ m : UInt8, c.toNat = m.toNat → c = m := fun m hm => UInt8.toNat_inj.1 hm
  unfold named at h
  by_cases h0 : c.toNat = 7; · exact .inl (e 7 h0)
  by_cases h1 : c.toNat = 8; · exact .inr (.inl (e 8 h1))
  by_cases h2 : c.toNat = 9; · exact .inr (.inr (.inl (e 9 h2)))
  by_cases h3 : c.toNat = 10; · exact .inr (.inr (.inr (.inl (e 10 h3))))
  by_cases h4 : c.toNat = 11; · exact .inr (.inr (.inr (.inr (.inl (e 11 h4)))))
  by_cases h5 : c.toNat = 12; · exact .inr (.inr (.inr (.inr (.inr (.inl (e 12 h5))))))
  by_cases h6 : c.toNat = 13; · exact .inr (.inr (.inr (.inr (.inr (.inr (.inl (e 13 h6)))))))
  by_cases h7 : c.toNat = 34; · exact .inr (.inr (.inr (.inr (.inr (.inr (.inr (.inl (e 34 h7))))))))
  by_cases h8 : c.toNat = 92; · exact .inr (.inr (.inr (.inr (.inr (.inr (.inr (.inr (e 92 h8))))))))
  simp [h0, h1, h2, h3, h4, h5, h6, h7, h8] at h
theorem named_high (c : Nat) (h : 93 ≤ c) : named c = 0 := by
  unfold named
  repeat' split
  all_goals first | rfl | omega

theorem extract_extract (s : ByteArray) (k n m : Nat) (hm : m = (s.extract k s.size).size) (hk : k ≤ s.size) : (s.extract k s.size).extract n m = s.extract (k + n) s.size := by
  subst hm
  have : ∀ a b : ByteArray, a.data.toList = b.data.toList → a = b := fun a b h => by
    cases a with | mk a => cases b with | mk b => simp at h; simp [h]
  apply this
  rw [Lib.extract_data, Lib.extract_data, Lib.extract_data, List.drop_take, List.drop_drop, List.take_take]
  congr 1
  simp; omega
theorem and15u (c : Nat) (h : c < 256) : bits BinOp.and IntKind.u8 (c : Int) 15 = ((c % 16 : Nat) : Int) :=
  (show ∀ c : Fin 256, bits BinOp.and IntKind.u8 (c.val : Int) 15 = ((c.val % 16 : Nat) : Int) by decide +kernel) ⟨c, h⟩
/-- the relation at the round's end -/
def RelQ (T : Lib.PrintTabs) (s : ByteArray) (w : World) (R : List UInt8) (v : Value) (k : Nat) (wr : World) : Prop :=
  ∃ (f : Nat) (l : List UInt8), k ≤ s.size ∧ s.size ≤ k + f ∧ l.length ≤ 10 * k + 2 ∧ Owns wr (w.heap.size + 1) v l ∧ Tmp w wr ∧ l ++ pieces (Lib.isPrintR T) s f k = R
theorem relq_next {T : Lib.PrintTabs} {s : ByteArray} {w : World} {R l : List UInt8} {v : Value} {k f : Nat} {wr : World} (hlt : k < s.size) (hkf : s.size ≤ k + f) (hl : l.length ≤ 10 * k + 2)
    (hf : l ++ pieces (Lib.isPrintR T) s f k = R) (l' : List UInt8) (hx : l' = l ++ piece (Lib.isPrintR T) s k) (hown : Owns wr (w.heap.size + 1) v l') (hT : Tmp w wr) : RelQ T s w R v (k + width s k) wr := by
  have w1 := width_pos s k
  have w2 := width_le s k hlt
  have hp := piece_length (Lib.isPrintR T) s k
  subst hx
  cases f with
  | zero => omega
  | succ f => exact ⟨f, l ++ piece (Lib.isPrintR T) s k, w2, by omega, by rw [List.length_append]; omega, hown, hT, piece_step hlt hf⟩

set_option maxHeartbeats 4000000 in
set_option maxRecDepth 1000000 in
theorem quote_any (T : Lib.PrintTabs) (s : ByteArray) (b : Bool) (w : World) (hs : s.size ≤ 2147483647) (hL : Laid T w) :
    Calls Tryd.prog 32 #[.string s, .bool b] w fun e w' => e = .returned (.string ⟨(head b ++ pieces (Lib.isPrintR T) s s.size 0 ++ [34]).toArray⟩) ∧ Below w.heap.size w w' := by
  obtain ⟨R, hR⟩ : ∃ R, head b ++ pieces (Lib.isPrintR T) s s.size 0 = R := ⟨_, rfl⟩
  rw [hR]
  have hR' := Lib.hid hR
  clear hR
  obtain ⟨i0, hi, hz0, hz1, hz2⟩ := info_parts info_u8
  have hs0 : s.extract 0 s.size = s := by simp
  obtain ⟨w1, hw1⟩ : ∃ w1, w.alloc (.cells #[.int .u8 0, .int .u8 0, .int .u8 0, .int .u8 0] 71) = w1 := ⟨_, rfl⟩
  have hT1 : Tmp w w1 := by
    subst hw1
    refine ⟨(Below.refl _ _).alloc (Nat.le_refl _) _, by simp, fun _ => .int .u8 0, _, heap_alloc_new w _, rfl, fun i hi => ?_⟩
    obtain rfl | rfl | rfl | rfl : i = 0 ∨ i = 1 ∨ i = 2 ∨ i = 3 := by omega
    all_goals rfl
  go_enter Tryd.func32, Tryd.ntmps32
  go_upto_if 17 with (at_make; refine wpList_make_own _ rfl _ _ 36 rfl (w.heap.size + 1) 5 i0 (.int .u8 0) 1 Tryd.underlying36 hi hz0 hz1 .i64 .i64 _ (3 * s.size / 2) rfl rfl (by omega) (by rw [hz2]; omega) (by unfold maxLen; omega) hT1.here ?_; intro w2 hown2 hg2; have hT2 : Tmp w w2 := hT1.later ((Below.refl _ _).grown hg2 hT1.here (fun k hk => by simp at hk)); have hown2' : Owns w2 (w.heap.size + 1) _ [] := hown2; clear hown2 hg2)
  go_cut [6] (fun v wr => Tmp w wr ∧ Owns wr (w.heap.size + 1) v (if b then [98] else []))
  case first =>
    cases b
    · go_wp2_with fail
      go_meet
      exact ⟨hT2, hown2'⟩
    · go_wp2_with (at_builtin; refine wpList_byte (B := w.heap.size + 1) rfl _ _ rfl _ _ rfl hown2' (Below.refl _ _) hT2.here 98 rfl (by simp) ?_; intro v' w3 hown3 hb3; have hT3 := hT2.later hb3)
      go_meet
      exact ⟨hT3, hown3⟩
  case rest =>
    clear hown2' hT2
    obtain ⟨hT2, hown2⟩ := hcut
    obtain ⟨l0, hl0⟩ : ∃ l0 : List UInt8, (if b then [98] else []) = l0 := ⟨_, rfl⟩
    have hhd : l0 ++ [34] = head b := by rw [← hl0]; cases b <;> rfl
    have hll : l0.length ≤ 1 := by rw [← hl0]; cases b <;> simp
    rw [hl0] at hown2
    have hhd' := Lib.hid hhd
    clear hl0 hhd
    go_wp2_with (at_builtin; refine wpList_byte (B := w.heap.size + 1) rfl _ _ rfl _ _ rfl hown2 (Below.refl _ _) hT2.here 34 rfl (by omega) ?_; intro v' w3 hown3 hb3; have hT3 := hT2.later hb3)
    go_loopw [0, 6, 7] (fun x v _ wr => ∃ (k : Nat), x = .string (s.extract k s.size) ∧ RelQ T s w R v k wr) (fun x _ _ _ => match x with | .string t => t.size | _ => 0)
    case atStart =>
      exact ⟨0, by rw [hs0], s.size, _, Nat.zero_le _, by omega, by rw [List.length_append]; simp; omega, hown3, hT3, by rw [hhd'.out]; exact hR'.out⟩
    case round =>
      clear hown3 hT3 hown2 hT2 hT1 hw1
      obtain ⟨k, rfl, f, l, hk, hkf, hl, hown, hT, hf⟩ := hrel
      have hf' := Lib.hid hf
      clear hf
      by_cases hlt : k < s.size
      · have hL0 := hL
        have hL := Lib.hid (hL.later hT.below)
        have w1 := width_pos s k
        have w2 := width_le s k hlt
        have r1 := rune_le s k
        obtain ⟨c, hc⟩ : ∃ c, s[k] = c := ⟨_, rfl⟩
        have hat := Lib.hid ((at_get s k hlt).trans (congrArg UInt8.toNat hc))
        obtain ⟨X, hX⟩ : ∃ X, s.extract k s.size = X := ⟨_, rfl⟩
        have hXs : X.size = s.size - k := by rw [← hX]; simp
        have hX0 : 0 < X.size := by omega
        have hXc : X[0] = c := by subst hX; rw [← hc]; simp only [ByteArray.getElem_extract, Nat.add_zero]
        have hnext := Lib.hid fun n (hn : n = X.size) => (congrArg (fun q : ByteArray => q.extract (width s k) n) hX).symm.trans (extract_extract s k (width s k) n (by rw [hn, hX]) hk)
        have hdec := Lib.hid fun w h => hX ▸ decode_any s k hlt w h
        rw [hX]
        have hXs' := Lib.hid hXs
        have hcl := UInt8.toNat_lt c
        clear hc hX
        by_cases h128 : c.toNat < 128
        · obtain ⟨hr, hw⟩ := ascii_rune s k (by rw [hat.out]; exact h128)
          rw [hat.out] at hr
          by_cases hn : named c.toNat = 0
          · obtain ⟨n7, n8, n9, n10, n11, n12, n13, n34, n92⟩ := unnamed hn
            by_cases hp : 32 ≤ c.toNat ∧ c.toNat ≤ 126
            · as_aux_lemma =>
              have hE0 := piece_printed (T := T) hlt hat hn (by omega) (by rw [hr]; exact latin_yes T _ hp)
              rw [hr] at hE0
              obtain ⟨E, hE⟩ : ∃ E, Lib.encodeRune (c.toNat : Nat) = E := ⟨_, rfl⟩
              have hE4 : E.length ≤ 4 := by rw [← hE, ← Lib.runeCells_length]; exact (Lib.runeCells_le _).2
              have hsl := slice_tmp w.heap.size E.length hE4
              rw [hE] at hE0
              have hE1 := Lib.hid hE0
              have hE2 := Lib.hid hE
              clear hE0 hE
              rw [hw] at hnext
              have g1 : ((c.toNat : Int) == 34) = false := by simp; omega
              have g2 : ((c.toNat : Int) == 92) = false := by simp; omega
              go_wp2_with (first
                | (go_at_call 34; refine (isp_any T _ (by omega) _ (Laid.prints (hL0.later (Tmp.below (w := w) (by assumption))))).mono ?_; rintro e w4 ⟨rfl, hb4⟩; rw [latin_yes T _ hp]; have hown4 := Owns.later (l := l) (B := w.heap.size + 1) (by assumption) hb4; have hT4 := Tmp.later (w := w) (by assumption) (hb4.mono (Tmp.here (w := w) (by assumption))))
                | (go_at_call 45; refine (enc_any c.toNat (by omega) w _ (by assumption) _ l (by assumption)).mono ?_; rintro e w5 ⟨rfl, hT5, hown5, hcells⟩; rw [hE2.out] at hcells ⊢; have hcells' := Lib.hid hcells; clear hcells)
                | (at_builtin; refine wpList_bytes (B := w.heap.size + 1) rfl _ _ rfl _ _ rfl (by assumption) (Below.refl _ _) (Tmp.here (w := w) (by assumption)) E ⟨w.heap.size, 0, none⟩ E.length 4 rfl rfl hcells'.out (by omega) ?_; intro v' w3 hown3 hb3; have hT3 := Tmp.later (w := w) (by assumption) hb3))
              go_roundw
              case rel => exact ⟨k + width s k, by rw [hw]; exact congrArg Value.string (hnext.out _ hXs'.out.symm), relq_next hlt hkf hl hf'.out _ (by rw [← hE1.out]) (by assumption) (by assumption)⟩
              case measure => simp; omega
            · as_aux_lemma =>
              obtain ⟨D1, hD1⟩ : ∃ D, c.toNat / 16 = D := ⟨_, rfl⟩
              obtain ⟨D2, hD2⟩ : ∃ D, c.toNat % 16 = D := ⟨_, rfl⟩
              have q1 : D1 < 16 := by omega
              have q2 : D2 < 16 := by omega
              have q3 : (D1 : Int) < 16 := by omega
              have q4 : (D2 : Int) < 16 := by omega
              have e1 : (c.toNat : Int) / 16 = D1 := by omega
              have e2 : bits BinOp.and IntKind.u8 (c.toNat : Int) 15 = D2 := by rw [← hD2]; exact and15u c.toNat hcl
              have hD1' := Lib.hid hD1
              have hD2' := Lib.hid hD2
              clear hD1 hD2
              have hbad' : Hid (c.toNat < 32 ∨ c.toNat = 127 ∨ rune s k = 65533 ∧ width s k < 2) := Lib.hid (by omega)
              have hno := Lib.hid (latin_no T c.toNat (by omega))
              rw [hw] at hnext
              have g34 : ((c.toNat : Int) == 34) = false := by simp; omega
              have g92 : ((c.toNat : Int) == 92) = false := by simp; omega
              have g7 : ((c.toNat : Int) == 7) = false := by simp; omega
              have g8 : ((c.toNat : Int) == 8) = false := by simp; omega
              have g12 : ((c.toNat : Int) == 12) = false := by simp; omega
              have g10 : ((c.toNat : Int) == 10) = false := by simp; omega
              have g13 : ((c.toNat : Int) == 13) = false := by simp; omega
              have g9 : ((c.toNat : Int) == 9) = false := by simp; omega
              have g11 : ((c.toNat : Int) == 11) = false := by simp; omega
              rcases (show c.toNat < 32 ∨ (32 ≤ c.toNat ∧ ((c.toNat : Int) == 127) = true) by (rcases (show c.toNat < 32 ∨ c.toNat = 127 by omega) with h | h; exact .inl h; exact .inr ⟨by omega, by simp; omega⟩)) with h | ⟨h, h127⟩
              all_goals
                go_wp2_with (first | (go_at_call 34; refine (isp_any T _ (by omega) _ (Laid.prints (hL0.later (Tmp.below (w := w) (by assumption))))).mono ?_; rintro e w4 ⟨rfl, hb4⟩; rw [hno.out]; have hown4 := Owns.later (l := l) (B := w.heap.size + 1) (by assumption) hb4; have hT4 := Tmp.later (w := w) (by assumption) (hb4.mono (Tmp.here (w := w) (by assumption)))) | (at_builtin; refine wpList_text (B := w.heap.size + 1) rfl _ _ rfl _ _ rfl (by assumption) (Below.refl _ _) (Tmp.here (w := w) (by assumption)) _ rfl (by show l.length + 2 ≤ _; omega) ?_; intro v' w3 hown3 hb3; have hT3 := Tmp.later (w := w) (by assumption) hb3) | (at_builtin; refine wpList_byte (B := w.heap.size + 1) rfl _ _ rfl _ _ rfl (by assumption) (Below.refl _ _) (Tmp.here (w := w) (by assumption)) _ rfl (by first | omega | (simp; omega)) ?_; intro v' w3 hown3 hb3; have hT3 := Tmp.later (w := w) (by assumption) hb3))
                go_roundw
                case rel =>
                  refine ⟨k + width s k, by rw [hw]; exact congrArg Value.string (hnext.out _ hXs'.out.symm), relq_next hlt hkf hl hf'.out _ ?_ (by assumption) (by assumption)⟩
                  rw [← piece_bad (T := T) w1 hat hn hbad' q1 q2 hD1' hD2', List.append_assoc, List.append_assoc]; rfl
                case measure => simp; omega
          · have hcs := named_cases hn
            have hpc := Lib.hid (piece_named (T := T) hat hn)
            rw [hw] at hnext
            rcases hcs with rfl | rfl | rfl | rfl | rfl | rfl | rfl | rfl | rfl
            all_goals as_aux_lemma =>
              go_wp2_with (first
                | (go_at_call 34; refine (isp_any T _ (by decide) _ (Laid.prints (hL0.later (Tmp.below (w := w) (by assumption))))).mono ?_; rintro e w4 ⟨rfl, hb4⟩; rw [latin_no T _ (by decide)]; have hown4 := Owns.later (l := l) (B := w.heap.size + 1) (by assumption) hb4; have hT4 := Tmp.later (w := w) (by assumption) (hb4.mono (Tmp.here (w := w) (by assumption))))
                | (at_builtin; (first | refine wpList_byte (B := w.heap.size + 1) rfl _ _ rfl _ _ rfl (by assumption) (Below.refl _ _) (Tmp.here (w := w) (by assumption)) 92 rfl (by first | omega | (simp; omega)) ?_ | refine wpList_byte (B := w.heap.size + 1) rfl _ _ rfl _ _ rfl (by assumption) (Below.refl _ _) (Tmp.here (w := w) (by assumption)) 34 rfl (by first | omega | (simp; omega)) ?_ | refine wpList_byte (B := w.heap.size + 1) rfl _ _ rfl _ _ rfl (by assumption) (Below.refl _ _) (Tmp.here (w := w) (by assumption)) _ rfl (by first | omega | (simp; omega)) ?_); intro v' w3 hown3 hb3; have hT3 := Tmp.later (w := w) (by assumption) hb3)
                | (at_builtin; refine wpList_text (B := w.heap.size + 1) rfl _ _ rfl _ _ rfl (by assumption) (Below.refl _ _) (Tmp.here (w := w) (by assumption)) _ rfl (by show l.length + 2 ≤ _; omega) ?_; intro v' w3 hown3 hb3; have hT3 := Tmp.later (w := w) (by assumption) hb3))
              go_roundw
              case rel =>
                refine ⟨k + width s k, by rw [hw]; exact congrArg Value.string (hnext.out _ hXs'.out.symm), relq_next hlt hkf hl hf'.out _ ?_ (by assumption) (by assumption)⟩
                first | (rw [hpc.out]; done) | (rw [hpc.out, List.append_assoc]; rfl) | (rw [hpc.out]; rfl)
              case measure => simp; omega
        · have hn := named_high c.toNat (by omega)
          have hr128 := high_rune s k (by rw [hat.out]; omega)
          have hwb := width_bad s k (by rw [hat.out]; omega)
          by_cases hbad : rune s k = 65533 ∧ width s k < 2
          · as_aux_lemma =>
              have hbad' : Hid (c.toNat < 32 ∨ c.toNat = 127 ∨ rune s k = 65533 ∧ width s k < 2) := Lib.hid (.inr (.inr hbad))
              obtain ⟨D1, hD1⟩ : ∃ D, c.toNat / 16 = D := ⟨_, rfl⟩
              obtain ⟨D2, hD2⟩ : ∃ D, c.toNat % 16 = D := ⟨_, rfl⟩
              have q1 : D1 < 16 := by omega
              have q2 : D2 < 16 := by omega
              have hpb := Lib.hid (piece_bad (T := T) w1 hat hn hbad' q1 q2 (Lib.hid hD1) (Lib.hid hD2))
              have q3 : (D1 : Int) < 16 := by omega
              have q4 : (D2 : Int) < 16 := by omega
              have e1 : (c.toNat : Int) / 16 = D1 := by omega
              have e2 : bits BinOp.and IntKind.u8 (c.toNat : Int) 15 = D2 := by rw [← hD2]; exact and15u c.toNat hcl
              have hw : width s k = 1 := by omega
              rw [hbad.1, hw] at hdec
              rw [hw] at hnext
              clear hD1 hD2 hwb hr128 hbad
              go_wp2_with (first | (go_at_call 24; refine (hdec.out _ hL.out.tabs).mono ?_; rintro e w2' ⟨rfl, hb2'⟩; have hown2' := Owns.later hown hb2'; have hT2' := Tmp.later (w := w) hT (hb2'.mono hT.here)) | (at_builtin; refine wpList_text (B := w.heap.size + 1) rfl _ _ rfl _ _ rfl (by assumption) (Below.refl _ _) (Tmp.here (w := w) (by assumption)) _ rfl (by show l.length + 2 ≤ _; omega) ?_; intro v' w3 hown3 hb3; have hT3 := Tmp.later (w := w) (by assumption) hb3) | (at_builtin; refine wpList_byte (B := w.heap.size + 1) rfl _ _ rfl _ _ rfl (by assumption) (Below.refl _ _) (Tmp.here (w := w) (by assumption)) _ rfl (by first | omega | (simp; omega)) ?_; intro v' w3 hown3 hb3; have hT3 := Tmp.later (w := w) (by assumption) hb3))
              go_roundw
              case rel =>
                refine ⟨k + width s k, by rw [hw]; exact congrArg Value.string (hnext.out _ hXs'.out.symm), relq_next hlt hkf hl hf'.out _ ?_ (by assumption) (by assumption)⟩
                rw [← hpb.out, List.append_assoc, List.append_assoc]; rfl
              case measure => simp; omega
          · have hbadc : ¬ (c.toNat < 32 ∨ c.toNat = 127 ∨ rune s k = 65533 ∧ width s k < 2) := by omega
            have hn2 : 2 ≤ width s k := by omega
            have g1 : ((width s k : Int) == 1) = false := by simp; omega
            have g34 : ((rune s k : Int) == 34) = false := by simp; omega
            have g92 : ((rune s k : Int) == 92) = false := by simp; omega
            have hpp := Lib.hid (fun hp => piece_printed (T := T) hlt hat hn hbadc hp)
            have hpc := Lib.hid (fun hp => piece_coded (T := T) hat hn hbadc hp)
            obtain ⟨n, hnw⟩ : ∃ n, width s k = n := ⟨_, rfl⟩
            obtain ⟨r, hrr⟩ : ∃ r, rune s k = r := ⟨_, rfl⟩
            rw [hnw, hrr] at hdec
            rw [hnw] at hnext hn2 g1 w1 w2
            rw [hrr] at r1 hr128 g34 g92 hpp hpc
            have hnw' := Lib.hid hnw
            clear hnw hrr hbad hbadc hwb
            by_cases hpr : Lib.isPrintR T r = true
            · as_aux_lemma =>
                have hpr' := Lib.hid hpr
                have hE0 := hpp.out hpr
                obtain ⟨E, hE⟩ : ∃ E, Lib.encodeRune (r : Nat) = E := ⟨_, rfl⟩
                have hE4 : E.length ≤ 4 := by rw [← hE, ← Lib.runeCells_length]; exact (Lib.runeCells_le _).2
                have hsl := slice_tmp w.heap.size E.length hE4
                rw [hE] at hE0
                have hE1 := Lib.hid hE0
                have hE2 := Lib.hid hE
                clear hE0 hE hpr hpp hpc
                go_wp2_with (first
                  | (go_at_call 24; refine (hdec.out _ hL.out.tabs).mono ?_; rintro e w2' ⟨rfl, hb2'⟩; have hown2' := Owns.later hown hb2'; have hT2' := Tmp.later (w := w) hT (hb2'.mono hT.here))
                  | (go_at_call 34; refine (isp_any T _ (by omega) _ (Laid.prints (hL0.later (Tmp.below (w := w) (by assumption))))).mono ?_; rintro e w4 ⟨rfl, hb4⟩; rw [hpr'.out]; have hown4 := Owns.later (l := l) (B := w.heap.size + 1) (by assumption) hb4; have hT4 := Tmp.later (w := w) (by assumption) (hb4.mono (Tmp.here (w := w) (by assumption))))
                  | (go_at_call 45; refine (enc_any r (by omega) w _ (by assumption) _ l (by assumption)).mono ?_; rintro e w5 ⟨rfl, hT5, hown5, hcells⟩; rw [hE2.out] at hcells ⊢; have hcells' := Lib.hid hcells; clear hcells)
                  | (at_builtin; refine wpList_bytes (B := w.heap.size + 1) rfl _ _ rfl _ _ rfl (by assumption) (Below.refl _ _) (Tmp.here (w := w) (by assumption)) E ⟨w.heap.size, 0, none⟩ E.length 4 rfl rfl hcells'.out (by omega) ?_; intro v' w3 hown3 hb3; have hT3 := Tmp.later (w := w) (by assumption) hb3))
                go_roundw
                case rel =>
                  refine ⟨k + width s k, by rw [hnw'.out]; exact congrArg Value.string (hnext.out _ hXs'.out.symm), relq_next hlt hkf hl hf'.out _ ?_ (by assumption) (by assumption)⟩
                  rw [← hE1.out]
                case measure => simp; omega
            · have hpf : Lib.isPrintR T r = false := by simpa using hpr
              have hpf' := Lib.hid hpf
              have hpc' := Lib.hid (hpc.out hpf)
              have g7 : ((r : Int) == 7) = false := by simp; omega
              have g8 : ((r : Int) == 8) = false := by simp; omega
              have g12 : ((r : Int) == 12) = false := by simp; omega
              have g10 : ((r : Int) == 10) = false := by simp; omega
              have g13 : ((r : Int) == 13) = false := by simp; omega
              have g9 : ((r : Int) == 9) = false := by simp; omega
              have g11 : ((r : Int) == 11) = false := by simp; omega
              have g32 : decide ((r : Int) < 32) = false := by simp; omega
              have g127 : ((r : Int) == 127) = false := by simp; omega
              have gmx : decide (1114111 < (r : Int)) = false := by simp; omega
              clear hpr hpf hpp hpc
              by_cases hbig : 65535 < r
              · as_aux_lemma =>
                  have gb : decide ((r : Int) < 65536) = false := by simp; omega
                  have hcd : coded r = [92, 85] ++ digs r 8 := by unfold coded; rw [if_pos hbig]
                  rw [hcd] at hpc'
                  clear hcd
                  go_wp2_with (first | (go_at_call 24; refine (hdec.out _ hL.out.tabs).mono ?_; rintro e w2' ⟨rfl, hb2'⟩; have hown2' := Owns.later hown hb2'; have hT2' := Tmp.later (w := w) hT (hb2'.mono hT.here)) | (go_at_call 34; refine (isp_any T _ (by omega) _ (Laid.prints (hL0.later (Tmp.below (w := w) (by assumption))))).mono ?_; rintro e w4 ⟨rfl, hb4⟩; rw [hpf'.out]; have hown4 := Owns.later (l := l) (B := w.heap.size + 1) (by assumption) hb4; have hT4 := Tmp.later (w := w) (by assumption) (hb4.mono (Tmp.here (w := w) (by assumption)))) | (at_builtin; refine wpList_text (B := w.heap.size + 1) rfl _ _ rfl _ _ rfl (by assumption) (Below.refl _ _) (Tmp.here (w := w) (by assumption)) _ rfl (by show l.length + 2 ≤ _; omega) ?_; intro v' w3 hown3 hb3; have hT3 := Tmp.later (w := w) (by assumption) hb3))
                  go_loopw [6, 11] (fun v i wr => ∃ m : Nat, m ≤ 8 ∧ i = .int .i64 (4 * (m : Int) - 4) ∧ Owns wr (w.heap.size + 1) v ((l ++ [92, 85]) ++ (List.range (8 - m)).map fun j => hexd (r / 16 ^ (8 - 1 - j) % 16)) ∧ Tmp w wr) (fun _ i _ => (intOf i + 4).toNat)
                  case atStart => exact ⟨8, Nat.le_refl _, rfl, hown3.eq (by simp), hT3⟩
                  case round =>
                    obtain ⟨m, hm, rfl, hownm, hTm⟩ := hrel
                    cases m with
                    | succ j =>
                      have e : 4 * ((j + 1 : Nat) : Int) - 4 = 4 * (j : Int) := by omega
                      rw [e]
                      have ha := and15 r j r1
                      obtain ⟨D, hD⟩ : ∃ D, r / 16 ^ j % 16 = D := ⟨_, rfl⟩
                      have hD16 : D < 16 := by rw [← hD]; exact Nat.mod_lt _ (by decide)
                      rw [hD] at ha
                      have hD' := Lib.hid hD
                      clear hD e
                      go_wp2_with (at_builtin; refine wpList_byte (B := w.heap.size + 1) rfl _ _ rfl _ _ rfl hownm (Below.refl _ _) hTm.here _ rfl (by simp; omega) ?_; intro v' w6 hown6 hb6; have hT6 := hTm.later hb6)
                      go_roundw
                      case rel =>
                        refine ⟨j, by omega, by go_num, hown6.eq ?_, hT6⟩
                        rw [hex_get D hD16, ← hD'.out, show 8 - j = (8 - (j + 1)) + 1 by omega, List.range_succ, List.map_append, List.append_assoc _ _ [_]]
                        simp [show 8 - 1 - (8 - 1 - j) = j by omega]
                      case measure => simp [intOf]; omega
                    | zero =>
                      go_wp2
                      go_roundw
                      case rel =>
                        refine ⟨k + width s k, by rw [hnw'.out]; exact congrArg Value.string (hnext.out _ hXs'.out.symm), relq_next hlt hkf hl hf'.out _ ?_ hownm hTm⟩
                        rw [← hpc'.out, List.append_assoc]; rfl
                      case measure => simp; omega
              · as_aux_lemma =>
                  have gb : decide ((r : Int) < 65536) = true := by simp; omega
                  have hcd : coded r = [92, 117] ++ digs r 4 := by unfold coded; rw [if_neg hbig]
                  rw [hcd] at hpc'
                  clear hcd
                  go_wp2_with (first | (go_at_call 24; refine (hdec.out _ hL.out.tabs).mono ?_; rintro e w2' ⟨rfl, hb2'⟩; have hown2' := Owns.later hown hb2'; have hT2' := Tmp.later (w := w) hT (hb2'.mono hT.here)) | (go_at_call 34; refine (isp_any T _ (by omega) _ (Laid.prints (hL0.later (Tmp.below (w := w) (by assumption))))).mono ?_; rintro e w4 ⟨rfl, hb4⟩; rw [hpf'.out]; have hown4 := Owns.later (l := l) (B := w.heap.size + 1) (by assumption) hb4; have hT4 := Tmp.later (w := w) (by assumption) (hb4.mono (Tmp.here (w := w) (by assumption)))) | (at_builtin; refine wpList_text (B := w.heap.size + 1) rfl _ _ rfl _ _ rfl (by assumption) (Below.refl _ _) (Tmp.here (w := w) (by assumption)) _ rfl (by show l.length + 2 ≤ _; omega) ?_; intro v' w3 hown3 hb3; have hT3 := Tmp.later (w := w) (by assumption) hb3))
                  go_loopw [6, 10] (fun v i wr => ∃ m : Nat, m ≤ 4 ∧ i = .int .i64 (4 * (m : Int) - 4) ∧ Owns wr (w.heap.size + 1) v ((l ++ [92, 117]) ++ (List.range (4 - m)).map fun j => hexd (r / 16 ^ (4 - 1 - j) % 16)) ∧ Tmp w wr) (fun _ i _ => (intOf i + 4).toNat)
                  case atStart => exact ⟨4, Nat.le_refl _, rfl, hown3.eq (by simp), hT3⟩
                  case round =>
                    obtain ⟨m, hm, rfl, hownm, hTm⟩ := hrel
                    cases m with
                    | succ j =>
                      have e : 4 * ((j + 1 : Nat) : Int) - 4 = 4 * (j : Int) := by omega
                      rw [e]
                      have ha := and15 r j r1
                      obtain ⟨D, hD⟩ : ∃ D, r / 16 ^ j % 16 = D := ⟨_, rfl⟩
                      have hD16 : D < 16 := by rw [← hD]; exact Nat.mod_lt _ (by decide)
                      rw [hD] at ha
                      have hD' := Lib.hid hD
                      clear hD e
                      go_wp2_with (at_builtin; refine wpList_byte (B := w.heap.size + 1) rfl _ _ rfl _ _ rfl hownm (Below.refl _ _) hTm.here _ rfl (by simp; omega) ?_; intro v' w6 hown6 hb6; have hT6 := hTm.later hb6)
                      go_roundw
                      case rel =>
                        refine ⟨j, by omega, by go_num, hown6.eq ?_, hT6⟩
                        rw [hex_get D hD16, ← hD'.out, show 4 - j = (4 - (j + 1)) + 1 by omega, List.range_succ, List.map_append, List.append_assoc _ _ [_]]
                        simp [show 4 - 1 - (4 - 1 - j) = j by omega]
                      case measure => simp [intOf]; omega
                    | zero =>
                      go_wp2
                      go_roundw
                      case rel =>
                        refine ⟨k + width s k, by rw [hnw'.out]; exact congrArg Value.string (hnext.out _ hXs'.out.symm), relq_next hlt hkf hl hf'.out _ ?_ hownm hTm⟩
                        rw [← hpc'.out, List.append_assoc]; rfl
                      case measure => simp; omega
      · go_wp2_with (at_builtin; refine wpList_byte (B := w.heap.size + 1) rfl _ _ rfl _ _ rfl hown (Below.refl _ _) hT.here 34 rfl (by omega) ?_; intro v' w3 hown3 hb3; have hT3 := hT.later hb3; have hcv := hown3.conv)
        go_ret
        have hf := hf'.out
        rw [pieces_end _ _ _ _ hlt, List.append_nil] at hf
        subst hf
        exact ⟨rfl, hT3.below⟩
end Go.Proofs.YtnenjlgpdejfaaaDoor.Quo
