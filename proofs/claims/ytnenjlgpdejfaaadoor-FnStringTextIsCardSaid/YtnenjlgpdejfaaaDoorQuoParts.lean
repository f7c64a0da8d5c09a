/-
  The literal of a text: the walks of its small parts.
-/
import Derived.Test.YtnenjlgpdejfaaaDoorBytes
import Derived.Test.YtnenjlgpdejfaaaDoorQuoLaw
import Derived.LoopTactic
import Derived.Outline
import Derived.WalkSpells
import Derived.WalkLawsBesides
import Derived.Lib.Hide
import Derived.Lib.Strings
import Derived.OpenShut
import Derived.Deep.QuietTactic
import Derived.BigQuiet
namespace Go.Proofs.YtnenjlgpdejfaaaDoor.Quo
open Go.RowKit Go.WideShapes Go.Proofs.YtnenjlgpdejfaaaDoor.Utf Go.Proofs.YtnenjlgpdejfaaaDoor.Own
set_option linter.unusedVariables false

theorem get_one (s : ByteArray) (k : Nat) (hk : k < s.size) : (s.extract k (k + 1)).toList = [s.get! k] := by
  rw [Lib.toList_data, Lib.extract_data, show k + 1 - k = 1 by omega, List.take_one]
  have h2 : k < s.data.toList.length := by simpa using hk
  rw [List.head?_drop, List.getElem?_eq_getElem h2]
  have : s.get! k = s.data.toList[k] := by
    have := Lib.getD_get!' s k
    rw [← this, List.getD_eq_getElem?_getD, List.getElem?_eq_getElem h2]
    rfl
  rw [this]; rfl

def names : ByteArray := ⟨#[7, 8, 12, 10, 13, 9, 11, 34, 92]⟩
def pos (c : Nat) : Int :=
  if c = 7 then 0 else if c = 8 then 1 else if c = 12 then 2 else if c = 10 then 3 else if c = 13 then 4 else if c = 9 then 5 else if c = 11 then 6 else if c = 34 then 7 else if c = 92 then 8 else -1
theorem names_get (k : Nat) (hk : k < 9) : pos (names.get! k).toNat = k := by
  obtain rfl | rfl | rfl | rfl | rfl | rfl | rfl | rfl | rfl : k = 0 ∨ k = 1 ∨ k = 2 ∨ k = 3 ∨ k = 4 ∨ k = 5 ∨ k = 6 ∨ k = 7 ∨ k = 8 := by omega
  all_goals decide
theorem pos_none (b : UInt8) (h : ∀ j, j < 9 → names.get! j ≠ b) : pos b.toNat = -1 := by
  have h0 := h 0 (by decide); have h1 := h 1 (by decide); have h2 := h 2 (by decide); have h3 := h 3 (by decide); have h4 := h 4 (by decide)
  have h5 := h 5 (by decide); have h6 := h 6 (by decide); have h7 := h 7 (by decide); have h8 := h 8 (by decide)
  simp only [names, ByteArray.get!] at h0 h1 h2 h3 h4 h5 h6 h7 h8
  have n : ∀ m : UInt8, m ≠ b → m.toNat ≠ b.toNat := fun m hm e => hm (UInt8.toNat_inj.1 e)
  have g0 := n _ h0; have g1 := n _ h1; have g2 := n _ h2; have g3 := n _ h3; have g4 := n _ h4; have g5 := n _ h5; have g6 := n _ h6; have g7 := n _ h7; have g8 := n _ h8
  simp at g0 g1 g2 g3 g4 g5 g6 g7 g8
  unfold pos
  simp [Ne.symm g0, Ne.symm g1, Ne.symm g2, Ne.symm g3, Ne.symm g4, Ne.symm g5, Ne.symm g6, Ne.symm g7, Ne.symm g8]

theorem place_any (b : UInt8) (w : World) :
    Calls Tryd.prog 33 #[.string names, .string ⟨#[b]⟩] w fun e w' => e = .returned (.int .i64 (pos b.toNat)) ∧ w = w' := by
  have hsz : names.size = 9 := rfl
  have hb1 : (⟨#[b]⟩ : ByteArray).size = 1 := rfl
  obtain ⟨N, hN⟩ : ∃ N, names = N := ⟨_, rfl⟩
  rw [hN] at hsz ⊢
  have hg := fun k => get_one N k
  obtain ⟨S, hS⟩ : ∃ S : ByteArray, ⟨#[b]⟩ = S := ⟨_, rfl⟩
  have hST : S.toList = [b] := by rw [← hS, Lib.toList_data]
  rw [hS] at hb1 ⊢
  have hg' := Lib.hid hg
  have hS' := Lib.hid hS
  have hN' := Lib.hid hN
  clear hg hS hN
  have hsz' := Lib.hid hsz
  clear hsz
  have hle : N.size ≤ 9 := by rw [hsz'.out]; exact Nat.le_refl _
  go_enter Tryd.func33, Tryd.ntmps33
  go_wp2
  go_loop [5] (fun i => ∃ k : Nat, k ≤ N.size ∧ i = .int .i64 k ∧ Hid (∀ j, j < k → N.get! j ≠ b)) (fun i => 10 - (intOf i).toNat)
  case atStart => exact ⟨0, by omega, rfl, fun j hj => by omega⟩
  case round =>
    obtain ⟨k, hk, rfl, hno⟩ := hrel
    by_cases hlt : k < N.size
    · have hgk := hg'.out k hlt
      go_wp2
      · have he : (N.get! k == b) = true := by assumption
        go_ret
        refine ⟨?_, rfl⟩
        have hk9 : k < 9 := by rw [← hsz'.out]; exact hlt
        have : pos b.toNat = k := by
          have e := eq_of_beq he
          rw [← e, ← hN'.out]
          exact names_get k hk9
        rw [this]; rfl
      · have he : (N.get! k == b) = false := by assumption
        go_round
        case rel =>
          refine ⟨k + 1, by omega, by go_num, fun j hj => ?_⟩
          rcases Nat.lt_or_ge j k with h | h
          · exact hno.out j h
          · obtain rfl : j = k := by omega
            exact fun e => by rw [e] at he; simp at he
        case measure => simp [intOf]; omega
    · go_wp2
      go_ret
      refine ⟨?_, rfl⟩
      have hk9 : 9 ≤ k := by rw [← hsz'.out]; omega
      have : pos b.toNat = -1 := pos_none b fun j hj => by rw [hN'.out]; exact hno.out j (by omega)
      rw [this]; rfl

theorem hex_get (D : Nat) (h : D < 16) : (⟨#[48, 49, 50, 51, 52, 53, 54, 55, 56, 57, 97, 98, 99, 100, 101, 102]⟩ : ByteArray)[D]'(by exact h) = hexd D := by
  obtain rfl | rfl | rfl | rfl | rfl | rfl | rfl | rfl | rfl | rfl | rfl | rfl | rfl | rfl | rfl | rfl : D = 0 ∨ D = 1 ∨ D = 2 ∨ D = 3 ∨ D = 4 ∨ D = 5 ∨ D = 6 ∨ D = 7 ∨ D = 8 ∨ D = 9 ∨ D = 10 ∨ D = 11 ∨ D = 12 ∨ D = 13 ∨ D = 14 ∨ D = 15 := by omega
  all_goals rfl
theorem and15 (r j : Nat) (h : r ≤ 1114111) : bits BinOp.and IntKind.i32 ((r : Int) / 2 ^ (4 * j)) 15 = ((r / 16 ^ j % 16 : Nat) : Int) := by
  have e : ((r : Int) / 2 ^ (4 * j)) = ((r / 16 ^ j : Nat) : Int) := by
    rw [show (2 : Int) ^ (4 * j) = ((16 ^ j : Nat) : Int) by rw [Int.pow_mul]; simp]
    exact (Int.natCast_ediv _ _).symm
  rw [e]
  have hle : r / 16 ^ j ≤ 1114111 := Nat.le_trans (Nat.div_le_self _ _) h
  obtain ⟨q, hq⟩ : ∃ q, r / 16 ^ j = q := ⟨_, rfl⟩
  rw [hq] at hle ⊢
  have h31 : (2 : Int) ^ 31 = 2147483648 := by decide
  have := bits_mask .i32 31 (by decide) wraps_i32 4 (by decide) (q : Int) (by omega) (by rw [h31]; omega)
  rw [show (2 : Int) ^ 4 - 1 = 15 by decide, show (2 : Int) ^ 4 = 16 by decide] at this
  rw [this]; omega
theorem Owns.lit (w : World) (B : Nat) (l : List UInt8) (hB : B ≤ w.heap.size) (hm : l.length ≤ maxLen) :
    Owns (w.alloc (.cells (bs l).toArray 5)) B (.slice (some ⟨w.heap.size, 0, none⟩) l.length l.length) l := by
  have := World.ownsRow_lit (base := B) (e := 5) (size := 1) w (bs l).toArray l.length hB hm (by simp [bs])
  simpa [Owns] using this

set_option maxRecDepth 100000 in
theorem coded_any (r : Nat) (hr : r ≤ 1114111) (w : World) :
    Calls Tryd.prog 35 #[.int .i32 r] w fun e w' => (∃ v, e = .returned v ∧ Owns w' w.heap.size v (coded r)) ∧ Below w.heap.size w w' := by
  by_cases hbig : 65535 < r
  · have hc : coded r = [92, 85] ++ digs r 8 := by unfold coded; rw [if_pos hbig]
    rw [hc]
    clear hc
    have hd : decide (65535 < (r : Int)) = true := by simp; omega
    go_enter Tryd.func35, Tryd.ntmps35
    go_wp2
    go_loopw [4, 5] (fun v i wr => ∃ m : Nat, m ≤ 8 ∧ i = .int .i64 ((m : Int) - 1) ∧ Owns wr w.heap.size v ([92, 85] ++ (List.range (8 - m)).map fun j => hexd (r / 16 ^ (8 - 1 - j) % 16)) ∧ Below w.heap.size w wr) (fun _ i _ => (intOf i + 1).toNat)
    case atStart => exact ⟨8, by omega, rfl, Owns.lit w _ [92, 85] (Nat.le_refl _) (by decide), (Below.refl _ _).alloc (Nat.le_refl _) _⟩
    case round =>
      obtain ⟨m, hm, rfl, hown, hb⟩ := hrel
      cases m with
      | succ j =>
        have e : ((j + 1 : Nat) : Int) - 1 = j := by omega
        rw [e]
        have ha := and15 r j hr
        obtain ⟨D, hD⟩ : ∃ D, r / 16 ^ j % 16 = D := ⟨_, rfl⟩
        have hD16 : D < 16 := by rw [← hD]; exact Nat.mod_lt _ (by decide)
        rw [hD] at ha
        have hD' := Lib.hid hD
        clear hD
        go_wp2_with (at_builtin; refine wpList_byte rfl _ _ rfl _ _ rfl hown hb (Nat.le_refl _) _ rfl (by simp; omega) ?_; intro v' w1 hown1 hb1)
        go_roundw
        case rel =>
          refine ⟨j, by omega, rfl, hown1.eq ?_, hb1⟩
          rw [hex_get D hD16, ← hD'.out, show 8 - j = (8 - (j + 1)) + 1 by omega, List.range_succ, List.map_append, List.append_assoc]
          simp [show 7 - (7 - j) = j by omega]
        case measure => simp [intOf]
      | zero =>
        go_wp2
        go_ret
        exact ⟨⟨_, rfl, hown⟩, hb⟩
  · have hc : coded r = [92, 117] ++ digs r 4 := by unfold coded; rw [if_neg hbig]
    rw [hc]
    clear hc
    have hd : decide (65535 < (r : Int)) = false := by simp; omega
    go_enter Tryd.func35, Tryd.ntmps35
    go_wp2
    go_loopw [4, 5] (fun v i wr => ∃ m : Nat, m ≤ 4 ∧ i = .int .i64 ((m : Int) - 1) ∧ Owns wr w.heap.size v ([92, 117] ++ (List.range (4 - m)).map fun j => hexd (r / 16 ^ (4 - 1 - j) % 16)) ∧ Below w.heap.size w wr) (fun _ i _ => (intOf i + 1).toNat)
    case atStart => exact ⟨4, by omega, rfl, Owns.lit w _ [92, 117] (Nat.le_refl _) (by decide), (Below.refl _ _).alloc (Nat.le_refl _) _⟩
    case round =>
      obtain ⟨m, hm, rfl, hown, hb⟩ := hrel
      cases m with
      | succ j =>
        have e : ((j + 1 : Nat) : Int) - 1 = j := by omega
        rw [e]
        have ha := and15 r j hr
        obtain ⟨D, hD⟩ : ∃ D, r / 16 ^ j % 16 = D := ⟨_, rfl⟩
        have hD16 : D < 16 := by rw [← hD]; exact Nat.mod_lt _ (by decide)
        rw [hD] at ha
        have hD' := Lib.hid hD
        clear hD
        go_wp2_with (at_builtin; refine wpList_byte rfl _ _ rfl _ _ rfl hown hb (Nat.le_refl _) _ rfl (by simp; omega) ?_; intro v' w1 hown1 hb1)
        go_roundw
        case rel =>
          refine ⟨j, by omega, rfl, hown1.eq ?_, hb1⟩
          rw [hex_get D hD16, ← hD'.out, show 4 - j = (4 - (j + 1)) + 1 by omega, List.range_succ, List.map_append, List.append_assoc]
          simp [show 3 - (3 - j) = j by omega]
        case measure => simp [intOf]
      | zero =>
        go_wp2
        go_ret
        exact ⟨⟨_, rfl, hown⟩, hb⟩
end Go.Proofs.YtnenjlgpdejfaaaDoor.Quo
