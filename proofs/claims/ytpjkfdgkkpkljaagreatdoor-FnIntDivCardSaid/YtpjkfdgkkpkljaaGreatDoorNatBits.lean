/-
  The package's naturals: how many bits one has, its lowest word.
-/
import Derived.Test.YtpjkfdgkkpkljaaGreatDoorNatWord
import Derived.Test.YtpjkfdgkkpkljaaGreatDoorShelf
namespace Go.Proofs.YtpjkfdgkkpkljaaGreatDoor.Nat_
open Go.RowKit Go.WideShapes Go.Proofs.YtpjkfdgkkpkljaaGreatDoor.Own Go.Proofs.YtpjkfdgkkpkljaaGreatDoor.Num Go.Proofs.YtpjkfdgkkpkljaaGreatDoor.Ref
set_option linter.unusedVariables false

theorem IsNat.shape {w : World} {B : Nat} {v : Value} {V : Nat} (h : IsNat w B v V) : (V = 0 ∧ v = .slice none 0 0) ∨ ∃ g cap, v = .slice (some ⟨g, 0, none⟩) (len W V) cap ∧ g < w.heap.size ∧ B ≤ g ∧ len W V ≤ cap ∧ ∀ j, j < len W V → w.cell? ⟨g, j, none⟩ = some (.int .u64 ((V / W ^ j % W : Nat) : Int)) := by
  rcases OwnW.shape h with ⟨rfl, h0⟩ | ⟨g, cap, rfl, hg, hB, hc, hcell⟩
  · refine .inl ⟨?_, rfl⟩
    have h1 := congrArg List.length h0
    rw [words_length] at h1
    have h2 := len_pos W_two (v := V)
    simp at h1
    omega
  · refine .inr ⟨g, cap, by rw [words_length], hg, hB, by rw [words_length] at hc; exact hc, fun j hj => ?_⟩
    rw [hcell j (by rw [words_length]; exact hj)]
    have e := dig_get W V (len W V) j hj
    have e2 : (words V)[j]? = some (V / W ^ j % W) := e
    rw [List.getElem?_eq_getElem (by rw [words_length]; exact hj)] at e2
    rw [Option.some.inj e2]

theorem smear_int (x k : Nat) (P : Int) (hP : P = ((2 ^ k : Nat) : Int)) (hx : x < W) : bits BinOp.or IntKind.u64 (x : Int) ((x : Int) / P) = ((smear x k : Nat) : Int) := by
  subst hP
  have hw : x < 18446744073709551616 := hx
  rw [← Int.natCast_ediv, Go.u64_or_nat _ _ hw (Nat.lt_of_le_of_lt (Nat.div_le_self _ _) hw)]
  rfl

set_option maxRecDepth 100000 in
theorem bitlen_any (v : Value) (V B : Nat) (w : World) (h : IsNat w B v V) (hm : len W V ≤ 10000) :
    Calls Tryz.prog 97 #[v] w fun e w' => e = .returned (.int .i64 ((len 2 V : Nat) : Int)) ∧ w' = w := by
  rcases h.shape with ⟨rfl, rfl⟩ | ⟨g, cap, rfl, hg, hB, hc, hcell⟩
  · rw [len_zero]
    go_enter Tryz.func97, Tryz.ntmps97
    go_wp2
    go_ret
    exact ⟨rfl, rfl⟩
  · obtain ⟨n, hn⟩ : ∃ n, len W V = n := ⟨_, rfl⟩
    rw [hn] at hm hc hcell ⊢
    cases n with
    | zero =>
      have hV : V = 0 := by have := len_pos W_two (v := V); omega
      subst hV
      rw [len_zero]
      clear hcell hn h
      go_enter Tryz.func97, Tryz.ntmps97
      go_wp2
      go_ret
      exact ⟨rfl, rfl⟩
    | succ i =>
      have hV : 0 < V := by have := len_pos W_two (v := V); omega
      have hl := len_bits hV
      rw [hn, Nat.add_sub_cancel] at hl
      have hlt := len_lt W_two V
      rw [hn, Nat.pow_succ] at hlt
      have htop : V / W ^ i < W := Nat.div_lt_of_lt_mul hlt
      have hci := hcell i (by omega)
      rw [Nat.mod_eq_of_lt htop] at hci
      obtain ⟨x, hx⟩ : ∃ x, V / W ^ i = x := ⟨_, rfl⟩
      rw [hx] at hl htop hci
      obtain ⟨L, hL⟩ : ∃ L, len 2 V = L := ⟨_, rfl⟩
      rw [hL] at hl ⊢
      have s1 := smear_int x 1 2 rfl htop
      have t1 := smear_lt x 1 htop
      have u1 := smear_len x 1
      generalize smear x 1 = x1 at s1 t1 u1
      have s2 := smear_int x1 2 4 rfl t1
      have t2 := smear_lt x1 2 t1
      have u2 := smear_len x1 2
      generalize smear x1 2 = x2 at s2 t2 u2
      have s3 := smear_int x2 4 16 rfl t2
      have t3 := smear_lt x2 4 t2
      have u3 := smear_len x2 4
      generalize smear x2 4 = x3 at s3 t3 u3
      have s4 := smear_int x3 8 256 rfl t3
      have t4 := smear_lt x3 8 t3
      have u4 := smear_len x3 8
      generalize smear x3 8 = x4 at s4 t4 u4
      have s5 := smear_int x4 16 65536 rfl t4
      have t5 := smear_lt x4 16 t4
      have u5 := smear_len x4 16
      generalize smear x4 16 = x5 at s5 t5 u5
      have s6 := smear_int x5 32 4294967296 rfl t5
      have s6' : bits BinOp.or IntKind.u64 (x5 : Int) ((x5 : Int) / 65536 / 65536) = ((smear x5 32 : Nat) : Int) := by
        rw [← s6]; congr 1; omega
      have t6 := smear_lt x5 32 t5
      have u6 := smear_len x5 32
      generalize smear x5 32 = x6 at s6 s6' t6 u6
      have hbl := bitLen_eq x6 t6
      have hLx : L = 64 * i + Lib.bitLen x6 := by rw [hbl, u6, u5, u4, u3, u2, u1, hl]
      have b6 : x6 < 18446744073709551616 := t6
      have hblen := Lib.hid (Tryz.bits_Len (x6 : Int) w (by omega) (by omega))
      rw [Int.toNat_natCast] at hblen
      generalize Lib.bitLen x6 = b at hLx hblen
      have hb64 : L ≤ 64 * (i + 1) := by
        have := len_le (b := 2) (by omega) (v := V) (n := 64 * (i + 1)) (by rw [← W_pow2, Nat.pow_succ]; exact hlt)
        omega
      subst hLx
      clear hx hn hL hl hcell hlt t1 t2 t3 t4 t5 t6 u1 u2 u3 u4 u5 u6 hbl h htop s6
      go_enter Tryz.func97, Tryz.ntmps97
      go_wp2_with fail
      refine hblen.out.mono ?_
      rintro e w1 ⟨rfl, rfl⟩
      go_wp2
      go_ret
      have hsum : (i : Int) * 64 + (b : Int) = ((64 * i + b : Nat) : Int) := by omega
      refine ⟨?_, rfl⟩
      show Ending.returned (.int .i64 ((i : Int) * 64 + (b : Int))) = _
      rw [hsum]

set_option maxRecDepth 100000 in
theorem low64_any (v : Value) (V B : Nat) (w : World) (h : IsNat w B v V) (hm : len W V ≤ 10000) :
    Calls Tryz.prog 82 #[v] w fun e w' => e = .returned (.int .u64 ((V % W : Nat) : Int)) ∧ w' = w := by
  rcases h.shape with ⟨rfl, rfl⟩ | ⟨g, cap, rfl, hg, hB, hc, hcell⟩
  · go_enter Tryz.func82, Tryz.ntmps82
    go_wp2
    go_ret
    exact ⟨rfl, rfl⟩
  · obtain ⟨n, hn⟩ : ∃ n, len W V = n := ⟨_, rfl⟩
    rw [hn] at hm hc hcell ⊢
    cases n with
    | zero =>
      have hV : V = 0 := by have := len_pos W_two (v := V); omega
      subst hV
      clear hcell hn h
      go_enter Tryz.func82, Tryz.ntmps82
      go_wp2
      go_ret
      exact ⟨rfl, rfl⟩
    | succ i =>
      have hc0 := hcell 0 (by omega)
      rw [low_word] at hc0
      generalize V % W = x at hc0 ⊢
      have hb : (((i + 1 : Nat) : Int) == 0) = false := by simp; omega
      clear hcell hn h
      go_enter Tryz.func82, Tryz.ntmps82
      go_wp2
      go_ret
      exact ⟨rfl, rfl⟩
end Go.Proofs.YtpjkfdgkkpkljaaGreatDoor.Nat_
