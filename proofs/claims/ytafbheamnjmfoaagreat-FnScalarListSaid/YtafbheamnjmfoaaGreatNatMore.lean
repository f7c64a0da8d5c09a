/-
  The package's naturals: words out of rows of bytes. The package's naturals: a word out of eight bytes of a row. The package's naturals: how many bits one has, its lowest word. The package's naturals: how two compare.
-/
import Derived.Test.YtafbheamnjmfoaaGreatNatFirst
import Derived.Test.YtafbheamnjmfoaaGreatSpecFirst
import Derived.Laws.BitsAllLaws
import Derived.Test.YtafbheamnjmfoaaGreatNumLaws
import Derived.Test.YtafbheamnjmfoaaGreatShelf
namespace Go.Proofs.YtafbheamnjmfoaaGreat.Nat_
open Go.RowKit Go.WideShapes Go.Proofs.YtafbheamnjmfoaaGreat.Own Go.Proofs.YtafbheamnjmfoaaGreat.Num Go.Proofs.YtafbheamnjmfoaaGreat.Ref
set_option linter.unusedVariables false

theorem ofInt_u32 (a : Nat) (ha : a < 4294967296) : (BitVec.ofInt 32 (a : Int)).toNat = a := by
  rw [BitVec.ofInt_natCast, BitVec.toNat_ofNat]; exact Nat.mod_eq_of_lt (by omega)
theorem u32_or (a b : Nat) (ha : a < 4294967296) (hb : b < 4294967296) : bits .or .u32 (a : Int) (b : Int) = ((a ||| b : Nat) : Int) := by
  have hx : a ||| b < 2 ^ 32 := Nat.or_lt_two_pow (by omega) (by omega)
  show IntKind.u32.wrap ((BitVec.ofInt 32 (a : Int) ||| BitVec.ofInt 32 (b : Int)).toNat : Int) = _
  rw [BitVec.toNat_or, ofInt_u32 a ha, ofInt_u32 b hb, IntKind.wrap_u32]
  omega
theorem or_up (s lo hi : Nat) (h : lo < 2 ^ s) : lo ||| hi * 2 ^ s = lo + hi * 2 ^ s := by
  rw [Nat.or_comm, Nat.mul_comm, ← Nat.two_pow_add_eq_or_of_lt h, Nat.add_comm]
theorem or_four (b0 b1 b2 b3 : Nat) (h0 : b0 < 256) (h1 : b1 < 256) (h2 : b2 < 256) (h3 : b3 < 256) :
    bits BinOp.or IntKind.u32 (bits BinOp.or IntKind.u32 (bits BinOp.or IntKind.u32 (b3 : Int) ((b2 : Int) * 256)) ((b1 : Int) * 65536)) ((b0 : Int) * 16777216) = ((b3 + b2 * 256 + b1 * 65536 + b0 * 16777216 : Nat) : Int) := by
  have e2 : (b2 : Int) * 256 = ((b2 * 256 : Nat) : Int) := by omega
  have e1 : (b1 : Int) * 65536 = ((b1 * 65536 : Nat) : Int) := by omega
  have e0 : (b0 : Int) * 16777216 = ((b0 * 16777216 : Nat) : Int) := by omega
  rw [e2, e1, e0, u32_or b3 _ (by omega) (by omega)]
  have f2 : b3 ||| b2 * 256 = b3 + b2 * 256 := or_up 8 b3 b2 h3
  rw [f2, u32_or _ _ (by omega) (by omega)]
  have f1 : b3 + b2 * 256 ||| b1 * 65536 = b3 + b2 * 256 + b1 * 65536 := or_up 16 _ b1 (by simp; omega)
  rw [f1, u32_or _ _ (by omega) (by omega)]
  have f0 : b3 + b2 * 256 + b1 * 65536 ||| b0 * 16777216 = b3 + b2 * 256 + b1 * 65536 + b0 * 16777216 := or_up 24 _ b0 (by simp; omega)
  rw [f0]

set_option maxRecDepth 100000 in
theorem be32_any (x : Addr) (n c : Nat) (b0 b1 b2 b3 : UInt8) (w : World) (hn : 4 ≤ n) (hnc : n ≤ 100000)
    (h0 : w.cell? x = some (.int .u8 (b0.toNat : Int))) (h1 : w.cell? (x.add 1) = some (.int .u8 (b1.toNat : Int))) (h2 : w.cell? (x.add 2) = some (.int .u8 (b2.toNat : Int))) (h3 : w.cell? (x.add 3) = some (.int .u8 (b3.toNat : Int))) :
    Calls Tryz.prog 133 #[.slice (some x) n c] w fun e w' => e = .returned (.int .u32 (be [b0, b1, b2, b3] : Nat)) ∧ ∃ q, w' = w.drewN q := by
  have h1' : w.cell? ⟨x.block, x.off + 1, none⟩ = some (.int .u8 (b1.toNat : Int)) := h1
  have h2' : w.cell? ⟨x.block, x.off + 2, none⟩ = some (.int .u8 (b2.toNat : Int)) := h2
  have h3' : w.cell? ⟨x.block, x.off + 3, none⟩ = some (.int .u8 (b3.toNat : Int)) := h3
  have l0 := UInt8.toNat_lt b0
  have l1 := UInt8.toNat_lt b1
  have l2 := UInt8.toNat_lt b2
  have l3 := UInt8.toNat_lt b3
  have hv : be [b0, b1, b2, b3] = b3.toNat + 256 * b2.toNat + 65536 * b1.toNat + 16777216 * b0.toNat := by simp [be]; omega
  obtain ⟨Z, hZ⟩ : ∃ Z, be [b0, b1, b2, b3] = Z := ⟨_, rfl⟩
  rw [hZ] at hv ⊢
  have hv' := Lib.hid hv
  clear hv hZ
  have g3 : (3 : Int) < (n : Int) := by omega
  go_enter Tryz.func133, Tryz.ntmps133
  go_wp2
  go_quiet (fail)
  go_wp2
  go_ret
  refine ⟨?_, _, rfl⟩
  have h4 := or_four b0.toNat b1.toNat b2.toNat b3.toNat l0 l1 l2 l3
  have h5 : (((b3.toNat + b2.toNat * 256 + b1.toNat * 65536 + b0.toNat * 16777216 : Nat)) : Int) = (Z : Int) := by have := hv'.out; omega
  rw [h5] at h4
  show Ending.returned (.int .u32 _) = _
  rw [h4]

theorem be_eight (b0 b1 b2 b3 b4 b5 b6 b7 : UInt8) : be [b0, b1, b2, b3, b4, b5, b6, b7] = be [b0, b1, b2, b3] * 4294967296 + be [b4, b5, b6, b7] := by
  have := be_append [b0, b1, b2, b3] [b4, b5, b6, b7]
  simpa using this
theorem or_two (H L : Nat) (hH : H < 4294967296) (hL : L < 4294967296) : bits BinOp.or IntKind.u64 ((H : Int) * 4294967296) (L : Int) = ((H * 4294967296 + L : Nat) : Int) := by
  have e : (H : Int) * 4294967296 = ((H * 4294967296 : Nat) : Int) := by omega
  rw [e, Go.u64_or_nat _ _ (by omega) (by omega), Nat.or_comm]
  have f : L ||| H * 4294967296 = L + H * 4294967296 := by have := or_up 32 L H (by simpa using hL); simpa using this
  rw [f, Nat.add_comm]

set_option maxRecDepth 100000 in
theorem be64_any (x : Addr) (n c : Nat) (b0 b1 b2 b3 b4 b5 b6 b7 : UInt8) (w : World) (hn : 8 ≤ n) (hnc : n ≤ 100000) (hc : n ≤ c)
    (h0 : w.cell? x = some (.int .u8 (b0.toNat : Int))) (h1 : w.cell? (x.add 1) = some (.int .u8 (b1.toNat : Int))) (h2 : w.cell? (x.add 2) = some (.int .u8 (b2.toNat : Int))) (h3 : w.cell? (x.add 3) = some (.int .u8 (b3.toNat : Int)))
    (h4 : w.cell? (x.add 4) = some (.int .u8 (b4.toNat : Int))) (h5 : w.cell? (x.add 5) = some (.int .u8 (b5.toNat : Int))) (h6 : w.cell? (x.add 6) = some (.int .u8 (b6.toNat : Int))) (h7 : w.cell? (x.add 7) = some (.int .u8 (b7.toNat : Int))) :
    Calls Tryz.prog 132 #[.slice (some x) n c] w fun e w' => e = .returned (.int .u64 (be [b0, b1, b2, b3, b4, b5, b6, b7] : Nat)) ∧ ∃ q, w' = w.drewN q := by
  have h7' : w.cell? ⟨x.block, x.off + 7, none⟩ = some (.int .u8 (b7.toNat : Int)) := h7
  have hlo := Lib.hid fun q => be32_any x n c b0 b1 b2 b3 (w.drewN q) (by omega) hnc h0 h1 h2 h3
  have hhi := Lib.hid fun q => be32_any ⟨x.block, x.off + 4, none⟩ (n - 4) (c - 4) b4 b5 b6 b7 (w.drewN q) (by omega) (by omega) h4 h5 h6 h7
  have H1 : be [b0, b1, b2, b3] < 4294967296 := by have := be_lt [b0, b1, b2, b3]; simpa using this
  have L1 : be [b4, b5, b6, b7] < 4294967296 := by have := be_lt [b4, b5, b6, b7]; simpa using this
  rw [be_eight]
  obtain ⟨H, hH⟩ : ∃ H, be [b0, b1, b2, b3] = H := ⟨_, rfl⟩
  obtain ⟨L, hL⟩ : ∃ L, be [b4, b5, b6, b7] = L := ⟨_, rfl⟩
  rw [hH] at hlo H1 ⊢
  rw [hL] at hhi L1 ⊢
  have hc4 : ¬ c = 4 := by omega
  have g7 : (7 : Int) < (n : Int) := by omega
  have g4 : (4 : Int) ≤ (n : Int) := by omega
  have g4c : (n : Int) ≤ (c : Int) := by omega
  have horr := Lib.hid (or_two H L H1 L1)
  clear hH hL h0 h1 h2 h3 h4 h5 h6 h7
  go_enter Tryz.func132, Tryz.ntmps132
  go_wp2
  go_quiet ((first | (go_at_call 133; with_reducible exact Calls.quiet_of (hlo.out _)) | (go_at_call 133; with_reducible exact Calls.quiet_of (hhi.out _))))
  go_wp2
  go_ret
  refine ⟨?_, _, rfl⟩
  show Ending.returned (.int .u64 _) = _
  rw [horr.out]

set_option maxRecDepth 100000 in
theorem bew_any (x : Addr) (n c : Nat) (V : Nat) (w : World) (h : Calls Tryz.prog 132 #[.slice (some x) n c] w fun e w' => e = .returned (.int .u64 (V : Int)) ∧ ∃ q, w' = w.drewN q) :
    Calls Tryz.prog 121 #[.slice (some x) n c] w fun e w' => e = .returned (.int .u64 (V : Int)) ∧ ∃ q, w' = w.drewN q := by
  have h' := Lib.hid h
  clear h
  go_enter Tryz.func121, Tryz.ntmps121
  go_wp2_with fail
  refine h'.out.mono ?_
  rintro e w1 ⟨rfl, q, rfl⟩
  go_wp2
  go_ret
  exact ⟨rfl, _, rfl⟩
end Go.Proofs.YtafbheamnjmfoaaGreat.Nat_

namespace Go.Proofs.YtafbheamnjmfoaaGreat.Nat_
open Go.RowKit Go.WideShapes Go.Proofs.YtafbheamnjmfoaaGreat.Own Go.Proofs.YtafbheamnjmfoaaGreat.Num Go.Proofs.YtafbheamnjmfoaaGreat.Ref
set_option linter.unusedVariables false

theorem eight (l : List UInt8) (s : Nat) (h : s + 8 ≤ l.length) : (l.drop s).take 8 = [l[s], l[s + 1], l[s + 2], l[s + 3], l[s + 4], l[s + 5], l[s + 6], l[s + 7]] := by
  apply List.ext_getElem?
  intro j
  rw [List.getElem?_take, List.getElem?_drop]
  by_cases hj : j < 8
  · rw [if_pos hj, List.getElem?_eq_getElem (by omega)]
    rcases j with _ | _ | _ | _ | _ | _ | _ | _ | j <;> first | rfl | omega
  · rw [if_neg hj, List.getElem?_eq_none (by simp; omega)]

/-- the word of the bytes from 8 k + 8 from the end on -/
theorem word_any (x : Addr) (l : List UInt8) (n k s c : Nat) (w : World) (hc : ∀ j (hj : j < l.length), w.cell? (x.add j) = some (.int .u8 (l[j].toNat : Int))) (hn : l.length = n) (hk : 8 * k + 8 ≤ n) (hs : s = n - 8 * k - 8) (hc8 : 8 ≤ c) :
    Calls Tryz.prog 121 #[.slice (some (x.add s)) 8 c] w fun e w' => e = .returned (.int .u64 ((be l / W ^ k % W : Nat) : Int)) ∧ ∃ q, w' = w.drewN q := by
  have h8 : s + 8 ≤ l.length := by omega
  have hw := word_of l k (by omega)
  rw [hn, ← hs, eight l s h8] at hw
  rw [← hw]
  refine bew_any _ _ _ _ _ (be64_any (x.add s) 8 c _ _ _ _ _ _ _ _ w (by omega) (by omega) hc8 (hc s (by omega)) ?_ ?_ ?_ ?_ ?_ ?_ ?_)
  all_goals
    rw [add_add]
    exact hc _ (by omega)

/-- a word put into a row that is being filled -/
theorem ws_set (V k n D : Nat) (hD : V / W ^ k % W = D) : (ws (dig W (V % W ^ k) n)).set k (.int .u64 (D : Int)) = ws (dig W (V % W ^ (k + 1)) n) := by
  unfold ws
  rw [← List.map_set, dig_set W_pos V k n D hD]
end Go.Proofs.YtafbheamnjmfoaaGreat.Nat_

namespace Go.Proofs.YtafbheamnjmfoaaGreat.Nat_
open Go.RowKit Go.WideShapes Go.Proofs.YtafbheamnjmfoaaGreat.Own Go.Proofs.YtafbheamnjmfoaaGreat.Num Go.Proofs.YtafbheamnjmfoaaGreat.Ref
set_option linter.unusedVariables false

theorem IsNat.shape {w : World} {B : Nat} {v : Value} {V : Nat} (h : IsNat w B v V) : (V = 0 ∧ v = .slice none 0 0) ∨ ∃ g cap, v = .slice (some ⟨g, 0, none⟩) (len W V) cap ∧ g < w.heap.size ∧ B ≤ g ∧ len W V ≤ cap ∧ ∀ j, j < len W V → w.cell? ⟨g, j, none⟩ = some (.int .u64 ((V / W ^ j % W : Nat) : Int)) := by
  rcases OwnW.shape h with ⟨rfl, h0⟩ | ⟨g, cap, rfl, hg, hB, hc, hcell⟩
  · refine .inl ⟨?_, rfl⟩
    have h1 := congrArg List.length h0
    rw [words_length] at h1
    have h2 := len_pos W_two (v := V)
    simp at h1
    omega
  · refine .inr ⟨g, cap, by rw [words_length], hg, hB, by rw [words_length] at hc; exact hc, fun j hj => ?_⟩
    rw [hcell j (by rw [words_length]; exact hj)]
    have e := dig_get W V (len W V) j hj
    have e2 : (words V)[j]? = some (V / W ^ j % W) := e
    rw [List.getElem?_eq_getElem (by rw [words_length]; exact hj)] at e2
    rw [Option.some.inj e2]

theorem smear_int (x k : Nat) (P : Int) (hP : P = ((2 ^ k : Nat) : Int)) (hx : x < W) : bits BinOp.or IntKind.u64 (x : Int) ((x : Int) / P) = ((smear x k : Nat) : Int) := by
  subst hP
  have hw : x < 18446744073709551616 := hx
  rw [← Int.natCast_ediv, Go.u64_or_nat _ _ hw (Nat.lt_of_le_of_lt (Nat.div_le_self _ _) hw)]
  rfl

set_option maxRecDepth 100000 in
theorem bitlen_any (v : Value) (V B : Nat) (w : World) (h : IsNat w B v V) (hm : len W V ≤ 10000) :
    Calls Tryz.prog 134 #[v] w fun e w' => e = .returned (.int .i64 ((len 2 V : Nat) : Int)) ∧ w' = w := by
  rcases h.shape with ⟨rfl, rfl⟩ | ⟨g, cap, rfl, hg, hB, hc, hcell⟩
  · rw [len_zero]
    go_enter Tryz.func134, Tryz.ntmps134
    go_wp2
    go_ret
    exact ⟨rfl, rfl⟩
  · obtain ⟨n, hn⟩ : ∃ n, len W V = n := ⟨_, rfl⟩
    rw [hn] at hm hc hcell ⊢
    cases n with
    | zero =>
      have hV : V = 0 := by have := len_pos W_two (v := V); omega
      subst hV
      rw [len_zero]
      clear hcell hn h
      go_enter Tryz.func134, Tryz.ntmps134
      go_wp2
      go_ret
      exact ⟨rfl, rfl⟩
    | succ i =>
      have hV : 0 < V := by have := len_pos W_two (v := V); omega
      have hl := len_bits hV
      rw [hn, Nat.add_sub_cancel] at hl
      have hlt := len_lt W_two V
      rw [hn, Nat.pow_succ] at hlt
      have htop : V / W ^ i < W := Nat.div_lt_of_lt_mul hlt
      have hci := hcell i (by omega)
      rw [Nat.mod_eq_of_lt htop] at hci
      obtain ⟨x, hx⟩ : ∃ x, V / W ^ i = x := ⟨_, rfl⟩
      rw [hx] at hl htop hci
      obtain ⟨L, hL⟩ : ∃ L, len 2 V = L := ⟨_, rfl⟩
      rw [hL] at hl ⊢
      have s1 := smear_int x 1 2 rfl htop
      have t1 := smear_lt x 1 htop
      have u1 := smear_len x 1
      generalize smear x 1 = x1 at s1 t1 u1
      have s2 := smear_int x1 2 4 rfl t1
      have t2 := smear_lt x1 2 t1
      have u2 := smear_len x1 2
      generalize smear x1 2 = x2 at s2 t2 u2
      have s3 := smear_int x2 4 16 rfl t2
      have t3 := smear_lt x2 4 t2
      have u3 := smear_len x2 4
      generalize smear x2 4 = x3 at s3 t3 u3
      have s4 := smear_int x3 8 256 rfl t3
      have t4 := smear_lt x3 8 t3
      have u4 := smear_len x3 8
      generalize smear x3 8 = x4 at s4 t4 u4
      have s5 := smear_int x4 16 65536 rfl t4
      have t5 := smear_lt x4 16 t4
      have u5 := smear_len x4 16
      generalize smear x4 16 = x5 at s5 t5 u5
      have s6 := smear_int x5 32 4294967296 rfl t5
      have s6' : bits BinOp.or IntKind.u64 (x5 : Int) ((x5 : Int) / 65536 / 65536) = ((smear x5 32 : Nat) : Int) := by
        rw [← s6]; congr 1; omega
      have t6 := smear_lt x5 32 t5
      have u6 := smear_len x5 32
      generalize smear x5 32 = x6 at s6 s6' t6 u6
      have hbl := bitLen_eq x6 t6
      have hLx : L = 64 * i + Lib.bitLen x6 := by rw [hbl, u6, u5, u4, u3, u2, u1, hl]
      have b6 : x6 < 18446744073709551616 := t6
      have hblen := Lib.hid (Tryz.bits_Len (x6 : Int) w (by omega) (by omega))
      rw [Int.toNat_natCast] at hblen
      generalize Lib.bitLen x6 = b at hLx hblen
      have hb64 : L ≤ 64 * (i + 1) := by
        have := len_le (b := 2) (by omega) (v := V) (n := 64 * (i + 1)) (by rw [← W_pow2, Nat.pow_succ]; exact hlt)
        omega
      subst hLx
      clear hx hn hL hl hcell hlt t1 t2 t3 t4 t5 t6 u1 u2 u3 u4 u5 u6 hbl h htop s6
      go_enter Tryz.func134, Tryz.ntmps134
      go_wp2_with fail
      refine hblen.out.mono ?_
      rintro e w1 ⟨rfl, rfl⟩
      go_wp2
      go_ret
      have hsum : (i : Int) * 64 + (b : Int) = ((64 * i + b : Nat) : Int) := by omega
      refine ⟨?_, rfl⟩
      show Ending.returned (.int .i64 ((i : Int) * 64 + (b : Int))) = _
      rw [hsum]

set_option maxRecDepth 100000 in
theorem low64_any (v : Value) (V B : Nat) (w : World) (h : IsNat w B v V) (hm : len W V ≤ 10000) :
    Calls Tryz.prog 125 #[v] w fun e w' => e = .returned (.int .u64 ((V % W : Nat) : Int)) ∧ w' = w := by
  rcases h.shape with ⟨rfl, rfl⟩ | ⟨g, cap, rfl, hg, hB, hc, hcell⟩
  · go_enter Tryz.func125, Tryz.ntmps125
    go_wp2
    go_ret
    exact ⟨rfl, rfl⟩
  · obtain ⟨n, hn⟩ : ∃ n, len W V = n := ⟨_, rfl⟩
    rw [hn] at hm hc hcell ⊢
    cases n with
    | zero =>
      have hV : V = 0 := by have := len_pos W_two (v := V); omega
      subst hV
      clear hcell hn h
      go_enter Tryz.func125, Tryz.ntmps125
      go_wp2
      go_ret
      exact ⟨rfl, rfl⟩
    | succ i =>
      have hc0 := hcell 0 (by omega)
      rw [low_word] at hc0
      generalize V % W = x at hc0 ⊢
      have hb : (((i + 1 : Nat) : Int) == 0) = false := by simp; omega
      clear hcell hn h
      go_enter Tryz.func125, Tryz.ntmps125
      go_wp2
      go_ret
      exact ⟨rfl, rfl⟩
end Go.Proofs.YtafbheamnjmfoaaGreat.Nat_

namespace Go.Proofs.YtafbheamnjmfoaaGreat.Nat_
open Go.RowKit Go.WideShapes Go.Proofs.YtafbheamnjmfoaaGreat.Own Go.Proofs.YtafbheamnjmfoaaGreat.Num Go.Proofs.YtafbheamnjmfoaaGreat.Ref
set_option linter.unusedVariables false

/-- a slice's address leads to the words of a number -/
def RdW (w : World) (B : Nat) (a : Option Addr) (V : Nat) : Prop :=
  (a = none ∧ V = 0) ∨ ∃ g, a = some ⟨g, 0, none⟩ ∧ g < w.heap.size ∧ B ≤ g ∧ ∀ j, j < len W V → w.cell? ⟨g, j, none⟩ = some (.int .u64 ((V / W ^ j % W : Nat) : Int))
theorem RdW.later {w w' : World} {B : Nat} {a : Option Addr} {V : Nat} (h : RdW w B a V) (hb : Below w.heap.size w w') : RdW w' B a V := by
  rcases h with h | ⟨g, rfl, hg, hB, hc⟩
  · exact .inl h
  · exact .inr ⟨g, rfl, Nat.lt_of_lt_of_le hg hb.size, hB, fun j hj => (hb.cell hg).trans (hc j hj)⟩
theorem RdW.at_ {w : World} {B : Nat} {a : Option Addr} {V : Nat} (h : RdW w B a V) {j : Nat} (hj : j < len W V) : ∃ g, a = some ⟨g, 0, none⟩ ∧ w.cell? ⟨g, j, none⟩ = some (.int .u64 ((V / W ^ j % W : Nat) : Int)) := by
  rcases h with ⟨_, rfl⟩ | ⟨g, rfl, _, _, hc⟩
  · rw [len_zero] at hj; omega
  · exact ⟨g, rfl, hc j hj⟩
theorem IsNat.slice {w : World} {B : Nat} {v : Value} {V : Nat} (h : IsNat w B v V) : ∃ a cap, v = .slice a (len W V) cap ∧ len W V ≤ cap ∧ RdW w B a V := by
  rcases h.shape with ⟨rfl, rfl⟩ | ⟨g, cap, rfl, hg, hB, hc, hcell⟩
  · exact ⟨none, 0, rfl, Nat.le_refl _, .inl ⟨rfl, rfl⟩⟩
  · exact ⟨_, cap, rfl, hc, .inr ⟨g, rfl, hg, hB, hcell⟩⟩

set_option maxRecDepth 100000 in
theorem ncmp_any (x y : Value) (u v B1 B2 : Nat) (w : World) (hx : IsNat w B1 x u) (hy : IsNat w B2 y v) (hu : len W u ≤ 10000) (hv : len W v ≤ 10000) :
    Calls Tryz.prog 151 #[x, y] w fun e w' => e = .returned (.int .i64 (cmpN u v)) ∧ Below w.heap.size w w' := by
  obtain ⟨a1, c1, rfl, hc1, h1⟩ := hx.slice
  obtain ⟨a2, c2, rfl, hc2, h2⟩ := hy.slice
  clear hx hy
  rcases Nat.lt_trichotomy (len W u) (len W v) with hlt | heq | hgt
  · rw [cmpN_len W_two hlt]
    have hne : ((((len W u : Nat)) : Int) != (len W v : Nat)) = true := by simp; omega
    clear h1 h2
    go_enter Tryz.func151, Tryz.ntmps151
    go_wp2
    go_ret
    exact ⟨rfl, Below.refl _ _⟩
  · obtain ⟨n, hlu⟩ : ∃ n, len W u = n := ⟨_, rfl⟩
    have hlv : len W v = n := by omega
    have hne : ((n : Int) != n) = false := by simp
    have hbu := len_lt W_two u
    have hbv := len_lt W_two v
    rw [hlu] at hbu
    rw [hlv] at hbv
    have hst := Lib.hid (show u / W ^ n = v / W ^ n by rw [Nat.div_eq_of_lt hbu, Nat.div_eq_of_lt hbv])
    rw [hlu] at hu hc1 ⊢
    rw [hlv] at hv hc2 ⊢
    obtain ⟨Z, hZ⟩ : ∃ Z, cmpN u v = Z := ⟨_, rfl⟩
    rw [hZ]
    have hZ' := Lib.hid hZ
    have hlu' := Lib.hid hlu
    have hlv' := Lib.hid hlv
    cases n with
    | zero =>
      have h00 : u = v := by rw [Nat.pow_zero] at hbu hbv; omega
      have hr := cmpN_eq h00
      rw [hZ] at hr
      subst hr
      clear hbu hbv hZ hlu hlv heq h1 h2 h00 hst
      go_enter Tryz.func151, Tryz.ntmps151
      go_wp2
      go_ret
      exact ⟨rfl, Below.refl _ _⟩
    | succ m =>
    have hm0 : (((m + 1 : Nat) : Int) == 0) = false := by simp; omega
    clear hbu hbv hZ hlu hlv heq
    go_enter Tryz.func151, Tryz.ntmps151
    go_wp2
    go_loopw [7] (fun i wr => ∃ k : Nat, i = .int .i64 k ∧ k ≤ m ∧ Hid (u / W ^ (k + 1) = v / W ^ (k + 1)) ∧ Below w.heap.size w wr) (fun i _ => (intOf i).toNat)
    case atStart => exact ⟨m, by go_num, Nat.le_refl _, hst, Below.refl _ _⟩
    case round =>
      obtain ⟨k, rfl, hk, hq, hb⟩ := hrel
      obtain ⟨x, rfl, hx⟩ := (h1.later hb).at_ (j := k) (by rw [hlu'.out]; omega)
      obtain ⟨y, rfl, hy⟩ := (h2.later hb).at_ (j := k) (by rw [hlv'.out]; omega)
      have hq' := hq.out
      obtain ⟨X, hX⟩ : ∃ X, u / W ^ k % W = X := ⟨_, rfl⟩
      obtain ⟨Y, hY⟩ : ∃ Y, v / W ^ k % W = Y := ⟨_, rfl⟩
      have hXW : X < 18446744073709551616 := by rw [← hX]; exact Nat.mod_lt _ W_pos
      have hYW : Y < 18446744073709551616 := by rw [← hY]; exact Nat.mod_lt _ W_pos
      have hlo := Lib.hid fun (h : X < Y) => cmpN_lt W_pos hq' (by rw [hX, hY]; exact h)
      have hhi := Lib.hid fun (h : Y < X) => cmpN_gt W_pos hq' (by rw [hX, hY]; exact h)
      have hsame := Lib.hid fun (h : X = Y) => div_of_digit hq' (by rw [hX, hY]; exact h)
      rw [hX] at hx
      rw [hY] at hy
      have h1' := Lib.hid h1
      have h2' := Lib.hid h2
      clear hX hY hq' h1 h2
      rcases Nat.lt_trichotomy X Y with hxy | hxy | hxy
      · have g1 : ((X : Int) == Y) = false := by simp; omega
        have g2 : decide (X < Y) = true := by simp; omega
        have hr := hlo.out hxy
        rw [hZ'.out] at hr
        subst hr
        clear hxy
        by_cases hk0 : k = 0
        · subst hk0
          go_wp2
          go_quiet (fail)
          go_wp2
          go_quiet (fail)
          go_wp2
          go_ret
          exact ⟨rfl, Box.below_drawn (Box.below_drawn hb _) _⟩
        · have b0 : (0 : Int) < (k : Int) := by omega
          have b3 : decide ((0 : Int) < (k : Int)) = true := by simp; omega
          have b4 : decide (0 < k) = true := by simp; omega
          go_wp2
          go_quiet (fail)
          go_wp2
          go_quiet (fail)
          go_wp2
          go_ret
          exact ⟨rfl, Box.below_drawn (Box.below_drawn hb _) _⟩
      · have g1 : ((X : Int) == Y) = true := by simp; omega
        have g2 : decide (X < Y) = false := by simp; omega
        have g3 : decide (Y < X) = false := by simp; omega
        have hs := Lib.hid (hsame.out hxy)
        clear hxy
        by_cases hk0 : k = 0
        · subst hk0
          have hr := hs.out
          rw [Nat.pow_zero, Nat.div_one, Nat.div_one] at hr
          have hr := cmpN_eq hr
          rw [hZ'.out] at hr
          subst hr
          go_wp2
          go_quiet (fail)
          go_wp2
          go_quiet (fail)
          go_wp2
          go_quiet (fail)
          go_wp2
          go_ret
          exact ⟨rfl, Box.below_drawn (Box.below_drawn (Box.below_drawn hb _) _) _⟩
        · have b0 : (0 : Int) < (k : Int) := by omega
          have b3 : decide ((0 : Int) < (k : Int)) = true := by simp; omega
          have b4 : decide (0 < k) = true := by simp; omega
          obtain ⟨j, rfl⟩ : ∃ j, k = j + 1 := ⟨k - 1, by omega⟩
          go_wp2
          go_quiet (fail)
          go_wp2
          go_roundw
          case rel => exact ⟨j, by go_num, by omega, hs, Box.below_drawn hb _⟩
          case measure => simp [intOf]
      · have g1 : ((X : Int) == Y) = false := by simp; omega
        have g2 : decide (X < Y) = false := by simp; omega
        have g3 : decide (Y < X) = true := by simp; omega
        have hr := hhi.out hxy
        rw [hZ'.out] at hr
        subst hr
        clear hxy
        by_cases hk0 : k = 0
        · subst hk0
          go_wp2
          go_quiet (fail)
          go_wp2
          go_quiet (fail)
          go_wp2
          go_quiet (fail)
          go_wp2
          go_ret
          exact ⟨rfl, Box.below_drawn (Box.below_drawn (Box.below_drawn hb _) _) _⟩
        · have b0 : (0 : Int) < (k : Int) := by omega
          have b3 : decide ((0 : Int) < (k : Int)) = true := by simp; omega
          have b4 : decide (0 < k) = true := by simp; omega
          go_wp2
          go_quiet (fail)
          go_wp2
          go_quiet (fail)
          go_wp2
          go_quiet (fail)
          go_wp2
          go_ret
          exact ⟨rfl, Box.below_drawn (Box.below_drawn (Box.below_drawn hb _) _) _⟩
  · rw [cmpN_len' W_two hgt]
    have hne : ((((len W u : Nat)) : Int) != (len W v : Nat)) = true := by simp; omega
    clear h1 h2
    go_enter Tryz.func151, Tryz.ntmps151
    go_wp2
    go_ret
    exact ⟨rfl, Below.refl _ _⟩
end Go.Proofs.YtafbheamnjmfoaaGreat.Nat_
