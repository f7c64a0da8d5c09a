/-
  The package's naturals: words out of rows of bytes.
-/
import Derived.Test.YtpjkfdgkkpkljaaGreatDoorNatMake
import Derived.Test.YtpjkfdgkkpkljaaGreatDoorSpecInt
import Derived.Laws.BitsAllLaws
namespace Go.Proofs.YtpjkfdgkkpkljaaGreatDoor.Nat_
open Go.RowKit Go.WideShapes Go.Proofs.YtpjkfdgkkpkljaaGreatDoor.Own Go.Proofs.YtpjkfdgkkpkljaaGreatDoor.Num Go.Proofs.YtpjkfdgkkpkljaaGreatDoor.Ref
set_option linter.unusedVariables false

theorem ofInt_u32 (a : Nat) (ha : a < 4294967296) : (BitVec.ofInt 32 (a : Int)).toNat = a := by
  rw [BitVec.ofInt_natCast, BitVec.toNat_ofNat]; exact Nat.mod_eq_of_lt (by omega)
theorem u32_or (a b : Nat) (ha : a < 4294967296) (hb : b < 4294967296) : bits .or .u32 (a : Int) (b : Int) = ((a ||| b : Nat) : Int) := by
  have hx : a ||| b < 2 ^ 32 := Nat.or_lt_two_pow (by omega) (by omega)
  show IntKind.u32.wrap ((BitVec.ofInt 32 (a : Int) ||| BitVec.ofInt 32 (b : Int)).toNat : Int) = _
  rw [BitVec.toNat_or, ofInt_u32 a ha, ofInt_u32 b hb, IntKind.wrap_u32]
  omega
theorem or_up (s lo hi : Nat) (h : lo < 2 ^ s) : lo ||| hi * 2 ^ s = lo + hi * 2 ^ s := by
  rw [Nat.or_comm, Nat.mul_comm, ← Nat.two_pow_add_eq_or_of_lt h, Nat.add_comm]
theorem or_four (b0 b1 b2 b3 : Nat) (h0 : b0 < 256) (h1 : b1 < 256) (h2 : b2 < 256) (h3 : b3 < 256) :
    bits BinOp.or IntKind.u32 (bits BinOp.or IntKind.u32 (bits BinOp.or IntKind.u32 (b3 : Int) ((b2 : Int) * 256)) ((b1 : Int) * 65536)) ((b0 : Int) * 16777216) = ((b3 + b2 * 256 + b1 * 65536 + b0 * 16777216 : Nat) : Int) := by
  have e2 : (b2 : Int) * 256 = ((b2 * 256 : Nat) : Int) := by omega
  have e1 : (b1 : Int) * 65536 = ((b1 * 65536 : Nat) : Int) := by omega
  have e0 : (b0 : Int) * 16777216 = ((b0 * 16777216 : Nat) : Int) := by omega
  rw [e2, e1, e0, u32_or b3 _ (by omega) (by omega)]
  have f2 : b3 ||| b2 * 256 = b3 + b2 * 256 := or_up 8 b3 b2 h3
  rw [f2, u32_or _ _ (by omega) (by omega)]
  have f1 : b3 + b2 * 256 ||| b1 * 65536 = b3 + b2 * 256 + b1 * 65536 := or_up 16 _ b1 (by simp; omega)
  rw [f1, u32_or _ _ (by omega) (by omega)]
  have f0 : b3 + b2 * 256 + b1 * 65536 ||| b0 * 16777216 = b3 + b2 * 256 + b1 * 65536 + b0 * 16777216 := or_up 24 _ b0 (by simp; omega)
  rw [f0]

set_option maxRecDepth 100000 in
theorem be32_any (x : Addr) (n c : Nat) (b0 b1 b2 b3 : UInt8) (w : World) (hn : 4 ≤ n) (hnc : n ≤ 100000)
    (h0 : w.cell? x = some (.int .u8 (b0.toNat : Int))) (h1 : w.cell? (x.add 1) = some (.int .u8 (b1.toNat : Int))) (h2 : w.cell? (x.add 2) = some (.int .u8 (b2.toNat : Int))) (h3 : w.cell? (x.add 3) = some (.int .u8 (b3.toNat : Int))) :
    Calls Tryz.prog 96 #[.slice (some x) n c] w fun e w' => e = .returned (.int .u32 (be [b0, b1, b2, b3] : Nat)) ∧ ∃ q, w' = w.drewN q := by
  have h1' : w.cell? ⟨x.block, x.off + 1, none⟩ = some (.int .u8 (b1.toNat : Int)) := h1
  have h2' : w.cell? ⟨x.block, x.off + 2, none⟩ = some (.int .u8 (b2.toNat : Int)) := h2
  have h3' : w.cell? ⟨x.block, x.off + 3, none⟩ = some (.int .u8 (b3.toNat : Int)) := h3
  have l0 := UInt8.toNat_lt b0
  have l1 := UInt8.toNat_lt b1
  have l2 := UInt8.toNat_lt b2
  have l3 := UInt8.toNat_lt b3
  have hv : be [b0, b1, b2, b3] = b3.toNat + 256 * b2.toNat + 65536 * b1.toNat + 16777216 * b0.toNat := by simp [be]; omega
  obtain ⟨Z, hZ⟩ : ∃ Z, be [b0, b1, b2, b3] = Z := ⟨_, rfl⟩
  rw [hZ] at hv ⊢
  have hv' := Lib.hid hv
  clear hv hZ
  have g3 : (3 : Int) < (n : Int) := by omega
  go_enter Tryz.func96, Tryz.ntmps96
  go_wp2
  go_quiet (fail)
  go_wp2
  go_ret
  refine ⟨?_, _, rfl⟩
  have h4 := or_four b0.toNat b1.toNat b2.toNat b3.toNat l0 l1 l2 l3
  have h5 : (((b3.toNat + b2.toNat * 256 + b1.toNat * 65536 + b0.toNat * 16777216 : Nat)) : Int) = (Z : Int) := by have := hv'.out; omega
  rw [h5] at h4
  show Ending.returned (.int .u32 _) = _
  rw [h4]

theorem be_eight (b0 b1 b2 b3 b4 b5 b6 b7 : UInt8) : be [b0, b1, b2, b3, b4, b5, b6, b7] = be [b0, b1, b2, b3] * 4294967296 + be [b4, b5, b6, b7] := by
  have := be_append [b0, b1, b2, b3] [b4, b5, b6, b7]
  simpa using this
theorem or_two (H L : Nat) (hH : H < 4294967296) (hL : L < 4294967296) : bits BinOp.or IntKind.u64 ((H : Int) * 4294967296) (L : Int) = ((H * 4294967296 + L : Nat) : Int) := by
  have e : (H : Int) * 4294967296 = ((H * 4294967296 : Nat) : Int) := by omega
  rw [e, Go.u64_or_nat _ _ (by omega) (by omega), Nat.or_comm]
  have f : L ||| H * 4294967296 = L + H * 4294967296 := by have := or_up 32 L H (by simpa using hL); simpa using this
  rw [f, Nat.add_comm]

set_option maxRecDepth 100000 in
theorem be64_any (x : Addr) (n c : Nat) (b0 b1 b2 b3 b4 b5 b6 b7 : UInt8) (w : World) (hn : 8 ≤ n) (hnc : n ≤ 100000) (hc : n ≤ c)
    (h0 : w.cell? x = some (.int .u8 (b0.toNat : Int))) (h1 : w.cell? (x.add 1) = some (.int .u8 (b1.toNat : Int))) (h2 : w.cell? (x.add 2) = some (.int .u8 (b2.toNat : Int))) (h3 : w.cell? (x.add 3) = some (.int .u8 (b3.toNat : Int)))
    (h4 : w.cell? (x.add 4) = some (.int .u8 (b4.toNat : Int))) (h5 : w.cell? (x.add 5) = some (.int .u8 (b5.toNat : Int))) (h6 : w.cell? (x.add 6) = some (.int .u8 (b6.toNat : Int))) (h7 : w.cell? (x.add 7) = some (.int .u8 (b7.toNat : Int))) :
    Calls Tryz.prog 95 #[.slice (some x) n c] w fun e w' => e = .returned (.int .u64 (be [b0, b1, b2, b3, b4, b5, b6, b7] : Nat)) ∧ ∃ q, w' = w.drewN q := by
  have h7' : w.cell? ⟨x.block, x.off + 7, none⟩ = some (.int .u8 (b7.toNat : Int)) := h7
  have hlo := Lib.hid fun q => be32_any x n c b0 b1 b2 b3 (w.drewN q) (by omega) hnc h0 h1 h2 h3
  have hhi := Lib.hid fun q => be32_any ⟨x.block, x.off + 4, none⟩ (n - 4) (c - 4) b4 b5 b6 b7 (w.drewN q) (by omega) (by omega) h4 h5 h6 h7
  have H1 : be [b0, b1, b2, b3] < 4294967296 := by have := be_lt [b0, b1, b2, b3]; simpa using this
  have L1 : be [b4, b5, b6, b7] < 4294967296 := by have := be_lt [b4, b5, b6, b7]; simpa using this
  rw [be_eight]
  obtain ⟨H, hH⟩ : ∃ H, be [b0, b1, b2, b3] = H := ⟨_, rfl⟩
  obtain ⟨L, hL⟩ : ∃ L, be [b4, b5, b6, b7] = L := ⟨_, rfl⟩
  rw [hH] at hlo H1 ⊢
  rw [hL] at hhi L1 ⊢
  have hc4 : ¬ c = 4 := by omega
  have g7 : (7 : Int) < (n : Int) := by omega
  have g4 : (4 : Int) ≤ (n : Int) := by omega
  have g4c : (n : Int) ≤ (c : Int) := by omega
  have horr := Lib.hid (or_two H L H1 L1)
  clear hH hL h0 h1 h2 h3 h4 h5 h6 h7
  go_enter Tryz.func95, Tryz.ntmps95
  go_wp2
  go_quiet ((first | (go_at_call 96; with_reducible exact Calls.quiet_of (hlo.out _)) | (go_at_call 96; with_reducible exact Calls.quiet_of (hhi.out _))))
  go_wp2
  go_ret
  refine ⟨?_, _, rfl⟩
  show Ending.returned (.int .u64 _) = _
  rw [horr.out]

set_option maxRecDepth 100000 in
theorem bew_any (x : Addr) (n c : Nat) (V : Nat) (w : World) (h : Calls Tryz.prog 95 #[.slice (some x) n c] w fun e w' => e = .returned (.int .u64 (V : Int)) ∧ ∃ q, w' = w.drewN q) :
    Calls Tryz.prog 78 #[.slice (some x) n c] w fun e w' => e = .returned (.int .u64 (V : Int)) ∧ ∃ q, w' = w.drewN q := by
  have h' := Lib.hid h
  clear h
  go_enter Tryz.func78, Tryz.ntmps78
  go_wp2_with fail
  refine h'.out.mono ?_
  rintro e w1 ⟨rfl, q, rfl⟩
  go_wp2
  go_ret
  exact ⟨rfl, _, rfl⟩
end Go.Proofs.YtpjkfdgkkpkljaaGreatDoor.Nat_
