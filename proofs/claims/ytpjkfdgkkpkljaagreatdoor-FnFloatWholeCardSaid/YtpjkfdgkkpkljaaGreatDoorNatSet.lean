/-
  The package's naturals: one out of a row of bytes.
-/
import Derived.Test.YtpjkfdgkkpkljaaGreatDoorNatWord
namespace Go.Proofs.YtpjkfdgkkpkljaaGreatDoor.Nat_
open Go.RowKit Go.WideShapes Go.Proofs.YtpjkfdgkkpkljaaGreatDoor.Own Go.Proofs.YtpjkfdgkkpkljaaGreatDoor.Num Go.Proofs.YtpjkfdgkkpkljaaGreatDoor.Ref
set_option linter.unusedVariables false

theorem or_top (T c t : Nat) (hT : T < 256 ^ t) (ht : t ≤ 7) (hc : c < 256) : bits BinOp.or IntKind.u64 (T : Int) (IntKind.u64.wrap ((c : Int) * 2 ^ (8 * t))) = ((c * 256 ^ t + T : Nat) : Int) := by
  have e : (256 : Nat) ^ t = 2 ^ (8 * t) := by rw [show (256 : Nat) = 2 ^ 8 by rfl, ← Nat.pow_mul]
  rw [e] at hT ⊢
  have hp : 2 ^ (8 * t) ≤ 2 ^ 56 := Nat.pow_le_pow_right (by omega) (by omega)
  have e2 : (c : Int) * 2 ^ (8 * t) = ((c * 2 ^ (8 * t) : Nat) : Int) := by simp
  have hlt : c * 2 ^ (8 * t) < 18446744073709551616 := by
    have := Nat.mul_le_mul (show c ≤ 255 by omega) hp
    exact Nat.lt_of_le_of_lt this (by decide)
  rw [e2, IntKind.wrap_u64]
  have e3 : ((c * 2 ^ (8 * t) : Nat) : Int) % 18446744073709551616 = ((c * 2 ^ (8 * t) : Nat) : Int) := by omega
  rw [e3, Go.u64_or_nat _ _ (by omega) hlt, or_up (8 * t) T c hT, Nat.add_comm]

set_option maxHeartbeats 1000000 in
set_option maxRecDepth 100000 in
theorem setbytes_any (a : Option Addr) (cap : Nat) (l : List UInt8) (w : World) (h : Rd w a l) (hl : l.length ≤ 1000) (hc : l.length ≤ cap) :
    Calls Tryz.prog 60 #[.slice none 0 0, .slice a l.length cap] w fun e w' => (∃ v, e = .returned v ∧ IsNat w' w.heap.size v (be l)) ∧ Below w.heap.size w w' := by
  obtain ⟨n, hn⟩ : ∃ n, l.length = n := ⟨_, rfl⟩
  obtain ⟨N, hN⟩ : ∃ N, (n + 7) / 8 = N := ⟨_, rfl⟩
  obtain ⟨V, hV⟩ : ∃ V, be l = V := ⟨_, rfl⟩
  have hVN : V < W ^ N := by rw [← hV]; exact be_lt_words l N (by omega)
  rw [hn] at hl hc ⊢
  rw [hV]
  have hmk := Lib.hid (make_any N (by omega) w)
  have hnorm := Lib.hid fun v W' B (h : OwnW W' B v (dig W V N)) => norm_any v V N B W' h hVN (by omega)
  have eN : ((n : Int) + 8 - 1).tdiv 8 = (N : Int) := by rw [Int.tdiv_eq_ediv_of_nonneg (by omega)]; omega
  have hNN : N ≤ 1000 := by omega
  have hVN' := Lib.hid hVN
  have hV' := Lib.hid hV
  have hn' := Lib.hid hn
  have hN' := Lib.hid hN
  clear hVN hV hn hN
  go_enter Tryz.func60, Tryz.ntmps60
  go_wp2_with fail
  refine hmk.out.mono ?_
  rintro e w1 ⟨⟨z, rfl, ho⟩, hb1⟩
  rcases ho.shape with ⟨rfl, h0⟩ | ⟨g, zc, rfl, hg, hB, hzc, hcell⟩
  · have hN0 : N = 0 := by have := congrArg List.length h0; rw [dig_length] at this; simpa using this
    have hn0 : n = 0 := by have := hN'.out; omega
    subst hN0
    subst hn0
    have hfin := Lib.hid (hnorm.out (.slice none 0 0) w1 w.heap.size (by exact World.ownsRow_nil _ _ _ _))
    clear h0 ho hnorm eN
    go_wp2
    go_loop [5, 6] (fun i k => i = .int .i64 0 ∧ k = .int .i64 0) (fun _ _ => 0)
    case atStart => exact ⟨rfl, rfl⟩
    case round =>
      obtain ⟨rfl, rfl⟩ := hrel
      go_wp2_with fail
      refine hfin.out.mono ?_
      rintro e w2 ⟨⟨u, rfl, hu⟩, rfl⟩
      go_wp2
      go_ret
      exact ⟨⟨_, rfl, hu⟩, hb1⟩
  · rw [dig_length] at ho hzc ⊢
    have hrow : w1.ownsRow w.heap.size 111 1 (.slice (some ⟨g, 0, none⟩) N zc) N (ws (dig W (V % W ^ 0) N)) := by
      have := ho
      unfold OwnW at this
      rw [dig_length] at this
      rw [Nat.pow_zero, Nat.mod_one]
      exact this
    have hrd := Lib.hid h
    clear ho hcell h eN hmk
    go_wp2
    go_loopw [5, 6] (fun i kk wr => ∃ i' k : Nat, i = .int .i64 (i' : Int) ∧ kk = .int .i64 (k : Int) ∧ i' ≤ 1000 ∧ k ≤ 1000 ∧ Hid (i' + 8 * k = n) ∧ wr.ownsRow w.heap.size 111 1 (.slice (some ⟨g, 0, none⟩) N zc) N (ws (dig W (V % W ^ k) N)) ∧ Below w.heap.size w wr) (fun i _ _ => (intOf i).toNat)
    case atStart => exact ⟨n, 0, rfl, rfl, hl, by omega, rfl, hrow, hb1⟩
    case round =>
      clear hrow hb1
      obtain ⟨i, k, rfl, rfl, hi, hk, hik, hrow, hb⟩ := hrel
      by_cases h8 : 8 ≤ i
      · obtain ⟨s, rfl⟩ : ∃ s, i = s + 8 := ⟨i - 8, by omega⟩
        have hkN : k < N := by have := hik.out; have := hN'.out; omega
        rcases hrd.out with ⟨_, h0⟩ | ⟨x, rfl, hx, hcell⟩
        · have := hn'.out; have := hik.out; rw [h0] at *; simp at *; omega
        · have hc1 : ∀ j (hj : j < l.length), wr.cell? (x.add j) = some (.int .u8 (l[j].toNat : Int)) := fun j hj => by
            rw [hb.cell (by rw [block_add]; exact hx (by omega))]; exact hcell j hj
          have hword := Lib.hid (word_any x l n k s (cap - s) wr hc1 hn'.out (by have := hik.out; omega) (by have := hik.out; omega) (by have := hik.out; omega))
          rw [hV'.out] at hword
          obtain ⟨D, hD⟩ : ∃ D, V / W ^ k % W = D := ⟨_, rfl⟩
          have hset := ws_set V k N D hD
          rw [hD] at hword
          have hset' := Lib.hid hset
          have hDW : D < 18446744073709551616 := by rw [← hD]; exact Nat.mod_lt _ W_pos
          obtain ⟨cv, hcv⟩ : ∃ cv, (ws (dig W (V % W ^ k) N))[k]? = some cv := ⟨_, List.getElem?_eq_getElem (by rw [ws_length, dig_length]; exact hkN)⟩
          have hcv' := Lib.hid hcv
          have hrow' := Lib.hid hrow
          have g1 : (s : Int) + 8 ≤ (cap : Int) := by have := hik.out; omega
          clear hset hD hcell hc1 hcv hrow
          go_wp2_with fail
          refine hword.out.mono ?_
          rintro e w3 ⟨rfl, q, rfl⟩
          have hrow3 : (wr.drewN q).ownsRow w.heap.size 111 1 (.slice (some ⟨g, 0, none⟩) N zc) N (ws (dig W (V % W ^ k) N)) := hrow'.out
          have hc0 := World.ownsRow.cellAt hrow3 k (by omega)
          have hf0 := World.ownsRow.frozenAt hrow3 k
          have hst := World.ownsRow.stored hrow3 k (.int .u64 (D : Int))
          rw [hset'.out] at hst
          rw [hcv'.out] at hc0
          have hst' := Lib.hid hst.1
          clear hst hrow3
          go_wp2
          go_roundw
          case rel => exact ⟨s, k + 1, by go_num, rfl, by omega, by omega, by have := hik.out; exact Lib.hid (by omega), hst'.out, (Box.below_drawn hb q).setCell hB _⟩
          case measure => simp [intOf]; omega
      · by_cases h0 : i = 0
        · subst h0
          have hkN : k = N := by have := hik.out; have := hN'.out; omega
          subst hkN
          have hfin := Lib.hid (hnorm.out (.slice (some ⟨g, 0, none⟩) k zc) wr w.heap.size (by
            rw [dig_full V k k hVN'.out] at hrow
            unfold OwnW
            rw [dig_length]
            exact hrow))
          clear hrow
          go_wp2_with fail
          refine hfin.out.mono ?_
          rintro e w2 ⟨⟨u, rfl, hu⟩, rfl⟩
          go_wp2
          go_ret
          exact ⟨⟨_, rfl, hu⟩, hb⟩
        · obtain rfl : N = k + 1 := by have := hik.out; have := hN'.out; omega
          rcases hrd.out with ⟨_, h0'⟩ | ⟨x, rfl, hx, hcell⟩
          · have := hn'.out; have := hik.out; rw [h0'] at *; simp at *; omega
          · have hc1 : Hid (∀ j (hj : j < l.length), wr.cell? (x.add j) = some (.int .u8 (l[j].toNat : Int))) := Lib.hid fun j hj => by
              rw [hb.cell (by rw [block_add]; exact hx (by omega))]; exact hcell j hj
            have hil : i ≤ l.length := by have := hn'.out; have := hik.out; omega
            have hin : i ≤ n := by have := hik.out; omega
            have hil' := Lib.hid hil
            have hrow' := Lib.hid hrow
            have hi8 : i ≤ 7 := by omega
            have hi0 : 0 < i := by omega
            clear hil hcell hrow
            go_wp2
            go_loopw [5, 7, 8] (fun ii d s wx => ∃ j t : Nat, ii = .int .i64 (j : Int) ∧ d = .int .u64 ((topPart l i t : Nat) : Int) ∧ s = .int .u64 ((8 * t : Nat) : Int) ∧ t ≤ 7 ∧ j ≤ 7 ∧ Hid (j + t = i) ∧ wx = wr) (fun ii _ _ _ => (intOf ii).toNat)
            case atStart => exact ⟨i, 0, rfl, by rw [topPart_zero]; rfl, rfl, by omega, hi8, rfl, rfl⟩
            case round =>
              obtain ⟨j, t, rfl, rfl, rfl, ht, hj, hjt, rfl⟩ := hrel
              obtain ⟨T, hT⟩ : ∃ T, topPart l i t = T := ⟨_, rfl⟩
              rw [hT]
              cases j with
              | succ m =>
                have hml : m < l.length := by have := hjt.out; have := hil'.out; omega
                have hcm := hc1.out m hml
                obtain ⟨c, hc⟩ : ∃ c, l[m] = c := ⟨_, rfl⟩
                rw [hc] at hcm
                have hcl := UInt8.toNat_lt c
                have hmn : (m : Int) < (n : Int) := by have := hjt.out; omega
                have hstep := topPart_step l i t hil'.out (by have := hjt.out; omega)
                have hidx : i - t - 1 = m := by have := hjt.out; omega
                have hstep2 : topPart l i (t + 1) = c.toNat * 256 ^ t + T := by
                  rw [hstep, hT, ← hc]
                  congr 3
                  simp only [hidx]
                have hor := Lib.hid (or_top T c.toNat t (by rw [← hT]; exact topPart_lt l i t hil'.out (by have := hjt.out; omega)) ht hcl)
                rw [← hstep2] at hor
                clear hT hc hstep hidx hstep2
                go_wp2
                go_roundw
                case rel => exact ⟨m, t + 1, rfl, by rw [hor.out], by go_num, by have := hjt.out; omega, by omega, by have := hjt.out; exact Lib.hid (by omega), trivial⟩
                case measure => simp [intOf]
              | zero =>
                obtain rfl : t = i := by have := hjt.out; omega
                have hTV : V / W ^ k % W = T := by
                  rw [← hT, topPart_end, ← hV'.out, ← word_top l k (by have := hn'.out; have := hik.out; omega) (by have := hn'.out; have := hik.out; omega)]
                  congr 2
                  have := hn'.out
                  have := hik.out
                  omega
                have hset := ws_set V k (k + 1) T hTV
                obtain ⟨cv, hcv⟩ : ∃ cv, (ws (dig W (V % W ^ k) (k + 1)))[k]? = some cv := ⟨_, List.getElem?_eq_getElem (by rw [ws_length, dig_length]; omega)⟩
                have hc0 := World.ownsRow.cellAt hrow'.out k (by omega)
                have hf0 := World.ownsRow.frozenAt hrow'.out k
                have hst := World.ownsRow.stored hrow'.out k (.int .u64 (T : Int))
                rw [hset] at hst
                rw [hcv] at hc0
                have hfin := Lib.hid (hnorm.out (.slice (some ⟨g, 0, none⟩) (k + 1) zc) _ w.heap.size (by
                  have := hst.1
                  rw [dig_full V (k + 1) (k + 1) hVN'.out] at this
                  unfold OwnW
                  rw [dig_length]
                  exact this))
                clear hset hcv hst hTV hT
                go_wp2_with fail
                refine hfin.out.mono ?_
                rintro e w2 ⟨⟨u, rfl, hu⟩, rfl⟩
                go_wp2
                go_ret
                exact ⟨⟨_, rfl, hu⟩, hb.setCell hB _⟩
end Go.Proofs.YtpjkfdgkkpkljaaGreatDoor.Nat_
