/-
  The bytes of a natural.
-/
import Derived.Test.YtpjkfdgkkpkljaaGreatDoorNatBits
import Derived.Test.YtpjkfdgkkpkljaaGreatDoorSetLaw
import Derived.Test.YtpjkfdgkkpkljaaGreatDoorNatCmp
namespace Go.Proofs.YtpjkfdgkkpkljaaGreatDoor.Nat_
open Go.RowKit Go.WideShapes Go.Proofs.YtpjkfdgkkpkljaaGreatDoor.Own Go.Proofs.YtpjkfdgkkpkljaaGreatDoor.Num Go.Proofs.YtpjkfdgkkpkljaaGreatDoor.Ref
set_option linter.unusedVariables false

theorem byte_of_word (V k j : Nat) (hj : j < 8) : V / W ^ k % W / 256 ^ j % 256 = V / 256 ^ (8 * k + j) % 256 := by
  rw [W_pow, show W = 256 ^ 8 from rfl, mod_digit (by omega), if_pos hj, Nat.div_div_eq_div_mul, ← Nat.pow_add]

set_option maxHeartbeats 2000000 in
set_option maxRecDepth 100000 in
theorem nbytes_any (v : Value) (V B gb cb : Nat) (w0 w : World) (h : IsNat w0 B v V) (hm : len W V ≤ 10000) (hb0 : Below w0.heap.size w0 w)
    (hgb : w0.heap.size ≤ gb)
    (hbuf : w.ownsRow w0.heap.size 5 1 (.slice (some ⟨gb, 0, none⟩) (8 * len W V) cb) (8 * len W V) (bs (rev8 0 (8 * len W V)))) :
    Calls Tryz.prog 67 #[v, .slice (some ⟨gb, 0, none⟩) (8 * len W V) cb] w fun e w' => (e = .returned (.int .i64 ((8 * len W V - len 256 V : Nat) : Int)) ∧
      w'.ownsRow w0.heap.size 5 1 (.slice (some ⟨gb, 0, none⟩) (8 * len W V) cb) (8 * len W V) (bs (rev8 V (8 * len W V)))) ∧ Below w0.heap.size w0 w' := by
  obtain ⟨a, c, rfl, hc, hr⟩ := h.slice
  have hVlt := len_lt W_two V
  rw [W_pow] at hVlt
  obtain ⟨m, hmm⟩ : ∃ m, len W V = m := ⟨_, rfl⟩
  have hr' := Lib.hid hr
  have hmm' := Lib.hid hmm
  rw [hmm] at hm hbuf hc hVlt ⊢
  have hVlt' := Lib.hid hVlt
  have hbuf' : Hid (w.ownsRow w0.heap.size 5 1 (.slice (some ⟨gb, 0, none⟩) (8 * m) cb) (8 * m) (bs (rev8 (V % 256 ^ (8 * 0)) (8 * m)))) := Lib.hid (by simpa [Nat.mod_one] using hbuf)
  obtain ⟨N, hN⟩ : ∃ N, 8 * m = N := ⟨_, rfl⟩
  have hb0' := Lib.hid hb0
  have hN8 : (m : Int) * 8 = N := by omega
  clear hbuf hr h hmm hVlt hb0
  rw [hN] at hbuf' hVlt' ⊢
  go_enter Tryz.func67, Tryz.ntmps67
  go_wp2
  go_loopw [4, 12] (fun i x wr => ∃ k : Nat, k ≤ m ∧ x = .int .i64 k ∧ i = .int .i64 ((N - 8 * k : Nat) : Int) ∧ Hid (wr.ownsRow w0.heap.size 5 1 (.slice (some ⟨gb, 0, none⟩) N cb) N (bs (rev8 (V % 256 ^ (8 * k)) N)) ∧ Below w0.heap.size w0 wr)) (fun _ x _ => m - (intOf x).toNat)
  case atStart => exact ⟨0, Nat.zero_le _, rfl, by simp, Lib.hid ⟨hbuf'.out, hb0'.out⟩⟩
  case round =>
    clear hbuf' hb0'
    obtain ⟨k, hk, rfl, rfl, hR⟩ := hrel
    by_cases hlt : k < m
    · obtain ⟨wo, rfl⟩ : ∃ wo : World, wo = wr := ⟨_, rfl⟩
      obtain ⟨hown, hbw⟩ := hR.out
      obtain ⟨g, rfl, hcell⟩ := (hr'.out.later hbw).at_ (j := k) (by rw [hmm'.out]; exact hlt)
      obtain ⟨D0, hD0⟩ : ∃ D, V / W ^ k % W = D := ⟨_, rfl⟩
      rw [hD0] at hcell
      have hD0' := Lib.hid hD0
      have hR' := hR
      clear hown hbw hD0 hR
      go_wp2
      go_loopw [4, 6, 7] (fun i d j wr => ∃ t : Nat, t ≤ 8 ∧ j = .int .i64 t ∧ i = .int .i64 ((N - (8 * k + t) : Nat) : Int) ∧ d = .int .u64 ((D0 / 256 ^ t : Nat) : Int) ∧ Hid (wr.ownsRow w0.heap.size 5 1 (.slice (some ⟨gb, 0, none⟩) N cb) N (bs (rev8 (V % 256 ^ (8 * k + t)) N)) ∧ Below w0.heap.size w0 wr)) (fun _ _ j _ => 8 - (intOf j).toNat)
      case atStart => exact ⟨0, by omega, rfl, rfl, by simp, hR'⟩
      case round =>
        clear hR'
        obtain ⟨t, ht, rfl, rfl, rfl, hQ⟩ := hrel
        by_cases ht8 : t < 8
        · obtain ⟨hown, hbw2⟩ := hQ.out
          obtain ⟨I, hI⟩ : ∃ I, N - 1 - (8 * k + t) = I := ⟨_, rfl⟩
          have hIN : I < N := by omega
          have e : ((N - (8 * k + t) : Nat) : Int) - 1 = I := by omega
          rw [show ((N - (8 * k + t) : Nat) : Int) = (I : Int) + 1 by omega]
          have hc0 := World.ownsRow.cellAt hown I (by omega)
          have hf0 := World.ownsRow.frozenAt hown I
          obtain ⟨cv, hcv⟩ : ∃ cv, (bs (rev8 (V % 256 ^ (8 * k + t)) N))[I]? = some cv := ⟨_, List.getElem?_eq_getElem (by rw [bs_length, rev8_length]; omega)⟩
          rw [hcv] at hc0
          obtain ⟨U, hU⟩ : ∃ U, D0 / 256 ^ t = U := ⟨_, rfl⟩
          have hUlt : U < 18446744073709551616 := by
            rw [← hU]; refine Nat.lt_of_le_of_lt (Nat.div_le_self _ _) ?_; rw [← hD0'.out]; exact Nat.mod_lt _ (by decide)
          obtain ⟨M, hM⟩ : ∃ M, U % 256 = M := ⟨_, rfl⟩
          have hst := World.ownsRow.stored hown I (.int .u8 (M : Int))
          have hdig : V / 256 ^ (8 * k + t) % 256 = M := by rw [← byte_of_word V k t ht8, hD0'.out, hU, hM]
          have hM256 : M < 256 := by omega
          have hset : (bs (rev8 (V % 256 ^ (8 * k + t)) N)).set I (.int .u8 (M : Int)) = bs (rev8 (V % 256 ^ (8 * k + (t + 1))) N) := by
            have h1 := rev8_set V N (8 * k + t) M (by omega) hdig
            rw [hI] at h1
            rw [← Nat.add_assoc, ← h1]
            unfold bs
            rw [List.map_set]
            congr 2
            simp; omega
          rw [hset] at hst
          have hdiv : U / 256 = D0 / 256 ^ (t + 1) := by rw [← hU, Nat.div_div_eq_div_mul, ← Nat.pow_succ]
          have hM' : IntKind.u8.wrap (U : Int) = M := by rw [IntKind.wrap_u8]; omega
          obtain ⟨Q, hQq⟩ : ∃ Q, U / 256 = Q := ⟨_, rfl⟩
          have hQ' : (U : Int) / 256 = Q := by omega
          have hQ2 : U >>> 8 = Q := by rw [Nat.shiftRight_eq_div_pow]; omega
          rw [hQq] at hdiv
          rw [hU]
          have hdiv' := Lib.hid hdiv
          have hI' := Lib.hid hI
          clear hcv e hU hM hQq hdiv hset hdig hI hown hQ
          go_wp2
          go_roundw
          case rel => exact ⟨t + 1, by omega, by simp, by rw [← hI'.out]; congr 2; omega, by rw [hdiv'.out], Lib.hid ⟨hst.1, hbw2.setCell hgb _⟩⟩
          case measure => simp [intOf]; omega
        · have ht9 : t = 8 := by omega
          subst ht9
          go_wp2
          go_roundw
          case rel => exact ⟨k + 1, by omega, by simp, by congr 2, by simpa [Nat.mul_add] using hQ⟩
          case measure => simp [intOf]; omega
    · have hkm : k = m := by omega
      subst hkm
      rw [hN] at hR
      have hR' : Hid (wr.ownsRow w0.heap.size 5 1 (.slice (some ⟨gb, 0, none⟩) N cb) N (bs (rev8 V N)) ∧ Below w0.heap.size w0 wr) := by
        have := hR.out
        rw [Nat.mod_eq_of_lt hVlt'.out] at this
        exact Lib.hid this
      have e0 : N - 8 * k = 0 := by omega
      rw [e0]
      go_wp2
      obtain ⟨w3, rfl⟩ : ∃ w3 : World, w3 = wr := ⟨_, rfl⟩
      obtain ⟨hown, hbw⟩ := hR'.out
      have hall := Lib.hid fun (i : Nat) (hi : i < N) => World.ownsRow.cellAt hown i (by omega)
      clear hR hown hbw
      go_loopw [4] (fun i wr => ∃ I : Nat, I ≤ N ∧ i = .int .i64 I ∧ V < 256 ^ (N - I) ∧ wr = w3 ∧ (∀ j < I, (rev8 V N)[j]? = some 0)) (fun i _ => N - (intOf i).toNat)
      case atStart => exact ⟨0, by omega, rfl, by simpa using hVlt'.out, rfl, fun j hj => by omega⟩
      case round =>
        obtain ⟨I, hI, rfl, hlt0, rfl, hzero⟩ := hrel
        by_cases hIN : I < N
        · have hc0 := hall.out I hIN
          have hlen : I < (rev8 V N).length := by rw [rev8_length]; exact hIN
          obtain ⟨b, hb⟩ : ∃ b, (rev8 V N)[I]? = some b := ⟨_, List.getElem?_eq_getElem hlen⟩
          have hlead := rev8_lead V N I hlt0 hIN
          rw [hb] at hlead
          have hbI : (bs (rev8 V N))[I]? = some (.int .u8 (b.toNat : Int)) := by unfold bs; rw [List.getElem?_map, hb]; rfl
          rw [hbI] at hc0
          by_cases hb0 : b = 0
          · subst hb0
            have hlt1 := hlead.mp rfl
            have hlt1' := Lib.hid hlt1
            have hzero' := Lib.hid hzero
            have hb' := Lib.hid hb
            clear hlead hlt0 hlen hlt1 hzero hb hbI
            go_wp2
            go_roundw
            case rel => exact ⟨I + 1, by omega, by simp, hlt1'.out, trivial, fun j hj => by
              rcases Nat.lt_succ_iff_lt_or_eq.mp hj with h | h
              · exact hzero'.out j h
              · subst h; exact hb'.out⟩
            case measure => simp [intOf]; omega
          · have hne : ¬ V < 256 ^ (N - (I + 1)) := fun h => hb0 (Option.some.inj (hlead.mpr h))
            have hb9 : ¬ ((b.toNat : Int) = 0) := fun h => hb0 (by apply UInt8.toNat.inj; simpa using h)
            have hlen2 : N - len 256 V = I := by
              have := len_eq (b := 256) (by omega) hlt0 (fun _ => by rw [show N - I - 1 = N - (I + 1) by omega]; exact Nat.not_lt.mp hne)
              omega
            have hlen2' := Lib.hid hlen2
            clear hlead hzero hb hbI hlt0 hne hlen2
            go_wp2
            go_ret
            exact ⟨⟨by rw [hlen2'.out]; rfl, hR'.out.1⟩, hR'.out.2⟩
        · have hIe : I = N := by omega
          subst hIe
          have hlen2 : I - len 256 V = I := by
            have : V = 0 := by rw [Nat.sub_self] at hlt0; simpa using hlt0
            rw [this]; rfl
          have hlen2' := Lib.hid hlen2
          clear hzero hlt0 hlen2
          go_wp2
          go_ret
          exact ⟨⟨by rw [hlen2'.out]; rfl, hR'.out.1⟩, hR'.out.2⟩
end Go.Proofs.YtpjkfdgkkpkljaaGreatDoor.Nat_
