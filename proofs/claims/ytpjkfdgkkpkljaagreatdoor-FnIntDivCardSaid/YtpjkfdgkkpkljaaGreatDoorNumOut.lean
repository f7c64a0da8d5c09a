/-
  The bytes of a natural. The bytes of the package's integer. The program's value of an integer of the language. An integer of the package whose words lie from a block on; one that is set into a new one. The program's value of an integer of the language, its great number anywhere on the heap. A value's row of bytes, wherever it lies; the cells of two values.
-/
import Derived.Test.YtpjkfdgkkpkljaaGreatDoorNatBits
import Derived.Test.YtpjkfdgkkpkljaaGreatDoorSetLaw
import Derived.Test.YtpjkfdgkkpkljaaGreatDoorNatCmp
import Derived.Test.YtpjkfdgkkpkljaaGreatDoorBigStar
import Derived.Test.YtpjkfdgkkpkljaaGreatDoorNatMake
import Derived.Test.YtpjkfdgkkpkljaaGreatDoorLawIn
import Derived.Test.YtpjkfdgkkpkljaaGreatDoorRatInt
import Derived.Deep.RegionHeld3
namespace Go.Proofs.YtpjkfdgkkpkljaaGreatDoor.Nat_
open Go.RowKit Go.WideShapes Go.Proofs.YtpjkfdgkkpkljaaGreatDoor.Own Go.Proofs.YtpjkfdgkkpkljaaGreatDoor.Num Go.Proofs.YtpjkfdgkkpkljaaGreatDoor.Ref
set_option linter.unusedVariables false

theorem byte_of_word (V k j : Nat) (hj : j < 8) : V / W ^ k % W / 256 ^ j % 256 = V / 256 ^ (8 * k + j) % 256 := by
  rw [W_pow, show W = 256 ^ 8 from rfl, mod_digit (by omega), if_pos hj, Nat.div_div_eq_div_mul, ← Nat.pow_add]

set_option maxHeartbeats 2000000 in
set_option maxRecDepth 100000 in
theorem nbytes_any (v : Value) (V B gb cb : Nat) (w0 w : World) (h : IsNat w0 B v V) (hm : len W V ≤ 10000) (hb0 : Below w0.heap.size w0 w)
    (hgb : w0.heap.size ≤ gb)
    (hbuf : w.ownsRow w0.heap.size 5 1 (.slice (some ⟨gb, 0, none⟩) (8 * len W V) cb) (8 * len W V) (bs (rev8 0 (8 * len W V)))) :
    Calls Tryz.prog 67 #[v, .slice (some ⟨gb, 0, none⟩) (8 * len W V) cb] w fun e w' => (e = .returned (.int .i64 ((8 * len W V - len 256 V : Nat) : Int)) ∧
      w'.ownsRow w0.heap.size 5 1 (.slice (some ⟨gb, 0, none⟩) (8 * len W V) cb) (8 * len W V) (bs (rev8 V (8 * len W V)))) ∧ Below w0.heap.size w0 w' := by
  obtain ⟨a, c, rfl, hc, hr⟩ := h.slice
  have hVlt := len_lt W_two V
  rw [W_pow] at hVlt
  obtain ⟨m, hmm⟩ : ∃ m, len W V = m := ⟨_, rfl⟩
  have hr' := Lib.hid hr
  have hmm' := Lib.hid hmm
  rw [hmm] at hm hbuf hc hVlt ⊢
  have hVlt' := Lib.hid hVlt
  have hbuf' : Hid (w.ownsRow w0.heap.size 5 1 (.slice (some ⟨gb, 0, none⟩) (8 * m) cb) (8 * m) (bs (rev8 (V % 256 ^ (8 * 0)) (8 * m)))) := Lib.hid (by simpa [Nat.mod_one] using hbuf)
  obtain ⟨N, hN⟩ : ∃ N, 8 * m = N := ⟨_, rfl⟩
  have hb0' := Lib.hid hb0
  have hN8 : (m : Int) * 8 = N := by omega
  clear hbuf hr h hmm hVlt hb0
  rw [hN] at hbuf' hVlt' ⊢
  go_enter Tryz.func67, Tryz.ntmps67
  go_wp2
  go_loopw [4, 12] (fun i x wr => ∃ k : Nat, k ≤ m ∧ x = .int .i64 k ∧ i = .int .i64 ((N - 8 * k : Nat) : Int) ∧ Hid (wr.ownsRow w0.heap.size 5 1 (.slice (some ⟨gb, 0, none⟩) N cb) N (bs (rev8 (V % 256 ^ (8 * k)) N)) ∧ Below w0.heap.size w0 wr)) (fun _ x _ => m - (intOf x).toNat)
  case atStart => exact ⟨0, Nat.zero_le _, rfl, by simp, Lib.hid ⟨hbuf'.out, hb0'.out⟩⟩
  case round =>
    clear hbuf' hb0'
    obtain ⟨k, hk, rfl, rfl, hR⟩ := hrel
    by_cases hlt : k < m
    · obtain ⟨wo, rfl⟩ : ∃ wo : World, wo = wr := ⟨_, rfl⟩
      obtain ⟨hown, hbw⟩ := hR.out
      obtain ⟨g, rfl, hcell⟩ := (hr'.out.later hbw).at_ (j := k) (by rw [hmm'.out]; exact hlt)
      obtain ⟨D0, hD0⟩ : ∃ D, V / W ^ k % W = D := ⟨_, rfl⟩
      rw [hD0] at hcell
      have hD0' := Lib.hid hD0
      have hR' := hR
      clear hown hbw hD0 hR
      go_wp2
      go_loopw [4, 6, 7] (fun i d j wr => ∃ t : Nat, t ≤ 8 ∧ j = .int .i64 t ∧ i = .int .i64 ((N - (8 * k + t) : Nat) : Int) ∧ d = .int .u64 ((D0 / 256 ^ t : Nat) : Int) ∧ Hid (wr.ownsRow w0.heap.size 5 1 (.slice (some ⟨gb, 0, none⟩) N cb) N (bs (rev8 (V % 256 ^ (8 * k + t)) N)) ∧ Below w0.heap.size w0 wr)) (fun _ _ j _ => 8 - (intOf j).toNat)
      case atStart => exact ⟨0, by omega, rfl, rfl, by simp, hR'⟩
      case round =>
        clear hR'
        obtain ⟨t, ht, rfl, rfl, rfl, hQ⟩ := hrel
        by_cases ht8 : t < 8
        · obtain ⟨hown, hbw2⟩ := hQ.out
          obtain ⟨I, hI⟩ : ∃ I, N - 1 - (8 * k + t) = I := ⟨_, rfl⟩
          have hIN : I < N := by omega
          have e : ((N - (8 * k + t) : Nat) : Int) - 1 = I := by omega
          rw [show ((N - (8 * k + t) : Nat) : Int) = (I : Int) + 1 by omega]
          have hc0 := World.ownsRow.cellAt hown I (by omega)
          have hf0 := World.ownsRow.frozenAt hown I
          obtain ⟨cv, hcv⟩ : ∃ cv, (bs (rev8 (V % 256 ^ (8 * k + t)) N))[I]? = some cv := ⟨_, List.getElem?_eq_getElem (by rw [bs_length, rev8_length]; omega)⟩
          rw [hcv] at hc0
          obtain ⟨U, hU⟩ : ∃ U, D0 / 256 ^ t = U := ⟨_, rfl⟩
          have hUlt : U < 18446744073709551616 := by
            rw [← hU]; refine Nat.lt_of_le_of_lt (Nat.div_le_self _ _) ?_; rw [← hD0'.out]; exact Nat.mod_lt _ (by decide)
          obtain ⟨M, hM⟩ : ∃ M, U % 256 = M := ⟨_, rfl⟩
          have hst := World.ownsRow.stored hown I (.int .u8 (M : Int))
          have hdig : V / 256 ^ (8 * k + t) % 256 = M := by rw [← byte_of_word V k t ht8, hD0'.out, hU, hM]
          have hM256 : M < 256 := by omega
          have hset : (bs (rev8 (V % 256 ^ (8 * k + t)) N)).set I (.int .u8 (M : Int)) = bs (rev8 (V % 256 ^ (8 * k + (t + 1))) N) := by
            have h1 := rev8_set V N (8 * k + t) M (by omega) hdig
            rw [hI] at h1
            rw [← Nat.add_assoc, ← h1]
            unfold bs
            rw [List.map_set]
            congr 2
            simp; omega
          rw [hset] at hst
          have hdiv : U / 256 = D0 / 256 ^ (t + 1) := by rw [← hU, Nat.div_div_eq_div_mul, ← Nat.pow_succ]
          have hM' : IntKind.u8.wrap (U : Int) = M := by rw [IntKind.wrap_u8]; omega
          obtain ⟨Q, hQq⟩ : ∃ Q, U / 256 = Q := ⟨_, rfl⟩
          have hQ' : (U : Int) / 256 = Q := by omega
          have hQ2 : U >>> 8 = Q := by rw [Nat.shiftRight_eq_div_pow]; omega
          rw [hQq] at hdiv
          rw [hU]
          have hdiv' := Lib.hid hdiv
          have hI' := Lib.hid hI
          clear hcv e hU hM hQq hdiv hset hdig hI hown hQ
          go_wp2
          go_roundw
          case rel => exact ⟨t + 1, by omega, by simp, by rw [← hI'.out]; congr 2; omega, by rw [hdiv'.out], Lib.hid ⟨hst.1, hbw2.setCell hgb _⟩⟩
          case measure => simp [intOf]; omega
        · have ht9 : t = 8 := by omega
          subst ht9
          go_wp2
          go_roundw
          case rel => exact ⟨k + 1, by omega, by simp, by congr 2, by simpa [Nat.mul_add] using hQ⟩
          case measure => simp [intOf]; omega
    · have hkm : k = m := by omega
      subst hkm
      rw [hN] at hR
      have hR' : Hid (wr.ownsRow w0.heap.size 5 1 (.slice (some ⟨gb, 0, none⟩) N cb) N (bs (rev8 V N)) ∧ Below w0.heap.size w0 wr) := by
        have := hR.out
        rw [Nat.mod_eq_of_lt hVlt'.out] at this
        exact Lib.hid this
      have e0 : N - 8 * k = 0 := by omega
      rw [e0]
      go_wp2
      obtain ⟨w3, rfl⟩ : ∃ w3 : World, w3 = wr := ⟨_, rfl⟩
      obtain ⟨hown, hbw⟩ := hR'.out
      have hall := Lib.hid fun (i : Nat) (hi : i < N) => World.ownsRow.cellAt hown i (by omega)
      clear hR hown hbw
      go_loopw [4] (fun i wr => ∃ I : Nat, I ≤ N ∧ i = .int .i64 I ∧ V < 256 ^ (N - I) ∧ wr = w3 ∧ (∀ j < I, (rev8 V N)[j]? = some 0)) (fun i _ => N - (intOf i).toNat)
      case atStart => exact ⟨0, by omega, rfl, by simpa using hVlt'.out, rfl, fun j hj => by omega⟩
      case round =>
        obtain ⟨I, hI, rfl, hlt0, rfl, hzero⟩ := hrel
        by_cases hIN : I < N
        · have hc0 := hall.out I hIN
          have hlen : I < (rev8 V N).length := by rw [rev8_length]; exact hIN
          obtain ⟨b, hb⟩ : ∃ b, (rev8 V N)[I]? = some b := ⟨_, List.getElem?_eq_getElem hlen⟩
          have hlead := rev8_lead V N I hlt0 hIN
          rw [hb] at hlead
          have hbI : (bs (rev8 V N))[I]? = some (.int .u8 (b.toNat : Int)) := by unfold bs; rw [List.getElem?_map, hb]; rfl
          rw [hbI] at hc0
          by_cases hb0 : b = 0
          · subst hb0
            have hlt1 := hlead.mp rfl
            have hlt1' := Lib.hid hlt1
            have hzero' := Lib.hid hzero
            have hb' := Lib.hid hb
            clear hlead hlt0 hlen hlt1 hzero hb hbI
            go_wp2
            go_roundw
            case rel => exact ⟨I + 1, by omega, by simp, hlt1'.out, trivial, fun j hj => by
              rcases Nat.lt_succ_iff_lt_or_eq.mp hj with h | h
              · exact hzero'.out j h
              · subst h; exact hb'.out⟩
            case measure => simp [intOf]; omega
          · have hne : ¬ V < 256 ^ (N - (I + 1)) := fun h => hb0 (Option.some.inj (hlead.mpr h))
            have hb9 : ¬ ((b.toNat : Int) = 0) := fun h => hb0 (by apply UInt8.toNat.inj; simpa using h)
            have hlen2 : N - len 256 V = I := by
              have := len_eq (b := 256) (by omega) hlt0 (fun _ => by rw [show N - I - 1 = N - (I + 1) by omega]; exact Nat.not_lt.mp hne)
              omega
            have hlen2' := Lib.hid hlen2
            clear hlead hzero hb hbI hlt0 hne hlen2
            go_wp2
            go_ret
            exact ⟨⟨by rw [hlen2'.out]; rfl, hR'.out.1⟩, hR'.out.2⟩
        · have hIe : I = N := by omega
          subst hIe
          have hlen2 : I - len 256 V = I := by
            have : V = 0 := by rw [Nat.sub_self] at hlt0; simpa using hlt0
            rw [this]; rfl
          have hlen2' := Lib.hid hlen2
          clear hzero hlt0 hlen2
          go_wp2
          go_ret
          exact ⟨⟨by rw [hlen2'.out]; rfl, hR'.out.1⟩, hR'.out.2⟩
end Go.Proofs.YtpjkfdgkkpkljaaGreatDoor.Nat_

namespace Go.Proofs.YtpjkfdgkkpkljaaGreatDoor.Big
open Go.RowKit Go.WideShapes Go.Proofs.YtpjkfdgkkpkljaaGreatDoor.Own Go.Proofs.YtpjkfdgkkpkljaaGreatDoor.Num Go.Proofs.YtpjkfdgkkpkljaaGreatDoor.Ref Go.Proofs.YtpjkfdgkkpkljaaGreatDoor.Nat_
set_option linter.unusedVariables false

theorem info_u8 : (Tryz.prog.info? 5).map (fun i => (i.zero, i.size, i.bytes)) = some (some (.int .u8 0), 1, 1) := by kernel_rfl
theorem zeros_u8 (c : Nat) : madeCells (Value.cells (.int .u8 0)) c = (bs (rev8 0 c)).toArray := by
  rw [rev8_zero]
  apply Array.ext'
  simp [madeCells, bs, Value.cells, Array.toList_range]
  apply List.ext_getElem?
  intro j
  by_cases h : j < c
  · simp [h, Nat.mod_one]
  · rw [List.getElem?_eq_none (by simp; omega), List.getElem?_eq_none (by simp; omega)]
theorem run_new8 (n : Nat) (hc : n ≤ 1000000) (w : World) (l : Int) (hl : l = n) :
    (Instr.makeSlice 22 (.int .i64 l) (.int .i64 l)).run Tryz.prog w = .ok (.slice (some ⟨w.heap.size, 0, none⟩) n n) (w.alloc (.cells (bs (rev8 0 n)).toArray 5)) := by
  obtain ⟨i0, hi, hz0, hz1, hz2⟩ := info_parts info_u8
  subst hl
  have := run_make (P := Tryz.prog) (w := w) 22 5 i0 (.int .u8 0) Tryz.underlying22 hi hz0 .i64 .i64 (n : Int) (n : Int) (by omega) (by omega) (by rw [hz2]; omega) (by omega)
  rw [hz1, Nat.mul_one] at this
  simp only [Int.toNat_natCast] at this
  rw [zeros_u8] at this
  exact this
theorem own_new8 (n B : Nat) (hc : n ≤ 1000000) (w : World) (hB : B ≤ w.heap.size) : (w.alloc (.cells (bs (rev8 0 n)).toArray 5)).ownsRow B 5 1 (.slice (some ⟨w.heap.size, 0, none⟩) n n) n (bs (rev8 0 n)) := by
  refine ⟨by simp [bs, rev8_length], .inr ⟨w.heap.size, n, _, rfl, hB, heap_alloc_new w _, Nat.le_refl _, by unfold maxLen; omega, by simp [bs, rev8_length], ?_⟩⟩
  rw [List.take_of_length_le (by simp [bs, rev8_length])]

/-- a slice that reads as these bytes -/
def RdS (w : World) (B : Nat) (v : Value) (l : List UInt8) : Prop := ∃ a cap, v = .slice a l.length cap ∧ Rd w a l ∧ l.length ≤ cap ∧ (a = none → cap = 0) ∧ ∀ x, a = some x → B ≤ x.block ∧ ∃ cs fz, w.heap[x.block]? = some (.cells cs 5 fz)
theorem RdS.later {w w' : World} {B : Nat} {v : Value} {l : List UInt8} (h : RdS w B v l) (hb : Below w.heap.size w w') : RdS w' B v l := by
  obtain ⟨a, c, h1, h2, h3, h4, h5⟩ := h
  refine ⟨a, c, h1, h2.later hb, h3, h4, fun x hx => ⟨(h5 x hx).1, ?_⟩⟩
  obtain ⟨cs, fz, hc⟩ := (h5 x hx).2
  exact ⟨cs, fz, (hb.block _ (Array.getElem?_eq_some_iff.1 hc).1).trans hc⟩

theorem rd_drop {w : World} {B g N c : Nat} {l : List UInt8} (h : w.ownsRow B 5 1 (.slice (some ⟨g, 0, none⟩) N c) N (bs l)) (hl : l.length = N) (hg : g < w.heap.size) (i : Nat) (hi : i ≤ N) : Rd w (some ⟨g, i, none⟩) (l.drop i) := by
  refine .inr ⟨_, rfl, fun _ => hg, fun j hj => ?_⟩
  rw [List.length_drop] at hj
  have hc := World.ownsRow.cellAt h (i + j) (by omega)
  have hb : (bs l)[i + j]? = some (.int .u8 (l[i + j].toNat : Int)) := by unfold bs; rw [List.getElem?_map, List.getElem?_eq_getElem (by omega)]; rfl
  rw [hb] at hc
  rw [List.getElem_drop, ← hc]
  congr 1
  unfold Addr.add
  by_cases h0 : j = 0 <;> simp [h0]

set_option maxHeartbeats 1000000 in
set_option maxRecDepth 100000 in
theorem ibytes_any (g : Nat) (neg : Bool) (V : Nat) (w : World) (h : BigAt w g neg V) (hm : len W V ≤ 10000) :
    Calls Tryz.prog 48 #[.pointer (some ⟨g, 0, none⟩)] w fun e w' => (∃ v, e = .returned v ∧ RdS w' w.heap.size v (mag V)) ∧ Below w.heap.size w w' := by
  obtain ⟨v, B, hk, hn, hp⟩ := h
  obtain ⟨N, hN⟩ : ∃ N, 8 * len W V = N := ⟨_, rfl⟩
  have hVN : V < 256 ^ N := by
    have := len_lt W_two V
    rw [W_pow] at this
    rwa [← hN]
  have hrun := Lib.hid (run_new8 N (by omega) w ((len W V : Int) * 8) (by omega))
  have hal : (w.alloc (.cells (bs (rev8 0 N)).toArray 5)).ownsRow w.heap.size 5 1 (.slice (some ⟨w.heap.size, 0, none⟩) N N) N (bs (rev8 0 N)) := own_new8 N _ (by omega) w (Nat.le_refl _)
  have hbn := nbytes_any v V B w.heap.size N w (w.alloc (.cells (bs (rev8 0 N)).toArray 5)) hn hm (below_one _ (Nat.le_refl _)) (Nat.le_refl _)
  rw [hN] at hbn
  have hbn' := Lib.hid (hbn hal)
  obtain ⟨a, c, rfl, hc, hr⟩ := hn.slice
  have k1 := (hk.later (below_one (.cells (bs (rev8 0 N)).toArray 5) (Nat.le_refl _))).cell 1
  have k1' := hk.cell 1
  simp at k1 k1'
  have hN' : ((len W V : Nat) : Int) * 8 = N := by omega
  obtain ⟨m, hmm⟩ : ∃ m, len W V = m := ⟨_, rfl⟩
  rw [hmm] at hc hm hN' hrun hbn' k1 k1'
  rw [hN'] at hrun
  have hrun' := hrun.out
  have hle : N - len 256 V ≤ N := Nat.sub_le _ _
  obtain ⟨I, hI⟩ : ∃ I, N - len 256 V = I := ⟨_, rfl⟩
  rw [hI] at hle hbn'
  have hfin := Lib.hid (show ∀ w2 : World, w2.ownsRow w.heap.size 5 1 (.slice (some ⟨w.heap.size, 0, none⟩) N N) N (bs (rev8 V N)) → w.heap.size < w2.heap.size → Rd w2 (some ⟨w.heap.size, I, none⟩) (mag V) ∧ (mag V).length = N - I ∧ ∃ cs fz, w2.heap[w.heap.size]? = some (.cells cs 5 fz) from fun w2 h2 hs => by
    have h3 := rd_drop h2 (rev8_length _ _) hs I hle
    rw [← hI, rev8_drop V N hVN, hI] at h3
    refine ⟨h3, ?_, ?_⟩
    · rw [← rev8_drop V N hVN, List.length_drop, rev8_length, hI]
    · rcases h2.2 with ⟨h, _⟩ | ⟨g', c', cells, h, _, hh, _⟩
      · cases h
      · cases h; exact ⟨_, _, hh⟩)
  clear hrun hbn hal hn hr hVN hN hI
  go_enter Tryz.func48, Tryz.ntmps48
  go_wp2_with fail
  refine hbn'.out.mono ?_
  rintro e w2 ⟨⟨rfl, ho⟩, hb2⟩
  have hsz := hb2.size
  have hlt : w.heap.size < w2.heap.size := by
    rcases ho.2 with ⟨h, _⟩ | ⟨g', c', cells, h, _, hh, _⟩
    · cases h
    · cases h; exact (Array.getElem?_eq_some_iff.mp hh).1
  have hf2 := Lib.hid (hfin.out w2 ho hlt)
  have hb2' := Lib.hid hb2
  clear ho hb2
  go_wp2
  · go_ret
    subst h
    have h0 : mag V = [] := List.eq_nil_of_length_eq_zero (by rw [hf2.out.2.1, Nat.sub_self])
    exact ⟨⟨_, rfl, _, _, by rw [h0]; rfl, .inr ⟨_, rfl, by rw [h0]; simp, by rw [h0]; simp⟩, by rw [h0]; simp, (fun h => by cases h), fun x hx => by cases hx; exact ⟨Nat.le_refl _, hf2.out.2.2⟩⟩, hb2'.out⟩
  · go_ret
    exact ⟨⟨_, rfl, some ⟨w.heap.size, I, none⟩, N - I, by rw [hf2.out.2.1]; rfl, hf2.out.1, Nat.le_of_eq hf2.out.2.1, (fun h => by cases h), fun x hx => by cases hx; exact ⟨Nat.le_refl _, hf2.out.2.2⟩⟩, hb2'.out⟩
end Go.Proofs.YtpjkfdgkkpkljaaGreatDoor.Big

namespace Go.Proofs.YtpjkfdgkkpkljaaGreatDoor.Big
open Go.RowKit Go.WideShapes Go.Proofs.YtpjkfdgkkpkljaaGreatDoor.Own Go.Proofs.YtpjkfdgkkpkljaaGreatDoor.Num Go.Proofs.YtpjkfdgkkpkljaaGreatDoor.Ref Go.Proofs.YtpjkfdgkkpkljaaGreatDoor.Nat_
set_option linter.unusedVariables false

set_option maxRecDepth 100000 in
theorem bsign_at (g : Nat) (neg : Bool) (V : Nat) (w : World) (h : BigAt w g neg V) (hm : len W V ≤ 10000) :
    Calls Tryz.prog 45 #[.pointer (some ⟨g, 0, none⟩)] w fun e w' => e = .returned (.int .i64 (sgn (sg neg V))) ∧ w' = w := by
  obtain ⟨v, B, hk, ho, hp⟩ := h
  obtain ⟨a, c, rfl, hc, hr⟩ := ho.slice
  have k0 := hk.cell 0
  have k1 := hk.cell 1
  simp at k0 k1
  have hlt := hk.lt
  have hpos := len_pos W_two (v := V)
  obtain ⟨n, hn⟩ : ∃ n, len W V = n := ⟨_, rfl⟩
  rw [hn] at hpos hc k1 hm
  clear hk ho hr hn
  by_cases h0 : V = 0
  · subst h0
    have hneg : neg = false := by cases neg; rfl; exact absurd (hp rfl) (by omega)
    subst hneg
    have hb : ((n : Int) == 0) = true := by simp; omega
    clear hpos hp
    go_enter Tryz.func45, Tryz.ntmps45
    go_wp2
    go_ret
    exact ⟨rfl, rfl⟩
  · have hb : ((n : Int) == 0) = false := by simp; omega
    cases neg
    · have hs : sgn (sg false V) = 1 := by unfold sgn sg; simp; omega
      rw [hs]
      clear hs h0 hpos hp
      go_enter Tryz.func45, Tryz.ntmps45
      go_wp2
      go_ret
      exact ⟨rfl, rfl⟩
    · have hs : sgn (sg true V) = -1 := by unfold sgn sg; simp; omega
      rw [hs]
      clear hs h0 hpos hp
      go_enter Tryz.func45, Tryz.ntmps45
      go_wp2
      go_ret
      exact ⟨rfl, rfl⟩

theorem RdS.above {w w' : World} {B : Nat} {v : Value} {l : List UInt8} (h : RdS w B v l) (hb : Box.Above B w w') (hs : w.heap.size ≤ w'.heap.size) : RdS w' B v l := by
  obtain ⟨a, c, h1, h2, h3, h4, h5⟩ := h
  refine ⟨a, c, h1, ?_, h3, h4, fun x hx => ⟨(h5 x hx).1, ?_⟩⟩
  rotate_left
  · obtain ⟨cs, fz, hcc⟩ := (h5 x hx).2
    exact ⟨cs, fz, (hb _ (h5 x hx).1 (Array.getElem?_eq_some_iff.1 hcc).1).trans hcc⟩
  rcases h2 with h | ⟨x, rfl, hx, hc⟩
  · exact .inl h
  · refine .inr ⟨x, rfl, fun h0 => Nat.lt_of_lt_of_le (hx h0) hs, fun j hj => ?_⟩
    rw [← hc j hj]
    have := hb x.block (h5 x rfl).1 (hx (by omega))
    unfold World.cell?
    rw [block_add, this]
theorem RdS.mono {w : World} {B B' : Nat} {v : Value} {l : List UInt8} (h : RdS w B v l) (hB : B' ≤ B) : RdS w B' v l := by
  obtain ⟨a, c, h1, h2, h3, h4, h5⟩ := h
  exact ⟨a, c, h1, h2, h3, h4, fun x hx => ⟨Nat.le_trans hB (h5 x hx).1, (h5 x hx).2⟩⟩

/-- a value of the program's that reads as an integer -/
def IsValR (w : World) (B : Nat) (v : Value) (neg : Bool) (m : Nat) : Prop := ∃ u, v = .agg #[.int .i64 2, .bool neg, u, .int .u64 0, .string ⟨#[]⟩, .slice none 0 0] ∧ RdS w B u (mag m) ∧ (neg = true → 0 < m)

set_option maxHeartbeats 1000000 in
set_option maxRecDepth 100000 in
theorem number_any (v : Value) (z : Int) (B : Nat) (w : World) (h : SInt w B v z) :
    Calls Tryz.prog 27 #[v] w fun e w' => (∃ x, e = .returned x ∧ IsValR w' w.heap.size x (decide (z < 0)) z.natAbs) ∧ Below w.heap.size w w' := by
  obtain ⟨a, p, rfl⟩ : ∃ a p, v = .agg #[.int .i64 a, .pointer p] := by
    rcases h with ⟨rfl, _⟩ | ⟨g, neg, V, rfl, _⟩
    · exact ⟨_, _, rfl⟩
    · exact ⟨_, _, rfl⟩
  have hb := Lib.hid fun W (hW : Below w.heap.size w W) => sBig_any _ z B W (h.later hW)
  have hsg := Lib.hid fun g neg V W hB hm => bsign_at g neg V W hB hm
  have hby := Lib.hid fun g neg V W hB hm => ibytes_any g neg V W hB hm
  clear h
  go_enter Tryz.func27, Tryz.ntmps27
  go_wp2_with fail
  obtain ⟨w1, hw1⟩ : ∃ w1, ((w.alloc (.cells #[.int .i64 a, .pointer p] 61)).alloc (.cells #[.int .i64 0, .bool false, .slice none 0 0, .int .u64 0, .string ⟨#[]⟩, .slice none 0 0] 28)) = w1 := ⟨_, rfl⟩
  have hs1 : w1.heap.size = w.heap.size + 2 := by rw [← hw1]; simp
  have hb1 : Below w.heap.size w w1 := by rw [← hw1]; exact ((Below.refl _ _).alloc (Nat.le_refl _) _).alloc (by simp) _
  have hk1 : Box.Holds w1 (w.heap.size + 1) 28 #[.int .i64 0, .bool false, .slice none 0 0, .int .u64 0, .string ⟨#[]⟩, .slice none 0 0] := by
    have := Box.Holds.made (w.alloc (.cells #[.int .i64 a, .pointer p] 61)) 28 #[.int .i64 0, .bool false, .slice none 0 0, .int .u64 0, .string ⟨#[]⟩, .slice none 0 0]
    rwa [World.size_alloc, hw1] at this
  rw [hw1]
  clear hw1
  refine (hb.out w1 hb1).mono ?_
  rintro e w2 ⟨g, neg, V, rfl, hbig, hz, hm, hb2⟩
  have hbig' := Lib.hid hbig
  have hsg' := Lib.hid (hsg.out g neg V w2 hbig hm)
  have hby' := Lib.hid (hby.out g neg V w2 hbig hm)
  have hb12 := Lib.hid (hb1.trans (hb2.mono (by omega)))
  have hk2 := Lib.hid (hk1.later hb2)
  clear hb hsg hby hbig hm hb1 hb2 hk1
  rw [hz] at hsg'
  go_wp2_with fail
  refine hsg'.out.mono ?_
  rintro e w2' ⟨rfl, rfl⟩
  go_wp2_with fail
  refine hby'.out.mono ?_
  rintro e w3 ⟨⟨u, rfl, hu⟩, hb3⟩
  have hs2 := hb12.out.size
  have hs3 := hb3.size
  have hk3 := hk2.out.later hb3
  have k0 := hk3.cell 0
  have k1 := hk3.cell 1
  have k2 := hk3.cell 2
  have k3 := hk3.cell 3
  have k4 := hk3.cell 4
  have k5 := hk3.cell 5
  simp at k0 k1 k2 k3 k4 k5
  have f0 := hk3.free 0
  have f1 := hk3.free 1
  have f2 := hk3.free 2
  have f3 := hk3.free 3
  have f4 := hk3.free 4
  have f5 := hk3.free 5
  have hlt2 := hk2.out.lt
  have hu' := Lib.hid hu
  have hb13 := Lib.hid (hb12.out.trans (hb3.mono hs2))
  have hlt3 := hk3.lt
  obtain ⟨ua, uc, rfl, hrest⟩ := hu
  obtain ⟨n, hn⟩ : ∃ n, (mag V).length = n := ⟨_, rfl⟩
  rw [hn] at hu' ⊢
  clear hrest hb12 hk2 hb3 hk3
  go_wp2
  have hV : V = z.natAbs := by rw [← hz]; unfold sg; cases neg <;> simp
  have hd : decide (sgn z < 0) = decide (z < 0) := by
    have : sgn z < 0 ↔ z < 0 := by unfold sgn; split <;> (try split) <;> omega
    simp [this]
  have hab : Box.Above w2'.heap.size w3 _ := ((((((Box.Above.refl w2'.heap.size w3).setCell (p := ⟨w.heap.size + 1, 0, none⟩) hlt2 (.int .i64 2)).setCell (p := ⟨w.heap.size + 1, 1, none⟩) hlt2 (.bool (decide (sgn z < 0)))).setCell (p := ⟨w.heap.size + 1, 2, none⟩) hlt2 (.slice ua n uc)).setCell (p := ⟨w.heap.size + 1, 3, none⟩) hlt2 (.int .u64 0)).setCell (p := ⟨w.heap.size + 1, 4, none⟩) hlt2 (.string ⟨#[]⟩)).setCell (p := ⟨w.heap.size + 1, 5, none⟩) hlt2 (.slice none 0 0)
  have hle1 : w.heap.size ≤ w.heap.size + 1 := by omega
  have hfin := (hu'.out.above hab (by simp)).mono hs2
  have hbel := (((((hb13.out.setCell (p := ⟨w.heap.size + 1, 0, none⟩) hle1 (.int .i64 2)).setCell (p := ⟨w.heap.size + 1, 1, none⟩) hle1 (.bool (decide (sgn z < 0)))).setCell (p := ⟨w.heap.size + 1, 2, none⟩) hle1 (.slice ua n uc)).setCell (p := ⟨w.heap.size + 1, 3, none⟩) hle1 (.int .u64 0)).setCell (p := ⟨w.heap.size + 1, 4, none⟩) hle1 (.string ⟨#[]⟩)).setCell (p := ⟨w.heap.size + 1, 5, none⟩) hle1 (.slice none 0 0)
  exact bodyPost_ret (v := .agg #[.int .i64 2, .bool (decide (sgn z < 0)), .slice ua n uc, .int .u64 0, .string ⟨#[]⟩, .slice none 0 0]) (by simp [results, Tryz.results27, go_sem, k0, k1, k2, k3, k4, k5]) rfl ⟨⟨_, rfl, _, by rw [hd], hV ▸ hfin, fun h => by simp at h; omega⟩, hbel⟩
end Go.Proofs.YtpjkfdgkkpkljaaGreatDoor.Big

namespace Go.Proofs.YtpjkfdgkkpkljaaGreatDoor.Big
open Go.RowKit Go.WideShapes Go.Proofs.YtpjkfdgkkpkljaaGreatDoor Go.Proofs.YtpjkfdgkkpkljaaGreatDoor.Own Go.Proofs.YtpjkfdgkkpkljaaGreatDoor.Num Go.Proofs.YtpjkfdgkkpkljaaGreatDoor.Ref Go.Proofs.YtpjkfdgkkpkljaaGreatDoor.Nat_
set_option linter.unusedVariables false

/-- the integer of block g, its words from block B on -/
def BigFrom (w : World) (g B : Nat) (neg : Bool) (V : Nat) : Prop := ∃ u, Box.Holds w g 85 #[.bool neg, u] ∧ IsNat w B u V
theorem BigFrom.later {w w' : World} {g B : Nat} {neg : Bool} {V : Nat} (h : BigFrom w g B neg V) (hb : Below w.heap.size w w') : BigFrom w' g B neg V := by
  obtain ⟨u, h1, h2⟩ := h
  exact ⟨u, h1.later hb, h2.later hb⟩
theorem PutAt.new {w w' : World} {g V : Nat} {neg : Bool} (h : PutAt w g 0 neg V w') {b0 v0 : Value} (hk : Box.Holds w g 85 #[b0, v0]) : BigFrom w' g w.heap.size neg V ∧ Below g w w' := by
  obtain ⟨w1, v, hb, ho, rfl⟩ := h
  have hlt := hk.lt
  refine ⟨⟨v, ?_, ?_⟩, ?_⟩
  · have := ((hk.later hb).put 1 v).put 0 (.bool neg)
    simpa using this
  · exact Box.own_above ho (((Box.Above.refl _ _).setCell (p := ⟨g, 0 + 1, none⟩) hlt _).setCell (p := ⟨g, 0, none⟩) hlt _)
  · exact ((hb.mono (Nat.le_of_lt hlt)).setCell (p := ⟨g, 0 + 1, none⟩) (Nat.le_refl _) _).setCell (p := ⟨g, 0, none⟩) (Nat.le_refl _) _
theorem BigFrom.sign {w : World} {g B : Nat} {neg : Bool} {V : Nat} (h : BigFrom w g B neg V) (hB : g < B) (b : Bool) : BigFrom (w.setCell ⟨g, 0, none⟩ (.bool b)) g B b V := by
  obtain ⟨u, h1, h2⟩ := h
  refine ⟨u, ?_, Box.own_above h2 ((Box.Above.refl _ _).setCell (p := ⟨g, 0, none⟩) hB _)⟩
  have := h1.put 0 (.bool b)
  simpa using this

theorem bset_new (g gx ox X B : Nat) (neg : Bool) (v : Value) (cb : Array Value) (tb : TypeId) (w : World) (hg : Box.Holds w g 85 #[.bool false, .slice none 0 0]) (hx : Two w gx ox (.bool neg) v) (hn : IsNat w B v X) (hm : len W X ≤ 10000) (hne : gx ≠ g) (hkb : Box.Holds w gx tb cb) :
    Calls Tryz.prog 61 #[.pointer (some ⟨g, 0, none⟩), .pointer (some ⟨gx, ox, none⟩)] w fun e w' => e = .returned (.pointer (some ⟨g, 0, none⟩)) ∧ BigFrom w' g w.heap.size neg X ∧ Below g w w' :=
  (bset_at g 0 gx ox X B (.bool false) neg v _ cb _ tb w (Box.Holds.two hg 0 _ _ rfl rfl) hx hn hm hne hg hkb).mono fun e w' h => ⟨h.1, h.2.new hg⟩
theorem babs_new (g gx ox X B : Nat) (neg : Bool) (v : Value) (cb : Array Value) (tb : TypeId) (w : World) (hg : Box.Holds w g 85 #[.bool false, .slice none 0 0]) (hx : Two w gx ox (.bool neg) v) (hn : IsNat w B v X) (hm : len W X ≤ 10000) (hne : gx ≠ g) (hkb : Box.Holds w gx tb cb) :
    Calls Tryz.prog 149 #[.pointer (some ⟨g, 0, none⟩), .pointer (some ⟨gx, ox, none⟩)] w fun e w' => e = .returned (.pointer (some ⟨g, 0, none⟩)) ∧ BigFrom w' g w.heap.size false X ∧ Below g w w' :=
  (babs_at g 0 gx ox X B (.bool false) neg v _ cb _ tb w (Box.Holds.two hg 0 _ _ rfl rfl) hx hn hm hne hg hkb).mono fun e w' h => by
    obtain ⟨rfl, w2, hp, rfl⟩ := h
    obtain ⟨h1, h2⟩ := hp.new hg
    exact ⟨rfl, h1.sign hg.lt false, h2.setCell (p := ⟨g, 0, none⟩) (Nat.le_refl _) _⟩

end Go.Proofs.YtpjkfdgkkpkljaaGreatDoor.Big

namespace Go.Proofs.YtpjkfdgkkpkljaaGreatDoor.Big
open Go.RowKit Go.WideShapes Go.Proofs.YtpjkfdgkkpkljaaGreatDoor.Own Go.Proofs.YtpjkfdgkkpkljaaGreatDoor.Num Go.Proofs.YtpjkfdgkkpkljaaGreatDoor.Ref Go.Proofs.YtpjkfdgkkpkljaaGreatDoor.Nat_
set_option linter.unusedVariables false

theorem SAt.later {w w' : World} {v : Value} {z : Int} (h : SAt w v z) (hb : Below w.heap.size w w') : SAt w' v z := by
  rcases h with h | ⟨g, neg, V, h1, h2, h3⟩
  · exact .inl h
  · exact .inr ⟨g, neg, V, h1, h2.later hb, h3⟩
theorem bset_big (g2 g : Nat) (neg : Bool) (V : Nat) (w : World) (hg2 : Box.Holds w g2 85 #[.bool false, .slice none 0 0]) (h : BigAt w g neg V) (hgg : g < g2) (hm : len W V ≤ 10000) :
    Calls Tryz.prog 61 #[.pointer (some ⟨g2, 0, none⟩), .pointer (some ⟨g, 0, none⟩)] w fun e w' => (e = .returned (.pointer (some ⟨g2, 0, none⟩)) ∧ BigAt w' g2 neg V) ∧ Below g2 w w' := by
  obtain ⟨v, B, hk, hn, hp⟩ := h
  refine (bset_new g2 g 0 V B neg v _ _ w hg2 (Box.Holds.two hk 0 _ _ rfl rfl) hn hm (by omega) hk).mono ?_
  rintro e w' ⟨rfl, ⟨u, h1, h2⟩, h3⟩
  exact ⟨⟨rfl, ⟨u, _, h1, h2, hp⟩⟩, h3⟩

set_option maxHeartbeats 1000000 in
set_option maxRecDepth 100000 in
theorem sBig_at (v : Value) (z : Int) (w : World) (h : SAt w v z) : Calls Tryz.prog 47 #[v] w (BigOf z w) := by
  rcases h with ⟨rfl, hs⟩ | ⟨g, neg, V, rfl, hbig, hz, hs, hm⟩
  · have hbd := isS_bounds hs
    have hget := Lib.hid fun w => get_any z none w
    have hnew := Lib.hid fun W => newint_any z (by omega) (by omega) W
    have hof := Lib.hid (show ∀ W e W', NewB z W e W' → BigOf z W e W' from fun W e W' h => h.of (by omega) (by omega))
    have k0 : (w.alloc (.cells #[.int .i64 z, .pointer none] 61)).cell? ⟨w.heap.size, 0, none⟩ = some (.int .i64 z) := by rw [World.cell?_alloc_at _ _ _ _ rfl]; rfl
    have k1 : (w.alloc (.cells #[.int .i64 z, .pointer none] 61)).cell? ⟨w.heap.size, 1, none⟩ = some (.pointer none) := by rw [World.cell?_alloc_at _ _ _ _ rfl]; rfl
    clear hs
    go_enter Tryz.func47, Tryz.ntmps47
    go_wp2_with fail
    refine (hget.out _).mono ?_
    rintro e w1 ⟨rfl, hb1⟩
    have hbw : Below w.heap.size w w1 := (below_one _ (Nat.le_refl _)).trans (hb1.mono (by simp))
    clear hb1
    go_wp2_with fail
    refine (hnew.out _).mono ?_
    rintro e w2 hnb
    obtain ⟨g, neg, V, rfl, hbig, hz, hm, hb2⟩ := hof.out _ _ _ hnb
    have hfin := Lib.hid (show BigAt w2 g neg V ∧ sg neg V = z ∧ len W V ≤ 10000 ∧ Below w.heap.size w w2 from ⟨hbig, hz, hm, hbw.trans (hb2.mono hbw.size)⟩)
    clear hbig hz hm hb2 hbw hnb
    go_wp2
    go_ret
    exact ⟨_, _, _, rfl, hfin.out.1, hfin.out.2.1, hfin.out.2.2.1, hfin.out.2.2.2⟩
  · have hget := Lib.hid fun w => get_any 0 (some ⟨g, 0, none⟩) w
    have hset := Lib.hid fun g2 W hk hb hlt => bset_big g2 g neg V W hk hb hlt hm
    have k0 : (w.alloc (.cells #[.int .i64 0, .pointer (some ⟨g, 0, none⟩)] 61)).cell? ⟨w.heap.size, 0, none⟩ = some (.int .i64 0) := by rw [World.cell?_alloc_at _ _ _ _ rfl]; rfl
    have k1 : (w.alloc (.cells #[.int .i64 0, .pointer (some ⟨g, 0, none⟩)] 61)).cell? ⟨w.heap.size, 1, none⟩ = some (.pointer (some ⟨g, 0, none⟩)) := by rw [World.cell?_alloc_at _ _ _ _ rfl]; rfl
    have hbig' := Lib.hid hbig
    have hz' := Lib.hid hz
    clear hz hs hbig
    go_enter Tryz.func47, Tryz.ntmps47
    go_wp2_with fail
    refine (hget.out _).mono ?_
    rintro e w1 ⟨rfl, hb1⟩
    have hbw : Below w.heap.size w w1 := (below_one _ (Nat.le_refl _)).trans (hb1.mono (by simp))
    have hs2 := Lib.hid (hset.out w1.heap.size (w1.alloc (.cells #[.bool false, .slice none 0 0] 85)) (Box.Holds.made _ _ _) ((hbig'.out.later hbw).later (below_one _ (Nat.le_refl _))) (hbig'.out.later hbw).lt)
    have hbw' := Lib.hid hbw
    clear hb1 hbw
    go_wp2_with fail
    refine hs2.out.mono ?_
    rintro e w2 ⟨⟨rfl, hbg⟩, hb2⟩
    have hfin := Lib.hid (show BigAt w2 w1.heap.size neg V ∧ sg neg V = z ∧ len W V ≤ 10000 ∧ Below w.heap.size w w2 from ⟨hbg, hz'.out.symm, hm, (hbw'.out.alloc hbw'.out.size _).trans (hb2.mono hbw'.out.size)⟩)
    clear hbg hb2 hbw' hs2 hbig' hz'
    go_wp2
    go_ret
    exact ⟨_, _, _, rfl, hfin.out.1, hfin.out.2.1, hfin.out.2.2.1, hfin.out.2.2.2⟩
set_option maxHeartbeats 1000000 in
set_option maxRecDepth 100000 in
theorem number_at (v : Value) (z : Int) (w : World) (h : SAt w v z) :
    Calls Tryz.prog 27 #[v] w fun e w' => (∃ x, e = .returned x ∧ IsValR w' w.heap.size x (decide (z < 0)) z.natAbs) ∧ Below w.heap.size w w' := by
  obtain ⟨a, p, rfl⟩ := h.shape
  have hb := Lib.hid fun W (hW : Below w.heap.size w W) => sBig_at _ z W (h.later hW)
  have hsg := Lib.hid fun g neg V W hB hm => bsign_at g neg V W hB hm
  have hby := Lib.hid fun g neg V W hB hm => ibytes_any g neg V W hB hm
  clear h
  go_enter Tryz.func27, Tryz.ntmps27
  go_wp2_with fail
  obtain ⟨w1, hw1⟩ : ∃ w1, ((w.alloc (.cells #[.int .i64 a, .pointer p] 61)).alloc (.cells #[.int .i64 0, .bool false, .slice none 0 0, .int .u64 0, .string ⟨#[]⟩, .slice none 0 0] 28)) = w1 := ⟨_, rfl⟩
  have hs1 : w1.heap.size = w.heap.size + 2 := by rw [← hw1]; simp
  have hb1 : Below w.heap.size w w1 := by rw [← hw1]; exact ((Below.refl _ _).alloc (Nat.le_refl _) _).alloc (by simp) _
  have hk1 : Box.Holds w1 (w.heap.size + 1) 28 #[.int .i64 0, .bool false, .slice none 0 0, .int .u64 0, .string ⟨#[]⟩, .slice none 0 0] := by
    have := Box.Holds.made (w.alloc (.cells #[.int .i64 a, .pointer p] 61)) 28 #[.int .i64 0, .bool false, .slice none 0 0, .int .u64 0, .string ⟨#[]⟩, .slice none 0 0]
    rwa [World.size_alloc, hw1] at this
  rw [hw1]
  clear hw1
  refine (hb.out w1 hb1).mono ?_
  rintro e w2 ⟨g, neg, V, rfl, hbig, hz, hm, hb2⟩
  have hbig' := Lib.hid hbig
  have hsg' := Lib.hid (hsg.out g neg V w2 hbig hm)
  have hby' := Lib.hid (hby.out g neg V w2 hbig hm)
  have hb12 := Lib.hid (hb1.trans (hb2.mono (by omega)))
  have hk2 := Lib.hid (hk1.later hb2)
  clear hb hsg hby hbig hm hb1 hb2 hk1
  rw [hz] at hsg'
  go_wp2_with fail
  refine hsg'.out.mono ?_
  rintro e w2' ⟨rfl, rfl⟩
  go_wp2_with fail
  refine hby'.out.mono ?_
  rintro e w3 ⟨⟨u, rfl, hu⟩, hb3⟩
  have hs2 := hb12.out.size
  have hs3 := hb3.size
  have hk3 := hk2.out.later hb3
  have k0 := hk3.cell 0
  have k1 := hk3.cell 1
  have k2 := hk3.cell 2
  have k3 := hk3.cell 3
  have k4 := hk3.cell 4
  have k5 := hk3.cell 5
  simp at k0 k1 k2 k3 k4 k5
  have f0 := hk3.free 0
  have f1 := hk3.free 1
  have f2 := hk3.free 2
  have f3 := hk3.free 3
  have f4 := hk3.free 4
  have f5 := hk3.free 5
  have hlt2 := hk2.out.lt
  have hu' := Lib.hid hu
  have hb13 := Lib.hid (hb12.out.trans (hb3.mono hs2))
  have hlt3 := hk3.lt
  obtain ⟨ua, uc, rfl, hrest⟩ := hu
  obtain ⟨n, hn⟩ : ∃ n, (mag V).length = n := ⟨_, rfl⟩
  rw [hn] at hu' ⊢
  clear hrest hb12 hk2 hb3 hk3
  go_wp2
  have hV : V = z.natAbs := by rw [← hz]; unfold sg; cases neg <;> simp
  have hd : decide (sgn z < 0) = decide (z < 0) := by
    have : sgn z < 0 ↔ z < 0 := by unfold sgn; split <;> (try split) <;> omega
    simp [this]
  have hab : Box.Above w2'.heap.size w3 _ := ((((((Box.Above.refl w2'.heap.size w3).setCell (p := ⟨w.heap.size + 1, 0, none⟩) hlt2 (.int .i64 2)).setCell (p := ⟨w.heap.size + 1, 1, none⟩) hlt2 (.bool (decide (sgn z < 0)))).setCell (p := ⟨w.heap.size + 1, 2, none⟩) hlt2 (.slice ua n uc)).setCell (p := ⟨w.heap.size + 1, 3, none⟩) hlt2 (.int .u64 0)).setCell (p := ⟨w.heap.size + 1, 4, none⟩) hlt2 (.string ⟨#[]⟩)).setCell (p := ⟨w.heap.size + 1, 5, none⟩) hlt2 (.slice none 0 0)
  have hle1 : w.heap.size ≤ w.heap.size + 1 := by omega
  have hfin := (hu'.out.above hab (by simp)).mono hs2
  have hbel := (((((hb13.out.setCell (p := ⟨w.heap.size + 1, 0, none⟩) hle1 (.int .i64 2)).setCell (p := ⟨w.heap.size + 1, 1, none⟩) hle1 (.bool (decide (sgn z < 0)))).setCell (p := ⟨w.heap.size + 1, 2, none⟩) hle1 (.slice ua n uc)).setCell (p := ⟨w.heap.size + 1, 3, none⟩) hle1 (.int .u64 0)).setCell (p := ⟨w.heap.size + 1, 4, none⟩) hle1 (.string ⟨#[]⟩)).setCell (p := ⟨w.heap.size + 1, 5, none⟩) hle1 (.slice none 0 0)
  exact bodyPost_ret (v := .agg #[.int .i64 2, .bool (decide (sgn z < 0)), .slice ua n uc, .int .u64 0, .string ⟨#[]⟩, .slice none 0 0]) (by simp [results, Tryz.results27, go_sem, k0, k1, k2, k3, k4, k5]) rfl ⟨⟨_, rfl, _, by rw [hd], hV ▸ hfin, fun h => by simp at h; omega⟩, hbel⟩
end Go.Proofs.YtpjkfdgkkpkljaaGreatDoor.Big

namespace Go.Proofs.YtpjkfdgkkpkljaaGreatDoor.Big
open Go.RowKit Go.WideShapes Go.Proofs.YtpjkfdgkkpkljaaGreatDoor.Own Go.Proofs.YtpjkfdgkkpkljaaGreatDoor.Num Go.Proofs.YtpjkfdgkkpkljaaGreatDoor.Ref Go.Proofs.YtpjkfdgkkpkljaaGreatDoor.Nat_
set_option linter.unusedVariables false

theorem len_be (l : List UInt8) (hl : l.length ≤ 1000) (neg : Bool) : len W (sg neg (be l)).natAbs ≤ 4000 := by
  rw [show (sg neg (be l)).natAbs = be l by unfold sg; cases neg <;> simp]
  exact Nat.le_trans (len_le W_two (be_lt_words l 126 (by omega))) (by omega)

theorem len_be13 (l : List UInt8) (hl : l.length ≤ 104) (neg : Bool) : len W (sg neg (be l)).natAbs ≤ 13 := by
  rw [show (sg neg (be l)).natAbs = be l by unfold sg; cases neg <;> simp]
  exact len_le W_two (be_lt_words l 13 (by omega))

theorem IsValR.shape {w : World} {B : Nat} {v : Value} {neg : Bool} {m : Nat} (h : IsValR w B v neg m) : ∃ a n c, v = .agg #[.int .i64 2, .bool neg, .slice a n c, .int .u64 0, .string ⟨#[]⟩, .slice none 0 0] := by
  obtain ⟨u, rfl, ⟨a, c, rfl, -⟩, -⟩ := h
  exact ⟨_, _, _, rfl⟩
theorem IsValR.above {w w' : World} {B : Nat} {v : Value} {neg : Bool} {m : Nat} (h : IsValR w B v neg m) (hb : Box.Above B w w') (hs : w.heap.size ≤ w'.heap.size) : IsValR w' B v neg m := by
  obtain ⟨u, h1, h2, h3⟩ := h
  exact ⟨u, h1, h2.above hb hs, h3⟩
theorem IsValR.mono {w : World} {B B' : Nat} {v : Value} {neg : Bool} {m : Nat} (h : IsValR w B v neg m) (hB : B' ≤ B) : IsValR w B' v neg m := by
  obtain ⟨u, h1, h2, h3⟩ := h
  exact ⟨u, h1, h2.mono hB, h3⟩
theorem IsValR.later {w w' : World} {B : Nat} {v : Value} {neg : Bool} {m : Nat} (h : IsValR w B v neg m) (hb : Below w.heap.size w w') : IsValR w' B v neg m := by
  obtain ⟨u, h1, h2, h3⟩ := h
  exact ⟨u, h1, h2.later hb, h3⟩

/-- a value that is stored into the result's own cells -/
theorem valEnd (w wr : World) (v : Value) (neg : Bool) (m B g : Nat) (hb : Below w.heap.size w wr) (hk : Box.Holds wr g 28 #[.int .i64 0, .bool false, .slice none 0 0, .int .u64 0, .string ⟨#[]⟩, .slice none 0 0]) (hg : w.heap.size ≤ g) (hgB : g < B) (hv : IsValR wr B v neg m) :
    ∃ a n c, v = .agg #[.int .i64 2, .bool neg, .slice a n c, .int .u64 0, .string ⟨#[]⟩, .slice none 0 0] ∧ (wr.cell? ⟨g, 0, none⟩ = some (.int .i64 0) ∧ wr.cell? ⟨g, 1, none⟩ = some (.bool false) ∧ wr.cell? ⟨g, 2, none⟩ = some (.slice none 0 0) ∧ wr.cell? ⟨g, 3, none⟩ = some (.int .u64 0) ∧ wr.cell? ⟨g, 4, none⟩ = some (.string ⟨#[]⟩) ∧ wr.cell? ⟨g, 5, none⟩ = some (.slice none 0 0)) ∧ (∀ i, wr.frozen? ⟨g, i, none⟩ = false) ∧ g < wr.heap.size ∧
      IsValR ((((((wr.setCell ⟨g, 0, none⟩ (.int .i64 2)).setCell ⟨g, 1, none⟩ (.bool neg)).setCell ⟨g, 2, none⟩ (.slice a n c)).setCell ⟨g, 3, none⟩ (.int .u64 0)).setCell ⟨g, 4, none⟩ (.string ⟨#[]⟩)).setCell ⟨g, 5, none⟩ (.slice none 0 0)) w.heap.size (.agg #[.int .i64 2, .bool neg, .slice a n c, .int .u64 0, .string ⟨#[]⟩, .slice none 0 0]) neg m ∧ Below w.heap.size w ((((((wr.setCell ⟨g, 0, none⟩ (.int .i64 2)).setCell ⟨g, 1, none⟩ (.bool neg)).setCell ⟨g, 2, none⟩ (.slice a n c)).setCell ⟨g, 3, none⟩ (.int .u64 0)).setCell ⟨g, 4, none⟩ (.string ⟨#[]⟩)).setCell ⟨g, 5, none⟩ (.slice none 0 0)) := by
  have hv2 := hv
  obtain ⟨a, n, c, rfl⟩ := hv2.shape
  have k0 := hk.cell 0
  have k1 := hk.cell 1
  have k2 := hk.cell 2
  have k3 := hk.cell 3
  have k4 := hk.cell 4
  have k5 := hk.cell 5
  simp at k0 k1 k2 k3 k4 k5
  have hab : Box.Above B wr ((((((wr.setCell ⟨g, 0, none⟩ (.int .i64 2)).setCell ⟨g, 1, none⟩ (.bool neg)).setCell ⟨g, 2, none⟩ (.slice a n c)).setCell ⟨g, 3, none⟩ (.int .u64 0)).setCell ⟨g, 4, none⟩ (.string ⟨#[]⟩)).setCell ⟨g, 5, none⟩ (.slice none 0 0)) := ((((((Box.Above.refl B wr).setCell (p := ⟨g, 0, none⟩) hgB (.int .i64 2)).setCell (p := ⟨g, 1, none⟩) hgB (.bool neg)).setCell (p := ⟨g, 2, none⟩) hgB (.slice a n c)).setCell (p := ⟨g, 3, none⟩) hgB (.int .u64 0)).setCell (p := ⟨g, 4, none⟩) hgB (.string ⟨#[]⟩)).setCell (p := ⟨g, 5, none⟩) hgB (.slice none 0 0)
  exact ⟨a, n, c, rfl, ⟨k0, k1, k2, k3, k4, k5⟩, hk.free, hk.lt, (hv.above hab (by simp)).mono (Nat.le_trans hg (Nat.le_of_lt hgB)),
    (((((hb.setCell (p := ⟨g, 0, none⟩) hg (.int .i64 2)).setCell (p := ⟨g, 1, none⟩) hg (.bool neg)).setCell (p := ⟨g, 2, none⟩) hg (.slice a n c)).setCell (p := ⟨g, 3, none⟩) hg (.int .u64 0)).setCell (p := ⟨g, 4, none⟩) hg (.string ⟨#[]⟩)).setCell (p := ⟨g, 5, none⟩) hg (.slice none 0 0)⟩
def Cells12 (wr : World) (b : Nat) (x0 x1 x2 x3 x4 x5 y0 y1 y2 y3 y4 y5 : Value) : Prop :=
  wr.cell? ⟨b, 0, none⟩ = some x0 ∧ wr.cell? ⟨b, 1, none⟩ = some x1 ∧ wr.cell? ⟨b, 2, none⟩ = some x2 ∧ wr.cell? ⟨b, 3, none⟩ = some x3 ∧ wr.cell? ⟨b, 4, none⟩ = some x4 ∧ wr.cell? ⟨b, 5, none⟩ = some x5 ∧ wr.cell? ⟨b + 1, 0, none⟩ = some y0 ∧ wr.cell? ⟨b + 1, 1, none⟩ = some y1 ∧ wr.cell? ⟨b + 1, 2, none⟩ = some y2 ∧ wr.cell? ⟨b + 1, 3, none⟩ = some y3 ∧ wr.cell? ⟨b + 1, 4, none⟩ = some y4 ∧ wr.cell? ⟨b + 1, 5, none⟩ = some y5
theorem cells12 {W : World} {b : Nat} {t1 t2 : TypeId} {x0 x1 x2 x3 x4 x5 y0 y1 y2 y3 y4 y5 : Value} (h1 : Box.Holds W b t1 #[x0, x1, x2, x3, x4, x5]) (h2 : Box.Holds W (b + 1) t2 #[y0, y1, y2, y3, y4, y5]) : Cells12 W b x0 x1 x2 x3 x4 x5 y0 y1 y2 y3 y4 y5 := by
  have k0 := h1.cell 0
  have k1 := h1.cell 1
  have k2 := h1.cell 2
  have k3 := h1.cell 3
  have k4 := h1.cell 4
  have k5 := h1.cell 5
  have j0 := h2.cell 0
  have j1 := h2.cell 1
  have j2 := h2.cell 2
  have j3 := h2.cell 3
  have j4 := h2.cell 4
  have j5 := h2.cell 5
  simp at k0 k1 k2 k3 k4 k5 j0 j1 j2 j3 j4 j5
  exact ⟨k0, k1, k2, k3, k4, k5, j0, j1, j2, j3, j4, j5⟩
theorem keep12 {wr : World} {b g : Nat} {x0 x1 x2 x3 x4 x5 y0 y1 y2 y3 y4 y5 u0 u1 u2 u3 u4 u5 : Value} (h : Cells12 wr b x0 x1 x2 x3 x4 x5 y0 y1 y2 y3 y4 y5) (h1 : g ≠ b) (h2 : g ≠ b + 1) :
    Cells12 ((((((wr.setCell ⟨g, 0, none⟩ u0).setCell ⟨g, 1, none⟩ u1).setCell ⟨g, 2, none⟩ u2).setCell ⟨g, 3, none⟩ u3).setCell ⟨g, 4, none⟩ u4).setCell ⟨g, 5, none⟩ u5) b x0 x1 x2 x3 x4 x5 y0 y1 y2 y3 y4 y5 := by
  have key : ∀ (c i : Nat), g ≠ c → ((((((wr.setCell ⟨g, 0, none⟩ u0).setCell ⟨g, 1, none⟩ u1).setCell ⟨g, 2, none⟩ u2).setCell ⟨g, 3, none⟩ u3).setCell ⟨g, 4, none⟩ u4).setCell ⟨g, 5, none⟩ u5).cell? ⟨c, i, none⟩ = wr.cell? ⟨c, i, none⟩ := fun c i hc => by
    rw [World.cell?_setCell_far _ _ _ _ hc, World.cell?_setCell_far _ _ _ _ hc, World.cell?_setCell_far _ _ _ _ hc, World.cell?_setCell_far _ _ _ _ hc, World.cell?_setCell_far _ _ _ _ hc, World.cell?_setCell_far _ _ _ _ hc]
  unfold Cells12 at h ⊢
  rw [key b 0 h1, key b 1 h1, key b 2 h1, key b 3 h1, key b 4 h1, key b 5 h1, key (b + 1) 0 h2, key (b + 1) 1 h2, key (b + 1) 2 h2, key (b + 1) 3 h2, key (b + 1) 4 h2, key (b + 1) 5 h2]
  exact h
end Go.Proofs.YtpjkfdgkkpkljaaGreatDoor.Big
