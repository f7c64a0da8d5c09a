/-
  The bytes of a natural. The bytes of the package's integer. The value of an integer of the reference. The integer of a sign and of bytes, as the reference and as the program has it. The program's value of an integer of the language. The reference's values: the integer of a value, the value of an integer, the value of a text.
-/
import Derived.Test.YtafbheamnjmfoaaGreatNatMore
import Derived.Test.YtafbheamnjmfoaaGreatNumLaws
import Derived.Test.YtafbheamnjmfoaaGreatBigStar
import Derived.Test.YtafbheamnjmfoaaGreatNatFirst
import Derived.Test.YtafbheamnjmfoaaGreatSpecFirst
import Derived.Deep.RegionLaw
import Derived.Laws.AppendOwnNone
import Derived.Deep.RegionWith
import Derived.Deep.DrawnRows
import Derived.Deep.DeepCutAuto
namespace Go.Proofs.YtafbheamnjmfoaaGreat.Nat_
open Go.RowKit Go.WideShapes Go.Proofs.YtafbheamnjmfoaaGreat.Own Go.Proofs.YtafbheamnjmfoaaGreat.Num Go.Proofs.YtafbheamnjmfoaaGreat.Ref
set_option linter.unusedVariables false

theorem byte_of_word (V k j : Nat) (hj : j < 8) : V / W ^ k % W / 256 ^ j % 256 = V / 256 ^ (8 * k + j) % 256 := by
  rw [W_pow, show W = 256 ^ 8 from rfl, mod_digit (by omega), if_pos hj, Nat.div_div_eq_div_mul, ← Nat.pow_add]

set_option maxHeartbeats 2000000 in
set_option maxRecDepth 100000 in
theorem nbytes_any (v : Value) (V B gb cb : Nat) (w0 w : World) (h : IsNat w0 B v V) (hm : len W V ≤ 10000) (hb0 : Below w0.heap.size w0 w)
    (hgb : w0.heap.size ≤ gb)
    (hbuf : w.ownsRow w0.heap.size 5 1 (.slice (some ⟨gb, 0, none⟩) (8 * len W V) cb) (8 * len W V) (bs (rev8 0 (8 * len W V)))) :
    Calls Tryz.prog 128 #[v, .slice (some ⟨gb, 0, none⟩) (8 * len W V) cb] w fun e w' => (e = .returned (.int .i64 ((8 * len W V - len 256 V : Nat) : Int)) ∧
      w'.ownsRow w0.heap.size 5 1 (.slice (some ⟨gb, 0, none⟩) (8 * len W V) cb) (8 * len W V) (bs (rev8 V (8 * len W V)))) ∧ Below w0.heap.size w0 w' := by
  obtain ⟨a, c, rfl, hc, hr⟩ := h.slice
  have hVlt := len_lt W_two V
  rw [W_pow] at hVlt
  obtain ⟨m, hmm⟩ : ∃ m, len W V = m := ⟨_, rfl⟩
  have hr' := Lib.hid hr
  have hmm' := Lib.hid hmm
  rw [hmm] at hm hbuf hc hVlt ⊢
  have hVlt' := Lib.hid hVlt
  have hbuf' : Hid (w.ownsRow w0.heap.size 5 1 (.slice (some ⟨gb, 0, none⟩) (8 * m) cb) (8 * m) (bs (rev8 (V % 256 ^ (8 * 0)) (8 * m)))) := Lib.hid (by simpa [Nat.mod_one] using hbuf)
  obtain ⟨N, hN⟩ : ∃ N, 8 * m = N := ⟨_, rfl⟩
  have hb0' := Lib.hid hb0
  have hN8 : (m : Int) * 8 = N := by omega
  clear hbuf hr h hmm hVlt hb0
  rw [hN] at hbuf' hVlt' ⊢
  go_enter Tryz.func128, Tryz.ntmps128
  go_wp2
  go_loopw [4, 12] (fun i x wr => ∃ k : Nat, k ≤ m ∧ x = .int .i64 k ∧ i = .int .i64 ((N - 8 * k : Nat) : Int) ∧ Hid (wr.ownsRow w0.heap.size 5 1 (.slice (some ⟨gb, 0, none⟩) N cb) N (bs (rev8 (V % 256 ^ (8 * k)) N)) ∧ Below w0.heap.size w0 wr)) (fun _ x _ => m - (intOf x).toNat)
  case atStart => exact ⟨0, Nat.zero_le _, rfl, by simp, Lib.hid ⟨hbuf'.out, hb0'.out⟩⟩
  case round =>
    clear hbuf' hb0'
    obtain ⟨k, hk, rfl, rfl, hR⟩ := hrel
    by_cases hlt : k < m
    · obtain ⟨wo, rfl⟩ : ∃ wo : World, wo = wr := ⟨_, rfl⟩
      obtain ⟨hown, hbw⟩ := hR.out
      obtain ⟨g, rfl, hcell⟩ := (hr'.out.later hbw).at_ (j := k) (by rw [hmm'.out]; exact hlt)
      obtain ⟨D0, hD0⟩ : ∃ D, V / W ^ k % W = D := ⟨_, rfl⟩
      rw [hD0] at hcell
      have hD0' := Lib.hid hD0
      have hR' := hR
      clear hown hbw hD0 hR
      go_wp2
      go_loopw [4, 6, 7] (fun i d j wr => ∃ t : Nat, t ≤ 8 ∧ j = .int .i64 t ∧ i = .int .i64 ((N - (8 * k + t) : Nat) : Int) ∧ d = .int .u64 ((D0 / 256 ^ t : Nat) : Int) ∧ Hid (wr.ownsRow w0.heap.size 5 1 (.slice (some ⟨gb, 0, none⟩) N cb) N (bs (rev8 (V % 256 ^ (8 * k + t)) N)) ∧ Below w0.heap.size w0 wr)) (fun _ _ j _ => 8 - (intOf j).toNat)
      case atStart => exact ⟨0, by omega, rfl, rfl, by simp, hR'⟩
      case round =>
        clear hR'
        obtain ⟨t, ht, rfl, rfl, rfl, hQ⟩ := hrel
        by_cases ht8 : t < 8
        · obtain ⟨hown, hbw2⟩ := hQ.out
          obtain ⟨I, hI⟩ : ∃ I, N - 1 - (8 * k + t) = I := ⟨_, rfl⟩
          have hIN : I < N := by omega
          have e : ((N - (8 * k + t) : Nat) : Int) - 1 = I := by omega
          rw [show ((N - (8 * k + t) : Nat) : Int) = (I : Int) + 1 by omega]
          have hc0 := World.ownsRow.cellAt hown I (by omega)
          have hf0 := World.ownsRow.frozenAt hown I
          obtain ⟨cv, hcv⟩ : ∃ cv, (bs (rev8 (V % 256 ^ (8 * k + t)) N))[I]? = some cv := ⟨_, List.getElem?_eq_getElem (by rw [bs_length, rev8_length]; omega)⟩
          rw [hcv] at hc0
          obtain ⟨U, hU⟩ : ∃ U, D0 / 256 ^ t = U := ⟨_, rfl⟩
          have hUlt : U < 18446744073709551616 := by
            rw [← hU]; refine Nat.lt_of_le_of_lt (Nat.div_le_self _ _) ?_; rw [← hD0'.out]; exact Nat.mod_lt _ (by decide)
          obtain ⟨M, hM⟩ : ∃ M, U % 256 = M := ⟨_, rfl⟩
          have hst := World.ownsRow.stored hown I (.int .u8 (M : Int))
          have hdig : V / 256 ^ (8 * k + t) % 256 = M := by rw [← byte_of_word V k t ht8, hD0'.out, hU, hM]
          have hM256 : M < 256 := by omega
          have hset : (bs (rev8 (V % 256 ^ (8 * k + t)) N)).set I (.int .u8 (M : Int)) = bs (rev8 (V % 256 ^ (8 * k + (t + 1))) N) := by
            have h1 := rev8_set V N (8 * k + t) M (by omega) hdig
            rw [hI] at h1
            rw [← Nat.add_assoc, ← h1]
            unfold bs
            rw [List.map_set]
            congr 2
            simp; omega
          rw [hset] at hst
          have hdiv : U / 256 = D0 / 256 ^ (t + 1) := by rw [← hU, Nat.div_div_eq_div_mul, ← Nat.pow_succ]
          have hM' : IntKind.u8.wrap (U : Int) = M := by rw [IntKind.wrap_u8]; omega
          obtain ⟨Q, hQq⟩ : ∃ Q, U / 256 = Q := ⟨_, rfl⟩
          have hQ' : (U : Int) / 256 = Q := by omega
          have hQ2 : U >>> 8 = Q := by rw [Nat.shiftRight_eq_div_pow]; omega
          rw [hQq] at hdiv
          rw [hU]
          have hdiv' := Lib.hid hdiv
          have hI' := Lib.hid hI
          clear hcv e hU hM hQq hdiv hset hdig hI hown hQ
          go_wp2
          go_roundw
          case rel => exact ⟨t + 1, by omega, by simp, by rw [← hI'.out]; congr 2; omega, by rw [hdiv'.out], Lib.hid ⟨hst.1, hbw2.setCell hgb _⟩⟩
          case measure => simp [intOf]; omega
        · have ht9 : t = 8 := by omega
          subst ht9
          go_wp2
          go_roundw
          case rel => exact ⟨k + 1, by omega, by simp, by congr 2, by simpa [Nat.mul_add] using hQ⟩
          case measure => simp [intOf]; omega
    · have hkm : k = m := by omega
      subst hkm
      rw [hN] at hR
      have hR' : Hid (wr.ownsRow w0.heap.size 5 1 (.slice (some ⟨gb, 0, none⟩) N cb) N (bs (rev8 V N)) ∧ Below w0.heap.size w0 wr) := by
        have := hR.out
        rw [Nat.mod_eq_of_lt hVlt'.out] at this
        exact Lib.hid this
      have e0 : N - 8 * k = 0 := by omega
      rw [e0]
      go_wp2
      obtain ⟨w3, rfl⟩ : ∃ w3 : World, w3 = wr := ⟨_, rfl⟩
      obtain ⟨hown, hbw⟩ := hR'.out
      have hall := Lib.hid fun (i : Nat) (hi : i < N) => World.ownsRow.cellAt hown i (by omega)
      clear hR hown hbw
      go_loopw [4] (fun i wr => ∃ I : Nat, I ≤ N ∧ i = .int .i64 I ∧ V < 256 ^ (N - I) ∧ wr = w3 ∧ (∀ j < I, (rev8 V N)[j]? = some 0)) (fun i _ => N - (intOf i).toNat)
      case atStart => exact ⟨0, by omega, rfl, by simpa using hVlt'.out, rfl, fun j hj => by omega⟩
      case round =>
        obtain ⟨I, hI, rfl, hlt0, rfl, hzero⟩ := hrel
        by_cases hIN : I < N
        · have hc0 := hall.out I hIN
          have hlen : I < (rev8 V N).length := by rw [rev8_length]; exact hIN
          obtain ⟨b, hb⟩ : ∃ b, (rev8 V N)[I]? = some b := ⟨_, List.getElem?_eq_getElem hlen⟩
          have hlead := rev8_lead V N I hlt0 hIN
          rw [hb] at hlead
          have hbI : (bs (rev8 V N))[I]? = some (.int .u8 (b.toNat : Int)) := by unfold bs; rw [List.getElem?_map, hb]; rfl
          rw [hbI] at hc0
          by_cases hb0 : b = 0
          · subst hb0
            have hlt1 := hlead.mp rfl
            have hlt1' := Lib.hid hlt1
            have hzero' := Lib.hid hzero
            have hb' := Lib.hid hb
            clear hlead hlt0 hlen hlt1 hzero hb hbI
            go_wp2
            go_roundw
            case rel => exact ⟨I + 1, by omega, by simp, hlt1'.out, trivial, fun j hj => by
              rcases Nat.lt_succ_iff_lt_or_eq.mp hj with h | h
              · exact hzero'.out j h
              · subst h; exact hb'.out⟩
            case measure => simp [intOf]; omega
          · have hne : ¬ V < 256 ^ (N - (I + 1)) := fun h => hb0 (Option.some.inj (hlead.mpr h))
            have hb9 : ¬ ((b.toNat : Int) = 0) := fun h => hb0 (by apply UInt8.toNat.inj; simpa using h)
            have hlen2 : N - len 256 V = I := by
              have := len_eq (b := 256) (by omega) hlt0 (fun _ => by rw [show N - I - 1 = N - (I + 1) by omega]; exact Nat.not_lt.mp hne)
              omega
            have hlen2' := Lib.hid hlen2
            clear hlead hzero hb hbI hlt0 hne hlen2
            go_wp2
            go_ret
            exact ⟨⟨by rw [hlen2'.out]; rfl, hR'.out.1⟩, hR'.out.2⟩
        · have hIe : I = N := by omega
          subst hIe
          have hlen2 : I - len 256 V = I := by
            have : V = 0 := by rw [Nat.sub_self] at hlt0; simpa using hlt0
            rw [this]; rfl
          have hlen2' := Lib.hid hlen2
          clear hzero hlt0 hlen2
          go_wp2
          go_ret
          exact ⟨⟨by rw [hlen2'.out]; rfl, hR'.out.1⟩, hR'.out.2⟩
end Go.Proofs.YtafbheamnjmfoaaGreat.Nat_

namespace Go.Proofs.YtafbheamnjmfoaaGreat.Big
open Go.RowKit Go.WideShapes Go.Proofs.YtafbheamnjmfoaaGreat.Own Go.Proofs.YtafbheamnjmfoaaGreat.Num Go.Proofs.YtafbheamnjmfoaaGreat.Ref Go.Proofs.YtafbheamnjmfoaaGreat.Nat_
set_option linter.unusedVariables false

theorem info_u8 : (Tryz.prog.info? 5).map (fun i => (i.zero, i.size, i.bytes)) = some (some (.int .u8 0), 1, 1) := by kernel_rfl
theorem zeros_u8 (c : Nat) : madeCells (Value.cells (.int .u8 0)) c = (bs (rev8 0 c)).toArray := by
  rw [rev8_zero]
  apply Array.ext'
  simp [madeCells, bs, Value.cells, Array.toList_range]
  apply List.ext_getElem?
  intro j
  by_cases h : j < c
  · simp [h, Nat.mod_one]
  · rw [List.getElem?_eq_none (by simp; omega), List.getElem?_eq_none (by simp; omega)]
theorem run_new8 (n : Nat) (hc : n ≤ 1000000) (w : World) (l : Int) (hl : l = n) :
    (Instr.makeSlice 25 (.int .i64 l) (.int .i64 l)).run Tryz.prog w = .ok (.slice (some ⟨w.heap.size, 0, none⟩) n n) (w.alloc (.cells (bs (rev8 0 n)).toArray 5)) := by
  obtain ⟨i0, hi, hz0, hz1, hz2⟩ := info_parts info_u8
  subst hl
  have := run_make (P := Tryz.prog) (w := w) 25 5 i0 (.int .u8 0) Tryz.underlying25 hi hz0 .i64 .i64 (n : Int) (n : Int) (by omega) (by omega) (by rw [hz2]; omega) (by omega)
  rw [hz1, Nat.mul_one] at this
  simp only [Int.toNat_natCast] at this
  rw [zeros_u8] at this
  exact this
theorem own_new8 (n B : Nat) (hc : n ≤ 1000000) (w : World) (hB : B ≤ w.heap.size) : (w.alloc (.cells (bs (rev8 0 n)).toArray 5)).ownsRow B 5 1 (.slice (some ⟨w.heap.size, 0, none⟩) n n) n (bs (rev8 0 n)) := by
  refine ⟨by simp [bs, rev8_length], .inr ⟨w.heap.size, n, _, rfl, hB, heap_alloc_new w _, Nat.le_refl _, by unfold maxLen; omega, by simp [bs, rev8_length], ?_⟩⟩
  rw [List.take_of_length_le (by simp [bs, rev8_length])]

/-- a slice that reads as these bytes -/
def RdS (w : World) (B : Nat) (v : Value) (l : List UInt8) : Prop := ∃ a cap, v = .slice a l.length cap ∧ Rd w a l ∧ l.length ≤ cap ∧ (a = none → cap = 0) ∧ ∀ x, a = some x → B ≤ x.block ∧ ∃ cs fz, w.heap[x.block]? = some (.cells cs 5 fz)
theorem RdS.later {w w' : World} {B : Nat} {v : Value} {l : List UInt8} (h : RdS w B v l) (hb : Below w.heap.size w w') : RdS w' B v l := by
  obtain ⟨a, c, h1, h2, h3, h4, h5⟩ := h
  refine ⟨a, c, h1, h2.later hb, h3, h4, fun x hx => ⟨(h5 x hx).1, ?_⟩⟩
  obtain ⟨cs, fz, hc⟩ := (h5 x hx).2
  exact ⟨cs, fz, (hb.block _ (Array.getElem?_eq_some_iff.1 hc).1).trans hc⟩

theorem rd_drop {w : World} {B g N c : Nat} {l : List UInt8} (h : w.ownsRow B 5 1 (.slice (some ⟨g, 0, none⟩) N c) N (bs l)) (hl : l.length = N) (hg : g < w.heap.size) (i : Nat) (hi : i ≤ N) : Rd w (some ⟨g, i, none⟩) (l.drop i) := by
  refine .inr ⟨_, rfl, fun _ => hg, fun j hj => ?_⟩
  rw [List.length_drop] at hj
  have hc := World.ownsRow.cellAt h (i + j) (by omega)
  have hb : (bs l)[i + j]? = some (.int .u8 (l[i + j].toNat : Int)) := by unfold bs; rw [List.getElem?_map, List.getElem?_eq_getElem (by omega)]; rfl
  rw [hb] at hc
  rw [List.getElem_drop, ← hc]
  congr 1
  unfold Addr.add
  by_cases h0 : j = 0 <;> simp [h0]

set_option maxHeartbeats 1000000 in
set_option maxRecDepth 100000 in
theorem ibytes_any (g : Nat) (neg : Bool) (V : Nat) (w : World) (h : BigAt w g neg V) (hm : len W V ≤ 10000) :
    Calls Tryz.prog 111 #[.pointer (some ⟨g, 0, none⟩)] w fun e w' => (∃ v, e = .returned v ∧ RdS w' w.heap.size v (mag V)) ∧ Below w.heap.size w w' := by
  obtain ⟨v, B, hk, hn, hp⟩ := h
  obtain ⟨N, hN⟩ : ∃ N, 8 * len W V = N := ⟨_, rfl⟩
  have hVN : V < 256 ^ N := by
    have := len_lt W_two V
    rw [W_pow] at this
    rwa [← hN]
  have hrun := Lib.hid (run_new8 N (by omega) w ((len W V : Int) * 8) (by omega))
  have hal : (w.alloc (.cells (bs (rev8 0 N)).toArray 5)).ownsRow w.heap.size 5 1 (.slice (some ⟨w.heap.size, 0, none⟩) N N) N (bs (rev8 0 N)) := own_new8 N _ (by omega) w (Nat.le_refl _)
  have hbn := nbytes_any v V B w.heap.size N w (w.alloc (.cells (bs (rev8 0 N)).toArray 5)) hn hm (below_one _ (Nat.le_refl _)) (Nat.le_refl _)
  rw [hN] at hbn
  have hbn' := Lib.hid (hbn hal)
  obtain ⟨a, c, rfl, hc, hr⟩ := hn.slice
  have k1 := (hk.later (below_one (.cells (bs (rev8 0 N)).toArray 5) (Nat.le_refl _))).cell 1
  have k1' := hk.cell 1
  simp at k1 k1'
  have hN' : ((len W V : Nat) : Int) * 8 = N := by omega
  obtain ⟨m, hmm⟩ : ∃ m, len W V = m := ⟨_, rfl⟩
  rw [hmm] at hc hm hN' hrun hbn' k1 k1'
  rw [hN'] at hrun
  have hrun' := hrun.out
  have hle : N - len 256 V ≤ N := Nat.sub_le _ _
  obtain ⟨I, hI⟩ : ∃ I, N - len 256 V = I := ⟨_, rfl⟩
  rw [hI] at hle hbn'
  have hfin := Lib.hid (show ∀ w2 : World, w2.ownsRow w.heap.size 5 1 (.slice (some ⟨w.heap.size, 0, none⟩) N N) N (bs (rev8 V N)) → w.heap.size < w2.heap.size → Rd w2 (some ⟨w.heap.size, I, none⟩) (mag V) ∧ (mag V).length = N - I ∧ ∃ cs fz, w2.heap[w.heap.size]? = some (.cells cs 5 fz) from fun w2 h2 hs => by
    have h3 := rd_drop h2 (rev8_length _ _) hs I hle
    rw [← hI, rev8_drop V N hVN, hI] at h3
    refine ⟨h3, ?_, ?_⟩
    · rw [← rev8_drop V N hVN, List.length_drop, rev8_length, hI]
    · rcases h2.2 with ⟨h, _⟩ | ⟨g', c', cells, h, _, hh, _⟩
      · cases h
      · cases h; exact ⟨_, _, hh⟩)
  clear hrun hbn hal hn hr hVN hN hI
  go_enter Tryz.func111, Tryz.ntmps111
  go_wp2_with fail
  refine hbn'.out.mono ?_
  rintro e w2 ⟨⟨rfl, ho⟩, hb2⟩
  have hsz := hb2.size
  have hlt : w.heap.size < w2.heap.size := by
    rcases ho.2 with ⟨h, _⟩ | ⟨g', c', cells, h, _, hh, _⟩
    · cases h
    · cases h; exact (Array.getElem?_eq_some_iff.mp hh).1
  have hf2 := Lib.hid (hfin.out w2 ho hlt)
  have hb2' := Lib.hid hb2
  clear ho hb2
  go_wp2
  · go_ret
    subst h
    have h0 : mag V = [] := List.eq_nil_of_length_eq_zero (by rw [hf2.out.2.1, Nat.sub_self])
    exact ⟨⟨_, rfl, _, _, by rw [h0]; rfl, .inr ⟨_, rfl, by rw [h0]; simp, by rw [h0]; simp⟩, by rw [h0]; simp, (fun h => by cases h), fun x hx => by cases hx; exact ⟨Nat.le_refl _, hf2.out.2.2⟩⟩, hb2'.out⟩
  · go_ret
    exact ⟨⟨_, rfl, some ⟨w.heap.size, I, none⟩, N - I, by rw [hf2.out.2.1]; rfl, hf2.out.1, Nat.le_of_eq hf2.out.2.1, (fun h => by cases h), fun x hx => by cases hx; exact ⟨Nat.le_refl _, hf2.out.2.2⟩⟩, hb2'.out⟩
end Go.Proofs.YtafbheamnjmfoaaGreat.Big

namespace Go.Proofs.YtafbheamnjmfoaaGreat.Ref
open Go.RowKit Go.WideShapes Go.Proofs.YtafbheamnjmfoaaGreat.Own Go.Proofs.YtafbheamnjmfoaaGreat.Num
set_option linter.unusedVariables false

/-- 'append([]byte{}, row...)' as one step of a region that draws its order -/
theorem step_fresh {ops : Array Oper} {o : Oper} {a : Act} {K : Act → World → Prop} {Q : Exit → Act → World → Prop} {E : Prop} {wq w0 : World} {B : Nat} (hgd : o.guard = none) (s x : Operand)
    (ho : o.op = .call { callee := .builtin .append, args := #[s, x], argTypes := #[25, 25] })
    (v : Value) (hs : a.eval s = v) (sa : Option Addr) (m c : Nat) (hx : a.eval x = .slice sa m c) (hown : Owns wq B v []) (hb : Below B w0 wq) (hB : B ≤ w0.heap.size) (t : List UInt8)
    (hm : t.length = m) (hr : Rd wq sa t) (hnone : sa = none → c = 0) (hn : t.length ≤ 1000000000000)
    (h : ∀ v' w', Owns w' B v' t → Below B w0 w' → K (a.put o.dst v') w') :
    if Region.wanted o (yielded ops a.tmps) = true then Oper.wp Tryz.prog o a wq K Q else E := by
  have hw : Region.wanted o (yielded ops a.tmps) = true := by simp [Region.wanted, hgd]
  rw [if_pos hw]
  obtain ⟨i0, hi, hz0, hz1, hz2⟩ := info_parts info_u8
  have hsz := hb.size
  have hown' : wq.ownsRow B 5 1 v 0 [] := hown
  rcases hr with ⟨rfl, rfl⟩ | ⟨ad, rfl, hlt, hcell⟩
  · have hc0 := hnone rfl
    subst hc0
    have hm0 : m = 0 := by simpa using hm.symm
    subst hm0
    have hrun := run_append_owned_none (P := Tryz.prog) (w := wq) B 25 o.type 5 i0 1 Tryz.underlying25 hi v 0 [] hown'
    unfold Oper.wp
    simp [execOp, ho, resolve, invoke, builtin, hs, hx, hrun, Result.andThen]
    exact h _ _ hown hb
  · subst hm
    refine wp_append_own _ s x 25 ho B 5 i0 (.int .u8 0) 1 1 Tryz.underlying25 hi hz0 hz1 hz2 rfl (by decide) v 0 [] hs hown' ad t.length c (bs t) hx (by rw [bs_length, Nat.mul_one])
      ?_ ?_ (by unfold maxLen; omega) (by omega) (by omega) ?_
    · intro j u hu
      simp only [bs, List.getElem?_map, Option.map_eq_some_iff] at hu
      obtain ⟨y, hx1, rfl⟩ := hu
      obtain ⟨hj, rfl⟩ := List.getElem?_eq_some_iff.1 hx1
      exact hcell j hj
    · intro u hu
      simp only [bs, List.mem_map] at hu
      obtain ⟨y, _, rfl⟩ := hu
      rfl
    · intro v' w' hown2 hg _
      refine h v' w' ?_ (hb.grown hg (by omega) fun k hk => (World.ownsRow.lt hown' k hk).1)
      unfold Owns
      simpa [bs] using hown2

theorem six {w w1 : World} {s B : Nat} {v : Value} {l : List UInt8} (u0 u1 u2 u3 u4 u5 : Value) (hown : Owns w1 B v l) (hsB : s < B) (hb : Below w.heap.size w w1) (hs : w.heap.size ≤ s) :
    Owns ((((((w1.setCell ⟨s, 0, none⟩ u0).setCell ⟨s, 1, none⟩ u1).setCell ⟨s, 2, none⟩ u2).setCell ⟨s, 3, none⟩ u3).setCell ⟨s, 4, none⟩ u4).setCell ⟨s, 5, none⟩ u5) w.heap.size v l
    ∧ Below w.heap.size w ((((((w1.setCell ⟨s, 0, none⟩ u0).setCell ⟨s, 1, none⟩ u1).setCell ⟨s, 2, none⟩ u2).setCell ⟨s, 3, none⟩ u3).setCell ⟨s, 4, none⟩ u4).setCell ⟨s, 5, none⟩ u5) := by
  refine ⟨World.ownsRow.mono (Box.own_above hown ?_) (by omega), ?_⟩
  · have h0 := (Box.Above.refl B w1).setCell (p := ⟨s, 0, none⟩) hsB u0
    have h1 := h0.setCell (p := ⟨s, 1, none⟩) hsB u1
    have h2 := h1.setCell (p := ⟨s, 2, none⟩) hsB u2
    have h3 := h2.setCell (p := ⟨s, 3, none⟩) hsB u3
    have h4 := h3.setCell (p := ⟨s, 4, none⟩) hsB u4
    exact h4.setCell (p := ⟨s, 5, none⟩) hsB u5
  · have h0 := hb.setCell (p := ⟨s, 0, none⟩) hs u0
    have h1 := h0.setCell (p := ⟨s, 1, none⟩) hs u1
    have h2 := h1.setCell (p := ⟨s, 2, none⟩) hs u2
    have h3 := h2.setCell (p := ⟨s, 3, none⟩) hs u3
    have h4 := h3.setCell (p := ⟨s, 4, none⟩) hs u4
    exact h4.setCell (p := ⟨s, 5, none⟩) hs u5

theorem Rd.cap {w : World} {B : Nat} {a : Option Addr} {n c : Nat} {l : List UInt8} (h : Owns w B (.slice a n c) l) : a = none → c = 0 := by
  intro e
  subst e
  rcases (show w.ownsRow B 5 1 (.slice none n c) l.length (bs l) from h).2 with ⟨h0, _⟩ | ⟨g, cap, cur, h0, _⟩
  · cases h0; rfl
  · cases h0

end Go.Proofs.YtafbheamnjmfoaaGreat.Ref

namespace Go.Proofs.YtafbheamnjmfoaaGreat.Ref
open Go.RowKit Go.WideShapes Go.Proofs.YtafbheamnjmfoaaGreat.Own Go.Proofs.YtafbheamnjmfoaaGreat.Num
set_option linter.unusedVariables false

theorem Rd.take {w : World} {a : Option Addr} {l : List UInt8} (h : Rd w a l) (k : Nat) : Rd w a (l.take k) := by
  rcases h with ⟨h1, h2⟩ | ⟨x, rfl, hx, hc⟩
  · exact .inl ⟨h1, by rw [h2]; simp⟩
  · refine .inr ⟨x, rfl, fun h0 => hx (by rw [List.length_take] at h0; omega), fun j hj => ?_⟩
    rw [hc j (by rw [List.length_take] at hj; omega)]
    simp
/-- a value of the program's that is an integer -/
def IsVal (w : World) (B : Nat) (v : Value) (neg : Bool) (m : Nat) : Prop := ∃ u, v = .agg #[.int .i64 2, .bool neg, u, .int .u64 0, .string ⟨#[]⟩, .slice none 0 0] ∧ Owns w B u (mag m) ∧ (neg = true → 0 < m)
theorem IsVal.later {w w' : World} {B : Nat} {v : Value} {neg : Bool} {m : Nat} (h : IsVal w B v neg m) (hb : Below w.heap.size w w') : IsVal w' B v neg m := by
  obtain ⟨u, h1, h2, h3⟩ := h
  exact ⟨u, h1, h2.later hb, h3⟩
theorem IsVal.mono {w : World} {B B' : Nat} {v : Value} {neg : Bool} {m : Nat} (h : IsVal w B v neg m) (hB : B' ≤ B) : IsVal w B' v neg m := by
  obtain ⟨u, h1, h2, h3⟩ := h
  exact ⟨u, h1, World.ownsRow.mono h2 hB, h3⟩
theorem IsInt.above {w w' : World} {B : Nat} {v : Value} {neg : Bool} {m : Nat} (h : IsInt w B v neg m) (hb : Box.Above B w w') : IsInt w' B v neg m := by
  obtain ⟨u, h1, h2, h3⟩ := h
  exact ⟨u, h1, Box.own_above h2 hb, h3⟩
theorem IsVal.above {w w' : World} {B : Nat} {v : Value} {neg : Bool} {m : Nat} (h : IsVal w B v neg m) (hb : Box.Above B w w') : IsVal w' B v neg m := by
  obtain ⟨u, h1, h2, h3⟩ := h
  exact ⟨u, h1, Box.own_above h2 hb, h3⟩
theorem below_one' {B : Nat} {w : World} (o : Obj) (h : B ≤ w.heap.size) : Below B w (w.alloc o) := (Below.refl _ _).alloc h _
theorem mag_len_le {V k : Nat} (h : V < 256 ^ k) : (mag V).length ≤ k := by rw [mag_length]; exact len_le (by omega) h

theorem eight {w w1 : World} (a0 a1 u0 u1 u2 u3 u4 u5 : Value) (hb : Below w.heap.size w w1) :
    Box.Above (w.heap.size + 2) w1 ((((((((w1.setCell ⟨w.heap.size, 0, none⟩ a0).setCell ⟨w.heap.size, 1, none⟩ a1).setCell ⟨w.heap.size + 1, 0, none⟩ u0).setCell ⟨w.heap.size + 1, 1, none⟩ u1).setCell ⟨w.heap.size + 1, 2, none⟩ u2).setCell ⟨w.heap.size + 1, 3, none⟩ u3).setCell ⟨w.heap.size + 1, 4, none⟩ u4).setCell ⟨w.heap.size + 1, 5, none⟩ u5)
    ∧ Below w.heap.size w ((((((((w1.setCell ⟨w.heap.size, 0, none⟩ a0).setCell ⟨w.heap.size, 1, none⟩ a1).setCell ⟨w.heap.size + 1, 0, none⟩ u0).setCell ⟨w.heap.size + 1, 1, none⟩ u1).setCell ⟨w.heap.size + 1, 2, none⟩ u2).setCell ⟨w.heap.size + 1, 3, none⟩ u3).setCell ⟨w.heap.size + 1, 4, none⟩ u4).setCell ⟨w.heap.size + 1, 5, none⟩ u5) := by
  have b0 : w.heap.size < w.heap.size + 2 := by omega
  have b1 : w.heap.size + 1 < w.heap.size + 2 := by omega
  have c0 : w.heap.size ≤ w.heap.size := Nat.le_refl _
  have c1 : w.heap.size ≤ w.heap.size + 1 := by omega
  constructor
  · have h0 := (Box.Above.refl (w.heap.size + 2) w1).setCell (p := ⟨w.heap.size, 0, none⟩) b0 a0
    have h1 := h0.setCell (p := ⟨w.heap.size, 1, none⟩) b0 a1
    have h2 := h1.setCell (p := ⟨w.heap.size + 1, 0, none⟩) b1 u0
    have h3 := h2.setCell (p := ⟨w.heap.size + 1, 1, none⟩) b1 u1
    have h4 := h3.setCell (p := ⟨w.heap.size + 1, 2, none⟩) b1 u2
    have h5 := h4.setCell (p := ⟨w.heap.size + 1, 3, none⟩) b1 u3
    have h6 := h5.setCell (p := ⟨w.heap.size + 1, 4, none⟩) b1 u4
    exact h6.setCell (p := ⟨w.heap.size + 1, 5, none⟩) b1 u5
  · have h0 := hb.setCell (p := ⟨w.heap.size, 0, none⟩) c0 a0
    have h1 := h0.setCell (p := ⟨w.heap.size, 1, none⟩) c0 a1
    have h2 := h1.setCell (p := ⟨w.heap.size + 1, 0, none⟩) c1 u0
    have h3 := h2.setCell (p := ⟨w.heap.size + 1, 1, none⟩) c1 u1
    have h4 := h3.setCell (p := ⟨w.heap.size + 1, 2, none⟩) c1 u2
    have h5 := h4.setCell (p := ⟨w.heap.size + 1, 3, none⟩) c1 u3
    have h6 := h5.setCell (p := ⟨w.heap.size + 1, 4, none⟩) c1 u4
    exact h6.setCell (p := ⟨w.heap.size + 1, 5, none⟩) c1 u5

end Go.Proofs.YtafbheamnjmfoaaGreat.Ref

namespace Go.Proofs.YtafbheamnjmfoaaGreat.Big
open Go.RowKit Go.WideShapes Go.Proofs.YtafbheamnjmfoaaGreat.Own Go.Proofs.YtafbheamnjmfoaaGreat.Num Go.Proofs.YtafbheamnjmfoaaGreat.Ref Go.Proofs.YtafbheamnjmfoaaGreat.Nat_
set_option linter.unusedVariables false

set_option maxRecDepth 100000 in
theorem bsign_at (g : Nat) (neg : Bool) (V : Nat) (w : World) (h : BigAt w g neg V) (hm : len W V ≤ 10000) :
    Calls Tryz.prog 110 #[.pointer (some ⟨g, 0, none⟩)] w fun e w' => e = .returned (.int .i64 (sgn (sg neg V))) ∧ w' = w := by
  obtain ⟨v, B, hk, ho, hp⟩ := h
  obtain ⟨a, c, rfl, hc, hr⟩ := ho.slice
  have k0 := hk.cell 0
  have k1 := hk.cell 1
  simp at k0 k1
  have hlt := hk.lt
  have hpos := len_pos W_two (v := V)
  obtain ⟨n, hn⟩ : ∃ n, len W V = n := ⟨_, rfl⟩
  rw [hn] at hpos hc k1 hm
  clear hk ho hr hn
  by_cases h0 : V = 0
  · subst h0
    have hneg : neg = false := by cases neg; rfl; exact absurd (hp rfl) (by omega)
    subst hneg
    have hb : ((n : Int) == 0) = true := by simp; omega
    clear hpos hp
    go_enter Tryz.func110, Tryz.ntmps110
    go_wp2
    go_ret
    exact ⟨rfl, rfl⟩
  · have hb : ((n : Int) == 0) = false := by simp; omega
    cases neg
    · have hs : sgn (sg false V) = 1 := by unfold sgn sg; simp; omega
      rw [hs]
      clear hs h0 hpos hp
      go_enter Tryz.func110, Tryz.ntmps110
      go_wp2
      go_ret
      exact ⟨rfl, rfl⟩
    · have hs : sgn (sg true V) = -1 := by unfold sgn sg; simp; omega
      rw [hs]
      clear hs h0 hpos hp
      go_enter Tryz.func110, Tryz.ntmps110
      go_wp2
      go_ret
      exact ⟨rfl, rfl⟩

theorem RdS.above {w w' : World} {B : Nat} {v : Value} {l : List UInt8} (h : RdS w B v l) (hb : Box.Above B w w') (hs : w.heap.size ≤ w'.heap.size) : RdS w' B v l := by
  obtain ⟨a, c, h1, h2, h3, h4, h5⟩ := h
  refine ⟨a, c, h1, ?_, h3, h4, fun x hx => ⟨(h5 x hx).1, ?_⟩⟩
  rotate_left
  · obtain ⟨cs, fz, hcc⟩ := (h5 x hx).2
    exact ⟨cs, fz, (hb _ (h5 x hx).1 (Array.getElem?_eq_some_iff.1 hcc).1).trans hcc⟩
  rcases h2 with h | ⟨x, rfl, hx, hc⟩
  · exact .inl h
  · refine .inr ⟨x, rfl, fun h0 => Nat.lt_of_lt_of_le (hx h0) hs, fun j hj => ?_⟩
    rw [← hc j hj]
    have := hb x.block (h5 x rfl).1 (hx (by omega))
    unfold World.cell?
    rw [block_add, this]
theorem RdS.mono {w : World} {B B' : Nat} {v : Value} {l : List UInt8} (h : RdS w B v l) (hB : B' ≤ B) : RdS w B' v l := by
  obtain ⟨a, c, h1, h2, h3, h4, h5⟩ := h
  exact ⟨a, c, h1, h2, h3, h4, fun x hx => ⟨Nat.le_trans hB (h5 x hx).1, (h5 x hx).2⟩⟩

/-- a value of the program's that reads as an integer -/
def IsValR (w : World) (B : Nat) (v : Value) (neg : Bool) (m : Nat) : Prop := ∃ u, v = .agg #[.int .i64 2, .bool neg, u, .int .u64 0, .string ⟨#[]⟩, .slice none 0 0] ∧ RdS w B u (mag m) ∧ (neg = true → 0 < m)

set_option maxHeartbeats 1000000 in
set_option maxRecDepth 100000 in
theorem number_any (v : Value) (z : Int) (B : Nat) (w : World) (h : SInt w B v z) :
    Calls Tryz.prog 86 #[v] w fun e w' => (∃ x, e = .returned x ∧ IsValR w' w.heap.size x (decide (z < 0)) z.natAbs) ∧ Below w.heap.size w w' := by
  obtain ⟨a, p, rfl⟩ : ∃ a p, v = .agg #[.int .i64 a, .pointer p] := by
    rcases h with ⟨rfl, _⟩ | ⟨g, neg, V, rfl, _⟩
    · exact ⟨_, _, rfl⟩
    · exact ⟨_, _, rfl⟩
  have hb := Lib.hid fun W (hW : Below w.heap.size w W) => sBig_any _ z B W (h.later hW)
  have hsg := Lib.hid fun g neg V W hB hm => bsign_at g neg V W hB hm
  have hby := Lib.hid fun g neg V W hB hm => ibytes_any g neg V W hB hm
  clear h
  go_enter Tryz.func86, Tryz.ntmps86
  go_wp2_with fail
  obtain ⟨w1, hw1⟩ : ∃ w1, ((w.alloc (.cells #[.int .i64 a, .pointer p] 90)).alloc (.cells #[.int .i64 0, .bool false, .slice none 0 0, .int .u64 0, .string ⟨#[]⟩, .slice none 0 0] 28)) = w1 := ⟨_, rfl⟩
  have hs1 : w1.heap.size = w.heap.size + 2 := by rw [← hw1]; simp
  have hb1 : Below w.heap.size w w1 := by rw [← hw1]; exact ((Below.refl _ _).alloc (Nat.le_refl _) _).alloc (by simp) _
  have hk1 : Box.Holds w1 (w.heap.size + 1) 28 #[.int .i64 0, .bool false, .slice none 0 0, .int .u64 0, .string ⟨#[]⟩, .slice none 0 0] := by
    have := Box.Holds.made (w.alloc (.cells #[.int .i64 a, .pointer p] 90)) 28 #[.int .i64 0, .bool false, .slice none 0 0, .int .u64 0, .string ⟨#[]⟩, .slice none 0 0]
    rwa [World.size_alloc, hw1] at this
  rw [hw1]
  clear hw1
  refine (hb.out w1 hb1).mono ?_
  rintro e w2 ⟨g, neg, V, rfl, hbig, hz, hm, hb2⟩
  have hbig' := Lib.hid hbig
  have hsg' := Lib.hid (hsg.out g neg V w2 hbig hm)
  have hby' := Lib.hid (hby.out g neg V w2 hbig hm)
  have hb12 := Lib.hid (hb1.trans (hb2.mono (by omega)))
  have hk2 := Lib.hid (hk1.later hb2)
  clear hb hsg hby hbig hm hb1 hb2 hk1
  rw [hz] at hsg'
  go_wp2_with fail
  refine hsg'.out.mono ?_
  rintro e w2' ⟨rfl, rfl⟩
  go_wp2_with fail
  refine hby'.out.mono ?_
  rintro e w3 ⟨⟨u, rfl, hu⟩, hb3⟩
  have hs2 := hb12.out.size
  have hs3 := hb3.size
  have hk3 := hk2.out.later hb3
  have k0 := hk3.cell 0
  have k1 := hk3.cell 1
  have k2 := hk3.cell 2
  have k3 := hk3.cell 3
  have k4 := hk3.cell 4
  have k5 := hk3.cell 5
  simp at k0 k1 k2 k3 k4 k5
  have f0 := hk3.free 0
  have f1 := hk3.free 1
  have f2 := hk3.free 2
  have f3 := hk3.free 3
  have f4 := hk3.free 4
  have f5 := hk3.free 5
  have hlt2 := hk2.out.lt
  have hu' := Lib.hid hu
  have hb13 := Lib.hid (hb12.out.trans (hb3.mono hs2))
  have hlt3 := hk3.lt
  obtain ⟨ua, uc, rfl, hrest⟩ := hu
  obtain ⟨n, hn⟩ : ∃ n, (mag V).length = n := ⟨_, rfl⟩
  rw [hn] at hu' ⊢
  clear hrest hb12 hk2 hb3 hk3
  go_wp2
  have hV : V = z.natAbs := by rw [← hz]; unfold sg; cases neg <;> simp
  have hd : decide (sgn z < 0) = decide (z < 0) := by
    have : sgn z < 0 ↔ z < 0 := by unfold sgn; split <;> (try split) <;> omega
    simp [this]
  have hab : Box.Above w2'.heap.size w3 _ := ((((((Box.Above.refl w2'.heap.size w3).setCell (p := ⟨w.heap.size + 1, 0, none⟩) hlt2 (.int .i64 2)).setCell (p := ⟨w.heap.size + 1, 1, none⟩) hlt2 (.bool (decide (sgn z < 0)))).setCell (p := ⟨w.heap.size + 1, 2, none⟩) hlt2 (.slice ua n uc)).setCell (p := ⟨w.heap.size + 1, 3, none⟩) hlt2 (.int .u64 0)).setCell (p := ⟨w.heap.size + 1, 4, none⟩) hlt2 (.string ⟨#[]⟩)).setCell (p := ⟨w.heap.size + 1, 5, none⟩) hlt2 (.slice none 0 0)
  have hle1 : w.heap.size ≤ w.heap.size + 1 := by omega
  have hfin := (hu'.out.above hab (by simp)).mono hs2
  have hbel := (((((hb13.out.setCell (p := ⟨w.heap.size + 1, 0, none⟩) hle1 (.int .i64 2)).setCell (p := ⟨w.heap.size + 1, 1, none⟩) hle1 (.bool (decide (sgn z < 0)))).setCell (p := ⟨w.heap.size + 1, 2, none⟩) hle1 (.slice ua n uc)).setCell (p := ⟨w.heap.size + 1, 3, none⟩) hle1 (.int .u64 0)).setCell (p := ⟨w.heap.size + 1, 4, none⟩) hle1 (.string ⟨#[]⟩)).setCell (p := ⟨w.heap.size + 1, 5, none⟩) hle1 (.slice none 0 0)
  exact bodyPost_ret (v := .agg #[.int .i64 2, .bool (decide (sgn z < 0)), .slice ua n uc, .int .u64 0, .string ⟨#[]⟩, .slice none 0 0]) (by simp [results, Tryz.results86, go_sem, k0, k1, k2, k3, k4, k5]) rfl ⟨⟨_, rfl, _, by rw [hd], hV ▸ hfin, fun h => by simp at h; omega⟩, hbel⟩
end Go.Proofs.YtafbheamnjmfoaaGreat.Big

namespace Go.Proofs.YtafbheamnjmfoaaGreat.Ref
open Go.RowKit Go.WideShapes Go.Proofs.YtafbheamnjmfoaaGreat.Own Go.Proofs.YtafbheamnjmfoaaGreat.Num
set_option linter.unusedVariables false

set_option maxHeartbeats 1000000 in
set_option maxRecDepth 100000 in
theorem intval_any (x : Value) (neg : Bool) (m B : Nat) (w : World) (h : IsInt w B x neg m) (hm : (mag m).length ≤ 2147483647) :
    Calls Tryz.prog 52 #[x] w fun e w' => (∃ u, e = .returned (.agg #[.int .i64 2, .bool neg, u, .int .u64 0, .string ⟨#[]⟩, .slice none 0 0]) ∧ Owns w' w.heap.size u (mag m)) ∧ Below w.heap.size w w' := by
  obtain ⟨u, rfl, ho, hpos⟩ := h
  obtain ⟨a, cap, rfl, hr, hc⟩ := Rd.of_own ho
  obtain ⟨n, hn⟩ : ∃ n, (mag m).length = n := ⟨_, rfl⟩
  rw [hn] at hm hc ho ⊢
  have k0 : ((w.alloc (.cells #[.bool neg, .slice a n cap] 110))).cell? ⟨w.heap.size, 0, none⟩ = some (.bool neg) := by rw [World.cell?_alloc_at _ _ _ _ rfl]; rfl
  have k1 : (w.alloc (.cells #[.bool neg, .slice a n cap] 110)).cell? ⟨w.heap.size, 1, none⟩ = some (.slice a n cap) := by rw [World.cell?_alloc_at _ _ _ _ rfl]; rfl
  obtain ⟨o1, ho1⟩ : ∃ o, o = Obj.cells #[.bool neg, .slice a n cap] 110 := ⟨_, rfl⟩
  obtain ⟨o2, ho2⟩ : ∃ o, o = Obj.cells #[.int .i64 0, .bool false, .slice none 0 0, .int .u64 0, .string ⟨#[]⟩, .slice none 0 0] 28 := ⟨_, rfl⟩
  have hsz2 : ((w.alloc o1).alloc o2).heap.size = w.heap.size + 1 + 1 := by simp
  have hB2 : Below w.heap.size w ((w.alloc o1).alloc o2) := ((Below.refl _ _).alloc (Nat.le_refl _) _).alloc (by simp) _
  have hB3 : Below (w.heap.size + 1 + 1) ((w.alloc o1).alloc o2) (((w.alloc o1).alloc o2).alloc (.cells #[] 5)) := (Below.refl _ _).alloc (Nat.le_of_eq hsz2.symm) _
  have hR3 : Rd (((w.alloc o1).alloc o2).alloc (.cells #[] 5)) a (mag m) := (hr.later hB2).later (hsz2 ▸ hB3)
  have hO3 : Owns (((w.alloc o1).alloc o2).alloc (.cells #[] 5)) (w.heap.size + 1 + 1) (.slice (some ⟨w.heap.size + 1 + 1, 0, none⟩) 0 0) [] := by
    have := owns_empty ((w.alloc o1).alloc o2)
    rw [hsz2] at this
    exact this
  have hV3 : Box.Holds ((w.alloc o1).alloc o2) (w.heap.size + 1) 28 #[.int .i64 0, .bool false, .slice none 0 0, .int .u64 0, .string ⟨#[]⟩, .slice none 0 0] := by
    have := Box.Holds.made (w.alloc o1) 28 #[.int .i64 0, .bool false, .slice none 0 0, .int .u64 0, .string ⟨#[]⟩, .slice none 0 0]
    rw [ho2]
    simpa using this
  have hcap := Lib.hid (Rd.cap ho)
  have hN3 : Box.Holds ((w.alloc o1).alloc o2) w.heap.size 110 #[.bool neg, .slice a n cap] := by
    have := (Box.Holds.made w 110 #[.bool neg, .slice a n cap]).alloc o2
    rw [ho1]
    exact this
  have hN3' := Lib.hid hN3
  rw [ho1, ho2] at hN3'
  rw [ho1, ho2] at hB3 hR3 hO3 hV3 hB2 hsz2
  have hB3' := Lib.hid hB3
  have hR3' := Lib.hid hR3
  have hO3' := Lib.hid hO3
  have hV3' := Lib.hid hV3
  have hB2' := Lib.hid hB2
  have hsz2' := Lib.hid hsz2
  have hn' := Lib.hid hn
  clear hN3 hB3 hR3 hO3 hV3 hB2 hsz2 ho1 ho2 hr ho hn
  go_enter Tryz.func52, Tryz.ntmps52
  go_wp2_with fail
  go_region_law (refine step_fresh rfl _ _ rfl _ rfl a n cap rfl (by exact hO3'.out) (by exact ⟨hB3'.out.os, hB3'.out.tape, hB3'.out.output, hB3'.out.size, hB3'.out.block⟩) (Nat.le_of_eq hsz2'.out.symm) (mag m) hn'.out (by exact hR3'.out) hcap.out (by rw [hn'.out]; omega) ?_; intro v' w1 hown1 hb1; obtain ⟨a5, c5, hv5, -, -⟩ := Rd.of_own hown1; subst hv5; have hv1 := hV3'.out.below hb1 (Nat.lt_succ_self _); have hl1 := hv1.lt; have q0 := hv1.cell 0; have q1 := hv1.cell 1; have q2 := hv1.cell 2; have q3 := hv1.cell 3; have q4 := hv1.cell 4; have q5 := hv1.cell 5; simp at q0 q1 q2 q3 q4 q5; have f0 := hv1.free 0; have f1 := hv1.free 1; have f2 := hv1.free 2; have f3 := hv1.free 3; have f4 := hv1.free 4; have f5 := hv1.free 5; have r0 := (hN3'.out.below hb1 (by omega)).cell 0; simp at r0)
  all_goals
    clear hN3' hR3' hO3' hcap k0 k1 r0
    have hfin := Lib.hid (six (.int .i64 2) (.bool neg) (.slice a5 (mag m).length c5) (.int .u64 0) (.string ⟨#[]⟩) (.slice none 0 0) hown1 (Nat.lt_succ_self (w.heap.size + 1)) (hB2'.out.trans (hb1.mono (Nat.le_trans (Nat.le_succ _) (Nat.le_succ _)))) (Nat.le_succ _))
    clear hown1 hB2' hB3' hsz2' hb1 hv1
    go_wp2
    exact bodyPost_ret (v := .agg #[.int .i64 2, .bool neg, .slice a5 (mag m).length c5, .int .u64 0, .string ⟨#[]⟩, .slice none 0 0]) (by simp [results, Tryz.results52, go_sem, q0, q1, q2, q3, q4, q5]) rfl ⟨⟨_, rfl, hfin.out.1⟩, hfin.out.2⟩

theorem IsVal.of_told {w w' : World} {B : Nat} {neg : Bool} {m : Nat} {u : Value} (h : Owns w B u (mag m)) (hp : neg = true → 0 < m) : IsVal w B (.agg #[.int .i64 2, .bool neg, u, .int .u64 0, .string ⟨#[]⟩, .slice none 0 0]) neg m := ⟨u, rfl, h, hp⟩

set_option maxRecDepth 100000 in
theorem num_any (k : Int) (neg : Bool) (a : Option Addr) (l : List UInt8) (c : Nat) (b : Int) (t : ByteArray) (ka : Option Addr) (kn kc : Nat) (w : World) (h : Rd w a l) (hl : l.length ≤ 2147483647) (hc : l.length ≤ c) (ha : a = none → c = 0) :
    Calls Tryz.prog 67 #[.agg #[.int .i64 k, .bool neg, .slice a l.length c, .int .u64 b, .string t, .slice ka kn kc]] w fun e w' => (∃ x, e = .returned x ∧ IsInt w' w.heap.size x (neg && decide (0 < be l)) (be l)) ∧ Below w.heap.size w w' := by
  have hof := Lib.hid fun W (hb : Below w.heap.size w W) => of_any neg a c l W (h.later hb) hl hc ha
  obtain ⟨V, hV⟩ : ∃ V, be l = V := ⟨_, rfl⟩
  obtain ⟨n, hn⟩ : ∃ n, l.length = n := ⟨_, rfl⟩
  rw [hV, hn] at hof
  rw [hV, hn]
  obtain ⟨NN, hNN⟩ : ∃ NN, (neg && decide (0 < V)) = NN := ⟨_, rfl⟩
  rw [hNN] at hof ⊢
  have k1 : ((w.alloc (.cells #[.int .i64 k, .bool neg, .slice a n c, .int .u64 b, .string t, .slice ka kn kc] 28)).alloc (.cells #[.bool false, .slice none 0 0] 110)).cell? ⟨w.heap.size, 1, none⟩ = some (.bool neg) := by rw [World.cell?_alloc_lt _ _ _ (by simp), World.cell?_alloc_at _ _ _ _ rfl]; rfl
  have k2 : ((w.alloc (.cells #[.int .i64 k, .bool neg, .slice a n c, .int .u64 b, .string t, .slice ka kn kc] 28)).alloc (.cells #[.bool false, .slice none 0 0] 110)).cell? ⟨w.heap.size, 2, none⟩ = some (.slice a n c) := by rw [World.cell?_alloc_lt _ _ _ (by simp), World.cell?_alloc_at _ _ _ _ rfl]; rfl
  have hB2 : Below w.heap.size w ((w.alloc (.cells #[.int .i64 k, .bool neg, .slice a n c, .int .u64 b, .string t, .slice ka kn kc] 28)).alloc (.cells #[.bool false, .slice none 0 0] 110)) := (below_one' _ (Nat.le_refl _)).alloc (by simp) _
  have hv2 : Box.Holds ((w.alloc (.cells #[.int .i64 k, .bool neg, .slice a n c, .int .u64 b, .string t, .slice ka kn kc] 28)).alloc (.cells #[.bool false, .slice none 0 0] 110)) (w.heap.size + 1) 110 #[.bool false, .slice none 0 0] := by
    have := Box.Holds.made (w.alloc (.cells #[.int .i64 k, .bool neg, .slice a n c, .int .u64 b, .string t, .slice ka kn kc] 28)) 110 #[.bool false, .slice none 0 0]
    rwa [show (w.alloc (.cells #[.int .i64 k, .bool neg, .slice a n c, .int .u64 b, .string t, .slice ka kn kc] 28)).heap.size = w.heap.size + 1 by simp] at this
  have hof2 := Lib.hid (hof.out _ hB2)
  have hsz : ((w.alloc (.cells #[.int .i64 k, .bool neg, .slice a n c, .int .u64 b, .string t, .slice ka kn kc] 28)).alloc (.cells #[.bool false, .slice none 0 0] 110)).heap.size = w.heap.size + 2 := by simp
  have hsz' := Lib.hid hsz
  have hB2' := Lib.hid hB2
  have hv2' := Lib.hid hv2
  clear hV hn hNN hof h hl hc ha hB2 hv2 hsz
  go_enter Tryz.func67, Tryz.ntmps67
  go_wp2_with fail
  refine hof2.out.mono ?_
  rintro e w1 ⟨⟨x, rfl, hx⟩, hb1⟩
  have g := hv2'.out.later hb1
  have hB3 := hB2'.out.trans (hb1.mono hB2'.out.size)
  obtain ⟨u, rfl, ho, hp⟩ := hx
  obtain ⟨a1, c1, rfl, -, -⟩ := Rd.of_own ho
  have r0 := g.cell 0
  have r1 := g.cell 1
  simp at r0 r1
  have f0 := g.free 0
  have f1 := g.free 1
  have hl1 := g.lt
  obtain ⟨L, hL⟩ : ∃ L, (mag V).length = L := ⟨_, rfl⟩
  rw [hL] at ho ⊢
  rw [hsz'.out] at ho
  have hfin := Lib.hid (show IsInt ((w1.setCell ⟨w.heap.size + 1, 0, none⟩ (.bool NN)).setCell ⟨w.heap.size + 1, 1, none⟩ (.slice a1 L c1)) w.heap.size (.agg #[.bool NN, .slice a1 L c1]) NN V ∧ Below w.heap.size w ((w1.setCell ⟨w.heap.size + 1, 0, none⟩ (.bool NN)).setCell ⟨w.heap.size + 1, 1, none⟩ (.slice a1 L c1)) from by
    have h0 := (Box.Above.refl (w.heap.size + 2) w1).setCell (p := ⟨w.heap.size + 1, 0, none⟩) (Nat.lt_succ_self _) (.bool NN)
    have h1 := h0.setCell (p := ⟨w.heap.size + 1, 1, none⟩) (Nat.lt_succ_self _) (.slice a1 L c1)
    have c0 := hB3.setCell (p := ⟨w.heap.size + 1, 0, none⟩) (Nat.le_succ _) (.bool NN)
    have c1' := c0.setCell (p := ⟨w.heap.size + 1, 1, none⟩) (Nat.le_succ _) (.slice a1 L c1)
    exact ⟨(IsInt.above ⟨_, rfl, ho, hp⟩ h1).mono (by omega), c1'⟩)
  clear ho hp hL hB3 g hb1 hv2' hB2' hsz' hof2
  go_wp2
  exact bodyPost_ret (v := .agg #[.bool NN, .slice a1 L c1]) (by simp [results, Tryz.results67, go_sem, r0, r1]) rfl ⟨⟨_, rfl, hfin.out.1⟩, hfin.out.2⟩

set_option maxRecDepth 100000 in
theorem textval_any (t : ByteArray) (w : World) :
    Calls Tryz.prog 62 #[.string t] w fun e w' => e = .returned (.agg #[.int .i64 4, .bool false, .slice none 0 0, .int .u64 0, .string t, .slice none 0 0]) ∧ Below w.heap.size w w' := by
  go_enter Tryz.func62, Tryz.ntmps62
  go_wp2
  exact bodyPost_ret (v := .agg #[.int .i64 4, .bool false, .slice none 0 0, .int .u64 0, .string t, .slice none 0 0]) (by simp [results, Tryz.results62, go_sem]) rfl ⟨rfl, below_one' _ (Nat.le_refl _)⟩
end Go.Proofs.YtafbheamnjmfoaaGreat.Ref
