/-
  The reference's two's complement: an integer as bytes. The reference's integer of bytes in two's complement; its exclusive or. The reference's exclusive or.
-/
import Derived.Test.YtaappbnbjpbbcaaSpecNot
import Derived.Test.YtaappbnbjpbbcaaTwoLaw
import Derived.Laws.CopyOwn
namespace Go.Proofs.Ytaappbnbjpbbcaa.Ref
open Go.RowKit Go.WideShapes Go.Proofs.Ytaappbnbjpbbcaa.Own Go.Proofs.Ytaappbnbjpbbcaa.Num Go.Proofs.Ytaappbnbjpbbcaa.Nat_ Go.Proofs.Ytaappbnbjpbbcaa.Big
set_option linter.unusedVariables false

theorem size_u8 : (Try.prog.info? 5).map (·.size) = some 1 := by kernel_rfl
theorem bs_one (l : List UInt8) : ∀ v ∈ bs l, v.oneCell' = true := by
  intro v hv
  simp [bs] at hv
  obtain ⟨_, _, rfl⟩ := hv
  rfl
/-- bytes copied into an owned row -/
theorem copy_bytes (dT sT : TypeId) (hdT : Try.prog.underlying dT = some (.slice 5)) (g N c d dc n sc : Nat) (B : Nat) (L S : List UInt8) (dp sp : Option Addr) (w : World)
    (hz : w.ownsRow B 5 1 (.slice (some ⟨g, 0, none⟩) N c) N (bs L)) (hn : S.length = n) (hd : d + n ≤ N)
    (hpos : 0 < n → dp = some ⟨g, d, none⟩ ∧ ∃ a, sp = some a ∧ ∀ j (hj : j < n), w.cell? (a.add j) = some (.int .u8 (S[j].toNat : Int))) (dLen sLen : Nat) (hmin : n = Nat.min sLen dLen) (B0 : Nat) (w0 : World) (hb : Below B0 w0 w) (hB : B0 ≤ B) :
    ∃ w', (∀ ty, (Builtin.copy_ #[dT, sT] ty #[.slice dp dLen dc, .slice sp sLen sc]).run Try.prog w = .ok (goInt n) w') ∧
      w'.ownsRow B 5 1 (.slice (some ⟨g, 0, none⟩) N c) N (bs (L.take d ++ S ++ L.drop (d + n))) ∧ Below B0 w0 w' := by
  by_cases h0 : n = 0
  · subst h0
    obtain rfl : S = [] := List.eq_nil_of_length_eq_zero hn
    exact ⟨w, fun ty => run_copy_none (P := Try.prog) w dT sT ty 5 dp sp dLen dc sLen sc hdT size_u8 hmin.symm, by simpa using hz, hb⟩
  obtain ⟨rfl, a, rfl, hsrc⟩ := hpos (by omega)
  have hL : (bs L).length = N := by have := hz.1; omega
  rcases hz.2 with ⟨h, _⟩ | ⟨g', c', cur, e, hB', hg, hcl, hm, hs, ht⟩
  · cases h
  · cases e
    rw [Nat.mul_one] at hs ht
    have hbl : (bs S).length = n := by rw [bs_length, hn]
    refine ⟨w.setRow g (cur.toList.take d ++ bs S ++ cur.toList.drop (d + n)).toArray, fun ty => ?_, ?_, ?_⟩
    · have := run_copy_row (P := Try.prog) w dT sT ty 5 g d dLen dc a sLen sc cur 5 (bs S) hdT size_u8 hg (by rw [hbl]; exact hmin) (fun j v hj => by
        unfold bs at hj
        rw [List.getElem?_map] at hj
        by_cases hlt : j < S.length
        · rw [List.getElem?_eq_getElem hlt] at hj
          rw [hsrc j (by omega)]
          simpa using hj
        · rw [List.getElem?_eq_none (by omega)] at hj
          cases hj) (by rw [hbl]; omega) (bs_one S)
      rw [hbl] at this
      exact this
    · have hlen : (cur.toList.take d ++ bs S ++ cur.toList.drop (d + n)).length = c := by
        simp only [List.length_append, List.length_take, List.length_drop, hbl, Array.length_toList]
        omega
      have hLl : L.length = N := by rw [← hL, bs_length]
      refine ⟨by simp only [bs_length, List.length_append, List.length_take, List.length_drop, hn, hLl]; omega, .inr ⟨g, c, _, rfl, hB', setRow_heap w g cur _ 5 (0, 0) hg, hcl, hm, by rw [List.size_toArray, hlen, Nat.mul_one], ?_⟩⟩
      rw [Nat.mul_one]
      show (cur.toList.take d ++ bs S ++ cur.toList.drop (d + n)).take N = _
      have h1 : (cur.toList.take d) = bs (L.take d) := by
        have : cur.toList.take d = (cur.toList.take N).take d := by rw [List.take_take, Nat.min_eq_left (by omega)]
        rw [this, ht]; unfold bs; rw [List.map_take]
      have h2 : (cur.toList.drop (d + n)).take (N - (d + n)) = bs (L.drop (d + n)) := by
        have : (cur.toList.drop (d + n)).take (N - (d + n)) = (cur.toList.take N).drop (d + n) := by rw [List.drop_take]
        rw [this, ht]; unfold bs; rw [List.map_drop]
      have h3 : (cur.toList.take d ++ bs S).length = d + n := by
        simp only [List.length_append, List.length_take, hbl, Array.length_toList]; omega
      rw [List.take_append, h3, h2, List.take_of_length_le (by rw [h3]; omega), h1]
      unfold bs
      simp
    · exact below_setRow hb (by omega) _

theorem rev8_pad (V n : Nat) (h : V < 256 ^ n) : (rev8 0 n).take (n - len 256 V) ++ mag V ++ (rev8 0 n).drop n = rev8 V n := by
  have hl : len 256 V ≤ n := len_le (by omega) h
  rw [List.drop_eq_nil_of_le (by rw [rev8_length]; exact Nat.le_refl _), List.append_nil, ← rev8_drop V n h]
  have : (rev8 0 n).take (n - len 256 V) = (rev8 V n).take (n - len 256 V) := by
    apply List.ext_getElem?
    intro i
    rw [List.getElem?_take, List.getElem?_take]
    by_cases hi : i < n - len 256 V
    · rw [if_pos hi, if_pos hi, rev8_get _ _ _ (by omega), rev8_get _ _ _ (by omega), Nat.zero_div]
      have := len_lt (b := 256) (by omega) V
      rw [Nat.div_eq_of_lt (Nat.lt_of_lt_of_le this (Nat.pow_le_pow_right (by decide) (by omega)))]
    · rw [if_neg hi, if_neg hi]
  rw [this, List.take_append_drop]
theorem rev8_of (l : List UInt8) (n : Nat) (h : l.length = n) : rev8 (be l) n = l := by
  apply List.ext_getElem?
  intro i
  by_cases hi : i < n
  · rw [rev8_get _ _ _ hi, be_digit l (n - 1 - i) (by omega), List.getElem?_eq_getElem (by omega)]
    have : l.length - 1 - (n - 1 - i) = i := by omega
    simp only [this]
    simp
  · rw [List.getElem?_eq_none (by rw [rev8_length]; omega), List.getElem?_eq_none (by omega)]
theorem rev8_not (V n : Nat) (h : V < 256 ^ n) : (rev8 V n).map (fun c => ~~~c) = rev8 (256 ^ n - 1 - V) n := by
  have h1 := be_not (rev8 V n)
  rw [be_rev8 V n h, rev8_length] at h1
  have h2 := rev8_of ((rev8 V n).map (fun c => ~~~c)) n (by rw [List.length_map, rev8_length])
  rw [show be ((rev8 V n).map (fun c => ~~~c)) = 256 ^ n - 1 - V by omega] at h2
  exact h2.symm

set_option maxHeartbeats 2000000 in
set_option maxRecDepth 100000 in
theorem plain_pos (V n : Nat) (a : Option Addr) (c : Nat) (w : World) (hr : Rd w a (mag V)) (hc : (mag V).length ≤ c) (hn : (mag V).length < n) (hn2 : n ≤ 40000) :
    Calls Try.prog 36 #[.agg #[.bool false, .slice a (mag V).length c], .int .i64 n] w fun e w' => (∃ g, e = .returned (.slice (some ⟨g, 0, none⟩) n n) ∧ w'.ownsRow w.heap.size 5 1 (.slice (some ⟨g, 0, none⟩) n n) n (bs (rev8 V n))) ∧ Below w.heap.size w w' := by
  have hV : V < 256 ^ n := by
    rw [mag_length] at hn
    exact Nat.lt_of_lt_of_le (len_lt (b := 256) (by omega) V) (Nat.pow_le_pow_right (by decide) (by omega))
  obtain ⟨m, hm⟩ : ∃ m, (mag V).length = m := ⟨_, rfl⟩
  have hrun := fun W => run_new8 n (by omega) W n rfl
  obtain ⟨o1, ho1⟩ : ∃ o, (Obj.cells #[.bool false, .slice a m c] 35) = o := ⟨_, rfl⟩
  have hb1 : Below w.heap.size w (w.alloc o1) := below_one _ (Nat.le_refl _)
  have hsz : (w.alloc o1).heap.size = w.heap.size + 1 := by simp
  have hb2 : Below (w.heap.size + 1) (w.alloc o1) ((w.alloc o1).alloc (.cells (bs (rev8 0 n)).toArray 5)) := by
    have := below_one (w := w.alloc o1) (.cells (bs (rev8 0 n)).toArray 5) (Nat.le_refl _)
    rwa [hsz] at this
  have hown := own_new8 n (w.heap.size + 1) (by omega) (w.alloc o1) (by simp)
  have hr2 := hr.later (hb1.trans (hb2.mono (Nat.le_succ _)))
  have hpad := rev8_pad V n hV
  rw [← mag_length, hm] at hpad
  obtain ⟨d, hd⟩ : ∃ d, n - m = d := ⟨_, rfl⟩
  have hd' : (n : Int) - m = d := by omega
  rw [hd] at hpad
  rw [hsz] at hown
  obtain ⟨w3, hcp, hown3, hb3⟩ := copy_bytes 22 22 Try.underlying22 (w.heap.size + 1) n n d (n - d) m c (w.heap.size + 1) (rev8 0 n) (mag V) (if n = d then some ⟨w.heap.size + 1, 0, none⟩ else some ⟨w.heap.size + 1, d, none⟩) a ((w.alloc o1).alloc (.cells (bs (rev8 0 n)).toArray 5)) hown hm (by omega) (fun h0 => by
    refine ⟨by rw [if_neg (by omega)], ?_⟩
    rcases hr2 with ⟨_, h⟩ | ⟨x, rfl, _, hcell⟩
    · rw [h] at hm; simp at hm; omega
    · exact ⟨x, rfl, fun j hj => hcell j (by omega)⟩) (n - d) m (by show m = min m (n - d); omega) (w.heap.size + 1) (w.alloc o1) hb2 (Nat.le_refl _)
  rw [show d + m = n by omega, hpad] at hown3
  rw [hm]
  rw [hm] at hc hn
  have hx0 : w3.cell? ⟨w.heap.size, 0, none⟩ = some (.bool false) := by
    rw [hb3.cell (p := ⟨w.heap.size, 0, none⟩) (Nat.lt_succ_self _), ← ho1, World.cell?_alloc_at _ _ _ _ rfl]
    rfl
  have hlt3 : w.heap.size < w3.heap.size := by have := hb3.size; rw [hsz] at this; omega
  have hfin := Lib.hid (And.intro (World.ownsRow.mono hown3 (Nat.le_succ _)) (hb1.trans (hb3.mono (Nat.le_succ _))))
  have hn0 : 0 < n := by omega
  subst ho1
  clear hr hr2 hb1 hb2 hown hpad hm hV hown3 hd hb3 hsz
  go_enter Try.func36, Try.ntmps36
  go_wp2_with fail
  all_goals
    go_loopw [7] (fun i wr => i = .int .i64 0 ∧ wr = w3) (fun _ _ => 0)
    case atStart => exact ⟨rfl, rfl⟩
    case round =>
      obtain ⟨rfl, rfl⟩ := hrel
      go_wp2
      go_ret
      first
      | exact ⟨⟨_, rfl, hfin.out.1⟩, hfin.out.2⟩
      | (obtain rfl : n = d := by assumption
         exact ⟨⟨_, rfl, hfin.out.1⟩, hfin.out.2⟩)

set_option maxRecDepth 100000 in
theorem u8_cpl (b : UInt8) : bits BinOp.xor IntKind.u8 (if IntKind.u8.signed = true then -1 else IntKind.u8.max) (b.toNat : Int) = ((~~~b).toNat : Int) := by
  have key : ∀ k : Fin 256, bits BinOp.xor IntKind.u8 (if IntKind.u8.signed = true then -1 else IntKind.u8.max) ((k.val : Nat) : Int) = ((255 - k.val : Nat) : Int) := by decide
  rw [u8_not]
  exact key ⟨b.toNat, UInt8.toNat_lt b⟩
theorem fld_mag (b : Bool) (a : Option Addr) (n c : Nat) (w : World) : (Instr.field 35 (.agg #[.bool b, .slice a n c]) 1).run Try.prog w = .ok (.slice a n c) w := by kernel_rfl
/-- a row, its first k bytes turned -/
def notTo (k : Nat) (l : List UInt8) : List UInt8 := (l.take k).map (fun c => ~~~c) ++ l.drop k
theorem notTo_zero (l : List UInt8) : notTo 0 l = l := by simp [notTo]
theorem notTo_length (k : Nat) (l : List UInt8) : (notTo k l).length = l.length := by simp [notTo]; omega
theorem notTo_full (k : Nat) (l : List UInt8) (h : l.length ≤ k) : notTo k l = l.map (fun c => ~~~c) := by
  unfold notTo
  rw [List.take_of_length_le h, List.drop_eq_nil_of_le h, List.append_nil]
theorem notTo_get (k : Nat) (l : List UInt8) (h : k < l.length) : (notTo k l)[k]? = some l[k] := by
  unfold notTo
  rw [List.getElem?_append_right (by simp; omega)]
  simp
  rw [show k + (k - min k l.length) = k by omega]
  exact List.getElem?_eq_getElem h
theorem notTo_step (k : Nat) (l : List UInt8) (h : k < l.length) : (bs (notTo k l)).set k (.int .u8 ((~~~l[k]).toNat : Int)) = bs (notTo (k + 1) l) := by
  have e : (notTo k l).set k (~~~l[k]) = notTo (k + 1) l := by
    unfold notTo
    rw [List.set_append, if_neg (by simp; omega)]
    have : k - (List.map (fun c => ~~~c) (List.take k l)).length = 0 := by simp; omega
    rw [this, List.drop_eq_getElem_cons h, List.set_cons_zero, List.take_succ_eq_append_getElem h, List.map_append, List.append_assoc]
    rfl
  rw [← e]
  unfold bs
  rw [List.map_set]

set_option maxHeartbeats 2000000 in
set_option maxRecDepth 100000 in
theorem plain_neg (V n B : Nat) (a : Option Addr) (c : Nat) (w : World) (hx : IsZ w B (.agg #[.bool true, .slice a (mag V).length c]) (-(V : Int))) (hV0 : 0 < V) (hn : (mag V).length < n) (hn2 : n ≤ 40000) :
    Calls Try.prog 36 #[.agg #[.bool true, .slice a (mag V).length c], .int .i64 n] w fun e w' => (∃ g, e = .returned (.slice (some ⟨g, 0, none⟩) n n) ∧ w'.ownsRow w.heap.size 5 1 (.slice (some ⟨g, 0, none⟩) n n) n (bs (rev8 (256 ^ n - 1 - (V - 1)) n))) ∧ Below w.heap.size w w' := by
  have hV : V < 256 ^ n := by
    rw [mag_length] at hn
    exact Nat.lt_of_lt_of_le (len_lt (b := 256) (by omega) V) (Nat.pow_le_pow_right (by decide) (by omega))
  have hV1 : V - 1 < 256 ^ n := by omega
  have hlen : (mag (V - 1)).length < n := Nat.lt_of_le_of_lt (mag_len_mono (Nat.sub_le V 1)) hn
  have hnot := Lib.hid fun W (hW : Below w.heap.size w W) => not_any _ _ B W (hx.later hW) (by rw [Int.natAbs_neg]; simp; omega)
  have hneg := rev8_not (V - 1) n hV1
  obtain ⟨m0, hm0⟩ : ∃ m, (mag V).length = m := ⟨_, rfl⟩
  rw [hm0] at hnot hn ⊢
  have hrun := fun W => run_new8 n (by omega) W n rfl
  obtain ⟨o1, ho1⟩ : ∃ o, (Obj.cells #[.bool true, .slice a m0 c] 35) = o := ⟨_, rfl⟩
  have hb1 : Below w.heap.size w (w.alloc o1) := below_one _ (Nat.le_refl _)
  have hsz : (w.alloc o1).heap.size = w.heap.size + 1 := by simp
  have hb2 : Below (w.heap.size + 1) (w.alloc o1) ((w.alloc o1).alloc (.cells (bs (rev8 0 n)).toArray 5)) := by
    have := below_one (w := w.alloc o1) (.cells (bs (rev8 0 n)).toArray 5) (Nat.le_refl _)
    rwa [hsz] at this
  have hown := own_new8 n (w.heap.size + 1) (by omega) (w.alloc o1) (by simp)
  rw [hsz] at hown
  have hsz2 : ((w.alloc o1).alloc (.cells (bs (rev8 0 n)).toArray 5)).heap.size = w.heap.size + 2 := by simp
  have hnot1 := Lib.hid (hnot.out _ (hb1.trans (hb2.mono (Nat.le_succ _))))
  have hx9 : ∀ W : World, Below (w.heap.size + 1) (w.alloc o1) W → W.cell? ⟨w.heap.size, 0, none⟩ = some (.bool true) ∧ w.heap.size < W.heap.size := fun W hW => by
    refine ⟨?_, by have := hW.size; rw [hsz] at this; omega⟩
    rw [hW.cell (p := ⟨w.heap.size, 0, none⟩) (Nat.lt_succ_self _), ← ho1, World.cell?_alloc_at _ _ _ _ rfl]
    rfl
  have hx9' := Lib.hid hx9
  have hn0 : 0 < n := by omega
  have hst := Lib.hid (And.intro hb1 (And.intro hb2 hown))
  have hpad := Lib.hid (rev8_pad (V - 1) n hV1)
  have hlen' := Lib.hid hlen
  have hneg' := Lib.hid hneg
  have hwr := Lib.hid hb1
  subst ho1
  clear hx hV hV1 hlen hnot hneg hb1 hb2 hown hm0 hx9 hsz hsz2 hn
  go_enter Try.func36, Try.ntmps36
  go_wp2_with fail
  refine hnot1.out.mono ?_
  rintro e w2 ⟨⟨v2, rfl, hv2⟩, hbn⟩
  have hv3 : IsInt w2 0 v2 false (V - 1) := by
    have h1 : (- -(V : Int) - 1) = ((V - 1 : Nat) : Int) := by omega
    rw [h1] at hv2
    have h2 := hv2.int
    rw [show decide (((V - 1 : Nat) : Int) < 0) = false by simp, show (((V - 1 : Nat) : Int)).natAbs = V - 1 by omega] at h2
    exact h2.mono (Nat.zero_le _)
  obtain ⟨a2, c2, rfl, r2, hc2, -⟩ := hv3.shape
  obtain ⟨hb1, hb2, hown⟩ := hst.out
  have hown2 := own_below hown hbn
  have hbw2 : Below (w.heap.size + 1) (w.alloc (.cells #[.bool true, .slice a m0 c] 35)) w2 := hb2.trans (hbn.mono (by simp))
  have hln := mag_length (V - 1)
  obtain ⟨m, hm⟩ : ∃ m, (mag (V - 1)).length = m := ⟨_, rfl⟩
  have hmn : m < n := by rw [← hm]; exact hlen'.out
  obtain ⟨d, hd⟩ : ∃ d, n - m = d := ⟨_, rfl⟩
  have hd' : (n : Int) - m = d := by omega
  obtain ⟨w3, hcp, hown3, hb3⟩ := copy_bytes 22 22 Try.underlying22 (w.heap.size + 1) n n d (n - d) m c2 (w.heap.size + 1) (rev8 0 n) (mag (V - 1)) (if n = d then some ⟨w.heap.size + 1, 0, none⟩ else some ⟨w.heap.size + 1, d, none⟩) a2 w2 hown2 hm (by omega) (fun h0 => by
    refine ⟨by rw [if_neg (by omega)], ?_⟩
    rcases r2 with ⟨_, h⟩ | ⟨x, rfl, _, hcell⟩
    · rw [h] at hm; simp at hm; omega
    · exact ⟨x, rfl, fun j hj => hcell j (by omega)⟩) (n - d) m (by show m = min m (n - d); omega) (w.heap.size + 1) _ hbw2 (Nat.le_refl _)
  rw [show d + m = n by omega, show d = n - len 256 (V - 1) by rw [← hln, hm, hd], hpad.out] at hown3
  obtain ⟨hx2, hlt2⟩ := hx9'.out w2 hbw2
  have hst3 := Lib.hid (show w3.ownsRow (w.heap.size + 1) 5 1 (.slice (some ⟨w.heap.size + 1, 0, none⟩) n n) n (bs (notTo 0 (rev8 (V - 1) n))) ∧ Below (w.heap.size + 1) (w.alloc (.cells #[.bool true, .slice a m0 c] 35)) w3 from ⟨by rw [notTo_zero]; exact hown3, hb3⟩)
  rw [hm] at hc2 ⊢
  clear hv2 hv3 hbn r2 hst hb1 hb2 hown hown2 hbw2 hln hm hd hown3 hb3 hpad hlen' hnot1
  have hfld := fld_mag false a2 m c2
  go_wp2_with fail
  all_goals
    go_loopw [7] (fun i wr => ∃ k : Nat, k ≤ n ∧ i = .int .i64 k ∧ Hid (wr.ownsRow (w.heap.size + 1) 5 1 (.slice (some ⟨w.heap.size + 1, 0, none⟩) n n) n (bs (notTo k (rev8 (V - 1) n))) ∧ Below (w.heap.size + 1) (w.alloc (.cells #[.bool true, .slice a m0 c] 35)) wr)) (fun i _ => n - (intOf i).toNat)
    case atStart => exact ⟨0, by omega, rfl, hst3⟩
    case round =>
      clear hst3 hx2 hlt2
      obtain ⟨k, hk, rfl, hI⟩ := hrel
      obtain ⟨hx2, hlt2⟩ := hx9'.out wr hI.out.2
      by_cases hlt : k < n
      · obtain ⟨hown, hb⟩ := hI.out
        have hlk : k < (rev8 (V - 1) n).length := by rw [rev8_length]; exact hlt
        have hc0 := World.ownsRow.cellAt hown k (by omega)
        have hf0 := World.ownsRow.frozenAt hown k
        have hg := notTo_get k (rev8 (V - 1) n) hlk
        have hstp := notTo_step k (rev8 (V - 1) n) hlk
        obtain ⟨b, hbb⟩ : ∃ b, (rev8 (V - 1) n)[k] = b := ⟨_, rfl⟩
        rw [hbb] at hg hstp
        have hcell : (bs (notTo k (rev8 (V - 1) n)))[k]? = some (.int .u8 (b.toNat : Int)) := by unfold bs; rw [List.getElem?_map, hg]; rfl
        rw [hcell] at hc0
        have hst9 := (World.ownsRow.stored hown k (.int .u8 ((~~~b).toNat : Int))).1
        rw [hstp] at hst9
        have hfin := Lib.hid (And.intro hst9 (hb.setCell (p := ⟨w.heap.size + 1, k, none⟩) (Nat.le_refl _) (.int .u8 ((~~~b).toNat : Int))))
        clear hst9 hstp hg hcell hbb hown hb hI
        go_wp2
        go_roundw
        case rel => exact ⟨k + 1, by omega, by go_num, by rw [u8_cpl]; exact hfin⟩
        case measure => simp [intOf]; omega
      · obtain rfl : k = n := by omega
        have hfin := hI.out
        rw [notTo_full _ _ (by rw [rev8_length]; exact Nat.le_refl _), hneg'.out] at hfin
        have hfin' := Lib.hid (And.intro (World.ownsRow.mono hfin.1 (Nat.le_succ _)) (hwr.out.trans (hfin.2.mono (Nat.le_succ _))))
        clear hfin hI
        go_wp2
        go_ret
        first
        | exact ⟨⟨_, rfl, hfin'.out.1⟩, hfin'.out.2⟩
        | (obtain rfl : k = d := by assumption
           exact ⟨⟨_, rfl, hfin'.out.1⟩, hfin'.out.2⟩)
end Go.Proofs.Ytaappbnbjpbbcaa.Ref
namespace Go.Proofs.Ytaappbnbjpbbcaa.Ref
open Go.RowKit Go.WideShapes Go.Proofs.Ytaappbnbjpbbcaa.Own Go.Proofs.Ytaappbnbjpbbcaa.Num Go.Proofs.Ytaappbnbjpbbcaa.Nat_ Go.Proofs.Ytaappbnbjpbbcaa.Big
set_option linter.unusedVariables false

/-- a row, its first k bytes new -/
def mixTo (k : Nat) (new old : List UInt8) : List UInt8 := new.take k ++ old.drop k
theorem mixTo_zero (new old : List UInt8) : mixTo 0 new old = old := by simp [mixTo]
theorem mixTo_full (k : Nat) (new old : List UInt8) (h1 : new.length ≤ k) (h2 : old.length ≤ k) : mixTo k new old = new := by
  unfold mixTo
  rw [List.take_of_length_le h1, List.drop_eq_nil_of_le h2, List.append_nil]
theorem mixTo_length (k : Nat) (new old : List UInt8) (h : new.length = old.length) : (mixTo k new old).length = old.length := by simp [mixTo]; omega
theorem mixTo_get (k : Nat) (new old : List UInt8) (h : new.length = old.length) (hk : k < old.length) : (mixTo k new old)[k]? = some old[k] := by
  unfold mixTo
  rw [List.getElem?_append_right (by simp; omega)]
  simp
  rw [show k + (k - min k new.length) = k by omega]
  exact List.getElem?_eq_getElem hk
theorem mixTo_step (k : Nat) (new old : List UInt8) (h : new.length = old.length) (hk : k < old.length) (c : UInt8) (hc : new[k]? = some c) : (bs (mixTo k new old)).set k (.int .u8 (c.toNat : Int)) = bs (mixTo (k + 1) new old) := by
  have hk2 : k < new.length := by omega
  have e : (mixTo k new old).set k c = mixTo (k + 1) new old := by
    unfold mixTo
    rw [List.set_append, if_neg (by simp; omega)]
    have : k - (List.take k new).length = 0 := by simp; omega
    rw [this, List.drop_eq_getElem_cons hk, List.set_cons_zero, List.take_succ_eq_append_getElem hk2, List.append_assoc]
    rw [List.getElem?_eq_getElem hk2] at hc
    rw [Option.some.inj hc]
    rfl
  rw [← e]
  unfold bs
  rw [List.map_set]

/-- what stands in n bytes of two's complement -/
def backZ (T n : Nat) : Int := if T / 256 ^ (n - 1) < 128 then (T : Int) else -((256 ^ n - 1 - T : Nat) : Int) - 1

set_option maxHeartbeats 2000000 in
set_option maxRecDepth 100000 in
theorem back_any (T n g B : Nat) (w : World) (hown : w.ownsRow B 5 1 (.slice (some ⟨g, 0, none⟩) n n) n (bs (rev8 T n))) (hT : T < 256 ^ n) (hn : 0 < n) (hn2 : n ≤ 40000) :
    Calls Try.prog 37 #[.slice (some ⟨g, 0, none⟩) n n] w fun e w' => (∃ v, e = .returned v ∧ IsZ w' w.heap.size v (backZ T n)) ∧ Below w.heap.size w w' := by
  have hg : g < w.heap.size := by
    rcases hown.2 with ⟨h, _⟩ | ⟨g', c', cells, h, _, hh, _⟩
    · cases h
    · cases h; exact (Array.getElem?_eq_some_iff.mp hh).1
  have hrd := rd_drop hown (rev8_length _ _) hg 0 (Nat.zero_le _)
  rw [List.drop_zero] at hrd
  obtain ⟨b0, hb0⟩ : ∃ b, (rev8 T n)[0]? = some b := ⟨_, List.getElem?_eq_getElem (by rw [rev8_length]; exact hn)⟩
  have hb0v : b0.toNat = T / 256 ^ (n - 1) := by
    rw [rev8_get _ _ _ hn] at hb0
    have hlt : T / 256 ^ (n - 1) < 256 := by
      refine Nat.div_lt_of_lt_mul ?_
      rw [← Nat.pow_succ]
      rwa [show (n - 1).succ = n by omega]
    rw [Nat.sub_zero, Nat.mod_eq_of_lt hlt] at hb0
    rw [← Option.some.inj hb0]
    simp; omega
  have hc0 : w.cell? ⟨g, 0, none⟩ = some (.int .u8 (b0.toNat : Int)) := by
    have := World.ownsRow.cellAt hown 0 (by omega)
    rw [this]
    unfold bs
    rw [List.getElem?_map, hb0]
    rfl
  have hnn : ((n : Int) == 0) = false := by simp; omega
  by_cases hs : T / 256 ^ (n - 1) < 128
  · have hz : backZ T n = sg false T := by unfold backZ sg; rw [if_pos hs]; rfl
    have hbb : (b0.toNat : Int) < 128 := by omega
    have hbe := be_rev8 T n hT
    have hof := Lib.hid fun W (hW : Below w.heap.size w W) => of_any false (some ⟨g, 0, none⟩) n (rev8 T n) W (hrd.later hW) (by rw [rev8_length]; omega) (by rw [rev8_length]; exact Nat.le_refl _) (fun h => by cases h)
    rw [hbe, rev8_length] at hof
    rw [hz]
    clear hown hrd hb0 hb0v hs hz hbe hT
    have hb1 : Below w.heap.size w (w.alloc (.cells #[.bool false, .slice none 0 0] 35)) := below_one _ (Nat.le_refl _)
    have hk1 : Box.Holds (w.alloc (.cells #[.bool false, .slice none 0 0] 35)) w.heap.size 35 #[.bool false, .slice none 0 0] := Box.Holds.made _ _ _
    have hof1 := Lib.hid (hof.out _ hb1)
    have hend := Lib.hid fun W v z (hW : Below (w.heap.size + 1) (w.alloc (.cells #[.bool false, .slice none 0 0] 35)) W) (B : Nat) (hB : w.heap.size + 1 ≤ B) (hv : IsZ W B v z) => subEnd w W v z B w.heap.size (hb1.trans (hW.mono (Nat.le_succ _))) (hk1.below hW (Nat.lt_succ_self _)) (Nat.le_refl _) (by omega) hv
    clear hb1 hk1 hof
    go_enter Try.func37, Try.ntmps37
    go_wp2_with fail
    refine hof1.out.mono ?_
    rintro e w2 ⟨⟨v2, rfl, hv2⟩, hb2⟩
    have hv2' : IsZ w2 (w.heap.size + 1) v2 (sg false T) := (IsInt.z hv2).mono (by simp)
    have hb2' : Below (w.heap.size + 1) (w.alloc (.cells #[.bool false, .slice none 0 0] 35)) w2 := hb2.mono (by simp)
    obtain ⟨b4, a4, n4, c4, rfl, k0, k1, f0, f1, hlt4, hfin⟩ := hend.out w2 v2 _ hb2' _ (Nat.le_refl _) hv2'
    have hfin' := Lib.hid hfin
    clear hfin hv2 hv2' hb2 hb2'
    go_wp2
    exact bodyPost_ret (v := .agg #[.bool b4, .slice a4 n4 c4]) (by simp [results, Try.results37, go_sem, k0, k1]) rfl ⟨⟨_, rfl, hfin'.out.1⟩, hfin'.out.2⟩
  · obtain ⟨U, hU⟩ : ∃ U, 256 ^ n - 1 - T = U := ⟨_, rfl⟩
    have hz : backZ T n = -(U : Int) - 1 := by unfold backZ; rw [if_neg hs, hU]
    have hbb : ¬ ((b0.toNat : Int) < 128) := by omega
    have hUlt : U < 256 ^ n := by omega
    have hneg := rev8_not T n hT
    rw [hU] at hneg
    have hof := Lib.hid fun W (hr : Rd W (some ⟨w.heap.size + 1, 0, none⟩) (rev8 U n)) => of_any false (some ⟨w.heap.size + 1, 0, none⟩) n (rev8 U n) W hr (by rw [rev8_length]; omega) (by rw [rev8_length]; exact Nat.le_refl _) (fun h => by cases h)
    rw [be_rev8 U n hUlt, rev8_length] at hof
    have hlenU : (mag U).length ≤ 50000 := by rw [mag_length]; exact Nat.le_trans (len_le (by omega) hUlt) (by omega)
    have hnot := Lib.hid fun W v B (hv : IsZ W B v (U : Int)) => not_any v (U : Int) B W hv (by simpa using hlenU)
    rw [hz]
    obtain ⟨o1, ho1⟩ : ∃ o, (Obj.cells #[.bool false, .slice none 0 0] 35) = o := ⟨_, rfl⟩
    have hb1 : Below w.heap.size w (w.alloc o1) := below_one _ (Nat.le_refl _)
    have hk1 : Box.Holds (w.alloc o1) w.heap.size 35 #[.bool false, .slice none 0 0] := by rw [← ho1]; exact Box.Holds.made _ _ _
    have hsz : (w.alloc o1).heap.size = w.heap.size + 1 := by simp
    have hend := Lib.hid fun W v z (hW : Below (w.heap.size + 1) (w.alloc o1) W) (B : Nat) (hB : w.heap.size + 1 ≤ B) (hv : IsZ W B v z) => subEnd w W v z B w.heap.size (hb1.trans (hW.mono (Nat.le_succ _))) (hk1.below hW (Nat.lt_succ_self _)) (Nat.le_refl _) (by omega) hv
    have hrun := fun W => run_new8 n (by omega) W n rfl
    have hb2 : Below (w.heap.size + 1) (w.alloc o1) ((w.alloc o1).alloc (.cells (bs (rev8 0 n)).toArray 5)) := by
      have := below_one (w := w.alloc o1) (.cells (bs (rev8 0 n)).toArray 5) (Nat.le_refl _)
      rwa [hsz] at this
    have hown2 := own_new8 n (w.heap.size + 1) (by omega) (w.alloc o1) (by simp)
    rw [hsz] at hown2
    have hst := Lib.hid (show ((w.alloc o1).alloc (.cells (bs (rev8 0 n)).toArray 5)).ownsRow (w.heap.size + 1) 5 1 (.slice (some ⟨w.heap.size + 1, 0, none⟩) n n) n (bs (mixTo 0 ((rev8 T n).map fun c => ~~~c) (rev8 0 n))) ∧ Below (w.heap.size + 1) (w.alloc o1) ((w.alloc o1).alloc (.cells (bs (rev8 0 n)).toArray 5)) from ⟨by rw [mixTo_zero]; exact hown2, hb2⟩)
    have hsrc := Lib.hid fun W (hW : Below (w.heap.size + 1) (w.alloc o1) W) => own_below hown (hb1.trans (hW.mono (Nat.le_succ _)))
    have hneg' := Lib.hid hneg
    subst ho1
    clear hown hrd hb0 hb0v hs hz hT hU hUlt hneg hlenU hb1 hb2 hk1 hown2 hsz
    go_enter Try.func37, Try.ntmps37
    go_wp2_with fail
    go_loopw [4] (fun i wr => ∃ k : Nat, k ≤ n ∧ i = .int .i64 k ∧ Hid (wr.ownsRow (w.heap.size + 1) 5 1 (.slice (some ⟨w.heap.size + 1, 0, none⟩) n n) n (bs (mixTo k ((rev8 T n).map fun c => ~~~c) (rev8 0 n))) ∧ Below (w.heap.size + 1) (w.alloc (.cells #[.bool false, .slice none 0 0] 35)) wr)) (fun i _ => n - (intOf i).toNat)
    case atStart => exact ⟨0, by omega, rfl, hst⟩
    case round =>
      clear hst hc0
      obtain ⟨k, hk, rfl, hI⟩ := hrel
      by_cases hlt : k < n
      · obtain ⟨hown, hb⟩ := hI.out
        have hso := hsrc.out wr hb
        have hlk : k < (rev8 T n).length := by rw [rev8_length]; exact hlt
        obtain ⟨b, hbb⟩ : ∃ b, (rev8 T n)[k] = b := ⟨_, rfl⟩
        have hg0 : wr.cell? ⟨g, k, none⟩ = some (.int .u8 (b.toNat : Int)) := by
          rw [World.ownsRow.cellAt hso k (by omega)]
          unfold bs
          rw [List.getElem?_map, List.getElem?_eq_getElem hlk, hbb]
          rfl
        have hc0 := World.ownsRow.cellAt hown k (by omega)
        have hf0 := World.ownsRow.frozenAt hown k
        have hll : ((rev8 T n).map fun c => ~~~c).length = (rev8 0 n).length := by rw [List.length_map, rev8_length, rev8_length]
        have hstp := mixTo_step k ((rev8 T n).map fun c => ~~~c) (rev8 0 n) hll (by rw [rev8_length]; exact hlt) (~~~b) (by rw [List.getElem?_map, List.getElem?_eq_getElem hlk, hbb]; rfl)
        have hmg := mixTo_get k ((rev8 T n).map fun c => ~~~c) (rev8 0 n) hll (by rw [rev8_length]; exact hlt)
        obtain ⟨cv, hcv⟩ : ∃ cv, (bs (mixTo k ((rev8 T n).map fun c => ~~~c) (rev8 0 n)))[k]? = some cv := ⟨_, by unfold bs; rw [List.getElem?_map, hmg]; rfl⟩
        rw [hcv] at hc0
        have hst9 := (World.ownsRow.stored hown k (.int .u8 ((~~~b).toNat : Int))).1
        rw [hstp] at hst9
        have hfin := Lib.hid (And.intro hst9 (hb.setCell (p := ⟨w.heap.size + 1, k, none⟩) (Nat.le_refl _) (.int .u8 ((~~~b).toNat : Int))))
        clear hst9 hstp hmg hcv hbb hown hb hI hso hll
        go_wp2
        go_roundw
        case rel => exact ⟨k + 1, by omega, by go_num, by rw [u8_cpl]; exact hfin⟩
        case measure => simp [intOf]; omega
      · obtain rfl : k = n := by omega
        obtain ⟨hown, hb⟩ := hI.out
        rw [mixTo_full _ _ _ (by rw [List.length_map, rev8_length]; exact Nat.le_refl _) (by rw [rev8_length]; exact Nat.le_refl _), hneg'.out] at hown
        have hrd := rd_drop hown (rev8_length _ _) (by
          rcases hown.2 with ⟨h, _⟩ | ⟨g', c', cells, h, _, hh, _⟩
          · cases h
          · cases h; exact (Array.getElem?_eq_some_iff.mp hh).1) 0 (Nat.zero_le _)
        rw [List.drop_zero] at hrd
        have hof1 := Lib.hid (hof.out wr hrd)
        have hbw := Lib.hid hb
        clear hI hown hb hrd hof hsrc hrun
        go_wp2_with fail
        refine hof1.out.mono ?_
        rintro e w2 ⟨⟨v2, rfl, hv2⟩, hb2⟩
        have hv2' : IsZ w2 wr.heap.size v2 (U : Int) := by
          have := IsInt.z hv2
          exact this
        have hnt := Lib.hid (hnot.out w2 v2 _ hv2')
        have hsw : w.heap.size + 1 ≤ wr.heap.size := by have := hbw.out.size; simpa using this
        have hb2' := Lib.hid (hbw.out.trans (hb2.mono hsw))
        have hs2 := hb2.size
        clear hv2 hv2' hb2 hnot hof1
        go_wp2_with fail
        refine hnt.out.mono ?_
        rintro e w3 ⟨⟨v3, rfl, hv3⟩, hb3⟩
        obtain ⟨b4, a4, n4, c4, rfl, k0, k1, f0, f1, hlt4, hfin⟩ := hend.out w3 v3 _ (hb2'.out.trans (hb3.mono (by omega))) _ (by omega) hv3
        have hfin' := Lib.hid hfin
        clear hfin hv3 hb3
        go_wp2
        exact bodyPost_ret (v := .agg #[.bool b4, .slice a4 n4 c4]) (by simp [results, Try.results37, go_sem, k0, k1]) rfl ⟨⟨_, rfl, hfin'.out.1⟩, hfin'.out.2⟩
end Go.Proofs.Ytaappbnbjpbbcaa.Ref
namespace Go.Proofs.Ytaappbnbjpbbcaa.Ref
open Go.RowKit Go.WideShapes Go.Proofs.Ytaappbnbjpbbcaa.Own Go.Proofs.Ytaappbnbjpbbcaa.Num Go.Proofs.Ytaappbnbjpbbcaa.Nat_ Go.Proofs.Ytaappbnbjpbbcaa.Big
set_option linter.unusedVariables false

theorem u8_xor_bits (a b : UInt8) : bits BinOp.xor IntKind.u8 (a.toNat : Int) (b.toNat : Int) = ((a ^^^ b).toNat : Int) := by
  have h : ∀ c : UInt8, BitVec.ofInt 8 (c.toNat : Int) = c.toBitVec := fun c => by
    rw [BitVec.ofInt_natCast]
    apply BitVec.eq_of_toNat_eq
    rw [BitVec.toNat_ofNat]
    exact Nat.mod_eq_of_lt (UInt8.toNat_lt c)
  show IntKind.u8.wrap ((BitVec.ofInt 8 _ ^^^ BitVec.ofInt 8 _).toNat : Int) = _
  rw [h, h, ← UInt8.toBitVec_xor]
  have hl := UInt8.toNat_lt (a ^^^ b)
  rw [IntKind.wrap_u8]
  show (((a ^^^ b).toNat : Nat) : Int) % 256 = _
  omega
/-- what stands for an integer in n bytes of two's complement -/
def two8 (n : Nat) (z : Int) : Nat := if z < 0 then 256 ^ n - 1 - (z.natAbs - 1) else z.natAbs
theorem plain_any (x : Value) (z : Int) (n B : Nat) (w : World) (hx : IsZ w B x z) (hn : (mag z.natAbs).length < n) (hn2 : n ≤ 40000) :
    Calls Try.prog 36 #[x, .int .i64 n] w fun e w' => (∃ g, e = .returned (.slice (some ⟨g, 0, none⟩) n n) ∧ w'.ownsRow w.heap.size 5 1 (.slice (some ⟨g, 0, none⟩) n n) n (bs (rev8 (two8 n z) n))) ∧ Below w.heap.size w w' := by
  have hp := hx
  obtain ⟨a, c, rfl, hr, hc, ha⟩ := IsInt.shape hx
  unfold two8
  by_cases hz : z < 0
  · have hd : decide (z < 0) = true := by simp [hz]
    rw [if_pos hz]
    rw [hd] at hp ⊢
    have e : z = -((z.natAbs : Nat) : Int) := by omega
    rw [e, Int.natAbs_neg, Int.natAbs_natCast] at hp
    exact plain_neg z.natAbs n B a c w hp (by omega) hn hn2
  · have hd : decide (z < 0) = false := by simp [hz]
    rw [if_neg hz]
    rw [hd]
    exact plain_pos z.natAbs n a c w hr hc hn hn2

def xorZ (z1 z2 : Int) : Int := sg (xorS (decide (z1 < 0)) z1.natAbs (decide (z2 < 0)) z2.natAbs).1 (xorS (decide (z1 < 0)) z1.natAbs (decide (z2 < 0)) z2.natAbs).2
theorem pow8 (n : Nat) : 256 ^ n = 2 ^ (8 * n) := by rw [show (256 : Nat) = 2 ^ 8 from rfl, ← Nat.pow_mul]
theorem two8_lt (n : Nat) (z : Int) (h : z.natAbs < 256 ^ n) : two8 n z < 256 ^ n := by
  unfold two8
  have : 0 < 256 ^ n := Nat.pow_pos (by decide)
  split <;> omega
theorem back_xor (n : Nat) (hn : 0 < n) (z1 z2 : Int) (h1 : z1.natAbs < 256 ^ (n - 1)) (h2 : z2.natAbs < 256 ^ (n - 1)) : backZ (two8 n z1 ^^^ two8 n z2) n = xorZ z1 z2 := by
  have hle : 256 ^ (n - 1) ≤ 2 ^ (8 * n - 1) := by
    rw [pow8]; exact Nat.pow_le_pow_right (by decide) (by omega)
  have ht : ∀ z, two8 n z = two (8 * n) (decide (z < 0)) z.natAbs := fun z => by
    unfold two8 two
    rw [pow8]
    by_cases h : z < 0 <;> simp [h]
  have hx := two_xor (8 * n) (by omega) (decide (z1 < 0)) (decide (z2 < 0)) z1.natAbs z2.natAbs (by omega) (by omega) (fun h => by simp at h; omega) (fun h => by simp at h; omega)
  rw [ht, ht]
  obtain ⟨T, hT⟩ : ∃ T, two (8 * n) (decide (z1 < 0)) z1.natAbs ^^^ two (8 * n) (decide (z2 < 0)) z2.natAbs = T := ⟨_, rfl⟩
  rw [hT] at hx ⊢
  have hTlt : T < 2 ^ (8 * n) := by
    rw [← hT]
    refine Nat.xor_lt_two_pow ?_ ?_
    · rw [← ht, ← pow8]; exact two8_lt n z1 (Nat.lt_of_lt_of_le h1 (Nat.pow_le_pow_right (by decide) (by omega)))
    · rw [← ht, ← pow8]; exact two8_lt n z2 (Nat.lt_of_lt_of_le h2 (Nat.pow_le_pow_right (by decide) (by omega)))
  unfold xorZ
  rw [← hx]
  unfold backZ untwo
  have hp : 0 < 256 ^ (n - 1) := Nat.pow_pos (by decide)
  have e : 2 ^ (8 * n - 1) = 128 * 256 ^ (n - 1) := by
    rw [pow8, show (128 : Nat) = 2 ^ 7 from rfl, ← Nat.pow_add]; congr 1; omega
  have hiff : T / 256 ^ (n - 1) < 128 ↔ T < 2 ^ (8 * n - 1) := by rw [e]; exact Nat.div_lt_iff_lt_mul hp
  by_cases h : T < 2 ^ (8 * n - 1)
  · rw [if_pos (hiff.mpr h), if_pos h]
    rfl
  · rw [if_neg (fun h2 => h (hiff.mp h2)), if_neg h, pow8]
    unfold sg
    simp
    omega

set_option maxHeartbeats 2000000 in
set_option maxRecDepth 100000 in
theorem rxor_any (x y : Value) (z1 z2 : Int) (B1 B2 : Nat) (w : World) (hx : IsZ w B1 x z1) (hy : IsZ w B2 y z2) (hl1 : (mag z1.natAbs).length ≤ 30000) (hl2 : (mag z2.natAbs).length ≤ 30000) :
    Calls Try.prog 17 #[x, y] w fun e w' => (∃ v, e = .returned v ∧ IsZ w' w.heap.size v (xorZ z1 z2)) ∧ Below w.heap.size w w' := by
  obtain ⟨N, hN⟩ : ∃ N, max (mag z1.natAbs).length (mag z2.natAbs).length + 1 = N := ⟨_, rfl⟩
  have hz1 : z1.natAbs < 256 ^ (N - 1) := by
    refine Nat.lt_of_lt_of_le (len_lt (b := 256) (by omega) _) (Nat.pow_le_pow_right (by decide) ?_)
    rw [← mag_length]; omega
  have hz2 : z2.natAbs < 256 ^ (N - 1) := by
    refine Nat.lt_of_lt_of_le (len_lt (b := 256) (by omega) _) (Nat.pow_le_pow_right (by decide) ?_)
    rw [← mag_length]; omega
  have hbx := back_xor N (by omega) z1 z2 hz1 hz2
  have hpN : 256 ^ (N - 1) ≤ 256 ^ N := Nat.pow_le_pow_right (by decide) (by omega)
  have ht1 := two8_lt N z1 (by omega)
  have ht2 := two8_lt N z2 (by omega)
  have hp1 := Lib.hid fun W (hW : Below w.heap.size w W) => plain_any x z1 N B1 W (hx.later hW) (by omega) (by omega)
  have hp2 := Lib.hid fun W (hW : Below w.heap.size w W) => plain_any y z2 N B2 W (hy.later hW) (by omega) (by omega)
  obtain ⟨T1, hT1⟩ : ∃ T, two8 N z1 = T := ⟨_, rfl⟩
  obtain ⟨T2, hT2⟩ : ∃ T, two8 N z2 = T := ⟨_, rfl⟩
  rw [hT1, hT2] at hbx
  rw [hT1] at hp1 ht1
  rw [hT2] at hp2 ht2
  have hT : T1 ^^^ T2 < 256 ^ N := by rw [pow8] at ht1 ht2 ⊢; exact Nat.xor_lt_two_pow ht1 ht2
  have hzip : (List.zipWith (· ^^^ ·) (rev8 T1 N) (rev8 T2 N)) = rev8 (T1 ^^^ T2) N := by
    have h1 := be_zip (rev8 T1 N) (rev8 T2 N) (by rw [rev8_length, rev8_length])
    rw [be_rev8 _ _ ht1, be_rev8 _ _ ht2] at h1
    have h2 := rev8_of (List.zipWith (· ^^^ ·) (rev8 T1 N) (rev8 T2 N)) N (by rw [List.length_zipWith, rev8_length, rev8_length]; omega)
    rw [h1] at h2
    exact h2.symm
  have hback := Lib.hid fun g W B (ho : W.ownsRow B 5 1 (.slice (some ⟨g, 0, none⟩) N N) N (bs (rev8 (T1 ^^^ T2) N))) => back_any (T1 ^^^ T2) N g B W ho hT (by omega) (by omega)
  rw [hbx] at hback
  obtain ⟨Z, hZ⟩ : ∃ Z, xorZ z1 z2 = Z := ⟨_, rfl⟩
  rw [hZ] at hback ⊢
  obtain ⟨a1, c1, rfl, -, -, -⟩ := IsInt.shape hx
  obtain ⟨a2, c2, rfl, -, -, -⟩ := IsInt.shape hy
  obtain ⟨X, hX⟩ : ∃ N, decide (z1 < 0) = N := ⟨_, rfl⟩
  obtain ⟨Y, hY⟩ : ∃ N, decide (z2 < 0) = N := ⟨_, rfl⟩
  obtain ⟨n1, hn1⟩ : ∃ n, (mag z1.natAbs).length = n := ⟨_, rfl⟩
  obtain ⟨n2, hn2⟩ : ∃ n, (mag z2.natAbs).length = n := ⟨_, rfl⟩
  rw [hX, hn1] at hp1
  rw [hY, hn2] at hp2
  rw [hX, hY, hn1, hn2]
  rw [hn1, hn2] at hN
  rw [hn1] at hl1
  rw [hn2] at hl2
  have hmx : max (n1 : Int) (n2 : Int) + 1 = N := by omega
  have hN9 : N ≤ 40000 := by omega
  have hN0 : 0 < N := by omega
  obtain ⟨w1, hw1⟩ : ∃ w1, ((w.alloc (.cells #[.bool X, .slice a1 n1 c1] 35)).alloc (.cells #[.bool Y, .slice a2 n2 c2] 35)).alloc (.cells #[.bool false, .slice none 0 0] 35) = w1 := ⟨_, rfl⟩
  have hs1 : w1.heap.size = w.heap.size + 3 := by rw [← hw1]; simp
  have hb1 : Below w.heap.size w w1 := by rw [← hw1]; exact ((below_one _ (Nat.le_refl _)).alloc (by simp) _).alloc (by simp; omega) _
  have hk1 : Box.Holds w1 w.heap.size 35 #[.bool X, .slice a1 n1 c1] := by
    rw [← hw1]; exact ((Box.Holds.made w 35 #[.bool X, .slice a1 n1 c1]).alloc _).alloc _
  have hk2 : Box.Holds w1 (w.heap.size + 1) 35 #[.bool Y, .slice a2 n2 c2] := by
    have := (Box.Holds.made (w.alloc (.cells #[.bool X, .slice a1 n1 c1] 35)) 35 #[.bool Y, .slice a2 n2 c2]).alloc (.cells #[.bool false, .slice none 0 0] 35)
    rw [show (w.alloc (.cells #[.bool X, .slice a1 n1 c1] 35)).heap.size = w.heap.size + 1 by simp, hw1] at this
    exact this
  have hk3 : Box.Holds w1 (w.heap.size + 2) 35 #[.bool false, .slice none 0 0] := by
    have := Box.Holds.made ((w.alloc (.cells #[.bool X, .slice a1 n1 c1] 35)).alloc (.cells #[.bool Y, .slice a2 n2 c2] 35)) 35 #[.bool false, .slice none 0 0]
    rw [show ((w.alloc (.cells #[.bool X, .slice a1 n1 c1] 35)).alloc (.cells #[.bool Y, .slice a2 n2 c2] 35)).heap.size = w.heap.size + 2 by simp, hw1] at this
    exact this
  have hkeep := Lib.hid fun W (hW : Below w1.heap.size w1 W) => cells4 (hk1.later hW) (hk2.later hW)
  have hbw := Lib.hid fun W (hW : Below w1.heap.size w1 W) => hb1.trans (hW.mono hb1.size)
  have hend := Lib.hid fun W v z (hW : Below w1.heap.size w1 W) (B : Nat) (hB : w1.heap.size ≤ B) (hv : IsZ W B v z) => subEnd w W v z B (w.heap.size + 1 + 1) (hb1.trans (hW.mono hb1.size)) (hk3.later hW) (by omega) (by omega) hv
  have hw1' := Lib.hid hw1
  have hd0 := Lib.hid (show Below w1.heap.size w1 w1.drew from Box.below_drawn (Below.refl w1.heap.size w1) 1)
  have hzip' := Lib.hid hzip
  clear hx hy hZ hw1 hb1 hk1 hk2 hk3 hz1 hz2 hbx hpN ht1 ht2 hT1 hT2 hT hzip hX hY hn1 hn2 hN
  go_enter Try.func17, Try.ntmps17
  go_wp2_with fail
  rw [hw1'.out]
  have j2 := hkeep.out w1 (Below.refl _ _)
  go_region_held3 (fun W => W.cell? ⟨w.heap.size, 0, none⟩ = some (.bool X) ∧ W.cell? ⟨w.heap.size, 1, none⟩ = some (.slice a1 n1 c1) ∧ W.cell? ⟨w.heap.size + 1, 0, none⟩ = some (.bool Y) ∧ W.cell? ⟨w.heap.size + 1, 1, none⟩ = some (.slice a2 n2 c2))
    (first | go_keep | exact j2 | exact j3 | exact j4)
    (first
      | (go_at_call 36; (with_reducible refine (hp1.out w1.drew (hbw.out _ hd0.out)).mono ?_); rintro e w3 ⟨⟨g1, rfl, ho1⟩, hb3⟩; have hb3' := hd0.out.trans (hb3.mono hd0.out.size); have j3 := hkeep.out w3 hb3'; have ho1' := World.ownsRow.mono ho1 hd0.out.size)
      | (go_at_call 36; (with_reducible refine (hp2.out w3 (hbw.out _ hb3')).mono ?_); rintro e w4 ⟨⟨g2, rfl, ho2⟩, hb4⟩; have hb4' := hb3'.trans (hb4.mono hb3'.size); have j4 := hkeep.out w4 hb4'; have ho1'' := own_below ho1' hb4))
  have hg12 : g1 ≠ g2 := by
    have h1 : g1 < w3.heap.size := by
      rcases ho1.2 with ⟨h, _⟩ | ⟨g', c', cells, h, _, hh, _⟩
      · cases h
      · cases h; exact (Array.getElem?_eq_some_iff.mp hh).1
    have h2 : w3.heap.size ≤ g2 := by
      rcases ho2.2 with ⟨h, _⟩ | ⟨g', c', cells, h, hB, hh, _⟩
      · cases h
      · cases h; exact hB
    omega
  have hg1B : w1.heap.size ≤ g1 := by
    rcases ho1'.2 with ⟨h, _⟩ | ⟨g', c', cells, h, hB, hh, _⟩
    · cases h
    · cases h; exact hB
  have hst := Lib.hid (show w4.ownsRow w1.heap.size 5 1 (.slice (some ⟨g1, 0, none⟩) N N) N (bs (mixTo 0 (rev8 (T1 ^^^ T2) N) (rev8 T1 N))) ∧ Below w1.heap.size w1 w4 ∧ (∀ i, i < N → w4.cell? ⟨g2, i, none⟩ = (bs (rev8 T2 N))[i]?) from
    ⟨by rw [mixTo_zero]; exact ho1'', hb4', fun i hi => World.ownsRow.cellAt ho2 i (by omega)⟩)
  clear j2 j3 j4 ho1 ho1' ho1'' ho2 hb3 hb4 hb3' hb4' hp1 hp2
  go_wp2
  go_loopw [8] (fun i wr => ∃ k : Nat, k ≤ N ∧ i = .int .i64 k ∧ Hid (wr.ownsRow w1.heap.size 5 1 (.slice (some ⟨g1, 0, none⟩) N N) N (bs (mixTo k (rev8 (T1 ^^^ T2) N) (rev8 T1 N))) ∧ Below w1.heap.size w1 wr ∧ (∀ i, i < N → wr.cell? ⟨g2, i, none⟩ = (bs (rev8 T2 N))[i]?))) (fun i _ => N - (intOf i).toNat)
  case atStart => exact ⟨0, by omega, rfl, hst⟩
  case round =>
    clear hst
    obtain ⟨k, hk, rfl, hI⟩ := hrel
    by_cases hlt : k < N
    · obtain ⟨hown, hb, hsrc⟩ := hI.out
      have hlk : k < (rev8 T1 N).length := by rw [rev8_length]; exact hlt
      have hlk2 : k < (rev8 T2 N).length := by rw [rev8_length]; exact hlt
      have hll : (rev8 (T1 ^^^ T2) N).length = (rev8 T1 N).length := by rw [rev8_length, rev8_length]
      obtain ⟨b1, hb1e⟩ : ∃ b, (rev8 T1 N)[k] = b := ⟨_, rfl⟩
      obtain ⟨b2, hb2e⟩ : ∃ b, (rev8 T2 N)[k] = b := ⟨_, rfl⟩
      have hmg := mixTo_get k (rev8 (T1 ^^^ T2) N) (rev8 T1 N) hll hlk
      have hc1 : wr.cell? ⟨g1, k, none⟩ = some (.int .u8 (b1.toNat : Int)) := by
        rw [World.ownsRow.cellAt hown k (by omega)]
        unfold bs
        rw [List.getElem?_map, hmg, hb1e]
        rfl
      have hc2 : wr.cell? ⟨g2, k, none⟩ = some (.int .u8 (b2.toNat : Int)) := by
        rw [hsrc k hlt]
        unfold bs
        rw [List.getElem?_map, List.getElem?_eq_getElem hlk2, hb2e]
        rfl
      have hf0 := World.ownsRow.frozenAt hown k
      have hnew : (rev8 (T1 ^^^ T2) N)[k]? = some (b1 ^^^ b2) := by
        rw [← hzip'.out, List.getElem?_zipWith, List.getElem?_eq_getElem hlk, List.getElem?_eq_getElem hlk2, hb1e, hb2e]
      have hstp := mixTo_step k (rev8 (T1 ^^^ T2) N) (rev8 T1 N) hll hlk _ hnew
      have hx8 := u8_xor_bits b1 b2
      obtain ⟨D, hD⟩ : ∃ D, (b1 ^^^ b2).toNat = D := ⟨_, rfl⟩
      rw [hD] at hstp hx8
      have hst9 := (World.ownsRow.stored hown k (.int .u8 (D : Int))).1
      rw [hstp] at hst9
      have hfin := Lib.hid (show ((wr.setCell ⟨g1, k, none⟩ (.int .u8 (D : Int))).drew).ownsRow w1.heap.size 5 1 (.slice (some ⟨g1, 0, none⟩) N N) N (bs (mixTo (k + 1) (rev8 (T1 ^^^ T2) N) (rev8 T1 N))) ∧ Below w1.heap.size w1 ((wr.setCell ⟨g1, k, none⟩ (.int .u8 (D : Int))).drew) ∧ (∀ i, i < N → ((wr.setCell ⟨g1, k, none⟩ (.int .u8 (D : Int))).drew).cell? ⟨g2, i, none⟩ = (bs (rev8 T2 N))[i]?) from
        ⟨hst9, Box.below_drawn (hb.setCell (p := ⟨g1, k, none⟩) hg1B _) 1, fun i hi => (World.cell?_setCell_far wr ⟨g1, k, none⟩ ⟨g2, i, none⟩ (.int .u8 (D : Int)) hg12).trans (hsrc i hi)⟩)
      clear hst9 hstp hnew hmg hll hlk hlk2 hb1e hb2e hown hb hsrc hI hD
      go_wp2_with fail
      go_region
      go_wp2
      go_roundw
      case rel => exact ⟨k + 1, by omega, by go_num, hfin⟩
      case measure => simp [intOf]; omega
    · obtain rfl : k = N := by omega
      obtain ⟨hown, hb, -⟩ := hI.out
      rw [mixTo_full _ _ _ (by rw [rev8_length]; exact Nat.le_refl _) (by rw [rev8_length]; exact Nat.le_refl _)] at hown
      have hbk := Lib.hid (hback.out g1 wr _ hown)
      have hbw2 := Lib.hid hb
      have hsz := hb.size
      clear hI hown hb hback
      go_wp2_with fail
      refine hbk.out.mono ?_
      rintro e w5 ⟨⟨v5, rfl, hv5⟩, hb5⟩
      obtain ⟨b4, a4, n4, c4, rfl, k0, k1, f0, f1, hlt4, hfin⟩ := hend.out w5 v5 _ (hbw2.out.trans (hb5.mono hsz)) _ hsz hv5
      have hfin' := Lib.hid hfin
      clear hfin hv5 hb5
      go_wp2
      exact bodyPost_ret (v := .agg #[.bool b4, .slice a4 n4 c4]) (by simp [results, Try.results17, go_sem, k0, k1]) rfl ⟨⟨_, rfl, hfin'.out.1⟩, hfin'.out.2⟩
end Go.Proofs.Ytaappbnbjpbbcaa.Ref
