/-
  Starlark's integers: Int64, and a value's integer.
-/
import Derived.Test.YtaappbnbjpbbcaaBigSet
namespace Go.Proofs.Ytaappbnbjpbbcaa.Big
open Go.RowKit Go.WideShapes Go.Proofs.Ytaappbnbjpbbcaa.Own Go.Proofs.Ytaappbnbjpbbcaa.Num Go.Proofs.Ytaappbnbjpbbcaa.Ref Go.Proofs.Ytaappbnbjpbbcaa.Nat_
set_option linter.unusedVariables false

def acc64 (z : Int) : Int := if 9223372036854775807 < z then -1 else if z < -9223372036854775808 then 1 else 0
def val64 (z : Int) : Int := if 9223372036854775807 < z then 9223372036854775807 else if z < -9223372036854775808 then -9223372036854775808 else z

theorem wrap64_id {z : Int} (h : -9223372036854775808 ≤ z) (h2 : z ≤ 9223372036854775807) : wrap64 z = z := by unfold wrap64; omega

set_option maxHeartbeats 1000000 in
set_option maxRecDepth 100000 in
theorem bti_any (g : Nat) (neg : Bool) (V : Nat) (w : World) (h : Big w g neg V) (hm : len W V ≤ 10000) (hz : sg neg V ≠ 0) :
    Calls Try.prog 52 #[.pointer (some ⟨g, 0, none⟩)] w fun e w' => e = .returned (.tuple #[.int .i64 (val64 (sg neg V)), .int .i8 (acc64 (sg neg V))]) ∧ Below w.heap.size w w' := by
  have hlt := h.lt
  have hsgn := Lib.hid (bsign_any g neg V w h hm)
  have hmax := Lib.hid (maxi_any w)
  have hmin := Lib.hid (mini_any w)
  have lmax : len W 9223372036854775807 ≤ 10000 := Nat.le_trans (len_one (by rw [W_eq]; omega)) (by omega)
  have lmin : len W 9223372036854775808 ≤ 10000 := Nat.le_trans (len_one (by rw [W_eq]; omega)) (by omega)
  have hcmp1 : Hid (∀ w1, Below w.heap.size w w1 → Big w1 w.heap.size false 9223372036854775807 → _) := Lib.hid fun w1 hb hm2 => bcmp_any g w.heap.size neg false V 9223372036854775807 w1 (h.later hb) hm2 (by omega) hm lmax
  have hcmp2 : Hid (∀ w1, Below w.heap.size w w1 → Big w1 w.heap.size true 9223372036854775808 → _) := Lib.hid fun w1 hb hm2 => bcmp_any g w.heap.size neg true V 9223372036854775808 w1 (h.later hb) hm2 (by omega) hm lmin
  have hi := Lib.hid fun w1 (hb : Below w.heap.size w w1) => int64_any g neg V w1 (h.later hb) hm
  obtain ⟨Z, hZ⟩ : ∃ Z, sg neg V = Z := ⟨_, rfl⟩
  rw [hZ] at hz hsgn hcmp1 hcmp2 hi ⊢
  rw [show sg false 9223372036854775807 = 9223372036854775807 from rfl] at hcmp1
  rw [show sg true 9223372036854775808 = -9223372036854775808 from rfl] at hcmp2
  clear hZ h lmax lmin
  rcases Int.lt_trichotomy Z 0 with h0 | h0 | h0
  · have hs : sgn Z = -1 := by unfold sgn; rw [if_pos h0]
    rw [hs] at hsgn
    by_cases hlow : Z < -9223372036854775808
    · have e1 : val64 Z = -9223372036854775808 := by unfold val64; rw [if_neg (by omega), if_pos hlow]
      have e2 : acc64 Z = 1 := by unfold acc64; rw [if_neg (by omega), if_pos hlow]
      have e3 : cmpZ Z (-9223372036854775808) = -1 := by unfold cmpZ; rw [if_pos hlow]
      rw [e3] at hcmp2
      rw [e1, e2]
      clear hs e1 e2 e3 hlow h0 hz hmax hcmp1 hi
      go_enter Try.func52, Try.ntmps52
      go_wp2_with fail
      refine hsgn.out.mono ?_
      rintro e w1 ⟨rfl, rfl⟩
      go_wp2_with fail
      refine hmin.out.mono ?_
      rintro e w2 ⟨⟨rfl, hbig⟩, hb⟩
      go_wp2_with fail
      refine (hcmp2.out _ hb hbig).mono ?_
      rintro e w3 ⟨rfl, hb3⟩
      go_wp2
      exact bodyPost_ret (v := .tuple #[.int .i64 (-9223372036854775808), .int .i8 1]) (by simp [results, Try.results52, go_sem]) rfl ⟨rfl, hb.trans (hb3.mono hb.size)⟩
    · have e1 : val64 Z = Z := by unfold val64; rw [if_neg (by omega), if_neg hlow]
      have e2 : acc64 Z = 0 := by unfold acc64; rw [if_neg (by omega), if_neg hlow]
      have e3 : cmpZ Z (-9223372036854775808) = if Z = -9223372036854775808 then 0 else 1 := by unfold cmpZ; rw [if_neg hlow]; split <;> split <;> omega
      have hw : wrap64 Z = Z := wrap64_id (by omega) (by omega)
      rw [e3] at hcmp2
      rw [hw] at hi
      rw [e1, e2]
      obtain ⟨S, hS⟩ : ∃ S : Int, (if Z = -9223372036854775808 then 0 else 1 : Int) = S := ⟨_, rfl⟩
      have hS0 : 0 ≤ S := by rw [← hS]; split <;> omega
      have hS1 : S ≤ 1 := by rw [← hS]; split <;> omega
      rw [hS] at hcmp2
      clear hs e1 e2 e3 hlow h0 hz hmax hcmp1 hw hS
      go_enter Try.func52, Try.ntmps52
      go_wp2_with fail
      refine hsgn.out.mono ?_
      rintro e w1 ⟨rfl, rfl⟩
      go_wp2_with fail
      refine hmin.out.mono ?_
      rintro e w2 ⟨⟨rfl, hbig⟩, hb⟩
      go_wp2_with fail
      refine (hcmp2.out _ hb hbig).mono ?_
      rintro e w3 ⟨rfl, hb3⟩
      have hb4 := hb.trans (hb3.mono hb.size)
      go_wp2_with fail
      refine (hi.out _ hb4).mono ?_
      rintro e w5 ⟨rfl, rfl⟩
      go_wp2
      exact bodyPost_ret (v := .tuple #[.int .i64 Z, .int .i8 0]) (by simp [results, Try.results52, go_sem]) rfl ⟨rfl, hb4⟩
  · exact absurd h0 hz
  · have hs : sgn Z = 1 := by unfold sgn; rw [if_neg (by omega), if_neg (by omega)]
    rw [hs] at hsgn
    by_cases hlow : 9223372036854775807 < Z
    · have e1 : val64 Z = 9223372036854775807 := by unfold val64; rw [if_pos hlow]
      have e2 : acc64 Z = -1 := by unfold acc64; rw [if_pos hlow]
      have e3 : cmpZ Z 9223372036854775807 = 1 := by unfold cmpZ; rw [if_neg (by omega), if_pos hlow]
      rw [e3] at hcmp1
      rw [e1, e2]
      clear hs e1 e2 e3 hlow h0 hz hmin hcmp2 hi
      go_enter Try.func52, Try.ntmps52
      go_wp2_with fail
      refine hsgn.out.mono ?_
      rintro e w1 ⟨rfl, rfl⟩
      go_wp2_with fail
      refine hmax.out.mono ?_
      rintro e w2 ⟨⟨rfl, hbig⟩, hb⟩
      go_wp2_with fail
      refine (hcmp1.out _ hb hbig).mono ?_
      rintro e w3 ⟨rfl, hb3⟩
      go_wp2
      exact bodyPost_ret (v := .tuple #[.int .i64 9223372036854775807, .int .i8 (-1)]) (by simp [results, Try.results52, go_sem]) rfl ⟨rfl, hb.trans (hb3.mono hb.size)⟩
    · have e1 : val64 Z = Z := by unfold val64; rw [if_neg hlow, if_neg (by omega)]
      have e2 : acc64 Z = 0 := by unfold acc64; rw [if_neg hlow, if_neg (by omega)]
      have e3 : cmpZ Z 9223372036854775807 = if Z = 9223372036854775807 then 0 else -1 := by
        unfold cmpZ
        by_cases hq : Z = 9223372036854775807
        · rw [if_pos hq, if_neg (by omega), if_neg (by omega)]
        · rw [if_neg hq, if_pos (by omega)]
      have hw : wrap64 Z = Z := wrap64_id (by omega) (by omega)
      rw [e3] at hcmp1
      rw [hw] at hi
      rw [e1, e2]
      obtain ⟨S, hS⟩ : ∃ S : Int, (if Z = 9223372036854775807 then 0 else -1 : Int) = S := ⟨_, rfl⟩
      have hS0 : S ≤ 0 := by rw [← hS]; split <;> omega
      have hS1 : -1 ≤ S := by rw [← hS]; split <;> omega
      rw [hS] at hcmp1
      clear hs e1 e2 e3 hlow h0 hz hmin hcmp2 hw hS
      go_enter Try.func52, Try.ntmps52
      go_wp2_with fail
      refine hsgn.out.mono ?_
      rintro e w1 ⟨rfl, rfl⟩
      go_wp2_with fail
      refine hmax.out.mono ?_
      rintro e w2 ⟨⟨rfl, hbig⟩, hb⟩
      go_wp2_with fail
      refine (hcmp1.out _ hb hbig).mono ?_
      rintro e w3 ⟨rfl, hb3⟩
      have hb4 := hb.trans (hb3.mono hb.size)
      go_wp2_with fail
      refine (hi.out _ hb4).mono ?_
      rintro e w5 ⟨rfl, rfl⟩
      go_wp2
      exact bodyPost_ret (v := .tuple #[.int .i64 Z, .int .i8 0]) (by simp [results, Try.results52, go_sem]) rfl ⟨rfl, hb4⟩

set_option maxHeartbeats 1000000 in
set_option maxRecDepth 100000 in
theorem sint64_any (v : Value) (z : Int) (B : Nat) (w : World) (h : SInt w B v z) :
    Calls Try.prog 32 #[v] w fun e w' => e = .returned (.tuple #[.int .i64 (get64 z), .bool (fits64 z)]) ∧ Below w.heap.size w w' := by
  rcases h with ⟨rfl, hs⟩ | ⟨g, neg, V, rfl, hg, hbig, hz, hs, hm⟩
  · have hbd := isS_bounds hs
    have hf := fits64_yes (z := z) (by omega) (by omega)
    have hg : get64 z = z := by unfold get64; rw [hf]; rfl
    rw [hg, hf]
    have hget := Lib.hid fun w => get_any z none w
    have k0 : (w.alloc (.cells #[.int .i64 z, .pointer none] 73)).cell? ⟨w.heap.size, 0, none⟩ = some (.int .i64 z) := by rw [World.cell?_alloc_at _ _ _ _ rfl]; rfl
    have k1 : (w.alloc (.cells #[.int .i64 z, .pointer none] 73)).cell? ⟨w.heap.size, 1, none⟩ = some (.pointer none) := by rw [World.cell?_alloc_at _ _ _ _ rfl]; rfl
    clear hs hf hg
    go_enter Try.func32, Try.ntmps32
    go_wp2_with fail
    refine (hget.out _).mono ?_
    rintro e w1 ⟨rfl, hb1⟩
    go_wp2
    exact bodyPost_ret (v := .tuple #[.int .i64 z, .bool true]) (by simp [results, Try.results32, go_sem]) rfl ⟨rfl, (below_one _ (Nat.le_refl _)).trans (hb1.mono (by simp))⟩
  · have hz0 : sg neg V ≠ 0 := by
      intro e
      rw [hz, e] at hs
      simp [isS] at hs
    have hbti := Lib.hid fun w1 (hb : Below w.heap.size w w1) => bti_any g neg V w1 (hbig.later hb) hm hz0
    rw [← hz] at hbti
    have hget := Lib.hid fun w => get_any 0 (some ⟨g, 0, none⟩) w
    have k0 : (w.alloc (.cells #[.int .i64 0, .pointer (some ⟨g, 0, none⟩)] 73)).cell? ⟨w.heap.size, 0, none⟩ = some (.int .i64 0) := by rw [World.cell?_alloc_at _ _ _ _ rfl]; rfl
    have k1 : (w.alloc (.cells #[.int .i64 0, .pointer (some ⟨g, 0, none⟩)] 73)).cell? ⟨w.heap.size, 1, none⟩ = some (.pointer (some ⟨g, 0, none⟩)) := by rw [World.cell?_alloc_at _ _ _ _ rfl]; rfl
    clear hz hs hz0 hbig
    by_cases hf : -9223372036854775808 ≤ z ∧ z ≤ 9223372036854775807
    · have e1 : val64 z = z := by unfold val64; rw [if_neg (by omega), if_neg (by omega)]
      have e2 : acc64 z = 0 := by unfold acc64; rw [if_neg (by omega), if_neg (by omega)]
      have e3 := fits64_yes hf.1 hf.2
      have e4 : get64 z = z := by unfold get64; rw [e3]; rfl
      rw [e1, e2] at hbti
      rw [e4, e3]
      clear e1 e2 e3 e4 hf
      go_enter Try.func32, Try.ntmps32
      go_wp2_with fail
      refine (hget.out _).mono ?_
      rintro e w1 ⟨rfl, hb1⟩
      have hb2 : Below w.heap.size w w1 := (below_one _ (Nat.le_refl _)).trans (hb1.mono (by simp))
      go_wp2_with fail
      refine (hbti.out _ hb2).mono ?_
      rintro e w3 ⟨rfl, hb3⟩
      go_wp2
      exact bodyPost_ret (v := .tuple #[.int .i64 z, .bool true]) (by simp [results, Try.results32, go_sem]) rfl ⟨rfl, hb2.trans (hb3.mono hb2.size)⟩
    · have e3 := fits64_no (z := z) (by omega)
      have e4 : get64 z = 0 := by unfold get64; rw [e3]; rfl
      obtain ⟨c, hc⟩ : ∃ c, val64 z = c := ⟨_, rfl⟩
      obtain ⟨d, hd⟩ : ∃ d, acc64 z = d := ⟨_, rfl⟩
      have hd0 : (d != 0) = true := by
        rw [← hd]
        unfold acc64
        split
        · rfl
        · rw [if_pos (by omega)]; rfl
      rw [hc, hd] at hbti
      rw [e4, e3]
      clear hc hd e3 e4 hf
      go_enter Try.func32, Try.ntmps32
      go_wp2_with fail
      refine (hget.out _).mono ?_
      rintro e w1 ⟨rfl, hb1⟩
      have hb2 : Below w.heap.size w w1 := (below_one _ (Nat.le_refl _)).trans (hb1.mono (by simp))
      go_wp2_with fail
      refine (hbti.out _ hb2).mono ?_
      rintro e w3 ⟨rfl, hb3⟩
      go_wp2
      exact bodyPost_ret (v := .tuple #[.int .i64 0, .bool false]) (by simp [results, Try.results32, go_sem]) rfl ⟨rfl, hb2.trans (hb3.mono hb2.size)⟩
end Go.Proofs.Ytaappbnbjpbbcaa.Big
