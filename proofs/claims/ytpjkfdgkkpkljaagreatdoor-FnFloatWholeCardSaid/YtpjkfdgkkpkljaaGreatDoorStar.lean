/-
  Starlark's integers: small ones and great ones; MakeBigInt.
-/
import Derived.Test.YtpjkfdgkkpkljaaGreatDoorBig
import Derived.Laws.CopyOwn
import Derived.Deep.RegionWith
import Derived.Deep.DrawnRows
import Derived.Deep.DeepCutAuto
namespace Go.Proofs.YtpjkfdgkkpkljaaGreatDoor.Big
open Go.RowKit Go.WideShapes Go.Proofs.YtpjkfdgkkpkljaaGreatDoor.Own Go.Proofs.YtpjkfdgkkpkljaaGreatDoor.Num Go.Proofs.YtpjkfdgkkpkljaaGreatDoor.Ref Go.Proofs.YtpjkfdgkkpkljaaGreatDoor.Nat_
set_option linter.unusedVariables false

theorem below_one {B : Nat} {w : World} (o : Obj) (h : B ≤ w.heap.size) : Below B w (w.alloc o) := (Below.refl _ _).alloc h _

set_option maxRecDepth 100000 in
theorem mksmall_any (z : Int) (w : World) :
    Calls Tryz.prog 63 #[.int .i64 z] w fun e w' => e = .returned (.agg #[.int .i64 z, .pointer none]) ∧ Below w.heap.size w w' := by
  go_enter Tryz.func63, Tryz.ntmps63
  go_wp2
  have k0 : (w.alloc (.cells #[.int .i64 z, .pointer none] 61)).cell? ⟨w.heap.size, 0, none⟩ = some (.int .i64 z) := by rw [World.cell?_alloc_at _ _ _ _ rfl]; rfl
  have k1 : (w.alloc (.cells #[.int .i64 z, .pointer none] 61)).cell? ⟨w.heap.size, 1, none⟩ = some (.pointer none) := by rw [World.cell?_alloc_at _ _ _ _ rfl]; rfl
  exact bodyPost_ret (v := .agg #[.int .i64 z, .pointer none]) (by simp [results, Tryz.results63, go_sem, k0, k1]) rfl ⟨rfl, below_one _ (Nat.le_refl _)⟩

set_option maxRecDepth 100000 in
theorem mkbig_any (p : Addr) (w : World) :
    Calls Tryz.prog 65 #[.pointer (some p)] w fun e w' => e = .returned (.agg #[.int .i64 0, .pointer (some p)]) ∧ Below w.heap.size w w' := by
  go_enter Tryz.func65, Tryz.ntmps65
  go_wp2
  have k0 : (w.alloc (.cells #[.int .i64 0, .pointer (some p)] 61)).cell? ⟨w.heap.size, 0, none⟩ = some (.int .i64 0) := by rw [World.cell?_alloc_at _ _ _ _ rfl]; rfl
  have k1 : (w.alloc (.cells #[.int .i64 0, .pointer (some p)] 61)).cell? ⟨w.heap.size, 1, none⟩ = some (.pointer (some p)) := by rw [World.cell?_alloc_at _ _ _ _ rfl]; rfl
  exact bodyPost_ret (v := .agg #[.int .i64 0, .pointer (some p)]) (by simp [results, Tryz.results65, go_sem, k0, k1]) rfl ⟨rfl, below_one _ (Nat.le_refl _)⟩

set_option maxRecDepth 100000 in
theorem get_any (z : Int) (p : Option Addr) (w : World) :
    Calls Tryz.prog 44 #[.agg #[.int .i64 z, .pointer p]] w fun e w' => e = .returned (.tuple #[.int .i64 z, .pointer p]) ∧ Below w.heap.size w w' := by
  have k0 : (w.alloc (.cells #[.int .i64 z, .pointer p] 61)).cell? ⟨w.heap.size, 0, none⟩ = some (.int .i64 z) := by rw [World.cell?_alloc_at _ _ _ _ rfl]; rfl
  have k1 : (w.alloc (.cells #[.int .i64 z, .pointer p] 61)).cell? ⟨w.heap.size, 1, none⟩ = some (.pointer p) := by rw [World.cell?_alloc_at _ _ _ _ rfl]; rfl
  go_enter Tryz.func44, Tryz.ntmps44
  go_wp2
  go_quiet (fail)
  go_wp2
  exact bodyPost_ret (v := .tuple #[.int .i64 z, .pointer p]) (by simp [results, Tryz.results44, go_sem]) rfl ⟨rfl, Box.below_drawn (below_one _ (Nat.le_refl _)) _⟩

/-- a number that an int32 has room for -/
def isS (z : Int) : Bool := decide (-2147483648 ≤ z) && decide (z ≤ 2147483647)
theorem len2_le {V : Nat} (hm : len W V ≤ 10000) : len 2 V ≤ 640000 := by
  have h1 := len_lt W_two V
  obtain ⟨n, hn⟩ : ∃ n, len W V = n := ⟨_, rfl⟩
  rw [hn] at h1 hm
  rw [W_pow2] at h1
  have := len_le (b := 2) (by omega) h1
  omega

set_option maxRecDepth 100000 in
theorem issmall_any (g : Nat) (neg : Bool) (V : Nat) (w : World) (h : Big w g neg V) (hm : len W V ≤ 10000) :
    Calls Tryz.prog 62 #[.pointer (some ⟨g, 0, none⟩)] w fun e w' => e = .returned (.bool (isS (sg neg V))) ∧ w' = w := by
  have hbl := Lib.hid (blen_any g neg V w h hm)
  have hi := Lib.hid (int64_any g neg V w h hm)
  have b1 := bits_small V
  have b2 := bits_32 V
  have b3 := len2_le hm
  obtain ⟨L, hL⟩ : ∃ L, len 2 V = L := ⟨_, rfl⟩
  rw [hL] at hbl b1 b2 b3
  rcases Nat.lt_trichotomy L 32 with hl | hl | hl
  · have hs : isS (sg neg V) = true := by unfold isS sg; cases neg <;> simp <;> omega
    rw [hs]
    have d1 : decide ((L : Int) < 32) = true := by simp; omega
    have d2 : decide (L < 32) = true := by simp; omega
    clear hL hs hi b1 b2 h
    go_enter Tryz.func62, Tryz.ntmps62
    go_wp2_with fail
    refine hbl.out.mono ?_
    rintro e w1 ⟨rfl, rfl⟩
    go_wp2
    go_ret
    exact ⟨rfl, rfl⟩
  · subst hl
    have hz : wrap64 (sg neg V) = sg neg V := by unfold wrap64 sg; cases neg <;> simp <;> omega
    rw [hz] at hi
    have hs : isS (sg neg V) = (sg neg V == -2147483648) := by
      unfold isS sg
      cases neg
      · have e1 : decide ((V : Int) ≤ 2147483647) = false := by simp; omega
        have e2 : ((V : Int) == -2147483648) = false := by simp
        simp [e1, e2]
      · by_cases e : V = 2147483648
        · subst e; rfl
        · have e1 : decide (-2147483648 ≤ -(V : Int)) = false := by simp; omega
          have e2 : (-(V : Int) == -2147483648) = false := by simp; omega
          simp [e2]
          omega
    rw [hs]
    obtain ⟨Z, hZ⟩ : ∃ Z, sg neg V = Z := ⟨_, rfl⟩
    rw [hZ] at hi ⊢
    obtain ⟨b, hb⟩ : ∃ b, (Z == -2147483648) = b := ⟨_, rfl⟩
    rw [hb]
    clear hL hs hz b1 b2 hZ h
    go_enter Tryz.func62, Tryz.ntmps62
    go_wp2_with fail
    refine hbl.out.mono ?_
    rintro e w1 ⟨rfl, rfl⟩
    go_wp2_with fail
    refine hi.out.mono ?_
    rintro e w1 ⟨rfl, rfl⟩
    cases b
    · go_wp2
      go_ret
      exact ⟨rfl, rfl⟩
    · go_wp2
      go_ret
      exact ⟨rfl, rfl⟩
  · have hs : isS (sg neg V) = false := by
      unfold isS sg
      cases neg
      · have e1 : decide ((V : Int) ≤ 2147483647) = false := by simp; omega
        simp [e1]
      · simp
        omega
    rw [hs]
    have d1 : decide ((L : Int) < 32) = false := by simp; omega
    have d2 : decide (L < 32) = false := by simp; omega
    have d3 : ((L : Int) == 32) = false := by simp; omega
    clear hL hs hi b1 b2 h
    go_enter Tryz.func62, Tryz.ntmps62
    go_wp2_with fail
    refine hbl.out.mono ?_
    rintro e w1 ⟨rfl, rfl⟩
    go_wp2
    go_ret
    exact ⟨rfl, rfl⟩

theorem word_size : (Tryz.prog.info? 111).map (·.size) = some 1 := by kernel_rfl
theorem ws_one (l : List Nat) : ∀ v ∈ ws l, v.oneCell' = true := by
  intro v hv
  simp [ws] at hv
  obtain ⟨d, _, rfl⟩ := hv
  rfl
set_option maxRecDepth 100000 in
theorem nset_any (v : Value) (V B : Nat) (w : World) (h : IsNat w B v V) (hm : len W V ≤ 10000) :
    Calls Tryz.prog 80 #[.slice none 0 0, v] w fun e w' => (∃ u, e = .returned u ∧ IsNat w' w.heap.size u V) ∧ Below w.heap.size w w' := by
  obtain ⟨a, c, rfl, hc, hr⟩ := h.slice
  have hmk := Lib.hid (make_any (len W V) hm w)
  obtain ⟨n, hn⟩ : ∃ n, len W V = n := ⟨_, rfl⟩
  rw [hn] at hc hm hmk ⊢
  have hn' := Lib.hid hn
  have hr' := Lib.hid hr
  clear hr h hn
  go_enter Tryz.func80, Tryz.ntmps80
  go_wp2_with fail
  refine hmk.out.mono ?_
  rintro e w1 ⟨⟨z, rfl, ho⟩, hb1⟩
  have hr1 := Lib.hid (hr'.out.later hb1)
  have ho' := ho
  unfold OwnW at ho'
  rw [dig_length] at ho'
  rcases ho'.2 with ⟨rfl, h0⟩ | ⟨g, cap, cur, rfl, hB, hg, hcc, hmx, hs, ht⟩
  · subst h0
    have hV0 : V = 0 := by have := len_pos W_two (v := V); have := hn'.out; omega
    subst hV0
    clear ho ho' hmk
    go_wp2_with (refine wpList_copy_nothing rfl (.tmp 9) (.tmp 10) 83 83 rfl 111 Tryz.underlying83 word_size none a 0 0 0 c rfl rfl rfl ?_)
    go_wp2
    go_ret
    exact ⟨⟨_, rfl, World.ownsRow_nil _ _ _ _⟩, hb1⟩
  · have hcur : n ≤ cur.toList.length := by simp; omega
    have hln : (ws (words V)).length = n := by rw [ws_length, words_length]; exact hn'.out
    have hsrc : 0 < n → ∃ ad, a = some ad ∧ ∀ j v, (ws (words V))[j]? = some v → w1.cell? (ad.add j) = some v := fun hp => by
      obtain ⟨g2, rfl, _⟩ := hr1.out.at_ (j := 0) (by rw [hn'.out]; exact hp)
      refine ⟨_, rfl, fun j v hv => ?_⟩
      have hj : j < n := by
        rcases Nat.lt_or_ge j n with h1 | h1
        · exact h1
        · rw [List.getElem?_eq_none (by omega)] at hv; cases hv
      obtain ⟨g3, e3, hc3⟩ := hr1.out.at_ (j := j) (by rw [hn'.out]; exact hj)
      simp only [Option.some.injEq, Addr.mk.injEq, and_true] at e3
      subst e3
      rw [show ((⟨g2, 0, none⟩ : Addr).add j) = ⟨g2, j, none⟩ by unfold Addr.add; split <;> simp_all, hc3]
      unfold ws words at hv
      rw [List.getElem?_map, dig_get _ _ _ _ (by rw [hn'.out]; exact hj)] at hv
      exact hv
    obtain ⟨L, hL⟩ : ∃ L, ws (words V) = L := ⟨_, rfl⟩
    have hL1 : ∀ v ∈ L, v.oneCell' = true := by rw [← hL]; exact ws_one _
    have hL' := Lib.hid hL
    rw [hL] at hln hsrc
    have hfin : ∀ w' : World, Hid (w'.heap[g]? = some (.cells (splice cur.toList 0 L).toArray 111 (0, 0))) → IsNat w' w.heap.size (.slice (some ⟨g, 0, none⟩) n cap) V := fun w' hg' => by
      have hlw : (words V).length = n := by rw [words_length]; exact hn'.out
      unfold IsNat OwnW
      rw [hlw]
      refine ⟨by rw [hL'.out]; simpa using hln, .inr ⟨g, cap, (splice cur.toList 0 L).toArray, rfl, hB, hg'.out, hcc, hmx, ?_, ?_⟩⟩
      · simp [length_splice cur.toList 0 L (by omega)]; omega
      · rw [hL'.out]
        simp [splice, hln]
    have hfin' := Lib.hid hfin
    have hsrc' := Lib.hid hsrc
    have hL1' := Lib.hid hL1
    have hg0 : w1.heap[g]? = some (.cells cur.toList.toArray 111 (0, 0)) := by simpa using hg
    clear hfin hL hsrc hL1 ho ho' ht hg hmk
    go_wp2_with (refine wpList_copy_splice rfl (.tmp 9) (.tmp 10) 83 83 rfl 111 Tryz.underlying83 word_size (some ⟨g, 0, none⟩) a n cap n c rfl rfl g 0 cur.toList 111 hg0 L (by rw [hln]; simp) (fun hp => ⟨rfl, hsrc'.out (by omega)⟩) (by omega) hL1'.out w.heap.size w hb1 hB ?_; intro w2 hg2 hb2)
    go_wp2
    go_ret
    exact ⟨⟨_, rfl, hfin'.out _ hg2⟩, hb2⟩

set_option maxRecDepth 100000 in
theorem bset_any (g2 g : Nat) (neg : Bool) (V : Nat) (w : World) (hg2 : Box.Holds w g2 85 #[.bool false, .slice none 0 0]) (h : Big w g neg V) (hgg : g < g2) (hm : len W V ≤ 10000) :
    Calls Tryz.prog 61 #[.pointer (some ⟨g2, 0, none⟩), .pointer (some ⟨g, 0, none⟩)] w fun e w' => (e = .returned (.pointer (some ⟨g2, 0, none⟩)) ∧ Big w' g2 neg V) ∧ Below g2 w w' := by
  have hlt := h.lt
  have hlt2 := hg2.lt
  obtain ⟨v, hk, ho, hp⟩ := h
  have hns := Lib.hid fun q => nset_any v V _ (w.drewN q) ho hm
  have hq := neq_other (a := ⟨g2, 0, none⟩) (b := ⟨g, 0, none⟩) w (by simp only [ne_eq, Addr.mk.injEq, and_true]; omega) hg2 hk
  have k0 := hk.cell 0
  have k1 := hk.cell 1
  have j0 := hg2.cell 0
  have j1 := hg2.cell 1
  simp at k0 k1 j0 j1
  have hk' := Lib.hid hk
  have hg2' := Lib.hid hg2
  have hp' := Lib.hid hp
  have hne : ¬ g = g2 := by omega
  clear hk ho hg2 hp
  go_enter Tryz.func61, Tryz.ntmps61
  go_wp2_with fail
  have hkey : ∀ q w1, Below (w.drewN q).heap.size (w.drewN q) w1 → w1.cell? ⟨g2, 1, none⟩ = some (.slice none 0 0) ∧ w1.cell? ⟨g2, 0, none⟩ = some (.bool false) ∧ w1.frozen? ⟨g2, 1, none⟩ = false ∧ w1.frozen? ⟨g2, 0, none⟩ = false ∧ w1.cell? ⟨g, 0, none⟩ = some (.bool neg) ∧ g2 < w1.heap.size := fun q w1 hb => by
    have hh := (hg2'.out.drawn q).later hb
    have hj := (hk'.out.drawn q).later hb
    have e0 := hh.cell 0
    have e1 := hh.cell 1
    have e2 := hj.cell 0
    simp at e0 e1 e2
    exact ⟨e1, e0, hh.free 1, hh.free 0, e2, hh.lt⟩
  have hkey' := Lib.hid hkey
  have hend : ∀ q w1 a1 c1, Below (w.drewN q).heap.size (w.drewN q) w1 → IsNat w1 (w.drewN q).heap.size (.slice a1 (len W V) c1) V → Big ((w1.setCell ⟨g2, 1, none⟩ (.slice a1 (len W V) c1)).setCell ⟨g2, 0, none⟩ (.bool neg)) g2 neg V ∧ Below g2 w ((w1.setCell ⟨g2, 1, none⟩ (.slice a1 (len W V) c1)).setCell ⟨g2, 0, none⟩ (.bool neg)) := fun q w1 a1 c1 hb hu => by
    have hh := (hg2'.out.drawn q).later hb
    refine ⟨⟨_, ?_, World.ownsRow.mono (Box.own_above hu (((Box.Above.refl _ _).setCell (show g2 < (w.drewN q).heap.size from hlt2) _).setCell (show g2 < (w.drewN q).heap.size from hlt2) _)) (show g2 + 1 ≤ w.heap.size by omega), hp'.out⟩, ?_⟩
    · have := (hh.put 1 (.slice a1 (len W V) c1)).put 0 (.bool neg)
      simpa using this
    · have h0 : Below w.heap.size w w1 := (Box.below_drawn (Below.refl _ _) q).trans hb
      exact ((h0.mono (by omega)).setCell (p := ⟨g2, 1, none⟩) (Nat.le_refl g2) _).setCell (p := ⟨g2, 0, none⟩) (Nat.le_refl g2) _
  have hend' := Lib.hid hend
  clear hkey hend
  go_region_with (go_at_call 80; refine (hns.out _).mono ?_; rintro e w1 ⟨⟨u, rfl, hu⟩, hb⟩; obtain ⟨a1, c1, hv, -, -⟩ := hu.slice; subst hv; obtain ⟨e1, e0, f1, f0, e2, hl1⟩ := hkey'.out _ _ hb)
  all_goals
    have hfin := Lib.hid (hend'.out _ _ _ _ hb hu)
    clear hu
    go_wp2
    go_ret
    exact ⟨⟨rfl, hfin.out.1⟩, hfin.out.2⟩
end Go.Proofs.YtpjkfdgkkpkljaaGreatDoor.Big
