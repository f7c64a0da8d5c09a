/-
  The law on shifts: what was shifted to the left and back is itself.
-/
import Derived.Test.YtaappbnbjpbbcaaRowIn
import Derived.Test.YtaappbnbjpbbcaaImplShift
import Derived.Test.YtaappbnbjpbbcaaIsInt
import Derived.Deep.RegionHeld3
namespace Go.Proofs.Ytaappbnbjpbbcaa.fnIntThere
open Go.RowKit Go.WideShapes Go.Proofs.Ytaappbnbjpbbcaa.Own Go.Proofs.Ytaappbnbjpbbcaa.Num Go.Proofs.Ytaappbnbjpbbcaa.Ref Go.Proofs.Ytaappbnbjpbbcaa.Big
set_option linter.unusedVariables false

/-- what the walk is told of a slice of integers that came in: it is nil; or it leads to a row of numbers, each fitting its kind -/
def IsRow (k : IntKind) (w : World) (a : Option Addr) (len cap : Nat) (zs : List Int) : Prop :=
  (a = none ∧ len = 0 ∧ cap = 0 ∧ zs = []) ∨
  ∃ x, a = some x ∧ len ≤ cap ∧ cap ≤ maxLen ∧ zs.length = cap ∧ (∀ i, i < zs.length → w.cell? (x.add i) = some (.int k (zs.getD i 0))) ∧ ∀ n ∈ zs, (Lit.int k n).wf = true

theorem IsRow.rd {w : World} {a : Option Addr} {len cap : Nat} {zs : List Int} (h : IsRow .u8 w a len cap zs) : ∃ l, l.length = len ∧ Rd w a l ∧ len ≤ cap ∧ (a = none → cap = 0) ∧ cap ≤ maxLen := by
  rcases h with ⟨rfl, rfl, rfl, rfl⟩ | ⟨x, rfl, h1, h2, h3, h4, h5⟩
  · exact ⟨[], rfl, .inl ⟨rfl, rfl⟩, Nat.le_refl _, fun _ => rfl, Nat.zero_le _⟩
  · obtain ⟨l, e, hr⟩ := rd_of_row h1 h3 h4 h5
    exact ⟨l, e, hr, h1, (fun h => by cases h), h2⟩

theorem RdS.of_own {w : World} {B : Nat} {v : Value} {l : List UInt8} (h : Owns w B v l) : RdS w B v l := by
  obtain ⟨a, c, rfl, hr, hc⟩ := Rd.of_own h
  refine ⟨a, c, rfl, hr, hc, fun h0 => ?_, fun x hx => ?_⟩
  · rcases h.2 with ⟨e, _⟩ | ⟨g, c', cur, e, _⟩
    · simp only [Value.slice.injEq] at e; exact e.2.2
    · subst h0; cases e
  · rcases h.2 with ⟨e, _⟩ | ⟨g, c', cur, e, hB, _⟩
    · subst hx; cases e
    · subst hx; cases e; exact hB
theorem cells8 {W : World} {b : Nat} {ti tv : TypeId} {x0 x1 y0 y1 y2 y3 y4 y5 : Value} (h1 : Box.Holds W b ti #[x0, x1]) (h2 : Box.Holds W (b + 1) tv #[y0, y1, y2, y3, y4, y5]) :
    W.cell? ⟨b, 0, none⟩ = some x0 ∧ W.cell? ⟨b, 1, none⟩ = some x1 ∧ W.cell? ⟨b + 1, 0, none⟩ = some y0 ∧ W.cell? ⟨b + 1, 1, none⟩ = some y1 ∧ W.cell? ⟨b + 1, 2, none⟩ = some y2 ∧ W.cell? ⟨b + 1, 3, none⟩ = some y3 ∧ W.cell? ⟨b + 1, 4, none⟩ = some y4 ∧ W.cell? ⟨b + 1, 5, none⟩ = some y5 := by
  have k0 := h1.cell 0
  have k1 := h1.cell 1
  have j0 := h2.cell 0
  have j1 := h2.cell 1
  have j2 := h2.cell 2
  have j3 := h2.cell 3
  have j4 := h2.cell 4
  have j5 := h2.cell 5
  simp at k0 k1 j0 j1 j2 j3 j4 j5
  exact ⟨k0, k1, j0, j1, j2, j3, j4, j5⟩
theorem be_take_lt (l : List UInt8) (n : Nat) : be (l.take n) < 256 ^ n :=
  Nat.lt_of_lt_of_le (be_lt _) (Nat.pow_le_pow_right (by decide) (by rw [List.length_take]; omega))
theorem mag_shl (V S m k : Nat) (hV : V < 256 ^ m) (hS : S ≤ 8 * k) : (mag (V * 2 ^ S)).length ≤ m + k := by
  refine mag_len_le ?_
  rw [Nat.pow_add]
  refine Nat.mul_lt_mul_of_lt_of_le hV ?_ (Nat.pow_pos (by decide))
  rw [show (256 : Nat) = 2 ^ 8 from rfl, ← Nat.pow_mul]
  exact Nat.pow_le_pow_right (by decide) hS
theorem u64_of_wf {x : Int} (h : (Lit.int .u64 x).wf = true) : 0 ≤ x ∧ x < 18446744073709551616 := by
  have h1 : IntKind.u64.min = 0 := rfl
  have h2 : IntKind.u64.max = 18446744073709551615 := rfl
  simp only [Lit.wf, Bool.and_eq_true, decide_eq_true_eq] at h
  omega
theorem shr_shl (z : Int) (S : Nat) : shrZ (z * 2 ^ S) S = z := by
  have hp : 0 < 2 ^ S := Nat.pow_pos (by decide)
  have hpi : (0 : Int) < 2 ^ S := by exact_mod_cast hp
  have habs : (z * 2 ^ S).natAbs = z.natAbs * 2 ^ S := by rw [Int.natAbs_mul, Int.natAbs_pow]; rfl
  unfold shrZ
  rw [habs]
  by_cases h : z < 0
  · have h1 : z * 2 ^ S < 0 := Int.mul_neg_of_neg_of_pos h hpi
    rw [if_pos h1]
    obtain ⟨v, hv⟩ : ∃ v, z.natAbs = v + 1 := ⟨z.natAbs - 1, by omega⟩
    rw [hv]
    have h2 : ((v + 1) * 2 ^ S - 1) / 2 ^ S = v := by
      rw [Nat.add_mul, Nat.one_mul, show v * 2 ^ S + 2 ^ S - 1 = 2 ^ S * v + (2 ^ S - 1) by rw [Nat.mul_comm]; omega, Nat.mul_add_div hp, Nat.div_eq_of_lt (by omega)]
      rfl
    rw [h2]
    omega
  · have h1 : ¬ (z * 2 ^ S < 0) := by
      have := Int.mul_nonneg (show 0 ≤ z by omega) (Int.le_of_lt hpi)
      omega
    rw [if_neg h1, Nat.mul_div_cancel _ hp]
    omega

set_option maxHeartbeats 1000000 in
set_option maxRecDepth 100000 in
theorem walk (a0 : Bool) (a1 : Option Addr) (len1 cap1 : Nat) (z1 : List Int) (a2 : Int) (w : World) (w1 : IsRow .u8 w a1 len1 cap1 z1) (w2 : (Lit.int .u64 a2).wf = true) :
    Calls Try.prog 6 #[.bool a0, .slice a1 len1 cap1, .int .u64 a2] w fun e w' => e = .returned (.bool true) ∧ Below w.heap.size w w' := by
  obtain ⟨l, rfl, hr, hc, ha, hcap⟩ := w1.rd
  unfold maxLen at hcap
  have hwf := u64_of_wf w2
  obtain ⟨A, rfl⟩ : ∃ A : Nat, a2 = (A : Int) := ⟨a2.toNat, by omega⟩
  clear w1 w2
  by_cases hl : l.length ≤ 2147483647
  · obtain ⟨V, hV⟩ : ∃ V, be (l.take 300) = V := ⟨_, rfl⟩
    have hVl := Lib.hid (show V < 256 ^ 300 from by rw [← hV]; exact be_take_lt l 300)
    obtain ⟨S, hS⟩ : ∃ S, A % 4097 = S := ⟨_, rfl⟩
    have hS' : (A : Int) % 4097 = S := by omega
    have hS4 : S ≤ 4096 := by omega
    have hwh := Lib.hid (lwhole_any a0 a1 cap1 l 300 w hr hl hc ha (by omega) V hV)
    obtain ⟨N, hN⟩ : ∃ N, (a0 && decide (0 < V)) = N := ⟨_, rfl⟩
    rw [hN] at hwh
    obtain ⟨Z, hZ⟩ : ∃ Z, sg N V = Z := ⟨_, rfl⟩
    obtain ⟨Y, hY⟩ : ∃ Y, Z * 2 ^ S = Y := ⟨_, rfl⟩
    have hYn : Y.natAbs = V * 2 ^ S := by rw [← hY, ← hZ, ← sg_shl, sg_natAbs]
    have hYl : (mag Y.natAbs).length ≤ 1000 := by
      rw [hYn]
      exact Nat.le_trans (mag_shl V S 300 512 hVl.out (by omega)) (by omega)
    have hNV : N = true → 0 < V := by rw [← hN]; simp
    have hZN : decide (Z < 0) = N := by
      rw [← hZ]
      unfold sg
      cases N
      · simp; try omega
      · have := hNV rfl
        simp; omega
    have hZV : Z.natAbs = V := by rw [← hZ, sg_natAbs]
    have hil := Lib.hid fun a c W (hr : Rd W a (mag V)) (hc : (mag V).length ≤ c) => ilsh_any 2 N a (mag V) c 0 ⟨#[]⟩ none 0 0 S W hr (Nat.le_trans (mag_len_le hVl.out) (by omega)) hc hS4 Y (by rw [be_mag, hZ, hY])
    have hir := Lib.hid fun a c W (hr : Rd W a (mag Y.natAbs)) (hc : (mag Y.natAbs).length ≤ c) => irsh_any 2 (decide (Y < 0)) a (mag Y.natAbs) c 0 ⟨#[]⟩ none 0 0 S W hr hYl hc hS4 Z (by rw [be_mag, sg_abs, ← hY, shr_shl])
    rw [hZN, hZV] at hir
    have hmagV : (mag V).length ≤ 2147483647 := Nat.le_trans (mag_len_le hVl.out) (by omega)
    have his := Lib.hid fun v u (B B' : Nat) W (h : IsValR W B v N V) (hx : RdS W B' u (mag V)) => is_any v u N V B B' W h hx hmagV
    obtain ⟨n, hn⟩ : ∃ n, l.length = n := ⟨_, rfl⟩
    rw [hn] at hwh hc hl ⊢
    clear hr hV hN hn hVl hYl hY hZ hYn hS hmagV hNV hZN hZV
    go_enter Try.func6, Try.ntmps6
    go_wp2_with fail
    refine hwh.out.mono ?_
    rintro e w1 ⟨⟨x, p, rfl, hx, hp⟩, hb1⟩
    obtain ⟨u1, rfl, o1, q1⟩ := hx
    obtain ⟨u2, rfl, o2, q2⟩ := hp
    have hx1 := Lib.hid (RdS.of_own o1)
    obtain ⟨a6, c6, rfl, r6, m6⟩ := Rd.of_own o2
    obtain ⟨a5, c5, rfl, -⟩ := hx1.out
    obtain ⟨L6, hL6⟩ : ∃ L, (mag V).length = L := ⟨_, rfl⟩
    rw [hL6]
    obtain ⟨w2, hw2⟩ : ∃ w2, ((w1.alloc (.cells #[.bool N, .slice a5 L6 c5] 35)).alloc (.cells #[.int .i64 2, .bool N, .slice a6 L6 c6, .int .u64 0, .string ⟨#[]⟩, .slice none 0 0] 26)) = w2 := ⟨_, rfl⟩
    have hB2 : Below w1.heap.size w1 w2 := by rw [← hw2]; exact (below_one _ (Nat.le_refl _)).alloc (by simp) _
    have hHx : Box.Holds w2 w1.heap.size 35 #[.bool N, .slice a5 L6 c5] := by rw [← hw2]; exact (Box.Holds.made w1 35 #[.bool N, .slice a5 L6 c5]).alloc _
    have hHp : Box.Holds w2 (w1.heap.size + 1) 26 #[.int .i64 2, .bool N, .slice a6 L6 c6, .int .u64 0, .string ⟨#[]⟩, .slice none 0 0] := by
      rw [← hw2]
      have := Box.Holds.made (w1.alloc (.cells #[.bool N, .slice a5 L6 c5] 35)) 26 #[.int .i64 2, .bool N, .slice a6 L6 c6, .int .u64 0, .string ⟨#[]⟩, .slice none 0 0]
      rwa [show (w1.alloc (.cells #[.bool N, .slice a5 L6 c5] 35)).heap.size = w1.heap.size + 1 by simp] at this
    have hS2 : w2.heap.size = w1.heap.size + 2 := by rw [← hw2]; simp
    have hkeep := Lib.hid fun W (hW : Below w2.heap.size w2 W) => cells8 (hHx.later hW) (hHp.later hW)
    have hil1 := Lib.hid fun W (hW : Below w2.heap.size w2 W) => (hil.out a6 c6 W (r6.later (hB2.trans (hW.mono hB2.size))) m6).mono (fun e w' (h : (∃ x, e = .returned x ∧ IsValR w' W.heap.size x (decide (Y < 0)) Y.natAbs) ∧ Below W.heap.size W w') => And.intro h.1 (hW.trans (h.2.mono hW.size)))
    have hir1 := Lib.hid fun W v B (hW : Below w2.heap.size w2 W) (hv : IsValR W B v (decide (Y < 0)) Y.natAbs) => show Calls Try.prog 18 #[v, .int .u64 S] W fun e w' => (∃ x, e = .returned x ∧ IsValR w' W.heap.size x N V) ∧ Below w2.heap.size w2 w' from by
      obtain ⟨u, rfl, ⟨a, c, rfl, hrd, hcc, -, -⟩, -⟩ := hv
      refine (hir.out a c W hrd hcc).mono ?_
      rintro e w' ⟨h1, h2⟩
      exact ⟨h1, hW.trans (h2.mono hW.size)⟩
    have his1 := Lib.hid fun W v B (hW : Below w2.heap.size w2 W) (hv : IsValR W B v N V) => (his.out v _ B _ W hv (hx1.out.later (hB2.trans (hW.mono hB2.size)))).mono (fun e w' (h : e = .returned (.bool true) ∧ Below W.heap.size W w') => And.intro h.1 (hW.trans (h.2.mono hW.size)))
    rw [hL6] at hil1 his1
    have hd2 := Lib.hid fun q => Box.below_drawn (Below.refl w2.heap.size w2) q
    have hw2' := Lib.hid hw2
    have hB2' := Lib.hid hB2
    have hb1' := Lib.hid hb1
    clear o1 q1 o2 q2 r6 m6 hil hir his hL6 hx1 hHx hHp hw2 hB2 hb1
    go_wp2_with fail
    rw [hw2'.out]
    have k2 := hkeep.out w2 (Below.refl _ _)
    go_region_held3 (fun W => W.cell? ⟨w1.heap.size, 0, none⟩ = some (.bool N) ∧ W.cell? ⟨w1.heap.size, 1, none⟩ = some (.slice a5 L6 c5) ∧ W.cell? ⟨w1.heap.size + 1, 0, none⟩ = some (.int .i64 2) ∧ W.cell? ⟨w1.heap.size + 1, 1, none⟩ = some (.bool N) ∧ W.cell? ⟨w1.heap.size + 1, 2, none⟩ = some (.slice a6 L6 c6) ∧ W.cell? ⟨w1.heap.size + 1, 3, none⟩ = some (.int .u64 0) ∧ W.cell? ⟨w1.heap.size + 1, 4, none⟩ = some (.string ⟨#[]⟩) ∧ W.cell? ⟨w1.heap.size + 1, 5, none⟩ = some (.slice none 0 0))
      (first | go_keep | exact k2 | exact k3 | exact k4 | exact k5)
      (first
        | (go_at_call 19; refine (hil1.out _ (hd2.out _)).mono ?_; rintro e w3 ⟨⟨v3, rfl, hv3⟩, hb3⟩; have k3 := hkeep.out w3 hb3)
        | (go_at_call 18; refine (hir1.out _ _ _ hb3 hv3).mono ?_; rintro e w4 ⟨⟨v4, rfl, hv4⟩, hb4⟩; have k4 := hkeep.out w4 hb4)
        | (go_at_call 15; refine (his1.out _ _ _ hb4 hv4).mono ?_; rintro e w5 ⟨rfl, hb5⟩; have k5 := hkeep.out w5 hb5))
    go_wp2
    go_ret
    exact ⟨rfl, hb1'.out.trans ((hB2'.out.trans (hb5.mono hB2'.out.size)).mono hb1'.out.size)⟩
  · go_enter Try.func6, Try.ntmps6
    go_wp2
    go_ret
    exact ⟨rfl, Below.refl _ _⟩
end Go.Proofs.Ytaappbnbjpbbcaa.fnIntThere
