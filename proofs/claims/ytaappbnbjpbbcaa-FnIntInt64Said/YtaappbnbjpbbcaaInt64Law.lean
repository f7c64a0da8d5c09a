/-
  The law on 64 bits with a sign: the number, where it has room; else it is told that it has none.
-/
import Derived.Test.YtaappbnbjpbbcaaRowIn
import Derived.Test.YtaappbnbjpbbcaaKnown
namespace Go.Proofs.Ytaappbnbjpbbcaa.fnIntInt64
open Go.RowKit Go.WideShapes Go.Proofs.Ytaappbnbjpbbcaa.Own Go.Proofs.Ytaappbnbjpbbcaa.Num Go.Proofs.Ytaappbnbjpbbcaa.Ref Go.Proofs.Ytaappbnbjpbbcaa.Big
set_option linter.unusedVariables false

/-- what the walk is told of a slice of integers that came in: it is nil; or it leads to a row of numbers, each fitting its kind -/
def IsRow (k : IntKind) (w : World) (a : Option Addr) (len cap : Nat) (zs : List Int) : Prop :=
  (a = none ∧ len = 0 ∧ cap = 0 ∧ zs = []) ∨
  ∃ x, a = some x ∧ len ≤ cap ∧ cap ≤ maxLen ∧ zs.length = cap ∧ (∀ i, i < zs.length → w.cell? (x.add i) = some (.int k (zs.getD i 0))) ∧ ∀ n ∈ zs, (Lit.int k n).wf = true

theorem IsRow.rd {w : World} {a : Option Addr} {len cap : Nat} {zs : List Int} (h : IsRow .u8 w a len cap zs) : ∃ l, l.length = len ∧ Rd w a l ∧ len ≤ cap ∧ (a = none → cap = 0) ∧ cap ≤ maxLen := by
  rcases h with ⟨rfl, rfl, rfl, rfl⟩ | ⟨x, rfl, h1, h2, h3, h4, h5⟩
  · exact ⟨[], rfl, .inl ⟨rfl, rfl⟩, Nat.le_refl _, fun _ => rfl, Nat.zero_le _⟩
  · obtain ⟨l, e, hr⟩ := rd_of_row h1 h3 h4 h5
    exact ⟨l, e, hr, h1, (fun h => by cases h), h2⟩

set_option maxHeartbeats 1000000 in
set_option maxRecDepth 100000 in
theorem walk (a0 : Bool) (a1 : Option Addr) (len1 cap1 : Nat) (z1 : List Int) (w : World) (w1 : IsRow .u8 w a1 len1 cap1 z1) :
    Calls Try.prog 4 #[.bool a0, .slice a1 len1 cap1] w fun e w' => e = .returned (.bool true) ∧ Below w.heap.size w w' := by
  obtain ⟨l, rfl, hr, hc, ha, hcap⟩ := w1.rd
  unfold maxLen at hcap
  clear w1
  by_cases hl : l.length ≤ 2147483647
  · obtain ⟨V, hV⟩ : ∃ V, be (l.take 400) = V := ⟨_, rfl⟩
    have hVl : (mag V).length ≤ 400 := by
      have := be_lt (l.take 400)
      rw [hV] at this
      exact Nat.le_trans (mag_len_le this) (by rw [List.length_take]; omega)
    have hwh := Lib.hid (lwhole_any a0 a1 cap1 l 400 w hr hl hc ha (by omega) V hV)
    obtain ⟨N, hN⟩ : ∃ N, (a0 && decide (0 < V)) = N := ⟨_, rfl⟩
    rw [hN] at hwh
    obtain ⟨n, hn⟩ : ∃ n, l.length = n := ⟨_, rfl⟩
    rw [hn] at hwh hc hl ⊢
    clear hr hV hN hn
    go_enter Try.func4, Try.ntmps4
    go_wp2_with fail
    refine hwh.out.mono ?_
    rintro e w1 ⟨⟨x, p, rfl, hx, hp⟩, hb1⟩
    have hx0 := hx.mono (Nat.zero_le _)
    have hp0 := hp.mono (Nat.zero_le _)
    clear hx hp
    have hxs := hx0
    have hps := hp0
    obtain ⟨u1, rfl, o1, q1⟩ := hxs
    obtain ⟨a5, c5, rfl, -, -⟩ := Rd.of_own o1
    obtain ⟨u2, rfl, o2, q2⟩ := hps
    obtain ⟨a6, c6, rfl, -, -⟩ := Rd.of_own o2
    clear o1 q1 o2 q2
    have hri := Lib.hid fun W (hb : Below w1.heap.size w1 W) => rint64_any _ N V 0 W (hx0.later hb) (by omega)
    have hii := Lib.hid fun W (hb : Below w1.heap.size w1 W) => iint_val _ N V 0 W (hp0.later hb) (by omega)
    have hkn := Lib.hid known_any
    obtain ⟨L, hL⟩ : ∃ L, (mag V).length = L := ⟨_, rfl⟩
    rw [hL] at hri hii ⊢
    obtain ⟨F, hF⟩ : ∃ F, fits64 (sg N V) = F := ⟨_, rfl⟩
    obtain ⟨G, hG⟩ : ∃ G, get64 (sg N V) = G := ⟨_, rfl⟩
    rw [hF, hG] at hri hii
    clear hF hG hL hx0 hp0
    have hB2 : Below w1.heap.size w1 ((w1.alloc (.cells #[.bool N, .slice a5 L c5] 35)).alloc (.cells #[.int .i64 2, .bool N, .slice a6 L c6, .int .u64 0, .string ⟨#[]⟩, .slice none 0 0] 26)) := (below_one' _ (Nat.le_refl _)).alloc (by simp) _
    have hv2 : Box.Holds ((w1.alloc (.cells #[.bool N, .slice a5 L c5] 35)).alloc (.cells #[.int .i64 2, .bool N, .slice a6 L c6, .int .u64 0, .string ⟨#[]⟩, .slice none 0 0] 26)) (w1.heap.size + 1) 26 #[.int .i64 2, .bool N, .slice a6 L c6, .int .u64 0, .string ⟨#[]⟩, .slice none 0 0] := by
      have := Box.Holds.made (w1.alloc (.cells #[.bool N, .slice a5 L c5] 35)) 26 #[.int .i64 2, .bool N, .slice a6 L c6, .int .u64 0, .string ⟨#[]⟩, .slice none 0 0]
      rwa [show (w1.alloc (.cells #[.bool N, .slice a5 L c5] 35)).heap.size = w1.heap.size + 1 by simp] at this
    have hri2 := Lib.hid (hri.out _ hB2)
    have hB2' := Lib.hid hB2
    have hv2' := Lib.hid hv2
    clear hB2 hv2 hri
    go_wp2_with fail
    refine hri2.out.mono ?_
    rintro e w3 ⟨rfl, hb3⟩
    have g := hv2'.out.later hb3
    have hB3 : Below w1.heap.size w1 w3 := hB2'.out.trans (hb3.mono hB2'.out.size)
    have r0 := g.cell 0
    have r1 := g.cell 1
    have r2 := g.cell 2
    have r3 := g.cell 3
    have r4 := g.cell 4
    have r5 := g.cell 5
    simp at r0 r1 r2 r3 r4 r5
    have l3 := g.lt
    clear hb3 g hv2' hB2' hri2
    go_wp2_with fail
    refine (hii.out _ hB3).mono ?_
    rintro e w4 ⟨rfl, hb4⟩
    have hB4 : Below w.heap.size w w4 := hb1.trans ((hB3.trans (hb4.mono hB3.size)).mono hb1.size)
    have e0 : (F == F) = true := by simp
    have e1 : (G == G) = true := by simp
    clear hb1 hB3 hb4 r0 r1 r2 r3 r4 r5 l3
    cases F
    all_goals
      go_wp2_with fail
      refine (hkn.out _).mono ?_
      rintro e w5 ⟨rfl, hb5⟩
      go_wp2
      go_ret
      exact ⟨rfl, hB4.trans (hb5.mono hB4.size)⟩
  · go_enter Try.func4, Try.ntmps4
    go_wp2
    go_ret
    exact ⟨rfl, Below.refl _ _⟩
end Go.Proofs.Ytaappbnbjpbbcaa.fnIntInt64
