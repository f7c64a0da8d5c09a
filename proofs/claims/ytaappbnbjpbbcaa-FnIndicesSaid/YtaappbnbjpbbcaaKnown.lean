/-
  What no zero answers give; the number of 64 bits with a sign, as the statement asks for it.
-/
import Derived.Test.YtaappbnbjpbbcaaLawWhole
import Derived.Test.YtaappbnbjpbbcaaSpecInt5
import Derived.Test.YtaappbnbjpbbcaaWhole
namespace Go.Proofs.Ytaappbnbjpbbcaa.Big
open Go.RowKit Go.WideShapes Go.Proofs.Ytaappbnbjpbbcaa.Own Go.Proofs.Ytaappbnbjpbbcaa.Num Go.Proofs.Ytaappbnbjpbbcaa.Ref Go.Proofs.Ytaappbnbjpbbcaa.Nat_
set_option linter.unusedVariables false

/-- the call of a value that is an integer: what it gives, by the number alone -/
theorem iint_val (p : Value) (neg : Bool) (V B : Nat) (w : World) (h : IsVal w B p neg V) (hV : (mag V).length ≤ 1000) :
    Calls Try.prog 13 #[p] w fun e w' => e = .returned (.tuple #[.int .i64 (get64 (sg neg V)), .bool (fits64 (sg neg V))]) ∧ Below w.heap.size w w' := by
  obtain ⟨u, rfl, ho, hp⟩ := h
  obtain ⟨a, c, rfl, hr, hc⟩ := Rd.of_own ho
  have := iint64_any 2 neg a (mag V) c 0 ⟨#[]⟩ none 0 0 w hr hV hc
  rw [be_mag] at this
  exact this

set_option maxRecDepth 100000 in
theorem suint_small (z : Int) (h0 : 0 ≤ z) (h1 : z ≤ 2147483647) (w : World) :
    Calls Try.prog 53 #[.agg #[.int .i64 z, .pointer none]] w fun e w' => e = .returned (.tuple #[.int .u64 z, .bool true]) ∧ Below w.heap.size w w' := by
  have hget := Lib.hid fun w => get_any z none w
  have hw : IntKind.u64.wrap z = z := by rw [IntKind.wrap_u64]; omega
  have k0 : (w.alloc (.cells #[.int .i64 z, .pointer none] 73)).cell? ⟨w.heap.size, 0, none⟩ = some (.int .i64 z) := by rw [World.cell?_alloc_at _ _ _ _ rfl]; rfl
  have k1 : (w.alloc (.cells #[.int .i64 z, .pointer none] 73)).cell? ⟨w.heap.size, 1, none⟩ = some (.pointer none) := by rw [World.cell?_alloc_at _ _ _ _ rfl]; rfl
  have d1 : decide (z < 0) = false := by simp; omega
  go_enter Try.func53, Try.ntmps53
  go_wp2_with fail
  refine (hget.out _).mono ?_
  rintro e w1 ⟨rfl, hb1⟩
  go_wp2
  exact bodyPost_ret (v := .tuple #[.int .u64 z, .bool true]) (by simp [results, Try.results53, go_sem]) rfl ⟨rfl, (below_one _ (Nat.le_refl _)).trans (hb1.mono (by simp))⟩

set_option maxRecDepth 100000 in
theorem iuint_val (p : Value) (V B : Nat) (w : World) (h : IsVal w B p false V) (hV : V ≤ 2147483647) :
    Calls Try.prog 33 #[p] w fun e w' => e = .returned (.tuple #[.int .u64 V, .bool true]) ∧ Below w.heap.size w w' := by
  obtain ⟨u, rfl, ho, hp⟩ := h
  obtain ⟨a, c, rfl, hr, hc⟩ := Rd.of_own ho
  have hm : (mag V).length ≤ 4 := mag_len_le (by omega)
  have hwh := Lib.hid (whole_any 2 false a (mag V) c 0 ⟨#[]⟩ none 0 0 _ (hr.later (below_one (.cells #[.int .i64 2, .bool false, .slice a (mag V).length c, .int .u64 0, .string ⟨#[]⟩, .slice none 0 0] 26) (Nat.le_refl _))) (by omega) hc)
  rw [be_mag] at hwh
  have hsm : ∀ w B v, SInt w B v (sg false V) → v = .agg #[.int .i64 (V : Int), .pointer none] := fun w B v h => by
    rcases h with ⟨rfl, _⟩ | ⟨g, ng, U, rfl, _, _, hz, hs, _⟩
    · rfl
    · have : isS (sg false V) = true := by unfold isS sg; simp; omega
      rw [hs] at this; cases this
  have hsm' := Lib.hid hsm
  have hsu := Lib.hid fun W => suint_small (V : Int) (by omega) (by omega) W
  obtain ⟨n, hn⟩ : ∃ n, (mag V).length = n := ⟨_, rfl⟩
  rw [hn] at hwh ⊢
  clear hn hr ho hp hm hc hsm
  go_enter Try.func33, Try.ntmps33
  go_wp2_with fail
  refine hwh.out.mono ?_
  rintro e w1 ⟨⟨v, rfl, hi⟩, hb1⟩
  obtain rfl := hsm'.out _ _ _ hi
  clear hi
  go_wp2_with fail
  refine (hsu.out _).mono ?_
  rintro e w2 ⟨rfl, hb2⟩
  go_wp2
  exact bodyPost_ret (v := .tuple #[.int .u64 V, .bool true]) (by simp [results, Try.results33, go_sem]) rfl ⟨rfl, (below_one _ (Nat.le_refl _)).trans ((hb1.mono (by simp)).trans (hb2.mono (Nat.le_trans (by simp) hb1.size)))⟩

set_option maxRecDepth 100000 in
theorem known_any (w : World) : Calls Try.prog 14 #[] w fun e w' => e = .returned (.bool true) ∧ Below w.heap.size w w' := by
  have s1 := Lib.hid fun W => small_any (-5) (by omega) (by omega) W
  have s2 := Lib.hid fun W => small_any 6 (by omega) (by omega) W
  have t1 := Lib.hid fun x B W (h : IsInt W B x true 5) => told_any x true 5 B W h (by decide)
  have t2 := Lib.hid fun x B W (h : IsInt W B x false 6) => told_any x false 6 B W h (by decide)
  have n1 := Lib.hid fun p B W (h : IsVal W B p true 5) => iint_val p true 5 B W h (by decide)
  have n2 := Lib.hid fun p B W (h : IsVal W B p false 6) => iuint_val p 6 B W h (by omega)
  rw [show get64 (sg true 5) = -5 from by decide, show fits64 (sg true 5) = true from by decide] at n1
  go_enter Try.func14, Try.ntmps14
  go_wp2_with fail
  refine (s1.out _).mono ?_
  rintro e w1 ⟨⟨x1, rfl, hx1⟩, hb1⟩
  go_wp2_with fail
  refine (t1.out _ _ _ hx1).mono ?_
  rintro e w2 ⟨⟨u1, rfl, hu1⟩, hb2⟩
  go_wp2_with fail
  refine (n1.out _ _ _ ⟨_, rfl, hu1, fun _ => by omega⟩).mono ?_
  rintro e w3 ⟨rfl, hb3⟩
  go_wp2_with fail
  refine (s2.out _).mono ?_
  rintro e w4 ⟨⟨x4, rfl, hx4⟩, hb4⟩
  go_wp2_with fail
  refine (t2.out _ _ _ hx4).mono ?_
  rintro e w5 ⟨⟨u5, rfl, hu5⟩, hb5⟩
  go_wp2_with fail
  refine (n2.out _ _ _ ⟨_, rfl, hu5, fun h => by cases h⟩).mono ?_
  rintro e w6 ⟨rfl, hb6⟩
  have c1 := hb1.size
  have c2 := hb2.size
  have c3 := hb3.size
  have c4 := hb4.size
  have c5 := hb5.size
  have hend := Lib.hid (((((hb1.trans (hb2.mono (by omega))).trans (hb3.mono (by omega))).trans (hb4.mono (by omega))).trans (hb5.mono (by omega))).trans (hb6.mono (by omega)))
  clear hb1 hb2 hb3 hb4 hb5 hb6 c1 c2 c3 c4 c5 hx1 hu1 hx4 hu5
  go_wp2
  go_ret
  exact ⟨rfl, hend.out⟩
end Go.Proofs.Ytaappbnbjpbbcaa.Big
