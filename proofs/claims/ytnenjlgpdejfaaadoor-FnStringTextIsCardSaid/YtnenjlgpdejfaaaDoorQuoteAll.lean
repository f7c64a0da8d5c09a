/-
  The literal of a text: the statements' walks.
-/
import Derived.Test.YtnenjlgpdejfaaaDoorQuote
import Derived.Test.YtnenjlgpdejfaaaDoorValid
import Derived.Lib.LaidPrint
namespace Go.Proofs.YtnenjlgpdejfaaaDoor.Quo
open Go.RowKit Go.WideShapes Go.Proofs.YtnenjlgpdejfaaaDoor.Utf Go.Proofs.YtnenjlgpdejfaaaDoor.Own
set_option linter.unusedVariables false

theorem quote_hid (T : Lib.PrintTabs) (s : ByteArray) (b : Bool) (hs : s.size ≤ 2147483647) : ∃ R : ByteArray, Hid ((∀ w, Laid T w → Calls Tryd.prog 32 #[.string s, .bool b] w fun e w' => e = .returned (.string R) ∧ Below w.heap.size w w') ∧
    (∀ w, Laid T w → Calls Tryd.prog 22 #[.string s, .bool b] w fun e w' => e = .returned (.string R) ∧ Below w.heap.size w w')) :=
  ⟨_, fun w h => quote_any T s b w hs h, fun w h => quoted_any T s b w hs h⟩

theorem iquote_any {T : Lib.PrintTabs} {s R : ByteArray} {b : Bool} (h : Hid ((∀ w, Laid T w → Calls Tryd.prog 32 #[.string s, .bool b] w fun e w' => e = .returned (.string R) ∧ Below w.heap.size w w') ∧
    (∀ w, Laid T w → Calls Tryd.prog 22 #[.string s, .bool b] w fun e w' => e = .returned (.string R) ∧ Below w.heap.size w w'))) (w : World) (hL : Laid T w) :
    Calls Tryd.prog 21 #[.string s, .bool b] w fun e w' => e = .returned (.string R) ∧ Below w.heap.size w w' := by
  go_enter Tryd.func21, Tryd.ntmps21
  go_wp2_with fail
  refine (h.out.1 _ hL).mono ?_
  rintro e w1 ⟨rfl, hb⟩
  go_wp2
  go_ret
  exact ⟨rfl, hb⟩
theorem istr_any {T : Lib.PrintTabs} {s R : ByteArray} (h : Hid ((∀ w, Laid T w → Calls Tryd.prog 32 #[.string s, .bool false] w fun e w' => e = .returned (.string R) ∧ Below w.heap.size w w') ∧
    (∀ w, Laid T w → Calls Tryd.prog 22 #[.string s, .bool false] w fun e w' => e = .returned (.string R) ∧ Below w.heap.size w w'))) (w : World) (hL : Laid T w) :
    Calls Tryd.prog 23 #[.string s] w fun e w' => e = .returned (.string R) ∧ Below w.heap.size w w' := by
  have hs : ∀ w, Laid T w → Calls Tryd.prog 36 #[.string s] w fun e w' => e = .returned (.string R) ∧ Below w.heap.size w w' := fun w hL => by
    go_enter Tryd.func36, Tryd.ntmps36
    go_wp2_with fail
    refine (h.out.1 _ hL).mono ?_
    rintro e w1 ⟨rfl, hb⟩
    go_wp2
    go_ret
    exact ⟨rfl, hb⟩
  have hs' := Lib.hid hs
  clear hs
  go_enter Tryd.func23, Tryd.ntmps23
  go_wp2_with fail
  refine (hs'.out _ hL).mono ?_
  rintro e w1 ⟨rfl, hb⟩
  go_wp2
  go_ret
  exact ⟨rfl, hb⟩
end Go.Proofs.YtnenjlgpdejfaaaDoor.Quo

namespace Go.Proofs.YtnenjlgpdejfaaaDoor.fnQuoteIs
open Go.RowKit Go.WideShapes Go.Proofs.YtnenjlgpdejfaaaDoor.Utf Go.Proofs.YtnenjlgpdejfaaaDoor.Own Go.Proofs.YtnenjlgpdejfaaaDoor.Quo
set_option linter.unusedVariables false
theorem walk (a0 : ByteArray) (w0 : a0.size ≤ maxLen) (w : World) (hT : Laid Lib.goPrintTabs w) :
    Calls Tryd.prog 7 #[.string a0] w fun e w' => e = .returned (.bool true) ∧ Below w.heap.size w w' := by
  by_cases hl : a0.size ≤ 2147483647
  · clear w0
    obtain ⟨R2, h2⟩ := quote_hid Lib.goPrintTabs a0 true hl
    go_enter Tryd.func7, Tryd.ntmps7
    go_wp2_with fail
    refine (Vld.valid_any _ _ hl hT.tabs).mono ?_
    rintro e w1 ⟨⟨u, rfl, hu⟩, hb1⟩
    obtain ⟨R1, h1⟩ := quote_hid Lib.goPrintTabs u false (Nat.le_trans hu hl)
    go_wp2_with fail
    refine (iquote_any h1 _ (hT.later hb1)).mono ?_
    rintro e w2 ⟨rfl, hb2⟩
    have hb12 := hb1.trans (hb2.mono hb1.size)
    go_wp2_with fail
    refine (h1.out.2 _ (hT.later hb12)).mono ?_
    rintro e w3 ⟨rfl, hb3⟩
    have hb13 := hb12.trans (hb3.mono hb12.size)
    have k1 : (R1.toList == R1.toList) = true := by simp
    have k2 : (R2.toList == R2.toList) = true := by simp
    go_wp2_with fail
    refine (iquote_any h2 _ (hT.later hb13)).mono ?_
    rintro e w4 ⟨rfl, hb4⟩
    have hb14 := hb13.trans (hb4.mono hb13.size)
    go_wp2_with fail
    refine (h2.out.2 _ (hT.later hb14)).mono ?_
    rintro e w5 ⟨rfl, hb5⟩
    go_wp2
    go_ret
    exact ⟨by simp, hb14.trans (hb5.mono hb14.size)⟩
  · go_enter Tryd.func7, Tryd.ntmps7
    go_wp2
    go_ret
    exact ⟨rfl, Below.refl _ _⟩
end Go.Proofs.YtnenjlgpdejfaaaDoor.fnQuoteIs

namespace Go.Proofs.YtnenjlgpdejfaaaDoor.fnStringTextIs
open Go.RowKit Go.WideShapes Go.Proofs.YtnenjlgpdejfaaaDoor.Utf Go.Proofs.YtnenjlgpdejfaaaDoor.Own Go.Proofs.YtnenjlgpdejfaaaDoor.Quo
set_option linter.unusedVariables false
theorem walk (a0 : ByteArray) (w0 : a0.size ≤ maxLen) (w : World) (hT : Laid Lib.goPrintTabs w) :
    Calls Tryd.prog 8 #[.string a0] w fun e w' => e = .returned (.bool true) ∧ Below w.heap.size w w' := by
  by_cases hl : a0.size ≤ 2147483647
  · clear w0
    go_enter Tryd.func8, Tryd.ntmps8
    go_wp2_with fail
    refine (Vld.valid_any _ _ hl hT.tabs).mono ?_
    rintro e w1 ⟨⟨u, rfl, hu⟩, hb1⟩
    obtain ⟨R1, h1⟩ := quote_hid Lib.goPrintTabs u false (Nat.le_trans hu hl)
    go_wp2_with fail
    refine (istr_any h1 _ (hT.later hb1)).mono ?_
    rintro e w2 ⟨rfl, hb2⟩
    have hb12 := hb1.trans (hb2.mono hb1.size)
    go_wp2_with fail
    refine (h1.out.2 _ (hT.later hb12)).mono ?_
    rintro e w3 ⟨rfl, hb3⟩
    have hb13 := hb12.trans (hb3.mono hb12.size)
    go_wp2
    go_ret
    exact ⟨by simp, hb13⟩
  · go_enter Tryd.func8, Tryd.ntmps8
    go_wp2
    go_ret
    exact ⟨rfl, Below.refl _ _⟩
end Go.Proofs.YtnenjlgpdejfaaaDoor.fnStringTextIs
