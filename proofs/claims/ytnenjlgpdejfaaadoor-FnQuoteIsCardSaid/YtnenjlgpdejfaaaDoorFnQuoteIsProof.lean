/-
  FnQuoteIs: the literal that the package makes of a text, or of bytes, is the reference's; for every text, no condition.
-/
import Derived.Test.YtnenjlgpdejfaaaDoorQuoteAll
import Derived.Test.YtnenjlgpdejfaaaDoorDoorQ
import Derived.Test.YtnenjlgpdejfaaaDoorCards
import Derived.Test.YtnenjlgpdejfaaaDoorTie
import Derived.WalkKit
import Derived.ProofKit
import Derived.OpenShut
import Derived.ShutString
import Derived.Deep.DeepHandedRow
import Derived.Deep.DeepWitnessRowRef
namespace Go.Proofs.YtnenjlgpdejfaaaDoor.fnQuoteIs
open Go.ChangeShapes Go.WideShapes Go.ChangeAt Go.RowKit
open Go.ChangeMaps (open_string shut_string)
set_option linter.unusedVariables false

set_option maxRecDepth 100000 in
theorem contract (H : Type) (enc : TypeId × Value → H) (W : World) (base : Nat) (args : Array Value) (ds gs : List (DataW H)) (before : List MemPlace)
    (hval0 : ∀ (j : Nat) t v, Tryd.f7.params[j]? = some t → args[j]? = some v → Value.okWide Tryd.prog W .any base t v)
    (hW : DataW.Whole enc Tryd.prog Tryd.f7.params.toList Rows.fnQuoteIsSpec.vars false W args.toList ds gs before) (hL : laidMet Tryd.prog Rows.fnQuoteIsRow.laid W) :
    Calls Tryd.prog 7 args W fun e W' => ∃ v, e = .returned v ∧ Rows.fnQuoteIsSpec.post enc Tryd.prog Tryd.f7 false true false false W args v W' := by
  have hval : ∀ (j : Nat) t v, Tryd.f7.params[j]? = some t → args[j]? = some v → Value.okWide Tryd.prog W .any base t v := hval0
  have hW' := hW
  obtain ⟨p, q, hA0, hV, rfl, hfz, hnd⟩ := hW
  have hA : DataW.TrodAll enc Tryd.prog W 0 (fun _ => true) true Tryd.f7.params.toList args.toList ds p := hA0
  rw [Tryd.params7] at hA hval
  obtain ⟨v0, vs0, d0, ds0, p0, q0, hargs, rfl, rfl, h0, r0⟩ := trodAll_cons hA
  obtain ⟨rfl, rfl, rfl⟩ := trodAll_nil r0
  obtain rfl : args = #[v0] := by cases args; simp_all
  obtain ⟨rfl, rfl⟩ := trodVars_none hV
  obtain ⟨a0, rfl, rfl, rfl, w0⟩ := open_string Tryd.underlying9 (hval 0 9 v0 rfl rfl) h0
  clear hA0
  simp only [List.append_nil] at hW'
  refine (walk a0 w0 W (DoorQ.tabs6 hL)).mono fun e W' ⟨he, hg⟩ => ?_
  subst he
  exact ⟨_, rfl, _, _, _, [], [], [], hW', (trodAll_cons_mk (shut_bool Tryd.underlying4 _) trodAll_mk0), (trodAll_cons_mk (shut_string Tryd.underlying9 w0) trodAll_mk0), rfl, hg.frame _, fun h => by cases h⟩

theorem reads (os : Os) {H : Type} (enc : TypeId × Value → H) : ∃ places, DataW.whole enc Tryd.prog ((DoorQ.laidWorld os).forCall (fun _ _ => 0) ⟨#[], #[.string ByteArray.empty], []⟩).memory Tryd.f7.params.toList Rows.fnQuoteIsSpec.vars false (#[.string ByteArray.empty] : Array Value).toList 8 = some ([.lit (.string [])], [], places) :=
  ⟨[], by kernel_rfl⟩

set_option maxRecDepth 100000 in
theorem lifted (os : Os) (started : os.Started) (H : Type) (enc : TypeId × Value → H) (F : Stop.Interp) :
    ReturnsInHanded {} Tryd.checked os 7 .any ((OpenSpec.ofChange Rows.fnQuoteIsSpec).preRow enc Tryd.prog Tryd.f7 Rows.fnQuoteIsRow.domain false Rows.fnQuoteIsRow.laid) (((OpenSpec.ofChange Rows.fnQuoteIsSpec).at F).post enc Tryd.prog Tryd.f7 false true false false) := by
  obtain ⟨places, hx⟩ := reads os enc
  refine returnsInHanded_of_row (C := Tryd.checked) (s := OpenSpec.ofChange Rows.fnQuoteIsSpec) DoorQ.own started (by kernel_rfl) Tryd.func7
    (witness_row_atRef (enc := enc) (C := Tryd.checked) false (DoorQ.laidWorld os) #[.string ByteArray.empty] rfl (by kernel_rfl) (by kernel_rfl) (by kernel_rfl)
      (OpenSpec.preRow_of_cond 8 hx (by kernel_rfl) (fun k hk => by cases hk) (by kernel_rfl) (DoorQ.met6 os _))) ?_
  intro W base args ds gs before hval hW _ _ _ hL _ _
  exact contract H enc W base args ds gs before hval hW hL

theorem said : Rows.FnQuoteIsSaid :=
  OpenClaim.holds_of_cond 7 Tryd.f7 rfl rfl rfl rfl rfl rfl rfl ⟨rfl, rfl, rfl, rfl, rfl⟩ rfl rfl rfl rfl rfl (by kernel_rfl) Tryd.func7 (by kernel_rfl)
    (of_decide_eq_true (by kernel_rfl)) (by unfold Func.isWrapper; first | (rw [if_pos (by decide +kernel)]; kernel_rfl) | (rw [if_neg (by decide +kernel)]; exact ⟨rfl, rfl⟩))
    (fun os started H enc _ F => by rw [OpenClaim.pre_eq_preRow]; exact lifted os started H enc F)

theorem plain (f : FuncId) (fn : Func) (hf : Tryd.pinned.checked.prog.funcNamed "given.example/pub-larkspur/laws.FnQuoteIs" = some f) (hfn : Tryd.pinned.checked.prog.funcs[f]? = some fn) :
    true = Tryd.pinned.checked.prog.looks [] ∧ ∀ (j : Nat) t, fn.params[j]? = some t → Tryd.pinned.checked.prog.wantsStandIn t = false := by
  obtain rfl : f = 7 := Option.some.inj ((show Tryd.prog.funcNamed "given.example/pub-larkspur/laws.FnQuoteIs" = some 7 by kernel_rfl).symm.trans hf) |>.symm
  obtain rfl : fn = Tryd.f7 := (Option.some.inj (Tryd.func7.symm.trans hfn)).symm
  refine ⟨by kernel_rfl, fun j t ht => ?_⟩
  rw [Tryd.params7] at ht
  have hm : t ∈ #[9] := Array.mem_of_getElem? ht
  simp only [List.mem_toArray, List.mem_cons, List.not_mem_nil, or_false] at hm
  rcases hm with rfl
  · exact (show Tryd.prog.wantsStandIn 9 = false by kernel_rfl)

theorem proved : Rows.FnQuoteIsCardSaid :=
  Claim7.holds_tied_plain_at .later [] _ _ _ _ said (fun _ h => by cases h) (by kernel_rfl) (fun _ h => by cases h) fnQuoteIs_row_tie rfl ⟨rfl, rfl⟩ (by kernel_rfl) rfl plain (by kernel_rfl)
#print axioms proved
end Go.Proofs.YtnenjlgpdejfaaaDoor.fnQuoteIs
