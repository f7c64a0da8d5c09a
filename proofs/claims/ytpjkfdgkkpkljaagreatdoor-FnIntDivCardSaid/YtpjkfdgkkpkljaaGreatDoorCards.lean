/-
  DERIVED. GIVEN WITH THE SEED: THE CARDS: each row of YtpjkfdgkkpkljaaGreatDoorRows.lean that lists a variable, with what it lists TIED to the program's text (the seventh form; the later family's looks); each row that meets fmt, with fmt's text TOLD by the authors' own Lean function (tested against real Go, not proved from fmt's source: count such statements apart). THE CARD IS WHAT COUNTS. Prove the row's statement (the work); the ties are given (YtpjkfdgkkpkljaaGreatDoorTie.lean); close each card by the builder's one call (the guide's Derived/Test/ToyasCard.lean, 'card_holds'). Laid BY PROGRAM, IN A SANDBOX (cutbox-door.mjs). By AI agents, Wed Nov 11 2026. No macro, syntax, notation, axiom, sorry.
-/
import Derived.Test.YtpjkfdgkkpkljaaGreatDoorRows
import GoSem.ClaimSeven
namespace Go.Proofs.YtpjkfdgkkpkljaaGreatDoor
namespace Rows

/-- THE TIED CARD OF 'laws.FnIntDiv'. -/
def fnIntDivCard : Claim7 := { stood := { row := fnIntDivRow, standIns := [], harness := (true, "06b03922427eba2034809bfee65f42376e9721775c88efb4e71bee93e9a441b7"), looks := false }, kinds := [], alts := [], laidByText := true, laidKinds := [.data, .data, .data, .data], laidTests := true, laidLooks := .later }
def FnIntDivCardSaid : Prop := Claim7.holds Tryz.pinned (.plain (OpenSpec.ofChange fnIntDivSpec)) fnIntDivCard

/-- THE TIED CARD OF 'laws.FnFloatHash'. -/
def fnFloatHashCard : Claim7 := { stood := { row := fnFloatHashRow, standIns := [], harness := (true, "06b03922427eba2034809bfee65f42376e9721775c88efb4e71bee93e9a441b7"), looks := false }, kinds := [], alts := [], laidByText := true, laidKinds := [.data, .data, .data, .data], laidTests := true, laidLooks := .later }
def FnFloatHashCardSaid : Prop := Claim7.holds Tryz.pinned (.plain (OpenSpec.ofChange fnFloatHashSpec)) fnFloatHashCard

/-- THE TIED CARD OF 'laws.FnFloatWhole'. -/
def fnFloatWholeCard : Claim7 := { stood := { row := fnFloatWholeRow, standIns := [], harness := (true, "06b03922427eba2034809bfee65f42376e9721775c88efb4e71bee93e9a441b7"), looks := false }, kinds := [], alts := [], laidByText := true, laidKinds := [.data, .data, .data, .data], laidTests := true, laidLooks := .later }
def FnFloatWholeCardSaid : Prop := Claim7.holds Tryz.pinned (.plain (OpenSpec.ofChange fnFloatWholeSpec)) fnFloatWholeCard

/-- THE SECOND FORM's CARD OF 'laws.FnIntDiv'. -/
def fnIntDivUptoCard : Claim7 := { stood := { row := fnIntDivUptoRow, standIns := [], harness := (true, "06b03922427eba2034809bfee65f42376e9721775c88efb4e71bee93e9a441b7"), looks := false }, kinds := [], alts := [], laidByText := true, laidKinds := [.data, .data, .data, .data], laidTests := true, laidLooks := .later }
def FnIntDivUptoCardSaid : Prop := Claim7.holds Tryz.pinned (.plain (OpenSpec.upto fnIntDivSpec)) fnIntDivUptoCard

/-- THE SECOND FORM's CARD OF 'laws.FnFloatHash'. -/
def fnFloatHashUptoCard : Claim7 := { stood := { row := fnFloatHashUptoRow, standIns := [], harness := (true, "06b03922427eba2034809bfee65f42376e9721775c88efb4e71bee93e9a441b7"), looks := false }, kinds := [], alts := [], laidByText := true, laidKinds := [.data, .data, .data, .data], laidTests := true, laidLooks := .later }
def FnFloatHashUptoCardSaid : Prop := Claim7.holds Tryz.pinned (.plain (OpenSpec.upto fnFloatHashSpec)) fnFloatHashUptoCard

/-- THE SECOND FORM's CARD OF 'laws.FnFloatWhole'. -/
def fnFloatWholeUptoCard : Claim7 := { stood := { row := fnFloatWholeUptoRow, standIns := [], harness := (true, "06b03922427eba2034809bfee65f42376e9721775c88efb4e71bee93e9a441b7"), looks := false }, kinds := [], alts := [], laidByText := true, laidKinds := [.data, .data, .data, .data], laidTests := true, laidLooks := .later }
def FnFloatWholeUptoCardSaid : Prop := Claim7.holds Tryz.pinned (.plain (OpenSpec.upto fnFloatWholeSpec)) fnFloatWholeUptoCard
end Rows
end Go.Proofs.YtpjkfdgkkpkljaaGreatDoor
