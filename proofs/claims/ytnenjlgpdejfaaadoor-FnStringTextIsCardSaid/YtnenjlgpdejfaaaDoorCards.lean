/-
  DERIVED. GIVEN WITH THE SEED: THE CARDS: each row of YtnenjlgpdejfaaaDoorRows.lean that lists a variable, with what it lists TIED to the program's text (the seventh form; the later family's looks); each row that meets fmt, with fmt's text TOLD by the authors' own Lean function (tested against real Go, not proved from fmt's source: count such statements apart). THE CARD IS WHAT COUNTS. Prove the row's statement (the work); the ties are given (YtnenjlgpdejfaaaDoorTie.lean); close each card by the builder's one call (the guide's Derived/Test/ToyasCard.lean, 'card_holds'). Laid BY PROGRAM, IN A SANDBOX (cutbox-door.mjs). By AI agents, Wed Nov 11 2026. No macro, syntax, notation, axiom, sorry.
-/
import Derived.Test.YtnenjlgpdejfaaaDoorRows
import GoSem.ClaimSeven
namespace Go.Proofs.YtnenjlgpdejfaaaDoor
namespace Rows

/-- THE TIED CARD OF 'laws.FnJavaHash'. -/
def fnJavaHashCard : Claim7 := { stood := { row := fnJavaHashRow, standIns := [], harness := (true, "f80a6dc4ead3daeffd9ce75af9f1c74cffa334b4661ef7eb12866dedf050e517"), looks := true }, kinds := [], alts := [], laidByText := true, laidKinds := [.data, .pinned], laidTests := true, laidLooks := .later }
def FnJavaHashCardSaid : Prop := Claim7.holds Tryd.pinned (.plain (OpenSpec.ofChange fnJavaHashSpec)) fnJavaHashCard

/-- THE TIED CARD OF 'laws.FnPoints'. -/
def fnPointsCard : Claim7 := { stood := { row := fnPointsRow, standIns := [], harness := (true, "f80a6dc4ead3daeffd9ce75af9f1c74cffa334b4661ef7eb12866dedf050e517"), looks := true }, kinds := [], alts := [], laidByText := true, laidKinds := [.data, .pinned], laidTests := true, laidLooks := .later }
def FnPointsCardSaid : Prop := Claim7.holds Tryd.pinned (.plain (OpenSpec.ofChange fnPointsSpec)) fnPointsCard

/-- THE TIED CARD OF 'laws.FnSplitSpaceBack'. -/
def fnSplitSpaceBackCard : Claim7 := { stood := { row := fnSplitSpaceBackRow, standIns := [], harness := (true, "f80a6dc4ead3daeffd9ce75af9f1c74cffa334b4661ef7eb12866dedf050e517"), looks := true }, kinds := [], alts := [], laidByText := true, laidKinds := [.data, .pinned], laidTests := true, laidLooks := .later }
def FnSplitSpaceBackCardSaid : Prop := Claim7.holds Tryd.pinned (.plain (OpenSpec.ofChange fnSplitSpaceBackSpec)) fnSplitSpaceBackCard

/-- THE TIED CARD OF 'laws.FnPlaceBehind'. -/
def fnPlaceBehindCard : Claim7 := { stood := { row := fnPlaceBehindRow, standIns := [], harness := (true, "f80a6dc4ead3daeffd9ce75af9f1c74cffa334b4661ef7eb12866dedf050e517"), looks := true }, kinds := [], alts := [], laidByText := true, laidKinds := [.data, .pinned], laidTests := true, laidLooks := .later }
def FnPlaceBehindCardSaid : Prop := Claim7.holds Tryd.pinned (.plain (OpenSpec.ofChange fnPlaceBehindSpec)) fnPlaceBehindCard

/-- THE TIED CARD OF 'laws.FnQuoteIs'. -/
def fnQuoteIsCard : Claim7 := { stood := { row := fnQuoteIsRow, standIns := [], harness := (true, "f80a6dc4ead3daeffd9ce75af9f1c74cffa334b4661ef7eb12866dedf050e517"), looks := true }, kinds := [], alts := [], laidByText := true, laidKinds := [.data, .pinned, .pinned, .pinned, .pinned, .pinned], laidTests := true, laidLooks := .later }
def FnQuoteIsCardSaid : Prop := Claim7.holds Tryd.pinned (.plain (OpenSpec.ofChange fnQuoteIsSpec)) fnQuoteIsCard

/-- THE TIED CARD OF 'laws.FnStringTextIs'. -/
def fnStringTextIsCard : Claim7 := { stood := { row := fnStringTextIsRow, standIns := [], harness := (true, "f80a6dc4ead3daeffd9ce75af9f1c74cffa334b4661ef7eb12866dedf050e517"), looks := true }, kinds := [], alts := [], laidByText := true, laidKinds := [.data, .pinned, .pinned, .pinned, .pinned, .pinned], laidTests := true, laidLooks := .later }
def FnStringTextIsCardSaid : Prop := Claim7.holds Tryd.pinned (.plain (OpenSpec.ofChange fnStringTextIsSpec)) fnStringTextIsCard

/-- THE SECOND FORM's CARD OF 'laws.FnJavaHash'. -/
def fnJavaHashUptoCard : Claim7 := { stood := { row := fnJavaHashUptoRow, standIns := [], harness := (true, "f80a6dc4ead3daeffd9ce75af9f1c74cffa334b4661ef7eb12866dedf050e517"), looks := true }, kinds := [], alts := [], laidByText := true, laidKinds := [.data, .pinned], laidTests := true, laidLooks := .later }
def FnJavaHashUptoCardSaid : Prop := Claim7.holds Tryd.pinned (.plain (OpenSpec.upto fnJavaHashSpec)) fnJavaHashUptoCard

/-- THE SECOND FORM's CARD OF 'laws.FnPoints'. -/
def fnPointsUptoCard : Claim7 := { stood := { row := fnPointsUptoRow, standIns := [], harness := (true, "f80a6dc4ead3daeffd9ce75af9f1c74cffa334b4661ef7eb12866dedf050e517"), looks := true }, kinds := [], alts := [], laidByText := true, laidKinds := [.data, .pinned], laidTests := true, laidLooks := .later }
def FnPointsUptoCardSaid : Prop := Claim7.holds Tryd.pinned (.plain (OpenSpec.upto fnPointsSpec)) fnPointsUptoCard

/-- THE SECOND FORM's CARD OF 'laws.FnSplitSpaceBack'. -/
def fnSplitSpaceBackUptoCard : Claim7 := { stood := { row := fnSplitSpaceBackUptoRow, standIns := [], harness := (true, "f80a6dc4ead3daeffd9ce75af9f1c74cffa334b4661ef7eb12866dedf050e517"), looks := true }, kinds := [], alts := [], laidByText := true, laidKinds := [.data, .pinned], laidTests := true, laidLooks := .later }
def FnSplitSpaceBackUptoCardSaid : Prop := Claim7.holds Tryd.pinned (.plain (OpenSpec.upto fnSplitSpaceBackSpec)) fnSplitSpaceBackUptoCard

/-- THE SECOND FORM's CARD OF 'laws.FnPlaceBehind'. -/
def fnPlaceBehindUptoCard : Claim7 := { stood := { row := fnPlaceBehindUptoRow, standIns := [], harness := (true, "f80a6dc4ead3daeffd9ce75af9f1c74cffa334b4661ef7eb12866dedf050e517"), looks := true }, kinds := [], alts := [], laidByText := true, laidKinds := [.data, .pinned], laidTests := true, laidLooks := .later }
def FnPlaceBehindUptoCardSaid : Prop := Claim7.holds Tryd.pinned (.plain (OpenSpec.upto fnPlaceBehindSpec)) fnPlaceBehindUptoCard

/-- THE SECOND FORM's CARD OF 'laws.FnQuoteIs'. -/
def fnQuoteIsUptoCard : Claim7 := { stood := { row := fnQuoteIsUptoRow, standIns := [], harness := (true, "f80a6dc4ead3daeffd9ce75af9f1c74cffa334b4661ef7eb12866dedf050e517"), looks := true }, kinds := [], alts := [], laidByText := true, laidKinds := [.data, .pinned, .pinned, .pinned, .pinned, .pinned], laidTests := true, laidLooks := .later }
def FnQuoteIsUptoCardSaid : Prop := Claim7.holds Tryd.pinned (.plain (OpenSpec.upto fnQuoteIsSpec)) fnQuoteIsUptoCard

/-- THE SECOND FORM's CARD OF 'laws.FnStringTextIs'. -/
def fnStringTextIsUptoCard : Claim7 := { stood := { row := fnStringTextIsUptoRow, standIns := [], harness := (true, "f80a6dc4ead3daeffd9ce75af9f1c74cffa334b4661ef7eb12866dedf050e517"), looks := true }, kinds := [], alts := [], laidByText := true, laidKinds := [.data, .pinned, .pinned, .pinned, .pinned, .pinned], laidTests := true, laidLooks := .later }
def FnStringTextIsUptoCardSaid : Prop := Claim7.holds Tryd.pinned (.plain (OpenSpec.upto fnStringTextIsSpec)) fnStringTextIsUptoCard
end Rows
end Go.Proofs.YtnenjlgpdejfaaaDoor
