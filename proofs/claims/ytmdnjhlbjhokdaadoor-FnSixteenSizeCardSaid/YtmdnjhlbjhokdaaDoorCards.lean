/-
  DERIVED. GIVEN WITH THE SEED: THE CARDS: each row of YtmdnjhlbjhokdaaDoorRows.lean that lists a variable, with what it lists TIED to the program's text (the seventh form; the later family's looks); each row that meets fmt, with fmt's text TOLD by the authors' own Lean function (tested against real Go, not proved from fmt's source: count such statements apart). THE CARD IS WHAT COUNTS. Prove the row's statement (the work); the ties are given (YtmdnjhlbjhokdaaDoorTie.lean); close each card by the builder's one call (the guide's Derived/Test/ToyasCard.lean, 'card_holds'). Laid BY PROGRAM, IN A SANDBOX (cutbox-door.mjs). By AI agents, Wed Nov 11 2026. No macro, syntax, notation, axiom, sorry.
-/
import Derived.Test.YtmdnjhlbjhokdaaDoorRows
import GoSem.ClaimSeven
namespace Go.Proofs.YtmdnjhlbjhokdaaDoor
namespace Rows

/-- THE TIED CARD OF 'laws.FnExactSixteen'. -/
def fnExactSixteenCard : Claim7 := { stood := { row := fnExactSixteenRow, standIns := [], harness := (true, "5905335619bb1bc577a3182b7102d8ac7518e2d286ef489444a3ca4bfb269b35"), looks := false }, kinds := [], alts := [], laidByText := true, laidKinds := [.data, .pinned], laidTests := true, laidLooks := .later }
def FnExactSixteenCardSaid : Prop := Claim7.holds Tryd.pinned (.plain (OpenSpec.ofChange fnExactSixteenSpec)) fnExactSixteenCard

/-- THE TIED CARD OF 'laws.FnSixteenSize'. -/
def fnSixteenSizeCard : Claim7 := { stood := { row := fnSixteenSizeRow, standIns := [], harness := (true, "5905335619bb1bc577a3182b7102d8ac7518e2d286ef489444a3ca4bfb269b35"), looks := false }, kinds := [], alts := [], laidByText := true, laidKinds := [.data, .pinned], laidTests := true, laidLooks := .later }
def FnSixteenSizeCardSaid : Prop := Claim7.holds Tryd.pinned (.plain (OpenSpec.ofChange fnSixteenSizeSpec)) fnSixteenSizeCard

/-- THE SECOND FORM's CARD OF 'laws.FnExactSixteen'. -/
def fnExactSixteenUptoCard : Claim7 := { stood := { row := fnExactSixteenUptoRow, standIns := [], harness := (true, "5905335619bb1bc577a3182b7102d8ac7518e2d286ef489444a3ca4bfb269b35"), looks := false }, kinds := [], alts := [], laidByText := true, laidKinds := [.data, .pinned], laidTests := true, laidLooks := .later }
def FnExactSixteenUptoCardSaid : Prop := Claim7.holds Tryd.pinned (.plain (OpenSpec.upto fnExactSixteenSpec)) fnExactSixteenUptoCard

/-- THE SECOND FORM's CARD OF 'laws.FnSixteenSize'. -/
def fnSixteenSizeUptoCard : Claim7 := { stood := { row := fnSixteenSizeUptoRow, standIns := [], harness := (true, "5905335619bb1bc577a3182b7102d8ac7518e2d286ef489444a3ca4bfb269b35"), looks := false }, kinds := [], alts := [], laidByText := true, laidKinds := [.data, .pinned], laidTests := true, laidLooks := .later }
def FnSixteenSizeUptoCardSaid : Prop := Claim7.holds Tryd.pinned (.plain (OpenSpec.upto fnSixteenSizeSpec)) fnSixteenSizeUptoCard
end Rows
end Go.Proofs.YtmdnjhlbjhokdaaDoor
