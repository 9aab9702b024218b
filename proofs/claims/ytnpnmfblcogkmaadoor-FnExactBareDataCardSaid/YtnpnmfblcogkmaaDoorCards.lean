/-
  DERIVED. GIVEN WITH THE SEED: THE CARDS: each row of YtnpnmfblcogkmaaDoorRows.lean that lists a variable, with what it lists TIED to the program's text (the seventh form; the later family's looks); each row that meets fmt, with fmt's text TOLD by the authors' own Lean function (tested against real Go, not proved from fmt's source: count such statements apart). THE CARD IS WHAT COUNTS. Prove the row's statement (the work); the ties are given (YtnpnmfblcogkmaaDoorTie.lean); close each card by the builder's one call (the guide's Derived/Test/ToyasCard.lean, 'card_holds'). Laid BY PROGRAM, IN A SANDBOX (cutbox-door.mjs). By AI agents, Wed Nov 11 2026. No macro, syntax, notation, axiom, sorry.
-/
import Derived.Test.YtnpnmfblcogkmaaDoorRows
import GoSem.ClaimSeven
namespace Go.Proofs.YtnpnmfblcogkmaaDoor
namespace Rows

/-- THE TIED CARD OF 'laws.FnExactPrecedence'. -/
def fnExactPrecedenceCard : Claim7 := { stood := { row := fnExactPrecedenceRow, standIns := [], harness := (true, "2e0258919f5f6f03b3284431520bbe39d5036c66a1cadd3277dc82b7b82abb0f"), looks := true }, kinds := [], alts := [], laidByText := true, laidKinds := [.data, .data, .data, .listed, .data, .data], laidTests := true, laidLooks := .later }
def FnExactPrecedenceCardSaid : Prop := Claim7.holds Tryd.pinned (.plain (OpenSpec.ofChange fnExactPrecedenceSpec)) fnExactPrecedenceCard

/-- THE TIED CARD OF 'laws.FnExactBareData'. -/
def fnExactBareDataCard : Claim7 := { stood := { row := fnExactBareDataRow, standIns := [], harness := (true, "2e0258919f5f6f03b3284431520bbe39d5036c66a1cadd3277dc82b7b82abb0f"), looks := true }, kinds := [], alts := [], laidByText := true, laidKinds := [.data, .data, .data, .data], laidTests := true, laidLooks := .later }
def FnExactBareDataCardSaid : Prop := Claim7.holds Tryd.pinned (.plain (OpenSpec.ofChange fnExactBareDataSpec)) fnExactBareDataCard

/-- THE SECOND FORM's CARD OF 'laws.FnExactPrecedence'. -/
def fnExactPrecedenceUptoCard : Claim7 := { stood := { row := fnExactPrecedenceUptoRow, standIns := [], harness := (true, "2e0258919f5f6f03b3284431520bbe39d5036c66a1cadd3277dc82b7b82abb0f"), looks := true }, kinds := [], alts := [], laidByText := true, laidKinds := [.data, .data, .data, .listed, .data, .data], laidTests := true, laidLooks := .later }
def FnExactPrecedenceUptoCardSaid : Prop := Claim7.holds Tryd.pinned (.plain (OpenSpec.upto fnExactPrecedenceSpec)) fnExactPrecedenceUptoCard

/-- THE SECOND FORM's CARD OF 'laws.FnExactBareData'. -/
def fnExactBareDataUptoCard : Claim7 := { stood := { row := fnExactBareDataUptoRow, standIns := [], harness := (true, "2e0258919f5f6f03b3284431520bbe39d5036c66a1cadd3277dc82b7b82abb0f"), looks := true }, kinds := [], alts := [], laidByText := true, laidKinds := [.data, .data, .data, .data], laidTests := true, laidLooks := .later }
def FnExactBareDataUptoCardSaid : Prop := Claim7.holds Tryd.pinned (.plain (OpenSpec.upto fnExactBareDataSpec)) fnExactBareDataUptoCard
end Rows
end Go.Proofs.YtnpnmfblcogkmaaDoor
