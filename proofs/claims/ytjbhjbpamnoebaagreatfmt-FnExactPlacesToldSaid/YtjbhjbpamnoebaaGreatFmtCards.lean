/-
  DERIVED. GIVEN WITH THE SEED: THE CARDS: each row of YtjbhjbpamnoebaaGreatFmtRows.lean that lists a variable, with what it lists TIED to the program's text (the seventh form; the later family's looks); each row that meets fmt, with fmt's text TOLD by the authors' own Lean function (tested against real Go, not proved from fmt's source: count such statements apart). THE CARD IS WHAT COUNTS. Prove the row's statement (the work); the ties are given (YtjbhjbpamnoebaaGreatFmtTie.lean); close each card by the builder's one call (the guide's Derived/Test/ToyasCard.lean, 'card_holds'). Laid BY PROGRAM, IN A SANDBOX (cutbox-door.mjs). By AI agents, Wed Nov 11 2026. No macro, syntax, notation, axiom, sorry.
-/
import Derived.Test.YtjbhjbpamnoebaaGreatFmtRows
import GoSem.ClaimSeven
namespace Go.Proofs.YtjbhjbpamnoebaaGreatFmt
namespace Rows

/-- THE TOLD AND TIED CARD OF 'laws.FnExactVisits'. -/
def fnExactVisitsCard : Claim7 := { stood := { row := fnExactVisitsRow, standIns := [], harness := (true, "a776af77527bb20ed56e5d31e59df3296cc6f1bb0469356708563ec4a84dc9bc"), looks := true }, told := true, laidByText := true, laidKinds := [.data, .data, .data, .data], laidTests := true, laidLooks := .later, goes := false }
def FnExactVisitsToldSaid : Prop := Claim7.holds Tryz.pinned (.plain (OpenSpec.ofChange fnExactVisitsSpec)) fnExactVisitsCard
/-- ITS FALSE NEIGHBOUR. Refute it at one input. -/
def FnExactVisitsToldWrongFalsely : Prop := Claim7.holds Tryz.pinned (.plain (OpenSpec.ofChange fnExactVisitsWrong)) fnExactVisitsCard

/-- THE TOLD AND TIED CARD OF 'laws.FnPlacesNest'. -/
def fnPlacesNestCard : Claim7 := { stood := { row := fnPlacesNestRow, standIns := [], harness := (true, "a776af77527bb20ed56e5d31e59df3296cc6f1bb0469356708563ec4a84dc9bc"), looks := true }, told := true, laidByText := true, laidKinds := [.data, .data, .data, .data], laidTests := true, laidLooks := .later, goes := false }
def FnPlacesNestToldSaid : Prop := Claim7.holds Tryz.pinned (.plain (OpenSpec.ofChange fnPlacesNestSpec)) fnPlacesNestCard
/-- ITS FALSE NEIGHBOUR. Refute it at one input. -/
def FnPlacesNestToldWrongFalsely : Prop := Claim7.holds Tryz.pinned (.plain (OpenSpec.ofChange fnPlacesNestWrong)) fnPlacesNestCard

/-- THE TOLD AND TIED CARD OF 'laws.FnExactPlaces'. -/
def fnExactPlacesCard : Claim7 := { stood := { row := fnExactPlacesRow, standIns := [], harness := (true, "a776af77527bb20ed56e5d31e59df3296cc6f1bb0469356708563ec4a84dc9bc"), looks := true }, told := true, laidByText := true, laidKinds := [.data, .data, .data, .data], laidTests := true, laidLooks := .later, goes := false }
def FnExactPlacesToldSaid : Prop := Claim7.holds Tryz.pinned (.plain (OpenSpec.ofChange fnExactPlacesSpec)) fnExactPlacesCard
/-- ITS FALSE NEIGHBOUR. Refute it at one input. -/
def FnExactPlacesToldWrongFalsely : Prop := Claim7.holds Tryz.pinned (.plain (OpenSpec.ofChange fnExactPlacesWrong)) fnExactPlacesCard
end Rows
end Go.Proofs.YtjbhjbpamnoebaaGreatFmt
