/-
  DERIVED. GIVEN WITH THE SEED: THE CARDS: each row of YtlpnepgljdhpkaaGreatFmtRows.lean that lists a variable, with what it lists TIED to the program's text (the seventh form; the later family's looks); each row that meets fmt, with fmt's text TOLD by the authors' own Lean function (tested against real Go, not proved from fmt's source: count such statements apart). THE CARD IS WHAT COUNTS. Prove the row's statement (the work); the ties are given (YtlpnepgljdhpkaaGreatFmtTie.lean); close each card by the builder's one call (the guide's Derived/Test/ToyasCard.lean, 'card_holds'). Laid BY PROGRAM, IN A SANDBOX (cutbox-door.mjs). By AI agents, Wed Nov 11 2026. No macro, syntax, notation, axiom, sorry.
-/
import Derived.Test.YtlpnepgljdhpkaaGreatFmtRows
import GoSem.ClaimSeven
namespace Go.Proofs.YtlpnepgljdhpkaaGreatFmt
namespace Rows

/-- THE TOLD AND TIED CARD OF 'laws.FnExactVisits'. -/
def fnExactVisitsCard : Claim7 := { stood := { row := fnExactVisitsRow, standIns := [], harness := (true, "965db8a74ade1cd82d073fb150aec3c984ad54e52f4aac1fe2d63c4d0a1286db"), looks := true }, told := true, laidByText := true, laidKinds := [.data, .data, .data, .data], laidTests := true, laidLooks := .later, goes := false }
def FnExactVisitsToldSaid : Prop := Claim7.holds Tryz.pinned (.plain (OpenSpec.ofChange fnExactVisitsSpec)) fnExactVisitsCard
/-- ITS FALSE NEIGHBOUR. Refute it at one input. -/
def FnExactVisitsToldWrongFalsely : Prop := Claim7.holds Tryz.pinned (.plain (OpenSpec.ofChange fnExactVisitsWrong)) fnExactVisitsCard

/-- THE TOLD AND TIED CARD OF 'laws.FnExactEvents'. -/
def fnExactEventsCard : Claim7 := { stood := { row := fnExactEventsRow, standIns := [], harness := (true, "965db8a74ade1cd82d073fb150aec3c984ad54e52f4aac1fe2d63c4d0a1286db"), looks := true }, told := true, laidByText := true, laidKinds := [.data, .data, .data, .data], laidTests := true, laidLooks := .later, goes := false }
def FnExactEventsToldSaid : Prop := Claim7.holds Tryz.pinned (.plain (OpenSpec.ofChange fnExactEventsSpec)) fnExactEventsCard
/-- ITS FALSE NEIGHBOUR. Refute it at one input. -/
def FnExactEventsToldWrongFalsely : Prop := Claim7.holds Tryz.pinned (.plain (OpenSpec.ofChange fnExactEventsWrong)) fnExactEventsCard

/-- THE TOLD AND TIED CARD OF 'laws.FnEventsPair'. -/
def fnEventsPairCard : Claim7 := { stood := { row := fnEventsPairRow, standIns := [], harness := (true, "965db8a74ade1cd82d073fb150aec3c984ad54e52f4aac1fe2d63c4d0a1286db"), looks := true }, told := true, laidByText := true, laidKinds := [.data, .data, .data, .data], laidTests := true, laidLooks := .later, goes := false }
def FnEventsPairToldSaid : Prop := Claim7.holds Tryz.pinned (.plain (OpenSpec.ofChange fnEventsPairSpec)) fnEventsPairCard
/-- ITS FALSE NEIGHBOUR. Refute it at one input. -/
def FnEventsPairToldWrongFalsely : Prop := Claim7.holds Tryz.pinned (.plain (OpenSpec.ofChange fnEventsPairWrong)) fnEventsPairCard

/-- THE TOLD AND TIED CARD OF 'laws.FnExactYields'. -/
def fnExactYieldsCard : Claim7 := { stood := { row := fnExactYieldsRow, standIns := [], harness := (true, "965db8a74ade1cd82d073fb150aec3c984ad54e52f4aac1fe2d63c4d0a1286db"), looks := true }, told := true, laidByText := true, laidKinds := [.data, .data, .data, .data], laidTests := true, laidLooks := .later, goes := false }
def FnExactYieldsToldSaid : Prop := Claim7.holds Tryz.pinned (.plain (OpenSpec.ofChange fnExactYieldsSpec)) fnExactYieldsCard
/-- ITS FALSE NEIGHBOUR. Refute it at one input. -/
def FnExactYieldsToldWrongFalsely : Prop := Claim7.holds Tryz.pinned (.plain (OpenSpec.ofChange fnExactYieldsWrong)) fnExactYieldsCard

/-- THE TOLD AND TIED CARD OF 'laws.FnExactStacks'. -/
def fnExactStacksCard : Claim7 := { stood := { row := fnExactStacksRow, standIns := [], harness := (true, "965db8a74ade1cd82d073fb150aec3c984ad54e52f4aac1fe2d63c4d0a1286db"), looks := true }, told := true, laidByText := true, laidKinds := [.data, .data, .data, .data], laidTests := true, laidLooks := .later, goes := false }
def FnExactStacksToldSaid : Prop := Claim7.holds Tryz.pinned (.plain (OpenSpec.ofChange fnExactStacksSpec)) fnExactStacksCard
/-- ITS FALSE NEIGHBOUR. Refute it at one input. -/
def FnExactStacksToldWrongFalsely : Prop := Claim7.holds Tryz.pinned (.plain (OpenSpec.ofChange fnExactStacksWrong)) fnExactStacksCard

/-- THE TOLD AND TIED CARD OF 'laws.FnStacksDeep'. -/
def fnStacksDeepCard : Claim7 := { stood := { row := fnStacksDeepRow, standIns := [], harness := (true, "965db8a74ade1cd82d073fb150aec3c984ad54e52f4aac1fe2d63c4d0a1286db"), looks := true }, told := true, laidByText := true, laidKinds := [.data, .data, .data, .data], laidTests := true, laidLooks := .later, goes := false }
def FnStacksDeepToldSaid : Prop := Claim7.holds Tryz.pinned (.plain (OpenSpec.ofChange fnStacksDeepSpec)) fnStacksDeepCard
/-- ITS FALSE NEIGHBOUR. Refute it at one input. -/
def FnStacksDeepToldWrongFalsely : Prop := Claim7.holds Tryz.pinned (.plain (OpenSpec.ofChange fnStacksDeepWrong)) fnStacksDeepCard
end Rows
end Go.Proofs.YtlpnepgljdhpkaaGreatFmt
