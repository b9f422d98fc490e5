/-
  DERIVED. GIVEN WITH THE SEED: THE CARDS: each row of Qxb6606397aDoorRows.lean that lists a variable, with what it lists TIED to the program's text (the seventh form; the later family's looks); each row that meets fmt, with fmt's text TOLD by the authors' own Lean function (tested against real Go, not proved from fmt's source: count such statements apart). THE CARD IS WHAT COUNTS. Prove the row's statement (the work); the ties are given (Qxb6606397aDoorTie.lean); close each card by the builder's one call (the guide's Derived/Test/ToyasCard.lean, 'card_holds'). Laid BY PROGRAM, IN A SANDBOX (cutbox-door.mjs). By AI agents, Wed Nov 11 2026. No macro, syntax, notation, axiom, sorry.
-/
import Derived.Test.Qxb6606397aDoorRows
import GoSem.ClaimSeven
namespace Go.Proofs.Qxb6606397aDoor
namespace Rows

/-- THE TIED CARD OF 'zzlaws_internal_jsonint_b1.FnPowerMatchesModel'. -/
def fnPowerMatchesModelCard : Claim7 := { stood := { row := fnPowerMatchesModelRow, standIns := [], harness := (true, "aec9879c1a0cb1419b12b34b0e729e09cfa60a80254c941e69c8cd5f3518662c"), looks := true }, kinds := [], alts := [], laidByText := true, laidKinds := [.data, .data, .data, .sentinel, .sentinel], laidTests := true, laidLooks := .later }
def FnPowerMatchesModelCardSaid : Prop := Claim7.holds Tryd.pinned (.plain (OpenSpec.ofChange fnPowerMatchesModelSpec)) fnPowerMatchesModelCard

/-- THE TIED CARD OF 'zzlaws_internal_jsonint_b1.FnPowerBoundedByLimit'. -/
def fnPowerBoundedByLimitCard : Claim7 := { stood := { row := fnPowerBoundedByLimitRow, standIns := [], harness := (true, "aec9879c1a0cb1419b12b34b0e729e09cfa60a80254c941e69c8cd5f3518662c"), looks := true }, kinds := [], alts := [], laidByText := true, laidKinds := [.data, .data, .data, .sentinel, .sentinel], laidTests := true, laidLooks := .later }
def FnPowerBoundedByLimitCardSaid : Prop := Claim7.holds Tryd.pinned (.plain (OpenSpec.ofChange fnPowerBoundedByLimitSpec)) fnPowerBoundedByLimitCard

/-- THE TIED CARD OF 'zzlaws_internal_jsonint_b1.FnPowerReadsPrintedExponent'. -/
def fnPowerReadsPrintedExponentCard : Claim7 := { stood := { row := fnPowerReadsPrintedExponentRow, standIns := [], harness := (true, "aec9879c1a0cb1419b12b34b0e729e09cfa60a80254c941e69c8cd5f3518662c"), looks := true }, kinds := [], alts := [], laidByText := true, laidKinds := [.data, .data, .data, .sentinel, .sentinel], laidTests := true, laidLooks := .later }
def FnPowerReadsPrintedExponentCardSaid : Prop := Claim7.holds Tryd.pinned (.plain (OpenSpec.ofChange fnPowerReadsPrintedExponentSpec)) fnPowerReadsPrintedExponentCard
end Rows
end Go.Proofs.Qxb6606397aDoor
