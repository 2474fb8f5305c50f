/-
  DERIVED. GIVEN WITH THE SEED: THE CARDS: each row of YtjoaeennbfmohaaDoorRows.lean that lists a variable, with what it lists TIED to the program's text (the seventh form; the later family's looks); each row that meets fmt, with fmt's text TOLD by the authors' own Lean function (tested against real Go, not proved from fmt's source: count such statements apart). THE CARD IS WHAT COUNTS. Prove the row's statement (the work); the ties are given (YtjoaeennbfmohaaDoorTie.lean); close each card by the builder's one call (the guide's Derived/Test/ToyasCard.lean, 'card_holds'). Laid BY PROGRAM, IN A SANDBOX (cutbox-door.mjs). By AI agents, Wed Nov 11 2026. No macro, syntax, notation, axiom, sorry.
-/
import Derived.Test.YtjoaeennbfmohaaDoorRows
import GoSem.ClaimSeven
namespace Go.Proofs.YtjoaeennbfmohaaDoor
namespace Rows

/-- THE TIED CARD OF 'laws.FnZone'. -/
def fnZoneCard : Claim7 := { stood := { row := fnZoneRow, standIns := [], harness := (true, "44cbbd2c3267b9cb1cf13fb490fd0447ed4b060a463e43ea8f26b60dd0dcec36"), looks := false }, kinds := [], alts := [], laidByText := true, laidKinds := [.sentinel], laidTests := true, laidLooks := .later }
def FnZoneCardSaid : Prop := Claim7.holds Tryd.pinned (.plain (OpenSpec.ofChange fnZoneSpec)) fnZoneCard

/-- THE SECOND FORM's CARD OF 'laws.FnZone'. -/
def fnZoneUptoCard : Claim7 := { stood := { row := fnZoneUptoRow, standIns := [], harness := (true, "44cbbd2c3267b9cb1cf13fb490fd0447ed4b060a463e43ea8f26b60dd0dcec36"), looks := false }, kinds := [], alts := [], laidByText := true, laidKinds := [.sentinel], laidTests := true, laidLooks := .later }
def FnZoneUptoCardSaid : Prop := Claim7.holds Tryd.pinned (.plain (OpenSpec.upto fnZoneSpec)) fnZoneUptoCard
end Rows
end Go.Proofs.YtjoaeennbfmohaaDoor
