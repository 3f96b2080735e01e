/-
  DERIVED. GIVEN WITH THE SEED: THE CARDS: each row of Qxb6612991aDoorRRRows.lean that lists a variable, with what it lists TIED to the program's text (the seventh form; the later family's looks); each row that meets fmt, with fmt's text TOLD by the authors' own Lean function (tested against real Go, not proved from fmt's source: count such statements apart). THE CARD IS WHAT COUNTS. Prove the row's statement (the work); the ties are given (Qxb6612991aDoorRRTie.lean); close each card by the builder's one call (the guide's Derived/Test/ToyasCard.lean, 'card_holds'). Laid BY PROGRAM, IN A SANDBOX (cutbox-door.mjs). By AI agents, Wed Nov 11 2026. No macro, syntax, notation, axiom, sorry.
-/
import Derived.Test.Qxb6612991aDoorRRRows
import GoSem.ClaimSeven
namespace Go.Proofs.Qxb6612991aDoorRR
namespace Rows

/-- THE TIED CARD OF 'zzlaws_root_b1.FnNewColorReaderShapes'. -/
def fnNewColorReaderShapesCard : Claim7 := { stood := { row := fnNewColorReaderShapesRow, standIns := [], harness := (true, "acada8f8a7ff0a96926bc74698f4f340e60700606ed54a8551b2777cbd41376d"), looks := false }, kinds := [], alts := [], laidByText := true, laidKinds := [.mapped], laidTests := true, laidLooks := .later }
def FnNewColorReaderShapesCardSaid : Prop := Claim7.holds Tryd.pinned (.plain (OpenSpec.ofChange fnNewColorReaderShapesSpec)) fnNewColorReaderShapesCard

/-- THE TIED CARD OF 'zzlaws_root_b1.FnNewColorReaderOwnsItsBuffers'. -/
def fnNewColorReaderOwnsItsBuffersCard : Claim7 := { stood := { row := fnNewColorReaderOwnsItsBuffersRow, standIns := [], harness := (true, "acada8f8a7ff0a96926bc74698f4f340e60700606ed54a8551b2777cbd41376d"), looks := false }, kinds := [], alts := [], laidByText := true, laidKinds := [.mapped], laidTests := true, laidLooks := .later }
def FnNewColorReaderOwnsItsBuffersCardSaid : Prop := Claim7.holds Tryd.pinned (.plain (OpenSpec.ofChange fnNewColorReaderOwnsItsBuffersSpec)) fnNewColorReaderOwnsItsBuffersCard
end Rows
end Go.Proofs.Qxb6612991aDoorRR
