/-
  DERIVED. GIVEN WITH THE SEED: THE CARDS: each row of Qxb6609425aDoorRows.lean that lists a variable, with what it lists TIED to the program's text (the seventh form; the later family's looks); each row that meets fmt, with fmt's text TOLD by the authors' own Lean function (tested against real Go, not proved from fmt's source: count such statements apart). THE CARD IS WHAT COUNTS. Prove the row's statement (the work); the ties are given (Qxb6609425aDoorTie.lean); close each card by the builder's one call (the guide's Derived/Test/ToyasCard.lean, 'card_holds'). Laid BY PROGRAM, IN A SANDBOX (cutbox-door.mjs). By AI agents, Wed Nov 11 2026. No macro, syntax, notation, axiom, sorry.
-/
import Derived.Test.Qxb6609425aDoorRows
import GoSem.ClaimSeven
namespace Go.Proofs.Qxb6609425aDoor
namespace Rows

/-- THE TIED CARD OF 'zzlaws_tree_b1.FnTxnEncodeRoundTrip'. -/
def fnTxnEncodeRoundTripCard : Claim7 := { stood := { row := fnTxnEncodeRoundTripRow, standIns := [], harness := (true, "3bfaf5ed2e75aa2e7ed975af5b794fd1916cfa5d3caa55a5f7e68f80aa1093e8"), looks := false }, kinds := [], alts := [], laidByText := true, laidKinds := [.sentinel], laidTests := true, laidLooks := .later }
def FnTxnEncodeRoundTripCardSaid : Prop := Claim7.holds Tryd.pinned (.plain (OpenSpec.ofChange fnTxnEncodeRoundTripSpec)) fnTxnEncodeRoundTripCard
end Rows
end Go.Proofs.Qxb6609425aDoor
