/-
  NARROWER THAN 'FOR EVERY INPUT', by the rows' own cells (each row's printed sentence says how): FnTxnEncodeRoundTrip: loops, ifaces, laid.
  DERIVED. THE GIVEN ROWS OF THIS SEAT. 1 by the template 'for every input the law returns true; each argument reads behind the call as it read before'; 0 by the template 'total and deterministic' (their statements: Qxb6609425aDoorTotals.lean).
  GIVEN WITH THE SEED: the statements are not yours to turn. If you find one false, say at which input.
  Laid BY PROGRAM, IN A SANDBOX (cutbox-rows.mjs): the forced cells as the released guide's own fill.sh prints them over the translation dce42a69931bf712… (all of the seat's roots in one cut). By AI agents, Wed Nov 11 2026. No macro, syntax, notation, axiom, sorry.
-/
import Derived.Test.Qxb6609425aDoorChecked
import GoSem.Claim
import GoSem.ClaimJoined
import GoSem.ClaimMapViews
import Derived.JoinedTies
import Derived.KernelRfl
namespace Go.Proofs.Qxb6609425aDoor
/- THE CELL 'sum', in the pinned program and in every row, IS THE sha256 OF THE DUMP (.gsa) THAT Qxb6609425aDoorProg.lean LOADS. Nothing in Lean hashes anything: it is a label: what it is worth is what the hold of that sum in a sandbox is worth. -/
noncomputable def Tryd.pinned : Pinned := { name := "qxb6609425adoor", sum := "dce42a69931bf7125e11621319072f211bab50de9eed48e01415d84c27cd5b9b", checked := Tryd.checked }
namespace Rows
def none {H : Type} : Left H := { results := [], args := [] }

/- WHAT THE LISTED PACKAGE-LEVEL VARIABLES READ AS WHEN THE CALL BEGINS. Each datum BY PROGRAM (the guide's laid-datum.mjs) off the statement by which the dump's own 'gosem.cut.vars' lays the variable. In a bare row this is a premise. The card (Qxb6609425aDoorCards.lean) ties it to the program's text. -/
def laid_example_com_quorumroost_quorumroost_wire_ErrMalformed {H : Type} : DataW H := .iface "*errors.errorString" (.ptr (.agg [.lit (.string [119, 105, 114, 101, 58, 32, 109, 97, 108, 102, 111, 114, 109, 101, 100, 32, 114, 101, 99, 111, 114, 100])]))

/-- 'zzlaws_tree_b1.FnTxnEncodeRoundTrip': WHATEVER THE INPUT: true; the input reads as it did. -/
def fnTxnEncodeRoundTripSpec : ChangeSpec := { name := "fnTxnEncodeRoundTrip", vars := ["example.com/quorumroost/quorumroost/wire.ErrMalformed"], fn := fun _ => fun
  | [d1, d2, d3, g1] => { results := [.lit (.bool true)], args := [d1, d2, d3], vars := [g1] }
  | _ => none }
def fnTxnEncodeRoundTripRow : OpenClaim := { program := "qxb6609425adoor", sum := "dce42a69931bf7125e11621319072f211bab50de9eed48e01415d84c27cd5b9b", func := "example.com/quorumroost/quorumroost/zzlaws_tree_b1.FnTxnEncodeRoundTrip", spec := "fnTxnEncodeRoundTrip", recurses := true, named := ["encoding/binary.BigEndian", "example.com/quorumroost/quorumroost/wire.ErrMalformed"], ifaces := true, loops := true, apart := false, laid := [("example.com/quorumroost/quorumroost/wire.ErrMalformed", laid_example_com_quorumroost_quorumroost_wire_ErrMalformed)] }
def FnTxnEncodeRoundTripSaid : Prop := fnTxnEncodeRoundTripRow.holds Tryd.pinned (OpenSpec.ofChange fnTxnEncodeRoundTripSpec)

/-- ITS FALSE NEIGHBOUR: 'it returns false'. Refute it at one input. -/
def fnTxnEncodeRoundTripWrong : ChangeSpec := { name := "fnTxnEncodeRoundTrip", vars := ["example.com/quorumroost/quorumroost/wire.ErrMalformed"], fn := fun _ => fun
  | [d1, d2, d3, g1] => { results := [.lit (.bool false)], args := [d1, d2, d3], vars := [g1] }
  | _ => none }
def FnTxnEncodeRoundTripWrongFalsely : Prop := fnTxnEncodeRoundTripRow.holds Tryd.pinned (OpenSpec.ofChange fnTxnEncodeRoundTripWrong)

end Rows
end Go.Proofs.Qxb6609425aDoor
