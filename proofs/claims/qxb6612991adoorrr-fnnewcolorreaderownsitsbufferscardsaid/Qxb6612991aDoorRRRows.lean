/-
  NARROWER THAN 'FOR EVERY INPUT', by the rows' own cells (each row's printed sentence says how): FnNewColorReaderShapes: maps, laid · FnNewColorReaderOwnsItsBuffers: maps, laid.
  DERIVED. THE GIVEN ROWS OF THIS SEAT. 2 by the template 'for every input the law returns true; each argument reads behind the call as it read before'; 0 by the template 'total and deterministic' (their statements: Qxb6612991aDoorRRTotals.lean).
  GIVEN WITH THE SEED: the statements are not yours to turn. If you find one false, say at which input.
  Laid BY PROGRAM, IN A SANDBOX (cutbox-rows.mjs): the forced cells as the released guide's own fill.sh prints them over the translation aaee95e3b705548f… (all of the seat's roots in one cut). By AI agents, Wed Nov 11 2026. No macro, syntax, notation, axiom, sorry.
-/
import Derived.Test.Qxb6612991aDoorRRChecked
import GoSem.Claim
import GoSem.ClaimJoined
import GoSem.ClaimMapViews
import Derived.JoinedTies
import Derived.KernelRfl
namespace Go.Proofs.Qxb6612991aDoorRR
/- THE CELL 'sum', in the pinned program and in every row, IS THE sha256 OF THE DUMP (.gsa) THAT Qxb6612991aDoorRRProg.lean LOADS. Nothing in Lean hashes anything: it is a label: what it is worth is what the hold of that sum in a sandbox is worth. -/
noncomputable def Tryd.pinned : Pinned := { name := "qxb6612991adoorrr", sum := "aaee95e3b705548fd26c2e5d04f47b89a4a561fd2fed8e654fbecc16eab18e27", checked := Tryd.checked }
namespace Rows
def none {H : Type} : Left H := { results := [], args := [] }

/- WHAT THE LISTED PACKAGE-LEVEL VARIABLES READ AS WHEN THE CALL BEGINS. Each datum BY PROGRAM (the guide's laid-datum.mjs) off the statement by which the dump's own 'gosem.cut.vars' lays the variable. In a bare row this is a premise. The card (Qxb6612991aDoorRRCards.lean) ties it to the program's text. -/
def laid_example_com_pred5_pred5_colorTypes {H : Type} : DataW H := .map [(.int .u8 0, .agg [.lit (.int .i64 1), .slice [.lit (.int .i64 1), .lit (.int .i64 2), .lit (.int .i64 4), .lit (.int .i64 8), .lit (.int .i64 16)] []]), (.int .u8 2, .agg [.lit (.int .i64 3), .slice [.lit (.int .i64 8), .lit (.int .i64 16)] []]), (.int .u8 3, .agg [.lit (.int .i64 1), .slice [.lit (.int .i64 1), .lit (.int .i64 2), .lit (.int .i64 4), .lit (.int .i64 8)] []]), (.int .u8 4, .agg [.lit (.int .i64 2), .slice [.lit (.int .i64 8), .lit (.int .i64 16)] []]), (.int .u8 6, .agg [.lit (.int .i64 4), .slice [.lit (.int .i64 8), .lit (.int .i64 16)] []])]

/-- 'zzlaws_root_b1.FnNewColorReaderShapes': WHATEVER THE INPUT: true; the input reads as it did. -/
def fnNewColorReaderShapesSpec : ChangeSpec := { name := "fnNewColorReaderShapes", vars := ["example.com/pred5/pred5.colorTypes"], fn := fun _ => fun
  | [d1, d2, d3, d4, d5, d6, g1] => { results := [.lit (.bool true)], args := [d1, d2, d3, d4, d5, d6], vars := [g1] }
  | _ => none }
def fnNewColorReaderShapesRow : OpenClaim := { program := "qxb6612991adoorrr", sum := "aaee95e3b705548fd26c2e5d04f47b89a4a561fd2fed8e654fbecc16eab18e27", func := "example.com/pred5/pred5/zzlaws_root_b1.FnNewColorReaderShapes", spec := "fnNewColorReaderShapes", named := ["example.com/pred5/pred5.colorTypes"], maps := true, apart := false, laid := [("example.com/pred5/pred5.colorTypes", laid_example_com_pred5_pred5_colorTypes)] }
def FnNewColorReaderShapesSaid : Prop := fnNewColorReaderShapesRow.holds Tryd.pinned (OpenSpec.ofChange fnNewColorReaderShapesSpec)

/-- ITS FALSE NEIGHBOUR: 'it returns false'. Refute it at one input. -/
def fnNewColorReaderShapesWrong : ChangeSpec := { name := "fnNewColorReaderShapes", vars := ["example.com/pred5/pred5.colorTypes"], fn := fun _ => fun
  | [d1, d2, d3, d4, d5, d6, g1] => { results := [.lit (.bool false)], args := [d1, d2, d3, d4, d5, d6], vars := [g1] }
  | _ => none }
def FnNewColorReaderShapesWrongFalsely : Prop := fnNewColorReaderShapesRow.holds Tryd.pinned (OpenSpec.ofChange fnNewColorReaderShapesWrong)

/-- 'zzlaws_root_b1.FnNewColorReaderOwnsItsBuffers': WHATEVER THE INPUT: true; the input reads as it did. -/
def fnNewColorReaderOwnsItsBuffersSpec : ChangeSpec := { name := "fnNewColorReaderOwnsItsBuffers", vars := ["example.com/pred5/pred5.colorTypes"], fn := fun _ => fun
  | [d1, d2, d3, d4, d5, d6, g1] => { results := [.lit (.bool true)], args := [d1, d2, d3, d4, d5, d6], vars := [g1] }
  | _ => none }
def fnNewColorReaderOwnsItsBuffersRow : OpenClaim := { program := "qxb6612991adoorrr", sum := "aaee95e3b705548fd26c2e5d04f47b89a4a561fd2fed8e654fbecc16eab18e27", func := "example.com/pred5/pred5/zzlaws_root_b1.FnNewColorReaderOwnsItsBuffers", spec := "fnNewColorReaderOwnsItsBuffers", named := ["example.com/pred5/pred5.colorTypes"], maps := true, apart := false, laid := [("example.com/pred5/pred5.colorTypes", laid_example_com_pred5_pred5_colorTypes)] }
def FnNewColorReaderOwnsItsBuffersSaid : Prop := fnNewColorReaderOwnsItsBuffersRow.holds Tryd.pinned (OpenSpec.ofChange fnNewColorReaderOwnsItsBuffersSpec)

/-- ITS FALSE NEIGHBOUR: 'it returns false'. Refute it at one input. -/
def fnNewColorReaderOwnsItsBuffersWrong : ChangeSpec := { name := "fnNewColorReaderOwnsItsBuffers", vars := ["example.com/pred5/pred5.colorTypes"], fn := fun _ => fun
  | [d1, d2, d3, d4, d5, d6, g1] => { results := [.lit (.bool false)], args := [d1, d2, d3, d4, d5, d6], vars := [g1] }
  | _ => none }
def FnNewColorReaderOwnsItsBuffersWrongFalsely : Prop := fnNewColorReaderOwnsItsBuffersRow.holds Tryd.pinned (OpenSpec.ofChange fnNewColorReaderOwnsItsBuffersWrong)

end Rows
end Go.Proofs.Qxb6612991aDoorRR
