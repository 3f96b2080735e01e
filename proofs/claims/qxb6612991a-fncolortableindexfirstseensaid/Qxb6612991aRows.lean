/-
  No cell of these rows narrows 'for every input' (looked for: loops, veiled, ifaces, maps, wideKeys, modest, calm, conditions, laid).
  DERIVED. THE GIVEN ROWS OF THIS SEAT. 2 by the template 'for every input the law returns true; each argument reads behind the call as it read before'; 0 by the template 'total and deterministic' (their statements: Qxb6612991aTotals.lean).
  GIVEN WITH THE SEED: the statements are not yours to turn. If you find one false, say at which input.
  Laid BY PROGRAM, IN A SANDBOX (cutbox-rows.mjs): the forced cells as the released guide's own fill.sh prints them over the translation 84b281e0abecd583… (all of the seat's roots in one cut). By AI agents, Wed Nov 11 2026. No macro, syntax, notation, axiom, sorry.
-/
import Derived.Test.Qxb6612991aChecked
import GoSem.Claim
import GoSem.ClaimJoined
import GoSem.ClaimMapViews
import Derived.JoinedTies
import Derived.KernelRfl
namespace Go.Proofs.Qxb6612991a
/- THE CELL 'sum', in the pinned program and in every row, IS THE sha256 OF THE DUMP (.gsa) THAT Qxb6612991aProg.lean LOADS. Nothing in Lean hashes anything: it is a label: what it is worth is what the hold of that sum in a sandbox is worth. -/
noncomputable def Try.pinned : Pinned := { name := "qxb6612991a", sum := "84b281e0abecd5836eff0dfded4e7de6e81b2a03804af483d2a9b837ff042c4a", checked := Try.checked }
namespace Rows
def none {H : Type} : Left H := { results := [], args := [] }

/-- 'zzlaws_root_b1.FnColorTableIndexFirstSeen': WHATEVER THE INPUT: true; the input reads as it did. -/
def fnColorTableIndexFirstSeenSpec : ChangeSpec := { name := "fnColorTableIndexFirstSeen", fn := fun _ => fun
  | [d1, d2] => { results := [.lit (.bool true)], args := [d1, d2] }
  | _ => none }
def fnColorTableIndexFirstSeenRow : OpenClaim := { program := "qxb6612991a", sum := "84b281e0abecd5836eff0dfded4e7de6e81b2a03804af483d2a9b837ff042c4a", func := "example.com/pred5/pred5/zzlaws_root_b1.FnColorTableIndexFirstSeen", spec := "fnColorTableIndexFirstSeen", apart := false }
def FnColorTableIndexFirstSeenSaid : Prop := fnColorTableIndexFirstSeenRow.holds Try.pinned (OpenSpec.ofChange fnColorTableIndexFirstSeenSpec)

/-- ITS FALSE NEIGHBOUR: 'it returns false'. Refute it at one input. -/
def fnColorTableIndexFirstSeenWrong : ChangeSpec := { name := "fnColorTableIndexFirstSeen", fn := fun _ => fun
  | [d1, d2] => { results := [.lit (.bool false)], args := [d1, d2] }
  | _ => none }
def FnColorTableIndexFirstSeenWrongFalsely : Prop := fnColorTableIndexFirstSeenRow.holds Try.pinned (OpenSpec.ofChange fnColorTableIndexFirstSeenWrong)

/-- 'zzlaws_root_b1.FnColorTableIndexStableAsItGrows': WHATEVER THE INPUT: true; the input reads as it did. -/
def fnColorTableIndexStableAsItGrowsSpec : ChangeSpec := { name := "fnColorTableIndexStableAsItGrows", fn := fun _ => fun
  | [d] => { results := [.lit (.bool true)], args := [d] }
  | _ => none }
def fnColorTableIndexStableAsItGrowsRow : OpenClaim := { program := "qxb6612991a", sum := "84b281e0abecd5836eff0dfded4e7de6e81b2a03804af483d2a9b837ff042c4a", func := "example.com/pred5/pred5/zzlaws_root_b1.FnColorTableIndexStableAsItGrows", spec := "fnColorTableIndexStableAsItGrows", apart := false }
def FnColorTableIndexStableAsItGrowsSaid : Prop := fnColorTableIndexStableAsItGrowsRow.holds Try.pinned (OpenSpec.ofChange fnColorTableIndexStableAsItGrowsSpec)

/-- ITS FALSE NEIGHBOUR: 'it returns false'. Refute it at one input. -/
def fnColorTableIndexStableAsItGrowsWrong : ChangeSpec := { name := "fnColorTableIndexStableAsItGrows", fn := fun _ => fun
  | [d] => { results := [.lit (.bool false)], args := [d] }
  | _ => none }
def FnColorTableIndexStableAsItGrowsWrongFalsely : Prop := fnColorTableIndexStableAsItGrowsRow.holds Try.pinned (OpenSpec.ofChange fnColorTableIndexStableAsItGrowsWrong)

end Rows
end Go.Proofs.Qxb6612991a
