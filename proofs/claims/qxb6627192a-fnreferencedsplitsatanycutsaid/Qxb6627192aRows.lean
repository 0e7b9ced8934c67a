/-
  No cell of these rows narrows 'for every input' (looked for: loops, veiled, ifaces, maps, wideKeys, modest, calm, conditions, laid).
  DERIVED. THE GIVEN ROWS OF THIS SEAT. 2 by the template 'for every input the law returns true; each argument reads behind the call as it read before'; 0 by the template 'total and deterministic' (their statements: Qxb6627192aTotals.lean).
  GIVEN WITH THE SEED: the statements are not yours to turn. If you find one false, say at which input.
  Laid BY PROGRAM, IN A SANDBOX (cutbox-rows.mjs): the forced cells as the released guide's own fill.sh prints them over the translation 009d4131793598a0… (all of the seat's roots in one cut). By AI agents, Wed Nov 11 2026. No macro, syntax, notation, axiom, sorry.
-/
import Derived.Test.Qxb6627192aChecked
import GoSem.Claim
import GoSem.ClaimJoined
import GoSem.ClaimMapViews
import Derived.JoinedTies
import Derived.KernelRfl
namespace Go.Proofs.Qxb6627192a
/- THE CELL 'sum', in the pinned program and in every row, IS THE sha256 OF THE DUMP (.gsa) THAT Qxb6627192aProg.lean LOADS. Nothing in Lean hashes anything: it is a label: what it is worth is what the hold of that sum in a sandbox is worth. -/
noncomputable def Try.pinned : Pinned := { name := "qxb6627192a", sum := "009d4131793598a09e750c6880e56521adcf6692d808e86770f756b00dcb09c3", checked := Try.checked }
namespace Rows
def none {H : Type} : Left H := { results := [], args := [] }

/-- 'zzlaws_migration_b1.FnReferencedSplitsAtAnyCut': WHATEVER THE INPUT: true; the input reads as it did. -/
def fnReferencedSplitsAtAnyCutSpec : ChangeSpec := { name := "fnReferencedSplitsAtAnyCut", fn := fun _ => fun
  | [d1, d2, d3] => { results := [.lit (.bool true)], args := [d1, d2, d3] }
  | _ => none }
def fnReferencedSplitsAtAnyCutRow : OpenClaim := { program := "qxb6627192a", sum := "009d4131793598a09e750c6880e56521adcf6692d808e86770f756b00dcb09c3", func := "example.com/glidepath/glidepath/zzlaws_migration_b1.FnReferencedSplitsAtAnyCut", spec := "fnReferencedSplitsAtAnyCut", apart := false }
def FnReferencedSplitsAtAnyCutSaid : Prop := fnReferencedSplitsAtAnyCutRow.holds Try.pinned (OpenSpec.ofChange fnReferencedSplitsAtAnyCutSpec)

/-- ITS FALSE NEIGHBOUR: 'it returns false'. Refute it at one input. -/
def fnReferencedSplitsAtAnyCutWrong : ChangeSpec := { name := "fnReferencedSplitsAtAnyCut", fn := fun _ => fun
  | [d1, d2, d3] => { results := [.lit (.bool false)], args := [d1, d2, d3] }
  | _ => none }
def FnReferencedSplitsAtAnyCutWrongFalsely : Prop := fnReferencedSplitsAtAnyCutRow.holds Try.pinned (OpenSpec.ofChange fnReferencedSplitsAtAnyCutWrong)

/-- 'zzlaws_migration_b1.FnReferencedIsTheSetOfDistinctReferences': WHATEVER THE INPUT: true; the input reads as it did. -/
def fnReferencedIsTheSetOfDistinctReferencesSpec : ChangeSpec := { name := "fnReferencedIsTheSetOfDistinctReferences", fn := fun _ => fun
  | [d1, d2] => { results := [.lit (.bool true)], args := [d1, d2] }
  | _ => none }
def fnReferencedIsTheSetOfDistinctReferencesRow : OpenClaim := { program := "qxb6627192a", sum := "009d4131793598a09e750c6880e56521adcf6692d808e86770f756b00dcb09c3", func := "example.com/glidepath/glidepath/zzlaws_migration_b1.FnReferencedIsTheSetOfDistinctReferences", spec := "fnReferencedIsTheSetOfDistinctReferences", apart := false }
def FnReferencedIsTheSetOfDistinctReferencesSaid : Prop := fnReferencedIsTheSetOfDistinctReferencesRow.holds Try.pinned (OpenSpec.ofChange fnReferencedIsTheSetOfDistinctReferencesSpec)

/-- ITS FALSE NEIGHBOUR: 'it returns false'. Refute it at one input. -/
def fnReferencedIsTheSetOfDistinctReferencesWrong : ChangeSpec := { name := "fnReferencedIsTheSetOfDistinctReferences", fn := fun _ => fun
  | [d1, d2] => { results := [.lit (.bool false)], args := [d1, d2] }
  | _ => none }
def FnReferencedIsTheSetOfDistinctReferencesWrongFalsely : Prop := fnReferencedIsTheSetOfDistinctReferencesRow.holds Try.pinned (OpenSpec.ofChange fnReferencedIsTheSetOfDistinctReferencesWrong)

end Rows
end Go.Proofs.Qxb6627192a
