/-
  No cell of these rows narrows 'for every input' (looked for: loops, veiled, ifaces, maps, wideKeys, modest, calm, conditions, laid).
  DERIVED. THE GIVEN ROWS OF THIS SEAT. 2 by the template 'for every input the law returns true; each argument reads behind the call as it read before'; 0 by the template 'total and deterministic' (their statements: Qxb6626886aTotals.lean).
  GIVEN WITH THE SEED: the statements are not yours to turn. If you find one false, say at which input.
  Laid BY PROGRAM, IN A SANDBOX (cutbox-rows.mjs): the forced cells as the released guide's own fill.sh prints them over the translation 2d8f4c676ac3c26c… (all of the seat's roots in one cut). By AI agents, Wed Nov 11 2026. No macro, syntax, notation, axiom, sorry.
-/
import Derived.Test.Qxb6626886aChecked
import GoSem.Claim
import GoSem.ClaimJoined
import GoSem.ClaimMapViews
import Derived.JoinedTies
import Derived.KernelRfl
namespace Go.Proofs.Qxb6626886a
/- THE CELL 'sum', in the pinned program and in every row, IS THE sha256 OF THE DUMP (.gsa) THAT Qxb6626886aProg.lean LOADS. Nothing in Lean hashes anything: it is a label: what it is worth is what the hold of that sum in a sandbox is worth. -/
noncomputable def Try.pinned : Pinned := { name := "qxb6626886a", sum := "2d8f4c676ac3c26c5833144a36c9bd8ce472475a77ca894d524a1b8cb6d585ba", checked := Try.checked }
namespace Rows
def none {H : Type} : Left H := { results := [], args := [] }

/-- 'zzlaws_root_b1.FnSignNegationAndCharacterised': WHATEVER THE INPUT: true; the input reads as it did. -/
def fnSignNegationAndCharacterisedSpec : ChangeSpec := { name := "fnSignNegationAndCharacterised", fn := fun _ => fun
  | [d1, d2] => { results := [.lit (.bool true)], args := [d1, d2] }
  | _ => none }
def fnSignNegationAndCharacterisedRow : OpenClaim := { program := "qxb6626886a", sum := "2d8f4c676ac3c26c5833144a36c9bd8ce472475a77ca894d524a1b8cb6d585ba", func := "example.com/numden/numden/zzlaws_root_b1.FnSignNegationAndCharacterised", spec := "fnSignNegationAndCharacterised", apart := false }
def FnSignNegationAndCharacterisedSaid : Prop := fnSignNegationAndCharacterisedRow.holds Try.pinned (OpenSpec.ofChange fnSignNegationAndCharacterisedSpec)

/-- ITS FALSE NEIGHBOUR: 'it returns false'. Refute it at one input. -/
def fnSignNegationAndCharacterisedWrong : ChangeSpec := { name := "fnSignNegationAndCharacterised", fn := fun _ => fun
  | [d1, d2] => { results := [.lit (.bool false)], args := [d1, d2] }
  | _ => none }
def FnSignNegationAndCharacterisedWrongFalsely : Prop := fnSignNegationAndCharacterisedRow.holds Try.pinned (OpenSpec.ofChange fnSignNegationAndCharacterisedWrong)

/-- 'zzlaws_root_b1.FnSignReciprocal': WHATEVER THE INPUT: true; the input reads as it did. -/
def fnSignReciprocalSpec : ChangeSpec := { name := "fnSignReciprocal", fn := fun _ => fun
  | [d1, d2] => { results := [.lit (.bool true)], args := [d1, d2] }
  | _ => none }
def fnSignReciprocalRow : OpenClaim := { program := "qxb6626886a", sum := "2d8f4c676ac3c26c5833144a36c9bd8ce472475a77ca894d524a1b8cb6d585ba", func := "example.com/numden/numden/zzlaws_root_b1.FnSignReciprocal", spec := "fnSignReciprocal", apart := false }
def FnSignReciprocalSaid : Prop := fnSignReciprocalRow.holds Try.pinned (OpenSpec.ofChange fnSignReciprocalSpec)

/-- ITS FALSE NEIGHBOUR: 'it returns false'. Refute it at one input. -/
def fnSignReciprocalWrong : ChangeSpec := { name := "fnSignReciprocal", fn := fun _ => fun
  | [d1, d2] => { results := [.lit (.bool false)], args := [d1, d2] }
  | _ => none }
def FnSignReciprocalWrongFalsely : Prop := fnSignReciprocalRow.holds Try.pinned (OpenSpec.ofChange fnSignReciprocalWrong)

end Rows
end Go.Proofs.Qxb6626886a
