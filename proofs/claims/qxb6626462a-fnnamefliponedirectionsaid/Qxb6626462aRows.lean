/-
  No cell of these rows narrows 'for every input' (looked for: loops, veiled, ifaces, maps, wideKeys, modest, calm, conditions, laid).
  DERIVED. THE GIVEN ROWS OF THIS SEAT. 2 by the template 'for every input the law returns true; each argument reads behind the call as it read before'; 0 by the template 'total and deterministic' (their statements: Qxb6626462aTotals.lean).
  GIVEN WITH THE SEED: the statements are not yours to turn. If you find one false, say at which input.
  Laid BY PROGRAM, IN A SANDBOX (cutbox-rows.mjs): the forced cells as the released guide's own fill.sh prints them over the translation a41960ee9b1ae008… (all of the seat's roots in one cut). By AI agents, Wed Nov 11 2026. No macro, syntax, notation, axiom, sorry.
-/
import Derived.Test.Qxb6626462aChecked
import GoSem.Claim
import GoSem.ClaimJoined
import GoSem.ClaimMapViews
import Derived.JoinedTies
import Derived.KernelRfl
namespace Go.Proofs.Qxb6626462a
/- THE CELL 'sum', in the pinned program and in every row, IS THE sha256 OF THE DUMP (.gsa) THAT Qxb6626462aProg.lean LOADS. Nothing in Lean hashes anything: it is a label: what it is worth is what the hold of that sum in a sandbox is worth. -/
noncomputable def Try.pinned : Pinned := { name := "qxb6626462a", sum := "a41960ee9b1ae008676a701d1baff7ae4ea9d6946561fb9285fe5834338c5441", checked := Try.checked }
namespace Rows
def none {H : Type} : Left H := { results := [], args := [] }

/-- 'zzlaws_internal_query_b1.FnNameSplitsAtAnyCut': WHATEVER THE INPUT: true; the input reads as it did. -/
def fnNameSplitsAtAnyCutSpec : ChangeSpec := { name := "fnNameSplitsAtAnyCut", fn := fun _ => fun
  | [d1, d2, d3, d4] => { results := [.lit (.bool true)], args := [d1, d2, d3, d4] }
  | _ => none }
def fnNameSplitsAtAnyCutRow : OpenClaim := { program := "qxb6626462a", sum := "a41960ee9b1ae008676a701d1baff7ae4ea9d6946561fb9285fe5834338c5441", func := "example.com/quorumlog/quorumlog/zzlaws_internal_query_b1.FnNameSplitsAtAnyCut", spec := "fnNameSplitsAtAnyCut", inPlace := ["internal/abi.NoEscape", "internal/bytealg.MakeNoZero"], apart := false }
def FnNameSplitsAtAnyCutSaid : Prop := fnNameSplitsAtAnyCutRow.holds Try.pinned (OpenSpec.ofChange fnNameSplitsAtAnyCutSpec)

/-- ITS FALSE NEIGHBOUR: 'it returns false'. Refute it at one input. -/
def fnNameSplitsAtAnyCutWrong : ChangeSpec := { name := "fnNameSplitsAtAnyCut", fn := fun _ => fun
  | [d1, d2, d3, d4] => { results := [.lit (.bool false)], args := [d1, d2, d3, d4] }
  | _ => none }
def FnNameSplitsAtAnyCutWrongFalsely : Prop := fnNameSplitsAtAnyCutRow.holds Try.pinned (OpenSpec.ofChange fnNameSplitsAtAnyCutWrong)

/-- 'zzlaws_internal_query_b1.FnNameFlipOneDirection': WHATEVER THE INPUT: true; the input reads as it did. -/
def fnNameFlipOneDirectionSpec : ChangeSpec := { name := "fnNameFlipOneDirection", fn := fun _ => fun
  | [d1, d2, d3, d4] => { results := [.lit (.bool true)], args := [d1, d2, d3, d4] }
  | _ => none }
def fnNameFlipOneDirectionRow : OpenClaim := { program := "qxb6626462a", sum := "a41960ee9b1ae008676a701d1baff7ae4ea9d6946561fb9285fe5834338c5441", func := "example.com/quorumlog/quorumlog/zzlaws_internal_query_b1.FnNameFlipOneDirection", spec := "fnNameFlipOneDirection", inPlace := ["internal/abi.NoEscape", "internal/bytealg.MakeNoZero"], apart := false }
def FnNameFlipOneDirectionSaid : Prop := fnNameFlipOneDirectionRow.holds Try.pinned (OpenSpec.ofChange fnNameFlipOneDirectionSpec)

/-- ITS FALSE NEIGHBOUR: 'it returns false'. Refute it at one input. -/
def fnNameFlipOneDirectionWrong : ChangeSpec := { name := "fnNameFlipOneDirection", fn := fun _ => fun
  | [d1, d2, d3, d4] => { results := [.lit (.bool false)], args := [d1, d2, d3, d4] }
  | _ => none }
def FnNameFlipOneDirectionWrongFalsely : Prop := fnNameFlipOneDirectionRow.holds Try.pinned (OpenSpec.ofChange fnNameFlipOneDirectionWrong)

end Rows
end Go.Proofs.Qxb6626462a
