/-
  No cell of these rows narrows 'for every input' (looked for: loops, veiled, ifaces, maps, wideKeys, modest, calm, conditions, laid).
  DERIVED. THE GIVEN ROWS OF THIS SEAT. 2 by the template 'for every input the law returns true; each argument reads behind the call as it read before'; 0 by the template 'total and deterministic' (their statements: Qxb6626500aTotals.lean).
  GIVEN WITH THE SEED: the statements are not yours to turn. If you find one false, say at which input.
  Laid BY PROGRAM, IN A SANDBOX (cutbox-rows.mjs): the forced cells as the released guide's own fill.sh prints them over the translation 667f8cd05ea0533a… (all of the seat's roots in one cut). By AI agents, Wed Nov 11 2026. No macro, syntax, notation, axiom, sorry.
-/
import Derived.Test.Qxb6626500aChecked
import GoSem.Claim
import GoSem.ClaimJoined
import GoSem.ClaimMapViews
import Derived.JoinedTies
import Derived.KernelRfl
namespace Go.Proofs.Qxb6626500a
/- THE CELL 'sum', in the pinned program and in every row, IS THE sha256 OF THE DUMP (.gsa) THAT Qxb6626500aProg.lean LOADS. Nothing in Lean hashes anything: it is a label: what it is worth is what the hold of that sum in a sandbox is worth. -/
noncomputable def Try.pinned : Pinned := { name := "qxb6626500a", sum := "667f8cd05ea0533a4b022f82595a84850c89349bd892463a24d104bd785da4ba", checked := Try.checked }
namespace Rows
def none {H : Type} : Left H := { results := [], args := [] }

/-- 'zzlaws_pkg_crontab_b1.FnSplitCommandMatchesLocalRule': WHATEVER THE INPUT: true; the input reads as it did. -/
def fnSplitCommandMatchesLocalRuleSpec : ChangeSpec := { name := "fnSplitCommandMatchesLocalRule", fn := fun _ => fun
  | [d] => { results := [.lit (.bool true)], args := [d] }
  | _ => none }
def fnSplitCommandMatchesLocalRuleRow : OpenClaim := { program := "qxb6626500a", sum := "667f8cd05ea0533a4b022f82595a84850c89349bd892463a24d104bd785da4ba", func := "example.com/noon-bell/noon-bell/zzlaws_pkg_crontab_b1.FnSplitCommandMatchesLocalRule", spec := "fnSplitCommandMatchesLocalRule", inPlace := ["internal/abi.NoEscape"], apart := false }
def FnSplitCommandMatchesLocalRuleSaid : Prop := fnSplitCommandMatchesLocalRuleRow.holds Try.pinned (OpenSpec.ofChange fnSplitCommandMatchesLocalRuleSpec)

/-- ITS FALSE NEIGHBOUR: 'it returns false'. Refute it at one input. -/
def fnSplitCommandMatchesLocalRuleWrong : ChangeSpec := { name := "fnSplitCommandMatchesLocalRule", fn := fun _ => fun
  | [d] => { results := [.lit (.bool false)], args := [d] }
  | _ => none }
def FnSplitCommandMatchesLocalRuleWrongFalsely : Prop := fnSplitCommandMatchesLocalRuleRow.holds Try.pinned (OpenSpec.ofChange fnSplitCommandMatchesLocalRuleWrong)

/-- 'zzlaws_pkg_crontab_b1.FnSplitCommandAppendInput': WHATEVER THE INPUT: true; the input reads as it did. -/
def fnSplitCommandAppendInputSpec : ChangeSpec := { name := "fnSplitCommandAppendInput", fn := fun _ => fun
  | [d1, d2] => { results := [.lit (.bool true)], args := [d1, d2] }
  | _ => none }
def fnSplitCommandAppendInputRow : OpenClaim := { program := "qxb6626500a", sum := "667f8cd05ea0533a4b022f82595a84850c89349bd892463a24d104bd785da4ba", func := "example.com/noon-bell/noon-bell/zzlaws_pkg_crontab_b1.FnSplitCommandAppendInput", spec := "fnSplitCommandAppendInput", inPlace := ["internal/abi.NoEscape"], apart := false }
def FnSplitCommandAppendInputSaid : Prop := fnSplitCommandAppendInputRow.holds Try.pinned (OpenSpec.ofChange fnSplitCommandAppendInputSpec)

/-- ITS FALSE NEIGHBOUR: 'it returns false'. Refute it at one input. -/
def fnSplitCommandAppendInputWrong : ChangeSpec := { name := "fnSplitCommandAppendInput", fn := fun _ => fun
  | [d1, d2] => { results := [.lit (.bool false)], args := [d1, d2] }
  | _ => none }
def FnSplitCommandAppendInputWrongFalsely : Prop := fnSplitCommandAppendInputRow.holds Try.pinned (OpenSpec.ofChange fnSplitCommandAppendInputWrong)

end Rows
end Go.Proofs.Qxb6626500a
