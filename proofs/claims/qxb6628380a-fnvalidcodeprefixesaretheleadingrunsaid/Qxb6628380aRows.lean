/-
  No cell of these rows narrows 'for every input' (looked for: loops, veiled, ifaces, maps, wideKeys, modest, calm, conditions, laid).
  DERIVED. THE GIVEN ROWS OF THIS SEAT. 1 by the template 'for every input the law returns true; each argument reads behind the call as it read before'; 0 by the template 'total and deterministic' (their statements: Qxb6628380aTotals.lean).
  GIVEN WITH THE SEED: the statements are not yours to turn. If you find one false, say at which input.
  Laid BY PROGRAM, IN A SANDBOX (cutbox-rows.mjs): the forced cells as the released guide's own fill.sh prints them over the translation 269a10a07d3789ea… (all of the seat's roots in one cut). By AI agents, Wed Nov 11 2026. No macro, syntax, notation, axiom, sorry.
-/
import Derived.Test.Qxb6628380aChecked
import GoSem.Claim
import GoSem.ClaimJoined
import GoSem.ClaimMapViews
import Derived.JoinedTies
import Derived.KernelRfl
namespace Go.Proofs.Qxb6628380a
/- THE CELL 'sum', in the pinned program and in every row, IS THE sha256 OF THE DUMP (.gsa) THAT Qxb6628380aProg.lean LOADS. Nothing in Lean hashes anything: it is a label: what it is worth is what the hold of that sum in a sandbox is worth. -/
noncomputable def Try.pinned : Pinned := { name := "qxb6628380a", sum := "269a10a07d3789ea8df660683ffa6b7557c33e5f3b7d9c397d65c14e1d2d28aa", checked := Try.checked }
namespace Rows
def none {H : Type} : Left H := { results := [], args := [] }

/-- 'zzlaws_internal_ofd_b1.FnValidCodePrefixesAreTheLeadingRun': WHATEVER THE INPUT: true; the input reads as it did. -/
def fnValidCodePrefixesAreTheLeadingRunSpec : ChangeSpec := { name := "fnValidCodePrefixesAreTheLeadingRun", fn := fun _ => fun
  | [d] => { results := [.lit (.bool true)], args := [d] }
  | _ => none }
def fnValidCodePrefixesAreTheLeadingRunRow : OpenClaim := { program := "qxb6628380a", sum := "269a10a07d3789ea8df660683ffa6b7557c33e5f3b7d9c397d65c14e1d2d28aa", func := "example.com/zhaomu/zhaomu/zzlaws_internal_ofd_b1.FnValidCodePrefixesAreTheLeadingRun", spec := "fnValidCodePrefixesAreTheLeadingRun", apart := false }
def FnValidCodePrefixesAreTheLeadingRunSaid : Prop := fnValidCodePrefixesAreTheLeadingRunRow.holds Try.pinned (OpenSpec.ofChange fnValidCodePrefixesAreTheLeadingRunSpec)

/-- ITS FALSE NEIGHBOUR: 'it returns false'. Refute it at one input. -/
def fnValidCodePrefixesAreTheLeadingRunWrong : ChangeSpec := { name := "fnValidCodePrefixesAreTheLeadingRun", fn := fun _ => fun
  | [d] => { results := [.lit (.bool false)], args := [d] }
  | _ => none }
def FnValidCodePrefixesAreTheLeadingRunWrongFalsely : Prop := fnValidCodePrefixesAreTheLeadingRunRow.holds Try.pinned (OpenSpec.ofChange fnValidCodePrefixesAreTheLeadingRunWrong)

end Rows
end Go.Proofs.Qxb6628380a
