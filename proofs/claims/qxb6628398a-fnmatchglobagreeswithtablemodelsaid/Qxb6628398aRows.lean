/-
  No cell of these rows narrows 'for every input' (looked for: loops, veiled, ifaces, maps, wideKeys, modest, calm, conditions, laid).
  DERIVED. THE GIVEN ROWS OF THIS SEAT. 2 by the template 'for every input the law returns true; each argument reads behind the call as it read before'; 0 by the template 'total and deterministic' (their statements: Qxb6628398aTotals.lean).
  GIVEN WITH THE SEED: the statements are not yours to turn. If you find one false, say at which input.
  Laid BY PROGRAM, IN A SANDBOX (cutbox-rows.mjs): the forced cells as the released guide's own fill.sh prints them over the translation 7c1a831bc87bddbf… (all of the seat's roots in one cut). By AI agents, Wed Nov 11 2026. No macro, syntax, notation, axiom, sorry.
-/
import Derived.Test.Qxb6628398aChecked
import GoSem.Claim
import GoSem.ClaimJoined
import GoSem.ClaimMapViews
import Derived.JoinedTies
import Derived.KernelRfl
namespace Go.Proofs.Qxb6628398a
/- THE CELL 'sum', in the pinned program and in every row, IS THE sha256 OF THE DUMP (.gsa) THAT Qxb6628398aProg.lean LOADS. Nothing in Lean hashes anything: it is a label: what it is worth is what the hold of that sum in a sandbox is worth. -/
noncomputable def Try.pinned : Pinned := { name := "qxb6628398a", sum := "7c1a831bc87bddbf320bca35d73e3675827546de031a079a21ca46d1734c027f", checked := Try.checked }
namespace Rows
def none {H : Type} : Left H := { results := [], args := [] }

/-- 'zzlaws_command_b1.FnMatchGlobAgreesWithTableModel': WHATEVER THE INPUT: true; the input reads as it did. -/
def fnMatchGlobAgreesWithTableModelSpec : ChangeSpec := { name := "fnMatchGlobAgreesWithTableModel", fn := fun _ => fun
  | [d1, d2] => { results := [.lit (.bool true)], args := [d1, d2] }
  | _ => none }
def fnMatchGlobAgreesWithTableModelRow : OpenClaim := { program := "qxb6628398a", sum := "7c1a831bc87bddbf320bca35d73e3675827546de031a079a21ca46d1734c027f", func := "example.com/humble-keyspace/humble-keyspace/zzlaws_command_b1.FnMatchGlobAgreesWithTableModel", spec := "fnMatchGlobAgreesWithTableModel", apart := false }
def FnMatchGlobAgreesWithTableModelSaid : Prop := fnMatchGlobAgreesWithTableModelRow.holds Try.pinned (OpenSpec.ofChange fnMatchGlobAgreesWithTableModelSpec)

/-- ITS FALSE NEIGHBOUR: 'it returns false'. Refute it at one input. -/
def fnMatchGlobAgreesWithTableModelWrong : ChangeSpec := { name := "fnMatchGlobAgreesWithTableModel", fn := fun _ => fun
  | [d1, d2] => { results := [.lit (.bool false)], args := [d1, d2] }
  | _ => none }
def FnMatchGlobAgreesWithTableModelWrongFalsely : Prop := fnMatchGlobAgreesWithTableModelRow.holds Try.pinned (OpenSpec.ofChange fnMatchGlobAgreesWithTableModelWrong)

/-- 'zzlaws_command_b1.FnMatchGlobEscapedIsLiteral': WHATEVER THE INPUT: true; the input reads as it did. -/
def fnMatchGlobEscapedIsLiteralSpec : ChangeSpec := { name := "fnMatchGlobEscapedIsLiteral", fn := fun _ => fun
  | [d1, d2] => { results := [.lit (.bool true)], args := [d1, d2] }
  | _ => none }
def fnMatchGlobEscapedIsLiteralRow : OpenClaim := { program := "qxb6628398a", sum := "7c1a831bc87bddbf320bca35d73e3675827546de031a079a21ca46d1734c027f", func := "example.com/humble-keyspace/humble-keyspace/zzlaws_command_b1.FnMatchGlobEscapedIsLiteral", spec := "fnMatchGlobEscapedIsLiteral", apart := false }
def FnMatchGlobEscapedIsLiteralSaid : Prop := fnMatchGlobEscapedIsLiteralRow.holds Try.pinned (OpenSpec.ofChange fnMatchGlobEscapedIsLiteralSpec)

/-- ITS FALSE NEIGHBOUR: 'it returns false'. Refute it at one input. -/
def fnMatchGlobEscapedIsLiteralWrong : ChangeSpec := { name := "fnMatchGlobEscapedIsLiteral", fn := fun _ => fun
  | [d1, d2] => { results := [.lit (.bool false)], args := [d1, d2] }
  | _ => none }
def FnMatchGlobEscapedIsLiteralWrongFalsely : Prop := fnMatchGlobEscapedIsLiteralRow.holds Try.pinned (OpenSpec.ofChange fnMatchGlobEscapedIsLiteralWrong)

end Rows
end Go.Proofs.Qxb6628398a
