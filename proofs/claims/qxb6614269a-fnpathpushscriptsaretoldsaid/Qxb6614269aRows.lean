/-
  No cell of these rows narrows 'for every input' (looked for: loops, veiled, ifaces, maps, wideKeys, modest, calm, conditions, laid).
  DERIVED. THE GIVEN ROWS OF THIS SEAT. 2 by the template 'for every input the law returns true; each argument reads behind the call as it read before'; 0 by the template 'total and deterministic' (their statements: Qxb6614269aTotals.lean).
  GIVEN WITH THE SEED: the statements are not yours to turn. If you find one false, say at which input.
  Laid BY PROGRAM, IN A SANDBOX (cutbox-rows.mjs): the forced cells as the released guide's own fill.sh prints them over the translation b67a5c811ba98f40… (all of the seat's roots in one cut). By AI agents, Wed Nov 11 2026. No macro, syntax, notation, axiom, sorry.
-/
import Derived.Test.Qxb6614269aChecked
import GoSem.Claim
import GoSem.ClaimJoined
import GoSem.ClaimMapViews
import Derived.JoinedTies
import Derived.KernelRfl
namespace Go.Proofs.Qxb6614269a
/- THE CELL 'sum', in the pinned program and in every row, IS THE sha256 OF THE DUMP (.gsa) THAT Qxb6614269aProg.lean LOADS. Nothing in Lean hashes anything: it is a label: what it is worth is what the hold of that sum in a sandbox is worth. -/
noncomputable def Try.pinned : Pinned := { name := "qxb6614269a", sum := "b67a5c811ba98f4053b483c5c88dbf8371b2eb37bbd0892e860ff3cda41e899d", checked := Try.checked }
namespace Rows
def none {H : Type} : Left H := { results := [], args := [] }

/-- 'zzlaws_root_b1.FnPathPushStacksInOrder': WHATEVER THE INPUT: true; the input reads as it did. -/
def fnPathPushStacksInOrderSpec : ChangeSpec := { name := "fnPathPushStacksInOrder", fn := fun _ => fun
  | [d] => { results := [.lit (.bool true)], args := [d] }
  | _ => none }
def fnPathPushStacksInOrderRow : OpenClaim := { program := "qxb6614269a", sum := "b67a5c811ba98f4053b483c5c88dbf8371b2eb37bbd0892e860ff3cda41e899d", func := "example.com/redbough/redbough/zzlaws_root_b1.FnPathPushStacksInOrder", spec := "fnPathPushStacksInOrder", apart := false }
def FnPathPushStacksInOrderSaid : Prop := fnPathPushStacksInOrderRow.holds Try.pinned (OpenSpec.ofChange fnPathPushStacksInOrderSpec)

/-- ITS FALSE NEIGHBOUR: 'it returns false'. Refute it at one input. -/
def fnPathPushStacksInOrderWrong : ChangeSpec := { name := "fnPathPushStacksInOrder", fn := fun _ => fun
  | [d] => { results := [.lit (.bool false)], args := [d] }
  | _ => none }
def FnPathPushStacksInOrderWrongFalsely : Prop := fnPathPushStacksInOrderRow.holds Try.pinned (OpenSpec.ofChange fnPathPushStacksInOrderWrong)

/-- 'zzlaws_root_b1.FnPathPushScriptsAreTold': WHATEVER THE INPUT: true; the input reads as it did. -/
def fnPathPushScriptsAreToldSpec : ChangeSpec := { name := "fnPathPushScriptsAreTold", fn := fun _ => fun
  | [d1, d2] => { results := [.lit (.bool true)], args := [d1, d2] }
  | _ => none }
def fnPathPushScriptsAreToldRow : OpenClaim := { program := "qxb6614269a", sum := "b67a5c811ba98f4053b483c5c88dbf8371b2eb37bbd0892e860ff3cda41e899d", func := "example.com/redbough/redbough/zzlaws_root_b1.FnPathPushScriptsAreTold", spec := "fnPathPushScriptsAreTold", apart := false }
def FnPathPushScriptsAreToldSaid : Prop := fnPathPushScriptsAreToldRow.holds Try.pinned (OpenSpec.ofChange fnPathPushScriptsAreToldSpec)

/-- ITS FALSE NEIGHBOUR: 'it returns false'. Refute it at one input. -/
def fnPathPushScriptsAreToldWrong : ChangeSpec := { name := "fnPathPushScriptsAreTold", fn := fun _ => fun
  | [d1, d2] => { results := [.lit (.bool false)], args := [d1, d2] }
  | _ => none }
def FnPathPushScriptsAreToldWrongFalsely : Prop := fnPathPushScriptsAreToldRow.holds Try.pinned (OpenSpec.ofChange fnPathPushScriptsAreToldWrong)

end Rows
end Go.Proofs.Qxb6614269a
