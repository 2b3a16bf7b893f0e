/-
  No cell of these rows narrows 'for every input' (looked for: loops, veiled, ifaces, maps, wideKeys, modest, calm, conditions, laid).
  DERIVED. THE GIVEN ROWS OF THIS SEAT. 1 by the template 'for every input the law returns true; each argument reads behind the call as it read before'; 0 by the template 'total and deterministic' (their statements: Qxb6614411aTotals.lean).
  GIVEN WITH THE SEED: the statements are not yours to turn. If you find one false, say at which input.
  Laid BY PROGRAM, IN A SANDBOX (cutbox-rows.mjs): the forced cells as the released guide's own fill.sh prints them over the translation e67d87768e6024dc… (all of the seat's roots in one cut). By AI agents, Wed Nov 11 2026. No macro, syntax, notation, axiom, sorry.
-/
import Derived.Test.Qxb6614411aChecked
import GoSem.Claim
import GoSem.ClaimJoined
import GoSem.ClaimMapViews
import Derived.JoinedTies
import Derived.KernelRfl
namespace Go.Proofs.Qxb6614411a
/- THE CELL 'sum', in the pinned program and in every row, IS THE sha256 OF THE DUMP (.gsa) THAT Qxb6614411aProg.lean LOADS. Nothing in Lean hashes anything: it is a label: what it is worth is what the hold of that sum in a sandbox is worth. -/
noncomputable def Try.pinned : Pinned := { name := "qxb6614411a", sum := "e67d87768e6024dc7abb61a5244fec7046353d363bc98201a1dc7d0cc05e1b3f", checked := Try.checked }
namespace Rows
def none {H : Type} : Left H := { results := [], args := [] }

/-- 'zzlaws_order_b1.FnPlaceCompareStrictTotalOrder': WHATEVER THE INPUT: true; the input reads as it did. -/
def fnPlaceCompareStrictTotalOrderSpec : ChangeSpec := { name := "fnPlaceCompareStrictTotalOrder", fn := fun _ => fun
  | [d1, d2, d3, d4] => { results := [.lit (.bool true)], args := [d1, d2, d3, d4] }
  | _ => none }
def fnPlaceCompareStrictTotalOrderRow : OpenClaim := { program := "qxb6614411a", sum := "e67d87768e6024dc7abb61a5244fec7046353d363bc98201a1dc7d0cc05e1b3f", func := "example.com/reefcast/reefcast/zzlaws_order_b1.FnPlaceCompareStrictTotalOrder", spec := "fnPlaceCompareStrictTotalOrder", apart := false }
def FnPlaceCompareStrictTotalOrderSaid : Prop := fnPlaceCompareStrictTotalOrderRow.holds Try.pinned (OpenSpec.ofChange fnPlaceCompareStrictTotalOrderSpec)

/-- ITS FALSE NEIGHBOUR: 'it returns false'. Refute it at one input. -/
def fnPlaceCompareStrictTotalOrderWrong : ChangeSpec := { name := "fnPlaceCompareStrictTotalOrder", fn := fun _ => fun
  | [d1, d2, d3, d4] => { results := [.lit (.bool false)], args := [d1, d2, d3, d4] }
  | _ => none }
def FnPlaceCompareStrictTotalOrderWrongFalsely : Prop := fnPlaceCompareStrictTotalOrderRow.holds Try.pinned (OpenSpec.ofChange fnPlaceCompareStrictTotalOrderWrong)

end Rows
end Go.Proofs.Qxb6614411a
