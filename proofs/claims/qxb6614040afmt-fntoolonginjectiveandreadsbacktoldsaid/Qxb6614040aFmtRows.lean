/-
  No cell of these rows narrows 'for every input' (looked for: loops, veiled, ifaces, maps, wideKeys, modest, calm, conditions, laid).
  DERIVED. THE GIVEN ROWS OF THIS SEAT. 1 by the template 'for every input the law returns true; each argument reads behind the call as it read before'; 0 by the template 'total and deterministic' (their statements: Qxb6614040aFmtTotals.lean).
  GIVEN WITH THE SEED: the statements are not yours to turn. If you find one false, say at which input.
  Laid BY PROGRAM, IN A SANDBOX (cutbox-rows.mjs): the forced cells as the released guide's own fill.sh prints them over the translation 10c62f9545069e92… (all of the seat's roots in one cut). By AI agents, Wed Nov 11 2026. No macro, syntax, notation, axiom, sorry.
-/
import Derived.Test.Qxb6614040aFmtChecked
import GoSem.Claim
import GoSem.ClaimJoined
import GoSem.ClaimMapViews
import Derived.JoinedTies
import Derived.KernelRfl
namespace Go.Proofs.Qxb6614040aFmt
/- THE CELL 'sum', in the pinned program and in every row, IS THE sha256 OF THE DUMP (.gsa) THAT Qxb6614040aFmtProg.lean LOADS. Nothing in Lean hashes anything: it is a label: what it is worth is what the hold of that sum in a sandbox is worth. -/
noncomputable def Tryf.pinned : Pinned := { name := "qxb6614040afmt", sum := "10c62f9545069e92a90fe6199ea291b580e351f99f6ec70c943313e3515e5b57", checked := Tryf.checked }
namespace Rows
def none {H : Type} : Left H := { results := [], args := [] }

/-- 'zzlaws_pkg_schema_b1.FnTooLongInjectiveAndReadsBack': WHATEVER THE INPUT: true; the input reads as it did. -/
def fnTooLongInjectiveAndReadsBackSpec : ChangeSpec := { name := "fnTooLongInjectiveAndReadsBack", fn := fun _ => fun
  | [d1, d2] => { results := [.lit (.bool true)], args := [d1, d2] }
  | _ => none }
def fnTooLongInjectiveAndReadsBackRow : OpenClaim := { program := "qxb6614040afmt", sum := "10c62f9545069e92a90fe6199ea291b580e351f99f6ec70c943313e3515e5b57", func := "example.com/wardgate/wardgate/zzlaws_pkg_schema_b1.FnTooLongInjectiveAndReadsBack", spec := "fnTooLongInjectiveAndReadsBack", stops := ["fmt.Sprintf"], inPlace := ["fmt.Sprintf"], apart := false }
/-- NO THEOREM (fmt's text is open here; it may be false): for the released tool's asking of the row's closed facts alone. THE STATEMENT IS 'FnTooLongInjectiveAndReadsBackToldSaid' (Qxb6614040aFmtCards.lean). -/
def FnTooLongInjectiveAndReadsBackFormAsk : Prop := fnTooLongInjectiveAndReadsBackRow.holds Tryf.pinned (OpenSpec.ofChange fnTooLongInjectiveAndReadsBackSpec)

/-- ITS FALSE NEIGHBOUR: 'it returns false'. Refute it at one input. -/
def fnTooLongInjectiveAndReadsBackWrong : ChangeSpec := { name := "fnTooLongInjectiveAndReadsBack", fn := fun _ => fun
  | [d1, d2] => { results := [.lit (.bool false)], args := [d1, d2] }
  | _ => none }
def FnTooLongInjectiveAndReadsBackWrongFormAsk : Prop := fnTooLongInjectiveAndReadsBackRow.holds Tryf.pinned (OpenSpec.ofChange fnTooLongInjectiveAndReadsBackWrong)

end Rows
end Go.Proofs.Qxb6614040aFmt
