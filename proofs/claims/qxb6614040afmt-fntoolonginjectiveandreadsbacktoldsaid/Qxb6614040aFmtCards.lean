/-
  DERIVED. GIVEN WITH THE SEED: THE CARDS: each row of Qxb6614040aFmtRows.lean that lists a variable, with what it lists TIED to the program's text (the seventh form; the later family's looks); each row that meets fmt, with fmt's text TOLD by the authors' own Lean function (tested against real Go, not proved from fmt's source: count such statements apart). THE CARD IS WHAT COUNTS. Prove the row's statement (the work); the ties are given (Qxb6614040aFmtTie.lean); close each card by the builder's one call (the guide's Derived/Test/ToyasCard.lean, 'card_holds'). Laid BY PROGRAM, IN A SANDBOX (cutbox-door.mjs). By AI agents, Wed Nov 11 2026. No macro, syntax, notation, axiom, sorry.
-/
import Derived.Test.Qxb6614040aFmtRows
import GoSem.ClaimSeven
namespace Go.Proofs.Qxb6614040aFmt
namespace Rows

/-- THE TOLD CARD OF 'zzlaws_pkg_schema_b1.FnTooLongInjectiveAndReadsBack'. -/
def fnTooLongInjectiveAndReadsBackCard : Claim7 := { stood := { row := fnTooLongInjectiveAndReadsBackRow, standIns := [], harness := (true, "57133289faf10e809389568c8e8b42934d33828f6c0f22601344ef4444c85a91"), looks := false }, told := true, goes := false }
def FnTooLongInjectiveAndReadsBackToldSaid : Prop := Claim7.holds Tryf.pinned (.plain (OpenSpec.ofChange fnTooLongInjectiveAndReadsBackSpec)) fnTooLongInjectiveAndReadsBackCard
/-- ITS FALSE NEIGHBOUR. Refute it at one input. -/
def FnTooLongInjectiveAndReadsBackToldWrongFalsely : Prop := Claim7.holds Tryf.pinned (.plain (OpenSpec.ofChange fnTooLongInjectiveAndReadsBackWrong)) fnTooLongInjectiveAndReadsBackCard
end Rows
end Go.Proofs.Qxb6614040aFmt
