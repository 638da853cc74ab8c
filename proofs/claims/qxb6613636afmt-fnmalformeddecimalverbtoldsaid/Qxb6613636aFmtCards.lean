/-
  DERIVED. GIVEN WITH THE SEED: THE CARDS: each row of Qxb6613636aFmtRows.lean that lists a variable, with what it lists TIED to the program's text (the seventh form; the later family's looks); each row that meets fmt, with fmt's text TOLD by the authors' own Lean function (tested against real Go, not proved from fmt's source: count such statements apart). THE CARD IS WHAT COUNTS. Prove the row's statement (the work); the ties are given (Qxb6613636aFmtTie.lean); close each card by the builder's one call (the guide's Derived/Test/ToyasCard.lean, 'card_holds'). Laid BY PROGRAM, IN A SANDBOX (cutbox-door.mjs). By AI agents, Wed Nov 11 2026. No macro, syntax, notation, axiom, sorry.
-/
import Derived.Test.Qxb6613636aFmtRows
import GoSem.ClaimSeven
namespace Go.Proofs.Qxb6613636aFmt
namespace Rows

/-- THE TOLD CARD OF 'zzlaws_internal_http1_b1.FnMalformedDecimalVerb'. -/
def fnMalformedDecimalVerbCard : Claim7 := { stood := { row := fnMalformedDecimalVerbRow, standIns := [], harness := (true, "bf9ae8ab3629a44927c8e324b13ba70a4cebb487f090643b8414640f7e6bb0f0"), looks := false }, told := true, goes := false }
def FnMalformedDecimalVerbToldSaid : Prop := Claim7.holds Tryf.pinned (.plain (OpenSpec.ofChange fnMalformedDecimalVerbSpec)) fnMalformedDecimalVerbCard
/-- ITS FALSE NEIGHBOUR. Refute it at one input. -/
def FnMalformedDecimalVerbToldWrongFalsely : Prop := Claim7.holds Tryf.pinned (.plain (OpenSpec.ofChange fnMalformedDecimalVerbWrong)) fnMalformedDecimalVerbCard
end Rows
end Go.Proofs.Qxb6613636aFmt
