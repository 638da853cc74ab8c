/-
  No cell of these rows narrows 'for every input' (looked for: loops, veiled, ifaces, maps, wideKeys, modest, calm, conditions, laid).
  DERIVED. THE GIVEN ROWS OF THIS SEAT. 1 by the template 'for every input the law returns true; each argument reads behind the call as it read before'; 0 by the template 'total and deterministic' (their statements: Qxb6613636aFmtTotals.lean).
  GIVEN WITH THE SEED: the statements are not yours to turn. If you find one false, say at which input.
  Laid BY PROGRAM, IN A SANDBOX (cutbox-rows.mjs): the forced cells as the released guide's own fill.sh prints them over the translation f9ab79240847595c… (all of the seat's roots in one cut). By AI agents, Wed Nov 11 2026. No macro, syntax, notation, axiom, sorry.
-/
import Derived.Test.Qxb6613636aFmtChecked
import GoSem.Claim
import GoSem.ClaimJoined
import GoSem.ClaimMapViews
import Derived.JoinedTies
import Derived.KernelRfl
namespace Go.Proofs.Qxb6613636aFmt
/- THE CELL 'sum', in the pinned program and in every row, IS THE sha256 OF THE DUMP (.gsa) THAT Qxb6613636aFmtProg.lean LOADS. Nothing in Lean hashes anything: it is a label: what it is worth is what the hold of that sum in a sandbox is worth. -/
noncomputable def Tryf.pinned : Pinned := { name := "qxb6613636afmt", sum := "f9ab79240847595c4511c2a390615097c7a06f543e2fcad25ff075f92ea3d18c", checked := Tryf.checked }
namespace Rows
def none {H : Type} : Left H := { results := [], args := [] }

/-- 'zzlaws_internal_http1_b1.FnMalformedDecimalVerb': WHATEVER THE INPUT: true; the input reads as it did. -/
def fnMalformedDecimalVerbSpec : ChangeSpec := { name := "fnMalformedDecimalVerb", fn := fun _ => fun
  | [d1, d2] => { results := [.lit (.bool true)], args := [d1, d2] }
  | _ => none }
def fnMalformedDecimalVerbRow : OpenClaim := { program := "qxb6613636afmt", sum := "f9ab79240847595c4511c2a390615097c7a06f543e2fcad25ff075f92ea3d18c", func := "example.com/sizeloom/sizeloom/zzlaws_internal_http1_b1.FnMalformedDecimalVerb", spec := "fnMalformedDecimalVerb", stops := ["fmt.Sprintf, its operands' methods called"], inPlace := ["fmt.Sprintf"], unfollowed := true, recurses := true, apart := false }
/-- NO THEOREM (fmt's text is open here; it may be false): for the released tool's asking of the row's closed facts alone. THE STATEMENT IS 'FnMalformedDecimalVerbToldSaid' (Qxb6613636aFmtCards.lean). -/
def FnMalformedDecimalVerbFormAsk : Prop := fnMalformedDecimalVerbRow.holds Tryf.pinned (OpenSpec.ofChange fnMalformedDecimalVerbSpec)

/-- ITS FALSE NEIGHBOUR: 'it returns false'. Refute it at one input. -/
def fnMalformedDecimalVerbWrong : ChangeSpec := { name := "fnMalformedDecimalVerb", fn := fun _ => fun
  | [d1, d2] => { results := [.lit (.bool false)], args := [d1, d2] }
  | _ => none }
def FnMalformedDecimalVerbWrongFormAsk : Prop := fnMalformedDecimalVerbRow.holds Tryf.pinned (OpenSpec.ofChange fnMalformedDecimalVerbWrong)

end Rows
end Go.Proofs.Qxb6613636aFmt
