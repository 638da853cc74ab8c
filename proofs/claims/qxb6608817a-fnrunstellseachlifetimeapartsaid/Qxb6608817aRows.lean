/-
  No cell of these rows narrows 'for every input' (looked for: loops, veiled, ifaces, maps, wideKeys, modest, calm, conditions, laid).
  DERIVED. THE GIVEN ROWS OF THIS SEAT. 1 by the template 'for every input the law returns true; each argument reads behind the call as it read before'; 0 by the template 'total and deterministic' (their statements: Qxb6608817aTotals.lean).
  GIVEN WITH THE SEED: the statements are not yours to turn. If you find one false, say at which input.
  Laid BY PROGRAM, IN A SANDBOX (cutbox-rows.mjs): the forced cells as the released guide's own fill.sh prints them over the translation edc2c352dec1795f… (all of the seat's roots in one cut). By AI agents, Wed Nov 11 2026. No macro, syntax, notation, axiom, sorry.
-/
import Derived.Test.Qxb6608817aChecked
import GoSem.Claim
import GoSem.ClaimJoined
import GoSem.ClaimMapViews
import Derived.JoinedTies
import Derived.KernelRfl
namespace Go.Proofs.Qxb6608817a
/- THE CELL 'sum', in the pinned program and in every row, IS THE sha256 OF THE DUMP (.gsa) THAT Qxb6608817aProg.lean LOADS. Nothing in Lean hashes anything: it is a label: what it is worth is what the hold of that sum in a sandbox is worth. -/
noncomputable def Try.pinned : Pinned := { name := "qxb6608817a", sum := "edc2c352dec1795f64dd06e353fc0dcebc3973ea11acfeac24c8caff1894b619", checked := Try.checked }
namespace Rows
def none {H : Type} : Left H := { results := [], args := [] }

/-- 'zzlaws_root_b1.FnRunsTellsEachLifetimeApart': WHATEVER THE INPUT: true; the input reads as it did. -/
def fnRunsTellsEachLifetimeApartSpec : ChangeSpec := { name := "fnRunsTellsEachLifetimeApart", fn := fun _ => fun
  | [d1, d2] => { results := [.lit (.bool true)], args := [d1, d2] }
  | _ => none }
def fnRunsTellsEachLifetimeApartRow : OpenClaim := { program := "qxb6608817a", sum := "edc2c352dec1795f64dd06e353fc0dcebc3973ea11acfeac24c8caff1894b619", func := "example.com/lean-injector/lean-injector/zzlaws_root_b1.FnRunsTellsEachLifetimeApart", spec := "fnRunsTellsEachLifetimeApart", apart := false }
def FnRunsTellsEachLifetimeApartSaid : Prop := fnRunsTellsEachLifetimeApartRow.holds Try.pinned (OpenSpec.ofChange fnRunsTellsEachLifetimeApartSpec)

/-- ITS FALSE NEIGHBOUR: 'it returns false'. Refute it at one input. -/
def fnRunsTellsEachLifetimeApartWrong : ChangeSpec := { name := "fnRunsTellsEachLifetimeApart", fn := fun _ => fun
  | [d1, d2] => { results := [.lit (.bool false)], args := [d1, d2] }
  | _ => none }
def FnRunsTellsEachLifetimeApartWrongFalsely : Prop := fnRunsTellsEachLifetimeApartRow.holds Try.pinned (OpenSpec.ofChange fnRunsTellsEachLifetimeApartWrong)

end Rows
end Go.Proofs.Qxb6608817a
