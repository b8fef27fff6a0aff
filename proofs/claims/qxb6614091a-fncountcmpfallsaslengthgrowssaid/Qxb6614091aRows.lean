/-
  No cell of these rows narrows 'for every input' (looked for: loops, veiled, ifaces, maps, wideKeys, modest, calm, conditions, laid).
  DERIVED. THE GIVEN ROWS OF THIS SEAT. 1 by the template 'for every input the law returns true; each argument reads behind the call as it read before'; 0 by the template 'total and deterministic' (their statements: Qxb6614091aTotals.lean).
  GIVEN WITH THE SEED: the statements are not yours to turn. If you find one false, say at which input.
  Laid BY PROGRAM, IN A SANDBOX (cutbox-rows.mjs): the forced cells as the released guide's own fill.sh prints them over the translation e126d8cec62c422f… (all of the seat's roots in one cut). By AI agents, Wed Nov 11 2026. No macro, syntax, notation, axiom, sorry.
-/
import Derived.Test.Qxb6614091aChecked
import GoSem.Claim
import GoSem.ClaimJoined
import GoSem.ClaimMapViews
import Derived.JoinedTies
import Derived.KernelRfl
namespace Go.Proofs.Qxb6614091a
/- THE CELL 'sum', in the pinned program and in every row, IS THE sha256 OF THE DUMP (.gsa) THAT Qxb6614091aProg.lean LOADS. Nothing in Lean hashes anything: it is a label: what it is worth is what the hold of that sum in a sandbox is worth. -/
noncomputable def Try.pinned : Pinned := { name := "qxb6614091a", sum := "e126d8cec62c422f39922a9f5a38fe7c8c37c8dc1f2cfe6e1d2a76e1aac61862", checked := Try.checked }
namespace Rows
def none {H : Type} : Left H := { results := [], args := [] }

/-- 'zzlaws_internal_schema_b1.FnCountCmpFallsAsLengthGrows': WHATEVER THE INPUT: true; the input reads as it did. -/
def fnCountCmpFallsAsLengthGrowsSpec : ChangeSpec := { name := "fnCountCmpFallsAsLengthGrows", fn := fun _ => fun
  | [d1, d2, d3, d4, d5] => { results := [.lit (.bool true)], args := [d1, d2, d3, d4, d5] }
  | _ => none }
def fnCountCmpFallsAsLengthGrowsRow : OpenClaim := { program := "qxb6614091a", sum := "e126d8cec62c422f39922a9f5a38fe7c8c37c8dc1f2cfe6e1d2a76e1aac61862", func := "example.com/remote-evals/remote-evals/zzlaws_internal_schema_b1.FnCountCmpFallsAsLengthGrows", spec := "fnCountCmpFallsAsLengthGrows", plainKeys := false, apart := false }
def FnCountCmpFallsAsLengthGrowsSaid : Prop := fnCountCmpFallsAsLengthGrowsRow.holds Try.pinned (OpenSpec.ofChange fnCountCmpFallsAsLengthGrowsSpec)

/-- ITS FALSE NEIGHBOUR: 'it returns false'. Refute it at one input. -/
def fnCountCmpFallsAsLengthGrowsWrong : ChangeSpec := { name := "fnCountCmpFallsAsLengthGrows", fn := fun _ => fun
  | [d1, d2, d3, d4, d5] => { results := [.lit (.bool false)], args := [d1, d2, d3, d4, d5] }
  | _ => none }
def FnCountCmpFallsAsLengthGrowsWrongFalsely : Prop := fnCountCmpFallsAsLengthGrowsRow.holds Try.pinned (OpenSpec.ofChange fnCountCmpFallsAsLengthGrowsWrong)

end Rows
end Go.Proofs.Qxb6614091a
