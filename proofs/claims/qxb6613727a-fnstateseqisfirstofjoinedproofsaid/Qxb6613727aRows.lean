/-
  No cell of these rows narrows 'for every input' (looked for: loops, veiled, ifaces, maps, wideKeys, modest, calm, conditions, laid).
  DERIVED. THE GIVEN ROWS OF THIS SEAT. 1 by the template 'for every input the law returns true; each argument reads behind the call as it read before'; 0 by the template 'total and deterministic' (their statements: Qxb6613727aTotals.lean).
  GIVEN WITH THE SEED: the statements are not yours to turn. If you find one false, say at which input.
  Laid BY PROGRAM, IN A SANDBOX (cutbox-rows.mjs): the forced cells as the released guide's own fill.sh prints them over the translation ba350b8898f37edb… (all of the seat's roots in one cut). By AI agents, Wed Nov 11 2026. No macro, syntax, notation, axiom, sorry.
-/
import Derived.Test.Qxb6613727aChecked
import GoSem.Claim
import GoSem.ClaimJoined
import GoSem.ClaimMapViews
import Derived.JoinedTies
import Derived.KernelRfl
namespace Go.Proofs.Qxb6613727a
/- THE CELL 'sum', in the pinned program and in every row, IS THE sha256 OF THE DUMP (.gsa) THAT Qxb6613727aProg.lean LOADS. Nothing in Lean hashes anything: it is a label: what it is worth is what the hold of that sum in a sandbox is worth. -/
noncomputable def Try.pinned : Pinned := { name := "qxb6613727a", sum := "ba350b8898f37edbd3fd7cd7de9363d6ff138e378572521c986f40209f84f830", checked := Try.checked }
namespace Rows
def none {H : Type} : Left H := { results := [], args := [] }

/-- 'zzlaws_internal_protocol_b1.FnStateSeqIsFirstOfJoinedProof': WHATEVER THE INPUT: true; the input reads as it did. -/
def fnStateSeqIsFirstOfJoinedProofSpec : ChangeSpec := { name := "fnStateSeqIsFirstOfJoinedProof", fn := fun _ => fun
  | [d1, d2, d3, d4] => { results := [.lit (.bool true)], args := [d1, d2, d3, d4] }
  | _ => none }
def fnStateSeqIsFirstOfJoinedProofRow : OpenClaim := { program := "qxb6613727a", sum := "ba350b8898f37edbd3fd7cd7de9363d6ff138e378572521c986f40209f84f830", func := "example.com/chainward/chainward/zzlaws_internal_protocol_b1.FnStateSeqIsFirstOfJoinedProof", spec := "fnStateSeqIsFirstOfJoinedProof", apart := false }
def FnStateSeqIsFirstOfJoinedProofSaid : Prop := fnStateSeqIsFirstOfJoinedProofRow.holds Try.pinned (OpenSpec.ofChange fnStateSeqIsFirstOfJoinedProofSpec)

/-- ITS FALSE NEIGHBOUR: 'it returns false'. Refute it at one input. -/
def fnStateSeqIsFirstOfJoinedProofWrong : ChangeSpec := { name := "fnStateSeqIsFirstOfJoinedProof", fn := fun _ => fun
  | [d1, d2, d3, d4] => { results := [.lit (.bool false)], args := [d1, d2, d3, d4] }
  | _ => none }
def FnStateSeqIsFirstOfJoinedProofWrongFalsely : Prop := fnStateSeqIsFirstOfJoinedProofRow.holds Try.pinned (OpenSpec.ofChange fnStateSeqIsFirstOfJoinedProofWrong)

end Rows
end Go.Proofs.Qxb6613727a
