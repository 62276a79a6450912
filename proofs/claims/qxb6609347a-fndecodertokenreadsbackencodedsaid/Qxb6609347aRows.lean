/-
  No cell of these rows narrows 'for every input' (looked for: loops, veiled, ifaces, maps, wideKeys, modest, calm, conditions, laid).
  DERIVED. THE GIVEN ROWS OF THIS SEAT. 1 by the template 'for every input the law returns true; each argument reads behind the call as it read before'; 0 by the template 'total and deterministic' (their statements: Qxb6609347aTotals.lean).
  GIVEN WITH THE SEED: the statements are not yours to turn. If you find one false, say at which input.
  Laid BY PROGRAM, IN A SANDBOX (cutbox-rows.mjs): the forced cells as the released guide's own fill.sh prints them over the translation ca3c4f6dceff86b2… (all of the seat's roots in one cut). By AI agents, Wed Nov 11 2026. No macro, syntax, notation, axiom, sorry.
-/
import Derived.Test.Qxb6609347aChecked
import GoSem.Claim
import GoSem.ClaimJoined
import GoSem.ClaimMapViews
import Derived.JoinedTies
import Derived.KernelRfl
namespace Go.Proofs.Qxb6609347a
/- THE CELL 'sum', in the pinned program and in every row, IS THE sha256 OF THE DUMP (.gsa) THAT Qxb6609347aProg.lean LOADS. Nothing in Lean hashes anything: it is a label: what it is worth is what the hold of that sum in a sandbox is worth. -/
noncomputable def Try.pinned : Pinned := { name := "qxb6609347a", sum := "ca3c4f6dceff86b29b110ccd7964f919a9ab1789833c913186367de3d7a117f4", checked := Try.checked }
namespace Rows
def none {H : Type} : Left H := { results := [], args := [] }

/-- 'zzlaws_root_b1.FnDecoderTokenReadsBackEncoded': WHATEVER THE INPUT: true; the input reads as it did. -/
def fnDecoderTokenReadsBackEncodedSpec : ChangeSpec := { name := "fnDecoderTokenReadsBackEncoded", fn := fun _ => fun
  | [d1, d2] => { results := [.lit (.bool true)], args := [d1, d2] }
  | _ => none }
def fnDecoderTokenReadsBackEncodedRow : OpenClaim := { program := "qxb6609347a", sum := "ca3c4f6dceff86b29b110ccd7964f919a9ab1789833c913186367de3d7a117f4", func := "example.com/overmesh/overmesh/zzlaws_root_b1.FnDecoderTokenReadsBackEncoded", spec := "fnDecoderTokenReadsBackEncoded", named := ["encoding/binary.BigEndian"], apart := false }
def FnDecoderTokenReadsBackEncodedSaid : Prop := fnDecoderTokenReadsBackEncodedRow.holds Try.pinned (OpenSpec.ofChange fnDecoderTokenReadsBackEncodedSpec)

/-- ITS FALSE NEIGHBOUR: 'it returns false'. Refute it at one input. -/
def fnDecoderTokenReadsBackEncodedWrong : ChangeSpec := { name := "fnDecoderTokenReadsBackEncoded", fn := fun _ => fun
  | [d1, d2] => { results := [.lit (.bool false)], args := [d1, d2] }
  | _ => none }
def FnDecoderTokenReadsBackEncodedWrongFalsely : Prop := fnDecoderTokenReadsBackEncodedRow.holds Try.pinned (OpenSpec.ofChange fnDecoderTokenReadsBackEncodedWrong)

end Rows
end Go.Proofs.Qxb6609347a
