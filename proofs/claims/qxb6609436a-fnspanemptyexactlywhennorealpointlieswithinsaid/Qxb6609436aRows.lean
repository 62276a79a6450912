/-
  No cell of these rows narrows 'for every input' (looked for: loops, veiled, ifaces, maps, wideKeys, modest, calm, conditions, laid).
  DERIVED. THE GIVEN ROWS OF THIS SEAT. 2 by the template 'for every input the law returns true; each argument reads behind the call as it read before'; 0 by the template 'total and deterministic' (their statements: Qxb6609436aTotals.lean).
  GIVEN WITH THE SEED: the statements are not yours to turn. If you find one false, say at which input.
  Laid BY PROGRAM, IN A SANDBOX (cutbox-rows.mjs): the forced cells as the released guide's own fill.sh prints them over the translation cc0015984934f794… (all of the seat's roots in one cut). By AI agents, Wed Nov 11 2026. No macro, syntax, notation, axiom, sorry.
-/
import Derived.Test.Qxb6609436aChecked
import GoSem.Claim
import GoSem.ClaimJoined
import GoSem.ClaimMapViews
import Derived.JoinedTies
import Derived.KernelRfl
namespace Go.Proofs.Qxb6609436a
/- THE CELL 'sum', in the pinned program and in every row, IS THE sha256 OF THE DUMP (.gsa) THAT Qxb6609436aProg.lean LOADS. Nothing in Lean hashes anything: it is a label: what it is worth is what the hold of that sum in a sandbox is worth. -/
noncomputable def Try.pinned : Pinned := { name := "qxb6609436a", sum := "cc0015984934f7940cd9c71433794182562e5afbd1ee1d856dd5ed2eda386984", checked := Try.checked }
namespace Rows
def none {H : Type} : Left H := { results := [], args := [] }

/-- 'zzlaws_internal_engine_b1.FnSpanEmptyExactlyWhenNoRealPointLiesWithin': WHATEVER THE INPUT: true; the input reads as it did. -/
def fnSpanEmptyExactlyWhenNoRealPointLiesWithinSpec : ChangeSpec := { name := "fnSpanEmptyExactlyWhenNoRealPointLiesWithin", fn := fun _ => fun
  | [d1, d2, d3, d4, d5, d6, d7, d8] => { results := [.lit (.bool true)], args := [d1, d2, d3, d4, d5, d6, d7, d8] }
  | _ => none }
def fnSpanEmptyExactlyWhenNoRealPointLiesWithinRow : OpenClaim := { program := "qxb6609436a", sum := "cc0015984934f7940cd9c71433794182562e5afbd1ee1d856dd5ed2eda386984", func := "example.com/hedgerow/hedgerow/zzlaws_internal_engine_b1.FnSpanEmptyExactlyWhenNoRealPointLiesWithin", spec := "fnSpanEmptyExactlyWhenNoRealPointLiesWithin", apart := false }
def FnSpanEmptyExactlyWhenNoRealPointLiesWithinSaid : Prop := fnSpanEmptyExactlyWhenNoRealPointLiesWithinRow.holds Try.pinned (OpenSpec.ofChange fnSpanEmptyExactlyWhenNoRealPointLiesWithinSpec)

/-- ITS FALSE NEIGHBOUR: 'it returns false'. Refute it at one input. -/
def fnSpanEmptyExactlyWhenNoRealPointLiesWithinWrong : ChangeSpec := { name := "fnSpanEmptyExactlyWhenNoRealPointLiesWithin", fn := fun _ => fun
  | [d1, d2, d3, d4, d5, d6, d7, d8] => { results := [.lit (.bool false)], args := [d1, d2, d3, d4, d5, d6, d7, d8] }
  | _ => none }
def FnSpanEmptyExactlyWhenNoRealPointLiesWithinWrongFalsely : Prop := fnSpanEmptyExactlyWhenNoRealPointLiesWithinRow.holds Try.pinned (OpenSpec.ofChange fnSpanEmptyExactlyWhenNoRealPointLiesWithinWrong)

/-- 'zzlaws_internal_engine_b1.FnSpanEmptyBoundsAndMirror': WHATEVER THE INPUT: true; the input reads as it did. -/
def fnSpanEmptyBoundsAndMirrorSpec : ChangeSpec := { name := "fnSpanEmptyBoundsAndMirror", fn := fun _ => fun
  | [d1, d2, d3, d4, d5, d6, d7, d8, d9] => { results := [.lit (.bool true)], args := [d1, d2, d3, d4, d5, d6, d7, d8, d9] }
  | _ => none }
def fnSpanEmptyBoundsAndMirrorRow : OpenClaim := { program := "qxb6609436a", sum := "cc0015984934f7940cd9c71433794182562e5afbd1ee1d856dd5ed2eda386984", func := "example.com/hedgerow/hedgerow/zzlaws_internal_engine_b1.FnSpanEmptyBoundsAndMirror", spec := "fnSpanEmptyBoundsAndMirror", apart := false }
def FnSpanEmptyBoundsAndMirrorSaid : Prop := fnSpanEmptyBoundsAndMirrorRow.holds Try.pinned (OpenSpec.ofChange fnSpanEmptyBoundsAndMirrorSpec)

/-- ITS FALSE NEIGHBOUR: 'it returns false'. Refute it at one input. -/
def fnSpanEmptyBoundsAndMirrorWrong : ChangeSpec := { name := "fnSpanEmptyBoundsAndMirror", fn := fun _ => fun
  | [d1, d2, d3, d4, d5, d6, d7, d8, d9] => { results := [.lit (.bool false)], args := [d1, d2, d3, d4, d5, d6, d7, d8, d9] }
  | _ => none }
def FnSpanEmptyBoundsAndMirrorWrongFalsely : Prop := fnSpanEmptyBoundsAndMirrorRow.holds Try.pinned (OpenSpec.ofChange fnSpanEmptyBoundsAndMirrorWrong)

end Rows
end Go.Proofs.Qxb6609436a
