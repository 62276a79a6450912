/-
  No cell of these rows narrows 'for every input' (looked for: loops, veiled, ifaces, maps, wideKeys, modest, calm, conditions, laid).
  DERIVED. THE GIVEN ROWS OF THIS SEAT. 3 by the template 'for every input the law returns true; each argument reads behind the call as it read before'; 0 by the template 'total and deterministic' (their statements: Qxb6609343aTotals.lean).
  GIVEN WITH THE SEED: the statements are not yours to turn. If you find one false, say at which input.
  Laid BY PROGRAM, IN A SANDBOX (cutbox-rows.mjs): the forced cells as the released guide's own fill.sh prints them over the translation b38340bdf2d3f3bb… (all of the seat's roots in one cut). By AI agents, Wed Nov 11 2026. No macro, syntax, notation, axiom, sorry.
-/
import Derived.Test.Qxb6609343aChecked
import GoSem.Claim
import GoSem.ClaimJoined
import GoSem.ClaimMapViews
import Derived.JoinedTies
import Derived.KernelRfl
namespace Go.Proofs.Qxb6609343a
/- THE CELL 'sum', in the pinned program and in every row, IS THE sha256 OF THE DUMP (.gsa) THAT Qxb6609343aProg.lean LOADS. Nothing in Lean hashes anything: it is a label: what it is worth is what the hold of that sum in a sandbox is worth. -/
noncomputable def Try.pinned : Pinned := { name := "qxb6609343a", sum := "b38340bdf2d3f3bb819d1e1e5a0cf8cb270b0ed146cc1a83dc0d5ba36b8338d8", checked := Try.checked }
namespace Rows
def none {H : Type} : Left H := { results := [], args := [] }

/-- 'zzlaws_internal_pdf_b1.FnIsPlantedHeader': WHATEVER THE INPUT: true; the input reads as it did. -/
def fnIsPlantedHeaderSpec : ChangeSpec := { name := "fnIsPlantedHeader", fn := fun _ => fun
  | [d1, d2] => { results := [.lit (.bool true)], args := [d1, d2] }
  | _ => none }
def fnIsPlantedHeaderRow : OpenClaim := { program := "qxb6609343a", sum := "b38340bdf2d3f3bb819d1e1e5a0cf8cb270b0ed146cc1a83dc0d5ba36b8338d8", func := "example.com/ghostink/ghostink/zzlaws_internal_pdf_b1.FnIsPlantedHeader", spec := "fnIsPlantedHeader", inPlace := ["internal/bytealg.IndexByte", "internal/bytealg.Index"], named := ["internal/bytealg.MaxLen"], apart := false }
def FnIsPlantedHeaderSaid : Prop := fnIsPlantedHeaderRow.holds Try.pinned (OpenSpec.ofChange fnIsPlantedHeaderSpec)

/-- ITS FALSE NEIGHBOUR: 'it returns false'. Refute it at one input. -/
def fnIsPlantedHeaderWrong : ChangeSpec := { name := "fnIsPlantedHeader", fn := fun _ => fun
  | [d1, d2] => { results := [.lit (.bool false)], args := [d1, d2] }
  | _ => none }
def FnIsPlantedHeaderWrongFalsely : Prop := fnIsPlantedHeaderRow.holds Try.pinned (OpenSpec.ofChange fnIsPlantedHeaderWrong)

/-- 'zzlaws_internal_pdf_b1.FnLookupCIDMatchesLinearScan': WHATEVER THE INPUT: true; the input reads as it did. -/
def fnLookupCIDMatchesLinearScanSpec : ChangeSpec := { name := "fnLookupCIDMatchesLinearScan", fn := fun _ => fun
  | [d1, d2, d3, d4] => { results := [.lit (.bool true)], args := [d1, d2, d3, d4] }
  | _ => none }
def fnLookupCIDMatchesLinearScanRow : OpenClaim := { program := "qxb6609343a", sum := "b38340bdf2d3f3bb819d1e1e5a0cf8cb270b0ed146cc1a83dc0d5ba36b8338d8", func := "example.com/ghostink/ghostink/zzlaws_internal_pdf_b1.FnLookupCIDMatchesLinearScan", spec := "fnLookupCIDMatchesLinearScan", unfollowed := true, recurses := true, apart := false }
def FnLookupCIDMatchesLinearScanSaid : Prop := fnLookupCIDMatchesLinearScanRow.holds Try.pinned (OpenSpec.ofChange fnLookupCIDMatchesLinearScanSpec)

/-- ITS FALSE NEIGHBOUR: 'it returns false'. Refute it at one input. -/
def fnLookupCIDMatchesLinearScanWrong : ChangeSpec := { name := "fnLookupCIDMatchesLinearScan", fn := fun _ => fun
  | [d1, d2, d3, d4] => { results := [.lit (.bool false)], args := [d1, d2, d3, d4] }
  | _ => none }
def FnLookupCIDMatchesLinearScanWrongFalsely : Prop := fnLookupCIDMatchesLinearScanRow.holds Try.pinned (OpenSpec.ofChange fnLookupCIDMatchesLinearScanWrong)

/-- 'zzlaws_internal_pdf_b1.FnLookupCIDLayersAndEnds': WHATEVER THE INPUT: true; the input reads as it did. -/
def fnLookupCIDLayersAndEndsSpec : ChangeSpec := { name := "fnLookupCIDLayersAndEnds", fn := fun _ => fun
  | [d1, d2, d3] => { results := [.lit (.bool true)], args := [d1, d2, d3] }
  | _ => none }
def fnLookupCIDLayersAndEndsRow : OpenClaim := { program := "qxb6609343a", sum := "b38340bdf2d3f3bb819d1e1e5a0cf8cb270b0ed146cc1a83dc0d5ba36b8338d8", func := "example.com/ghostink/ghostink/zzlaws_internal_pdf_b1.FnLookupCIDLayersAndEnds", spec := "fnLookupCIDLayersAndEnds", unfollowed := true, recurses := true, apart := false }
def FnLookupCIDLayersAndEndsSaid : Prop := fnLookupCIDLayersAndEndsRow.holds Try.pinned (OpenSpec.ofChange fnLookupCIDLayersAndEndsSpec)

/-- ITS FALSE NEIGHBOUR: 'it returns false'. Refute it at one input. -/
def fnLookupCIDLayersAndEndsWrong : ChangeSpec := { name := "fnLookupCIDLayersAndEnds", fn := fun _ => fun
  | [d1, d2, d3] => { results := [.lit (.bool false)], args := [d1, d2, d3] }
  | _ => none }
def FnLookupCIDLayersAndEndsWrongFalsely : Prop := fnLookupCIDLayersAndEndsRow.holds Try.pinned (OpenSpec.ofChange fnLookupCIDLayersAndEndsWrong)

end Rows
end Go.Proofs.Qxb6609343a
