/-
  DERIVED. GIVEN WITH THE SEED: THE CARDS: each row of Qxb6609285aDoorRows.lean that lists a variable, with what it lists TIED to the program's text (the seventh form; the later family's looks); each row that meets fmt, with fmt's text TOLD by the authors' own Lean function (tested against real Go, not proved from fmt's source: count such statements apart). THE CARD IS WHAT COUNTS. Prove the row's statement (the work); the ties are given (Qxb6609285aDoorTie.lean); close each card by the builder's one call (the guide's Derived/Test/ToyasCard.lean, 'card_holds'). Laid BY PROGRAM, IN A SANDBOX (cutbox-door.mjs). By AI agents, Wed Nov 11 2026. No macro, syntax, notation, axiom, sorry.
-/
import Derived.Test.Qxb6609285aDoorRows
import GoSem.ClaimSeven
namespace Go.Proofs.Qxb6609285aDoor
namespace Rows

/-- THE TIED CARD OF 'zzlaws_filter_b1.FnTallyDecideGenericChainsMatchModel'. -/
def fnTallyDecideGenericChainsMatchModelCard : Claim7 := { stood := { row := fnTallyDecideGenericChainsMatchModelRow, standIns := [], harness := (true, "eca8d73fab4a07ff091b605e6fecf44a1ce1165fd550e31d3dcfc9adb8fcaaf8"), looks := false }, kinds := [], alts := [], laidByText := true, laidKinds := [.data, .data, .data], laidTests := true, laidLooks := .later }
def FnTallyDecideGenericChainsMatchModelCardSaid : Prop := Claim7.holds Tryd.pinned (.plain (OpenSpec.ofChange fnTallyDecideGenericChainsMatchModelSpec)) fnTallyDecideGenericChainsMatchModelCard

/-- THE TIED CARD OF 'zzlaws_filter_b1.FnTallyDecideScriptCountsAgreeWithFilter'. -/
def fnTallyDecideScriptCountsAgreeWithFilterCard : Claim7 := { stood := { row := fnTallyDecideScriptCountsAgreeWithFilterRow, standIns := [], harness := (true, "eca8d73fab4a07ff091b605e6fecf44a1ce1165fd550e31d3dcfc9adb8fcaaf8"), looks := false }, kinds := [], alts := [], laidByText := true, laidKinds := [.data, .data, .data], laidTests := true, laidLooks := .later }
def FnTallyDecideScriptCountsAgreeWithFilterCardSaid : Prop := Claim7.holds Tryd.pinned (.plain (OpenSpec.ofChange fnTallyDecideScriptCountsAgreeWithFilterSpec)) fnTallyDecideScriptCountsAgreeWithFilterCard

/-- THE TIED CARD OF 'zzlaws_filter_b1.FnTallyFilterIsTheLiveFilter'. -/
def fnTallyFilterIsTheLiveFilterCard : Claim7 := { stood := { row := fnTallyFilterIsTheLiveFilterRow, standIns := [], harness := (true, "eca8d73fab4a07ff091b605e6fecf44a1ce1165fd550e31d3dcfc9adb8fcaaf8"), looks := false }, kinds := [], alts := [], laidByText := true, laidKinds := [.data, .data, .data], laidTests := true, laidLooks := .later }
def FnTallyFilterIsTheLiveFilterCardSaid : Prop := Claim7.holds Tryd.pinned (.plain (OpenSpec.ofChange fnTallyFilterIsTheLiveFilterSpec)) fnTallyFilterIsTheLiveFilterCard
end Rows
end Go.Proofs.Qxb6609285aDoor
