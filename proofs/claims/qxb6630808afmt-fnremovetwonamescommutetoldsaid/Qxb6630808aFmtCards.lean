/-
  DERIVED. GIVEN WITH THE SEED: THE CARDS: each row of Qxb6630808aFmtRows.lean that lists a variable, with what it lists TIED to the program's text (the seventh form; the later family's looks); each row that meets fmt, with fmt's text TOLD by the authors' own Lean function (tested against real Go, not proved from fmt's source: count such statements apart). THE CARD IS WHAT COUNTS. Prove the row's statement (the work); the ties are given (Qxb6630808aFmtTie.lean); close each card by the builder's one call (the guide's Derived/Test/ToyasCard.lean, 'card_holds'). Laid BY PROGRAM, IN A SANDBOX (cutbox-door.mjs). By AI agents, Wed Nov 11 2026. No macro, syntax, notation, axiom, sorry.
-/
import Derived.Test.Qxb6630808aFmtRows
import GoSem.ClaimSeven
namespace Go.Proofs.Qxb6630808aFmt
namespace Rows

/-- THE TOLD CARD OF 'zzlaws_internal_config_b1.FnRemoveUntilFailureFiltersName'. -/
def fnRemoveUntilFailureFiltersNameCard : Claim7 := { stood := { row := fnRemoveUntilFailureFiltersNameRow, standIns := [], harness := (true, "284b9b95d754e3a29f7746c04a77546d3a6b72d7cbbcd99567d11d0c4e5aada3"), looks := false }, told := true, goes := false }
def FnRemoveUntilFailureFiltersNameToldSaid : Prop := Claim7.holds Tryf.pinned (.plain (OpenSpec.ofChange fnRemoveUntilFailureFiltersNameSpec)) fnRemoveUntilFailureFiltersNameCard
/-- ITS FALSE NEIGHBOUR. Refute it at one input. -/
def FnRemoveUntilFailureFiltersNameToldWrongFalsely : Prop := Claim7.holds Tryf.pinned (.plain (OpenSpec.ofChange fnRemoveUntilFailureFiltersNameWrong)) fnRemoveUntilFailureFiltersNameCard

/-- THE TOLD CARD OF 'zzlaws_internal_config_b1.FnRemoveTwoNamesCommute'. -/
def fnRemoveTwoNamesCommuteCard : Claim7 := { stood := { row := fnRemoveTwoNamesCommuteRow, standIns := [], harness := (true, "284b9b95d754e3a29f7746c04a77546d3a6b72d7cbbcd99567d11d0c4e5aada3"), looks := false }, told := true, goes := false }
def FnRemoveTwoNamesCommuteToldSaid : Prop := Claim7.holds Tryf.pinned (.plain (OpenSpec.ofChange fnRemoveTwoNamesCommuteSpec)) fnRemoveTwoNamesCommuteCard
/-- ITS FALSE NEIGHBOUR. Refute it at one input. -/
def FnRemoveTwoNamesCommuteToldWrongFalsely : Prop := Claim7.holds Tryf.pinned (.plain (OpenSpec.ofChange fnRemoveTwoNamesCommuteWrong)) fnRemoveTwoNamesCommuteCard
end Rows
end Go.Proofs.Qxb6630808aFmt
