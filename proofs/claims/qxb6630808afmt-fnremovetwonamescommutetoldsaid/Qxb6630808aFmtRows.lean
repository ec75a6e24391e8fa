/-
  No cell of these rows narrows 'for every input' (looked for: loops, veiled, ifaces, maps, wideKeys, modest, calm, conditions, laid).
  DERIVED. THE GIVEN ROWS OF THIS SEAT. 2 by the template 'for every input the law returns true; each argument reads behind the call as it read before'; 0 by the template 'total and deterministic' (their statements: Qxb6630808aFmtTotals.lean).
  GIVEN WITH THE SEED: the statements are not yours to turn. If you find one false, say at which input.
  Laid BY PROGRAM, IN A SANDBOX (cutbox-rows.mjs): the forced cells as the released guide's own fill.sh prints them over the translation 85b9e0354278d90a… (all of the seat's roots in one cut). By AI agents, Wed Nov 11 2026. No macro, syntax, notation, axiom, sorry.
-/
import Derived.Test.Qxb6630808aFmtChecked
import GoSem.Claim
import GoSem.ClaimJoined
import GoSem.ClaimMapViews
import Derived.JoinedTies
import Derived.KernelRfl
namespace Go.Proofs.Qxb6630808aFmt
/- THE CELL 'sum', in the pinned program and in every row, IS THE sha256 OF THE DUMP (.gsa) THAT Qxb6630808aFmtProg.lean LOADS. Nothing in Lean hashes anything: it is a label: what it is worth is what the hold of that sum in a sandbox is worth. -/
noncomputable def Tryf.pinned : Pinned := { name := "qxb6630808afmt", sum := "85b9e0354278d90ad3addd2886efbcb908e62fd4efe9162297d244d1f821ae39", checked := Tryf.checked }
namespace Rows
def none {H : Type} : Left H := { results := [], args := [] }

/-- 'zzlaws_internal_config_b1.FnRemoveUntilFailureFiltersName': WHATEVER THE INPUT: true; the input reads as it did. -/
def fnRemoveUntilFailureFiltersNameSpec : ChangeSpec := { name := "fnRemoveUntilFailureFiltersName", fn := fun _ => fun
  | [d1, d2, d3, d4] => { results := [.lit (.bool true)], args := [d1, d2, d3, d4] }
  | _ => none }
def fnRemoveUntilFailureFiltersNameRow : OpenClaim := { program := "qxb6630808afmt", sum := "85b9e0354278d90ad3addd2886efbcb908e62fd4efe9162297d244d1f821ae39", func := "example.com/skilldock/skilldock/zzlaws_internal_config_b1.FnRemoveUntilFailureFiltersName", spec := "fnRemoveUntilFailureFiltersName", stops := ["fmt.errorf"], inPlace := ["internal/abi.NoEscape", "internal/bytealg.MakeNoZero", "fmt.errorf"], unfollowed := true, recurses := true, apart := false }
/-- NO THEOREM (fmt's text is open here; it may be false): for the released tool's asking of the row's closed facts alone. THE STATEMENT IS 'FnRemoveUntilFailureFiltersNameToldSaid' (Qxb6630808aFmtCards.lean). -/
def FnRemoveUntilFailureFiltersNameFormAsk : Prop := fnRemoveUntilFailureFiltersNameRow.holds Tryf.pinned (OpenSpec.ofChange fnRemoveUntilFailureFiltersNameSpec)

/-- ITS FALSE NEIGHBOUR: 'it returns false'. Refute it at one input. -/
def fnRemoveUntilFailureFiltersNameWrong : ChangeSpec := { name := "fnRemoveUntilFailureFiltersName", fn := fun _ => fun
  | [d1, d2, d3, d4] => { results := [.lit (.bool false)], args := [d1, d2, d3, d4] }
  | _ => none }
def FnRemoveUntilFailureFiltersNameWrongFormAsk : Prop := fnRemoveUntilFailureFiltersNameRow.holds Tryf.pinned (OpenSpec.ofChange fnRemoveUntilFailureFiltersNameWrong)

/-- 'zzlaws_internal_config_b1.FnRemoveTwoNamesCommute': WHATEVER THE INPUT: true; the input reads as it did. -/
def fnRemoveTwoNamesCommuteSpec : ChangeSpec := { name := "fnRemoveTwoNamesCommute", fn := fun _ => fun
  | [d1, d2, d3, d4, d5] => { results := [.lit (.bool true)], args := [d1, d2, d3, d4, d5] }
  | _ => none }
def fnRemoveTwoNamesCommuteRow : OpenClaim := { program := "qxb6630808afmt", sum := "85b9e0354278d90ad3addd2886efbcb908e62fd4efe9162297d244d1f821ae39", func := "example.com/skilldock/skilldock/zzlaws_internal_config_b1.FnRemoveTwoNamesCommute", spec := "fnRemoveTwoNamesCommute", stops := ["fmt.errorf"], inPlace := ["internal/abi.NoEscape", "internal/bytealg.MakeNoZero", "fmt.errorf"], unfollowed := true, recurses := true, apart := false }
/-- NO THEOREM (fmt's text is open here; it may be false): for the released tool's asking of the row's closed facts alone. THE STATEMENT IS 'FnRemoveTwoNamesCommuteToldSaid' (Qxb6630808aFmtCards.lean). -/
def FnRemoveTwoNamesCommuteFormAsk : Prop := fnRemoveTwoNamesCommuteRow.holds Tryf.pinned (OpenSpec.ofChange fnRemoveTwoNamesCommuteSpec)

/-- ITS FALSE NEIGHBOUR: 'it returns false'. Refute it at one input. -/
def fnRemoveTwoNamesCommuteWrong : ChangeSpec := { name := "fnRemoveTwoNamesCommute", fn := fun _ => fun
  | [d1, d2, d3, d4, d5] => { results := [.lit (.bool false)], args := [d1, d2, d3, d4, d5] }
  | _ => none }
def FnRemoveTwoNamesCommuteWrongFormAsk : Prop := fnRemoveTwoNamesCommuteRow.holds Tryf.pinned (OpenSpec.ofChange fnRemoveTwoNamesCommuteWrong)

end Rows
end Go.Proofs.Qxb6630808aFmt
