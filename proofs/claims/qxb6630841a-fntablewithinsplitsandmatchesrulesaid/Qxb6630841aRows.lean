/-
  No cell of these rows narrows 'for every input' (looked for: loops, veiled, ifaces, maps, wideKeys, modest, calm, conditions, laid).
  DERIVED. THE GIVEN ROWS OF THIS SEAT. 2 by the template 'for every input the law returns true; each argument reads behind the call as it read before'; 0 by the template 'total and deterministic' (their statements: Qxb6630841aTotals.lean).
  GIVEN WITH THE SEED: the statements are not yours to turn. If you find one false, say at which input.
  Laid BY PROGRAM, IN A SANDBOX (cutbox-rows.mjs): the forced cells as the released guide's own fill.sh prints them over the translation 2b05a8dd4b1c7019… (all of the seat's roots in one cut). By AI agents, Wed Nov 11 2026. No macro, syntax, notation, axiom, sorry.
-/
import Derived.Test.Qxb6630841aChecked
import GoSem.Claim
import GoSem.ClaimJoined
import GoSem.ClaimMapViews
import Derived.JoinedTies
import Derived.KernelRfl
namespace Go.Proofs.Qxb6630841a
/- THE CELL 'sum', in the pinned program and in every row, IS THE sha256 OF THE DUMP (.gsa) THAT Qxb6630841aProg.lean LOADS. Nothing in Lean hashes anything: it is a label: what it is worth is what the hold of that sum in a sandbox is worth. -/
noncomputable def Try.pinned : Pinned := { name := "qxb6630841a", sum := "2b05a8dd4b1c701968cb77ec93147c590ce149f54c915f8d43b3cc5f28017c10", checked := Try.checked }
namespace Rows
def none {H : Type} : Left H := { results := [], args := [] }

/-- 'zzlaws_internal_grant_b1.FnTableWithinSplitsAndMatchesRule': WHATEVER THE INPUT: true; the input reads as it did. -/
def fnTableWithinSplitsAndMatchesRuleSpec : ChangeSpec := { name := "fnTableWithinSplitsAndMatchesRule", fn := fun _ => fun
  | [d1, d2] => { results := [.lit (.bool true)], args := [d1, d2] }
  | _ => none }
def fnTableWithinSplitsAndMatchesRuleRow : OpenClaim := { program := "qxb6630841a", sum := "2b05a8dd4b1c701968cb77ec93147c590ce149f54c915f8d43b3cc5f28017c10", func := "example.com/vestwright/vestwright/zzlaws_internal_grant_b1.FnTableWithinSplitsAndMatchesRule", spec := "fnTableWithinSplitsAndMatchesRule", apart := false }
def FnTableWithinSplitsAndMatchesRuleSaid : Prop := fnTableWithinSplitsAndMatchesRuleRow.holds Try.pinned (OpenSpec.ofChange fnTableWithinSplitsAndMatchesRuleSpec)

/-- ITS FALSE NEIGHBOUR: 'it returns false'. Refute it at one input. -/
def fnTableWithinSplitsAndMatchesRuleWrong : ChangeSpec := { name := "fnTableWithinSplitsAndMatchesRule", fn := fun _ => fun
  | [d1, d2] => { results := [.lit (.bool false)], args := [d1, d2] }
  | _ => none }
def FnTableWithinSplitsAndMatchesRuleWrongFalsely : Prop := fnTableWithinSplitsAndMatchesRuleRow.holds Try.pinned (OpenSpec.ofChange fnTableWithinSplitsAndMatchesRuleWrong)

/-- 'zzlaws_internal_grant_b1.FnTableWithinNoDeadlinesMeansPermittedDays': WHATEVER THE INPUT: true; the input reads as it did. -/
def fnTableWithinNoDeadlinesMeansPermittedDaysSpec : ChangeSpec := { name := "fnTableWithinNoDeadlinesMeansPermittedDays", fn := fun _ => fun
  | [d] => { results := [.lit (.bool true)], args := [d] }
  | _ => none }
def fnTableWithinNoDeadlinesMeansPermittedDaysRow : OpenClaim := { program := "qxb6630841a", sum := "2b05a8dd4b1c701968cb77ec93147c590ce149f54c915f8d43b3cc5f28017c10", func := "example.com/vestwright/vestwright/zzlaws_internal_grant_b1.FnTableWithinNoDeadlinesMeansPermittedDays", spec := "fnTableWithinNoDeadlinesMeansPermittedDays", apart := false }
def FnTableWithinNoDeadlinesMeansPermittedDaysSaid : Prop := fnTableWithinNoDeadlinesMeansPermittedDaysRow.holds Try.pinned (OpenSpec.ofChange fnTableWithinNoDeadlinesMeansPermittedDaysSpec)

/-- ITS FALSE NEIGHBOUR: 'it returns false'. Refute it at one input. -/
def fnTableWithinNoDeadlinesMeansPermittedDaysWrong : ChangeSpec := { name := "fnTableWithinNoDeadlinesMeansPermittedDays", fn := fun _ => fun
  | [d] => { results := [.lit (.bool false)], args := [d] }
  | _ => none }
def FnTableWithinNoDeadlinesMeansPermittedDaysWrongFalsely : Prop := fnTableWithinNoDeadlinesMeansPermittedDaysRow.holds Try.pinned (OpenSpec.ofChange fnTableWithinNoDeadlinesMeansPermittedDaysWrong)

end Rows
end Go.Proofs.Qxb6630841a
