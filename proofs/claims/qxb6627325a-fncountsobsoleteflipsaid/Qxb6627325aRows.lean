/-
  No cell of these rows narrows 'for every input' (looked for: loops, veiled, ifaces, maps, wideKeys, modest, calm, conditions, laid).
  DERIVED. THE GIVEN ROWS OF THIS SEAT. 1 by the template 'for every input the law returns true; each argument reads behind the call as it read before'; 0 by the template 'total and deterministic' (their statements: Qxb6627325aTotals.lean).
  GIVEN WITH THE SEED: the statements are not yours to turn. If you find one false, say at which input.
  Laid BY PROGRAM, IN A SANDBOX (cutbox-rows.mjs): the forced cells as the released guide's own fill.sh prints them over the translation aec93f1751f5d4fd… (all of the seat's roots in one cut). By AI agents, Wed Nov 11 2026. No macro, syntax, notation, axiom, sorry.
-/
import Derived.Test.Qxb6627325aChecked
import GoSem.Claim
import GoSem.ClaimJoined
import GoSem.ClaimMapViews
import Derived.JoinedTies
import Derived.KernelRfl
namespace Go.Proofs.Qxb6627325a
/- THE CELL 'sum', in the pinned program and in every row, IS THE sha256 OF THE DUMP (.gsa) THAT Qxb6627325aProg.lean LOADS. Nothing in Lean hashes anything: it is a label: what it is worth is what the hold of that sum in a sandbox is worth. -/
noncomputable def Try.pinned : Pinned := { name := "qxb6627325a", sum := "aec93f1751f5d4fd91518be5021f02a6e5ccdfc805a53098db6e63818db576cc", checked := Try.checked }
namespace Rows
def none {H : Type} : Left H := { results := [], args := [] }

/-- 'zzlaws_internal_updatescript_b1.FnCountsObsoleteFlip': WHATEVER THE INPUT: true; the input reads as it did. -/
def fnCountsObsoleteFlipSpec : ChangeSpec := { name := "fnCountsObsoleteFlip", fn := fun _ => fun
  | [d1, d2, d3, d4, d5, d6, d7, d8, d9] => { results := [.lit (.bool true)], args := [d1, d2, d3, d4, d5, d6, d7, d8, d9] }
  | _ => none }
def fnCountsObsoleteFlipRow : OpenClaim := { program := "qxb6627325a", sum := "aec93f1751f5d4fd91518be5021f02a6e5ccdfc805a53098db6e63818db576cc", func := "example.com/tablewright/tablewright/zzlaws_internal_updatescript_b1.FnCountsObsoleteFlip", spec := "fnCountsObsoleteFlip", apart := false }
def FnCountsObsoleteFlipSaid : Prop := fnCountsObsoleteFlipRow.holds Try.pinned (OpenSpec.ofChange fnCountsObsoleteFlipSpec)

/-- ITS FALSE NEIGHBOUR: 'it returns false'. Refute it at one input. -/
def fnCountsObsoleteFlipWrong : ChangeSpec := { name := "fnCountsObsoleteFlip", fn := fun _ => fun
  | [d1, d2, d3, d4, d5, d6, d7, d8, d9] => { results := [.lit (.bool false)], args := [d1, d2, d3, d4, d5, d6, d7, d8, d9] }
  | _ => none }
def FnCountsObsoleteFlipWrongFalsely : Prop := fnCountsObsoleteFlipRow.holds Try.pinned (OpenSpec.ofChange fnCountsObsoleteFlipWrong)

end Rows
end Go.Proofs.Qxb6627325a
