/-
  No cell of these rows narrows 'for every input' (looked for: loops, veiled, ifaces, maps, wideKeys, modest, calm, conditions, laid).
  DERIVED. THE GIVEN ROWS OF THIS SEAT. 2 by the template 'for every input the law returns true; each argument reads behind the call as it read before'; 0 by the template 'total and deterministic' (their statements: Qxb6630893aTotals.lean).
  GIVEN WITH THE SEED: the statements are not yours to turn. If you find one false, say at which input.
  Laid BY PROGRAM, IN A SANDBOX (cutbox-rows.mjs): the forced cells as the released guide's own fill.sh prints them over the translation 0e45d08bef0532ca… (all of the seat's roots in one cut). By AI agents, Wed Nov 11 2026. No macro, syntax, notation, axiom, sorry.
-/
import Derived.Test.Qxb6630893aChecked
import GoSem.Claim
import GoSem.ClaimJoined
import GoSem.ClaimMapViews
import Derived.JoinedTies
import Derived.KernelRfl
namespace Go.Proofs.Qxb6630893a
/- THE CELL 'sum', in the pinned program and in every row, IS THE sha256 OF THE DUMP (.gsa) THAT Qxb6630893aProg.lean LOADS. Nothing in Lean hashes anything: it is a label: what it is worth is what the hold of that sum in a sandbox is worth. -/
noncomputable def Try.pinned : Pinned := { name := "qxb6630893a", sum := "0e45d08bef0532ca5e5b94a6e433bfa05000a7e4b67e1644a7e2319edcddb813", checked := Try.checked }
namespace Rows
def none {H : Type} : Left H := { results := [], args := [] }

/-- 'zzlaws_pkg_protocol_b1.FnBearerTokenSplitAtAnyCut': WHATEVER THE INPUT: true; the input reads as it did. -/
def fnBearerTokenSplitAtAnyCutSpec : ChangeSpec := { name := "fnBearerTokenSplitAtAnyCut", fn := fun _ => fun
  | [d1, d2] => { results := [.lit (.bool true)], args := [d1, d2] }
  | _ => none }
def fnBearerTokenSplitAtAnyCutRow : OpenClaim := { program := "qxb6630893a", sum := "0e45d08bef0532ca5e5b94a6e433bfa05000a7e4b67e1644a7e2319edcddb813", func := "example.com/provender/provender/zzlaws_pkg_protocol_b1.FnBearerTokenSplitAtAnyCut", spec := "fnBearerTokenSplitAtAnyCut", apart := false }
def FnBearerTokenSplitAtAnyCutSaid : Prop := fnBearerTokenSplitAtAnyCutRow.holds Try.pinned (OpenSpec.ofChange fnBearerTokenSplitAtAnyCutSpec)

/-- ITS FALSE NEIGHBOUR: 'it returns false'. Refute it at one input. -/
def fnBearerTokenSplitAtAnyCutWrong : ChangeSpec := { name := "fnBearerTokenSplitAtAnyCut", fn := fun _ => fun
  | [d1, d2] => { results := [.lit (.bool false)], args := [d1, d2] }
  | _ => none }
def FnBearerTokenSplitAtAnyCutWrongFalsely : Prop := fnBearerTokenSplitAtAnyCutRow.holds Try.pinned (OpenSpec.ofChange fnBearerTokenSplitAtAnyCutWrong)

/-- 'zzlaws_pkg_protocol_b1.FnBearerTokenInsertOneByte': WHATEVER THE INPUT: true; the input reads as it did. -/
def fnBearerTokenInsertOneByteSpec : ChangeSpec := { name := "fnBearerTokenInsertOneByte", fn := fun _ => fun
  | [d1, d2, d3] => { results := [.lit (.bool true)], args := [d1, d2, d3] }
  | _ => none }
def fnBearerTokenInsertOneByteRow : OpenClaim := { program := "qxb6630893a", sum := "0e45d08bef0532ca5e5b94a6e433bfa05000a7e4b67e1644a7e2319edcddb813", func := "example.com/provender/provender/zzlaws_pkg_protocol_b1.FnBearerTokenInsertOneByte", spec := "fnBearerTokenInsertOneByte", apart := false }
def FnBearerTokenInsertOneByteSaid : Prop := fnBearerTokenInsertOneByteRow.holds Try.pinned (OpenSpec.ofChange fnBearerTokenInsertOneByteSpec)

/-- ITS FALSE NEIGHBOUR: 'it returns false'. Refute it at one input. -/
def fnBearerTokenInsertOneByteWrong : ChangeSpec := { name := "fnBearerTokenInsertOneByte", fn := fun _ => fun
  | [d1, d2, d3] => { results := [.lit (.bool false)], args := [d1, d2, d3] }
  | _ => none }
def FnBearerTokenInsertOneByteWrongFalsely : Prop := fnBearerTokenInsertOneByteRow.holds Try.pinned (OpenSpec.ofChange fnBearerTokenInsertOneByteWrong)

end Rows
end Go.Proofs.Qxb6630893a
