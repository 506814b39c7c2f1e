/-
  No cell of these rows narrows 'for every input' (looked for: loops, veiled, ifaces, maps, wideKeys, modest, calm, conditions, laid).
  DERIVED. THE GIVEN ROWS OF THIS SEAT. 1 by the template 'for every input the law returns true; each argument reads behind the call as it read before'; 0 by the template 'total and deterministic' (their statements: Qxb6603540aTotals.lean).
  GIVEN WITH THE SEED: the statements are not yours to turn. If you find one false, say at which input.
  Laid BY PROGRAM, IN A SANDBOX (cutbox-rows.mjs): the forced cells as the released guide's own fill.sh prints them over the translation b31530bb2586d9ff… (all of the seat's roots in one cut). By AI agents, Wed Nov 11 2026. No macro, syntax, notation, axiom, sorry.
-/
import Derived.Test.Qxb6603540aChecked
import GoSem.Claim
import GoSem.ClaimJoined
import GoSem.ClaimMapViews
import Derived.JoinedTies
import Derived.KernelRfl
namespace Go.Proofs.Qxb6603540a
/- THE CELL 'sum', in the pinned program and in every row, IS THE sha256 OF THE DUMP (.gsa) THAT Qxb6603540aProg.lean LOADS. Nothing in Lean hashes anything: it is a label: what it is worth is what the hold of that sum in a sandbox is worth. -/
noncomputable def Try.pinned : Pinned := { name := "qxb6603540a", sum := "b31530bb2586d9fffdbbc34a18bbb12448da411d57af1c44289fb31151a25926", checked := Try.checked }
namespace Rows
def none {H : Type} : Left H := { results := [], args := [] }

/-- 'zzlaws_root_b1.FnCompareThreeWayIgnoresSQL': WHATEVER THE INPUT: true; the input reads as it did. -/
def fnCompareThreeWayIgnoresSQLSpec : ChangeSpec := { name := "fnCompareThreeWayIgnoresSQL", fn := fun _ => fun
  | [d1, d2, d3, d4] => { results := [.lit (.bool true)], args := [d1, d2, d3, d4] }
  | _ => none }
def fnCompareThreeWayIgnoresSQLRow : OpenClaim := { program := "qxb6603540a", sum := "b31530bb2586d9fffdbbc34a18bbb12448da411d57af1c44289fb31151a25926", func := "example.com/hardy-query/hardy-query/zzlaws_root_b1.FnCompareThreeWayIgnoresSQL", spec := "fnCompareThreeWayIgnoresSQL", apart := false }
def FnCompareThreeWayIgnoresSQLSaid : Prop := fnCompareThreeWayIgnoresSQLRow.holds Try.pinned (OpenSpec.ofChange fnCompareThreeWayIgnoresSQLSpec)

/-- ITS FALSE NEIGHBOUR: 'it returns false'. Refute it at one input. -/
def fnCompareThreeWayIgnoresSQLWrong : ChangeSpec := { name := "fnCompareThreeWayIgnoresSQL", fn := fun _ => fun
  | [d1, d2, d3, d4] => { results := [.lit (.bool false)], args := [d1, d2, d3, d4] }
  | _ => none }
def FnCompareThreeWayIgnoresSQLWrongFalsely : Prop := fnCompareThreeWayIgnoresSQLRow.holds Try.pinned (OpenSpec.ofChange fnCompareThreeWayIgnoresSQLWrong)

end Rows
end Go.Proofs.Qxb6603540a
