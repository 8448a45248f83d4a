/-
  No cell of these rows narrows 'for every input' (looked for: loops, veiled, ifaces, maps, wideKeys, modest, calm, conditions, laid).
  DERIVED. THE GIVEN ROWS OF THIS SEAT. 1 by the template 'for every input the law returns true; each argument reads behind the call as it read before'; 0 by the template 'total and deterministic' (their statements: Qxb6623507aTotals.lean).
  GIVEN WITH THE SEED: the statements are not yours to turn. If you find one false, say at which input.
  Laid BY PROGRAM, IN A SANDBOX (cutbox-rows.mjs): the forced cells as the released guide's own fill.sh prints them over the translation ba5c00e1fa8d66e0… (all of the seat's roots in one cut). By AI agents, Wed Nov 11 2026. No macro, syntax, notation, axiom, sorry.
-/
import Derived.Test.Qxb6623507aChecked
import GoSem.Claim
import GoSem.ClaimJoined
import GoSem.ClaimMapViews
import Derived.JoinedTies
import Derived.KernelRfl
namespace Go.Proofs.Qxb6623507a
/- THE CELL 'sum', in the pinned program and in every row, IS THE sha256 OF THE DUMP (.gsa) THAT Qxb6623507aProg.lean LOADS. Nothing in Lean hashes anything: it is a label: what it is worth is what the hold of that sum in a sandbox is worth. -/
noncomputable def Try.pinned : Pinned := { name := "qxb6623507a", sum := "ba5c00e1fa8d66e0eb642a85447986f537bdd903d114ba8837c1ab9c51e526e0", checked := Try.checked }
namespace Rows
def none {H : Type} : Left H := { results := [], args := [] }

/-- 'zzlaws_internal_ast_b1.FnAdvanceSplitsAndCountsLines': WHATEVER THE INPUT: true; the input reads as it did. -/
def fnAdvanceSplitsAndCountsLinesSpec : ChangeSpec := { name := "fnAdvanceSplitsAndCountsLines", fn := fun _ => fun
  | [d1, d2, d3, d4, d5, d6, d7] => { results := [.lit (.bool true)], args := [d1, d2, d3, d4, d5, d6, d7] }
  | _ => none }
def fnAdvanceSplitsAndCountsLinesRow : OpenClaim := { program := "qxb6623507a", sum := "ba5c00e1fa8d66e0eb642a85447986f537bdd903d114ba8837c1ab9c51e526e0", func := "example.com/iustitia/iustitia/zzlaws_internal_ast_b1.FnAdvanceSplitsAndCountsLines", spec := "fnAdvanceSplitsAndCountsLines", apart := false }
def FnAdvanceSplitsAndCountsLinesSaid : Prop := fnAdvanceSplitsAndCountsLinesRow.holds Try.pinned (OpenSpec.ofChange fnAdvanceSplitsAndCountsLinesSpec)

/-- ITS FALSE NEIGHBOUR: 'it returns false'. Refute it at one input. -/
def fnAdvanceSplitsAndCountsLinesWrong : ChangeSpec := { name := "fnAdvanceSplitsAndCountsLines", fn := fun _ => fun
  | [d1, d2, d3, d4, d5, d6, d7] => { results := [.lit (.bool false)], args := [d1, d2, d3, d4, d5, d6, d7] }
  | _ => none }
def FnAdvanceSplitsAndCountsLinesWrongFalsely : Prop := fnAdvanceSplitsAndCountsLinesRow.holds Try.pinned (OpenSpec.ofChange fnAdvanceSplitsAndCountsLinesWrong)

end Rows
end Go.Proofs.Qxb6623507a
