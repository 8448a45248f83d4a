/-
  No cell of these rows narrows 'for every input' (looked for: loops, veiled, ifaces, maps, wideKeys, modest, calm, conditions, laid).
  DERIVED. THE GIVEN ROWS OF THIS SEAT. 2 by the template 'for every input the law returns true; each argument reads behind the call as it read before'; 0 by the template 'total and deterministic' (their statements: Qxb6623514aTotals.lean).
  GIVEN WITH THE SEED: the statements are not yours to turn. If you find one false, say at which input.
  Laid BY PROGRAM, IN A SANDBOX (cutbox-rows.mjs): the forced cells as the released guide's own fill.sh prints them over the translation ebf1ed6278e12db5… (all of the seat's roots in one cut). By AI agents, Wed Nov 11 2026. No macro, syntax, notation, axiom, sorry.
-/
import Derived.Test.Qxb6623514aChecked
import GoSem.Claim
import GoSem.ClaimJoined
import GoSem.ClaimMapViews
import Derived.JoinedTies
import Derived.KernelRfl
namespace Go.Proofs.Qxb6623514a
/- THE CELL 'sum', in the pinned program and in every row, IS THE sha256 OF THE DUMP (.gsa) THAT Qxb6623514aProg.lean LOADS. Nothing in Lean hashes anything: it is a label: what it is worth is what the hold of that sum in a sandbox is worth. -/
noncomputable def Try.pinned : Pinned := { name := "qxb6623514a", sum := "ebf1ed6278e12db5cde7b921e4547880bffd8c27998f835aa8599955bb420c1b", checked := Try.checked }
namespace Rows
def none {H : Type} : Left H := { results := [], args := [] }

/-- 'zzlaws_internal_history_b1.FnReadOnlyCutAndDropAppends': WHATEVER THE INPUT: true; the input reads as it did. -/
def fnReadOnlyCutAndDropAppendsSpec : ChangeSpec := { name := "fnReadOnlyCutAndDropAppends", fn := fun _ => fun
  | [d1, d2, d3, d4] => { results := [.lit (.bool true)], args := [d1, d2, d3, d4] }
  | _ => none }
def fnReadOnlyCutAndDropAppendsRow : OpenClaim := { program := "qxb6623514a", sum := "ebf1ed6278e12db5cde7b921e4547880bffd8c27998f835aa8599955bb420c1b", func := "example.com/genuina/genuina/zzlaws_internal_history_b1.FnReadOnlyCutAndDropAppends", spec := "fnReadOnlyCutAndDropAppends", apart := false }
def FnReadOnlyCutAndDropAppendsSaid : Prop := fnReadOnlyCutAndDropAppendsRow.holds Try.pinned (OpenSpec.ofChange fnReadOnlyCutAndDropAppendsSpec)

/-- ITS FALSE NEIGHBOUR: 'it returns false'. Refute it at one input. -/
def fnReadOnlyCutAndDropAppendsWrong : ChangeSpec := { name := "fnReadOnlyCutAndDropAppends", fn := fun _ => fun
  | [d1, d2, d3, d4] => { results := [.lit (.bool false)], args := [d1, d2, d3, d4] }
  | _ => none }
def FnReadOnlyCutAndDropAppendsWrongFalsely : Prop := fnReadOnlyCutAndDropAppendsRow.holds Try.pinned (OpenSpec.ofChange fnReadOnlyCutAndDropAppendsWrong)

/-- 'zzlaws_internal_history_b1.FnReadOnlyInsertAnywhere': WHATEVER THE INPUT: true; the input reads as it did. -/
def fnReadOnlyInsertAnywhereSpec : ChangeSpec := { name := "fnReadOnlyInsertAnywhere", fn := fun _ => fun
  | [d1, d2, d3, d4, d5, d6, d7] => { results := [.lit (.bool true)], args := [d1, d2, d3, d4, d5, d6, d7] }
  | _ => none }
def fnReadOnlyInsertAnywhereRow : OpenClaim := { program := "qxb6623514a", sum := "ebf1ed6278e12db5cde7b921e4547880bffd8c27998f835aa8599955bb420c1b", func := "example.com/genuina/genuina/zzlaws_internal_history_b1.FnReadOnlyInsertAnywhere", spec := "fnReadOnlyInsertAnywhere", apart := false }
def FnReadOnlyInsertAnywhereSaid : Prop := fnReadOnlyInsertAnywhereRow.holds Try.pinned (OpenSpec.ofChange fnReadOnlyInsertAnywhereSpec)

/-- ITS FALSE NEIGHBOUR: 'it returns false'. Refute it at one input. -/
def fnReadOnlyInsertAnywhereWrong : ChangeSpec := { name := "fnReadOnlyInsertAnywhere", fn := fun _ => fun
  | [d1, d2, d3, d4, d5, d6, d7] => { results := [.lit (.bool false)], args := [d1, d2, d3, d4, d5, d6, d7] }
  | _ => none }
def FnReadOnlyInsertAnywhereWrongFalsely : Prop := fnReadOnlyInsertAnywhereRow.holds Try.pinned (OpenSpec.ofChange fnReadOnlyInsertAnywhereWrong)

end Rows
end Go.Proofs.Qxb6623514a
