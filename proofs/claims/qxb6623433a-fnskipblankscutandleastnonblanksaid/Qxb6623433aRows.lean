/-
  No cell of these rows narrows 'for every input' (looked for: loops, veiled, ifaces, maps, wideKeys, modest, calm, conditions, laid).
  DERIVED. THE GIVEN ROWS OF THIS SEAT. 1 by the template 'for every input the law returns true; each argument reads behind the call as it read before'; 0 by the template 'total and deterministic' (their statements: Qxb6623433aTotals.lean).
  GIVEN WITH THE SEED: the statements are not yours to turn. If you find one false, say at which input.
  Laid BY PROGRAM, IN A SANDBOX (cutbox-rows.mjs): the forced cells as the released guide's own fill.sh prints them over the translation 78685baf5588ca9d… (all of the seat's roots in one cut). By AI agents, Wed Nov 11 2026. No macro, syntax, notation, axiom, sorry.
-/
import Derived.Test.Qxb6623433aChecked
import GoSem.Claim
import GoSem.ClaimJoined
import GoSem.ClaimMapViews
import Derived.JoinedTies
import Derived.KernelRfl
namespace Go.Proofs.Qxb6623433a
/- THE CELL 'sum', in the pinned program and in every row, IS THE sha256 OF THE DUMP (.gsa) THAT Qxb6623433aProg.lean LOADS. Nothing in Lean hashes anything: it is a label: what it is worth is what the hold of that sum in a sandbox is worth. -/
noncomputable def Try.pinned : Pinned := { name := "qxb6623433a", sum := "78685baf5588ca9d26907a1f3fa3da0ca7570bcb3797048bff0f2c425564f883", checked := Try.checked }
namespace Rows
def none {H : Type} : Left H := { results := [], args := [] }

/-- 'zzlaws_internal_resp_b1.FnSkipBlanksCutAndLeastNonBlank': WHATEVER THE INPUT: true; the input reads as it did. -/
def fnSkipBlanksCutAndLeastNonBlankSpec : ChangeSpec := { name := "fnSkipBlanksCutAndLeastNonBlank", fn := fun _ => fun
  | [d1, d2, d3] => { results := [.lit (.bool true)], args := [d1, d2, d3] }
  | _ => none }
def fnSkipBlanksCutAndLeastNonBlankRow : OpenClaim := { program := "qxb6623433a", sum := "78685baf5588ca9d26907a1f3fa3da0ca7570bcb3797048bff0f2c425564f883", func := "example.com/tailward/tailward/zzlaws_internal_resp_b1.FnSkipBlanksCutAndLeastNonBlank", spec := "fnSkipBlanksCutAndLeastNonBlank", apart := false }
def FnSkipBlanksCutAndLeastNonBlankSaid : Prop := fnSkipBlanksCutAndLeastNonBlankRow.holds Try.pinned (OpenSpec.ofChange fnSkipBlanksCutAndLeastNonBlankSpec)

/-- ITS FALSE NEIGHBOUR: 'it returns false'. Refute it at one input. -/
def fnSkipBlanksCutAndLeastNonBlankWrong : ChangeSpec := { name := "fnSkipBlanksCutAndLeastNonBlank", fn := fun _ => fun
  | [d1, d2, d3] => { results := [.lit (.bool false)], args := [d1, d2, d3] }
  | _ => none }
def FnSkipBlanksCutAndLeastNonBlankWrongFalsely : Prop := fnSkipBlanksCutAndLeastNonBlankRow.holds Try.pinned (OpenSpec.ofChange fnSkipBlanksCutAndLeastNonBlankWrong)

end Rows
end Go.Proofs.Qxb6623433a
