/-
  No cell of these rows narrows 'for every input' (looked for: loops, veiled, ifaces, maps, wideKeys, modest, calm, conditions, laid).
  DERIVED. THE GIVEN ROWS OF THIS SEAT. 1 by the template 'for every input the law returns true; each argument reads behind the call as it read before'; 0 by the template 'total and deterministic' (their statements: Qxb6623452aTotals.lean).
  GIVEN WITH THE SEED: the statements are not yours to turn. If you find one false, say at which input.
  Laid BY PROGRAM, IN A SANDBOX (cutbox-rows.mjs): the forced cells as the released guide's own fill.sh prints them over the translation c332b80ad451addc… (all of the seat's roots in one cut). By AI agents, Wed Nov 11 2026. No macro, syntax, notation, axiom, sorry.
-/
import Derived.Test.Qxb6623452aChecked
import GoSem.Claim
import GoSem.ClaimJoined
import GoSem.ClaimMapViews
import Derived.JoinedTies
import Derived.KernelRfl
namespace Go.Proofs.Qxb6623452a
/- THE CELL 'sum', in the pinned program and in every row, IS THE sha256 OF THE DUMP (.gsa) THAT Qxb6623452aProg.lean LOADS. Nothing in Lean hashes anything: it is a label: what it is worth is what the hold of that sum in a sandbox is worth. -/
noncomputable def Try.pinned : Pinned := { name := "qxb6623452a", sum := "c332b80ad451addc3de34492c731272ee51237195910b58bdd9e4e765d4faf34", checked := Try.checked }
namespace Rows
def none {H : Type} : Left H := { results := [], args := [] }

/-- 'zzlaws_internal_config_b1.FnOrDefaultCoalescesThree': WHATEVER THE INPUT: true; the input reads as it did. -/
def fnOrDefaultCoalescesThreeSpec : ChangeSpec := { name := "fnOrDefaultCoalescesThree", fn := fun _ => fun
  | [d1, d2, d3] => { results := [.lit (.bool true)], args := [d1, d2, d3] }
  | _ => none }
def fnOrDefaultCoalescesThreeRow : OpenClaim := { program := "qxb6623452a", sum := "c332b80ad451addc3de34492c731272ee51237195910b58bdd9e4e765d4faf34", func := "example.com/valentia/valentia/zzlaws_internal_config_b1.FnOrDefaultCoalescesThree", spec := "fnOrDefaultCoalescesThree", apart := false }
def FnOrDefaultCoalescesThreeSaid : Prop := fnOrDefaultCoalescesThreeRow.holds Try.pinned (OpenSpec.ofChange fnOrDefaultCoalescesThreeSpec)

/-- ITS FALSE NEIGHBOUR: 'it returns false'. Refute it at one input. -/
def fnOrDefaultCoalescesThreeWrong : ChangeSpec := { name := "fnOrDefaultCoalescesThree", fn := fun _ => fun
  | [d1, d2, d3] => { results := [.lit (.bool false)], args := [d1, d2, d3] }
  | _ => none }
def FnOrDefaultCoalescesThreeWrongFalsely : Prop := fnOrDefaultCoalescesThreeRow.holds Try.pinned (OpenSpec.ofChange fnOrDefaultCoalescesThreeWrong)

end Rows
end Go.Proofs.Qxb6623452a
