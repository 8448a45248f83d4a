/-
  ONE ZOp THAT CAME IN BY VALUE: its four fields.
-/
import Derived.Test.Qxb6623514aOpen
namespace Go.Proofs.Qxb6623514a.Open
open Go.ChangeShapes Go.WideShapes Go.ChangeAt Go.RowKit Go.Deep Go.Joins
open Go.Proofs.Qxb6623514a.Ops
set_option linter.unusedVariables false

theorem agg_of_trod {H : Type} {enc : TypeId × Value → H} {W : World} {base b0 : Nat} {spare : Nat → Bool} {held : Bool} {v : Value} {d : DataW H} {p : List MemPlace} (hv : Value.okWide Try.prog W .any b0 36 v)
    (h : DataW.Trod enc Try.prog W base spare held 36 v d p) : ∃ x : Op4, v = .agg #[.int .u8 x.kind, .string x.key, .slice x.la x.ll x.lc, .int .i64 x.val] ∧ x.key.size ≤ maxLen ∧ x.ll ≤ maxLen := by
  obtain ⟨cs, rfl, hsz⟩ := okWide_struct Try.underlying36 hv
  obtain ⟨fuel, hf⟩ := h
  obtain ⟨z, e, h1, h2⟩ := op_of_trod hf
  refine ⟨z, ?_, h1, h2⟩
  have e' : cs.toList = z.cells := e
  have : cs = z.cells.toArray := by rw [← e', Array.toArray_toList]
  rw [this]; rfl
end Go.Proofs.Qxb6623514a.Open
