/-
  WHAT A SLICE OF ZOp THAT CAME IN READS AS: its ops, told once; likewise one ZOp handed over by value.
-/
import Derived.Test.Qxb6623514aOps
import Derived.Deep.Slices
import Derived.Lib.SmallJoins
namespace Go.Proofs.Qxb6623514a.Open
open Go.ChangeShapes Go.WideShapes Go.ChangeAt Go.RowKit Go.Deep Go.Joins
open Go.Proofs.Qxb6623514a.Ops
set_option linter.unusedVariables false

theorem c36 : Try.prog.cellsOf 36 = 4 := by kernel_rfl
theorem c5 : Try.prog.cellsOf 5 = 1 := by kernel_rfl
theorem c9 : Try.prog.cellsOf 9 = 1 := by kernel_rfl
theorem c32 : Try.prog.cellsOf 32 = 1 := by kernel_rfl
theorem c2 : Try.prog.cellsOf 2 = 1 := by kernel_rfl

theorem list4 {α : Type} {l : List α} (h : l.length = 4) : ∃ c0 c1 c2 c3, l = [c0, c1, c2, c3] := by
  match l, h with
  | [c0, c1, c2, c3], _ => exact ⟨c0, c1, c2, c3, rfl⟩

/-- Four cells that read as a ZOp ARE an op's cells. -/
theorem op_of_trod {H : Type} {enc : TypeId × Value → H} {W : World} {base fuel : Nat} {spare : Nat → Bool} {held : Bool} {cs : List Value} {y : DataW H × List MemPlace}
    (h : DataW.trod enc Try.prog W base spare held fuel 36 cs = some y) : ∃ z : Op4, cs = z.cells ∧ z.key.size ≤ maxLen ∧ z.ll ≤ maxLen := by
  obtain ⟨y0, y1, y2, y3, n, _, hl, h0, h1, h2, h3⟩ := trod_struct4 Try.underlying36 h
  rw [c36] at hl
  obtain ⟨v0, v1, v2, v3, rfl⟩ := list4 hl
  simp only [c5, c9, c32, c2, List.drop_zero, List.drop_succ_cons, List.take_succ_cons, List.take_zero] at h0 h1 h2 h3
  obtain ⟨k, e0, _, _⟩ := DataW.trod_int Try.underlying5 h0
  obtain ⟨s, e1, _, hs⟩ := DataW.trod_string Try.underlying9 h1
  have e2 : ∃ a l c, [v2] = [Value.slice a l c] ∧ l ≤ maxLen := by
    rcases open_slice Try.underlying32 h2 with ⟨hcs, _⟩ | ⟨a', len', cap', m, n', D, Pl, hcs, _, hlc, hcm, _⟩
    · exact ⟨_, _, _, hcs, Nat.zero_le _⟩
    · exact ⟨_, _, _, hcs, Nat.le_trans hlc hcm⟩
  obtain ⟨a, l, c, e2, hlm⟩ := e2
  obtain ⟨v, e3, _, _⟩ := DataW.trod_int Try.underlying2 h3
  simp only [List.cons.injEq, and_true] at e0 e1 e2 e3
  exact ⟨⟨k, s, a, l, c, v⟩, by rw [e0, e1, e2, e3]; rfl, hs, hlm⟩

theorem ops_of_trod {H : Type} {enc : TypeId × Value → H} {W : World} {a : Option Addr} {len cap : Nat} {d : DataW H} {p : List MemPlace}
    (h : DataW.Trod enc Try.prog W 0 (fun _ => true) true 22 (.slice a len cap) d p) : ∃ os : List Op4, Ops W a len os ∧ (a = none → len = 0) ∧ len ≤ maxLen := by
  obtain ⟨fuel, hf⟩ := h
  rcases open_slice Try.underlying22 (by simpa [Value.cells] using hf) with ⟨hcs, _⟩ | ⟨a', len', cap', m, n, D, Pl, hcs, _, hl, hm, hmm, _, hx⟩
  · simp at hcs
    obtain ⟨rfl, rfl, rfl⟩ := hcs
    exact ⟨[], ⟨rfl, fun h => absurd h (by omega)⟩, fun _ => rfl, Nat.zero_le _⟩
  · simp at hcs
    obtain ⟨rfl, rfl, rfl⟩ := hcs
    have hme : m = cap := by rw [hmm]; simp
    subst hme
    rw [c36] at hx
    have step : ∀ i, i < len → ∃ z : Op4, ∀ t, t < 4 → W.cell? ((a'.add (i * 4)).add t) = z.cells[t]? := fun i hi => by
      obtain ⟨cs', g1, g2⟩ := hx i (by omega)
      obtain ⟨z, rfl, _⟩ := op_of_trod g2
      obtain ⟨_, _, g3⟩ := World.cells?_some g1
      exact ⟨z, g3⟩
    obtain ⟨f, hf⟩ := @choose_lt Op4 ⟨z4⟩ len _ step
    refine ⟨(List.range len).map f, ⟨by simp, fun h0 => ?_⟩, (fun h => by cases h), Nat.le_trans hl hm⟩
    obtain ⟨b, off, spot⟩ := a'
    have h00 := hf 0 h0 0 (by omega)
    have e00 : W.cell? ((Addr.mk b off spot).add 0) = some (.int .u8 (f 0).kind) := by
      have : ((Addr.mk b off spot).add (0 * 4)).add 0 = (Addr.mk b off spot).add 0 := by rw [add_add]
      rw [this] at h00; exact h00
    have hspot : spot = none := by simpa [Addr.add] using World.cell?_spot e00
    subst hspot
    refine ⟨b, off, rfl, ?_, fun j hj => ?_⟩
    · rw [add_plain] at e00
      unfold World.cell? at e00
      simp at e00
      split at e00
      · rename_i hb
        obtain ⟨hlt, _⟩ := Array.getElem?_eq_some_iff.1 hb
        exact hlt
      · simp at e00
    · have hg : ((List.range len).map f).getD j z4 = f j := by simp [List.getD, hj]
      have r : ∀ t, t < 4 → W.cell? ⟨b, off + j * 4 + t, none⟩ = (f j).cells[t]? := fun t ht => by
        have := hf j hj t ht
        rw [add_plain, add_plain] at this
        exact this
      rw [hg]
      exact ⟨r 0 (by omega), r 1 (by omega), r 2 (by omega), r 3 (by omega)⟩
end Go.Proofs.Qxb6623514a.Open
