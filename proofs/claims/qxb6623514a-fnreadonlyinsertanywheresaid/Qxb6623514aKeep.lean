/-
  A SLICE OF OPS THAT THE LAW ITSELF BUILDS BY append; cuts of a slice of ops; the plain law on lists.
-/
import Derived.Test.Qxb6623514aMade
namespace Go.Proofs.Qxb6623514a.Keep
open Go.ChangeShapes Go.WideShapes Go.ChangeAt Go.RowKit
open Go.Proofs.Qxb6623514a.Ops Go.Proofs.Qxb6623514a.Made
set_option linter.unusedVariables false

/-! ### The plain law -/

def kp (os : List Op4) : List Op4 := os.filter fun z => !(z.kind == 2)

theorem kp_len (os : List Op4) (k : Nat) : (kp (os.take k)).length ≤ k := by
  unfold kp
  have h1 := List.length_filter_le (fun z : Op4 => !(z.kind == 2)) (os.take k)
  have h2 : (os.take k).length ≤ k := List.length_take_le _ _
  omega

theorem kp_hit (os : List Op4) (k : Nat) (h : k < os.length) (hk : (os.getD k z4).kind = 2) : kp (os.take (k + 1)) = kp (os.take k) := by
  unfold kp
  rw [List.take_succ_eq_append_getElem h, List.filter_append]
  simp [List.getD, h] at hk
  simp [hk]

theorem kp_miss (os : List Op4) (k : Nat) (h : k < os.length) (hk : ¬ (os.getD k z4).kind = 2) : kp (os.take (k + 1)) = kp (os.take k) ++ [os.getD k z4] := by
  unfold kp
  rw [List.take_succ_eq_append_getElem h, List.filter_append]
  simp [List.getD, h] at hk ⊢
  exact hk

theorem ro_kp (os : List Op4) : ro (kp os) = true := by
  unfold ro kp
  rw [List.all_eq_true]
  intro z hz
  exact (List.mem_filter.1 hz).2

theorem kp_full (os : List Op4) : ro os = decide ((kp os).length = os.length) := by
  unfold ro kp
  rw [Bool.eq_iff_iff, decide_eq_true_iff, List.all_eq_true, List.length_filter_eq_length_iff]

theorem ro_split (os : List Op4) (c : Nat) : ro os = (ro (os.take c) && ro (os.drop c)) := by
  unfold ro
  rw [← List.all_append, List.take_append_drop]

theorem ro_app (xs ys : List Op4) : ro (xs ++ ys) = (ro xs && ro ys) := by
  unfold ro
  rw [List.all_append]

theorem ro_one (z : Op4) : ro [z] = !(z.kind == 2) := by simp [ro]

/-! ### Cuts of a slice of ops -/

theorem ops_take {w : World} {N off len c : Nat} {os : List Op4} (h : Ops w (some ⟨N, off, none⟩) len os) (hc : c ≤ len) : Ops w (some ⟨N, off, none⟩) c (os.take c) := by
  have hl := h.1
  refine ⟨by simp; omega, fun h0 => ?_⟩
  obtain ⟨b, o, e, hlt, r⟩ := h.2 (by omega)
  refine ⟨b, o, e, hlt, fun j hj => ?_⟩
  have := r j (by omega)
  have e2 : (os.take c).getD j z4 = os.getD j z4 := by simp [List.getD, hj]
  rw [e2]; exact this

theorem ops_drop {w : World} {N off len c : Nat} {os : List Op4} (h : Ops w (some ⟨N, off, none⟩) len os) (hc : c < len) : Ops w (some ⟨N, off + c * 4, none⟩) (len - c) (os.drop c) := by
  have hl := h.1
  refine ⟨by simp; omega, fun h0 => ?_⟩
  obtain ⟨b, o, e, hlt, r⟩ := h.2 (by omega)
  simp only [Option.some.injEq, Addr.mk.injEq, and_true] at e
  obtain ⟨rfl, rfl⟩ := e
  refine ⟨N, off + c * 4, rfl, hlt, fun j hj => ?_⟩
  have := r (c + j) (by omega)
  have e2 : (os.drop c).getD j z4 = os.getD (c + j) z4 := by simp [List.getD]
  rw [e2, show off + c * 4 + j * 4 = off + (c + j) * 4 by omega]; exact this

theorem ops_none (w : World) (a : Option Addr) (os : List Op4) (h : os = []) : Ops w a 0 os := by
  subst h; exact ⟨rfl, fun h => absurd h (by omega)⟩

/-! ### What append builds -/

def flat (os : List Op4) : List Value := os.flatMap Op4.cells

theorem flat_snoc (os : List Op4) (z : Op4) : flat (os ++ [z]) = flat os ++ z.cells := by simp [flat, List.flatMap_append]

theorem flat_get : ∀ (os : List Op4) (j : Nat), j < os.length → ∀ i, i < 4 → (flat os)[j * 4 + i]? = (os.getD j z4).cells[i]? := by
  intro os
  induction os with
  | nil => intro j hj; simp at hj
  | cons z os ih =>
    intro j hj i hi
    have e : flat (z :: os) = z.cells ++ flat os := by simp [flat]
    have hl : z.cells.length = 4 := rfl
    rw [e]
    cases j with
    | zero =>
      rw [List.getElem?_append_left (by omega)]
      simp
    | succ j =>
      rw [List.getElem?_append_right (by omega), hl, show (j + 1) * 4 + i - 4 = j * 4 + i by omega, ih j (by simpa using hj) i hi]
      simp

theorem own_ops {w : World} {base g m cap : Nat} {os : List Op4} (h : w.ownsRow base 34 4 (.slice (some ⟨g, 0, none⟩) m cap) m (flat os)) (hl : os.length = m) : Ops w (some ⟨g, 0, none⟩) m os := by
  refine ⟨hl, fun h0 => ⟨g, 0, rfl, (h.lt g rfl).2, fun j hj => ?_⟩⟩
  have r : ∀ i, i < 4 → w.cell? ⟨g, j * 4 + i, none⟩ = (os.getD j z4).cells[i]? := fun i hi => by
    rw [h.cellAt (j * 4 + i) (by omega)]
    exact flat_get os j (by omega) i hi
  rw [Nat.zero_add]
  exact ⟨r 0 (by omega), r 1 (by omega), r 2 (by omega), r 3 (by omega)⟩

theorem cells_new (w : World) (z : Op4) : ∀ j u, z.cells[j]? = some u → (w.alloc (.cells #[.int .u8 z.kind, .string z.key, .slice z.la z.ll z.lc, .int .i64 z.val] 34)).cell? ((⟨w.heap.size, 0, none⟩ : Addr).add j) = some u := by
  intro j u hj
  match j, hj with
  | 0, hj => simp [Op4.cells] at hj; subst hj; simp [Addr.add]
  | 1, hj => simp [Op4.cells] at hj; subst hj; simp [Addr.add]
  | 2, hj => simp [Op4.cells] at hj; subst hj; simp [Addr.add]
  | 3, hj => simp [Op4.cells] at hj; subst hj; simp [Addr.add]
  | j + 4, hj => simp [Op4.cells] at hj

/-- 'kept = append(kept, all[k])', there is room: THE append, behind the block that the one element is laid in. -/
theorem wpList_append_op {w : World} {ops : Array Oper} {rest : List Oper} {o : Oper} {a : Act} {Q : Exit → Act → World → Prop} (hgd : o.guard = none) (s x : Operand)
    (ho : o.op = .call { callee := .builtin .append, args := #[s, x], argTypes := #[25, 25] }) (base g m cap : Nat) (K : List Op4) (z : Op4)
    (hown : w.ownsRow base 34 4 (.slice (some ⟨g, 0, none⟩) m cap) m (flat K)) (B : Nat) (w0 : World) (hb : Below B w0 w) (hBg : B ≤ base) (hBs : B ≤ w.heap.size) (hfit : m + 1 ≤ cap)
    (hs : a.eval s = .slice (some ⟨g, 0, none⟩) m cap) (hx : a.eval x = .slice (some ⟨w.heap.size, 0, none⟩) 1 1)
    (h : ∀ w', Hid (w'.ownsRow base 34 4 (.slice (some ⟨g, 0, none⟩) (m + 1) cap) (m + 1) (flat (K ++ [z]))) → Below B w0 w' → wpList Try.prog ops Q rest (a.put o.dst (.slice (some ⟨g, 0, none⟩) (m + 1) cap)) w') :
    wpList Try.prog ops Q (o :: rest) a (w.alloc (.cells #[.int .u8 z.kind, .string z.key, .slice z.la z.ll z.lc, .int .i64 z.val] 34)) := by
  obtain ⟨i0, hi, hz0, hz1, hz2⟩ := info_parts info34
  have hg := (hown.lt g rfl).1
  refine wpList_append_fits _ hgd s x 25 ho base 34 i0 4 Try.underlying25 hi hz1 g m cap (flat K) hs (hown.alloc _) ⟨w.heap.size, 0, none⟩ 1 1 z.cells hx rfl (cells_new w z) (fun u hu => ?_) hfit ?_
  · simp [Op4.cells] at hu
    rcases hu with rfl | rfl | rfl | rfl <;> rfl
  · intro w' hown' hgrow
    refine h w' ?_ ?_
    · show w'.ownsRow _ _ _ _ _ _
      rw [flat_snoc]; exact hown'
    · exact (hb.alloc hBs _).grown hgrow (by simp; omega) (fun j hj => by simp at hj; omega)

/-- 'make([]history.Op, 0, n)'. -/
theorem wpList_make_ops {w : World} {ops : Array Oper} {rest : List Oper} {o : Oper} {a : Act} {Q : Exit → Act → World → Prop} (hgd : o.guard = none) (l c : Operand) (ho : o.op = Op.makeSlice 25 l c) (C : Int) (n : Nat)
    (hl : a.eval l = .int .i64 0) (hc : a.eval c = .int .i64 C) (hC : C = (n : Int)) (hn : n ≤ 131073)
    (h : ∀ w', Hid (w'.ownsRow w.heap.size 34 4 (.slice (some ⟨w.heap.size, 0, none⟩) 0 n) 0 (flat [])) → Below w.heap.size w w' → wpList Try.prog ops Q rest (a.put o.dst (.slice (some ⟨w.heap.size, 0, none⟩) 0 n)) w') :
    wpList Try.prog ops Q (o :: rest) a w := by
  obtain ⟨i0, hi, hz0, hz1, hz2⟩ := info_parts info34
  refine wpList_make_own _ hgd l c 25 ho w.heap.size 34 i0 _ 4 Try.underlying25 hi hz0 hz1 .i64 .i64 C n hl hc hC (by rw [hz2]; omega) (by unfold maxLen; omega) (Nat.le_refl _) ?_
  intro w' hown hgrow
  exact h w' hown ((Below.refl _ _).grown hgrow (Nat.le_refl _) (fun k hk => by cases hk))

/-- ReadOnly, its answer under a name. -/
theorem readOnly_at (id : Int) (st : ByteArray) (a : Option Addr) (len cap : Nat) (os : List Op4) (B : Bool) (w : World) (h : Ops w a len os) (hl : len ≤ 1048577) (hB : ro os = B) :
    Calls Try.prog 8 #[.agg #[.int .i64 id, .string st, .slice a len cap]] w fun e w' => e = .returned (.bool B) ∧ Below w.heap.size w w' := by
  subst hB; exact readOnly_any id st a len cap os w h hl
end Go.Proofs.Qxb6623514a.Keep
