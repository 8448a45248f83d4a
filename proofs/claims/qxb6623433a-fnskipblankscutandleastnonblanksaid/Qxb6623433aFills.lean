/-
  SMALL LAWS ON WORLDS that the law's walk leans on: a slice that stays, a copy, a row that is filled.
-/
import Derived.Test.Qxb6623433aCalls
import Derived.Laws.CopyOwn
import Derived.Deep.OwnRows
namespace Go.Proofs.Qxb6623433a.Fills
open Go.ChangeShapes Go.WideShapes Go.ChangeAt Go.RowKit
open Go.Proofs.Qxb6623433a.Plain Go.Proofs.Qxb6623433a.Callees

theorem sl_below {w w' : World} {a : Option Addr} {len : Nat} {zs : List Int} (h : Sl w a len zs) (hb : Below w.heap.size w w') : Sl w' a len zs := by
  refine ⟨h.1, fun h0 => ?_⟩
  obtain ⟨b, off, e, hlt, hc⟩ := h.2 h0
  exact ⟨b, off, e, Nat.lt_of_lt_of_le hlt hb.size, fun j hj => by rw [hb.cell (p := ⟨b, off + j, none⟩) hlt]; exact hc j hj⟩

theorem sl_copied {w : World} {g la : Nat} {A : List Int} {cur : List Value} (hA : A.length = la) (hcur : cur.length = la)
    (hg : w.heap[g]? = some (.cells (splice cur 0 (A.map (Value.int .u8))).toArray 5 (0, 0))) : Sl w (some ⟨g, 0, none⟩) la A := by
  have e : splice cur 0 (A.map (Value.int .u8)) = A.map (Value.int .u8) := by
    simp [splice, List.drop_eq_nil_of_le (show cur.length ≤ A.length by omega)]
  rw [e] at hg
  refine ⟨hA, fun _ => ⟨g, 0, rfl, ?_, fun j hj => ?_⟩⟩
  · obtain ⟨hlt, _⟩ := Array.getElem?_eq_some_iff.1 hg
    exact hlt
  · simp [World.cell?, hg, hA, hj]

/-- The first k numbers of J have been laid into block N. -/
def Fill (w : World) (N : Nat) (J : List Int) (k : Nat) : Prop := w.rowIs N 5 J.length (fun j => if j < k then .int .u8 (J.getD j 0) else .int .u8 0)

theorem fill_start (w : World) (J : List Int) (n : Nat) (hn : J.length = n) : Fill (w.alloc (.cells (madeCells #[.int .u8 0] n) 5)) w.heap.size J 0 := by
  subst hn
  exact (World.rowIs_made w (.int .u8 0) J.length 5).congr (fun i _ => by simp)

theorem fill_cell {w : World} {N : Nat} {J : List Int} {k : Nat} (h : Fill w N J k) (hk : k < J.length) : w.cell? ⟨N, k, none⟩ = some (.int .u8 0) ∧ w.frozen? ⟨N, k, none⟩ = false := by
  refine ⟨?_, World.rowIs.frozen h k⟩
  have := World.rowIs.cell h hk
  simpa using this

theorem fill_step {w : World} {N : Nat} {J : List Int} {k : Nat} (h : Fill w N J k) (v : Int) (hv : v = J.getD k 0) : Fill (w.setCell ⟨N, k, none⟩ (.int .u8 v)) N J (k + 1) := by
  subst hv
  refine (World.rowIs.set h k _).congr fun j _ => ?_
  by_cases e : j = k
  · subst e; simp
  · by_cases e2 : j < k
    · simp [e, e2, show j < k + 1 by omega]
    · simp [e, e2, show ¬ j < k + 1 by omega]

theorem get_left {A B : List Int} {la k : Nat} (hA : A.length = la) (hk : k < la) : A[k]?.getD 0 = (A ++ B).getD k 0 := by
  simp [List.getD, List.getElem?_append_left (show k < A.length by omega)]
theorem get_right {A B : List Int} {la k : Nat} (hA : A.length = la) : B[k]?.getD 0 = (A ++ B).getD (la + k) 0 := by
  subst hA
  simp [List.getD, List.getElem?_append_right]

theorem fill_done {w : World} {N n : Nat} {J : List Int} (h : Fill w N J n) (hn : J.length = n) : Sl w (some ⟨N, 0, none⟩) n J := by
  refine ⟨hn, fun _ => ⟨N, 0, rfl, World.rowIs.lt h, fun j hj => ?_⟩⟩
  have := World.rowIs.cell h (show j < J.length by omega)
  simpa [hj] using this

theorem size5 : (Try.prog.info? 5).map (·.size) = some 1 := by kernel_rfl

/-- 'zzc := make([]byte, len(a)); copy(zzc, a)': THE copy, behind the make. -/
theorem wpList_copy_new {w : World} {ops : Array Oper} {rest : List Oper} {o : Oper} {a : Act} {Q : Exit → Act → World → Prop} (hgd : o.guard = none) (d s : Operand)
    (ho : o.op = .call { callee := .builtin .copy, args := #[d, s], argTypes := #[22, 22] }) (x : Addr) (la ca : Nat) (A : List Int) (hA : Sl w (some x) la A)
    (hd : a.eval d = .slice (some ⟨w.heap.size, 0, none⟩) la la) (hs : a.eval s = .slice (some x) la ca)
    (h : ∀ w2, Hid (Sl w2 (some ⟨w.heap.size, 0, none⟩) la A) → Below w.heap.size w w2 → wpList Try.prog ops Q rest (a.put o.dst (goInt la)) w2) :
    wpList Try.prog ops Q (o :: rest) a (w.alloc (.cells (madeCells #[.int .u8 0] la) 5)) := by
  have hb : Below w.heap.size w (w.alloc (.cells (madeCells #[.int .u8 0] la) 5)) := (Below.refl _ _).alloc (Nat.le_refl _) _
  have hAl := hA.1
  refine wpList_copy_splice hgd d s 22 22 ho 5 Try.underlying22 size5 _ _ _ _ _ _ hd hs w.heap.size 0 (madeCells #[.int .u8 0] la).toList 5 (by rw [Array.toArray_toList]; exact Deep.blk_alloc_new _ _) (A.map (Value.int .u8)) (by simp [hAl]) ?_ (by simp [size_madeCells, hAl]) (by intro v hv; simp at hv; obtain ⟨y, _, rfl⟩ := hv; rfl) w.heap.size w hb (Nat.le_refl _) ?_
  · intro h0
    refine ⟨rfl, x, rfl, fun j v hj => ?_⟩
    obtain ⟨b', off, e, hlt, hc⟩ := hA.2 (by simpa [hAl] using h0)
    simp only [Option.some.injEq] at e
    subst e
    have hjl : j < la := by
      have := (List.getElem?_eq_some_iff.1 hj).1
      simpa [hAl] using this
    rw [add_plain, hb.cell (p := ⟨b', off + j, none⟩) hlt, hc j hjl]
    simpa [hAl, hjl] using hj
  · intro w2 hg2 hb2
    have := h w2 (sl_copied hAl (by simp [size_madeCells]) hg2.out) hb2
    simpa [hAl] using this

/-- ZZSkipBlanks, its index and its answer under names of their own. -/
theorem zzskip_at (a : Option Addr) (len cap : Nat) (zs : List Int) (m r : Nat) (x : Int) (w : World) (hs : Sl w a len zs) (hl : len ≤ 131072) (hm : (m : Int) ≤ 9223372036854775807) (hx : x = (m : Int)) (hr : r = sk zs m) :
    Calls Try.prog 5 #[.slice a len cap, .int .i64 x] w fun e w' => e = .returned (.int .i64 (r : Int)) ∧ w = w' := by
  subst hx; subst hr
  exact zzskip_any a len cap zs m w hs hl hm
end Go.Proofs.Qxb6623433a.Fills
