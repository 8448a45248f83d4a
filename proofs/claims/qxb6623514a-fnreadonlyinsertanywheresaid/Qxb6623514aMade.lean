/-
  THE CONTRACTS OF zzBytes (the first law's) AND OF zzhB1ToOps.
-/
import Derived.Test.Qxb6623514aOps
import Derived.Deep.OwnRows
namespace Go.Proofs.Qxb6623514a.Made
open Go.ChangeShapes Go.WideShapes Go.ChangeAt Go.RowKit
open Go.Proofs.Qxb6623514a.Ops
set_option linter.unusedVariables false

set_option maxRecDepth 100000 in
set_option maxHeartbeats 1000000 in
theorem zzBytes_any (id : Int) (st : ByteArray) (a : Option Addr) (len cap : Nat) (cut : Int) (os : List Op4) (w : World) (h : Ops w a len os) (hst : st.size ≤ maxLen) (hlen : len ≤ maxLen) :
    Calls Try.prog 5 #[.int .i64 id, .string st, .slice a len cap, .int .i64 cut] w fun e w' => SaysB e True ∧ w = w' := by
  have H := hide h
  clear h
  unfold maxLen at hst hlen
  by_cases h1 : 1048576 < st.size
  · go_enter Try.func5, Try.ntmps5
    go_wp2
    go_ret
    exact ⟨⟨false, rfl, fun _ => trivial⟩, rfl⟩
  by_cases h2 : 1048576 < len
  · go_enter Try.func5, Try.ntmps5
    go_wp2
    go_ret
    exact ⟨⟨false, rfl, fun _ => trivial⟩, rfl⟩
  by_cases h3 : 1048576 < st.size + len
  · go_enter Try.func5, Try.ntmps5
    go_wp2
    go_ret
    exact ⟨⟨false, rfl, fun _ => trivial⟩, rfl⟩
  go_enter Try.func5, Try.ntmps5
  go_wp2
  go_loopg [9, 10] len (fun g t9 t10 wr => ∃ (k : Nat) (T : Int), g = len - k ∧ k ≤ len ∧ t10 = .int .i64 k ∧ t9 = .int .i64 T ∧ 0 ≤ T ∧ T ≤ 1048576 ∧ w = wr)
  case atStart => exact ⟨0, _, rfl, Nat.zero_le _, rfl, rfl, by omega, by omega, rfl⟩
  case round =>
    obtain ⟨k, T, HG, hk, rfl, rfl, h0, hT, rfl⟩ := hrel
    by_cases hlt : k < len
    · obtain ⟨b, off, rfl, hbl, hc⟩ := H.out.2 (by omega)
      have hz := hc k hlt
      clear hc
      generalize os.getD k z4 = z at hz
      obtain ⟨kind, key, la, ll, lc, val⟩ := z
      obtain ⟨q0, q1, q2, q3⟩ := hz
      simp only at q0 q1 q2 q3
      by_cases c1 : 1048576 < key.size
      · go_wp2
        go_ret
        exact ⟨⟨false, rfl, fun _ => trivial⟩, rfl⟩
      by_cases c2 : 1048576 < T + (key.size : Int)
      · go_wp2
        go_ret
        exact ⟨⟨false, rfl, fun _ => trivial⟩, rfl⟩
      by_cases c3 : 1048576 < ll
      · go_wp2
        go_ret
        exact ⟨⟨false, rfl, fun _ => trivial⟩, rfl⟩
      by_cases c4 : 1048576 < T + (key.size : Int) + (ll : Int)
      · go_wp2
        go_ret
        exact ⟨⟨false, rfl, fun _ => trivial⟩, rfl⟩
      · go_wp2
        go_roundg (len - (k + 1))
        case rel => exact ⟨k + 1, _, rfl, by omega, by go_num, rfl, by omega, by omega, rfl⟩
        case measure => omega
    · go_wp2
      go_ret
      exact ⟨⟨true, rfl, fun _ => trivial⟩, rfl⟩

/-! ### zzhB1ToOps -/

theorem info34 : (Try.prog.info? 34).map (fun i => (i.zero, i.size, i.bytes)) = some (some (.agg #[.int .u8 0, .string ByteArray.empty, .slice none 0 0, .int .i64 0]), 4, 56) := by kernel_rfl

/-- The first k ops of os lie in block N, which has room for n. -/
def Row (w : World) (N n k : Nat) (os : List Op4) : Prop :=
  ∃ c : Array Value, w.heap[N]? = some (.cells c 34 (0, 0)) ∧ c.size = n * 4 ∧ ∀ j, j < k → ∀ i, i < 4 → c[j * 4 + i]? = (os.getD j z4).cells[i]?

theorem row_cells {w : World} {N n k : Nat} {os : List Op4} (h : Row w N n k os) (hk : k < n) :
    (∃ v0 v1 v2 v3, w.cell? ⟨N, k * 4, none⟩ = some v0 ∧ w.cell? ⟨N, k * 4 + 1, none⟩ = some v1 ∧ w.cell? ⟨N, k * 4 + 2, none⟩ = some v2 ∧ w.cell? ⟨N, k * 4 + 3, none⟩ = some v3) ∧ ∀ o, w.frozen? ⟨N, o, none⟩ = false := by
  obtain ⟨c, hb, hs, _⟩ := h
  have g : ∀ o, o < n * 4 → w.cell? ⟨N, o, none⟩ = some (c[o]!) := fun o ho => by simp [World.cell?, hb, show o < c.size by omega]
  exact ⟨⟨_, _, _, _, g _ (by omega), g _ (by omega), g _ (by omega), g _ (by omega)⟩, fun o => by simp [World.frozen?, hb]⟩

theorem row_start (w : World) (zs : Array Value) (n : Nat) (os : List Op4) : Row (w.alloc (.cells (madeCells zs (n * 4)) 34)) w.heap.size n 0 os :=
  ⟨_, heap_alloc_new _ _, size_madeCells _ _, fun j hj => absurd hj (by omega)⟩

theorem row_below {w w' : World} {N n k : Nat} {os : List Op4} (h : Row w N n k os) (hb : Below w.heap.size w w') : Row w' N n k os := by
  obtain ⟨c, hc, r⟩ := h
  have hlt : N < w.heap.size := (Array.getElem?_eq_some_iff.1 hc).1
  exact ⟨c, (hb.block N hlt).trans hc, r⟩

theorem row_at {w : World} {N n k : Nat} {os : List Op4} (h : Row w N n k os) {j : Nat} (hj : j < k) : At w N (j * 4) (os.getD j z4) := by
  obtain ⟨c, hc, _, r⟩ := h
  have r0 := r j hj 0 (by omega)
  have r1 := r j hj 1 (by omega)
  have r2 := r j hj 2 (by omega)
  have r3 := r j hj 3 (by omega)
  simp only [Op4.cells, Nat.add_zero, List.getElem?_cons_zero, List.getElem?_cons_succ] at r0 r1 r2 r3
  refine ⟨?_, ?_, ?_, ?_⟩
  · simpa [World.cell?, hc] using r0
  · simpa [World.cell?, hc] using r1
  · simpa [World.cell?, hc] using r2
  · simpa [World.cell?, hc] using r3

theorem row_ops {w : World} {N n k : Nat} {os : List Op4} (h : Row w N n k os) (hl : os.length = n) (hk : n ≤ k) : Ops w (some ⟨N, 0, none⟩) n os := by
  refine ⟨hl, fun h0 => ⟨N, 0, rfl, ?_, fun j hj => ?_⟩⟩
  · obtain ⟨c, hc, _⟩ := h
    exact (Array.getElem?_eq_some_iff.1 hc).1
  · rw [Nat.zero_add]; exact row_at h (by omega)

theorem block_set {w : World} {g i : Nat} {cs : Array Value} {t : TypeId} {fr : Nat × Nat} (h : w.heap[g]? = some (.cells cs t fr)) (v : Value) : (w.setCell ⟨g, i, none⟩ v).heap[g]? = some (.cells (cs.setIfInBounds i v) t fr) := by
  simp [World.setCell, Array.getElem?_modify, h]

theorem row_step {w : World} {N n k : Nat} {os : List Op4} (h : Row w N n k os) (hk : k < n) (z : Op4) (hz : z = os.getD k z4) :
    Row ((((w.setCell ⟨N, k * 4, none⟩ (.int .u8 z.kind)).setCell ⟨N, k * 4 + 1, none⟩ (.string z.key)).setCell ⟨N, k * 4 + 2, none⟩ (.slice z.la z.ll z.lc)).setCell ⟨N, k * 4 + 3, none⟩ (.int .i64 z.val)) N n (k + 1) os := by
  obtain ⟨c, hc, hs, r⟩ := h
  refine ⟨_, block_set (block_set (block_set (block_set hc _) _) _) _, by simpa using hs, fun j hj i hi => ?_⟩
  by_cases e : j = k
  · subst e
    rw [← hz]
    have : i = 0 ∨ i = 1 ∨ i = 2 ∨ i = 3 := by omega
    rcases this with rfl | rfl | rfl | rfl
    all_goals
      simp only [Array.getElem?_setIfInBounds, Array.size_setIfInBounds, Op4.cells]
      simp [show j * 4 < c.size by omega, show j * 4 + 1 < c.size by omega, show j * 4 + 2 < c.size by omega, show j * 4 + 3 < c.size by omega]
  · rw [← r j (by omega) i hi]
    simp only [Array.getElem?_setIfInBounds]
    rw [if_neg (by omega), if_neg (by omega), if_neg (by omega), if_neg (by omega)]

set_option maxRecDepth 100000 in
set_option maxHeartbeats 1000000 in
theorem toOps_some (x : Addr) (len cap : Nat) (os : List Op4) (w : World) (h : Ops w (some x) len os) (hl : len ≤ 131072) :
    Calls Try.prog 7 #[.slice (some x) len cap] w fun e w' => e = .returned (.slice (some ⟨w.heap.size, 0, none⟩) len len) ∧ Ops w' (some ⟨w.heap.size, 0, none⟩) len os ∧ Below w.heap.size w w' := by
  have H := hide h
  clear h
  have heq : ∀ (w : World) (a : Option Addr) (n c n' c' : Nat), (binOp .eql 22 (.slice a n c) (.slice none n' c')).run Try.prog w = .ok (.bool a.isNone) w := fun w a n c n' c' => Lib.run_eql_slice_nil w _ _ a n c n' c' Try.underlying22
  obtain ⟨i0, hi, hz0, hz1, hz2⟩ := info_parts info34
  have hmk : ∀ w : World, (Instr.makeSlice 25 (.int .i64 (len : Int)) (.int .i64 (len : Int))).run Try.prog w = .ok (.slice (some ⟨w.heap.size, 0, none⟩) len len) (w.alloc (.cells (madeCells (Value.agg #[.int .u8 0, .string ByteArray.empty, .slice none 0 0, .int .i64 0]).cells (len * 4)) 34)) := by
    intro w
    have := run_make (P := Try.prog) w 25 34 i0 _ Try.underlying25 hi hz0 .i64 .i64 len len (by omega) (by omega) (by rw [hz2]; omega) (by omega)
    rw [hz1] at this
    simpa using this
  clear hi hz0 hz1 hz2
  go_enter Try.func7, Try.ntmps7
  go_wp2
  clear heq hmk
  go_loopg [4] len (fun g t wr => ∃ k : Nat, g = len - k ∧ k ≤ len ∧ t = .int .i64 k ∧ Hid (Row wr w.heap.size len k os) ∧ Below w.heap.size w wr)
  case atStart => exact ⟨0, rfl, Nat.zero_le _, rfl, row_start _ _ _ _, (Below.refl _ _).alloc (Nat.le_refl _) _⟩
  case round =>
    obtain ⟨k, HG, hk, rfl, HR, hb⟩ := hrel
    by_cases hlt : k < len
    · obtain ⟨b, off, ex, hbl, hc⟩ := H.out.2 (by omega)
      simp only [Option.some.injEq] at ex
      subst ex
      have hz := at_below (hc k hlt) hb hbl
      clear hc
      obtain ⟨z, HZ⟩ : ∃ z, Hid (z = os.getD k z4) := ⟨_, rfl⟩
      rw [← HZ.out] at hz
      obtain ⟨kind, key, la, ll, lc, val⟩ := z
      obtain ⟨q0, q1, q2, q3⟩ := hz
      simp only at q0 q1 q2 q3
      go_wp2_with fail
      refine (toOp_any ⟨kind, key, la, ll, lc, val⟩ _).mono ?_
      rintro e w1 ⟨rfl, hb1⟩
      have HR1 : Row w1 w.heap.size len k os := row_below HR.out hb1
      obtain ⟨⟨v0, v1, v2, v3, g0, g1, g2, g3⟩, fz⟩ := row_cells HR1 hlt
      have hb2 : Below w.heap.size w w1 := hb.trans (hb1.mono hb.size)
      have HRW := hide HR1
      clear HR HR1 hb1 q0 q1 q2 q3 hb
      go_wp2
      go_roundg (len - (k + 1))
      case rel =>
        exact ⟨k + 1, rfl, by omega, by go_num, row_step HRW.out hlt ⟨kind, key, la, ll, lc, val⟩ HZ.out, ((((hb2.setCell (Nat.le_refl _) _).setCell (Nat.le_refl _) _).setCell (Nat.le_refl _) _).setCell (Nat.le_refl _) _)⟩
      case measure => omega
    · have HO : Hid (Ops wr (some ⟨w.heap.size, 0, none⟩) len os) := row_ops HR.out H.out.1 (by omega)
      go_wp2
      go_ret
      exact ⟨rfl, HO.out, hb⟩

theorem toOps_any (a : Option Addr) (len cap : Nat) (os : List Op4) (w : World) (h : Ops w a len os) (hl : len ≤ 131072) (hn : a = none → len = 0) :
    Calls Try.prog 7 #[.slice a len cap] w fun e w' => ∃ (a' : Option Addr) (c' : Nat), e = .returned (.slice a' len c') ∧ ((a' = none ∧ len = 0 ∧ c' = 0) ∨ (∃ N, a' = some ⟨N, 0, none⟩ ∧ c' = len)) ∧ Ops w' a' len os ∧ Below w.heap.size w w' := by
  cases a with
  | some x =>
    refine (toOps_some x len cap os w h hl).mono fun e w' ⟨he, ho, hb⟩ => ⟨_, _, he, .inr ⟨_, rfl, rfl⟩, ho, hb⟩
  | none =>
    have h0 := hn rfl
    subst h0
    have hO : Ops w none 0 os := ⟨h.1, fun h => absurd h (by omega)⟩
    have HO := hide hO
    clear hO h hn
    have heq : ∀ (w : World) (a : Option Addr) (n c n' c' : Nat), (binOp .eql 22 (.slice a n c) (.slice none n' c')).run Try.prog w = .ok (.bool a.isNone) w := fun w a n c n' c' => Lib.run_eql_slice_nil w _ _ a n c n' c' Try.underlying22
    have key : Calls Try.prog 7 #[.slice none 0 cap] w fun e w' => e = .returned (.slice none 0 0) ∧ w = w' := by
      go_enter Try.func7, Try.ntmps7
      go_wp2
      go_ret
      exact ⟨rfl, rfl⟩
    refine key.mono fun e w' ⟨he, hw⟩ => ?_
    subst hw
    exact ⟨none, 0, he, .inl ⟨rfl, rfl, rfl⟩, HO.out, Below.refl _ _⟩
end Go.Proofs.Qxb6623514a.Made
