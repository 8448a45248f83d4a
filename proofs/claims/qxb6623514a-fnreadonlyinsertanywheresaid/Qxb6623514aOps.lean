/-
  OPS IN MEMORY, and the contracts of zzhB1ToOp and ReadOnly.
-/
import Derived.Test.Qxb6623514aRows
import Derived.WalkKit
import Derived.WalkSpells
import Derived.WalkLawsBesides
import Derived.ProofKit
import Derived.Below
import Derived.Deep.DeepCutAuto
import Derived.Deep.CutBlock
import Derived.Deep.LoopGhost
import Derived.Deep.QuietTactic
import Derived.BigQuiet
import Derived.WalkSmall
namespace Go.Proofs.Qxb6623514a.Ops
open Go.ChangeShapes Go.WideShapes Go.ChangeAt Go.RowKit
set_option linter.unusedVariables false

theorem hide {p : Prop} (h : p) : Hid p := h

/-- One op's four fields. -/
structure Op4 where
  kind : Int
  key : ByteArray
  la : Option Addr
  ll : Nat
  lc : Nat
  val : Int

def z4 : Op4 := ⟨0, ByteArray.empty, none, 0, 0, 0⟩

def Op4.cells (o : Op4) : List Value := [.int .u8 o.kind, .string o.key, .slice o.la o.ll o.lc, .int .i64 o.val]

/-- The op's four cells lie in block b from place o on. -/
def At (w : World) (b o : Nat) (z : Op4) : Prop :=
  w.cell? ⟨b, o, none⟩ = some (.int .u8 z.kind) ∧ w.cell? ⟨b, o + 1, none⟩ = some (.string z.key) ∧ w.cell? ⟨b, o + 2, none⟩ = some (.slice z.la z.ll z.lc) ∧ w.cell? ⟨b, o + 3, none⟩ = some (.int .i64 z.val)

/-- A slice of ops: what it holds; where it has an element, the cells. -/
def Ops (w : World) (a : Option Addr) (len : Nat) (os : List Op4) : Prop :=
  os.length = len ∧ (0 < len → ∃ b off, a = some ⟨b, off, none⟩ ∧ b < w.heap.size ∧ ∀ j, j < len → At w b (off + j * 4) (os.getD j z4))

theorem at_below {w w' : World} {B b o : Nat} {z : Op4} (h : At w b o z) (hb : Below B w w') (hlt : b < B) : At w' b o z :=
  ⟨by rw [hb.cell (p := ⟨b, o, none⟩) hlt]; exact h.1, by rw [hb.cell (p := ⟨b, o + 1, none⟩) hlt]; exact h.2.1, by rw [hb.cell (p := ⟨b, o + 2, none⟩) hlt]; exact h.2.2.1, by rw [hb.cell (p := ⟨b, o + 3, none⟩) hlt]; exact h.2.2.2⟩

theorem ops_below {w w' : World} {a : Option Addr} {len : Nat} {os : List Op4} (h : Ops w a len os) (hb : Below w.heap.size w w') : Ops w' a len os := by
  refine ⟨h.1, fun h0 => ?_⟩
  obtain ⟨b, off, e, hlt, hc⟩ := h.2 h0
  exact ⟨b, off, e, Nat.lt_of_lt_of_le hlt hb.size, fun j hj => at_below (hc j hj) hb hlt⟩

/-! ### zzhB1ToOp -/

set_option maxRecDepth 100000 in
set_option maxHeartbeats 400000 in
theorem toOp_any (z : Op4) (w : World) :
    Calls Try.prog 10 #[.agg #[.int .u8 z.kind, .string z.key, .slice z.la z.ll z.lc, .int .i64 z.val]] w fun e w' =>
      e = .returned (.agg #[.int .u8 z.kind, .string z.key, .slice z.la z.ll z.lc, .int .i64 z.val]) ∧ Below w.heap.size w w' := by
  obtain ⟨kind, key, la, ll, lc, val⟩ := z
  go_enter Try.func10, Try.ntmps10
  go_wp2
  refine bodyPost_ret (v := .agg #[.int .u8 kind, .string key, .slice la ll lc, .int .i64 val]) (by simp [results, Try.results10, go_sem]) rfl ⟨rfl, ?_⟩
  exact ((Below.refl _ _).alloc (Nat.le_refl _) _).alloc (by simp) _

/-! ### ReadOnly -/

def ro (os : List Op4) : Bool := os.all fun z => !(z.kind == 2)

theorem ro_snoc (os : List Op4) (k : Nat) (h : k < os.length) : ro (os.take (k + 1)) = (ro (os.take k) && !((os.getD k z4).kind == 2)) := by
  unfold ro
  rw [List.take_succ_eq_append_getElem h, List.all_append]
  simp [List.getD, h]

theorem ro_cut (os : List Op4) (k : Nat) (h : ro (os.take k) = false) : ro os = false := by
  unfold ro at *
  rw [← List.take_append_drop k os, List.all_append, h]; rfl

set_option maxRecDepth 100000 in
set_option maxHeartbeats 400000 in
theorem readOnly_any (id : Int) (st : ByteArray) (a : Option Addr) (len cap : Nat) (os : List Op4) (w : World) (h : Ops w a len os) (hl : len ≤ 1048577) :
    Calls Try.prog 8 #[.agg #[.int .i64 id, .string st, .slice a len cap]] w fun e w' => e = .returned (.bool (ro os)) ∧ Below w.heap.size w w' := by
  have H := hide h
  clear h
  go_enter Try.func8, Try.ntmps8
  go_wp2
  go_loopg [8] len (fun g t wr => ∃ k : Nat, g = len - k ∧ k ≤ len ∧ t = .int .i64 k ∧ Below w.heap.size w wr ∧ Hid (ro (os.take k) = true))
  case atStart => exact ⟨0, rfl, Nat.zero_le _, rfl, (Below.refl _ _).alloc (Nat.le_refl _) _, rfl⟩
  case round =>
    obtain ⟨k, HG, hk, rfl, hb, HR⟩ := hrel
    by_cases hlt : k < len
    · obtain ⟨b, off, rfl, hbl, hc⟩ := H.out.2 (by omega)
      have hz := at_below (hc k hlt) hb hbl
      have hsn := ro_snoc os k (by rw [H.out.1]; exact hlt)
      clear hc
      obtain ⟨z, HZ⟩ : ∃ z, Hid (z = os.getD k z4) := ⟨_, rfl⟩
      rw [← HZ.out] at hz hsn
      obtain ⟨kind, key, la, ll, lc, val⟩ := z
      obtain ⟨q0, q1, q2, q3⟩ := hz
      simp only at q0 q1 q2 q3 hsn
      by_cases h2 : kind = 2
      · subst h2
        have R : Hid (ro os = false) := by
          have e : ro (os.take (k + 1)) = false := by rw [hsn]; simp
          exact ro_cut os (k + 1) e
        clear hsn HR HZ
        go_wp2
        go_ret
        exact ⟨by rw [R.out]; rfl, hb.alloc hb.size _⟩
      · have hne : (kind == 2) = false := by simpa using h2
        have R : Hid (ro (os.take (k + 1)) = true) := by show _ = _; rw [hsn, HR.out, hne]; rfl
        clear hsn HR HZ h2
        go_wp2
        go_roundg (len - (k + 1))
        case rel => exact ⟨k + 1, rfl, by omega, by go_num, hb.alloc hb.size _, R⟩
        case measure => omega
    · have R : Hid (ro os = true) := by
        have e := HR.out
        rwa [List.take_of_length_le (by rw [H.out.1]; omega)] at e
      go_wp2
      go_ret
      exact ⟨by rw [R.out]; rfl, hb⟩

/-! ### zzhB1TooBig -/

/-- A bool comes back; where it is false, 'ok'. -/
def SaysB (e : Ending) (ok : Prop) : Prop := ∃ B : Bool, e = .returned (.bool B) ∧ (B = false → ok)

set_option maxRecDepth 100000 in
set_option maxHeartbeats 1000000 in
theorem tooBig_any (extra : Int) (a : Option Addr) (len cap : Nat) (os : List Op4) (w : World) (h : Ops w a len os) (he : 0 ≤ extra) :
    Calls Try.prog 6 #[.int .i64 extra, .slice a len cap] w fun e w' => SaysB e (len ≤ 131072) ∧ Below w.heap.size w w' := by
  have H := hide h
  clear h
  by_cases hx : 1048576 < extra
  · go_enter Try.func6, Try.ntmps6
    go_wp2
    go_ret
    exact ⟨⟨true, rfl, (fun h => by simp at h)⟩, Below.refl _ _⟩
  go_enter Try.func6, Try.ntmps6
  go_wp2
  go_loopg [5, 6] len (fun g t5 t6 wr => ∃ (k : Nat) (T : Int), g = len - k ∧ k ≤ len ∧ t6 = .int .i64 k ∧ t5 = .int .i64 T ∧ 8 * (k : Int) ≤ T ∧ T ≤ 1048576 ∧ Below w.heap.size w wr)
  case atStart => exact ⟨0, extra, rfl, Nat.zero_le _, rfl, rfl, by omega, by omega, Below.refl _ _⟩
  case round =>
    obtain ⟨k, T, HG, hk, rfl, rfl, h8, hT, hb⟩ := hrel
    by_cases hlt : k < len
    · obtain ⟨b, off, rfl, hbl, hc⟩ := H.out.2 (by omega)
      have hz := at_below (hc k hlt) hb hbl
      clear hc
      generalize os.getD k z4 = z at hz
      obtain ⟨kind, key, la, ll, lc, val⟩ := z
      obtain ⟨q0, q1, q2, q3⟩ := hz
      simp only at q0 q1 q2 q3
      by_cases c1 : 1048576 < key.size
      · go_wp2
        go_ret
        exact ⟨⟨true, rfl, (fun h => by simp at h)⟩, hb⟩
      · by_cases c2 : 131072 < ll
        · go_wp2
          go_ret
          exact ⟨⟨true, rfl, (fun h => by simp at h)⟩, hb⟩
        · have hi0 : (0 : Int) ≤ (k : Int) := by omega
          have hi1 : (k : Int) < (len : Int) := by omega
          by_cases c3 : 1048576 < T + 8 + (key.size : Int) + 8 * (ll : Int)
          · go_wp2
            go_quiet (fail)
            go_wp2
            go_ret
            exact ⟨⟨true, rfl, (fun h => by simp at h)⟩, below_drewN hb _⟩
          · go_wp2
            go_quiet (fail)
            go_wp2
            go_roundg (len - (k + 1))
            case rel => exact ⟨k + 1, _, rfl, by omega, by go_num, rfl, by omega, by omega, below_drewN hb _⟩
            case measure => omega
    · go_wp2
      go_ret
      exact ⟨⟨false, rfl, (fun _ => by omega)⟩, hb⟩
end Go.Proofs.Qxb6623514a.Ops
