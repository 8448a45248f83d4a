/-
  THE CALLEES' CONTRACTS: isBlank, zzBlank, skipBlanks, ZZSkipBlanks, zzBytes.
-/
import Derived.Test.Qxb6623433aRows
import Derived.Test.Qxb6623433aPlain
import Derived.WalkKit
import Derived.ProofKit
import Derived.Below
namespace Go.Proofs.Qxb6623433a.Callees
open Go.ChangeShapes Go.WideShapes Go.ChangeAt Go.RowKit
open Go.Proofs.Qxb6623433a.Plain

theorem blank_cases (c : Int) (h : blankB c = true) : c = 32 ∨ c = 9 ∨ c = 13 ∨ c = 11 ∨ c = 12 := by
  simp [blankB] at h; omega
theorem noblank_cases (c : Int) (h : blankB c = false) : (c == 32) = false ∧ (c == 9) = false ∧ (c == 13) = false ∧ (c == 11) = false ∧ (c == 12) = false := by
  simp [blankB] at h ⊢; omega

theorem isBlank_t (c : Int) (w : World) (h : blankB c = true) : Calls Try.prog 8 #[.int .u8 c] w fun e w' => e = .returned (.bool true) ∧ w = w' := by
  rcases blank_cases c h with rfl | rfl | rfl | rfl | rfl
  all_goals
    clear h
    go_enter Try.func8, Try.ntmps8
    go_wp2
    go_ret
    exact ⟨rfl, rfl⟩

theorem isBlank_f (c : Int) (w : World) (h : blankB c = false) : Calls Try.prog 8 #[.int .u8 c] w fun e w' => e = .returned (.bool false) ∧ w = w' := by
  obtain ⟨h1, h2, h3, h4, h5⟩ := noblank_cases c h
  clear h
  go_enter Try.func8, Try.ntmps8
  go_wp2
  go_ret
  exact ⟨rfl, rfl⟩

theorem zzBlank_t (c : Int) (w : World) (h : blankB c = true) : Calls Try.prog 6 #[.int .u8 c] w fun e w' => e = .returned (.bool true) ∧ w = w' := by
  rcases blank_cases c h with rfl | rfl | rfl | rfl | rfl
  all_goals
    clear h
    go_enter Try.func6, Try.ntmps6
    go_wp2
    go_ret
    exact ⟨rfl, rfl⟩

theorem zzBlank_f (c : Int) (w : World) (h : blankB c = false) : Calls Try.prog 6 #[.int .u8 c] w fun e w' => e = .returned (.bool false) ∧ w = w' := by
  obtain ⟨h1, h2, h3, h4, h5⟩ := noblank_cases c h
  clear h
  go_enter Try.func6, Try.ntmps6
  go_wp2
  go_ret
  exact ⟨rfl, rfl⟩

theorem ret_int {k : IntKind} {a b : Int} (h : a = b) : Ending.returned (.int k a) = .returned (.int k b) := by rw [h]

/-- What the walks are told of a slice of bytes: its numbers; where it has an element, the cells. -/
def Sl (w : World) (a : Option Addr) (len : Nat) (zs : List Int) : Prop :=
  zs.length = len ∧ (0 < len → ∃ b off, a = some ⟨b, off, none⟩ ∧ b < w.heap.size ∧ ∀ j, j < len → w.cell? ⟨b, off + j, none⟩ = some (.int .u8 (zs.getD j 0)))

theorem zzBytes_any (a : Option Addr) (la ca : Nat) (b : Option Addr) (lb cb : Nat) (i : Int) (ha : la ≤ 65536) (hb : lb ≤ 65536) (w : World) :
    Calls Try.prog 4 #[.slice a la ca, .slice b lb cb, .int .i64 i] w fun e w' => e = .returned (.bool true) ∧ w = w' := by
  go_enter Try.func4, Try.ntmps4
  go_wp2
  go_ret
  exact ⟨rfl, rfl⟩

set_option maxHeartbeats 400000 in
theorem skip_any (a : Option Addr) (len cap : Nat) (zs : List Int) (i : Nat) (w : World) (hs : Sl w a len zs) (hl : len ≤ 131072) (hi : (i : Int) ≤ 9223372036854775807) :
    Calls Try.prog 7 #[.slice a len cap, .int .i64 i] w fun e w' => e = .returned (.int .i64 (sk zs i)) ∧ w = w' := by
  obtain ⟨hz, hs⟩ := hs
  have HZ : Hid (zs.length = len) := hz
  clear hz
  have HS : Hid (0 < len → ∃ b off, a = some ⟨b, off, none⟩ ∧ b < w.heap.size ∧ ∀ j, j < len → w.cell? ⟨b, off + j, none⟩ = some (.int .u8 (zs.getD j 0))) := hs
  clear hs
  go_enter Try.func7, Try.ntmps7
  go_wp2
  go_loop [1] (fun t => ∃ k : Nat, i ≤ k ∧ (k : Int) ≤ 9223372036854775807 ∧ Hid (sk zs i = sk zs k) ∧ t = .int .i64 k) (fun t => len - (intOf t).toNat)
  case atStart => exact ⟨i, Nat.le_refl _, hi, rfl, rfl⟩
  case round =>
    obtain ⟨k, hik, hk, hsk, rfl⟩ := hrel
    by_cases hlt : k < len
    · obtain ⟨b, off, rfl, _, hc⟩ := HS.out (by omega)
      have hck := hc k hlt
      clear hc HS
      by_cases hb : blankB (zs.getD k 0) = true
      · have hst : Hid (sk zs k = sk zs (k + 1)) := sk_hit zs k (by rw [HZ.out]; exact hlt) hb
        have hbx : blankB (zs[k]?.getD 0) = true := hb
        clear hb
        go_wp2_with (go_at_call 8; refine (isBlank_t _ _ hbx).mono ?_; rintro e w' ⟨rfl, rfl⟩)
        go_round
        case rel => exact ⟨k + 1, by omega, by omega, hsk.out.trans hst.out, by go_num⟩
        case measure => simp [intOf]; omega
      · have hb' : blankB (zs.getD k 0) = false := by simpa using hb
        clear hb
        have hst : Hid (sk zs k = k) := sk_miss zs k (by rw [HZ.out]; exact hlt) hb'
        have hbx : blankB (zs[k]?.getD 0) = false := hb'
        clear hb'
        go_wp2_with (go_at_call 8; refine (isBlank_f _ _ hbx).mono ?_; rintro e w' ⟨rfl, rfl⟩)
        go_ret
        exact ⟨ret_int (by rw [hsk.out, hst.out]), rfl⟩
    · have hst : Hid (sk zs k = k) := sk_past zs k (by rw [HZ.out]; omega)
      go_wp2
      go_ret
      exact ⟨ret_int (by rw [hsk.out, hst.out]), rfl⟩

theorem zzskip_any (a : Option Addr) (len cap : Nat) (zs : List Int) (i : Nat) (w : World) (hs : Sl w a len zs) (hl : len ≤ 131072) (hi : (i : Int) ≤ 9223372036854775807) :
    Calls Try.prog 5 #[.slice a len cap, .int .i64 i] w fun e w' => e = .returned (.int .i64 (sk zs i)) ∧ w = w' := by
  have HS : Hid (Sl w a len zs) := hs
  clear hs
  go_enter Try.func5, Try.ntmps5
  go_wp2_with (go_at_call 7; refine (skip_any _ _ _ zs i _ HS.out hl hi).mono ?_; rintro e w' ⟨rfl, rfl⟩)
  go_ret
  exact ⟨rfl, rfl⟩
end Go.Proofs.Qxb6623433a.Callees
