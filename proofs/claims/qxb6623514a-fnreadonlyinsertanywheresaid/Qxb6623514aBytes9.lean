/-
  THE CONTRACT OF zzBytes (the second law's).
-/
import Derived.Test.Qxb6623514aKeep
namespace Go.Proofs.Qxb6623514a.Bytes9
open Go.ChangeShapes Go.WideShapes Go.ChangeAt Go.RowKit
open Go.Proofs.Qxb6623514a.Ops
set_option linter.unusedVariables false

set_option maxRecDepth 100000 in
set_option maxHeartbeats 2000000 in
theorem zzBytes9_any (id id2 : Int) (st st2 : ByteArray) (a : Option Addr) (len cap : Nat) (pos : Int) (x : Op4) (os : List Op4) (w : World) (h : Ops w a len os) (hst : st.size ≤ maxLen) (hst2 : st2.size ≤ maxLen) (hlen : len ≤ maxLen) (hxk : x.key.size ≤ maxLen) (hxl : x.ll ≤ maxLen) :
    Calls Try.prog 9 #[.int .i64 id, .string st, .slice a len cap, .int .i64 pos, .agg #[.int .u8 x.kind, .string x.key, .slice x.la x.ll x.lc, .int .i64 x.val], .int .i64 id2, .string st2] w fun e w' => SaysB e True ∧ Below w.heap.size w w' := by
  have H := hide h
  clear h
  unfold maxLen at *
  obtain ⟨kind, key, la, ll, lc, val⟩ := x
  simp only at hxk hxl ⊢
  have hB0 : ∀ o, Below w.heap.size w (w.alloc o) := fun o => (Below.refl _ _).alloc (Nat.le_refl _) o
  have HB0 := hide hB0
  clear hB0
  by_cases h1 : 1048576 < st.size
  · go_enter Try.func9, Try.ntmps9
    go_wp2
    go_ret
    exact ⟨⟨false, rfl, fun _ => trivial⟩, HB0.out _⟩
  by_cases h2 : 1048576 < len
  · go_enter Try.func9, Try.ntmps9
    go_wp2
    go_ret
    exact ⟨⟨false, rfl, fun _ => trivial⟩, HB0.out _⟩
  by_cases h3 : 1048576 < st.size + len
  · go_enter Try.func9, Try.ntmps9
    go_wp2
    go_ret
    exact ⟨⟨false, rfl, fun _ => trivial⟩, HB0.out _⟩
  go_enter Try.func9, Try.ntmps9
  go_wp2
  go_loopg [15, 16] len (fun g t9 t10 wr => ∃ (k : Nat) (T : Int), g = len - k ∧ k ≤ len ∧ t10 = .int .i64 k ∧ t9 = .int .i64 T ∧ 0 ≤ T ∧ T ≤ 1048576 ∧ w.alloc (.cells #[.int .u8 kind, .string key, .slice la ll lc, .int .i64 val] 36) = wr)
  case atStart => exact ⟨0, _, rfl, Nat.zero_le _, rfl, rfl, by omega, by omega, rfl⟩
  case round =>
    obtain ⟨k, T, HG, hk, rfl, rfl, h0, hT, rfl⟩ := hrel
    by_cases hlt : k < len
    · obtain ⟨b, off, rfl, hbl, hc⟩ := H.out.2 (by omega)
      have hz := at_below (hc k hlt) (HB0.out (.cells #[.int .u8 kind, .string key, .slice la ll lc, .int .i64 val] 36)) hbl
      clear hc
      generalize os.getD k z4 = z at hz
      obtain ⟨kind', key', la', ll', lc', val'⟩ := z
      obtain ⟨q0, q1, q2, q3⟩ := hz
      simp only at q0 q1 q2 q3
      by_cases c1 : 1048576 < key'.size
      · go_wp2
        go_ret
        exact ⟨⟨false, rfl, fun _ => trivial⟩, HB0.out _⟩
      by_cases c2 : 1048576 < T + (key'.size : Int)
      · go_wp2
        go_ret
        exact ⟨⟨false, rfl, fun _ => trivial⟩, HB0.out _⟩
      by_cases c3 : 1048576 < ll'
      · go_wp2
        go_ret
        exact ⟨⟨false, rfl, fun _ => trivial⟩, HB0.out _⟩
      by_cases c4 : 1048576 < T + (key'.size : Int) + (ll' : Int)
      · go_wp2
        go_ret
        exact ⟨⟨false, rfl, fun _ => trivial⟩, HB0.out _⟩
      · go_wp2
        go_roundg (len - (k + 1))
        case rel => exact ⟨k + 1, _, rfl, by omega, by go_num, rfl, by omega, by omega, rfl⟩
        case measure => omega
    · by_cases c1 : 1048576 < key.size
      · go_wp2
        go_ret
        exact ⟨⟨false, rfl, fun _ => trivial⟩, HB0.out _⟩
      by_cases c2 : 1048576 < T + (key.size : Int)
      · go_wp2
        go_ret
        exact ⟨⟨false, rfl, fun _ => trivial⟩, HB0.out _⟩
      by_cases c3 : 1048576 < ll
      · go_wp2
        go_ret
        exact ⟨⟨false, rfl, fun _ => trivial⟩, HB0.out _⟩
      by_cases c4 : 1048576 < T + (key.size : Int) + (ll : Int)
      · go_wp2
        go_ret
        exact ⟨⟨false, rfl, fun _ => trivial⟩, HB0.out _⟩
      by_cases c5 : 1048576 < st2.size
      · go_wp2
        go_ret
        exact ⟨⟨false, rfl, fun _ => trivial⟩, HB0.out _⟩
      by_cases c6 : 1048576 < T + (key.size : Int) + (ll : Int) + (st2.size : Int)
      · go_wp2
        go_ret
        exact ⟨⟨false, rfl, fun _ => trivial⟩, HB0.out _⟩
      · go_wp2
        go_ret
        exact ⟨⟨true, rfl, fun _ => trivial⟩, HB0.out _⟩
end Go.Proofs.Qxb6623514a.Bytes9
