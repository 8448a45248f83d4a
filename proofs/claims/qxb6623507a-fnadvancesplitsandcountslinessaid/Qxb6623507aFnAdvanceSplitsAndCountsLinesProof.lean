/-
  'Rows.FnAdvanceSplitsAndCountsLinesSaid', PROVED: the frame as the skeleton tool wrote it (its last step turned: the walk ends in 'Below'), the walk out of Core.core.
-/
import Derived.Test.Qxb6623507aRows
import Derived.WalkKit
import Derived.ProofKit
import Derived.OpenShut
import Derived.ShutString
import Derived.ChangeOld
import Derived.Below
import Derived.Test.Qxb6623507aCore
namespace Go.Proofs.Qxb6623507a.fnAdvanceSplitsAndCountsLines
open Go.ChangeShapes Go.WideShapes Go.ChangeAt Go.RowKit
open Go.ChangeMaps (open_string shut_string)
set_option linter.unusedVariables false      -- a walk need not use every 'w<i>' (that an integer argument fits its kind)

theorem own : ownKnob Try.prog.godebug = none := by kernel_rfl

/-! ### STEP 1: THE WALK: the Go text returns true, and writes nothing that was there. -/
theorem wrap_self (n : Int) (h : (Lit.int .i64 n).wf = true) : n = Plain.wrap n := by
  have := bounds_i64 h
  unfold Plain.wrap
  omega

set_option maxRecDepth 100000 in
set_option maxHeartbeats 2000000 in
theorem walk (a0 : ByteArray) (a1 : ByteArray) (a2 : Int) (a3 : Int) (a4 : Int) (a5 : Int) (a6 : Int) (w0 : a0.size ≤ maxLen) (w1 : a1.size ≤ maxLen) (w2 : (Lit.int .i64 a2).wf = true) (w3 : (Lit.int .i64 a3).wf = true) (w4 : (Lit.int .i64 a4).wf = true) (w5 : (Lit.int .i64 a5).wf = true) (w6 : (Lit.int .i64 a6).wf = true) (w : World) :
    Calls Try.prog 3 #[.string a0, .string a1, .int .i64 a2, .int .i64 a3, .int .i64 a4, .int .i64 a5, .int .i64 a6] w fun e w' => e = .returned (.bool true) ∧ Below w.heap.size w w' := by
  have hr := wrap_self a3 w3
  have hc := wrap_self a4 w4
  have HR : Hid (a3 = Plain.wrap a3) := hr
  have HC : Hid (a4 = Plain.wrap a4) := hc
  have hw2 := bounds_i64 w2
  have hw5 := bounds_i64 w5
  have hw6 := bounds_i64 w6
  clear hr hc w2 w3 w4 w5 w6
  unfold maxLen at w0 w1
  by_cases h0 : a0.size ≤ 1048576
  · by_cases h1 : a0.size + a1.size ≤ 1048576
    · by_cases h2 : a2 < 0
      · go_enter Try.func3, Try.ntmps3
        go_wp2
        all_goals (go_ret; exact ⟨rfl, Below.refl _ _⟩)
      by_cases h3 : (a0.size : Int) < a2
      · go_enter Try.func3, Try.ntmps3
        go_wp2
        all_goals (go_ret; exact ⟨rfl, Below.refl _ _⟩)
      by_cases h4 : a5 < 0
      · go_enter Try.func3, Try.ntmps3
        go_wp2
        all_goals (go_ret; exact ⟨rfl, Below.refl _ _⟩)
      by_cases h5 : a6 < 0
      · go_enter Try.func3, Try.ntmps3
        go_wp2
        all_goals (go_ret; exact ⟨rfl, Below.refl _ _⟩)
      by_cases h6 : (a0.size : Int) - a2 < a5
      · go_enter Try.func3, Try.ntmps3
        go_wp2
        all_goals (go_ret; exact ⟨rfl, Below.refl _ _⟩)
      by_cases h7 : (a0.size : Int) - a2 - a5 < a6
      · go_enter Try.func3, Try.ntmps3
        go_wp2
        all_goals (go_ret; exact ⟨rfl, Below.refl _ _⟩)
      obtain ⟨pos, rfl⟩ : ∃ n : Nat, a2 = (n : Int) := ⟨a2.toNat, by omega⟩
      obtain ⟨a, rfl⟩ : ∃ n : Nat, a5 = (n : Int) := ⟨a5.toNat, by omega⟩
      obtain ⟨b, rfl⟩ : ∃ n : Nat, a6 = (n : Int) := ⟨a6.toNat, by omega⟩
      by_cases h8 : 0 < a ∧ 0 < b ∧ (Bytes.bts a0).getD (pos + a) 0 / 64 = 2
      · obtain ⟨ha, hb, hv⟩ := h8
        obtain ⟨v, hq⟩ : ∃ v, (a0[pos + a]'(by omega)).toNat = v := ⟨_, rfl⟩
        rw [Bytes.bts_get a0 (pos + a) (by omega), hq] at hv
        have hv1 : 128 ≤ v := by omega
        have hv2 : v < 192 := by omega
        clear hv HR HC
        go_enter Try.func3, Try.ntmps3
        go_wp2
        go_ret
        exact ⟨rfl, Below.refl _ _⟩
      · exact Core.core a0 a1 pos a b a3 a4 w h1 (by omega) HR.out HC.out (fun ha hb hv => h8 ⟨ha, hb, hv⟩)
    · by_cases h2 : a1.size ≤ 1048576
      · go_enter Try.func3, Try.ntmps3
        go_wp2
        all_goals (go_ret; exact ⟨rfl, Below.refl _ _⟩)
      · go_enter Try.func3, Try.ntmps3
        go_wp2
        all_goals (go_ret; exact ⟨rfl, Below.refl _ _⟩)
  · go_enter Try.func3, Try.ntmps3
    go_wp2
    all_goals (go_ret; exact ⟨rfl, Below.refl _ _⟩)

/-! ### THE ROW's STEP: WRITTEN OUT: LEAVE IT -/
set_option maxRecDepth 100000 in
theorem lifted (os : Os) (started : os.Started) (H : Type) (enc : TypeId × Value → H) :
    ReturnsInHanded {} Try.checked os 3 .any (Rows.fnAdvanceSplitsAndCountsLinesSpec.pre6 enc Try.prog Try.f3 Rows.fnAdvanceSplitsAndCountsLinesRow.domain false) (Rows.fnAdvanceSplitsAndCountsLinesSpec.post enc Try.prog Try.f3 false true false false) := by
  refine returnsInHanded_of_change (C := Try.checked) own started (by kernel_rfl) Try.func3
    (ChangeSpec.witness6 (enc := enc) (C := Try.checked) false ⟨#[], #[.string ByteArray.empty, .string ByteArray.empty, .int .i64 0, .int .i64 0, .int .i64 0, .int .i64 0, .int .i64 0], []⟩ 8 (by kernel_rfl) (by kernel_rfl) (by kernel_rfl) (by kernel_rfl)) ?_
  intro W base args ds gs before hval0 hW hcnd _
  have hval : ∀ (j : Nat) t v, Try.f3.params[j]? = some t → args[j]? = some v → Value.okWide Try.prog W .any base t v := hval0
  have hW' := hW
  obtain ⟨p, q, hA0, hV, rfl, hfz, hnd⟩ := hW
  have hA : DataW.TrodAll enc Try.prog W 0 (fun _ => true) true Try.f3.params.toList args.toList ds p := hA0
  rw [Try.params3] at hA hval
  obtain ⟨v0, vs0, d0, ds0, p0, q0, hargs, rfl, rfl, h0, r0⟩ := trodAll_cons hA
  obtain ⟨v1, vs1, d1, ds1, p1, q1, rfl, rfl, rfl, h1, r1⟩ := trodAll_cons r0
  obtain ⟨v2, vs2, d2, ds2, p2, q2, rfl, rfl, rfl, h2, r2⟩ := trodAll_cons r1
  obtain ⟨v3, vs3, d3, ds3, p3, q3, rfl, rfl, rfl, h3, r3⟩ := trodAll_cons r2
  obtain ⟨v4, vs4, d4, ds4, p4, q4, rfl, rfl, rfl, h4, r4⟩ := trodAll_cons r3
  obtain ⟨v5, vs5, d5, ds5, p5, q5, rfl, rfl, rfl, h5, r5⟩ := trodAll_cons r4
  obtain ⟨v6, vs6, d6, ds6, p6, q6, rfl, rfl, rfl, h6, r6⟩ := trodAll_cons r5
  obtain ⟨rfl, rfl, rfl⟩ := trodAll_nil r6
  obtain rfl : args = #[v0, v1, v2, v3, v4, v5, v6] := by cases args; simp_all
  obtain ⟨rfl, rfl⟩ := trodVars_none hV
  obtain ⟨a0, rfl, rfl, rfl, w0⟩ := open_string Try.underlying9 (hval 0 9 v0 rfl rfl) h0
  obtain ⟨a1, rfl, rfl, rfl, w1⟩ := open_string Try.underlying9 (hval 1 9 v1 rfl rfl) h1
  obtain ⟨a2, rfl, rfl, rfl, w2⟩ := open_int Try.underlying3 (hval 2 3 v2 rfl rfl) h2
  obtain ⟨a3, rfl, rfl, rfl, w3⟩ := open_int Try.underlying3 (hval 3 3 v3 rfl rfl) h3
  obtain ⟨a4, rfl, rfl, rfl, w4⟩ := open_int Try.underlying3 (hval 4 3 v4 rfl rfl) h4
  obtain ⟨a5, rfl, rfl, rfl, w5⟩ := open_int Try.underlying3 (hval 5 3 v5 rfl rfl) h5
  obtain ⟨a6, rfl, rfl, rfl, w6⟩ := open_int Try.underlying3 (hval 6 3 v6 rfl rfl) h6
  clear hA0 hval0
  simp only [List.append_nil] at hW'
  refine (walk a0 a1 a2 a3 a4 a5 a6 w0 w1 w2 w3 w4 w5 w6 W).mono fun e W' ⟨he, bel⟩ => ?_
  subst he
  exact ⟨_, rfl, _, _, _, [], [], [], hW', trodAll_mk1 (shut_bool Try.underlying4 _), (trodAll_cons_mk (shut_string Try.underlying9 w0) (trodAll_cons_mk (shut_string Try.underlying9 w1) (trodAll_cons_mk (shut_int Try.underlying3 w2) (trodAll_cons_mk (shut_int Try.underlying3 w3) (trodAll_cons_mk (shut_int Try.underlying3 w4) (trodAll_cons_mk (shut_int Try.underlying3 w5) (trodAll_cons_mk (shut_int Try.underlying3 w6) trodAll_mk0))))))), rfl, bel.frame _, fun h => by cases h⟩

theorem over : Rows.fnAdvanceSplitsAndCountsLinesRow.holds Try.pinned (OpenSpec.ofChange Rows.fnAdvanceSplitsAndCountsLinesSpec) :=
  OpenClaim.holds_of_wide 3 Try.f3 rfl rfl rfl rfl rfl rfl rfl ⟨rfl, rfl, rfl, rfl, rfl⟩ rfl rfl rfl rfl rfl (by kernel_rfl) Try.func3 (by kernel_rfl)
    (of_decide_eq_true (by kernel_rfl)) (by unfold Func.isWrapper; first | (rw [if_pos (by decide +kernel)]; kernel_rfl) | (rw [if_neg (by decide +kernel)]; exact ⟨rfl, rfl⟩))
    (fun os started H enc _ => lifted os started H enc)

/-- ████ THE STATEMENT ████ -/
theorem proved : Rows.FnAdvanceSplitsAndCountsLinesSaid :=
  over
#print axioms proved
end Go.Proofs.Qxb6623507a.fnAdvanceSplitsAndCountsLines
