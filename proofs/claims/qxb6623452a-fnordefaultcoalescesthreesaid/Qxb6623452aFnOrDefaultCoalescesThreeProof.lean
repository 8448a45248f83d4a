/-
  'Rows.FnOrDefaultCoalescesThreeSaid', PROVED: the frame as the skeleton tool wrote it, the walk ours.
-/
import Derived.Test.Qxb6623452aRows
import Derived.WalkKit
import Derived.ProofKit
import Derived.OpenShut
import Derived.ShutString
import Derived.WalkSpells
import Derived.WalkLawsBesides
namespace Go.Proofs.Qxb6623452a.fnOrDefaultCoalescesThree
open Go.ChangeShapes Go.WideShapes Go.ChangeAt Go.RowKit
open Go.ChangeMaps (open_string shut_string)
set_option linter.unusedVariables false      -- a walk need not use every 'w<i>' (that an integer argument fits its kind)

theorem own : ownKnob Try.prog.godebug = none := by kernel_rfl

/-! ### STEP 1: THE WALK: the Go text returns true. -/
theorem empty_t (v : ByteArray) (h : v.size = 0) : v.toList.isEmpty = true := by
  rw [ByteArray.toList_eq]
  have : v.data.toList.length = 0 := by rw [Array.length_toList]; exact h
  simpa using List.eq_nil_of_length_eq_zero this
theorem empty_f (v : ByteArray) (h : 0 < v.size) : v.toList.isEmpty = false := by
  rw [ByteArray.toList_eq]
  have : v.data.toList.length = v.size := by rw [Array.length_toList]; rfl
  cases hl : v.data.toList with
  | nil => rw [hl] at this; simp at this; omega
  | cons x l => rfl

theorem zzBytes_any (a b c : ByteArray) (w : World) (h0 : a.size ≤ 262144) (h1 : b.size ≤ 262144) (h2 : c.size ≤ 262144) : Calls Try.prog 4 #[.string a, .string b, .string c] w fun e w' => e = .returned (.bool true) ∧ w = w' := by
  go_enter Try.func4, Try.ntmps4
  go_wp2
  go_ret
  exact ⟨rfl, rfl⟩

theorem first_a (a b c : ByteArray) (w : World) (h0 : 0 < a.size) : Calls Try.prog 6 #[.string a, .string b, .string c] w fun e w' => e = .returned (.string a) ∧ w = w' := by
  by_cases h1 : 0 < b.size
  all_goals
    go_enter Try.func6, Try.ntmps6
    go_wp2
    go_ret
    exact ⟨rfl, rfl⟩
theorem first_b (a b c : ByteArray) (w : World) (h0 : ¬ 0 < a.size) (h1 : 0 < b.size) : Calls Try.prog 6 #[.string a, .string b, .string c] w fun e w' => e = .returned (.string b) ∧ w = w' := by
  go_enter Try.func6, Try.ntmps6
  go_wp2
  go_ret
  exact ⟨rfl, rfl⟩
theorem first_c (a b c : ByteArray) (w : World) (h0 : ¬ 0 < a.size) (h1 : ¬ 0 < b.size) : Calls Try.prog 6 #[.string a, .string b, .string c] w fun e w' => e = .returned (.string c) ∧ w = w' := by
  go_enter Try.func6, Try.ntmps6
  go_wp2
  go_ret
  exact ⟨rfl, rfl⟩

theorem orDef_e (v f : ByteArray) (w : World) (h : v.size = 0) : Calls Try.prog 5 #[.string v, .string f] w fun e w' => e = .returned (.string f) ∧ w = w' := by
  have he := empty_t v h
  clear h
  go_enter Try.func5, Try.ntmps5
  go_wp2
  go_ret
  exact ⟨rfl, rfl⟩

theorem orDef_n (v f : ByteArray) (w : World) (h : 0 < v.size) : Calls Try.prog 5 #[.string v, .string f] w fun e w' => e = .returned (.string v) ∧ w = w' := by
  have he := empty_f v h
  clear h
  go_enter Try.func5, Try.ntmps5
  go_wp2
  go_ret
  exact ⟨rfl, rfl⟩

set_option maxHeartbeats 1000000 in
theorem walk (a0 : ByteArray) (a1 : ByteArray) (a2 : ByteArray) (w0 : a0.size ≤ maxLen) (w1 : a1.size ≤ maxLen) (w2 : a2.size ≤ maxLen) (w : World) :
    Calls Try.prog 3 #[.string a0, .string a1, .string a2] w fun e w' => e = .returned (.bool true) ∧ Grown w w' := by
  by_cases h0 : a0.size ≤ 262144
  · by_cases h1 : a1.size ≤ 262144
    · by_cases h2 : a2.size ≤ 262144
      · clear w0 w1 w2
        by_cases e0 : 0 < a0.size
        · by_cases e1 : 0 < a1.size
          all_goals
            go_enter Try.func3, Try.ntmps3
            go_wp2_with fail
            refine (zzBytes_any _ _ _ _ h0 h1 h2).mono ?_
            rintro e w' ⟨rfl, rfl⟩
            go_wp2_with fail
            refine (orDef_n a0 a1 _ e0).mono ?_
            rintro e w' ⟨rfl, rfl⟩
            go_wp2_with fail
            refine (orDef_n a0 a2 _ e0).mono ?_
            rintro e w' ⟨rfl, rfl⟩
            go_wp2_with fail
            first | refine (orDef_n a1 a2 _ e1).mono ?_ | refine (orDef_e a1 a2 _ (by omega)).mono ?_
            rintro e w' ⟨rfl, rfl⟩
            go_wp2_with fail
            refine (orDef_n a0 _ _ e0).mono ?_
            rintro e w' ⟨rfl, rfl⟩
            go_wp2_with fail
            refine (first_a a0 a1 a2 _ e0).mono ?_
            rintro e w' ⟨rfl, rfl⟩
            go_wp2_with fail
            go_ret
            exact ⟨rfl, Grown.refl _⟩
        · by_cases e1 : 0 < a1.size
          · go_enter Try.func3, Try.ntmps3
            go_wp2_with fail
            refine (zzBytes_any _ _ _ _ h0 h1 h2).mono ?_
            rintro e w' ⟨rfl, rfl⟩
            go_wp2_with fail
            refine (orDef_e a0 a1 _ (by omega)).mono ?_
            rintro e w' ⟨rfl, rfl⟩
            go_wp2_with fail
            refine (orDef_n a1 a2 _ e1).mono ?_
            rintro e w' ⟨rfl, rfl⟩
            go_wp2_with fail
            refine (orDef_n a1 a2 _ e1).mono ?_
            rintro e w' ⟨rfl, rfl⟩
            go_wp2_with fail
            refine (orDef_e a0 a1 _ (by omega)).mono ?_
            rintro e w' ⟨rfl, rfl⟩
            go_wp2_with fail
            refine (first_b a0 a1 a2 _ e0 e1).mono ?_
            rintro e w' ⟨rfl, rfl⟩
            go_wp2_with fail
            go_ret
            exact ⟨rfl, Grown.refl _⟩
          · go_enter Try.func3, Try.ntmps3
            go_wp2_with fail
            refine (zzBytes_any _ _ _ _ h0 h1 h2).mono ?_
            rintro e w' ⟨rfl, rfl⟩
            go_wp2_with fail
            refine (orDef_e a0 a1 _ (by omega)).mono ?_
            rintro e w' ⟨rfl, rfl⟩
            go_wp2_with fail
            refine (orDef_e a1 a2 _ (by omega)).mono ?_
            rintro e w' ⟨rfl, rfl⟩
            go_wp2_with fail
            refine (orDef_e a1 a2 _ (by omega)).mono ?_
            rintro e w' ⟨rfl, rfl⟩
            go_wp2_with fail
            refine (orDef_e a0 a2 _ (by omega)).mono ?_
            rintro e w' ⟨rfl, rfl⟩
            go_wp2_with fail
            refine (first_c a0 a1 a2 _ e0 e1).mono ?_
            rintro e w' ⟨rfl, rfl⟩
            go_wp2_with fail
            go_ret
            exact ⟨rfl, Grown.refl _⟩
      · clear w0 w1 w2
        go_enter Try.func3, Try.ntmps3
        go_wp2
        all_goals (go_ret; exact ⟨rfl, Grown.refl _⟩)
    · unfold maxLen at w0 w1 w2
      go_enter Try.func3, Try.ntmps3
      go_wp2
      all_goals (go_ret; exact ⟨rfl, Grown.refl _⟩)
  · unfold maxLen at w0 w1 w2
    go_enter Try.func3, Try.ntmps3
    go_wp2
    all_goals (go_ret; exact ⟨rfl, Grown.refl _⟩)

/-! ### THE ROW's STEP: WRITTEN OUT: LEAVE IT -/
set_option maxRecDepth 100000 in
theorem lifted (os : Os) (started : os.Started) (H : Type) (enc : TypeId × Value → H) :
    ReturnsInHanded {} Try.checked os 3 .any (Rows.fnOrDefaultCoalescesThreeSpec.pre6 enc Try.prog Try.f3 Rows.fnOrDefaultCoalescesThreeRow.domain false) (Rows.fnOrDefaultCoalescesThreeSpec.post enc Try.prog Try.f3 false true false false) := by
  refine returnsInHanded_of_change (C := Try.checked) own started (by kernel_rfl) Try.func3
    (ChangeSpec.witness6 (enc := enc) (C := Try.checked) false ⟨#[], #[.string ByteArray.empty, .string ByteArray.empty, .string ByteArray.empty], []⟩ 8 (by kernel_rfl) (by kernel_rfl) (by kernel_rfl) (by kernel_rfl)) ?_
  intro W base args ds gs before hval0 hW hcnd _
  have hval : ∀ (j : Nat) t v, Try.f3.params[j]? = some t → args[j]? = some v → Value.okWide Try.prog W .any base t v := hval0
  have hW' := hW
  obtain ⟨p, q, hA0, hV, rfl, hfz, hnd⟩ := hW
  have hA : DataW.TrodAll enc Try.prog W 0 (fun _ => true) true Try.f3.params.toList args.toList ds p := hA0
  rw [Try.params3] at hA hval
  obtain ⟨v0, vs0, d0, ds0, p0, q0, hargs, rfl, rfl, h0, r0⟩ := trodAll_cons hA
  obtain ⟨v1, vs1, d1, ds1, p1, q1, rfl, rfl, rfl, h1, r1⟩ := trodAll_cons r0
  obtain ⟨v2, vs2, d2, ds2, p2, q2, rfl, rfl, rfl, h2, r2⟩ := trodAll_cons r1
  obtain ⟨rfl, rfl, rfl⟩ := trodAll_nil r2
  obtain rfl : args = #[v0, v1, v2] := by cases args; simp_all
  obtain ⟨rfl, rfl⟩ := trodVars_none hV
  obtain ⟨a0, rfl, rfl, rfl, w0⟩ := open_string Try.underlying9 (hval 0 9 v0 rfl rfl) h0
  obtain ⟨a1, rfl, rfl, rfl, w1⟩ := open_string Try.underlying9 (hval 1 9 v1 rfl rfl) h1
  obtain ⟨a2, rfl, rfl, rfl, w2⟩ := open_string Try.underlying9 (hval 2 9 v2 rfl rfl) h2
  clear hA0 hval0
  simp only [List.append_nil] at hW'
  refine (walk a0 a1 a2 w0 w1 w2 W).mono fun e W' ⟨he, hg⟩ => ?_
  subst he
  exact ⟨_, rfl, post_of_same (pa := []) (pv := []) hW' (fun _ _ _ => (trodAll_cons_mk (shut_bool Try.underlying4 _) trodAll_mk0)) (fun sp _ => (trodAll_cons_mk (shut_string Try.underlying9 w0) (trodAll_cons_mk (shut_string Try.underlying9 w1) (trodAll_cons_mk (shut_string Try.underlying9 w2) trodAll_mk0)))) (fun _ _ => rfl) rfl
    (hg.frame _) hg.2.1 (ok_one (by kernel_rfl) rfl (okWide_bool_mk Try.underlying4 _))⟩

theorem over : Rows.fnOrDefaultCoalescesThreeRow.holds Try.pinned (OpenSpec.ofChange Rows.fnOrDefaultCoalescesThreeSpec) :=
  OpenClaim.holds_of_wide 3 Try.f3 rfl rfl rfl rfl rfl rfl rfl ⟨rfl, rfl, rfl, rfl, rfl⟩ rfl rfl rfl rfl rfl (by kernel_rfl) Try.func3 (by kernel_rfl)
    (of_decide_eq_true (by kernel_rfl)) (by unfold Func.isWrapper; first | (rw [if_pos (by decide +kernel)]; kernel_rfl) | (rw [if_neg (by decide +kernel)]; exact ⟨rfl, rfl⟩))
    (fun os started H enc _ => lifted os started H enc)

/-- ████ THE STATEMENT ████ -/
theorem proved : Rows.FnOrDefaultCoalescesThreeSaid :=
  over
#print axioms proved
end Go.Proofs.Qxb6623452a.fnOrDefaultCoalescesThree
