/-
  THE WALK OF FnReadOnlyCutAndDropAppends.
-/
import Derived.Test.Qxb6623514aKeep
namespace Go.Proofs.Qxb6623514a.CutWalk
open Go.ChangeShapes Go.WideShapes Go.ChangeAt Go.RowKit
open Go.Proofs.Qxb6623514a.Ops Go.Proofs.Qxb6623514a.Made Go.Proofs.Qxb6623514a.Keep
set_option linter.unusedVariables false

theorem back {w w1 w2 : World} (h : Below w.heap.size w w1) (k : Below w1.heap.size w1 w2) : Below w.heap.size w w2 := h.trans (k.mono h.size)

set_option maxRecDepth 100000 in
set_option maxHeartbeats 2000000 in
theorem walk (id : Int) (st : ByteArray) (a : Option Addr) (len cap : Nat) (cut : Int) (os : List Op4) (w : World) (h : Ops w a len os) (hn : a = none → len = 0) (hst : st.size ≤ maxLen) (hlen : len ≤ maxLen) :
    Calls Try.prog 3 #[.int .i64 id, .string st, .slice a len cap, .int .i64 cut] w fun e w' => e = .returned (.bool true) ∧ Below w.heap.size w w' := by
  have H := hide h
  have HN := hide hn
  have HST := hide hst
  have HLEN := hide hlen
  clear h hn
  unfold maxLen at hst hlen
  go_enter Try.func3, Try.ntmps3
  go_wp2_with fail
  refine (zzBytes_any _ _ _ _ _ _ os _ H.out HST.out HLEN.out).mono ?_
  rintro e w' ⟨⟨B, rfl, _⟩, rfl⟩
  cases B with
  | false =>
    go_wp2
    go_ret
    exact ⟨rfl, Below.refl _ _⟩
  | true =>
  by_cases hs1 : 1048576 < st.size
  · go_wp2
    go_ret
    exact ⟨rfl, Below.refl _ _⟩
  go_wp2_with fail
  refine (tooBig_any _ _ _ _ os _ H.out (by omega)).mono ?_
  rintro e w1 ⟨⟨B, rfl, hB⟩, hb1⟩
  cases B with
  | true =>
    go_wp2
    go_ret
    exact ⟨rfl, hb1⟩
  | false =>
  have hl := hB rfl
  clear hB
  by_cases hc0 : cut < 0
  · go_wp2
    go_ret
    exact ⟨rfl, hb1⟩
  by_cases hc1 : (len : Int) < cut
  · go_wp2
    go_ret
    exact ⟨rfl, hb1⟩
  obtain ⟨c, rfl⟩ : ∃ c : Nat, cut = (c : Int) := ⟨cut.toNat, by omega⟩
  have hcl : c ≤ len := by omega
  clear hc0 hc1
  have hd0 : decide ((c : Int) < 0) = false := by simp
  go_wp2_with fail
  refine (toOps_any _ _ _ os _ (ops_below H.out hb1) hl HN.out).mono ?_
  rintro e w2 ⟨a', c', rfl, hform, hO2, hb2⟩
  have hB2 : Below w.heap.size w w2 := back hb1 hb2
  have HF := hide hform
  have HO2 := hide hO2
  clear hform hO2 hb1 hb2 H HN HST HLEN
  obtain ⟨Bw, HBw⟩ : ∃ B, Hid (ro os = B) := ⟨_, rfl⟩
  obtain ⟨Bl, HBl⟩ : ∃ B, Hid (ro (os.take c) = B) := ⟨_, rfl⟩
  obtain ⟨Br, HBr⟩ : ∃ B, Hid (ro (os.drop c) = B) := ⟨_, rfl⟩
  have hsplit : Hid (Bw = (Bl && Br)) := by show _ = _; rw [← HBw.out, ← HBl.out, ← HBr.out]; exact ro_split os c
  go_wp2_with fail
  refine (readOnly_at _ _ _ _ _ os Bw _ HO2.out (by omega) HBw.out).mono ?_
  rintro e w3 ⟨rfl, hb3⟩
  have hB3 := back hB2 hb3
  have HO3 := hide (ops_below HO2.out hb3)
  clear hB2 HO2 hb3
  go_upto_region 12 with fail
  go_cut [12] (fun s wc => s = .bool Bl ∧ Below w.heap.size w wc ∧ Hid (Ops wc a' len os))
  case first =>
    rcases HF.out with ⟨rfl, h0, rfl⟩ | ⟨N, rfl, e⟩
    · obtain rfl : len = 0 := h0
      obtain rfl : c = 0 := by omega
      have hO : Hid (Ops w3 none 0 (os.take 0)) := ops_none _ _ _ rfl
      go_wp2_with fail
      refine (readOnly_at _ _ _ _ _ (os.take 0) Bl _ hO.out (by omega) HBl.out).mono ?_
      rintro e w4 ⟨rfl, hb4⟩
      go_wp2
      go_meet
      case rel => exact ⟨rfl, back hB3 hb4, ops_below HO3.out hb4⟩
    · obtain rfl := e.symm
      go_wp2_with fail
      refine (readOnly_at _ _ _ _ _ (os.take c) Bl _ (ops_take HO3.out hcl) (by omega) HBl.out).mono ?_
      rintro e w4 ⟨rfl, hb4⟩
      go_wp2
      go_meet
      case rel => exact ⟨rfl, back hB3 hb4, ops_below HO3.out hb4⟩
  case rest =>
  obtain ⟨rfl, hB4, HO4⟩ := hcut
  clear hB3 HO3
  obtain ⟨w4, rfl⟩ : ∃ w4 : World, w4 = wc := ⟨_, rfl⟩
  go_upto_region 13 with fail
  go_cut [13] (fun s wc => s = .bool Br ∧ Below w.heap.size w wc ∧ Hid (Ops wc a' len os))
  case first =>
    rcases HF.out with ⟨rfl, h0, rfl⟩ | ⟨N, rfl, e⟩
    · obtain rfl : len = 0 := h0
      obtain rfl : c = 0 := by omega
      have hO : Hid (Ops w4 none 0 (os.drop 0)) := ops_none _ _ _ (by have := HO4.out.1; exact List.eq_nil_of_length_eq_zero (by simpa using this))
      go_wp2_with fail
      refine (readOnly_at _ _ _ _ _ (os.drop 0) Br _ hO.out (by omega) HBr.out).mono ?_
      rintro e w5 ⟨rfl, hb5⟩
      go_wp2
      go_meet
      case rel => exact ⟨rfl, back hB4 hb5, ops_below HO4.out hb5⟩
    · obtain rfl := e.symm
      by_cases hce : c = len
      · subst hce
        have hO : ∀ a, Hid (Ops w4 a 0 (os.drop c)) := fun a => ops_none _ _ _ (List.drop_eq_nil_of_le (by have := HO4.out.1; omega))
        go_wp2_with fail
        refine (readOnly_at _ _ _ _ _ (os.drop c) Br _ (hO _).out (by omega) HBr.out).mono ?_
        rintro e w5 ⟨rfl, hb5⟩
        go_wp2
        go_meet
        case rel => exact ⟨rfl, back hB4 hb5, ops_below HO4.out hb5⟩
      · have hO := hide (ops_drop HO4.out (show c < len by omega))
        have hcn : ¬ len = c := fun e => hce e.symm
        rw [Nat.zero_add] at hO
        go_wp2_with fail
        refine (readOnly_at _ _ _ _ _ (os.drop c) Br _ hO.out (by omega) HBr.out).mono ?_
        rintro e w5 ⟨rfl, hb5⟩
        go_wp2
        go_meet
        case rel => exact ⟨rfl, back hB4 hb5, ops_below HO4.out hb5⟩
  case rest =>
  obtain ⟨rfl, hB5, HO5⟩ := hcut
  clear hB4 HO4 HF
  obtain ⟨w5, rfl⟩ : ∃ w5 : World, w5 = wc := ⟨_, rfl⟩
  go_upto_region 14 with fail
  go_wp2_with (at_make; refine wpList_make_ops rfl _ _ rfl _ len rfl rfl rfl (by omega) ?_)
  intro w6 HOWN hb6
  go_wp2_with fail
  go_loopg [14, 15] len (fun g t14 t15 wr => ∃ k m : Nat, g = len - k ∧ k ≤ len ∧ m ≤ k ∧ t15 = .int .i64 k ∧ t14 = .slice (some ⟨w5.heap.size, 0, none⟩) m len ∧ Hid (m = (kp (os.take k)).length) ∧ Hid (wr.ownsRow w5.heap.size 34 4 (.slice (some ⟨w5.heap.size, 0, none⟩) m len) m (flat (kp (os.take k)))) ∧ Below w5.heap.size w5 wr)
  case atStart => exact ⟨0, 0, rfl, Nat.zero_le _, Nat.le_refl _, rfl, rfl, rfl, HOWN, hb6⟩
  case round =>
    obtain ⟨k, m, HG, hk, hmk, rfl, rfl, HM, HW, hbr⟩ := hrel
    clear HOWN hb6
    by_cases hlt : k < len
    · obtain ⟨b, off, rfl, hbl, hcc⟩ := HO5.out.2 (by omega)
      have hz := at_below (hcc k hlt) hbr hbl
      have hkl : k < os.length := by rw [HO5.out.1]; exact hlt
      clear hcc
      obtain ⟨z, HZ⟩ : ∃ z, Hid (z = os.getD k z4) := ⟨_, rfl⟩
      rw [← HZ.out] at hz
      obtain ⟨kind, key, la, ll, lc, val⟩ := z
      obtain ⟨q0, q1, q2, q3⟩ := hz
      simp only at q0 q1 q2 q3
      by_cases h2 : kind = 2
      · have e := kp_hit os k hkl (by rw [← HZ.out]; exact h2)
        have HK := hide e
        subst h2
        clear e hkl HZ
        go_wp2
        go_roundg (len - (k + 1))
        case rel => exact ⟨k + 1, m, rfl, by omega, by omega, by go_num, rfl, by show _ = _; rw [HK.out]; exact HM.out, by rw [HK.out]; exact HW, hbr⟩
        case measure => omega
      · have e := kp_miss os k hkl (by rw [← HZ.out]; exact h2)
        rw [← HZ.out] at e
        have HK := hide e
        have hne : (kind != 2) = true := by simpa using h2
        clear e hkl HZ h2
        go_wp2_with (at_builtin; refine wpList_append_op rfl (.tmp 75) (.tmp 80) rfl w5.heap.size w5.heap.size m len (kp (os.take k)) ⟨kind, key, la, ll, lc, val⟩ HW.out w5.heap.size w5 hbr (Nat.le_refl _) hbr.size (by omega) rfl rfl ?_)
        intro w7 HW7 hb7
        go_wp2
        go_roundg (len - (k + 1))
        case rel => exact ⟨k + 1, m + 1, rfl, by omega, by omega, by go_num, rfl, by show _ = _; rw [HK.out, List.length_append, ← HM.out]; rfl, by rw [HK.out]; exact HW7, hb7⟩
        case measure => omega
    · have ek : os.take k = os := List.take_of_length_le (by rw [HO5.out.1]; omega)
      have eM : m = (kp os).length := by rw [← ek]; exact HM.out
      have hW := HW.out
      rw [ek] at hW
      have HO := hide (own_ops hW eM.symm)
      have eB : Bw = decide (m = len) := by rw [← HBw.out, kp_full, HO5.out.1, ← eM]
      have HB := hide eB
      have hB6 := back hB5 hbr
      clear hW ek eM eB HM HW hbr hB5 HBw HBl HBr HG hd0
      go_wp2_with fail
      refine (readOnly_at _ _ _ _ _ (kp os) true _ HO.out (by omega) (ro_kp os)).mono ?_
      rintro e w7 ⟨rfl, hb7⟩
      have hB7 := back hB6 hb7
      clear hB6 hb7 HO HO5
      have hs := hsplit.out
      have hb := HB.out
      clear hsplit HB
      cases Bl <;> cases Br <;> simp only [Bool.and_true, Bool.and_false, Bool.and_self] at hs <;> subst hs
      all_goals (
        have hq : ((m : Int) == (len : Int)) = decide (m = len) := by rw [Bool.eq_iff_iff]; simp; omega
        rw [← hb] at hq
        clear hb
        go_wp2
        go_ret
        exact ⟨rfl, hB7⟩)
end Go.Proofs.Qxb6623514a.CutWalk
