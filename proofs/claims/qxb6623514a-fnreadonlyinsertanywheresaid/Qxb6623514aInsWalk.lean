/-
  THE WALK OF FnReadOnlyInsertAnywhere.
-/
import Derived.Test.Qxb6623514aBytes9
namespace Go.Proofs.Qxb6623514a.InsWalk
open Go.ChangeShapes Go.WideShapes Go.ChangeAt Go.RowKit
open Go.Proofs.Qxb6623514a.Ops Go.Proofs.Qxb6623514a.Made Go.Proofs.Qxb6623514a.Keep Go.Proofs.Qxb6623514a.Bytes9
set_option linter.unusedVariables false

theorem back {w w1 w2 : World} (h : Below w.heap.size w w1) (k : Below w1.heap.size w1 w2) : Below w.heap.size w w2 := h.trans (k.mono h.size)

/-- The op laid in a new block. -/
theorem at_new (w : World) (z : Op4) (t : TypeId) : At (w.alloc (.cells #[.int .u8 z.kind, .string z.key, .slice z.la z.ll z.lc, .int .i64 z.val] t)) w.heap.size 0 z := by
  refine ⟨?_, ?_, ?_, ?_⟩ <;> simp

theorem take_snoc (J : List Op4) (m : Nat) (h : m < J.length) : J.take (m + 1) = J.take m ++ [J.getD m z4] := by
  rw [List.take_succ_eq_append_getElem h]
  simp [List.getD, h]

/-- The ops with x put in at place c. -/
def J (os : List Op4) (c : Nat) (x : Op4) : List Op4 := os.take c ++ (x :: os.drop c)

theorem J_len (os : List Op4) (c : Nat) (x : Op4) (h : c ≤ os.length) : (J os c x).length = os.length + 1 := by
  unfold J; simp; omega
theorem J_lt (os : List Op4) (c : Nat) (x : Op4) (k : Nat) (h : c ≤ os.length) (hk : k < c) : (J os c x).getD k z4 = os.getD k z4 := by
  unfold J
  simp only [List.getD]
  rw [List.getElem?_append_left (by simp; omega), List.getElem?_take, if_pos hk]
theorem J_at (os : List Op4) (c : Nat) (x : Op4) (h : c ≤ os.length) : (J os c x).getD c z4 = x := by
  unfold J
  have e : (os.take c).length = c := by simp; omega
  simp only [List.getD]
  rw [List.getElem?_append_right (by omega), e]
  simp
theorem J_gt (os : List Op4) (c : Nat) (x : Op4) (k : Nat) (h : c ≤ os.length) (hk : c ≤ k) : (J os c x).getD (k + 1) z4 = os.getD k z4 := by
  unfold J
  have e : (os.take c).length = c := by simp; omega
  simp only [List.getD]
  rw [List.getElem?_append_right (by omega), e, show k + 1 - c = (k - c) + 1 by omega, List.getElem?_cons_succ, List.getElem?_drop, show c + (k - c) = k by omega]
theorem J_ro (os : List Op4) (c : Nat) (x : Op4) : ro (J os c x) = (ro os && !(x.kind == 2)) := by
  unfold J
  rw [ro_app, show x :: os.drop c = [x] ++ os.drop c from rfl, ro_app, ro_one, ro_split os c]
  cases ro (os.take c) <;> cases ro (os.drop c) <;> cases (x.kind == 2) <;> rfl

theorem ops_one (w : World) (x : Op4) : Ops (w.alloc (.cells #[.int .u8 x.kind, .string x.key, .slice x.la x.ll x.lc, .int .i64 x.val] 34)) (some ⟨w.heap.size, 0, none⟩) 1 [x] := by
  refine ⟨rfl, fun _ => ⟨w.heap.size, 0, rfl, by simp, fun j hj => ?_⟩⟩
  obtain rfl : j = 0 := by omega
  exact at_new w x 34

theorem make1 (w : World) : (Instr.makeSlice 25 (.int .i64 1) (.int .i64 1)).run Try.prog w = .ok (.slice (some ⟨w.heap.size, 0, none⟩) 1 1) (w.alloc (.cells #[.int .u8 0, .string ByteArray.empty, .slice none 0 0, .int .i64 0] 34)) := by kernel_rfl

set_option maxRecDepth 100000 in
set_option maxHeartbeats 4000000 in
theorem walk (id id2 : Int) (st st2 : ByteArray) (a : Option Addr) (len cap : Nat) (pos : Int) (x : Op4) (os : List Op4) (w : World) (h : Ops w a len os) (hn : a = none → len = 0) (hst : st.size ≤ maxLen) (hst2 : st2.size ≤ maxLen) (hlen : len ≤ maxLen) (hxk : x.key.size ≤ maxLen) (hxl : x.ll ≤ maxLen) :
    Calls Try.prog 4 #[.int .i64 id, .string st, .slice a len cap, .int .i64 pos, .agg #[.int .u8 x.kind, .string x.key, .slice x.la x.ll x.lc, .int .i64 x.val], .int .i64 id2, .string st2] w fun e w' => e = .returned (.bool true) ∧ Below w.heap.size w w' := by
  have HZ := hide (fun w1 (hb : Below w.heap.size w w1) => zzBytes9_any id id2 st st2 a len cap pos x os w1 (ops_below h hb) hst hst2 hlen hxk hxl)
  have H := hide h
  have HN := hide hn
  clear h hn
  unfold maxLen at hst hst2 hlen hxk hxl
  have HX0 := hide (at_new w x 36)
  have hB0 : Below w.heap.size w (w.alloc (.cells #[.int .u8 x.kind, .string x.key, .slice x.la x.ll x.lc, .int .i64 x.val] 36)) := (Below.refl _ _).alloc (Nat.le_refl _) _
  have hX0 : w.heap.size < (w.alloc (.cells #[.int .u8 x.kind, .string x.key, .slice x.la x.ll x.lc, .int .i64 x.val] 36)).heap.size := by simp
  go_enter Try.func4, Try.ntmps4
  go_wp2_with fail
  refine (HZ.out _ hB0).mono ?_
  rintro e w1 ⟨⟨B, rfl, _⟩, hb1⟩
  have hB1 := back hB0 hb1
  have hX1 : w.heap.size < w1.heap.size := Nat.lt_of_lt_of_le hX0 hb1.size
  have HX1 := hide (at_below HX0.out hb1 hX0)
  obtain ⟨x0, x1, x2, x3⟩ := HX1.out
  simp only [Nat.zero_add] at x1 x2 x3
  clear HZ HX0 hB0 hX0 hb1
  cases B with
  | false =>
    go_wp2
    go_ret
    exact ⟨rfl, hB1⟩
  | true =>
  by_cases g1 : 1048576 < st.size
  · go_wp2
    go_ret
    exact ⟨rfl, hB1⟩
  by_cases g2 : 1048576 < st2.size
  · go_wp2
    go_ret
    exact ⟨rfl, hB1⟩
  by_cases g3 : 1048576 < x.key.size
  · go_wp2
    go_ret
    exact ⟨rfl, hB1⟩
  by_cases g4 : 131072 < x.ll
  · go_wp2
    go_ret
    exact ⟨rfl, hB1⟩
  go_wp2_with fail
  refine (tooBig_any _ _ _ _ os _ (ops_below H.out hB1) (by omega)).mono ?_
  rintro e w2 ⟨⟨B, rfl, hB⟩, hb2⟩
  have hB2 := back hB1 hb2
  cases B with
  | true =>
    clear x0 x1 x2 x3
    go_wp2
    go_ret
    exact ⟨rfl, hB2⟩
  | false =>
  have hl := hB rfl
  have hX2 : w.heap.size < w2.heap.size := Nat.lt_of_lt_of_le hX1 hb2.size
  have HX2 := hide (at_below HX1.out hb2 hX1)
  clear hB HX1 hX1 hB1 hb2 x0 x1 x2 x3
  by_cases hc0 : pos < 0
  · go_wp2
    go_ret
    exact ⟨rfl, hB2⟩
  by_cases hc1 : (len : Int) < pos
  · go_wp2
    go_ret
    exact ⟨rfl, hB2⟩
  obtain ⟨c, rfl⟩ : ∃ c : Nat, pos = (c : Int) := ⟨pos.toNat, by omega⟩
  have hcl : c ≤ len := by omega
  clear hc0 hc1
  have hd0 : decide ((c : Int) < 0) = false := by simp
  go_wp2_with fail
  refine (toOps_any _ _ _ os _ (ops_below H.out hB2) hl HN.out).mono ?_
  rintro e w3 ⟨a', c', rfl, hform, hO3, hb3⟩
  have hB3 := back hB2 hb3
  have hX3 : w.heap.size < w3.heap.size := Nat.lt_of_lt_of_le hX2 hb3.size
  have HX3 := hide (at_below HX2.out hb3 hX2)
  have HO3 := hide hO3
  obtain ⟨x0, x1, x2, x3⟩ := HX3.out
  simp only [Nat.zero_add] at x1 x2 x3
  clear hform hO3 hB2 hb3 H HN HX2 hX2
  go_wp2_with fail
  refine (toOp_any x _).mono ?_
  rintro e w4 ⟨rfl, hb4⟩
  have hB4 := back hB3 hb4
  have hX4 : w.heap.size < w4.heap.size := Nat.lt_of_lt_of_le hX3 hb4.size
  have HX4 := hide (at_below HX3.out hb4 hX3)
  have HO4 := hide (ops_below HO3.out hb4)
  clear hB3 hX3 HX3 HO3 hb4 x0 x1 x2 x3
  go_wp2_with fail
  obtain ⟨Bw, HBw⟩ : ∃ B, Hid (ro os = B) := ⟨_, rfl⟩
  have hb5 : Below w4.heap.size w4 (w4.alloc (.cells #[.int .u8 x.kind, .string x.key, .slice x.la x.ll x.lc, .int .i64 x.val] 34)) := (Below.refl _ _).alloc (Nat.le_refl _) _
  have hY5 : w4.heap.size < (w4.alloc (.cells #[.int .u8 x.kind, .string x.key, .slice x.la x.ll x.lc, .int .i64 x.val] 34)).heap.size := by simp
  refine (readOnly_at _ _ _ _ _ os Bw _ (ops_below HO4.out hb5) (by omega) HBw.out).mono ?_
  rintro e w5 ⟨rfl, hb6⟩
  have hB5 := back (back hB4 hb5) hb6
  have hX5 : w.heap.size < w5.heap.size := Nat.lt_of_lt_of_le hX4 (Nat.le_trans hb5.size hb6.size)
  have HX5 := hide (at_below (at_below HX4.out hb5 hX4) hb6 (Nat.lt_of_lt_of_le hX4 hb5.size))
  have hY : w4.heap.size < w5.heap.size := Nat.lt_of_lt_of_le hY5 hb6.size
  have HY := hide (at_below (at_new w4 x 34) hb6 hY5)
  have HO5 := hide (ops_below (ops_below HO4.out hb5) hb6)
  have hYa : ∀ o, At (w5.alloc o) w4.heap.size 0 x := fun o => at_below HY.out ((Below.refl _ _).alloc (Nat.le_refl _) o) hY
  have y0 := fun o => (hYa o).1
  have y1 := fun o => (hYa o).2.1
  have y2 := fun o => (hYa o).2.2.1
  have y3 := fun o => (hYa o).2.2.2
  simp only [Nat.zero_add] at y1 y2 y3
  have hmk1 := make1
  clear hB4 hX4 HX4 HO4 hb5 hY5 hb6 hYa hd0
  go_wp2_with fail
  clear y0 y1 y2 y3 hmk1
  obtain ⟨Ba, HBa⟩ : ∃ B, Hid (ro [x] = B) := ⟨_, rfl⟩
  have hb6 : Below w5.heap.size w5 (w5.alloc (.cells #[.int .u8 x.kind, .string x.key, .slice x.la x.ll x.lc, .int .i64 x.val] 34)) := (Below.refl _ _).alloc (Nat.le_refl _) _
  refine (readOnly_at _ _ _ _ _ [x] Ba _ (ops_one w5 x) (by omega) HBa.out).mono ?_
  rintro e w7 ⟨rfl, hb7⟩
  have hb57 := back hb6 hb7
  have hB7 := back hB5 hb57
  have hX7 : w.heap.size < w7.heap.size := Nat.lt_of_lt_of_le hX5 hb57.size
  have HX7 := hide (at_below HX5.out hb57 hX5)
  have hY7 : w4.heap.size < w7.heap.size := Nat.lt_of_lt_of_le hY hb57.size
  have HY7 := hide (at_below HY.out hb57 hY)
  have HO7 := hide (ops_below HO5.out hb57)
  have hkx : Hid ((x.kind != 2) = Ba) := by show _ = _; rw [← HBa.out, ro_one]; rfl
  have hosl : Hid (c ≤ os.length) := by show _ ≤ _; rw [HO5.out.1]; exact hcl
  have HJL : Hid ((J os c x).length = len + 1) := by show _ = _; rw [J_len os c x hosl.out, HO5.out.1]
  have HJR : Hid (ro (J os c x) = (Bw && Ba)) := by show _ = _; rw [J_ro, HBw.out, ← HBa.out, ro_one]
  clear hB5 hX5 HX5 hY HY HO5 hb6 hb7 hb57 HBa HBw
  obtain ⟨K, hK⟩ : ∃ K, K = J os c x := ⟨_, rfl⟩
  have HK := hide hK
  rw [← hK] at HJL HJR
  clear hK
  go_upto_region 15 with fail
  go_wp2_with (at_make; refine wpList_make_ops rfl _ _ rfl _ (len + 1) rfl rfl (by omega) (by omega) ?_)
  intro w8 HOWN hb8
  go_wp2_with fail
  go_loopg [20, 21] c (fun g t20 t21 wr => ∃ k : Nat, g = c - k ∧ k ≤ c ∧ t21 = .int .i64 k ∧ t20 = .slice (some ⟨w7.heap.size, 0, none⟩) k (len + 1) ∧ Hid (wr.ownsRow w7.heap.size 34 4 (.slice (some ⟨w7.heap.size, 0, none⟩) k (len + 1)) k (flat (K.take k))) ∧ Below w7.heap.size w7 wr)
  case atStart => exact ⟨0, rfl, Nat.zero_le _, rfl, rfl, HOWN, hb8⟩
  case round =>
    obtain ⟨k, HG, hk, rfl, rfl, HW, hbr⟩ := hrel
    clear HOWN hb8
    by_cases hlt : k < c
    · obtain ⟨b, off, rfl, hbl, hcc⟩ := HO7.out.2 (by omega)
      have hz := at_below (hcc k (by omega)) hbr hbl
      clear hcc
      have e := take_snoc K k (by rw [HJL.out]; omega)
      have e2 : K.getD k z4 = os.getD k z4 := by rw [HK.out]; exact J_lt os c x k hosl.out hlt
      rw [e2] at e
      obtain ⟨z, HZ⟩ : ∃ z, Hid (z = os.getD k z4) := ⟨_, rfl⟩
      rw [← HZ.out] at hz e
      have HT := hide e
      clear e e2 HZ
      obtain ⟨kind, key, la, ll, lc, val⟩ := z
      obtain ⟨q0, q1, q2, q3⟩ := hz
      simp only at q0 q1 q2 q3
      go_wp2_with (at_builtin; refine wpList_append_op rfl (.tmp 105) (.tmp 110) rfl w7.heap.size w7.heap.size k (len + 1) (K.take k) ⟨kind, key, la, ll, lc, val⟩ HW.out w7.heap.size w7 hbr (Nat.le_refl _) hbr.size (by omega) rfl rfl ?_)
      intro w9 HW9 hb9
      rw [← HT.out] at HW9
      go_wp2
      go_roundg (c - (k + 1))
      case rel => exact ⟨k + 1, rfl, by omega, by go_num, rfl, HW9, hb9⟩
      case measure => omega
    · obtain rfl : k = c := by omega
      have hY9 := at_below HY7.out hbr hY7
      obtain ⟨y0, y1, y2, y3⟩ := hY9
      simp only [Nat.zero_add] at y1 y2 y3
      have e := take_snoc K k (by rw [HJL.out]; omega)
      rw [show K.getD k z4 = x from by rw [HK.out]; exact J_at os k x hosl.out] at e
      have HT := hide e
      clear e
      go_wp2_with (at_builtin; refine wpList_append_op rfl (.tmp 112) (.tmp 114) rfl w7.heap.size w7.heap.size k (len + 1) (K.take k) x HW.out w7.heap.size w7 hbr (Nat.le_refl _) hbr.size (by omega) rfl rfl ?_)
      intro w9 HW9 hb9
      rw [← HT.out] at HW9
      clear HT y0 y1 y2 y3 HW hbr HG
      go_wp2_with fail
      go_loopg [20, 22] (len - k) (fun g t20 t22 wr => ∃ n : Nat, g = len - n ∧ k ≤ n ∧ n ≤ len ∧ t22 = .int .i64 n ∧ t20 = .slice (some ⟨w7.heap.size, 0, none⟩) (n + 1) (len + 1) ∧ Hid (wr.ownsRow w7.heap.size 34 4 (.slice (some ⟨w7.heap.size, 0, none⟩) (n + 1) (len + 1)) (n + 1) (flat (K.take (n + 1)))) ∧ Below w7.heap.size w7 wr)
      case atStart => exact ⟨k, rfl, Nat.le_refl _, hcl, rfl, rfl, HW9, hb9⟩
      case round =>
        obtain ⟨n, HG, hkn, hn, rfl, rfl, HW, hbr⟩ := hrel
        clear HW9 hb9
        by_cases hlt2 : n < len
        · obtain ⟨b, off, rfl, hbl, hcc⟩ := HO7.out.2 (by omega)
          have hz := at_below (hcc n hlt2) hbr hbl
          clear hcc
          have e := take_snoc K (n + 1) (by rw [HJL.out]; omega)
          have e2 : K.getD (n + 1) z4 = os.getD n z4 := by rw [HK.out]; exact J_gt os k x n hosl.out hkn
          rw [e2] at e
          obtain ⟨z, HZ⟩ : ∃ z, Hid (z = os.getD n z4) := ⟨_, rfl⟩
          rw [← HZ.out] at hz e
          have HT := hide e
          clear e e2 HZ
          obtain ⟨kind, key, la, ll, lc, val⟩ := z
          obtain ⟨q0, q1, q2, q3⟩ := hz
          simp only at q0 q1 q2 q3
          go_wp2_with (at_builtin; refine wpList_append_op rfl (.tmp 123) (.tmp 128) rfl w7.heap.size w7.heap.size (n + 1) (len + 1) (K.take (n + 1)) ⟨kind, key, la, ll, lc, val⟩ HW.out w7.heap.size w7 hbr (Nat.le_refl _) hbr.size (by omega) rfl rfl ?_)
          intro w10 HW10 hb10
          rw [← HT.out] at HW10
          go_wp2
          go_roundg (len - (n + 1))
          case rel => exact ⟨n + 1, rfl, by omega, by omega, by go_num, rfl, HW10, hb10⟩
          case measure => omega
        · obtain rfl : n = len := by omega
          have hW := HW.out
          rw [List.take_of_length_le (by rw [HJL.out]; omega)] at hW
          have HO := hide (own_ops hW HJL.out)
          have hB9 := back hB7 hbr
          have hX9 : w.heap.size < wr.heap.size := Nat.lt_of_lt_of_le hX7 hbr.size
          have HX9 := hide (at_below HX7.out hbr hX7)
          clear hW HW hbr hB7 HX7 hX7 HY7 hY7 HO7 HJL HG
          go_wp2_with fail
          refine (readOnly_at _ _ _ _ _ K (Bw && Ba) _ HO.out (by omega) HJR.out).mono ?_
          rintro e w10 ⟨rfl, hb10⟩
          have hB10 := back hB9 hb10
          have hX10 := at_below HX9.out hb10 hX9
          obtain ⟨x0, x1, x2, x3⟩ := hX10
          have hkk := hkx.out
          clear hkx hB9 hb10 HO HJR HK hosl HX9
          cases Ba <;> cases Bw
          all_goals (
            go_wp2
            go_ret
            exact ⟨rfl, hB10⟩)
end Go.Proofs.Qxb6623514a.InsWalk
