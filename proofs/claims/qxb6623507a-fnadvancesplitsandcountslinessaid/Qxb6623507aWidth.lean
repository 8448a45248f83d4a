/-
  THE CONTRACTS OF zzWidth, zzRunesFrom AND zzBytes.
-/
import Derived.Test.Qxb6623507aRows
import Derived.Test.Qxb6623507aBytes
import Derived.WalkKit
import Derived.WalkSpells
import Derived.WalkLawsBesides
import Derived.ProofKit
import Derived.Deep.DeepCutAuto
import Derived.Deep.CutBlock
namespace Go.Proofs.Qxb6623507a.Width
set_option linter.unusedVariables false
open Go.ChangeShapes Go.WideShapes Go.ChangeAt Go.RowKit
open Go.Proofs.Qxb6623507a.Plain Go.Proofs.Qxb6623507a.Bytes

theorem hide {p : Prop} (h : p) : Hid p := h
theorem ret_int {k : IntKind} {a b : Int} (h : a = b) : Ending.returned (.int k a) = .returned (.int k b) := by rw [h]

theorem wd_at (s : ByteArray) (i : Nat) : wd ((bts s).drop i) = wdf (s.size - i) ((bts s).getD i 0) ((bts s).getD (i + 1) 0) ((bts s).getD (i + 2) 0) ((bts s).getD (i + 3) 0) := by
  unfold wd
  rw [drop_getD, drop_getD, drop_getD, drop_getD, List.length_drop, bts_length, Nat.add_zero]

set_option maxRecDepth 100000 in
theorem width_ascii (s : ByteArray) (i : Nat) (h : i < s.size) (hs : s.size ≤ 1048576) (ha : (bts s).getD i 0 < 128) (w : World) :
    Calls Try.prog 8 #[.string s, .int .i64 i] w fun e w' => e = .returned (.int .i64 1) ∧ w = w' := by
  obtain ⟨b0, hb0⟩ : ∃ b0, (s[i]'h).toNat = b0 := ⟨_, rfl⟩
  rw [bts_get s i h, hb0] at ha
  go_enter Try.func8, Try.ntmps8
  go_wp2
  go_ret
  exact ⟨rfl, rfl⟩

set_option maxRecDepth 100000 in
theorem width_none (s : ByteArray) (i : Nat) (h : i < s.size) (hs : s.size ≤ 1048576) (ha : 128 ≤ (bts s).getD i 0) (hn : (bts s).getD i 0 < 194 ∨ 244 < (bts s).getD i 0) (w : World) :
    Calls Try.prog 8 #[.string s, .int .i64 i] w fun e w' => e = .returned (.int .i64 1) ∧ w = w' := by
  obtain ⟨b0, hb0⟩ : ∃ b0, (s[i]'h).toNat = b0 := ⟨_, rfl⟩
  rw [bts_get s i h, hb0] at ha hn
  have q1 : ((b0 : Int) == 238) = false := by simp; omega
  have q2 : ((b0 : Int) == 239) = false := by simp; omega
  rcases hn with hn | hn
  all_goals
    go_enter Try.func8, Try.ntmps8
    go_wp2
    go_ret
    exact ⟨rfl, rfl⟩

theorem tab_size {b0 size lo hi : Nat} (t : Tab b0 size lo hi) : 2 ≤ size ∧ size ≤ 4 := by
  rcases t with ⟨_, _, rfl, _, _⟩ | ⟨_, rfl, _, _⟩ | ⟨_, _, rfl, _, _⟩ | ⟨_, rfl, _, _⟩ | ⟨_, _, rfl, _, _⟩ | ⟨_, rfl, _, _⟩ | ⟨_, _, rfl, _, _⟩ | ⟨_, rfl, _, _⟩ <;> omega

theorem tab_cases {b0 size lo hi : Nat} (t : Tab b0 size lo hi) :
    (b0 ≤ 223 ∧ 194 ≤ b0 ∧ size = 2 ∧ lo = 128 ∧ hi = 191) ∨ (b0 = 224 ∧ size = 3 ∧ lo = 160 ∧ hi = 191) ∨ ((225 ≤ b0 ∧ b0 ≤ 236) ∧ size = 3 ∧ lo = 128 ∧ hi = 191) ∨ (b0 = 237 ∧ size = 3 ∧ lo = 128 ∧ hi = 159) ∨
    (b0 = 238 ∧ size = 3 ∧ lo = 128 ∧ hi = 191) ∨ (b0 = 239 ∧ size = 3 ∧ lo = 128 ∧ hi = 191) ∨ (b0 = 240 ∧ size = 4 ∧ lo = 144 ∧ hi = 191) ∨ (((241 ≤ b0 ∧ b0 ≤ 243) ∧ ((b0 : Int) == 238) = false ∧ ((b0 : Int) == 239) = false) ∧ size = 4 ∧ lo = 128 ∧ hi = 191) ∨ (b0 = 244 ∧ size = 4 ∧ lo = 128 ∧ hi = 143) := by
  rcases t with ⟨h1, h2, h⟩ | h | ⟨h1, h2, h⟩ | h | ⟨h1, h2, h⟩ | h | ⟨h1, h2, h⟩ | h
  · exact .inl ⟨h2, h1, h⟩
  · exact .inr (.inl h)
  · exact .inr (.inr (.inl ⟨⟨h1, h2⟩, h⟩))
  · exact .inr (.inr (.inr (.inl h)))
  · rcases (show b0 = 238 ∨ b0 = 239 by omega) with e | e
    · exact .inr (.inr (.inr (.inr (.inl ⟨e, h⟩))))
    · exact .inr (.inr (.inr (.inr (.inr (.inl ⟨e, h⟩)))))
  · exact .inr (.inr (.inr (.inr (.inr (.inr (.inl h))))))
  · exact .inr (.inr (.inr (.inr (.inr (.inr (.inr (.inl ⟨⟨⟨h1, h2⟩, by simp; omega, by simp; omega⟩, h⟩)))))))
  · exact .inr (.inr (.inr (.inr (.inr (.inr (.inr (.inr h)))))))

set_option maxRecDepth 100000 in
set_option maxHeartbeats 1000000 in
theorem width_tab (s : ByteArray) (i : Nat) (h : i < s.size) (hs : s.size ≤ 1048576) (size lo hi : Nat) (ht : Tab ((bts s).getD i 0) size lo hi) (w : World) :
    Calls Try.prog 8 #[.string s, .int .i64 i] w fun e w' => e = .returned (.int .i64 (wd ((bts s).drop i))) ∧ w = w' := by
  have HW : Hid (wd ((bts s).drop i) = _) := wd_at s i
  have HT : Hid (Tab ((bts s).getD i 0) size lo hi) := ht
  obtain ⟨r, hr⟩ : ∃ r, r = wd ((bts s).drop i) := ⟨_, rfl⟩
  rw [← hr] at HW ⊢
  clear hr
  have hsz := tab_size ht
  obtain ⟨b0, hb0⟩ : ∃ b0, (s[i]'h).toNat = b0 := ⟨_, rfl⟩
  rw [bts_get s i h, hb0] at ht
  have ht' := tab_cases ht
  clear ht
  have h1lo : 128 ≤ b0 := by
    have := HT.out; rw [bts_get s i h, hb0] at this
    rcases ht' with ⟨_, _, _⟩ | ⟨_, _⟩ | ⟨⟨_, _⟩, _⟩ | ⟨_, _⟩ | ⟨_, _⟩ | ⟨_, _⟩ | ⟨_, _⟩ | ⟨⟨⟨_, _⟩, _⟩, _⟩ | ⟨_, _⟩ <;> omega
  have HT' := hide ht'
  clear ht'
  go_enter Try.func8, Try.ntmps8
  go_upto_block 0 with fail
  go_cut [6, 7, 8] (fun t6 t7 t8 wc => t6 = .int .u8 lo ∧ t7 = .int .u8 hi ∧ t8 = .int .i64 size ∧ w = wc)
  case first =>
    rcases HT'.out with ⟨hA, hA', e1, e2, e3⟩ | ⟨rfl, e1, e2, e3⟩ | ⟨⟨hA, hA'⟩, e1, e2, e3⟩ | ⟨rfl, e1, e2, e3⟩ | ⟨rfl, e1, e2, e3⟩ | ⟨rfl, e1, e2, e3⟩ | ⟨rfl, e1, e2, e3⟩ | ⟨⟨⟨hA, hA'⟩, hB, hB'⟩, e1, e2, e3⟩ | ⟨rfl, e1, e2, e3⟩
    all_goals
      subst e1; subst e2; subst e3
      clear HT'
      go_wp2
      go_meet
      case rel => exact ⟨rfl, rfl, rfl, rfl⟩
  case rest =>
    obtain ⟨rfl, rfl, rfl, rfl⟩ := hcut
    clear HT'
    by_cases hsh : s.size - i < size
    · go_wp2
      go_ret
      exact ⟨ret_int (by rw [HW.out, wdf_short _ _ _ _ _ size lo hi HT.out hsh]; rfl), rfl⟩
    · obtain ⟨b1, hb1⟩ : ∃ b1, (s[i + 1]'(by omega)).toNat = b1 := ⟨_, rfl⟩
      have G1 : Hid ((bts s).getD (i + 1) 0 = b1) := by show _ = _; rw [bts_get s (i + 1) (by omega), hb1]
      by_cases h1 : b1 < lo
      · go_wp2
        go_ret
        exact ⟨ret_int (by rw [HW.out, wdf_b1 _ _ _ _ _ size lo hi HT.out (by rw [G1.out]; exact .inl h1)]; rfl), rfl⟩
      · by_cases h2 : hi < b1
        · go_wp2
          go_ret
          exact ⟨ret_int (by rw [HW.out, wdf_b1 _ _ _ _ _ size lo hi HT.out (by rw [G1.out]; exact .inr h2)]; rfl), rfl⟩
        · go_wp2
          go_loopg [10] (size - 2) (fun g t wr => ∃ k : Nat, 2 ≤ k ∧ k ≤ size ∧ g = size - k ∧ w = wr ∧ t = .int .i64 k ∧ Hid (∀ j, 2 ≤ j → j < k → 128 ≤ (bts s).getD (i + j) 0 ∧ (bts s).getD (i + j) 0 ≤ 191))
          case atStart => exact ⟨2, by omega, by omega, rfl, rfl, rfl, fun j a b => by omega⟩
          case round =>
            obtain ⟨k, hk2, hks, HG, rfl, rfl, HC⟩ := hrel
            by_cases hk : k < size
            · obtain ⟨bk, hbk⟩ : ∃ bk, (s[i + k]'(by omega)).toNat = bk := ⟨_, rfl⟩
              have Gk : Hid ((bts s).getD (i + k) 0 = bk) := by show _ = _; rw [bts_get s (i + k) (by omega), hbk]
              have bad : (bk < 128 ∨ 191 < bk) → Hid (r = 1) := by
                intro hbad
                show r = 1
                rw [HW.out]
                rw [← Gk.out] at hbad
                by_cases h3 : k = 2
                · subst h3; exact wdf_b2 _ _ _ _ _ size lo hi HT.out hk hbad
                · have h4 : k = 3 := by omega
                  subst h4; exact wdf_b3 _ _ _ _ _ size lo hi HT.out hk hbad
              by_cases c1 : bk < 128
              · have R := bad (.inl c1)
                clear bad
                go_wp2
                go_ret
                exact ⟨ret_int (by rw [R.out]; rfl), rfl⟩
              · by_cases c2 : 191 < bk
                · have R := bad (.inr c2)
                  clear bad
                  go_wp2
                  go_ret
                  exact ⟨ret_int (by rw [R.out]; rfl), rfl⟩
                · clear bad
                  go_wp2
                  go_roundg (size - (k + 1))
                  case rel =>
                    exact ⟨k + 1, by omega, by omega, rfl, rfl, by go_num, fun j a b => by
                      by_cases e : j = k
                      · subst e; rw [Gk.out]; omega
                      · exact HC.out j a (by omega)⟩
                  case measure => omega
            · have R : Hid (r = size) := by
                show r = size
                rw [HW.out]
                exact wdf_ok _ _ _ _ _ size lo hi HT.out (by omega) (by rw [G1.out]; omega) (fun a => HC.out 2 (by omega) (by omega)) (fun a => HC.out 3 (by omega) (by omega))
              obtain rfl : k = size := by omega
              go_wp2
              go_ret
              exact ⟨ret_int (by rw [R.out]), rfl⟩

theorem tab_ex {b0 : Nat} (h1 : 194 ≤ b0) (h2 : b0 ≤ 244) : ∃ size lo hi, Tab b0 size lo hi := by
  by_cases a1 : b0 ≤ 223
  · exact ⟨2, 128, 191, .inl ⟨h1, a1, rfl, rfl, rfl⟩⟩
  by_cases a2 : b0 = 224
  · exact ⟨3, 160, 191, .inr (.inl ⟨a2, rfl, rfl, rfl⟩)⟩
  by_cases a3 : b0 ≤ 236
  · exact ⟨3, 128, 191, .inr (.inr (.inl ⟨by omega, a3, rfl, rfl, rfl⟩))⟩
  by_cases a4 : b0 = 237
  · exact ⟨3, 128, 159, .inr (.inr (.inr (.inl ⟨a4, rfl, rfl, rfl⟩)))⟩
  by_cases a5 : b0 ≤ 239
  · exact ⟨3, 128, 191, .inr (.inr (.inr (.inr (.inl ⟨by omega, a5, rfl, rfl, rfl⟩))))⟩
  by_cases a6 : b0 = 240
  · exact ⟨4, 144, 191, .inr (.inr (.inr (.inr (.inr (.inl ⟨a6, rfl, rfl, rfl⟩)))))⟩
  by_cases a7 : b0 ≤ 243
  · exact ⟨4, 128, 191, .inr (.inr (.inr (.inr (.inr (.inr (.inl ⟨by omega, a7, rfl, rfl, rfl⟩))))))⟩
  · exact ⟨4, 128, 143, .inr (.inr (.inr (.inr (.inr (.inr (.inr ⟨by omega, rfl, rfl, rfl⟩))))))⟩

/-- zzWidth IS THE PLAIN STEP. -/
theorem width_any (s : ByteArray) (i : Nat) (h : i < s.size) (hs : s.size ≤ 1048576) (w : World) :
    Calls Try.prog 8 #[.string s, .int .i64 i] w fun e w' => e = .returned (.int .i64 (wd ((bts s).drop i))) ∧ w = w' := by
  have hlt := bts_lt s i
  have e1 := wd_at s i
  by_cases h1 : (bts s).getD i 0 < 128
  · rw [e1, wdf_none _ _ _ _ _ (.inl (by omega)) hlt]
    exact width_ascii s i h hs h1 w
  · by_cases h2 : (bts s).getD i 0 < 194 ∨ 244 < (bts s).getD i 0
    · rw [e1, wdf_none _ _ _ _ _ h2 hlt]
      exact width_none s i h hs (by omega) h2 w
    · obtain ⟨size, lo, hi, ht⟩ := tab_ex (b0 := (bts s).getD i 0) (by omega) (by omega)
      exact width_tab s i h hs size lo hi ht w

theorem width_at (s : ByteArray) (i v : Nat) (h : i < s.size) (hs : s.size ≤ 1048576) (hv : v = wd ((bts s).drop i)) (w : World) :
    Calls Try.prog 8 #[.string s, .int .i64 i] w fun e w' => e = .returned (.int .i64 (v : Int)) ∧ w = w' := by
  subst hv; exact width_any s i h hs w

theorem runes_any (s : ByteArray) (i : Nat) (h : i ≤ s.size) (hs : s.size ≤ 1048576) (w : World) :
    Calls Try.prog 6 #[.string s, .int .i64 i] w fun e w' => e = .returned (.int .i64 ((F cnt ((bts s).drop i) 0 : Nat) : Int)) ∧ w = w' := by
  have hbl : Hid ((bts s).length = s.size) := bts_length s
  go_enter Try.func6, Try.ntmps6
  go_wp2
  go_loop [1, 5] (fun t c => ∃ k m : Nat, k ≤ s.size ∧ m ≤ k ∧ t = .int .i64 k ∧ c = .int .i64 m ∧ Hid (F cnt ((bts s).drop k) m = F cnt ((bts s).drop i) 0)) (fun t _ => s.size - (intOf t).toNat)
  case atStart => exact ⟨i, 0, h, by omega, rfl, rfl, rfl⟩
  case round =>
    obtain ⟨k, m, hk, hm, rfl, rfl, HF⟩ := hrel
    by_cases hlt : k < s.size
    · have hne : (bts s).drop k ≠ [] := by intro e; have := congrArg List.length e; simp [hbl.out] at this; omega
      have hle := wd_le _ hne
      rw [List.length_drop, hbl.out] at hle
      have hpos := wd_pos ((bts s).drop k)
      have hst := F_step cnt ((bts s).drop k) m hne
      rw [List.drop_drop] at hst
      obtain ⟨v, hv⟩ : ∃ v, v = wd ((bts s).drop k) := ⟨_, rfl⟩
      rw [← hv] at hle hpos hst
      have HS : Hid (F cnt ((bts s).drop k) m = F cnt ((bts s).drop (k + v)) (m + 1)) := hst
      have HV : Hid (v = wd ((bts s).drop k)) := hv
      clear hst hv hne
      go_wp2_with (go_at_call 8; refine (width_at s k v hlt hs HV.out _).mono ?_; rintro e w' ⟨rfl, rfl⟩)
      go_round
      case rel => exact ⟨k + v, m + 1, by omega, by omega, by go_num, by go_num, HS.out.symm.trans HF.out⟩
      case measure => simp [intOf]; omega
    · have e : F cnt ((bts s).drop k) m = m := by rw [List.drop_eq_nil_of_le (by rw [hbl.out]; omega)]; rfl
      have E : Hid (F cnt ((bts s).drop i) 0 = m) := HF.out.symm.trans e
      clear e HF
      go_wp2
      go_ret
      exact ⟨ret_int (by rw [E.out]), rfl⟩
end Go.Proofs.Qxb6623507a.Width
