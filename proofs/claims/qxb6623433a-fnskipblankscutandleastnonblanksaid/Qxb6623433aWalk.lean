/-
  THE LAW's WALK, its sizes within the bounds.
-/
import Derived.Test.Qxb6623433aFills
import Derived.WalkSpells
import Derived.WalkLawsBesides
import Derived.Deep.DeepCutAuto
import Derived.Deep.Light
namespace Go.Proofs.Qxb6623433a.Core
open Go.ChangeShapes Go.WideShapes Go.ChangeAt Go.RowKit
open Go.Proofs.Qxb6623433a.Plain Go.Proofs.Qxb6623433a.Callees Go.Proofs.Qxb6623433a.Fills
set_option linter.unusedVariables false

theorem info5 : (Try.prog.info? 5).map (fun i => (i.zero, i.size, i.bytes)) = some (some (.int .u8 0), 1, 1) := by kernel_rfl
theorem size5 : (Try.prog.info? 5).map (·.size) = some 1 := by kernel_rfl

set_option maxRecDepth 100000 in
set_option maxHeartbeats 1000000 in
theorem core (a : Option Addr) (la ca : Nat) (A : List Int) (b : Option Addr) (lb cb : Nat) (B : List Int) (i : Nat) (w : World) (hA : Sl w a la A) (hB : Sl w b lb B) (na : a = none → la = 0) (nb : b = none → lb = 0)
    (ha : la ≤ 65536) (hb : lb ≤ 65536) (hi : (i : Int) ≤ 9223372036854775807) :
    Calls Try.prog 3 #[.slice a la ca, .slice b lb cb, .int .i64 i] w fun e w' => e = .returned (.bool true) ∧ Below w.heap.size w w' := by
  have HA : Hid (Sl w a la A) := hA
  have HB : Hid (Sl w b lb B) := hB
  have NA : Hid (a = none → la = 0) := na
  have NB : Hid (b = none → lb = 0) := nb
  clear hA hB na nb
  have hneq : ∀ (w : World) (a : Option Addr) (n c n' c' : Nat), (binOp .neq 22 (.slice a n c) (.slice none n' c')).run Try.prog w = .ok (.bool !a.isNone) w := fun w a n c n' c' => run_neq_slice_nil_any w _ _ a n c n' c' Try.underlying22
  have hmk : ∀ (n : Nat), n ≤ 131072 → ∀ w : World, (Instr.makeSlice 22 (.int .i64 (n : Int)) (.int .i64 (n : Int))).run Try.prog w = .ok (.slice (some ⟨w.heap.size, 0, none⟩) n n) (w.alloc (.cells (madeCells #[.int .u8 0] n) 5)) :=
    fun n hn w => run_make_row' 22 5 _ 1 Try.underlying22 info5 rfl .i64 .i64 n (by omega) (by omega) w
  have hmka := hmk la (by omega)
  have hmkb := hmk lb (by omega)
  have hmkn := hmk (la + lb) (by omega)
  rw [show ((la + lb : Nat) : Int) = (la : Int) + (lb : Int) from by omega] at hmkn
  clear hmk
  go_enter Try.func3, Try.ntmps3
  go_upto_if 32 with (go_at_call 4; refine (zzBytes_any _ _ _ _ _ _ _ ha hb _).mono ?_; rintro e w' ⟨rfl, rfl⟩)
  go_cut [0] (fun s0 wc => ∃ (a' : Option Addr) (c' : Nat), s0 = .slice a' la c' ∧ Hid (Sl wc a' la A) ∧ Hid (Sl wc b lb B) ∧ Below w.heap.size w wc)
  case first =>
    cases a with
    | none =>
      go_wp2
      go_meet
      case rel => exact ⟨none, _, rfl, HA, HB, Below.refl _ _⟩
    | some x =>
      go_upto_region 11 with fail
      go_wp2_with (refine wpList_copy_new rfl (.tmp 36) (.tmp 37) rfl _ _ _ A HA.out rfl rfl ?_)
      intro w2 HA2 hb2
      go_wp2
      go_meet
      case rel => exact ⟨_, _, rfl, HA2, sl_below HB.out hb2, hb2⟩
  case rest =>
    obtain ⟨a', c', rfl, HA1, HB1, hbw⟩ := hcut
    clear HA HB
    obtain ⟨w1, rfl⟩ : ∃ w1 : World, w1 = wc := ⟨_, rfl⟩
    go_upto_if 41 with fail
    go_cut [1] (fun s1 wc => ∃ (b' : Option Addr) (d' : Nat), s1 = .slice b' lb d' ∧ Hid (Sl wc a' la A) ∧ Hid (Sl wc b' lb B) ∧ Below w.heap.size w wc)
    case first =>
      cases b with
      | none =>
        go_wp2
        go_meet
        case rel => exact ⟨none, _, rfl, HA1, HB1, hbw⟩
      | some x =>
        go_upto_region 15 with fail
        go_wp2_with (refine wpList_copy_new rfl (.tmp 45) (.tmp 46) rfl _ _ _ B HB1.out rfl rfl ?_)
        intro w2 HB2 hb2
        go_wp2
        go_meet
        case rel => exact ⟨_, _, rfl, sl_below HA1.out hb2, HB2, hbw.trans (hb2.mono hbw.size)⟩
    case rest =>
      obtain ⟨b', d', rfl, HA2, HB2, hbw2⟩ := hcut
      clear HA1 HB1 hbw NA NB hneq hmka hmkb
      obtain ⟨w2, rfl⟩ : ∃ w2 : World, w2 = wc := ⟨_, rfl⟩
      have hAl : Hid (A.length = la) := HA2.out.1
      have hBl : Hid (B.length = lb) := HB2.out.1
      have hJl : Hid ((A ++ B).length = la + lb) := by show _ = _; rw [List.length_append, hAl.out, hBl.out]
      have F0 : Hid (Fill (w2.alloc (.cells (madeCells #[.int .u8 0] (la + lb)) 5)) w2.heap.size (A ++ B) 0) := fill_start w2 (A ++ B) (la + lb) hJl.out
      go_wp2
      go_loopw [12] (fun t wr => ∃ k : Nat, k ≤ la ∧ t = .int .i64 k ∧ Hid (Fill wr w2.heap.size (A ++ B) k) ∧ Below w2.heap.size w2 wr) (fun t _ => la - (intOf t).toNat)
      case atStart => exact ⟨0, Nat.zero_le _, rfl, F0, (Below.refl _ _).alloc (Nat.le_refl _) _⟩
      case round =>
        obtain ⟨k, hk, rfl, HF, hbr⟩ := hrel
        clear F0 hmkn
        by_cases hlt : k < la
        · obtain ⟨ba, oa, rfl, hba, hca⟩ := HA2.out.2 (by omega)
          have hck : wr.cell? ⟨ba, oa + k, none⟩ = some (.int .u8 (A.getD k 0)) := (hbr.cell (p := ⟨ba, oa + k, none⟩) hba).trans (hca k hlt)
          clear hca
          obtain ⟨hN, hNf⟩ := fill_cell HF.out (by rw [hJl.out]; omega)
          go_wp2
          go_roundw
          case rel => exact ⟨k + 1, by omega, by go_num, fill_step HF.out _ (get_left hAl.out hlt), hbr.setCell (Nat.le_refl _) _⟩
          case measure => simp [intOf]; omega
        · obtain rfl : la = k := by omega
          obtain ⟨w3, rfl⟩ : ∃ w3 : World, w3 = wr := ⟨_, rfl⟩
          go_wp2
          go_loopw [13] (fun t wr => ∃ k : Nat, k ≤ lb ∧ t = .int .i64 k ∧ Hid (Fill wr w2.heap.size (A ++ B) (la + k)) ∧ Below w2.heap.size w2 wr) (fun t _ => lb - (intOf t).toNat)
          case atStart => exact ⟨0, Nat.zero_le _, rfl, HF, hbr⟩
          case round =>
            obtain ⟨k, hk, rfl, HF, hbr⟩ := hrel
            by_cases hlt : k < lb
            · obtain ⟨bb, ob, rfl, hbb, hcb⟩ := HB2.out.2 (by omega)
              have hck : wr.cell? ⟨bb, ob + k, none⟩ = some (.int .u8 (B.getD k 0)) := (hbr.cell (p := ⟨bb, ob + k, none⟩) hbb).trans (hcb k hlt)
              clear hcb
              obtain ⟨hN, hNf⟩ := fill_cell HF.out (by rw [hJl.out]; omega)
              go_wp2
              go_roundw
              case rel => exact ⟨k + 1, by omega, by go_num, fill_step HF.out _ (get_right hAl.out), hbr.setCell (Nat.le_refl _) _⟩
              case measure => simp [intOf]; omega
            · obtain rfl : lb = k := by omega
              obtain ⟨w4, rfl⟩ : ∃ w4 : World, w4 = wr := ⟨_, rfl⟩
              have HA4 : Hid (Sl w4 a' la A) := sl_below HA2.out hbr
              have HB4 : Hid (Sl w4 b' lb B) := sl_below HB2.out hbr
              have HJ4 : Hid (Sl w4 (some ⟨w2.heap.size, 0, none⟩) (la + lb) (A ++ B)) := fill_done HF.out hJl.out
              have hbw4 : Below w.heap.size w w4 := hbw2.trans (hbr.mono hbw2.size)
              clear HA2 HB2 HF hbr hbw2
              obtain ⟨r, hr⟩ : ∃ r : Nat, r = sk (A ++ B) i := ⟨_, rfl⟩
              have HR : Hid (r = sk (A ++ B) i) := hr
              have hri : i ≤ r := by rw [hr]; exact sk_ge _ _
              have hrp : la + lb ≤ i → r = i := fun h => by rw [hr]; exact sk_past _ _ (by rw [hJl.out]; exact h)
              have hrl : i < la + lb → r ≤ la + lb := fun h => by rw [hr]; have := sk_le (A ++ B) i (by rw [hJl.out]; omega); rw [hJl.out] at this; exact this
              clear hr
              go_wp2_with fail
              refine (zzskip_at _ _ _ (A ++ B) i r _ _ HJ4.out (by omega) hi rfl HR.out).mono ?_
              rintro e w' ⟨rfl, rfl⟩
              go_upto_if 89 with fail
              go_cut [14] (fun s14 wc => s14 = .int .i64 (r : Int) ∧ w4 = wc)
              case first =>
                by_cases hin : la + lb ≤ i
                · have hre := hrp hin
                  have hne : ((r : Int) != (i : Int)) = false := by rw [hre]; simp
                  clear hrp hrl hri hre
                  go_wp2
                  go_meet
                  case rel => exact ⟨rfl, rfl⟩
                · have hrn := hrl (by omega)
                  clear hrp hrl
                  have h89 : decide ((la : Int) + (lb : Int) ≤ (i : Int)) = false := by simp; omega
                  have h95 : decide (r < i) = false := by simp; omega
                  have h99 : decide ((la : Int) + (lb : Int) < (r : Int)) = false := by simp; omega
                  go_wp2
                  clear h89 h95 h99
                  go_loop [15] (fun t => ∃ k : Nat, i ≤ k ∧ k ≤ r ∧ t = .int .i64 k) (fun t => r - (intOf t).toNat)
                  case atStart => exact ⟨i, Nat.le_refl _, hri, rfl⟩
                  case round =>
                    obtain ⟨k, hik, hkr, rfl⟩ := hrel
                    obtain ⟨N, oN, eN, hNl, hcN⟩ := HJ4.out.2 (by omega)
                    simp only [Option.some.injEq, Addr.mk.injEq, and_true] at eN
                    obtain ⟨rfl, rfl⟩ := eN
                    by_cases hlt : k < r
                    · have hck : w4.cell? ⟨w2.heap.size, k, none⟩ = some (.int .u8 ((A ++ B).getD k 0)) := by have := hcN k (by omega); simpa using this
                      clear hcN
                      obtain ⟨v, hv⟩ : ∃ v, v = (A ++ B).getD k 0 := ⟨_, rfl⟩
                      rw [← hv] at hck
                      have hbl : blankB v = true := by rw [hv]; exact sk_blank (A ++ B) _ i k (Nat.le_refl _) hik (by rw [← HR.out]; exact hlt) (by rw [hJl.out]; omega)
                      clear hv
                      go_wp2_with (go_at_call 6; refine (zzBlank_t _ _ hbl).mono ?_; rintro e w' ⟨rfl, rfl⟩)
                      go_round
                      case rel => first | exact ⟨k + 1, by omega, by omega, by go_num⟩ | (refine ⟨trivial, ?_⟩; (repeat apply Exists.intro); exact ⟨⟨k + 1, by omega, by omega, by go_num⟩, rfl⟩)
                      case measure => simp [intOf]; omega
                    · by_cases hrlt : r < la + lb
                      · have hck : w4.cell? ⟨w2.heap.size, r, none⟩ = some (.int .u8 ((A ++ B).getD r 0)) := by have := hcN r (by omega); simpa using this
                        clear hcN
                        obtain ⟨v, hv⟩ : ∃ v, v = (A ++ B).getD r 0 := ⟨_, rfl⟩
                        rw [← hv] at hck
                        have hbl : blankB v = false := by rw [hv, HR.out]; exact sk_stop (A ++ B) _ i (Nat.le_refl _) (by rw [← HR.out, hJl.out]; exact hrlt)
                        clear hv
                        go_wp2_with (go_at_call 6; refine (zzBlank_f _ _ hbl).mono ?_; rintro e w' ⟨rfl, rfl⟩)
                        go_meet
                        case rel => exact ⟨rfl, rfl⟩
                      · clear hcN
                        go_wp2
                        go_meet
                        case rel => exact ⟨rfl, rfl⟩
              case rest =>
                obtain ⟨rfl, rfl⟩ := hcut
                clear HJ4 hrp hrl hri
                by_cases hile : i ≤ la
                · obtain ⟨ra, hra⟩ : ∃ ra : Nat, ra = sk A i := ⟨_, rfl⟩
                  have hap := sk_app_left A B i (by rw [hAl.out]; exact hile)
                  rw [hAl.out, ← hra, ← HR.out] at hap
                  have HRA : Hid (ra = sk A i) := hra
                  clear hra
                  by_cases hral : ra < la
                  · rw [if_pos hral] at hap
                    subst hap
                    go_wp2_with (go_at_call 5; refine (zzskip_at _ _ _ A i _ _ _ HA4.out (by omega) hi rfl HRA.out).mono ?_; rintro e w' ⟨rfl, rfl⟩)
                    go_ret
                    exact ⟨rfl, hbw4⟩
                  · rw [if_neg hral] at hap
                    obtain ⟨rb, hrb⟩ : ∃ rb : Nat, rb = sk B 0 := ⟨_, rfl⟩
                    rw [← hrb] at hap
                    subst hap
                    have HRB : Hid (rb = sk B 0) := hrb
                    clear hrb
                    have hrbl : rb ≤ lb := by rw [HRB.out]; have := sk_le B 0 (Nat.zero_le _); rw [hBl.out] at this; exact this
                    go_wp2_with fail
                    refine (zzskip_at _ _ _ A i ra _ _ HA4.out (by omega) hi rfl HRA.out).mono ?_
                    rintro e w' ⟨rfl, rfl⟩
                    go_wp2_with fail
                    refine (zzskip_at _ _ _ B 0 rb _ _ HB4.out (by omega) (by omega) rfl HRB.out).mono ?_
                    rintro e w' ⟨rfl, rfl⟩
                    go_wp2_with fail
                    go_ret
                    exact ⟨rfl, hbw4⟩
                · have hap := sk_app_right A B i (by rw [hAl.out]; omega)
                  obtain ⟨rb, hrb⟩ : ∃ rb : Nat, rb = sk B (i - la) := ⟨_, rfl⟩
                  rw [hAl.out, ← hrb, ← HR.out] at hap
                  subst hap
                  have HRB : Hid (rb = sk B (i - la)) := hrb
                  clear hrb
                  have hrbl : (la : Int) + rb ≤ 9223372036854775807 := by
                    rw [HRB.out]
                    by_cases h : lb ≤ i - la
                    · rw [sk_past B (i - la) (by rw [hBl.out]; exact h)]; omega
                    · have := sk_le B (i - la) (by rw [hBl.out]; omega); rw [hBl.out] at this; omega
                  go_wp2_with fail
                  refine (zzskip_at _ _ _ B (i - la) rb _ _ HB4.out (by omega) (by omega) (by omega) HRB.out).mono ?_
                  rintro e w' ⟨rfl, rfl⟩
                  go_wp2_with fail
                  go_ret
                  exact ⟨rfl, hbw4⟩
end Go.Proofs.Qxb6623433a.Core
