/-
  THE LAW's WALK, every guard passed.
-/
import Derived.Test.Qxb6623507aAdvance
namespace Go.Proofs.Qxb6623507a.Core
open Go.ChangeShapes Go.WideShapes Go.ChangeAt Go.RowKit
open Go.Proofs.Qxb6623507a.Plain Go.Proofs.Qxb6623507a.Bytes Go.Proofs.Qxb6623507a.Width Go.Proofs.Qxb6623507a.Advance
set_option linter.unusedVariables false

theorem zzBytes_any (src file : ByteArray) (p r c a b : Int) (w : World) (hs : src.size + file.size ≤ 1048576) :
    Calls Try.prog 4 #[.string src, .string file, .int .i64 p, .int .i64 r, .int .i64 c, .int .i64 a, .int .i64 b] w fun e w' => e = .returned (.bool true) ∧ w = w' := by
  go_enter Try.func4, Try.ntmps4
  go_wp2
  go_ret
  exact ⟨rfl, rfl⟩

/-- ZZLexerAdvance, its numbers under names of their own. -/
theorem zzadv_at (src file : ByteArray) (pos n : Nat) (x y z row col r c : Int) (w : World) (hs : src.size ≤ 1048576) (hpn : pos + n ≤ src.size) (hx : x = (pos : Int)) (hy : y = (n : Int)) (hz : z = x + y)
    (hF : F adv (bts (src.extract pos (pos + n))) (row, col) = (r, c)) :
    Calls Try.prog 5 #[.string src, .string file, .int .i64 x, .int .i64 row, .int .i64 col, .int .i64 y] w fun e w' =>
      e = .returned (.tuple #[.int .i64 z, .int .i64 r, .int .i64 c, .string file]) ∧ Below w.heap.size w w' := by
  subst hz; subst hx; subst hy
  exact zzadv_any src file pos n row col r c w hs hpn hF

theorem runes_at (s : ByteArray) (p T : Nat) (x : Int) (hx : x = (p : Int)) (h : p ≤ s.size) (hs : s.size ≤ 1048576) (hT : F cnt ((bts s).drop p) 0 = T) (w : World) :
    Calls Try.prog 6 #[.string s, .int .i64 x] w fun e w' => e = .returned (.int .i64 (T : Int)) ∧ w = w' := by
  subst hx; subst hT
  exact runes_any s p h hs w

/-- What the law's own loop has seen of the first k bytes: m line breaks, the last one just ahead of p. -/
def Seen (L : List Nat) (k p m : Nat) : Prop := m = lines (L.take k) ∧ (0 < p → L.getD (p - 1) 0 = 10) ∧ (∀ j, p ≤ j → j < k → L.getD j 0 ≠ 10) ∧ (m = 0 ↔ p = 0)

theorem seen_start (L : List Nat) : Seen L 0 0 0 := ⟨by simp [lines], fun h => absurd h (by omega), fun j _ h => absurd h (by omega), by simp⟩

theorem lines_snoc (L : List Nat) (k : Nat) (h : k < L.length) : lines (L.take (k + 1)) = lines (L.take k) + if L.getD k 0 = 10 then 1 else 0 := by
  unfold lines
  rw [List.take_succ_eq_append_getElem h, List.countP_append]
  have e : L.getD k 0 = L[k] := by simp [List.getD, h]
  rw [e]
  by_cases h1 : L[k] = 10 <;> simp [h1]

theorem seen_hit {L : List Nat} {k p m : Nat} (s : Seen L k p m) (h : k < L.length) (hv : L.getD k 0 = 10) : Seen L (k + 1) (k + 1) (m + 1) := by
  refine ⟨by rw [lines_snoc L k h, if_pos hv, ← s.1], fun _ => by simpa using hv, fun j h1 h2 => by omega, by omega⟩

theorem seen_miss {L : List Nat} {k p m : Nat} (s : Seen L k p m) (h : k < L.length) (hv : L.getD k 0 ≠ 10) : Seen L (k + 1) p m := by
  refine ⟨by rw [lines_snoc L k h, if_neg hv, ← s.1]; rfl, s.2.1, fun j h1 h2 => ?_, s.2.2.2⟩
  by_cases e : j = k
  · subst e; exact hv
  · exact s.2.2.1 j h1 (by omega)

/-- THE PLAIN LAW AT THE LOOP's END. -/
theorem ends {L : List Nat} {n p m T : Nat} {row col r c : Int} (s : Seen L n p m) (hn : L.length = n) (hp : p ≤ n) (hT : F cnt (L.drop p) 0 = T) (hr : row = Plain.wrap row) (hc : col = Plain.wrap col)
    (hF : F adv L (row, col) = (r, c)) : r = wrap64 (row + m) ∧ c = if 0 < p then wrap64 (1 + T) else wrap64 (col + T) := by
  have h := adv_all L p row col (by omega) s.2.1 (fun j h1 h2 => s.2.2.1 j h1 (by omega)) hr hc
  rw [hF, hT] at h
  have hm : lines L = m := by rw [s.1, List.take_of_length_le (by omega)]
  rw [hm] at h
  simp only [Prod.mk.injEq, wrap_eq] at h
  exact h

set_option maxRecDepth 100000 in
set_option maxHeartbeats 2000000 in
theorem core (src file : ByteArray) (pos a b : Nat) (row col : Int) (w : World) (hs : src.size + file.size ≤ 1048576) (hp : pos + a + b ≤ src.size) (hr : row = Plain.wrap row) (hc : col = Plain.wrap col)
    (hcut : 0 < a → 0 < b → (bts src).getD (pos + a) 0 / 64 ≠ 2) :
    Calls Try.prog 3 #[.string src, .string file, .int .i64 pos, .int .i64 row, .int .i64 col, .int .i64 a, .int .i64 b] w fun e w' => e = .returned (.bool true) ∧ Below w.heap.size w w' := by
  -- the three walks of the plain law
  have hbl := bts_length src
  have e1 := bts_extract src pos (pos + a) (by omega) (by omega)
  have e2 := bts_extract src (pos + a) (pos + a + b) (by omega) (by omega)
  have e3 := bts_extract src pos (pos + (a + b)) (by omega) (by omega)
  have eL : bts (src.extract pos (pos + (a + b))) = bts (src.extract pos (pos + a)) ++ bts (src.extract (pos + a) (pos + a + b)) := by
    rw [e1, e2, e3, show pos + (a + b) - pos = a + b by omega, show pos + a - pos = a by omega, show pos + a + b - (pos + a) = b by omega, List.take_add, List.drop_drop]
  have hsep : Sep (bts (src.extract pos (pos + a))) (bts (src.extract (pos + a) (pos + a + b))) := by
    by_cases ha : a = 0
    · left; rw [e1, show pos + a - pos = 0 by omega]; simp
    · by_cases hb : b = 0
      · right; left; rw [e2, show pos + a + b - (pos + a) = 0 by omega]; simp
      · right; right; left
        rw [e2]
        have : (((bts src).drop (pos + a)).take (pos + a + b - (pos + a))).getD 0 0 = (bts src).getD (pos + a) 0 := by
          simp [List.getD, show 0 < b by omega]
        rw [this]
        exact hcut (by omega) (by omega)
  obtain ⟨r1, c1, H1⟩ : ∃ r1 c1, F adv (bts (src.extract pos (pos + a))) (row, col) = (r1, c1) := ⟨_, _, rfl⟩
  obtain ⟨r2, c2, H2⟩ : ∃ r2 c2, F adv (bts (src.extract (pos + a) (pos + a + b))) (r1, c1) = (r2, c2) := ⟨_, _, rfl⟩
  have H3 : F adv (bts (src.extract pos (pos + (a + b)))) (row, col) = (r2, c2) := by
    rw [eL, F_app adv _ _ _ _ (Nat.le_refl _) hsep, H1, H2]
  have HF1 := hide H1
  have HF2 := hide H2
  have HF3 := hide H3
  have HR := hide hr
  have HC := hide hc
  have HCUT : Hid (0 < a → 0 < b → ¬ (128 ≤ (bts src).getD (pos + a) 0 ∧ (bts src).getD (pos + a) 0 < 192)) := fun h1 h2 h3 => hcut h1 h2 (by omega)
  clear hbl e1 e2 e3 eL hsep H1 H2 H3 hr hc hcut
  go_enter Try.func3, Try.ntmps3
  go_upto_region 15 with (go_at_call 4; refine (zzBytes_any _ _ _ _ _ _ _ _ hs).mono ?_; rintro e w' ⟨rfl, rfl⟩)
  go_cut [87] (fun s87 wc => ∃ B : Bool, s87 = .bool B ∧ Hid (B = true → 0 < a ∧ 0 < b) ∧ w = wc)
  case first =>
    by_cases ha : 0 < a
    · go_wp2
      go_meet
      case rel => exact ⟨_, rfl, fun h => ⟨ha, by simpa using h⟩, rfl⟩
    · have ha' : decide ((0 : Int) < (a : Int)) = false := by simp; omega
      go_wp2
      go_meet
      case rel => exact ⟨_, rfl, fun h => by simp at h, rfl⟩
  case rest =>
  obtain ⟨B, rfl, hB, rfl⟩ := hcut
  go_upto_if 87 with fail
  go_cut [] (fun wc => w = wc)
  case first =>
    cases B with
    | false =>
      go_wp2
      go_meet
      case rel => rfl
    | true =>
      obtain ⟨ha, hb⟩ := hB.out rfl
      obtain ⟨v, hv⟩ : ∃ v, (src[pos + a]'(by omega)).toNat = v := ⟨_, rfl⟩
      have hno : ¬ (128 ≤ v ∧ v < 192) := by
        have := HCUT.out ha hb
        rw [bts_get src (pos + a) (by omega), hv] at this
        exact this
      by_cases h1 : 128 ≤ v
      · have h2 : 192 ≤ v := by omega
        clear hno
        go_wp2
        go_meet
        case rel => rfl
      · clear hno
        have h1' : decide ((128 : Int) ≤ (v : Int)) = false := by simp; omega
        go_wp2
        go_meet
        case rel => rfl
  case rest =>
  obtain rfl := hcut
  clear HCUT hB
  go_wp2_with fail
  refine (zzadv_at src file pos a _ _ ((pos : Int) + (a : Int)) row col r1 c1 _ (by omega) (by omega) rfl rfl rfl HF1.out).mono ?_
  rintro e w1 ⟨rfl, hb1⟩
  go_wp2_with fail
  refine (zzadv_at src file (pos + a) b _ _ ((pos : Int) + (a : Int) + (b : Int)) r1 c1 r2 c2 _ (by omega) (by omega) (by omega) rfl rfl HF2.out).mono ?_
  rintro e w2 ⟨rfl, hb2⟩
  go_wp2_with fail
  refine (zzadv_at src file pos (a + b) _ _ ((pos : Int) + (a : Int) + (b : Int)) row col r2 c2 _ (by omega) (by omega) rfl (by omega) (by omega) HF3.out).mono ?_
  rintro e w3 ⟨rfl, hb3⟩
  have hB : Below w.heap.size w w3 := (hb1.trans (hb2.mono hb1.size)).trans (hb3.mono (Nat.le_trans hb1.size hb2.size))
  clear hb1 hb2 hb3 HF1 HF2
  go_upto_region 25 with fail
  go_cut [29] (fun s29 wc => s29 = .string (src.extract pos (pos + (a + b))) ∧ w3 = wc)
  case first =>
    clear HF3 HR HC hB
    go_wp2
    go_meet
    case rel => exact ⟨rfl, rfl⟩
  case rest =>
  obtain ⟨rfl, rfl⟩ := hcut
  have hsz : (src.extract pos (pos + (a + b))).size = a + b := by simp; omega
  generalize src.extract pos (pos + (a + b)) = sp at hsz HF3 ⊢
  have hsz1 : sp.size ≤ 1048576 := by omega
  have hbl : Hid ((bts sp).length = sp.size) := bts_length sp
  clear hsz hs
  go_wp2
  go_loopg [30, 31, 32] sp.size (fun g t30 t31 t32 wr => ∃ k p m : Nat, g = sp.size - k ∧ k ≤ sp.size ∧ p ≤ k ∧ m ≤ k ∧ t30 = .int .i64 m ∧ t31 = .int .i64 ((p : Int) - 1) ∧ t32 = .int .i64 k ∧ Hid (Seen (bts sp) k p m) ∧ w3 = wr)
  case atStart => exact ⟨0, 0, 0, by omega, Nat.zero_le _, Nat.le_refl _, Nat.le_refl _, rfl, rfl, rfl, seen_start _, rfl⟩
  case round =>
    obtain ⟨k, p, m, HG, hk, hpk, hmk, rfl, rfl, rfl, HS, rfl⟩ := hrel
    by_cases hlt : k < sp.size
    · obtain ⟨v, hv⟩ : ∃ v, (sp[k]'hlt).toNat = v := ⟨_, rfl⟩
      have GV : Hid ((bts sp).getD k 0 = v) := by show _ = _; rw [bts_get sp k hlt, hv]
      have hkl : k < (bts sp).length := by rw [hbl.out]; exact hlt
      by_cases h10 : v = 10
      · have HS2 : Hid (Seen (bts sp) (k + 1) (k + 1) (m + 1)) := seen_hit HS.out hkl (by rw [GV.out]; exact h10)
        have hq : ((v : Int) == 10) = true := by rw [h10]; rfl
        clear h10 HS hkl GV
        go_wp2
        go_roundg (sp.size - (k + 1))
        case rel => exact ⟨k + 1, k + 1, m + 1, rfl, by omega, by omega, by omega, by go_num, by go_num, by go_num, HS2, rfl⟩
        case measure => omega
      · have HS2 : Hid (Seen (bts sp) (k + 1) p m) := seen_miss HS.out hkl (by rw [GV.out]; exact h10)
        have hq : ((v : Int) == 10) = false := by simp; omega
        clear h10 HS hkl GV
        go_wp2
        go_roundg (sp.size - (k + 1))
        case rel => exact ⟨k + 1, p, m, rfl, by omega, by omega, by omega, rfl, rfl, by go_num, HS2, rfl⟩
        case measure => omega
    · obtain rfl : k = sp.size := by omega
      obtain ⟨T, hT⟩ : ∃ T, F cnt ((bts sp).drop p) 0 = T := ⟨_, rfl⟩
      have hTl : T ≤ sp.size := by
        have := cnt_le _ ((bts sp).drop p) (Nat.le_refl _)
        rw [hT, List.length_drop, hbl.out] at this; omega
      obtain ⟨er, ec⟩ := ends HS.out hbl.out hpk hT HR.out HC.out HF3.out
      have hmp := HS.out.2.2.2
      have HT := hide hT
      clear hT HF3 HR HC HS HG
      subst er
      by_cases h0 : 0 < p
      · rw [if_pos h0, show wrap64 (1 + (T : Int)) = 1 + (T : Int) from by unfold wrap64; omega] at ec
        subst ec
        have hm0 : 0 < m := by omega
        clear hmp
        go_wp2_with (go_at_call 6; refine (runes_at sp p T _ (by omega) hpk hsz1 HT.out _).mono ?_; rintro e w' ⟨rfl, rfl⟩)
        go_ret
        exact ⟨rfl, hB⟩
      · rw [if_neg h0] at ec
        subst ec
        obtain rfl : p = 0 := by omega
        obtain rfl : m = 0 := by omega
        clear hmp h0
        go_wp2_with (go_at_call 6; refine (runes_at sp 0 T _ (by omega) hpk hsz1 HT.out _).mono ?_; rintro e w' ⟨rfl, rfl⟩)
        go_ret
        exact ⟨rfl, hB⟩
end Go.Proofs.Qxb6623507a.Core
