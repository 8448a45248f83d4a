/-
  THE CONTRACTS OF advance AND ZZLexerAdvance.
-/
import Derived.Test.Qxb6623507aWidth
import Derived.RegionTactic
import Derived.BigRegion
import Derived.ChangeAlike
import Derived.Deep.QuietTactic
import Derived.BigQuiet
import Derived.WalkSmall
namespace Go.Proofs.Qxb6623507a.Advance
open Go.ChangeShapes Go.WideShapes Go.ChangeAt Go.RowKit
open Go.Proofs.Qxb6623507a.Plain Go.Proofs.Qxb6623507a.Bytes Go.Proofs.Qxb6623507a.Width
set_option linter.unusedVariables false

theorem wrap_eq (n : Int) : Plain.wrap n = wrap64 n := by unfold Plain.wrap wrap64; rfl

/-- THE LEXER LIES IN BLOCK b. -/
def Lex (w : World) (b : Nat) (src file : ByteArray) (pos row col : Int) (K : Value) : Prop :=
  w.heap[b]? = some (.cells #[.string src, .string file, .int .i64 pos, .int .i64 row, .int .i64 col, K] 29 (0, 0))

theorem lex_cells {w : World} {b : Nat} {src file : ByteArray} {pos row col : Int} {K : Value} (h : Lex w b src file pos row col K) :
    w.cell? ⟨b, 0, none⟩ = some (.string src) ∧ w.cell? ⟨b, 1, none⟩ = some (.string file) ∧ w.cell? ⟨b, 2, none⟩ = some (.int .i64 pos) ∧ w.cell? ⟨b, 3, none⟩ = some (.int .i64 row) ∧ w.cell? ⟨b, 4, none⟩ = some (.int .i64 col) := by
  unfold Lex at h
  refine ⟨?_, ?_, ?_, ?_, ?_⟩ <;> simp [World.cell?, h]

theorem lex_free {w : World} {b : Nat} {src file : ByteArray} {pos row col : Int} {K : Value} (h : Lex w b src file pos row col K) (o : Nat) : w.frozen? ⟨b, o, none⟩ = false := by
  unfold Lex at h
  simp [World.frozen?, h]

theorem lex_lt {w : World} {b : Nat} {src file : ByteArray} {pos row col : Int} {K : Value} (h : Lex w b src file pos row col K) : b < w.heap.size :=
  (Array.getElem?_eq_some_iff.1 h).1

theorem lex_set2 {w : World} {b : Nat} {src file : ByteArray} {pos row col : Int} {K : Value} (h : Lex w b src file pos row col K) (v : Int) : Lex (w.setCell ⟨b, 2, none⟩ (.int .i64 v)) b src file v row col K := by
  unfold Lex at *
  simp [World.setCell, Array.getElem?_modify, h]
theorem lex_set3 {w : World} {b : Nat} {src file : ByteArray} {pos row col : Int} {K : Value} (h : Lex w b src file pos row col K) (v : Int) : Lex (w.setCell ⟨b, 3, none⟩ (.int .i64 v)) b src file pos v col K := by
  unfold Lex at *
  simp [World.setCell, Array.getElem?_modify, h]
theorem lex_set4 {w : World} {b : Nat} {src file : ByteArray} {pos row col : Int} {K : Value} (h : Lex w b src file pos row col K) (v : Int) : Lex (w.setCell ⟨b, 4, none⟩ (.int .i64 v)) b src file pos row v K := by
  unfold Lex at *
  simp [World.setCell, Array.getElem?_modify, h]

set_option maxRecDepth 100000 in
set_option maxHeartbeats 1000000 in
theorem adv_any (b : Nat) (src file : ByteArray) (pos n : Nat) (row col : Int) (K : Value) (w : World) (hb : Lex w b src file pos row col K) (hs : src.size ≤ 1048576) (hpn : pos + n ≤ src.size) :
    Calls Try.prog 7 #[.pointer (some ⟨b, 0, none⟩), .int .i64 n] w fun e w' => e = .returned (.tuple #[]) ∧
      Lex w' b src file ((pos + n : Nat) : Int) (F adv (bts (src.extract pos (pos + n))) (row, col)).1 (F adv (bts (src.extract pos (pos + n))) (row, col)).2 K ∧ Below b w w' := by
  have HB : Hid (Lex w b src file pos row col K) := hb
  obtain ⟨c0, c1, c2, c3, c4⟩ := lex_cells hb
  have hlt := lex_lt hb
  clear hb
  have hsz : (src.extract pos (pos + n)).size ≤ 1048576 := by simp; omega
  generalize hsp : src.extract pos (pos + n) = sp at hsz ⊢
  have hbl : Hid ((bts sp).length = sp.size) := bts_length sp
  go_enter Try.func7, Try.ntmps7
  go_wp2
  go_region
  go_wp2
  clear hsp c0 c1 c2 c3 c4
  go_loopg [] sp.size (fun g wr => ∃ (p : Nat) (r c : Int), g = sp.size - p ∧ p ≤ sp.size ∧ wr.heap[w.heap.size]? = some (.stringIter sp p) ∧ Hid (Lex wr b src file pos r c K) ∧ Below b w wr ∧ Hid (F adv ((bts sp).drop p) (r, c) = F adv (bts sp) (row, col)))
  case atStart =>
    refine ⟨0, row, col, by omega, Nat.zero_le _, World.iter_heap w.drew sp 0, ?_, ?_, ?_⟩
    · show (w.drew.alloc _).heap[b]? = _
      rw [Below.heap_alloc w.drew _ _ hlt]; exact HB
    · exact (Below.refl b w).drew.alloc (Nat.le_of_lt hlt) _
    · show _ = _; rw [List.drop_zero]
  case round =>
    obtain ⟨p, r, c, HG, hp, hit, HL, hbw, HF⟩ := hrel
    clear HB
    by_cases hlt2 : p < sp.size
    · have hnx : ∀ ty, (Instr.next (.pointer (some ⟨w.heap.size, 0, none⟩)) true ty).run Try.prog wr = _ := fun ty => Lib.run_next_any_at wr w.heap.size sp p ty hit hlt2
      obtain ⟨hd2, hd1⟩ := decode_wd sp p hlt2
      have hne : (bts sp).drop p ≠ [] := by intro e; have := congrArg List.length e; simp [hbl.out] at this; omega
      have hst := F_step adv ((bts sp).drop p) (r, c) hne
      have hle := wd_le _ hne
      rw [List.length_drop, hbl.out] at hle
      have hps := wd_pos ((bts sp).drop p)
      rw [← hd2] at hst hle hps
      rw [List.drop_drop] at hst
      have hit2 := Lib.iterAt_heap wr w.heap.size sp p (p + (Utf8.decode sp p).2) hit
      have HL2 : Lex (wr.iterAt w.heap.size sp (p + (Utf8.decode sp p).2)) b src file pos r c K := (Lib.iterAt_other wr w.heap.size b sp _ (by omega)).trans HL.out
      have hbw2 := Lib.below_iterAt hbw (k := w.heap.size) (Nat.le_of_lt hlt) sp (p + (Utf8.decode sp p).2)
      generalize (Utf8.decode sp p).1 = rv at hnx hd1
      generalize (Utf8.decode sp p).2 = v at hnx hst hle hps hit2 HL2 hbw2
      generalize ((bts sp).drop p).getD 0 0 = b0 at hd1 hst
      generalize hW : wr.iterAt w.heap.size sp (p + v) = W1 at hnx hit2 HL2 hbw2
      clear hW hit HL hbw hd2 hne
      have HF2 : Hid (F adv ((bts sp).drop (p + v)) (adv (r, c) b0) = F adv (bts sp) (row, col)) := hst.symm.trans HF.out
      clear hst HF
      obtain ⟨c0, c1, c2, c3, c4⟩ := lex_cells HL2
      have f3 := lex_free HL2 3
      have f4 := lex_free HL2 4
      have HIT : Hid (W1.heap[w.heap.size]? = some (.stringIter sp (p + v))) := hit2
      have HLX : Hid (Lex W1 b src file pos r c K) := HL2
      have HD : Hid (rv = 10 ↔ b0 = 10) := hd1
      clear hit2 HL2 hd1
      by_cases h10 : rv = 10
      · have hq : ((rv : Int) == 10) = true := by rw [h10]; rfl
        have hb0 := HD.out.1 h10
        clear h10
        have HA : Hid (adv (r, c) b0 = (wrap64 (r + 1), 1)) := by show _ = _; unfold adv; rw [if_pos hb0, wrap_eq]
        clear hb0
        go_wp2
        go_roundg (sp.size - (p + v))
        case rel =>
          refine ⟨p + v, _, _, rfl, by omega, ?_, lex_set4 (lex_set3 HLX.out _) _, (hbw2.setCell (Nat.le_refl _) _).setCell (Nat.le_refl _) _, ?_⟩
          · rw [Below.heap_setCell _ _ _ _ (show w.heap.size ≠ b by omega), Below.heap_setCell _ _ _ _ (show w.heap.size ≠ b by omega)]; exact HIT.out
          · show _ = _; rw [← HF2.out, HA.out]
        case measure => omega
      · have hq : ((rv : Int) == 10) = false := by simp; omega
        have hb0 : ¬ b0 = 10 := fun e => h10 (HD.out.2 e)
        clear h10
        have HA : Hid (adv (r, c) b0 = (r, wrap64 (c + 1))) := by show _ = _; unfold adv; rw [if_neg hb0, wrap_eq]
        clear hb0
        go_wp2
        go_roundg (sp.size - (p + v))
        case rel =>
          refine ⟨p + v, _, _, rfl, by omega, ?_, lex_set4 HLX.out _, hbw2.setCell (Nat.le_refl _) _, ?_⟩
          · rw [Below.heap_setCell _ _ _ _ (show w.heap.size ≠ b by omega)]; exact HIT.out
          · show _ = _; rw [← HF2.out, HA.out]
        case measure => omega
    · have hnx : ∀ ty, (Instr.next (.pointer (some ⟨w.heap.size, 0, none⟩)) true ty).run Try.prog wr = _ := fun ty => Lib.run_next_end_at wr w.heap.size sp p ty hit hlt2
      have e : F adv ((bts sp).drop p) (r, c) = (r, c) := by rw [List.drop_eq_nil_of_le (by rw [hbl.out]; omega)]; rfl
      have E : Hid (F adv (bts sp) (row, col) = (r, c)) := HF.out.symm.trans e
      clear e HF
      obtain ⟨c0, c1, c2, c3, c4⟩ := lex_cells HL.out
      have f2 := lex_free HL.out 2
      go_wp2
      go_end0
      exact ⟨rfl, by rw [E.out]; exact lex_set2 HL.out _, hbw.setCell (Nat.le_refl _) _⟩

set_option maxRecDepth 100000 in
set_option maxHeartbeats 1000000 in
theorem zzadv_any (src file : ByteArray) (pos n : Nat) (row col r c : Int) (w : World) (hs : src.size ≤ 1048576) (hpn : pos + n ≤ src.size) (hF : F adv (bts (src.extract pos (pos + n))) (row, col) = (r, c)) :
    Calls Try.prog 5 #[.string src, .string file, .int .i64 pos, .int .i64 row, .int .i64 col, .int .i64 n] w fun e w' =>
      e = .returned (.tuple #[.int .i64 ((pos : Int) + (n : Int)), .int .i64 r, .int .i64 c, .string file]) ∧ Below w.heap.size w w' := by
  have HF : Hid (F adv (bts (src.extract pos (pos + n))) (row, col) = (r, c)) := hF
  clear hF
  go_enter Try.func5, Try.ntmps5
  go_wp2_with fail
  refine (adv_any w.heap.size src file pos n row col (.map none) _ (heap_alloc_new _ _) hs hpn).mono ?_
  rintro e w1 ⟨rfl, hL, hb⟩
  rw [HF.out, show ((pos + n : Nat) : Int) = (pos : Int) + (n : Int) from by omega] at hL
  clear HF
  obtain ⟨c0, c1, c2, c3, c4⟩ := lex_cells hL
  have hB : Below w.heap.size w w1 := ((Below.refl _ _).alloc (Nat.le_refl _) _).trans hb
  clear hb hL
  go_wp2_with fail
  go_quiet (fail)
  go_wp2
  exact bodyPost_ret (v := .tuple #[.int .i64 ((pos : Int) + (n : Int)), .int .i64 r, .int .i64 c, .string file]) (by simp [results, Try.results5, go_sem]) rfl ⟨rfl, below_drewN hB _⟩
end Go.Proofs.Qxb6623507a.Advance
