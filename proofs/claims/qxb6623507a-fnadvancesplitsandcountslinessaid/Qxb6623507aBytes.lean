/-
  FROM THE MODEL's STRINGS TO THE PLAIN LISTS: the bytes of a string; the model's decoding is the plain step; what zzWidth asks is the plain step too.
-/
import Derived.Test.Qxb6623507aPlain
import Derived.WalkKit
import Derived.Lib.OthersKept
namespace Go.Proofs.Qxb6623507a.Bytes
open Go.Proofs.Qxb6623507a.Plain

def bts (s : ByteArray) : List Nat := s.data.toList.map UInt8.toNat

theorem bts_length (s : ByteArray) : (bts s).length = s.size := by
  unfold bts; rw [List.length_map, Array.length_toList]; rfl

theorem bts_get (s : ByteArray) (k : Nat) (h : k < s.size) : (bts s).getD k 0 = (s[k]'h).toNat := by
  have h' : k < s.data.size := h
  unfold bts
  simp only [List.getD, List.getElem?_map, Array.getElem?_toList, Array.getElem?_eq_getElem h', Option.map_some, Option.getD_some]
  rfl

theorem bts_out (s : ByteArray) (k : Nat) (h : ¬ k < s.size) : (bts s).getD k 0 = 0 := by
  have hl := bts_length s
  simp [List.getD, List.getElem?_eq_none (show (bts s).length ≤ k by omega)]

theorem bts_lt (s : ByteArray) (k : Nat) : (bts s).getD k 0 < 256 := by
  by_cases h : k < s.size
  · rw [bts_get s k h]; exact (s[k]'h).toNat_lt
  · rw [bts_out s k h]; omega

theorem get_bts (s : ByteArray) (k : Nat) : (s.get! k).toNat = (bts s).getD k 0 := by
  by_cases h : k < s.size
  · rw [bts_get s k h]
    have := get_at s k h
    rw [Nat.add_zero] at this
    rw [this]
  · rw [bts_out s k h]
    have h' : ¬ k < s.data.size := h
    show (s.data[k]!).toNat = 0
    rw [getElem!_neg s.data k h']
    rfl

theorem bts_extract (s : ByteArray) (a b : Nat) (hab : a ≤ b) (hb : b ≤ s.size) : bts (s.extract a b) = ((bts s).drop a).take (b - a) := by
  apply List.ext_getElem?
  intro k
  have hl := bts_length s
  have he : (s.extract a b).size = b - a := by simp; omega
  have hle := bts_length (s.extract a b)
  by_cases hk : k < b - a
  · have h1 : k < (bts (s.extract a b)).length := by omega
    have h2 : k < (((bts s).drop a).take (b - a)).length := by simp; omega
    have e1 := bts_get (s.extract a b) k (by omega)
    have e2 := bts_get s (a + k) (by omega)
    rw [List.getElem?_eq_getElem h1, List.getElem?_eq_getElem h2]
    have g1 : (bts (s.extract a b))[k] = (bts (s.extract a b)).getD k 0 := by simp [List.getD, h1]
    have g2 : (((bts s).drop a).take (b - a))[k] = (bts s).getD (a + k) 0 := by
      simp [List.getD, show a + k < (bts s).length by omega]
    rw [g1, g2, e1, e2]
    simp [ByteArray.getElem_extract]
  · rw [List.getElem?_eq_none (by omega), List.getElem?_eq_none (by simp; omega)]

theorem valid_iff (c : Nat) : Utf8.valid (c : Int) = decide (c < 55296 ∨ (57344 ≤ c ∧ c ≤ 1114111)) := by
  unfold Utf8.valid
  rw [Bool.eq_iff_iff]
  simp
  omega

theorem drop_getD (l : List Nat) (i k : Nat) : (l.drop i).getD k 0 = l.getD (i + k) 0 := by simp [List.getD]

set_option maxRecDepth 10000 in
/-- THE MODEL's DECODING IS THE PLAIN STEP. -/
theorem decode_wd (s : ByteArray) (i : Nat) (h : i < s.size) :
    (Utf8.decode s i).2 = wd ((bts s).drop i) ∧ ((Utf8.decode s i).1 = 10 ↔ ((bts s).drop i).getD 0 0 = 10) := by
  have hl := bts_length s
  have hn : ((bts s).drop i).length = s.size - i := by simp [hl]
  unfold wd
  rw [hn, drop_getD, drop_getD, drop_getD, drop_getD]
  unfold Utf8.decode
  simp only [get_bts, valid_iff, Nat.add_zero]
  have q0 := bts_lt s i
  have q1 := bts_lt s (i + 1)
  have q2 := bts_lt s (i + 2)
  have q3 := bts_lt s (i + 3)
  generalize (bts s).getD i 0 = b0 at *
  generalize (bts s).getD (i + 1) 0 = b1 at *
  generalize (bts s).getD (i + 2) 0 = b2 at *
  generalize (bts s).getD (i + 3) 0 = b3 at *
  have t1 : (i + 1 < s.size) ↔ (1 < s.size - i) := by omega
  have t2 : (i + 2 < s.size) ↔ (2 < s.size - i) := by omega
  have t3 : (i + 3 < s.size) ↔ (3 < s.size - i) := by omega
  simp only [t1, t2, t3]
  generalize s.size - i = n at *
  unfold wdf Utf8.runeError
  by_cases c0 : b0 < 128
  · simp [c0]
  · rw [if_neg c0, if_neg c0]
    by_cases c1 : b0 / 32 = 6 ∧ 1 < n ∧ b1 / 64 = 2
    · rw [if_pos c1, if_pos (by simp [c1])]
      by_cases d : 128 ≤ b0 % 32 * 64 + b1 % 64
      · rw [if_pos d, if_pos (by omega)]
        refine ⟨rfl, ?_⟩
        show b0 % 32 * 64 + b1 % 64 = 10 ↔ b0 = 10
        omega
      · rw [if_neg d, if_neg (by omega)]
        refine ⟨rfl, ?_⟩
        show 65533 = 10 ↔ b0 = 10
        omega
    · rw [if_neg c1, if_neg (by simp; omega)]
      by_cases c2 : b0 / 16 = 14 ∧ 1 < n ∧ b1 / 64 = 2 ∧ 2 < n ∧ b2 / 64 = 2
      · rw [if_pos c2, if_pos (by simp [c2])]
        by_cases d : 2048 ≤ b0 % 16 * 4096 + b1 % 64 * 64 + b2 % 64 ∧ (b0 % 16 * 4096 + b1 % 64 * 64 + b2 % 64 < 55296 ∨ (57344 ≤ b0 % 16 * 4096 + b1 % 64 * 64 + b2 % 64 ∧ b0 % 16 * 4096 + b1 % 64 * 64 + b2 % 64 ≤ 1114111))
        · rw [if_pos d, if_pos (by simp; omega)]
          refine ⟨rfl, ?_⟩
          show b0 % 16 * 4096 + b1 % 64 * 64 + b2 % 64 = 10 ↔ b0 = 10
          omega
        · rw [if_neg d, if_neg (by simp; omega)]
          refine ⟨rfl, ?_⟩
          show 65533 = 10 ↔ b0 = 10
          omega
      · rw [if_neg c2, if_neg (by simp; omega)]
        by_cases c3 : b0 / 8 = 30 ∧ 1 < n ∧ b1 / 64 = 2 ∧ 2 < n ∧ b2 / 64 = 2 ∧ 3 < n ∧ b3 / 64 = 2
        · rw [if_pos c3, if_pos (by simp [c3])]
          by_cases d : 65536 ≤ b0 % 8 * 262144 + b1 % 64 * 4096 + b2 % 64 * 64 + b3 % 64 ∧ b0 % 8 * 262144 + b1 % 64 * 4096 + b2 % 64 * 64 + b3 % 64 ≤ 1114111
          · rw [if_pos d, if_pos (by simp; omega)]
            refine ⟨rfl, ?_⟩
            show b0 % 8 * 262144 + b1 % 64 * 4096 + b2 % 64 * 64 + b3 % 64 = 10 ↔ b0 = 10
            omega
          · rw [if_neg d, if_neg (by simp; omega)]
            refine ⟨rfl, ?_⟩
            show 65533 = 10 ↔ b0 = 10
            omega
        · rw [if_neg c3, if_neg (by simp; omega)]
          refine ⟨rfl, ?_⟩
          show 65533 = 10 ↔ b0 = 10
          omega

/-! ### What zzWidth's own table says -/

def Tab (b0 size lo hi : Nat) : Prop :=
  (194 ≤ b0 ∧ b0 ≤ 223 ∧ size = 2 ∧ lo = 128 ∧ hi = 191) ∨ (b0 = 224 ∧ size = 3 ∧ lo = 160 ∧ hi = 191) ∨ (225 ≤ b0 ∧ b0 ≤ 236 ∧ size = 3 ∧ lo = 128 ∧ hi = 191) ∨ (b0 = 237 ∧ size = 3 ∧ lo = 128 ∧ hi = 159) ∨
  (238 ≤ b0 ∧ b0 ≤ 239 ∧ size = 3 ∧ lo = 128 ∧ hi = 191) ∨ (b0 = 240 ∧ size = 4 ∧ lo = 144 ∧ hi = 191) ∨ (241 ≤ b0 ∧ b0 ≤ 243 ∧ size = 4 ∧ lo = 128 ∧ hi = 191) ∨ (b0 = 244 ∧ size = 4 ∧ lo = 128 ∧ hi = 143)

theorem wdf_none (n b0 b1 b2 b3 : Nat) (h : b0 < 194 ∨ 244 < b0) (hb : b0 < 256) : wdf n b0 b1 b2 b3 = 1 := by
  unfold wdf; repeat' split
  all_goals omega
theorem wdf_short (n b0 b1 b2 b3 size lo hi : Nat) (t : Tab b0 size lo hi) (h : n < size) : wdf n b0 b1 b2 b3 = 1 := by
  unfold Tab at t
  unfold wdf; repeat' split
  all_goals omega
theorem wdf_b1 (n b0 b1 b2 b3 size lo hi : Nat) (t : Tab b0 size lo hi) (h : b1 < lo ∨ hi < b1) : wdf n b0 b1 b2 b3 = 1 := by
  unfold Tab at t
  unfold wdf; repeat' split
  all_goals omega
theorem wdf_b2 (n b0 b1 b2 b3 size lo hi : Nat) (t : Tab b0 size lo hi) (hs : 2 < size) (h : b2 < 128 ∨ 191 < b2) : wdf n b0 b1 b2 b3 = 1 := by
  unfold Tab at t
  unfold wdf; repeat' split
  all_goals omega
theorem wdf_b3 (n b0 b1 b2 b3 size lo hi : Nat) (t : Tab b0 size lo hi) (hs : 3 < size) (h : b3 < 128 ∨ 191 < b3) : wdf n b0 b1 b2 b3 = 1 := by
  unfold Tab at t
  unfold wdf; repeat' split
  all_goals omega
set_option maxHeartbeats 2000000 in
theorem wdf_ok (n b0 b1 b2 b3 size lo hi : Nat) (t : Tab b0 size lo hi) (hn : size ≤ n) (h1 : lo ≤ b1 ∧ b1 ≤ hi) (h2 : 2 < size → 128 ≤ b2 ∧ b2 ≤ 191) (h3 : 3 < size → 128 ≤ b3 ∧ b3 ≤ 191) : wdf n b0 b1 b2 b3 = size := by
  rcases t with ⟨_, _, rfl, rfl, rfl⟩ | ⟨rfl, rfl, rfl, rfl⟩ | ⟨_, _, rfl, rfl, rfl⟩ | ⟨rfl, rfl, rfl, rfl⟩ | ⟨_, _, rfl, rfl, rfl⟩ | ⟨rfl, rfl, rfl, rfl⟩ | ⟨_, _, rfl, rfl, rfl⟩ | ⟨rfl, rfl, rfl, rfl⟩
  all_goals
    unfold wdf
    repeat' split
    all_goals omega
end Go.Proofs.Qxb6623507a.Bytes
