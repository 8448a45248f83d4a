/-
  THE PLAIN LAW: what 'skipBlanks' computes over a list of numbers, and what the law asks of it. No Go in sight.
-/
import Derived.KernelRfl
namespace Go.Proofs.Qxb6623433a.Plain

/-- The five blanks. -/
def blankB (c : Int) : Bool := c == 32 || c == 9 || c == 13 || c == 11 || c == 12

/-- The least place at or behind i that is no blank; the length where there is none; i itself at or past the end. -/
def sk (zs : List Int) (i : Nat) : Nat := i + ((zs.drop i).takeWhile blankB).length

theorem sk_ge (zs : List Int) (i : Nat) : i ≤ sk zs i := by unfold sk; omega

theorem tw_le (p : Int → Bool) (l : List Int) : (l.takeWhile p).length ≤ l.length := by
  induction l with
  | nil => simp
  | cons x l ih => rw [List.takeWhile_cons]; split <;> simp <;> omega

theorem sk_past (zs : List Int) (i : Nat) (h : zs.length ≤ i) : sk zs i = i := by
  unfold sk; rw [List.drop_eq_nil_of_le h]; simp

theorem sk_le (zs : List Int) (i : Nat) (h : i ≤ zs.length) : sk zs i ≤ zs.length := by
  unfold sk
  have := tw_le blankB (zs.drop i)
  rw [List.length_drop] at this
  omega

theorem sk_hit (zs : List Int) (i : Nat) (h : i < zs.length) (hb : blankB (zs.getD i 0) = true) : sk zs i = sk zs (i + 1) := by
  have e : zs.getD i 0 = zs[i] := by simp [List.getD, h]
  rw [e] at hb
  unfold sk
  rw [List.drop_eq_getElem_cons h, List.takeWhile_cons, hb]
  simp; omega

theorem sk_miss (zs : List Int) (i : Nat) (h : i < zs.length) (hb : blankB (zs.getD i 0) = false) : sk zs i = i := by
  have e : zs.getD i 0 = zs[i] := by simp [List.getD, h]
  rw [e] at hb
  unfold sk
  rw [List.drop_eq_getElem_cons h, List.takeWhile_cons, hb]
  simp

theorem sk_blank (zs : List Int) (m : Nat) : ∀ i k, zs.length - i ≤ m → i ≤ k → k < sk zs i → k < zs.length → blankB (zs.getD k 0) = true := by
  induction m with
  | zero => intro i k hm hik hk hl; omega
  | succ m ih =>
    intro i k hm hik hk hl
    have hi : i < zs.length := by omega
    by_cases hb : blankB (zs.getD i 0) = true
    · by_cases e : k = i
      · subst e; exact hb
      · rw [sk_hit zs i hi hb] at hk
        exact ih (i + 1) k (by omega) (by omega) hk hl
    · rw [sk_miss zs i hi (by simpa using hb)] at hk
      omega

theorem sk_stop (zs : List Int) (m : Nat) : ∀ i, zs.length - i ≤ m → sk zs i < zs.length → blankB (zs.getD (sk zs i) 0) = false := by
  induction m with
  | zero =>
    intro i hm h
    have := sk_ge zs i
    omega
  | succ m ih =>
    intro i hm h
    have hi : i < zs.length := by have := sk_ge zs i; omega
    by_cases hb : blankB (zs.getD i 0) = true
    · rw [sk_hit zs i hi hb] at h ⊢
      exact ih (i + 1) (by omega) h
    · have hb' : blankB (zs.getD i 0) = false := by simpa using hb
      rw [sk_miss zs i hi hb']
      exact hb'

theorem tw_app (p : Int → Bool) (A B : List Int) : ((A ++ B).takeWhile p).length = if (A.takeWhile p).length < A.length then (A.takeWhile p).length else A.length + (B.takeWhile p).length := by
  induction A with
  | nil => simp
  | cons x A ih =>
    rw [List.cons_append, List.takeWhile_cons, List.takeWhile_cons]
    cases hx : p x with
    | false => simp
    | true =>
      simp only [if_true, List.length_cons, ih]
      have := tw_le p A
      split <;> split <;> omega

theorem sk_app_left (A B : List Int) (i : Nat) (h : i ≤ A.length) : sk (A ++ B) i = if sk A i < A.length then sk A i else A.length + sk B 0 := by
  unfold sk
  rw [List.drop_append_of_le_length h, tw_app]
  have := tw_le blankB (A.drop i)
  rw [List.length_drop] at *
  simp only [List.drop_zero]
  split <;> split <;> omega

theorem sk_app_right (A B : List Int) (i : Nat) (h : A.length ≤ i) : sk (A ++ B) i = A.length + sk B (i - A.length) := by
  unfold sk
  have e : (A ++ B).drop i = B.drop (i - A.length) := by
    rw [List.drop_append, List.drop_eq_nil_of_le h]; simp
  rw [e]
  omega
end Go.Proofs.Qxb6623433a.Plain
