/-
  THE PLAIN LAW: Go's decoding of a string as steps over a list of bytes; where such steps may be cut; what 'advance' counts. No Go in sight.
-/
import Derived.KernelRfl
namespace Go.Proofs.Qxb6623507a.Plain

/-- THE WIDTH OF ONE STEP: n bytes are left, the first four are b0 .. b3. -/
def wdf (n b0 b1 b2 b3 : Nat) : Nat :=
  if b0 < 128 then 1
  else if b0 / 32 = 6 ∧ 1 < n ∧ b1 / 64 = 2 then (if 128 ≤ b0 % 32 * 64 + b1 % 64 then 2 else 1)
  else if b0 / 16 = 14 ∧ 1 < n ∧ b1 / 64 = 2 ∧ 2 < n ∧ b2 / 64 = 2 then
    (if 2048 ≤ b0 % 16 * 4096 + b1 % 64 * 64 + b2 % 64 ∧ (b0 % 16 * 4096 + b1 % 64 * 64 + b2 % 64 < 55296 ∨ (57344 ≤ b0 % 16 * 4096 + b1 % 64 * 64 + b2 % 64 ∧ b0 % 16 * 4096 + b1 % 64 * 64 + b2 % 64 ≤ 1114111)) then 3 else 1)
  else if b0 / 8 = 30 ∧ 1 < n ∧ b1 / 64 = 2 ∧ 2 < n ∧ b2 / 64 = 2 ∧ 3 < n ∧ b3 / 64 = 2 then
    (if 65536 ≤ b0 % 8 * 262144 + b1 % 64 * 4096 + b2 % 64 * 64 + b3 % 64 ∧ b0 % 8 * 262144 + b1 % 64 * 4096 + b2 % 64 * 64 + b3 % 64 ≤ 1114111 then 4 else 1)
  else 1

def wd (l : List Nat) : Nat := wdf l.length (l.getD 0 0) (l.getD 1 0) (l.getD 2 0) (l.getD 3 0)

theorem wdf_pos (n b0 b1 b2 b3 : Nat) : 1 ≤ wdf n b0 b1 b2 b3 := by
  unfold wdf; repeat' split
  all_goals omega
theorem wdf_le (n b0 b1 b2 b3 : Nat) (h : 0 < n) : wdf n b0 b1 b2 b3 ≤ n := by
  unfold wdf; repeat' split
  all_goals omega
theorem wdf_1 (n b0 b1 b2 b3 : Nat) (h : 1 < wdf n b0 b1 b2 b3) : 128 ≤ b0 ∧ 128 ≤ b1 := by
  unfold wdf at h; repeat' split at h
  all_goals omega
theorem wdf_2 (n b0 b1 b2 b3 : Nat) (h : 2 < wdf n b0 b1 b2 b3) : 128 ≤ b2 := by
  unfold wdf at h; repeat' split at h
  all_goals omega
theorem wdf_3 (n b0 b1 b2 b3 : Nat) (h : 3 < wdf n b0 b1 b2 b3) : 128 ≤ b3 := by
  unfold wdf at h; repeat' split at h
  all_goals omega
theorem wdf_le4 (n b0 b1 b2 b3 : Nat) : wdf n b0 b1 b2 b3 ≤ 4 := by
  unfold wdf; repeat' split
  all_goals omega

theorem wd_pos (l : List Nat) : 1 ≤ wd l := wdf_pos _ _ _ _ _
theorem wd_le (l : List Nat) (h : l ≠ []) : wd l ≤ l.length := wdf_le _ _ _ _ _ (by cases l with | nil => exact absurd rfl h | cons => simp)

/-- The bytes of one step behind its first are none below 128. -/
theorem wd_high (l : List Nat) (j : Nat) (h1 : 1 ≤ j) (h : j < wd l) : 128 ≤ l.getD j 0 := by
  have h4 := wdf_le4 l.length (l.getD 0 0) (l.getD 1 0) (l.getD 2 0) (l.getD 3 0)
  unfold wd at h
  have : j = 1 ∨ j = 2 ∨ j = 3 := by omega
  rcases this with rfl | rfl | rfl
  · exact (wdf_1 _ _ _ _ _ h).2
  · exact wdf_2 _ _ _ _ _ h
  · exact wdf_3 _ _ _ _ _ h

/-! ### Where a list may be cut -/

/-- A cut between A and B falls into no step: one is empty, or B's first byte is no continuation, or A's last byte is below 128. -/
def Sep (A B : List Nat) : Prop := A = [] ∨ B = [] ∨ B.getD 0 0 / 64 ≠ 2 ∨ ∃ A' c, A = A' ++ [c] ∧ c < 128

theorem wdf_many (n m b0 b1 b2 b3 : Nat) (hn : 4 ≤ n) (hm : 4 ≤ m) : wdf n b0 b1 b2 b3 = wdf m b0 b1 b2 b3 := by
  unfold wdf
  simp only [show 1 < n by omega, show 2 < n by omega, show 3 < n by omega, show 1 < m by omega, show 2 < m by omega, show 3 < m by omega]

theorem wd_one (x : Nat) (B : List Nat) (h : B = [] ∨ B.getD 0 0 / 64 ≠ 2 ∨ x < 128) : wd (x :: B) = wd [x] := by
  have e : wd [x] = 1 := by
    have := wd_le [x] (by simp); have := wd_pos [x]; simp at *; omega
  rw [e]
  rcases h with rfl | h | h
  · exact e
  · unfold wd wdf
    simp only [List.getD_cons_succ, List.getD_cons_zero]
    repeat' split
    all_goals omega
  · unfold wd wdf; simp [h]

theorem wd_two (x y : Nat) (B : List Nat) (h : B = [] ∨ B.getD 0 0 / 64 ≠ 2 ∨ y < 128) : wd (x :: y :: B) = wd [x, y] := by
  rcases h with rfl | h | h
  · rfl
  · unfold wd wdf
    simp only [List.getD_cons_succ, List.getD_cons_zero, List.length_cons, List.length_nil]
    repeat' split
    all_goals omega
  · unfold wd wdf
    simp only [List.getD_cons_succ, List.getD_cons_zero, List.length_cons, List.length_nil]
    repeat' split
    all_goals omega

theorem wd_three (x y z : Nat) (B : List Nat) (h : B = [] ∨ B.getD 0 0 / 64 ≠ 2 ∨ z < 128) : wd (x :: y :: z :: B) = wd [x, y, z] := by
  rcases h with rfl | h | h
  · rfl
  · unfold wd wdf
    simp only [List.getD_cons_succ, List.getD_cons_zero, List.length_cons, List.length_nil]
    repeat' split
    all_goals omega
  · unfold wd wdf
    simp only [List.getD_cons_succ, List.getD_cons_zero, List.length_cons, List.length_nil]
    repeat' split
    all_goals omega

theorem wd_app (A B : List Nat) (hA : A ≠ []) (h : Sep A B) : wd (A ++ B) = wd A := by
  have h' : B = [] ∨ B.getD 0 0 / 64 ≠ 2 ∨ ∃ A' c, A = A' ++ [c] ∧ c < 128 := by
    rcases h with h | h
    · exact absurd h hA
    · exact h
  have last : ∀ (P : List Nat) (x : Nat), A = P ++ [x] → (B = [] ∨ B.getD 0 0 / 64 ≠ 2 ∨ x < 128) := by
    intro P x e
    rcases h' with h | h | ⟨A', c, e2, hc⟩
    · exact .inl h
    · exact .inr (.inl h)
    · rw [e] at e2
      have := (List.append_inj' e2 rfl).2
      simp at this
      exact .inr (.inr (by omega))
  match A, hA, last with
  | [x], _, last => exact wd_one x B (last [] x rfl)
  | [x, y], _, last => exact wd_two x y B (last [x] y rfl)
  | [x, y, z], _, last => exact wd_three x y z B (last [x, y] z rfl)
  | x :: y :: z :: u :: t, _, _ =>
    unfold wd
    simp only [List.cons_append, List.getD_cons_succ, List.getD_cons_zero]
    exact wdf_many _ _ _ _ _ _ (by simp) (by simp)

theorem sep_drop (A B : List Nat) (k : Nat) (h : Sep A B) : Sep (A.drop k) B := by
  rcases h with rfl | h | h | ⟨A', c, rfl, hc⟩
  · exact .inl (by simp)
  · exact .inr (.inl h)
  · exact .inr (.inr (.inl h))
  · by_cases hk : k ≤ A'.length
    · exact .inr (.inr (.inr ⟨A'.drop k, c, by rw [List.drop_append_of_le_length hk], hc⟩))
    · exact .inl (List.drop_eq_nil_of_le (by simp; omega))

/-! ### What is reckoned step by step -/

def fold {α : Type} (g : α → Nat → α) : Nat → List Nat → α → α
  | 0, _, s => s
  | _ + 1, [], s => s
  | f + 1, b :: t, s => fold g f ((b :: t).drop (wd (b :: t))) (g s b)

theorem fold_nil {α : Type} (g : α → Nat → α) (f : Nat) (s : α) : fold g f [] s = s := by cases f <;> rfl

theorem fold_fuel {α : Type} (g : α → Nat → α) : ∀ (f f' : Nat) (l : List Nat) (s : α), l.length ≤ f → l.length ≤ f' → fold g f l s = fold g f' l s := by
  intro f
  induction f with
  | zero =>
    intro f' l s h _
    have : l = [] := List.eq_nil_of_length_eq_zero (by omega)
    subst this
    rw [fold_nil, fold_nil]
  | succ f ih =>
    intro f' l s h h'
    cases l with
    | nil => rw [fold_nil, fold_nil]
    | cons b t =>
      cases f' with
      | zero => simp at h'
      | succ f' =>
        have hp := wd_pos (b :: t)
        have hd : ((b :: t).drop (wd (b :: t))).length ≤ t.length := by simp; omega
        simp only [List.length_cons] at h h'
        exact ih f' _ _ (by omega) (by omega)

/-- THE STEPS OVER A LIST. -/
def F {α : Type} (g : α → Nat → α) (l : List Nat) (s : α) : α := fold g l.length l s

theorem F_nil {α : Type} (g : α → Nat → α) (s : α) : F g [] s = s := rfl
theorem F_step {α : Type} (g : α → Nat → α) (l : List Nat) (s : α) (h : l ≠ []) : F g l s = F g (l.drop (wd l)) (g s (l.getD 0 0)) := by
  cases l with
  | nil => exact absurd rfl h
  | cons b t =>
    have hp := wd_pos (b :: t)
    show fold g t.length ((b :: t).drop (wd (b :: t))) (g s b) = fold g _ _ (g s b)
    exact fold_fuel g _ _ _ _ (by simp; omega) (Nat.le_refl _)

theorem F_app {α : Type} (g : α → Nat → α) (B : List Nat) : ∀ (n : Nat) (A : List Nat) (s : α), A.length ≤ n → Sep A B → F g (A ++ B) s = F g B (F g A s) := by
  intro n
  induction n with
  | zero =>
    intro A s h _
    have : A = [] := List.eq_nil_of_length_eq_zero (by omega)
    subst this; rfl
  | succ n ih =>
    intro A s h hs
    by_cases hA : A = []
    · subst hA; rfl
    · have hw := wd_app A B hA hs
      have hl := wd_le A hA
      have hp := wd_pos A
      have hAl : 0 < A.length := by cases A with | nil => exact absurd rfl hA | cons => simp
      rw [F_step g (A ++ B) s (by simp [hA]), F_step g A s hA, hw, List.drop_append_of_le_length hl]
      have e0 : (A ++ B).getD 0 0 = A.getD 0 0 := by simp [List.getD, List.getElem?_append_left hAl]
      rw [e0]
      exact ih _ _ (by simp; omega) (sep_drop A B _ hs)

/-! ### What 'advance' counts, and what the law asks -/

def wrap (n : Int) : Int := (n + 9223372036854775808) % 18446744073709551616 - 9223372036854775808

/-- One rune: a line break raises the row and sets the column back; any other raises the column. -/
def adv (st : Int × Int) (b : Nat) : Int × Int := if b = 10 then (wrap (st.1 + 1), 1) else (st.1, wrap (st.2 + 1))
def cnt (k : Nat) (_ : Nat) : Nat := k + 1
def lines (l : List Nat) : Nat := l.countP (· == 10)

theorem cnt_acc : ∀ (n : Nat) (l : List Nat) (k : Nat), l.length ≤ n → F cnt l k = k + F cnt l 0 := by
  intro n
  induction n with
  | zero =>
    intro l k h
    have : l = [] := List.eq_nil_of_length_eq_zero (by omega)
    subst this; rfl
  | succ n ih =>
    intro l k h
    by_cases hl : l = []
    · subst hl; rfl
    · have hp := wd_pos l
      have h0 : 0 < l.length := by cases l with | nil => exact absurd rfl hl | cons => simp
      rw [F_step cnt l k hl, F_step cnt l 0 hl, ih _ _ (by simp; omega), ih _ (cnt 0 _) (by simp; omega)]
      simp [cnt]; omega

theorem cnt_le : ∀ (n : Nat) (l : List Nat), l.length ≤ n → F cnt l 0 ≤ l.length := by
  intro n
  induction n with
  | zero =>
    intro l h
    have : l = [] := List.eq_nil_of_length_eq_zero (by omega)
    subst this; exact Nat.le_refl _
  | succ n ih =>
    intro l h
    by_cases hl : l = []
    · subst hl; exact Nat.le_refl _
    · have hp := wd_pos l
      have h0 : 0 < l.length := by cases l with | nil => exact absurd rfl hl | cons => simp
      have h1 := ih (l.drop (wd l)) (by simp; omega)
      rw [F_step cnt l 0 hl, cnt_acc n _ _ (by simp; omega)]
      simp [cnt] at *; omega

/-- No line break: the row stays, the column rises by the number of steps. -/
theorem adv_free : ∀ (n : Nat) (l : List Nat) (r c : Int), l.length ≤ n → (∀ j, j < l.length → l.getD j 0 ≠ 10) → c = wrap c → F adv l (r, c) = (r, wrap (c + F cnt l 0)) := by
  intro n
  induction n with
  | zero =>
    intro l r c h _ hc
    have : l = [] := List.eq_nil_of_length_eq_zero (by omega)
    subst this
    show (r, c) = (r, wrap (c + (0 : Nat)))
    simp [← hc]
  | succ n ih =>
    intro l r c h hf hc
    by_cases hl : l = []
    · subst hl
      show (r, c) = (r, wrap (c + (0 : Nat)))
      simp [← hc]
    · have hp := wd_pos l
      have h0 : 0 < l.length := by cases l with | nil => exact absurd rfl hl | cons => simp
      rw [F_step adv l _ hl, F_step cnt l 0 hl]
      have hb : adv (r, c) (l.getD 0 0) = (r, wrap (c + 1)) := by unfold adv; rw [if_neg (hf 0 h0)]
      rw [hb, ih _ r (wrap (c + 1)) (by simp; omega) (fun j hj => by
        have := hf (wd l + j) (by simp at hj; omega)
        simpa [List.getD] using this) (by unfold wrap; omega), cnt_acc n _ (cnt 0 _) (by simp; omega)]
      have e : wrap (wrap (c + 1) + (F cnt (l.drop (wd l)) 0 : Nat)) = wrap (c + ((cnt 0 (l.getD 0 0) + F cnt (l.drop (wd l)) 0 : Nat) : Int)) := by
        unfold wrap cnt; omega
      rw [e]

theorem lines_drop (l : List Nat) (hl : l ≠ []) : lines l = (if l.getD 0 0 = 10 then 1 else 0) + lines (l.drop (wd l)) := by
  cases l with
  | nil => exact absurd rfl hl
  | cons b t =>
    have hw := wd_le (b :: t) (by simp)
    have hp := wd_pos (b :: t)
    obtain ⟨k, hk⟩ : ∃ k, wd (b :: t) = k + 1 := ⟨wd (b :: t) - 1, by omega⟩
    have hh : ∀ j, j < k → 128 ≤ t.getD j 0 := fun j hj => by
      have := wd_high (b :: t) (j + 1) (by omega) (by omega)
      simpa using this
    rw [hk, List.drop_succ_cons]
    have e : lines t = lines (t.drop k) := by
      have e1 : t = t.take k ++ t.drop k := (List.take_append_drop k t).symm
      have e2 : lines (t.take k) = 0 := by
        unfold lines
        rw [List.countP_eq_zero]
        intro a ha
        obtain ⟨j, hj, rfl⟩ := List.getElem_of_mem ha
        rw [hk] at hw
        simp at hj hw
        have := hh j (by omega)
        simp [List.getD, show j < t.length by omega] at this
        simp; omega
      conv => lhs; rw [e1]
      unfold lines at *
      rw [List.countP_append, e2]; omega
    show lines (b :: t) = _
    unfold lines at *
    rw [List.countP_cons, e]
    simp
    omega

theorem adv_rows : ∀ (n : Nat) (l : List Nat) (r c : Int), l.length ≤ n → r = wrap r → (F adv l (r, c)).1 = wrap (r + lines l) := by
  intro n
  induction n with
  | zero =>
    intro l r c h hr
    have : l = [] := List.eq_nil_of_length_eq_zero (by omega)
    subst this
    show r = wrap (r + (0 : Nat))
    simp [← hr]
  | succ n ih =>
    intro l r c h hr
    by_cases hl : l = []
    · subst hl
      show r = wrap (r + (0 : Nat))
      simp [← hr]
    · have hp := wd_pos l
      have h0 : 0 < l.length := by cases l with | nil => exact absurd rfl hl | cons => simp
      rw [F_step adv l _ hl, lines_drop l hl]
      by_cases hb : l.getD 0 0 = 10
      · have e : adv (r, c) (l.getD 0 0) = (wrap (r + 1), 1) := by unfold adv; rw [if_pos hb]
        rw [e, ih _ _ _ (by simp; omega) (by unfold wrap; omega), if_pos hb]
        unfold wrap; omega
      · have e : adv (r, c) (l.getD 0 0) = (r, wrap (c + 1)) := by unfold adv; rw [if_neg hb]
        rw [e, ih _ _ _ (by simp; omega) hr, if_neg hb]
        simp

/-- THE LAW's OWN ANSWER: p: one behind the last line break, 0 where there is none. -/
theorem adv_all (l : List Nat) (p : Nat) (r c : Int) (hp : p ≤ l.length) (h10 : 0 < p → l.getD (p - 1) 0 = 10) (hf : ∀ j, p ≤ j → j < l.length → l.getD j 0 ≠ 10) (hr : r = wrap r) (hc : c = wrap c) :
    F adv l (r, c) = (wrap (r + lines l), if 0 < p then wrap (1 + F cnt (l.drop p) 0) else wrap (c + F cnt (l.drop p) 0)) := by
  have hrow := adv_rows _ l r c (Nat.le_refl _) hr
  have hfree : ∀ j, j < (l.drop p).length → (l.drop p).getD j 0 ≠ 10 := fun j hj => by
    have := hf (p + j) (by omega) (by simp at hj; omega)
    simpa [List.getD] using this
  by_cases h0 : 0 < p
  · have e1 : l.take p = l.take (p - 1) ++ [10] := by
      obtain ⟨q, rfl⟩ : ∃ q, p = q + 1 := ⟨p - 1, by omega⟩
      rw [List.take_succ_eq_append_getElem (by omega)]
      have := h10 (by omega)
      simp [List.getD, show q < l.length by omega] at this
      simp [this]
    have e2 : l = l.take p ++ l.drop p := (List.take_append_drop p l).symm
    have a1 : F adv l (r, c) = F adv (l.drop p) (F adv (l.take p) (r, c)) := by
      conv => lhs; rw [e2]
      exact F_app adv _ _ _ _ (Nat.le_refl _) (.inr (.inr (.inr ⟨_, 10, e1, by omega⟩)))
    have a2 : F adv (l.take p) (r, c) = F adv [10] (F adv (l.take (p - 1)) (r, c)) := by
      rw [e1]
      exact F_app adv _ _ _ _ (Nat.le_refl _) (.inr (.inr (.inl (by simp))))
    obtain ⟨st, hst⟩ : ∃ st, st = F adv (l.take (p - 1)) (r, c) := ⟨_, rfl⟩
    rw [← hst] at a2
    have a3 : F adv [10] st = (wrap (st.1 + 1), 1) := by
      rw [F_step adv [10] _ (by simp)]
      have : ([10] : List Nat).drop (wd [10]) = [] := List.drop_eq_nil_of_le (by simpa using wd_pos [10])
      rw [this, F_nil]; rfl
    rw [a2, a3] at a1
    rw [a1, adv_free _ _ _ _ (Nat.le_refl _) hfree (by decide)] at hrow ⊢
    rw [if_pos h0]
    exact Prod.ext hrow rfl
  · have hp0 : p = 0 := by omega
    subst hp0
    simp only [List.drop_zero] at *
    have := adv_free _ l r c (Nat.le_refl _) hfree hc
    rw [this] at hrow ⊢
    simp only [Nat.lt_irrefl, if_false]
    exact Prod.ext hrow rfl
end Go.Proofs.Qxb6623507a.Plain
