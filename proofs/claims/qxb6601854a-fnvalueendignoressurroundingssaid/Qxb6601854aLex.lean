import Derived.Test.Qxb6601854aShift
namespace Go.Proofs.Qxb6601854a

def isOpen (c : Int) : Bool := c == 34 || c == 123 || c == 91
def isDelim (c : Int) : Bool := c == 32 || c == 9 || c == 13 || c == 10 || c == 44 || c == 93 || c == 125

/-- The one-pass lexer on what is left: depth d, state st (0 outside a string, 1 inside, 2 behind a backslash), place j: where the value ends. -/
def lexJ : List Int → Int → Nat → Nat → Option Nat
  | [], _, _, _ => none
  | b :: r, d, st, j =>
    if st = 2 then lexJ r d 1 (j + 1)
    else if st = 1 then
      if b = 92 then lexJ r d 2 (j + 1)
      else if b = 34 then (if d = 0 then some (j + 1) else lexJ r d 0 (j + 1))
      else lexJ r d 1 (j + 1)
    else if b = 34 then lexJ r d 1 (j + 1)
    else if b = 123 ∨ b = 91 then lexJ r (d + 1) 0 (j + 1)
    else if b = 125 ∨ b = 93 then (if d - 1 = 0 then some (j + 1) else lexJ r (d - 1) 0 (j + 1))
    else lexJ r d 0 (j + 1)

theorem lexJ_app (r m : List Int) : ∀ (d : Int) (st j e : Nat), lexJ r d st j = some e → lexJ (r ++ m) d st j = some e := by
  induction r with
  | nil => intro d st j e h; simp [lexJ] at h
  | cons b r ih =>
    intro d st j e h
    simp only [List.cons_append, lexJ] at h ⊢
    repeat' split at h
    all_goals simp_all

theorem lexJ_shift (r : List Int) (p : Nat) : ∀ (d : Int) (st j e : Nat), lexJ r d st j = some e → lexJ r d st (p + j) = some (p + e) := by
  induction r with
  | nil => intro d st j e h; simp [lexJ] at h
  | cons b r ih =>
    intro d st j e h
    simp only [lexJ] at h ⊢
    repeat' split at h
    all_goals simp_all
    all_goals first | (have := ih _ _ _ _ h; rw [← this, Nat.add_assoc]) | omega

theorem lexJ_le (r : List Int) : ∀ (d : Int) (st j e : Nat), lexJ r d st j = some e → j < e ∧ e ≤ j + r.length := by
  induction r with
  | nil => intro d st j e h; simp [lexJ] at h
  | cons b r ih =>
    intro d st j e h
    simp only [lexJ] at h
    simp only [List.length_cons]
    repeat' split at h
    all_goals first | (have := ih _ _ _ _ h; omega) | (simp at h; omega)

/-- The end of a string inside a group: the string by itself ends somewhere, and the group goes on from there. -/
theorem lexJ_str (l : List Int) (d : Int) (hd : d ≠ 0) (n : Nat) : ∀ (st k e : Nat), l.length - k = n → (st = 1 ∨ st = 2) → lexJ (l.drop k) d st k = some e →
    ∃ e', k < e' ∧ e' ≤ l.length ∧ lexJ (l.drop k) 0 st k = some e' ∧ lexJ (l.drop e') d 0 e' = some e := by
  induction n with
  | zero =>
    intro st k e hn hst h
    rw [List.drop_of_length_le (by omega)] at h
    simp [lexJ] at h
  | succ n ih =>
    intro st k e hn hst h
    have hk : k < l.length := by omega
    rw [drop_cons l k hk] at h ⊢
    simp only [lexJ] at h ⊢
    rcases hst with rfl | rfl
    · simp only [show ¬ (1 = 2) from by decide, if_false, if_true] at h ⊢
      by_cases h92 : l.getD k 0 = 92
      · rw [if_pos h92] at h ⊢
        obtain ⟨e', h1, h2, h3, h4⟩ := ih 2 (k + 1) e (by omega) (.inr rfl) h
        exact ⟨e', by omega, h2, h3, h4⟩
      · rw [if_neg h92] at h ⊢
        by_cases h34 : l.getD k 0 = 34
        · rw [if_pos h34, if_neg hd] at h
          rw [if_pos h34]
          exact ⟨k + 1, by omega, by omega, by simp, h⟩
        · rw [if_neg h34] at h ⊢
          obtain ⟨e', h1, h2, h3, h4⟩ := ih 1 (k + 1) e (by omega) (.inl rfl) h
          exact ⟨e', by omega, h2, h3, h4⟩
    · simp only [if_true] at h ⊢
      obtain ⟨e', h1, h2, h3, h4⟩ := ih 1 (k + 1) e (by omega) (.inl rfl) h
      exact ⟨e', by omega, h2, h3, h4⟩

/-! One step at a place. -/
theorem lex_none (l : List Int) (d : Int) (st k : Nat) (h : l.length ≤ k) : lexJ (l.drop k) d st k = none := by
  rw [List.drop_of_length_le h]; rfl
theorem lex_s2 (l : List Int) (d : Int) (k : Nat) (h : k < l.length) : lexJ (l.drop k) d 2 k = lexJ (l.drop (k + 1)) d 1 (k + 1) := by
  rw [drop_cons l k h]; simp [lexJ]
theorem lex_s1_bs (l : List Int) (d : Int) (k : Nat) (h : k < l.length) (hb : l.getD k 0 = 92) : lexJ (l.drop k) d 1 k = lexJ (l.drop (k + 1)) d 2 (k + 1) := by
  rw [drop_cons l k h, hb]; simp [lexJ]
theorem lex_s1_q0 (l : List Int) (k : Nat) (h : k < l.length) (hb : l.getD k 0 = 34) : lexJ (l.drop k) 0 1 k = some (k + 1) := by
  rw [drop_cons l k h, hb]; simp [lexJ]
theorem lex_s1_q (l : List Int) (d : Int) (hd : d ≠ 0) (k : Nat) (h : k < l.length) (hb : l.getD k 0 = 34) : lexJ (l.drop k) d 1 k = lexJ (l.drop (k + 1)) d 0 (k + 1) := by
  rw [drop_cons l k h, hb]; simp [lexJ, hd]
theorem lex_s1_o (l : List Int) (d : Int) (k : Nat) (h : k < l.length) (h1 : l.getD k 0 ≠ 92) (h2 : l.getD k 0 ≠ 34) : lexJ (l.drop k) d 1 k = lexJ (l.drop (k + 1)) d 1 (k + 1) := by
  rw [drop_cons l k h]; simp only [lexJ]; rw [if_neg (by decide), if_pos trivial, if_neg h1, if_neg h2]
theorem lex_s0_q (l : List Int) (d : Int) (k : Nat) (h : k < l.length) (hb : l.getD k 0 = 34) : lexJ (l.drop k) d 0 k = lexJ (l.drop (k + 1)) d 1 (k + 1) := by
  rw [drop_cons l k h, hb]; simp [lexJ]
theorem lex_s0_up (l : List Int) (d : Int) (k : Nat) (h : k < l.length) (hb : l.getD k 0 = 123 ∨ l.getD k 0 = 91) : lexJ (l.drop k) d 0 k = lexJ (l.drop (k + 1)) (d + 1) 0 (k + 1) := by
  rw [drop_cons l k h]; simp only [lexJ]; rw [if_neg (by decide), if_neg (by decide), if_neg (by omega), if_pos hb]
theorem lex_s0_out (l : List Int) (d : Int) (k : Nat) (h : k < l.length) (hb : l.getD k 0 = 125 ∨ l.getD k 0 = 93) (hd : d - 1 = 0) : lexJ (l.drop k) d 0 k = some (k + 1) := by
  rw [drop_cons l k h]; simp only [lexJ]; rw [if_neg (by decide), if_neg (by decide), if_neg (by omega), if_neg (by omega), if_pos hb, if_pos hd]
theorem lex_s0_down (l : List Int) (d : Int) (k : Nat) (h : k < l.length) (hb : l.getD k 0 = 125 ∨ l.getD k 0 = 93) (hd : d - 1 ≠ 0) : lexJ (l.drop k) d 0 k = lexJ (l.drop (k + 1)) (d - 1) 0 (k + 1) := by
  rw [drop_cons l k h]; simp only [lexJ]; rw [if_neg (by decide), if_neg (by decide), if_neg (by omega), if_neg (by omega), if_pos hb, if_neg hd]
theorem lex_s0_o (l : List Int) (d : Int) (k : Nat) (h : k < l.length) (h1 : l.getD k 0 ≠ 34) (h2 : ¬ (l.getD k 0 = 123 ∨ l.getD k 0 = 91)) (h3 : ¬ (l.getD k 0 = 125 ∨ l.getD k 0 = 93)) : lexJ (l.drop k) d 0 k = lexJ (l.drop (k + 1)) d 0 (k + 1) := by
  rw [drop_cons l k h]; simp only [lexJ]; rw [if_neg (by decide), if_neg (by decide), if_neg h1, if_neg h2, if_neg h3]

/-! The plain scan. -/
def scanN (l : List Int) (i : Nat) : Nat := i + ((l.drop i).takeWhile (fun c => !isDelim c)).length
theorem scanN_step {l : List Int} {i : Nat} (h : i < l.length) (hs : isDelim (l.getD i 0) = false) : scanN l i = scanN l (i + 1) := by
  unfold scanN
  rw [drop_cons l i h, List.takeWhile_cons_of_pos (by rw [hs]; rfl)]; simp; omega
theorem scanN_no {l : List Int} {i : Nat} (h : i < l.length) (hs : isDelim (l.getD i 0) = true) : scanN l i = i := by
  unfold scanN
  rw [drop_cons l i h, List.takeWhile_cons_of_neg (by rw [hs]; decide)]; simp
theorem scanN_end {l : List Int} {i : Nat} (h : l.length ≤ i) : scanN l i = i := by
  unfold scanN
  rw [List.drop_of_length_le h]; simp
theorem scanN_ge (l : List Int) (i : Nat) : i ≤ scanN l i := by unfold scanN; omega
theorem scanN_le {l : List Int} {i : Nat} (h : i ≤ l.length) : scanN l i ≤ l.length := by
  unfold scanN
  have := (List.takeWhile_prefix (l := l.drop i) (fun c => !isDelim c)).length_le
  simp at this; omega
theorem scanN_pre (p l : List Int) (i : Nat) : scanN (p ++ l) (p.length + i) = p.length + scanN l i := by
  unfold scanN
  have e : (p ++ l).drop (p.length + i) = l.drop i := by
    rw [← List.drop_drop, List.drop_left]
  rw [e]; omega
theorem scanN_post (l m : List Int) (n : Nat) : ∀ i, l.length - i = n → i ≤ l.length → (scanN l i = l.length → m = [] ∨ isDelim (m.getD 0 0) = true) → scanN (l ++ m) i = scanN l i := by
  induction n with
  | zero =>
    intro i hn hi hm
    have hil : i = l.length := by omega
    subst hil
    rw [scanN_end (Nat.le_refl _)] at hm ⊢
    rcases hm rfl with h | h
    · subst h; rw [List.append_nil]; exact scanN_end (Nat.le_refl _)
    · by_cases hm0 : m = []
      · subst hm0; rw [List.append_nil]; exact scanN_end (Nat.le_refl _)
      · have hpos : 0 < m.length := List.length_pos_iff.2 hm0
        refine scanN_no (by simp; omega) ?_
        have := getD_app_right l m 0
        simp only [Nat.add_zero] at this
        rw [this]; exact h
  | succ n ih =>
    intro i hn hi hm
    have hlt : i < l.length := by omega
    cases hd : isDelim (l.getD i 0) with
    | true => rw [scanN_no hlt hd]; exact scanN_no (by simp; omega) (by rw [getD_app_left _ _ _ hlt]; exact hd)
    | false =>
      rw [scanN_step hlt hd] at hm ⊢
      rw [scanN_step (l := l ++ m) (i := i) (by simp; omega) (by rw [getD_app_left _ _ _ hlt]; exact hd)]
      exact ih (i + 1) (by omega) (by omega) hm

/-! The two laws: the surroundings do not count. -/
theorem drop_whole (p l m : List Int) (i : Nat) (h : i ≤ l.length) : (p ++ (l ++ m)).drop (p.length + i) = l.drop i ++ m := by
  rw [← List.drop_drop, List.drop_left, List.drop_append_of_le_length h]
theorem lex_whole (p l m : List Int) (i e : Nat) (h : i ≤ l.length) (he : lexJ (l.drop i) 0 0 i = some e) : lexJ ((p ++ (l ++ m)).drop (p.length + i)) 0 0 (p.length + i) = some (p.length + e) := by
  rw [drop_whole p l m i h]
  exact lexJ_app _ _ _ _ _ _ (lexJ_shift _ _ _ _ _ _ he)
theorem scan_whole (p l m : List Int) (i : Nat) (h : i ≤ l.length) (hm : scanN l i = l.length → m = [] ∨ isDelim (m.getD 0 0) = true) : scanN (p ++ (l ++ m)) (p.length + i) = p.length + scanN l i := by
  rw [scanN_pre, scanN_post l m _ i rfl h hm]
theorem getD_whole (p l m : List Int) (i : Nat) (h : i < l.length) : (p ++ (l ++ m)).getD (p.length + i) 0 = l.getD i 0 := by
  rw [getD_app_right, getD_app_left _ _ _ h]
end Go.Proofs.Qxb6601854a
